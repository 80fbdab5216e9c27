import JvmDerived
import JvmDerived.Pilot.@@N@@Statement
import JvmDerived.Pilot.@@N@@Code
set_option linter.unusedVariables false
set_option linter.unusedSimpArgs false
/- laws to paste: Road.backV (cut by pick.py; bodies as the Statement names them) -/
namespace Jvm.Pilot.@@N@@
namespace StrChars
open Jvm Sem ClassFile Op Lib Jvm.Stand Jvm.Free.XT Jvm.Free.ALB Jvm.Free.JM Jvm.Free
open Jvm.Lib.Cold (StaticIs)
/-- a char array whose places are chars -/
def Ch (a : Addr) (A : Cell) (U : State) : Prop := Arr .char a A U ∧ Typed .char A
theorem Ch.mv {a : Addr} {A : Cell} {U U' : State} (h : Ch a A U) (hal : U.vm.Alike U'.vm) (hh : U'.heap = U.heap) : Ch a A U' := ⟨h.1.mv hal hh, h.2⟩
theorem Ch.keep {a : Addr} {A : Cell} {U U' : State} (h : Ch a A U) (hal : U.vm.Alike U'.vm) (hk : U'.heap[a]? = some A) : Ch a A U' := ⟨h.1.keep hal hk, h.2⟩
/-- what place i of a char[]'s cell holds -/
def cv (A : Cell) (i : Nat) : Int32 := match A.slots[i]? with | some (.int x) => x | _ => 0
theorem Ch.get {a : Addr} {A : Cell} {U : State} (h : Ch a A U) {i : Nat} (hi : i < A.slots.size) : A.slots[i]? = some (.int (cv A i)) := by
  have e := Array.getElem?_eq_getElem hi
  have f := h.2 i _ e
  unfold cv; rw [e]
  generalize A.slots[i] = v at f
  cases v <;> simp [fits] at f ⊢
/-- the byte that i2b leaves of a char -/
def lo8 (x : Int32) : Int32 := x.toInt8.toInt32
theorem fits_lo8 (y : Int32) : fits .byte (.int (lo8 y)) = true := by
  have h1 := y.toInt8.le_toInt
  have h2 := y.toInt8.toInt_lt
  simp only [lo8, fits, Bool.and_eq_true, decide_eq_true_eq, Int32.le_iff_toInt_le, Int8.toInt_toInt32, show (-128 : Int32).toInt = -128 from by decide, show (127 : Int32).toInt = 127 from by decide]
  omega
/-- A' is A but that each place j of lo .. hi - 1 holds f j -/
def Laid (A A' : Cell) (lo hi : Nat) (f : Nat → Value) : Prop := A'.cls = A.cls ∧ A'.vm = A.vm ∧ A'.slots.size = A.slots.size ∧ ∀ i, A'.slots[i]? = if lo ≤ i ∧ i < hi then some (f i) else A.slots[i]?
theorem Laid.zero (A : Cell) (lo : Nat) (f : Nat → Value) : Laid A A lo (lo + 0) f := ⟨rfl, rfl, rfl, fun i => by rw [if_neg (by omega)]⟩
theorem Laid.step {A Ak : Cell} {lo k : Nat} {f : Nat → Value} {v : Value} (h : Laid A Ak lo k f) (hlo : lo ≤ k) (hk : k < Ak.slots.size) (hv : v = f k) : Laid A (Ak.setSlot k v) lo (k + 1) f := by
  refine ⟨h.1, h.2.1, by simpa [Cell.setSlot] using h.2.2.1, fun i => ?_⟩
  by_cases e : k = i
  · subst e; rw [Cell.slots_setSlot_self v hk, if_pos (by omega), hv]
  · rw [Cell.slots_setSlot_ne v e, h.2.2.2 i]
    by_cases q : lo ≤ i ∧ i < k
    · rw [if_pos q, if_pos (by omega)]
    · rw [if_neg q, if_neg (by omega)]
def U16 : String := "java/lang/StringUTF16"
namespace Cmp5
def yN : MethodName := ⟨"java/lang/StringUTF16", "compress", "([CI[BII)I"⟩
abbrev yB : ByteArray := jdk_52_method_21_code
theorem d0 : decode yB 0 = .ok (.iconst 0, 1) := by decide +kernel
theorem d1 : decode yB 1 = .ok (.istore 5, 2) := by decide +kernel
theorem d3 : decode yB 3 = .ok (.iload 5, 2) := by decide +kernel
theorem d5 : decode yB 5 = .ok (.iload 4, 2) := by decide +kernel
theorem d7 : decode yB 7 = .ok (.if_icmp (.ge) 37, 3) := by decide +kernel
theorem d10 : decode yB 10 = .ok (.aload_n 0, 1) := by decide +kernel
theorem d11 : decode yB 11 = .ok (.iload_n 1, 1) := by decide +kernel
theorem d12 : decode yB 12 = .ok (.caload, 1) := by decide +kernel
theorem d13 : decode yB 13 = .ok (.istore 6, 2) := by decide +kernel
theorem d15 : decode yB 15 = .ok (.iload 6, 2) := by decide +kernel
theorem d17 : decode yB 17 = .ok (.sipush 255, 3) := by decide +kernel
theorem d20 : decode yB 20 = .ok (.if_icmp (.le) 6, 3) := by decide +kernel
theorem d26 : decode yB 26 = .ok (.aload_n 2, 1) := by decide +kernel
theorem d27 : decode yB 27 = .ok (.iload_n 3, 1) := by decide +kernel
theorem d28 : decode yB 28 = .ok (.iload 6, 2) := by decide +kernel
theorem d30 : decode yB 30 = .ok (.i2b, 1) := by decide +kernel
theorem d31 : decode yB 31 = .ok (.bastore, 1) := by decide +kernel
theorem d32 : decode yB 32 = .ok (.iinc 1 1, 3) := by decide +kernel
theorem d35 : decode yB 35 = .ok (.iinc 3 1, 3) := by decide +kernel
theorem d38 : decode yB 38 = .ok (.iinc 5 1, 3) := by decide +kernel
theorem d41 : decode yB 41 = .ok (.goto (-38), 3) := by decide +kernel
theorem d44 : decode yB 44 = .ok (.iload 4, 2) := by decide +kernel
theorem d46 : decode yB 46 = .ok (.ireturn, 1) := by decide +kernel
def site : List Cond := []
def tab : Cond := tabOf yN yB 7 (some .int) site
def P (b : Addr) (A : Cell) (d : Addr) (B : Cell) (o q len : Nat) (args : Array Value) (s : State) : Prop := args = #[.ref b, .int (Int32.ofNat o), .ref d, .int (Int32.ofNat q), .int (Int32.ofNat len)] ∧ Ch b A s ∧ Arr .byte d B s ∧ b ≠ d ∧ o + len ≤ A.slots.size ∧ q + len ≤ B.slots.size ∧ ∀ i, i < len → ¬ 255 < cv A (o + i)
def E (b : Addr) (A : Cell) (d : Addr) (B : Cell) (o q len : Nat) (r : Option Value) (s u : State) : Prop := r = some (.int (Int32.ofNat len)) ∧ ∃ B', Put d B' s u ∧ Laid B B' q (q + len) (fun j => Value.int (lo8 (cv A (o + (j - q)))))
/-- no char of the range above 255: len; the places written hold each char's low byte -/
theorem law (l : Launch) (b : Addr) (A : Cell) (d : Addr) (B : Cell) (o q len : Nat) : Law l yN 5 5 0 0 yB 7 (some .int) site (P b A d B o q len) (E b A d B o q len) (copyLocs d q len) 0 0 := by
  refine Law.of_walk (plainFor_of_name (by decide +kernel)) (by decide +kernel) (by decide +kernel) (by decide) (fun _ _ h => by rw [h.1]; rfl) (fun _ U U' hal hh h => ⟨h.1, h.2.1.mv hal hh, h.2.2.1.mv hal hh, h.2.2.2⟩) (fun r U U' V V' h1 hal h2 h => ⟨h.1, h.2.elim fun B' q => ⟨B', q.1.mv h1 h2, q.2⟩⟩) ?_
  intro p e s m args below meth c s₁ X0 hexec hbytes hml hret hlk hnm hown hh0 W hP
  obtain ⟨rfl, hA, hB, hne, l1, l2, hp⟩ := hP
  have c1 : Steps p.tables e below (s₁.setTop (entryFrame m #[.ref b, .int (Int32.ofNat o), .ref d, .int (Int32.ofNat q), .int (Int32.ofNat len)] 7)) (s₁.setTop (mkF m 0 #[.val (.ref b), .val (.int (Int32.ofNat o)), .val (.ref d), .val (.int (Int32.ofNat q)), .val (.int (Int32.ofNat len)), .unset, .unset] [])) := entry rfl
  have hA0 := hA.1.mv X0.warmed.alike hh0
  have hB0 := hB.mv X0.warmed.alike hh0
  have a31 := hA.1.2.2.2
  have c2 : Steps p.tables e below (s₁.setTop (entryFrame m #[.ref b, .int (Int32.ofNat o), .ref d, .int (Int32.ofNat q), .int (Int32.ofNat len)] 7)) (s₁.setTop (mkF m 3 #[.val (.ref b), .val (.int (Int32.ofNat o)), .val (.ref d), .val (.int (Int32.ofNat q)), .val (.int (Int32.ofNat len)), .val (.int 0), .unset] [])) := c1.trans (by
    refine iconstV X0.here hexec rfl 0 (hb hbytes d0) (by decide) ?_
    refine XS.istore X0.here hexec rfl (hb hbytes d1) rfl rfl ?_
    exact Steps.refl _)
  have loop : ∀ (r i : Nat), i + r = len → ∀ (z : Slot), (z = .unset ∨ ∃ w, z = .val w ∧ w.category = 1) → ∀ (Tl : State) (Bk : Cell), Stand p l e { frames := 0, locals := 0, cells := 0, slots := 0 } s m #[.ref b, .int (Int32.ofNat o), .ref d, .int (Int32.ofNat q), .int (Int32.ofNat len)] below meth c Tl ([] ++ copyLocs d q i) 0 0 → Put d Bk s₁ Tl → Laid B Bk q (q + i) (fun j => Value.int (lo8 (cv A (o + (j - q))))) →
      Steps p.tables e below (s₁.setTop (entryFrame m #[.ref b, .int (Int32.ofNat o), .ref d, .int (Int32.ofNat q), .int (Int32.ofNat len)] 7)) (Tl.setTop (mkF m 3 #[.val (.ref b), .val (.int (Int32.ofNat (o + i))), .val (.ref d), .val (.int (Int32.ofNat (q + i))), .val (.int (Int32.ofNat len)), .val (.int (Int32.ofNat i)), z] [])) → ∃ (T' : State) (B' : Cell) (z' : Slot), Stand p l e { frames := 0, locals := 0, cells := 0, slots := 0 } s m #[.ref b, .int (Int32.ofNat o), .ref d, .int (Int32.ofNat q), .int (Int32.ofNat len)] below meth c T' ([] ++ copyLocs d q len) 0 0 ∧ Put d B' s₁ T' ∧ Laid B B' q (q + len) (fun j => Value.int (lo8 (cv A (o + (j - q))))) ∧
      Steps p.tables e below (s₁.setTop (entryFrame m #[.ref b, .int (Int32.ofNat o), .ref d, .int (Int32.ofNat q), .int (Int32.ofNat len)] 7)) (T'.setTop (mkF m 3 #[.val (.ref b), .val (.int (Int32.ofNat (o + len))), .val (.ref d), .val (.int (Int32.ofNat (q + len))), .val (.int (Int32.ofNat len)), .val (.int (Int32.ofNat len)), z'] [])) := by
    intro r
    induction r with
    | zero =>
      intro i hi z hz Tl Bk Xl pl fl cl
      have hil : i = len := by omega
      rw [hil] at Xl fl cl
      exact ⟨Tl, Bk, z, Xl, pl, fl, cl⟩
    | succ r ih =>
      intro i hi z hz Tl Bk Xl pl fl cl
      have all := X0.warmed.alike.symm.trans Xl.warmed.alike
      have hAl := hA0.keep all (pl.other hne hA0.1)
      have hBk := hB0.like all pl.1 fl.1 fl.2.1 fl.2.2.1
      have hlt : q + i < Bk.slots.size := by rw [fl.2.2.1]; omega
      have c3 : Steps p.tables e below (s₁.setTop (entryFrame m #[.ref b, .int (Int32.ofNat o), .ref d, .int (Int32.ofNat q), .int (Int32.ofNat len)] 7)) (Tl.setTop (mkF m 12 #[.val (.ref b), .val (.int (Int32.ofNat (o + i))), .val (.ref d), .val (.int (Int32.ofNat (q + i))), .val (.int (Int32.ofNat len)), .val (.int (Int32.ofNat i)), z] [.int (Int32.ofNat (o + i)), .ref b])) := cl.trans (by
        refine XS.iload Xl.here hexec rfl (hb hbytes d3) rfl ?_
        refine XS.iload Xl.here hexec rfl (hb hbytes d5) rfl ?_
        refine XS.icmpNo Xl.here hexec rfl (hb hbytes d7) rfl (ii_ge_f (lt32 (by omega) (by omega))) ?_
        refine XS.aloadN Xl.here hexec rfl (hb hbytes d10) rfl rfl ?_
        refine XS.iloadN Xl.here hexec rfl (hb hbytes d11) rfl ?_
        exact Steps.refl _)
      have c4 : Steps p.tables e below (s₁.setTop (entryFrame m #[.ref b, .int (Int32.ofNat o), .ref d, .int (Int32.ofNat q), .int (Int32.ofNat len)] 7)) (Tl.setTop (mkF m 13 #[.val (.ref b), .val (.int (Int32.ofNat (o + i))), .val (.ref d), .val (.int (Int32.ofNat (q + i))), .val (.int (Int32.ofNat len)), .val (.int (Int32.ofNat i)), z] [.int (cv A (o + i))])) := c3.trans (by
        refine Xl.aget hexec hAl rfl (hA.get (i := o + i) (by omega)) rfl rfl (hb hbytes d12) ?_
        exact Steps.refl _)
      have c5 : Steps p.tables e below (s₁.setTop (entryFrame m #[.ref b, .int (Int32.ofNat o), .ref d, .int (Int32.ofNat q), .int (Int32.ofNat len)] 7)) (Tl.setTop (mkF m 15 #[.val (.ref b), .val (.int (Int32.ofNat (o + i))), .val (.ref d), .val (.int (Int32.ofNat (q + i))), .val (.int (Int32.ofNat len)), .val (.int (Int32.ofNat i)), .val (.int (cv A (o + i)))] [])) := c4.trans (by
        refine XS.istoreS Xl.here hexec rfl (hb hbytes d13) rfl rfl hz ?_
        exact Steps.refl _)
      have c6 : Steps p.tables e below (s₁.setTop (entryFrame m #[.ref b, .int (Int32.ofNat o), .ref d, .int (Int32.ofNat q), .int (Int32.ofNat len)] 7)) (Tl.setTop (mkF m 31 #[.val (.ref b), .val (.int (Int32.ofNat (o + i))), .val (.ref d), .val (.int (Int32.ofNat (q + i))), .val (.int (Int32.ofNat len)), .val (.int (Int32.ofNat i)), .val (.int (cv A (o + i)))] [.int (lo8 (cv A (o + i))), .int (Int32.ofNat (q + i)), .ref d])) := c5.trans (by
        refine XS.iload Xl.here hexec rfl (hb hbytes d15) rfl ?_
        refine sipushV Xl.here hexec rfl 255 (hb hbytes d17) (by decide) ?_
        refine XS.icmpYes Xl.here hexec rfl (pc0 := 20) rfl (hb hbytes d20) rfl (ii_le_t (hp i (by omega))) (by decide) rfl ?_
        refine XS.aloadN Xl.here hexec rfl (hb hbytes d26) rfl rfl ?_
        refine XS.iloadN Xl.here hexec rfl (hb hbytes d27) rfl ?_
        refine XS.iload Xl.here hexec rfl (hb hbytes d28) rfl ?_
        refine i2b Xl.here hexec rfl (hb hbytes d30) rfl ?_
        exact Steps.refl _)
      obtain ⟨T7, X7, p7, st7⟩ := Xl.aput hexec hBk rfl hlt rfl (fits_lo8 (cv A (o + i))) (g := (mkF m 31 #[.val (.ref b), .val (.int (Int32.ofNat (o + i))), .val (.ref d), .val (.int (Int32.ofNat (q + i))), .val (.int (Int32.ofNat len)), .val (.int (Int32.ofNat i)), .val (.int (cv A (o + i)))] [.int (lo8 (cv A (o + i))), .int (Int32.ofNat (q + i)), .ref d])) rfl (rest := []) rfl (hb hbytes d31)
      have c8 : Steps p.tables e below (s₁.setTop (entryFrame m #[.ref b, .int (Int32.ofNat o), .ref d, .int (Int32.ofNat q), .int (Int32.ofNat len)] 7)) (T7.setTop (mkF m 32 #[.val (.ref b), .val (.int (Int32.ofNat (o + i))), .val (.ref d), .val (.int (Int32.ofNat (q + i))), .val (.int (Int32.ofNat len)), .val (.int (Int32.ofNat i)), .val (.int (cv A (o + i)))] [])) := c6.trans (st7 _ (Steps.refl _))
      have c9 : Steps p.tables e below (s₁.setTop (entryFrame m #[.ref b, .int (Int32.ofNat o), .ref d, .int (Int32.ofNat q), .int (Int32.ofNat len)] 7)) (T7.setTop (mkF m 3 #[.val (.ref b), .val (.int (Int32.ofNat (o + i) + 1)), .val (.ref d), .val (.int (Int32.ofNat (q + i) + 1)), .val (.int (Int32.ofNat len)), .val (.int (Int32.ofNat i + 1)), .val (.int (cv A (o + i)))] [])) := c8.trans (by
        refine iincV X7.here hexec rfl 1 (hb hbytes d32) (by decide) rfl rfl ?_
        refine iincV X7.here hexec rfl 1 (hb hbytes d35) (by decide) rfl rfl ?_
        refine iincV X7.here hexec rfl 1 (hb hbytes d38) (by decide) rfl rfl ?_
        refine XS.goto X7.here hexec rfl (pc0 := 41) rfl (hb hbytes d41) (by decide) rfl ?_
        exact Steps.refl _)
      have c10 : Steps p.tables e below (s₁.setTop (entryFrame m #[.ref b, .int (Int32.ofNat o), .ref d, .int (Int32.ofNat q), .int (Int32.ofNat len)] 7)) (T7.setTop (mkF m 3 #[.val (.ref b), .val (.int (Int32.ofNat (o + (i + 1)))), .val (.ref d), .val (.int (Int32.ofNat (q + (i + 1)))), .val (.int (Int32.ofNat len)), .val (.int (Int32.ofNat (i + 1))), .val (.int (cv A (o + i)))] [])) := by
        have := c9
        rw [succ32, succ32, succ32] at this
        exact this
      exact ih (i + 1) (by omega) _ (Or.inr ⟨_, rfl, rfl⟩) T7 _ (by rw [copyLocs_step, ← List.append_assoc]; exact X7) (pl.trans p7) (fl.step (by omega) hlt (by simp)) c10
  obtain ⟨T9, B9, z9, X9, p9, f9, g9⟩ := loop len 0 (by omega) .unset (Or.inl rfl) s₁ B (by simpa [copyLocs] using X0) ⟨hB0.1, fun _ _ => rfl, rfl⟩ (Laid.zero _ _ _) c2
  have c11 : Steps p.tables e below (s₁.setTop (entryFrame m #[.ref b, .int (Int32.ofNat o), .ref d, .int (Int32.ofNat q), .int (Int32.ofNat len)] 7)) (T9.setTop (mkF m 46 #[.val (.ref b), .val (.int (Int32.ofNat (o + len))), .val (.ref d), .val (.int (Int32.ofNat (q + len))), .val (.int (Int32.ofNat len)), .val (.int (Int32.ofNat len)), z9] [.int (Int32.ofNat len)])) := g9.trans (by
    refine XS.iload X9.here hexec rfl (hb hbytes d3) rfl ?_
    refine XS.iload X9.here hexec rfl (hb hbytes d5) rfl ?_
    refine XS.icmpYes X9.here hexec rfl (pc0 := 7) rfl (hb hbytes d7) rfl (ii_ge_t (nlt32 (by omega) (Nat.le_refl _))) (by decide) rfl ?_
    refine XS.iload X9.here hexec rfl (hb hbytes d44) rfl ?_
    exact Steps.refl _)
  exact ⟨T9, some (.int (Int32.ofNat len)), _, _, _, X9, by simp, rfl, rfl, (fun h => by cases h), ⟨rfl, B9, p9.from hh0, f9⟩, fun fs hl => c11.trans (X9.ireturnOut hexec hret rfl (Or.inl rfl) (hb hbytes d46) hl)⟩
end Cmp5
namespace Cmp3
def yN : MethodName := ⟨"java/lang/StringUTF16", "compress", "([CII)[B"⟩
abbrev yB : ByteArray := jdk_52_method_16_code
theorem d0 : decode yB 0 = .ok (.iload_n 2, 1) := by decide +kernel
theorem d1 : decode yB 1 = .ok (.newarray .byte, 2) := by decide +kernel
theorem d3 : decode yB 3 = .ok (.astore_n 3, 1) := by decide +kernel
theorem d4 : decode yB 4 = .ok (.aload_n 0, 1) := by decide +kernel
theorem d5 : decode yB 5 = .ok (.iload_n 1, 1) := by decide +kernel
theorem d6 : decode yB 6 = .ok (.aload_n 3, 1) := by decide +kernel
theorem d7 : decode yB 7 = .ok (.iconst 0, 1) := by decide +kernel
theorem d8 : decode yB 8 = .ok (.iload_n 2, 1) := by decide +kernel
theorem d9 : decode yB 9 = .ok (.invokestatic 115, 3) := by decide +kernel
theorem d12 : decode yB 12 = .ok (.istore 4, 2) := by decide +kernel
theorem d14 : decode yB 14 = .ok (.iload 4, 2) := by decide +kernel
theorem d16 : decode yB 16 = .ok (.iload_n 2, 1) := by decide +kernel
theorem d17 : decode yB 17 = .ok (.if_icmp (.eq) 40, 3) := by decide +kernel
theorem d57 : decode yB 57 = .ok (.aload_n 3, 1) := by decide +kernel
theorem d58 : decode yB 58 = .ok (.areturn, 1) := by decide +kernel
def site : List Cond := [.arrayClass .byte, Cmp5.tab] ++ staticW U16 115 Cmp5.yN
def tab : Cond := tabOf yN yB 6 (some (.array .byte)) site
def P (b : Addr) (A : Cell) (o len : Nat) (args : Array Value) (s : State) : Prop := args = #[.ref b, .int (Int32.ofNat o), .int (Int32.ofNat len)] ∧ Ch b A s ∧ o + len ≤ A.slots.size ∧ len ≤ 536870912 ∧ ∀ i, i < len → ¬ 255 < cv A (o + i)
def E (b : Addr) (A : Cell) (o len : Nat) (r : Option Value) (s u : State) : Prop := NewArr .byte "[B" len (fun j => .int (lo8 (cv A (o + j)))) r s u ∧ u.heap.size = s.heap.size + 1
/-- no char of the range above 255: a new byte[] of their low bytes -/
theorem law (l : Launch) (b : Addr) (A : Cell) (o len : Nat) : Law l yN 3 3 1 18 yB 6 (some (.array .byte)) site (P b A o len) (E b A o len) [] 1 len := by
  refine Law.of_walk (plainFor_of_name (by decide +kernel)) (by decide +kernel) (by decide +kernel) (by decide) (fun _ _ h => by rw [h.1]; rfl) (fun _ U U' hal hh h => ⟨h.1, h.2.1.mv hal hh, h.2.2⟩) (fun r U U' V V' h1 hal h2 h => ⟨NewArr.mv r U U' V V' h1 hal h2 h.1, by rw [h1, h2]; exact h.2⟩) ?_
  intro p e s m args below meth c s₁ X0 hexec hbytes hml hret hlk hnm hown hh0 W hP
  obtain ⟨rfl, hA, l1, l2, hp⟩ := hP
  have a31 := hA.1.2.2.2
  have c1 : Steps p.tables e below (s₁.setTop (entryFrame m #[.ref b, .int (Int32.ofNat o), .int (Int32.ofNat len)] 6)) (s₁.setTop (mkF m 0 #[.val (.ref b), .val (.int (Int32.ofNat o)), .val (.int (Int32.ofNat len)), .unset, .unset, .unset] [])) := entry rfl
  have c2 : Steps p.tables e below (s₁.setTop (entryFrame m #[.ref b, .int (Int32.ofNat o), .int (Int32.ofNat len)] 6)) (s₁.setTop (mkF m 1 #[.val (.ref b), .val (.int (Int32.ofNat o)), .val (.int (Int32.ofNat len)), .unset, .unset, .unset] [.int (Int32.ofNat len)])) := c1.trans (by
    refine XS.iloadN X0.here hexec rfl (hb hbytes d0) rfl ?_
    exact Steps.refl _)
  obtain ⟨T3, B3, X3, ba3, bs3, bv3, bh3, bf3, st3⟩ := X0.anew hexec (atype := .byte) (wk W (.arrayClass .byte)) rfl (by show len * 1 ≤ _; omega) (by omega) (g := (mkF m 1 #[.val (.ref b), .val (.int (Int32.ofNat o)), .val (.int (Int32.ofNat len)), .unset, .unset, .unset] [.int (Int32.ofNat len)])) rfl (hb hbytes d1) (rest := []) rfl (Nat.le_refl _) (by show 0 + len ≤ len; omega)
  rw [hh0] at ba3 st3
  have kp3 : XT.Kept s T3 := (XT.Kept.of_eq hh0).push bh3
  have hA3 := hA.keep X3.warmed.alike (kp3 _ _ hA.1.1)
  have hne : b ≠ s.heap.size := hA.1.ne
  have c4 : Steps p.tables e below (s₁.setTop (entryFrame m #[.ref b, .int (Int32.ofNat o), .int (Int32.ofNat len)] 6)) (T3.setTop (mkF m 3 #[.val (.ref b), .val (.int (Int32.ofNat o)), .val (.int (Int32.ofNat len)), .unset, .unset, .unset] [.ref s.heap.size])) := c2.trans (st3 _ (Steps.refl _))
  have c5 : Steps p.tables e below (s₁.setTop (entryFrame m #[.ref b, .int (Int32.ofNat o), .int (Int32.ofNat len)] 6)) (T3.setTop (mkF m 9 #[.val (.ref b), .val (.int (Int32.ofNat o)), .val (.int (Int32.ofNat len)), .val (.ref s.heap.size), .unset, .unset] [.int (Int32.ofNat len), .int 0, .ref s.heap.size, .int (Int32.ofNat o), .ref b])) := c4.trans (by
    refine XS.astoreN X3.here hexec rfl (hb hbytes d3) rfl rfl rfl ?_
    refine XS.aloadN X3.here hexec rfl (hb hbytes d4) rfl rfl ?_
    refine XS.iloadN X3.here hexec rfl (hb hbytes d5) rfl ?_
    refine XS.aloadN X3.here hexec rfl (hb hbytes d6) rfl rfl ?_
    refine iconstV X3.here hexec rfl 0 (hb hbytes d7) (by decide) ?_
    refine XS.iloadN X3.here hexec rfl (hb hbytes d8) rfl ?_
    exact Steps.refl _)
  obtain ⟨v6, T6, X6, E6, g6⟩ := X3.callS hexec (Cmp5.law l b A s.heap.size B3 o 0 len) hown (wks W (staticW U16 115 Cmp5.yN)) (wk W Cmp5.tab) (W := 0) (Nat.le_of_ble_eq_true rfl) (Nat.le_of_ble_eq_true rfl) (Nat.le_refl _) (by show 0 + len + 0 ≤ len; omega) (g := (mkF m 9 #[.val (.ref b), .val (.int (Int32.ofNat o)), .val (.int (Int32.ofNat len)), .val (.ref s.heap.size), .unset, .unset] [.int (Int32.ofNat len), .int (Int32.ofNat 0), .ref s.heap.size, .int (Int32.ofNat o), .ref b])) rfl (by rw [hml]; rfl) c5 (argsL := [.ref b, .int (Int32.ofNat o), .ref s.heap.size, .int (Int32.ofNat 0), .int (Int32.ofNat len)]) (rest := []) rfl rfl (by show 2 * 0 + 0 ≤ _; decide) (hb hbytes d9) (⟨rfl, hA3, ba3, hne, l1, by rw [bs3]; simp, hp⟩)
  obtain ⟨rfl, B6, p6, f6⟩ := E6
  have c7 : Steps p.tables e below (s₁.setTop (entryFrame m #[.ref b, .int (Int32.ofNat o), .int (Int32.ofNat len)] 6)) (T6.setTop (mkF m 12 #[.val (.ref b), .val (.int (Int32.ofNat o)), .val (.int (Int32.ofNat len)), .val (.ref s.heap.size), .unset, .unset] [.int (Int32.ofNat len)])) := g6
  have c8 : Steps p.tables e below (s₁.setTop (entryFrame m #[.ref b, .int (Int32.ofNat o), .int (Int32.ofNat len)] 6)) (T6.setTop (mkF m 58 #[.val (.ref b), .val (.int (Int32.ofNat o)), .val (.int (Int32.ofNat len)), .val (.ref s.heap.size), .val (.int (Int32.ofNat len)), .unset] [.ref s.heap.size])) := c7.trans (by
    refine XS.istore X6.here hexec rfl (hb hbytes d12) rfl rfl ?_
    refine XS.iload X6.here hexec rfl (hb hbytes d14) rfl ?_
    refine XS.iloadN X6.here hexec rfl (hb hbytes d16) rfl ?_
    refine XS.icmpYes X6.here hexec rfl (pc0 := 17) rfl (hb hbytes d17) rfl (ii_eq_t rfl) (by decide) rfl ?_
    refine XS.aloadN X6.here hexec rfl (hb hbytes d57) rfl rfl ?_
    exact Steps.refl _)
  have X8 := X6.wide (L' := []) (cells' := 1) (slots' := len) (fun x hx hlt => by
    simp only [List.nil_append, copyLocs, List.mem_map, List.mem_range] at hx
    obtain ⟨i, -, rfl⟩ := hx
    exact absurd hlt (Nat.lt_irrefl _)) (Nat.le_refl _) (by omega)
  exact ⟨T6, some (.ref s.heap.size), _, _, _, X8, rfl, rfl, rfl, (fun h => by cases h), ⟨⟨rfl, B6, ba3.like (X3.warmed.alike.symm.trans X6.warmed.alike) p6.1 f6.1 f6.2.1 f6.2.2.1, f6.2.1.trans bv3, by rw [X6.warmed.alike.findClass, f6.1]; exact bf3, by rw [f6.2.2.1, bs3]; simp, fun j hj => by rw [f6.2.2.2 j, if_pos (by omega)]; rfl, kp3.put p6 (Nat.le_refl _)⟩, by rw [p6.2.2, bh3, hh0]; simp⟩, fun fs hl => c8.trans (X8.areturnOut hexec rfl hret rfl (hb hbytes d58) hl)⟩
end Cmp3
namespace CodL
def yN : MethodName := ⟨"java/lang/StringUTF16", "coderFromArrayLen", "([BI)B"⟩
abbrev yB : ByteArray := jdk_52_method_15_code
theorem d0 : decode yB 0 = .ok (.iload_n 1, 1) := by decide +kernel
theorem d1 : decode yB 1 = .ok (.aload_n 0, 1) := by decide +kernel
theorem d2 : decode yB 2 = .ok (.arraylength, 1) := by decide +kernel
theorem d3 : decode yB 3 = .ok (.isub, 1) := by decide +kernel
theorem d4 : decode yB 4 = .ok (.bipush 31, 2) := by decide +kernel
theorem d6 : decode yB 6 = .ok (.iushr, 1) := by decide +kernel
theorem d7 : decode yB 7 = .ok (.i2b, 1) := by decide +kernel
theorem d8 : decode yB 8 = .ok (.ireturn, 1) := by decide +kernel
def site : List Cond := []
def tab : Cond := tabOf yN yB 2 (some .byte) site
def P (d : Addr) (B : Cell) (args : Array Value) (s : State) : Prop := args = #[.ref d, .int (Int32.ofNat B.slots.size)] ∧ Arr .byte d B s
def E (r : Option Value) (s u : State) : Prop := XT.PureE (some (.int 0)) r s u
/-- an array as long as the number of chars: LATIN1 -/
theorem law (l : Launch) (d : Addr) (B : Cell) : Law l yN 2 2 0 0 yB 2 (some .byte) site (P d B) E [] 0 0 := by
  refine Law.of_walk (plainFor_of_name (by decide +kernel)) (by decide +kernel) (by decide +kernel) (by decide) (fun _ _ h => by rw [h.1]; rfl) (fun _ U U' hal hh h => ⟨h.1, h.2.mv hal hh⟩) (fun r U U' V V' h1 hal h2 h => XT.PureE.mv r U U' V V' h1 hal h2 h) ?_
  intro p e s m args below meth c s₁ X0 hexec hbytes hml hret hlk hnm hown hh0 W hP
  obtain ⟨rfl, hB⟩ := hP
  have hB0 := hB.mv X0.warmed.alike hh0
  have c1 : Steps p.tables e below (s₁.setTop (entryFrame m #[.ref d, .int (Int32.ofNat B.slots.size)] 2)) (s₁.setTop (mkF m 0 #[.val (.ref d), .val (.int (Int32.ofNat B.slots.size))] [])) := entry rfl
  have c2 : Steps p.tables e below (s₁.setTop (entryFrame m #[.ref d, .int (Int32.ofNat B.slots.size)] 2)) (s₁.setTop (mkF m 2 #[.val (.ref d), .val (.int (Int32.ofNat B.slots.size))] [.ref d, .int (Int32.ofNat B.slots.size)])) := c1.trans (by
    refine XS.iloadN X0.here hexec rfl (hb hbytes d0) rfl ?_
    refine XS.aloadN X0.here hexec rfl (hb hbytes d1) rfl rfl ?_
    exact Steps.refl _)
  have c3 : Steps p.tables e below (s₁.setTop (entryFrame m #[.ref d, .int (Int32.ofNat B.slots.size)] 2)) (s₁.setTop (mkF m 8 #[.val (.ref d), .val (.int (Int32.ofNat B.slots.size))] [.int (lo8 (ushr (Int32.ofNat B.slots.size - Int32.ofNat B.slots.size) 31))])) := c2.trans (by
    refine X0.alen hexec hB0 rfl rfl (hb hbytes d2) ?_
    refine XS.isub X0.here hexec rfl (hb hbytes d3) rfl ?_
    refine bipushV X0.here hexec rfl 31 (hb hbytes d4) (by decide) ?_
    refine iushr X0.here hexec rfl (hb hbytes d6) rfl ?_
    refine i2b X0.here hexec rfl (hb hbytes d7) rfl ?_
    exact Steps.refl _)
  have e0 : lo8 (ushr (Int32.ofNat B.slots.size - Int32.ofNat B.slots.size) 31) = 0 := by rw [Int32.sub_self]; decide
  rw [e0] at c3
  exact ⟨s₁, some (.int 0), _, _, _, X0, rfl, rfl, rfl, (fun h => by cases h), ⟨rfl, hh0⟩, fun fs hl => c3.trans (X0.ireturnOut hexec hret rfl (Or.inr (Or.inr (Or.inl rfl))) (hb hbytes d8) hl)⟩
end CodL
/-- the String at a is Latin-1 over a new byte[] (the heap's one new cell): the low bytes of the len chars of A from o on; every cell but a is kept -/
def Got (a : Addr) (D : Cell) (fV fC : Field) (A : Cell) (o len : Nat) (r : Option Value) (s u : State) : Prop := r = none ∧ ∃ D' V : Cell, Blank "java/lang/String" a D' u ∧ Same D D' [fV.slot, fC.slot] ∧ D'.slots[fV.slot]? = some (.ref s.heap.size) ∧ D'.slots[fC.slot]? = some (.int 0) ∧ Arr .byte s.heap.size V u ∧ V.vm = .none ∧ u.vm.findClass "[B" = some V.cls ∧ V.slots.size = len ∧ (∀ j, j < len → V.slots[j]? = some (.int (lo8 (cv A (o + j))))) ∧ (∀ (y : Addr) (c : Cell), y ≠ a → s.heap[y]? = some c → u.heap[y]? = some c) ∧ u.heap.size = s.heap.size + 1
theorem Got.mv {a : Addr} {D A : Cell} {fV fC : Field} {o len : Nat} : ∀ r (U U' V V' : State), U'.heap = U.heap → V.vm.Alike V'.vm → V'.heap = V.heap → Got a D fV fC A o len r U V → Got a D fV fC A o len r U' V' :=
  fun r U U' V V' h1 hal h2 ⟨e0, D', X, a1, a2, a3, a4, a5, a6, a7, a8, a9, a10, a11⟩ => ⟨e0, D', X, a1.mv hal h2, a2, by rw [h1]; exact a3, a4, by rw [h1]; exact a5.mv hal h2, a6, by rw [hal.findClass]; exact a7, a8, a9, by rw [h1, h2]; exact a10, by rw [h1, h2]; exact a11⟩
namespace New4
def yN : MethodName := ⟨"java/lang/String", "<init>", "([CIILjava/lang/Void;)V"⟩
abbrev yB : ByteArray := jdk_42_method_149_code
theorem d0 : decode yB 0 = .ok (.aload_n 0, 1) := by decide +kernel
theorem d1 : decode yB 1 = .ok (.invokespecial 1, 3) := by decide +kernel
theorem d4 : decode yB 4 = .ok (.iload_n 3, 1) := by decide +kernel
theorem d5 : decode yB 5 = .ok (.ifCond (.ne) 22, 3) := by decide +kernel
theorem d27 : decode yB 27 = .ok (.getstatic 38, 3) := by decide +kernel
theorem d30 : decode yB 30 = .ok (.ifCond (.eq) 28, 3) := by decide +kernel
theorem d33 : decode yB 33 = .ok (.aload_n 1, 1) := by decide +kernel
theorem d34 : decode yB 34 = .ok (.iload_n 2, 1) := by decide +kernel
theorem d35 : decode yB 35 = .ok (.iload_n 3, 1) := by decide +kernel
theorem d36 : decode yB 36 = .ok (.invokestatic 177, 3) := by decide +kernel
theorem d39 : decode yB 39 = .ok (.astore 5, 2) := by decide +kernel
theorem d41 : decode yB 41 = .ok (.aload_n 0, 1) := by decide +kernel
theorem d42 : decode yB 42 = .ok (.aload 5, 2) := by decide +kernel
theorem d44 : decode yB 44 = .ok (.iload_n 3, 1) := by decide +kernel
theorem d45 : decode yB 45 = .ok (.invokestatic 47, 3) := by decide +kernel
theorem d48 : decode yB 48 = .ok (.putfield 15, 3) := by decide +kernel
theorem d51 : decode yB 51 = .ok (.aload_n 0, 1) := by decide +kernel
theorem d52 : decode yB 52 = .ok (.aload 5, 2) := by decide +kernel
theorem d54 : decode yB 54 = .ok (.putfield 9, 3) := by decide +kernel
theorem d57 : decode yB 57 = .ok (.return_, 1) := by decide +kernel
def site : List Cond := [.fieldLink "java/lang/String" 38 "java/lang/String" "COMPACT_STRINGS" "Z", Cmp3.tab, CodL.tab, .laysFinal "java/lang/String" "java/lang/String" "value" "[B", .fieldLink "java/lang/String" 9 "java/lang/String" "value" "[B", .laysFinal "java/lang/String" "java/lang/String" "coder" "B", .fieldLink "java/lang/String" 15 "java/lang/String" "coder" "B"] ++ objW "java/lang/String" 1 ++ staticW "java/lang/String" 177 Cmp3.yN ++ staticW "java/lang/String" 47 CodL.yN
def tab : Cond := tabOf yN yB 6 none site
def P (a : Addr) (D : Cell) (fV fC : Field) (b : Addr) (A : Cell) (z : Int32) (o len : Nat) (args : Array Value) (s : State) : Prop := args = #[.ref a, .ref b, .int (Int32.ofNat o), .int (Int32.ofNat len), .null] ∧ Blank "java/lang/String" a D s ∧ Found "java/lang/String" "value" "[B" fV s ∧ Found "java/lang/String" "coder" "B" fC s ∧ Ch b A s ∧ StaticIs s "java/lang/String" "COMPACT_STRINGS" "Z" (.int z) ∧ ¬ z = 0 ∧ 0 < len ∧ o + len ≤ A.slots.size ∧ len ≤ 536870912 ∧ ∀ i, i < len → ¬ 255 < cv A (o + i)
def E (a : Addr) (D : Cell) (fV fC : Field) (A : Cell) (o len : Nat) (r : Option Value) (s u : State) : Prop := Got a D fV fC A o len r s u
/-- len > 0, no char of the range above 255: a Latin-1 String of their low bytes -/
theorem law (l : Launch) (a : Addr) (D : Cell) (fV fC : Field) (b : Addr) (A : Cell) (z : Int32) (o len : Nat) : Law l yN 5 4 2 35 yB 6 none site (P a D fV fC b A z o len) (E a D fV fC A o len) [⟨a, fC.slot⟩, ⟨a, fV.slot⟩] 1 len := by
  refine Law.of_walk (plainFor_of_name (by decide +kernel)) (by decide +kernel) (by decide +kernel) (by decide) (fun _ _ h => by rw [h.1]; rfl) (fun _ U U' hal hh h => ⟨h.1, h.2.1.mv hal hh, h.2.2.1.al hal, h.2.2.2.1.al hal, h.2.2.2.2.1.mv hal hh, h.2.2.2.2.2.1.there hal hh, h.2.2.2.2.2.2⟩) (fun r U U' V V' h1 hal h2 h => Got.mv r U U' V V' h1 hal h2 h) ?_
  intro p e s m args below meth c s₁ X0 hexec hbytes hml hret hlk hnm hown hh0 W hP
  obtain ⟨rfl, hB, f1, f2, hA, s1, hz, l0, l1, l2, hp⟩ := hP
  have a31 := hA.1.2.2.2
  have c1 : Steps p.tables e below (s₁.setTop (entryFrame m #[.ref a, .ref b, .int (Int32.ofNat o), .int (Int32.ofNat len), .null] 6)) (s₁.setTop (mkF m 0 #[.val (.ref a), .val (.ref b), .val (.int (Int32.ofNat o)), .val (.int (Int32.ofNat len)), .val .null, .unset] [])) := entry rfl
  have c2 : Steps p.tables e below (s₁.setTop (entryFrame m #[.ref a, .ref b, .int (Int32.ofNat o), .int (Int32.ofNat len), .null] 6)) (s₁.setTop (mkF m 1 #[.val (.ref a), .val (.ref b), .val (.int (Int32.ofNat o)), .val (.int (Int32.ofNat len)), .val .null, .unset] [.ref a])) := c1.trans (by
    refine XS.aloadN X0.here hexec rfl (hb hbytes d0) rfl rfl ?_
    exact Steps.refl _)
  obtain ⟨T3, X3, q3, st3⟩ := X0.oinit hexec hown (wks W (objW "java/lang/String" 1)) (g := (mkF m 1 #[.val (.ref a), .val (.ref b), .val (.int (Int32.ofNat o)), .val (.int (Int32.ofNat len)), .val .null, .unset] [.ref a])) rfl (by rw [hml]; rfl) (rest := []) rfl (hb hbytes d1) (W := 0) (by show 2 * 0 + 0 ≤ _; decide) (Nat.le_of_ble_eq_true rfl) (Nat.le_of_ble_eq_true rfl)
  have hh3 := q3.trans hh0
  have c4 : Steps p.tables e below (s₁.setTop (entryFrame m #[.ref a, .ref b, .int (Int32.ofNat o), .int (Int32.ofNat len), .null] 6)) (T3.setTop (mkF m 27 #[.val (.ref a), .val (.ref b), .val (.int (Int32.ofNat o)), .val (.int (Int32.ofNat len)), .val .null, .unset] [])) := (c2.trans (st3 _ (Steps.refl _))).trans (by
    refine XS.iloadN X3.here hexec rfl (hb hbytes d4) rfl ?_
    refine XS.ifYes X3.here hexec rfl (pc0 := 5) rfl (hb hbytes d5) rfl (i0_ne_t (nz32 (by omega) l0)) (by decide) rfl ?_
    exact Steps.refl _)
  obtain ⟨T5, X5, q5, st5⟩ := X3.sget hexec hown (wk W (.fieldLink "java/lang/String" 38 "java/lang/String" "COMPACT_STRINGS" "Z")) s1 (fun _ _ h => by rw [hh3]; exact h) (g := (mkF m 27 #[.val (.ref a), .val (.ref b), .val (.int (Int32.ofNat o)), .val (.int (Int32.ofNat len)), .val .null, .unset] [])) rfl (hb hbytes d27)
  have hh5 := q5.trans hh3
  have c6 : Steps p.tables e below (s₁.setTop (entryFrame m #[.ref a, .ref b, .int (Int32.ofNat o), .int (Int32.ofNat len), .null] 6)) (T5.setTop (mkF m 30 #[.val (.ref a), .val (.ref b), .val (.int (Int32.ofNat o)), .val (.int (Int32.ofNat len)), .val .null, .unset] [.int z])) := c4.trans (st5 _ (Steps.refl _))
  have c7 : Steps p.tables e below (s₁.setTop (entryFrame m #[.ref a, .ref b, .int (Int32.ofNat o), .int (Int32.ofNat len), .null] 6)) (T5.setTop (mkF m 36 #[.val (.ref a), .val (.ref b), .val (.int (Int32.ofNat o)), .val (.int (Int32.ofNat len)), .val .null, .unset] [.int (Int32.ofNat len), .int (Int32.ofNat o), .ref b])) := c6.trans (by
    refine XS.ifNo X5.here hexec rfl (hb hbytes d30) rfl (i0_eq_f hz) ?_
    refine XS.aloadN X5.here hexec rfl (hb hbytes d33) rfl rfl ?_
    refine XS.iloadN X5.here hexec rfl (hb hbytes d34) rfl ?_
    refine XS.iloadN X5.here hexec rfl (hb hbytes d35) rfl ?_
    exact Steps.refl _)
  obtain ⟨v8, T8, X8, E8, g8⟩ := X5.callS hexec (Cmp3.law l b A o len) hown (wks W (staticW "java/lang/String" 177 Cmp3.yN)) (wk W Cmp3.tab) (W := 0) (Nat.le_of_ble_eq_true rfl) (Nat.le_of_ble_eq_true rfl) (Nat.le_refl _) (by show 0 + len ≤ len; omega) (g := (mkF m 36 #[.val (.ref a), .val (.ref b), .val (.int (Int32.ofNat o)), .val (.int (Int32.ofNat len)), .val .null, .unset] [.int (Int32.ofNat len), .int (Int32.ofNat o), .ref b])) rfl (by rw [hml]; rfl) c7 (argsL := [.ref b, .int (Int32.ofNat o), .int (Int32.ofNat len)]) (rest := []) rfl rfl (by show 2 * 0 + 0 ≤ _; decide) (hb hbytes d36) (⟨rfl, hA.mv X5.warmed.alike hh5, l1, l2, hp⟩)
  obtain ⟨e8, z8⟩ := E8
  obtain ⟨rfl, N, n1, n2, n3, n4, n5, n6⟩ := NewArr.mv _ T5 s _ _ hh5.symm (Vm.Alike.refl _) rfl e8
  rw [hh5] at z8
  have hB1 := hB.keep X8.warmed.alike (n6 _ _ hB.1)
  have hne : s.heap.size ≠ a := (Nat.ne_of_lt (Array.getElem?_eq_some_iff.mp hB.1).1).symm
  have c9 : Steps p.tables e below (s₁.setTop (entryFrame m #[.ref a, .ref b, .int (Int32.ofNat o), .int (Int32.ofNat len), .null] 6)) (T8.setTop (mkF m 39 #[.val (.ref a), .val (.ref b), .val (.int (Int32.ofNat o)), .val (.int (Int32.ofNat len)), .val .null, .unset] [.ref s.heap.size])) := g8
  have c10 : Steps p.tables e below (s₁.setTop (entryFrame m #[.ref a, .ref b, .int (Int32.ofNat o), .int (Int32.ofNat len), .null] 6)) (T8.setTop (mkF m 45 #[.val (.ref a), .val (.ref b), .val (.int (Int32.ofNat o)), .val (.int (Int32.ofNat len)), .val .null, .val (.ref s.heap.size)] [.int (Int32.ofNat N.slots.size), .ref s.heap.size, .ref a])) := by
    have hc : Steps p.tables e below (s₁.setTop (entryFrame m #[.ref a, .ref b, .int (Int32.ofNat o), .int (Int32.ofNat len), .null] 6)) (T8.setTop (mkF m 45 #[.val (.ref a), .val (.ref b), .val (.int (Int32.ofNat o)), .val (.int (Int32.ofNat len)), .val .null, .val (.ref s.heap.size)] [.int (Int32.ofNat len), .ref s.heap.size, .ref a])) := c9.trans (by
      refine XS.astore X8.here hexec rfl (hb hbytes d39) rfl rfl rfl ?_
      refine XS.aloadN X8.here hexec rfl (hb hbytes d41) rfl rfl ?_
      refine XS.aload X8.here hexec rfl (hb hbytes d42) rfl rfl ?_
      refine XS.iloadN X8.here hexec rfl (hb hbytes d44) rfl ?_
      exact Steps.refl _)
    rw [n4]; exact hc
  obtain ⟨v11, T11, X11, E11, g11⟩ := X8.callS hexec (CodL.law l s.heap.size N) hown (wks W (staticW "java/lang/String" 47 CodL.yN)) (wk W CodL.tab) (W := 1) (Nat.le_of_ble_eq_true rfl) (Nat.le_of_ble_eq_true rfl) (Nat.le_refl _) (by show 0 + len + 0 ≤ len; omega) (g := (mkF m 45 #[.val (.ref a), .val (.ref b), .val (.int (Int32.ofNat o)), .val (.int (Int32.ofNat len)), .val .null, .val (.ref s.heap.size)] [.int (Int32.ofNat N.slots.size), .ref s.heap.size, .ref a])) rfl (by rw [hml]; rfl) c10 (argsL := [.ref s.heap.size, .int (Int32.ofNat N.slots.size)]) (rest := [.ref a]) rfl rfl (by show 2 * 0 + (1 + 0) ≤ _; decide) (hb hbytes d45) (⟨rfl, n1⟩)
  obtain ⟨rfl, q11⟩ := E11
  have hB11 := hB1.mv (X8.warmed.alike.symm.trans X11.warmed.alike) q11
  have c12 : Steps p.tables e below (s₁.setTop (entryFrame m #[.ref a, .ref b, .int (Int32.ofNat o), .int (Int32.ofNat len), .null] 6)) (T11.setTop (mkF m 48 #[.val (.ref a), .val (.ref b), .val (.int (Int32.ofNat o)), .val (.int (Int32.ofNat len)), .val .null, .val (.ref s.heap.size)] [.int 0, .ref a])) := g11
  obtain ⟨T13, X13, p13, bl13, sl13, st13⟩ := X11.finit hexec hown (wk W (.fieldLink "java/lang/String" 15 "java/lang/String" "coder" "B")) (Or.inr ⟨_, (wk W (.laysFinal "java/lang/String" "java/lang/String" "coder" "B"))⟩) (Or.inl ⟨rfl, hnm⟩) f2 (Or.inl rfl) hB11 (t := .byte) (by decide +kernel) rfl (g := (mkF m 48 #[.val (.ref a), .val (.ref b), .val (.int (Int32.ofNat o)), .val (.int (Int32.ofNat len)), .val .null, .val (.ref s.heap.size)] [.int 0, .ref a])) rfl (rest := []) rfl (hb hbytes d48)
  have c14 : Steps p.tables e below (s₁.setTop (entryFrame m #[.ref a, .ref b, .int (Int32.ofNat o), .int (Int32.ofNat len), .null] 6)) (T13.setTop (mkF m 54 #[.val (.ref a), .val (.ref b), .val (.int (Int32.ofNat o)), .val (.int (Int32.ofNat len)), .val .null, .val (.ref s.heap.size)] [.ref s.heap.size, .ref a])) := (c12.trans (st13 _ (Steps.refl _))).trans (by
    refine XS.aloadN X13.here hexec rfl (hb hbytes d51) rfl rfl ?_
    refine XS.aload X13.here hexec rfl (hb hbytes d52) rfl rfl ?_
    exact Steps.refl _)
  obtain ⟨T15, X15, p15, bl15, sl15, st15⟩ := X13.finit hexec hown (wk W (.fieldLink "java/lang/String" 9 "java/lang/String" "value" "[B")) (Or.inr ⟨_, (wk W (.laysFinal "java/lang/String" "java/lang/String" "value" "[B"))⟩) (Or.inl ⟨rfl, hnm⟩) f1 (Or.inl rfl) bl13 (t := (.array .byte)) (by decide +kernel) rfl (g := (mkF m 54 #[.val (.ref a), .val (.ref b), .val (.int (Int32.ofNat o)), .val (.int (Int32.ofNat len)), .val .null, .val (.ref s.heap.size)] [.ref s.heap.size, .ref a])) rfl (rest := []) rfl (hb hbytes d54)
  have c16 : Steps p.tables e below (s₁.setTop (entryFrame m #[.ref a, .ref b, .int (Int32.ofNat o), .int (Int32.ofNat len), .null] 6)) (T15.setTop (mkF m 57 #[.val (.ref a), .val (.ref b), .val (.int (Int32.ofNat o)), .val (.int (Int32.ofNat len)), .val .null, .val (.ref s.heap.size)] [])) := c14.trans (st15 _ (Steps.refl _))
  have ap := apart (Or.inr ⟨_, (wk W (.laysFinal "java/lang/String" "java/lang/String" "value" "[B"))⟩) (Or.inr ⟨_, (wk W (.laysFinal "java/lang/String" "java/lang/String" "coder" "B"))⟩) f1 f2 (t₁ := .array .byte) (t₂ := .byte) (by decide +kernel) (by decide +kernel) (by decide)
  have al := X8.warmed.alike.symm.trans X15.warmed.alike
  have n7 : T11.heap[s.heap.size]? = some N := by rw [q11]; exact n1.1
  exact ⟨T15, none, _, _, _, X15, by simp, rfl, by omega, (fun _ => rfl), ⟨rfl, _, N, bl15, ((Same.refl D _).set _ (by simp)).set _ (by simp), sl15, (Cell.slots_setSlot_ne _ ap).trans sl13, n1.keep al (p15.other hne (p13.other hne n7)), n2, by rw [al.findClass]; exact n3, n4, n5, fun y c h1 h2 => p15.other h1 (p13.other h1 (by rw [q11]; exact n6 y c h2)), by rw [p15.2.2, p13.2.2, q11]; exact z8⟩, fun fs hl => c16.trans (X15.returnOut hexec hret (hb hbytes d57) hl)⟩
end New4
namespace New1
def yN : MethodName := ⟨"java/lang/String", "<init>", "([C)V"⟩
abbrev yB : ByteArray := jdk_42_method_3_code
theorem d0 : decode yB 0 = .ok (.aload_n 0, 1) := by decide +kernel
theorem d1 : decode yB 1 = .ok (.aload_n 1, 1) := by decide +kernel
theorem d2 : decode yB 2 = .ok (.iconst 0, 1) := by decide +kernel
theorem d3 : decode yB 3 = .ok (.aload_n 1, 1) := by decide +kernel
theorem d4 : decode yB 4 = .ok (.arraylength, 1) := by decide +kernel
theorem d5 : decode yB 5 = .ok (.aconst_null, 1) := by decide +kernel
theorem d6 : decode yB 6 = .ok (.invokespecial 27, 3) := by decide +kernel
theorem d9 : decode yB 9 = .ok (.return_, 1) := by decide +kernel
def site : List Cond := [New4.tab] ++ initW "java/lang/String" 27 New4.yN
def tab : Cond := tabOf yN yB 2 none site
def P (a : Addr) (D : Cell) (fV fC : Field) (b : Addr) (A : Cell) (z : Int32) (args : Array Value) (s : State) : Prop := args = #[.ref a, .ref b] ∧ Blank "java/lang/String" a D s ∧ Found "java/lang/String" "value" "[B" fV s ∧ Found "java/lang/String" "coder" "B" fC s ∧ Ch b A s ∧ StaticIs s "java/lang/String" "COMPACT_STRINGS" "Z" (.int z) ∧ ¬ z = 0 ∧ 0 < A.slots.size ∧ A.slots.size ≤ 536870912 ∧ ∀ i, i < A.slots.size → ¬ 255 < cv A i
def E (a : Addr) (D : Cell) (fV fC : Field) (A : Cell) (r : Option Value) (s u : State) : Prop := Got a D fV fC A 0 A.slots.size r s u
/-- new String(chars), not empty, no char above 255: a Latin-1 String of their low bytes -/
theorem law (l : Launch) (a : Addr) (D : Cell) (fV fC : Field) (b : Addr) (A : Cell) (z : Int32) : Law l yN 2 1 3 52 yB 2 none site (P a D fV fC b A z) (E a D fV fC A) [⟨a, fC.slot⟩, ⟨a, fV.slot⟩] 1 A.slots.size := by
  refine Law.of_walk (plainFor_of_name (by decide +kernel)) (by decide +kernel) (by decide +kernel) (by decide) (fun _ _ h => by rw [h.1]; rfl) (fun _ U U' hal hh h => ⟨h.1, h.2.1.mv hal hh, h.2.2.1.al hal, h.2.2.2.1.al hal, h.2.2.2.2.1.mv hal hh, h.2.2.2.2.2.1.there hal hh, h.2.2.2.2.2.2⟩) (fun r U U' V V' h1 hal h2 h => Got.mv r U U' V V' h1 hal h2 h) ?_
  intro p e s m args below meth c s₁ X0 hexec hbytes hml hret hlk hnm hown hh0 W hP
  obtain ⟨rfl, hB, f1, f2, hA, s1, hz, l0, l2, hp⟩ := hP
  have c1 : Steps p.tables e below (s₁.setTop (entryFrame m #[.ref a, .ref b] 2)) (s₁.setTop (mkF m 0 #[.val (.ref a), .val (.ref b)] [])) := entry rfl
  have c2 : Steps p.tables e below (s₁.setTop (entryFrame m #[.ref a, .ref b] 2)) (s₁.setTop (mkF m 6 #[.val (.ref a), .val (.ref b)] [.null, .int (Int32.ofNat A.slots.size), .int 0, .ref b, .ref a])) := c1.trans (by
    refine XS.aloadN X0.here hexec rfl (hb hbytes d0) rfl rfl ?_
    refine XS.aloadN X0.here hexec rfl (hb hbytes d1) rfl rfl ?_
    refine iconstV X0.here hexec rfl 0 (hb hbytes d2) (by decide) ?_
    refine XS.aloadN X0.here hexec rfl (hb hbytes d3) rfl rfl ?_
    refine X0.alen hexec (hA.1.mv X0.warmed.alike hh0) rfl rfl (hb hbytes d4) ?_
    refine XS.aconstNull X0.here hexec rfl (hb hbytes d5) ?_
    exact Steps.refl _)
  obtain ⟨v3, T3, X3, E3, g3⟩ := X0.callN hexec (New4.law l a D fV fC b A z 0 A.slots.size) rfl hown (wks W (initW "java/lang/String" 27 New4.yN)) (W New4.tab (by simp only [site, List.mem_cons, List.mem_append, true_or, or_true])) (W := 0) (Nat.le_of_ble_eq_true rfl) (Nat.le_of_ble_eq_true rfl) (Nat.le_refl _) (by show 0 + A.slots.size ≤ A.slots.size; omega) (g := (mkF m 6 #[.val (.ref a), .val (.ref b)] [.null, .int (Int32.ofNat A.slots.size), .int (Int32.ofNat 0), .ref b, .ref a])) rfl (by rw [hml]; rfl) c2 (argsL := [.ref b, .int (Int32.ofNat 0), .int (Int32.ofNat A.slots.size), .null]) (rest := []) rfl rfl (by show 2 * 0 + 0 ≤ _; decide) (hb hbytes d6) (⟨rfl, hB.mv X0.warmed.alike hh0, f1.al X0.warmed.alike, f2.al X0.warmed.alike, hA.mv X0.warmed.alike hh0, s1.there X0.warmed.alike hh0, hz, l0, by omega, l2, fun i hi => by rw [Nat.zero_add]; exact hp i hi⟩)
  have e0 := Got.mv _ s₁ s _ _ hh0.symm (Vm.Alike.refl _) rfl E3
  obtain rfl := e0.1
  have c4 : Steps p.tables e below (s₁.setTop (entryFrame m #[.ref a, .ref b] 2)) (T3.setTop (mkF m 9 #[.val (.ref a), .val (.ref b)] [])) := g3
  exact ⟨T3, none, _, _, _, X3, by simp, rfl, by omega, (fun _ => rfl), e0, fun fs hl => c4.trans (X3.returnOut hexec hret (hb hbytes d9) hl)⟩
theorem pays {l : Launch} {R : Room} {p : Program} {e : Env} {below : List Frame} {s : State} {sargs : Array Value} {len W : Nat} (a : Addr) (D : Cell) (fV fC : Field) (b : Addr) (A : Cell) (z : Int32) (htab : tab.before sargs s = true) (hfr : 4 ≤ R.frames) (hlo : W + 65 ≤ R.locals) :
    Back l R p e below s sargs yN len W (fun A₁ a₁ => A₁.cells + 1 ≤ R.cells ∧ A₁.slots + A.slots.size ≤ R.slots ∧ P a D fV fC b A z a₁ A₁.U) (fun A₁ _ v₁ B₁ => E a D fV fC A v₁ A₁.U B₁.U ∧ B₁.locs = A₁.locs ++ [⟨a, fC.slot⟩, ⟨a, fV.slot⟩] ∧ B₁.cells = A₁.cells + 1 ∧ B₁.slots = A₁.slots + A.slots.size) :=
  (law l a D fV fC b A z).pays htab hfr (by omega)
end New1
end StrChars
namespace StrChars.Road
open Jvm Sem ClassFile Op Lib Jvm.Stand Jvm.Free Jvm.Free.XT
open Jvm.Lib.Cold (StaticIs)
abbrev ST : String := "java/lang/String"
/-- every table word that New1's law asks, flat -/
abbrev words : List Jvm.Cond := [.code New1.yN New1.yB 2 none, .initialized ST, .methodLink ST 27 New4.yN, .instanceMethod New4.yN,
  .code New4.yN New4.yB 6 none, .fieldLink ST 38 ST "COMPACT_STRINGS" "Z", .laysFinal ST ST "value" "[B", .fieldLink ST 9 ST "value" "[B", .laysFinal ST ST "coder" "B", .fieldLink ST 15 ST "coder" "B",
  .methodLink ST 1 Lib.objectInit, .instanceMethod Lib.objectInit, .code Lib.objectInit ⟨#[0xb1]⟩ 1 none, .methodLink ST 177 Cmp3.yN, .static Cmp3.yN, .methodLink ST 47 CodL.yN, .static CodL.yN,
  .code Cmp3.yN Cmp3.yB 6 (some (.array .byte)), .initialized U16, .arrayClass .byte, .methodLink U16 115 Cmp5.yN, .static Cmp5.yN, .code Cmp5.yN Cmp5.yB 7 (some .int), .code CodL.yN CodL.yB 2 (some .byte)]
theorem tab_of {a : Array Value} {s : State} (h : ∀ w ∈ words, w.before a s = true) : New1.tab.before a s = true := by
  have h5 : Cmp5.tab.before a s = true := unparts (wk h (.code Cmp5.yN Cmp5.yB 7 (some .int))) (wks h (.initialized Cmp5.yN.cls :: Cmp5.site))
  have hc : CodL.tab.before a s = true := unparts (wk h (.code CodL.yN CodL.yB 2 (some .byte))) (wks h (.initialized CodL.yN.cls :: CodL.site))
  have q5 : ∀ w ∈ Cmp5.tab :: words, w.before a s = true := fun w hw => (List.mem_cons.mp hw).elim (fun e => e ▸ h5) (h w)
  have h3 : Cmp3.tab.before a s = true := unparts (wk q5 (.code Cmp3.yN Cmp3.yB 6 (some (.array .byte)))) (wks q5 (.initialized Cmp3.yN.cls :: Cmp3.site))
  have q3 : ∀ w ∈ Cmp3.tab :: CodL.tab :: words, w.before a s = true := fun w hw => (List.mem_cons.mp hw).elim (fun e => e ▸ h3) fun hw => (List.mem_cons.mp hw).elim (fun e => e ▸ hc) (h w)
  have h4 : New4.tab.before a s = true := unparts (wk q3 (.code New4.yN New4.yB 6 none)) (wks q3 (.initialized New4.yN.cls :: New4.site))
  have q4 : ∀ w ∈ New4.tab :: words, w.before a s = true := fun w hw => (List.mem_cons.mp hw).elim (fun e => e ▸ h4) (h w)
  exact unparts (wk q4 (.code New1.yN New1.yB 2 none)) (wks q4 (.initialized New1.yN.cls :: New1.site))
/-- the words ride from the start Z to the walk's own state -/
theorem moved {Z s : State} {a0 args : Array Value} (hZ : Z.Warmed39 s.vm) (hw : ∀ d ∈ words, d.before a0 Z = true) : ∀ d ∈ words, d.before args s = true := fun d hd => by
  have q := hw d hd
  have t : ∀ d ∈ words, d = .arrayClass .byte ∨ (d.onTables && d.keepsFace) = true := by decide +kernel
  rcases t d hd with rfl | t
  · exact RoadKit.mvA hZ q
  · exact RoadKit.mv hZ q t
/-- WHAT COMES BACK, over the tables of the start Z: h the heap at the call, h' behind it -/
def Q (Z : State) (x : Addr) (A : Cell) (h : Heap) (v : Option Value) (h' : Heap) (L : List Loc) : Prop := v = none ∧ (∀ y ∈ L, y.base = x) ∧ RoadKit.Keep h h' [x] ∧ h'.size = h.size + 1 ∧ RoadKit.Exa Z h' x ST ∧ RoadKit.Fld Z h' x ST "value" "[B" (.ref h.size) ∧ RoadKit.Fld Z h' x ST "coder" "B" (.int 0) ∧
  (∃ V : Cell, RoadKit.Arr Z h' h.size V .byte ∧ V.vm = .none ∧ Z.vm.findClass "[B" = some V.cls ∧ V.slots.size = A.slots.size ∧ ∀ j, j < A.slots.size → V.slots[j]? = some (.int (lo8 (cv A j)))) ∧
  ∀ (O n d : String) (w : Value), RoadKit.Fld Z h x O n d w → RoadKit.slotOf Z O n d ≠ RoadKit.slotOf Z ST "value" "[B" → RoadKit.slotOf Z O n d ≠ RoadKit.slotOf Z ST "coder" "B" → RoadKit.Fld Z h' x O n d w
/-- **new String(chars) AT A CALL, IN THE ROAD'S FORM**: for specialBack behind newO: x the fresh String, b the char[] with the cell A -/
theorem back {p : Program} {l : Launch} {e : Env} {R : Room} {s : State} {args : Array Value} {below : List Frame} {len W : Nat} {Z : State} {a0 : Array Value} {h : Heap} (hZ : Z.Warmed39 s.vm) (hw : ∀ d ∈ words, d.before a0 Z = true) {kI : Nat} (wi : (Jvm.Cond.instantiable ST kI).before a0 Z = true)
    {x b : Addr} {A : Cell} {z : Int32} {v0 c0 : Value} (E : RoadKit.Exa Z h x ST) (V : RoadKit.Fld Z h x ST "value" "[B" v0) (C : RoadKit.Fld Z h x ST "coder" "B" c0) (K : RoadKit.Arr Z h b A .char) (hty : Typed .char A) (S : RoadKit.Sta Z h ST "COMPACT_STRINGS" "Z" (.int z)) (hz : ¬ z = 0)
    (l0 : 0 < A.slots.size) (l2 : A.slots.size ≤ 536870912) (hp : ∀ i, i < A.slots.size → ¬ 255 < cv A i) (hfr : 4 ≤ R.frames) (hlo : W + 65 ≤ R.locals) :
    Back l R p e below s args New1.yN len W (fun P a => a = #[.ref x, .ref b] ∧ P.U.heap = h ∧ P.cells + 1 ≤ R.cells ∧ P.slots + A.slots.size ≤ R.slots)
      (fun P _ v B => ∃ L, Q Z x A h v B.U.heap L ∧ B.locs = P.locs ++ L ∧ B.cells = P.cells + 1 ∧ B.slots = P.slots + A.slots.size) := by
  intro m meth c P g ig mk a X hg hsize hdg hW hn hp'
  obtain ⟨rfl, rfl, r1, r2⟩ := hp'
  have al : Z.vm.Alike P.U.vm := hZ.alike.trans X.warmed.alike
  obtain ⟨D, cfV, kV, iV, fV, hD, gV, stV, knV, obV, asV, slV⟩ := id V
  obtain ⟨D', cfC, kC, iC, fC, hD', gC, stC, -, -, asC, slC⟩ := id C
  cases hD.symm.trans hD'
  obtain ⟨D2, kD, e1, e2, e3, e4, e5⟩ := id E
  cases hD.symm.trans e1
  obtain ⟨c2, k2, i1, i2, i3, -⟩ := Cond.instantiable_spec wi
  cases e2.symm.trans i1
  cases e3.symm.trans i2
  obtain ⟨kU, u1, u2⟩ := al.2.2 _ _ e3
  have hB : Blank ST x D P.U := ⟨hD, ⟨knV, fun q hq => by rw [hq] at obV; cases obV⟩, by rw [al.findClass]; exact e2, kU, u1, by rw [u2]; exact i3, by rw [u2]; exact e5 i3⟩
  have F1 : Found ST "value" "[B" fV P.U := ⟨SBG.found_only al ⟨cfV, kV, iV, gV⟩, stV⟩
  have F2 : Found ST "coder" "B" fC P.U := ⟨SBG.found_only al ⟨cfC, kC, iC, gC⟩, stC⟩
  have hA : Ch b A P.U := ⟨⟨K.1, State.isArrayOf_alike al K.2.1, K.2.2, by omega⟩, hty⟩
  have hS : StaticIs P.U ST "COMPACT_STRINGS" "Z" (.int z) := by
    obtain ⟨cfS, iS, kS, fS, st, cS, t1, t2, t3, t4, t5, t6, t7⟩ := S
    exact StaticIs.there (s := { Z with heap := P.U.heap }) ⟨cfS, iS, kS, fS, st, cS, t1, t2, t3, t4, t5, (fun q => by rw [q] at t6; cases t6), t7⟩ al rfl
  obtain ⟨v, B, X', ⟨⟨hv, E', V', q1, q2, q3, q4, q5, q6, q7, q8, q9, q10, q11⟩, hl, hc, hs⟩, st⟩ := New1.pays x D fV fC b A z (tab_of (moved hZ hw)) hfr hlo m meth c P g ig mk _ X hg hsize hdg hW hn ⟨r1, r2, rfl, hB, F1, F2, hA, hS, hz, l0, l2, hp⟩
  have al' : Z.vm.Alike B.U.vm := hZ.alike.trans X'.warmed.alike
  have hsz : E'.slots.size = D.slots.size := by
    obtain ⟨-, -, -, kB, w1, w2, w3⟩ := q1
    obtain ⟨kB', y1, y2⟩ := al'.2.2 _ _ e3
    rw [q2.2.1] at w1
    cases w1.symm.trans y1
    rw [w3, e5 i3, y2]
  refine ⟨v, B, X', ⟨_, ⟨hv, ?_, ⟨by omega, fun y cy hy hn' => q10 y cy (by simpa using hn') hy, fun y cy hy => ?_⟩, q11, ⟨E', _, q1.1, by rw [q2.2.1]; exact e2, by rw [q2.2.1]; exact e3, by rw [q2.1]; exact obV, fun _ => by rw [hsz]; exact e5 i3⟩,
    ⟨E', cfV, kV, iV, fV, q1.1, gV, stV, by rw [q2.1]; exact knV, by rw [q2.1]; exact obV, by rw [q2.2.1]; exact asV, q3⟩, ⟨E', cfC, kC, iC, fC, q1.1, gC, stC, by rw [q2.1]; exact knV, by rw [q2.1]; exact obV, by rw [q2.2.1]; exact asC, q4⟩,
    ⟨V', ⟨q5.1, State.isArrayOf_alike al'.symm q5.2.1, q5.2.2.1⟩, q6, by rw [← al'.findClass]; exact q7, q8, fun j hj => by have := q9 j hj; rwa [Nat.zero_add] at this⟩, fun O n d w F n1 n2 => ?_⟩, hl, hc, hs⟩, st⟩
  · intro y hy
    simp only [List.mem_cons, List.not_mem_nil, or_false] at hy
    rcases hy with rfl | rfl <;> rfl
  · by_cases q : y = x
    · subst q
      cases hD.symm.trans hy
      exact ⟨E', q1.1, q2.2.1, q2.1, hsz⟩
    · exact ⟨cy, q10 y cy q hy, rfl, rfl, rfl⟩
  · obtain ⟨D3, cf, k, i, f, g1, g2, g3, g4, g5, g6, g7⟩ := F
    cases hD.symm.trans g1
    simp only [RoadKit.slotOf, g2, gV, gC, Option.map_some, Option.getD_some] at n1 n2
    exact ⟨E', cf, k, i, f, q1.1, g2, g3, by rw [q2.1]; exact g4, by rw [q2.1]; exact g5, by rw [q2.2.1]; exact g6, by rw [q2.2.2 f.slot (by simp [n1, n2])]; exact g7⟩
end StrChars.Road
namespace StrChars.Road
open Jvm Sem ClassFile Op Lib Jvm.Stand Jvm.Free Jvm.Free.XT
/-- WHAT COMES BACK, the byte[] as a list of values -/
def QA (Z : State) (x : Addr) (zn : Int32) (cs : List Int32) (h : Heap) (v : Option Value) (h' : Heap) (L : List Loc) : Prop := v = none ∧ (∀ y ∈ L, y.base = x) ∧ RoadKit.Keep h h' [x] ∧ h'.size = h.size + 1 ∧ RoadKit.Exa Z h' x ST ∧ RoadKit.Fld Z h' x ST "value" "[B" (.ref h.size) ∧ RoadKit.Fld Z h' x ST "coder" "B" (.int 0) ∧
  (∃ kb, Z.vm.findClass "[B" = some kb ∧ RoadKit.Arv Z h' h.size kb .byte zn (cs.map fun c => .int (lo8 c)) (.int 0)) ∧
  ∀ (O n d : String) (w : Value), RoadKit.Fld Z h x O n d w → RoadKit.slotOf Z O n d ≠ RoadKit.slotOf Z ST "value" "[B" → RoadKit.slotOf Z O n d ≠ RoadKit.slotOf Z ST "coder" "B" → RoadKit.Fld Z h' x O n d w
/-- **new String(chars) AT A CALL, THE ARRAYS AS LISTS**: the char[] at b holds cs, not empty, no char above 255 -/
theorem backArv {p : Program} {l : Launch} {e : Env} {R : Room} {s : State} {args : Array Value} {below : List Frame} {len W : Nat} {Z : State} {a0 : Array Value} {h : Heap} (hZ : Z.Warmed39 s.vm) (hw : ∀ d ∈ words, d.before a0 Z = true) {kI : Nat} (wi : (Jvm.Cond.instantiable ST kI).before a0 Z = true)
    {x b : Addr} {k : ClassId} {zn z : Int32} {cs : List Int32} {dv v0 c0 : Value} (E : RoadKit.Exa Z h x ST) (V : RoadKit.Fld Z h x ST "value" "[B" v0) (C : RoadKit.Fld Z h x ST "coder" "B" c0) (K : RoadKit.Arv Z h b k .char zn (cs.map Value.int) dv) (S : RoadKit.Sta Z h ST "COMPACT_STRINGS" "Z" (.int z)) (hz : ¬ z = 0)
    (hlen : zn.toNatClampNeg = cs.length) (h0 : 0 < cs.length) (hbig : cs.length ≤ 536870912) (hall : ∀ c ∈ cs, ¬ 255 < c) (hfr : 4 ≤ R.frames) (hlo : W + 65 ≤ R.locals) :
    Back l R p e below s args New1.yN len W (fun P a => a = #[.ref x, .ref b] ∧ P.U.heap = h ∧ P.cells + 1 ≤ R.cells ∧ P.slots + cs.length ≤ R.slots)
      (fun P _ v B => ∃ L, QA Z x zn cs h v B.U.heap L ∧ B.locs = P.locs ++ L ∧ B.cells = P.cells + 1 ∧ B.slots = P.slots + cs.length) := by
  obtain ⟨A, K1, K2, K3, K4, K5, K6⟩ := K
  have e : A.slots.size = cs.length := K3.trans hlen
  have hat : ∀ (i : Nat) (hi : i < cs.length), A.slots[i]? = some (.int cs[i]) := fun i hi => by rw [K5 i (by omega)]; simp [List.getD_eq_getElem?_getD, hi]
  have hcv : ∀ (i : Nat) (hi : i < cs.length), cv A i = cs[i] := fun i hi => by unfold cv; rw [hat i hi]
  have hty : Typed .char A := fun i v hv => by
    have hi : i < A.slots.size := (Array.getElem?_eq_some_iff.mp hv).1
    have q := K5 i hi
    rw [hv] at q
    rw [Option.some.inj q]
    exact K6 i hi
  refine Back.mono (back hZ hw wi E V C K1 hty S hz (by omega) (by omega) (fun i hi => by rw [hcv i (by omega)]; exact hall _ (List.getElem_mem _)) hfr hlo) (fun P a hp => ⟨hp.1, hp.2.1, hp.2.2.1, by rw [e]; exact hp.2.2.2⟩) (fun P a v B hp hq => ?_)
  obtain ⟨L, ⟨q1, q2, q3, q4, q5, q6, q7, ⟨V', v1, v2, v3, v4, v5⟩, q9⟩, hl, hc, hs⟩ := hq
  refine ⟨L, ⟨q1, q2, q3, q4, q5, q6, q7, ⟨V'.cls, v3, V', v1, rfl, by rw [v4, e, hlen], K4, fun i hi => ?_, fun i hi => ?_⟩, q9⟩, hl, hc, by rw [hs, e]⟩
  · have hi' : i < cs.length := by omega
    rw [v5 i (by omega), hcv i hi']; simp [List.getD_eq_getElem?_getD, hi']
  · have hi' : i < cs.length := by omega
    simp only [List.getD_eq_getElem?_getD, List.getElem?_map, List.getElem?_eq_getElem hi', Option.map_some, Option.getD_some]
    exact fits_lo8 _
end StrChars.Road
namespace StrChars.Road
open Jvm Sem ClassFile Op Lib Jvm.Stand Jvm.Free Jvm.Free.XT
/-- WHAT COMES BACK, in the writer's own shape -/
def QV (Z : State) (x : Addr) (N : Int32) (bs : List Int32) (h : Heap) (n0 : Nat) (v : Option Value) (h' : Heap) (L : List Loc) : Prop := v = none ∧ RoadKit.Fr n0 L ∧ RoadKit.Keep h h' [x] ∧ RoadKit.Exa Z h' x ST ∧ RoadKit.Fld Z h' x ST "coder" "B" (.int 0) ∧
  ∃ (t : Addr) (kb : ClassId), n0 ≤ t ∧ h.size ≤ t ∧ ¬ t = x ∧ RoadKit.Fld Z h' x ST "value" "[B" (.ref t) ∧ RoadKit.Arv Z h' t kb .byte N (bs.map Value.int) (.int 0)
/-- **new String(chars) AT A CALL, FOR THE WRITER**: a char[] of n known ints, each 0 to 255 -/
theorem backV {p : Program} {l : Launch} {e : Env} {R : Room} {s : State} {args : Array Value} {below : List Frame} {len W : Nat} {Z : State} {a0 : Array Value} {h : Heap} (hZ : Z.Warmed39 s.vm) (hw : ∀ d ∈ words, d.before a0 Z = true) {kI : Nat} (wi : (Jvm.Cond.instantiable ST kI).before a0 Z = true)
    {x b : Addr} {kC : ClassId} {cs bs : List Int32} {d v0 c0 : Value} {z N : Int32} {n n0 : Nat} (hx0 : n0 ≤ x) (hh0 : n0 ≤ h.size) (E : RoadKit.Exa Z h x ST) (V : RoadKit.Fld Z h x ST "value" "[B" v0) (C : RoadKit.Fld Z h x ST "coder" "B" c0) (K : RoadKit.Arv Z h b kC .char N (cs.map Value.int) d) (S : RoadKit.Sta Z h ST "COMPACT_STRINGS" "Z" (.int z)) (hz : ¬ z = 0)
    (hn : cs.length = n) (hN : N = Int32.ofNat n) (l0 : 0 < n) (l2 : n ≤ 4000) (hp : ∀ c ∈ cs, ¬ c < 0 ∧ ¬ (255 : Int32) < c) (hb : bs = cs.map (fun c => c.toInt8.toInt32)) (hfr : 4 ≤ R.frames) (hlo : W + 65 ≤ R.locals) :
    Back l R p e below s args (⟨"java/lang/String", "<init>", "([C)V"⟩ : MethodName) len W (fun P a => a = #[.ref x, .ref b] ∧ P.U.heap = h ∧ P.cells + 1 ≤ R.cells ∧ P.slots + n ≤ R.slots)
      (fun P _ v B => ∃ L, QV Z x N bs h n0 v B.U.heap L ∧ B.locs = P.locs ++ L ∧ B.cells = P.cells + 1 ∧ B.slots = P.slots + n) := by
  subst hn hN hb
  refine Back.mono (backArv hZ hw wi E V C K S hz (n32 (by omega)) l0 (by omega) (fun c hc => (hp c hc).2) hfr hlo) (fun P a hp => hp) (fun P a v B hp hq => ?_)
  obtain ⟨L, ⟨q1, q2, q3, q4, q5, q6, q7, ⟨kb, v1, v2⟩, q9⟩, hl, hc, hs⟩ := hq
  exact ⟨L, ⟨q1, fun y hy => by rw [q2 y hy]; exact hx0, q3, q5, q7, h.size, kb, hh0, Nat.le_refl _, Nat.ne_of_gt E.lt, q6, by rw [List.map_map]; exact v2⟩, hl, hc, hs⟩
end StrChars.Road
end Jvm.Pilot.@@N@@
namespace Jvm.Pilot.@@N@@
open Jvm Jvm.ClassFile Sem Op Lib Jvm.Free Jvm.Stand Jvm.LawKit Jvm.RoadKit Bundle Jvm.Pilot.@@N@@.Jvm.D
section Own
variable {p : Program} {l : Launch} {e : Env} {R : Room} {s : State} {m : MethodId} {args : Array Value} {below : List Frame} {meth : Method} {c : Code} {T : State} {locs : List Loc} {cells slots : Nat}
/-- the goal of a walk, as seen from a state on its road -/
def Gl (p : Program) (e : Env) (below : List Frame) (K : Outcome → State → Prop) (A : State) : Prop := ∃ s₂ o, Steps p.tables e below A s₂ ∧ s₂.status = .running ∧ Ended s₂ below o ∧ K o s₂
theorem Gl.up {K : Outcome → State → Prop} {A B : State} (h : ∀ t, Steps p.tables e below B t → Steps p.tables e below A t) (k : Gl p e below K B) : Gl p e below K A := by
  obtain ⟨s2, o, h1, r⟩ := k
  exact ⟨s2, o, h _ h1, r⟩
/-- what a body leaves -/
def Ret (s : State) (rc rs : Nat) (Q : Option Value → Heap → List Loc → Prop) (o : Outcome) (U : State) : Prop := ∃ v L, o = .returned v ∧ Q v U.heap L ∧ FrameEnd s o U L rc rs
variable {rc rs : Nat} {Q : Option Value → Heap → List Loc → Prop} {pc : Nat} {Ls : Array Slot} {rest : List Value}
theorem Gl.retI (X : Stand p l e R s m args below meth c T locs cells slots) (hx : p.tables.exec = Jvm.exec) (hlk : meth.locks = false) {z : Int32} (hret : meth.sig.returnType = some .int) (hd : decode c.code pc = .ok (.ireturn, 1)) (hq : Q (some (.int z)) T.heap locs) (hc : cells ≤ rc) (hs : slots ≤ rs) :
    Gl p e below (Ret s rc rs Q) (T.setTop (mkF m pc Ls (.int z :: rest))) := by
  obtain ⟨fs, hr, hrun, hended, hW, hsame⟩ := X.leave (v := some (.int z)) (fun h => by rw [hret] at h; cases h) hlk
  exact ⟨_, _, retOut X hx hret rfl (Or.inl ⟨rfl, Or.inl rfl, z, rfl⟩) hd hr, hrun, hended, _, _, rfl, hq, ⟨_, rfl⟩, hW, hsame.mono hc hs⟩
theorem Gl.retJ (X : Stand p l e R s m args below meth c T locs cells slots) (hx : p.tables.exec = Jvm.exec) (hlk : meth.locks = false) {z : Int64} (hret : meth.sig.returnType = some .long) (hd : decode c.code pc = .ok (.lreturn, 1)) (hq : Q (some (.long z)) T.heap locs) (hc : cells ≤ rc) (hs : slots ≤ rs) :
    Gl p e below (Ret s rc rs Q) (T.setTop (mkF m pc Ls (.long z :: rest))) := by
  obtain ⟨fs, hr, hrun, hended, hW, hsame⟩ := X.leave (v := some (.long z)) (fun h => by rw [hret] at h; cases h) hlk
  exact ⟨_, _, retOut X hx hret rfl (Or.inr (Or.inl ⟨rfl, rfl, z, rfl⟩)) hd hr, hrun, hended, _, _, rfl, hq, ⟨_, rfl⟩, hW, hsame.mono hc hs⟩
theorem Gl.retN (X : Stand p l e R s m args below meth c T locs cells slots) (hx : p.tables.exec = Jvm.exec) (hlk : meth.locks = false) {z w : Int32} {t : FieldType} (hret : meth.sig.returnType = some t) (ht : t = .boolean ∨ t = .byte ∨ t = .char ∨ t = .short) (hd : decode c.code pc = .ok (.ireturn, 1)) (hn : nar t z = w) (hq : Q (some (.int w)) T.heap locs) (hc : cells ≤ rc) (hs : slots ≤ rs) :
    Gl p e below (Ret s rc rs Q) (T.setTop (mkF m pc Ls (.int z :: rest))) := by
  subst hn
  obtain ⟨fs, hr, hrun, hended, hW, hsame⟩ := X.leave (v := some (.int (nar t z))) (fun h => by rw [hret] at h; cases h) hlk
  exact ⟨_, _, Jvm.RoadKit.retN X hx hret ht hd hr, hrun, hended, _, _, rfl, hq, ⟨_, rfl⟩, hW, hsame.mono hc hs⟩
theorem Gl.ret0 (X : Stand p l e R s m args below meth c T locs cells slots) (hx : p.tables.exec = Jvm.exec) (hlk : meth.locks = false) (hret : meth.sig.returnType = none) (hd : decode c.code pc = .ok (.return_, 1)) (hq : Q none T.heap locs) (hc : cells ≤ rc) (hs : slots ≤ rs) :
    Gl p e below (Ret s rc rs Q) (T.setTop (mkF m pc Ls [])) := by
  obtain ⟨fs, hr, hrun, hended, hW, hsame⟩ := X.leave (v := none) (fun _ => rfl) hlk
  exact ⟨_, _, X.returnOut hx hret hd hr, hrun, hended, _, _, rfl, hq, ⟨_, rfl⟩, hW, hsame.mono hc hs⟩
theorem Gl.retR (X : Stand p l e R s m args below meth c T locs cells slots) (hx : p.tables.exec = Jvm.exec) (hlk : meth.locks = false) {v : Value} {t : FieldType} (hret : meth.sig.returnType = some t) (hd : decode c.code pc = .ok (.areturn, 1)) (ht : t.isReference = true) (hv : v.isRef = true) (hq : Q (some v) T.heap locs) (hc : cells ≤ rc) (hs : slots ≤ rs) :
    Gl p e below (Ret s rc rs Q) (T.setTop (mkF m pc Ls (v :: rest))) := by
  have hn : narrow t v = v := by cases t <;> first | rfl | (cases ht; done) | (cases v <;> first | rfl | (cases hv; done))
  obtain ⟨fs, hr, hrun, hended, hW, hsame⟩ := X.leave (v := some v) (fun h => by rw [hret] at h; cases h) hlk
  exact ⟨_, _, retOut X hx hret hn (Or.inr (Or.inr (Or.inr (Or.inr ⟨rfl, ht, hv⟩)))) hd hr, hrun, hended, _, _, rfl, hq, ⟨_, rfl⟩, hW, hsame.mono hc hs⟩
end Own
theorem own_widen {p : Program} {l : Launch} {e : Env} {R : Room} {s : State} {m : MethodId} {args : Array Value} {below : List Frame} {meth : Method} {c : Code} {T : State} {locs : List Loc} {cells slots cells' slots' : Nat} (X : Stand p l e R s m args below meth c T locs cells slots) (hc : cells ≤ cells') (hs : slots ≤ slots') : Stand p l e R s m args below meth c T locs cells' slots' := { X with same := X.same.mono hc hs }
theorem old_le {Z : State} {n0 : Nat} {h : Heap} (O : Old Z n0 h) : n0 ≤ h.size := by rw [← O.1]; exact O.2.1
theorem b01_ite {q : Prop} [Decidable q] {a b : Int32} (ha : a = 0 ∨ a = 1) (hb : b = 0 ∨ b = 1) : (if q then a else b) = 0 ∨ (if q then a else b) = 1 := by split <;> assumption
theorem nar_b01 {a : Int32} (h : a = 0 ∨ a = 1) : nar .boolean a = a := by rcases h with rfl | rfl <;> rfl
theorem fits_b01 {a : Int32} (h : a = 0 ∨ a = 1) : fits .boolean (.int a) = true := by rcases h with rfl | rfl <;> rfl
theorem own_fld {Z : State} {h : Heap} {a : Addr} {C n d : String} {v w : Value} (q : v = w) (F : Fld Z h a C n d v) : Fld Z h a C n d w := q ▸ F
theorem jc_lt_t {x y : Int64} (h : x < y) : ifCond.holds .lt (lcmpW x y) = true := (if0 _ _).trans (tlt ((lw_lt x y).mpr h)).1
theorem jc_lt_f {x y : Int64} (h : ¬ x < y) : ifCond.holds .lt (lcmpW x y) = false := (if0 _ _).trans (flt (fun q => h ((lw_lt x y).mp q))).1
theorem jc_ge_t {x y : Int64} (h : ¬ x < y) : ifCond.holds .ge (lcmpW x y) = true := (if0 _ _).trans (flt (fun q => h ((lw_lt x y).mp q))).2.1
theorem jc_ge_f {x y : Int64} (h : x < y) : ifCond.holds .ge (lcmpW x y) = false := (if0 _ _).trans (tlt ((lw_lt x y).mpr h)).2.1
theorem jc_gt_t {x y : Int64} (h : y < x) : ifCond.holds .gt (lcmpW x y) = true := (if0 _ _).trans (tlt ((lw_gt x y).mpr h)).2.2.1
theorem jc_gt_f {x y : Int64} (h : ¬ y < x) : ifCond.holds .gt (lcmpW x y) = false := (if0 _ _).trans (flt (fun q => h ((lw_gt x y).mp q))).2.2.1
theorem jc_le_t {x y : Int64} (h : ¬ y < x) : ifCond.holds .le (lcmpW x y) = true := (if0 _ _).trans (flt (fun q => h ((lw_gt x y).mp q))).2.2.2
theorem jc_le_f {x y : Int64} (h : y < x) : ifCond.holds .le (lcmpW x y) = false := (if0 _ _).trans (tlt ((lw_gt x y).mpr h)).2.2.2
theorem jc_eq_t {x y : Int64} (h : x = y) : ifCond.holds .eq (lcmpW x y) = true := (if0 _ _).trans (teq ((lw_eq x y).mpr h)).1
theorem jc_eq_f {x y : Int64} (h : ¬ x = y) : ifCond.holds .eq (lcmpW x y) = false := (if0 _ _).trans (feq (fun q => h ((lw_eq x y).mp q))).1
theorem jc_ne_t {x y : Int64} (h : ¬ x = y) : ifCond.holds .ne (lcmpW x y) = true := (if0 _ _).trans (feq (fun q => h ((lw_eq x y).mp q))).2
theorem jc_ne_f {x y : Int64} (h : x = y) : ifCond.holds .ne (lcmpW x y) = false := (if0 _ _).trans (teq ((lw_eq x y).mpr h)).2
theorem own_mapset (cs : List Int32) (i : Nat) (v : Int32) : (cs.map Value.int).set i (.int v) = (cs.set i v).map Value.int := (List.map_set).symm
theorem d5_0 : decode jdk_30_method_1_code 0 = .ok (.aload_n 0, 1) := by decide +kernel
theorem d5_1 : decode jdk_30_method_1_code 1 = .ok (.invokespecial 1, 3) := by decide +kernel
theorem d5_4 : decode jdk_30_method_1_code 4 = .ok (.return_, 1) := by decide +kernel
theorem pn_java_lang_Record : plainName "java/lang/Record" = true := by first | (simp [plainName, overriddenIn]; done) | decide +kernel
theorem d4_0 : decode prog_33_method_3_code 0 = .ok (.iload_n 0, 1) := by decide +kernel
theorem d4_1 : decode prog_33_method_3_code 1 = .ok (.iconst 1, 1) := by decide +kernel
theorem d4_2 : decode prog_33_method_3_code 2 = .ok (.if_icmp .lt 24, 3) := by decide +kernel
theorem d4_26 : decode prog_33_method_3_code 26 = .ok (.iconst 0, 1) := by decide +kernel
theorem d4_5 : decode prog_33_method_3_code 5 = .ok (.iload_n 0, 1) := by decide +kernel
theorem d4_6 : decode prog_33_method_3_code 6 = .ok (.bipush 99, 2) := by decide +kernel
theorem d4_8 : decode prog_33_method_3_code 8 = .ok (.if_icmp .gt 18, 3) := by decide +kernel
theorem d4_11 : decode prog_33_method_3_code 11 = .ok (.iload_n 1, 1) := by decide +kernel
theorem d4_12 : decode prog_33_method_3_code 12 = .ok (.iconst 1, 1) := by decide +kernel
theorem d4_13 : decode prog_33_method_3_code 13 = .ok (.if_icmp .lt 13, 3) := by decide +kernel
theorem d4_16 : decode prog_33_method_3_code 16 = .ok (.iload_n 1, 1) := by decide +kernel
theorem d4_17 : decode prog_33_method_3_code 17 = .ok (.bipush 99, 2) := by decide +kernel
theorem d4_19 : decode prog_33_method_3_code 19 = .ok (.if_icmp .gt 7, 3) := by decide +kernel
theorem d4_22 : decode prog_33_method_3_code 22 = .ok (.iconst 1, 1) := by decide +kernel
theorem d4_23 : decode prog_33_method_3_code 23 = .ok (.goto 4, 3) := by decide +kernel
theorem d4_27 : decode prog_33_method_3_code 27 = .ok (.ireturn, 1) := by decide +kernel
theorem pn_com_example_khamsin_khamsin_map_Hex : plainName "com/example/khamsin/khamsin/map/Hex" = true := by first | (simp [plainName, overriddenIn]; done) | decide +kernel
theorem d1_0 : decode prog_33_method_1_code 0 = .ok (.aload_n 0, 1) := by decide +kernel
theorem pd_ocV : parseMethodDescriptor "()V" = some ⟨[], none⟩ := by decide +kernel
theorem d1_1 : decode prog_33_method_1_code 1 = .ok (.invokespecial 1, 3) := by decide +kernel
theorem d1_4 : decode prog_33_method_1_code 4 = .ok (.iload_n 1, 1) := by decide +kernel
theorem d1_5 : decode prog_33_method_1_code 5 = .ok (.iload_n 2, 1) := by decide +kernel
theorem pd_oIIcZ : parseMethodDescriptor "(II)Z" = some ⟨[.int, .int], some .boolean⟩ := by decide +kernel
theorem d1_6 : decode prog_33_method_1_code 6 = .ok (.invokestatic 7, 3) := by decide +kernel
theorem d1_9 : decode prog_33_method_1_code 9 = .ok (.ifCond .ne 37, 3) := by decide +kernel
theorem d1_46 : decode prog_33_method_1_code 46 = .ok (.aload_n 0, 1) := by decide +kernel
theorem d1_47 : decode prog_33_method_1_code 47 = .ok (.iload_n 1, 1) := by decide +kernel
theorem d1_48 : decode prog_33_method_1_code 48 = .ok (.putfield 40, 3) := by decide +kernel
theorem d1_51 : decode prog_33_method_1_code 51 = .ok (.aload_n 0, 1) := by decide +kernel
theorem d1_52 : decode prog_33_method_1_code 52 = .ok (.iload_n 2, 1) := by decide +kernel
theorem d1_53 : decode prog_33_method_1_code 53 = .ok (.putfield 44, 3) := by decide +kernel
theorem d1_56 : decode prog_33_method_1_code 56 = .ok (.return_, 1) := by decide +kernel
theorem d6_0 : decode prog_33_method_5_code 0 = .ok (.aload_n 1, 1) := by decide +kernel
theorem d6_1 : decode prog_33_method_5_code 1 = .ok (.instanceof 8, 3) := by decide +kernel
theorem d6_4 : decode prog_33_method_5_code 4 = .ok (.ifCond .eq 34, 3) := by decide +kernel
theorem d6_7 : decode prog_33_method_5_code 7 = .ok (.aload_n 1, 1) := by decide +kernel
theorem d6_8 : decode prog_33_method_5_code 8 = .ok (.checkcast 8, 3) := by decide +kernel
theorem d6_11 : decode prog_33_method_5_code 11 = .ok (.astore_n 2, 1) := by decide +kernel
theorem d6_12 : decode prog_33_method_5_code 12 = .ok (.aload_n 0, 1) := by decide +kernel
theorem d6_13 : decode prog_33_method_5_code 13 = .ok (.getfield 40, 3) := by decide +kernel
theorem d6_16 : decode prog_33_method_5_code 16 = .ok (.aload_n 2, 1) := by decide +kernel
theorem d6_17 : decode prog_33_method_5_code 17 = .ok (.getfield 40, 3) := by decide +kernel
theorem d6_20 : decode prog_33_method_5_code 20 = .ok (.if_icmp .ne 18, 3) := by decide +kernel
theorem d6_23 : decode prog_33_method_5_code 23 = .ok (.aload_n 0, 1) := by decide +kernel
theorem d6_24 : decode prog_33_method_5_code 24 = .ok (.getfield 44, 3) := by decide +kernel
theorem d6_27 : decode prog_33_method_5_code 27 = .ok (.aload_n 2, 1) := by decide +kernel
theorem d6_28 : decode prog_33_method_5_code 28 = .ok (.getfield 44, 3) := by decide +kernel
theorem d6_31 : decode prog_33_method_5_code 31 = .ok (.if_icmp .ne 7, 3) := by decide +kernel
theorem d6_34 : decode prog_33_method_5_code 34 = .ok (.iconst 1, 1) := by decide +kernel
theorem d6_35 : decode prog_33_method_5_code 35 = .ok (.goto 4, 3) := by decide +kernel
theorem d6_38 : decode prog_33_method_5_code 38 = .ok (.iconst 0, 1) := by decide +kernel
theorem d6_39 : decode prog_33_method_5_code 39 = .ok (.ireturn, 1) := by decide +kernel
theorem d7_0 : decode prog_33_method_5_code 0 = .ok (.aload_n 1, 1) := by decide +kernel
theorem d7_1 : decode prog_33_method_5_code 1 = .ok (.instanceof 8, 3) := by decide +kernel
theorem d7_4 : decode prog_33_method_5_code 4 = .ok (.ifCond .eq 34, 3) := by decide +kernel
theorem d7_38 : decode prog_33_method_5_code 38 = .ok (.iconst 0, 1) := by decide +kernel
theorem d7_39 : decode prog_33_method_5_code 39 = .ok (.ireturn, 1) := by decide +kernel
theorem d8_0 : decode prog_33_method_5_code 0 = .ok (.aload_n 1, 1) := by decide +kernel
theorem d8_1 : decode prog_33_method_5_code 1 = .ok (.instanceof 8, 3) := by decide +kernel
theorem d8_4 : decode prog_33_method_5_code 4 = .ok (.ifCond .eq 34, 3) := by decide +kernel
theorem d8_38 : decode prog_33_method_5_code 38 = .ok (.iconst 0, 1) := by decide +kernel
theorem d8_39 : decode prog_33_method_5_code 39 = .ok (.ireturn, 1) := by decide +kernel
theorem pd_oIIcV : parseMethodDescriptor "(II)V" = some ⟨[.int, .int], none⟩ := by decide +kernel
theorem pd_oaCcV : parseMethodDescriptor "([C)V" = some ⟨[(.array .char)], none⟩ := by decide +kernel
theorem pd_oLjava_lang_ObjectcZ : parseMethodDescriptor "(Ljava/lang/Object;)Z" = some ⟨[(.object "java/lang/Object")], some .boolean⟩ := by decide +kernel
theorem pn_com_example_khamsin_khamsin_map_HexEqualsPinLaw : plainName "com/example/khamsin/khamsin/map/HexEqualsPinLaw" = true := by first | (simp [plainName, overriddenIn]; done) | decide +kernel
def Q5 (Z : State) (a0 : Addr) (h0 : Heap) (n0 : Nat) (v : Option Value) (h : Heap) (L : List Loc) : Prop := v = none ∧ L = [] ∧ h = h0
theorem ef5 (m : MethodId) (a0 : Addr) : entryFrame m #[(.ref a0)] 1 = mkF m 0 #[.val (.ref a0)] [] := by first | (simp [entryFrame, mkF, argsToLocals, Value.category]; done) | rfl
set_option maxRecDepth 65536 in
set_option maxHeartbeats 40000000 in
theorem rm5 (l : Launch) (Z : State) (aa : Array Value) (hw : ∀ d ∈ tables_1, d.before aa Z = true) (ws : List Jvm.Cond) (a0 : Addr) (h0 : Heap) (n0 : Nat) (O0 : Old Z n0 h0)  :
    MetFree l (⟨"java/lang/Record", "<init>", "()V"⟩ : MethodName) (head1 (Jvm.Cond.code (⟨"java/lang/Record", "<init>", "()V"⟩ : MethodName) jdk_30_method_1_code 1 none :: ws) ({ frames := 1, cells := 0, slots := 0, locals := 12 } : Room)) (fun a U => a = #[(.ref a0)] ∧ Z.Warmed39 U.vm ∧ U.heap = h0) (fun _ _ _ _ _ => True) (fun _ U o U' => ∃ v L, o = .returned v ∧ Q5 Z a0 h0 n0 v U'.heap L ∧ FrameEnd U o U' L ({ frames := 1, cells := 0, slots := 0, locals := 12 } : Room).cells ({ frames := 1, cells := 0, slots := 0, locals := 12 } : Room).slots) := by
  refine MetFree.of_bodySF (plainFor_of_name pn_java_lang_Record) hisR ?_
  intro p e s m args below meth c s₁ Bd hml0 hP hK
  obtain ⟨rfl, hZ, hh⟩ := hP
  have hx := Bd.exec
  have hby := Bd.bytes
  have hlk := Bd.notSynchronized
  have hml : c.maxLocals = 1 := hml0
  have hown : s.vm.findClass "java/lang/Record" = some m.cls := findClass_of_methodNamed Bd.named
  have hnm := (name_of_methodNamed Bd.named Bd.method).1
  have X0 : Stand p l e ({ frames := 1, cells := 0, slots := 0, locals := 12 } : Room) s m #[(.ref a0)] below meth c s₁ [] 0 0 := Stand.of_body Bd
  have e0 : s₁.heap = h0 := by rw [← hh, Bd.state]; rfl
  have N0 := Fr.nil n0
  show Gl p e below (Ret s 0 0 (Q5 Z a0 h0 n0)) (s₁.setTop (entryFrame m #[(.ref a0)] 1))
  rw [ef5 m a0]
  obtain ⟨args, hargs⟩ : ∃ z : Array Value, z = #[(.ref a0)] := ⟨_, rfl⟩
  rw [← hargs] at X0
  refine Gl.up (B := s₁.setTop (mkF m 1 #[.val (.ref a0)] [(.ref a0)])) (fun t kt => ?_) ?_
  · show Steps p.tables e below (s₁.setTop (mkF m 0 #[.val (.ref a0)] [])) _
    refine XS.aloadN X0.here hx rfl (hb hby d5_0) rfl rfl ?_
    exact kt
  obtain ⟨T1, X1, e1, st1⟩ := initO X0 hx hZ hown (hw _ (List.mem_of_getElem? (i := 12) rfl)) (hw _ (List.mem_of_getElem? (i := 13) rfl)) (hw _ (List.mem_of_getElem? (i := 14) rfl)) e0 (g := (mkF m 1 #[.val (.ref a0)] [(.ref a0)])) rfl (by rw [hml]; rfl) rfl (hb hby d5_1) (by decide) (W := 0) (by show 2 * 0 + _ ≤ _; exact Nat.le_of_eq rfl) (by decide)
  refine Gl.up (B := T1.setTop (mkF m 4 #[.val (.ref a0)] [])) (fun t kt => st1 _ kt) ?_
  refine Gl.ret0 X1 hx hlk Bd.returns (hb hby d5_4) ?_ (by decide) (by decide)
  exact ⟨rfl, rfl, e1⟩
def f4 (p0 : Int32) (p1 : Int32) : Int32 := (if p0 < (1 : Int32) then (0 : Int32) else (if (99 : Int32) < p0 then (0 : Int32) else (if p1 < (1 : Int32) then (0 : Int32) else (if (99 : Int32) < p1 then (0 : Int32) else (1 : Int32)))))
theorem f4_b (p0 : Int32) (p1 : Int32) : f4 p0 p1 = 0 ∨ f4 p0 p1 = 1 := (b01_ite (Or.inl rfl) (b01_ite (Or.inl rfl) (b01_ite (Or.inl rfl) (b01_ite (Or.inl rfl) (Or.inr rfl)))))
def Q4 (Z : State) (p0 : Int32) (p1 : Int32) (h0 : Heap) (n0 : Nat) (v : Option Value) (h : Heap) (L : List Loc) : Prop := v = some (.int (f4 p0 p1)) ∧ L = [] ∧ h = h0
theorem ef4 (m : MethodId) (p0 : Int32) (p1 : Int32) : entryFrame m #[(.int p0), (.int p1)] 2 = mkF m 0 #[.val (.int p0), .val (.int p1)] [] := by first | (simp [entryFrame, mkF, argsToLocals, Value.category]; done) | rfl
set_option maxRecDepth 65536 in
set_option maxHeartbeats 40000000 in
theorem rm4 (l : Launch) (Z : State) (aa : Array Value) (hw : ∀ d ∈ tables_1, d.before aa Z = true) (ws : List Jvm.Cond) (p0 : Int32) (p1 : Int32) (h0 : Heap) (n0 : Nat) (O0 : Old Z n0 h0)  :
    MetFree l (⟨"com/example/khamsin/khamsin/map/Hex", "isOnGrid", "(II)Z"⟩ : MethodName) (head1 (Jvm.Cond.code (⟨"com/example/khamsin/khamsin/map/Hex", "isOnGrid", "(II)Z"⟩ : MethodName) prog_33_method_3_code 2 (some .boolean) :: ws) ({ frames := 0, cells := 0, slots := 0, locals := 0 } : Room)) (fun a U => a = #[(.int p0), (.int p1)] ∧ Z.Warmed39 U.vm ∧ U.heap = h0) (fun _ _ _ _ _ => True) (fun _ U o U' => ∃ v L, o = .returned v ∧ Q4 Z p0 p1 h0 n0 v U'.heap L ∧ FrameEnd U o U' L ({ frames := 0, cells := 0, slots := 0, locals := 0 } : Room).cells ({ frames := 0, cells := 0, slots := 0, locals := 0 } : Room).slots) := by
  refine MetFree.of_bodySF (plainFor_of_name pn_com_example_khamsin_khamsin_map_Hex) hisR ?_
  intro p e s m args below meth c s₁ Bd hml0 hP hK
  obtain ⟨rfl, hZ, hh⟩ := hP
  have hx := Bd.exec
  have hby := Bd.bytes
  have hlk := Bd.notSynchronized
  have hml : c.maxLocals = 2 := hml0
  have hown : s.vm.findClass "com/example/khamsin/khamsin/map/Hex" = some m.cls := findClass_of_methodNamed Bd.named
  have hnm := (name_of_methodNamed Bd.named Bd.method).1
  have X0 : Stand p l e ({ frames := 0, cells := 0, slots := 0, locals := 0 } : Room) s m #[(.int p0), (.int p1)] below meth c s₁ [] 0 0 := Stand.of_body Bd
  have e0 : s₁.heap = h0 := by rw [← hh, Bd.state]; rfl
  have N0 := Fr.nil n0
  show Gl p e below (Ret s 0 0 (Q4 Z p0 p1 h0 n0)) (s₁.setTop (entryFrame m #[(.int p0), (.int p1)] 2))
  rw [ef4 m p0 p1]
  obtain ⟨args, hargs⟩ : ∃ z : Array Value, z = #[(.int p0), (.int p1)] := ⟨_, rfl⟩
  rw [← hargs] at X0
  refine Gl.up (B := s₁.setTop (mkF m 2 #[.val (.int p0), .val (.int p1)] [(.int (1 : Int32)), (.int p0)])) (fun t kt => ?_) ?_
  · show Steps p.tables e below (s₁.setTop (mkF m 0 #[.val (.int p0), .val (.int p1)] [])) _
    refine XS.iloadN X0.here hx rfl (hb hby d4_0) rfl ?_
    show Steps p.tables e below (s₁.setTop (mkF m 1 #[.val (.int p0), .val (.int p1)] [(.int p0)])) _
    refine XS.iconst X0.here hx rfl (hb hby d4_1) ?_
    exact kt
  suffices J1 : ∀ (T1 : State) (v1_s0 : Int32), v1_s0 = (if p0 < (1 : Int32) then (0 : Int32) else (if (99 : Int32) < p0 then (0 : Int32) else (if p1 < (1 : Int32) then (0 : Int32) else (if (99 : Int32) < p1 then (0 : Int32) else (1 : Int32))))) → Stand p l e ({ frames := 0, cells := 0, slots := 0, locals := 0 } : Room) s m args below meth c T1 [] 0 0 → T1.heap = h0 → Gl p e below (Ret s 0 0 (Q4 Z p0 p1 h0 n0)) (T1.setTop (mkF m 27 #[.val (.int p0), .val (.int p1)] [(.int v1_s0)])) by
    by_cases c2_2 : p0 < (1 : Int32)
    · refine Gl.up (B := s₁.setTop (mkF m 27 #[.val (.int p0), .val (.int p1)] [(.int (0 : Int32))])) (fun t kt => ?_) ?_
      · show Steps p.tables e below (s₁.setTop (mkF m 2 #[.val (.int p0), .val (.int p1)] [(.int (1 : Int32)), (.int p0)])) _
        refine XS.icmpYes X0.here hx rfl (pc0 := 2) (pc' := 26) rfl (hb hby d4_2) rfl (tlt c2_2).1 (by decide) (by decide) ?_
        show Steps p.tables e below (s₁.setTop (mkF m 26 #[.val (.int p0), .val (.int p1)] [])) _
        refine XS.iconst X0.here hx rfl (hb hby d4_26) ?_
        exact kt
      exact J1 _ (0 : Int32) (if_pos c2_2).symm X0 e0
    · refine Gl.up (B := s₁.setTop (mkF m 8 #[.val (.int p0), .val (.int p1)] [(.int (99 : Int32)), (.int p0)])) (fun t kt => ?_) ?_
      · show Steps p.tables e below (s₁.setTop (mkF m 2 #[.val (.int p0), .val (.int p1)] [(.int (1 : Int32)), (.int p0)])) _
        refine XS.icmpNo X0.here hx rfl (hb hby d4_2) rfl (flt c2_2).1 ?_
        show Steps p.tables e below (s₁.setTop (mkF m 5 #[.val (.int p0), .val (.int p1)] [])) _
        refine XS.iloadN X0.here hx rfl (hb hby d4_5) rfl ?_
        show Steps p.tables e below (s₁.setTop (mkF m 6 #[.val (.int p0), .val (.int p1)] [(.int p0)])) _
        refine XS.bipush X0.here hx rfl (hb hby d4_6) ?_
        exact kt
      by_cases c8_3 : (99 : Int32) < p0
      · refine Gl.up (B := s₁.setTop (mkF m 27 #[.val (.int p0), .val (.int p1)] [(.int (0 : Int32))])) (fun t kt => ?_) ?_
        · show Steps p.tables e below (s₁.setTop (mkF m 8 #[.val (.int p0), .val (.int p1)] [(.int (99 : Int32)), (.int p0)])) _
          refine XS.icmpYes X0.here hx rfl (pc0 := 8) (pc' := 26) rfl (hb hby d4_8) rfl (tlt c8_3).2.2.1 (by decide) (by decide) ?_
          show Steps p.tables e below (s₁.setTop (mkF m 26 #[.val (.int p0), .val (.int p1)] [])) _
          refine XS.iconst X0.here hx rfl (hb hby d4_26) ?_
          exact kt
        exact J1 _ (0 : Int32) ((if_neg c2_2).trans (if_pos c8_3)).symm X0 e0
      · refine Gl.up (B := s₁.setTop (mkF m 13 #[.val (.int p0), .val (.int p1)] [(.int (1 : Int32)), (.int p1)])) (fun t kt => ?_) ?_
        · show Steps p.tables e below (s₁.setTop (mkF m 8 #[.val (.int p0), .val (.int p1)] [(.int (99 : Int32)), (.int p0)])) _
          refine XS.icmpNo X0.here hx rfl (hb hby d4_8) rfl (flt c8_3).2.2.1 ?_
          show Steps p.tables e below (s₁.setTop (mkF m 11 #[.val (.int p0), .val (.int p1)] [])) _
          refine XS.iloadN X0.here hx rfl (hb hby d4_11) rfl ?_
          show Steps p.tables e below (s₁.setTop (mkF m 12 #[.val (.int p0), .val (.int p1)] [(.int p1)])) _
          refine XS.iconst X0.here hx rfl (hb hby d4_12) ?_
          exact kt
        by_cases c13_4 : p1 < (1 : Int32)
        · refine Gl.up (B := s₁.setTop (mkF m 27 #[.val (.int p0), .val (.int p1)] [(.int (0 : Int32))])) (fun t kt => ?_) ?_
          · show Steps p.tables e below (s₁.setTop (mkF m 13 #[.val (.int p0), .val (.int p1)] [(.int (1 : Int32)), (.int p1)])) _
            refine XS.icmpYes X0.here hx rfl (pc0 := 13) (pc' := 26) rfl (hb hby d4_13) rfl (tlt c13_4).1 (by decide) (by decide) ?_
            show Steps p.tables e below (s₁.setTop (mkF m 26 #[.val (.int p0), .val (.int p1)] [])) _
            refine XS.iconst X0.here hx rfl (hb hby d4_26) ?_
            exact kt
          exact J1 _ (0 : Int32) (((if_neg c2_2).trans (if_neg c8_3)).trans (if_pos c13_4)).symm X0 e0
        · refine Gl.up (B := s₁.setTop (mkF m 19 #[.val (.int p0), .val (.int p1)] [(.int (99 : Int32)), (.int p1)])) (fun t kt => ?_) ?_
          · show Steps p.tables e below (s₁.setTop (mkF m 13 #[.val (.int p0), .val (.int p1)] [(.int (1 : Int32)), (.int p1)])) _
            refine XS.icmpNo X0.here hx rfl (hb hby d4_13) rfl (flt c13_4).1 ?_
            show Steps p.tables e below (s₁.setTop (mkF m 16 #[.val (.int p0), .val (.int p1)] [])) _
            refine XS.iloadN X0.here hx rfl (hb hby d4_16) rfl ?_
            show Steps p.tables e below (s₁.setTop (mkF m 17 #[.val (.int p0), .val (.int p1)] [(.int p1)])) _
            refine XS.bipush X0.here hx rfl (hb hby d4_17) ?_
            exact kt
          by_cases c19_5 : (99 : Int32) < p1
          · refine Gl.up (B := s₁.setTop (mkF m 27 #[.val (.int p0), .val (.int p1)] [(.int (0 : Int32))])) (fun t kt => ?_) ?_
            · show Steps p.tables e below (s₁.setTop (mkF m 19 #[.val (.int p0), .val (.int p1)] [(.int (99 : Int32)), (.int p1)])) _
              refine XS.icmpYes X0.here hx rfl (pc0 := 19) (pc' := 26) rfl (hb hby d4_19) rfl (tlt c19_5).2.2.1 (by decide) (by decide) ?_
              show Steps p.tables e below (s₁.setTop (mkF m 26 #[.val (.int p0), .val (.int p1)] [])) _
              refine XS.iconst X0.here hx rfl (hb hby d4_26) ?_
              exact kt
            exact J1 _ (0 : Int32) ((((if_neg c2_2).trans (if_neg c8_3)).trans (if_neg c13_4)).trans (if_pos c19_5)).symm X0 e0
          · refine Gl.up (B := s₁.setTop (mkF m 27 #[.val (.int p0), .val (.int p1)] [(.int (1 : Int32))])) (fun t kt => ?_) ?_
            · show Steps p.tables e below (s₁.setTop (mkF m 19 #[.val (.int p0), .val (.int p1)] [(.int (99 : Int32)), (.int p1)])) _
              refine XS.icmpNo X0.here hx rfl (hb hby d4_19) rfl (flt c19_5).2.2.1 ?_
              show Steps p.tables e below (s₁.setTop (mkF m 22 #[.val (.int p0), .val (.int p1)] [])) _
              refine XS.iconst X0.here hx rfl (hb hby d4_22) ?_
              show Steps p.tables e below (s₁.setTop (mkF m 23 #[.val (.int p0), .val (.int p1)] [(.int (1 : Int32))])) _
              refine XS.goto X0.here hx rfl (pc0 := 23) (pc' := 27) rfl (hb hby d4_23) (by decide) (by decide) ?_
              exact kt
            exact J1 _ (1 : Int32) ((((if_neg c2_2).trans (if_neg c8_3)).trans (if_neg c13_4)).trans (if_neg c19_5)).symm X0 e0
  intro T1 v1_s0 hv1_s0 X1 e1
  subst hv1_s0
  refine Gl.retN X1 hx hlk (t := .boolean) Bd.returns (by simp) (hb hby d4_27) (w := (if p0 < (1 : Int32) then (0 : Int32) else (if (99 : Int32) < p0 then (0 : Int32) else (if p1 < (1 : Int32) then (0 : Int32) else (if (99 : Int32) < p1 then (0 : Int32) else (1 : Int32)))))) (nar_b01 (b01_ite (Or.inl rfl) (b01_ite (Or.inl rfl) (b01_ite (Or.inl rfl) (b01_ite (Or.inl rfl) (Or.inr rfl)))))) ?_ (by decide) (by decide)
  exact ⟨congrArg (fun z => some (Value.int z)) (show (if p0 < (1 : Int32) then (0 : Int32) else (if (99 : Int32) < p0 then (0 : Int32) else (if p1 < (1 : Int32) then (0 : Int32) else (if (99 : Int32) < p1 then (0 : Int32) else (1 : Int32))))) = f4 p0 p1 from rfl), rfl, e1⟩
def Q1 (Z : State) (a0 : Addr) (p1 : Int32) (p2 : Int32) (o0 : Int32) (o1 : Int32) (h0 : Heap) (n0 : Nat) (v : Option Value) (h : Heap) (L : List Loc) : Prop := v = none ∧ Fr n0 L ∧ Keep h0 h [a0] ∧ Fld Z h a0 "com/example/khamsin/khamsin/map/Hex" "column" "I" (.int p1) ∧ Fld Z h a0 "com/example/khamsin/khamsin/map/Hex" "row" "I" (.int p2)
theorem ef1 (m : MethodId) (a0 : Addr) (p1 : Int32) (p2 : Int32) : entryFrame m #[(.ref a0), (.int p1), (.int p2)] 3 = mkF m 0 #[.val (.ref a0), .val (.int p1), .val (.int p2)] [] := by first | (simp [entryFrame, mkF, argsToLocals, Value.category]; done) | rfl
set_option maxRecDepth 65536 in
set_option maxHeartbeats 40000000 in
theorem rm1 (l : Launch) (Z : State) (aa : Array Value) (hw : ∀ d ∈ tables_1, d.before aa Z = true) (ws : List Jvm.Cond) (a0 : Addr) (p1 : Int32) (p2 : Int32) (o0 : Int32) (o1 : Int32) (h0 : Heap) (n0 : Nat) (O0 : Old Z n0 h0) (E_a0 : Exa Z h0 a0 "com/example/khamsin/khamsin/map/Hex") (F_a0_column : Fld Z h0 a0 "com/example/khamsin/khamsin/map/Hex" "column" "I" (.int o0)) (F_a0_row : Fld Z h0 a0 "com/example/khamsin/khamsin/map/Hex" "row" "I" (.int o1)) (g_a0 : n0 ≤ a0) (hg : ¬ f4 p1 p2 = (0 : Int32)) :
    MetFree l (⟨"com/example/khamsin/khamsin/map/Hex", "<init>", "(II)V"⟩ : MethodName) (head1 (Jvm.Cond.code (⟨"com/example/khamsin/khamsin/map/Hex", "<init>", "(II)V"⟩ : MethodName) prog_33_method_1_code 3 none :: ws) ({ frames := 2, cells := 0, slots := 0, locals := 24 } : Room)) (fun a U => a = #[(.ref a0), (.int p1), (.int p2)] ∧ Z.Warmed39 U.vm ∧ U.heap = h0) (fun _ _ _ _ _ => True) (fun _ U o U' => ∃ v L, o = .returned v ∧ Q1 Z a0 p1 p2 o0 o1 h0 n0 v U'.heap L ∧ FrameEnd U o U' L ({ frames := 2, cells := 0, slots := 0, locals := 24 } : Room).cells ({ frames := 2, cells := 0, slots := 0, locals := 24 } : Room).slots) := by
  refine MetFree.of_bodySF (plainFor_of_name pn_com_example_khamsin_khamsin_map_Hex) hisR ?_
  intro p e s m args below meth c s₁ Bd hml0 hP hK
  obtain ⟨rfl, hZ, hh⟩ := hP
  have hx := Bd.exec
  have hby := Bd.bytes
  have hlk := Bd.notSynchronized
  have hml : c.maxLocals = 3 := hml0
  have hown : s.vm.findClass "com/example/khamsin/khamsin/map/Hex" = some m.cls := findClass_of_methodNamed Bd.named
  have hnm := (name_of_methodNamed Bd.named Bd.method).1
  have X0 : Stand p l e ({ frames := 2, cells := 0, slots := 0, locals := 24 } : Room) s m #[(.ref a0), (.int p1), (.int p2)] below meth c s₁ [] 0 0 := Stand.of_body Bd
  have e0 : s₁.heap = h0 := by rw [← hh, Bd.state]; rfl
  have N0 := Fr.nil n0
  show Gl p e below (Ret s 0 0 (Q1 Z a0 p1 p2 o0 o1 h0 n0)) (s₁.setTop (entryFrame m #[(.ref a0), (.int p1), (.int p2)] 3))
  rw [ef1 m a0 p1 p2]
  obtain ⟨args, hargs⟩ : ∃ z : Array Value, z = #[(.ref a0), (.int p1), (.int p2)] := ⟨_, rfl⟩
  rw [← hargs] at X0
  have K0 := Keep.refl h0 [a0]
  refine Gl.up (B := s₁.setTop (mkF m 1 #[.val (.ref a0), .val (.int p1), .val (.int p2)] [(.ref a0)])) (fun t kt => ?_) ?_
  · show Steps p.tables e below (s₁.setTop (mkF m 0 #[.val (.ref a0), .val (.int p1), .val (.int p2)] [])) _
    refine XS.aloadN X0.here hx rfl (hb hby d1_0) rfl rfl ?_
    exact kt
  obtain ⟨_, _, ⟨T1, L1, k1, n1⟩, -, X1, ⟨Lc1, hQ1, l1, y1, z1⟩, st1⟩ := X0.specialBack hx (y := (⟨"java/lang/Record", "<init>", "()V"⟩ : MethodName)) rfl hown (mvT hZ (hw _ (List.mem_of_getElem? (i := 7) rfl))) (mvT hZ (hw _ (List.mem_of_getElem? (i := 8) rfl))) (mvT hZ (hw _ (List.mem_of_getElem? (i := 11) rfl))) (by decide) (backOf (W := 0) (rm5 l Z aa hw [] a0 h0 n0 O0) hZ (hw _ (List.mem_of_getElem? (i := 11) rfl)) (hw _ (List.mem_of_getElem? (i := 10) rfl)) (by decide) (by decide)) (g := (mkF m 1 #[.val (.ref a0), .val (.int p1), .val (.int p2)] [(.ref a0)])) rfl (by rw [hml]; rfl) (Steps.refl _) (a := a0) (argsL := []) (rest := []) (lenOf pd_ocV rfl) rfl (by show 2 * 0 + _ ≤ _; exact Nat.le_of_eq rfl) (hb hby d1_1) (fun _ _ => ⟨rfl, e0, (by decide : 0 + 0 ≤ _), (by decide : 0 + 0 ≤ _)⟩)
  dsimp only [Pt.U, Pt.locs, Pt.cells, Pt.slots] at X1 l1 y1 z1 st1 hQ1
  subst l1 y1 z1
  obtain ⟨rfl, rfl, e1⟩ := hQ1
  try rw [List.append_nil] at X1
  refine Gl.up (B := T1.setTop (mkF m 4 #[.val (.ref a0), .val (.int p1), .val (.int p2)] [])) (fun t kt => st1.trans kt) ?_
  refine Gl.up (B := T1.setTop (mkF m 6 #[.val (.ref a0), .val (.int p1), .val (.int p2)] [(.int p2), (.int p1)])) (fun t kt => ?_) ?_
  · show Steps p.tables e below (T1.setTop (mkF m 4 #[.val (.ref a0), .val (.int p1), .val (.int p2)] [])) _
    refine XS.iloadN X1.here hx rfl (hb hby d1_4) rfl ?_
    show Steps p.tables e below (T1.setTop (mkF m 5 #[.val (.ref a0), .val (.int p1), .val (.int p2)] [(.int p1)])) _
    refine XS.iloadN X1.here hx rfl (hb hby d1_5) rfl ?_
    exact kt
  obtain ⟨_, _, ⟨T2, L2, k2, n2⟩, -, X2, ⟨Lc2, hQ2, l2, y2, z2⟩, st2⟩ := Jvm.LawKit.callS X1 hx (y := (⟨"com/example/khamsin/khamsin/map/Hex", "isOnGrid", "(II)Z"⟩ : MethodName)) hown (mvT hZ (hw _ (List.mem_of_getElem? (i := 15) rfl))) (mvT hZ (hw _ (List.mem_of_getElem? (i := 16) rfl))) (mvT hZ (hw _ (List.mem_of_getElem? (i := 3) rfl))) (mvT hZ (hw _ (List.mem_of_getElem? (i := 17) rfl))) (by decide) (backOf (W := 0) (rm4 l Z aa hw [] p1 p2 h0 n0 O0) hZ (hw _ (List.mem_of_getElem? (i := 17) rfl)) (hw _ (List.mem_of_getElem? (i := 3) rfl)) (by decide) (by decide)) (g := (mkF m 6 #[.val (.ref a0), .val (.int p1), .val (.int p2)] [(.int p2), (.int p1)])) rfl (by rw [hml]; rfl) (argsL := [(.int p1), (.int p2)]) (rest := []) (lenOf pd_oIIcZ rfl) rfl (by show 2 * 0 + _ ≤ _; exact Nat.le_of_eq rfl) (hb hby d1_6) (fun _ _ => ⟨rfl, e1, (by decide : 0 + 0 ≤ _), (by decide : 0 + 0 ≤ _)⟩)
  dsimp only [Pt.U, Pt.locs, Pt.cells, Pt.slots] at X2 l2 y2 z2 st2 hQ2
  subst l2 y2 z2
  obtain ⟨rfl, rfl, e2⟩ := hQ2
  try rw [List.append_nil] at X2
  refine Gl.up (B := T2.setTop (mkF m 9 #[.val (.ref a0), .val (.int p1), .val (.int p2)] [(.int (f4 p1 p2))])) (fun t kt => st2 _ kt) ?_
  refine Gl.up (B := T2.setTop (mkF m 48 #[.val (.ref a0), .val (.int p1), .val (.int p2)] [(.int p1), (.ref a0)])) (fun t kt => ?_) ?_
  · show Steps p.tables e below (T2.setTop (mkF m 9 #[.val (.ref a0), .val (.int p1), .val (.int p2)] [(.int (f4 p1 p2))])) _
    refine XS.ifYes X2.here hx rfl (pc0 := 9) (pc' := 46) rfl (hb hby d1_9) rfl ((if0 _ _).trans (feq hg).2) (by decide) (by decide) ?_
    show Steps p.tables e below (T2.setTop (mkF m 46 #[.val (.ref a0), .val (.int p1), .val (.int p2)] [])) _
    refine XS.aloadN X2.here hx rfl (hb hby d1_46) rfl rfl ?_
    show Steps p.tables e below (T2.setTop (mkF m 47 #[.val (.ref a0), .val (.int p1), .val (.int p2)] [(.ref a0)])) _
    refine XS.iloadN X2.here hx rfl (hb hby d1_47) rfl ?_
    exact kt
  obtain ⟨T3, h3, X3, e3, W3, st3⟩ := putF X2 hx hZ hown (host := "") (Or.inl (hw _ (List.mem_of_getElem? (i := 18) rfl))) Via.refl e2 F_a0_column E_a0 (Or.inr ⟨(hw _ (List.mem_of_getElem? (i := 19) rfl)), rfl, hnm⟩) (hw _ (List.mem_of_getElem? (i := 2) rfl)) (ty := .int) (by decide) rfl rfl (g := (mkF m 48 #[.val (.ref a0), .val (.int p1), .val (.int p2)] [(.int p1), (.ref a0)])) rfl rfl (hb hby d1_48)
  have N3 := Fr.snoc X3 N0 g_a0
  have O3 := O0.wr W3 g_a0
  have K3 : Keep h0 h3 [a0] := K0.wr W3 (Or.inl (List.mem_of_getElem? (i := 0) rfl))
  have E_a0_3 := E_a0.wr W3
  have F_a0_row_3 := F_a0_row.other W3 (Or.inr (slot_ne (Or.inr (hw _ (List.mem_of_getElem? (i := 21) rfl))) (Or.inr (hw _ (List.mem_of_getElem? (i := 19) rfl))) (by decide) (t := .int) (t' := .int) (by decide) (by decide)))
  have F_a0_column_3 := F_a0_column.same W3
  refine Gl.up (B := T3.setTop (mkF m 51 #[.val (.ref a0), .val (.int p1), .val (.int p2)] [])) (fun t kt => st3 _ kt) ?_
  refine Gl.up (B := T3.setTop (mkF m 53 #[.val (.ref a0), .val (.int p1), .val (.int p2)] [(.int p2), (.ref a0)])) (fun t kt => ?_) ?_
  · show Steps p.tables e below (T3.setTop (mkF m 51 #[.val (.ref a0), .val (.int p1), .val (.int p2)] [])) _
    refine XS.aloadN X3.here hx rfl (hb hby d1_51) rfl rfl ?_
    show Steps p.tables e below (T3.setTop (mkF m 52 #[.val (.ref a0), .val (.int p1), .val (.int p2)] [(.ref a0)])) _
    refine XS.iloadN X3.here hx rfl (hb hby d1_52) rfl ?_
    exact kt
  obtain ⟨T4, h4, X4, e4, W4, st4⟩ := putF X3 hx hZ hown (host := "") (Or.inl (hw _ (List.mem_of_getElem? (i := 20) rfl))) Via.refl e3 F_a0_row_3 E_a0_3 (Or.inr ⟨(hw _ (List.mem_of_getElem? (i := 21) rfl)), rfl, hnm⟩) (hw _ (List.mem_of_getElem? (i := 2) rfl)) (ty := .int) (by decide) rfl rfl (g := (mkF m 53 #[.val (.ref a0), .val (.int p1), .val (.int p2)] [(.int p2), (.ref a0)])) rfl rfl (hb hby d1_53)
  have N4 := Fr.snoc X4 N3 g_a0
  have O4 := O3.wr W4 g_a0
  have K4 : Keep h0 h4 [a0] := K3.wr W4 (Or.inl (List.mem_of_getElem? (i := 0) rfl))
  have E_a0_4 := E_a0_3.wr W4
  have F_a0_column_4 := F_a0_column_3.other W4 (Or.inr (slot_ne (Or.inr (hw _ (List.mem_of_getElem? (i := 19) rfl))) (Or.inr (hw _ (List.mem_of_getElem? (i := 21) rfl))) (by decide) (t := .int) (t' := .int) (by decide) (by decide)))
  have F_a0_row_4 := F_a0_row_3.same W4
  refine Gl.up (B := T4.setTop (mkF m 56 #[.val (.ref a0), .val (.int p1), .val (.int p2)] [])) (fun t kt => st4 _ kt) ?_
  refine Gl.ret0 X4 hx hlk Bd.returns (hb hby d1_56) ?_ (by decide) (by decide)
  show Q1 Z a0 p1 p2 o0 o1 h0 n0 _ T4.heap _; rw [e4]; exact ⟨rfl, N4, K4, F_a0_column_4, F_a0_row_4⟩
def f6 (c0 : Int32) (r0 : Int32) (c1 : Int32) (r1 : Int32) : Int32 := (if c0 = c1 then (if r0 = r1 then (1 : Int32) else (0 : Int32)) else (0 : Int32))
theorem f6_b (c0 : Int32) (r0 : Int32) (c1 : Int32) (r1 : Int32) : f6 c0 r0 c1 r1 = 0 ∨ f6 c0 r0 c1 r1 = 1 := (b01_ite (b01_ite (Or.inr rfl) (Or.inl rfl)) (Or.inl rfl))
def Q6 (Z : State) (a0 : Addr) (a1 : Addr) (c0 : Int32) (r0 : Int32) (c1 : Int32) (r1 : Int32) (h0 : Heap) (n0 : Nat) (v : Option Value) (h : Heap) (L : List Loc) : Prop := v = some (.int (f6 c0 r0 c1 r1)) ∧ L = [] ∧ h = h0
theorem ef6 (m : MethodId) (a0 : Addr) (a1 : Addr) : entryFrame m #[(.ref a0), (.ref a1)] 3 = mkF m 0 #[.val (.ref a0), .val (.ref a1), .unset] [] := by first | (simp [entryFrame, mkF, argsToLocals, Value.category]; done) | rfl
set_option maxRecDepth 65536 in
set_option maxHeartbeats 40000000 in
theorem rm6 (l : Launch) (Z : State) (aa : Array Value) (hw : ∀ d ∈ tables_1, d.before aa Z = true) (ws : List Jvm.Cond) (a0 : Addr) (a1 : Addr) (c0 : Int32) (r0 : Int32) (c1 : Int32) (r1 : Int32) (h0 : Heap) (n0 : Nat) (O0 : Old Z n0 h0) (E_a0 : Exa Z h0 a0 "com/example/khamsin/khamsin/map/Hex") (F_a0_column : Fld Z h0 a0 "com/example/khamsin/khamsin/map/Hex" "column" "I" (.int c0)) (F_a0_row : Fld Z h0 a0 "com/example/khamsin/khamsin/map/Hex" "row" "I" (.int r0)) (E_a1 : Exa Z h0 a1 "com/example/khamsin/khamsin/map/Hex") (F_a1_column : Fld Z h0 a1 "com/example/khamsin/khamsin/map/Hex" "column" "I" (.int c1)) (F_a1_row : Fld Z h0 a1 "com/example/khamsin/khamsin/map/Hex" "row" "I" (.int r1)) :
    MetFree l (⟨"com/example/khamsin/khamsin/map/Hex", "equals", "(Ljava/lang/Object;)Z"⟩ : MethodName) (head1 (Jvm.Cond.code (⟨"com/example/khamsin/khamsin/map/Hex", "equals", "(Ljava/lang/Object;)Z"⟩ : MethodName) prog_33_method_5_code 3 (some .boolean) :: ws) ({ frames := 0, cells := 0, slots := 0, locals := 0 } : Room)) (fun a U => a = #[(.ref a0), (.ref a1)] ∧ Z.Warmed39 U.vm ∧ U.heap = h0) (fun _ _ _ _ _ => True) (fun _ U o U' => ∃ v L, o = .returned v ∧ Q6 Z a0 a1 c0 r0 c1 r1 h0 n0 v U'.heap L ∧ FrameEnd U o U' L ({ frames := 0, cells := 0, slots := 0, locals := 0 } : Room).cells ({ frames := 0, cells := 0, slots := 0, locals := 0 } : Room).slots) := by
  refine MetFree.of_bodySF (plainFor_of_name pn_com_example_khamsin_khamsin_map_Hex) hisR ?_
  intro p e s m args below meth c s₁ Bd hml0 hP hK
  obtain ⟨rfl, hZ, hh⟩ := hP
  have hx := Bd.exec
  have hby := Bd.bytes
  have hlk := Bd.notSynchronized
  have hml : c.maxLocals = 3 := hml0
  have hown : s.vm.findClass "com/example/khamsin/khamsin/map/Hex" = some m.cls := findClass_of_methodNamed Bd.named
  have hnm := (name_of_methodNamed Bd.named Bd.method).1
  have X0 : Stand p l e ({ frames := 0, cells := 0, slots := 0, locals := 0 } : Room) s m #[(.ref a0), (.ref a1)] below meth c s₁ [] 0 0 := Stand.of_body Bd
  have e0 : s₁.heap = h0 := by rw [← hh, Bd.state]; rfl
  have N0 := Fr.nil n0
  show Gl p e below (Ret s 0 0 (Q6 Z a0 a1 c0 r0 c1 r1 h0 n0)) (s₁.setTop (entryFrame m #[(.ref a0), (.ref a1)] 3))
  rw [ef6 m a0 a1]
  obtain ⟨args, hargs⟩ : ∃ z : Array Value, z = #[(.ref a0), (.ref a1)] := ⟨_, rfl⟩
  rw [← hargs] at X0
  refine Gl.up (B := s₁.setTop (mkF m 1 #[.val (.ref a0), .val (.ref a1), .unset] [(.ref a1)])) (fun t kt => ?_) ?_
  · show Steps p.tables e below (s₁.setTop (mkF m 0 #[.val (.ref a0), .val (.ref a1), .unset] [])) _
    refine XS.aloadN X0.here hx rfl (hb hby d6_0) rfl rfl ?_
    exact kt
  obtain ⟨T1, X1, e1, st1⟩ := instY X0 hx hZ hown (hw _ (List.mem_of_getElem? (i := 58) rfl)) e0 (Ins.self E_a1) (g := (mkF m 1 #[.val (.ref a0), .val (.ref a1), .unset] [(.ref a1)])) rfl rfl (hb hby d6_1)
  refine Gl.up (B := T1.setTop (mkF m 4 #[.val (.ref a0), .val (.ref a1), .unset] [(.int (1 : Int32))])) (fun t kt => st1 _ kt) ?_
  refine Gl.up (B := T1.setTop (mkF m 8 #[.val (.ref a0), .val (.ref a1), .unset] [(.ref a1)])) (fun t kt => ?_) ?_
  · show Steps p.tables e below (T1.setTop (mkF m 4 #[.val (.ref a0), .val (.ref a1), .unset] [(.int (1 : Int32))])) _
    refine XS.ifNo X1.here hx rfl (hb hby d6_4) rfl ((if0 _ _).trans (feq (by decide : ¬ ((1 : Int32) = (0 : Int32)))).1) ?_
    show Steps p.tables e below (T1.setTop (mkF m 7 #[.val (.ref a0), .val (.ref a1), .unset] [])) _
    refine XS.aloadN X1.here hx rfl (hb hby d6_7) rfl rfl ?_
    exact kt
  obtain ⟨T2, X2, e2, st2⟩ := castY X1 hx hZ hown (hw _ (List.mem_of_getElem? (i := 58) rfl)) e1 (Ins.self E_a1) (g := (mkF m 8 #[.val (.ref a0), .val (.ref a1), .unset] [(.ref a1)])) rfl rfl (hb hby d6_8)
  refine Gl.up (B := T2.setTop (mkF m 11 #[.val (.ref a0), .val (.ref a1), .unset] [(.ref a1)])) (fun t kt => st2 _ kt) ?_
  refine Gl.up (B := T2.setTop (mkF m 13 #[.val (.ref a0), .val (.ref a1), .val (.ref a1)] [(.ref a0)])) (fun t kt => ?_) ?_
  · show Steps p.tables e below (T2.setTop (mkF m 11 #[.val (.ref a0), .val (.ref a1), .unset] [(.ref a1)])) _
    refine XS.astoreN X2.here hx rfl (hb hby d6_11) rfl rfl (l' := #[.val (.ref a0), .val (.ref a1), .val (.ref a1)]) rfl ?_
    show Steps p.tables e below (T2.setTop (mkF m 12 #[.val (.ref a0), .val (.ref a1), .val (.ref a1)] [])) _
    refine XS.aloadN X2.here hx rfl (hb hby d6_12) rfl rfl ?_
    exact kt
  obtain ⟨T3, X3, e3, st3⟩ := getF X2 hx hZ hown (host := "") (Or.inl (hw _ (List.mem_of_getElem? (i := 18) rfl))) Via.refl e2 F_a0_column (g := (mkF m 13 #[.val (.ref a0), .val (.ref a1), .val (.ref a1)] [(.ref a0)])) rfl rfl (hb hby d6_13)
  refine Gl.up (B := T3.setTop (mkF m 16 #[.val (.ref a0), .val (.ref a1), .val (.ref a1)] [(.int c0)])) (fun t kt => st3 _ kt) ?_
  refine Gl.up (B := T3.setTop (mkF m 17 #[.val (.ref a0), .val (.ref a1), .val (.ref a1)] [(.ref a1), (.int c0)])) (fun t kt => ?_) ?_
  · show Steps p.tables e below (T3.setTop (mkF m 16 #[.val (.ref a0), .val (.ref a1), .val (.ref a1)] [(.int c0)])) _
    refine XS.aloadN X3.here hx rfl (hb hby d6_16) rfl rfl ?_
    exact kt
  obtain ⟨T4, X4, e4, st4⟩ := getF X3 hx hZ hown (host := "") (Or.inl (hw _ (List.mem_of_getElem? (i := 18) rfl))) Via.refl e3 F_a1_column (g := (mkF m 17 #[.val (.ref a0), .val (.ref a1), .val (.ref a1)] [(.ref a1), (.int c0)])) rfl rfl (hb hby d6_17)
  refine Gl.up (B := T4.setTop (mkF m 20 #[.val (.ref a0), .val (.ref a1), .val (.ref a1)] [(.int c1), (.int c0)])) (fun t kt => st4 _ kt) ?_
  suffices J5 : ∀ (T5 : State) (v5_s0 : Int32), v5_s0 = (if c0 = c1 then (if r0 = r1 then (1 : Int32) else (0 : Int32)) else (0 : Int32)) → Stand p l e ({ frames := 0, cells := 0, slots := 0, locals := 0 } : Room) s m args below meth c T5 [] 0 0 → T5.heap = h0 → Gl p e below (Ret s 0 0 (Q6 Z a0 a1 c0 r0 c1 r1 h0 n0)) (T5.setTop (mkF m 39 #[.val (.ref a0), .val (.ref a1), .val (.ref a1)] [(.int v5_s0)])) by
    by_cases c20_6 : c0 = c1
    · refine Gl.up (B := T4.setTop (mkF m 24 #[.val (.ref a0), .val (.ref a1), .val (.ref a1)] [(.ref a0)])) (fun t kt => ?_) ?_
      · show Steps p.tables e below (T4.setTop (mkF m 20 #[.val (.ref a0), .val (.ref a1), .val (.ref a1)] [(.int c1), (.int c0)])) _
        refine XS.icmpNo X4.here hx rfl (hb hby d6_20) rfl (teq c20_6).2 ?_
        show Steps p.tables e below (T4.setTop (mkF m 23 #[.val (.ref a0), .val (.ref a1), .val (.ref a1)] [])) _
        refine XS.aloadN X4.here hx rfl (hb hby d6_23) rfl rfl ?_
        exact kt
      obtain ⟨T7, X7, e7, st7⟩ := getF X4 hx hZ hown (host := "") (Or.inl (hw _ (List.mem_of_getElem? (i := 20) rfl))) Via.refl e4 F_a0_row (g := (mkF m 24 #[.val (.ref a0), .val (.ref a1), .val (.ref a1)] [(.ref a0)])) rfl rfl (hb hby d6_24)
      refine Gl.up (B := T7.setTop (mkF m 27 #[.val (.ref a0), .val (.ref a1), .val (.ref a1)] [(.int r0)])) (fun t kt => st7 _ kt) ?_
      refine Gl.up (B := T7.setTop (mkF m 28 #[.val (.ref a0), .val (.ref a1), .val (.ref a1)] [(.ref a1), (.int r0)])) (fun t kt => ?_) ?_
      · show Steps p.tables e below (T7.setTop (mkF m 27 #[.val (.ref a0), .val (.ref a1), .val (.ref a1)] [(.int r0)])) _
        refine XS.aloadN X7.here hx rfl (hb hby d6_27) rfl rfl ?_
        exact kt
      obtain ⟨T8, X8, e8, st8⟩ := getF X7 hx hZ hown (host := "") (Or.inl (hw _ (List.mem_of_getElem? (i := 20) rfl))) Via.refl e7 F_a1_row (g := (mkF m 28 #[.val (.ref a0), .val (.ref a1), .val (.ref a1)] [(.ref a1), (.int r0)])) rfl rfl (hb hby d6_28)
      refine Gl.up (B := T8.setTop (mkF m 31 #[.val (.ref a0), .val (.ref a1), .val (.ref a1)] [(.int r1), (.int r0)])) (fun t kt => st8 _ kt) ?_
      by_cases c31_9 : r0 = r1
      · refine Gl.up (B := T8.setTop (mkF m 39 #[.val (.ref a0), .val (.ref a1), .val (.ref a1)] [(.int (1 : Int32))])) (fun t kt => ?_) ?_
        · show Steps p.tables e below (T8.setTop (mkF m 31 #[.val (.ref a0), .val (.ref a1), .val (.ref a1)] [(.int r1), (.int r0)])) _
          refine XS.icmpNo X8.here hx rfl (hb hby d6_31) rfl (teq c31_9).2 ?_
          show Steps p.tables e below (T8.setTop (mkF m 34 #[.val (.ref a0), .val (.ref a1), .val (.ref a1)] [])) _
          refine XS.iconst X8.here hx rfl (hb hby d6_34) ?_
          show Steps p.tables e below (T8.setTop (mkF m 35 #[.val (.ref a0), .val (.ref a1), .val (.ref a1)] [(.int (1 : Int32))])) _
          refine XS.goto X8.here hx rfl (pc0 := 35) (pc' := 39) rfl (hb hby d6_35) (by decide) (by decide) ?_
          exact kt
        exact J5 _ (1 : Int32) ((if_pos c20_6).trans (if_pos c31_9)).symm X8 e8
      · refine Gl.up (B := T8.setTop (mkF m 39 #[.val (.ref a0), .val (.ref a1), .val (.ref a1)] [(.int (0 : Int32))])) (fun t kt => ?_) ?_
        · show Steps p.tables e below (T8.setTop (mkF m 31 #[.val (.ref a0), .val (.ref a1), .val (.ref a1)] [(.int r1), (.int r0)])) _
          refine XS.icmpYes X8.here hx rfl (pc0 := 31) (pc' := 38) rfl (hb hby d6_31) rfl (feq c31_9).2 (by decide) (by decide) ?_
          show Steps p.tables e below (T8.setTop (mkF m 38 #[.val (.ref a0), .val (.ref a1), .val (.ref a1)] [])) _
          refine XS.iconst X8.here hx rfl (hb hby d6_38) ?_
          exact kt
        exact J5 _ (0 : Int32) ((if_pos c20_6).trans (if_neg c31_9)).symm X8 e8
    · refine Gl.up (B := T4.setTop (mkF m 39 #[.val (.ref a0), .val (.ref a1), .val (.ref a1)] [(.int (0 : Int32))])) (fun t kt => ?_) ?_
      · show Steps p.tables e below (T4.setTop (mkF m 20 #[.val (.ref a0), .val (.ref a1), .val (.ref a1)] [(.int c1), (.int c0)])) _
        refine XS.icmpYes X4.here hx rfl (pc0 := 20) (pc' := 38) rfl (hb hby d6_20) rfl (feq c20_6).2 (by decide) (by decide) ?_
        show Steps p.tables e below (T4.setTop (mkF m 38 #[.val (.ref a0), .val (.ref a1), .val (.ref a1)] [])) _
        refine XS.iconst X4.here hx rfl (hb hby d6_38) ?_
        exact kt
      exact J5 _ (0 : Int32) (if_neg c20_6).symm X4 e4
  intro T5 v5_s0 hv5_s0 X5 e5
  subst hv5_s0
  refine Gl.retN X5 hx hlk (t := .boolean) Bd.returns (by simp) (hb hby d6_39) (w := (if c0 = c1 then (if r0 = r1 then (1 : Int32) else (0 : Int32)) else (0 : Int32))) (nar_b01 (b01_ite (b01_ite (Or.inr rfl) (Or.inl rfl)) (Or.inl rfl))) ?_ (by decide) (by decide)
  exact ⟨congrArg (fun z => some (Value.int z)) (show (if c0 = c1 then (if r0 = r1 then (1 : Int32) else (0 : Int32)) else (0 : Int32)) = f6 c0 r0 c1 r1 from rfl), rfl, e5⟩
def f7  : Int32 := (0 : Int32)
theorem f7_b  : f7  = 0 ∨ f7  = 1 := (Or.inl rfl)
def Q7 (Z : State) (a0 : Addr) (h0 : Heap) (n0 : Nat) (v : Option Value) (h : Heap) (L : List Loc) : Prop := v = some (.int f7) ∧ L = [] ∧ h = h0
theorem ef7 (m : MethodId) (a0 : Addr) : entryFrame m #[(.ref a0), .null] 3 = mkF m 0 #[.val (.ref a0), .val .null, .unset] [] := by first | (simp [entryFrame, mkF, argsToLocals, Value.category]; done) | rfl
set_option maxRecDepth 65536 in
set_option maxHeartbeats 40000000 in
theorem rm7 (l : Launch) (Z : State) (aa : Array Value) (hw : ∀ d ∈ tables_1, d.before aa Z = true) (ws : List Jvm.Cond) (a0 : Addr) (h0 : Heap) (n0 : Nat) (O0 : Old Z n0 h0)  :
    MetFree l (⟨"com/example/khamsin/khamsin/map/Hex", "equals", "(Ljava/lang/Object;)Z"⟩ : MethodName) (head1 (Jvm.Cond.code (⟨"com/example/khamsin/khamsin/map/Hex", "equals", "(Ljava/lang/Object;)Z"⟩ : MethodName) prog_33_method_5_code 3 (some .boolean) :: ws) ({ frames := 0, cells := 0, slots := 0, locals := 0 } : Room)) (fun a U => a = #[(.ref a0), .null] ∧ Z.Warmed39 U.vm ∧ U.heap = h0) (fun _ _ _ _ _ => True) (fun _ U o U' => ∃ v L, o = .returned v ∧ Q7 Z a0 h0 n0 v U'.heap L ∧ FrameEnd U o U' L ({ frames := 0, cells := 0, slots := 0, locals := 0 } : Room).cells ({ frames := 0, cells := 0, slots := 0, locals := 0 } : Room).slots) := by
  refine MetFree.of_bodySF (plainFor_of_name pn_com_example_khamsin_khamsin_map_Hex) hisR ?_
  intro p e s m args below meth c s₁ Bd hml0 hP hK
  obtain ⟨rfl, hZ, hh⟩ := hP
  have hx := Bd.exec
  have hby := Bd.bytes
  have hlk := Bd.notSynchronized
  have hml : c.maxLocals = 3 := hml0
  have hown : s.vm.findClass "com/example/khamsin/khamsin/map/Hex" = some m.cls := findClass_of_methodNamed Bd.named
  have hnm := (name_of_methodNamed Bd.named Bd.method).1
  have X0 : Stand p l e ({ frames := 0, cells := 0, slots := 0, locals := 0 } : Room) s m #[(.ref a0), .null] below meth c s₁ [] 0 0 := Stand.of_body Bd
  have e0 : s₁.heap = h0 := by rw [← hh, Bd.state]; rfl
  have N0 := Fr.nil n0
  show Gl p e below (Ret s 0 0 (Q7 Z a0 h0 n0)) (s₁.setTop (entryFrame m #[(.ref a0), .null] 3))
  rw [ef7 m a0]
  obtain ⟨args, hargs⟩ : ∃ z : Array Value, z = #[(.ref a0), .null] := ⟨_, rfl⟩
  rw [← hargs] at X0
  refine Gl.up (B := s₁.setTop (mkF m 39 #[.val (.ref a0), .val .null, .unset] [(.int (0 : Int32))])) (fun t kt => ?_) ?_
  · show Steps p.tables e below (s₁.setTop (mkF m 0 #[.val (.ref a0), .val .null, .unset] [])) _
    refine XS.aloadN X0.here hx rfl (hb hby d7_0) rfl rfl ?_
    show Steps p.tables e below (s₁.setTop (mkF m 1 #[.val (.ref a0), .val .null, .unset] [.null])) _
    refine X0.instanceofNull hx (g := (mkF m 1 #[.val (.ref a0), .val .null, .unset] [.null])) rfl rfl (hb hby d7_1) _ ?_
    show Steps p.tables e below (s₁.setTop (mkF m 4 #[.val (.ref a0), .val .null, .unset] [(.int (0 : Int32))])) _
    refine XS.ifYes X0.here hx rfl (pc0 := 4) (pc' := 38) rfl (hb hby d7_4) rfl ((if0 _ _).trans (teq (by decide : (0 : Int32) = (0 : Int32))).1) (by decide) (by decide) ?_
    show Steps p.tables e below (s₁.setTop (mkF m 38 #[.val (.ref a0), .val .null, .unset] [])) _
    refine XS.iconst X0.here hx rfl (hb hby d7_38) ?_
    exact kt
  refine Gl.retN X0 hx hlk (t := .boolean) Bd.returns (by simp) (hb hby d7_39) (w := (0 : Int32)) rfl ?_ (by decide) (by decide)
  exact ⟨congrArg (fun z => some (Value.int z)) (show (0 : Int32) = f7  from rfl), rfl, e0⟩
def f8  : Int32 := (0 : Int32)
theorem f8_b  : f8  = 0 ∨ f8  = 1 := (Or.inl rfl)
def Q8 (Z : State) (a0 : Addr) (a1 : Addr) (CN : String) (h0 : Heap) (n0 : Nat) (v : Option Value) (h : Heap) (L : List Loc) : Prop := v = some (.int f8) ∧ L = [] ∧ h = h0
theorem ef8 (m : MethodId) (a0 : Addr) (a1 : Addr) : entryFrame m #[(.ref a0), (.ref a1)] 3 = mkF m 0 #[.val (.ref a0), .val (.ref a1), .unset] [] := by first | (simp [entryFrame, mkF, argsToLocals, Value.category]; done) | rfl
set_option maxRecDepth 65536 in
set_option maxHeartbeats 40000000 in
theorem rm8 (l : Launch) (Z : State) (aa : Array Value) (hw : ∀ d ∈ tables_1, d.before aa Z = true) (ws : List Jvm.Cond) (a0 : Addr) (a1 : Addr) (CN : String) (h0 : Heap) (n0 : Nat) (O0 : Old Z n0 h0) (E_a1 : Exa Z h0 a1 CN) (No : ∃ c t, Z.vm.findClass CN = some c ∧ Z.vm.findClass "com/example/khamsin/khamsin/map/Hex" = some t ∧ Z.vm.assignable c t = false) :
    MetFree l (⟨"com/example/khamsin/khamsin/map/Hex", "equals", "(Ljava/lang/Object;)Z"⟩ : MethodName) (head1 (Jvm.Cond.code (⟨"com/example/khamsin/khamsin/map/Hex", "equals", "(Ljava/lang/Object;)Z"⟩ : MethodName) prog_33_method_5_code 3 (some .boolean) :: ws) ({ frames := 0, cells := 0, slots := 0, locals := 0 } : Room)) (fun a U => a = #[(.ref a0), (.ref a1)] ∧ Z.Warmed39 U.vm ∧ U.heap = h0) (fun _ _ _ _ _ => True) (fun _ U o U' => ∃ v L, o = .returned v ∧ Q8 Z a0 a1 CN h0 n0 v U'.heap L ∧ FrameEnd U o U' L ({ frames := 0, cells := 0, slots := 0, locals := 0 } : Room).cells ({ frames := 0, cells := 0, slots := 0, locals := 0 } : Room).slots) := by
  refine MetFree.of_bodySF (plainFor_of_name pn_com_example_khamsin_khamsin_map_Hex) hisR ?_
  intro p e s m args below meth c s₁ Bd hml0 hP hK
  obtain ⟨rfl, hZ, hh⟩ := hP
  have hx := Bd.exec
  have hby := Bd.bytes
  have hlk := Bd.notSynchronized
  have hml : c.maxLocals = 3 := hml0
  have hown : s.vm.findClass "com/example/khamsin/khamsin/map/Hex" = some m.cls := findClass_of_methodNamed Bd.named
  have hnm := (name_of_methodNamed Bd.named Bd.method).1
  have X0 : Stand p l e ({ frames := 0, cells := 0, slots := 0, locals := 0 } : Room) s m #[(.ref a0), (.ref a1)] below meth c s₁ [] 0 0 := Stand.of_body Bd
  have e0 : s₁.heap = h0 := by rw [← hh, Bd.state]; rfl
  have N0 := Fr.nil n0
  show Gl p e below (Ret s 0 0 (Q8 Z a0 a1 CN h0 n0)) (s₁.setTop (entryFrame m #[(.ref a0), (.ref a1)] 3))
  rw [ef8 m a0 a1]
  obtain ⟨args, hargs⟩ : ∃ z : Array Value, z = #[(.ref a0), (.ref a1)] := ⟨_, rfl⟩
  rw [← hargs] at X0
  refine Gl.up (B := s₁.setTop (mkF m 1 #[.val (.ref a0), .val (.ref a1), .unset] [(.ref a1)])) (fun t kt => ?_) ?_
  · show Steps p.tables e below (s₁.setTop (mkF m 0 #[.val (.ref a0), .val (.ref a1), .unset] [])) _
    refine XS.aloadN X0.here hx rfl (hb hby d8_0) rfl rfl ?_
    exact kt
  obtain ⟨T1, X1, e1, st1⟩ := instNo X0 hx hZ hown (hw _ (List.mem_of_getElem? (i := 58) rfl)) e0 E_a1 No (g := (mkF m 1 #[.val (.ref a0), .val (.ref a1), .unset] [(.ref a1)])) rfl rfl (hb hby d8_1)
  refine Gl.up (B := T1.setTop (mkF m 4 #[.val (.ref a0), .val (.ref a1), .unset] [(.int (0 : Int32))])) (fun t kt => st1 _ kt) ?_
  refine Gl.up (B := T1.setTop (mkF m 39 #[.val (.ref a0), .val (.ref a1), .unset] [(.int (0 : Int32))])) (fun t kt => ?_) ?_
  · show Steps p.tables e below (T1.setTop (mkF m 4 #[.val (.ref a0), .val (.ref a1), .unset] [(.int (0 : Int32))])) _
    refine XS.ifYes X1.here hx rfl (pc0 := 4) (pc' := 38) rfl (hb hby d8_4) rfl ((if0 _ _).trans (teq (by decide : (0 : Int32) = (0 : Int32))).1) (by decide) (by decide) ?_
    show Steps p.tables e below (T1.setTop (mkF m 38 #[.val (.ref a0), .val (.ref a1), .unset] [])) _
    refine XS.iconst X1.here hx rfl (hb hby d8_38) ?_
    exact kt
  refine Gl.retN X1 hx hlk (t := .boolean) Bd.returns (by simp) (hb hby d8_39) (w := (0 : Int32)) rfl ?_ (by decide) (by decide)
  exact ⟨congrArg (fun z => some (Value.int z)) (show (0 : Int32) = f8  from rfl), rfl, e1⟩
theorem own_eqI {args : Array Value} {s : State} {idx : List Nat} {t : Term} {k : Int32} (h : (Cond.eq t (.int k)).value args s none s idx = some true) : t.eval args s none idx s = some (.int k) := by
  obtain ⟨x, y, h1, h2, h3, -⟩ := cmp_v (Or.inl h)
  cases (show (Term.int k).eval args s none idx s = some (.int k) from rfl).symm.trans h2
  cases x <;> simp [Kin, Value.isRef] at h3
  rename_i z
  have e : (Cond.eq t (.int k)).value args s none s idx = some (decide (z = k)) := by simp [Cond.value, h1, h2]
  rw [e] at h
  have q : z = k := by simpa using h
  rw [h1, q]
theorem own_eqF {args : Array Value} {s : State} {t : Term} {k : Int32} {a : Addr} {C n d : String} (ev : t.eval args s none [] s = some (.ref a)) (h : (Cond.eq (.field t C n d) (.int k)).value args s none s [] = some true) : s.fieldOf? a C n d = some (.int k) := by
  have e := own_eqI h
  rwa [fld_at ev] at e
theorem own_pick4 {P : Addr → Prop} {c1 c2 c3 : Prop} [Decidable c1] [Decidable c2] [Decidable c3] {a b d e v : Addr} (hv : v = if c1 then a else (if c2 then b else (if c3 then d else e))) (ha : P a) (hb : P b) (hd : P d) (he : P e) : P v := by
  subst hv; split
  · exact ha
  · split
    · exact hb
    · split <;> assumption
theorem own_c99 (x : Int32) : 1 ≤ ((x &&& (2147483647 : Int32)) % (99 : Int32) + (1 : Int32)).toInt ∧ ((x &&& (2147483647 : Int32)) % (99 : Int32) + (1 : Int32)).toInt ≤ 99 := by
  have h1 := c_and x (2147483647 : Int32) (by decide)
  have h2 := (c_irem (x &&& (2147483647 : Int32)) (99 : Int32) 99 rfl).1 h1.1
  have h3 := c_iadd ((x &&& (2147483647 : Int32)) % (99 : Int32)) (1 : Int32)
  have h4 := rng32 ((x &&& (2147483647 : Int32)) % (99 : Int32) + (1 : Int32))
  rw [show (1 : Int32).toInt = 1 from rfl] at h3
  omega
theorem own_grid {a b : Int32} (ha : 1 ≤ a.toInt ∧ a.toInt ≤ 99) (hb : 1 ≤ b.toInt ∧ b.toInt ≤ 99) : ¬ f4 a b = (0 : Int32) := by
  unfold f4
  simp only [Int32.lt_iff_toInt_lt, show (1 : Int32).toInt = 1 from rfl, show (99 : Int32).toInt = 99 from rfl]
  rw [if_neg (by omega), if_neg (by omega), if_neg (by omega), if_neg (by omega)]
  decide
theorem own_ite {q : Prop} [Decidable q] {v a b : Int32} (hv : v = if q then a else b) (ha : 1 ≤ a.toInt ∧ a.toInt ≤ 99) (hb : 1 ≤ b.toInt ∧ b.toInt ≤ 99) : 1 ≤ v.toInt ∧ v.toInt ≤ 99 := by
  rw [hv]; split <;> assumption

theorem own_latc (x : Int32) : ∀ c ∈ (([0] : List Int32).set 0 (nar .char ((x &&& (255 : Int32)).toUInt32.toUInt16.toUInt32.toInt32))), ¬ c < 0 ∧ ¬ (255 : Int32) < c := by
  intro c hc
  have hc' : c = nar .char ((x &&& (255 : Int32)).toUInt32.toUInt16.toUInt32.toInt32) := by simpa using hc
  have h := c_and x (255 : Int32) (by decide)
  have h1 := c_i2c (x &&& (255 : Int32))
  have h2 := c_i2c ((x &&& (255 : Int32)).toUInt32.toUInt16.toUInt32.toInt32)
  rw [show (255 : Int32).toInt = 255 from rfl] at h
  rw [hc']
  simp only [nar, Int32.lt_iff_toInt_lt, show (0 : Int32).toInt = 0 from rfl, show (255 : Int32).toInt = 255 from rfl]
  omega
/-- a class whose chain of superclasses ends ahead of K, an ordinary class -/
theorem own_root {Z : State} {aa : Array Value} {O K : String} {n : Nat} (w : (Cond.noSuperclass O).before aa Z = true) (wk : (Cond.instantiable K n).before aa Z = true) (hn : O ≠ K) : NS Z O K := by
  obtain ⟨c, k, h1, h2, h3, -, -⟩ := Cond.noSuperclass_spec w
  obtain ⟨t, kt, g1, g2, g3, -⟩ := Cond.instantiable_spec wk
  refine ⟨c, t, h1, g1, fun fuel => ?_⟩
  cases fuel with
  | zero => rfl
  | succ f => simp [Vm.isSubclassAux, ids_ne h1 g1 hn, h2, h3]
theorem own_no {Z : State} {aa : Array Value} {A S K : String} {n : Nat} (w : (Cond.superclass A S).before aa Z = true) (wk : (Cond.instantiable K n).before aa Z = true) (nn : NS Z A K) (hn : A ≠ K) : ∃ c t, Z.vm.findClass A = some c ∧ Z.vm.findClass K = some t ∧ Z.vm.assignable c t = false := by
  obtain ⟨a, t, ha, ht, hsub⟩ := nn
  obtain ⟨_, ka, _, -, hka, -, -, hoa, -, -⟩ := Cond.superclass_spec ha w
  obtain ⟨t', kt, ht', hkt, hot, hit, -⟩ := Cond.instantiable_spec wk
  cases ht.symm.trans ht'
  have hif : kt.isInterface = false := (Bool.or_eq_false_iff.mp hit).1
  exact ⟨a, t, ha, ht, by
    show Z.vm.assignableAux (255 + 1) a t = false
    simp [Vm.assignableAux, ids_ne ha ht hn, hka, hkt, hoa, hot, hif, Vm.isSubclass, hsub]⟩
theorem own_noE {Z : State} {aa : Array Value} (hw : ∀ d ∈ tables_1, d.before aa Z = true) : ∃ c t, Z.vm.findClass "com/example/khamsin/khamsin/map/Edge" = some c ∧ Z.vm.findClass "com/example/khamsin/khamsin/map/Hex" = some t ∧ Z.vm.assignable c t = false :=
  own_no (hw _ (List.mem_of_getElem? (i := 68) rfl)) (hw _ (List.mem_of_getElem? (i := 2) rfl)) (NS.step (hw _ (List.mem_of_getElem? (i := 68) rfl)) (NS.step (hw _ (List.mem_of_getElem? (i := 69) rfl)) (own_root (hw _ (List.mem_of_getElem? (i := 61) rfl)) (hw _ (List.mem_of_getElem? (i := 2) rfl)) (by decide)) (by decide)) (by decide)) (by decide)
theorem own_noS {Z : State} {aa : Array Value} (hw : ∀ d ∈ tables_1, d.before aa Z = true) : ∃ c t, Z.vm.findClass "java/lang/String" = some c ∧ Z.vm.findClass "com/example/khamsin/khamsin/map/Hex" = some t ∧ Z.vm.assignable c t = false :=
  own_no (hw _ (List.mem_of_getElem? (i := 60) rfl)) (hw _ (List.mem_of_getElem? (i := 2) rfl)) (NS.step (hw _ (List.mem_of_getElem? (i := 60) rfl)) (own_root (hw _ (List.mem_of_getElem? (i := 61) rfl)) (hw _ (List.mem_of_getElem? (i := 2) rfl)) (by decide)) (by decide)) (by decide)

def Q0 (n0 : Nat) (v : Option Value) (h : Heap) (L : List Loc) : Prop := v = some (.int 1) ∧ Fr n0 L
theorem ef0 (m : MethodId) (c1 : Int32) (r1 : Int32) (c2 : Int32) (r2 : Int32) (kk : Int32) : entryFrame m #[(.int c1), (.int r1), (.int c2), (.int r2), (.int kk)] maxLocals = mkF m 0 #[.val (.int c1), .val (.int r1), .val (.int c2), .val (.int r2), .val (.int kk), .unset, .unset, .unset, .unset, .unset, .unset, .unset, .unset, .unset, .unset, .unset, .unset, .unset] [] := by first | (simp [entryFrame, mkF, argsToLocals, Value.category, maxLocals]; done) | rfl
set_option maxRecDepth 65536 in
set_option maxHeartbeats 40000000 in
theorem rm0 (l : Launch) (Z : State) (aa : Array Value) (hw : ∀ d ∈ tables_1, d.before aa Z = true) (ws : List Jvm.Cond) (c1 : Int32) (r1 : Int32) (c2 : Int32) (r2 : Int32) (kk : Int32) (wW : Addr) (wE : Addr) (wN : Addr) (wS : Addr) (zc : Int32) (h0 : Heap) (n0 : Nat) (O0 : Old Z n0 h0) (S_wW : Sta Z Z.heap "com/example/khamsin/khamsin/map/Edge" "WEST" "Lcom/example/khamsin/khamsin/map/Edge;" (.ref wW)) (S_wE : Sta Z Z.heap "com/example/khamsin/khamsin/map/Edge" "EAST" "Lcom/example/khamsin/khamsin/map/Edge;" (.ref wE)) (S_wN : Sta Z Z.heap "com/example/khamsin/khamsin/map/Edge" "NORTH" "Lcom/example/khamsin/khamsin/map/Edge;" (.ref wN)) (S_wS : Sta Z Z.heap "com/example/khamsin/khamsin/map/Edge" "SOUTH" "Lcom/example/khamsin/khamsin/map/Edge;" (.ref wS)) (E_wW : Exa Z Z.heap wW "com/example/khamsin/khamsin/map/Edge") (E_wE : Exa Z Z.heap wE "com/example/khamsin/khamsin/map/Edge") (E_wN : Exa Z Z.heap wN "com/example/khamsin/khamsin/map/Edge") (E_wS : Exa Z Z.heap wS "com/example/khamsin/khamsin/map/Edge") (S_zc : Sta Z Z.heap "java/lang/String" "COMPACT_STRINGS" "Z" (.int zc)) (P3 : ¬ zc = (0 : Int32)) :
    MetFree l x (head1 (Jvm.Cond.code x code maxLocals ret :: ws) room_1) (fun a U => a = #[(.int c1), (.int r1), (.int c2), (.int r2), (.int kk)] ∧ Z.Warmed39 U.vm ∧ U.heap = h0) (fun _ _ _ _ _ => True) (fun _ U o U' => ∃ v L, o = .returned v ∧ Q0 n0 v U'.heap L ∧ FrameEnd U o U' L 5 10) := by
  refine MetFree.of_bodySF (plainFor_of_name pn_com_example_khamsin_khamsin_map_HexEqualsPinLaw) hisR ?_
  intro p e s m args below meth c s₁ Bd hml0 hP hK
  obtain ⟨rfl, hZ, hh⟩ := hP
  have hx := Bd.exec
  have hby := Bd.bytes
  have hlk := Bd.notSynchronized
  have hml : c.maxLocals = 18 := hml0
  have hown : s.vm.findClass "com/example/khamsin/khamsin/map/HexEqualsPinLaw" = some m.cls := findClass_of_methodNamed Bd.named
  have hnm := (name_of_methodNamed Bd.named Bd.method).1
  have X0 : Stand p l e room_1 s m #[(.int c1), (.int r1), (.int c2), (.int r2), (.int kk)] below meth c s₁ [] 0 0 := Stand.of_body Bd
  have e0 : s₁.heap = h0 := by rw [← hh, Bd.state]; rfl
  have N0 := Fr.nil n0
  show Gl p e below (Ret s 5 10 (Q0 n0)) (s₁.setTop (entryFrame m #[(.int c1), (.int r1), (.int c2), (.int r2), (.int kk)] maxLocals))
  rw [ef0 m c1 r1 c2 r2 kk]
  obtain ⟨args, hargs⟩ : ∃ z : Array Value, z = #[(.int c1), (.int r1), (.int c2), (.int r2), (.int kk)] := ⟨_, rfl⟩
  rw [← hargs] at X0
  refine Gl.up (B := s₁.setTop (mkF m 9 #[.val (.int c1), .val (.int r1), .val (.int c2), .val (.int r2), .val (.int kk), .unset, .unset, .unset, .unset, .unset, .unset, .unset, .unset, .unset, .unset, .unset, .unset, .unset] [(.int (((c1 &&& (2147483647 : Int32)) % (99 : Int32)) + (1 : Int32)))])) (fun t kt => ?_) ?_
  · show Steps p.tables e below (s₁.setTop (mkF m 0 #[.val (.int c1), .val (.int r1), .val (.int c2), .val (.int r2), .val (.int kk), .unset, .unset, .unset, .unset, .unset, .unset, .unset, .unset, .unset, .unset, .unset, .unset, .unset] [])) _
    refine XS.iloadN X0.here hx rfl (hb hby at_0) rfl ?_
    show Steps p.tables e below (s₁.setTop (mkF m 1 #[.val (.int c1), .val (.int r1), .val (.int c2), .val (.int r2), .val (.int kk), .unset, .unset, .unset, .unset, .unset, .unset, .unset, .unset, .unset, .unset, .unset, .unset, .unset] [(.int c1)])) _
    refine X0.ldcInt hx hown (mvT hZ (hw _ (List.mem_of_getElem? (i := 0) rfl))) (g := (mkF m 1 #[.val (.int c1), .val (.int r1), .val (.int c2), .val (.int r2), .val (.int kk), .unset, .unset, .unset, .unset, .unset, .unset, .unset, .unset, .unset, .unset, .unset, .unset, .unset] [(.int c1)])) rfl (hb hby at_1) _ ?_
    show Steps p.tables e below (s₁.setTop (mkF m 3 #[.val (.int c1), .val (.int r1), .val (.int c2), .val (.int r2), .val (.int kk), .unset, .unset, .unset, .unset, .unset, .unset, .unset, .unset, .unset, .unset, .unset, .unset, .unset] [(.int (2147483647 : Int32)), (.int c1)])) _
    refine XS.iand X0.here hx rfl (hb hby at_3) rfl ?_
    show Steps p.tables e below (s₁.setTop (mkF m 4 #[.val (.int c1), .val (.int r1), .val (.int c2), .val (.int r2), .val (.int kk), .unset, .unset, .unset, .unset, .unset, .unset, .unset, .unset, .unset, .unset, .unset, .unset, .unset] [(.int (c1 &&& (2147483647 : Int32)))])) _
    refine XS.bipush X0.here hx rfl (hb hby at_4) ?_
    show Steps p.tables e below (s₁.setTop (mkF m 6 #[.val (.int c1), .val (.int r1), .val (.int c2), .val (.int r2), .val (.int kk), .unset, .unset, .unset, .unset, .unset, .unset, .unset, .unset, .unset, .unset, .unset, .unset, .unset] [(.int (99 : Int32)), (.int (c1 &&& (2147483647 : Int32)))])) _
    refine iremM X0 hx rfl (hb hby at_6) rfl (by decide) ?_
    show Steps p.tables e below (s₁.setTop (mkF m 7 #[.val (.int c1), .val (.int r1), .val (.int c2), .val (.int r2), .val (.int kk), .unset, .unset, .unset, .unset, .unset, .unset, .unset, .unset, .unset, .unset, .unset, .unset, .unset] [(.int ((c1 &&& (2147483647 : Int32)) % (99 : Int32)))])) _
    refine XS.iconst X0.here hx rfl (hb hby at_7) ?_
    show Steps p.tables e below (s₁.setTop (mkF m 8 #[.val (.int c1), .val (.int r1), .val (.int c2), .val (.int r2), .val (.int kk), .unset, .unset, .unset, .unset, .unset, .unset, .unset, .unset, .unset, .unset, .unset, .unset, .unset] [(.int (1 : Int32)), (.int ((c1 &&& (2147483647 : Int32)) % (99 : Int32)))])) _
    refine XS.iadd X0.here hx rfl (hb hby at_8) rfl ?_
    exact kt
  obtain ⟨u1, hu1⟩ : ∃ q : Int32, q = (((c1 &&& (2147483647 : Int32)) % (99 : Int32)) + (1 : Int32)) := ⟨_, rfl⟩
  rw [← hu1]
  refine Gl.up (B := s₁.setTop (mkF m 20 #[.val (.int c1), .val (.int r1), .val (.int c2), .val (.int r2), .val (.int kk), .val (.int u1), .unset, .unset, .unset, .unset, .unset, .unset, .unset, .unset, .unset, .unset, .unset, .unset] [(.int (((r1 &&& (2147483647 : Int32)) % (99 : Int32)) + (1 : Int32)))])) (fun t kt => ?_) ?_
  · show Steps p.tables e below (s₁.setTop (mkF m 9 #[.val (.int c1), .val (.int r1), .val (.int c2), .val (.int r2), .val (.int kk), .unset, .unset, .unset, .unset, .unset, .unset, .unset, .unset, .unset, .unset, .unset, .unset, .unset] [(.int u1)])) _
    refine XS.istore X0.here hx rfl (hb hby at_9) rfl (l' := #[.val (.int c1), .val (.int r1), .val (.int c2), .val (.int r2), .val (.int kk), .val (.int u1), .unset, .unset, .unset, .unset, .unset, .unset, .unset, .unset, .unset, .unset, .unset, .unset]) rfl ?_
    show Steps p.tables e below (s₁.setTop (mkF m 11 #[.val (.int c1), .val (.int r1), .val (.int c2), .val (.int r2), .val (.int kk), .val (.int u1), .unset, .unset, .unset, .unset, .unset, .unset, .unset, .unset, .unset, .unset, .unset, .unset] [])) _
    refine XS.iloadN X0.here hx rfl (hb hby at_11) rfl ?_
    show Steps p.tables e below (s₁.setTop (mkF m 12 #[.val (.int c1), .val (.int r1), .val (.int c2), .val (.int r2), .val (.int kk), .val (.int u1), .unset, .unset, .unset, .unset, .unset, .unset, .unset, .unset, .unset, .unset, .unset, .unset] [(.int r1)])) _
    refine X0.ldcInt hx hown (mvT hZ (hw _ (List.mem_of_getElem? (i := 0) rfl))) (g := (mkF m 12 #[.val (.int c1), .val (.int r1), .val (.int c2), .val (.int r2), .val (.int kk), .val (.int u1), .unset, .unset, .unset, .unset, .unset, .unset, .unset, .unset, .unset, .unset, .unset, .unset] [(.int r1)])) rfl (hb hby at_12) _ ?_
    show Steps p.tables e below (s₁.setTop (mkF m 14 #[.val (.int c1), .val (.int r1), .val (.int c2), .val (.int r2), .val (.int kk), .val (.int u1), .unset, .unset, .unset, .unset, .unset, .unset, .unset, .unset, .unset, .unset, .unset, .unset] [(.int (2147483647 : Int32)), (.int r1)])) _
    refine XS.iand X0.here hx rfl (hb hby at_14) rfl ?_
    show Steps p.tables e below (s₁.setTop (mkF m 15 #[.val (.int c1), .val (.int r1), .val (.int c2), .val (.int r2), .val (.int kk), .val (.int u1), .unset, .unset, .unset, .unset, .unset, .unset, .unset, .unset, .unset, .unset, .unset, .unset] [(.int (r1 &&& (2147483647 : Int32)))])) _
    refine XS.bipush X0.here hx rfl (hb hby at_15) ?_
    show Steps p.tables e below (s₁.setTop (mkF m 17 #[.val (.int c1), .val (.int r1), .val (.int c2), .val (.int r2), .val (.int kk), .val (.int u1), .unset, .unset, .unset, .unset, .unset, .unset, .unset, .unset, .unset, .unset, .unset, .unset] [(.int (99 : Int32)), (.int (r1 &&& (2147483647 : Int32)))])) _
    refine iremM X0 hx rfl (hb hby at_17) rfl (by decide) ?_
    show Steps p.tables e below (s₁.setTop (mkF m 18 #[.val (.int c1), .val (.int r1), .val (.int c2), .val (.int r2), .val (.int kk), .val (.int u1), .unset, .unset, .unset, .unset, .unset, .unset, .unset, .unset, .unset, .unset, .unset, .unset] [(.int ((r1 &&& (2147483647 : Int32)) % (99 : Int32)))])) _
    refine XS.iconst X0.here hx rfl (hb hby at_18) ?_
    show Steps p.tables e below (s₁.setTop (mkF m 19 #[.val (.int c1), .val (.int r1), .val (.int c2), .val (.int r2), .val (.int kk), .val (.int u1), .unset, .unset, .unset, .unset, .unset, .unset, .unset, .unset, .unset, .unset, .unset, .unset] [(.int (1 : Int32)), (.int ((r1 &&& (2147483647 : Int32)) % (99 : Int32)))])) _
    refine XS.iadd X0.here hx rfl (hb hby at_19) rfl ?_
    exact kt
  obtain ⟨u2, hu2⟩ : ∃ q : Int32, q = (((r1 &&& (2147483647 : Int32)) % (99 : Int32)) + (1 : Int32)) := ⟨_, rfl⟩
  rw [← hu2]
  refine Gl.up (B := s₁.setTop (mkF m 26 #[.val (.int c1), .val (.int r1), .val (.int c2), .val (.int r2), .val (.int kk), .val (.int u1), .val (.int u2), .unset, .unset, .unset, .unset, .unset, .unset, .unset, .unset, .unset, .unset, .unset] [(.int (kk &&& (4 : Int32)))])) (fun t kt => ?_) ?_
  · show Steps p.tables e below (s₁.setTop (mkF m 20 #[.val (.int c1), .val (.int r1), .val (.int c2), .val (.int r2), .val (.int kk), .val (.int u1), .unset, .unset, .unset, .unset, .unset, .unset, .unset, .unset, .unset, .unset, .unset, .unset] [(.int u2)])) _
    refine XS.istore X0.here hx rfl (hb hby at_20) rfl (l' := #[.val (.int c1), .val (.int r1), .val (.int c2), .val (.int r2), .val (.int kk), .val (.int u1), .val (.int u2), .unset, .unset, .unset, .unset, .unset, .unset, .unset, .unset, .unset, .unset, .unset]) rfl ?_
    show Steps p.tables e below (s₁.setTop (mkF m 22 #[.val (.int c1), .val (.int r1), .val (.int c2), .val (.int r2), .val (.int kk), .val (.int u1), .val (.int u2), .unset, .unset, .unset, .unset, .unset, .unset, .unset, .unset, .unset, .unset, .unset] [])) _
    refine XS.iload X0.here hx rfl (hb hby at_22) rfl ?_
    show Steps p.tables e below (s₁.setTop (mkF m 24 #[.val (.int c1), .val (.int r1), .val (.int c2), .val (.int r2), .val (.int kk), .val (.int u1), .val (.int u2), .unset, .unset, .unset, .unset, .unset, .unset, .unset, .unset, .unset, .unset, .unset] [(.int kk)])) _
    refine XS.iconst X0.here hx rfl (hb hby at_24) ?_
    show Steps p.tables e below (s₁.setTop (mkF m 25 #[.val (.int c1), .val (.int r1), .val (.int c2), .val (.int r2), .val (.int kk), .val (.int u1), .val (.int u2), .unset, .unset, .unset, .unset, .unset, .unset, .unset, .unset, .unset, .unset, .unset] [(.int (4 : Int32)), (.int kk)])) _
    refine XS.iand X0.here hx rfl (hb hby at_25) rfl ?_
    exact kt
  suffices J3 : ∀ (T3 : State) (v3_s0 : Int32), v3_s0 = (if (kk &&& (4 : Int32)) = (0 : Int32) then (((c2 &&& (2147483647 : Int32)) % (99 : Int32)) + (1 : Int32)) else u1) → Stand p l e room_1 s m args below meth c T3 [] 0 0 → T3.heap = h0 → Gl p e below (Ret s 5 10 (Q0 n0)) (T3.setTop (mkF m 43 #[.val (.int c1), .val (.int r1), .val (.int c2), .val (.int r2), .val (.int kk), .val (.int u1), .val (.int u2), .unset, .unset, .unset, .unset, .unset, .unset, .unset, .unset, .unset, .unset, .unset] [(.int v3_s0)])) by
    by_cases c26_4 : (kk &&& (4 : Int32)) = (0 : Int32)
    · refine Gl.up (B := s₁.setTop (mkF m 43 #[.val (.int c1), .val (.int r1), .val (.int c2), .val (.int r2), .val (.int kk), .val (.int u1), .val (.int u2), .unset, .unset, .unset, .unset, .unset, .unset, .unset, .unset, .unset, .unset, .unset] [(.int (((c2 &&& (2147483647 : Int32)) % (99 : Int32)) + (1 : Int32)))])) (fun t kt => ?_) ?_
      · show Steps p.tables e below (s₁.setTop (mkF m 26 #[.val (.int c1), .val (.int r1), .val (.int c2), .val (.int r2), .val (.int kk), .val (.int u1), .val (.int u2), .unset, .unset, .unset, .unset, .unset, .unset, .unset, .unset, .unset, .unset, .unset] [(.int (kk &&& (4 : Int32)))])) _
        refine XS.ifYes X0.here hx rfl (pc0 := 26) (pc' := 34) rfl (hb hby at_26) rfl ((if0 _ _).trans (teq c26_4).1) (by decide) (by decide) ?_
        show Steps p.tables e below (s₁.setTop (mkF m 34 #[.val (.int c1), .val (.int r1), .val (.int c2), .val (.int r2), .val (.int kk), .val (.int u1), .val (.int u2), .unset, .unset, .unset, .unset, .unset, .unset, .unset, .unset, .unset, .unset, .unset] [])) _
        refine XS.iloadN X0.here hx rfl (hb hby at_34) rfl ?_
        show Steps p.tables e below (s₁.setTop (mkF m 35 #[.val (.int c1), .val (.int r1), .val (.int c2), .val (.int r2), .val (.int kk), .val (.int u1), .val (.int u2), .unset, .unset, .unset, .unset, .unset, .unset, .unset, .unset, .unset, .unset, .unset] [(.int c2)])) _
        refine X0.ldcInt hx hown (mvT hZ (hw _ (List.mem_of_getElem? (i := 0) rfl))) (g := (mkF m 35 #[.val (.int c1), .val (.int r1), .val (.int c2), .val (.int r2), .val (.int kk), .val (.int u1), .val (.int u2), .unset, .unset, .unset, .unset, .unset, .unset, .unset, .unset, .unset, .unset, .unset] [(.int c2)])) rfl (hb hby at_35) _ ?_
        show Steps p.tables e below (s₁.setTop (mkF m 37 #[.val (.int c1), .val (.int r1), .val (.int c2), .val (.int r2), .val (.int kk), .val (.int u1), .val (.int u2), .unset, .unset, .unset, .unset, .unset, .unset, .unset, .unset, .unset, .unset, .unset] [(.int (2147483647 : Int32)), (.int c2)])) _
        refine XS.iand X0.here hx rfl (hb hby at_37) rfl ?_
        show Steps p.tables e below (s₁.setTop (mkF m 38 #[.val (.int c1), .val (.int r1), .val (.int c2), .val (.int r2), .val (.int kk), .val (.int u1), .val (.int u2), .unset, .unset, .unset, .unset, .unset, .unset, .unset, .unset, .unset, .unset, .unset] [(.int (c2 &&& (2147483647 : Int32)))])) _
        refine XS.bipush X0.here hx rfl (hb hby at_38) ?_
        show Steps p.tables e below (s₁.setTop (mkF m 40 #[.val (.int c1), .val (.int r1), .val (.int c2), .val (.int r2), .val (.int kk), .val (.int u1), .val (.int u2), .unset, .unset, .unset, .unset, .unset, .unset, .unset, .unset, .unset, .unset, .unset] [(.int (99 : Int32)), (.int (c2 &&& (2147483647 : Int32)))])) _
        refine iremM X0 hx rfl (hb hby at_40) rfl (by decide) ?_
        show Steps p.tables e below (s₁.setTop (mkF m 41 #[.val (.int c1), .val (.int r1), .val (.int c2), .val (.int r2), .val (.int kk), .val (.int u1), .val (.int u2), .unset, .unset, .unset, .unset, .unset, .unset, .unset, .unset, .unset, .unset, .unset] [(.int ((c2 &&& (2147483647 : Int32)) % (99 : Int32)))])) _
        refine XS.iconst X0.here hx rfl (hb hby at_41) ?_
        show Steps p.tables e below (s₁.setTop (mkF m 42 #[.val (.int c1), .val (.int r1), .val (.int c2), .val (.int r2), .val (.int kk), .val (.int u1), .val (.int u2), .unset, .unset, .unset, .unset, .unset, .unset, .unset, .unset, .unset, .unset, .unset] [(.int (1 : Int32)), (.int ((c2 &&& (2147483647 : Int32)) % (99 : Int32)))])) _
        refine XS.iadd X0.here hx rfl (hb hby at_42) rfl ?_
        exact kt
      exact J3 _ (((c2 &&& (2147483647 : Int32)) % (99 : Int32)) + (1 : Int32)) (if_pos c26_4).symm X0 e0
    · refine Gl.up (B := s₁.setTop (mkF m 43 #[.val (.int c1), .val (.int r1), .val (.int c2), .val (.int r2), .val (.int kk), .val (.int u1), .val (.int u2), .unset, .unset, .unset, .unset, .unset, .unset, .unset, .unset, .unset, .unset, .unset] [(.int u1)])) (fun t kt => ?_) ?_
      · show Steps p.tables e below (s₁.setTop (mkF m 26 #[.val (.int c1), .val (.int r1), .val (.int c2), .val (.int r2), .val (.int kk), .val (.int u1), .val (.int u2), .unset, .unset, .unset, .unset, .unset, .unset, .unset, .unset, .unset, .unset, .unset] [(.int (kk &&& (4 : Int32)))])) _
        refine XS.ifNo X0.here hx rfl (hb hby at_26) rfl ((if0 _ _).trans (feq c26_4).1) ?_
        show Steps p.tables e below (s₁.setTop (mkF m 29 #[.val (.int c1), .val (.int r1), .val (.int c2), .val (.int r2), .val (.int kk), .val (.int u1), .val (.int u2), .unset, .unset, .unset, .unset, .unset, .unset, .unset, .unset, .unset, .unset, .unset] [])) _
        refine XS.iload X0.here hx rfl (hb hby at_29) rfl ?_
        show Steps p.tables e below (s₁.setTop (mkF m 31 #[.val (.int c1), .val (.int r1), .val (.int c2), .val (.int r2), .val (.int kk), .val (.int u1), .val (.int u2), .unset, .unset, .unset, .unset, .unset, .unset, .unset, .unset, .unset, .unset, .unset] [(.int u1)])) _
        refine XS.goto X0.here hx rfl (pc0 := 31) (pc' := 43) rfl (hb hby at_31) (by decide) (by decide) ?_
        exact kt
      exact J3 _ u1 (if_neg c26_4).symm X0 e0
  intro T3 v3_s0 hv3_s0 X3 e3
  refine Gl.up (B := T3.setTop (mkF m 50 #[.val (.int c1), .val (.int r1), .val (.int c2), .val (.int r2), .val (.int kk), .val (.int u1), .val (.int u2), .val (.int v3_s0), .unset, .unset, .unset, .unset, .unset, .unset, .unset, .unset, .unset, .unset] [(.int (kk &&& (8 : Int32)))])) (fun t kt => ?_) ?_
  · show Steps p.tables e below (T3.setTop (mkF m 43 #[.val (.int c1), .val (.int r1), .val (.int c2), .val (.int r2), .val (.int kk), .val (.int u1), .val (.int u2), .unset, .unset, .unset, .unset, .unset, .unset, .unset, .unset, .unset, .unset, .unset] [(.int v3_s0)])) _
    refine XS.istore X3.here hx rfl (hb hby at_43) rfl (l' := #[.val (.int c1), .val (.int r1), .val (.int c2), .val (.int r2), .val (.int kk), .val (.int u1), .val (.int u2), .val (.int v3_s0), .unset, .unset, .unset, .unset, .unset, .unset, .unset, .unset, .unset, .unset]) rfl ?_
    show Steps p.tables e below (T3.setTop (mkF m 45 #[.val (.int c1), .val (.int r1), .val (.int c2), .val (.int r2), .val (.int kk), .val (.int u1), .val (.int u2), .val (.int v3_s0), .unset, .unset, .unset, .unset, .unset, .unset, .unset, .unset, .unset, .unset] [])) _
    refine XS.iload X3.here hx rfl (hb hby at_45) rfl ?_
    show Steps p.tables e below (T3.setTop (mkF m 47 #[.val (.int c1), .val (.int r1), .val (.int c2), .val (.int r2), .val (.int kk), .val (.int u1), .val (.int u2), .val (.int v3_s0), .unset, .unset, .unset, .unset, .unset, .unset, .unset, .unset, .unset, .unset] [(.int kk)])) _
    refine XS.bipush X3.here hx rfl (hb hby at_47) ?_
    show Steps p.tables e below (T3.setTop (mkF m 49 #[.val (.int c1), .val (.int r1), .val (.int c2), .val (.int r2), .val (.int kk), .val (.int u1), .val (.int u2), .val (.int v3_s0), .unset, .unset, .unset, .unset, .unset, .unset, .unset, .unset, .unset, .unset] [(.int (8 : Int32)), (.int kk)])) _
    refine XS.iand X3.here hx rfl (hb hby at_49) rfl ?_
    exact kt
  suffices J5 : ∀ (T5 : State) (v5_s0 : Int32), v5_s0 = (if (kk &&& (8 : Int32)) = (0 : Int32) then (((r2 &&& (2147483647 : Int32)) % (99 : Int32)) + (1 : Int32)) else u2) → Stand p l e room_1 s m args below meth c T5 [] 0 0 → T5.heap = h0 → Gl p e below (Ret s 5 10 (Q0 n0)) (T5.setTop (mkF m 67 #[.val (.int c1), .val (.int r1), .val (.int c2), .val (.int r2), .val (.int kk), .val (.int u1), .val (.int u2), .val (.int v3_s0), .unset, .unset, .unset, .unset, .unset, .unset, .unset, .unset, .unset, .unset] [(.int v5_s0)])) by
    by_cases c50_6 : (kk &&& (8 : Int32)) = (0 : Int32)
    · refine Gl.up (B := T3.setTop (mkF m 67 #[.val (.int c1), .val (.int r1), .val (.int c2), .val (.int r2), .val (.int kk), .val (.int u1), .val (.int u2), .val (.int v3_s0), .unset, .unset, .unset, .unset, .unset, .unset, .unset, .unset, .unset, .unset] [(.int (((r2 &&& (2147483647 : Int32)) % (99 : Int32)) + (1 : Int32)))])) (fun t kt => ?_) ?_
      · show Steps p.tables e below (T3.setTop (mkF m 50 #[.val (.int c1), .val (.int r1), .val (.int c2), .val (.int r2), .val (.int kk), .val (.int u1), .val (.int u2), .val (.int v3_s0), .unset, .unset, .unset, .unset, .unset, .unset, .unset, .unset, .unset, .unset] [(.int (kk &&& (8 : Int32)))])) _
        refine XS.ifYes X3.here hx rfl (pc0 := 50) (pc' := 58) rfl (hb hby at_50) rfl ((if0 _ _).trans (teq c50_6).1) (by decide) (by decide) ?_
        show Steps p.tables e below (T3.setTop (mkF m 58 #[.val (.int c1), .val (.int r1), .val (.int c2), .val (.int r2), .val (.int kk), .val (.int u1), .val (.int u2), .val (.int v3_s0), .unset, .unset, .unset, .unset, .unset, .unset, .unset, .unset, .unset, .unset] [])) _
        refine XS.iloadN X3.here hx rfl (hb hby at_58) rfl ?_
        show Steps p.tables e below (T3.setTop (mkF m 59 #[.val (.int c1), .val (.int r1), .val (.int c2), .val (.int r2), .val (.int kk), .val (.int u1), .val (.int u2), .val (.int v3_s0), .unset, .unset, .unset, .unset, .unset, .unset, .unset, .unset, .unset, .unset] [(.int r2)])) _
        refine X3.ldcInt hx hown (mvT hZ (hw _ (List.mem_of_getElem? (i := 0) rfl))) (g := (mkF m 59 #[.val (.int c1), .val (.int r1), .val (.int c2), .val (.int r2), .val (.int kk), .val (.int u1), .val (.int u2), .val (.int v3_s0), .unset, .unset, .unset, .unset, .unset, .unset, .unset, .unset, .unset, .unset] [(.int r2)])) rfl (hb hby at_59) _ ?_
        show Steps p.tables e below (T3.setTop (mkF m 61 #[.val (.int c1), .val (.int r1), .val (.int c2), .val (.int r2), .val (.int kk), .val (.int u1), .val (.int u2), .val (.int v3_s0), .unset, .unset, .unset, .unset, .unset, .unset, .unset, .unset, .unset, .unset] [(.int (2147483647 : Int32)), (.int r2)])) _
        refine XS.iand X3.here hx rfl (hb hby at_61) rfl ?_
        show Steps p.tables e below (T3.setTop (mkF m 62 #[.val (.int c1), .val (.int r1), .val (.int c2), .val (.int r2), .val (.int kk), .val (.int u1), .val (.int u2), .val (.int v3_s0), .unset, .unset, .unset, .unset, .unset, .unset, .unset, .unset, .unset, .unset] [(.int (r2 &&& (2147483647 : Int32)))])) _
        refine XS.bipush X3.here hx rfl (hb hby at_62) ?_
        show Steps p.tables e below (T3.setTop (mkF m 64 #[.val (.int c1), .val (.int r1), .val (.int c2), .val (.int r2), .val (.int kk), .val (.int u1), .val (.int u2), .val (.int v3_s0), .unset, .unset, .unset, .unset, .unset, .unset, .unset, .unset, .unset, .unset] [(.int (99 : Int32)), (.int (r2 &&& (2147483647 : Int32)))])) _
        refine iremM X3 hx rfl (hb hby at_64) rfl (by decide) ?_
        show Steps p.tables e below (T3.setTop (mkF m 65 #[.val (.int c1), .val (.int r1), .val (.int c2), .val (.int r2), .val (.int kk), .val (.int u1), .val (.int u2), .val (.int v3_s0), .unset, .unset, .unset, .unset, .unset, .unset, .unset, .unset, .unset, .unset] [(.int ((r2 &&& (2147483647 : Int32)) % (99 : Int32)))])) _
        refine XS.iconst X3.here hx rfl (hb hby at_65) ?_
        show Steps p.tables e below (T3.setTop (mkF m 66 #[.val (.int c1), .val (.int r1), .val (.int c2), .val (.int r2), .val (.int kk), .val (.int u1), .val (.int u2), .val (.int v3_s0), .unset, .unset, .unset, .unset, .unset, .unset, .unset, .unset, .unset, .unset] [(.int (1 : Int32)), (.int ((r2 &&& (2147483647 : Int32)) % (99 : Int32)))])) _
        refine XS.iadd X3.here hx rfl (hb hby at_66) rfl ?_
        exact kt
      exact J5 _ (((r2 &&& (2147483647 : Int32)) % (99 : Int32)) + (1 : Int32)) (if_pos c50_6).symm X3 e3
    · refine Gl.up (B := T3.setTop (mkF m 67 #[.val (.int c1), .val (.int r1), .val (.int c2), .val (.int r2), .val (.int kk), .val (.int u1), .val (.int u2), .val (.int v3_s0), .unset, .unset, .unset, .unset, .unset, .unset, .unset, .unset, .unset, .unset] [(.int u2)])) (fun t kt => ?_) ?_
      · show Steps p.tables e below (T3.setTop (mkF m 50 #[.val (.int c1), .val (.int r1), .val (.int c2), .val (.int r2), .val (.int kk), .val (.int u1), .val (.int u2), .val (.int v3_s0), .unset, .unset, .unset, .unset, .unset, .unset, .unset, .unset, .unset, .unset] [(.int (kk &&& (8 : Int32)))])) _
        refine XS.ifNo X3.here hx rfl (hb hby at_50) rfl ((if0 _ _).trans (feq c50_6).1) ?_
        show Steps p.tables e below (T3.setTop (mkF m 53 #[.val (.int c1), .val (.int r1), .val (.int c2), .val (.int r2), .val (.int kk), .val (.int u1), .val (.int u2), .val (.int v3_s0), .unset, .unset, .unset, .unset, .unset, .unset, .unset, .unset, .unset, .unset] [])) _
        refine XS.iload X3.here hx rfl (hb hby at_53) rfl ?_
        show Steps p.tables e below (T3.setTop (mkF m 55 #[.val (.int c1), .val (.int r1), .val (.int c2), .val (.int r2), .val (.int kk), .val (.int u1), .val (.int u2), .val (.int v3_s0), .unset, .unset, .unset, .unset, .unset, .unset, .unset, .unset, .unset, .unset] [(.int u2)])) _
        refine XS.goto X3.here hx rfl (pc0 := 55) (pc' := 67) rfl (hb hby at_55) (by decide) (by decide) ?_
        exact kt
      exact J5 _ u2 (if_neg c50_6).symm X3 e3
  intro T5 v5_s0 hv5_s0 X5 e5
  refine Gl.up (B := T5.setTop (mkF m 69 #[.val (.int c1), .val (.int r1), .val (.int c2), .val (.int r2), .val (.int kk), .val (.int u1), .val (.int u2), .val (.int v3_s0), .val (.int v5_s0), .unset, .unset, .unset, .unset, .unset, .unset, .unset, .unset, .unset] [])) (fun t kt => ?_) ?_
  · show Steps p.tables e below (T5.setTop (mkF m 67 #[.val (.int c1), .val (.int r1), .val (.int c2), .val (.int r2), .val (.int kk), .val (.int u1), .val (.int u2), .val (.int v3_s0), .unset, .unset, .unset, .unset, .unset, .unset, .unset, .unset, .unset, .unset] [(.int v5_s0)])) _
    refine XS.istore X5.here hx rfl (hb hby at_67) rfl (l' := #[.val (.int c1), .val (.int r1), .val (.int c2), .val (.int r2), .val (.int kk), .val (.int u1), .val (.int u2), .val (.int v3_s0), .val (.int v5_s0), .unset, .unset, .unset, .unset, .unset, .unset, .unset, .unset, .unset]) rfl ?_
    exact kt
  obtain ⟨T7, h7, X7, e7, E7, A7, D7, -, st7⟩ := newO X5 hx hZ hown (hw _ (List.mem_of_getElem? (i := 1) rfl)) (hw _ (List.mem_of_getElem? (i := 2) rfl)) (hw _ (List.mem_of_getElem? (i := 3) rfl)) e5 (g := (mkF m 69 #[.val (.int c1), .val (.int r1), .val (.int c2), .val (.int r2), .val (.int kk), .val (.int u1), .val (.int u2), .val (.int v3_s0), .val (.int v5_s0), .unset, .unset, .unset, .unset, .unset, .unset, .unset, .unset, .unset] [])) rfl (hb hby at_69) (by decide) (by decide)
  obtain ⟨b7, gq7⟩ : ∃ z, z = h0.size := ⟨_, rfl⟩
  rw [← gq7] at A7 D7 st7
  have g_b7 : n0 ≤ b7 := Nat.le_trans (old_le O0) (Nat.le_of_eq gq7.symm)
  have O7 := O0.ext E7
  have F_b7_column_7 : Fld Z h7 b7 "com/example/khamsin/khamsin/map/Hex" "column" "I" (.int (0 : Int32)) := D7 (Or.inr (hw _ (List.mem_of_getElem? (i := 19) rfl))) (ty := .int) (by decide)
  have F_b7_row_7 : Fld Z h7 b7 "com/example/khamsin/khamsin/map/Hex" "row" "I" (.int (0 : Int32)) := D7 (Or.inr (hw _ (List.mem_of_getElem? (i := 21) rfl))) (ty := .int) (by decide)
  refine Gl.up (B := T7.setTop (mkF m 72 #[.val (.int c1), .val (.int r1), .val (.int c2), .val (.int r2), .val (.int kk), .val (.int u1), .val (.int u2), .val (.int v3_s0), .val (.int v5_s0), .unset, .unset, .unset, .unset, .unset, .unset, .unset, .unset, .unset] [(.ref b7)])) (fun t kt => st7 _ kt) ?_
  refine Gl.up (B := T7.setTop (mkF m 77 #[.val (.int c1), .val (.int r1), .val (.int c2), .val (.int r2), .val (.int kk), .val (.int u1), .val (.int u2), .val (.int v3_s0), .val (.int v5_s0), .unset, .unset, .unset, .unset, .unset, .unset, .unset, .unset, .unset] [(.int u2), (.int u1), (.ref b7), (.ref b7)])) (fun t kt => ?_) ?_
  · show Steps p.tables e below (T7.setTop (mkF m 72 #[.val (.int c1), .val (.int r1), .val (.int c2), .val (.int r2), .val (.int kk), .val (.int u1), .val (.int u2), .val (.int v3_s0), .val (.int v5_s0), .unset, .unset, .unset, .unset, .unset, .unset, .unset, .unset, .unset] [(.ref b7)])) _
    refine XS.dup X7.here hx rfl (hb hby at_72) rfl rfl ?_
    show Steps p.tables e below (T7.setTop (mkF m 73 #[.val (.int c1), .val (.int r1), .val (.int c2), .val (.int r2), .val (.int kk), .val (.int u1), .val (.int u2), .val (.int v3_s0), .val (.int v5_s0), .unset, .unset, .unset, .unset, .unset, .unset, .unset, .unset, .unset] [(.ref b7), (.ref b7)])) _
    refine XS.iload X7.here hx rfl (hb hby at_73) rfl ?_
    show Steps p.tables e below (T7.setTop (mkF m 75 #[.val (.int c1), .val (.int r1), .val (.int c2), .val (.int r2), .val (.int kk), .val (.int u1), .val (.int u2), .val (.int v3_s0), .val (.int v5_s0), .unset, .unset, .unset, .unset, .unset, .unset, .unset, .unset, .unset] [(.int u1), (.ref b7), (.ref b7)])) _
    refine XS.iload X7.here hx rfl (hb hby at_75) rfl ?_
    exact kt
  obtain ⟨_, _, ⟨T8, L8, k8, n8⟩, -, X8, ⟨Lc8, hQ8, l8, y8, z8⟩, st8⟩ := X7.specialBack hx (y := (⟨"com/example/khamsin/khamsin/map/Hex", "<init>", "(II)V"⟩ : MethodName)) rfl hown (mvT hZ (hw _ (List.mem_of_getElem? (i := 4) rfl))) (mvT hZ (hw _ (List.mem_of_getElem? (i := 5) rfl))) (mvT hZ (hw _ (List.mem_of_getElem? (i := 6) rfl))) (by decide) (backOf (W := 1) (rm1 l Z aa hw [] b7 u1 u2 (0 : Int32) (0 : Int32) h7 n0 O7 A7 F_b7_column_7 F_b7_row_7 g_b7 (own_grid (by rw [hu1]; exact own_c99 _) (by rw [hu2]; exact own_c99 _))) hZ (hw _ (List.mem_of_getElem? (i := 6) rfl)) (hw _ (List.mem_of_getElem? (i := 3) rfl)) (by decide) (by decide)) (g := (mkF m 77 #[.val (.int c1), .val (.int r1), .val (.int c2), .val (.int r2), .val (.int kk), .val (.int u1), .val (.int u2), .val (.int v3_s0), .val (.int v5_s0), .unset, .unset, .unset, .unset, .unset, .unset, .unset, .unset, .unset] [(.int u2), (.int u1), (.ref b7), (.ref b7)])) rfl (by rw [hml]; rfl) (Steps.refl _) (a := b7) (argsL := [(.int u1), (.int u2)]) (rest := [(.ref b7)]) (lenOf pd_oIIcV rfl) rfl (by show 2 * 0 + _ ≤ _; exact Nat.le_of_eq rfl) (hb hby at_77) (fun _ _ => ⟨rfl, e7, (by decide : 1 + 0 ≤ _), (by decide : 2 + 0 ≤ _)⟩)
  dsimp only [Pt.U, Pt.locs, Pt.cells, Pt.slots] at X8 l8 y8 z8 st8 hQ8
  subst l8 y8 z8
  obtain ⟨rfl, M8, K8, F_b7_column_8, F_b7_row_8⟩ := hQ8
  have N8 := Fr.app N0 M8
  have O8 := O7.keep K8 (allS g_b7 all0)
  have E_b7_8 := A7.keep K8
  refine Gl.up (B := T8.setTop (mkF m 80 #[.val (.int c1), .val (.int r1), .val (.int c2), .val (.int r2), .val (.int kk), .val (.int u1), .val (.int u2), .val (.int v3_s0), .val (.int v5_s0), .unset, .unset, .unset, .unset, .unset, .unset, .unset, .unset, .unset] [(.ref b7)])) (fun t kt => st8.trans kt) ?_
  refine Gl.up (B := T8.setTop (mkF m 82 #[.val (.int c1), .val (.int r1), .val (.int c2), .val (.int r2), .val (.int kk), .val (.int u1), .val (.int u2), .val (.int v3_s0), .val (.int v5_s0), .val (.ref b7), .unset, .unset, .unset, .unset, .unset, .unset, .unset, .unset] [])) (fun t kt => ?_) ?_
  · show Steps p.tables e below (T8.setTop (mkF m 80 #[.val (.int c1), .val (.int r1), .val (.int c2), .val (.int r2), .val (.int kk), .val (.int u1), .val (.int u2), .val (.int v3_s0), .val (.int v5_s0), .unset, .unset, .unset, .unset, .unset, .unset, .unset, .unset, .unset] [(.ref b7)])) _
    refine XS.astore X8.here hx rfl (hb hby at_80) rfl rfl (l' := #[.val (.int c1), .val (.int r1), .val (.int c2), .val (.int r2), .val (.int kk), .val (.int u1), .val (.int u2), .val (.int v3_s0), .val (.int v5_s0), .val (.ref b7), .unset, .unset, .unset, .unset, .unset, .unset, .unset, .unset]) rfl ?_
    exact kt
  obtain ⟨T9, h9, X9, e9, E9, A9, D9, -, st9⟩ := newO X8 hx hZ hown (hw _ (List.mem_of_getElem? (i := 1) rfl)) (hw _ (List.mem_of_getElem? (i := 2) rfl)) (hw _ (List.mem_of_getElem? (i := 3) rfl)) rfl (g := (mkF m 82 #[.val (.int c1), .val (.int r1), .val (.int c2), .val (.int r2), .val (.int kk), .val (.int u1), .val (.int u2), .val (.int v3_s0), .val (.int v5_s0), .val (.ref b7), .unset, .unset, .unset, .unset, .unset, .unset, .unset, .unset] [])) rfl (hb hby at_82) (by decide) (by decide)
  obtain ⟨b9, gq9⟩ : ∃ z, z = T8.heap.size := ⟨_, rfl⟩
  rw [← gq9] at A9 D9 st9
  have ne_b7_b9 : b7 ≠ b9 := Nat.ne_of_lt (Nat.lt_of_lt_of_le E_b7_8.lt (Nat.le_of_eq gq9.symm))
  have g_b9 : n0 ≤ b9 := Nat.le_trans (old_le O8) (Nat.le_of_eq gq9.symm)
  have O9 := O8.ext E9
  have E_b7_9 := E_b7_8.ext E9
  have F_b7_column_9 := F_b7_column_8.ext E9
  have F_b7_row_9 := F_b7_row_8.ext E9
  have F_b9_column_9 : Fld Z h9 b9 "com/example/khamsin/khamsin/map/Hex" "column" "I" (.int (0 : Int32)) := D9 (Or.inr (hw _ (List.mem_of_getElem? (i := 19) rfl))) (ty := .int) (by decide)
  have F_b9_row_9 : Fld Z h9 b9 "com/example/khamsin/khamsin/map/Hex" "row" "I" (.int (0 : Int32)) := D9 (Or.inr (hw _ (List.mem_of_getElem? (i := 21) rfl))) (ty := .int) (by decide)
  refine Gl.up (B := T9.setTop (mkF m 85 #[.val (.int c1), .val (.int r1), .val (.int c2), .val (.int r2), .val (.int kk), .val (.int u1), .val (.int u2), .val (.int v3_s0), .val (.int v5_s0), .val (.ref b7), .unset, .unset, .unset, .unset, .unset, .unset, .unset, .unset] [(.ref b9)])) (fun t kt => st9 _ kt) ?_
  refine Gl.up (B := T9.setTop (mkF m 90 #[.val (.int c1), .val (.int r1), .val (.int c2), .val (.int r2), .val (.int kk), .val (.int u1), .val (.int u2), .val (.int v3_s0), .val (.int v5_s0), .val (.ref b7), .unset, .unset, .unset, .unset, .unset, .unset, .unset, .unset] [(.int v5_s0), (.int v3_s0), (.ref b9), (.ref b9)])) (fun t kt => ?_) ?_
  · show Steps p.tables e below (T9.setTop (mkF m 85 #[.val (.int c1), .val (.int r1), .val (.int c2), .val (.int r2), .val (.int kk), .val (.int u1), .val (.int u2), .val (.int v3_s0), .val (.int v5_s0), .val (.ref b7), .unset, .unset, .unset, .unset, .unset, .unset, .unset, .unset] [(.ref b9)])) _
    refine XS.dup X9.here hx rfl (hb hby at_85) rfl rfl ?_
    show Steps p.tables e below (T9.setTop (mkF m 86 #[.val (.int c1), .val (.int r1), .val (.int c2), .val (.int r2), .val (.int kk), .val (.int u1), .val (.int u2), .val (.int v3_s0), .val (.int v5_s0), .val (.ref b7), .unset, .unset, .unset, .unset, .unset, .unset, .unset, .unset] [(.ref b9), (.ref b9)])) _
    refine XS.iload X9.here hx rfl (hb hby at_86) rfl ?_
    show Steps p.tables e below (T9.setTop (mkF m 88 #[.val (.int c1), .val (.int r1), .val (.int c2), .val (.int r2), .val (.int kk), .val (.int u1), .val (.int u2), .val (.int v3_s0), .val (.int v5_s0), .val (.ref b7), .unset, .unset, .unset, .unset, .unset, .unset, .unset, .unset] [(.int v3_s0), (.ref b9), (.ref b9)])) _
    refine XS.iload X9.here hx rfl (hb hby at_88) rfl ?_
    exact kt
  obtain ⟨_, _, ⟨T10, L10, k10, n10⟩, -, X10, ⟨Lc10, hQ10, l10, y10, z10⟩, st10⟩ := X9.specialBack hx (y := (⟨"com/example/khamsin/khamsin/map/Hex", "<init>", "(II)V"⟩ : MethodName)) rfl hown (mvT hZ (hw _ (List.mem_of_getElem? (i := 4) rfl))) (mvT hZ (hw _ (List.mem_of_getElem? (i := 5) rfl))) (mvT hZ (hw _ (List.mem_of_getElem? (i := 6) rfl))) (by decide) (backOf (W := 1) (rm1 l Z aa hw [] b9 v3_s0 v5_s0 (0 : Int32) (0 : Int32) h9 n0 O9 A9 F_b9_column_9 F_b9_row_9 g_b9 (own_grid (own_ite hv3_s0 (own_c99 _) (by rw [hu1]; exact own_c99 _)) (own_ite hv5_s0 (own_c99 _) (by rw [hu2]; exact own_c99 _)))) hZ (hw _ (List.mem_of_getElem? (i := 6) rfl)) (hw _ (List.mem_of_getElem? (i := 3) rfl)) (by decide) (by decide)) (g := (mkF m 90 #[.val (.int c1), .val (.int r1), .val (.int c2), .val (.int r2), .val (.int kk), .val (.int u1), .val (.int u2), .val (.int v3_s0), .val (.int v5_s0), .val (.ref b7), .unset, .unset, .unset, .unset, .unset, .unset, .unset, .unset] [(.int v5_s0), (.int v3_s0), (.ref b9), (.ref b9)])) rfl (by rw [hml]; rfl) (Steps.refl _) (a := b9) (argsL := [(.int v3_s0), (.int v5_s0)]) (rest := [(.ref b9)]) (lenOf pd_oIIcV rfl) rfl (by show 2 * 0 + _ ≤ _; exact Nat.le_of_eq rfl) (hb hby at_90) (fun _ _ => ⟨rfl, e9, (by decide : 2 + 0 ≤ _), (by decide : 4 + 0 ≤ _)⟩)
  dsimp only [Pt.U, Pt.locs, Pt.cells, Pt.slots] at X10 l10 y10 z10 st10 hQ10
  subst l10 y10 z10
  obtain ⟨rfl, M10, K10, F_b9_column_10, F_b9_row_10⟩ := hQ10
  have N10 := Fr.app N8 M10
  have O10 := O9.keep K10 (allS g_b9 all0)
  have E_b7_10 := E_b7_9.keep K10
  have F_b7_column_10 := F_b7_column_9.keep K10 (ninS ne_b7_b9 nin0)
  have F_b7_row_10 := F_b7_row_9.keep K10 (ninS ne_b7_b9 nin0)
  have E_b9_10 := A9.keep K10
  refine Gl.up (B := T10.setTop (mkF m 93 #[.val (.int c1), .val (.int r1), .val (.int c2), .val (.int r2), .val (.int kk), .val (.int u1), .val (.int u2), .val (.int v3_s0), .val (.int v5_s0), .val (.ref b7), .unset, .unset, .unset, .unset, .unset, .unset, .unset, .unset] [(.ref b9)])) (fun t kt => st10.trans kt) ?_
  refine Gl.up (B := T10.setTop (mkF m 96 #[.val (.int c1), .val (.int r1), .val (.int c2), .val (.int r2), .val (.int kk), .val (.int u1), .val (.int u2), .val (.int v3_s0), .val (.int v5_s0), .val (.ref b7), .val (.ref b9), .unset, .unset, .unset, .unset, .unset, .unset, .unset] [(.int (1 : Int32))])) (fun t kt => ?_) ?_
  · show Steps p.tables e below (T10.setTop (mkF m 93 #[.val (.int c1), .val (.int r1), .val (.int c2), .val (.int r2), .val (.int kk), .val (.int u1), .val (.int u2), .val (.int v3_s0), .val (.int v5_s0), .val (.ref b7), .unset, .unset, .unset, .unset, .unset, .unset, .unset, .unset] [(.ref b9)])) _
    refine XS.astore X10.here hx rfl (hb hby at_93) rfl rfl (l' := #[.val (.int c1), .val (.int r1), .val (.int c2), .val (.int r2), .val (.int kk), .val (.int u1), .val (.int u2), .val (.int v3_s0), .val (.int v5_s0), .val (.ref b7), .val (.ref b9), .unset, .unset, .unset, .unset, .unset, .unset, .unset]) rfl ?_
    show Steps p.tables e below (T10.setTop (mkF m 95 #[.val (.int c1), .val (.int r1), .val (.int c2), .val (.int r2), .val (.int kk), .val (.int u1), .val (.int u2), .val (.int v3_s0), .val (.int v5_s0), .val (.ref b7), .val (.ref b9), .unset, .unset, .unset, .unset, .unset, .unset, .unset] [])) _
    refine XS.iconst X10.here hx rfl (hb hby at_95) ?_
    exact kt
  obtain ⟨T11, h11, k11, X11, e11, E11, A11, st11⟩ := newP X10 hx hZ (hw _ (List.mem_of_getElem? (i := 22) rfl)) rfl (g := (mkF m 96 #[.val (.int c1), .val (.int r1), .val (.int c2), .val (.int r2), .val (.int kk), .val (.int u1), .val (.int u2), .val (.int v3_s0), .val (.int v5_s0), .val (.ref b7), .val (.ref b9), .unset, .unset, .unset, .unset, .unset, .unset, .unset] [(.int (1 : Int32))])) rfl (hb hby at_96) rfl (by decide) (cap := 1) (by decide) (by decide) (by decide) (by decide)
  obtain ⟨b11, gq11⟩ : ∃ z, z = T10.heap.size := ⟨_, rfl⟩
  have ne_b7_b11 : b7 ≠ b11 := Nat.ne_of_lt (Nat.lt_of_lt_of_le E_b7_10.lt (Nat.le_of_eq gq11.symm))
  have ne_b9_b11 : b9 ≠ b11 := Nat.ne_of_lt (Nat.lt_of_lt_of_le E_b9_10.lt (Nat.le_of_eq gq11.symm))
  have g_b11 : n0 ≤ b11 := Nat.le_trans (old_le O10) (Nat.le_of_eq gq11.symm)
  have O11 := O10.ext E11
  have E_b7_11 := E_b7_10.ext E11
  have F_b7_column_11 := F_b7_column_10.ext E11
  have F_b7_row_11 := F_b7_row_10.ext E11
  have E_b9_11 := E_b9_10.ext E11
  have F_b9_column_11 := F_b9_column_10.ext E11
  have F_b9_row_11 := F_b9_row_10.ext E11
  rw [← gq11] at A11 st11
  have V_b11_11 : Arv Z h11 b11 k11 .char (1 : Int32) (([0] : List Int32).map Value.int) (.int (0 : Int32)) := (Arv.new A11 (by decide)).pad (pad_rep [] (.int (0 : Int32)) 1)
  refine Gl.up (B := T11.setTop (mkF m 98 #[.val (.int c1), .val (.int r1), .val (.int c2), .val (.int r2), .val (.int kk), .val (.int u1), .val (.int u2), .val (.int v3_s0), .val (.int v5_s0), .val (.ref b7), .val (.ref b9), .unset, .unset, .unset, .unset, .unset, .unset, .unset] [(.ref b11)])) (fun t kt => st11 _ kt) ?_
  refine Gl.up (B := T11.setTop (mkF m 110 #[.val (.int c1), .val (.int r1), .val (.int c2), .val (.int r2), .val (.int kk), .val (.int u1), .val (.int u2), .val (.int v3_s0), .val (.int v5_s0), .val (.ref b7), .val (.ref b9), .unset, .unset, .unset, .unset, .unset, .unset, .unset] [(.int ((((kk.toUInt32 >>> ((8 : Int32) &&& 31).toUInt32).toInt32) &&& (255 : Int32)).toUInt32.toUInt16.toUInt32.toInt32)), (.int (0 : Int32)), (.ref b11), (.ref b11)])) (fun t kt => ?_) ?_
  · show Steps p.tables e below (T11.setTop (mkF m 98 #[.val (.int c1), .val (.int r1), .val (.int c2), .val (.int r2), .val (.int kk), .val (.int u1), .val (.int u2), .val (.int v3_s0), .val (.int v5_s0), .val (.ref b7), .val (.ref b9), .unset, .unset, .unset, .unset, .unset, .unset, .unset] [(.ref b11)])) _
    refine XS.dup X11.here hx rfl (hb hby at_98) rfl rfl ?_
    show Steps p.tables e below (T11.setTop (mkF m 99 #[.val (.int c1), .val (.int r1), .val (.int c2), .val (.int r2), .val (.int kk), .val (.int u1), .val (.int u2), .val (.int v3_s0), .val (.int v5_s0), .val (.ref b7), .val (.ref b9), .unset, .unset, .unset, .unset, .unset, .unset, .unset] [(.ref b11), (.ref b11)])) _
    refine XS.iconst X11.here hx rfl (hb hby at_99) ?_
    show Steps p.tables e below (T11.setTop (mkF m 100 #[.val (.int c1), .val (.int r1), .val (.int c2), .val (.int r2), .val (.int kk), .val (.int u1), .val (.int u2), .val (.int v3_s0), .val (.int v5_s0), .val (.ref b7), .val (.ref b9), .unset, .unset, .unset, .unset, .unset, .unset, .unset] [(.int (0 : Int32)), (.ref b11), (.ref b11)])) _
    refine XS.iload X11.here hx rfl (hb hby at_100) rfl ?_
    show Steps p.tables e below (T11.setTop (mkF m 102 #[.val (.int c1), .val (.int r1), .val (.int c2), .val (.int r2), .val (.int kk), .val (.int u1), .val (.int u2), .val (.int v3_s0), .val (.int v5_s0), .val (.ref b7), .val (.ref b9), .unset, .unset, .unset, .unset, .unset, .unset, .unset] [(.int kk), (.int (0 : Int32)), (.ref b11), (.ref b11)])) _
    refine XS.bipush X11.here hx rfl (hb hby at_102) ?_
    show Steps p.tables e below (T11.setTop (mkF m 104 #[.val (.int c1), .val (.int r1), .val (.int c2), .val (.int r2), .val (.int kk), .val (.int u1), .val (.int u2), .val (.int v3_s0), .val (.int v5_s0), .val (.ref b7), .val (.ref b9), .unset, .unset, .unset, .unset, .unset, .unset, .unset] [(.int (8 : Int32)), (.int kk), (.int (0 : Int32)), (.ref b11), (.ref b11)])) _
    refine XS.iushr X11.here hx rfl (hb hby at_104) rfl ?_
    show Steps p.tables e below (T11.setTop (mkF m 105 #[.val (.int c1), .val (.int r1), .val (.int c2), .val (.int r2), .val (.int kk), .val (.int u1), .val (.int u2), .val (.int v3_s0), .val (.int v5_s0), .val (.ref b7), .val (.ref b9), .unset, .unset, .unset, .unset, .unset, .unset, .unset] [(.int ((kk.toUInt32 >>> ((8 : Int32) &&& 31).toUInt32).toInt32)), (.int (0 : Int32)), (.ref b11), (.ref b11)])) _
    refine XS.sipush X11.here hx rfl (hb hby at_105) ?_
    show Steps p.tables e below (T11.setTop (mkF m 108 #[.val (.int c1), .val (.int r1), .val (.int c2), .val (.int r2), .val (.int kk), .val (.int u1), .val (.int u2), .val (.int v3_s0), .val (.int v5_s0), .val (.ref b7), .val (.ref b9), .unset, .unset, .unset, .unset, .unset, .unset, .unset] [(.int (255 : Int32)), (.int ((kk.toUInt32 >>> ((8 : Int32) &&& 31).toUInt32).toInt32)), (.int (0 : Int32)), (.ref b11), (.ref b11)])) _
    refine XS.iand X11.here hx rfl (hb hby at_108) rfl ?_
    show Steps p.tables e below (T11.setTop (mkF m 109 #[.val (.int c1), .val (.int r1), .val (.int c2), .val (.int r2), .val (.int kk), .val (.int u1), .val (.int u2), .val (.int v3_s0), .val (.int v5_s0), .val (.ref b7), .val (.ref b9), .unset, .unset, .unset, .unset, .unset, .unset, .unset] [(.int (((kk.toUInt32 >>> ((8 : Int32) &&& 31).toUInt32).toInt32) &&& (255 : Int32))), (.int (0 : Int32)), (.ref b11), (.ref b11)])) _
    refine XS.i2c X11.here hx rfl (hb hby at_109) rfl ?_
    exact kt
  obtain ⟨ca12, Ar12, q12, S12, M12, H12, U12⟩ := id V_b11_11
  obtain ⟨T12, h12, X12, e12, W12, st12⟩ := stC X11 hx hZ e11 Ar12 (j := (0 : Int32)) (inb_of S12 ⟨by decide, by decide⟩) (g := (mkF m 110 #[.val (.int c1), .val (.int r1), .val (.int c2), .val (.int r2), .val (.int kk), .val (.int u1), .val (.int u2), .val (.int v3_s0), .val (.int v5_s0), .val (.ref b7), .val (.ref b9), .unset, .unset, .unset, .unset, .unset, .unset, .unset] [(.int ((((kk.toUInt32 >>> ((8 : Int32) &&& 31).toUInt32).toInt32) &&& (255 : Int32)).toUInt32.toUInt16.toUInt32.toInt32)), (.int (0 : Int32)), (.ref b11), (.ref b11)])) rfl rfl (hb hby at_110)
  have N12 := Fr.snoc X12 N10 g_b11
  have O12 := O11.wr W12 g_b11
  have E_b7_12 := E_b7_11.wr W12
  have F_b7_column_12 := F_b7_column_11.other W12 (Or.inl ne_b7_b11)
  have F_b7_row_12 := F_b7_row_11.other W12 (Or.inl ne_b7_b11)
  have E_b9_12 := E_b9_11.wr W12
  have F_b9_column_12 := F_b9_column_11.other W12 (Or.inl ne_b9_b11)
  have F_b9_row_12 := F_b9_row_11.other W12 (Or.inl ne_b9_b11)
  have V_b11_12 := Arv.set Ar12 q12 S12 M12 H12 U12 (fits_nar_char _) W12 0 rfl (by simp only [List.length_map, List.length_set, List.length_cons, List.length_nil]; omega)
  rw [own_mapset] at V_b11_12
  refine Gl.up (B := T12.setTop (mkF m 111 #[.val (.int c1), .val (.int r1), .val (.int c2), .val (.int r2), .val (.int kk), .val (.int u1), .val (.int u2), .val (.int v3_s0), .val (.int v5_s0), .val (.ref b7), .val (.ref b9), .unset, .unset, .unset, .unset, .unset, .unset, .unset] [(.ref b11)])) (fun t kt => st12 _ kt) ?_
  refine Gl.up (B := T12.setTop (mkF m 113 #[.val (.int c1), .val (.int r1), .val (.int c2), .val (.int r2), .val (.int kk), .val (.int u1), .val (.int u2), .val (.int v3_s0), .val (.int v5_s0), .val (.ref b7), .val (.ref b9), .val (.ref b11), .unset, .unset, .unset, .unset, .unset, .unset] [])) (fun t kt => ?_) ?_
  · show Steps p.tables e below (T12.setTop (mkF m 111 #[.val (.int c1), .val (.int r1), .val (.int c2), .val (.int r2), .val (.int kk), .val (.int u1), .val (.int u2), .val (.int v3_s0), .val (.int v5_s0), .val (.ref b7), .val (.ref b9), .unset, .unset, .unset, .unset, .unset, .unset, .unset] [(.ref b11)])) _
    refine XS.astore X12.here hx rfl (hb hby at_111) rfl rfl (l' := #[.val (.int c1), .val (.int r1), .val (.int c2), .val (.int r2), .val (.int kk), .val (.int u1), .val (.int u2), .val (.int v3_s0), .val (.int v5_s0), .val (.ref b7), .val (.ref b9), .val (.ref b11), .unset, .unset, .unset, .unset, .unset, .unset]) rfl ?_
    exact kt
  obtain ⟨T13, h13, X13, e13, E13, A13, D13, -, st13⟩ := newO X12 hx hZ hown (hw _ (List.mem_of_getElem? (i := 23) rfl)) (hw _ (List.mem_of_getElem? (i := 24) rfl)) (hw _ (List.mem_of_getElem? (i := 25) rfl)) e12 (g := (mkF m 113 #[.val (.int c1), .val (.int r1), .val (.int c2), .val (.int r2), .val (.int kk), .val (.int u1), .val (.int u2), .val (.int v3_s0), .val (.int v5_s0), .val (.ref b7), .val (.ref b9), .val (.ref b11), .unset, .unset, .unset, .unset, .unset, .unset] [])) rfl (hb hby at_113) (by decide) (by decide)
  obtain ⟨b13, gq13⟩ : ∃ z, z = h12.size := ⟨_, rfl⟩
  rw [← gq13] at A13 D13 st13
  have ne_b7_b13 : b7 ≠ b13 := Nat.ne_of_lt (Nat.lt_of_lt_of_le E_b7_12.lt (Nat.le_of_eq gq13.symm))
  have ne_b9_b13 : b9 ≠ b13 := Nat.ne_of_lt (Nat.lt_of_lt_of_le E_b9_12.lt (Nat.le_of_eq gq13.symm))
  have ne_b11_b13 : b11 ≠ b13 := Nat.ne_of_lt (Nat.lt_of_lt_of_le V_b11_12.lt (Nat.le_of_eq gq13.symm))
  have g_b13 : n0 ≤ b13 := Nat.le_trans (old_le O12) (Nat.le_of_eq gq13.symm)
  have O13 := O12.ext E13
  have E_b7_13 := E_b7_12.ext E13
  have F_b7_column_13 := F_b7_column_12.ext E13
  have F_b7_row_13 := F_b7_row_12.ext E13
  have E_b9_13 := E_b9_12.ext E13
  have F_b9_column_13 := F_b9_column_12.ext E13
  have F_b9_row_13 := F_b9_row_12.ext E13
  have V_b11_13 := V_b11_12.ext E13
  have F_b13_coder_13 : Fld Z h13 b13 "java/lang/String" "coder" "B" (.int (0 : Int32)) := D13 (Or.inr (hw _ (List.mem_of_getElem? (i := 47) rfl))) (ty := .byte) (by decide)
  have F_b13_value_13 : Fld Z h13 b13 "java/lang/String" "value" "[B" .null := D13 (Or.inr (hw _ (List.mem_of_getElem? (i := 49) rfl))) (ty := (.array .byte)) (by decide)
  refine Gl.up (B := T13.setTop (mkF m 116 #[.val (.int c1), .val (.int r1), .val (.int c2), .val (.int r2), .val (.int kk), .val (.int u1), .val (.int u2), .val (.int v3_s0), .val (.int v5_s0), .val (.ref b7), .val (.ref b9), .val (.ref b11), .unset, .unset, .unset, .unset, .unset, .unset] [(.ref b13)])) (fun t kt => st13 _ kt) ?_
  refine Gl.up (B := T13.setTop (mkF m 119 #[.val (.int c1), .val (.int r1), .val (.int c2), .val (.int r2), .val (.int kk), .val (.int u1), .val (.int u2), .val (.int v3_s0), .val (.int v5_s0), .val (.ref b7), .val (.ref b9), .val (.ref b11), .unset, .unset, .unset, .unset, .unset, .unset] [(.ref b11), (.ref b13), (.ref b13)])) (fun t kt => ?_) ?_
  · show Steps p.tables e below (T13.setTop (mkF m 116 #[.val (.int c1), .val (.int r1), .val (.int c2), .val (.int r2), .val (.int kk), .val (.int u1), .val (.int u2), .val (.int v3_s0), .val (.int v5_s0), .val (.ref b7), .val (.ref b9), .val (.ref b11), .unset, .unset, .unset, .unset, .unset, .unset] [(.ref b13)])) _
    refine XS.dup X13.here hx rfl (hb hby at_116) rfl rfl ?_
    show Steps p.tables e below (T13.setTop (mkF m 117 #[.val (.int c1), .val (.int r1), .val (.int c2), .val (.int r2), .val (.int kk), .val (.int u1), .val (.int u2), .val (.int v3_s0), .val (.int v5_s0), .val (.ref b7), .val (.ref b9), .val (.ref b11), .unset, .unset, .unset, .unset, .unset, .unset] [(.ref b13), (.ref b13)])) _
    refine XS.aload X13.here hx rfl (hb hby at_117) rfl rfl ?_
    exact kt
  have hws : ∀ d ∈ StrChars.Road.words, d.before aa Z = true := fun d hd => hw d ((by decide +kernel : ∀ d ∈ StrChars.Road.words, d ∈ tables_1) d hd)
  obtain ⟨cs14, hcs14⟩ : ∃ q : List Int32, q = (([0] : List Int32).set 0 (nar .char ((((kk.toUInt32 >>> ((8 : Int32) &&& 31).toUInt32).toInt32) &&& (255 : Int32)).toUInt32.toUInt16.toUInt32.toInt32))) := ⟨_, rfl⟩
  rw [← hcs14] at V_b11_13
  have hlen14 : cs14.length = 1 := by rw [hcs14]; simp
  have hlat14 : ∀ c ∈ cs14, ¬ c < 0 ∧ ¬ (255 : Int32) < c := by rw [hcs14]; exact own_latc _
  obtain ⟨_, _, ⟨T14, L14, k14, n14⟩, -, X14, ⟨Lc14, hQ14, l14, y14, z14⟩, st14⟩ := X13.specialBack hx (y := (⟨"java/lang/String", "<init>", "([C)V"⟩ : MethodName)) rfl hown (mvT hZ (hw _ (List.mem_of_getElem? (i := 26) rfl))) (mvT hZ (hw _ (List.mem_of_getElem? (i := 27) rfl))) (mvT hZ (hw _ (List.mem_of_getElem? (i := 28) rfl))) (by decide) (StrChars.Road.backV (W := 1) hZ hws (kI := 4) (hw _ (List.mem_of_getElem? (i := 24) rfl)) (cs := cs14) (bs := cs14.map (fun c => c.toInt8.toInt32)) (n := 1) g_b13 (old_le O13) A13 F_b13_value_13 F_b13_coder_13 V_b11_13 (S_zc.ext O13.2) P3 hlen14 rfl (by decide) (by decide) hlat14 rfl (by decide) (by decide)) (g := (mkF m 119 #[.val (.int c1), .val (.int r1), .val (.int c2), .val (.int r2), .val (.int kk), .val (.int u1), .val (.int u2), .val (.int v3_s0), .val (.int v5_s0), .val (.ref b7), .val (.ref b9), .val (.ref b11), .unset, .unset, .unset, .unset, .unset, .unset] [(.ref b11), (.ref b13), (.ref b13)])) rfl (by rw [hml]; rfl) (Steps.refl _) (a := b13) (argsL := [(.ref b11)]) (rest := [(.ref b13)]) (lenOf pd_oaCcV rfl) rfl (by show 2 * 0 + _ ≤ _; exact Nat.le_of_eq rfl) (hb hby at_119) (fun _ _ => ⟨rfl, e13, (by decide : 4 + 1 ≤ _), (by decide : 9 + 1 ≤ _)⟩)
  dsimp only [Pt.U, Pt.locs, Pt.cells, Pt.slots] at X14 l14 y14 z14 st14 hQ14
  subst l14 y14 z14
  obtain ⟨rfl, M14, K14, Es14, Cs14, ts14, ks14, gt14, -, -, Vs14, As14⟩ := hQ14
  have N14 := Fr.app N12 M14
  have O14 := O13.keep K14 (allS g_b13 all0)
  have E_b7_14 := E_b7_13.keep K14
  have F_b7_column_14 := F_b7_column_13.keep K14 (ninS ne_b7_b13 nin0)
  have F_b7_row_14 := F_b7_row_13.keep K14 (ninS ne_b7_b13 nin0)
  have E_b9_14 := E_b9_13.keep K14
  have F_b9_column_14 := F_b9_column_13.keep K14 (ninS ne_b9_b13 nin0)
  have F_b9_row_14 := F_b9_row_13.keep K14 (ninS ne_b9_b13 nin0)
  have V_b11_14 := V_b11_13.keep K14 (ninS ne_b11_b13 nin0)
  have E_b13_14 := A13.keep K14
  refine Gl.up (B := T14.setTop (mkF m 122 #[.val (.int c1), .val (.int r1), .val (.int c2), .val (.int r2), .val (.int kk), .val (.int u1), .val (.int u2), .val (.int v3_s0), .val (.int v5_s0), .val (.ref b7), .val (.ref b9), .val (.ref b11), .unset, .unset, .unset, .unset, .unset, .unset] [(.ref b13)])) (fun t kt => st14.trans kt) ?_
  refine Gl.up (B := T14.setTop (mkF m 130 #[.val (.int c1), .val (.int r1), .val (.int c2), .val (.int r2), .val (.int kk), .val (.int u1), .val (.int u2), .val (.int v3_s0), .val (.int v5_s0), .val (.ref b7), .val (.ref b9), .val (.ref b11), .val (.ref b13), .unset, .unset, .unset, .unset, .unset] [(.int (((kk.toUInt32 >>> ((4 : Int32) &&& 31).toUInt32).toInt32) &&& (3 : Int32)))])) (fun t kt => ?_) ?_
  · show Steps p.tables e below (T14.setTop (mkF m 122 #[.val (.int c1), .val (.int r1), .val (.int c2), .val (.int r2), .val (.int kk), .val (.int u1), .val (.int u2), .val (.int v3_s0), .val (.int v5_s0), .val (.ref b7), .val (.ref b9), .val (.ref b11), .unset, .unset, .unset, .unset, .unset, .unset] [(.ref b13)])) _
    refine XS.astore X14.here hx rfl (hb hby at_122) rfl rfl (l' := #[.val (.int c1), .val (.int r1), .val (.int c2), .val (.int r2), .val (.int kk), .val (.int u1), .val (.int u2), .val (.int v3_s0), .val (.int v5_s0), .val (.ref b7), .val (.ref b9), .val (.ref b11), .val (.ref b13), .unset, .unset, .unset, .unset, .unset]) rfl ?_
    show Steps p.tables e below (T14.setTop (mkF m 124 #[.val (.int c1), .val (.int r1), .val (.int c2), .val (.int r2), .val (.int kk), .val (.int u1), .val (.int u2), .val (.int v3_s0), .val (.int v5_s0), .val (.ref b7), .val (.ref b9), .val (.ref b11), .val (.ref b13), .unset, .unset, .unset, .unset, .unset] [])) _
    refine XS.iload X14.here hx rfl (hb hby at_124) rfl ?_
    show Steps p.tables e below (T14.setTop (mkF m 126 #[.val (.int c1), .val (.int r1), .val (.int c2), .val (.int r2), .val (.int kk), .val (.int u1), .val (.int u2), .val (.int v3_s0), .val (.int v5_s0), .val (.ref b7), .val (.ref b9), .val (.ref b11), .val (.ref b13), .unset, .unset, .unset, .unset, .unset] [(.int kk)])) _
    refine XS.iconst X14.here hx rfl (hb hby at_126) ?_
    show Steps p.tables e below (T14.setTop (mkF m 127 #[.val (.int c1), .val (.int r1), .val (.int c2), .val (.int r2), .val (.int kk), .val (.int u1), .val (.int u2), .val (.int v3_s0), .val (.int v5_s0), .val (.ref b7), .val (.ref b9), .val (.ref b11), .val (.ref b13), .unset, .unset, .unset, .unset, .unset] [(.int (4 : Int32)), (.int kk)])) _
    refine XS.iushr X14.here hx rfl (hb hby at_127) rfl ?_
    show Steps p.tables e below (T14.setTop (mkF m 128 #[.val (.int c1), .val (.int r1), .val (.int c2), .val (.int r2), .val (.int kk), .val (.int u1), .val (.int u2), .val (.int v3_s0), .val (.int v5_s0), .val (.ref b7), .val (.ref b9), .val (.ref b11), .val (.ref b13), .unset, .unset, .unset, .unset, .unset] [(.int ((kk.toUInt32 >>> ((4 : Int32) &&& 31).toUInt32).toInt32))])) _
    refine XS.iconst X14.here hx rfl (hb hby at_128) ?_
    show Steps p.tables e below (T14.setTop (mkF m 129 #[.val (.int c1), .val (.int r1), .val (.int c2), .val (.int r2), .val (.int kk), .val (.int u1), .val (.int u2), .val (.int v3_s0), .val (.int v5_s0), .val (.ref b7), .val (.ref b9), .val (.ref b11), .val (.ref b13), .unset, .unset, .unset, .unset, .unset] [(.int (3 : Int32)), (.int ((kk.toUInt32 >>> ((4 : Int32) &&& 31).toUInt32).toInt32))])) _
    refine XS.iand X14.here hx rfl (hb hby at_129) rfl ?_
    exact kt
  obtain ⟨u15, hu15⟩ : ∃ q : Int32, q = (((kk.toUInt32 >>> ((4 : Int32) &&& 31).toUInt32).toInt32) &&& (3 : Int32)) := ⟨_, rfl⟩
  rw [← hu15]
  refine Gl.up (B := T14.setTop (mkF m 134 #[.val (.int c1), .val (.int r1), .val (.int c2), .val (.int r2), .val (.int kk), .val (.int u1), .val (.int u2), .val (.int v3_s0), .val (.int v5_s0), .val (.ref b7), .val (.ref b9), .val (.ref b11), .val (.ref b13), .val (.int u15), .unset, .unset, .unset, .unset] [(.int u15)])) (fun t kt => ?_) ?_
  · show Steps p.tables e below (T14.setTop (mkF m 130 #[.val (.int c1), .val (.int r1), .val (.int c2), .val (.int r2), .val (.int kk), .val (.int u1), .val (.int u2), .val (.int v3_s0), .val (.int v5_s0), .val (.ref b7), .val (.ref b9), .val (.ref b11), .val (.ref b13), .unset, .unset, .unset, .unset, .unset] [(.int u15)])) _
    refine XS.istore X14.here hx rfl (hb hby at_130) rfl (l' := #[.val (.int c1), .val (.int r1), .val (.int c2), .val (.int r2), .val (.int kk), .val (.int u1), .val (.int u2), .val (.int v3_s0), .val (.int v5_s0), .val (.ref b7), .val (.ref b9), .val (.ref b11), .val (.ref b13), .val (.int u15), .unset, .unset, .unset, .unset]) rfl ?_
    show Steps p.tables e below (T14.setTop (mkF m 132 #[.val (.int c1), .val (.int r1), .val (.int c2), .val (.int r2), .val (.int kk), .val (.int u1), .val (.int u2), .val (.int v3_s0), .val (.int v5_s0), .val (.ref b7), .val (.ref b9), .val (.ref b11), .val (.ref b13), .val (.int u15), .unset, .unset, .unset, .unset] [])) _
    refine XS.iload X14.here hx rfl (hb hby at_132) rfl ?_
    exact kt
  suffices J16 : ∀ (T16 : State) (lc16 : List Loc) (v16_l14 : Addr), v16_l14 = (if u15 = (0 : Int32) then wW else (if u15 = (1 : Int32) then wE else (if u15 = (2 : Int32) then wN else wS))) → Stand p l e room_1 s m args below meth c T16 lc16 5 10 → T16.heap = T14.heap → Fr n0 lc16 → Gl p e below (Ret s 5 10 (Q0 n0)) (T16.setTop (mkF m 178 #[.val (.int c1), .val (.int r1), .val (.int c2), .val (.int r2), .val (.int kk), .val (.int u1), .val (.int u2), .val (.int v3_s0), .val (.int v5_s0), .val (.ref b7), .val (.ref b9), .val (.ref b11), .val (.ref b13), .val (.int u15), .val (.ref v16_l14), .unset, .unset, .unset] [])) by
    by_cases c134_17 : u15 = (0 : Int32)
    · refine Gl.up (B := T14.setTop (mkF m 137 #[.val (.int c1), .val (.int r1), .val (.int c2), .val (.int r2), .val (.int kk), .val (.int u1), .val (.int u2), .val (.int v3_s0), .val (.int v5_s0), .val (.ref b7), .val (.ref b9), .val (.ref b11), .val (.ref b13), .val (.int u15), .unset, .unset, .unset, .unset] [])) (fun t kt => ?_) ?_
      · show Steps p.tables e below (T14.setTop (mkF m 134 #[.val (.int c1), .val (.int r1), .val (.int c2), .val (.int r2), .val (.int kk), .val (.int u1), .val (.int u2), .val (.int v3_s0), .val (.int v5_s0), .val (.ref b7), .val (.ref b9), .val (.ref b11), .val (.ref b13), .val (.int u15), .unset, .unset, .unset, .unset] [(.int u15)])) _
        refine XS.ifNo X14.here hx rfl (hb hby at_134) rfl ((if0 _ _).trans (teq c134_17).2) ?_
        exact kt
      obtain ⟨T18, X18, e18, st18⟩ := getS2 X14 hx hZ hown (host := "") (Or.inl (hw _ (List.mem_of_getElem? (i := 50) rfl))) Via.refl rfl (S_wW.ext O14.2) (g := (mkF m 137 #[.val (.int c1), .val (.int r1), .val (.int c2), .val (.int r2), .val (.int kk), .val (.int u1), .val (.int u2), .val (.int v3_s0), .val (.int v5_s0), .val (.ref b7), .val (.ref b9), .val (.ref b11), .val (.ref b13), .val (.int u15), .unset, .unset, .unset, .unset] [])) rfl (hb hby at_137)
      refine Gl.up (B := T18.setTop (mkF m 140 #[.val (.int c1), .val (.int r1), .val (.int c2), .val (.int r2), .val (.int kk), .val (.int u1), .val (.int u2), .val (.int v3_s0), .val (.int v5_s0), .val (.ref b7), .val (.ref b9), .val (.ref b11), .val (.ref b13), .val (.int u15), .unset, .unset, .unset, .unset] [(.ref wW)])) (fun t kt => st18 _ kt) ?_
      refine Gl.up (B := T18.setTop (mkF m 178 #[.val (.int c1), .val (.int r1), .val (.int c2), .val (.int r2), .val (.int kk), .val (.int u1), .val (.int u2), .val (.int v3_s0), .val (.int v5_s0), .val (.ref b7), .val (.ref b9), .val (.ref b11), .val (.ref b13), .val (.int u15), .val (.ref wW), .unset, .unset, .unset] [])) (fun t kt => ?_) ?_
      · show Steps p.tables e below (T18.setTop (mkF m 140 #[.val (.int c1), .val (.int r1), .val (.int c2), .val (.int r2), .val (.int kk), .val (.int u1), .val (.int u2), .val (.int v3_s0), .val (.int v5_s0), .val (.ref b7), .val (.ref b9), .val (.ref b11), .val (.ref b13), .val (.int u15), .unset, .unset, .unset, .unset] [(.ref wW)])) _
        refine XS.astore X18.here hx rfl (hb hby at_140) rfl rfl (l' := #[.val (.int c1), .val (.int r1), .val (.int c2), .val (.int r2), .val (.int kk), .val (.int u1), .val (.int u2), .val (.int v3_s0), .val (.int v5_s0), .val (.ref b7), .val (.ref b9), .val (.ref b11), .val (.ref b13), .val (.int u15), .val (.ref wW), .unset, .unset, .unset]) rfl ?_
        show Steps p.tables e below (T18.setTop (mkF m 142 #[.val (.int c1), .val (.int r1), .val (.int c2), .val (.int r2), .val (.int kk), .val (.int u1), .val (.int u2), .val (.int v3_s0), .val (.int v5_s0), .val (.ref b7), .val (.ref b9), .val (.ref b11), .val (.ref b13), .val (.int u15), .val (.ref wW), .unset, .unset, .unset] [])) _
        refine XS.goto X18.here hx rfl (pc0 := 142) (pc' := 178) rfl (hb hby at_142) (by decide) (by decide) ?_
        exact kt
      exact J16 _ _ wW (if_pos c134_17).symm X18 e18 N14
    · refine Gl.up (B := T14.setTop (mkF m 148 #[.val (.int c1), .val (.int r1), .val (.int c2), .val (.int r2), .val (.int kk), .val (.int u1), .val (.int u2), .val (.int v3_s0), .val (.int v5_s0), .val (.ref b7), .val (.ref b9), .val (.ref b11), .val (.ref b13), .val (.int u15), .unset, .unset, .unset, .unset] [(.int (1 : Int32)), (.int u15)])) (fun t kt => ?_) ?_
      · show Steps p.tables e below (T14.setTop (mkF m 134 #[.val (.int c1), .val (.int r1), .val (.int c2), .val (.int r2), .val (.int kk), .val (.int u1), .val (.int u2), .val (.int v3_s0), .val (.int v5_s0), .val (.ref b7), .val (.ref b9), .val (.ref b11), .val (.ref b13), .val (.int u15), .unset, .unset, .unset, .unset] [(.int u15)])) _
        refine XS.ifYes X14.here hx rfl (pc0 := 134) (pc' := 145) rfl (hb hby at_134) rfl ((if0 _ _).trans (feq c134_17).2) (by decide) (by decide) ?_
        show Steps p.tables e below (T14.setTop (mkF m 145 #[.val (.int c1), .val (.int r1), .val (.int c2), .val (.int r2), .val (.int kk), .val (.int u1), .val (.int u2), .val (.int v3_s0), .val (.int v5_s0), .val (.ref b7), .val (.ref b9), .val (.ref b11), .val (.ref b13), .val (.int u15), .unset, .unset, .unset, .unset] [])) _
        refine XS.iload X14.here hx rfl (hb hby at_145) rfl ?_
        show Steps p.tables e below (T14.setTop (mkF m 147 #[.val (.int c1), .val (.int r1), .val (.int c2), .val (.int r2), .val (.int kk), .val (.int u1), .val (.int u2), .val (.int v3_s0), .val (.int v5_s0), .val (.ref b7), .val (.ref b9), .val (.ref b11), .val (.ref b13), .val (.int u15), .unset, .unset, .unset, .unset] [(.int u15)])) _
        refine XS.iconst X14.here hx rfl (hb hby at_147) ?_
        exact kt
      by_cases c148_19 : u15 = (1 : Int32)
      · refine Gl.up (B := T14.setTop (mkF m 151 #[.val (.int c1), .val (.int r1), .val (.int c2), .val (.int r2), .val (.int kk), .val (.int u1), .val (.int u2), .val (.int v3_s0), .val (.int v5_s0), .val (.ref b7), .val (.ref b9), .val (.ref b11), .val (.ref b13), .val (.int u15), .unset, .unset, .unset, .unset] [])) (fun t kt => ?_) ?_
        · show Steps p.tables e below (T14.setTop (mkF m 148 #[.val (.int c1), .val (.int r1), .val (.int c2), .val (.int r2), .val (.int kk), .val (.int u1), .val (.int u2), .val (.int v3_s0), .val (.int v5_s0), .val (.ref b7), .val (.ref b9), .val (.ref b11), .val (.ref b13), .val (.int u15), .unset, .unset, .unset, .unset] [(.int (1 : Int32)), (.int u15)])) _
          refine XS.icmpNo X14.here hx rfl (hb hby at_148) rfl (teq c148_19).2 ?_
          exact kt
        obtain ⟨T20, X20, e20, st20⟩ := getS2 X14 hx hZ hown (host := "") (Or.inl (hw _ (List.mem_of_getElem? (i := 66) rfl))) Via.refl rfl (S_wE.ext O14.2) (g := (mkF m 151 #[.val (.int c1), .val (.int r1), .val (.int c2), .val (.int r2), .val (.int kk), .val (.int u1), .val (.int u2), .val (.int v3_s0), .val (.int v5_s0), .val (.ref b7), .val (.ref b9), .val (.ref b11), .val (.ref b13), .val (.int u15), .unset, .unset, .unset, .unset] [])) rfl (hb hby at_151)
        refine Gl.up (B := T20.setTop (mkF m 154 #[.val (.int c1), .val (.int r1), .val (.int c2), .val (.int r2), .val (.int kk), .val (.int u1), .val (.int u2), .val (.int v3_s0), .val (.int v5_s0), .val (.ref b7), .val (.ref b9), .val (.ref b11), .val (.ref b13), .val (.int u15), .unset, .unset, .unset, .unset] [(.ref wE)])) (fun t kt => st20 _ kt) ?_
        refine Gl.up (B := T20.setTop (mkF m 178 #[.val (.int c1), .val (.int r1), .val (.int c2), .val (.int r2), .val (.int kk), .val (.int u1), .val (.int u2), .val (.int v3_s0), .val (.int v5_s0), .val (.ref b7), .val (.ref b9), .val (.ref b11), .val (.ref b13), .val (.int u15), .val (.ref wE), .unset, .unset, .unset] [])) (fun t kt => ?_) ?_
        · show Steps p.tables e below (T20.setTop (mkF m 154 #[.val (.int c1), .val (.int r1), .val (.int c2), .val (.int r2), .val (.int kk), .val (.int u1), .val (.int u2), .val (.int v3_s0), .val (.int v5_s0), .val (.ref b7), .val (.ref b9), .val (.ref b11), .val (.ref b13), .val (.int u15), .unset, .unset, .unset, .unset] [(.ref wE)])) _
          refine XS.astore X20.here hx rfl (hb hby at_154) rfl rfl (l' := #[.val (.int c1), .val (.int r1), .val (.int c2), .val (.int r2), .val (.int kk), .val (.int u1), .val (.int u2), .val (.int v3_s0), .val (.int v5_s0), .val (.ref b7), .val (.ref b9), .val (.ref b11), .val (.ref b13), .val (.int u15), .val (.ref wE), .unset, .unset, .unset]) rfl ?_
          show Steps p.tables e below (T20.setTop (mkF m 156 #[.val (.int c1), .val (.int r1), .val (.int c2), .val (.int r2), .val (.int kk), .val (.int u1), .val (.int u2), .val (.int v3_s0), .val (.int v5_s0), .val (.ref b7), .val (.ref b9), .val (.ref b11), .val (.ref b13), .val (.int u15), .val (.ref wE), .unset, .unset, .unset] [])) _
          refine XS.goto X20.here hx rfl (pc0 := 156) (pc' := 178) rfl (hb hby at_156) (by decide) (by decide) ?_
          exact kt
        exact J16 _ _ wE ((if_neg c134_17).trans (if_pos c148_19)).symm X20 e20 N14
      · refine Gl.up (B := T14.setTop (mkF m 162 #[.val (.int c1), .val (.int r1), .val (.int c2), .val (.int r2), .val (.int kk), .val (.int u1), .val (.int u2), .val (.int v3_s0), .val (.int v5_s0), .val (.ref b7), .val (.ref b9), .val (.ref b11), .val (.ref b13), .val (.int u15), .unset, .unset, .unset, .unset] [(.int (2 : Int32)), (.int u15)])) (fun t kt => ?_) ?_
        · show Steps p.tables e below (T14.setTop (mkF m 148 #[.val (.int c1), .val (.int r1), .val (.int c2), .val (.int r2), .val (.int kk), .val (.int u1), .val (.int u2), .val (.int v3_s0), .val (.int v5_s0), .val (.ref b7), .val (.ref b9), .val (.ref b11), .val (.ref b13), .val (.int u15), .unset, .unset, .unset, .unset] [(.int (1 : Int32)), (.int u15)])) _
          refine XS.icmpYes X14.here hx rfl (pc0 := 148) (pc' := 159) rfl (hb hby at_148) rfl (feq c148_19).2 (by decide) (by decide) ?_
          show Steps p.tables e below (T14.setTop (mkF m 159 #[.val (.int c1), .val (.int r1), .val (.int c2), .val (.int r2), .val (.int kk), .val (.int u1), .val (.int u2), .val (.int v3_s0), .val (.int v5_s0), .val (.ref b7), .val (.ref b9), .val (.ref b11), .val (.ref b13), .val (.int u15), .unset, .unset, .unset, .unset] [])) _
          refine XS.iload X14.here hx rfl (hb hby at_159) rfl ?_
          show Steps p.tables e below (T14.setTop (mkF m 161 #[.val (.int c1), .val (.int r1), .val (.int c2), .val (.int r2), .val (.int kk), .val (.int u1), .val (.int u2), .val (.int v3_s0), .val (.int v5_s0), .val (.ref b7), .val (.ref b9), .val (.ref b11), .val (.ref b13), .val (.int u15), .unset, .unset, .unset, .unset] [(.int u15)])) _
          refine XS.iconst X14.here hx rfl (hb hby at_161) ?_
          exact kt
        by_cases c162_21 : u15 = (2 : Int32)
        · refine Gl.up (B := T14.setTop (mkF m 165 #[.val (.int c1), .val (.int r1), .val (.int c2), .val (.int r2), .val (.int kk), .val (.int u1), .val (.int u2), .val (.int v3_s0), .val (.int v5_s0), .val (.ref b7), .val (.ref b9), .val (.ref b11), .val (.ref b13), .val (.int u15), .unset, .unset, .unset, .unset] [])) (fun t kt => ?_) ?_
          · show Steps p.tables e below (T14.setTop (mkF m 162 #[.val (.int c1), .val (.int r1), .val (.int c2), .val (.int r2), .val (.int kk), .val (.int u1), .val (.int u2), .val (.int v3_s0), .val (.int v5_s0), .val (.ref b7), .val (.ref b9), .val (.ref b11), .val (.ref b13), .val (.int u15), .unset, .unset, .unset, .unset] [(.int (2 : Int32)), (.int u15)])) _
            refine XS.icmpNo X14.here hx rfl (hb hby at_162) rfl (teq c162_21).2 ?_
            exact kt
          obtain ⟨T22, X22, e22, st22⟩ := getS2 X14 hx hZ hown (host := "") (Or.inl (hw _ (List.mem_of_getElem? (i := 62) rfl))) Via.refl rfl (S_wN.ext O14.2) (g := (mkF m 165 #[.val (.int c1), .val (.int r1), .val (.int c2), .val (.int r2), .val (.int kk), .val (.int u1), .val (.int u2), .val (.int v3_s0), .val (.int v5_s0), .val (.ref b7), .val (.ref b9), .val (.ref b11), .val (.ref b13), .val (.int u15), .unset, .unset, .unset, .unset] [])) rfl (hb hby at_165)
          refine Gl.up (B := T22.setTop (mkF m 168 #[.val (.int c1), .val (.int r1), .val (.int c2), .val (.int r2), .val (.int kk), .val (.int u1), .val (.int u2), .val (.int v3_s0), .val (.int v5_s0), .val (.ref b7), .val (.ref b9), .val (.ref b11), .val (.ref b13), .val (.int u15), .unset, .unset, .unset, .unset] [(.ref wN)])) (fun t kt => st22 _ kt) ?_
          refine Gl.up (B := T22.setTop (mkF m 178 #[.val (.int c1), .val (.int r1), .val (.int c2), .val (.int r2), .val (.int kk), .val (.int u1), .val (.int u2), .val (.int v3_s0), .val (.int v5_s0), .val (.ref b7), .val (.ref b9), .val (.ref b11), .val (.ref b13), .val (.int u15), .val (.ref wN), .unset, .unset, .unset] [])) (fun t kt => ?_) ?_
          · show Steps p.tables e below (T22.setTop (mkF m 168 #[.val (.int c1), .val (.int r1), .val (.int c2), .val (.int r2), .val (.int kk), .val (.int u1), .val (.int u2), .val (.int v3_s0), .val (.int v5_s0), .val (.ref b7), .val (.ref b9), .val (.ref b11), .val (.ref b13), .val (.int u15), .unset, .unset, .unset, .unset] [(.ref wN)])) _
            refine XS.astore X22.here hx rfl (hb hby at_168) rfl rfl (l' := #[.val (.int c1), .val (.int r1), .val (.int c2), .val (.int r2), .val (.int kk), .val (.int u1), .val (.int u2), .val (.int v3_s0), .val (.int v5_s0), .val (.ref b7), .val (.ref b9), .val (.ref b11), .val (.ref b13), .val (.int u15), .val (.ref wN), .unset, .unset, .unset]) rfl ?_
            show Steps p.tables e below (T22.setTop (mkF m 170 #[.val (.int c1), .val (.int r1), .val (.int c2), .val (.int r2), .val (.int kk), .val (.int u1), .val (.int u2), .val (.int v3_s0), .val (.int v5_s0), .val (.ref b7), .val (.ref b9), .val (.ref b11), .val (.ref b13), .val (.int u15), .val (.ref wN), .unset, .unset, .unset] [])) _
            refine XS.goto X22.here hx rfl (pc0 := 170) (pc' := 178) rfl (hb hby at_170) (by decide) (by decide) ?_
            exact kt
          exact J16 _ _ wN (((if_neg c134_17).trans (if_neg c148_19)).trans (if_pos c162_21)).symm X22 e22 N14
        · refine Gl.up (B := T14.setTop (mkF m 173 #[.val (.int c1), .val (.int r1), .val (.int c2), .val (.int r2), .val (.int kk), .val (.int u1), .val (.int u2), .val (.int v3_s0), .val (.int v5_s0), .val (.ref b7), .val (.ref b9), .val (.ref b11), .val (.ref b13), .val (.int u15), .unset, .unset, .unset, .unset] [])) (fun t kt => ?_) ?_
          · show Steps p.tables e below (T14.setTop (mkF m 162 #[.val (.int c1), .val (.int r1), .val (.int c2), .val (.int r2), .val (.int kk), .val (.int u1), .val (.int u2), .val (.int v3_s0), .val (.int v5_s0), .val (.ref b7), .val (.ref b9), .val (.ref b11), .val (.ref b13), .val (.int u15), .unset, .unset, .unset, .unset] [(.int (2 : Int32)), (.int u15)])) _
            refine XS.icmpYes X14.here hx rfl (pc0 := 162) (pc' := 173) rfl (hb hby at_162) rfl (feq c162_21).2 (by decide) (by decide) ?_
            exact kt
          obtain ⟨T23, X23, e23, st23⟩ := getS2 X14 hx hZ hown (host := "") (Or.inl (hw _ (List.mem_of_getElem? (i := 64) rfl))) Via.refl rfl (S_wS.ext O14.2) (g := (mkF m 173 #[.val (.int c1), .val (.int r1), .val (.int c2), .val (.int r2), .val (.int kk), .val (.int u1), .val (.int u2), .val (.int v3_s0), .val (.int v5_s0), .val (.ref b7), .val (.ref b9), .val (.ref b11), .val (.ref b13), .val (.int u15), .unset, .unset, .unset, .unset] [])) rfl (hb hby at_173)
          refine Gl.up (B := T23.setTop (mkF m 176 #[.val (.int c1), .val (.int r1), .val (.int c2), .val (.int r2), .val (.int kk), .val (.int u1), .val (.int u2), .val (.int v3_s0), .val (.int v5_s0), .val (.ref b7), .val (.ref b9), .val (.ref b11), .val (.ref b13), .val (.int u15), .unset, .unset, .unset, .unset] [(.ref wS)])) (fun t kt => st23 _ kt) ?_
          refine Gl.up (B := T23.setTop (mkF m 178 #[.val (.int c1), .val (.int r1), .val (.int c2), .val (.int r2), .val (.int kk), .val (.int u1), .val (.int u2), .val (.int v3_s0), .val (.int v5_s0), .val (.ref b7), .val (.ref b9), .val (.ref b11), .val (.ref b13), .val (.int u15), .val (.ref wS), .unset, .unset, .unset] [])) (fun t kt => ?_) ?_
          · show Steps p.tables e below (T23.setTop (mkF m 176 #[.val (.int c1), .val (.int r1), .val (.int c2), .val (.int r2), .val (.int kk), .val (.int u1), .val (.int u2), .val (.int v3_s0), .val (.int v5_s0), .val (.ref b7), .val (.ref b9), .val (.ref b11), .val (.ref b13), .val (.int u15), .unset, .unset, .unset, .unset] [(.ref wS)])) _
            refine XS.astore X23.here hx rfl (hb hby at_176) rfl rfl (l' := #[.val (.int c1), .val (.int r1), .val (.int c2), .val (.int r2), .val (.int kk), .val (.int u1), .val (.int u2), .val (.int v3_s0), .val (.int v5_s0), .val (.ref b7), .val (.ref b9), .val (.ref b11), .val (.ref b13), .val (.int u15), .val (.ref wS), .unset, .unset, .unset]) rfl ?_
            exact kt
          exact J16 _ _ wS (((if_neg c134_17).trans (if_neg c148_19)).trans (if_neg c162_21)).symm X23 e23 N14
  intro T16 lc16 v16_l14 hv16_l14 X16 e16 N16
  have E_v : Exa Z Z.heap v16_l14 "com/example/khamsin/khamsin/map/Edge" := own_pick4 (P := fun q => Exa Z Z.heap q "com/example/khamsin/khamsin/map/Edge") hv16_l14 E_wW E_wE E_wN E_wS
  have E_v24 := E_v.ext O14.2
  refine Gl.up (B := T16.setTop (mkF m 186 #[.val (.int c1), .val (.int r1), .val (.int c2), .val (.int r2), .val (.int kk), .val (.int u1), .val (.int u2), .val (.int v3_s0), .val (.int v5_s0), .val (.ref b7), .val (.ref b9), .val (.ref b11), .val (.ref b13), .val (.int u15), .val (.ref v16_l14), .val (.int (kk &&& (3 : Int32))), .unset, .unset] [(.int (kk &&& (3 : Int32)))])) (fun t kt => ?_) ?_
  · show Steps p.tables e below (T16.setTop (mkF m 178 #[.val (.int c1), .val (.int r1), .val (.int c2), .val (.int r2), .val (.int kk), .val (.int u1), .val (.int u2), .val (.int v3_s0), .val (.int v5_s0), .val (.ref b7), .val (.ref b9), .val (.ref b11), .val (.ref b13), .val (.int u15), .val (.ref v16_l14), .unset, .unset, .unset] [])) _
    refine XS.iload X16.here hx rfl (hb hby at_178) rfl ?_
    show Steps p.tables e below (T16.setTop (mkF m 180 #[.val (.int c1), .val (.int r1), .val (.int c2), .val (.int r2), .val (.int kk), .val (.int u1), .val (.int u2), .val (.int v3_s0), .val (.int v5_s0), .val (.ref b7), .val (.ref b9), .val (.ref b11), .val (.ref b13), .val (.int u15), .val (.ref v16_l14), .unset, .unset, .unset] [(.int kk)])) _
    refine XS.iconst X16.here hx rfl (hb hby at_180) ?_
    show Steps p.tables e below (T16.setTop (mkF m 181 #[.val (.int c1), .val (.int r1), .val (.int c2), .val (.int r2), .val (.int kk), .val (.int u1), .val (.int u2), .val (.int v3_s0), .val (.int v5_s0), .val (.ref b7), .val (.ref b9), .val (.ref b11), .val (.ref b13), .val (.int u15), .val (.ref v16_l14), .unset, .unset, .unset] [(.int (3 : Int32)), (.int kk)])) _
    refine XS.iand X16.here hx rfl (hb hby at_181) rfl ?_
    show Steps p.tables e below (T16.setTop (mkF m 182 #[.val (.int c1), .val (.int r1), .val (.int c2), .val (.int r2), .val (.int kk), .val (.int u1), .val (.int u2), .val (.int v3_s0), .val (.int v5_s0), .val (.ref b7), .val (.ref b9), .val (.ref b11), .val (.ref b13), .val (.int u15), .val (.ref v16_l14), .unset, .unset, .unset] [(.int (kk &&& (3 : Int32)))])) _
    refine XS.istore X16.here hx rfl (hb hby at_182) rfl (l' := #[.val (.int c1), .val (.int r1), .val (.int c2), .val (.int r2), .val (.int kk), .val (.int u1), .val (.int u2), .val (.int v3_s0), .val (.int v5_s0), .val (.ref b7), .val (.ref b9), .val (.ref b11), .val (.ref b13), .val (.int u15), .val (.ref v16_l14), .val (.int (kk &&& (3 : Int32))), .unset, .unset]) rfl ?_
    show Steps p.tables e below (T16.setTop (mkF m 184 #[.val (.int c1), .val (.int r1), .val (.int c2), .val (.int r2), .val (.int kk), .val (.int u1), .val (.int u2), .val (.int v3_s0), .val (.int v5_s0), .val (.ref b7), .val (.ref b9), .val (.ref b11), .val (.ref b13), .val (.int u15), .val (.ref v16_l14), .val (.int (kk &&& (3 : Int32))), .unset, .unset] [])) _
    refine XS.iload X16.here hx rfl (hb hby at_184) rfl ?_
    exact kt
  by_cases c186_25 : (kk &&& (3 : Int32)) = (0 : Int32)
  · refine Gl.up (B := T16.setTop (mkF m 234 #[.val (.int c1), .val (.int r1), .val (.int c2), .val (.int r2), .val (.int kk), .val (.int u1), .val (.int u2), .val (.int v3_s0), .val (.int v5_s0), .val (.ref b7), .val (.ref b9), .val (.ref b11), .val (.ref b13), .val (.int u15), .val (.ref v16_l14), .val (.int (kk &&& (3 : Int32))), .val (.ref b9), .unset] [(.int v3_s0), (.int u1)])) (fun t kt => ?_) ?_
    · show Steps p.tables e below (T16.setTop (mkF m 186 #[.val (.int c1), .val (.int r1), .val (.int c2), .val (.int r2), .val (.int kk), .val (.int u1), .val (.int u2), .val (.int v3_s0), .val (.int v5_s0), .val (.ref b7), .val (.ref b9), .val (.ref b11), .val (.ref b13), .val (.int u15), .val (.ref v16_l14), .val (.int (kk &&& (3 : Int32))), .unset, .unset] [(.int (kk &&& (3 : Int32)))])) _
      refine XS.ifNo X16.here hx rfl (hb hby at_186) rfl ((if0 _ _).trans (teq c186_25).2) ?_
      show Steps p.tables e below (T16.setTop (mkF m 189 #[.val (.int c1), .val (.int r1), .val (.int c2), .val (.int r2), .val (.int kk), .val (.int u1), .val (.int u2), .val (.int v3_s0), .val (.int v5_s0), .val (.ref b7), .val (.ref b9), .val (.ref b11), .val (.ref b13), .val (.int u15), .val (.ref v16_l14), .val (.int (kk &&& (3 : Int32))), .unset, .unset] [])) _
      refine XS.aload X16.here hx rfl (hb hby at_189) rfl rfl ?_
      show Steps p.tables e below (T16.setTop (mkF m 191 #[.val (.int c1), .val (.int r1), .val (.int c2), .val (.int r2), .val (.int kk), .val (.int u1), .val (.int u2), .val (.int v3_s0), .val (.int v5_s0), .val (.ref b7), .val (.ref b9), .val (.ref b11), .val (.ref b13), .val (.int u15), .val (.ref v16_l14), .val (.int (kk &&& (3 : Int32))), .unset, .unset] [(.ref b9)])) _
      refine XS.astore X16.here hx rfl (hb hby at_191) rfl rfl (l' := #[.val (.int c1), .val (.int r1), .val (.int c2), .val (.int r2), .val (.int kk), .val (.int u1), .val (.int u2), .val (.int v3_s0), .val (.int v5_s0), .val (.ref b7), .val (.ref b9), .val (.ref b11), .val (.ref b13), .val (.int u15), .val (.ref v16_l14), .val (.int (kk &&& (3 : Int32))), .val (.ref b9), .unset]) rfl ?_
      show Steps p.tables e below (T16.setTop (mkF m 193 #[.val (.int c1), .val (.int r1), .val (.int c2), .val (.int r2), .val (.int kk), .val (.int u1), .val (.int u2), .val (.int v3_s0), .val (.int v5_s0), .val (.ref b7), .val (.ref b9), .val (.ref b11), .val (.ref b13), .val (.int u15), .val (.ref v16_l14), .val (.int (kk &&& (3 : Int32))), .val (.ref b9), .unset] [])) _
      refine XS.goto X16.here hx rfl (pc0 := 193) (pc' := 225) rfl (hb hby at_193) (by decide) (by decide) ?_
      show Steps p.tables e below (T16.setTop (mkF m 225 #[.val (.int c1), .val (.int r1), .val (.int c2), .val (.int r2), .val (.int kk), .val (.int u1), .val (.int u2), .val (.int v3_s0), .val (.int v5_s0), .val (.ref b7), .val (.ref b9), .val (.ref b11), .val (.ref b13), .val (.int u15), .val (.ref v16_l14), .val (.int (kk &&& (3 : Int32))), .val (.ref b9), .unset] [])) _
      refine XS.iload X16.here hx rfl (hb hby at_225) rfl ?_
      show Steps p.tables e below (T16.setTop (mkF m 227 #[.val (.int c1), .val (.int r1), .val (.int c2), .val (.int r2), .val (.int kk), .val (.int u1), .val (.int u2), .val (.int v3_s0), .val (.int v5_s0), .val (.ref b7), .val (.ref b9), .val (.ref b11), .val (.ref b13), .val (.int u15), .val (.ref v16_l14), .val (.int (kk &&& (3 : Int32))), .val (.ref b9), .unset] [(.int (kk &&& (3 : Int32)))])) _
      refine XS.ifNo X16.here hx rfl (hb hby at_227) rfl ((if0 _ _).trans (teq c186_25).2) ?_
      show Steps p.tables e below (T16.setTop (mkF m 230 #[.val (.int c1), .val (.int r1), .val (.int c2), .val (.int r2), .val (.int kk), .val (.int u1), .val (.int u2), .val (.int v3_s0), .val (.int v5_s0), .val (.ref b7), .val (.ref b9), .val (.ref b11), .val (.ref b13), .val (.int u15), .val (.ref v16_l14), .val (.int (kk &&& (3 : Int32))), .val (.ref b9), .unset] [])) _
      refine XS.iload X16.here hx rfl (hb hby at_230) rfl ?_
      show Steps p.tables e below (T16.setTop (mkF m 232 #[.val (.int c1), .val (.int r1), .val (.int c2), .val (.int r2), .val (.int kk), .val (.int u1), .val (.int u2), .val (.int v3_s0), .val (.int v5_s0), .val (.ref b7), .val (.ref b9), .val (.ref b11), .val (.ref b13), .val (.int u15), .val (.ref v16_l14), .val (.int (kk &&& (3 : Int32))), .val (.ref b9), .unset] [(.int u1)])) _
      refine XS.iload X16.here hx rfl (hb hby at_232) rfl ?_
      exact kt
    suffices J26 : ∀ (T26 : State) (v26_s0 : Int32), v26_s0 = (if u1 = v3_s0 then (if u2 = v5_s0 then (1 : Int32) else (0 : Int32)) else (0 : Int32)) → Stand p l e room_1 s m args below meth c T26 lc16 5 10 → T26.heap = T14.heap → Gl p e below (Ret s 5 10 (Q0 n0)) (T26.setTop (mkF m 249 #[.val (.int c1), .val (.int r1), .val (.int c2), .val (.int r2), .val (.int kk), .val (.int u1), .val (.int u2), .val (.int v3_s0), .val (.int v5_s0), .val (.ref b7), .val (.ref b9), .val (.ref b11), .val (.ref b13), .val (.int u15), .val (.ref v16_l14), .val (.int (kk &&& (3 : Int32))), .val (.ref b9), .unset] [(.int v26_s0)])) by
      by_cases c234_27 : u1 = v3_s0
      · refine Gl.up (B := T16.setTop (mkF m 241 #[.val (.int c1), .val (.int r1), .val (.int c2), .val (.int r2), .val (.int kk), .val (.int u1), .val (.int u2), .val (.int v3_s0), .val (.int v5_s0), .val (.ref b7), .val (.ref b9), .val (.ref b11), .val (.ref b13), .val (.int u15), .val (.ref v16_l14), .val (.int (kk &&& (3 : Int32))), .val (.ref b9), .unset] [(.int v5_s0), (.int u2)])) (fun t kt => ?_) ?_
        · show Steps p.tables e below (T16.setTop (mkF m 234 #[.val (.int c1), .val (.int r1), .val (.int c2), .val (.int r2), .val (.int kk), .val (.int u1), .val (.int u2), .val (.int v3_s0), .val (.int v5_s0), .val (.ref b7), .val (.ref b9), .val (.ref b11), .val (.ref b13), .val (.int u15), .val (.ref v16_l14), .val (.int (kk &&& (3 : Int32))), .val (.ref b9), .unset] [(.int v3_s0), (.int u1)])) _
          refine XS.icmpNo X16.here hx rfl (hb hby at_234) rfl (teq c234_27).2 ?_
          show Steps p.tables e below (T16.setTop (mkF m 237 #[.val (.int c1), .val (.int r1), .val (.int c2), .val (.int r2), .val (.int kk), .val (.int u1), .val (.int u2), .val (.int v3_s0), .val (.int v5_s0), .val (.ref b7), .val (.ref b9), .val (.ref b11), .val (.ref b13), .val (.int u15), .val (.ref v16_l14), .val (.int (kk &&& (3 : Int32))), .val (.ref b9), .unset] [])) _
          refine XS.iload X16.here hx rfl (hb hby at_237) rfl ?_
          show Steps p.tables e below (T16.setTop (mkF m 239 #[.val (.int c1), .val (.int r1), .val (.int c2), .val (.int r2), .val (.int kk), .val (.int u1), .val (.int u2), .val (.int v3_s0), .val (.int v5_s0), .val (.ref b7), .val (.ref b9), .val (.ref b11), .val (.ref b13), .val (.int u15), .val (.ref v16_l14), .val (.int (kk &&& (3 : Int32))), .val (.ref b9), .unset] [(.int u2)])) _
          refine XS.iload X16.here hx rfl (hb hby at_239) rfl ?_
          exact kt
        by_cases c241_28 : u2 = v5_s0
        · refine Gl.up (B := T16.setTop (mkF m 249 #[.val (.int c1), .val (.int r1), .val (.int c2), .val (.int r2), .val (.int kk), .val (.int u1), .val (.int u2), .val (.int v3_s0), .val (.int v5_s0), .val (.ref b7), .val (.ref b9), .val (.ref b11), .val (.ref b13), .val (.int u15), .val (.ref v16_l14), .val (.int (kk &&& (3 : Int32))), .val (.ref b9), .unset] [(.int (1 : Int32))])) (fun t kt => ?_) ?_
          · show Steps p.tables e below (T16.setTop (mkF m 241 #[.val (.int c1), .val (.int r1), .val (.int c2), .val (.int r2), .val (.int kk), .val (.int u1), .val (.int u2), .val (.int v3_s0), .val (.int v5_s0), .val (.ref b7), .val (.ref b9), .val (.ref b11), .val (.ref b13), .val (.int u15), .val (.ref v16_l14), .val (.int (kk &&& (3 : Int32))), .val (.ref b9), .unset] [(.int v5_s0), (.int u2)])) _
            refine XS.icmpNo X16.here hx rfl (hb hby at_241) rfl (teq c241_28).2 ?_
            show Steps p.tables e below (T16.setTop (mkF m 244 #[.val (.int c1), .val (.int r1), .val (.int c2), .val (.int r2), .val (.int kk), .val (.int u1), .val (.int u2), .val (.int v3_s0), .val (.int v5_s0), .val (.ref b7), .val (.ref b9), .val (.ref b11), .val (.ref b13), .val (.int u15), .val (.ref v16_l14), .val (.int (kk &&& (3 : Int32))), .val (.ref b9), .unset] [])) _
            refine XS.iconst X16.here hx rfl (hb hby at_244) ?_
            show Steps p.tables e below (T16.setTop (mkF m 245 #[.val (.int c1), .val (.int r1), .val (.int c2), .val (.int r2), .val (.int kk), .val (.int u1), .val (.int u2), .val (.int v3_s0), .val (.int v5_s0), .val (.ref b7), .val (.ref b9), .val (.ref b11), .val (.ref b13), .val (.int u15), .val (.ref v16_l14), .val (.int (kk &&& (3 : Int32))), .val (.ref b9), .unset] [(.int (1 : Int32))])) _
            refine XS.goto X16.here hx rfl (pc0 := 245) (pc' := 249) rfl (hb hby at_245) (by decide) (by decide) ?_
            exact kt
          exact J26 _ (1 : Int32) ((if_pos c234_27).trans (if_pos c241_28)).symm X16 e16
        · refine Gl.up (B := T16.setTop (mkF m 249 #[.val (.int c1), .val (.int r1), .val (.int c2), .val (.int r2), .val (.int kk), .val (.int u1), .val (.int u2), .val (.int v3_s0), .val (.int v5_s0), .val (.ref b7), .val (.ref b9), .val (.ref b11), .val (.ref b13), .val (.int u15), .val (.ref v16_l14), .val (.int (kk &&& (3 : Int32))), .val (.ref b9), .unset] [(.int (0 : Int32))])) (fun t kt => ?_) ?_
          · show Steps p.tables e below (T16.setTop (mkF m 241 #[.val (.int c1), .val (.int r1), .val (.int c2), .val (.int r2), .val (.int kk), .val (.int u1), .val (.int u2), .val (.int v3_s0), .val (.int v5_s0), .val (.ref b7), .val (.ref b9), .val (.ref b11), .val (.ref b13), .val (.int u15), .val (.ref v16_l14), .val (.int (kk &&& (3 : Int32))), .val (.ref b9), .unset] [(.int v5_s0), (.int u2)])) _
            refine XS.icmpYes X16.here hx rfl (pc0 := 241) (pc' := 248) rfl (hb hby at_241) rfl (feq c241_28).2 (by decide) (by decide) ?_
            show Steps p.tables e below (T16.setTop (mkF m 248 #[.val (.int c1), .val (.int r1), .val (.int c2), .val (.int r2), .val (.int kk), .val (.int u1), .val (.int u2), .val (.int v3_s0), .val (.int v5_s0), .val (.ref b7), .val (.ref b9), .val (.ref b11), .val (.ref b13), .val (.int u15), .val (.ref v16_l14), .val (.int (kk &&& (3 : Int32))), .val (.ref b9), .unset] [])) _
            refine XS.iconst X16.here hx rfl (hb hby at_248) ?_
            exact kt
          exact J26 _ (0 : Int32) ((if_pos c234_27).trans (if_neg c241_28)).symm X16 e16
      · refine Gl.up (B := T16.setTop (mkF m 249 #[.val (.int c1), .val (.int r1), .val (.int c2), .val (.int r2), .val (.int kk), .val (.int u1), .val (.int u2), .val (.int v3_s0), .val (.int v5_s0), .val (.ref b7), .val (.ref b9), .val (.ref b11), .val (.ref b13), .val (.int u15), .val (.ref v16_l14), .val (.int (kk &&& (3 : Int32))), .val (.ref b9), .unset] [(.int (0 : Int32))])) (fun t kt => ?_) ?_
        · show Steps p.tables e below (T16.setTop (mkF m 234 #[.val (.int c1), .val (.int r1), .val (.int c2), .val (.int r2), .val (.int kk), .val (.int u1), .val (.int u2), .val (.int v3_s0), .val (.int v5_s0), .val (.ref b7), .val (.ref b9), .val (.ref b11), .val (.ref b13), .val (.int u15), .val (.ref v16_l14), .val (.int (kk &&& (3 : Int32))), .val (.ref b9), .unset] [(.int v3_s0), (.int u1)])) _
          refine XS.icmpYes X16.here hx rfl (pc0 := 234) (pc' := 248) rfl (hb hby at_234) rfl (feq c234_27).2 (by decide) (by decide) ?_
          show Steps p.tables e below (T16.setTop (mkF m 248 #[.val (.int c1), .val (.int r1), .val (.int c2), .val (.int r2), .val (.int kk), .val (.int u1), .val (.int u2), .val (.int v3_s0), .val (.int v5_s0), .val (.ref b7), .val (.ref b9), .val (.ref b11), .val (.ref b13), .val (.int u15), .val (.ref v16_l14), .val (.int (kk &&& (3 : Int32))), .val (.ref b9), .unset] [])) _
          refine XS.iconst X16.here hx rfl (hb hby at_248) ?_
          exact kt
        exact J26 _ (0 : Int32) (if_neg c234_27).symm X16 e16
    intro T26 v26_s0 hv26_s0 X26 e26
    have hv26_s0b : v26_s0 = 0 ∨ v26_s0 = 1 := by rw [hv26_s0]; exact (b01_ite (b01_ite (Or.inr rfl) (Or.inl rfl)) (Or.inl rfl))
    refine Gl.up (B := T26.setTop (mkF m 255 #[.val (.int c1), .val (.int r1), .val (.int c2), .val (.int r2), .val (.int kk), .val (.int u1), .val (.int u2), .val (.int v3_s0), .val (.int v5_s0), .val (.ref b7), .val (.ref b9), .val (.ref b11), .val (.ref b13), .val (.int u15), .val (.ref v16_l14), .val (.int (kk &&& (3 : Int32))), .val (.ref b9), .val (.int v26_s0)] [(.ref b9), (.ref b7)])) (fun t kt => ?_) ?_
    · show Steps p.tables e below (T26.setTop (mkF m 249 #[.val (.int c1), .val (.int r1), .val (.int c2), .val (.int r2), .val (.int kk), .val (.int u1), .val (.int u2), .val (.int v3_s0), .val (.int v5_s0), .val (.ref b7), .val (.ref b9), .val (.ref b11), .val (.ref b13), .val (.int u15), .val (.ref v16_l14), .val (.int (kk &&& (3 : Int32))), .val (.ref b9), .unset] [(.int v26_s0)])) _
      refine XS.istore X26.here hx rfl (hb hby at_249) rfl (l' := #[.val (.int c1), .val (.int r1), .val (.int c2), .val (.int r2), .val (.int kk), .val (.int u1), .val (.int u2), .val (.int v3_s0), .val (.int v5_s0), .val (.ref b7), .val (.ref b9), .val (.ref b11), .val (.ref b13), .val (.int u15), .val (.ref v16_l14), .val (.int (kk &&& (3 : Int32))), .val (.ref b9), .val (.int v26_s0)]) rfl ?_
      show Steps p.tables e below (T26.setTop (mkF m 251 #[.val (.int c1), .val (.int r1), .val (.int c2), .val (.int r2), .val (.int kk), .val (.int u1), .val (.int u2), .val (.int v3_s0), .val (.int v5_s0), .val (.ref b7), .val (.ref b9), .val (.ref b11), .val (.ref b13), .val (.int u15), .val (.ref v16_l14), .val (.int (kk &&& (3 : Int32))), .val (.ref b9), .val (.int v26_s0)] [])) _
      refine XS.aload X26.here hx rfl (hb hby at_251) rfl rfl ?_
      show Steps p.tables e below (T26.setTop (mkF m 253 #[.val (.int c1), .val (.int r1), .val (.int c2), .val (.int r2), .val (.int kk), .val (.int u1), .val (.int u2), .val (.int v3_s0), .val (.int v5_s0), .val (.ref b7), .val (.ref b9), .val (.ref b11), .val (.ref b13), .val (.int u15), .val (.ref v16_l14), .val (.int (kk &&& (3 : Int32))), .val (.ref b9), .val (.int v26_s0)] [(.ref b7)])) _
      refine XS.aload X26.here hx rfl (hb hby at_253) rfl rfl ?_
      exact kt
    obtain ⟨cq29, kq29, q29a, q29b, q29c⟩ := isOf hZ e26 E_b7_14
    obtain ⟨_, _, ⟨T29, L29, k29, n29⟩, -, X29, ⟨Lc29, hQ29, l29, y29, z29⟩, st29⟩ := X26.virtualBack hx (y := (⟨"com/example/khamsin/khamsin/map/Hex", "equals", "(Ljava/lang/Object;)Z"⟩ : MethodName)) (z := (⟨"com/example/khamsin/khamsin/map/Hex", "equals", "(Ljava/lang/Object;)Z"⟩ : MethodName)) hown (mvT hZ (hw _ (List.mem_of_getElem? (i := 53) rfl))) (mvT hZ (hw _ (List.mem_of_getElem? (i := 54) rfl))) (notFace_of_selects (args := #[]) (mvT hZ (hw _ (List.mem_of_getElem? (i := 56) rfl)))) (mvT hZ (hw _ (List.mem_of_getElem? (i := 56) rfl))) (mvT hZ (hw _ (List.mem_of_getElem? (i := 55) rfl))) (by decide) (backOf (W := 0) (rm6 l Z aa hw [] b7 b9 u1 u2 v3_s0 v5_s0 T14.heap n0 O14 E_b7_14 F_b7_column_14 F_b7_row_14 E_b9_14 F_b9_column_14 F_b9_row_14) hZ (hw _ (List.mem_of_getElem? (i := 57) rfl)) (hw _ (List.mem_of_getElem? (i := 3) rfl)) (by decide) (by decide)) q29a q29c (g := (mkF m 255 #[.val (.int c1), .val (.int r1), .val (.int c2), .val (.int r2), .val (.int kk), .val (.int u1), .val (.int u2), .val (.int v3_s0), .val (.int v5_s0), .val (.ref b7), .val (.ref b9), .val (.ref b11), .val (.ref b13), .val (.int u15), .val (.ref v16_l14), .val (.int (kk &&& (3 : Int32))), .val (.ref b9), .val (.int v26_s0)] [(.ref b9), (.ref b7)])) rfl (by rw [hml]; rfl) (Steps.refl _) (argsL := [(.ref b9)]) (rest := []) (lenOf pd_oLjava_lang_ObjectcZ rfl) rfl (by show 2 * 0 + _ ≤ _; exact Nat.le_of_eq rfl) (hb hby at_255) (fun _ _ => ⟨rfl, e26, (by decide : 5 + 0 ≤ _), (by decide : 10 + 0 ≤ _)⟩)
    dsimp only [Pt.U, Pt.locs, Pt.cells, Pt.slots] at X29 l29 y29 z29 st29 hQ29
    subst l29 y29 z29
    obtain ⟨rfl, rfl, e29⟩ := hQ29
    try rw [List.append_nil] at X29
    refine Gl.up (B := T29.setTop (mkF m 258 #[.val (.int c1), .val (.int r1), .val (.int c2), .val (.int r2), .val (.int kk), .val (.int u1), .val (.int u2), .val (.int v3_s0), .val (.int v5_s0), .val (.ref b7), .val (.ref b9), .val (.ref b11), .val (.ref b13), .val (.int u15), .val (.ref v16_l14), .val (.int (kk &&& (3 : Int32))), .val (.ref b9), .val (.int v26_s0)] [(.int (f6 u1 u2 v3_s0 v5_s0))])) (fun t kt => st29.trans kt) ?_
    refine Gl.up (B := T29.setTop (mkF m 268 #[.val (.int c1), .val (.int r1), .val (.int c2), .val (.int r2), .val (.int kk), .val (.int u1), .val (.int u2), .val (.int v3_s0), .val (.int v5_s0), .val (.ref b7), .val (.ref b9), .val (.ref b11), .val (.ref b13), .val (.int u15), .val (.ref v16_l14), .val (.int (kk &&& (3 : Int32))), .val (.ref b9), .val (.int v26_s0)] [(.int (1 : Int32))])) (fun t kt => ?_) ?_
    · show Steps p.tables e below (T29.setTop (mkF m 258 #[.val (.int c1), .val (.int r1), .val (.int c2), .val (.int r2), .val (.int kk), .val (.int u1), .val (.int u2), .val (.int v3_s0), .val (.int v5_s0), .val (.ref b7), .val (.ref b9), .val (.ref b11), .val (.ref b13), .val (.int u15), .val (.ref v16_l14), .val (.int (kk &&& (3 : Int32))), .val (.ref b9), .val (.int v26_s0)] [(.int (f6 u1 u2 v3_s0 v5_s0))])) _
      refine XS.iload X29.here hx rfl (hb hby at_258) rfl ?_
      show Steps p.tables e below (T29.setTop (mkF m 260 #[.val (.int c1), .val (.int r1), .val (.int c2), .val (.int r2), .val (.int kk), .val (.int u1), .val (.int u2), .val (.int v3_s0), .val (.int v5_s0), .val (.ref b7), .val (.ref b9), .val (.ref b11), .val (.ref b13), .val (.int u15), .val (.ref v16_l14), .val (.int (kk &&& (3 : Int32))), .val (.ref b9), .val (.int v26_s0)] [(.int v26_s0), (.int (f6 u1 u2 v3_s0 v5_s0))])) _
      refine XS.icmpNo X29.here hx rfl (hb hby at_260) rfl (teq (show _ = _ from hv26_s0.symm)).2 ?_
      show Steps p.tables e below (T29.setTop (mkF m 263 #[.val (.int c1), .val (.int r1), .val (.int c2), .val (.int r2), .val (.int kk), .val (.int u1), .val (.int u2), .val (.int v3_s0), .val (.int v5_s0), .val (.ref b7), .val (.ref b9), .val (.ref b11), .val (.ref b13), .val (.int u15), .val (.ref v16_l14), .val (.int (kk &&& (3 : Int32))), .val (.ref b9), .val (.int v26_s0)] [])) _
      refine XS.iconst X29.here hx rfl (hb hby at_263) ?_
      show Steps p.tables e below (T29.setTop (mkF m 264 #[.val (.int c1), .val (.int r1), .val (.int c2), .val (.int r2), .val (.int kk), .val (.int u1), .val (.int u2), .val (.int v3_s0), .val (.int v5_s0), .val (.ref b7), .val (.ref b9), .val (.ref b11), .val (.ref b13), .val (.int u15), .val (.ref v16_l14), .val (.int (kk &&& (3 : Int32))), .val (.ref b9), .val (.int v26_s0)] [(.int (1 : Int32))])) _
      refine XS.goto X29.here hx rfl (pc0 := 264) (pc' := 268) rfl (hb hby at_264) (by decide) (by decide) ?_
      exact kt
    refine Gl.retN X29 hx hlk (t := .boolean) Bd.returns (by simp) (hb hby at_268) (w := (1 : Int32)) rfl ?_ (by decide) (by decide)
    exact ⟨rfl, N16⟩
  · refine Gl.up (B := T16.setTop (mkF m 199 #[.val (.int c1), .val (.int r1), .val (.int c2), .val (.int r2), .val (.int kk), .val (.int u1), .val (.int u2), .val (.int v3_s0), .val (.int v5_s0), .val (.ref b7), .val (.ref b9), .val (.ref b11), .val (.ref b13), .val (.int u15), .val (.ref v16_l14), .val (.int (kk &&& (3 : Int32))), .unset, .unset] [(.int (1 : Int32)), (.int (kk &&& (3 : Int32)))])) (fun t kt => ?_) ?_
    · show Steps p.tables e below (T16.setTop (mkF m 186 #[.val (.int c1), .val (.int r1), .val (.int c2), .val (.int r2), .val (.int kk), .val (.int u1), .val (.int u2), .val (.int v3_s0), .val (.int v5_s0), .val (.ref b7), .val (.ref b9), .val (.ref b11), .val (.ref b13), .val (.int u15), .val (.ref v16_l14), .val (.int (kk &&& (3 : Int32))), .unset, .unset] [(.int (kk &&& (3 : Int32)))])) _
      refine XS.ifYes X16.here hx rfl (pc0 := 186) (pc' := 196) rfl (hb hby at_186) rfl ((if0 _ _).trans (feq c186_25).2) (by decide) (by decide) ?_
      show Steps p.tables e below (T16.setTop (mkF m 196 #[.val (.int c1), .val (.int r1), .val (.int c2), .val (.int r2), .val (.int kk), .val (.int u1), .val (.int u2), .val (.int v3_s0), .val (.int v5_s0), .val (.ref b7), .val (.ref b9), .val (.ref b11), .val (.ref b13), .val (.int u15), .val (.ref v16_l14), .val (.int (kk &&& (3 : Int32))), .unset, .unset] [])) _
      refine XS.iload X16.here hx rfl (hb hby at_196) rfl ?_
      show Steps p.tables e below (T16.setTop (mkF m 198 #[.val (.int c1), .val (.int r1), .val (.int c2), .val (.int r2), .val (.int kk), .val (.int u1), .val (.int u2), .val (.int v3_s0), .val (.int v5_s0), .val (.ref b7), .val (.ref b9), .val (.ref b11), .val (.ref b13), .val (.int u15), .val (.ref v16_l14), .val (.int (kk &&& (3 : Int32))), .unset, .unset] [(.int (kk &&& (3 : Int32)))])) _
      refine XS.iconst X16.here hx rfl (hb hby at_198) ?_
      exact kt
    by_cases c199_30 : (kk &&& (3 : Int32)) = (1 : Int32)
    · refine Gl.up (B := T16.setTop (mkF m 255 #[.val (.int c1), .val (.int r1), .val (.int c2), .val (.int r2), .val (.int kk), .val (.int u1), .val (.int u2), .val (.int v3_s0), .val (.int v5_s0), .val (.ref b7), .val (.ref b9), .val (.ref b11), .val (.ref b13), .val (.int u15), .val (.ref v16_l14), .val (.int (kk &&& (3 : Int32))), .val .null, .val (.int (0 : Int32))] [.null, (.ref b7)])) (fun t kt => ?_) ?_
      · show Steps p.tables e below (T16.setTop (mkF m 199 #[.val (.int c1), .val (.int r1), .val (.int c2), .val (.int r2), .val (.int kk), .val (.int u1), .val (.int u2), .val (.int v3_s0), .val (.int v5_s0), .val (.ref b7), .val (.ref b9), .val (.ref b11), .val (.ref b13), .val (.int u15), .val (.ref v16_l14), .val (.int (kk &&& (3 : Int32))), .unset, .unset] [(.int (1 : Int32)), (.int (kk &&& (3 : Int32)))])) _
        refine XS.icmpNo X16.here hx rfl (hb hby at_199) rfl (teq c199_30).2 ?_
        show Steps p.tables e below (T16.setTop (mkF m 202 #[.val (.int c1), .val (.int r1), .val (.int c2), .val (.int r2), .val (.int kk), .val (.int u1), .val (.int u2), .val (.int v3_s0), .val (.int v5_s0), .val (.ref b7), .val (.ref b9), .val (.ref b11), .val (.ref b13), .val (.int u15), .val (.ref v16_l14), .val (.int (kk &&& (3 : Int32))), .unset, .unset] [])) _
        refine XS.aconstNull X16.here hx rfl (hb hby at_202) ?_
        show Steps p.tables e below (T16.setTop (mkF m 203 #[.val (.int c1), .val (.int r1), .val (.int c2), .val (.int r2), .val (.int kk), .val (.int u1), .val (.int u2), .val (.int v3_s0), .val (.int v5_s0), .val (.ref b7), .val (.ref b9), .val (.ref b11), .val (.ref b13), .val (.int u15), .val (.ref v16_l14), .val (.int (kk &&& (3 : Int32))), .unset, .unset] [.null])) _
        refine XS.astore X16.here hx rfl (hb hby at_203) rfl rfl (l' := #[.val (.int c1), .val (.int r1), .val (.int c2), .val (.int r2), .val (.int kk), .val (.int u1), .val (.int u2), .val (.int v3_s0), .val (.int v5_s0), .val (.ref b7), .val (.ref b9), .val (.ref b11), .val (.ref b13), .val (.int u15), .val (.ref v16_l14), .val (.int (kk &&& (3 : Int32))), .val .null, .unset]) rfl ?_
        show Steps p.tables e below (T16.setTop (mkF m 205 #[.val (.int c1), .val (.int r1), .val (.int c2), .val (.int r2), .val (.int kk), .val (.int u1), .val (.int u2), .val (.int v3_s0), .val (.int v5_s0), .val (.ref b7), .val (.ref b9), .val (.ref b11), .val (.ref b13), .val (.int u15), .val (.ref v16_l14), .val (.int (kk &&& (3 : Int32))), .val .null, .unset] [])) _
        refine XS.goto X16.here hx rfl (pc0 := 205) (pc' := 225) rfl (hb hby at_205) (by decide) (by decide) ?_
        show Steps p.tables e below (T16.setTop (mkF m 225 #[.val (.int c1), .val (.int r1), .val (.int c2), .val (.int r2), .val (.int kk), .val (.int u1), .val (.int u2), .val (.int v3_s0), .val (.int v5_s0), .val (.ref b7), .val (.ref b9), .val (.ref b11), .val (.ref b13), .val (.int u15), .val (.ref v16_l14), .val (.int (kk &&& (3 : Int32))), .val .null, .unset] [])) _
        refine XS.iload X16.here hx rfl (hb hby at_225) rfl ?_
        show Steps p.tables e below (T16.setTop (mkF m 227 #[.val (.int c1), .val (.int r1), .val (.int c2), .val (.int r2), .val (.int kk), .val (.int u1), .val (.int u2), .val (.int v3_s0), .val (.int v5_s0), .val (.ref b7), .val (.ref b9), .val (.ref b11), .val (.ref b13), .val (.int u15), .val (.ref v16_l14), .val (.int (kk &&& (3 : Int32))), .val .null, .unset] [(.int (kk &&& (3 : Int32)))])) _
        refine XS.ifYes X16.here hx rfl (pc0 := 227) (pc' := 248) rfl (hb hby at_227) rfl ((if0 _ _).trans (feq c186_25).2) (by decide) (by decide) ?_
        show Steps p.tables e below (T16.setTop (mkF m 248 #[.val (.int c1), .val (.int r1), .val (.int c2), .val (.int r2), .val (.int kk), .val (.int u1), .val (.int u2), .val (.int v3_s0), .val (.int v5_s0), .val (.ref b7), .val (.ref b9), .val (.ref b11), .val (.ref b13), .val (.int u15), .val (.ref v16_l14), .val (.int (kk &&& (3 : Int32))), .val .null, .unset] [])) _
        refine XS.iconst X16.here hx rfl (hb hby at_248) ?_
        show Steps p.tables e below (T16.setTop (mkF m 249 #[.val (.int c1), .val (.int r1), .val (.int c2), .val (.int r2), .val (.int kk), .val (.int u1), .val (.int u2), .val (.int v3_s0), .val (.int v5_s0), .val (.ref b7), .val (.ref b9), .val (.ref b11), .val (.ref b13), .val (.int u15), .val (.ref v16_l14), .val (.int (kk &&& (3 : Int32))), .val .null, .unset] [(.int (0 : Int32))])) _
        refine XS.istore X16.here hx rfl (hb hby at_249) rfl (l' := #[.val (.int c1), .val (.int r1), .val (.int c2), .val (.int r2), .val (.int kk), .val (.int u1), .val (.int u2), .val (.int v3_s0), .val (.int v5_s0), .val (.ref b7), .val (.ref b9), .val (.ref b11), .val (.ref b13), .val (.int u15), .val (.ref v16_l14), .val (.int (kk &&& (3 : Int32))), .val .null, .val (.int (0 : Int32))]) rfl ?_
        show Steps p.tables e below (T16.setTop (mkF m 251 #[.val (.int c1), .val (.int r1), .val (.int c2), .val (.int r2), .val (.int kk), .val (.int u1), .val (.int u2), .val (.int v3_s0), .val (.int v5_s0), .val (.ref b7), .val (.ref b9), .val (.ref b11), .val (.ref b13), .val (.int u15), .val (.ref v16_l14), .val (.int (kk &&& (3 : Int32))), .val .null, .val (.int (0 : Int32))] [])) _
        refine XS.aload X16.here hx rfl (hb hby at_251) rfl rfl ?_
        show Steps p.tables e below (T16.setTop (mkF m 253 #[.val (.int c1), .val (.int r1), .val (.int c2), .val (.int r2), .val (.int kk), .val (.int u1), .val (.int u2), .val (.int v3_s0), .val (.int v5_s0), .val (.ref b7), .val (.ref b9), .val (.ref b11), .val (.ref b13), .val (.int u15), .val (.ref v16_l14), .val (.int (kk &&& (3 : Int32))), .val .null, .val (.int (0 : Int32))] [(.ref b7)])) _
        refine XS.aload X16.here hx rfl (hb hby at_253) rfl rfl ?_
        exact kt
      obtain ⟨cq31, kq31, q31a, q31b, q31c⟩ := isOf hZ e16 E_b7_14
      obtain ⟨_, _, ⟨T31, L31, k31, n31⟩, -, X31, ⟨Lc31, hQ31, l31, y31, z31⟩, st31⟩ := X16.virtualBack hx (y := (⟨"com/example/khamsin/khamsin/map/Hex", "equals", "(Ljava/lang/Object;)Z"⟩ : MethodName)) (z := (⟨"com/example/khamsin/khamsin/map/Hex", "equals", "(Ljava/lang/Object;)Z"⟩ : MethodName)) hown (mvT hZ (hw _ (List.mem_of_getElem? (i := 53) rfl))) (mvT hZ (hw _ (List.mem_of_getElem? (i := 54) rfl))) (notFace_of_selects (args := #[]) (mvT hZ (hw _ (List.mem_of_getElem? (i := 56) rfl)))) (mvT hZ (hw _ (List.mem_of_getElem? (i := 56) rfl))) (mvT hZ (hw _ (List.mem_of_getElem? (i := 55) rfl))) (by decide) (backOf (W := 0) (rm7 l Z aa hw [] b7 T14.heap n0 O14) hZ (hw _ (List.mem_of_getElem? (i := 57) rfl)) (hw _ (List.mem_of_getElem? (i := 3) rfl)) (by decide) (by decide)) q31a q31c (g := (mkF m 255 #[.val (.int c1), .val (.int r1), .val (.int c2), .val (.int r2), .val (.int kk), .val (.int u1), .val (.int u2), .val (.int v3_s0), .val (.int v5_s0), .val (.ref b7), .val (.ref b9), .val (.ref b11), .val (.ref b13), .val (.int u15), .val (.ref v16_l14), .val (.int (kk &&& (3 : Int32))), .val .null, .val (.int (0 : Int32))] [.null, (.ref b7)])) rfl (by rw [hml]; rfl) (Steps.refl _) (argsL := [.null]) (rest := []) (lenOf pd_oLjava_lang_ObjectcZ rfl) rfl (by show 2 * 0 + _ ≤ _; exact Nat.le_of_eq rfl) (hb hby at_255) (fun _ _ => ⟨rfl, e16, (by decide : 5 + 0 ≤ _), (by decide : 10 + 0 ≤ _)⟩)
      dsimp only [Pt.U, Pt.locs, Pt.cells, Pt.slots] at X31 l31 y31 z31 st31 hQ31
      subst l31 y31 z31
      obtain ⟨rfl, rfl, e31⟩ := hQ31
      try rw [List.append_nil] at X31
      refine Gl.up (B := T31.setTop (mkF m 258 #[.val (.int c1), .val (.int r1), .val (.int c2), .val (.int r2), .val (.int kk), .val (.int u1), .val (.int u2), .val (.int v3_s0), .val (.int v5_s0), .val (.ref b7), .val (.ref b9), .val (.ref b11), .val (.ref b13), .val (.int u15), .val (.ref v16_l14), .val (.int (kk &&& (3 : Int32))), .val .null, .val (.int (0 : Int32))] [(.int f7)])) (fun t kt => st31.trans kt) ?_
      refine Gl.up (B := T31.setTop (mkF m 268 #[.val (.int c1), .val (.int r1), .val (.int c2), .val (.int r2), .val (.int kk), .val (.int u1), .val (.int u2), .val (.int v3_s0), .val (.int v5_s0), .val (.ref b7), .val (.ref b9), .val (.ref b11), .val (.ref b13), .val (.int u15), .val (.ref v16_l14), .val (.int (kk &&& (3 : Int32))), .val .null, .val (.int (0 : Int32))] [(.int (1 : Int32))])) (fun t kt => ?_) ?_
      · show Steps p.tables e below (T31.setTop (mkF m 258 #[.val (.int c1), .val (.int r1), .val (.int c2), .val (.int r2), .val (.int kk), .val (.int u1), .val (.int u2), .val (.int v3_s0), .val (.int v5_s0), .val (.ref b7), .val (.ref b9), .val (.ref b11), .val (.ref b13), .val (.int u15), .val (.ref v16_l14), .val (.int (kk &&& (3 : Int32))), .val .null, .val (.int (0 : Int32))] [(.int f7)])) _
        refine XS.iload X31.here hx rfl (hb hby at_258) rfl ?_
        show Steps p.tables e below (T31.setTop (mkF m 260 #[.val (.int c1), .val (.int r1), .val (.int c2), .val (.int r2), .val (.int kk), .val (.int u1), .val (.int u2), .val (.int v3_s0), .val (.int v5_s0), .val (.ref b7), .val (.ref b9), .val (.ref b11), .val (.ref b13), .val (.int u15), .val (.ref v16_l14), .val (.int (kk &&& (3 : Int32))), .val .null, .val (.int (0 : Int32))] [(.int (0 : Int32)), (.int f7)])) _
        refine XS.icmpNo X31.here hx rfl (hb hby at_260) rfl (teq (rfl : _ = _)).2 ?_
        show Steps p.tables e below (T31.setTop (mkF m 263 #[.val (.int c1), .val (.int r1), .val (.int c2), .val (.int r2), .val (.int kk), .val (.int u1), .val (.int u2), .val (.int v3_s0), .val (.int v5_s0), .val (.ref b7), .val (.ref b9), .val (.ref b11), .val (.ref b13), .val (.int u15), .val (.ref v16_l14), .val (.int (kk &&& (3 : Int32))), .val .null, .val (.int (0 : Int32))] [])) _
        refine XS.iconst X31.here hx rfl (hb hby at_263) ?_
        show Steps p.tables e below (T31.setTop (mkF m 264 #[.val (.int c1), .val (.int r1), .val (.int c2), .val (.int r2), .val (.int kk), .val (.int u1), .val (.int u2), .val (.int v3_s0), .val (.int v5_s0), .val (.ref b7), .val (.ref b9), .val (.ref b11), .val (.ref b13), .val (.int u15), .val (.ref v16_l14), .val (.int (kk &&& (3 : Int32))), .val .null, .val (.int (0 : Int32))] [(.int (1 : Int32))])) _
        refine XS.goto X31.here hx rfl (pc0 := 264) (pc' := 268) rfl (hb hby at_264) (by decide) (by decide) ?_
        exact kt
      refine Gl.retN X31 hx hlk (t := .boolean) Bd.returns (by simp) (hb hby at_268) (w := (1 : Int32)) rfl ?_ (by decide) (by decide)
      exact ⟨rfl, N16⟩
    · refine Gl.up (B := T16.setTop (mkF m 211 #[.val (.int c1), .val (.int r1), .val (.int c2), .val (.int r2), .val (.int kk), .val (.int u1), .val (.int u2), .val (.int v3_s0), .val (.int v5_s0), .val (.ref b7), .val (.ref b9), .val (.ref b11), .val (.ref b13), .val (.int u15), .val (.ref v16_l14), .val (.int (kk &&& (3 : Int32))), .unset, .unset] [(.int (2 : Int32)), (.int (kk &&& (3 : Int32)))])) (fun t kt => ?_) ?_
      · show Steps p.tables e below (T16.setTop (mkF m 199 #[.val (.int c1), .val (.int r1), .val (.int c2), .val (.int r2), .val (.int kk), .val (.int u1), .val (.int u2), .val (.int v3_s0), .val (.int v5_s0), .val (.ref b7), .val (.ref b9), .val (.ref b11), .val (.ref b13), .val (.int u15), .val (.ref v16_l14), .val (.int (kk &&& (3 : Int32))), .unset, .unset] [(.int (1 : Int32)), (.int (kk &&& (3 : Int32)))])) _
        refine XS.icmpYes X16.here hx rfl (pc0 := 199) (pc' := 208) rfl (hb hby at_199) rfl (feq c199_30).2 (by decide) (by decide) ?_
        show Steps p.tables e below (T16.setTop (mkF m 208 #[.val (.int c1), .val (.int r1), .val (.int c2), .val (.int r2), .val (.int kk), .val (.int u1), .val (.int u2), .val (.int v3_s0), .val (.int v5_s0), .val (.ref b7), .val (.ref b9), .val (.ref b11), .val (.ref b13), .val (.int u15), .val (.ref v16_l14), .val (.int (kk &&& (3 : Int32))), .unset, .unset] [])) _
        refine XS.iload X16.here hx rfl (hb hby at_208) rfl ?_
        show Steps p.tables e below (T16.setTop (mkF m 210 #[.val (.int c1), .val (.int r1), .val (.int c2), .val (.int r2), .val (.int kk), .val (.int u1), .val (.int u2), .val (.int v3_s0), .val (.int v5_s0), .val (.ref b7), .val (.ref b9), .val (.ref b11), .val (.ref b13), .val (.int u15), .val (.ref v16_l14), .val (.int (kk &&& (3 : Int32))), .unset, .unset] [(.int (kk &&& (3 : Int32)))])) _
        refine XS.iconst X16.here hx rfl (hb hby at_210) ?_
        exact kt
      by_cases c211_32 : (kk &&& (3 : Int32)) = (2 : Int32)
      · refine Gl.up (B := T16.setTop (mkF m 255 #[.val (.int c1), .val (.int r1), .val (.int c2), .val (.int r2), .val (.int kk), .val (.int u1), .val (.int u2), .val (.int v3_s0), .val (.int v5_s0), .val (.ref b7), .val (.ref b9), .val (.ref b11), .val (.ref b13), .val (.int u15), .val (.ref v16_l14), .val (.int (kk &&& (3 : Int32))), .val (.ref v16_l14), .val (.int (0 : Int32))] [(.ref v16_l14), (.ref b7)])) (fun t kt => ?_) ?_
        · show Steps p.tables e below (T16.setTop (mkF m 211 #[.val (.int c1), .val (.int r1), .val (.int c2), .val (.int r2), .val (.int kk), .val (.int u1), .val (.int u2), .val (.int v3_s0), .val (.int v5_s0), .val (.ref b7), .val (.ref b9), .val (.ref b11), .val (.ref b13), .val (.int u15), .val (.ref v16_l14), .val (.int (kk &&& (3 : Int32))), .unset, .unset] [(.int (2 : Int32)), (.int (kk &&& (3 : Int32)))])) _
          refine XS.icmpNo X16.here hx rfl (hb hby at_211) rfl (teq c211_32).2 ?_
          show Steps p.tables e below (T16.setTop (mkF m 214 #[.val (.int c1), .val (.int r1), .val (.int c2), .val (.int r2), .val (.int kk), .val (.int u1), .val (.int u2), .val (.int v3_s0), .val (.int v5_s0), .val (.ref b7), .val (.ref b9), .val (.ref b11), .val (.ref b13), .val (.int u15), .val (.ref v16_l14), .val (.int (kk &&& (3 : Int32))), .unset, .unset] [])) _
          refine XS.aload X16.here hx rfl (hb hby at_214) rfl rfl ?_
          show Steps p.tables e below (T16.setTop (mkF m 216 #[.val (.int c1), .val (.int r1), .val (.int c2), .val (.int r2), .val (.int kk), .val (.int u1), .val (.int u2), .val (.int v3_s0), .val (.int v5_s0), .val (.ref b7), .val (.ref b9), .val (.ref b11), .val (.ref b13), .val (.int u15), .val (.ref v16_l14), .val (.int (kk &&& (3 : Int32))), .unset, .unset] [(.ref v16_l14)])) _
          refine XS.astore X16.here hx rfl (hb hby at_216) rfl rfl (l' := #[.val (.int c1), .val (.int r1), .val (.int c2), .val (.int r2), .val (.int kk), .val (.int u1), .val (.int u2), .val (.int v3_s0), .val (.int v5_s0), .val (.ref b7), .val (.ref b9), .val (.ref b11), .val (.ref b13), .val (.int u15), .val (.ref v16_l14), .val (.int (kk &&& (3 : Int32))), .val (.ref v16_l14), .unset]) rfl ?_
          show Steps p.tables e below (T16.setTop (mkF m 218 #[.val (.int c1), .val (.int r1), .val (.int c2), .val (.int r2), .val (.int kk), .val (.int u1), .val (.int u2), .val (.int v3_s0), .val (.int v5_s0), .val (.ref b7), .val (.ref b9), .val (.ref b11), .val (.ref b13), .val (.int u15), .val (.ref v16_l14), .val (.int (kk &&& (3 : Int32))), .val (.ref v16_l14), .unset] [])) _
          refine XS.goto X16.here hx rfl (pc0 := 218) (pc' := 225) rfl (hb hby at_218) (by decide) (by decide) ?_
          show Steps p.tables e below (T16.setTop (mkF m 225 #[.val (.int c1), .val (.int r1), .val (.int c2), .val (.int r2), .val (.int kk), .val (.int u1), .val (.int u2), .val (.int v3_s0), .val (.int v5_s0), .val (.ref b7), .val (.ref b9), .val (.ref b11), .val (.ref b13), .val (.int u15), .val (.ref v16_l14), .val (.int (kk &&& (3 : Int32))), .val (.ref v16_l14), .unset] [])) _
          refine XS.iload X16.here hx rfl (hb hby at_225) rfl ?_
          show Steps p.tables e below (T16.setTop (mkF m 227 #[.val (.int c1), .val (.int r1), .val (.int c2), .val (.int r2), .val (.int kk), .val (.int u1), .val (.int u2), .val (.int v3_s0), .val (.int v5_s0), .val (.ref b7), .val (.ref b9), .val (.ref b11), .val (.ref b13), .val (.int u15), .val (.ref v16_l14), .val (.int (kk &&& (3 : Int32))), .val (.ref v16_l14), .unset] [(.int (kk &&& (3 : Int32)))])) _
          refine XS.ifYes X16.here hx rfl (pc0 := 227) (pc' := 248) rfl (hb hby at_227) rfl ((if0 _ _).trans (feq c186_25).2) (by decide) (by decide) ?_
          show Steps p.tables e below (T16.setTop (mkF m 248 #[.val (.int c1), .val (.int r1), .val (.int c2), .val (.int r2), .val (.int kk), .val (.int u1), .val (.int u2), .val (.int v3_s0), .val (.int v5_s0), .val (.ref b7), .val (.ref b9), .val (.ref b11), .val (.ref b13), .val (.int u15), .val (.ref v16_l14), .val (.int (kk &&& (3 : Int32))), .val (.ref v16_l14), .unset] [])) _
          refine XS.iconst X16.here hx rfl (hb hby at_248) ?_
          show Steps p.tables e below (T16.setTop (mkF m 249 #[.val (.int c1), .val (.int r1), .val (.int c2), .val (.int r2), .val (.int kk), .val (.int u1), .val (.int u2), .val (.int v3_s0), .val (.int v5_s0), .val (.ref b7), .val (.ref b9), .val (.ref b11), .val (.ref b13), .val (.int u15), .val (.ref v16_l14), .val (.int (kk &&& (3 : Int32))), .val (.ref v16_l14), .unset] [(.int (0 : Int32))])) _
          refine XS.istore X16.here hx rfl (hb hby at_249) rfl (l' := #[.val (.int c1), .val (.int r1), .val (.int c2), .val (.int r2), .val (.int kk), .val (.int u1), .val (.int u2), .val (.int v3_s0), .val (.int v5_s0), .val (.ref b7), .val (.ref b9), .val (.ref b11), .val (.ref b13), .val (.int u15), .val (.ref v16_l14), .val (.int (kk &&& (3 : Int32))), .val (.ref v16_l14), .val (.int (0 : Int32))]) rfl ?_
          show Steps p.tables e below (T16.setTop (mkF m 251 #[.val (.int c1), .val (.int r1), .val (.int c2), .val (.int r2), .val (.int kk), .val (.int u1), .val (.int u2), .val (.int v3_s0), .val (.int v5_s0), .val (.ref b7), .val (.ref b9), .val (.ref b11), .val (.ref b13), .val (.int u15), .val (.ref v16_l14), .val (.int (kk &&& (3 : Int32))), .val (.ref v16_l14), .val (.int (0 : Int32))] [])) _
          refine XS.aload X16.here hx rfl (hb hby at_251) rfl rfl ?_
          show Steps p.tables e below (T16.setTop (mkF m 253 #[.val (.int c1), .val (.int r1), .val (.int c2), .val (.int r2), .val (.int kk), .val (.int u1), .val (.int u2), .val (.int v3_s0), .val (.int v5_s0), .val (.ref b7), .val (.ref b9), .val (.ref b11), .val (.ref b13), .val (.int u15), .val (.ref v16_l14), .val (.int (kk &&& (3 : Int32))), .val (.ref v16_l14), .val (.int (0 : Int32))] [(.ref b7)])) _
          refine XS.aload X16.here hx rfl (hb hby at_253) rfl rfl ?_
          exact kt
        obtain ⟨cq33, kq33, q33a, q33b, q33c⟩ := isOf hZ e16 E_b7_14
        obtain ⟨_, _, ⟨T33, L33, k33, n33⟩, -, X33, ⟨Lc33, hQ33, l33, y33, z33⟩, st33⟩ := X16.virtualBack hx (y := (⟨"com/example/khamsin/khamsin/map/Hex", "equals", "(Ljava/lang/Object;)Z"⟩ : MethodName)) (z := (⟨"com/example/khamsin/khamsin/map/Hex", "equals", "(Ljava/lang/Object;)Z"⟩ : MethodName)) hown (mvT hZ (hw _ (List.mem_of_getElem? (i := 53) rfl))) (mvT hZ (hw _ (List.mem_of_getElem? (i := 54) rfl))) (notFace_of_selects (args := #[]) (mvT hZ (hw _ (List.mem_of_getElem? (i := 56) rfl)))) (mvT hZ (hw _ (List.mem_of_getElem? (i := 56) rfl))) (mvT hZ (hw _ (List.mem_of_getElem? (i := 55) rfl))) (by decide) (backOf (W := 0) (rm8 l Z aa hw [] b7 v16_l14 "com/example/khamsin/khamsin/map/Edge" T14.heap n0 O14 E_v24 (own_noE hw)) hZ (hw _ (List.mem_of_getElem? (i := 57) rfl)) (hw _ (List.mem_of_getElem? (i := 3) rfl)) (by decide) (by decide)) q33a q33c (g := (mkF m 255 #[.val (.int c1), .val (.int r1), .val (.int c2), .val (.int r2), .val (.int kk), .val (.int u1), .val (.int u2), .val (.int v3_s0), .val (.int v5_s0), .val (.ref b7), .val (.ref b9), .val (.ref b11), .val (.ref b13), .val (.int u15), .val (.ref v16_l14), .val (.int (kk &&& (3 : Int32))), .val (.ref v16_l14), .val (.int (0 : Int32))] [(.ref v16_l14), (.ref b7)])) rfl (by rw [hml]; rfl) (Steps.refl _) (argsL := [(.ref v16_l14)]) (rest := []) (lenOf pd_oLjava_lang_ObjectcZ rfl) rfl (by show 2 * 0 + _ ≤ _; exact Nat.le_of_eq rfl) (hb hby at_255) (fun _ _ => ⟨rfl, e16, (by decide : 5 + 0 ≤ _), (by decide : 10 + 0 ≤ _)⟩)
        dsimp only [Pt.U, Pt.locs, Pt.cells, Pt.slots] at X33 l33 y33 z33 st33 hQ33
        subst l33 y33 z33
        obtain ⟨rfl, rfl, e33⟩ := hQ33
        try rw [List.append_nil] at X33
        refine Gl.up (B := T33.setTop (mkF m 258 #[.val (.int c1), .val (.int r1), .val (.int c2), .val (.int r2), .val (.int kk), .val (.int u1), .val (.int u2), .val (.int v3_s0), .val (.int v5_s0), .val (.ref b7), .val (.ref b9), .val (.ref b11), .val (.ref b13), .val (.int u15), .val (.ref v16_l14), .val (.int (kk &&& (3 : Int32))), .val (.ref v16_l14), .val (.int (0 : Int32))] [(.int f8)])) (fun t kt => st33.trans kt) ?_
        refine Gl.up (B := T33.setTop (mkF m 268 #[.val (.int c1), .val (.int r1), .val (.int c2), .val (.int r2), .val (.int kk), .val (.int u1), .val (.int u2), .val (.int v3_s0), .val (.int v5_s0), .val (.ref b7), .val (.ref b9), .val (.ref b11), .val (.ref b13), .val (.int u15), .val (.ref v16_l14), .val (.int (kk &&& (3 : Int32))), .val (.ref v16_l14), .val (.int (0 : Int32))] [(.int (1 : Int32))])) (fun t kt => ?_) ?_
        · show Steps p.tables e below (T33.setTop (mkF m 258 #[.val (.int c1), .val (.int r1), .val (.int c2), .val (.int r2), .val (.int kk), .val (.int u1), .val (.int u2), .val (.int v3_s0), .val (.int v5_s0), .val (.ref b7), .val (.ref b9), .val (.ref b11), .val (.ref b13), .val (.int u15), .val (.ref v16_l14), .val (.int (kk &&& (3 : Int32))), .val (.ref v16_l14), .val (.int (0 : Int32))] [(.int f8)])) _
          refine XS.iload X33.here hx rfl (hb hby at_258) rfl ?_
          show Steps p.tables e below (T33.setTop (mkF m 260 #[.val (.int c1), .val (.int r1), .val (.int c2), .val (.int r2), .val (.int kk), .val (.int u1), .val (.int u2), .val (.int v3_s0), .val (.int v5_s0), .val (.ref b7), .val (.ref b9), .val (.ref b11), .val (.ref b13), .val (.int u15), .val (.ref v16_l14), .val (.int (kk &&& (3 : Int32))), .val (.ref v16_l14), .val (.int (0 : Int32))] [(.int (0 : Int32)), (.int f8)])) _
          refine XS.icmpNo X33.here hx rfl (hb hby at_260) rfl (teq (rfl : _ = _)).2 ?_
          show Steps p.tables e below (T33.setTop (mkF m 263 #[.val (.int c1), .val (.int r1), .val (.int c2), .val (.int r2), .val (.int kk), .val (.int u1), .val (.int u2), .val (.int v3_s0), .val (.int v5_s0), .val (.ref b7), .val (.ref b9), .val (.ref b11), .val (.ref b13), .val (.int u15), .val (.ref v16_l14), .val (.int (kk &&& (3 : Int32))), .val (.ref v16_l14), .val (.int (0 : Int32))] [])) _
          refine XS.iconst X33.here hx rfl (hb hby at_263) ?_
          show Steps p.tables e below (T33.setTop (mkF m 264 #[.val (.int c1), .val (.int r1), .val (.int c2), .val (.int r2), .val (.int kk), .val (.int u1), .val (.int u2), .val (.int v3_s0), .val (.int v5_s0), .val (.ref b7), .val (.ref b9), .val (.ref b11), .val (.ref b13), .val (.int u15), .val (.ref v16_l14), .val (.int (kk &&& (3 : Int32))), .val (.ref v16_l14), .val (.int (0 : Int32))] [(.int (1 : Int32))])) _
          refine XS.goto X33.here hx rfl (pc0 := 264) (pc' := 268) rfl (hb hby at_264) (by decide) (by decide) ?_
          exact kt
        refine Gl.retN X33 hx hlk (t := .boolean) Bd.returns (by simp) (hb hby at_268) (w := (1 : Int32)) rfl ?_ (by decide) (by decide)
        exact ⟨rfl, N16⟩
      · refine Gl.up (B := T16.setTop (mkF m 255 #[.val (.int c1), .val (.int r1), .val (.int c2), .val (.int r2), .val (.int kk), .val (.int u1), .val (.int u2), .val (.int v3_s0), .val (.int v5_s0), .val (.ref b7), .val (.ref b9), .val (.ref b11), .val (.ref b13), .val (.int u15), .val (.ref v16_l14), .val (.int (kk &&& (3 : Int32))), .val (.ref b13), .val (.int (0 : Int32))] [(.ref b13), (.ref b7)])) (fun t kt => ?_) ?_
        · show Steps p.tables e below (T16.setTop (mkF m 211 #[.val (.int c1), .val (.int r1), .val (.int c2), .val (.int r2), .val (.int kk), .val (.int u1), .val (.int u2), .val (.int v3_s0), .val (.int v5_s0), .val (.ref b7), .val (.ref b9), .val (.ref b11), .val (.ref b13), .val (.int u15), .val (.ref v16_l14), .val (.int (kk &&& (3 : Int32))), .unset, .unset] [(.int (2 : Int32)), (.int (kk &&& (3 : Int32)))])) _
          refine XS.icmpYes X16.here hx rfl (pc0 := 211) (pc' := 221) rfl (hb hby at_211) rfl (feq c211_32).2 (by decide) (by decide) ?_
          show Steps p.tables e below (T16.setTop (mkF m 221 #[.val (.int c1), .val (.int r1), .val (.int c2), .val (.int r2), .val (.int kk), .val (.int u1), .val (.int u2), .val (.int v3_s0), .val (.int v5_s0), .val (.ref b7), .val (.ref b9), .val (.ref b11), .val (.ref b13), .val (.int u15), .val (.ref v16_l14), .val (.int (kk &&& (3 : Int32))), .unset, .unset] [])) _
          refine XS.aload X16.here hx rfl (hb hby at_221) rfl rfl ?_
          show Steps p.tables e below (T16.setTop (mkF m 223 #[.val (.int c1), .val (.int r1), .val (.int c2), .val (.int r2), .val (.int kk), .val (.int u1), .val (.int u2), .val (.int v3_s0), .val (.int v5_s0), .val (.ref b7), .val (.ref b9), .val (.ref b11), .val (.ref b13), .val (.int u15), .val (.ref v16_l14), .val (.int (kk &&& (3 : Int32))), .unset, .unset] [(.ref b13)])) _
          refine XS.astore X16.here hx rfl (hb hby at_223) rfl rfl (l' := #[.val (.int c1), .val (.int r1), .val (.int c2), .val (.int r2), .val (.int kk), .val (.int u1), .val (.int u2), .val (.int v3_s0), .val (.int v5_s0), .val (.ref b7), .val (.ref b9), .val (.ref b11), .val (.ref b13), .val (.int u15), .val (.ref v16_l14), .val (.int (kk &&& (3 : Int32))), .val (.ref b13), .unset]) rfl ?_
          show Steps p.tables e below (T16.setTop (mkF m 225 #[.val (.int c1), .val (.int r1), .val (.int c2), .val (.int r2), .val (.int kk), .val (.int u1), .val (.int u2), .val (.int v3_s0), .val (.int v5_s0), .val (.ref b7), .val (.ref b9), .val (.ref b11), .val (.ref b13), .val (.int u15), .val (.ref v16_l14), .val (.int (kk &&& (3 : Int32))), .val (.ref b13), .unset] [])) _
          refine XS.iload X16.here hx rfl (hb hby at_225) rfl ?_
          show Steps p.tables e below (T16.setTop (mkF m 227 #[.val (.int c1), .val (.int r1), .val (.int c2), .val (.int r2), .val (.int kk), .val (.int u1), .val (.int u2), .val (.int v3_s0), .val (.int v5_s0), .val (.ref b7), .val (.ref b9), .val (.ref b11), .val (.ref b13), .val (.int u15), .val (.ref v16_l14), .val (.int (kk &&& (3 : Int32))), .val (.ref b13), .unset] [(.int (kk &&& (3 : Int32)))])) _
          refine XS.ifYes X16.here hx rfl (pc0 := 227) (pc' := 248) rfl (hb hby at_227) rfl ((if0 _ _).trans (feq c186_25).2) (by decide) (by decide) ?_
          show Steps p.tables e below (T16.setTop (mkF m 248 #[.val (.int c1), .val (.int r1), .val (.int c2), .val (.int r2), .val (.int kk), .val (.int u1), .val (.int u2), .val (.int v3_s0), .val (.int v5_s0), .val (.ref b7), .val (.ref b9), .val (.ref b11), .val (.ref b13), .val (.int u15), .val (.ref v16_l14), .val (.int (kk &&& (3 : Int32))), .val (.ref b13), .unset] [])) _
          refine XS.iconst X16.here hx rfl (hb hby at_248) ?_
          show Steps p.tables e below (T16.setTop (mkF m 249 #[.val (.int c1), .val (.int r1), .val (.int c2), .val (.int r2), .val (.int kk), .val (.int u1), .val (.int u2), .val (.int v3_s0), .val (.int v5_s0), .val (.ref b7), .val (.ref b9), .val (.ref b11), .val (.ref b13), .val (.int u15), .val (.ref v16_l14), .val (.int (kk &&& (3 : Int32))), .val (.ref b13), .unset] [(.int (0 : Int32))])) _
          refine XS.istore X16.here hx rfl (hb hby at_249) rfl (l' := #[.val (.int c1), .val (.int r1), .val (.int c2), .val (.int r2), .val (.int kk), .val (.int u1), .val (.int u2), .val (.int v3_s0), .val (.int v5_s0), .val (.ref b7), .val (.ref b9), .val (.ref b11), .val (.ref b13), .val (.int u15), .val (.ref v16_l14), .val (.int (kk &&& (3 : Int32))), .val (.ref b13), .val (.int (0 : Int32))]) rfl ?_
          show Steps p.tables e below (T16.setTop (mkF m 251 #[.val (.int c1), .val (.int r1), .val (.int c2), .val (.int r2), .val (.int kk), .val (.int u1), .val (.int u2), .val (.int v3_s0), .val (.int v5_s0), .val (.ref b7), .val (.ref b9), .val (.ref b11), .val (.ref b13), .val (.int u15), .val (.ref v16_l14), .val (.int (kk &&& (3 : Int32))), .val (.ref b13), .val (.int (0 : Int32))] [])) _
          refine XS.aload X16.here hx rfl (hb hby at_251) rfl rfl ?_
          show Steps p.tables e below (T16.setTop (mkF m 253 #[.val (.int c1), .val (.int r1), .val (.int c2), .val (.int r2), .val (.int kk), .val (.int u1), .val (.int u2), .val (.int v3_s0), .val (.int v5_s0), .val (.ref b7), .val (.ref b9), .val (.ref b11), .val (.ref b13), .val (.int u15), .val (.ref v16_l14), .val (.int (kk &&& (3 : Int32))), .val (.ref b13), .val (.int (0 : Int32))] [(.ref b7)])) _
          refine XS.aload X16.here hx rfl (hb hby at_253) rfl rfl ?_
          exact kt
        obtain ⟨cq34, kq34, q34a, q34b, q34c⟩ := isOf hZ e16 E_b7_14
        obtain ⟨_, _, ⟨T34, L34, k34, n34⟩, -, X34, ⟨Lc34, hQ34, l34, y34, z34⟩, st34⟩ := X16.virtualBack hx (y := (⟨"com/example/khamsin/khamsin/map/Hex", "equals", "(Ljava/lang/Object;)Z"⟩ : MethodName)) (z := (⟨"com/example/khamsin/khamsin/map/Hex", "equals", "(Ljava/lang/Object;)Z"⟩ : MethodName)) hown (mvT hZ (hw _ (List.mem_of_getElem? (i := 53) rfl))) (mvT hZ (hw _ (List.mem_of_getElem? (i := 54) rfl))) (notFace_of_selects (args := #[]) (mvT hZ (hw _ (List.mem_of_getElem? (i := 56) rfl)))) (mvT hZ (hw _ (List.mem_of_getElem? (i := 56) rfl))) (mvT hZ (hw _ (List.mem_of_getElem? (i := 55) rfl))) (by decide) (backOf (W := 0) (rm8 l Z aa hw [] b7 b13 "java/lang/String" T14.heap n0 O14 E_b13_14 (own_noS hw)) hZ (hw _ (List.mem_of_getElem? (i := 57) rfl)) (hw _ (List.mem_of_getElem? (i := 3) rfl)) (by decide) (by decide)) q34a q34c (g := (mkF m 255 #[.val (.int c1), .val (.int r1), .val (.int c2), .val (.int r2), .val (.int kk), .val (.int u1), .val (.int u2), .val (.int v3_s0), .val (.int v5_s0), .val (.ref b7), .val (.ref b9), .val (.ref b11), .val (.ref b13), .val (.int u15), .val (.ref v16_l14), .val (.int (kk &&& (3 : Int32))), .val (.ref b13), .val (.int (0 : Int32))] [(.ref b13), (.ref b7)])) rfl (by rw [hml]; rfl) (Steps.refl _) (argsL := [(.ref b13)]) (rest := []) (lenOf pd_oLjava_lang_ObjectcZ rfl) rfl (by show 2 * 0 + _ ≤ _; exact Nat.le_of_eq rfl) (hb hby at_255) (fun _ _ => ⟨rfl, e16, (by decide : 5 + 0 ≤ _), (by decide : 10 + 0 ≤ _)⟩)
        dsimp only [Pt.U, Pt.locs, Pt.cells, Pt.slots] at X34 l34 y34 z34 st34 hQ34
        subst l34 y34 z34
        obtain ⟨rfl, rfl, e34⟩ := hQ34
        try rw [List.append_nil] at X34
        refine Gl.up (B := T34.setTop (mkF m 258 #[.val (.int c1), .val (.int r1), .val (.int c2), .val (.int r2), .val (.int kk), .val (.int u1), .val (.int u2), .val (.int v3_s0), .val (.int v5_s0), .val (.ref b7), .val (.ref b9), .val (.ref b11), .val (.ref b13), .val (.int u15), .val (.ref v16_l14), .val (.int (kk &&& (3 : Int32))), .val (.ref b13), .val (.int (0 : Int32))] [(.int f8)])) (fun t kt => st34.trans kt) ?_
        refine Gl.up (B := T34.setTop (mkF m 268 #[.val (.int c1), .val (.int r1), .val (.int c2), .val (.int r2), .val (.int kk), .val (.int u1), .val (.int u2), .val (.int v3_s0), .val (.int v5_s0), .val (.ref b7), .val (.ref b9), .val (.ref b11), .val (.ref b13), .val (.int u15), .val (.ref v16_l14), .val (.int (kk &&& (3 : Int32))), .val (.ref b13), .val (.int (0 : Int32))] [(.int (1 : Int32))])) (fun t kt => ?_) ?_
        · show Steps p.tables e below (T34.setTop (mkF m 258 #[.val (.int c1), .val (.int r1), .val (.int c2), .val (.int r2), .val (.int kk), .val (.int u1), .val (.int u2), .val (.int v3_s0), .val (.int v5_s0), .val (.ref b7), .val (.ref b9), .val (.ref b11), .val (.ref b13), .val (.int u15), .val (.ref v16_l14), .val (.int (kk &&& (3 : Int32))), .val (.ref b13), .val (.int (0 : Int32))] [(.int f8)])) _
          refine XS.iload X34.here hx rfl (hb hby at_258) rfl ?_
          show Steps p.tables e below (T34.setTop (mkF m 260 #[.val (.int c1), .val (.int r1), .val (.int c2), .val (.int r2), .val (.int kk), .val (.int u1), .val (.int u2), .val (.int v3_s0), .val (.int v5_s0), .val (.ref b7), .val (.ref b9), .val (.ref b11), .val (.ref b13), .val (.int u15), .val (.ref v16_l14), .val (.int (kk &&& (3 : Int32))), .val (.ref b13), .val (.int (0 : Int32))] [(.int (0 : Int32)), (.int f8)])) _
          refine XS.icmpNo X34.here hx rfl (hb hby at_260) rfl (teq (rfl : _ = _)).2 ?_
          show Steps p.tables e below (T34.setTop (mkF m 263 #[.val (.int c1), .val (.int r1), .val (.int c2), .val (.int r2), .val (.int kk), .val (.int u1), .val (.int u2), .val (.int v3_s0), .val (.int v5_s0), .val (.ref b7), .val (.ref b9), .val (.ref b11), .val (.ref b13), .val (.int u15), .val (.ref v16_l14), .val (.int (kk &&& (3 : Int32))), .val (.ref b13), .val (.int (0 : Int32))] [])) _
          refine XS.iconst X34.here hx rfl (hb hby at_263) ?_
          show Steps p.tables e below (T34.setTop (mkF m 264 #[.val (.int c1), .val (.int r1), .val (.int c2), .val (.int r2), .val (.int kk), .val (.int u1), .val (.int u2), .val (.int v3_s0), .val (.int v5_s0), .val (.ref b7), .val (.ref b9), .val (.ref b11), .val (.ref b13), .val (.int u15), .val (.ref v16_l14), .val (.int (kk &&& (3 : Int32))), .val (.ref b13), .val (.int (0 : Int32))] [(.int (1 : Int32))])) _
          refine XS.goto X34.here hx rfl (pc0 := 264) (pc' := 268) rfl (hb hby at_264) (by decide) (by decide) ?_
          exact kt
        refine Gl.retN X34 hx hlk (t := .boolean) Bd.returns (by simp) (hb hby at_268) (w := (1 : Int32)) rfl ?_ (by decide) (by decide)
        exact ⟨rfl, N16⟩
set_option maxRecDepth 65536 in
set_option maxHeartbeats 40000000 in
theorem comes_1 {Post : Tables → Env → Array Value → State → Outcome → State → Prop} (hpost : ∀ tb e args s v u, (limb_1_1.after args s (.returned v) u = true ∧ limb_1_2.after args s (.returned v) u = true) → FrameEnd s (.returned v) u (Jvm.fieldLocs frame_1_writes args s ++ Jvm.arrayLocs frame_1_arrays args s ++ Jvm.staticLocs frame_1_statics s) 24 128 → Post tb e args s (.returned v) u) :
    ArmFor flags0 classFile x code maxLocals ret World_1 tables_1 room_1 Calls_1 rest_1 Pre_1 Post := by
  intro l hfl _ _ p e ha hc hk s m args below hf hA hF happ hP
  obtain ⟨hcalls, hrest, hpre⟩ := hP
  obtain ⟨-, -, -, hnamed, -, -, -, hat⟩ := (Spec.applies_iff hf).mp happ
  obtain ⟨hg, hn⟩ := and_e (Cond.before_iff.mp (show (Jvm.Cond.and given_1 narrow_1).before args s = true from hpre))
  obtain ⟨hcnt, hg0⟩ := and_e hg
  obtain ⟨ha0, hg1⟩ := and_e hg0
  obtain ⟨ha1, hg2⟩ := and_e hg1
  obtain ⟨ha2, hg3⟩ := and_e hg2
  obtain ⟨ha3, hg4⟩ := and_e hg3
  obtain ⟨w0, w1, w2, w3, w4, rfl⟩ : ∃ w0 w1 w2 w3 w4 : Value, args = #[w0, w1, w2, w3, w4] := by
    have hs : args.size = 5 := by simpa [Cond.value, given_1] using hcnt
    obtain ⟨L⟩ := args
    match L, hs with
    | [w0, w1, w2, w3, w4], _ => exact ⟨w0, w1, w2, w3, w4, rfl⟩
  have hw := fun d (hd : d ∈ tables_1) => atoms_spec (ws := Jvm.Cond.code x code maxLocals ret :: tables_1) hat d (List.mem_cons_of_mem _ hd)
  obtain ⟨i0, ei0⟩ := is_v ha0
  obtain rfl : w0 = (.int i0) := Option.some.inj ei0
  obtain ⟨i1, ei1⟩ := is_v ha1
  obtain rfl : w1 = (.int i1) := Option.some.inj ei1
  obtain ⟨i2, ei2⟩ := is_v ha2
  obtain rfl : w2 = (.int i2) := Option.some.inj ei2
  obtain ⟨i3, ei3⟩ := is_v ha3
  obtain rfl : w3 = (.int i3) := Option.some.inj ei3
  obtain ⟨i4, ei4⟩ := is_v hg4
  obtain rfl : w4 = (.int i4) := Option.some.inj ei4
  obtain ⟨hsets, hown0⟩ := atoms_of _ (rest_1_c_eq ▸ (show rest_1_c.before _ s = true from hrest))
  have nzc := not_v (Cond.before_iff.mp (hsets _ (List.mem_of_getElem? (i := 2) rfl)))
  obtain ⟨zc, ezc⟩ := is_v (Cond.before_iff.mp (hsets _ (List.mem_of_getElem? (i := 1) rfl)))
  have S_zc : Sta s s.heap "java/lang/String" "COMPACT_STRINGS" "Z" (.int zc) := Sta.start ezc (Or.inl (hsets _ (List.mem_of_getElem? (i := 0) rfl)))
  have P3 : ¬ (zc = (0 : Int32)) := gotF (Cond.eq_ints ezc (Term.int_eval (0))) nzc
  obtain ⟨hn0, hm0⟩ := and_e hn
  obtain ⟨hn1, hm1⟩ := and_e hm0
  obtain ⟨hn2, hm2⟩ := and_e hm1
  have hn3 := hm2
  obtain ⟨wW, ev_wW⟩ := exa_v hn0
  have E_wW : Exa s s.heap wW "com/example/khamsin/khamsin/map/Edge" := Exa.start ev_wW hn0
  have S_wW : Sta s s.heap "com/example/khamsin/khamsin/map/Edge" "WEST" "Lcom/example/khamsin/khamsin/map/Edge;" (.ref wW) := Sta.start ev_wW (Or.inr ⟨(hw _ (List.mem_of_getElem? (i := 51) rfl)), (hw _ (List.mem_of_getElem? (i := 52) rfl))⟩)
  obtain ⟨wN, ev_wN⟩ := exa_v hn1
  have E_wN : Exa s s.heap wN "com/example/khamsin/khamsin/map/Edge" := Exa.start ev_wN hn1
  have S_wN : Sta s s.heap "com/example/khamsin/khamsin/map/Edge" "NORTH" "Lcom/example/khamsin/khamsin/map/Edge;" (.ref wN) := Sta.start ev_wN (Or.inr ⟨(hw _ (List.mem_of_getElem? (i := 51) rfl)), (hw _ (List.mem_of_getElem? (i := 63) rfl))⟩)
  obtain ⟨wS, ev_wS⟩ := exa_v hn2
  have E_wS : Exa s s.heap wS "com/example/khamsin/khamsin/map/Edge" := Exa.start ev_wS hn2
  have S_wS : Sta s s.heap "com/example/khamsin/khamsin/map/Edge" "SOUTH" "Lcom/example/khamsin/khamsin/map/Edge;" (.ref wS) := Sta.start ev_wS (Or.inr ⟨(hw _ (List.mem_of_getElem? (i := 51) rfl)), (hw _ (List.mem_of_getElem? (i := 65) rfl))⟩)
  obtain ⟨wE, ev_wE⟩ := exa_v hn3
  have E_wE : Exa s s.heap wE "com/example/khamsin/khamsin/map/Edge" := Exa.start ev_wE hn3
  have S_wE : Sta s s.heap "com/example/khamsin/khamsin/map/Edge" "EAST" "Lcom/example/khamsin/khamsin/map/Edge;" (.ref wE) := Sta.start ev_wE (Or.inr ⟨(hw _ (List.mem_of_getElem? (i := 51) rfl)), (hw _ (List.mem_of_getElem? (i := 67) rfl))⟩)
  obtain ⟨n, o, h1, h2, h3, _, L, rfl, ⟨rfl, N⟩, hq⟩ := rm0 l s _ hw tables_1 i0 i1 i2 i3 i4 wW wE wN wS zc s.heap s.heap.size (Old.start s) S_wW S_wE S_wN S_wS E_wW E_wE E_wN E_wS S_zc P3 p e ha hc hk s m _ below hf ((Spec.applies_iff_loose hf).mp happ).1 ⟨rfl, State.Warmed39.refl s, rfl⟩ trivial
  exact ⟨n, _, h1, h2, h3, hpost _ _ _ _ _ _ ⟨Cond.after_iff.mpr rfl, Cond.after_iff.mpr (eq_i res_at (Term.int_eval (1)) rfl)⟩ ⟨hq.1, hq.2.1, (hq.2.2.sift fun y hy => Or.inr (N y hy)).mono (by decide) (by decide)⟩⟩
theorem main_1_1 : Claimed_1_1 := comes_1 fun _ _ _ _ _ _ h hF => ⟨h.1, hF⟩
theorem main_1_2 : Claimed_1_2 := comes_1 fun _ _ _ _ _ _ h hF => ⟨h.2, hF⟩
end Jvm.Pilot.@@N@@
namespace Jvm.Pilot.@@N@@
open Jvm Jvm.ClassFile Sem Op Lib Jvm.Free Jvm.Stand Jvm.Pilot.@@N@@.Jvm.D
/-! MADE BY PROGRAM (witnessworld.py) out of the Statement's table words and the real class files: 24 classes; the members and pool entries that the words name. The judged class is class 1, her method 1. -/
namespace start1
open Jvm.ClassFile
def u (s : String) : CpInfo := .utf8 (stringToUtf16 s)
/-- a pool by its gaps: so many unusable entries, then the entry; so many at the end -/
def gap : Nat → List CpInfo → List CpInfo
  | 0, r => r
  | n + 1, r => .unusable :: gap n r
def poolList (es : List (Nat × CpInfo)) (last : Nat) : List CpInfo := es.foldr (fun e r => gap e.1 (e.2 :: r)) (gap last [])
def pool (es : List (Nat × CpInfo)) (last : Nat) : Array CpInfo := ⟨poolList es last⟩
def fileOf (pool : Array CpInfo) (this : Nat) (attrs : Array Attribute := #[]) (ms : Array MethodInfo := #[]) (fl : Nat := 33) (sup : Nat := 0) (ifs : Array Nat := #[]) (fds : Array FieldInfo := #[]) : ClassFile where
  minorVersion := 0
  majorVersion := 65
  constantPool := pool
  accessFlags := fl
  thisClass := this
  superClass := sup
  interfaces := ifs
  fields := fds
  methods := ms
  attributes := attrs
def plain (name : String) (sup : Option ClassId) : Class where
  name := name
  kind := .ordinary
  loader := none
  accessFlags := 33
  super := sup
  interfaces := #[]
  cf := none
  fields := #[]
  methods := #[]
  instanceTypes := #[]
  staticTypes := #[]
  resolved := #[]
  callSites := []
  init := .initialized
  statics := none
  mirror := none

def pool0 : Array CpInfo := pool [(5, u "<init>"), (0, u "()V"), (1, .class_ 10), (1, u "java/lang/Object")] 113

def k0c0 : Code := { maxStack := 0, maxLocals := 1, code := object_method_1_code, exceptionTable := #[], attributes := #[] }
def k0m0 : Method := { name := "<init>", desc := "()V", sig := { parameters := [], returnType := none }, accessFlags := 1, code := some k0c0 }
/-- java/lang/Object -/
def k0 : Class := { plain "java/lang/Object" none with
  accessFlags := 33
  interfaces := #[]
  cf := some (fileOf pool0 8 #[] #[{ accessFlags := 1, nameIndex := 5, descriptorIndex := 6, attributes := #[] }] 33 0 #[] #[])
  fields := #[]
  methods := #[k0m0]
  instanceTypes := #[]
  staticTypes := #[]
  resolved := Array.replicate 124 none
  statics := none }

def pool1 : Array CpInfo := pool [(2, .class_ 4), (1, u "java/lang/Object"), (0, u "<init>"), (0, u "()V"), (0, .integer 2147483647), (0, .class_ 9), (0, u "com/example/khamsin/khamsin/map/Hex"), (0, .methodref 8 11), (0, .nameAndType 5 12), (0, u "(II)V"), (0, .class_ 14), (0, u "java/lang/String"), (0, .methodref 13 16), (0, .nameAndType 5 17), (0, u "([C)V"), (0, .fieldref 19 20), (0, .class_ 21), (0, .nameAndType 22 23), (0, u "com/example/khamsin/khamsin/map/Edge"), (0, u "WEST"), (0, u "Lcom/example/khamsin/khamsin/map/Edge;"), (0, .fieldref 19 25), (0, .nameAndType 26 23), (0, u "EAST"), (0, .fieldref 19 28), (0, .nameAndType 29 23), (0, u "NORTH"), (0, .fieldref 19 31), (0, .nameAndType 32 23), (0, u "SOUTH"), (0, .methodref 8 34), (0, .nameAndType 35 36), (0, u "equals"), (0, u "(Ljava/lang/Object;)Z"), (0, .class_ 38), (0, u "com/example/khamsin/khamsin/map/HexEqualsPinLaw"), (2, u "law"), (0, u "(IIIII)Z")] 5

def k1m0 : Method := { name := "<init>", desc := "()V", sig := { parameters := [], returnType := none }, accessFlags := 1, code := none }
def k1c1 : Code := { maxStack := 5, maxLocals := 18, code := code, exceptionTable := #[], attributes := #[] }
def k1m1 : Method := { name := "law", desc := "(IIIII)Z", sig := { parameters := [.int, .int, .int, .int, .int], returnType := some .boolean }, accessFlags := 9, code := some k1c1 }
/-- com/example/khamsin/khamsin/map/HexEqualsPinLaw -/
def k1 : Class := { plain "com/example/khamsin/khamsin/map/HexEqualsPinLaw" (some 0) with
  accessFlags := 49
  interfaces := #[]
  cf := some (fileOf pool1 37 #[] #[{ accessFlags := 1, nameIndex := 5, descriptorIndex := 6, attributes := #[] }, { accessFlags := 9, nameIndex := 41, descriptorIndex := 42, attributes := #[] }] 49 2 #[] #[])
  fields := #[]
  methods := #[k1m0, k1m1]
  instanceTypes := #[]
  staticTypes := #[]
  resolved := Array.replicate 48 none
  statics := none }

def pool2 : Array CpInfo := pool [(1, .methodref 2 3), (0, .class_ 4), (0, .nameAndType 5 6), (0, u "java/lang/Object"), (0, u "<init>"), (0, u "()V"), (0, .class_ 8), (0, u "java/lang/Record")] 13

def k2c0 : Code := { maxStack := 1, maxLocals := 1, code := jdk_30_method_1_code, exceptionTable := #[], attributes := #[] }
def k2m0 : Method := { name := "<init>", desc := "()V", sig := { parameters := [], returnType := none }, accessFlags := 4, code := some k2c0 }
/-- java/lang/Record -/
def k2 : Class := { plain "java/lang/Record" (some 0) with
  accessFlags := 1057
  interfaces := #[]
  cf := some (fileOf pool2 7 #[] #[{ accessFlags := 4, nameIndex := 5, descriptorIndex := 6, attributes := #[] }] 1057 2 #[] #[])
  fields := #[]
  methods := #[k2m0]
  instanceTypes := #[]
  staticTypes := #[]
  resolved := Array.replicate 22 none
  statics := none }

def pool3 : Array CpInfo := pool [(1, .class_ 2), (0, u "java/lang/Comparable"), (0, .class_ 4), (0, u "java/lang/Object")] 7

/-- java/lang/Comparable -/
def k3 : Class := { plain "java/lang/Comparable" (some 0) with
  accessFlags := 1537
  interfaces := #[]
  cf := some (fileOf pool3 1 #[] #[] 1537 3 #[] #[])
  fields := #[]
  methods := #[]
  instanceTypes := #[]
  staticTypes := #[]
  resolved := Array.replicate 12 none
  statics := none }

def pool4 : Array CpInfo := pool [(1, .class_ 2), (0, u "com/example/khamsin/khamsin/map/Place"), (0, .class_ 4), (0, u "java/lang/Object")] 11

/-- com/example/khamsin/khamsin/map/Place -/
def k4 : Class := { plain "com/example/khamsin/khamsin/map/Place" (some 0) with
  accessFlags := 1537
  interfaces := #[]
  cf := some (fileOf pool4 1 #[] #[] 1537 3 #[] #[])
  fields := #[]
  methods := #[]
  instanceTypes := #[]
  staticTypes := #[]
  resolved := Array.replicate 16 none
  statics := none }

def pool5 : Array CpInfo := pool [(1, .methodref 2 3), (0, .class_ 4), (0, .nameAndType 5 6), (0, u "java/lang/Record"), (0, u "<init>"), (0, u "()V"), (0, .methodref 8 9), (0, .class_ 10), (0, .nameAndType 11 12), (0, u "com/example/khamsin/khamsin/map/Hex"), (0, u "isOnGrid"), (0, u "(II)Z"), (27, .fieldref 8 41), (0, .nameAndType 42 43), (0, u "column"), (0, u "I"), (0, .fieldref 8 45), (0, .nameAndType 46 43), (0, u "row"), (16, u "(II)V"), (23, .class_ 88), (0, u "java/lang/Comparable"), (0, .class_ 90), (0, u "com/example/khamsin/khamsin/map/Place"), (0, u "MAX"), (10, u "equals"), (0, u "(Ljava/lang/Object;)Z")] 11

def k5c0 : Code := { maxStack := 8, maxLocals := 3, code := prog_33_method_1_code, exceptionTable := #[], attributes := #[] }
def k5m0 : Method := { name := "<init>", desc := "(II)V", sig := { parameters := [.int, .int], returnType := none }, accessFlags := 1, code := some k5c0 }
def k5c1 : Code := { maxStack := 2, maxLocals := 2, code := prog_33_method_3_code, exceptionTable := #[], attributes := #[] }
def k5m1 : Method := { name := "isOnGrid", desc := "(II)Z", sig := { parameters := [.int, .int], returnType := some .boolean }, accessFlags := 8, code := some k5c1 }
def k5c2 : Code := { maxStack := 2, maxLocals := 3, code := prog_33_method_5_code, exceptionTable := #[], attributes := #[] }
def k5m2 : Method := { name := "equals", desc := "(Ljava/lang/Object;)Z", sig := { parameters := [(.object "java/lang/Object")], returnType := some .boolean }, accessFlags := 1, code := some k5c2 }
/-- com/example/khamsin/khamsin/map/Hex -/
def k5 : Class := { plain "com/example/khamsin/khamsin/map/Hex" (some 2) with
  accessFlags := 49
  interfaces := #[3, 4]
  cf := some (fileOf pool5 8 #[] #[{ accessFlags := 1, nameIndex := 5, descriptorIndex := 63, attributes := #[] }, { accessFlags := 8, nameIndex := 11, descriptorIndex := 12, attributes := #[] }, { accessFlags := 1, nameIndex := 102, descriptorIndex := 103, attributes := #[] }] 49 2 #[87, 89] #[{ accessFlags := 18, nameIndex := 42, descriptorIndex := 43, attributes := #[] }, { accessFlags := 18, nameIndex := 46, descriptorIndex := 43, attributes := #[] }, { accessFlags := 25, nameIndex := 91, descriptorIndex := 43, attributes := #[] }])
  fields := #[{ name := "column", type := .int, accessFlags := 18, slot := 0, constantValue := 0 }, { name := "row", type := .int, accessFlags := 18, slot := 1, constantValue := 0 }, { name := "MAX", type := .int, accessFlags := 25, slot := 0, constantValue := 0 }]
  methods := #[k5m0, k5m1, k5m2]
  instanceTypes := #[.int, .int]
  staticTypes := #[.int]
  resolved := Array.replicate 115 none
  statics := none }

def pool6 : Array CpInfo := pool [(1, .class_ 2), (0, u "java/io/Serializable"), (0, .class_ 4), (0, u "java/lang/Object")] 2

/-- java/io/Serializable -/
def k6 : Class := { plain "java/io/Serializable" (some 0) with
  accessFlags := 1537
  interfaces := #[]
  cf := some (fileOf pool6 1 #[] #[] 1537 3 #[] #[])
  fields := #[]
  methods := #[]
  instanceTypes := #[]
  staticTypes := #[]
  resolved := Array.replicate 7 none
  statics := none }

def pool7 : Array CpInfo := pool [(2, .class_ 4), (1, u "java/lang/CharSequence"), (42, .class_ 48), (0, u "java/lang/CharSequence$1CodePointIterator"), (10, .class_ 60), (0, u "java/lang/CharSequence$1CharIterator"), (5, .class_ 67), (0, u "java/lang/Object")] 63

/-- java/lang/CharSequence -/
def k7 : Class := { plain "java/lang/CharSequence" (some 0) with
  accessFlags := 1537
  interfaces := #[]
  cf := some (fileOf pool7 2 #[.nestMembers #[47, 59]] #[] 1537 66 #[] #[])
  fields := #[]
  methods := #[]
  instanceTypes := #[]
  staticTypes := #[]
  resolved := Array.replicate 131 none
  statics := none }

def pool8 : Array CpInfo := pool [(1, .class_ 2), (0, u "java/lang/constant/Constable"), (0, .class_ 4), (0, u "java/lang/Object")] 6

/-- java/lang/constant/Constable -/
def k8 : Class := { plain "java/lang/constant/Constable" (some 0) with
  accessFlags := 1537
  interfaces := #[]
  cf := some (fileOf pool8 1 #[] #[] 1537 3 #[] #[])
  fields := #[]
  methods := #[]
  instanceTypes := #[]
  staticTypes := #[]
  resolved := Array.replicate 11 none
  statics := none }

def pool9 : Array CpInfo := pool [(1, .class_ 2), (0, u "java/lang/constant/ConstantDesc"), (0, .class_ 4), (0, u "java/lang/Object")] 32

/-- java/lang/constant/ConstantDesc -/
def k9 : Class := { plain "java/lang/constant/ConstantDesc" (some 0) with
  accessFlags := 1537
  interfaces := #[]
  cf := some (fileOf pool9 1 #[] #[] 1537 3 #[] #[])
  fields := #[]
  methods := #[]
  instanceTypes := #[]
  staticTypes := #[]
  resolved := Array.replicate 37 none
  statics := none }

def pool10 : Array CpInfo := pool [(1, .methodref 2 3), (0, .class_ 4), (0, .nameAndType 5 6), (0, u "java/lang/Object"), (0, u "<init>"), (0, u "()V"), (2, .fieldref 10 11), (0, .class_ 12), (0, .nameAndType 13 14), (0, u "java/lang/String"), (0, u "value"), (0, u "[B"), (0, .fieldref 10 16), (0, .nameAndType 17 18), (0, u "coder"), (0, u "B"), (2, u "hash"), (0, u "I"), (2, u "hashIsZero"), (0, u "Z"), (0, .methodref 10 28), (0, .nameAndType 5 29), (0, u "([CIILjava/lang/Void;)V"), (8, .fieldref 10 39), (0, .nameAndType 40 26), (0, u "COMPACT_STRINGS"), (1, .class_ 44), (1, u "java/lang/StringUTF16"), (0, u "compress"), (1, .methodref 42 48), (0, .nameAndType 49 50), (0, u "coderFromArrayLen"), (0, u "([BI)B"), (126, .methodref 42 178), (0, .nameAndType 45 179), (0, u "([CII)[B"), (395, .class_ 576), (0, u "java/lang/CharSequence"), (22, u "CASE_INSENSITIVE_ORDER"), (0, u "Ljava/util/Comparator;"), (409, u "([C)V"), (90, u "serialPersistentFields"), (0, u "[Ljava/io/ObjectStreamField;"), (0, .class_ 1104), (0, u "java/lang/String$CaseInsensitiveComparator"), (1, .class_ 1107), (0, u "java/io/Serializable"), (0, .class_ 1109), (0, u "java/lang/Comparable"), (0, .class_ 1111), (0, u "java/lang/constant/Constable"), (0, .class_ 1113), (0, u "java/lang/constant/ConstantDesc"), (2, u "serialVersionUID"), (0, u "J"), (3, u "REPL"), (0, u "C"), (2, u "LATIN1"), (1, u "UTF16")] 323

def k10m0 : Method := { name := "<init>", desc := "()V", sig := { parameters := [], returnType := none }, accessFlags := 1, code := none }
def k10c1 : Code := { maxStack := 5, maxLocals := 2, code := jdk_42_method_3_code, exceptionTable := #[], attributes := #[] }
def k10m1 : Method := { name := "<init>", desc := "([C)V", sig := { parameters := [(.array .char)], returnType := none }, accessFlags := 1, code := some k10c1 }
def k10c2 : Code := { maxStack := 4, maxLocals := 6, code := jdk_42_method_149_code, exceptionTable := #[], attributes := #[] }
def k10m2 : Method := { name := "<init>", desc := "([CIILjava/lang/Void;)V", sig := { parameters := [(.array .char), .int, .int, (.object "java/lang/Void")], returnType := none }, accessFlags := 2, code := some k10c2 }
/-- java/lang/String -/
def k10 : Class := { plain "java/lang/String" (some 0) with
  accessFlags := 49
  interfaces := #[6, 3, 7, 8, 9]
  cf := some (fileOf pool10 10 #[.nestMembers #[1103]] #[{ accessFlags := 1, nameIndex := 5, descriptorIndex := 6, attributes := #[] }, { accessFlags := 1, nameIndex := 5, descriptorIndex := 1010, attributes := #[] }, { accessFlags := 2, nameIndex := 5, descriptorIndex := 29, attributes := #[] }] 49 2 #[1106, 1108, 575, 1110, 1112] #[{ accessFlags := 18, nameIndex := 13, descriptorIndex := 14, attributes := #[] }, { accessFlags := 18, nameIndex := 17, descriptorIndex := 18, attributes := #[] }, { accessFlags := 2, nameIndex := 21, descriptorIndex := 22, attributes := #[] }, { accessFlags := 2, nameIndex := 25, descriptorIndex := 26, attributes := #[] }, { accessFlags := 26, nameIndex := 1116, descriptorIndex := 1117, attributes := #[] }, { accessFlags := 24, nameIndex := 40, descriptorIndex := 26, attributes := #[] }, { accessFlags := 26, nameIndex := 1101, descriptorIndex := 1102, attributes := #[] }, { accessFlags := 26, nameIndex := 1121, descriptorIndex := 1122, attributes := #[] }, { accessFlags := 25, nameIndex := 599, descriptorIndex := 600, attributes := #[] }, { accessFlags := 24, nameIndex := 1125, descriptorIndex := 18, attributes := #[] }, { accessFlags := 24, nameIndex := 1127, descriptorIndex := 18, attributes := #[] }])
  fields := #[{ name := "value", type := (.array .byte), accessFlags := 18, slot := 0, constantValue := 0 }, { name := "coder", type := .byte, accessFlags := 18, slot := 1, constantValue := 0 }, { name := "hash", type := .int, accessFlags := 2, slot := 2, constantValue := 0 }, { name := "hashIsZero", type := .boolean, accessFlags := 2, slot := 3, constantValue := 0 }, { name := "serialVersionUID", type := .long, accessFlags := 26, slot := 0, constantValue := 0 }, { name := "COMPACT_STRINGS", type := .boolean, accessFlags := 24, slot := 1, constantValue := 0 }, { name := "serialPersistentFields", type := (.array (.object "java/io/ObjectStreamField")), accessFlags := 26, slot := 2, constantValue := 0 }, { name := "REPL", type := .char, accessFlags := 26, slot := 3, constantValue := 0 }, { name := "CASE_INSENSITIVE_ORDER", type := (.object "java/util/Comparator"), accessFlags := 25, slot := 4, constantValue := 0 }, { name := "LATIN1", type := .byte, accessFlags := 24, slot := 5, constantValue := 0 }, { name := "UTF16", type := .byte, accessFlags := 24, slot := 6, constantValue := 0 }]
  methods := #[k10m0, k10m1, k10m2]
  instanceTypes := #[(.array .byte), .byte, .int, .boolean]
  staticTypes := #[.long, .boolean, (.array (.object "java/io/ObjectStreamField")), .char, (.object "java/util/Comparator"), .byte, .byte]
  resolved := Array.replicate 1451 none
  statics := some 0 }

def pool11 : Array CpInfo := pool [(6, .class_ 8), (1, u "java/lang/Object"), (0, u "<init>"), (0, u "()V"), (1, .class_ 14), (1, u "java/lang/StringUTF16"), (31, u "$assertionsDisabled"), (0, u "Z"), (13, u "HI_BYTE_SHIFT"), (0, u "I"), (2, u "LO_BYTE_SHIFT"), (49, .methodref 12 116), (0, .nameAndType 117 118), (0, u "compress"), (0, u "([CI[BII)I"), (3, u "([CII)[B"), (138, u "coderFromArrayLen"), (0, u "([BI)B"), (106, .class_ 371), (1, u "java/lang/StringUTF16$LinesSpliterator"), (58, u "MAX_LENGTH"), (196, .class_ 628), (0, u "java/lang/StringUTF16$CodePointsSpliterator"), (0, .class_ 630), (0, u "java/lang/StringUTF16$CharsSpliterator")] 4

def k11m0 : Method := { name := "<init>", desc := "()V", sig := { parameters := [], returnType := none }, accessFlags := 0, code := none }
def k11c1 : Code := { maxStack := 2, maxLocals := 2, code := jdk_52_method_15_code, exceptionTable := #[], attributes := #[] }
def k11m1 : Method := { name := "coderFromArrayLen", desc := "([BI)B", sig := { parameters := [(.array .byte), .int], returnType := some .byte }, accessFlags := 8, code := some k11c1 }
def k11c2 : Code := { maxStack := 5, maxLocals := 6, code := jdk_52_method_16_code, exceptionTable := #[], attributes := #[] }
def k11m2 : Method := { name := "compress", desc := "([CII)[B", sig := { parameters := [(.array .char), .int, .int], returnType := some (.array .byte) }, accessFlags := 9, code := some k11c2 }
def k11c3 : Code := { maxStack := 3, maxLocals := 7, code := jdk_52_method_21_code, exceptionTable := #[], attributes := #[] }
def k11m3 : Method := { name := "compress", desc := "([CI[BII)I", sig := { parameters := [(.array .char), .int, (.array .byte), .int, .int], returnType := some .int }, accessFlags := 9, code := some k11c3 }
/-- java/lang/StringUTF16 -/
def k11 : Class := { plain "java/lang/StringUTF16" (some 0) with
  accessFlags := 48
  interfaces := #[]
  cf := some (fileOf pool11 12 #[.nestMembers #[627, 629, 369]] #[{ accessFlags := 0, nameIndex := 9, descriptorIndex := 10, attributes := #[] }, { accessFlags := 8, nameIndex := 261, descriptorIndex := 262, attributes := #[] }, { accessFlags := 9, nameIndex := 117, descriptorIndex := 122, attributes := #[] }, { accessFlags := 9, nameIndex := 117, descriptorIndex := 118, attributes := #[] }] 48 6 #[] #[{ accessFlags := 26, nameIndex := 61, descriptorIndex := 62, attributes := #[] }, { accessFlags := 26, nameIndex := 65, descriptorIndex := 62, attributes := #[] }, { accessFlags := 24, nameIndex := 430, descriptorIndex := 62, attributes := #[] }, { accessFlags := 4120, nameIndex := 46, descriptorIndex := 47, attributes := #[] }])
  fields := #[{ name := "HI_BYTE_SHIFT", type := .int, accessFlags := 26, slot := 0, constantValue := 0 }, { name := "LO_BYTE_SHIFT", type := .int, accessFlags := 26, slot := 1, constantValue := 0 }, { name := "MAX_LENGTH", type := .int, accessFlags := 24, slot := 2, constantValue := 0 }, { name := "$assertionsDisabled", type := .boolean, accessFlags := 4120, slot := 3, constantValue := 0 }]
  methods := #[k11m0, k11m1, k11m2, k11m3]
  instanceTypes := #[]
  staticTypes := #[.int, .int, .int, .boolean]
  resolved := Array.replicate 635 none
  statics := none }

def pool12 : Array CpInfo := pool [(2, .class_ 4), (1, u "java/lang/Enum"), (0, u "name"), (0, u "Ljava/lang/String;"), (2, u "ordinal"), (0, u "I"), (1, .class_ 14), (1, u "java/lang/Object"), (4, u "hash"), (86, .class_ 108), (1, u "java/lang/Enum$EnumDesc"), (2, .class_ 112), (0, u "java/lang/constant/Constable"), (0, .class_ 114), (0, u "java/lang/Comparable"), (0, .class_ 116), (0, u "java/io/Serializable")] 87

/-- java/lang/Enum -/
def k12 : Class := { plain "java/lang/Enum" (some 0) with
  accessFlags := 1057
  interfaces := #[8, 3, 6]
  cf := some (fileOf pool12 2 #[.nestMembers #[106]] #[] 1057 12 #[111, 113, 115] #[{ accessFlags := 18, nameIndex := 5, descriptorIndex := 6, attributes := #[] }, { accessFlags := 18, nameIndex := 9, descriptorIndex := 10, attributes := #[] }, { accessFlags := 2, nameIndex := 19, descriptorIndex := 10, attributes := #[] }])
  fields := #[{ name := "name", type := (.object "java/lang/String"), accessFlags := 18, slot := 0, constantValue := 0 }, { name := "ordinal", type := .int, accessFlags := 18, slot := 1, constantValue := 0 }, { name := "hash", type := .int, accessFlags := 2, slot := 2, constantValue := 0 }]
  methods := #[]
  instanceTypes := #[(.object "java/lang/String"), .int, .int]
  staticTypes := #[]
  resolved := Array.replicate 204 none
  statics := none }

def pool13 : Array CpInfo := pool [(1, .class_ 2), (0, u "com/example/khamsin/khamsin/map/Edge"), (2, u "WEST"), (0, u "Lcom/example/khamsin/khamsin/map/Edge;"), (2, u "EAST"), (2, u "NORTH"), (2, u "SOUTH"), (2, u "$VALUES"), (0, u "[Lcom/example/khamsin/khamsin/map/Edge;"), (6, .class_ 28), (1, u "java/lang/Enum"), (8, u "word"), (0, u "Ljava/lang/String;"), (66, .class_ 106), (0, u "com/example/khamsin/khamsin/map/Place")] 49

/-- com/example/khamsin/khamsin/map/Edge -/
def k13 : Class := { plain "com/example/khamsin/khamsin/map/Edge" (some 12) with
  accessFlags := 16433
  interfaces := #[4]
  cf := some (fileOf pool13 1 #[] #[] 16433 26 #[105] #[{ accessFlags := 16409, nameIndex := 5, descriptorIndex := 6, attributes := #[] }, { accessFlags := 16409, nameIndex := 9, descriptorIndex := 6, attributes := #[] }, { accessFlags := 16409, nameIndex := 12, descriptorIndex := 6, attributes := #[] }, { accessFlags := 16409, nameIndex := 15, descriptorIndex := 6, attributes := #[] }, { accessFlags := 18, nameIndex := 37, descriptorIndex := 38, attributes := #[] }, { accessFlags := 4122, nameIndex := 18, descriptorIndex := 19, attributes := #[] }])
  fields := #[{ name := "WEST", type := (.object "com/example/khamsin/khamsin/map/Edge"), accessFlags := 16409, slot := 0, constantValue := 0 }, { name := "EAST", type := (.object "com/example/khamsin/khamsin/map/Edge"), accessFlags := 16409, slot := 1, constantValue := 0 }, { name := "NORTH", type := (.object "com/example/khamsin/khamsin/map/Edge"), accessFlags := 16409, slot := 2, constantValue := 0 }, { name := "SOUTH", type := (.object "com/example/khamsin/khamsin/map/Edge"), accessFlags := 16409, slot := 3, constantValue := 0 }, { name := "word", type := (.object "java/lang/String"), accessFlags := 18, slot := 3, constantValue := 0 }, { name := "$VALUES", type := (.array (.object "com/example/khamsin/khamsin/map/Edge")), accessFlags := 4122, slot := 4, constantValue := 0 }]
  methods := #[]
  instanceTypes := #[(.object "java/lang/String"), .int, .int, (.object "java/lang/String")]
  staticTypes := #[(.object "com/example/khamsin/khamsin/map/Edge"), (.object "com/example/khamsin/khamsin/map/Edge"), (.object "com/example/khamsin/khamsin/map/Edge"), (.object "com/example/khamsin/khamsin/map/Edge"), (.array (.object "com/example/khamsin/khamsin/map/Edge"))]
  resolved := Array.replicate 156 none
  statics := some 1 }

def pool14 : Array CpInfo := pool [(4, .class_ 6), (1, u "java/lang/Object"), (0, u "<init>"), (0, u "()V"), (5, .class_ 16), (1, u "java/lang/StringLatin1"), (104, u "$assertionsDisabled"), (0, u "Z"), (98, .class_ 223), (1, u "java/lang/StringLatin1$LinesSpliterator"), (166, .class_ 391), (0, u "java/lang/StringLatin1$CharsSpliterator")] 3

def k14m0 : Method := { name := "<init>", desc := "()V", sig := { parameters := [], returnType := none }, accessFlags := 0, code := none }
/-- java/lang/StringLatin1 -/
def k14 : Class := { plain "java/lang/StringLatin1" (some 0) with
  accessFlags := 48
  interfaces := #[]
  cf := some (fileOf pool14 14 #[.nestMembers #[390, 221]] #[{ accessFlags := 0, nameIndex := 7, descriptorIndex := 8, attributes := #[] }] 48 4 #[] #[{ accessFlags := 4120, nameIndex := 121, descriptorIndex := 122, attributes := #[] }])
  fields := #[{ name := "$assertionsDisabled", type := .boolean, accessFlags := 4120, slot := 0, constantValue := 0 }]
  methods := #[k14m0]
  instanceTypes := #[]
  staticTypes := #[.boolean]
  resolved := Array.replicate 395 none
  statics := none }

def pool15 : Array CpInfo := pool [(2, .class_ 4), (1, u "java/lang/Object"), (0, u "<init>"), (0, u "()V"), (17, .class_ 26), (1, u "jdk/internal/util/Preconditions"), (28, .class_ 56), (0, u "jdk/internal/util/Preconditions$4"), (57, .class_ 115), (0, u "jdk/internal/util/Preconditions$1"), (7, u "SIOOBE_FORMATTER"), (0, u "Ljava/util/function/BiFunction;"), (0, .class_ 126), (0, u "jdk/internal/util/Preconditions$2"), (3, u "AIOOBE_FORMATTER"), (0, .class_ 132), (0, u "jdk/internal/util/Preconditions$3"), (3, u "IOOBE_FORMATTER")] 57

def k15m0 : Method := { name := "<init>", desc := "()V", sig := { parameters := [], returnType := none }, accessFlags := 1, code := none }
/-- jdk/internal/util/Preconditions -/
def k15 : Class := { plain "jdk/internal/util/Preconditions" (some 0) with
  accessFlags := 33
  interfaces := #[]
  cf := some (fileOf pool15 24 #[.nestMembers #[55, 131, 125, 114]] #[{ accessFlags := 1, nameIndex := 5, descriptorIndex := 6, attributes := #[] }] 33 2 #[] #[{ accessFlags := 25, nameIndex := 123, descriptorIndex := 124, attributes := #[] }, { accessFlags := 25, nameIndex := 130, descriptorIndex := 124, attributes := #[] }, { accessFlags := 25, nameIndex := 136, descriptorIndex := 124, attributes := #[] }])
  fields := #[{ name := "SIOOBE_FORMATTER", type := (.object "java/util/function/BiFunction"), accessFlags := 25, slot := 0, constantValue := 0 }, { name := "AIOOBE_FORMATTER", type := (.object "java/util/function/BiFunction"), accessFlags := 25, slot := 1, constantValue := 0 }, { name := "IOOBE_FORMATTER", type := (.object "java/util/function/BiFunction"), accessFlags := 25, slot := 2, constantValue := 0 }]
  methods := #[k15m0]
  instanceTypes := #[]
  staticTypes := #[(.object "java/util/function/BiFunction"), (.object "java/util/function/BiFunction"), (.object "java/util/function/BiFunction")]
  resolved := Array.replicate 194 none
  statics := some 2 }

def pool16 : Array CpInfo := pool [(9, u "<init>"), (6, .class_ 18), (1, u "java/lang/Object"), (0, u "()V"), (1, .class_ 23), (1, u "jdk/internal/util/ArraysSupport"), (0, u "LOG2_ARRAY_LONG_INDEX_SCALE"), (0, u "I"), (2, u "U"), (0, u "Ljdk/internal/misc/Unsafe;"), (8, u "BIG_ENDIAN"), (0, u "Z"), (8, u "LOG2_BYTE_BIT_SIZE"), (4, u "LOG2_ARRAY_INT_INDEX_SCALE"), (54, u "JLA"), (0, u "Ljdk/internal/access/JavaLangAccess;"), (11, u "LOG2_ARRAY_BOOLEAN_INDEX_SCALE"), (9, u "LOG2_ARRAY_BYTE_INDEX_SCALE"), (5, u "LOG2_ARRAY_CHAR_INDEX_SCALE"), (5, u "LOG2_ARRAY_SHORT_INDEX_SCALE"), (18, u "LOG2_ARRAY_FLOAT_INDEX_SCALE"), (24, u "LOG2_ARRAY_DOUBLE_INDEX_SCALE"), (89, u "T_BOOLEAN"), (2, u "T_CHAR"), (1, u "T_FLOAT"), (1, u "T_DOUBLE"), (1, u "T_BYTE"), (1, u "T_SHORT"), (1, u "T_INT"), (1, u "T_LONG"), (1, u "SOFT_MAX_ARRAY_LENGTH")] 83

def k16m0 : Method := { name := "<init>", desc := "()V", sig := { parameters := [], returnType := none }, accessFlags := 2, code := none }
/-- jdk/internal/util/ArraysSupport -/
def k16 : Class := { plain "jdk/internal/util/ArraysSupport" (some 0) with
  accessFlags := 33
  interfaces := #[]
  cf := some (fileOf pool16 21 #[] #[{ accessFlags := 2, nameIndex := 9, descriptorIndex := 19, attributes := #[] }] 33 16 #[] #[{ accessFlags := 24, nameIndex := 28, descriptorIndex := 29, attributes := #[] }, { accessFlags := 26, nameIndex := 38, descriptorIndex := 39, attributes := #[] }, { accessFlags := 25, nameIndex := 121, descriptorIndex := 25, attributes := #[] }, { accessFlags := 25, nameIndex := 131, descriptorIndex := 25, attributes := #[] }, { accessFlags := 25, nameIndex := 137, descriptorIndex := 25, attributes := #[] }, { accessFlags := 25, nameIndex := 143, descriptorIndex := 25, attributes := #[] }, { accessFlags := 25, nameIndex := 53, descriptorIndex := 25, attributes := #[] }, { accessFlags := 25, nameIndex := 24, descriptorIndex := 25, attributes := #[] }, { accessFlags := 25, nameIndex := 162, descriptorIndex := 25, attributes := #[] }, { accessFlags := 25, nameIndex := 187, descriptorIndex := 25, attributes := #[] }, { accessFlags := 26, nameIndex := 48, descriptorIndex := 25, attributes := #[] }, { accessFlags := 25, nameIndex := 277, descriptorIndex := 25, attributes := #[] }, { accessFlags := 25, nameIndex := 280, descriptorIndex := 25, attributes := #[] }, { accessFlags := 25, nameIndex := 282, descriptorIndex := 25, attributes := #[] }, { accessFlags := 25, nameIndex := 284, descriptorIndex := 25, attributes := #[] }, { accessFlags := 25, nameIndex := 286, descriptorIndex := 25, attributes := #[] }, { accessFlags := 25, nameIndex := 288, descriptorIndex := 25, attributes := #[] }, { accessFlags := 25, nameIndex := 290, descriptorIndex := 25, attributes := #[] }, { accessFlags := 25, nameIndex := 292, descriptorIndex := 25, attributes := #[] }, { accessFlags := 26, nameIndex := 108, descriptorIndex := 109, attributes := #[] }, { accessFlags := 25, nameIndex := 294, descriptorIndex := 25, attributes := #[] }])
  fields := #[{ name := "U", type := (.object "jdk/internal/misc/Unsafe"), accessFlags := 24, slot := 0, constantValue := 0 }, { name := "BIG_ENDIAN", type := .boolean, accessFlags := 26, slot := 1, constantValue := 0 }, { name := "LOG2_ARRAY_BOOLEAN_INDEX_SCALE", type := .int, accessFlags := 25, slot := 2, constantValue := 0 }, { name := "LOG2_ARRAY_BYTE_INDEX_SCALE", type := .int, accessFlags := 25, slot := 3, constantValue := 0 }, { name := "LOG2_ARRAY_CHAR_INDEX_SCALE", type := .int, accessFlags := 25, slot := 4, constantValue := 0 }, { name := "LOG2_ARRAY_SHORT_INDEX_SCALE", type := .int, accessFlags := 25, slot := 5, constantValue := 0 }, { name := "LOG2_ARRAY_INT_INDEX_SCALE", type := .int, accessFlags := 25, slot := 6, constantValue := 0 }, { name := "LOG2_ARRAY_LONG_INDEX_SCALE", type := .int, accessFlags := 25, slot := 7, constantValue := 0 }, { name := "LOG2_ARRAY_FLOAT_INDEX_SCALE", type := .int, accessFlags := 25, slot := 8, constantValue := 0 }, { name := "LOG2_ARRAY_DOUBLE_INDEX_SCALE", type := .int, accessFlags := 25, slot := 9, constantValue := 0 }, { name := "LOG2_BYTE_BIT_SIZE", type := .int, accessFlags := 26, slot := 10, constantValue := 0 }, { name := "T_BOOLEAN", type := .int, accessFlags := 25, slot := 11, constantValue := 0 }, { name := "T_CHAR", type := .int, accessFlags := 25, slot := 12, constantValue := 0 }, { name := "T_FLOAT", type := .int, accessFlags := 25, slot := 13, constantValue := 0 }, { name := "T_DOUBLE", type := .int, accessFlags := 25, slot := 14, constantValue := 0 }, { name := "T_BYTE", type := .int, accessFlags := 25, slot := 15, constantValue := 0 }, { name := "T_SHORT", type := .int, accessFlags := 25, slot := 16, constantValue := 0 }, { name := "T_INT", type := .int, accessFlags := 25, slot := 17, constantValue := 0 }, { name := "T_LONG", type := .int, accessFlags := 25, slot := 18, constantValue := 0 }, { name := "JLA", type := (.object "jdk/internal/access/JavaLangAccess"), accessFlags := 26, slot := 19, constantValue := 0 }, { name := "SOFT_MAX_ARRAY_LENGTH", type := .int, accessFlags := 25, slot := 20, constantValue := 0 }]
  methods := #[k16m0]
  instanceTypes := #[]
  staticTypes := #[(.object "jdk/internal/misc/Unsafe"), .boolean, .int, .int, .int, .int, .int, .int, .int, .int, .int, .int, .int, .int, .int, .int, .int, .int, .int, (.object "jdk/internal/access/JavaLangAccess"), .int]
  resolved := Array.replicate 378 none
  statics := none }

def pool17 : Array CpInfo := pool [(1, u "java/lang/Cloneable"), (0, .class_ 1), (0, u "java/lang/Object"), (0, .class_ 3)] 3

/-- java/lang/Cloneable -/
def k17 : Class := { plain "java/lang/Cloneable" (some 0) with
  accessFlags := 1537
  interfaces := #[]
  cf := some (fileOf pool17 2 #[] #[] 1537 4 #[] #[])
  fields := #[]
  methods := #[]
  instanceTypes := #[]
  staticTypes := #[]
  resolved := Array.replicate 8 none
  statics := none }

/-- the primitive byte -/
def k18 : Class := { plain "byte" none with kind := .primitive 'B', accessFlags := 0x411 }
/-- [B -/
def k19 : Class := { plain "[B" (some 0) with kind := .array 18 .byte, interfaces := #[17, 6], accessFlags := 1041 }

/-- the primitive char -/
def k20 : Class := { plain "char" none with kind := .primitive 'C', accessFlags := 0x411 }
/-- [C -/
def k21 : Class := { plain "[C" (some 0) with kind := .array 20 .char, interfaces := #[17, 6], accessFlags := 1041 }

/-- the primitive int -/
def k22 : Class := { plain "int" none with kind := .primitive 'I', accessFlags := 0x411 }
/-- [I -/
def k23 : Class := { plain "[I" (some 0) with kind := .array 22 .int, interfaces := #[17, 6], accessFlags := 1041 }

def heap : Heap := #[{ cls := 10, slots := #[.long 0, .int 1, .null, .int 0, .null, .int 0, .int 0], vm := .statics 10 },
  { cls := 13, slots := #[.ref 3, .ref 4, .ref 5, .ref 6, .null], vm := .statics 13 },
  { cls := 15, slots := #[.null, .null, .null], vm := .statics 15 },
  { cls := 13, slots := #[.null, .int 0, .int 0, .null], vm := .none },
  { cls := 13, slots := #[.null, .int 1, .int 0, .null], vm := .none },
  { cls := 13, slots := #[.null, .int 2, .int 0, .null], vm := .none },
  { cls := 13, slots := #[.null, .int 3, .int 0, .null], vm := .none }]
def classes : Array Class := #[k0, k1, k2, k3, k4, k5, k6, k7, k8, k9, k10, k11, k12, k13, k14, k15, k16, k17, k18, k19, k20, k21, k22, k23]
def interned : List (Array UInt16 × Addr) := []
def slotsUsed : Nat := 31
def theMethod : MethodId := ⟨1, 1⟩
def args0 : Array Value := #[.int 5, .int 5, .int 5, .int 5, .int 5]
def aboutOver (below : List Frame) : State where
  vm := { classes := classes, interned := interned.toArray }
  heap := heap
  slotsUsed := slotsUsed
  threads := #[{ frames := .invoking theMethod args0 :: below }]
def below0 : List Frame := [.native { method := ⟨0, 0⟩, args := #[] }]
def about1 : State := aboutOver below0
def p0 : Program := .bare "" "" ""
def e0 : Env := launch0.env 0 0 0
theorem w_frames : about1.frames = Frame.invoking theMethod args0 :: below0 := rfl
set_option maxRecDepth 65536 in
theorem w_args : argsFit about1.vm theMethod args0 = true := by decide +kernel
set_option maxRecDepth 65536 in
theorem w_heap : heapFits about1 = true := by decide +kernel
set_option maxRecDepth 65536 in
theorem w_runnable : about1.curStatus? = some .runnable := by decide +kernel
set_option maxRecDepth 65536 in
theorem w_alone : about1.alone = true := by decide +kernel
set_option maxRecDepth 65536 in
theorem w_named : about1.methodNamed? x = some theMethod := by decide +kernel
set_option maxRecDepth 65536 in
theorem w_hears : about1.hears theMethod below0 = true := by decide +kernel
set_option maxRecDepth 65536 in
theorem w_ripe : about1.ripe theMethod args0 below0 = true := by decide +kernel
theorem w_running : about1.status = .running := rfl
set_option maxRecDepth 65536 in
theorem w_room : about1.hasRoom e0.platform room_1 = true :=
  launch0.hasRoom_least _ room_1 (by decide +kernel) (by decide +kernel) (by decide +kernel) (by decide +kernel) (by decide +kernel) (by decide +kernel)
theorem allAtoms_all (ts : List Jvm.Cond) (a : Array Jvm.Value) (st : Jvm.State) : (allAtoms ts).before a st = ts.all (fun c => c.before a st) := by
  induction ts with
  | nil => rfl
  | cons c t ih =>
    show (Jvm.Cond.and c (allAtoms t)).before a st = _
    rw [Jvm.Cond.before_and, ih, List.all_cons]
def words1 : List Jvm.Cond := Jvm.Cond.code x code maxLocals ret :: tables_1
/-- a 'code' word, met by the world's own term for the bytes: nothing is compared byte by byte -/
theorem code_word {y : MethodName} {bytes : ByteArray} {mx : Nat} {rt : Option FieldType} {a : Array Value} {s : State} {m : MethodId} {meth : Method} {c : Code} (h1 : s.methodNamed? y = some m) (h2 : s.vm.method? m = some meth) (h3 : meth.code = some c) (h4 : c.code = bytes)
    (h5 : (c.maxLocals == mx && c.exceptionTable.isEmpty && decide (c.maxStack ≤ mostOperands) && decide (meth.sig.returnType = rt) && !meth.locks && decide (parseMethodDescriptor y.desc = some meth.sig)) = true) : (Jvm.Cond.code y bytes mx rt).before a s = true := by
  simp only [Bool.and_eq_true, beq_iff_eq, Bool.not_eq_true', decide_eq_true_eq] at h5
  obtain ⟨⟨⟨⟨⟨g1, g2⟩, g3⟩, g4⟩, g5⟩, g6⟩ := h5
  simp [Cond.before, Cond.holds, Cond.value, h1, h2, h3, h4, g1, g2, g3, g4, g5, g6]
def isCode : Jvm.Cond → Bool
  | .code _ _ _ _ => true
  | _ => false
theorem all_split {L : List Jvm.Cond} {P : Jvm.Cond → Bool} (h1 : L.all (fun c => isCode c || P c) = true) (h2 : ∀ c ∈ L.filter isCode, P c = true) : L.all P = true := by
  refine List.all_eq_true.mpr fun c hc => ?_
  have h := List.all_eq_true.mp h1 c hc
  rcases Bool.eq_false_or_eq_true (isCode c) with hi | hi
  · exact h2 c (List.mem_filter.mpr ⟨hc, hi⟩)
  · simpa [hi] using h
set_option maxRecDepth 65536 in
theorem w_c0 : (Jvm.Cond.code x code maxLocals ret).before args0 about1 = true := code_word (m := ⟨1, 1⟩) (meth := k1m1) (c := k1c1) (by decide +kernel) rfl rfl rfl (by decide +kernel)
set_option maxRecDepth 65536 in
theorem w_c1 : (Jvm.Cond.code ({ cls := "com/example/khamsin/khamsin/map/Hex", name := "<init>", desc := "(II)V" } : Jvm.MethodName) prog_33_method_1_code (3 : Nat) (Option.none : Option Jvm.ClassFile.FieldType)).before args0 about1 = true := code_word (m := ⟨5, 0⟩) (meth := k5m0) (c := k5c0) (by decide +kernel) rfl rfl rfl (by decide +kernel)
set_option maxRecDepth 65536 in
theorem w_c2 : (Jvm.Cond.code ({ cls := "java/lang/Record", name := "<init>", desc := "()V" } : Jvm.MethodName) jdk_30_method_1_code (1 : Nat) (Option.none : Option Jvm.ClassFile.FieldType)).before args0 about1 = true := code_word (m := ⟨2, 0⟩) (meth := k2m0) (c := k2c0) (by decide +kernel) rfl rfl rfl (by decide +kernel)
set_option maxRecDepth 65536 in
theorem w_c3 : (Jvm.Cond.code ({ cls := "java/lang/Object", name := "<init>", desc := "()V" } : Jvm.MethodName) object_method_1_code (1 : Nat) (Option.none : Option Jvm.ClassFile.FieldType)).before args0 about1 = true := code_word (m := ⟨0, 0⟩) (meth := k0m0) (c := k0c0) (by decide +kernel) rfl rfl rfl (by decide +kernel)
set_option maxRecDepth 65536 in
theorem w_c4 : (Jvm.Cond.code ({ cls := "com/example/khamsin/khamsin/map/Hex", name := "isOnGrid", desc := "(II)Z" } : Jvm.MethodName) prog_33_method_3_code (2 : Nat) (Option.some Jvm.ClassFile.FieldType.boolean)).before args0 about1 = true := code_word (m := ⟨5, 1⟩) (meth := k5m1) (c := k5c1) (by decide +kernel) rfl rfl rfl (by decide +kernel)
set_option maxRecDepth 65536 in
theorem w_c5 : (Jvm.Cond.code ({ cls := "java/lang/String", name := "<init>", desc := "([C)V" } : Jvm.MethodName) jdk_42_method_3_code (2 : Nat) (Option.none : Option Jvm.ClassFile.FieldType)).before args0 about1 = true := code_word (m := ⟨10, 1⟩) (meth := k10m1) (c := k10c1) (by decide +kernel) rfl rfl rfl (by decide +kernel)
set_option maxRecDepth 65536 in
theorem w_c6 : (Jvm.Cond.code ({ cls := "java/lang/String", name := "<init>", desc := "([CIILjava/lang/Void;)V" } : Jvm.MethodName) jdk_42_method_149_code (6 : Nat) (Option.none : Option Jvm.ClassFile.FieldType)).before args0 about1 = true := code_word (m := ⟨10, 2⟩) (meth := k10m2) (c := k10c2) (by decide +kernel) rfl rfl rfl (by decide +kernel)
set_option maxRecDepth 65536 in
theorem w_c7 : (Jvm.Cond.code ({ cls := "java/lang/StringUTF16", name := "compress", desc := "([CII)[B" } : Jvm.MethodName) jdk_52_method_16_code (6 : Nat) (Option.some (Jvm.ClassFile.FieldType.array Jvm.ClassFile.FieldType.byte))).before args0 about1 = true := code_word (m := ⟨11, 2⟩) (meth := k11m2) (c := k11c2) (by decide +kernel) rfl rfl rfl (by decide +kernel)
set_option maxRecDepth 65536 in
theorem w_c8 : (Jvm.Cond.code ({ cls := "java/lang/StringUTF16", name := "compress", desc := "([CI[BII)I" } : Jvm.MethodName) jdk_52_method_21_code (7 : Nat) (Option.some Jvm.ClassFile.FieldType.int)).before args0 about1 = true := code_word (m := ⟨11, 3⟩) (meth := k11m3) (c := k11c3) (by decide +kernel) rfl rfl rfl (by decide +kernel)
set_option maxRecDepth 65536 in
theorem w_c9 : (Jvm.Cond.code ({ cls := "java/lang/StringUTF16", name := "coderFromArrayLen", desc := "([BI)B" } : Jvm.MethodName) jdk_52_method_15_code (2 : Nat) (Option.some Jvm.ClassFile.FieldType.byte)).before args0 about1 = true := code_word (m := ⟨11, 1⟩) (meth := k11m1) (c := k11c1) (by decide +kernel) rfl rfl rfl (by decide +kernel)
set_option maxRecDepth 65536 in
theorem w_c10 : (Jvm.Cond.code ({ cls := "com/example/khamsin/khamsin/map/Hex", name := "equals", desc := "(Ljava/lang/Object;)Z" } : Jvm.MethodName) prog_33_method_5_code (3 : Nat) (Option.some Jvm.ClassFile.FieldType.boolean)).before args0 about1 = true := code_word (m := ⟨5, 2⟩) (meth := k5m2) (c := k5c2) (by decide +kernel) rfl rfl rfl (by decide +kernel)
def codes1 : List Jvm.Cond := [Jvm.Cond.code x code maxLocals ret, Jvm.Cond.code ({ cls := "com/example/khamsin/khamsin/map/Hex", name := "<init>", desc := "(II)V" } : Jvm.MethodName) prog_33_method_1_code (3 : Nat) (Option.none : Option Jvm.ClassFile.FieldType), Jvm.Cond.code ({ cls := "java/lang/Record", name := "<init>", desc := "()V" } : Jvm.MethodName) jdk_30_method_1_code (1 : Nat) (Option.none : Option Jvm.ClassFile.FieldType), Jvm.Cond.code ({ cls := "java/lang/Object", name := "<init>", desc := "()V" } : Jvm.MethodName) object_method_1_code (1 : Nat) (Option.none : Option Jvm.ClassFile.FieldType), Jvm.Cond.code ({ cls := "com/example/khamsin/khamsin/map/Hex", name := "isOnGrid", desc := "(II)Z" } : Jvm.MethodName) prog_33_method_3_code (2 : Nat) (Option.some Jvm.ClassFile.FieldType.boolean), Jvm.Cond.code ({ cls := "java/lang/String", name := "<init>", desc := "([C)V" } : Jvm.MethodName) jdk_42_method_3_code (2 : Nat) (Option.none : Option Jvm.ClassFile.FieldType), Jvm.Cond.code ({ cls := "java/lang/String", name := "<init>", desc := "([CIILjava/lang/Void;)V" } : Jvm.MethodName) jdk_42_method_149_code (6 : Nat) (Option.none : Option Jvm.ClassFile.FieldType), Jvm.Cond.code ({ cls := "java/lang/StringUTF16", name := "compress", desc := "([CII)[B" } : Jvm.MethodName) jdk_52_method_16_code (6 : Nat) (Option.some (Jvm.ClassFile.FieldType.array Jvm.ClassFile.FieldType.byte)), Jvm.Cond.code ({ cls := "java/lang/StringUTF16", name := "compress", desc := "([CI[BII)I" } : Jvm.MethodName) jdk_52_method_21_code (7 : Nat) (Option.some Jvm.ClassFile.FieldType.int), Jvm.Cond.code ({ cls := "java/lang/StringUTF16", name := "coderFromArrayLen", desc := "([BI)B" } : Jvm.MethodName) jdk_52_method_15_code (2 : Nat) (Option.some Jvm.ClassFile.FieldType.byte), Jvm.Cond.code ({ cls := "com/example/khamsin/khamsin/map/Hex", name := "equals", desc := "(Ljava/lang/Object;)Z" } : Jvm.MethodName) prog_33_method_5_code (3 : Nat) (Option.some Jvm.ClassFile.FieldType.boolean)]
set_option maxRecDepth 65536 in
theorem codes_eq : words1.filter isCode = codes1 := rfl
theorem w_codes : ∀ c ∈ words1.filter isCode, c.before args0 about1 = true := by
  rw [codes_eq]
  intro c hc
  simp only [codes1, List.mem_cons, List.not_mem_nil, or_false] at hc
  rcases hc with rfl | rfl | rfl | rfl | rfl | rfl | rfl | rfl | rfl | rfl | rfl
  · exact w_c0
  · exact w_c1
  · exact w_c2
  · exact w_c3
  · exact w_c4
  · exact w_c5
  · exact w_c6
  · exact w_c7
  · exact w_c8
  · exact w_c9
  · exact w_c10
set_option maxRecDepth 65536 in
theorem w_t1 : (words1.take 24).all (fun c => isCode c || c.before args0 about1) = true := by decide +kernel
set_option maxRecDepth 65536 in
theorem w_t2 : ((words1.drop 24).take 24).all (fun c => isCode c || c.before args0 about1) = true := by decide +kernel
set_option maxRecDepth 65536 in
theorem w_t3 : ((words1.drop 24).drop 24).all (fun c => isCode c || c.before args0 about1) = true := by decide +kernel
theorem w_tables : (allAtoms (Jvm.Cond.code x code maxLocals ret :: tables_1)).before args0 about1 = true := by
  rw [allAtoms_all]
  show words1.all (fun c => c.before args0 about1) = true
  refine all_split ?_ w_codes
  rw [← List.take_append_drop 24 words1, List.all_append, w_t1, ← List.take_append_drop 24 (words1.drop 24), List.all_append, w_t2, w_t3]
  rfl
set_option maxRecDepth 65536 in
theorem w_rest : rest_1_c.before args0 about1 = true := by decide +kernel
set_option maxRecDepth 65536 in
theorem w_case : (Jvm.Cond.and given_1 narrow_1).before args0 about1 = true := by decide +kernel
theorem w_applies : (headSpec (Jvm.Cond.code x code maxLocals ret :: tables_1) room_1).applies x e0.platform about1 = true :=
  (Spec.applies_iff w_frames).mpr ⟨w_running, w_runnable, w_alone, w_named, w_hears, w_ripe, w_room, w_tables⟩
theorem atStart : AtStart classFile x code maxLocals ret World_1 tables_1 room_1 Calls_1 rest_1 Pre_1 launch0 p0 e0 about1 theMethod args0 below0 :=
  ⟨lists_1, trivial, launch0.admits_env _ _ _, launch0.least_env, fairChoices_fair.cas, fairChoices_fair.clock, w_frames, w_args, w_heap, w_applies, trivial, w_rest, w_case⟩
end start1
theorem witness_1 : WitnessClaimed_1 := ⟨start1.p0, start1.e0, start1.about1, start1.theMethod, start1.args0, start1.below0, start1.atStart⟩
end Jvm.Pilot.@@N@@
