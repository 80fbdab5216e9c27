import JvmDerived
import JvmDerived.Pilot.@@N@@Statement
import JvmDerived.Pilot.@@N@@Code
set_option linter.unusedVariables false
set_option linter.unusedSimpArgs false
namespace Jvm.Pilot.@@N@@
open Jvm Jvm.ClassFile Sem Op Lib Jvm.Free Jvm.Stand Jvm.LawKit Jvm.RoadKit Bundle Jvm.Pilot.@@N@@.Jvm.D
section Own
variable {p : Program} {l : Launch} {e : Env} {R : Room} {s : State} {m : MethodId} {args : Array Value} {below : List Frame} {meth : Method} {c : Code} {T : State} {locs : List Loc} {cells slots : Nat}
/-- the goal of a walk, as seen from a state on its road -/
def Gl (p : Program) (e : Env) (below : List Frame) (K : Outcome → State → Prop) (A : State) : Prop := ∃ s₂ o, Steps p.tables e below A s₂ ∧ s₂.status = .running ∧ Ended s₂ below o ∧ K o s₂
theorem Gl.up {K : Outcome → State → Prop} {A B : State} (h : ∀ t, Steps p.tables e below B t → Steps p.tables e below A t) (k : Gl p e below K B) : Gl p e below K A := by
  obtain ⟨s2, o, h1, r⟩ := k
  exact ⟨s2, o, h _ h1, r⟩
/-- what a body leaves -/
def Ret (s : State) (rc rs : Nat) (Q : Option Value → Heap → List Loc → Prop) (o : Outcome) (U : State) : Prop := ∃ v L, o = .returned v ∧ Q v U.heap L ∧ FrameEnd s o U L rc rs
variable {rc rs : Nat} {Q : Option Value → Heap → List Loc → Prop} {pc : Nat} {Ls : Array Slot} {rest : List Value}
theorem Gl.retI (X : Stand p l e R s m args below meth c T locs cells slots) (hx : p.tables.exec = Jvm.exec) (hlk : meth.locks = false) {z : Int32} (hret : meth.sig.returnType = some .int) (hd : decode c.code pc = .ok (.ireturn, 1)) (hq : Q (some (.int z)) T.heap locs) (hc : cells ≤ rc) (hs : slots ≤ rs) :
    Gl p e below (Ret s rc rs Q) (T.setTop (mkF m pc Ls (.int z :: rest))) := by
  obtain ⟨fs, hr, hrun, hended, hW, hsame⟩ := X.leave (v := some (.int z)) (fun h => by rw [hret] at h; cases h) hlk
  exact ⟨_, _, retOut X hx hret rfl (Or.inl ⟨rfl, Or.inl rfl, z, rfl⟩) hd hr, hrun, hended, _, _, rfl, hq, ⟨_, rfl⟩, hW, hsame.mono hc hs⟩
theorem Gl.retJ (X : Stand p l e R s m args below meth c T locs cells slots) (hx : p.tables.exec = Jvm.exec) (hlk : meth.locks = false) {z : Int64} (hret : meth.sig.returnType = some .long) (hd : decode c.code pc = .ok (.lreturn, 1)) (hq : Q (some (.long z)) T.heap locs) (hc : cells ≤ rc) (hs : slots ≤ rs) :
    Gl p e below (Ret s rc rs Q) (T.setTop (mkF m pc Ls (.long z :: rest))) := by
  obtain ⟨fs, hr, hrun, hended, hW, hsame⟩ := X.leave (v := some (.long z)) (fun h => by rw [hret] at h; cases h) hlk
  exact ⟨_, _, retOut X hx hret rfl (Or.inr (Or.inl ⟨rfl, rfl, z, rfl⟩)) hd hr, hrun, hended, _, _, rfl, hq, ⟨_, rfl⟩, hW, hsame.mono hc hs⟩
theorem Gl.retN (X : Stand p l e R s m args below meth c T locs cells slots) (hx : p.tables.exec = Jvm.exec) (hlk : meth.locks = false) {z w : Int32} {t : FieldType} (hret : meth.sig.returnType = some t) (ht : t = .boolean ∨ t = .byte ∨ t = .char ∨ t = .short) (hd : decode c.code pc = .ok (.ireturn, 1)) (hn : nar t z = w) (hq : Q (some (.int w)) T.heap locs) (hc : cells ≤ rc) (hs : slots ≤ rs) :
    Gl p e below (Ret s rc rs Q) (T.setTop (mkF m pc Ls (.int z :: rest))) := by
  subst hn
  obtain ⟨fs, hr, hrun, hended, hW, hsame⟩ := X.leave (v := some (.int (nar t z))) (fun h => by rw [hret] at h; cases h) hlk
  exact ⟨_, _, Jvm.RoadKit.retN X hx hret ht hd hr, hrun, hended, _, _, rfl, hq, ⟨_, rfl⟩, hW, hsame.mono hc hs⟩
theorem Gl.ret0 (X : Stand p l e R s m args below meth c T locs cells slots) (hx : p.tables.exec = Jvm.exec) (hlk : meth.locks = false) (hret : meth.sig.returnType = none) (hd : decode c.code pc = .ok (.return_, 1)) (hq : Q none T.heap locs) (hc : cells ≤ rc) (hs : slots ≤ rs) :
    Gl p e below (Ret s rc rs Q) (T.setTop (mkF m pc Ls [])) := by
  obtain ⟨fs, hr, hrun, hended, hW, hsame⟩ := X.leave (v := none) (fun _ => rfl) hlk
  exact ⟨_, _, X.returnOut hx hret hd hr, hrun, hended, _, _, rfl, hq, ⟨_, rfl⟩, hW, hsame.mono hc hs⟩
theorem Gl.retR (X : Stand p l e R s m args below meth c T locs cells slots) (hx : p.tables.exec = Jvm.exec) (hlk : meth.locks = false) {v : Value} {t : FieldType} (hret : meth.sig.returnType = some t) (hd : decode c.code pc = .ok (.areturn, 1)) (ht : t.isReference = true) (hv : v.isRef = true) (hq : Q (some v) T.heap locs) (hc : cells ≤ rc) (hs : slots ≤ rs) :
    Gl p e below (Ret s rc rs Q) (T.setTop (mkF m pc Ls (v :: rest))) := by
  have hn : narrow t v = v := by cases t <;> first | rfl | (cases ht; done) | (cases v <;> first | rfl | (cases hv; done))
  obtain ⟨fs, hr, hrun, hended, hW, hsame⟩ := X.leave (v := some v) (fun h => by rw [hret] at h; cases h) hlk
  exact ⟨_, _, retOut X hx hret hn (Or.inr (Or.inr (Or.inr (Or.inr ⟨rfl, ht, hv⟩)))) hd hr, hrun, hended, _, _, rfl, hq, ⟨_, rfl⟩, hW, hsame.mono hc hs⟩
end Own
theorem own_widen {p : Program} {l : Launch} {e : Env} {R : Room} {s : State} {m : MethodId} {args : Array Value} {below : List Frame} {meth : Method} {c : Code} {T : State} {locs : List Loc} {cells slots cells' slots' : Nat} (X : Stand p l e R s m args below meth c T locs cells slots) (hc : cells ≤ cells') (hs : slots ≤ slots') : Stand p l e R s m args below meth c T locs cells' slots' := { X with same := X.same.mono hc hs }
theorem old_le {Z : State} {n0 : Nat} {h : Heap} (O : Old Z n0 h) : n0 ≤ h.size := by rw [← O.1]; exact O.2.1
theorem b01_ite {q : Prop} [Decidable q] {a b : Int32} (ha : a = 0 ∨ a = 1) (hb : b = 0 ∨ b = 1) : (if q then a else b) = 0 ∨ (if q then a else b) = 1 := by split <;> assumption
theorem nar_b01 {a : Int32} (h : a = 0 ∨ a = 1) : nar .boolean a = a := by rcases h with rfl | rfl <;> rfl
theorem fits_b01 {a : Int32} (h : a = 0 ∨ a = 1) : fits .boolean (.int a) = true := by rcases h with rfl | rfl <;> rfl
theorem own_fld {Z : State} {h : Heap} {a : Addr} {C n d : String} {v w : Value} (q : v = w) (F : Fld Z h a C n d v) : Fld Z h a C n d w := q ▸ F
theorem jc_lt_t {x y : Int64} (h : x < y) : ifCond.holds .lt (lcmpW x y) = true := (if0 _ _).trans (tlt ((lw_lt x y).mpr h)).1
theorem jc_lt_f {x y : Int64} (h : ¬ x < y) : ifCond.holds .lt (lcmpW x y) = false := (if0 _ _).trans (flt (fun q => h ((lw_lt x y).mp q))).1
theorem jc_ge_t {x y : Int64} (h : ¬ x < y) : ifCond.holds .ge (lcmpW x y) = true := (if0 _ _).trans (flt (fun q => h ((lw_lt x y).mp q))).2.1
theorem jc_ge_f {x y : Int64} (h : x < y) : ifCond.holds .ge (lcmpW x y) = false := (if0 _ _).trans (tlt ((lw_lt x y).mpr h)).2.1
theorem jc_gt_t {x y : Int64} (h : y < x) : ifCond.holds .gt (lcmpW x y) = true := (if0 _ _).trans (tlt ((lw_gt x y).mpr h)).2.2.1
theorem jc_gt_f {x y : Int64} (h : ¬ y < x) : ifCond.holds .gt (lcmpW x y) = false := (if0 _ _).trans (flt (fun q => h ((lw_gt x y).mp q))).2.2.1
theorem jc_le_t {x y : Int64} (h : ¬ y < x) : ifCond.holds .le (lcmpW x y) = true := (if0 _ _).trans (flt (fun q => h ((lw_gt x y).mp q))).2.2.2
theorem jc_le_f {x y : Int64} (h : y < x) : ifCond.holds .le (lcmpW x y) = false := (if0 _ _).trans (tlt ((lw_gt x y).mpr h)).2.2.2
theorem jc_eq_t {x y : Int64} (h : x = y) : ifCond.holds .eq (lcmpW x y) = true := (if0 _ _).trans (teq ((lw_eq x y).mpr h)).1
theorem jc_eq_f {x y : Int64} (h : ¬ x = y) : ifCond.holds .eq (lcmpW x y) = false := (if0 _ _).trans (feq (fun q => h ((lw_eq x y).mp q))).1
theorem jc_ne_t {x y : Int64} (h : ¬ x = y) : ifCond.holds .ne (lcmpW x y) = true := (if0 _ _).trans (feq (fun q => h ((lw_eq x y).mp q))).2
theorem jc_ne_f {x y : Int64} (h : x = y) : ifCond.holds .ne (lcmpW x y) = false := (if0 _ _).trans (teq ((lw_eq x y).mpr h)).2
theorem own_mapset (cs : List Int32) (i : Nat) (v : Int32) : (cs.map Value.int).set i (.int v) = (cs.set i v).map Value.int := (List.map_set).symm
theorem d1_0 : decode prog_20_method_1_code 0 = .ok (.aload_n 0, 1) := by decide +kernel
theorem d1_1 : decode prog_20_method_1_code 1 = .ok (.invokespecial 1, 3) := by decide +kernel
theorem d1_4 : decode prog_20_method_1_code 4 = .ok (.return_, 1) := by decide +kernel
theorem pn_com_example_gallant_courier_gallantcourier_core_LossRate : plainName "com/example/gallant_courier/gallantcourier/core/LossRate" = true := by first | (simp [plainName, overriddenIn]; done) | decide +kernel
theorem d2_0 : decode prog_20_method_2_code 0 = .ok (.aload_n 0, 1) := by decide +kernel
theorem d2_1 : decode prog_20_method_2_code 1 = .ok (.getfield 7, 3) := by decide +kernel
theorem d2_4 : decode prog_20_method_2_code 4 = .ok (.bipush 64, 2) := by decide +kernel
theorem d2_6 : decode prog_20_method_2_code 6 = .ok (.if_icmp .ge 13, 3) := by decide +kernel
theorem d2_9 : decode prog_20_method_2_code 9 = .ok (.aload_n 0, 1) := by decide +kernel
theorem d2_10 : decode prog_20_method_2_code 10 = .ok (.dup, 1) := by decide +kernel
theorem d2_11 : decode prog_20_method_2_code 11 = .ok (.getfield 7, 3) := by decide +kernel
theorem d2_14 : decode prog_20_method_2_code 14 = .ok (.iconst 1, 1) := by decide +kernel
theorem d2_15 : decode prog_20_method_2_code 15 = .ok (.iadd, 1) := by decide +kernel
theorem d2_16 : decode prog_20_method_2_code 16 = .ok (.putfield 7, 3) := by decide +kernel
theorem d2_19 : decode prog_20_method_2_code 19 = .ok (.aload_n 0, 1) := by decide +kernel
theorem d2_20 : decode prog_20_method_2_code 20 = .ok (.dup, 1) := by decide +kernel
theorem d2_21 : decode prog_20_method_2_code 21 = .ok (.getfield 13, 3) := by decide +kernel
theorem d2_24 : decode prog_20_method_2_code 24 = .ok (.iload_n 1, 1) := by decide +kernel
theorem d2_25 : decode prog_20_method_2_code 25 = .ok (.ifCond .eq 7, 3) := by decide +kernel
theorem d2_32 : decode prog_20_method_2_code 32 = .ok (.iconst 0, 1) := by decide +kernel
theorem d2_28 : decode prog_20_method_2_code 28 = .ok (.iconst 1, 1) := by decide +kernel
theorem d2_29 : decode prog_20_method_2_code 29 = .ok (.goto 4, 3) := by decide +kernel
theorem d2_33 : decode prog_20_method_2_code 33 = .ok (.i2d, 1) := by decide +kernel
theorem d2_34 : decode prog_20_method_2_code 34 = .ok (.aload_n 0, 1) := by decide +kernel
theorem d2_35 : decode prog_20_method_2_code 35 = .ok (.getfield 13, 3) := by decide +kernel
theorem d2_38 : decode prog_20_method_2_code 38 = .ok (.dsub, 1) := by decide +kernel
theorem d2_39 : decode prog_20_method_2_code 39 = .ok (.aload_n 0, 1) := by decide +kernel
theorem d2_40 : decode prog_20_method_2_code 40 = .ok (.getfield 7, 3) := by decide +kernel
theorem d2_43 : decode prog_20_method_2_code 43 = .ok (.i2d, 1) := by decide +kernel
theorem d2_44 : decode prog_20_method_2_code 44 = .ok (.ddiv, 1) := by decide +kernel
theorem d2_45 : decode prog_20_method_2_code 45 = .ok (.dadd, 1) := by decide +kernel
theorem d2_46 : decode prog_20_method_2_code 46 = .ok (.putfield 13, 3) := by decide +kernel
theorem d2_49 : decode prog_20_method_2_code 49 = .ok (.return_, 1) := by decide +kernel
theorem d3_0 : decode prog_20_method_3_code 0 = .ok (.dconst 1, 1) := by decide +kernel
theorem d3_1 : decode prog_20_method_3_code 1 = .ok (.dconst 1, 1) := by decide +kernel
theorem d3_2 : decode prog_20_method_3_code 2 = .ok (.aload_n 0, 1) := by decide +kernel
theorem d3_3 : decode prog_20_method_3_code 3 = .ok (.getfield 13, 3) := by decide +kernel
theorem d3_6 : decode prog_20_method_3_code 6 = .ok (.dsub, 1) := by decide +kernel
theorem d3_7 : decode prog_20_method_3_code 7 = .ok (.dconst 1, 1) := by decide +kernel
theorem d3_8 : decode prog_20_method_3_code 8 = .ok (.aload_n 0, 1) := by decide +kernel
theorem d3_9 : decode prog_20_method_3_code 9 = .ok (.getfield 13, 3) := by decide +kernel
theorem d3_12 : decode prog_20_method_3_code 12 = .ok (.dsub, 1) := by decide +kernel
theorem d3_13 : decode prog_20_method_3_code 13 = .ok (.dmul, 1) := by decide +kernel
theorem d3_14 : decode prog_20_method_3_code 14 = .ok (.dsub, 1) := by decide +kernel
theorem d3_15 : decode prog_20_method_3_code 15 = .ok (.dstore_n 1, 1) := by decide +kernel
theorem d3_16 : decode prog_20_method_3_code 16 = .ok (.iconst 1, 1) := by decide +kernel
theorem d3_17 : decode prog_20_method_3_code 17 = .ok (.istore_n 3, 1) := by decide +kernel
theorem d3_18 : decode prog_20_method_3_code 18 = .ok (.dload_n 1, 1) := by decide +kernel
theorem d3_19 : decode prog_20_method_3_code 19 = .ok (.dstore 4, 2) := by decide +kernel
theorem d3_21 : decode prog_20_method_3_code 21 = .ok (.dload 4, 2) := by decide +kernel
theorem d3_23 : decode prog_20_method_3_code 23 = .ok (.ldc2_w 17, 3) := by decide +kernel
theorem d3_26 : decode prog_20_method_3_code 26 = .ok (.dcmp .l, 1) := by decide +kernel
theorem d3_27 : decode prog_20_method_3_code 27 = .ok (.ifCond .lt 21, 3) := by decide +kernel
theorem d3_48 : decode prog_20_method_3_code 48 = .ok (.iload_n 3, 1) := by decide +kernel
theorem d3_49 : decode prog_20_method_3_code 49 = .ok (.ireturn, 1) := by decide +kernel
theorem d3_30 : decode prog_20_method_3_code 30 = .ok (.iload_n 3, 1) := by decide +kernel
theorem d3_31 : decode prog_20_method_3_code 31 = .ok (.bipush 8, 2) := by decide +kernel
theorem d3_33 : decode prog_20_method_3_code 33 = .ok (.if_icmp .ge 15, 3) := by decide +kernel
theorem d3_36 : decode prog_20_method_3_code 36 = .ok (.dload 4, 2) := by decide +kernel
theorem d3_38 : decode prog_20_method_3_code 38 = .ok (.dload_n 1, 1) := by decide +kernel
theorem d3_39 : decode prog_20_method_3_code 39 = .ok (.dmul, 1) := by decide +kernel
theorem d3_40 : decode prog_20_method_3_code 40 = .ok (.dstore 4, 2) := by decide +kernel
theorem d3_42 : decode prog_20_method_3_code 42 = .ok (.iinc 3 1, 3) := by decide +kernel
theorem d3_45 : decode prog_20_method_3_code 45 = .ok (.goto (-24), 3) := by decide +kernel
theorem d4_0 : decode method_3_code 0 = .ok (.iload_n 0, 1) := by decide +kernel
theorem d4_1 : decode method_3_code 1 = .ok (.iload_n 1, 1) := by decide +kernel
theorem d4_2 : decode method_3_code 2 = .ok (.ishr, 1) := by decide +kernel
theorem d4_3 : decode method_3_code 3 = .ok (.iconst 1, 1) := by decide +kernel
theorem d4_4 : decode method_3_code 4 = .ok (.iand, 1) := by decide +kernel
theorem d4_5 : decode method_3_code 5 = .ok (.ifCond .eq 7, 3) := by decide +kernel
theorem d4_12 : decode method_3_code 12 = .ok (.iconst 0, 1) := by decide +kernel
theorem d4_8 : decode method_3_code 8 = .ok (.iconst 1, 1) := by decide +kernel
theorem d4_9 : decode method_3_code 9 = .ok (.goto 4, 3) := by decide +kernel
theorem d4_13 : decode method_3_code 13 = .ok (.ireturn, 1) := by decide +kernel
theorem pn_com_example_gallant_courier_gallantcourier_core_LossRateWaitsPerDoublingPinLaw : plainName "com/example/gallant_courier/gallantcourier/core/LossRateWaitsPerDoublingPinLaw" = true := by first | (simp [plainName, overriddenIn]; done) | decide +kernel
theorem d5_0 : decode method_4_code 0 = .ok (.iload_n 1, 1) := by decide +kernel
theorem d5_1 : decode method_4_code 1 = .ok (.iload_n 2, 1) := by decide +kernel
theorem d5_2 : decode method_4_code 2 = .ok (.if_icmp .ge 11, 3) := by decide +kernel
theorem d5_5 : decode method_4_code 5 = .ok (.iload_n 0, 1) := by decide +kernel
theorem d5_6 : decode method_4_code 6 = .ok (.iload_n 1, 1) := by decide +kernel
theorem d5_7 : decode method_4_code 7 = .ok (.ishr, 1) := by decide +kernel
theorem d5_8 : decode method_4_code 8 = .ok (.iconst 1, 1) := by decide +kernel
theorem d5_9 : decode method_4_code 9 = .ok (.iand, 1) := by decide +kernel
theorem d5_10 : decode method_4_code 10 = .ok (.goto 4, 3) := by decide +kernel
theorem d5_13 : decode method_4_code 13 = .ok (.iconst 0, 1) := by decide +kernel
theorem d5_14 : decode method_4_code 14 = .ok (.ireturn, 1) := by decide +kernel
theorem d6_0 : decode method_5_code 0 = .ok (.iload_n 0, 1) := by decide +kernel
theorem d6_1 : decode method_5_code 1 = .ok (.i2l, 1) := by decide +kernel
theorem d6_2 : decode method_5_code 2 = .ok (.ldc2_w 32, 3) := by decide +kernel
theorem d6_5 : decode method_5_code 5 = .ok (.iload_n 1, 1) := by decide +kernel
theorem d6_6 : decode method_5_code 6 = .ok (.i2l, 1) := by decide +kernel
theorem d6_7 : decode method_5_code 7 = .ok (.lmul, 1) := by decide +kernel
theorem d6_8 : decode method_5_code 8 = .ok (.iload_n 0, 1) := by decide +kernel
theorem d6_9 : decode method_5_code 9 = .ok (.i2l, 1) := by decide +kernel
theorem d6_10 : decode method_5_code 10 = .ok (.lsub, 1) := by decide +kernel
theorem d6_11 : decode method_5_code 11 = .ok (.lmul, 1) := by decide +kernel
theorem d6_12 : decode method_5_code 12 = .ok (.lstore_n 2, 1) := by decide +kernel
theorem d6_13 : decode method_5_code 13 = .ok (.iload_n 1, 1) := by decide +kernel
theorem d6_14 : decode method_5_code 14 = .ok (.i2l, 1) := by decide +kernel
theorem d6_15 : decode method_5_code 15 = .ok (.iload_n 1, 1) := by decide +kernel
theorem d6_16 : decode method_5_code 16 = .ok (.i2l, 1) := by decide +kernel
theorem d6_17 : decode method_5_code 17 = .ok (.lmul, 1) := by decide +kernel
theorem d6_18 : decode method_5_code 18 = .ok (.lstore 4, 2) := by decide +kernel
theorem d6_20 : decode method_5_code 20 = .ok (.lload_n 2, 1) := by decide +kernel
theorem d6_21 : decode method_5_code 21 = .ok (.lstore 6, 2) := by decide +kernel
theorem d6_23 : decode method_5_code 23 = .ok (.lload 4, 2) := by decide +kernel
theorem d6_25 : decode method_5_code 25 = .ok (.lstore 8, 2) := by decide +kernel
theorem d6_27 : decode method_5_code 27 = .ok (.lload 6, 2) := by decide +kernel
theorem d6_29 : decode method_5_code 29 = .ok (.lload_n 2, 1) := by decide +kernel
theorem d6_30 : decode method_5_code 30 = .ok (.lmul, 1) := by decide +kernel
theorem d6_31 : decode method_5_code 31 = .ok (.lstore 10, 2) := by decide +kernel
theorem d6_33 : decode method_5_code 33 = .ok (.lload 8, 2) := by decide +kernel
theorem d6_35 : decode method_5_code 35 = .ok (.lload 4, 2) := by decide +kernel
theorem d6_37 : decode method_5_code 37 = .ok (.lmul, 1) := by decide +kernel
theorem d6_38 : decode method_5_code 38 = .ok (.lstore 12, 2) := by decide +kernel
theorem d6_40 : decode method_5_code 40 = .ok (.lload 10, 2) := by decide +kernel
theorem d6_42 : decode method_5_code 42 = .ok (.lload_n 2, 1) := by decide +kernel
theorem d6_43 : decode method_5_code 43 = .ok (.lmul, 1) := by decide +kernel
theorem d6_44 : decode method_5_code 44 = .ok (.lstore 14, 2) := by decide +kernel
theorem d6_46 : decode method_5_code 46 = .ok (.lload 12, 2) := by decide +kernel
theorem d6_48 : decode method_5_code 48 = .ok (.lload 4, 2) := by decide +kernel
theorem d6_50 : decode method_5_code 50 = .ok (.lmul, 1) := by decide +kernel
theorem d6_51 : decode method_5_code 51 = .ok (.lstore 16, 2) := by decide +kernel
theorem d6_53 : decode method_5_code 53 = .ok (.lload 14, 2) := by decide +kernel
theorem d6_55 : decode method_5_code 55 = .ok (.lload_n 2, 1) := by decide +kernel
theorem d6_56 : decode method_5_code 56 = .ok (.lmul, 1) := by decide +kernel
theorem d6_57 : decode method_5_code 57 = .ok (.lstore 18, 2) := by decide +kernel
theorem d6_59 : decode method_5_code 59 = .ok (.lload 16, 2) := by decide +kernel
theorem d6_61 : decode method_5_code 61 = .ok (.lload 4, 2) := by decide +kernel
theorem d6_63 : decode method_5_code 63 = .ok (.lmul, 1) := by decide +kernel
theorem d6_64 : decode method_5_code 64 = .ok (.lstore 20, 2) := by decide +kernel
theorem d6_66 : decode method_5_code 66 = .ok (.lload 18, 2) := by decide +kernel
theorem d6_68 : decode method_5_code 68 = .ok (.lload_n 2, 1) := by decide +kernel
theorem d6_69 : decode method_5_code 69 = .ok (.lmul, 1) := by decide +kernel
theorem d6_70 : decode method_5_code 70 = .ok (.lstore 22, 2) := by decide +kernel
theorem d6_72 : decode method_5_code 72 = .ok (.lload 20, 2) := by decide +kernel
theorem d6_74 : decode method_5_code 74 = .ok (.lload 4, 2) := by decide +kernel
theorem d6_76 : decode method_5_code 76 = .ok (.lmul, 1) := by decide +kernel
theorem d6_77 : decode method_5_code 77 = .ok (.lstore 24, 2) := by decide +kernel
theorem d6_79 : decode method_5_code 79 = .ok (.lload 22, 2) := by decide +kernel
theorem d6_81 : decode method_5_code 81 = .ok (.lload_n 2, 1) := by decide +kernel
theorem d6_82 : decode method_5_code 82 = .ok (.lmul, 1) := by decide +kernel
theorem d6_83 : decode method_5_code 83 = .ok (.lstore 26, 2) := by decide +kernel
theorem d6_85 : decode method_5_code 85 = .ok (.lload 24, 2) := by decide +kernel
theorem d6_87 : decode method_5_code 87 = .ok (.lload 4, 2) := by decide +kernel
theorem d6_89 : decode method_5_code 89 = .ok (.lmul, 1) := by decide +kernel
theorem d6_90 : decode method_5_code 90 = .ok (.lstore 28, 2) := by decide +kernel
theorem d6_92 : decode method_5_code 92 = .ok (.lload 26, 2) := by decide +kernel
theorem d6_94 : decode method_5_code 94 = .ok (.lload_n 2, 1) := by decide +kernel
theorem d6_95 : decode method_5_code 95 = .ok (.lmul, 1) := by decide +kernel
theorem d6_96 : decode method_5_code 96 = .ok (.lstore 30, 2) := by decide +kernel
theorem d6_98 : decode method_5_code 98 = .ok (.lload 28, 2) := by decide +kernel
theorem d6_100 : decode method_5_code 100 = .ok (.lload 4, 2) := by decide +kernel
theorem d6_102 : decode method_5_code 102 = .ok (.lmul, 1) := by decide +kernel
theorem d6_103 : decode method_5_code 103 = .ok (.lstore 32, 2) := by decide +kernel
theorem d6_105 : decode method_5_code 105 = .ok (.ldc2_w 34, 3) := by decide +kernel
theorem d6_108 : decode method_5_code 108 = .ok (.lload 6, 2) := by decide +kernel
theorem d6_110 : decode method_5_code 110 = .ok (.lmul, 1) := by decide +kernel
theorem d6_111 : decode method_5_code 111 = .ok (.lload 8, 2) := by decide +kernel
theorem d6_113 : decode method_5_code 113 = .ok (.lcmp, 1) := by decide +kernel
theorem d6_114 : decode method_5_code 114 = .ok (.ifCond .ge 5, 3) := by decide +kernel
theorem d6_117 : decode method_5_code 117 = .ok (.iconst 1, 1) := by decide +kernel
theorem d6_118 : decode method_5_code 118 = .ok (.ireturn, 1) := by decide +kernel
theorem d6_119 : decode method_5_code 119 = .ok (.ldc2_w 34, 3) := by decide +kernel
theorem d6_122 : decode method_5_code 122 = .ok (.lload 10, 2) := by decide +kernel
theorem d6_124 : decode method_5_code 124 = .ok (.lmul, 1) := by decide +kernel
theorem d6_125 : decode method_5_code 125 = .ok (.lload 12, 2) := by decide +kernel
theorem d6_127 : decode method_5_code 127 = .ok (.lcmp, 1) := by decide +kernel
theorem d6_128 : decode method_5_code 128 = .ok (.ifCond .ge 5, 3) := by decide +kernel
theorem d6_131 : decode method_5_code 131 = .ok (.iconst 2, 1) := by decide +kernel
theorem d6_132 : decode method_5_code 132 = .ok (.ireturn, 1) := by decide +kernel
theorem d6_133 : decode method_5_code 133 = .ok (.ldc2_w 34, 3) := by decide +kernel
theorem d6_136 : decode method_5_code 136 = .ok (.lload 14, 2) := by decide +kernel
theorem d6_138 : decode method_5_code 138 = .ok (.lmul, 1) := by decide +kernel
theorem d6_139 : decode method_5_code 139 = .ok (.lload 16, 2) := by decide +kernel
theorem d6_141 : decode method_5_code 141 = .ok (.lcmp, 1) := by decide +kernel
theorem d6_142 : decode method_5_code 142 = .ok (.ifCond .ge 5, 3) := by decide +kernel
theorem d6_145 : decode method_5_code 145 = .ok (.iconst 3, 1) := by decide +kernel
theorem d6_146 : decode method_5_code 146 = .ok (.ireturn, 1) := by decide +kernel
theorem d6_147 : decode method_5_code 147 = .ok (.ldc2_w 34, 3) := by decide +kernel
theorem d6_150 : decode method_5_code 150 = .ok (.lload 18, 2) := by decide +kernel
theorem d6_152 : decode method_5_code 152 = .ok (.lmul, 1) := by decide +kernel
theorem d6_153 : decode method_5_code 153 = .ok (.lload 20, 2) := by decide +kernel
theorem d6_155 : decode method_5_code 155 = .ok (.lcmp, 1) := by decide +kernel
theorem d6_156 : decode method_5_code 156 = .ok (.ifCond .ge 5, 3) := by decide +kernel
theorem d6_159 : decode method_5_code 159 = .ok (.iconst 4, 1) := by decide +kernel
theorem d6_160 : decode method_5_code 160 = .ok (.ireturn, 1) := by decide +kernel
theorem d6_161 : decode method_5_code 161 = .ok (.ldc2_w 34, 3) := by decide +kernel
theorem d6_164 : decode method_5_code 164 = .ok (.lload 22, 2) := by decide +kernel
theorem d6_166 : decode method_5_code 166 = .ok (.lmul, 1) := by decide +kernel
theorem d6_167 : decode method_5_code 167 = .ok (.lload 24, 2) := by decide +kernel
theorem d6_169 : decode method_5_code 169 = .ok (.lcmp, 1) := by decide +kernel
theorem d6_170 : decode method_5_code 170 = .ok (.ifCond .ge 5, 3) := by decide +kernel
theorem d6_173 : decode method_5_code 173 = .ok (.iconst 5, 1) := by decide +kernel
theorem d6_174 : decode method_5_code 174 = .ok (.ireturn, 1) := by decide +kernel
theorem d6_175 : decode method_5_code 175 = .ok (.ldc2_w 34, 3) := by decide +kernel
theorem d6_178 : decode method_5_code 178 = .ok (.lload 26, 2) := by decide +kernel
theorem d6_180 : decode method_5_code 180 = .ok (.lmul, 1) := by decide +kernel
theorem d6_181 : decode method_5_code 181 = .ok (.lload 28, 2) := by decide +kernel
theorem d6_183 : decode method_5_code 183 = .ok (.lcmp, 1) := by decide +kernel
theorem d6_184 : decode method_5_code 184 = .ok (.ifCond .ge 6, 3) := by decide +kernel
theorem d6_187 : decode method_5_code 187 = .ok (.bipush 6, 2) := by decide +kernel
theorem d6_189 : decode method_5_code 189 = .ok (.ireturn, 1) := by decide +kernel
theorem d6_190 : decode method_5_code 190 = .ok (.ldc2_w 34, 3) := by decide +kernel
theorem d6_193 : decode method_5_code 193 = .ok (.lload 30, 2) := by decide +kernel
theorem d6_195 : decode method_5_code 195 = .ok (.lmul, 1) := by decide +kernel
theorem d6_196 : decode method_5_code 196 = .ok (.lload 32, 2) := by decide +kernel
theorem d6_198 : decode method_5_code 198 = .ok (.lcmp, 1) := by decide +kernel
theorem d6_199 : decode method_5_code 199 = .ok (.ifCond .ge 6, 3) := by decide +kernel
theorem d6_202 : decode method_5_code 202 = .ok (.bipush 7, 2) := by decide +kernel
theorem d6_204 : decode method_5_code 204 = .ok (.ireturn, 1) := by decide +kernel
theorem d6_205 : decode method_5_code 205 = .ok (.bipush 8, 2) := by decide +kernel
theorem d6_207 : decode method_5_code 207 = .ok (.ireturn, 1) := by decide +kernel
theorem pd_ocV : parseMethodDescriptor "()V" = some ⟨[], none⟩ := by decide +kernel
theorem pd_oIIcZ : parseMethodDescriptor "(II)Z" = some ⟨[.int, .int], some .boolean⟩ := by decide +kernel
theorem pd_oZcV : parseMethodDescriptor "(Z)V" = some ⟨[.boolean], none⟩ := by decide +kernel
theorem pd_ocI : parseMethodDescriptor "()I" = some ⟨[], some .int⟩ := by decide +kernel
theorem pd_oIIIcI : parseMethodDescriptor "(III)I" = some ⟨[.int, .int, .int], some .int⟩ := by decide +kernel
theorem pd_oIIcI : parseMethodDescriptor "(II)I" = some ⟨[.int, .int], some .int⟩ := by decide +kernel
def Q1 (Z : State) (a0 : Addr) (sh : UInt64) (sa : Int32) (h0 : Heap) (n0 : Nat) (v : Option Value) (h : Heap) (L : List Loc) : Prop := v = none ∧ Fr n0 L ∧ Keep h0 h [a0] ∧ Fld Z h a0 "com/example/gallant_courier/gallantcourier/core/LossRate" "share" "D" (.double sh) ∧ Fld Z h a0 "com/example/gallant_courier/gallantcourier/core/LossRate" "samples" "I" (.int sa)
theorem ef1 (m : MethodId) (a0 : Addr) : entryFrame m #[(.ref a0)] 1 = mkF m 0 #[.val (.ref a0)] [] := by first | (simp [entryFrame, mkF, argsToLocals, Value.category]; done) | rfl
set_option maxRecDepth 65536 in
set_option maxHeartbeats 40000000 in
theorem rm1 (l : Launch) (Z : State) (aa : Array Value) (hw : ∀ d ∈ tables_1, d.before aa Z = true) (ws : List Jvm.Cond) (a0 : Addr) (sh : UInt64) (sa : Int32) (h0 : Heap) (n0 : Nat) (O0 : Old Z n0 h0) (E_a0 : Exa Z h0 a0 "com/example/gallant_courier/gallantcourier/core/LossRate") (F_a0_share : Fld Z h0 a0 "com/example/gallant_courier/gallantcourier/core/LossRate" "share" "D" (.double sh)) (F_a0_samples : Fld Z h0 a0 "com/example/gallant_courier/gallantcourier/core/LossRate" "samples" "I" (.int sa)) (g_a0 : n0 ≤ a0) :
    MetFree l (⟨"com/example/gallant_courier/gallantcourier/core/LossRate", "<init>", "()V"⟩ : MethodName) (head1 (Jvm.Cond.code (⟨"com/example/gallant_courier/gallantcourier/core/LossRate", "<init>", "()V"⟩ : MethodName) prog_20_method_1_code 1 none :: ws) ({ frames := 1, cells := 0, slots := 0, locals := 12 } : Room)) (fun a U => a = #[(.ref a0)] ∧ Z.Warmed39 U.vm ∧ U.heap = h0) (fun _ _ _ _ _ => True) (fun _ U o U' => ∃ v L, o = .returned v ∧ Q1 Z a0 sh sa h0 n0 v U'.heap L ∧ FrameEnd U o U' L ({ frames := 1, cells := 0, slots := 0, locals := 12 } : Room).cells ({ frames := 1, cells := 0, slots := 0, locals := 12 } : Room).slots) := by
  refine MetFree.of_bodySF (plainFor_of_name pn_com_example_gallant_courier_gallantcourier_core_LossRate) hisR ?_
  intro p e s m args below meth c s₁ Bd hml0 hP hK
  obtain ⟨rfl, hZ, hh⟩ := hP
  have hx := Bd.exec
  have hby := Bd.bytes
  have hlk := Bd.notSynchronized
  have hml : c.maxLocals = 1 := hml0
  have hown : s.vm.findClass "com/example/gallant_courier/gallantcourier/core/LossRate" = some m.cls := findClass_of_methodNamed Bd.named
  have hnm := (name_of_methodNamed Bd.named Bd.method).1
  have X0 : Stand p l e ({ frames := 1, cells := 0, slots := 0, locals := 12 } : Room) s m #[(.ref a0)] below meth c s₁ [] 0 0 := Stand.of_body Bd
  have e0 : s₁.heap = h0 := by rw [← hh, Bd.state]; rfl
  have N0 := Fr.nil n0
  show Gl p e below (Ret s 0 0 (Q1 Z a0 sh sa h0 n0)) (s₁.setTop (entryFrame m #[(.ref a0)] 1))
  rw [ef1 m a0]
  obtain ⟨args, hargs⟩ : ∃ z : Array Value, z = #[(.ref a0)] := ⟨_, rfl⟩
  rw [← hargs] at X0
  have K0 := Keep.refl h0 [a0]
  refine Gl.up (B := s₁.setTop (mkF m 1 #[.val (.ref a0)] [(.ref a0)])) (fun t kt => ?_) ?_
  · refine XS.aloadN X0.here hx rfl (hb hby d1_0) rfl rfl ?_
    exact kt
  obtain ⟨T1, X1, e1, st1⟩ := initO X0 hx hZ hown (hw _ (List.mem_of_getElem? (i := 6) rfl)) (hw _ (List.mem_of_getElem? (i := 7) rfl)) (hw _ (List.mem_of_getElem? (i := 8) rfl)) e0 (g := (mkF m 1 #[.val (.ref a0)] [(.ref a0)])) rfl (by rw [hml]; rfl) rfl (hb hby d1_1) (by decide) (W := 0) (by show 2 * 0 + _ ≤ _; exact Nat.le_of_eq rfl) (by decide)
  refine Gl.up (B := T1.setTop (mkF m 4 #[.val (.ref a0)] [])) (fun t kt => st1 _ kt) ?_
  refine Gl.ret0 X1 hx hlk Bd.returns (hb hby d1_4) ?_ (by decide) (by decide)
  show Q1 Z a0 sh sa h0 n0 _ T1.heap _; rw [e1]; exact ⟨rfl, N0, K0, F_a0_share, F_a0_samples⟩
def f2_share (p1 : Int32) (sh : UInt64) (sa : Int32) : UInt64 := (FP.dadd sh (FP.ddiv (FP.dsub (FP.i2d (if p1 = (0 : Int32) then (0 : Int32) else (1 : Int32))) sh) (FP.i2d (if sa < (64 : Int32) then (sa + (1 : Int32)) else sa))))
def f2_samples (p1 : Int32) (sh : UInt64) (sa : Int32) : Int32 := (if sa < (64 : Int32) then (sa + (1 : Int32)) else sa)
def Q2 (Z : State) (a0 : Addr) (p1 : Int32) (sh : UInt64) (sa : Int32) (h0 : Heap) (n0 : Nat) (v : Option Value) (h : Heap) (L : List Loc) : Prop := v = none ∧ Fr n0 L ∧ Keep h0 h [a0] ∧ Fld Z h a0 "com/example/gallant_courier/gallantcourier/core/LossRate" "share" "D" (.double (f2_share p1 sh sa)) ∧ Fld Z h a0 "com/example/gallant_courier/gallantcourier/core/LossRate" "samples" "I" (.int (f2_samples p1 sh sa))
theorem ef2 (m : MethodId) (a0 : Addr) (p1 : Int32) : entryFrame m #[(.ref a0), (.int p1)] 2 = mkF m 0 #[.val (.ref a0), .val (.int p1)] [] := by first | (simp [entryFrame, mkF, argsToLocals, Value.category]; done) | rfl
set_option maxRecDepth 65536 in
set_option maxHeartbeats 40000000 in
theorem rm2 (l : Launch) (Z : State) (aa : Array Value) (hw : ∀ d ∈ tables_1, d.before aa Z = true) (ws : List Jvm.Cond) (a0 : Addr) (p1 : Int32) (sh : UInt64) (sa : Int32) (h0 : Heap) (n0 : Nat) (O0 : Old Z n0 h0) (E_a0 : Exa Z h0 a0 "com/example/gallant_courier/gallantcourier/core/LossRate") (F_a0_share : Fld Z h0 a0 "com/example/gallant_courier/gallantcourier/core/LossRate" "share" "D" (.double sh)) (F_a0_samples : Fld Z h0 a0 "com/example/gallant_courier/gallantcourier/core/LossRate" "samples" "I" (.int sa)) (g_a0 : n0 ≤ a0) (n1 : Jvm.Free.Fl.NoNaN64 (FP.dsub (FP.i2d (if p1 = (0 : Int32) then (0 : Int32) else (1 : Int32))) sh)) (n2 : Jvm.Free.Fl.NoNaN64 (FP.ddiv (FP.dsub (FP.i2d (if p1 = (0 : Int32) then (0 : Int32) else (1 : Int32))) sh) (FP.i2d (if sa < (64 : Int32) then (sa + (1 : Int32)) else sa)))) (n3 : Jvm.Free.Fl.NoNaN64 (FP.dadd sh (FP.ddiv (FP.dsub (FP.i2d (if p1 = (0 : Int32) then (0 : Int32) else (1 : Int32))) sh) (FP.i2d (if sa < (64 : Int32) then (sa + (1 : Int32)) else sa))))) :
    MetFree l (⟨"com/example/gallant_courier/gallantcourier/core/LossRate", "sample", "(Z)V"⟩ : MethodName) (head1 (Jvm.Cond.code (⟨"com/example/gallant_courier/gallantcourier/core/LossRate", "sample", "(Z)V"⟩ : MethodName) prog_20_method_2_code 2 none :: ws) ({ frames := 0, cells := 0, slots := 0, locals := 0 } : Room)) (fun a U => a = #[(.ref a0), (.int p1)] ∧ Z.Warmed39 U.vm ∧ U.heap = h0) (fun _ _ _ _ _ => True) (fun _ U o U' => ∃ v L, o = .returned v ∧ Q2 Z a0 p1 sh sa h0 n0 v U'.heap L ∧ FrameEnd U o U' L ({ frames := 0, cells := 0, slots := 0, locals := 0 } : Room).cells ({ frames := 0, cells := 0, slots := 0, locals := 0 } : Room).slots) := by
  refine MetFree.of_bodySF (plainFor_of_name pn_com_example_gallant_courier_gallantcourier_core_LossRate) hisR ?_
  intro p e s m args below meth c s₁ Bd hml0 hP hK
  obtain ⟨rfl, hZ, hh⟩ := hP
  have hx := Bd.exec
  have hby := Bd.bytes
  have hlk := Bd.notSynchronized
  have hml : c.maxLocals = 2 := hml0
  have hown : s.vm.findClass "com/example/gallant_courier/gallantcourier/core/LossRate" = some m.cls := findClass_of_methodNamed Bd.named
  have hnm := (name_of_methodNamed Bd.named Bd.method).1
  have X0 : Stand p l e ({ frames := 0, cells := 0, slots := 0, locals := 0 } : Room) s m #[(.ref a0), (.int p1)] below meth c s₁ [] 0 0 := Stand.of_body Bd
  have e0 : s₁.heap = h0 := by rw [← hh, Bd.state]; rfl
  have N0 := Fr.nil n0
  show Gl p e below (Ret s 0 0 (Q2 Z a0 p1 sh sa h0 n0)) (s₁.setTop (entryFrame m #[(.ref a0), (.int p1)] 2))
  rw [ef2 m a0 p1]
  obtain ⟨args, hargs⟩ : ∃ z : Array Value, z = #[(.ref a0), (.int p1)] := ⟨_, rfl⟩
  rw [← hargs] at X0
  have K0 := Keep.refl h0 [a0]
  refine Gl.up (B := s₁.setTop (mkF m 1 #[.val (.ref a0), .val (.int p1)] [(.ref a0)])) (fun t kt => ?_) ?_
  · refine XS.aloadN X0.here hx rfl (hb hby d2_0) rfl rfl ?_
    exact kt
  obtain ⟨T1, X1, e1, st1⟩ := getF X0 hx hZ hown (host := "") (Or.inl (hw _ (List.mem_of_getElem? (i := 18) rfl))) Via.refl e0 F_a0_samples (g := (mkF m 1 #[.val (.ref a0), .val (.int p1)] [(.ref a0)])) rfl rfl (hb hby d2_1)
  refine Gl.up (B := T1.setTop (mkF m 4 #[.val (.ref a0), .val (.int p1)] [(.int sa)])) (fun t kt => st1 _ kt) ?_
  refine Gl.up (B := T1.setTop (mkF m 6 #[.val (.ref a0), .val (.int p1)] [(.int (64 : Int32)), (.int sa)])) (fun t kt => ?_) ?_
  · refine XS.bipush X1.here hx rfl (hb hby d2_4) ?_
    exact kt
  suffices J2 : ∀ (T2 : State) (hj2 : Heap) (lc2 : List Loc) (v2_a0_samples : Int32), v2_a0_samples = (if sa < (64 : Int32) then (sa + (1 : Int32)) else sa) → Stand p l e ({ frames := 0, cells := 0, slots := 0, locals := 0 } : Room) s m args below meth c T2 lc2 0 0 → T2.heap = hj2 → Fr n0 lc2 → Old Z n0 hj2 → Keep h0 hj2 [a0] → Exa Z hj2 a0 "com/example/gallant_courier/gallantcourier/core/LossRate" → Fld Z hj2 a0 "com/example/gallant_courier/gallantcourier/core/LossRate" "share" "D" (.double sh) → Fld Z hj2 a0 "com/example/gallant_courier/gallantcourier/core/LossRate" "samples" "I" (.int v2_a0_samples) → Gl p e below (Ret s 0 0 (Q2 Z a0 p1 sh sa h0 n0)) (T2.setTop (mkF m 19 #[.val (.ref a0), .val (.int p1)] [])) by
    by_cases c6_3 : sa < (64 : Int32)
    · refine Gl.up (B := T1.setTop (mkF m 11 #[.val (.ref a0), .val (.int p1)] [(.ref a0), (.ref a0)])) (fun t kt => ?_) ?_
      · refine XS.icmpNo X1.here hx rfl (hb hby d2_6) rfl (tlt c6_3).2.1 ?_
        show Steps p.tables e below (T1.setTop (mkF m 9 #[.val (.ref a0), .val (.int p1)] [])) _
        refine XS.aloadN X1.here hx rfl (hb hby d2_9) rfl rfl ?_
        show Steps p.tables e below (T1.setTop (mkF m 10 #[.val (.ref a0), .val (.int p1)] [(.ref a0)])) _
        refine XS.dup X1.here hx rfl (hb hby d2_10) rfl rfl ?_
        exact kt
      obtain ⟨T4, X4, e4, st4⟩ := getF X1 hx hZ hown (host := "") (Or.inl (hw _ (List.mem_of_getElem? (i := 18) rfl))) Via.refl e1 F_a0_samples (g := (mkF m 11 #[.val (.ref a0), .val (.int p1)] [(.ref a0), (.ref a0)])) rfl rfl (hb hby d2_11)
      refine Gl.up (B := T4.setTop (mkF m 14 #[.val (.ref a0), .val (.int p1)] [(.int sa), (.ref a0)])) (fun t kt => st4 _ kt) ?_
      refine Gl.up (B := T4.setTop (mkF m 16 #[.val (.ref a0), .val (.int p1)] [(.int (sa + (1 : Int32))), (.ref a0)])) (fun t kt => ?_) ?_
      · refine XS.iconst X4.here hx rfl (hb hby d2_14) ?_
        show Steps p.tables e below (T4.setTop (mkF m 15 #[.val (.ref a0), .val (.int p1)] [(.int (1 : Int32)), (.int sa), (.ref a0)])) _
        refine XS.iadd X4.here hx rfl (hb hby d2_15) rfl ?_
        exact kt
      obtain ⟨T5, h5, X5, e5, W5, st5⟩ := putF X4 hx hZ hown (host := "") (Or.inl (hw _ (List.mem_of_getElem? (i := 18) rfl))) Via.refl e4 F_a0_samples E_a0 (Or.inl (hw _ (List.mem_of_getElem? (i := 19) rfl))) (hw _ (List.mem_of_getElem? (i := 1) rfl)) (ty := .int) (by decide) rfl rfl (g := (mkF m 16 #[.val (.ref a0), .val (.int p1)] [(.int (sa + (1 : Int32))), (.ref a0)])) rfl rfl (hb hby d2_16)
      have N5 := Fr.snoc X5 N0 g_a0
      have O5 := O0.wr W5 g_a0
      have K5 : Keep h0 h5 [a0] := K0.wr W5 (Or.inl (List.mem_of_getElem? (i := 0) rfl))
      have E_a0_5 := E_a0.wr W5
      have F_a0_share_5 := F_a0_share.other W5 (Or.inr (slot_ne (Or.inl (hw _ (List.mem_of_getElem? (i := 21) rfl))) (Or.inl (hw _ (List.mem_of_getElem? (i := 19) rfl))) (by decide) (t := .double) (t' := .int) (by decide) (by decide)))
      have F_a0_samples_5 := F_a0_samples.same W5
      refine Gl.up (B := T5.setTop (mkF m 19 #[.val (.ref a0), .val (.int p1)] [])) (fun t kt => st5 _ kt) ?_
      exact J2 _ _ _ (sa + (1 : Int32)) (if_pos c6_3).symm X5 e5 N5 O5 K5 E_a0_5 F_a0_share_5 F_a0_samples_5
    · refine Gl.up (B := T1.setTop (mkF m 19 #[.val (.ref a0), .val (.int p1)] [])) (fun t kt => ?_) ?_
      · refine XS.icmpYes X1.here hx rfl (pc0 := 6) (pc' := 19) rfl (hb hby d2_6) rfl (flt c6_3).2.1 (by decide) (by decide) ?_
        exact kt
      exact J2 _ _ _ sa (if_neg c6_3).symm X1 e1 N0 O0 K0 E_a0 F_a0_share F_a0_samples
  intro T2 hj2 lc2 v2_a0_samples hv2_a0_samples X2 e2 N2 O2 K2 E_a0_2 F_a0_share_2 F_a0_samples_2
  subst hv2_a0_samples
  refine Gl.up (B := T2.setTop (mkF m 21 #[.val (.ref a0), .val (.int p1)] [(.ref a0), (.ref a0)])) (fun t kt => ?_) ?_
  · refine XS.aloadN X2.here hx rfl (hb hby d2_19) rfl rfl ?_
    show Steps p.tables e below (T2.setTop (mkF m 20 #[.val (.ref a0), .val (.int p1)] [(.ref a0)])) _
    refine XS.dup X2.here hx rfl (hb hby d2_20) rfl rfl ?_
    exact kt
  obtain ⟨T6, X6, e6, st6⟩ := getF X2 hx hZ hown (host := "") (Or.inl (hw _ (List.mem_of_getElem? (i := 20) rfl))) Via.refl e2 F_a0_share_2 (g := (mkF m 21 #[.val (.ref a0), .val (.int p1)] [(.ref a0), (.ref a0)])) rfl rfl (hb hby d2_21)
  refine Gl.up (B := T6.setTop (mkF m 24 #[.val (.ref a0), .val (.int p1)] [(.double sh), (.ref a0)])) (fun t kt => st6 _ kt) ?_
  refine Gl.up (B := T6.setTop (mkF m 25 #[.val (.ref a0), .val (.int p1)] [(.int p1), (.double sh), (.ref a0)])) (fun t kt => ?_) ?_
  · refine XS.iloadN X6.here hx rfl (hb hby d2_24) rfl ?_
    exact kt
  suffices J7 : ∀ (T7 : State) (v7_s0 : Int32), v7_s0 = (if p1 = (0 : Int32) then (0 : Int32) else (1 : Int32)) → Stand p l e ({ frames := 0, cells := 0, slots := 0, locals := 0 } : Room) s m args below meth c T7 lc2 0 0 → T7.heap = hj2 → Gl p e below (Ret s 0 0 (Q2 Z a0 p1 sh sa h0 n0)) (T7.setTop (mkF m 33 #[.val (.ref a0), .val (.int p1)] [(.int v7_s0), (.double sh), (.ref a0)])) by
    by_cases c25_8 : p1 = (0 : Int32)
    · refine Gl.up (B := T6.setTop (mkF m 33 #[.val (.ref a0), .val (.int p1)] [(.int (0 : Int32)), (.double sh), (.ref a0)])) (fun t kt => ?_) ?_
      · refine XS.ifYes X6.here hx rfl (pc0 := 25) (pc' := 32) rfl (hb hby d2_25) rfl ((if0 _ _).trans (teq c25_8).1) (by decide) (by decide) ?_
        show Steps p.tables e below (T6.setTop (mkF m 32 #[.val (.ref a0), .val (.int p1)] [(.double sh), (.ref a0)])) _
        refine XS.iconst X6.here hx rfl (hb hby d2_32) ?_
        exact kt
      exact J7 _ (0 : Int32) (if_pos c25_8).symm X6 e6
    · refine Gl.up (B := T6.setTop (mkF m 33 #[.val (.ref a0), .val (.int p1)] [(.int (1 : Int32)), (.double sh), (.ref a0)])) (fun t kt => ?_) ?_
      · refine XS.ifNo X6.here hx rfl (hb hby d2_25) rfl ((if0 _ _).trans (feq c25_8).1) ?_
        show Steps p.tables e below (T6.setTop (mkF m 28 #[.val (.ref a0), .val (.int p1)] [(.double sh), (.ref a0)])) _
        refine XS.iconst X6.here hx rfl (hb hby d2_28) ?_
        show Steps p.tables e below (T6.setTop (mkF m 29 #[.val (.ref a0), .val (.int p1)] [(.int (1 : Int32)), (.double sh), (.ref a0)])) _
        refine XS.goto X6.here hx rfl (pc0 := 29) (pc' := 33) rfl (hb hby d2_29) (by decide) (by decide) ?_
        exact kt
      exact J7 _ (1 : Int32) (if_neg c25_8).symm X6 e6
  intro T7 v7_s0 hv7_s0 X7 e7
  subst hv7_s0
  refine Gl.up (B := T7.setTop (mkF m 35 #[.val (.ref a0), .val (.int p1)] [(.ref a0), (.double (FP.i2d (if p1 = (0 : Int32) then (0 : Int32) else (1 : Int32)))), (.double sh), (.ref a0)])) (fun t kt => ?_) ?_
  · refine XS.i2dS X7.here hx rfl (hb hby d2_33) rfl rfl ?_
    show Steps p.tables e below (T7.setTop (mkF m 34 #[.val (.ref a0), .val (.int p1)] [(.double (FP.i2d (if p1 = (0 : Int32) then (0 : Int32) else (1 : Int32)))), (.double sh), (.ref a0)])) _
    refine XS.aloadN X7.here hx rfl (hb hby d2_34) rfl rfl ?_
    exact kt
  obtain ⟨T9, X9, e9, st9⟩ := getF X7 hx hZ hown (host := "") (Or.inl (hw _ (List.mem_of_getElem? (i := 20) rfl))) Via.refl e7 F_a0_share_2 (g := (mkF m 35 #[.val (.ref a0), .val (.int p1)] [(.ref a0), (.double (FP.i2d (if p1 = (0 : Int32) then (0 : Int32) else (1 : Int32)))), (.double sh), (.ref a0)])) rfl rfl (hb hby d2_35)
  refine Gl.up (B := T9.setTop (mkF m 38 #[.val (.ref a0), .val (.int p1)] [(.double sh), (.double (FP.i2d (if p1 = (0 : Int32) then (0 : Int32) else (1 : Int32)))), (.double sh), (.ref a0)])) (fun t kt => st9 _ kt) ?_
  refine Gl.up (B := T9.setTop (mkF m 40 #[.val (.ref a0), .val (.int p1)] [(.ref a0), (.double (FP.dsub (FP.i2d (if p1 = (0 : Int32) then (0 : Int32) else (1 : Int32))) sh)), (.double sh), (.ref a0)])) (fun t kt => ?_) ?_
  · refine XS.dsubS X9.here hx rfl (hb hby d2_38) rfl n1 rfl ?_
    show Steps p.tables e below (T9.setTop (mkF m 39 #[.val (.ref a0), .val (.int p1)] [(.double (FP.dsub (FP.i2d (if p1 = (0 : Int32) then (0 : Int32) else (1 : Int32))) sh)), (.double sh), (.ref a0)])) _
    refine XS.aloadN X9.here hx rfl (hb hby d2_39) rfl rfl ?_
    exact kt
  obtain ⟨T10, X10, e10, st10⟩ := getF X9 hx hZ hown (host := "") (Or.inl (hw _ (List.mem_of_getElem? (i := 18) rfl))) Via.refl e9 F_a0_samples_2 (g := (mkF m 40 #[.val (.ref a0), .val (.int p1)] [(.ref a0), (.double (FP.dsub (FP.i2d (if p1 = (0 : Int32) then (0 : Int32) else (1 : Int32))) sh)), (.double sh), (.ref a0)])) rfl rfl (hb hby d2_40)
  refine Gl.up (B := T10.setTop (mkF m 43 #[.val (.ref a0), .val (.int p1)] [(.int (if sa < (64 : Int32) then (sa + (1 : Int32)) else sa)), (.double (FP.dsub (FP.i2d (if p1 = (0 : Int32) then (0 : Int32) else (1 : Int32))) sh)), (.double sh), (.ref a0)])) (fun t kt => st10 _ kt) ?_
  refine Gl.up (B := T10.setTop (mkF m 46 #[.val (.ref a0), .val (.int p1)] [(.double (FP.dadd sh (FP.ddiv (FP.dsub (FP.i2d (if p1 = (0 : Int32) then (0 : Int32) else (1 : Int32))) sh) (FP.i2d (if sa < (64 : Int32) then (sa + (1 : Int32)) else sa))))), (.ref a0)])) (fun t kt => ?_) ?_
  · refine XS.i2dS X10.here hx rfl (hb hby d2_43) rfl rfl ?_
    show Steps p.tables e below (T10.setTop (mkF m 44 #[.val (.ref a0), .val (.int p1)] [(.double (FP.i2d (if sa < (64 : Int32) then (sa + (1 : Int32)) else sa))), (.double (FP.dsub (FP.i2d (if p1 = (0 : Int32) then (0 : Int32) else (1 : Int32))) sh)), (.double sh), (.ref a0)])) _
    refine XS.ddivS X10.here hx rfl (hb hby d2_44) rfl n2 rfl ?_
    show Steps p.tables e below (T10.setTop (mkF m 45 #[.val (.ref a0), .val (.int p1)] [(.double (FP.ddiv (FP.dsub (FP.i2d (if p1 = (0 : Int32) then (0 : Int32) else (1 : Int32))) sh) (FP.i2d (if sa < (64 : Int32) then (sa + (1 : Int32)) else sa)))), (.double sh), (.ref a0)])) _
    refine XS.daddS X10.here hx rfl (hb hby d2_45) rfl n3 rfl ?_
    exact kt
  obtain ⟨T11, h11, X11, e11, W11, st11⟩ := putF X10 hx hZ hown (host := "") (Or.inl (hw _ (List.mem_of_getElem? (i := 20) rfl))) Via.refl e10 F_a0_share_2 E_a0_2 (Or.inl (hw _ (List.mem_of_getElem? (i := 21) rfl))) (hw _ (List.mem_of_getElem? (i := 1) rfl)) (ty := .double) (by decide) rfl rfl (g := (mkF m 46 #[.val (.ref a0), .val (.int p1)] [(.double (FP.dadd sh (FP.ddiv (FP.dsub (FP.i2d (if p1 = (0 : Int32) then (0 : Int32) else (1 : Int32))) sh) (FP.i2d (if sa < (64 : Int32) then (sa + (1 : Int32)) else sa))))), (.ref a0)])) rfl rfl (hb hby d2_46)
  have N11 := Fr.snoc X11 N2 g_a0
  have O11 := O2.wr W11 g_a0
  have K11 : Keep h0 h11 [a0] := K2.wr W11 (Or.inl (List.mem_of_getElem? (i := 0) rfl))
  have E_a0_11 := E_a0_2.wr W11
  have F_a0_samples_11 := F_a0_samples_2.other W11 (Or.inr (slot_ne (Or.inl (hw _ (List.mem_of_getElem? (i := 19) rfl))) (Or.inl (hw _ (List.mem_of_getElem? (i := 21) rfl))) (by decide) (t := .int) (t' := .double) (by decide) (by decide)))
  have F_a0_share_11 := F_a0_share_2.same W11
  refine Gl.up (B := T11.setTop (mkF m 49 #[.val (.ref a0), .val (.int p1)] [])) (fun t kt => st11 _ kt) ?_
  refine Gl.ret0 X11 hx hlk Bd.returns (hb hby d2_49) ?_ (by decide) (by decide)
  show Q2 Z a0 p1 sh sa h0 n0 _ T11.heap _; rw [e11]; exact ⟨rfl, N11, K11, own_fld (congrArg Value.double (show (FP.dadd sh (FP.ddiv (FP.dsub (FP.i2d (if p1 = (0 : Int32) then (0 : Int32) else (1 : Int32))) sh) (FP.i2d (if sa < (64 : Int32) then (sa + (1 : Int32)) else sa)))) = (f2_share p1 sh sa) from rfl)) F_a0_share_11, own_fld (congrArg Value.int (show (if sa < (64 : Int32) then (sa + (1 : Int32)) else sa) = (f2_samples p1 sh sa) from rfl)) F_a0_samples_11⟩
def f3 (sh : UInt64) (sa : Int32) : Int32 := (if (cmpValue (FP.dcmp (FP.dsub (4607182418800017408 : UInt64) (FP.dmul (FP.dsub (4607182418800017408 : UInt64) sh) (FP.dsub (4607182418800017408 : UInt64) sh))) (4580160821035794432 : UInt64)) .l) < (0 : Int32) then (1 : Int32) else (if (cmpValue (FP.dcmp (FP.dmul (FP.dsub (4607182418800017408 : UInt64) (FP.dmul (FP.dsub (4607182418800017408 : UInt64) sh) (FP.dsub (4607182418800017408 : UInt64) sh))) (FP.dsub (4607182418800017408 : UInt64) (FP.dmul (FP.dsub (4607182418800017408 : UInt64) sh) (FP.dsub (4607182418800017408 : UInt64) sh)))) (4580160821035794432 : UInt64)) .l) < (0 : Int32) then (2 : Int32) else (if (cmpValue (FP.dcmp (FP.dmul (FP.dmul (FP.dsub (4607182418800017408 : UInt64) (FP.dmul (FP.dsub (4607182418800017408 : UInt64) sh) (FP.dsub (4607182418800017408 : UInt64) sh))) (FP.dsub (4607182418800017408 : UInt64) (FP.dmul (FP.dsub (4607182418800017408 : UInt64) sh) (FP.dsub (4607182418800017408 : UInt64) sh)))) (FP.dsub (4607182418800017408 : UInt64) (FP.dmul (FP.dsub (4607182418800017408 : UInt64) sh) (FP.dsub (4607182418800017408 : UInt64) sh)))) (4580160821035794432 : UInt64)) .l) < (0 : Int32) then (3 : Int32) else (if (cmpValue (FP.dcmp (FP.dmul (FP.dmul (FP.dmul (FP.dsub (4607182418800017408 : UInt64) (FP.dmul (FP.dsub (4607182418800017408 : UInt64) sh) (FP.dsub (4607182418800017408 : UInt64) sh))) (FP.dsub (4607182418800017408 : UInt64) (FP.dmul (FP.dsub (4607182418800017408 : UInt64) sh) (FP.dsub (4607182418800017408 : UInt64) sh)))) (FP.dsub (4607182418800017408 : UInt64) (FP.dmul (FP.dsub (4607182418800017408 : UInt64) sh) (FP.dsub (4607182418800017408 : UInt64) sh)))) (FP.dsub (4607182418800017408 : UInt64) (FP.dmul (FP.dsub (4607182418800017408 : UInt64) sh) (FP.dsub (4607182418800017408 : UInt64) sh)))) (4580160821035794432 : UInt64)) .l) < (0 : Int32) then (4 : Int32) else (if (cmpValue (FP.dcmp (FP.dmul (FP.dmul (FP.dmul (FP.dmul (FP.dsub (4607182418800017408 : UInt64) (FP.dmul (FP.dsub (4607182418800017408 : UInt64) sh) (FP.dsub (4607182418800017408 : UInt64) sh))) (FP.dsub (4607182418800017408 : UInt64) (FP.dmul (FP.dsub (4607182418800017408 : UInt64) sh) (FP.dsub (4607182418800017408 : UInt64) sh)))) (FP.dsub (4607182418800017408 : UInt64) (FP.dmul (FP.dsub (4607182418800017408 : UInt64) sh) (FP.dsub (4607182418800017408 : UInt64) sh)))) (FP.dsub (4607182418800017408 : UInt64) (FP.dmul (FP.dsub (4607182418800017408 : UInt64) sh) (FP.dsub (4607182418800017408 : UInt64) sh)))) (FP.dsub (4607182418800017408 : UInt64) (FP.dmul (FP.dsub (4607182418800017408 : UInt64) sh) (FP.dsub (4607182418800017408 : UInt64) sh)))) (4580160821035794432 : UInt64)) .l) < (0 : Int32) then (5 : Int32) else (if (cmpValue (FP.dcmp (FP.dmul (FP.dmul (FP.dmul (FP.dmul (FP.dmul (FP.dsub (4607182418800017408 : UInt64) (FP.dmul (FP.dsub (4607182418800017408 : UInt64) sh) (FP.dsub (4607182418800017408 : UInt64) sh))) (FP.dsub (4607182418800017408 : UInt64) (FP.dmul (FP.dsub (4607182418800017408 : UInt64) sh) (FP.dsub (4607182418800017408 : UInt64) sh)))) (FP.dsub (4607182418800017408 : UInt64) (FP.dmul (FP.dsub (4607182418800017408 : UInt64) sh) (FP.dsub (4607182418800017408 : UInt64) sh)))) (FP.dsub (4607182418800017408 : UInt64) (FP.dmul (FP.dsub (4607182418800017408 : UInt64) sh) (FP.dsub (4607182418800017408 : UInt64) sh)))) (FP.dsub (4607182418800017408 : UInt64) (FP.dmul (FP.dsub (4607182418800017408 : UInt64) sh) (FP.dsub (4607182418800017408 : UInt64) sh)))) (FP.dsub (4607182418800017408 : UInt64) (FP.dmul (FP.dsub (4607182418800017408 : UInt64) sh) (FP.dsub (4607182418800017408 : UInt64) sh)))) (4580160821035794432 : UInt64)) .l) < (0 : Int32) then (6 : Int32) else (if (cmpValue (FP.dcmp (FP.dmul (FP.dmul (FP.dmul (FP.dmul (FP.dmul (FP.dmul (FP.dsub (4607182418800017408 : UInt64) (FP.dmul (FP.dsub (4607182418800017408 : UInt64) sh) (FP.dsub (4607182418800017408 : UInt64) sh))) (FP.dsub (4607182418800017408 : UInt64) (FP.dmul (FP.dsub (4607182418800017408 : UInt64) sh) (FP.dsub (4607182418800017408 : UInt64) sh)))) (FP.dsub (4607182418800017408 : UInt64) (FP.dmul (FP.dsub (4607182418800017408 : UInt64) sh) (FP.dsub (4607182418800017408 : UInt64) sh)))) (FP.dsub (4607182418800017408 : UInt64) (FP.dmul (FP.dsub (4607182418800017408 : UInt64) sh) (FP.dsub (4607182418800017408 : UInt64) sh)))) (FP.dsub (4607182418800017408 : UInt64) (FP.dmul (FP.dsub (4607182418800017408 : UInt64) sh) (FP.dsub (4607182418800017408 : UInt64) sh)))) (FP.dsub (4607182418800017408 : UInt64) (FP.dmul (FP.dsub (4607182418800017408 : UInt64) sh) (FP.dsub (4607182418800017408 : UInt64) sh)))) (FP.dsub (4607182418800017408 : UInt64) (FP.dmul (FP.dsub (4607182418800017408 : UInt64) sh) (FP.dsub (4607182418800017408 : UInt64) sh)))) (4580160821035794432 : UInt64)) .l) < (0 : Int32) then (7 : Int32) else (8 : Int32))))))))
def Q3 (Z : State) (a0 : Addr) (sh : UInt64) (sa : Int32) (h0 : Heap) (n0 : Nat) (v : Option Value) (h : Heap) (L : List Loc) : Prop := v = some (.int (f3 sh sa)) ∧ L = [] ∧ h = h0
theorem ef3 (m : MethodId) (a0 : Addr) : entryFrame m #[(.ref a0)] 6 = mkF m 0 #[.val (.ref a0), .unset, .unset, .unset, .unset, .unset] [] := by first | (simp [entryFrame, mkF, argsToLocals, Value.category]; done) | rfl
set_option maxRecDepth 65536 in
set_option maxHeartbeats 40000000 in
theorem rm3 (l : Launch) (Z : State) (aa : Array Value) (hw : ∀ d ∈ tables_1, d.before aa Z = true) (ws : List Jvm.Cond) (a0 : Addr) (sh : UInt64) (sa : Int32) (h0 : Heap) (n0 : Nat) (O0 : Old Z n0 h0) (E_a0 : Exa Z h0 a0 "com/example/gallant_courier/gallantcourier/core/LossRate") (F_a0_share : Fld Z h0 a0 "com/example/gallant_courier/gallantcourier/core/LossRate" "share" "D" (.double sh)) (F_a0_samples : Fld Z h0 a0 "com/example/gallant_courier/gallantcourier/core/LossRate" "samples" "I" (.int sa)) (n1 : Jvm.Free.Fl.NoNaN64 (FP.dsub (4607182418800017408 : UInt64) sh)) (n2 : Jvm.Free.Fl.NoNaN64 (FP.dmul (FP.dsub (4607182418800017408 : UInt64) sh) (FP.dsub (4607182418800017408 : UInt64) sh))) (n3 : Jvm.Free.Fl.NoNaN64 (FP.dsub (4607182418800017408 : UInt64) (FP.dmul (FP.dsub (4607182418800017408 : UInt64) sh) (FP.dsub (4607182418800017408 : UInt64) sh)))) (m1 : Jvm.Free.Fl.NoNaN64 (FP.dmul (FP.dsub (4607182418800017408 : UInt64) (FP.dmul (FP.dsub (4607182418800017408 : UInt64) sh) (FP.dsub (4607182418800017408 : UInt64) sh))) (FP.dsub (4607182418800017408 : UInt64) (FP.dmul (FP.dsub (4607182418800017408 : UInt64) sh) (FP.dsub (4607182418800017408 : UInt64) sh))))) (m2 : Jvm.Free.Fl.NoNaN64 (FP.dmul (FP.dmul (FP.dsub (4607182418800017408 : UInt64) (FP.dmul (FP.dsub (4607182418800017408 : UInt64) sh) (FP.dsub (4607182418800017408 : UInt64) sh))) (FP.dsub (4607182418800017408 : UInt64) (FP.dmul (FP.dsub (4607182418800017408 : UInt64) sh) (FP.dsub (4607182418800017408 : UInt64) sh)))) (FP.dsub (4607182418800017408 : UInt64) (FP.dmul (FP.dsub (4607182418800017408 : UInt64) sh) (FP.dsub (4607182418800017408 : UInt64) sh))))) (m3 : Jvm.Free.Fl.NoNaN64 (FP.dmul (FP.dmul (FP.dmul (FP.dsub (4607182418800017408 : UInt64) (FP.dmul (FP.dsub (4607182418800017408 : UInt64) sh) (FP.dsub (4607182418800017408 : UInt64) sh))) (FP.dsub (4607182418800017408 : UInt64) (FP.dmul (FP.dsub (4607182418800017408 : UInt64) sh) (FP.dsub (4607182418800017408 : UInt64) sh)))) (FP.dsub (4607182418800017408 : UInt64) (FP.dmul (FP.dsub (4607182418800017408 : UInt64) sh) (FP.dsub (4607182418800017408 : UInt64) sh)))) (FP.dsub (4607182418800017408 : UInt64) (FP.dmul (FP.dsub (4607182418800017408 : UInt64) sh) (FP.dsub (4607182418800017408 : UInt64) sh))))) (m4 : Jvm.Free.Fl.NoNaN64 (FP.dmul (FP.dmul (FP.dmul (FP.dmul (FP.dsub (4607182418800017408 : UInt64) (FP.dmul (FP.dsub (4607182418800017408 : UInt64) sh) (FP.dsub (4607182418800017408 : UInt64) sh))) (FP.dsub (4607182418800017408 : UInt64) (FP.dmul (FP.dsub (4607182418800017408 : UInt64) sh) (FP.dsub (4607182418800017408 : UInt64) sh)))) (FP.dsub (4607182418800017408 : UInt64) (FP.dmul (FP.dsub (4607182418800017408 : UInt64) sh) (FP.dsub (4607182418800017408 : UInt64) sh)))) (FP.dsub (4607182418800017408 : UInt64) (FP.dmul (FP.dsub (4607182418800017408 : UInt64) sh) (FP.dsub (4607182418800017408 : UInt64) sh)))) (FP.dsub (4607182418800017408 : UInt64) (FP.dmul (FP.dsub (4607182418800017408 : UInt64) sh) (FP.dsub (4607182418800017408 : UInt64) sh))))) (m5 : Jvm.Free.Fl.NoNaN64 (FP.dmul (FP.dmul (FP.dmul (FP.dmul (FP.dmul (FP.dsub (4607182418800017408 : UInt64) (FP.dmul (FP.dsub (4607182418800017408 : UInt64) sh) (FP.dsub (4607182418800017408 : UInt64) sh))) (FP.dsub (4607182418800017408 : UInt64) (FP.dmul (FP.dsub (4607182418800017408 : UInt64) sh) (FP.dsub (4607182418800017408 : UInt64) sh)))) (FP.dsub (4607182418800017408 : UInt64) (FP.dmul (FP.dsub (4607182418800017408 : UInt64) sh) (FP.dsub (4607182418800017408 : UInt64) sh)))) (FP.dsub (4607182418800017408 : UInt64) (FP.dmul (FP.dsub (4607182418800017408 : UInt64) sh) (FP.dsub (4607182418800017408 : UInt64) sh)))) (FP.dsub (4607182418800017408 : UInt64) (FP.dmul (FP.dsub (4607182418800017408 : UInt64) sh) (FP.dsub (4607182418800017408 : UInt64) sh)))) (FP.dsub (4607182418800017408 : UInt64) (FP.dmul (FP.dsub (4607182418800017408 : UInt64) sh) (FP.dsub (4607182418800017408 : UInt64) sh))))) (m6 : Jvm.Free.Fl.NoNaN64 (FP.dmul (FP.dmul (FP.dmul (FP.dmul (FP.dmul (FP.dmul (FP.dsub (4607182418800017408 : UInt64) (FP.dmul (FP.dsub (4607182418800017408 : UInt64) sh) (FP.dsub (4607182418800017408 : UInt64) sh))) (FP.dsub (4607182418800017408 : UInt64) (FP.dmul (FP.dsub (4607182418800017408 : UInt64) sh) (FP.dsub (4607182418800017408 : UInt64) sh)))) (FP.dsub (4607182418800017408 : UInt64) (FP.dmul (FP.dsub (4607182418800017408 : UInt64) sh) (FP.dsub (4607182418800017408 : UInt64) sh)))) (FP.dsub (4607182418800017408 : UInt64) (FP.dmul (FP.dsub (4607182418800017408 : UInt64) sh) (FP.dsub (4607182418800017408 : UInt64) sh)))) (FP.dsub (4607182418800017408 : UInt64) (FP.dmul (FP.dsub (4607182418800017408 : UInt64) sh) (FP.dsub (4607182418800017408 : UInt64) sh)))) (FP.dsub (4607182418800017408 : UInt64) (FP.dmul (FP.dsub (4607182418800017408 : UInt64) sh) (FP.dsub (4607182418800017408 : UInt64) sh)))) (FP.dsub (4607182418800017408 : UInt64) (FP.dmul (FP.dsub (4607182418800017408 : UInt64) sh) (FP.dsub (4607182418800017408 : UInt64) sh))))) (m7 : Jvm.Free.Fl.NoNaN64 (FP.dmul (FP.dmul (FP.dmul (FP.dmul (FP.dmul (FP.dmul (FP.dmul (FP.dsub (4607182418800017408 : UInt64) (FP.dmul (FP.dsub (4607182418800017408 : UInt64) sh) (FP.dsub (4607182418800017408 : UInt64) sh))) (FP.dsub (4607182418800017408 : UInt64) (FP.dmul (FP.dsub (4607182418800017408 : UInt64) sh) (FP.dsub (4607182418800017408 : UInt64) sh)))) (FP.dsub (4607182418800017408 : UInt64) (FP.dmul (FP.dsub (4607182418800017408 : UInt64) sh) (FP.dsub (4607182418800017408 : UInt64) sh)))) (FP.dsub (4607182418800017408 : UInt64) (FP.dmul (FP.dsub (4607182418800017408 : UInt64) sh) (FP.dsub (4607182418800017408 : UInt64) sh)))) (FP.dsub (4607182418800017408 : UInt64) (FP.dmul (FP.dsub (4607182418800017408 : UInt64) sh) (FP.dsub (4607182418800017408 : UInt64) sh)))) (FP.dsub (4607182418800017408 : UInt64) (FP.dmul (FP.dsub (4607182418800017408 : UInt64) sh) (FP.dsub (4607182418800017408 : UInt64) sh)))) (FP.dsub (4607182418800017408 : UInt64) (FP.dmul (FP.dsub (4607182418800017408 : UInt64) sh) (FP.dsub (4607182418800017408 : UInt64) sh)))) (FP.dsub (4607182418800017408 : UInt64) (FP.dmul (FP.dsub (4607182418800017408 : UInt64) sh) (FP.dsub (4607182418800017408 : UInt64) sh))))) :
    MetFree l (⟨"com/example/gallant_courier/gallantcourier/core/LossRate", "waitsPerDoubling", "()I"⟩ : MethodName) (head1 (Jvm.Cond.code (⟨"com/example/gallant_courier/gallantcourier/core/LossRate", "waitsPerDoubling", "()I"⟩ : MethodName) prog_20_method_3_code 6 (some .int) :: ws) ({ frames := 0, cells := 0, slots := 0, locals := 0 } : Room)) (fun a U => a = #[(.ref a0)] ∧ Z.Warmed39 U.vm ∧ U.heap = h0) (fun _ _ _ _ _ => True) (fun _ U o U' => ∃ v L, o = .returned v ∧ Q3 Z a0 sh sa h0 n0 v U'.heap L ∧ FrameEnd U o U' L ({ frames := 0, cells := 0, slots := 0, locals := 0 } : Room).cells ({ frames := 0, cells := 0, slots := 0, locals := 0 } : Room).slots) := by
  refine MetFree.of_bodySF (plainFor_of_name pn_com_example_gallant_courier_gallantcourier_core_LossRate) hisR ?_
  intro p e s m args below meth c s₁ Bd hml0 hP hK
  obtain ⟨rfl, hZ, hh⟩ := hP
  have hx := Bd.exec
  have hby := Bd.bytes
  have hlk := Bd.notSynchronized
  have hml : c.maxLocals = 6 := hml0
  have hown : s.vm.findClass "com/example/gallant_courier/gallantcourier/core/LossRate" = some m.cls := findClass_of_methodNamed Bd.named
  have hnm := (name_of_methodNamed Bd.named Bd.method).1
  have X0 : Stand p l e ({ frames := 0, cells := 0, slots := 0, locals := 0 } : Room) s m #[(.ref a0)] below meth c s₁ [] 0 0 := Stand.of_body Bd
  have e0 : s₁.heap = h0 := by rw [← hh, Bd.state]; rfl
  have N0 := Fr.nil n0
  show Gl p e below (Ret s 0 0 (Q3 Z a0 sh sa h0 n0)) (s₁.setTop (entryFrame m #[(.ref a0)] 6))
  rw [ef3 m a0]
  obtain ⟨args, hargs⟩ : ∃ z : Array Value, z = #[(.ref a0)] := ⟨_, rfl⟩
  rw [← hargs] at X0
  refine Gl.up (B := s₁.setTop (mkF m 3 #[.val (.ref a0), .unset, .unset, .unset, .unset, .unset] [(.ref a0), (.double (4607182418800017408 : UInt64)), (.double (4607182418800017408 : UInt64))])) (fun t kt => ?_) ?_
  · refine XS.dconst1 X0.here hx rfl (hb hby d3_0) (v := (4607182418800017408 : UInt64)) (by decide +kernel) ?_
    show Steps p.tables e below (s₁.setTop (mkF m 1 #[.val (.ref a0), .unset, .unset, .unset, .unset, .unset] [(.double (4607182418800017408 : UInt64))])) _
    refine XS.dconst1 X0.here hx rfl (hb hby d3_1) (v := (4607182418800017408 : UInt64)) (by decide +kernel) ?_
    show Steps p.tables e below (s₁.setTop (mkF m 2 #[.val (.ref a0), .unset, .unset, .unset, .unset, .unset] [(.double (4607182418800017408 : UInt64)), (.double (4607182418800017408 : UInt64))])) _
    refine XS.aloadN X0.here hx rfl (hb hby d3_2) rfl rfl ?_
    exact kt
  obtain ⟨T1, X1, e1, st1⟩ := getF X0 hx hZ hown (host := "") (Or.inl (hw _ (List.mem_of_getElem? (i := 20) rfl))) Via.refl e0 F_a0_share (g := (mkF m 3 #[.val (.ref a0), .unset, .unset, .unset, .unset, .unset] [(.ref a0), (.double (4607182418800017408 : UInt64)), (.double (4607182418800017408 : UInt64))])) rfl rfl (hb hby d3_3)
  refine Gl.up (B := T1.setTop (mkF m 6 #[.val (.ref a0), .unset, .unset, .unset, .unset, .unset] [(.double sh), (.double (4607182418800017408 : UInt64)), (.double (4607182418800017408 : UInt64))])) (fun t kt => st1 _ kt) ?_
  refine Gl.up (B := T1.setTop (mkF m 9 #[.val (.ref a0), .unset, .unset, .unset, .unset, .unset] [(.ref a0), (.double (4607182418800017408 : UInt64)), (.double (FP.dsub (4607182418800017408 : UInt64) sh)), (.double (4607182418800017408 : UInt64))])) (fun t kt => ?_) ?_
  · refine XS.dsubS X1.here hx rfl (hb hby d3_6) rfl n1 rfl ?_
    show Steps p.tables e below (T1.setTop (mkF m 7 #[.val (.ref a0), .unset, .unset, .unset, .unset, .unset] [(.double (FP.dsub (4607182418800017408 : UInt64) sh)), (.double (4607182418800017408 : UInt64))])) _
    refine XS.dconst1 X1.here hx rfl (hb hby d3_7) (v := (4607182418800017408 : UInt64)) (by decide +kernel) ?_
    show Steps p.tables e below (T1.setTop (mkF m 8 #[.val (.ref a0), .unset, .unset, .unset, .unset, .unset] [(.double (4607182418800017408 : UInt64)), (.double (FP.dsub (4607182418800017408 : UInt64) sh)), (.double (4607182418800017408 : UInt64))])) _
    refine XS.aloadN X1.here hx rfl (hb hby d3_8) rfl rfl ?_
    exact kt
  obtain ⟨T2, X2, e2, st2⟩ := getF X1 hx hZ hown (host := "") (Or.inl (hw _ (List.mem_of_getElem? (i := 20) rfl))) Via.refl e1 F_a0_share (g := (mkF m 9 #[.val (.ref a0), .unset, .unset, .unset, .unset, .unset] [(.ref a0), (.double (4607182418800017408 : UInt64)), (.double (FP.dsub (4607182418800017408 : UInt64) sh)), (.double (4607182418800017408 : UInt64))])) rfl rfl (hb hby d3_9)
  refine Gl.up (B := T2.setTop (mkF m 12 #[.val (.ref a0), .unset, .unset, .unset, .unset, .unset] [(.double sh), (.double (4607182418800017408 : UInt64)), (.double (FP.dsub (4607182418800017408 : UInt64) sh)), (.double (4607182418800017408 : UInt64))])) (fun t kt => st2 _ kt) ?_
  refine Gl.up (B := T2.setTop (mkF m 15 #[.val (.ref a0), .unset, .unset, .unset, .unset, .unset] [(.double (FP.dsub (4607182418800017408 : UInt64) (FP.dmul (FP.dsub (4607182418800017408 : UInt64) sh) (FP.dsub (4607182418800017408 : UInt64) sh))))])) (fun t kt => ?_) ?_
  · refine XS.dsubS X2.here hx rfl (hb hby d3_12) rfl n1 rfl ?_
    show Steps p.tables e below (T2.setTop (mkF m 13 #[.val (.ref a0), .unset, .unset, .unset, .unset, .unset] [(.double (FP.dsub (4607182418800017408 : UInt64) sh)), (.double (FP.dsub (4607182418800017408 : UInt64) sh)), (.double (4607182418800017408 : UInt64))])) _
    refine XS.dmulS X2.here hx rfl (hb hby d3_13) rfl n2 rfl ?_
    show Steps p.tables e below (T2.setTop (mkF m 14 #[.val (.ref a0), .unset, .unset, .unset, .unset, .unset] [(.double (FP.dmul (FP.dsub (4607182418800017408 : UInt64) sh) (FP.dsub (4607182418800017408 : UInt64) sh))), (.double (4607182418800017408 : UInt64))])) _
    refine XS.dsubS X2.here hx rfl (hb hby d3_14) rfl n3 rfl ?_
    exact kt
  obtain ⟨u3, hu3⟩ : ∃ q : UInt64, q = (FP.dsub (4607182418800017408 : UInt64) (FP.dmul (FP.dsub (4607182418800017408 : UInt64) sh) (FP.dsub (4607182418800017408 : UInt64) sh))) := ⟨_, rfl⟩
  rw [← hu3]
  refine Gl.up (B := T2.setTop (mkF m 27 #[.val (.ref a0), .val (.double u3), .second, .val (.int (1 : Int32)), .val (.double u3), .second] [(.int (cmpValue (FP.dcmp u3 (4580160821035794432 : UInt64)) .l))])) (fun t kt => ?_) ?_
  · refine XS.dstoreN X2.here hx rfl (hb hby d3_15) rfl (l' := #[.val (.ref a0), .val (.double u3), .second, .unset, .unset, .unset]) rfl ?_
    show Steps p.tables e below (T2.setTop (mkF m 16 #[.val (.ref a0), .val (.double u3), .second, .unset, .unset, .unset] [])) _
    refine XS.iconst X2.here hx rfl (hb hby d3_16) ?_
    show Steps p.tables e below (T2.setTop (mkF m 17 #[.val (.ref a0), .val (.double u3), .second, .unset, .unset, .unset] [(.int (1 : Int32))])) _
    refine XS.istoreN X2.here hx rfl (hb hby d3_17) rfl (l' := #[.val (.ref a0), .val (.double u3), .second, .val (.int (1 : Int32)), .unset, .unset]) rfl ?_
    show Steps p.tables e below (T2.setTop (mkF m 18 #[.val (.ref a0), .val (.double u3), .second, .val (.int (1 : Int32)), .unset, .unset] [])) _
    refine XS.dloadN X2.here hx rfl (hb hby d3_18) rfl ?_
    show Steps p.tables e below (T2.setTop (mkF m 19 #[.val (.ref a0), .val (.double u3), .second, .val (.int (1 : Int32)), .unset, .unset] [(.double u3)])) _
    refine XS.dstore X2.here hx rfl (hb hby d3_19) rfl (l' := #[.val (.ref a0), .val (.double u3), .second, .val (.int (1 : Int32)), .val (.double u3), .second]) rfl ?_
    show Steps p.tables e below (T2.setTop (mkF m 21 #[.val (.ref a0), .val (.double u3), .second, .val (.int (1 : Int32)), .val (.double u3), .second] [])) _
    refine XS.dload X2.here hx rfl (hb hby d3_21) rfl ?_
    show Steps p.tables e below (T2.setTop (mkF m 23 #[.val (.ref a0), .val (.double u3), .second, .val (.int (1 : Int32)), .val (.double u3), .second] [(.double u3)])) _
    refine X2.ldc2DoubleC hx hown (mvT hZ (hw _ (List.mem_of_getElem? (i := 27) rfl))) (g := (mkF m 23 #[.val (.ref a0), .val (.double u3), .second, .val (.int (1 : Int32)), .val (.double u3), .second] [(.double u3)])) rfl (hb hby d3_23) _ ?_
    show Steps p.tables e below (T2.setTop (mkF m 26 #[.val (.ref a0), .val (.double u3), .second, .val (.int (1 : Int32)), .val (.double u3), .second] [(.double (4580160821035794432 : UInt64)), (.double u3)])) _
    refine XS.dcmpS X2.here hx rfl (hb hby d3_26) rfl rfl ?_
    exact kt
  by_cases c27_4 : (cmpValue (FP.dcmp u3 (4580160821035794432 : UInt64)) .l) < (0 : Int32)
  · refine Gl.up (B := T2.setTop (mkF m 49 #[.val (.ref a0), .val (.double u3), .second, .val (.int (1 : Int32)), .val (.double u3), .second] [(.int (1 : Int32))])) (fun t kt => ?_) ?_
    · refine XS.ifYes X2.here hx rfl (pc0 := 27) (pc' := 48) rfl (hb hby d3_27) rfl ((if0 _ _).trans (tlt c27_4).1) (by decide) (by decide) ?_
      show Steps p.tables e below (T2.setTop (mkF m 48 #[.val (.ref a0), .val (.double u3), .second, .val (.int (1 : Int32)), .val (.double u3), .second] [])) _
      refine XS.iloadN X2.here hx rfl (hb hby d3_48) rfl ?_
      exact kt
    refine Gl.retI X2 hx hlk Bd.returns (hb hby d3_49) ?_ (by decide) (by decide)
    subst hu3; exact ⟨congrArg (fun z => some (Value.int z)) (show (1 : Int32) = f3 sh sa from (if_pos c27_4).symm), rfl, e2⟩
  · refine Gl.up (B := T2.setTop (mkF m 27 #[.val (.ref a0), .val (.double u3), .second, .val (.int (2 : Int32)), .val (.double (FP.dmul u3 u3)), .second] [(.int (cmpValue (FP.dcmp (FP.dmul u3 u3) (4580160821035794432 : UInt64)) .l))])) (fun t kt => ?_) ?_
    · refine XS.ifNo X2.here hx rfl (hb hby d3_27) rfl ((if0 _ _).trans (flt c27_4).1) ?_
      show Steps p.tables e below (T2.setTop (mkF m 30 #[.val (.ref a0), .val (.double u3), .second, .val (.int (1 : Int32)), .val (.double u3), .second] [])) _
      refine XS.iloadN X2.here hx rfl (hb hby d3_30) rfl ?_
      show Steps p.tables e below (T2.setTop (mkF m 31 #[.val (.ref a0), .val (.double u3), .second, .val (.int (1 : Int32)), .val (.double u3), .second] [(.int (1 : Int32))])) _
      refine XS.bipush X2.here hx rfl (hb hby d3_31) ?_
      show Steps p.tables e below (T2.setTop (mkF m 33 #[.val (.ref a0), .val (.double u3), .second, .val (.int (1 : Int32)), .val (.double u3), .second] [(.int (8 : Int32)), (.int (1 : Int32))])) _
      refine XS.icmpNo X2.here hx rfl (hb hby d3_33) rfl (tlt (by decide : (1 : Int32) < (8 : Int32))).2.1 ?_
      show Steps p.tables e below (T2.setTop (mkF m 36 #[.val (.ref a0), .val (.double u3), .second, .val (.int (1 : Int32)), .val (.double u3), .second] [])) _
      refine XS.dload X2.here hx rfl (hb hby d3_36) rfl ?_
      show Steps p.tables e below (T2.setTop (mkF m 38 #[.val (.ref a0), .val (.double u3), .second, .val (.int (1 : Int32)), .val (.double u3), .second] [(.double u3)])) _
      refine XS.dloadN X2.here hx rfl (hb hby d3_38) rfl ?_
      show Steps p.tables e below (T2.setTop (mkF m 39 #[.val (.ref a0), .val (.double u3), .second, .val (.int (1 : Int32)), .val (.double u3), .second] [(.double u3), (.double u3)])) _
      refine XS.dmulS X2.here hx rfl (hb hby d3_39) rfl (by simp only [hu3]; exact m1) rfl ?_
      show Steps p.tables e below (T2.setTop (mkF m 40 #[.val (.ref a0), .val (.double u3), .second, .val (.int (1 : Int32)), .val (.double u3), .second] [(.double (FP.dmul u3 u3))])) _
      refine XS.dstore X2.here hx rfl (hb hby d3_40) rfl (l' := #[.val (.ref a0), .val (.double u3), .second, .val (.int (1 : Int32)), .val (.double (FP.dmul u3 u3)), .second]) rfl ?_
      show Steps p.tables e below (T2.setTop (mkF m 42 #[.val (.ref a0), .val (.double u3), .second, .val (.int (1 : Int32)), .val (.double (FP.dmul u3 u3)), .second] [])) _
      refine XS.iinc X2.here hx rfl (hb hby d3_42) rfl (l' := #[.val (.ref a0), .val (.double u3), .second, .val (.int (2 : Int32)), .val (.double (FP.dmul u3 u3)), .second]) rfl ?_
      show Steps p.tables e below (T2.setTop (mkF m 45 #[.val (.ref a0), .val (.double u3), .second, .val (.int (2 : Int32)), .val (.double (FP.dmul u3 u3)), .second] [])) _
      refine XS.goto X2.here hx rfl (pc0 := 45) (pc' := 21) rfl (hb hby d3_45) (by decide) (by decide) ?_
      show Steps p.tables e below (T2.setTop (mkF m 21 #[.val (.ref a0), .val (.double u3), .second, .val (.int (2 : Int32)), .val (.double (FP.dmul u3 u3)), .second] [])) _
      refine XS.dload X2.here hx rfl (hb hby d3_21) rfl ?_
      show Steps p.tables e below (T2.setTop (mkF m 23 #[.val (.ref a0), .val (.double u3), .second, .val (.int (2 : Int32)), .val (.double (FP.dmul u3 u3)), .second] [(.double (FP.dmul u3 u3))])) _
      refine X2.ldc2DoubleC hx hown (mvT hZ (hw _ (List.mem_of_getElem? (i := 27) rfl))) (g := (mkF m 23 #[.val (.ref a0), .val (.double u3), .second, .val (.int (2 : Int32)), .val (.double (FP.dmul u3 u3)), .second] [(.double (FP.dmul u3 u3))])) rfl (hb hby d3_23) _ ?_
      show Steps p.tables e below (T2.setTop (mkF m 26 #[.val (.ref a0), .val (.double u3), .second, .val (.int (2 : Int32)), .val (.double (FP.dmul u3 u3)), .second] [(.double (4580160821035794432 : UInt64)), (.double (FP.dmul u3 u3))])) _
      refine XS.dcmpS X2.here hx rfl (hb hby d3_26) rfl rfl ?_
      exact kt
    by_cases c27_5 : (cmpValue (FP.dcmp (FP.dmul u3 u3) (4580160821035794432 : UInt64)) .l) < (0 : Int32)
    · refine Gl.up (B := T2.setTop (mkF m 49 #[.val (.ref a0), .val (.double u3), .second, .val (.int (2 : Int32)), .val (.double (FP.dmul u3 u3)), .second] [(.int (2 : Int32))])) (fun t kt => ?_) ?_
      · refine XS.ifYes X2.here hx rfl (pc0 := 27) (pc' := 48) rfl (hb hby d3_27) rfl ((if0 _ _).trans (tlt c27_5).1) (by decide) (by decide) ?_
        show Steps p.tables e below (T2.setTop (mkF m 48 #[.val (.ref a0), .val (.double u3), .second, .val (.int (2 : Int32)), .val (.double (FP.dmul u3 u3)), .second] [])) _
        refine XS.iloadN X2.here hx rfl (hb hby d3_48) rfl ?_
        exact kt
      refine Gl.retI X2 hx hlk Bd.returns (hb hby d3_49) ?_ (by decide) (by decide)
      subst hu3; exact ⟨congrArg (fun z => some (Value.int z)) (show (2 : Int32) = f3 sh sa from ((if_neg c27_4).trans (if_pos c27_5)).symm), rfl, e2⟩
    · refine Gl.up (B := T2.setTop (mkF m 40 #[.val (.ref a0), .val (.double u3), .second, .val (.int (2 : Int32)), .val (.double (FP.dmul u3 u3)), .second] [(.double (FP.dmul (FP.dmul u3 u3) u3))])) (fun t kt => ?_) ?_
      · refine XS.ifNo X2.here hx rfl (hb hby d3_27) rfl ((if0 _ _).trans (flt c27_5).1) ?_
        show Steps p.tables e below (T2.setTop (mkF m 30 #[.val (.ref a0), .val (.double u3), .second, .val (.int (2 : Int32)), .val (.double (FP.dmul u3 u3)), .second] [])) _
        refine XS.iloadN X2.here hx rfl (hb hby d3_30) rfl ?_
        show Steps p.tables e below (T2.setTop (mkF m 31 #[.val (.ref a0), .val (.double u3), .second, .val (.int (2 : Int32)), .val (.double (FP.dmul u3 u3)), .second] [(.int (2 : Int32))])) _
        refine XS.bipush X2.here hx rfl (hb hby d3_31) ?_
        show Steps p.tables e below (T2.setTop (mkF m 33 #[.val (.ref a0), .val (.double u3), .second, .val (.int (2 : Int32)), .val (.double (FP.dmul u3 u3)), .second] [(.int (8 : Int32)), (.int (2 : Int32))])) _
        refine XS.icmpNo X2.here hx rfl (hb hby d3_33) rfl (tlt (by decide : (2 : Int32) < (8 : Int32))).2.1 ?_
        show Steps p.tables e below (T2.setTop (mkF m 36 #[.val (.ref a0), .val (.double u3), .second, .val (.int (2 : Int32)), .val (.double (FP.dmul u3 u3)), .second] [])) _
        refine XS.dload X2.here hx rfl (hb hby d3_36) rfl ?_
        show Steps p.tables e below (T2.setTop (mkF m 38 #[.val (.ref a0), .val (.double u3), .second, .val (.int (2 : Int32)), .val (.double (FP.dmul u3 u3)), .second] [(.double (FP.dmul u3 u3))])) _
        refine XS.dloadN X2.here hx rfl (hb hby d3_38) rfl ?_
        show Steps p.tables e below (T2.setTop (mkF m 39 #[.val (.ref a0), .val (.double u3), .second, .val (.int (2 : Int32)), .val (.double (FP.dmul u3 u3)), .second] [(.double u3), (.double (FP.dmul u3 u3))])) _
        refine XS.dmulS X2.here hx rfl (hb hby d3_39) rfl (by simp only [hu3]; exact m2) rfl ?_
        exact kt
      obtain ⟨u6, hu6⟩ : ∃ q : UInt64, q = (FP.dmul (FP.dmul u3 u3) u3) := ⟨_, rfl⟩
      rw [← hu6]
      refine Gl.up (B := T2.setTop (mkF m 27 #[.val (.ref a0), .val (.double u3), .second, .val (.int (3 : Int32)), .val (.double u6), .second] [(.int (cmpValue (FP.dcmp u6 (4580160821035794432 : UInt64)) .l))])) (fun t kt => ?_) ?_
      · refine XS.dstore X2.here hx rfl (hb hby d3_40) rfl (l' := #[.val (.ref a0), .val (.double u3), .second, .val (.int (2 : Int32)), .val (.double u6), .second]) rfl ?_
        show Steps p.tables e below (T2.setTop (mkF m 42 #[.val (.ref a0), .val (.double u3), .second, .val (.int (2 : Int32)), .val (.double u6), .second] [])) _
        refine XS.iinc X2.here hx rfl (hb hby d3_42) rfl (l' := #[.val (.ref a0), .val (.double u3), .second, .val (.int (3 : Int32)), .val (.double u6), .second]) rfl ?_
        show Steps p.tables e below (T2.setTop (mkF m 45 #[.val (.ref a0), .val (.double u3), .second, .val (.int (3 : Int32)), .val (.double u6), .second] [])) _
        refine XS.goto X2.here hx rfl (pc0 := 45) (pc' := 21) rfl (hb hby d3_45) (by decide) (by decide) ?_
        show Steps p.tables e below (T2.setTop (mkF m 21 #[.val (.ref a0), .val (.double u3), .second, .val (.int (3 : Int32)), .val (.double u6), .second] [])) _
        refine XS.dload X2.here hx rfl (hb hby d3_21) rfl ?_
        show Steps p.tables e below (T2.setTop (mkF m 23 #[.val (.ref a0), .val (.double u3), .second, .val (.int (3 : Int32)), .val (.double u6), .second] [(.double u6)])) _
        refine X2.ldc2DoubleC hx hown (mvT hZ (hw _ (List.mem_of_getElem? (i := 27) rfl))) (g := (mkF m 23 #[.val (.ref a0), .val (.double u3), .second, .val (.int (3 : Int32)), .val (.double u6), .second] [(.double u6)])) rfl (hb hby d3_23) _ ?_
        show Steps p.tables e below (T2.setTop (mkF m 26 #[.val (.ref a0), .val (.double u3), .second, .val (.int (3 : Int32)), .val (.double u6), .second] [(.double (4580160821035794432 : UInt64)), (.double u6)])) _
        refine XS.dcmpS X2.here hx rfl (hb hby d3_26) rfl rfl ?_
        exact kt
      by_cases c27_7 : (cmpValue (FP.dcmp u6 (4580160821035794432 : UInt64)) .l) < (0 : Int32)
      · refine Gl.up (B := T2.setTop (mkF m 49 #[.val (.ref a0), .val (.double u3), .second, .val (.int (3 : Int32)), .val (.double u6), .second] [(.int (3 : Int32))])) (fun t kt => ?_) ?_
        · refine XS.ifYes X2.here hx rfl (pc0 := 27) (pc' := 48) rfl (hb hby d3_27) rfl ((if0 _ _).trans (tlt c27_7).1) (by decide) (by decide) ?_
          show Steps p.tables e below (T2.setTop (mkF m 48 #[.val (.ref a0), .val (.double u3), .second, .val (.int (3 : Int32)), .val (.double u6), .second] [])) _
          refine XS.iloadN X2.here hx rfl (hb hby d3_48) rfl ?_
          exact kt
        refine Gl.retI X2 hx hlk Bd.returns (hb hby d3_49) ?_ (by decide) (by decide)
        subst hu6 hu3; exact ⟨congrArg (fun z => some (Value.int z)) (show (3 : Int32) = f3 sh sa from (((if_neg c27_4).trans (if_neg c27_5)).trans (if_pos c27_7)).symm), rfl, e2⟩
      · refine Gl.up (B := T2.setTop (mkF m 27 #[.val (.ref a0), .val (.double u3), .second, .val (.int (4 : Int32)), .val (.double (FP.dmul u6 u3)), .second] [(.int (cmpValue (FP.dcmp (FP.dmul u6 u3) (4580160821035794432 : UInt64)) .l))])) (fun t kt => ?_) ?_
        · refine XS.ifNo X2.here hx rfl (hb hby d3_27) rfl ((if0 _ _).trans (flt c27_7).1) ?_
          show Steps p.tables e below (T2.setTop (mkF m 30 #[.val (.ref a0), .val (.double u3), .second, .val (.int (3 : Int32)), .val (.double u6), .second] [])) _
          refine XS.iloadN X2.here hx rfl (hb hby d3_30) rfl ?_
          show Steps p.tables e below (T2.setTop (mkF m 31 #[.val (.ref a0), .val (.double u3), .second, .val (.int (3 : Int32)), .val (.double u6), .second] [(.int (3 : Int32))])) _
          refine XS.bipush X2.here hx rfl (hb hby d3_31) ?_
          show Steps p.tables e below (T2.setTop (mkF m 33 #[.val (.ref a0), .val (.double u3), .second, .val (.int (3 : Int32)), .val (.double u6), .second] [(.int (8 : Int32)), (.int (3 : Int32))])) _
          refine XS.icmpNo X2.here hx rfl (hb hby d3_33) rfl (tlt (by decide : (3 : Int32) < (8 : Int32))).2.1 ?_
          show Steps p.tables e below (T2.setTop (mkF m 36 #[.val (.ref a0), .val (.double u3), .second, .val (.int (3 : Int32)), .val (.double u6), .second] [])) _
          refine XS.dload X2.here hx rfl (hb hby d3_36) rfl ?_
          show Steps p.tables e below (T2.setTop (mkF m 38 #[.val (.ref a0), .val (.double u3), .second, .val (.int (3 : Int32)), .val (.double u6), .second] [(.double u6)])) _
          refine XS.dloadN X2.here hx rfl (hb hby d3_38) rfl ?_
          show Steps p.tables e below (T2.setTop (mkF m 39 #[.val (.ref a0), .val (.double u3), .second, .val (.int (3 : Int32)), .val (.double u6), .second] [(.double u3), (.double u6)])) _
          refine XS.dmulS X2.here hx rfl (hb hby d3_39) rfl (by simp only [hu3, hu6]; exact m3) rfl ?_
          show Steps p.tables e below (T2.setTop (mkF m 40 #[.val (.ref a0), .val (.double u3), .second, .val (.int (3 : Int32)), .val (.double u6), .second] [(.double (FP.dmul u6 u3))])) _
          refine XS.dstore X2.here hx rfl (hb hby d3_40) rfl (l' := #[.val (.ref a0), .val (.double u3), .second, .val (.int (3 : Int32)), .val (.double (FP.dmul u6 u3)), .second]) rfl ?_
          show Steps p.tables e below (T2.setTop (mkF m 42 #[.val (.ref a0), .val (.double u3), .second, .val (.int (3 : Int32)), .val (.double (FP.dmul u6 u3)), .second] [])) _
          refine XS.iinc X2.here hx rfl (hb hby d3_42) rfl (l' := #[.val (.ref a0), .val (.double u3), .second, .val (.int (4 : Int32)), .val (.double (FP.dmul u6 u3)), .second]) rfl ?_
          show Steps p.tables e below (T2.setTop (mkF m 45 #[.val (.ref a0), .val (.double u3), .second, .val (.int (4 : Int32)), .val (.double (FP.dmul u6 u3)), .second] [])) _
          refine XS.goto X2.here hx rfl (pc0 := 45) (pc' := 21) rfl (hb hby d3_45) (by decide) (by decide) ?_
          show Steps p.tables e below (T2.setTop (mkF m 21 #[.val (.ref a0), .val (.double u3), .second, .val (.int (4 : Int32)), .val (.double (FP.dmul u6 u3)), .second] [])) _
          refine XS.dload X2.here hx rfl (hb hby d3_21) rfl ?_
          show Steps p.tables e below (T2.setTop (mkF m 23 #[.val (.ref a0), .val (.double u3), .second, .val (.int (4 : Int32)), .val (.double (FP.dmul u6 u3)), .second] [(.double (FP.dmul u6 u3))])) _
          refine X2.ldc2DoubleC hx hown (mvT hZ (hw _ (List.mem_of_getElem? (i := 27) rfl))) (g := (mkF m 23 #[.val (.ref a0), .val (.double u3), .second, .val (.int (4 : Int32)), .val (.double (FP.dmul u6 u3)), .second] [(.double (FP.dmul u6 u3))])) rfl (hb hby d3_23) _ ?_
          show Steps p.tables e below (T2.setTop (mkF m 26 #[.val (.ref a0), .val (.double u3), .second, .val (.int (4 : Int32)), .val (.double (FP.dmul u6 u3)), .second] [(.double (4580160821035794432 : UInt64)), (.double (FP.dmul u6 u3))])) _
          refine XS.dcmpS X2.here hx rfl (hb hby d3_26) rfl rfl ?_
          exact kt
        by_cases c27_8 : (cmpValue (FP.dcmp (FP.dmul u6 u3) (4580160821035794432 : UInt64)) .l) < (0 : Int32)
        · refine Gl.up (B := T2.setTop (mkF m 49 #[.val (.ref a0), .val (.double u3), .second, .val (.int (4 : Int32)), .val (.double (FP.dmul u6 u3)), .second] [(.int (4 : Int32))])) (fun t kt => ?_) ?_
          · refine XS.ifYes X2.here hx rfl (pc0 := 27) (pc' := 48) rfl (hb hby d3_27) rfl ((if0 _ _).trans (tlt c27_8).1) (by decide) (by decide) ?_
            show Steps p.tables e below (T2.setTop (mkF m 48 #[.val (.ref a0), .val (.double u3), .second, .val (.int (4 : Int32)), .val (.double (FP.dmul u6 u3)), .second] [])) _
            refine XS.iloadN X2.here hx rfl (hb hby d3_48) rfl ?_
            exact kt
          refine Gl.retI X2 hx hlk Bd.returns (hb hby d3_49) ?_ (by decide) (by decide)
          subst hu6 hu3; exact ⟨congrArg (fun z => some (Value.int z)) (show (4 : Int32) = f3 sh sa from ((((if_neg c27_4).trans (if_neg c27_5)).trans (if_neg c27_7)).trans (if_pos c27_8)).symm), rfl, e2⟩
        · refine Gl.up (B := T2.setTop (mkF m 40 #[.val (.ref a0), .val (.double u3), .second, .val (.int (4 : Int32)), .val (.double (FP.dmul u6 u3)), .second] [(.double (FP.dmul (FP.dmul u6 u3) u3))])) (fun t kt => ?_) ?_
          · refine XS.ifNo X2.here hx rfl (hb hby d3_27) rfl ((if0 _ _).trans (flt c27_8).1) ?_
            show Steps p.tables e below (T2.setTop (mkF m 30 #[.val (.ref a0), .val (.double u3), .second, .val (.int (4 : Int32)), .val (.double (FP.dmul u6 u3)), .second] [])) _
            refine XS.iloadN X2.here hx rfl (hb hby d3_30) rfl ?_
            show Steps p.tables e below (T2.setTop (mkF m 31 #[.val (.ref a0), .val (.double u3), .second, .val (.int (4 : Int32)), .val (.double (FP.dmul u6 u3)), .second] [(.int (4 : Int32))])) _
            refine XS.bipush X2.here hx rfl (hb hby d3_31) ?_
            show Steps p.tables e below (T2.setTop (mkF m 33 #[.val (.ref a0), .val (.double u3), .second, .val (.int (4 : Int32)), .val (.double (FP.dmul u6 u3)), .second] [(.int (8 : Int32)), (.int (4 : Int32))])) _
            refine XS.icmpNo X2.here hx rfl (hb hby d3_33) rfl (tlt (by decide : (4 : Int32) < (8 : Int32))).2.1 ?_
            show Steps p.tables e below (T2.setTop (mkF m 36 #[.val (.ref a0), .val (.double u3), .second, .val (.int (4 : Int32)), .val (.double (FP.dmul u6 u3)), .second] [])) _
            refine XS.dload X2.here hx rfl (hb hby d3_36) rfl ?_
            show Steps p.tables e below (T2.setTop (mkF m 38 #[.val (.ref a0), .val (.double u3), .second, .val (.int (4 : Int32)), .val (.double (FP.dmul u6 u3)), .second] [(.double (FP.dmul u6 u3))])) _
            refine XS.dloadN X2.here hx rfl (hb hby d3_38) rfl ?_
            show Steps p.tables e below (T2.setTop (mkF m 39 #[.val (.ref a0), .val (.double u3), .second, .val (.int (4 : Int32)), .val (.double (FP.dmul u6 u3)), .second] [(.double u3), (.double (FP.dmul u6 u3))])) _
            refine XS.dmulS X2.here hx rfl (hb hby d3_39) rfl (by simp only [hu3, hu6]; exact m4) rfl ?_
            exact kt
          obtain ⟨u9, hu9⟩ : ∃ q : UInt64, q = (FP.dmul (FP.dmul u6 u3) u3) := ⟨_, rfl⟩
          rw [← hu9]
          refine Gl.up (B := T2.setTop (mkF m 27 #[.val (.ref a0), .val (.double u3), .second, .val (.int (5 : Int32)), .val (.double u9), .second] [(.int (cmpValue (FP.dcmp u9 (4580160821035794432 : UInt64)) .l))])) (fun t kt => ?_) ?_
          · refine XS.dstore X2.here hx rfl (hb hby d3_40) rfl (l' := #[.val (.ref a0), .val (.double u3), .second, .val (.int (4 : Int32)), .val (.double u9), .second]) rfl ?_
            show Steps p.tables e below (T2.setTop (mkF m 42 #[.val (.ref a0), .val (.double u3), .second, .val (.int (4 : Int32)), .val (.double u9), .second] [])) _
            refine XS.iinc X2.here hx rfl (hb hby d3_42) rfl (l' := #[.val (.ref a0), .val (.double u3), .second, .val (.int (5 : Int32)), .val (.double u9), .second]) rfl ?_
            show Steps p.tables e below (T2.setTop (mkF m 45 #[.val (.ref a0), .val (.double u3), .second, .val (.int (5 : Int32)), .val (.double u9), .second] [])) _
            refine XS.goto X2.here hx rfl (pc0 := 45) (pc' := 21) rfl (hb hby d3_45) (by decide) (by decide) ?_
            show Steps p.tables e below (T2.setTop (mkF m 21 #[.val (.ref a0), .val (.double u3), .second, .val (.int (5 : Int32)), .val (.double u9), .second] [])) _
            refine XS.dload X2.here hx rfl (hb hby d3_21) rfl ?_
            show Steps p.tables e below (T2.setTop (mkF m 23 #[.val (.ref a0), .val (.double u3), .second, .val (.int (5 : Int32)), .val (.double u9), .second] [(.double u9)])) _
            refine X2.ldc2DoubleC hx hown (mvT hZ (hw _ (List.mem_of_getElem? (i := 27) rfl))) (g := (mkF m 23 #[.val (.ref a0), .val (.double u3), .second, .val (.int (5 : Int32)), .val (.double u9), .second] [(.double u9)])) rfl (hb hby d3_23) _ ?_
            show Steps p.tables e below (T2.setTop (mkF m 26 #[.val (.ref a0), .val (.double u3), .second, .val (.int (5 : Int32)), .val (.double u9), .second] [(.double (4580160821035794432 : UInt64)), (.double u9)])) _
            refine XS.dcmpS X2.here hx rfl (hb hby d3_26) rfl rfl ?_
            exact kt
          by_cases c27_10 : (cmpValue (FP.dcmp u9 (4580160821035794432 : UInt64)) .l) < (0 : Int32)
          · refine Gl.up (B := T2.setTop (mkF m 49 #[.val (.ref a0), .val (.double u3), .second, .val (.int (5 : Int32)), .val (.double u9), .second] [(.int (5 : Int32))])) (fun t kt => ?_) ?_
            · refine XS.ifYes X2.here hx rfl (pc0 := 27) (pc' := 48) rfl (hb hby d3_27) rfl ((if0 _ _).trans (tlt c27_10).1) (by decide) (by decide) ?_
              show Steps p.tables e below (T2.setTop (mkF m 48 #[.val (.ref a0), .val (.double u3), .second, .val (.int (5 : Int32)), .val (.double u9), .second] [])) _
              refine XS.iloadN X2.here hx rfl (hb hby d3_48) rfl ?_
              exact kt
            refine Gl.retI X2 hx hlk Bd.returns (hb hby d3_49) ?_ (by decide) (by decide)
            subst hu9 hu6 hu3; exact ⟨congrArg (fun z => some (Value.int z)) (show (5 : Int32) = f3 sh sa from (((((if_neg c27_4).trans (if_neg c27_5)).trans (if_neg c27_7)).trans (if_neg c27_8)).trans (if_pos c27_10)).symm), rfl, e2⟩
          · refine Gl.up (B := T2.setTop (mkF m 27 #[.val (.ref a0), .val (.double u3), .second, .val (.int (6 : Int32)), .val (.double (FP.dmul u9 u3)), .second] [(.int (cmpValue (FP.dcmp (FP.dmul u9 u3) (4580160821035794432 : UInt64)) .l))])) (fun t kt => ?_) ?_
            · refine XS.ifNo X2.here hx rfl (hb hby d3_27) rfl ((if0 _ _).trans (flt c27_10).1) ?_
              show Steps p.tables e below (T2.setTop (mkF m 30 #[.val (.ref a0), .val (.double u3), .second, .val (.int (5 : Int32)), .val (.double u9), .second] [])) _
              refine XS.iloadN X2.here hx rfl (hb hby d3_30) rfl ?_
              show Steps p.tables e below (T2.setTop (mkF m 31 #[.val (.ref a0), .val (.double u3), .second, .val (.int (5 : Int32)), .val (.double u9), .second] [(.int (5 : Int32))])) _
              refine XS.bipush X2.here hx rfl (hb hby d3_31) ?_
              show Steps p.tables e below (T2.setTop (mkF m 33 #[.val (.ref a0), .val (.double u3), .second, .val (.int (5 : Int32)), .val (.double u9), .second] [(.int (8 : Int32)), (.int (5 : Int32))])) _
              refine XS.icmpNo X2.here hx rfl (hb hby d3_33) rfl (tlt (by decide : (5 : Int32) < (8 : Int32))).2.1 ?_
              show Steps p.tables e below (T2.setTop (mkF m 36 #[.val (.ref a0), .val (.double u3), .second, .val (.int (5 : Int32)), .val (.double u9), .second] [])) _
              refine XS.dload X2.here hx rfl (hb hby d3_36) rfl ?_
              show Steps p.tables e below (T2.setTop (mkF m 38 #[.val (.ref a0), .val (.double u3), .second, .val (.int (5 : Int32)), .val (.double u9), .second] [(.double u9)])) _
              refine XS.dloadN X2.here hx rfl (hb hby d3_38) rfl ?_
              show Steps p.tables e below (T2.setTop (mkF m 39 #[.val (.ref a0), .val (.double u3), .second, .val (.int (5 : Int32)), .val (.double u9), .second] [(.double u3), (.double u9)])) _
              refine XS.dmulS X2.here hx rfl (hb hby d3_39) rfl (by simp only [hu3, hu6, hu9]; exact m5) rfl ?_
              show Steps p.tables e below (T2.setTop (mkF m 40 #[.val (.ref a0), .val (.double u3), .second, .val (.int (5 : Int32)), .val (.double u9), .second] [(.double (FP.dmul u9 u3))])) _
              refine XS.dstore X2.here hx rfl (hb hby d3_40) rfl (l' := #[.val (.ref a0), .val (.double u3), .second, .val (.int (5 : Int32)), .val (.double (FP.dmul u9 u3)), .second]) rfl ?_
              show Steps p.tables e below (T2.setTop (mkF m 42 #[.val (.ref a0), .val (.double u3), .second, .val (.int (5 : Int32)), .val (.double (FP.dmul u9 u3)), .second] [])) _
              refine XS.iinc X2.here hx rfl (hb hby d3_42) rfl (l' := #[.val (.ref a0), .val (.double u3), .second, .val (.int (6 : Int32)), .val (.double (FP.dmul u9 u3)), .second]) rfl ?_
              show Steps p.tables e below (T2.setTop (mkF m 45 #[.val (.ref a0), .val (.double u3), .second, .val (.int (6 : Int32)), .val (.double (FP.dmul u9 u3)), .second] [])) _
              refine XS.goto X2.here hx rfl (pc0 := 45) (pc' := 21) rfl (hb hby d3_45) (by decide) (by decide) ?_
              show Steps p.tables e below (T2.setTop (mkF m 21 #[.val (.ref a0), .val (.double u3), .second, .val (.int (6 : Int32)), .val (.double (FP.dmul u9 u3)), .second] [])) _
              refine XS.dload X2.here hx rfl (hb hby d3_21) rfl ?_
              show Steps p.tables e below (T2.setTop (mkF m 23 #[.val (.ref a0), .val (.double u3), .second, .val (.int (6 : Int32)), .val (.double (FP.dmul u9 u3)), .second] [(.double (FP.dmul u9 u3))])) _
              refine X2.ldc2DoubleC hx hown (mvT hZ (hw _ (List.mem_of_getElem? (i := 27) rfl))) (g := (mkF m 23 #[.val (.ref a0), .val (.double u3), .second, .val (.int (6 : Int32)), .val (.double (FP.dmul u9 u3)), .second] [(.double (FP.dmul u9 u3))])) rfl (hb hby d3_23) _ ?_
              show Steps p.tables e below (T2.setTop (mkF m 26 #[.val (.ref a0), .val (.double u3), .second, .val (.int (6 : Int32)), .val (.double (FP.dmul u9 u3)), .second] [(.double (4580160821035794432 : UInt64)), (.double (FP.dmul u9 u3))])) _
              refine XS.dcmpS X2.here hx rfl (hb hby d3_26) rfl rfl ?_
              exact kt
            by_cases c27_11 : (cmpValue (FP.dcmp (FP.dmul u9 u3) (4580160821035794432 : UInt64)) .l) < (0 : Int32)
            · refine Gl.up (B := T2.setTop (mkF m 49 #[.val (.ref a0), .val (.double u3), .second, .val (.int (6 : Int32)), .val (.double (FP.dmul u9 u3)), .second] [(.int (6 : Int32))])) (fun t kt => ?_) ?_
              · refine XS.ifYes X2.here hx rfl (pc0 := 27) (pc' := 48) rfl (hb hby d3_27) rfl ((if0 _ _).trans (tlt c27_11).1) (by decide) (by decide) ?_
                show Steps p.tables e below (T2.setTop (mkF m 48 #[.val (.ref a0), .val (.double u3), .second, .val (.int (6 : Int32)), .val (.double (FP.dmul u9 u3)), .second] [])) _
                refine XS.iloadN X2.here hx rfl (hb hby d3_48) rfl ?_
                exact kt
              refine Gl.retI X2 hx hlk Bd.returns (hb hby d3_49) ?_ (by decide) (by decide)
              subst hu9 hu6 hu3; exact ⟨congrArg (fun z => some (Value.int z)) (show (6 : Int32) = f3 sh sa from ((((((if_neg c27_4).trans (if_neg c27_5)).trans (if_neg c27_7)).trans (if_neg c27_8)).trans (if_neg c27_10)).trans (if_pos c27_11)).symm), rfl, e2⟩
            · refine Gl.up (B := T2.setTop (mkF m 40 #[.val (.ref a0), .val (.double u3), .second, .val (.int (6 : Int32)), .val (.double (FP.dmul u9 u3)), .second] [(.double (FP.dmul (FP.dmul u9 u3) u3))])) (fun t kt => ?_) ?_
              · refine XS.ifNo X2.here hx rfl (hb hby d3_27) rfl ((if0 _ _).trans (flt c27_11).1) ?_
                show Steps p.tables e below (T2.setTop (mkF m 30 #[.val (.ref a0), .val (.double u3), .second, .val (.int (6 : Int32)), .val (.double (FP.dmul u9 u3)), .second] [])) _
                refine XS.iloadN X2.here hx rfl (hb hby d3_30) rfl ?_
                show Steps p.tables e below (T2.setTop (mkF m 31 #[.val (.ref a0), .val (.double u3), .second, .val (.int (6 : Int32)), .val (.double (FP.dmul u9 u3)), .second] [(.int (6 : Int32))])) _
                refine XS.bipush X2.here hx rfl (hb hby d3_31) ?_
                show Steps p.tables e below (T2.setTop (mkF m 33 #[.val (.ref a0), .val (.double u3), .second, .val (.int (6 : Int32)), .val (.double (FP.dmul u9 u3)), .second] [(.int (8 : Int32)), (.int (6 : Int32))])) _
                refine XS.icmpNo X2.here hx rfl (hb hby d3_33) rfl (tlt (by decide : (6 : Int32) < (8 : Int32))).2.1 ?_
                show Steps p.tables e below (T2.setTop (mkF m 36 #[.val (.ref a0), .val (.double u3), .second, .val (.int (6 : Int32)), .val (.double (FP.dmul u9 u3)), .second] [])) _
                refine XS.dload X2.here hx rfl (hb hby d3_36) rfl ?_
                show Steps p.tables e below (T2.setTop (mkF m 38 #[.val (.ref a0), .val (.double u3), .second, .val (.int (6 : Int32)), .val (.double (FP.dmul u9 u3)), .second] [(.double (FP.dmul u9 u3))])) _
                refine XS.dloadN X2.here hx rfl (hb hby d3_38) rfl ?_
                show Steps p.tables e below (T2.setTop (mkF m 39 #[.val (.ref a0), .val (.double u3), .second, .val (.int (6 : Int32)), .val (.double (FP.dmul u9 u3)), .second] [(.double u3), (.double (FP.dmul u9 u3))])) _
                refine XS.dmulS X2.here hx rfl (hb hby d3_39) rfl (by simp only [hu3, hu6, hu9]; exact m6) rfl ?_
                exact kt
              obtain ⟨u12, hu12⟩ : ∃ q : UInt64, q = (FP.dmul (FP.dmul u9 u3) u3) := ⟨_, rfl⟩
              rw [← hu12]
              refine Gl.up (B := T2.setTop (mkF m 27 #[.val (.ref a0), .val (.double u3), .second, .val (.int (7 : Int32)), .val (.double u12), .second] [(.int (cmpValue (FP.dcmp u12 (4580160821035794432 : UInt64)) .l))])) (fun t kt => ?_) ?_
              · refine XS.dstore X2.here hx rfl (hb hby d3_40) rfl (l' := #[.val (.ref a0), .val (.double u3), .second, .val (.int (6 : Int32)), .val (.double u12), .second]) rfl ?_
                show Steps p.tables e below (T2.setTop (mkF m 42 #[.val (.ref a0), .val (.double u3), .second, .val (.int (6 : Int32)), .val (.double u12), .second] [])) _
                refine XS.iinc X2.here hx rfl (hb hby d3_42) rfl (l' := #[.val (.ref a0), .val (.double u3), .second, .val (.int (7 : Int32)), .val (.double u12), .second]) rfl ?_
                show Steps p.tables e below (T2.setTop (mkF m 45 #[.val (.ref a0), .val (.double u3), .second, .val (.int (7 : Int32)), .val (.double u12), .second] [])) _
                refine XS.goto X2.here hx rfl (pc0 := 45) (pc' := 21) rfl (hb hby d3_45) (by decide) (by decide) ?_
                show Steps p.tables e below (T2.setTop (mkF m 21 #[.val (.ref a0), .val (.double u3), .second, .val (.int (7 : Int32)), .val (.double u12), .second] [])) _
                refine XS.dload X2.here hx rfl (hb hby d3_21) rfl ?_
                show Steps p.tables e below (T2.setTop (mkF m 23 #[.val (.ref a0), .val (.double u3), .second, .val (.int (7 : Int32)), .val (.double u12), .second] [(.double u12)])) _
                refine X2.ldc2DoubleC hx hown (mvT hZ (hw _ (List.mem_of_getElem? (i := 27) rfl))) (g := (mkF m 23 #[.val (.ref a0), .val (.double u3), .second, .val (.int (7 : Int32)), .val (.double u12), .second] [(.double u12)])) rfl (hb hby d3_23) _ ?_
                show Steps p.tables e below (T2.setTop (mkF m 26 #[.val (.ref a0), .val (.double u3), .second, .val (.int (7 : Int32)), .val (.double u12), .second] [(.double (4580160821035794432 : UInt64)), (.double u12)])) _
                refine XS.dcmpS X2.here hx rfl (hb hby d3_26) rfl rfl ?_
                exact kt
              by_cases c27_13 : (cmpValue (FP.dcmp u12 (4580160821035794432 : UInt64)) .l) < (0 : Int32)
              · refine Gl.up (B := T2.setTop (mkF m 49 #[.val (.ref a0), .val (.double u3), .second, .val (.int (7 : Int32)), .val (.double u12), .second] [(.int (7 : Int32))])) (fun t kt => ?_) ?_
                · refine XS.ifYes X2.here hx rfl (pc0 := 27) (pc' := 48) rfl (hb hby d3_27) rfl ((if0 _ _).trans (tlt c27_13).1) (by decide) (by decide) ?_
                  show Steps p.tables e below (T2.setTop (mkF m 48 #[.val (.ref a0), .val (.double u3), .second, .val (.int (7 : Int32)), .val (.double u12), .second] [])) _
                  refine XS.iloadN X2.here hx rfl (hb hby d3_48) rfl ?_
                  exact kt
                refine Gl.retI X2 hx hlk Bd.returns (hb hby d3_49) ?_ (by decide) (by decide)
                subst hu12 hu9 hu6 hu3; exact ⟨congrArg (fun z => some (Value.int z)) (show (7 : Int32) = f3 sh sa from (((((((if_neg c27_4).trans (if_neg c27_5)).trans (if_neg c27_7)).trans (if_neg c27_8)).trans (if_neg c27_10)).trans (if_neg c27_11)).trans (if_pos c27_13)).symm), rfl, e2⟩
              · refine Gl.up (B := T2.setTop (mkF m 27 #[.val (.ref a0), .val (.double u3), .second, .val (.int (8 : Int32)), .val (.double (FP.dmul u12 u3)), .second] [(.int (cmpValue (FP.dcmp (FP.dmul u12 u3) (4580160821035794432 : UInt64)) .l))])) (fun t kt => ?_) ?_
                · refine XS.ifNo X2.here hx rfl (hb hby d3_27) rfl ((if0 _ _).trans (flt c27_13).1) ?_
                  show Steps p.tables e below (T2.setTop (mkF m 30 #[.val (.ref a0), .val (.double u3), .second, .val (.int (7 : Int32)), .val (.double u12), .second] [])) _
                  refine XS.iloadN X2.here hx rfl (hb hby d3_30) rfl ?_
                  show Steps p.tables e below (T2.setTop (mkF m 31 #[.val (.ref a0), .val (.double u3), .second, .val (.int (7 : Int32)), .val (.double u12), .second] [(.int (7 : Int32))])) _
                  refine XS.bipush X2.here hx rfl (hb hby d3_31) ?_
                  show Steps p.tables e below (T2.setTop (mkF m 33 #[.val (.ref a0), .val (.double u3), .second, .val (.int (7 : Int32)), .val (.double u12), .second] [(.int (8 : Int32)), (.int (7 : Int32))])) _
                  refine XS.icmpNo X2.here hx rfl (hb hby d3_33) rfl (tlt (by decide : (7 : Int32) < (8 : Int32))).2.1 ?_
                  show Steps p.tables e below (T2.setTop (mkF m 36 #[.val (.ref a0), .val (.double u3), .second, .val (.int (7 : Int32)), .val (.double u12), .second] [])) _
                  refine XS.dload X2.here hx rfl (hb hby d3_36) rfl ?_
                  show Steps p.tables e below (T2.setTop (mkF m 38 #[.val (.ref a0), .val (.double u3), .second, .val (.int (7 : Int32)), .val (.double u12), .second] [(.double u12)])) _
                  refine XS.dloadN X2.here hx rfl (hb hby d3_38) rfl ?_
                  show Steps p.tables e below (T2.setTop (mkF m 39 #[.val (.ref a0), .val (.double u3), .second, .val (.int (7 : Int32)), .val (.double u12), .second] [(.double u3), (.double u12)])) _
                  refine XS.dmulS X2.here hx rfl (hb hby d3_39) rfl (by simp only [hu3, hu6, hu9, hu12]; exact m7) rfl ?_
                  show Steps p.tables e below (T2.setTop (mkF m 40 #[.val (.ref a0), .val (.double u3), .second, .val (.int (7 : Int32)), .val (.double u12), .second] [(.double (FP.dmul u12 u3))])) _
                  refine XS.dstore X2.here hx rfl (hb hby d3_40) rfl (l' := #[.val (.ref a0), .val (.double u3), .second, .val (.int (7 : Int32)), .val (.double (FP.dmul u12 u3)), .second]) rfl ?_
                  show Steps p.tables e below (T2.setTop (mkF m 42 #[.val (.ref a0), .val (.double u3), .second, .val (.int (7 : Int32)), .val (.double (FP.dmul u12 u3)), .second] [])) _
                  refine XS.iinc X2.here hx rfl (hb hby d3_42) rfl (l' := #[.val (.ref a0), .val (.double u3), .second, .val (.int (8 : Int32)), .val (.double (FP.dmul u12 u3)), .second]) rfl ?_
                  show Steps p.tables e below (T2.setTop (mkF m 45 #[.val (.ref a0), .val (.double u3), .second, .val (.int (8 : Int32)), .val (.double (FP.dmul u12 u3)), .second] [])) _
                  refine XS.goto X2.here hx rfl (pc0 := 45) (pc' := 21) rfl (hb hby d3_45) (by decide) (by decide) ?_
                  show Steps p.tables e below (T2.setTop (mkF m 21 #[.val (.ref a0), .val (.double u3), .second, .val (.int (8 : Int32)), .val (.double (FP.dmul u12 u3)), .second] [])) _
                  refine XS.dload X2.here hx rfl (hb hby d3_21) rfl ?_
                  show Steps p.tables e below (T2.setTop (mkF m 23 #[.val (.ref a0), .val (.double u3), .second, .val (.int (8 : Int32)), .val (.double (FP.dmul u12 u3)), .second] [(.double (FP.dmul u12 u3))])) _
                  refine X2.ldc2DoubleC hx hown (mvT hZ (hw _ (List.mem_of_getElem? (i := 27) rfl))) (g := (mkF m 23 #[.val (.ref a0), .val (.double u3), .second, .val (.int (8 : Int32)), .val (.double (FP.dmul u12 u3)), .second] [(.double (FP.dmul u12 u3))])) rfl (hb hby d3_23) _ ?_
                  show Steps p.tables e below (T2.setTop (mkF m 26 #[.val (.ref a0), .val (.double u3), .second, .val (.int (8 : Int32)), .val (.double (FP.dmul u12 u3)), .second] [(.double (4580160821035794432 : UInt64)), (.double (FP.dmul u12 u3))])) _
                  refine XS.dcmpS X2.here hx rfl (hb hby d3_26) rfl rfl ?_
                  exact kt
                by_cases c27_14 : (cmpValue (FP.dcmp (FP.dmul u12 u3) (4580160821035794432 : UInt64)) .l) < (0 : Int32)
                · refine Gl.up (B := T2.setTop (mkF m 49 #[.val (.ref a0), .val (.double u3), .second, .val (.int (8 : Int32)), .val (.double (FP.dmul u12 u3)), .second] [(.int (8 : Int32))])) (fun t kt => ?_) ?_
                  · refine XS.ifYes X2.here hx rfl (pc0 := 27) (pc' := 48) rfl (hb hby d3_27) rfl ((if0 _ _).trans (tlt c27_14).1) (by decide) (by decide) ?_
                    show Steps p.tables e below (T2.setTop (mkF m 48 #[.val (.ref a0), .val (.double u3), .second, .val (.int (8 : Int32)), .val (.double (FP.dmul u12 u3)), .second] [])) _
                    refine XS.iloadN X2.here hx rfl (hb hby d3_48) rfl ?_
                    exact kt
                  refine Gl.retI X2 hx hlk Bd.returns (hb hby d3_49) ?_ (by decide) (by decide)
                  subst hu12 hu9 hu6 hu3; exact ⟨congrArg (fun z => some (Value.int z)) (show (8 : Int32) = f3 sh sa from (((((((if_neg c27_4).trans (if_neg c27_5)).trans (if_neg c27_7)).trans (if_neg c27_8)).trans (if_neg c27_10)).trans (if_neg c27_11)).trans (if_neg c27_13)).symm), rfl, e2⟩
                · refine Gl.up (B := T2.setTop (mkF m 49 #[.val (.ref a0), .val (.double u3), .second, .val (.int (8 : Int32)), .val (.double (FP.dmul u12 u3)), .second] [(.int (8 : Int32))])) (fun t kt => ?_) ?_
                  · refine XS.ifNo X2.here hx rfl (hb hby d3_27) rfl ((if0 _ _).trans (flt c27_14).1) ?_
                    show Steps p.tables e below (T2.setTop (mkF m 30 #[.val (.ref a0), .val (.double u3), .second, .val (.int (8 : Int32)), .val (.double (FP.dmul u12 u3)), .second] [])) _
                    refine XS.iloadN X2.here hx rfl (hb hby d3_30) rfl ?_
                    show Steps p.tables e below (T2.setTop (mkF m 31 #[.val (.ref a0), .val (.double u3), .second, .val (.int (8 : Int32)), .val (.double (FP.dmul u12 u3)), .second] [(.int (8 : Int32))])) _
                    refine XS.bipush X2.here hx rfl (hb hby d3_31) ?_
                    show Steps p.tables e below (T2.setTop (mkF m 33 #[.val (.ref a0), .val (.double u3), .second, .val (.int (8 : Int32)), .val (.double (FP.dmul u12 u3)), .second] [(.int (8 : Int32)), (.int (8 : Int32))])) _
                    refine XS.icmpYes X2.here hx rfl (pc0 := 33) (pc' := 48) rfl (hb hby d3_33) rfl (flt (by decide : ¬ ((8 : Int32) < (8 : Int32)))).2.1 (by decide) (by decide) ?_
                    show Steps p.tables e below (T2.setTop (mkF m 48 #[.val (.ref a0), .val (.double u3), .second, .val (.int (8 : Int32)), .val (.double (FP.dmul u12 u3)), .second] [])) _
                    refine XS.iloadN X2.here hx rfl (hb hby d3_48) rfl ?_
                    exact kt
                  refine Gl.retI X2 hx hlk Bd.returns (hb hby d3_49) ?_ (by decide) (by decide)
                  subst hu12 hu9 hu6 hu3; exact ⟨congrArg (fun z => some (Value.int z)) (show (8 : Int32) = f3 sh sa from (((((((if_neg c27_4).trans (if_neg c27_5)).trans (if_neg c27_7)).trans (if_neg c27_8)).trans (if_neg c27_10)).trans (if_neg c27_11)).trans (if_neg c27_13)).symm), rfl, e2⟩
/-- the share and the number of samples behind these samples -/
def own_st : List Int32 → UInt64 × Int32
  | [] => ((0 : UInt64), (0 : Int32))
  | b :: bs => (f2_share b (own_st bs).1 (own_st bs).2, f2_samples b (own_st bs).1 (own_st bs).2)
def own_pres (p1 : Int32) (sh : UInt64) (sa : Int32) : Prop := Jvm.Free.Fl.NoNaN64 (FP.dsub (FP.i2d (if p1 = (0 : Int32) then (0 : Int32) else (1 : Int32))) sh) ∧ Jvm.Free.Fl.NoNaN64 (FP.ddiv (FP.dsub (FP.i2d (if p1 = (0 : Int32) then (0 : Int32) else (1 : Int32))) sh) (FP.i2d (if sa < (64 : Int32) then (sa + (1 : Int32)) else sa))) ∧ Jvm.Free.Fl.NoNaN64 (FP.dadd sh (FP.ddiv (FP.dsub (FP.i2d (if p1 = (0 : Int32) then (0 : Int32) else (1 : Int32))) sh) (FP.i2d (if sa < (64 : Int32) then (sa + (1 : Int32)) else sa))))
def own_prew (sh : UInt64) : Prop := Jvm.Free.Fl.NoNaN64 (FP.dsub (4607182418800017408 : UInt64) sh) ∧ Jvm.Free.Fl.NoNaN64 (FP.dmul (FP.dsub (4607182418800017408 : UInt64) sh) (FP.dsub (4607182418800017408 : UInt64) sh)) ∧ Jvm.Free.Fl.NoNaN64 (FP.dsub (4607182418800017408 : UInt64) (FP.dmul (FP.dsub (4607182418800017408 : UInt64) sh) (FP.dsub (4607182418800017408 : UInt64) sh))) ∧ Jvm.Free.Fl.NoNaN64 (FP.dmul (FP.dsub (4607182418800017408 : UInt64) (FP.dmul (FP.dsub (4607182418800017408 : UInt64) sh) (FP.dsub (4607182418800017408 : UInt64) sh))) (FP.dsub (4607182418800017408 : UInt64) (FP.dmul (FP.dsub (4607182418800017408 : UInt64) sh) (FP.dsub (4607182418800017408 : UInt64) sh)))) ∧ Jvm.Free.Fl.NoNaN64 (FP.dmul (FP.dmul (FP.dsub (4607182418800017408 : UInt64) (FP.dmul (FP.dsub (4607182418800017408 : UInt64) sh) (FP.dsub (4607182418800017408 : UInt64) sh))) (FP.dsub (4607182418800017408 : UInt64) (FP.dmul (FP.dsub (4607182418800017408 : UInt64) sh) (FP.dsub (4607182418800017408 : UInt64) sh)))) (FP.dsub (4607182418800017408 : UInt64) (FP.dmul (FP.dsub (4607182418800017408 : UInt64) sh) (FP.dsub (4607182418800017408 : UInt64) sh)))) ∧ Jvm.Free.Fl.NoNaN64 (FP.dmul (FP.dmul (FP.dmul (FP.dsub (4607182418800017408 : UInt64) (FP.dmul (FP.dsub (4607182418800017408 : UInt64) sh) (FP.dsub (4607182418800017408 : UInt64) sh))) (FP.dsub (4607182418800017408 : UInt64) (FP.dmul (FP.dsub (4607182418800017408 : UInt64) sh) (FP.dsub (4607182418800017408 : UInt64) sh)))) (FP.dsub (4607182418800017408 : UInt64) (FP.dmul (FP.dsub (4607182418800017408 : UInt64) sh) (FP.dsub (4607182418800017408 : UInt64) sh)))) (FP.dsub (4607182418800017408 : UInt64) (FP.dmul (FP.dsub (4607182418800017408 : UInt64) sh) (FP.dsub (4607182418800017408 : UInt64) sh)))) ∧ Jvm.Free.Fl.NoNaN64 (FP.dmul (FP.dmul (FP.dmul (FP.dmul (FP.dsub (4607182418800017408 : UInt64) (FP.dmul (FP.dsub (4607182418800017408 : UInt64) sh) (FP.dsub (4607182418800017408 : UInt64) sh))) (FP.dsub (4607182418800017408 : UInt64) (FP.dmul (FP.dsub (4607182418800017408 : UInt64) sh) (FP.dsub (4607182418800017408 : UInt64) sh)))) (FP.dsub (4607182418800017408 : UInt64) (FP.dmul (FP.dsub (4607182418800017408 : UInt64) sh) (FP.dsub (4607182418800017408 : UInt64) sh)))) (FP.dsub (4607182418800017408 : UInt64) (FP.dmul (FP.dsub (4607182418800017408 : UInt64) sh) (FP.dsub (4607182418800017408 : UInt64) sh)))) (FP.dsub (4607182418800017408 : UInt64) (FP.dmul (FP.dsub (4607182418800017408 : UInt64) sh) (FP.dsub (4607182418800017408 : UInt64) sh)))) ∧ Jvm.Free.Fl.NoNaN64 (FP.dmul (FP.dmul (FP.dmul (FP.dmul (FP.dmul (FP.dsub (4607182418800017408 : UInt64) (FP.dmul (FP.dsub (4607182418800017408 : UInt64) sh) (FP.dsub (4607182418800017408 : UInt64) sh))) (FP.dsub (4607182418800017408 : UInt64) (FP.dmul (FP.dsub (4607182418800017408 : UInt64) sh) (FP.dsub (4607182418800017408 : UInt64) sh)))) (FP.dsub (4607182418800017408 : UInt64) (FP.dmul (FP.dsub (4607182418800017408 : UInt64) sh) (FP.dsub (4607182418800017408 : UInt64) sh)))) (FP.dsub (4607182418800017408 : UInt64) (FP.dmul (FP.dsub (4607182418800017408 : UInt64) sh) (FP.dsub (4607182418800017408 : UInt64) sh)))) (FP.dsub (4607182418800017408 : UInt64) (FP.dmul (FP.dsub (4607182418800017408 : UInt64) sh) (FP.dsub (4607182418800017408 : UInt64) sh)))) (FP.dsub (4607182418800017408 : UInt64) (FP.dmul (FP.dsub (4607182418800017408 : UInt64) sh) (FP.dsub (4607182418800017408 : UInt64) sh)))) ∧ Jvm.Free.Fl.NoNaN64 (FP.dmul (FP.dmul (FP.dmul (FP.dmul (FP.dmul (FP.dmul (FP.dsub (4607182418800017408 : UInt64) (FP.dmul (FP.dsub (4607182418800017408 : UInt64) sh) (FP.dsub (4607182418800017408 : UInt64) sh))) (FP.dsub (4607182418800017408 : UInt64) (FP.dmul (FP.dsub (4607182418800017408 : UInt64) sh) (FP.dsub (4607182418800017408 : UInt64) sh)))) (FP.dsub (4607182418800017408 : UInt64) (FP.dmul (FP.dsub (4607182418800017408 : UInt64) sh) (FP.dsub (4607182418800017408 : UInt64) sh)))) (FP.dsub (4607182418800017408 : UInt64) (FP.dmul (FP.dsub (4607182418800017408 : UInt64) sh) (FP.dsub (4607182418800017408 : UInt64) sh)))) (FP.dsub (4607182418800017408 : UInt64) (FP.dmul (FP.dsub (4607182418800017408 : UInt64) sh) (FP.dsub (4607182418800017408 : UInt64) sh)))) (FP.dsub (4607182418800017408 : UInt64) (FP.dmul (FP.dsub (4607182418800017408 : UInt64) sh) (FP.dsub (4607182418800017408 : UInt64) sh)))) (FP.dsub (4607182418800017408 : UInt64) (FP.dmul (FP.dsub (4607182418800017408 : UInt64) sh) (FP.dsub (4607182418800017408 : UInt64) sh)))) ∧ Jvm.Free.Fl.NoNaN64 (FP.dmul (FP.dmul (FP.dmul (FP.dmul (FP.dmul (FP.dmul (FP.dmul (FP.dsub (4607182418800017408 : UInt64) (FP.dmul (FP.dsub (4607182418800017408 : UInt64) sh) (FP.dsub (4607182418800017408 : UInt64) sh))) (FP.dsub (4607182418800017408 : UInt64) (FP.dmul (FP.dsub (4607182418800017408 : UInt64) sh) (FP.dsub (4607182418800017408 : UInt64) sh)))) (FP.dsub (4607182418800017408 : UInt64) (FP.dmul (FP.dsub (4607182418800017408 : UInt64) sh) (FP.dsub (4607182418800017408 : UInt64) sh)))) (FP.dsub (4607182418800017408 : UInt64) (FP.dmul (FP.dsub (4607182418800017408 : UInt64) sh) (FP.dsub (4607182418800017408 : UInt64) sh)))) (FP.dsub (4607182418800017408 : UInt64) (FP.dmul (FP.dsub (4607182418800017408 : UInt64) sh) (FP.dsub (4607182418800017408 : UInt64) sh)))) (FP.dsub (4607182418800017408 : UInt64) (FP.dmul (FP.dsub (4607182418800017408 : UInt64) sh) (FP.dsub (4607182418800017408 : UInt64) sh)))) (FP.dsub (4607182418800017408 : UInt64) (FP.dmul (FP.dsub (4607182418800017408 : UInt64) sh) (FP.dsub (4607182418800017408 : UInt64) sh)))) (FP.dsub (4607182418800017408 : UInt64) (FP.dmul (FP.dsub (4607182418800017408 : UInt64) sh) (FP.dsub (4607182418800017408 : UInt64) sh))))
instance (p1 : Int32) (sh : UInt64) (sa : Int32) : Decidable (own_pres p1 sh sa) := by unfold own_pres; exact inferInstance
instance (sh : UInt64) : Decidable (own_prew sh) := by unfold own_prew; exact inferInstance
def f4 (p0 : Int32) (p1 : Int32) : Int32 := (if ((p0 >>> (p1 &&& 31)) &&& (1 : Int32)) = (0 : Int32) then (0 : Int32) else (1 : Int32))
theorem f4_b (p0 : Int32) (p1 : Int32) : f4 p0 p1 = 0 ∨ f4 p0 p1 = 1 := (b01_ite (Or.inl rfl) (Or.inr rfl))
def Q4 (Z : State) (p0 : Int32) (p1 : Int32) (h0 : Heap) (n0 : Nat) (v : Option Value) (h : Heap) (L : List Loc) : Prop := v = some (.int (f4 p0 p1)) ∧ L = [] ∧ h = h0
theorem ef4 (m : MethodId) (p0 : Int32) (p1 : Int32) : entryFrame m #[(.int p0), (.int p1)] 2 = mkF m 0 #[.val (.int p0), .val (.int p1)] [] := by first | (simp [entryFrame, mkF, argsToLocals, Value.category]; done) | rfl
set_option maxRecDepth 65536 in
set_option maxHeartbeats 40000000 in
theorem rm4 (l : Launch) (Z : State) (aa : Array Value) (hw : ∀ d ∈ tables_1, d.before aa Z = true) (ws : List Jvm.Cond) (p0 : Int32) (p1 : Int32) (h0 : Heap) (n0 : Nat) (O0 : Old Z n0 h0)  :
    MetFree l (⟨"com/example/gallant_courier/gallantcourier/core/LossRateWaitsPerDoublingPinLaw", "bit", "(II)Z"⟩ : MethodName) (head1 (Jvm.Cond.code (⟨"com/example/gallant_courier/gallantcourier/core/LossRateWaitsPerDoublingPinLaw", "bit", "(II)Z"⟩ : MethodName) method_3_code 2 (some .boolean) :: ws) ({ frames := 0, cells := 0, slots := 0, locals := 0 } : Room)) (fun a U => a = #[(.int p0), (.int p1)] ∧ Z.Warmed39 U.vm ∧ U.heap = h0) (fun _ _ _ _ _ => True) (fun _ U o U' => ∃ v L, o = .returned v ∧ Q4 Z p0 p1 h0 n0 v U'.heap L ∧ FrameEnd U o U' L ({ frames := 0, cells := 0, slots := 0, locals := 0 } : Room).cells ({ frames := 0, cells := 0, slots := 0, locals := 0 } : Room).slots) := by
  refine MetFree.of_bodySF (plainFor_of_name pn_com_example_gallant_courier_gallantcourier_core_LossRateWaitsPerDoublingPinLaw) hisR ?_
  intro p e s m args below meth c s₁ Bd hml0 hP hK
  obtain ⟨rfl, hZ, hh⟩ := hP
  have hx := Bd.exec
  have hby := Bd.bytes
  have hlk := Bd.notSynchronized
  have hml : c.maxLocals = 2 := hml0
  have hown : s.vm.findClass "com/example/gallant_courier/gallantcourier/core/LossRateWaitsPerDoublingPinLaw" = some m.cls := findClass_of_methodNamed Bd.named
  have hnm := (name_of_methodNamed Bd.named Bd.method).1
  have X0 : Stand p l e ({ frames := 0, cells := 0, slots := 0, locals := 0 } : Room) s m #[(.int p0), (.int p1)] below meth c s₁ [] 0 0 := Stand.of_body Bd
  have e0 : s₁.heap = h0 := by rw [← hh, Bd.state]; rfl
  have N0 := Fr.nil n0
  show Gl p e below (Ret s 0 0 (Q4 Z p0 p1 h0 n0)) (s₁.setTop (entryFrame m #[(.int p0), (.int p1)] 2))
  rw [ef4 m p0 p1]
  obtain ⟨args, hargs⟩ : ∃ z : Array Value, z = #[(.int p0), (.int p1)] := ⟨_, rfl⟩
  rw [← hargs] at X0
  refine Gl.up (B := s₁.setTop (mkF m 5 #[.val (.int p0), .val (.int p1)] [(.int ((p0 >>> (p1 &&& 31)) &&& (1 : Int32)))])) (fun t kt => ?_) ?_
  · refine XS.iloadN X0.here hx rfl (hb hby d4_0) rfl ?_
    show Steps p.tables e below (s₁.setTop (mkF m 1 #[.val (.int p0), .val (.int p1)] [(.int p0)])) _
    refine XS.iloadN X0.here hx rfl (hb hby d4_1) rfl ?_
    show Steps p.tables e below (s₁.setTop (mkF m 2 #[.val (.int p0), .val (.int p1)] [(.int p1), (.int p0)])) _
    refine XS.ishr X0.here hx rfl (hb hby d4_2) rfl ?_
    show Steps p.tables e below (s₁.setTop (mkF m 3 #[.val (.int p0), .val (.int p1)] [(.int (p0 >>> (p1 &&& 31)))])) _
    refine XS.iconst X0.here hx rfl (hb hby d4_3) ?_
    show Steps p.tables e below (s₁.setTop (mkF m 4 #[.val (.int p0), .val (.int p1)] [(.int (1 : Int32)), (.int (p0 >>> (p1 &&& 31)))])) _
    refine XS.iand X0.here hx rfl (hb hby d4_4) rfl ?_
    exact kt
  suffices J1 : ∀ (T1 : State) (v1_s0 : Int32), v1_s0 = (if ((p0 >>> (p1 &&& 31)) &&& (1 : Int32)) = (0 : Int32) then (0 : Int32) else (1 : Int32)) → Stand p l e ({ frames := 0, cells := 0, slots := 0, locals := 0 } : Room) s m args below meth c T1 [] 0 0 → T1.heap = h0 → Gl p e below (Ret s 0 0 (Q4 Z p0 p1 h0 n0)) (T1.setTop (mkF m 13 #[.val (.int p0), .val (.int p1)] [(.int v1_s0)])) by
    by_cases c5_2 : ((p0 >>> (p1 &&& 31)) &&& (1 : Int32)) = (0 : Int32)
    · refine Gl.up (B := s₁.setTop (mkF m 13 #[.val (.int p0), .val (.int p1)] [(.int (0 : Int32))])) (fun t kt => ?_) ?_
      · refine XS.ifYes X0.here hx rfl (pc0 := 5) (pc' := 12) rfl (hb hby d4_5) rfl ((if0 _ _).trans (teq c5_2).1) (by decide) (by decide) ?_
        show Steps p.tables e below (s₁.setTop (mkF m 12 #[.val (.int p0), .val (.int p1)] [])) _
        refine XS.iconst X0.here hx rfl (hb hby d4_12) ?_
        exact kt
      exact J1 _ (0 : Int32) (if_pos c5_2).symm X0 e0
    · refine Gl.up (B := s₁.setTop (mkF m 13 #[.val (.int p0), .val (.int p1)] [(.int (1 : Int32))])) (fun t kt => ?_) ?_
      · refine XS.ifNo X0.here hx rfl (hb hby d4_5) rfl ((if0 _ _).trans (feq c5_2).1) ?_
        show Steps p.tables e below (s₁.setTop (mkF m 8 #[.val (.int p0), .val (.int p1)] [])) _
        refine XS.iconst X0.here hx rfl (hb hby d4_8) ?_
        show Steps p.tables e below (s₁.setTop (mkF m 9 #[.val (.int p0), .val (.int p1)] [(.int (1 : Int32))])) _
        refine XS.goto X0.here hx rfl (pc0 := 9) (pc' := 13) rfl (hb hby d4_9) (by decide) (by decide) ?_
        exact kt
      exact J1 _ (1 : Int32) (if_neg c5_2).symm X0 e0
  intro T1 v1_s0 hv1_s0 X1 e1
  subst hv1_s0
  refine Gl.retN X1 hx hlk (t := .boolean) Bd.returns (by simp) (hb hby d4_13) (w := (if ((p0 >>> (p1 &&& 31)) &&& (1 : Int32)) = (0 : Int32) then (0 : Int32) else (1 : Int32))) (nar_b01 (b01_ite (Or.inl rfl) (Or.inr rfl))) ?_ (by decide) (by decide)
  exact ⟨congrArg (fun z => some (Value.int z)) (show (if ((p0 >>> (p1 &&& 31)) &&& (1 : Int32)) = (0 : Int32) then (0 : Int32) else (1 : Int32)) = f4 p0 p1 from rfl), rfl, e1⟩
def f5 (p0 : Int32) (p1 : Int32) (p2 : Int32) : Int32 := (if p1 < p2 then ((p0 >>> (p1 &&& 31)) &&& (1 : Int32)) else (0 : Int32))
def Q5 (Z : State) (p0 : Int32) (p1 : Int32) (p2 : Int32) (h0 : Heap) (n0 : Nat) (v : Option Value) (h : Heap) (L : List Loc) : Prop := v = some (.int (f5 p0 p1 p2)) ∧ L = [] ∧ h = h0
theorem ef5 (m : MethodId) (p0 : Int32) (p1 : Int32) (p2 : Int32) : entryFrame m #[(.int p0), (.int p1), (.int p2)] 3 = mkF m 0 #[.val (.int p0), .val (.int p1), .val (.int p2)] [] := by first | (simp [entryFrame, mkF, argsToLocals, Value.category]; done) | rfl
set_option maxRecDepth 65536 in
set_option maxHeartbeats 40000000 in
theorem rm5 (l : Launch) (Z : State) (aa : Array Value) (hw : ∀ d ∈ tables_1, d.before aa Z = true) (ws : List Jvm.Cond) (p0 : Int32) (p1 : Int32) (p2 : Int32) (h0 : Heap) (n0 : Nat) (O0 : Old Z n0 h0)  :
    MetFree l (⟨"com/example/gallant_courier/gallantcourier/core/LossRateWaitsPerDoublingPinLaw", "one", "(III)I"⟩ : MethodName) (head1 (Jvm.Cond.code (⟨"com/example/gallant_courier/gallantcourier/core/LossRateWaitsPerDoublingPinLaw", "one", "(III)I"⟩ : MethodName) method_4_code 3 (some .int) :: ws) ({ frames := 0, cells := 0, slots := 0, locals := 0 } : Room)) (fun a U => a = #[(.int p0), (.int p1), (.int p2)] ∧ Z.Warmed39 U.vm ∧ U.heap = h0) (fun _ _ _ _ _ => True) (fun _ U o U' => ∃ v L, o = .returned v ∧ Q5 Z p0 p1 p2 h0 n0 v U'.heap L ∧ FrameEnd U o U' L ({ frames := 0, cells := 0, slots := 0, locals := 0 } : Room).cells ({ frames := 0, cells := 0, slots := 0, locals := 0 } : Room).slots) := by
  refine MetFree.of_bodySF (plainFor_of_name pn_com_example_gallant_courier_gallantcourier_core_LossRateWaitsPerDoublingPinLaw) hisR ?_
  intro p e s m args below meth c s₁ Bd hml0 hP hK
  obtain ⟨rfl, hZ, hh⟩ := hP
  have hx := Bd.exec
  have hby := Bd.bytes
  have hlk := Bd.notSynchronized
  have hml : c.maxLocals = 3 := hml0
  have hown : s.vm.findClass "com/example/gallant_courier/gallantcourier/core/LossRateWaitsPerDoublingPinLaw" = some m.cls := findClass_of_methodNamed Bd.named
  have hnm := (name_of_methodNamed Bd.named Bd.method).1
  have X0 : Stand p l e ({ frames := 0, cells := 0, slots := 0, locals := 0 } : Room) s m #[(.int p0), (.int p1), (.int p2)] below meth c s₁ [] 0 0 := Stand.of_body Bd
  have e0 : s₁.heap = h0 := by rw [← hh, Bd.state]; rfl
  have N0 := Fr.nil n0
  show Gl p e below (Ret s 0 0 (Q5 Z p0 p1 p2 h0 n0)) (s₁.setTop (entryFrame m #[(.int p0), (.int p1), (.int p2)] 3))
  rw [ef5 m p0 p1 p2]
  obtain ⟨args, hargs⟩ : ∃ z : Array Value, z = #[(.int p0), (.int p1), (.int p2)] := ⟨_, rfl⟩
  rw [← hargs] at X0
  refine Gl.up (B := s₁.setTop (mkF m 2 #[.val (.int p0), .val (.int p1), .val (.int p2)] [(.int p2), (.int p1)])) (fun t kt => ?_) ?_
  · refine XS.iloadN X0.here hx rfl (hb hby d5_0) rfl ?_
    show Steps p.tables e below (s₁.setTop (mkF m 1 #[.val (.int p0), .val (.int p1), .val (.int p2)] [(.int p1)])) _
    refine XS.iloadN X0.here hx rfl (hb hby d5_1) rfl ?_
    exact kt
  suffices J1 : ∀ (T1 : State) (v1_s0 : Int32), v1_s0 = (if p1 < p2 then ((p0 >>> (p1 &&& 31)) &&& (1 : Int32)) else (0 : Int32)) → Stand p l e ({ frames := 0, cells := 0, slots := 0, locals := 0 } : Room) s m args below meth c T1 [] 0 0 → T1.heap = h0 → Gl p e below (Ret s 0 0 (Q5 Z p0 p1 p2 h0 n0)) (T1.setTop (mkF m 14 #[.val (.int p0), .val (.int p1), .val (.int p2)] [(.int v1_s0)])) by
    by_cases c2_2 : p1 < p2
    · refine Gl.up (B := s₁.setTop (mkF m 14 #[.val (.int p0), .val (.int p1), .val (.int p2)] [(.int ((p0 >>> (p1 &&& 31)) &&& (1 : Int32)))])) (fun t kt => ?_) ?_
      · refine XS.icmpNo X0.here hx rfl (hb hby d5_2) rfl (tlt c2_2).2.1 ?_
        show Steps p.tables e below (s₁.setTop (mkF m 5 #[.val (.int p0), .val (.int p1), .val (.int p2)] [])) _
        refine XS.iloadN X0.here hx rfl (hb hby d5_5) rfl ?_
        show Steps p.tables e below (s₁.setTop (mkF m 6 #[.val (.int p0), .val (.int p1), .val (.int p2)] [(.int p0)])) _
        refine XS.iloadN X0.here hx rfl (hb hby d5_6) rfl ?_
        show Steps p.tables e below (s₁.setTop (mkF m 7 #[.val (.int p0), .val (.int p1), .val (.int p2)] [(.int p1), (.int p0)])) _
        refine XS.ishr X0.here hx rfl (hb hby d5_7) rfl ?_
        show Steps p.tables e below (s₁.setTop (mkF m 8 #[.val (.int p0), .val (.int p1), .val (.int p2)] [(.int (p0 >>> (p1 &&& 31)))])) _
        refine XS.iconst X0.here hx rfl (hb hby d5_8) ?_
        show Steps p.tables e below (s₁.setTop (mkF m 9 #[.val (.int p0), .val (.int p1), .val (.int p2)] [(.int (1 : Int32)), (.int (p0 >>> (p1 &&& 31)))])) _
        refine XS.iand X0.here hx rfl (hb hby d5_9) rfl ?_
        show Steps p.tables e below (s₁.setTop (mkF m 10 #[.val (.int p0), .val (.int p1), .val (.int p2)] [(.int ((p0 >>> (p1 &&& 31)) &&& (1 : Int32)))])) _
        refine XS.goto X0.here hx rfl (pc0 := 10) (pc' := 14) rfl (hb hby d5_10) (by decide) (by decide) ?_
        exact kt
      exact J1 _ ((p0 >>> (p1 &&& 31)) &&& (1 : Int32)) (if_pos c2_2).symm X0 e0
    · refine Gl.up (B := s₁.setTop (mkF m 14 #[.val (.int p0), .val (.int p1), .val (.int p2)] [(.int (0 : Int32))])) (fun t kt => ?_) ?_
      · refine XS.icmpYes X0.here hx rfl (pc0 := 2) (pc' := 13) rfl (hb hby d5_2) rfl (flt c2_2).2.1 (by decide) (by decide) ?_
        show Steps p.tables e below (s₁.setTop (mkF m 13 #[.val (.int p0), .val (.int p1), .val (.int p2)] [])) _
        refine XS.iconst X0.here hx rfl (hb hby d5_13) ?_
        exact kt
      exact J1 _ (0 : Int32) (if_neg c2_2).symm X0 e0
  intro T1 v1_s0 hv1_s0 X1 e1
  subst hv1_s0
  refine Gl.retI X1 hx hlk Bd.returns (hb hby d5_14) ?_ (by decide) (by decide)
  exact ⟨congrArg (fun z => some (Value.int z)) (show (if p1 < p2 then ((p0 >>> (p1 &&& 31)) &&& (1 : Int32)) else (0 : Int32)) = f5 p0 p1 p2 from rfl), rfl, e1⟩
def f6 (p0 : Int32) (p1 : Int32) : Int32 := (if ((64 : Int64) * ((p0.toInt64) * (((2 : Int64) * (p1.toInt64)) - (p0.toInt64)))) < ((p1.toInt64) * (p1.toInt64)) then (1 : Int32) else (if ((64 : Int64) * (((p0.toInt64) * (((2 : Int64) * (p1.toInt64)) - (p0.toInt64))) * ((p0.toInt64) * (((2 : Int64) * (p1.toInt64)) - (p0.toInt64))))) < (((p1.toInt64) * (p1.toInt64)) * ((p1.toInt64) * (p1.toInt64))) then (2 : Int32) else (if ((64 : Int64) * ((((p0.toInt64) * (((2 : Int64) * (p1.toInt64)) - (p0.toInt64))) * ((p0.toInt64) * (((2 : Int64) * (p1.toInt64)) - (p0.toInt64)))) * ((p0.toInt64) * (((2 : Int64) * (p1.toInt64)) - (p0.toInt64))))) < ((((p1.toInt64) * (p1.toInt64)) * ((p1.toInt64) * (p1.toInt64))) * ((p1.toInt64) * (p1.toInt64))) then (3 : Int32) else (if ((64 : Int64) * (((((p0.toInt64) * (((2 : Int64) * (p1.toInt64)) - (p0.toInt64))) * ((p0.toInt64) * (((2 : Int64) * (p1.toInt64)) - (p0.toInt64)))) * ((p0.toInt64) * (((2 : Int64) * (p1.toInt64)) - (p0.toInt64)))) * ((p0.toInt64) * (((2 : Int64) * (p1.toInt64)) - (p0.toInt64))))) < (((((p1.toInt64) * (p1.toInt64)) * ((p1.toInt64) * (p1.toInt64))) * ((p1.toInt64) * (p1.toInt64))) * ((p1.toInt64) * (p1.toInt64))) then (4 : Int32) else (if ((64 : Int64) * ((((((p0.toInt64) * (((2 : Int64) * (p1.toInt64)) - (p0.toInt64))) * ((p0.toInt64) * (((2 : Int64) * (p1.toInt64)) - (p0.toInt64)))) * ((p0.toInt64) * (((2 : Int64) * (p1.toInt64)) - (p0.toInt64)))) * ((p0.toInt64) * (((2 : Int64) * (p1.toInt64)) - (p0.toInt64)))) * ((p0.toInt64) * (((2 : Int64) * (p1.toInt64)) - (p0.toInt64))))) < ((((((p1.toInt64) * (p1.toInt64)) * ((p1.toInt64) * (p1.toInt64))) * ((p1.toInt64) * (p1.toInt64))) * ((p1.toInt64) * (p1.toInt64))) * ((p1.toInt64) * (p1.toInt64))) then (5 : Int32) else (if ((64 : Int64) * (((((((p0.toInt64) * (((2 : Int64) * (p1.toInt64)) - (p0.toInt64))) * ((p0.toInt64) * (((2 : Int64) * (p1.toInt64)) - (p0.toInt64)))) * ((p0.toInt64) * (((2 : Int64) * (p1.toInt64)) - (p0.toInt64)))) * ((p0.toInt64) * (((2 : Int64) * (p1.toInt64)) - (p0.toInt64)))) * ((p0.toInt64) * (((2 : Int64) * (p1.toInt64)) - (p0.toInt64)))) * ((p0.toInt64) * (((2 : Int64) * (p1.toInt64)) - (p0.toInt64))))) < (((((((p1.toInt64) * (p1.toInt64)) * ((p1.toInt64) * (p1.toInt64))) * ((p1.toInt64) * (p1.toInt64))) * ((p1.toInt64) * (p1.toInt64))) * ((p1.toInt64) * (p1.toInt64))) * ((p1.toInt64) * (p1.toInt64))) then (6 : Int32) else (if ((64 : Int64) * ((((((((p0.toInt64) * (((2 : Int64) * (p1.toInt64)) - (p0.toInt64))) * ((p0.toInt64) * (((2 : Int64) * (p1.toInt64)) - (p0.toInt64)))) * ((p0.toInt64) * (((2 : Int64) * (p1.toInt64)) - (p0.toInt64)))) * ((p0.toInt64) * (((2 : Int64) * (p1.toInt64)) - (p0.toInt64)))) * ((p0.toInt64) * (((2 : Int64) * (p1.toInt64)) - (p0.toInt64)))) * ((p0.toInt64) * (((2 : Int64) * (p1.toInt64)) - (p0.toInt64)))) * ((p0.toInt64) * (((2 : Int64) * (p1.toInt64)) - (p0.toInt64))))) < ((((((((p1.toInt64) * (p1.toInt64)) * ((p1.toInt64) * (p1.toInt64))) * ((p1.toInt64) * (p1.toInt64))) * ((p1.toInt64) * (p1.toInt64))) * ((p1.toInt64) * (p1.toInt64))) * ((p1.toInt64) * (p1.toInt64))) * ((p1.toInt64) * (p1.toInt64))) then (7 : Int32) else (8 : Int32))))))))
def Q6 (Z : State) (p0 : Int32) (p1 : Int32) (h0 : Heap) (n0 : Nat) (v : Option Value) (h : Heap) (L : List Loc) : Prop := v = some (.int (f6 p0 p1)) ∧ L = [] ∧ h = h0
theorem ef6 (m : MethodId) (p0 : Int32) (p1 : Int32) : entryFrame m #[(.int p0), (.int p1)] 34 = mkF m 0 #[.val (.int p0), .val (.int p1), .unset, .unset, .unset, .unset, .unset, .unset, .unset, .unset, .unset, .unset, .unset, .unset, .unset, .unset, .unset, .unset, .unset, .unset, .unset, .unset, .unset, .unset, .unset, .unset, .unset, .unset, .unset, .unset, .unset, .unset, .unset, .unset] [] := by first | (simp [entryFrame, mkF, argsToLocals, Value.category]; done) | rfl
set_option maxRecDepth 65536 in
set_option maxHeartbeats 40000000 in
theorem rm6 (l : Launch) (Z : State) (aa : Array Value) (hw : ∀ d ∈ tables_1, d.before aa Z = true) (ws : List Jvm.Cond) (p0 : Int32) (p1 : Int32) (h0 : Heap) (n0 : Nat) (O0 : Old Z n0 h0)  :
    MetFree l (⟨"com/example/gallant_courier/gallantcourier/core/LossRateWaitsPerDoublingPinLaw", "expected", "(II)I"⟩ : MethodName) (head1 (Jvm.Cond.code (⟨"com/example/gallant_courier/gallantcourier/core/LossRateWaitsPerDoublingPinLaw", "expected", "(II)I"⟩ : MethodName) method_5_code 34 (some .int) :: ws) ({ frames := 0, cells := 0, slots := 0, locals := 0 } : Room)) (fun a U => a = #[(.int p0), (.int p1)] ∧ Z.Warmed39 U.vm ∧ U.heap = h0) (fun _ _ _ _ _ => True) (fun _ U o U' => ∃ v L, o = .returned v ∧ Q6 Z p0 p1 h0 n0 v U'.heap L ∧ FrameEnd U o U' L ({ frames := 0, cells := 0, slots := 0, locals := 0 } : Room).cells ({ frames := 0, cells := 0, slots := 0, locals := 0 } : Room).slots) := by
  refine MetFree.of_bodySF (plainFor_of_name pn_com_example_gallant_courier_gallantcourier_core_LossRateWaitsPerDoublingPinLaw) hisR ?_
  intro p e s m args below meth c s₁ Bd hml0 hP hK
  obtain ⟨rfl, hZ, hh⟩ := hP
  have hx := Bd.exec
  have hby := Bd.bytes
  have hlk := Bd.notSynchronized
  have hml : c.maxLocals = 34 := hml0
  have hown : s.vm.findClass "com/example/gallant_courier/gallantcourier/core/LossRateWaitsPerDoublingPinLaw" = some m.cls := findClass_of_methodNamed Bd.named
  have hnm := (name_of_methodNamed Bd.named Bd.method).1
  have X0 : Stand p l e ({ frames := 0, cells := 0, slots := 0, locals := 0 } : Room) s m #[(.int p0), (.int p1)] below meth c s₁ [] 0 0 := Stand.of_body Bd
  have e0 : s₁.heap = h0 := by rw [← hh, Bd.state]; rfl
  have N0 := Fr.nil n0
  show Gl p e below (Ret s 0 0 (Q6 Z p0 p1 h0 n0)) (s₁.setTop (entryFrame m #[(.int p0), (.int p1)] 34))
  rw [ef6 m p0 p1]
  obtain ⟨args, hargs⟩ : ∃ z : Array Value, z = #[(.int p0), (.int p1)] := ⟨_, rfl⟩
  rw [← hargs] at X0
  refine Gl.up (B := s₁.setTop (mkF m 12 #[.val (.int p0), .val (.int p1), .unset, .unset, .unset, .unset, .unset, .unset, .unset, .unset, .unset, .unset, .unset, .unset, .unset, .unset, .unset, .unset, .unset, .unset, .unset, .unset, .unset, .unset, .unset, .unset, .unset, .unset, .unset, .unset, .unset, .unset, .unset, .unset] [(.long ((p0.toInt64) * (((2 : Int64) * (p1.toInt64)) - (p0.toInt64))))])) (fun t kt => ?_) ?_
  · refine XS.iloadN X0.here hx rfl (hb hby d6_0) rfl ?_
    show Steps p.tables e below (s₁.setTop (mkF m 1 #[.val (.int p0), .val (.int p1), .unset, .unset, .unset, .unset, .unset, .unset, .unset, .unset, .unset, .unset, .unset, .unset, .unset, .unset, .unset, .unset, .unset, .unset, .unset, .unset, .unset, .unset, .unset, .unset, .unset, .unset, .unset, .unset, .unset, .unset, .unset, .unset] [(.int p0)])) _
    refine XS.i2l X0.here hx rfl (hb hby d6_1) rfl ?_
    show Steps p.tables e below (s₁.setTop (mkF m 2 #[.val (.int p0), .val (.int p1), .unset, .unset, .unset, .unset, .unset, .unset, .unset, .unset, .unset, .unset, .unset, .unset, .unset, .unset, .unset, .unset, .unset, .unset, .unset, .unset, .unset, .unset, .unset, .unset, .unset, .unset, .unset, .unset, .unset, .unset, .unset, .unset] [(.long (p0.toInt64))])) _
    refine X0.ldc2Long hx hown (mvT hZ (hw _ (List.mem_of_getElem? (i := 34) rfl))) (g := (mkF m 2 #[.val (.int p0), .val (.int p1), .unset, .unset, .unset, .unset, .unset, .unset, .unset, .unset, .unset, .unset, .unset, .unset, .unset, .unset, .unset, .unset, .unset, .unset, .unset, .unset, .unset, .unset, .unset, .unset, .unset, .unset, .unset, .unset, .unset, .unset, .unset, .unset] [(.long (p0.toInt64))])) rfl (hb hby d6_2) _ ?_
    show Steps p.tables e below (s₁.setTop (mkF m 5 #[.val (.int p0), .val (.int p1), .unset, .unset, .unset, .unset, .unset, .unset, .unset, .unset, .unset, .unset, .unset, .unset, .unset, .unset, .unset, .unset, .unset, .unset, .unset, .unset, .unset, .unset, .unset, .unset, .unset, .unset, .unset, .unset, .unset, .unset, .unset, .unset] [(.long (2 : Int64)), (.long (p0.toInt64))])) _
    refine XS.iloadN X0.here hx rfl (hb hby d6_5) rfl ?_
    show Steps p.tables e below (s₁.setTop (mkF m 6 #[.val (.int p0), .val (.int p1), .unset, .unset, .unset, .unset, .unset, .unset, .unset, .unset, .unset, .unset, .unset, .unset, .unset, .unset, .unset, .unset, .unset, .unset, .unset, .unset, .unset, .unset, .unset, .unset, .unset, .unset, .unset, .unset, .unset, .unset, .unset, .unset] [(.int p1), (.long (2 : Int64)), (.long (p0.toInt64))])) _
    refine XS.i2l X0.here hx rfl (hb hby d6_6) rfl ?_
    show Steps p.tables e below (s₁.setTop (mkF m 7 #[.val (.int p0), .val (.int p1), .unset, .unset, .unset, .unset, .unset, .unset, .unset, .unset, .unset, .unset, .unset, .unset, .unset, .unset, .unset, .unset, .unset, .unset, .unset, .unset, .unset, .unset, .unset, .unset, .unset, .unset, .unset, .unset, .unset, .unset, .unset, .unset] [(.long (p1.toInt64)), (.long (2 : Int64)), (.long (p0.toInt64))])) _
    refine XS.lmul X0.here hx rfl (hb hby d6_7) rfl ?_
    show Steps p.tables e below (s₁.setTop (mkF m 8 #[.val (.int p0), .val (.int p1), .unset, .unset, .unset, .unset, .unset, .unset, .unset, .unset, .unset, .unset, .unset, .unset, .unset, .unset, .unset, .unset, .unset, .unset, .unset, .unset, .unset, .unset, .unset, .unset, .unset, .unset, .unset, .unset, .unset, .unset, .unset, .unset] [(.long ((2 : Int64) * (p1.toInt64))), (.long (p0.toInt64))])) _
    refine XS.iloadN X0.here hx rfl (hb hby d6_8) rfl ?_
    show Steps p.tables e below (s₁.setTop (mkF m 9 #[.val (.int p0), .val (.int p1), .unset, .unset, .unset, .unset, .unset, .unset, .unset, .unset, .unset, .unset, .unset, .unset, .unset, .unset, .unset, .unset, .unset, .unset, .unset, .unset, .unset, .unset, .unset, .unset, .unset, .unset, .unset, .unset, .unset, .unset, .unset, .unset] [(.int p0), (.long ((2 : Int64) * (p1.toInt64))), (.long (p0.toInt64))])) _
    refine XS.i2l X0.here hx rfl (hb hby d6_9) rfl ?_
    show Steps p.tables e below (s₁.setTop (mkF m 10 #[.val (.int p0), .val (.int p1), .unset, .unset, .unset, .unset, .unset, .unset, .unset, .unset, .unset, .unset, .unset, .unset, .unset, .unset, .unset, .unset, .unset, .unset, .unset, .unset, .unset, .unset, .unset, .unset, .unset, .unset, .unset, .unset, .unset, .unset, .unset, .unset] [(.long (p0.toInt64)), (.long ((2 : Int64) * (p1.toInt64))), (.long (p0.toInt64))])) _
    refine XS.lsub X0.here hx rfl (hb hby d6_10) rfl ?_
    show Steps p.tables e below (s₁.setTop (mkF m 11 #[.val (.int p0), .val (.int p1), .unset, .unset, .unset, .unset, .unset, .unset, .unset, .unset, .unset, .unset, .unset, .unset, .unset, .unset, .unset, .unset, .unset, .unset, .unset, .unset, .unset, .unset, .unset, .unset, .unset, .unset, .unset, .unset, .unset, .unset, .unset, .unset] [(.long (((2 : Int64) * (p1.toInt64)) - (p0.toInt64))), (.long (p0.toInt64))])) _
    refine XS.lmul X0.here hx rfl (hb hby d6_11) rfl ?_
    exact kt
  obtain ⟨u1, hu1⟩ : ∃ q : Int64, q = ((p0.toInt64) * (((2 : Int64) * (p1.toInt64)) - (p0.toInt64))) := ⟨_, rfl⟩
  rw [← hu1]
  refine Gl.up (B := s₁.setTop (mkF m 18 #[.val (.int p0), .val (.int p1), .val (.long u1), .second, .unset, .unset, .unset, .unset, .unset, .unset, .unset, .unset, .unset, .unset, .unset, .unset, .unset, .unset, .unset, .unset, .unset, .unset, .unset, .unset, .unset, .unset, .unset, .unset, .unset, .unset, .unset, .unset, .unset, .unset] [(.long ((p1.toInt64) * (p1.toInt64)))])) (fun t kt => ?_) ?_
  · refine XS.lstoreN X0.here hx rfl (hb hby d6_12) rfl (l' := #[.val (.int p0), .val (.int p1), .val (.long u1), .second, .unset, .unset, .unset, .unset, .unset, .unset, .unset, .unset, .unset, .unset, .unset, .unset, .unset, .unset, .unset, .unset, .unset, .unset, .unset, .unset, .unset, .unset, .unset, .unset, .unset, .unset, .unset, .unset, .unset, .unset]) rfl ?_
    show Steps p.tables e below (s₁.setTop (mkF m 13 #[.val (.int p0), .val (.int p1), .val (.long u1), .second, .unset, .unset, .unset, .unset, .unset, .unset, .unset, .unset, .unset, .unset, .unset, .unset, .unset, .unset, .unset, .unset, .unset, .unset, .unset, .unset, .unset, .unset, .unset, .unset, .unset, .unset, .unset, .unset, .unset, .unset] [])) _
    refine XS.iloadN X0.here hx rfl (hb hby d6_13) rfl ?_
    show Steps p.tables e below (s₁.setTop (mkF m 14 #[.val (.int p0), .val (.int p1), .val (.long u1), .second, .unset, .unset, .unset, .unset, .unset, .unset, .unset, .unset, .unset, .unset, .unset, .unset, .unset, .unset, .unset, .unset, .unset, .unset, .unset, .unset, .unset, .unset, .unset, .unset, .unset, .unset, .unset, .unset, .unset, .unset] [(.int p1)])) _
    refine XS.i2l X0.here hx rfl (hb hby d6_14) rfl ?_
    show Steps p.tables e below (s₁.setTop (mkF m 15 #[.val (.int p0), .val (.int p1), .val (.long u1), .second, .unset, .unset, .unset, .unset, .unset, .unset, .unset, .unset, .unset, .unset, .unset, .unset, .unset, .unset, .unset, .unset, .unset, .unset, .unset, .unset, .unset, .unset, .unset, .unset, .unset, .unset, .unset, .unset, .unset, .unset] [(.long (p1.toInt64))])) _
    refine XS.iloadN X0.here hx rfl (hb hby d6_15) rfl ?_
    show Steps p.tables e below (s₁.setTop (mkF m 16 #[.val (.int p0), .val (.int p1), .val (.long u1), .second, .unset, .unset, .unset, .unset, .unset, .unset, .unset, .unset, .unset, .unset, .unset, .unset, .unset, .unset, .unset, .unset, .unset, .unset, .unset, .unset, .unset, .unset, .unset, .unset, .unset, .unset, .unset, .unset, .unset, .unset] [(.int p1), (.long (p1.toInt64))])) _
    refine XS.i2l X0.here hx rfl (hb hby d6_16) rfl ?_
    show Steps p.tables e below (s₁.setTop (mkF m 17 #[.val (.int p0), .val (.int p1), .val (.long u1), .second, .unset, .unset, .unset, .unset, .unset, .unset, .unset, .unset, .unset, .unset, .unset, .unset, .unset, .unset, .unset, .unset, .unset, .unset, .unset, .unset, .unset, .unset, .unset, .unset, .unset, .unset, .unset, .unset, .unset, .unset] [(.long (p1.toInt64)), (.long (p1.toInt64))])) _
    refine XS.lmul X0.here hx rfl (hb hby d6_17) rfl ?_
    exact kt
  obtain ⟨u2, hu2⟩ : ∃ q : Int64, q = ((p1.toInt64) * (p1.toInt64)) := ⟨_, rfl⟩
  rw [← hu2]
  refine Gl.up (B := s₁.setTop (mkF m 70 #[.val (.int p0), .val (.int p1), .val (.long u1), .second, .val (.long u2), .second, .val (.long u1), .second, .val (.long u2), .second, .val (.long (u1 * u1)), .second, .val (.long (u2 * u2)), .second, .val (.long ((u1 * u1) * u1)), .second, .val (.long ((u2 * u2) * u2)), .second, .val (.long (((u1 * u1) * u1) * u1)), .second, .val (.long (((u2 * u2) * u2) * u2)), .second, .unset, .unset, .unset, .unset, .unset, .unset, .unset, .unset, .unset, .unset, .unset, .unset] [(.long ((((u1 * u1) * u1) * u1) * u1))])) (fun t kt => ?_) ?_
  · refine XS.lstore X0.here hx rfl (hb hby d6_18) rfl (l' := #[.val (.int p0), .val (.int p1), .val (.long u1), .second, .val (.long u2), .second, .unset, .unset, .unset, .unset, .unset, .unset, .unset, .unset, .unset, .unset, .unset, .unset, .unset, .unset, .unset, .unset, .unset, .unset, .unset, .unset, .unset, .unset, .unset, .unset, .unset, .unset, .unset, .unset]) rfl ?_
    show Steps p.tables e below (s₁.setTop (mkF m 20 #[.val (.int p0), .val (.int p1), .val (.long u1), .second, .val (.long u2), .second, .unset, .unset, .unset, .unset, .unset, .unset, .unset, .unset, .unset, .unset, .unset, .unset, .unset, .unset, .unset, .unset, .unset, .unset, .unset, .unset, .unset, .unset, .unset, .unset, .unset, .unset, .unset, .unset] [])) _
    refine XS.lloadN X0.here hx rfl (hb hby d6_20) rfl ?_
    show Steps p.tables e below (s₁.setTop (mkF m 21 #[.val (.int p0), .val (.int p1), .val (.long u1), .second, .val (.long u2), .second, .unset, .unset, .unset, .unset, .unset, .unset, .unset, .unset, .unset, .unset, .unset, .unset, .unset, .unset, .unset, .unset, .unset, .unset, .unset, .unset, .unset, .unset, .unset, .unset, .unset, .unset, .unset, .unset] [(.long u1)])) _
    refine XS.lstore X0.here hx rfl (hb hby d6_21) rfl (l' := #[.val (.int p0), .val (.int p1), .val (.long u1), .second, .val (.long u2), .second, .val (.long u1), .second, .unset, .unset, .unset, .unset, .unset, .unset, .unset, .unset, .unset, .unset, .unset, .unset, .unset, .unset, .unset, .unset, .unset, .unset, .unset, .unset, .unset, .unset, .unset, .unset, .unset, .unset]) rfl ?_
    show Steps p.tables e below (s₁.setTop (mkF m 23 #[.val (.int p0), .val (.int p1), .val (.long u1), .second, .val (.long u2), .second, .val (.long u1), .second, .unset, .unset, .unset, .unset, .unset, .unset, .unset, .unset, .unset, .unset, .unset, .unset, .unset, .unset, .unset, .unset, .unset, .unset, .unset, .unset, .unset, .unset, .unset, .unset, .unset, .unset] [])) _
    refine XS.lload X0.here hx rfl (hb hby d6_23) rfl ?_
    show Steps p.tables e below (s₁.setTop (mkF m 25 #[.val (.int p0), .val (.int p1), .val (.long u1), .second, .val (.long u2), .second, .val (.long u1), .second, .unset, .unset, .unset, .unset, .unset, .unset, .unset, .unset, .unset, .unset, .unset, .unset, .unset, .unset, .unset, .unset, .unset, .unset, .unset, .unset, .unset, .unset, .unset, .unset, .unset, .unset] [(.long u2)])) _
    refine XS.lstore X0.here hx rfl (hb hby d6_25) rfl (l' := #[.val (.int p0), .val (.int p1), .val (.long u1), .second, .val (.long u2), .second, .val (.long u1), .second, .val (.long u2), .second, .unset, .unset, .unset, .unset, .unset, .unset, .unset, .unset, .unset, .unset, .unset, .unset, .unset, .unset, .unset, .unset, .unset, .unset, .unset, .unset, .unset, .unset, .unset, .unset]) rfl ?_
    show Steps p.tables e below (s₁.setTop (mkF m 27 #[.val (.int p0), .val (.int p1), .val (.long u1), .second, .val (.long u2), .second, .val (.long u1), .second, .val (.long u2), .second, .unset, .unset, .unset, .unset, .unset, .unset, .unset, .unset, .unset, .unset, .unset, .unset, .unset, .unset, .unset, .unset, .unset, .unset, .unset, .unset, .unset, .unset, .unset, .unset] [])) _
    refine XS.lload X0.here hx rfl (hb hby d6_27) rfl ?_
    show Steps p.tables e below (s₁.setTop (mkF m 29 #[.val (.int p0), .val (.int p1), .val (.long u1), .second, .val (.long u2), .second, .val (.long u1), .second, .val (.long u2), .second, .unset, .unset, .unset, .unset, .unset, .unset, .unset, .unset, .unset, .unset, .unset, .unset, .unset, .unset, .unset, .unset, .unset, .unset, .unset, .unset, .unset, .unset, .unset, .unset] [(.long u1)])) _
    refine XS.lloadN X0.here hx rfl (hb hby d6_29) rfl ?_
    show Steps p.tables e below (s₁.setTop (mkF m 30 #[.val (.int p0), .val (.int p1), .val (.long u1), .second, .val (.long u2), .second, .val (.long u1), .second, .val (.long u2), .second, .unset, .unset, .unset, .unset, .unset, .unset, .unset, .unset, .unset, .unset, .unset, .unset, .unset, .unset, .unset, .unset, .unset, .unset, .unset, .unset, .unset, .unset, .unset, .unset] [(.long u1), (.long u1)])) _
    refine XS.lmul X0.here hx rfl (hb hby d6_30) rfl ?_
    show Steps p.tables e below (s₁.setTop (mkF m 31 #[.val (.int p0), .val (.int p1), .val (.long u1), .second, .val (.long u2), .second, .val (.long u1), .second, .val (.long u2), .second, .unset, .unset, .unset, .unset, .unset, .unset, .unset, .unset, .unset, .unset, .unset, .unset, .unset, .unset, .unset, .unset, .unset, .unset, .unset, .unset, .unset, .unset, .unset, .unset] [(.long (u1 * u1))])) _
    refine XS.lstore X0.here hx rfl (hb hby d6_31) rfl (l' := #[.val (.int p0), .val (.int p1), .val (.long u1), .second, .val (.long u2), .second, .val (.long u1), .second, .val (.long u2), .second, .val (.long (u1 * u1)), .second, .unset, .unset, .unset, .unset, .unset, .unset, .unset, .unset, .unset, .unset, .unset, .unset, .unset, .unset, .unset, .unset, .unset, .unset, .unset, .unset, .unset, .unset]) rfl ?_
    show Steps p.tables e below (s₁.setTop (mkF m 33 #[.val (.int p0), .val (.int p1), .val (.long u1), .second, .val (.long u2), .second, .val (.long u1), .second, .val (.long u2), .second, .val (.long (u1 * u1)), .second, .unset, .unset, .unset, .unset, .unset, .unset, .unset, .unset, .unset, .unset, .unset, .unset, .unset, .unset, .unset, .unset, .unset, .unset, .unset, .unset, .unset, .unset] [])) _
    refine XS.lload X0.here hx rfl (hb hby d6_33) rfl ?_
    show Steps p.tables e below (s₁.setTop (mkF m 35 #[.val (.int p0), .val (.int p1), .val (.long u1), .second, .val (.long u2), .second, .val (.long u1), .second, .val (.long u2), .second, .val (.long (u1 * u1)), .second, .unset, .unset, .unset, .unset, .unset, .unset, .unset, .unset, .unset, .unset, .unset, .unset, .unset, .unset, .unset, .unset, .unset, .unset, .unset, .unset, .unset, .unset] [(.long u2)])) _
    refine XS.lload X0.here hx rfl (hb hby d6_35) rfl ?_
    show Steps p.tables e below (s₁.setTop (mkF m 37 #[.val (.int p0), .val (.int p1), .val (.long u1), .second, .val (.long u2), .second, .val (.long u1), .second, .val (.long u2), .second, .val (.long (u1 * u1)), .second, .unset, .unset, .unset, .unset, .unset, .unset, .unset, .unset, .unset, .unset, .unset, .unset, .unset, .unset, .unset, .unset, .unset, .unset, .unset, .unset, .unset, .unset] [(.long u2), (.long u2)])) _
    refine XS.lmul X0.here hx rfl (hb hby d6_37) rfl ?_
    show Steps p.tables e below (s₁.setTop (mkF m 38 #[.val (.int p0), .val (.int p1), .val (.long u1), .second, .val (.long u2), .second, .val (.long u1), .second, .val (.long u2), .second, .val (.long (u1 * u1)), .second, .unset, .unset, .unset, .unset, .unset, .unset, .unset, .unset, .unset, .unset, .unset, .unset, .unset, .unset, .unset, .unset, .unset, .unset, .unset, .unset, .unset, .unset] [(.long (u2 * u2))])) _
    refine XS.lstore X0.here hx rfl (hb hby d6_38) rfl (l' := #[.val (.int p0), .val (.int p1), .val (.long u1), .second, .val (.long u2), .second, .val (.long u1), .second, .val (.long u2), .second, .val (.long (u1 * u1)), .second, .val (.long (u2 * u2)), .second, .unset, .unset, .unset, .unset, .unset, .unset, .unset, .unset, .unset, .unset, .unset, .unset, .unset, .unset, .unset, .unset, .unset, .unset, .unset, .unset]) rfl ?_
    show Steps p.tables e below (s₁.setTop (mkF m 40 #[.val (.int p0), .val (.int p1), .val (.long u1), .second, .val (.long u2), .second, .val (.long u1), .second, .val (.long u2), .second, .val (.long (u1 * u1)), .second, .val (.long (u2 * u2)), .second, .unset, .unset, .unset, .unset, .unset, .unset, .unset, .unset, .unset, .unset, .unset, .unset, .unset, .unset, .unset, .unset, .unset, .unset, .unset, .unset] [])) _
    refine XS.lload X0.here hx rfl (hb hby d6_40) rfl ?_
    show Steps p.tables e below (s₁.setTop (mkF m 42 #[.val (.int p0), .val (.int p1), .val (.long u1), .second, .val (.long u2), .second, .val (.long u1), .second, .val (.long u2), .second, .val (.long (u1 * u1)), .second, .val (.long (u2 * u2)), .second, .unset, .unset, .unset, .unset, .unset, .unset, .unset, .unset, .unset, .unset, .unset, .unset, .unset, .unset, .unset, .unset, .unset, .unset, .unset, .unset] [(.long (u1 * u1))])) _
    refine XS.lloadN X0.here hx rfl (hb hby d6_42) rfl ?_
    show Steps p.tables e below (s₁.setTop (mkF m 43 #[.val (.int p0), .val (.int p1), .val (.long u1), .second, .val (.long u2), .second, .val (.long u1), .second, .val (.long u2), .second, .val (.long (u1 * u1)), .second, .val (.long (u2 * u2)), .second, .unset, .unset, .unset, .unset, .unset, .unset, .unset, .unset, .unset, .unset, .unset, .unset, .unset, .unset, .unset, .unset, .unset, .unset, .unset, .unset] [(.long u1), (.long (u1 * u1))])) _
    refine XS.lmul X0.here hx rfl (hb hby d6_43) rfl ?_
    show Steps p.tables e below (s₁.setTop (mkF m 44 #[.val (.int p0), .val (.int p1), .val (.long u1), .second, .val (.long u2), .second, .val (.long u1), .second, .val (.long u2), .second, .val (.long (u1 * u1)), .second, .val (.long (u2 * u2)), .second, .unset, .unset, .unset, .unset, .unset, .unset, .unset, .unset, .unset, .unset, .unset, .unset, .unset, .unset, .unset, .unset, .unset, .unset, .unset, .unset] [(.long ((u1 * u1) * u1))])) _
    refine XS.lstore X0.here hx rfl (hb hby d6_44) rfl (l' := #[.val (.int p0), .val (.int p1), .val (.long u1), .second, .val (.long u2), .second, .val (.long u1), .second, .val (.long u2), .second, .val (.long (u1 * u1)), .second, .val (.long (u2 * u2)), .second, .val (.long ((u1 * u1) * u1)), .second, .unset, .unset, .unset, .unset, .unset, .unset, .unset, .unset, .unset, .unset, .unset, .unset, .unset, .unset, .unset, .unset, .unset, .unset]) rfl ?_
    show Steps p.tables e below (s₁.setTop (mkF m 46 #[.val (.int p0), .val (.int p1), .val (.long u1), .second, .val (.long u2), .second, .val (.long u1), .second, .val (.long u2), .second, .val (.long (u1 * u1)), .second, .val (.long (u2 * u2)), .second, .val (.long ((u1 * u1) * u1)), .second, .unset, .unset, .unset, .unset, .unset, .unset, .unset, .unset, .unset, .unset, .unset, .unset, .unset, .unset, .unset, .unset, .unset, .unset] [])) _
    refine XS.lload X0.here hx rfl (hb hby d6_46) rfl ?_
    show Steps p.tables e below (s₁.setTop (mkF m 48 #[.val (.int p0), .val (.int p1), .val (.long u1), .second, .val (.long u2), .second, .val (.long u1), .second, .val (.long u2), .second, .val (.long (u1 * u1)), .second, .val (.long (u2 * u2)), .second, .val (.long ((u1 * u1) * u1)), .second, .unset, .unset, .unset, .unset, .unset, .unset, .unset, .unset, .unset, .unset, .unset, .unset, .unset, .unset, .unset, .unset, .unset, .unset] [(.long (u2 * u2))])) _
    refine XS.lload X0.here hx rfl (hb hby d6_48) rfl ?_
    show Steps p.tables e below (s₁.setTop (mkF m 50 #[.val (.int p0), .val (.int p1), .val (.long u1), .second, .val (.long u2), .second, .val (.long u1), .second, .val (.long u2), .second, .val (.long (u1 * u1)), .second, .val (.long (u2 * u2)), .second, .val (.long ((u1 * u1) * u1)), .second, .unset, .unset, .unset, .unset, .unset, .unset, .unset, .unset, .unset, .unset, .unset, .unset, .unset, .unset, .unset, .unset, .unset, .unset] [(.long u2), (.long (u2 * u2))])) _
    refine XS.lmul X0.here hx rfl (hb hby d6_50) rfl ?_
    show Steps p.tables e below (s₁.setTop (mkF m 51 #[.val (.int p0), .val (.int p1), .val (.long u1), .second, .val (.long u2), .second, .val (.long u1), .second, .val (.long u2), .second, .val (.long (u1 * u1)), .second, .val (.long (u2 * u2)), .second, .val (.long ((u1 * u1) * u1)), .second, .unset, .unset, .unset, .unset, .unset, .unset, .unset, .unset, .unset, .unset, .unset, .unset, .unset, .unset, .unset, .unset, .unset, .unset] [(.long ((u2 * u2) * u2))])) _
    refine XS.lstore X0.here hx rfl (hb hby d6_51) rfl (l' := #[.val (.int p0), .val (.int p1), .val (.long u1), .second, .val (.long u2), .second, .val (.long u1), .second, .val (.long u2), .second, .val (.long (u1 * u1)), .second, .val (.long (u2 * u2)), .second, .val (.long ((u1 * u1) * u1)), .second, .val (.long ((u2 * u2) * u2)), .second, .unset, .unset, .unset, .unset, .unset, .unset, .unset, .unset, .unset, .unset, .unset, .unset, .unset, .unset, .unset, .unset]) rfl ?_
    show Steps p.tables e below (s₁.setTop (mkF m 53 #[.val (.int p0), .val (.int p1), .val (.long u1), .second, .val (.long u2), .second, .val (.long u1), .second, .val (.long u2), .second, .val (.long (u1 * u1)), .second, .val (.long (u2 * u2)), .second, .val (.long ((u1 * u1) * u1)), .second, .val (.long ((u2 * u2) * u2)), .second, .unset, .unset, .unset, .unset, .unset, .unset, .unset, .unset, .unset, .unset, .unset, .unset, .unset, .unset, .unset, .unset] [])) _
    refine XS.lload X0.here hx rfl (hb hby d6_53) rfl ?_
    show Steps p.tables e below (s₁.setTop (mkF m 55 #[.val (.int p0), .val (.int p1), .val (.long u1), .second, .val (.long u2), .second, .val (.long u1), .second, .val (.long u2), .second, .val (.long (u1 * u1)), .second, .val (.long (u2 * u2)), .second, .val (.long ((u1 * u1) * u1)), .second, .val (.long ((u2 * u2) * u2)), .second, .unset, .unset, .unset, .unset, .unset, .unset, .unset, .unset, .unset, .unset, .unset, .unset, .unset, .unset, .unset, .unset] [(.long ((u1 * u1) * u1))])) _
    refine XS.lloadN X0.here hx rfl (hb hby d6_55) rfl ?_
    show Steps p.tables e below (s₁.setTop (mkF m 56 #[.val (.int p0), .val (.int p1), .val (.long u1), .second, .val (.long u2), .second, .val (.long u1), .second, .val (.long u2), .second, .val (.long (u1 * u1)), .second, .val (.long (u2 * u2)), .second, .val (.long ((u1 * u1) * u1)), .second, .val (.long ((u2 * u2) * u2)), .second, .unset, .unset, .unset, .unset, .unset, .unset, .unset, .unset, .unset, .unset, .unset, .unset, .unset, .unset, .unset, .unset] [(.long u1), (.long ((u1 * u1) * u1))])) _
    refine XS.lmul X0.here hx rfl (hb hby d6_56) rfl ?_
    show Steps p.tables e below (s₁.setTop (mkF m 57 #[.val (.int p0), .val (.int p1), .val (.long u1), .second, .val (.long u2), .second, .val (.long u1), .second, .val (.long u2), .second, .val (.long (u1 * u1)), .second, .val (.long (u2 * u2)), .second, .val (.long ((u1 * u1) * u1)), .second, .val (.long ((u2 * u2) * u2)), .second, .unset, .unset, .unset, .unset, .unset, .unset, .unset, .unset, .unset, .unset, .unset, .unset, .unset, .unset, .unset, .unset] [(.long (((u1 * u1) * u1) * u1))])) _
    refine XS.lstore X0.here hx rfl (hb hby d6_57) rfl (l' := #[.val (.int p0), .val (.int p1), .val (.long u1), .second, .val (.long u2), .second, .val (.long u1), .second, .val (.long u2), .second, .val (.long (u1 * u1)), .second, .val (.long (u2 * u2)), .second, .val (.long ((u1 * u1) * u1)), .second, .val (.long ((u2 * u2) * u2)), .second, .val (.long (((u1 * u1) * u1) * u1)), .second, .unset, .unset, .unset, .unset, .unset, .unset, .unset, .unset, .unset, .unset, .unset, .unset, .unset, .unset]) rfl ?_
    show Steps p.tables e below (s₁.setTop (mkF m 59 #[.val (.int p0), .val (.int p1), .val (.long u1), .second, .val (.long u2), .second, .val (.long u1), .second, .val (.long u2), .second, .val (.long (u1 * u1)), .second, .val (.long (u2 * u2)), .second, .val (.long ((u1 * u1) * u1)), .second, .val (.long ((u2 * u2) * u2)), .second, .val (.long (((u1 * u1) * u1) * u1)), .second, .unset, .unset, .unset, .unset, .unset, .unset, .unset, .unset, .unset, .unset, .unset, .unset, .unset, .unset] [])) _
    refine XS.lload X0.here hx rfl (hb hby d6_59) rfl ?_
    show Steps p.tables e below (s₁.setTop (mkF m 61 #[.val (.int p0), .val (.int p1), .val (.long u1), .second, .val (.long u2), .second, .val (.long u1), .second, .val (.long u2), .second, .val (.long (u1 * u1)), .second, .val (.long (u2 * u2)), .second, .val (.long ((u1 * u1) * u1)), .second, .val (.long ((u2 * u2) * u2)), .second, .val (.long (((u1 * u1) * u1) * u1)), .second, .unset, .unset, .unset, .unset, .unset, .unset, .unset, .unset, .unset, .unset, .unset, .unset, .unset, .unset] [(.long ((u2 * u2) * u2))])) _
    refine XS.lload X0.here hx rfl (hb hby d6_61) rfl ?_
    show Steps p.tables e below (s₁.setTop (mkF m 63 #[.val (.int p0), .val (.int p1), .val (.long u1), .second, .val (.long u2), .second, .val (.long u1), .second, .val (.long u2), .second, .val (.long (u1 * u1)), .second, .val (.long (u2 * u2)), .second, .val (.long ((u1 * u1) * u1)), .second, .val (.long ((u2 * u2) * u2)), .second, .val (.long (((u1 * u1) * u1) * u1)), .second, .unset, .unset, .unset, .unset, .unset, .unset, .unset, .unset, .unset, .unset, .unset, .unset, .unset, .unset] [(.long u2), (.long ((u2 * u2) * u2))])) _
    refine XS.lmul X0.here hx rfl (hb hby d6_63) rfl ?_
    show Steps p.tables e below (s₁.setTop (mkF m 64 #[.val (.int p0), .val (.int p1), .val (.long u1), .second, .val (.long u2), .second, .val (.long u1), .second, .val (.long u2), .second, .val (.long (u1 * u1)), .second, .val (.long (u2 * u2)), .second, .val (.long ((u1 * u1) * u1)), .second, .val (.long ((u2 * u2) * u2)), .second, .val (.long (((u1 * u1) * u1) * u1)), .second, .unset, .unset, .unset, .unset, .unset, .unset, .unset, .unset, .unset, .unset, .unset, .unset, .unset, .unset] [(.long (((u2 * u2) * u2) * u2))])) _
    refine XS.lstore X0.here hx rfl (hb hby d6_64) rfl (l' := #[.val (.int p0), .val (.int p1), .val (.long u1), .second, .val (.long u2), .second, .val (.long u1), .second, .val (.long u2), .second, .val (.long (u1 * u1)), .second, .val (.long (u2 * u2)), .second, .val (.long ((u1 * u1) * u1)), .second, .val (.long ((u2 * u2) * u2)), .second, .val (.long (((u1 * u1) * u1) * u1)), .second, .val (.long (((u2 * u2) * u2) * u2)), .second, .unset, .unset, .unset, .unset, .unset, .unset, .unset, .unset, .unset, .unset, .unset, .unset]) rfl ?_
    show Steps p.tables e below (s₁.setTop (mkF m 66 #[.val (.int p0), .val (.int p1), .val (.long u1), .second, .val (.long u2), .second, .val (.long u1), .second, .val (.long u2), .second, .val (.long (u1 * u1)), .second, .val (.long (u2 * u2)), .second, .val (.long ((u1 * u1) * u1)), .second, .val (.long ((u2 * u2) * u2)), .second, .val (.long (((u1 * u1) * u1) * u1)), .second, .val (.long (((u2 * u2) * u2) * u2)), .second, .unset, .unset, .unset, .unset, .unset, .unset, .unset, .unset, .unset, .unset, .unset, .unset] [])) _
    refine XS.lload X0.here hx rfl (hb hby d6_66) rfl ?_
    show Steps p.tables e below (s₁.setTop (mkF m 68 #[.val (.int p0), .val (.int p1), .val (.long u1), .second, .val (.long u2), .second, .val (.long u1), .second, .val (.long u2), .second, .val (.long (u1 * u1)), .second, .val (.long (u2 * u2)), .second, .val (.long ((u1 * u1) * u1)), .second, .val (.long ((u2 * u2) * u2)), .second, .val (.long (((u1 * u1) * u1) * u1)), .second, .val (.long (((u2 * u2) * u2) * u2)), .second, .unset, .unset, .unset, .unset, .unset, .unset, .unset, .unset, .unset, .unset, .unset, .unset] [(.long (((u1 * u1) * u1) * u1))])) _
    refine XS.lloadN X0.here hx rfl (hb hby d6_68) rfl ?_
    show Steps p.tables e below (s₁.setTop (mkF m 69 #[.val (.int p0), .val (.int p1), .val (.long u1), .second, .val (.long u2), .second, .val (.long u1), .second, .val (.long u2), .second, .val (.long (u1 * u1)), .second, .val (.long (u2 * u2)), .second, .val (.long ((u1 * u1) * u1)), .second, .val (.long ((u2 * u2) * u2)), .second, .val (.long (((u1 * u1) * u1) * u1)), .second, .val (.long (((u2 * u2) * u2) * u2)), .second, .unset, .unset, .unset, .unset, .unset, .unset, .unset, .unset, .unset, .unset, .unset, .unset] [(.long u1), (.long (((u1 * u1) * u1) * u1))])) _
    refine XS.lmul X0.here hx rfl (hb hby d6_69) rfl ?_
    exact kt
  obtain ⟨u3, hu3⟩ : ∃ q : Int64, q = ((((u1 * u1) * u1) * u1) * u1) := ⟨_, rfl⟩
  rw [← hu3]
  refine Gl.up (B := s₁.setTop (mkF m 77 #[.val (.int p0), .val (.int p1), .val (.long u1), .second, .val (.long u2), .second, .val (.long u1), .second, .val (.long u2), .second, .val (.long (u1 * u1)), .second, .val (.long (u2 * u2)), .second, .val (.long ((u1 * u1) * u1)), .second, .val (.long ((u2 * u2) * u2)), .second, .val (.long (((u1 * u1) * u1) * u1)), .second, .val (.long (((u2 * u2) * u2) * u2)), .second, .val (.long u3), .second, .unset, .unset, .unset, .unset, .unset, .unset, .unset, .unset, .unset, .unset] [(.long ((((u2 * u2) * u2) * u2) * u2))])) (fun t kt => ?_) ?_
  · refine XS.lstore X0.here hx rfl (hb hby d6_70) rfl (l' := #[.val (.int p0), .val (.int p1), .val (.long u1), .second, .val (.long u2), .second, .val (.long u1), .second, .val (.long u2), .second, .val (.long (u1 * u1)), .second, .val (.long (u2 * u2)), .second, .val (.long ((u1 * u1) * u1)), .second, .val (.long ((u2 * u2) * u2)), .second, .val (.long (((u1 * u1) * u1) * u1)), .second, .val (.long (((u2 * u2) * u2) * u2)), .second, .val (.long u3), .second, .unset, .unset, .unset, .unset, .unset, .unset, .unset, .unset, .unset, .unset]) rfl ?_
    show Steps p.tables e below (s₁.setTop (mkF m 72 #[.val (.int p0), .val (.int p1), .val (.long u1), .second, .val (.long u2), .second, .val (.long u1), .second, .val (.long u2), .second, .val (.long (u1 * u1)), .second, .val (.long (u2 * u2)), .second, .val (.long ((u1 * u1) * u1)), .second, .val (.long ((u2 * u2) * u2)), .second, .val (.long (((u1 * u1) * u1) * u1)), .second, .val (.long (((u2 * u2) * u2) * u2)), .second, .val (.long u3), .second, .unset, .unset, .unset, .unset, .unset, .unset, .unset, .unset, .unset, .unset] [])) _
    refine XS.lload X0.here hx rfl (hb hby d6_72) rfl ?_
    show Steps p.tables e below (s₁.setTop (mkF m 74 #[.val (.int p0), .val (.int p1), .val (.long u1), .second, .val (.long u2), .second, .val (.long u1), .second, .val (.long u2), .second, .val (.long (u1 * u1)), .second, .val (.long (u2 * u2)), .second, .val (.long ((u1 * u1) * u1)), .second, .val (.long ((u2 * u2) * u2)), .second, .val (.long (((u1 * u1) * u1) * u1)), .second, .val (.long (((u2 * u2) * u2) * u2)), .second, .val (.long u3), .second, .unset, .unset, .unset, .unset, .unset, .unset, .unset, .unset, .unset, .unset] [(.long (((u2 * u2) * u2) * u2))])) _
    refine XS.lload X0.here hx rfl (hb hby d6_74) rfl ?_
    show Steps p.tables e below (s₁.setTop (mkF m 76 #[.val (.int p0), .val (.int p1), .val (.long u1), .second, .val (.long u2), .second, .val (.long u1), .second, .val (.long u2), .second, .val (.long (u1 * u1)), .second, .val (.long (u2 * u2)), .second, .val (.long ((u1 * u1) * u1)), .second, .val (.long ((u2 * u2) * u2)), .second, .val (.long (((u1 * u1) * u1) * u1)), .second, .val (.long (((u2 * u2) * u2) * u2)), .second, .val (.long u3), .second, .unset, .unset, .unset, .unset, .unset, .unset, .unset, .unset, .unset, .unset] [(.long u2), (.long (((u2 * u2) * u2) * u2))])) _
    refine XS.lmul X0.here hx rfl (hb hby d6_76) rfl ?_
    exact kt
  obtain ⟨u4, hu4⟩ : ∃ q : Int64, q = ((((u2 * u2) * u2) * u2) * u2) := ⟨_, rfl⟩
  rw [← hu4]
  refine Gl.up (B := s₁.setTop (mkF m 114 #[.val (.int p0), .val (.int p1), .val (.long u1), .second, .val (.long u2), .second, .val (.long u1), .second, .val (.long u2), .second, .val (.long (u1 * u1)), .second, .val (.long (u2 * u2)), .second, .val (.long ((u1 * u1) * u1)), .second, .val (.long ((u2 * u2) * u2)), .second, .val (.long (((u1 * u1) * u1) * u1)), .second, .val (.long (((u2 * u2) * u2) * u2)), .second, .val (.long u3), .second, .val (.long u4), .second, .val (.long (u3 * u1)), .second, .val (.long (u4 * u2)), .second, .val (.long ((u3 * u1) * u1)), .second, .val (.long ((u4 * u2) * u2)), .second] [(.int (lcmpW ((64 : Int64) * u1) u2))])) (fun t kt => ?_) ?_
  · refine XS.lstore X0.here hx rfl (hb hby d6_77) rfl (l' := #[.val (.int p0), .val (.int p1), .val (.long u1), .second, .val (.long u2), .second, .val (.long u1), .second, .val (.long u2), .second, .val (.long (u1 * u1)), .second, .val (.long (u2 * u2)), .second, .val (.long ((u1 * u1) * u1)), .second, .val (.long ((u2 * u2) * u2)), .second, .val (.long (((u1 * u1) * u1) * u1)), .second, .val (.long (((u2 * u2) * u2) * u2)), .second, .val (.long u3), .second, .val (.long u4), .second, .unset, .unset, .unset, .unset, .unset, .unset, .unset, .unset]) rfl ?_
    show Steps p.tables e below (s₁.setTop (mkF m 79 #[.val (.int p0), .val (.int p1), .val (.long u1), .second, .val (.long u2), .second, .val (.long u1), .second, .val (.long u2), .second, .val (.long (u1 * u1)), .second, .val (.long (u2 * u2)), .second, .val (.long ((u1 * u1) * u1)), .second, .val (.long ((u2 * u2) * u2)), .second, .val (.long (((u1 * u1) * u1) * u1)), .second, .val (.long (((u2 * u2) * u2) * u2)), .second, .val (.long u3), .second, .val (.long u4), .second, .unset, .unset, .unset, .unset, .unset, .unset, .unset, .unset] [])) _
    refine XS.lload X0.here hx rfl (hb hby d6_79) rfl ?_
    show Steps p.tables e below (s₁.setTop (mkF m 81 #[.val (.int p0), .val (.int p1), .val (.long u1), .second, .val (.long u2), .second, .val (.long u1), .second, .val (.long u2), .second, .val (.long (u1 * u1)), .second, .val (.long (u2 * u2)), .second, .val (.long ((u1 * u1) * u1)), .second, .val (.long ((u2 * u2) * u2)), .second, .val (.long (((u1 * u1) * u1) * u1)), .second, .val (.long (((u2 * u2) * u2) * u2)), .second, .val (.long u3), .second, .val (.long u4), .second, .unset, .unset, .unset, .unset, .unset, .unset, .unset, .unset] [(.long u3)])) _
    refine XS.lloadN X0.here hx rfl (hb hby d6_81) rfl ?_
    show Steps p.tables e below (s₁.setTop (mkF m 82 #[.val (.int p0), .val (.int p1), .val (.long u1), .second, .val (.long u2), .second, .val (.long u1), .second, .val (.long u2), .second, .val (.long (u1 * u1)), .second, .val (.long (u2 * u2)), .second, .val (.long ((u1 * u1) * u1)), .second, .val (.long ((u2 * u2) * u2)), .second, .val (.long (((u1 * u1) * u1) * u1)), .second, .val (.long (((u2 * u2) * u2) * u2)), .second, .val (.long u3), .second, .val (.long u4), .second, .unset, .unset, .unset, .unset, .unset, .unset, .unset, .unset] [(.long u1), (.long u3)])) _
    refine XS.lmul X0.here hx rfl (hb hby d6_82) rfl ?_
    show Steps p.tables e below (s₁.setTop (mkF m 83 #[.val (.int p0), .val (.int p1), .val (.long u1), .second, .val (.long u2), .second, .val (.long u1), .second, .val (.long u2), .second, .val (.long (u1 * u1)), .second, .val (.long (u2 * u2)), .second, .val (.long ((u1 * u1) * u1)), .second, .val (.long ((u2 * u2) * u2)), .second, .val (.long (((u1 * u1) * u1) * u1)), .second, .val (.long (((u2 * u2) * u2) * u2)), .second, .val (.long u3), .second, .val (.long u4), .second, .unset, .unset, .unset, .unset, .unset, .unset, .unset, .unset] [(.long (u3 * u1))])) _
    refine XS.lstore X0.here hx rfl (hb hby d6_83) rfl (l' := #[.val (.int p0), .val (.int p1), .val (.long u1), .second, .val (.long u2), .second, .val (.long u1), .second, .val (.long u2), .second, .val (.long (u1 * u1)), .second, .val (.long (u2 * u2)), .second, .val (.long ((u1 * u1) * u1)), .second, .val (.long ((u2 * u2) * u2)), .second, .val (.long (((u1 * u1) * u1) * u1)), .second, .val (.long (((u2 * u2) * u2) * u2)), .second, .val (.long u3), .second, .val (.long u4), .second, .val (.long (u3 * u1)), .second, .unset, .unset, .unset, .unset, .unset, .unset]) rfl ?_
    show Steps p.tables e below (s₁.setTop (mkF m 85 #[.val (.int p0), .val (.int p1), .val (.long u1), .second, .val (.long u2), .second, .val (.long u1), .second, .val (.long u2), .second, .val (.long (u1 * u1)), .second, .val (.long (u2 * u2)), .second, .val (.long ((u1 * u1) * u1)), .second, .val (.long ((u2 * u2) * u2)), .second, .val (.long (((u1 * u1) * u1) * u1)), .second, .val (.long (((u2 * u2) * u2) * u2)), .second, .val (.long u3), .second, .val (.long u4), .second, .val (.long (u3 * u1)), .second, .unset, .unset, .unset, .unset, .unset, .unset] [])) _
    refine XS.lload X0.here hx rfl (hb hby d6_85) rfl ?_
    show Steps p.tables e below (s₁.setTop (mkF m 87 #[.val (.int p0), .val (.int p1), .val (.long u1), .second, .val (.long u2), .second, .val (.long u1), .second, .val (.long u2), .second, .val (.long (u1 * u1)), .second, .val (.long (u2 * u2)), .second, .val (.long ((u1 * u1) * u1)), .second, .val (.long ((u2 * u2) * u2)), .second, .val (.long (((u1 * u1) * u1) * u1)), .second, .val (.long (((u2 * u2) * u2) * u2)), .second, .val (.long u3), .second, .val (.long u4), .second, .val (.long (u3 * u1)), .second, .unset, .unset, .unset, .unset, .unset, .unset] [(.long u4)])) _
    refine XS.lload X0.here hx rfl (hb hby d6_87) rfl ?_
    show Steps p.tables e below (s₁.setTop (mkF m 89 #[.val (.int p0), .val (.int p1), .val (.long u1), .second, .val (.long u2), .second, .val (.long u1), .second, .val (.long u2), .second, .val (.long (u1 * u1)), .second, .val (.long (u2 * u2)), .second, .val (.long ((u1 * u1) * u1)), .second, .val (.long ((u2 * u2) * u2)), .second, .val (.long (((u1 * u1) * u1) * u1)), .second, .val (.long (((u2 * u2) * u2) * u2)), .second, .val (.long u3), .second, .val (.long u4), .second, .val (.long (u3 * u1)), .second, .unset, .unset, .unset, .unset, .unset, .unset] [(.long u2), (.long u4)])) _
    refine XS.lmul X0.here hx rfl (hb hby d6_89) rfl ?_
    show Steps p.tables e below (s₁.setTop (mkF m 90 #[.val (.int p0), .val (.int p1), .val (.long u1), .second, .val (.long u2), .second, .val (.long u1), .second, .val (.long u2), .second, .val (.long (u1 * u1)), .second, .val (.long (u2 * u2)), .second, .val (.long ((u1 * u1) * u1)), .second, .val (.long ((u2 * u2) * u2)), .second, .val (.long (((u1 * u1) * u1) * u1)), .second, .val (.long (((u2 * u2) * u2) * u2)), .second, .val (.long u3), .second, .val (.long u4), .second, .val (.long (u3 * u1)), .second, .unset, .unset, .unset, .unset, .unset, .unset] [(.long (u4 * u2))])) _
    refine XS.lstore X0.here hx rfl (hb hby d6_90) rfl (l' := #[.val (.int p0), .val (.int p1), .val (.long u1), .second, .val (.long u2), .second, .val (.long u1), .second, .val (.long u2), .second, .val (.long (u1 * u1)), .second, .val (.long (u2 * u2)), .second, .val (.long ((u1 * u1) * u1)), .second, .val (.long ((u2 * u2) * u2)), .second, .val (.long (((u1 * u1) * u1) * u1)), .second, .val (.long (((u2 * u2) * u2) * u2)), .second, .val (.long u3), .second, .val (.long u4), .second, .val (.long (u3 * u1)), .second, .val (.long (u4 * u2)), .second, .unset, .unset, .unset, .unset]) rfl ?_
    show Steps p.tables e below (s₁.setTop (mkF m 92 #[.val (.int p0), .val (.int p1), .val (.long u1), .second, .val (.long u2), .second, .val (.long u1), .second, .val (.long u2), .second, .val (.long (u1 * u1)), .second, .val (.long (u2 * u2)), .second, .val (.long ((u1 * u1) * u1)), .second, .val (.long ((u2 * u2) * u2)), .second, .val (.long (((u1 * u1) * u1) * u1)), .second, .val (.long (((u2 * u2) * u2) * u2)), .second, .val (.long u3), .second, .val (.long u4), .second, .val (.long (u3 * u1)), .second, .val (.long (u4 * u2)), .second, .unset, .unset, .unset, .unset] [])) _
    refine XS.lload X0.here hx rfl (hb hby d6_92) rfl ?_
    show Steps p.tables e below (s₁.setTop (mkF m 94 #[.val (.int p0), .val (.int p1), .val (.long u1), .second, .val (.long u2), .second, .val (.long u1), .second, .val (.long u2), .second, .val (.long (u1 * u1)), .second, .val (.long (u2 * u2)), .second, .val (.long ((u1 * u1) * u1)), .second, .val (.long ((u2 * u2) * u2)), .second, .val (.long (((u1 * u1) * u1) * u1)), .second, .val (.long (((u2 * u2) * u2) * u2)), .second, .val (.long u3), .second, .val (.long u4), .second, .val (.long (u3 * u1)), .second, .val (.long (u4 * u2)), .second, .unset, .unset, .unset, .unset] [(.long (u3 * u1))])) _
    refine XS.lloadN X0.here hx rfl (hb hby d6_94) rfl ?_
    show Steps p.tables e below (s₁.setTop (mkF m 95 #[.val (.int p0), .val (.int p1), .val (.long u1), .second, .val (.long u2), .second, .val (.long u1), .second, .val (.long u2), .second, .val (.long (u1 * u1)), .second, .val (.long (u2 * u2)), .second, .val (.long ((u1 * u1) * u1)), .second, .val (.long ((u2 * u2) * u2)), .second, .val (.long (((u1 * u1) * u1) * u1)), .second, .val (.long (((u2 * u2) * u2) * u2)), .second, .val (.long u3), .second, .val (.long u4), .second, .val (.long (u3 * u1)), .second, .val (.long (u4 * u2)), .second, .unset, .unset, .unset, .unset] [(.long u1), (.long (u3 * u1))])) _
    refine XS.lmul X0.here hx rfl (hb hby d6_95) rfl ?_
    show Steps p.tables e below (s₁.setTop (mkF m 96 #[.val (.int p0), .val (.int p1), .val (.long u1), .second, .val (.long u2), .second, .val (.long u1), .second, .val (.long u2), .second, .val (.long (u1 * u1)), .second, .val (.long (u2 * u2)), .second, .val (.long ((u1 * u1) * u1)), .second, .val (.long ((u2 * u2) * u2)), .second, .val (.long (((u1 * u1) * u1) * u1)), .second, .val (.long (((u2 * u2) * u2) * u2)), .second, .val (.long u3), .second, .val (.long u4), .second, .val (.long (u3 * u1)), .second, .val (.long (u4 * u2)), .second, .unset, .unset, .unset, .unset] [(.long ((u3 * u1) * u1))])) _
    refine XS.lstore X0.here hx rfl (hb hby d6_96) rfl (l' := #[.val (.int p0), .val (.int p1), .val (.long u1), .second, .val (.long u2), .second, .val (.long u1), .second, .val (.long u2), .second, .val (.long (u1 * u1)), .second, .val (.long (u2 * u2)), .second, .val (.long ((u1 * u1) * u1)), .second, .val (.long ((u2 * u2) * u2)), .second, .val (.long (((u1 * u1) * u1) * u1)), .second, .val (.long (((u2 * u2) * u2) * u2)), .second, .val (.long u3), .second, .val (.long u4), .second, .val (.long (u3 * u1)), .second, .val (.long (u4 * u2)), .second, .val (.long ((u3 * u1) * u1)), .second, .unset, .unset]) rfl ?_
    show Steps p.tables e below (s₁.setTop (mkF m 98 #[.val (.int p0), .val (.int p1), .val (.long u1), .second, .val (.long u2), .second, .val (.long u1), .second, .val (.long u2), .second, .val (.long (u1 * u1)), .second, .val (.long (u2 * u2)), .second, .val (.long ((u1 * u1) * u1)), .second, .val (.long ((u2 * u2) * u2)), .second, .val (.long (((u1 * u1) * u1) * u1)), .second, .val (.long (((u2 * u2) * u2) * u2)), .second, .val (.long u3), .second, .val (.long u4), .second, .val (.long (u3 * u1)), .second, .val (.long (u4 * u2)), .second, .val (.long ((u3 * u1) * u1)), .second, .unset, .unset] [])) _
    refine XS.lload X0.here hx rfl (hb hby d6_98) rfl ?_
    show Steps p.tables e below (s₁.setTop (mkF m 100 #[.val (.int p0), .val (.int p1), .val (.long u1), .second, .val (.long u2), .second, .val (.long u1), .second, .val (.long u2), .second, .val (.long (u1 * u1)), .second, .val (.long (u2 * u2)), .second, .val (.long ((u1 * u1) * u1)), .second, .val (.long ((u2 * u2) * u2)), .second, .val (.long (((u1 * u1) * u1) * u1)), .second, .val (.long (((u2 * u2) * u2) * u2)), .second, .val (.long u3), .second, .val (.long u4), .second, .val (.long (u3 * u1)), .second, .val (.long (u4 * u2)), .second, .val (.long ((u3 * u1) * u1)), .second, .unset, .unset] [(.long (u4 * u2))])) _
    refine XS.lload X0.here hx rfl (hb hby d6_100) rfl ?_
    show Steps p.tables e below (s₁.setTop (mkF m 102 #[.val (.int p0), .val (.int p1), .val (.long u1), .second, .val (.long u2), .second, .val (.long u1), .second, .val (.long u2), .second, .val (.long (u1 * u1)), .second, .val (.long (u2 * u2)), .second, .val (.long ((u1 * u1) * u1)), .second, .val (.long ((u2 * u2) * u2)), .second, .val (.long (((u1 * u1) * u1) * u1)), .second, .val (.long (((u2 * u2) * u2) * u2)), .second, .val (.long u3), .second, .val (.long u4), .second, .val (.long (u3 * u1)), .second, .val (.long (u4 * u2)), .second, .val (.long ((u3 * u1) * u1)), .second, .unset, .unset] [(.long u2), (.long (u4 * u2))])) _
    refine XS.lmul X0.here hx rfl (hb hby d6_102) rfl ?_
    show Steps p.tables e below (s₁.setTop (mkF m 103 #[.val (.int p0), .val (.int p1), .val (.long u1), .second, .val (.long u2), .second, .val (.long u1), .second, .val (.long u2), .second, .val (.long (u1 * u1)), .second, .val (.long (u2 * u2)), .second, .val (.long ((u1 * u1) * u1)), .second, .val (.long ((u2 * u2) * u2)), .second, .val (.long (((u1 * u1) * u1) * u1)), .second, .val (.long (((u2 * u2) * u2) * u2)), .second, .val (.long u3), .second, .val (.long u4), .second, .val (.long (u3 * u1)), .second, .val (.long (u4 * u2)), .second, .val (.long ((u3 * u1) * u1)), .second, .unset, .unset] [(.long ((u4 * u2) * u2))])) _
    refine XS.lstore X0.here hx rfl (hb hby d6_103) rfl (l' := #[.val (.int p0), .val (.int p1), .val (.long u1), .second, .val (.long u2), .second, .val (.long u1), .second, .val (.long u2), .second, .val (.long (u1 * u1)), .second, .val (.long (u2 * u2)), .second, .val (.long ((u1 * u1) * u1)), .second, .val (.long ((u2 * u2) * u2)), .second, .val (.long (((u1 * u1) * u1) * u1)), .second, .val (.long (((u2 * u2) * u2) * u2)), .second, .val (.long u3), .second, .val (.long u4), .second, .val (.long (u3 * u1)), .second, .val (.long (u4 * u2)), .second, .val (.long ((u3 * u1) * u1)), .second, .val (.long ((u4 * u2) * u2)), .second]) rfl ?_
    show Steps p.tables e below (s₁.setTop (mkF m 105 #[.val (.int p0), .val (.int p1), .val (.long u1), .second, .val (.long u2), .second, .val (.long u1), .second, .val (.long u2), .second, .val (.long (u1 * u1)), .second, .val (.long (u2 * u2)), .second, .val (.long ((u1 * u1) * u1)), .second, .val (.long ((u2 * u2) * u2)), .second, .val (.long (((u1 * u1) * u1) * u1)), .second, .val (.long (((u2 * u2) * u2) * u2)), .second, .val (.long u3), .second, .val (.long u4), .second, .val (.long (u3 * u1)), .second, .val (.long (u4 * u2)), .second, .val (.long ((u3 * u1) * u1)), .second, .val (.long ((u4 * u2) * u2)), .second] [])) _
    refine X0.ldc2Long hx hown (mvT hZ (hw _ (List.mem_of_getElem? (i := 35) rfl))) (g := (mkF m 105 #[.val (.int p0), .val (.int p1), .val (.long u1), .second, .val (.long u2), .second, .val (.long u1), .second, .val (.long u2), .second, .val (.long (u1 * u1)), .second, .val (.long (u2 * u2)), .second, .val (.long ((u1 * u1) * u1)), .second, .val (.long ((u2 * u2) * u2)), .second, .val (.long (((u1 * u1) * u1) * u1)), .second, .val (.long (((u2 * u2) * u2) * u2)), .second, .val (.long u3), .second, .val (.long u4), .second, .val (.long (u3 * u1)), .second, .val (.long (u4 * u2)), .second, .val (.long ((u3 * u1) * u1)), .second, .val (.long ((u4 * u2) * u2)), .second] [])) rfl (hb hby d6_105) _ ?_
    show Steps p.tables e below (s₁.setTop (mkF m 108 #[.val (.int p0), .val (.int p1), .val (.long u1), .second, .val (.long u2), .second, .val (.long u1), .second, .val (.long u2), .second, .val (.long (u1 * u1)), .second, .val (.long (u2 * u2)), .second, .val (.long ((u1 * u1) * u1)), .second, .val (.long ((u2 * u2) * u2)), .second, .val (.long (((u1 * u1) * u1) * u1)), .second, .val (.long (((u2 * u2) * u2) * u2)), .second, .val (.long u3), .second, .val (.long u4), .second, .val (.long (u3 * u1)), .second, .val (.long (u4 * u2)), .second, .val (.long ((u3 * u1) * u1)), .second, .val (.long ((u4 * u2) * u2)), .second] [(.long (64 : Int64))])) _
    refine XS.lload X0.here hx rfl (hb hby d6_108) rfl ?_
    show Steps p.tables e below (s₁.setTop (mkF m 110 #[.val (.int p0), .val (.int p1), .val (.long u1), .second, .val (.long u2), .second, .val (.long u1), .second, .val (.long u2), .second, .val (.long (u1 * u1)), .second, .val (.long (u2 * u2)), .second, .val (.long ((u1 * u1) * u1)), .second, .val (.long ((u2 * u2) * u2)), .second, .val (.long (((u1 * u1) * u1) * u1)), .second, .val (.long (((u2 * u2) * u2) * u2)), .second, .val (.long u3), .second, .val (.long u4), .second, .val (.long (u3 * u1)), .second, .val (.long (u4 * u2)), .second, .val (.long ((u3 * u1) * u1)), .second, .val (.long ((u4 * u2) * u2)), .second] [(.long u1), (.long (64 : Int64))])) _
    refine XS.lmul X0.here hx rfl (hb hby d6_110) rfl ?_
    show Steps p.tables e below (s₁.setTop (mkF m 111 #[.val (.int p0), .val (.int p1), .val (.long u1), .second, .val (.long u2), .second, .val (.long u1), .second, .val (.long u2), .second, .val (.long (u1 * u1)), .second, .val (.long (u2 * u2)), .second, .val (.long ((u1 * u1) * u1)), .second, .val (.long ((u2 * u2) * u2)), .second, .val (.long (((u1 * u1) * u1) * u1)), .second, .val (.long (((u2 * u2) * u2) * u2)), .second, .val (.long u3), .second, .val (.long u4), .second, .val (.long (u3 * u1)), .second, .val (.long (u4 * u2)), .second, .val (.long ((u3 * u1) * u1)), .second, .val (.long ((u4 * u2) * u2)), .second] [(.long ((64 : Int64) * u1))])) _
    refine XS.lload X0.here hx rfl (hb hby d6_111) rfl ?_
    show Steps p.tables e below (s₁.setTop (mkF m 113 #[.val (.int p0), .val (.int p1), .val (.long u1), .second, .val (.long u2), .second, .val (.long u1), .second, .val (.long u2), .second, .val (.long (u1 * u1)), .second, .val (.long (u2 * u2)), .second, .val (.long ((u1 * u1) * u1)), .second, .val (.long ((u2 * u2) * u2)), .second, .val (.long (((u1 * u1) * u1) * u1)), .second, .val (.long (((u2 * u2) * u2) * u2)), .second, .val (.long u3), .second, .val (.long u4), .second, .val (.long (u3 * u1)), .second, .val (.long (u4 * u2)), .second, .val (.long ((u3 * u1) * u1)), .second, .val (.long ((u4 * u2) * u2)), .second] [(.long u2), (.long ((64 : Int64) * u1))])) _
    refine XS.lcmp X0.here hx rfl (hb hby d6_113) rfl ?_
    exact kt
  by_cases c114_5 : ((64 : Int64) * u1) < u2
  · refine Gl.up (B := s₁.setTop (mkF m 118 #[.val (.int p0), .val (.int p1), .val (.long u1), .second, .val (.long u2), .second, .val (.long u1), .second, .val (.long u2), .second, .val (.long (u1 * u1)), .second, .val (.long (u2 * u2)), .second, .val (.long ((u1 * u1) * u1)), .second, .val (.long ((u2 * u2) * u2)), .second, .val (.long (((u1 * u1) * u1) * u1)), .second, .val (.long (((u2 * u2) * u2) * u2)), .second, .val (.long u3), .second, .val (.long u4), .second, .val (.long (u3 * u1)), .second, .val (.long (u4 * u2)), .second, .val (.long ((u3 * u1) * u1)), .second, .val (.long ((u4 * u2) * u2)), .second] [(.int (1 : Int32))])) (fun t kt => ?_) ?_
    · refine XS.ifNo X0.here hx rfl (hb hby d6_114) rfl (jc_ge_f c114_5) ?_
      show Steps p.tables e below (s₁.setTop (mkF m 117 #[.val (.int p0), .val (.int p1), .val (.long u1), .second, .val (.long u2), .second, .val (.long u1), .second, .val (.long u2), .second, .val (.long (u1 * u1)), .second, .val (.long (u2 * u2)), .second, .val (.long ((u1 * u1) * u1)), .second, .val (.long ((u2 * u2) * u2)), .second, .val (.long (((u1 * u1) * u1) * u1)), .second, .val (.long (((u2 * u2) * u2) * u2)), .second, .val (.long u3), .second, .val (.long u4), .second, .val (.long (u3 * u1)), .second, .val (.long (u4 * u2)), .second, .val (.long ((u3 * u1) * u1)), .second, .val (.long ((u4 * u2) * u2)), .second] [])) _
      refine XS.iconst X0.here hx rfl (hb hby d6_117) ?_
      exact kt
    refine Gl.retI X0 hx hlk Bd.returns (hb hby d6_118) ?_ (by decide) (by decide)
    subst hu4 hu3 hu2 hu1; exact ⟨congrArg (fun z => some (Value.int z)) (show (1 : Int32) = f6 p0 p1 from (if_pos c114_5).symm), rfl, e0⟩
  · refine Gl.up (B := s₁.setTop (mkF m 128 #[.val (.int p0), .val (.int p1), .val (.long u1), .second, .val (.long u2), .second, .val (.long u1), .second, .val (.long u2), .second, .val (.long (u1 * u1)), .second, .val (.long (u2 * u2)), .second, .val (.long ((u1 * u1) * u1)), .second, .val (.long ((u2 * u2) * u2)), .second, .val (.long (((u1 * u1) * u1) * u1)), .second, .val (.long (((u2 * u2) * u2) * u2)), .second, .val (.long u3), .second, .val (.long u4), .second, .val (.long (u3 * u1)), .second, .val (.long (u4 * u2)), .second, .val (.long ((u3 * u1) * u1)), .second, .val (.long ((u4 * u2) * u2)), .second] [(.int (lcmpW ((64 : Int64) * (u1 * u1)) (u2 * u2)))])) (fun t kt => ?_) ?_
    · refine XS.ifYes X0.here hx rfl (pc0 := 114) (pc' := 119) rfl (hb hby d6_114) rfl (jc_ge_t c114_5) (by decide) (by decide) ?_
      show Steps p.tables e below (s₁.setTop (mkF m 119 #[.val (.int p0), .val (.int p1), .val (.long u1), .second, .val (.long u2), .second, .val (.long u1), .second, .val (.long u2), .second, .val (.long (u1 * u1)), .second, .val (.long (u2 * u2)), .second, .val (.long ((u1 * u1) * u1)), .second, .val (.long ((u2 * u2) * u2)), .second, .val (.long (((u1 * u1) * u1) * u1)), .second, .val (.long (((u2 * u2) * u2) * u2)), .second, .val (.long u3), .second, .val (.long u4), .second, .val (.long (u3 * u1)), .second, .val (.long (u4 * u2)), .second, .val (.long ((u3 * u1) * u1)), .second, .val (.long ((u4 * u2) * u2)), .second] [])) _
      refine X0.ldc2Long hx hown (mvT hZ (hw _ (List.mem_of_getElem? (i := 35) rfl))) (g := (mkF m 119 #[.val (.int p0), .val (.int p1), .val (.long u1), .second, .val (.long u2), .second, .val (.long u1), .second, .val (.long u2), .second, .val (.long (u1 * u1)), .second, .val (.long (u2 * u2)), .second, .val (.long ((u1 * u1) * u1)), .second, .val (.long ((u2 * u2) * u2)), .second, .val (.long (((u1 * u1) * u1) * u1)), .second, .val (.long (((u2 * u2) * u2) * u2)), .second, .val (.long u3), .second, .val (.long u4), .second, .val (.long (u3 * u1)), .second, .val (.long (u4 * u2)), .second, .val (.long ((u3 * u1) * u1)), .second, .val (.long ((u4 * u2) * u2)), .second] [])) rfl (hb hby d6_119) _ ?_
      show Steps p.tables e below (s₁.setTop (mkF m 122 #[.val (.int p0), .val (.int p1), .val (.long u1), .second, .val (.long u2), .second, .val (.long u1), .second, .val (.long u2), .second, .val (.long (u1 * u1)), .second, .val (.long (u2 * u2)), .second, .val (.long ((u1 * u1) * u1)), .second, .val (.long ((u2 * u2) * u2)), .second, .val (.long (((u1 * u1) * u1) * u1)), .second, .val (.long (((u2 * u2) * u2) * u2)), .second, .val (.long u3), .second, .val (.long u4), .second, .val (.long (u3 * u1)), .second, .val (.long (u4 * u2)), .second, .val (.long ((u3 * u1) * u1)), .second, .val (.long ((u4 * u2) * u2)), .second] [(.long (64 : Int64))])) _
      refine XS.lload X0.here hx rfl (hb hby d6_122) rfl ?_
      show Steps p.tables e below (s₁.setTop (mkF m 124 #[.val (.int p0), .val (.int p1), .val (.long u1), .second, .val (.long u2), .second, .val (.long u1), .second, .val (.long u2), .second, .val (.long (u1 * u1)), .second, .val (.long (u2 * u2)), .second, .val (.long ((u1 * u1) * u1)), .second, .val (.long ((u2 * u2) * u2)), .second, .val (.long (((u1 * u1) * u1) * u1)), .second, .val (.long (((u2 * u2) * u2) * u2)), .second, .val (.long u3), .second, .val (.long u4), .second, .val (.long (u3 * u1)), .second, .val (.long (u4 * u2)), .second, .val (.long ((u3 * u1) * u1)), .second, .val (.long ((u4 * u2) * u2)), .second] [(.long (u1 * u1)), (.long (64 : Int64))])) _
      refine XS.lmul X0.here hx rfl (hb hby d6_124) rfl ?_
      show Steps p.tables e below (s₁.setTop (mkF m 125 #[.val (.int p0), .val (.int p1), .val (.long u1), .second, .val (.long u2), .second, .val (.long u1), .second, .val (.long u2), .second, .val (.long (u1 * u1)), .second, .val (.long (u2 * u2)), .second, .val (.long ((u1 * u1) * u1)), .second, .val (.long ((u2 * u2) * u2)), .second, .val (.long (((u1 * u1) * u1) * u1)), .second, .val (.long (((u2 * u2) * u2) * u2)), .second, .val (.long u3), .second, .val (.long u4), .second, .val (.long (u3 * u1)), .second, .val (.long (u4 * u2)), .second, .val (.long ((u3 * u1) * u1)), .second, .val (.long ((u4 * u2) * u2)), .second] [(.long ((64 : Int64) * (u1 * u1)))])) _
      refine XS.lload X0.here hx rfl (hb hby d6_125) rfl ?_
      show Steps p.tables e below (s₁.setTop (mkF m 127 #[.val (.int p0), .val (.int p1), .val (.long u1), .second, .val (.long u2), .second, .val (.long u1), .second, .val (.long u2), .second, .val (.long (u1 * u1)), .second, .val (.long (u2 * u2)), .second, .val (.long ((u1 * u1) * u1)), .second, .val (.long ((u2 * u2) * u2)), .second, .val (.long (((u1 * u1) * u1) * u1)), .second, .val (.long (((u2 * u2) * u2) * u2)), .second, .val (.long u3), .second, .val (.long u4), .second, .val (.long (u3 * u1)), .second, .val (.long (u4 * u2)), .second, .val (.long ((u3 * u1) * u1)), .second, .val (.long ((u4 * u2) * u2)), .second] [(.long (u2 * u2)), (.long ((64 : Int64) * (u1 * u1)))])) _
      refine XS.lcmp X0.here hx rfl (hb hby d6_127) rfl ?_
      exact kt
    by_cases c128_6 : ((64 : Int64) * (u1 * u1)) < (u2 * u2)
    · refine Gl.up (B := s₁.setTop (mkF m 132 #[.val (.int p0), .val (.int p1), .val (.long u1), .second, .val (.long u2), .second, .val (.long u1), .second, .val (.long u2), .second, .val (.long (u1 * u1)), .second, .val (.long (u2 * u2)), .second, .val (.long ((u1 * u1) * u1)), .second, .val (.long ((u2 * u2) * u2)), .second, .val (.long (((u1 * u1) * u1) * u1)), .second, .val (.long (((u2 * u2) * u2) * u2)), .second, .val (.long u3), .second, .val (.long u4), .second, .val (.long (u3 * u1)), .second, .val (.long (u4 * u2)), .second, .val (.long ((u3 * u1) * u1)), .second, .val (.long ((u4 * u2) * u2)), .second] [(.int (2 : Int32))])) (fun t kt => ?_) ?_
      · refine XS.ifNo X0.here hx rfl (hb hby d6_128) rfl (jc_ge_f c128_6) ?_
        show Steps p.tables e below (s₁.setTop (mkF m 131 #[.val (.int p0), .val (.int p1), .val (.long u1), .second, .val (.long u2), .second, .val (.long u1), .second, .val (.long u2), .second, .val (.long (u1 * u1)), .second, .val (.long (u2 * u2)), .second, .val (.long ((u1 * u1) * u1)), .second, .val (.long ((u2 * u2) * u2)), .second, .val (.long (((u1 * u1) * u1) * u1)), .second, .val (.long (((u2 * u2) * u2) * u2)), .second, .val (.long u3), .second, .val (.long u4), .second, .val (.long (u3 * u1)), .second, .val (.long (u4 * u2)), .second, .val (.long ((u3 * u1) * u1)), .second, .val (.long ((u4 * u2) * u2)), .second] [])) _
        refine XS.iconst X0.here hx rfl (hb hby d6_131) ?_
        exact kt
      refine Gl.retI X0 hx hlk Bd.returns (hb hby d6_132) ?_ (by decide) (by decide)
      subst hu4 hu3 hu2 hu1; exact ⟨congrArg (fun z => some (Value.int z)) (show (2 : Int32) = f6 p0 p1 from ((if_neg c114_5).trans (if_pos c128_6)).symm), rfl, e0⟩
    · refine Gl.up (B := s₁.setTop (mkF m 142 #[.val (.int p0), .val (.int p1), .val (.long u1), .second, .val (.long u2), .second, .val (.long u1), .second, .val (.long u2), .second, .val (.long (u1 * u1)), .second, .val (.long (u2 * u2)), .second, .val (.long ((u1 * u1) * u1)), .second, .val (.long ((u2 * u2) * u2)), .second, .val (.long (((u1 * u1) * u1) * u1)), .second, .val (.long (((u2 * u2) * u2) * u2)), .second, .val (.long u3), .second, .val (.long u4), .second, .val (.long (u3 * u1)), .second, .val (.long (u4 * u2)), .second, .val (.long ((u3 * u1) * u1)), .second, .val (.long ((u4 * u2) * u2)), .second] [(.int (lcmpW ((64 : Int64) * ((u1 * u1) * u1)) ((u2 * u2) * u2)))])) (fun t kt => ?_) ?_
      · refine XS.ifYes X0.here hx rfl (pc0 := 128) (pc' := 133) rfl (hb hby d6_128) rfl (jc_ge_t c128_6) (by decide) (by decide) ?_
        show Steps p.tables e below (s₁.setTop (mkF m 133 #[.val (.int p0), .val (.int p1), .val (.long u1), .second, .val (.long u2), .second, .val (.long u1), .second, .val (.long u2), .second, .val (.long (u1 * u1)), .second, .val (.long (u2 * u2)), .second, .val (.long ((u1 * u1) * u1)), .second, .val (.long ((u2 * u2) * u2)), .second, .val (.long (((u1 * u1) * u1) * u1)), .second, .val (.long (((u2 * u2) * u2) * u2)), .second, .val (.long u3), .second, .val (.long u4), .second, .val (.long (u3 * u1)), .second, .val (.long (u4 * u2)), .second, .val (.long ((u3 * u1) * u1)), .second, .val (.long ((u4 * u2) * u2)), .second] [])) _
        refine X0.ldc2Long hx hown (mvT hZ (hw _ (List.mem_of_getElem? (i := 35) rfl))) (g := (mkF m 133 #[.val (.int p0), .val (.int p1), .val (.long u1), .second, .val (.long u2), .second, .val (.long u1), .second, .val (.long u2), .second, .val (.long (u1 * u1)), .second, .val (.long (u2 * u2)), .second, .val (.long ((u1 * u1) * u1)), .second, .val (.long ((u2 * u2) * u2)), .second, .val (.long (((u1 * u1) * u1) * u1)), .second, .val (.long (((u2 * u2) * u2) * u2)), .second, .val (.long u3), .second, .val (.long u4), .second, .val (.long (u3 * u1)), .second, .val (.long (u4 * u2)), .second, .val (.long ((u3 * u1) * u1)), .second, .val (.long ((u4 * u2) * u2)), .second] [])) rfl (hb hby d6_133) _ ?_
        show Steps p.tables e below (s₁.setTop (mkF m 136 #[.val (.int p0), .val (.int p1), .val (.long u1), .second, .val (.long u2), .second, .val (.long u1), .second, .val (.long u2), .second, .val (.long (u1 * u1)), .second, .val (.long (u2 * u2)), .second, .val (.long ((u1 * u1) * u1)), .second, .val (.long ((u2 * u2) * u2)), .second, .val (.long (((u1 * u1) * u1) * u1)), .second, .val (.long (((u2 * u2) * u2) * u2)), .second, .val (.long u3), .second, .val (.long u4), .second, .val (.long (u3 * u1)), .second, .val (.long (u4 * u2)), .second, .val (.long ((u3 * u1) * u1)), .second, .val (.long ((u4 * u2) * u2)), .second] [(.long (64 : Int64))])) _
        refine XS.lload X0.here hx rfl (hb hby d6_136) rfl ?_
        show Steps p.tables e below (s₁.setTop (mkF m 138 #[.val (.int p0), .val (.int p1), .val (.long u1), .second, .val (.long u2), .second, .val (.long u1), .second, .val (.long u2), .second, .val (.long (u1 * u1)), .second, .val (.long (u2 * u2)), .second, .val (.long ((u1 * u1) * u1)), .second, .val (.long ((u2 * u2) * u2)), .second, .val (.long (((u1 * u1) * u1) * u1)), .second, .val (.long (((u2 * u2) * u2) * u2)), .second, .val (.long u3), .second, .val (.long u4), .second, .val (.long (u3 * u1)), .second, .val (.long (u4 * u2)), .second, .val (.long ((u3 * u1) * u1)), .second, .val (.long ((u4 * u2) * u2)), .second] [(.long ((u1 * u1) * u1)), (.long (64 : Int64))])) _
        refine XS.lmul X0.here hx rfl (hb hby d6_138) rfl ?_
        show Steps p.tables e below (s₁.setTop (mkF m 139 #[.val (.int p0), .val (.int p1), .val (.long u1), .second, .val (.long u2), .second, .val (.long u1), .second, .val (.long u2), .second, .val (.long (u1 * u1)), .second, .val (.long (u2 * u2)), .second, .val (.long ((u1 * u1) * u1)), .second, .val (.long ((u2 * u2) * u2)), .second, .val (.long (((u1 * u1) * u1) * u1)), .second, .val (.long (((u2 * u2) * u2) * u2)), .second, .val (.long u3), .second, .val (.long u4), .second, .val (.long (u3 * u1)), .second, .val (.long (u4 * u2)), .second, .val (.long ((u3 * u1) * u1)), .second, .val (.long ((u4 * u2) * u2)), .second] [(.long ((64 : Int64) * ((u1 * u1) * u1)))])) _
        refine XS.lload X0.here hx rfl (hb hby d6_139) rfl ?_
        show Steps p.tables e below (s₁.setTop (mkF m 141 #[.val (.int p0), .val (.int p1), .val (.long u1), .second, .val (.long u2), .second, .val (.long u1), .second, .val (.long u2), .second, .val (.long (u1 * u1)), .second, .val (.long (u2 * u2)), .second, .val (.long ((u1 * u1) * u1)), .second, .val (.long ((u2 * u2) * u2)), .second, .val (.long (((u1 * u1) * u1) * u1)), .second, .val (.long (((u2 * u2) * u2) * u2)), .second, .val (.long u3), .second, .val (.long u4), .second, .val (.long (u3 * u1)), .second, .val (.long (u4 * u2)), .second, .val (.long ((u3 * u1) * u1)), .second, .val (.long ((u4 * u2) * u2)), .second] [(.long ((u2 * u2) * u2)), (.long ((64 : Int64) * ((u1 * u1) * u1)))])) _
        refine XS.lcmp X0.here hx rfl (hb hby d6_141) rfl ?_
        exact kt
      by_cases c142_7 : ((64 : Int64) * ((u1 * u1) * u1)) < ((u2 * u2) * u2)
      · refine Gl.up (B := s₁.setTop (mkF m 146 #[.val (.int p0), .val (.int p1), .val (.long u1), .second, .val (.long u2), .second, .val (.long u1), .second, .val (.long u2), .second, .val (.long (u1 * u1)), .second, .val (.long (u2 * u2)), .second, .val (.long ((u1 * u1) * u1)), .second, .val (.long ((u2 * u2) * u2)), .second, .val (.long (((u1 * u1) * u1) * u1)), .second, .val (.long (((u2 * u2) * u2) * u2)), .second, .val (.long u3), .second, .val (.long u4), .second, .val (.long (u3 * u1)), .second, .val (.long (u4 * u2)), .second, .val (.long ((u3 * u1) * u1)), .second, .val (.long ((u4 * u2) * u2)), .second] [(.int (3 : Int32))])) (fun t kt => ?_) ?_
        · refine XS.ifNo X0.here hx rfl (hb hby d6_142) rfl (jc_ge_f c142_7) ?_
          show Steps p.tables e below (s₁.setTop (mkF m 145 #[.val (.int p0), .val (.int p1), .val (.long u1), .second, .val (.long u2), .second, .val (.long u1), .second, .val (.long u2), .second, .val (.long (u1 * u1)), .second, .val (.long (u2 * u2)), .second, .val (.long ((u1 * u1) * u1)), .second, .val (.long ((u2 * u2) * u2)), .second, .val (.long (((u1 * u1) * u1) * u1)), .second, .val (.long (((u2 * u2) * u2) * u2)), .second, .val (.long u3), .second, .val (.long u4), .second, .val (.long (u3 * u1)), .second, .val (.long (u4 * u2)), .second, .val (.long ((u3 * u1) * u1)), .second, .val (.long ((u4 * u2) * u2)), .second] [])) _
          refine XS.iconst X0.here hx rfl (hb hby d6_145) ?_
          exact kt
        refine Gl.retI X0 hx hlk Bd.returns (hb hby d6_146) ?_ (by decide) (by decide)
        subst hu4 hu3 hu2 hu1; exact ⟨congrArg (fun z => some (Value.int z)) (show (3 : Int32) = f6 p0 p1 from (((if_neg c114_5).trans (if_neg c128_6)).trans (if_pos c142_7)).symm), rfl, e0⟩
      · refine Gl.up (B := s₁.setTop (mkF m 156 #[.val (.int p0), .val (.int p1), .val (.long u1), .second, .val (.long u2), .second, .val (.long u1), .second, .val (.long u2), .second, .val (.long (u1 * u1)), .second, .val (.long (u2 * u2)), .second, .val (.long ((u1 * u1) * u1)), .second, .val (.long ((u2 * u2) * u2)), .second, .val (.long (((u1 * u1) * u1) * u1)), .second, .val (.long (((u2 * u2) * u2) * u2)), .second, .val (.long u3), .second, .val (.long u4), .second, .val (.long (u3 * u1)), .second, .val (.long (u4 * u2)), .second, .val (.long ((u3 * u1) * u1)), .second, .val (.long ((u4 * u2) * u2)), .second] [(.int (lcmpW ((64 : Int64) * (((u1 * u1) * u1) * u1)) (((u2 * u2) * u2) * u2)))])) (fun t kt => ?_) ?_
        · refine XS.ifYes X0.here hx rfl (pc0 := 142) (pc' := 147) rfl (hb hby d6_142) rfl (jc_ge_t c142_7) (by decide) (by decide) ?_
          show Steps p.tables e below (s₁.setTop (mkF m 147 #[.val (.int p0), .val (.int p1), .val (.long u1), .second, .val (.long u2), .second, .val (.long u1), .second, .val (.long u2), .second, .val (.long (u1 * u1)), .second, .val (.long (u2 * u2)), .second, .val (.long ((u1 * u1) * u1)), .second, .val (.long ((u2 * u2) * u2)), .second, .val (.long (((u1 * u1) * u1) * u1)), .second, .val (.long (((u2 * u2) * u2) * u2)), .second, .val (.long u3), .second, .val (.long u4), .second, .val (.long (u3 * u1)), .second, .val (.long (u4 * u2)), .second, .val (.long ((u3 * u1) * u1)), .second, .val (.long ((u4 * u2) * u2)), .second] [])) _
          refine X0.ldc2Long hx hown (mvT hZ (hw _ (List.mem_of_getElem? (i := 35) rfl))) (g := (mkF m 147 #[.val (.int p0), .val (.int p1), .val (.long u1), .second, .val (.long u2), .second, .val (.long u1), .second, .val (.long u2), .second, .val (.long (u1 * u1)), .second, .val (.long (u2 * u2)), .second, .val (.long ((u1 * u1) * u1)), .second, .val (.long ((u2 * u2) * u2)), .second, .val (.long (((u1 * u1) * u1) * u1)), .second, .val (.long (((u2 * u2) * u2) * u2)), .second, .val (.long u3), .second, .val (.long u4), .second, .val (.long (u3 * u1)), .second, .val (.long (u4 * u2)), .second, .val (.long ((u3 * u1) * u1)), .second, .val (.long ((u4 * u2) * u2)), .second] [])) rfl (hb hby d6_147) _ ?_
          show Steps p.tables e below (s₁.setTop (mkF m 150 #[.val (.int p0), .val (.int p1), .val (.long u1), .second, .val (.long u2), .second, .val (.long u1), .second, .val (.long u2), .second, .val (.long (u1 * u1)), .second, .val (.long (u2 * u2)), .second, .val (.long ((u1 * u1) * u1)), .second, .val (.long ((u2 * u2) * u2)), .second, .val (.long (((u1 * u1) * u1) * u1)), .second, .val (.long (((u2 * u2) * u2) * u2)), .second, .val (.long u3), .second, .val (.long u4), .second, .val (.long (u3 * u1)), .second, .val (.long (u4 * u2)), .second, .val (.long ((u3 * u1) * u1)), .second, .val (.long ((u4 * u2) * u2)), .second] [(.long (64 : Int64))])) _
          refine XS.lload X0.here hx rfl (hb hby d6_150) rfl ?_
          show Steps p.tables e below (s₁.setTop (mkF m 152 #[.val (.int p0), .val (.int p1), .val (.long u1), .second, .val (.long u2), .second, .val (.long u1), .second, .val (.long u2), .second, .val (.long (u1 * u1)), .second, .val (.long (u2 * u2)), .second, .val (.long ((u1 * u1) * u1)), .second, .val (.long ((u2 * u2) * u2)), .second, .val (.long (((u1 * u1) * u1) * u1)), .second, .val (.long (((u2 * u2) * u2) * u2)), .second, .val (.long u3), .second, .val (.long u4), .second, .val (.long (u3 * u1)), .second, .val (.long (u4 * u2)), .second, .val (.long ((u3 * u1) * u1)), .second, .val (.long ((u4 * u2) * u2)), .second] [(.long (((u1 * u1) * u1) * u1)), (.long (64 : Int64))])) _
          refine XS.lmul X0.here hx rfl (hb hby d6_152) rfl ?_
          show Steps p.tables e below (s₁.setTop (mkF m 153 #[.val (.int p0), .val (.int p1), .val (.long u1), .second, .val (.long u2), .second, .val (.long u1), .second, .val (.long u2), .second, .val (.long (u1 * u1)), .second, .val (.long (u2 * u2)), .second, .val (.long ((u1 * u1) * u1)), .second, .val (.long ((u2 * u2) * u2)), .second, .val (.long (((u1 * u1) * u1) * u1)), .second, .val (.long (((u2 * u2) * u2) * u2)), .second, .val (.long u3), .second, .val (.long u4), .second, .val (.long (u3 * u1)), .second, .val (.long (u4 * u2)), .second, .val (.long ((u3 * u1) * u1)), .second, .val (.long ((u4 * u2) * u2)), .second] [(.long ((64 : Int64) * (((u1 * u1) * u1) * u1)))])) _
          refine XS.lload X0.here hx rfl (hb hby d6_153) rfl ?_
          show Steps p.tables e below (s₁.setTop (mkF m 155 #[.val (.int p0), .val (.int p1), .val (.long u1), .second, .val (.long u2), .second, .val (.long u1), .second, .val (.long u2), .second, .val (.long (u1 * u1)), .second, .val (.long (u2 * u2)), .second, .val (.long ((u1 * u1) * u1)), .second, .val (.long ((u2 * u2) * u2)), .second, .val (.long (((u1 * u1) * u1) * u1)), .second, .val (.long (((u2 * u2) * u2) * u2)), .second, .val (.long u3), .second, .val (.long u4), .second, .val (.long (u3 * u1)), .second, .val (.long (u4 * u2)), .second, .val (.long ((u3 * u1) * u1)), .second, .val (.long ((u4 * u2) * u2)), .second] [(.long (((u2 * u2) * u2) * u2)), (.long ((64 : Int64) * (((u1 * u1) * u1) * u1)))])) _
          refine XS.lcmp X0.here hx rfl (hb hby d6_155) rfl ?_
          exact kt
        by_cases c156_8 : ((64 : Int64) * (((u1 * u1) * u1) * u1)) < (((u2 * u2) * u2) * u2)
        · refine Gl.up (B := s₁.setTop (mkF m 160 #[.val (.int p0), .val (.int p1), .val (.long u1), .second, .val (.long u2), .second, .val (.long u1), .second, .val (.long u2), .second, .val (.long (u1 * u1)), .second, .val (.long (u2 * u2)), .second, .val (.long ((u1 * u1) * u1)), .second, .val (.long ((u2 * u2) * u2)), .second, .val (.long (((u1 * u1) * u1) * u1)), .second, .val (.long (((u2 * u2) * u2) * u2)), .second, .val (.long u3), .second, .val (.long u4), .second, .val (.long (u3 * u1)), .second, .val (.long (u4 * u2)), .second, .val (.long ((u3 * u1) * u1)), .second, .val (.long ((u4 * u2) * u2)), .second] [(.int (4 : Int32))])) (fun t kt => ?_) ?_
          · refine XS.ifNo X0.here hx rfl (hb hby d6_156) rfl (jc_ge_f c156_8) ?_
            show Steps p.tables e below (s₁.setTop (mkF m 159 #[.val (.int p0), .val (.int p1), .val (.long u1), .second, .val (.long u2), .second, .val (.long u1), .second, .val (.long u2), .second, .val (.long (u1 * u1)), .second, .val (.long (u2 * u2)), .second, .val (.long ((u1 * u1) * u1)), .second, .val (.long ((u2 * u2) * u2)), .second, .val (.long (((u1 * u1) * u1) * u1)), .second, .val (.long (((u2 * u2) * u2) * u2)), .second, .val (.long u3), .second, .val (.long u4), .second, .val (.long (u3 * u1)), .second, .val (.long (u4 * u2)), .second, .val (.long ((u3 * u1) * u1)), .second, .val (.long ((u4 * u2) * u2)), .second] [])) _
            refine XS.iconst X0.here hx rfl (hb hby d6_159) ?_
            exact kt
          refine Gl.retI X0 hx hlk Bd.returns (hb hby d6_160) ?_ (by decide) (by decide)
          subst hu4 hu3 hu2 hu1; exact ⟨congrArg (fun z => some (Value.int z)) (show (4 : Int32) = f6 p0 p1 from ((((if_neg c114_5).trans (if_neg c128_6)).trans (if_neg c142_7)).trans (if_pos c156_8)).symm), rfl, e0⟩
        · refine Gl.up (B := s₁.setTop (mkF m 170 #[.val (.int p0), .val (.int p1), .val (.long u1), .second, .val (.long u2), .second, .val (.long u1), .second, .val (.long u2), .second, .val (.long (u1 * u1)), .second, .val (.long (u2 * u2)), .second, .val (.long ((u1 * u1) * u1)), .second, .val (.long ((u2 * u2) * u2)), .second, .val (.long (((u1 * u1) * u1) * u1)), .second, .val (.long (((u2 * u2) * u2) * u2)), .second, .val (.long u3), .second, .val (.long u4), .second, .val (.long (u3 * u1)), .second, .val (.long (u4 * u2)), .second, .val (.long ((u3 * u1) * u1)), .second, .val (.long ((u4 * u2) * u2)), .second] [(.int (lcmpW ((64 : Int64) * u3) u4))])) (fun t kt => ?_) ?_
          · refine XS.ifYes X0.here hx rfl (pc0 := 156) (pc' := 161) rfl (hb hby d6_156) rfl (jc_ge_t c156_8) (by decide) (by decide) ?_
            show Steps p.tables e below (s₁.setTop (mkF m 161 #[.val (.int p0), .val (.int p1), .val (.long u1), .second, .val (.long u2), .second, .val (.long u1), .second, .val (.long u2), .second, .val (.long (u1 * u1)), .second, .val (.long (u2 * u2)), .second, .val (.long ((u1 * u1) * u1)), .second, .val (.long ((u2 * u2) * u2)), .second, .val (.long (((u1 * u1) * u1) * u1)), .second, .val (.long (((u2 * u2) * u2) * u2)), .second, .val (.long u3), .second, .val (.long u4), .second, .val (.long (u3 * u1)), .second, .val (.long (u4 * u2)), .second, .val (.long ((u3 * u1) * u1)), .second, .val (.long ((u4 * u2) * u2)), .second] [])) _
            refine X0.ldc2Long hx hown (mvT hZ (hw _ (List.mem_of_getElem? (i := 35) rfl))) (g := (mkF m 161 #[.val (.int p0), .val (.int p1), .val (.long u1), .second, .val (.long u2), .second, .val (.long u1), .second, .val (.long u2), .second, .val (.long (u1 * u1)), .second, .val (.long (u2 * u2)), .second, .val (.long ((u1 * u1) * u1)), .second, .val (.long ((u2 * u2) * u2)), .second, .val (.long (((u1 * u1) * u1) * u1)), .second, .val (.long (((u2 * u2) * u2) * u2)), .second, .val (.long u3), .second, .val (.long u4), .second, .val (.long (u3 * u1)), .second, .val (.long (u4 * u2)), .second, .val (.long ((u3 * u1) * u1)), .second, .val (.long ((u4 * u2) * u2)), .second] [])) rfl (hb hby d6_161) _ ?_
            show Steps p.tables e below (s₁.setTop (mkF m 164 #[.val (.int p0), .val (.int p1), .val (.long u1), .second, .val (.long u2), .second, .val (.long u1), .second, .val (.long u2), .second, .val (.long (u1 * u1)), .second, .val (.long (u2 * u2)), .second, .val (.long ((u1 * u1) * u1)), .second, .val (.long ((u2 * u2) * u2)), .second, .val (.long (((u1 * u1) * u1) * u1)), .second, .val (.long (((u2 * u2) * u2) * u2)), .second, .val (.long u3), .second, .val (.long u4), .second, .val (.long (u3 * u1)), .second, .val (.long (u4 * u2)), .second, .val (.long ((u3 * u1) * u1)), .second, .val (.long ((u4 * u2) * u2)), .second] [(.long (64 : Int64))])) _
            refine XS.lload X0.here hx rfl (hb hby d6_164) rfl ?_
            show Steps p.tables e below (s₁.setTop (mkF m 166 #[.val (.int p0), .val (.int p1), .val (.long u1), .second, .val (.long u2), .second, .val (.long u1), .second, .val (.long u2), .second, .val (.long (u1 * u1)), .second, .val (.long (u2 * u2)), .second, .val (.long ((u1 * u1) * u1)), .second, .val (.long ((u2 * u2) * u2)), .second, .val (.long (((u1 * u1) * u1) * u1)), .second, .val (.long (((u2 * u2) * u2) * u2)), .second, .val (.long u3), .second, .val (.long u4), .second, .val (.long (u3 * u1)), .second, .val (.long (u4 * u2)), .second, .val (.long ((u3 * u1) * u1)), .second, .val (.long ((u4 * u2) * u2)), .second] [(.long u3), (.long (64 : Int64))])) _
            refine XS.lmul X0.here hx rfl (hb hby d6_166) rfl ?_
            show Steps p.tables e below (s₁.setTop (mkF m 167 #[.val (.int p0), .val (.int p1), .val (.long u1), .second, .val (.long u2), .second, .val (.long u1), .second, .val (.long u2), .second, .val (.long (u1 * u1)), .second, .val (.long (u2 * u2)), .second, .val (.long ((u1 * u1) * u1)), .second, .val (.long ((u2 * u2) * u2)), .second, .val (.long (((u1 * u1) * u1) * u1)), .second, .val (.long (((u2 * u2) * u2) * u2)), .second, .val (.long u3), .second, .val (.long u4), .second, .val (.long (u3 * u1)), .second, .val (.long (u4 * u2)), .second, .val (.long ((u3 * u1) * u1)), .second, .val (.long ((u4 * u2) * u2)), .second] [(.long ((64 : Int64) * u3))])) _
            refine XS.lload X0.here hx rfl (hb hby d6_167) rfl ?_
            show Steps p.tables e below (s₁.setTop (mkF m 169 #[.val (.int p0), .val (.int p1), .val (.long u1), .second, .val (.long u2), .second, .val (.long u1), .second, .val (.long u2), .second, .val (.long (u1 * u1)), .second, .val (.long (u2 * u2)), .second, .val (.long ((u1 * u1) * u1)), .second, .val (.long ((u2 * u2) * u2)), .second, .val (.long (((u1 * u1) * u1) * u1)), .second, .val (.long (((u2 * u2) * u2) * u2)), .second, .val (.long u3), .second, .val (.long u4), .second, .val (.long (u3 * u1)), .second, .val (.long (u4 * u2)), .second, .val (.long ((u3 * u1) * u1)), .second, .val (.long ((u4 * u2) * u2)), .second] [(.long u4), (.long ((64 : Int64) * u3))])) _
            refine XS.lcmp X0.here hx rfl (hb hby d6_169) rfl ?_
            exact kt
          by_cases c170_9 : ((64 : Int64) * u3) < u4
          · refine Gl.up (B := s₁.setTop (mkF m 174 #[.val (.int p0), .val (.int p1), .val (.long u1), .second, .val (.long u2), .second, .val (.long u1), .second, .val (.long u2), .second, .val (.long (u1 * u1)), .second, .val (.long (u2 * u2)), .second, .val (.long ((u1 * u1) * u1)), .second, .val (.long ((u2 * u2) * u2)), .second, .val (.long (((u1 * u1) * u1) * u1)), .second, .val (.long (((u2 * u2) * u2) * u2)), .second, .val (.long u3), .second, .val (.long u4), .second, .val (.long (u3 * u1)), .second, .val (.long (u4 * u2)), .second, .val (.long ((u3 * u1) * u1)), .second, .val (.long ((u4 * u2) * u2)), .second] [(.int (5 : Int32))])) (fun t kt => ?_) ?_
            · refine XS.ifNo X0.here hx rfl (hb hby d6_170) rfl (jc_ge_f c170_9) ?_
              show Steps p.tables e below (s₁.setTop (mkF m 173 #[.val (.int p0), .val (.int p1), .val (.long u1), .second, .val (.long u2), .second, .val (.long u1), .second, .val (.long u2), .second, .val (.long (u1 * u1)), .second, .val (.long (u2 * u2)), .second, .val (.long ((u1 * u1) * u1)), .second, .val (.long ((u2 * u2) * u2)), .second, .val (.long (((u1 * u1) * u1) * u1)), .second, .val (.long (((u2 * u2) * u2) * u2)), .second, .val (.long u3), .second, .val (.long u4), .second, .val (.long (u3 * u1)), .second, .val (.long (u4 * u2)), .second, .val (.long ((u3 * u1) * u1)), .second, .val (.long ((u4 * u2) * u2)), .second] [])) _
              refine XS.iconst X0.here hx rfl (hb hby d6_173) ?_
              exact kt
            refine Gl.retI X0 hx hlk Bd.returns (hb hby d6_174) ?_ (by decide) (by decide)
            subst hu4 hu3 hu2 hu1; exact ⟨congrArg (fun z => some (Value.int z)) (show (5 : Int32) = f6 p0 p1 from (((((if_neg c114_5).trans (if_neg c128_6)).trans (if_neg c142_7)).trans (if_neg c156_8)).trans (if_pos c170_9)).symm), rfl, e0⟩
          · refine Gl.up (B := s₁.setTop (mkF m 184 #[.val (.int p0), .val (.int p1), .val (.long u1), .second, .val (.long u2), .second, .val (.long u1), .second, .val (.long u2), .second, .val (.long (u1 * u1)), .second, .val (.long (u2 * u2)), .second, .val (.long ((u1 * u1) * u1)), .second, .val (.long ((u2 * u2) * u2)), .second, .val (.long (((u1 * u1) * u1) * u1)), .second, .val (.long (((u2 * u2) * u2) * u2)), .second, .val (.long u3), .second, .val (.long u4), .second, .val (.long (u3 * u1)), .second, .val (.long (u4 * u2)), .second, .val (.long ((u3 * u1) * u1)), .second, .val (.long ((u4 * u2) * u2)), .second] [(.int (lcmpW ((64 : Int64) * (u3 * u1)) (u4 * u2)))])) (fun t kt => ?_) ?_
            · refine XS.ifYes X0.here hx rfl (pc0 := 170) (pc' := 175) rfl (hb hby d6_170) rfl (jc_ge_t c170_9) (by decide) (by decide) ?_
              show Steps p.tables e below (s₁.setTop (mkF m 175 #[.val (.int p0), .val (.int p1), .val (.long u1), .second, .val (.long u2), .second, .val (.long u1), .second, .val (.long u2), .second, .val (.long (u1 * u1)), .second, .val (.long (u2 * u2)), .second, .val (.long ((u1 * u1) * u1)), .second, .val (.long ((u2 * u2) * u2)), .second, .val (.long (((u1 * u1) * u1) * u1)), .second, .val (.long (((u2 * u2) * u2) * u2)), .second, .val (.long u3), .second, .val (.long u4), .second, .val (.long (u3 * u1)), .second, .val (.long (u4 * u2)), .second, .val (.long ((u3 * u1) * u1)), .second, .val (.long ((u4 * u2) * u2)), .second] [])) _
              refine X0.ldc2Long hx hown (mvT hZ (hw _ (List.mem_of_getElem? (i := 35) rfl))) (g := (mkF m 175 #[.val (.int p0), .val (.int p1), .val (.long u1), .second, .val (.long u2), .second, .val (.long u1), .second, .val (.long u2), .second, .val (.long (u1 * u1)), .second, .val (.long (u2 * u2)), .second, .val (.long ((u1 * u1) * u1)), .second, .val (.long ((u2 * u2) * u2)), .second, .val (.long (((u1 * u1) * u1) * u1)), .second, .val (.long (((u2 * u2) * u2) * u2)), .second, .val (.long u3), .second, .val (.long u4), .second, .val (.long (u3 * u1)), .second, .val (.long (u4 * u2)), .second, .val (.long ((u3 * u1) * u1)), .second, .val (.long ((u4 * u2) * u2)), .second] [])) rfl (hb hby d6_175) _ ?_
              show Steps p.tables e below (s₁.setTop (mkF m 178 #[.val (.int p0), .val (.int p1), .val (.long u1), .second, .val (.long u2), .second, .val (.long u1), .second, .val (.long u2), .second, .val (.long (u1 * u1)), .second, .val (.long (u2 * u2)), .second, .val (.long ((u1 * u1) * u1)), .second, .val (.long ((u2 * u2) * u2)), .second, .val (.long (((u1 * u1) * u1) * u1)), .second, .val (.long (((u2 * u2) * u2) * u2)), .second, .val (.long u3), .second, .val (.long u4), .second, .val (.long (u3 * u1)), .second, .val (.long (u4 * u2)), .second, .val (.long ((u3 * u1) * u1)), .second, .val (.long ((u4 * u2) * u2)), .second] [(.long (64 : Int64))])) _
              refine XS.lload X0.here hx rfl (hb hby d6_178) rfl ?_
              show Steps p.tables e below (s₁.setTop (mkF m 180 #[.val (.int p0), .val (.int p1), .val (.long u1), .second, .val (.long u2), .second, .val (.long u1), .second, .val (.long u2), .second, .val (.long (u1 * u1)), .second, .val (.long (u2 * u2)), .second, .val (.long ((u1 * u1) * u1)), .second, .val (.long ((u2 * u2) * u2)), .second, .val (.long (((u1 * u1) * u1) * u1)), .second, .val (.long (((u2 * u2) * u2) * u2)), .second, .val (.long u3), .second, .val (.long u4), .second, .val (.long (u3 * u1)), .second, .val (.long (u4 * u2)), .second, .val (.long ((u3 * u1) * u1)), .second, .val (.long ((u4 * u2) * u2)), .second] [(.long (u3 * u1)), (.long (64 : Int64))])) _
              refine XS.lmul X0.here hx rfl (hb hby d6_180) rfl ?_
              show Steps p.tables e below (s₁.setTop (mkF m 181 #[.val (.int p0), .val (.int p1), .val (.long u1), .second, .val (.long u2), .second, .val (.long u1), .second, .val (.long u2), .second, .val (.long (u1 * u1)), .second, .val (.long (u2 * u2)), .second, .val (.long ((u1 * u1) * u1)), .second, .val (.long ((u2 * u2) * u2)), .second, .val (.long (((u1 * u1) * u1) * u1)), .second, .val (.long (((u2 * u2) * u2) * u2)), .second, .val (.long u3), .second, .val (.long u4), .second, .val (.long (u3 * u1)), .second, .val (.long (u4 * u2)), .second, .val (.long ((u3 * u1) * u1)), .second, .val (.long ((u4 * u2) * u2)), .second] [(.long ((64 : Int64) * (u3 * u1)))])) _
              refine XS.lload X0.here hx rfl (hb hby d6_181) rfl ?_
              show Steps p.tables e below (s₁.setTop (mkF m 183 #[.val (.int p0), .val (.int p1), .val (.long u1), .second, .val (.long u2), .second, .val (.long u1), .second, .val (.long u2), .second, .val (.long (u1 * u1)), .second, .val (.long (u2 * u2)), .second, .val (.long ((u1 * u1) * u1)), .second, .val (.long ((u2 * u2) * u2)), .second, .val (.long (((u1 * u1) * u1) * u1)), .second, .val (.long (((u2 * u2) * u2) * u2)), .second, .val (.long u3), .second, .val (.long u4), .second, .val (.long (u3 * u1)), .second, .val (.long (u4 * u2)), .second, .val (.long ((u3 * u1) * u1)), .second, .val (.long ((u4 * u2) * u2)), .second] [(.long (u4 * u2)), (.long ((64 : Int64) * (u3 * u1)))])) _
              refine XS.lcmp X0.here hx rfl (hb hby d6_183) rfl ?_
              exact kt
            by_cases c184_10 : ((64 : Int64) * (u3 * u1)) < (u4 * u2)
            · refine Gl.up (B := s₁.setTop (mkF m 189 #[.val (.int p0), .val (.int p1), .val (.long u1), .second, .val (.long u2), .second, .val (.long u1), .second, .val (.long u2), .second, .val (.long (u1 * u1)), .second, .val (.long (u2 * u2)), .second, .val (.long ((u1 * u1) * u1)), .second, .val (.long ((u2 * u2) * u2)), .second, .val (.long (((u1 * u1) * u1) * u1)), .second, .val (.long (((u2 * u2) * u2) * u2)), .second, .val (.long u3), .second, .val (.long u4), .second, .val (.long (u3 * u1)), .second, .val (.long (u4 * u2)), .second, .val (.long ((u3 * u1) * u1)), .second, .val (.long ((u4 * u2) * u2)), .second] [(.int (6 : Int32))])) (fun t kt => ?_) ?_
              · refine XS.ifNo X0.here hx rfl (hb hby d6_184) rfl (jc_ge_f c184_10) ?_
                show Steps p.tables e below (s₁.setTop (mkF m 187 #[.val (.int p0), .val (.int p1), .val (.long u1), .second, .val (.long u2), .second, .val (.long u1), .second, .val (.long u2), .second, .val (.long (u1 * u1)), .second, .val (.long (u2 * u2)), .second, .val (.long ((u1 * u1) * u1)), .second, .val (.long ((u2 * u2) * u2)), .second, .val (.long (((u1 * u1) * u1) * u1)), .second, .val (.long (((u2 * u2) * u2) * u2)), .second, .val (.long u3), .second, .val (.long u4), .second, .val (.long (u3 * u1)), .second, .val (.long (u4 * u2)), .second, .val (.long ((u3 * u1) * u1)), .second, .val (.long ((u4 * u2) * u2)), .second] [])) _
                refine XS.bipush X0.here hx rfl (hb hby d6_187) ?_
                exact kt
              refine Gl.retI X0 hx hlk Bd.returns (hb hby d6_189) ?_ (by decide) (by decide)
              subst hu4 hu3 hu2 hu1; exact ⟨congrArg (fun z => some (Value.int z)) (show (6 : Int32) = f6 p0 p1 from ((((((if_neg c114_5).trans (if_neg c128_6)).trans (if_neg c142_7)).trans (if_neg c156_8)).trans (if_neg c170_9)).trans (if_pos c184_10)).symm), rfl, e0⟩
            · refine Gl.up (B := s₁.setTop (mkF m 199 #[.val (.int p0), .val (.int p1), .val (.long u1), .second, .val (.long u2), .second, .val (.long u1), .second, .val (.long u2), .second, .val (.long (u1 * u1)), .second, .val (.long (u2 * u2)), .second, .val (.long ((u1 * u1) * u1)), .second, .val (.long ((u2 * u2) * u2)), .second, .val (.long (((u1 * u1) * u1) * u1)), .second, .val (.long (((u2 * u2) * u2) * u2)), .second, .val (.long u3), .second, .val (.long u4), .second, .val (.long (u3 * u1)), .second, .val (.long (u4 * u2)), .second, .val (.long ((u3 * u1) * u1)), .second, .val (.long ((u4 * u2) * u2)), .second] [(.int (lcmpW ((64 : Int64) * ((u3 * u1) * u1)) ((u4 * u2) * u2)))])) (fun t kt => ?_) ?_
              · refine XS.ifYes X0.here hx rfl (pc0 := 184) (pc' := 190) rfl (hb hby d6_184) rfl (jc_ge_t c184_10) (by decide) (by decide) ?_
                show Steps p.tables e below (s₁.setTop (mkF m 190 #[.val (.int p0), .val (.int p1), .val (.long u1), .second, .val (.long u2), .second, .val (.long u1), .second, .val (.long u2), .second, .val (.long (u1 * u1)), .second, .val (.long (u2 * u2)), .second, .val (.long ((u1 * u1) * u1)), .second, .val (.long ((u2 * u2) * u2)), .second, .val (.long (((u1 * u1) * u1) * u1)), .second, .val (.long (((u2 * u2) * u2) * u2)), .second, .val (.long u3), .second, .val (.long u4), .second, .val (.long (u3 * u1)), .second, .val (.long (u4 * u2)), .second, .val (.long ((u3 * u1) * u1)), .second, .val (.long ((u4 * u2) * u2)), .second] [])) _
                refine X0.ldc2Long hx hown (mvT hZ (hw _ (List.mem_of_getElem? (i := 35) rfl))) (g := (mkF m 190 #[.val (.int p0), .val (.int p1), .val (.long u1), .second, .val (.long u2), .second, .val (.long u1), .second, .val (.long u2), .second, .val (.long (u1 * u1)), .second, .val (.long (u2 * u2)), .second, .val (.long ((u1 * u1) * u1)), .second, .val (.long ((u2 * u2) * u2)), .second, .val (.long (((u1 * u1) * u1) * u1)), .second, .val (.long (((u2 * u2) * u2) * u2)), .second, .val (.long u3), .second, .val (.long u4), .second, .val (.long (u3 * u1)), .second, .val (.long (u4 * u2)), .second, .val (.long ((u3 * u1) * u1)), .second, .val (.long ((u4 * u2) * u2)), .second] [])) rfl (hb hby d6_190) _ ?_
                show Steps p.tables e below (s₁.setTop (mkF m 193 #[.val (.int p0), .val (.int p1), .val (.long u1), .second, .val (.long u2), .second, .val (.long u1), .second, .val (.long u2), .second, .val (.long (u1 * u1)), .second, .val (.long (u2 * u2)), .second, .val (.long ((u1 * u1) * u1)), .second, .val (.long ((u2 * u2) * u2)), .second, .val (.long (((u1 * u1) * u1) * u1)), .second, .val (.long (((u2 * u2) * u2) * u2)), .second, .val (.long u3), .second, .val (.long u4), .second, .val (.long (u3 * u1)), .second, .val (.long (u4 * u2)), .second, .val (.long ((u3 * u1) * u1)), .second, .val (.long ((u4 * u2) * u2)), .second] [(.long (64 : Int64))])) _
                refine XS.lload X0.here hx rfl (hb hby d6_193) rfl ?_
                show Steps p.tables e below (s₁.setTop (mkF m 195 #[.val (.int p0), .val (.int p1), .val (.long u1), .second, .val (.long u2), .second, .val (.long u1), .second, .val (.long u2), .second, .val (.long (u1 * u1)), .second, .val (.long (u2 * u2)), .second, .val (.long ((u1 * u1) * u1)), .second, .val (.long ((u2 * u2) * u2)), .second, .val (.long (((u1 * u1) * u1) * u1)), .second, .val (.long (((u2 * u2) * u2) * u2)), .second, .val (.long u3), .second, .val (.long u4), .second, .val (.long (u3 * u1)), .second, .val (.long (u4 * u2)), .second, .val (.long ((u3 * u1) * u1)), .second, .val (.long ((u4 * u2) * u2)), .second] [(.long ((u3 * u1) * u1)), (.long (64 : Int64))])) _
                refine XS.lmul X0.here hx rfl (hb hby d6_195) rfl ?_
                show Steps p.tables e below (s₁.setTop (mkF m 196 #[.val (.int p0), .val (.int p1), .val (.long u1), .second, .val (.long u2), .second, .val (.long u1), .second, .val (.long u2), .second, .val (.long (u1 * u1)), .second, .val (.long (u2 * u2)), .second, .val (.long ((u1 * u1) * u1)), .second, .val (.long ((u2 * u2) * u2)), .second, .val (.long (((u1 * u1) * u1) * u1)), .second, .val (.long (((u2 * u2) * u2) * u2)), .second, .val (.long u3), .second, .val (.long u4), .second, .val (.long (u3 * u1)), .second, .val (.long (u4 * u2)), .second, .val (.long ((u3 * u1) * u1)), .second, .val (.long ((u4 * u2) * u2)), .second] [(.long ((64 : Int64) * ((u3 * u1) * u1)))])) _
                refine XS.lload X0.here hx rfl (hb hby d6_196) rfl ?_
                show Steps p.tables e below (s₁.setTop (mkF m 198 #[.val (.int p0), .val (.int p1), .val (.long u1), .second, .val (.long u2), .second, .val (.long u1), .second, .val (.long u2), .second, .val (.long (u1 * u1)), .second, .val (.long (u2 * u2)), .second, .val (.long ((u1 * u1) * u1)), .second, .val (.long ((u2 * u2) * u2)), .second, .val (.long (((u1 * u1) * u1) * u1)), .second, .val (.long (((u2 * u2) * u2) * u2)), .second, .val (.long u3), .second, .val (.long u4), .second, .val (.long (u3 * u1)), .second, .val (.long (u4 * u2)), .second, .val (.long ((u3 * u1) * u1)), .second, .val (.long ((u4 * u2) * u2)), .second] [(.long ((u4 * u2) * u2)), (.long ((64 : Int64) * ((u3 * u1) * u1)))])) _
                refine XS.lcmp X0.here hx rfl (hb hby d6_198) rfl ?_
                exact kt
              by_cases c199_11 : ((64 : Int64) * ((u3 * u1) * u1)) < ((u4 * u2) * u2)
              · refine Gl.up (B := s₁.setTop (mkF m 204 #[.val (.int p0), .val (.int p1), .val (.long u1), .second, .val (.long u2), .second, .val (.long u1), .second, .val (.long u2), .second, .val (.long (u1 * u1)), .second, .val (.long (u2 * u2)), .second, .val (.long ((u1 * u1) * u1)), .second, .val (.long ((u2 * u2) * u2)), .second, .val (.long (((u1 * u1) * u1) * u1)), .second, .val (.long (((u2 * u2) * u2) * u2)), .second, .val (.long u3), .second, .val (.long u4), .second, .val (.long (u3 * u1)), .second, .val (.long (u4 * u2)), .second, .val (.long ((u3 * u1) * u1)), .second, .val (.long ((u4 * u2) * u2)), .second] [(.int (7 : Int32))])) (fun t kt => ?_) ?_
                · refine XS.ifNo X0.here hx rfl (hb hby d6_199) rfl (jc_ge_f c199_11) ?_
                  show Steps p.tables e below (s₁.setTop (mkF m 202 #[.val (.int p0), .val (.int p1), .val (.long u1), .second, .val (.long u2), .second, .val (.long u1), .second, .val (.long u2), .second, .val (.long (u1 * u1)), .second, .val (.long (u2 * u2)), .second, .val (.long ((u1 * u1) * u1)), .second, .val (.long ((u2 * u2) * u2)), .second, .val (.long (((u1 * u1) * u1) * u1)), .second, .val (.long (((u2 * u2) * u2) * u2)), .second, .val (.long u3), .second, .val (.long u4), .second, .val (.long (u3 * u1)), .second, .val (.long (u4 * u2)), .second, .val (.long ((u3 * u1) * u1)), .second, .val (.long ((u4 * u2) * u2)), .second] [])) _
                  refine XS.bipush X0.here hx rfl (hb hby d6_202) ?_
                  exact kt
                refine Gl.retI X0 hx hlk Bd.returns (hb hby d6_204) ?_ (by decide) (by decide)
                subst hu4 hu3 hu2 hu1; exact ⟨congrArg (fun z => some (Value.int z)) (show (7 : Int32) = f6 p0 p1 from (((((((if_neg c114_5).trans (if_neg c128_6)).trans (if_neg c142_7)).trans (if_neg c156_8)).trans (if_neg c170_9)).trans (if_neg c184_10)).trans (if_pos c199_11)).symm), rfl, e0⟩
              · refine Gl.up (B := s₁.setTop (mkF m 207 #[.val (.int p0), .val (.int p1), .val (.long u1), .second, .val (.long u2), .second, .val (.long u1), .second, .val (.long u2), .second, .val (.long (u1 * u1)), .second, .val (.long (u2 * u2)), .second, .val (.long ((u1 * u1) * u1)), .second, .val (.long ((u2 * u2) * u2)), .second, .val (.long (((u1 * u1) * u1) * u1)), .second, .val (.long (((u2 * u2) * u2) * u2)), .second, .val (.long u3), .second, .val (.long u4), .second, .val (.long (u3 * u1)), .second, .val (.long (u4 * u2)), .second, .val (.long ((u3 * u1) * u1)), .second, .val (.long ((u4 * u2) * u2)), .second] [(.int (8 : Int32))])) (fun t kt => ?_) ?_
                · refine XS.ifYes X0.here hx rfl (pc0 := 199) (pc' := 205) rfl (hb hby d6_199) rfl (jc_ge_t c199_11) (by decide) (by decide) ?_
                  show Steps p.tables e below (s₁.setTop (mkF m 205 #[.val (.int p0), .val (.int p1), .val (.long u1), .second, .val (.long u2), .second, .val (.long u1), .second, .val (.long u2), .second, .val (.long (u1 * u1)), .second, .val (.long (u2 * u2)), .second, .val (.long ((u1 * u1) * u1)), .second, .val (.long ((u2 * u2) * u2)), .second, .val (.long (((u1 * u1) * u1) * u1)), .second, .val (.long (((u2 * u2) * u2) * u2)), .second, .val (.long u3), .second, .val (.long u4), .second, .val (.long (u3 * u1)), .second, .val (.long (u4 * u2)), .second, .val (.long ((u3 * u1) * u1)), .second, .val (.long ((u4 * u2) * u2)), .second] [])) _
                  refine XS.bipush X0.here hx rfl (hb hby d6_205) ?_
                  exact kt
                refine Gl.retI X0 hx hlk Bd.returns (hb hby d6_207) ?_ (by decide) (by decide)
                subst hu4 hu3 hu2 hu1; exact ⟨congrArg (fun z => some (Value.int z)) (show (8 : Int32) = f6 p0 p1 from (((((((if_neg c114_5).trans (if_neg c128_6)).trans (if_neg c142_7)).trans (if_neg c156_8)).trans (if_neg c170_9)).trans (if_neg c184_10)).trans (if_neg c199_11)).symm), rfl, e0⟩
theorem own_k8 (x : Int32) : (1 : Int32) + (x &&& (7 : Int32)) = 1 ∨ (1 : Int32) + (x &&& (7 : Int32)) = 2 ∨ (1 : Int32) + (x &&& (7 : Int32)) = 3 ∨ (1 : Int32) + (x &&& (7 : Int32)) = 4 ∨ (1 : Int32) + (x &&& (7 : Int32)) = 5 ∨ (1 : Int32) + (x &&& (7 : Int32)) = 6 ∨ (1 : Int32) + (x &&& (7 : Int32)) = 7 ∨ (1 : Int32) + (x &&& (7 : Int32)) = 8 := by
  have h1 := c_and x (7 : Int32) (by decide)
  rw [show (7 : Int32).toInt = 7 from rfl] at h1
  generalize x &&& (7 : Int32) = y at *
  have h3 : y.toInt = 0 ∨ y.toInt = 1 ∨ y.toInt = 2 ∨ y.toInt = 3 ∨ y.toInt = 4 ∨ y.toInt = 5 ∨ y.toInt = 6 ∨ y.toInt = 7 := by omega
  rcases h3 with h | h | h | h | h | h | h | h
  · have e : y = 0 := Int32.toInt_inj.mp h
    subst e; decide
  · have e : y = 1 := Int32.toInt_inj.mp h
    subst e; decide
  · have e : y = 2 := Int32.toInt_inj.mp h
    subst e; decide
  · have e : y = 3 := Int32.toInt_inj.mp h
    subst e; decide
  · have e : y = 4 := Int32.toInt_inj.mp h
    subst e; decide
  · have e : y = 5 := Int32.toInt_inj.mp h
    subst e; decide
  · have e : y = 6 := Int32.toInt_inj.mp h
    subst e; decide
  · have e : y = 7 := Int32.toInt_inj.mp h
    subst e; decide
theorem own_bit (x i k : Int32) (h : i < k) : f5 x i k = f4 x i := by
  unfold f5 f4
  rw [if_pos h]
  rcases and_one (x >>> (i &&& 31)) with q | q <;> rw [q] <;> decide
theorem own_nobit (x i k : Int32) (h : ¬ i < k) : f5 x i k = 0 := by unfold f5; rw [if_neg h]
def own_ls : Nat → List (List Int32)
  | 0 => [[]]
  | n + 1 => (own_ls n).flatMap (fun l => [(0 : Int32) :: l, (1 : Int32) :: l])
theorem own_nil : ([] : List Int32) ∈ own_ls 0 := List.mem_singleton.mpr rfl
theorem own_cons {b : Int32} {l : List Int32} {n : Nat} (hb : b = 0 ∨ b = 1) (hl : l ∈ own_ls n) : b :: l ∈ own_ls (n + 1) :=
  List.mem_flatMap.mpr ⟨l, hl, by rcases hb with rfl | rfl <;> simp⟩
theorem own_st1 (b : Int32) (l : List Int32) : (own_st (b :: l)).1 = f2_share b (own_st l).1 (own_st l).2 := rfl
theorem own_st2 (b : Int32) (l : List Int32) : (own_st (b :: l)).2 = f2_samples b (own_st l).1 (own_st l).2 := rfl
def own_sum : List Int32 → Int32
  | [] => 0
  | b :: l => own_sum l + b
theorem own_pre0 : ∀ l ∈ own_ls 0, ∀ b ∈ [(0 : Int32), 1], own_pres b (own_st l).1 (own_st l).2 := by decide +kernel
theorem own_pre1 : ∀ l ∈ own_ls 1, ∀ b ∈ [(0 : Int32), 1], own_pres b (own_st l).1 (own_st l).2 := by decide +kernel
theorem own_pre2 : ∀ l ∈ own_ls 2, ∀ b ∈ [(0 : Int32), 1], own_pres b (own_st l).1 (own_st l).2 := by decide +kernel
theorem own_pre3 : ∀ l ∈ own_ls 3, ∀ b ∈ [(0 : Int32), 1], own_pres b (own_st l).1 (own_st l).2 := by decide +kernel
theorem own_pre4 : ∀ l ∈ own_ls 4, ∀ b ∈ [(0 : Int32), 1], own_pres b (own_st l).1 (own_st l).2 := by decide +kernel
theorem own_pre5 : ∀ l ∈ own_ls 5, ∀ b ∈ [(0 : Int32), 1], own_pres b (own_st l).1 (own_st l).2 := by decide +kernel
theorem own_pre6 : ∀ l ∈ own_ls 6, ∀ b ∈ [(0 : Int32), 1], own_pres b (own_st l).1 (own_st l).2 := by decide +kernel
theorem own_pre7 : ∀ l ∈ own_ls 7, ∀ b ∈ [(0 : Int32), 1], own_pres b (own_st l).1 (own_st l).2 := by decide +kernel
theorem own_w1 : ∀ l ∈ own_ls 1, own_prew (own_st l).1 := by decide +kernel
theorem own_fin1 : ∀ l ∈ own_ls 1, f3 (own_st l).1 (own_st l).2 = f6 (own_sum l) (1 : Int32) := by decide +kernel
theorem own_w2 : ∀ l ∈ own_ls 2, own_prew (own_st l).1 := by decide +kernel
theorem own_fin2 : ∀ l ∈ own_ls 2, f3 (own_st l).1 (own_st l).2 = f6 (own_sum l) (2 : Int32) := by decide +kernel
theorem own_w3 : ∀ l ∈ own_ls 3, own_prew (own_st l).1 := by decide +kernel
theorem own_fin3 : ∀ l ∈ own_ls 3, f3 (own_st l).1 (own_st l).2 = f6 (own_sum l) (3 : Int32) := by decide +kernel
theorem own_w4 : ∀ l ∈ own_ls 4, own_prew (own_st l).1 := by decide +kernel
theorem own_fin4 : ∀ l ∈ own_ls 4, f3 (own_st l).1 (own_st l).2 = f6 (own_sum l) (4 : Int32) := by decide +kernel
theorem own_w5 : ∀ l ∈ own_ls 5, own_prew (own_st l).1 := by decide +kernel
theorem own_fin5 : ∀ l ∈ own_ls 5, f3 (own_st l).1 (own_st l).2 = f6 (own_sum l) (5 : Int32) := by decide +kernel
theorem own_w6 : ∀ l ∈ own_ls 6, own_prew (own_st l).1 := by decide +kernel
theorem own_fin6 : ∀ l ∈ own_ls 6, f3 (own_st l).1 (own_st l).2 = f6 (own_sum l) (6 : Int32) := by decide +kernel
theorem own_w7 : ∀ l ∈ own_ls 7, own_prew (own_st l).1 := by decide +kernel
theorem own_fin7 : ∀ l ∈ own_ls 7, f3 (own_st l).1 (own_st l).2 = f6 (own_sum l) (7 : Int32) := by decide +kernel
theorem own_w8 : ∀ l ∈ own_ls 8, own_prew (own_st l).1 := by decide +kernel
theorem own_fin8 : ∀ l ∈ own_ls 8, f3 (own_st l).1 (own_st l).2 = f6 (own_sum l) (8 : Int32) := by decide +kernel
theorem own_b01 {b : Int32} (h : b = 0 ∨ b = 1) : b ∈ [(0 : Int32), 1] := by rcases h with rfl | rfl <;> simp
def Q0 (n0 : Nat) (v : Option Value) (h : Heap) (L : List Loc) : Prop := v = some (.int 1) ∧ Fr n0 L
theorem ef0 (m : MethodId) (cnt : Int32) (bits : Int32) : entryFrame m #[(.int cnt), (.int bits)] maxLocals = mkF m 0 #[.val (.int cnt), .val (.int bits), .unset, .unset, .unset, .unset] [] := by first | (simp [entryFrame, mkF, argsToLocals, Value.category, maxLocals]; done) | rfl
set_option maxRecDepth 65536 in
set_option maxHeartbeats 40000000 in
theorem rm0 (l : Launch) (Z : State) (aa : Array Value) (hw : ∀ d ∈ tables_1, d.before aa Z = true) (ws : List Jvm.Cond) (cnt : Int32) (bits : Int32) (h0 : Heap) (n0 : Nat) (O0 : Old Z n0 h0)  :
    MetFree l x (head1 (Jvm.Cond.code x code maxLocals ret :: ws) room_1) (fun a U => a = #[(.int cnt), (.int bits)] ∧ Z.Warmed39 U.vm ∧ U.heap = h0) (fun _ _ _ _ _ => True) (fun _ U o U' => ∃ v L, o = .returned v ∧ Q0 n0 v U'.heap L ∧ FrameEnd U o U' L 1 2) := by
  refine MetFree.of_bodySF (plainFor_of_name pn_com_example_gallant_courier_gallantcourier_core_LossRateWaitsPerDoublingPinLaw) hisR ?_
  intro p e s m args below meth c s₁ Bd hml0 hP hK
  obtain ⟨rfl, hZ, hh⟩ := hP
  have hx := Bd.exec
  have hby := Bd.bytes
  have hlk := Bd.notSynchronized
  have hml : c.maxLocals = 6 := hml0
  have hown : s.vm.findClass "com/example/gallant_courier/gallantcourier/core/LossRateWaitsPerDoublingPinLaw" = some m.cls := findClass_of_methodNamed Bd.named
  have hnm := (name_of_methodNamed Bd.named Bd.method).1
  have X0 : Stand p l e room_1 s m #[(.int cnt), (.int bits)] below meth c s₁ [] 0 0 := Stand.of_body Bd
  have e0 : s₁.heap = h0 := by rw [← hh, Bd.state]; rfl
  have N0 := Fr.nil n0
  show Gl p e below (Ret s 1 2 (Q0 n0)) (s₁.setTop (entryFrame m #[(.int cnt), (.int bits)] maxLocals))
  rw [ef0 m cnt bits]
  obtain ⟨args, hargs⟩ : ∃ z : Array Value, z = #[(.int cnt), (.int bits)] := ⟨_, rfl⟩
  rw [← hargs] at X0
  refine Gl.up (B := s₁.setTop (mkF m 6 #[.val (.int cnt), .val (.int bits), .unset, .unset, .unset, .unset] [(.int ((1 : Int32) + (cnt &&& (7 : Int32))))])) (fun t kt => ?_) ?_
  · refine XS.iconst X0.here hx rfl (hb hby at_0) ?_
    show Steps p.tables e below (s₁.setTop (mkF m 1 #[.val (.int cnt), .val (.int bits), .unset, .unset, .unset, .unset] [(.int (1 : Int32))])) _
    refine XS.iloadN X0.here hx rfl (hb hby at_1) rfl ?_
    show Steps p.tables e below (s₁.setTop (mkF m 2 #[.val (.int cnt), .val (.int bits), .unset, .unset, .unset, .unset] [(.int cnt), (.int (1 : Int32))])) _
    refine XS.bipush X0.here hx rfl (hb hby at_2) ?_
    show Steps p.tables e below (s₁.setTop (mkF m 4 #[.val (.int cnt), .val (.int bits), .unset, .unset, .unset, .unset] [(.int (7 : Int32)), (.int cnt), (.int (1 : Int32))])) _
    refine XS.iand X0.here hx rfl (hb hby at_4) rfl ?_
    show Steps p.tables e below (s₁.setTop (mkF m 5 #[.val (.int cnt), .val (.int bits), .unset, .unset, .unset, .unset] [(.int (cnt &&& (7 : Int32))), (.int (1 : Int32))])) _
    refine XS.iadd X0.here hx rfl (hb hby at_5) rfl ?_
    exact kt
  obtain ⟨u1, hu1⟩ : ∃ q : Int32, q = ((1 : Int32) + (cnt &&& (7 : Int32))) := ⟨_, rfl⟩
  rw [← hu1]
  refine Gl.up (B := s₁.setTop (mkF m 7 #[.val (.int cnt), .val (.int bits), .val (.int u1), .unset, .unset, .unset] [])) (fun t kt => ?_) ?_
  · refine XS.istoreN X0.here hx rfl (hb hby at_6) rfl (l' := #[.val (.int cnt), .val (.int bits), .val (.int u1), .unset, .unset, .unset]) rfl ?_
    exact kt
  rcases (show u1 = (1 : Int32) ∨ u1 = (2 : Int32) ∨ u1 = (3 : Int32) ∨ u1 = (4 : Int32) ∨ u1 = (5 : Int32) ∨ u1 = (6 : Int32) ∨ u1 = (7 : Int32) ∨ u1 = (8 : Int32) from by rw [hu1]; exact own_k8 cnt) with hk | hk | hk | hk | hk | hk | hk | hk
  · rw [hk]
    obtain ⟨T2, h2, X2, e2, E2, A2, D2, -, st2⟩ := newO X0 hx hZ hown (hw _ (List.mem_of_getElem? (i := 0) rfl)) (hw _ (List.mem_of_getElem? (i := 1) rfl)) (hw _ (List.mem_of_getElem? (i := 2) rfl)) e0 (g := (mkF m 7 #[.val (.int cnt), .val (.int bits), .val (.int (1 : Int32)), .unset, .unset, .unset] [])) rfl (hb hby at_7) (by decide) (by decide)
    obtain ⟨b2, gq2⟩ : ∃ z, z = h0.size := ⟨_, rfl⟩
    rw [← gq2] at A2 D2 st2
    have g_b2 : n0 ≤ b2 := Nat.le_trans (old_le O0) (Nat.le_of_eq gq2.symm)
    have O2 := O0.ext E2
    have F_b2_samples_2 : Fld Z h2 b2 "com/example/gallant_courier/gallantcourier/core/LossRate" "samples" "I" (.int (0 : Int32)) := D2 (Or.inl (hw _ (List.mem_of_getElem? (i := 19) rfl))) (ty := .int) (by decide)
    have F_b2_share_2 : Fld Z h2 b2 "com/example/gallant_courier/gallantcourier/core/LossRate" "share" "D" (.double (0 : UInt64)) := D2 (Or.inl (hw _ (List.mem_of_getElem? (i := 21) rfl))) (ty := .double) (by decide)
    refine Gl.up (B := T2.setTop (mkF m 10 #[.val (.int cnt), .val (.int bits), .val (.int (1 : Int32)), .unset, .unset, .unset] [(.ref b2)])) (fun t kt => st2 _ kt) ?_
    refine Gl.up (B := T2.setTop (mkF m 11 #[.val (.int cnt), .val (.int bits), .val (.int (1 : Int32)), .unset, .unset, .unset] [(.ref b2), (.ref b2)])) (fun t kt => ?_) ?_
    · refine XS.dup X2.here hx rfl (hb hby at_10) rfl rfl ?_
      exact kt
    obtain ⟨_, _, ⟨T3, L3, k3, n3⟩, -, X3, ⟨Lc3, hQ3, l3, y3, z3⟩, st3⟩ := X2.specialBack hx (y := (⟨"com/example/gallant_courier/gallantcourier/core/LossRate", "<init>", "()V"⟩ : MethodName)) rfl hown (mvT hZ (hw _ (List.mem_of_getElem? (i := 3) rfl))) (mvT hZ (hw _ (List.mem_of_getElem? (i := 4) rfl))) (mvT hZ (hw _ (List.mem_of_getElem? (i := 5) rfl))) (by decide) (backOf (W := 1) (rm1 l Z aa hw [] b2 (0 : UInt64) (0 : Int32) h2 n0 O2 A2 F_b2_share_2 F_b2_samples_2 g_b2) hZ (hw _ (List.mem_of_getElem? (i := 5) rfl)) (hw _ (List.mem_of_getElem? (i := 2) rfl)) (by decide) (by decide)) (g := (mkF m 11 #[.val (.int cnt), .val (.int bits), .val (.int (1 : Int32)), .unset, .unset, .unset] [(.ref b2), (.ref b2)])) rfl (by rw [hml]; rfl) (Steps.refl _) (a := b2) (argsL := []) (rest := [(.ref b2)]) (lenOf pd_ocV rfl) rfl (by show 2 * 0 + _ ≤ _; exact Nat.le_of_eq rfl) (hb hby at_11) (fun _ _ => ⟨rfl, e2, (by decide : 1 + 0 ≤ _), (by decide : 2 + 0 ≤ _)⟩)
    dsimp only [Pt.U, Pt.locs, Pt.cells, Pt.slots] at X3 l3 y3 z3 st3 hQ3
    subst l3 y3 z3
    obtain ⟨rfl, M3, K3, F_b2_share_3, F_b2_samples_3⟩ := hQ3
    have N3 := Fr.app N0 M3
    have O3 := O2.keep K3 (allS g_b2 all0)
    have E_b2_3 := A2.keep K3
    refine Gl.up (B := T3.setTop (mkF m 14 #[.val (.int cnt), .val (.int bits), .val (.int (1 : Int32)), .unset, .unset, .unset] [(.ref b2)])) (fun t kt => st3.trans kt) ?_
    refine Gl.up (B := T3.setTop (mkF m 18 #[.val (.int cnt), .val (.int bits), .val (.int (1 : Int32)), .val (.ref b2), .unset, .unset] [(.int (0 : Int32)), (.int bits), (.ref b2)])) (fun t kt => ?_) ?_
    · refine XS.astoreN X3.here hx rfl (hb hby at_14) rfl rfl (l' := #[.val (.int cnt), .val (.int bits), .val (.int (1 : Int32)), .val (.ref b2), .unset, .unset]) rfl ?_
      show Steps p.tables e below (T3.setTop (mkF m 15 #[.val (.int cnt), .val (.int bits), .val (.int (1 : Int32)), .val (.ref b2), .unset, .unset] [])) _
      refine XS.aloadN X3.here hx rfl (hb hby at_15) rfl rfl ?_
      show Steps p.tables e below (T3.setTop (mkF m 16 #[.val (.int cnt), .val (.int bits), .val (.int (1 : Int32)), .val (.ref b2), .unset, .unset] [(.ref b2)])) _
      refine XS.iloadN X3.here hx rfl (hb hby at_16) rfl ?_
      show Steps p.tables e below (T3.setTop (mkF m 17 #[.val (.int cnt), .val (.int bits), .val (.int (1 : Int32)), .val (.ref b2), .unset, .unset] [(.int bits), (.ref b2)])) _
      refine XS.iconst X3.here hx rfl (hb hby at_17) ?_
      exact kt
    obtain ⟨_, _, ⟨T4, L4, k4, n4⟩, -, X4, ⟨Lc4, hQ4, l4, y4, z4⟩, st4⟩ := Jvm.LawKit.callS X3 hx (y := (⟨"com/example/gallant_courier/gallantcourier/core/LossRateWaitsPerDoublingPinLaw", "bit", "(II)Z"⟩ : MethodName)) hown (mvT hZ (hw _ (List.mem_of_getElem? (i := 9) rfl))) (mvT hZ (hw _ (List.mem_of_getElem? (i := 10) rfl))) (mvT hZ (hw _ (List.mem_of_getElem? (i := 11) rfl))) (mvT hZ (hw _ (List.mem_of_getElem? (i := 12) rfl))) (by decide) (backOf (W := 1) (rm4 l Z aa hw [] bits (0 : Int32) T3.heap n0 O3) hZ (hw _ (List.mem_of_getElem? (i := 12) rfl)) (hw _ (List.mem_of_getElem? (i := 11) rfl)) (by decide) (by decide)) (g := (mkF m 18 #[.val (.int cnt), .val (.int bits), .val (.int (1 : Int32)), .val (.ref b2), .unset, .unset] [(.int (0 : Int32)), (.int bits), (.ref b2)])) rfl (by rw [hml]; rfl) (argsL := [(.int bits), (.int (0 : Int32))]) (rest := [(.ref b2)]) (lenOf pd_oIIcZ rfl) rfl (by show 2 * 0 + _ ≤ _; exact Nat.le_of_eq rfl) (hb hby at_18) (fun _ _ => ⟨rfl, rfl, (by decide : 1 + 0 ≤ _), (by decide : 2 + 0 ≤ _)⟩)
    dsimp only [Pt.U, Pt.locs, Pt.cells, Pt.slots] at X4 l4 y4 z4 st4 hQ4
    subst l4 y4 z4
    obtain ⟨rfl, rfl, e4⟩ := hQ4
    try rw [List.append_nil] at X4
    refine Gl.up (B := T4.setTop (mkF m 21 #[.val (.int cnt), .val (.int bits), .val (.int (1 : Int32)), .val (.ref b2), .unset, .unset] [(.int (f4 bits (0 : Int32))), (.ref b2)])) (fun t kt => st4 _ kt) ?_
    have hp6 : own_pres (f4 bits (0 : Int32)) (0 : UInt64) (0 : Int32) := own_pre0 _ own_nil _ (own_b01 (f4_b bits (0 : Int32)))
    obtain ⟨cq5, kq5, q5a, q5b, q5c⟩ := isOf hZ e4 E_b2_3
    obtain ⟨_, _, ⟨T5, L5, k5, n5⟩, -, X5, ⟨Lc5, hQ5, l5, y5, z5⟩, st5⟩ := X4.virtualBack hx (y := (⟨"com/example/gallant_courier/gallantcourier/core/LossRate", "sample", "(Z)V"⟩ : MethodName)) (z := (⟨"com/example/gallant_courier/gallantcourier/core/LossRate", "sample", "(Z)V"⟩ : MethodName)) hown (mvT hZ (hw _ (List.mem_of_getElem? (i := 13) rfl))) (mvT hZ (hw _ (List.mem_of_getElem? (i := 14) rfl))) (notFace_of_selects (args := #[]) (mvT hZ (hw _ (List.mem_of_getElem? (i := 16) rfl)))) (mvT hZ (hw _ (List.mem_of_getElem? (i := 16) rfl))) (mvT hZ (hw _ (List.mem_of_getElem? (i := 15) rfl))) (by decide) (backOf (W := 0) (rm2 l Z aa hw [] b2 (f4 bits (0 : Int32)) (0 : UInt64) (0 : Int32) T3.heap n0 O3 E_b2_3 F_b2_share_3 F_b2_samples_3 g_b2 hp6.1 hp6.2.1 hp6.2.2) hZ (hw _ (List.mem_of_getElem? (i := 17) rfl)) (hw _ (List.mem_of_getElem? (i := 2) rfl)) (by decide) (by decide)) q5a q5c (g := (mkF m 21 #[.val (.int cnt), .val (.int bits), .val (.int (1 : Int32)), .val (.ref b2), .unset, .unset] [(.int (f4 bits (0 : Int32))), (.ref b2)])) rfl (by rw [hml]; rfl) (Steps.refl _) (argsL := [(.int (f4 bits (0 : Int32)))]) (rest := []) (lenOf pd_oZcV rfl) rfl (by show 2 * 0 + _ ≤ _; exact Nat.le_of_eq rfl) (hb hby at_21) (fun _ _ => ⟨rfl, e4, (by decide : 1 + 0 ≤ _), (by decide : 2 + 0 ≤ _)⟩)
    dsimp only [Pt.U, Pt.locs, Pt.cells, Pt.slots] at X5 l5 y5 z5 st5 hQ5
    subst l5 y5 z5
    obtain ⟨rfl, M5, K5, F_b2_share_5, F_b2_samples_5⟩ := hQ5
    have N5 := Fr.app N3 M5
    have O5 := O3.keep K5 (allS g_b2 all0)
    have E_b2_5 := E_b2_3.keep K5
    obtain ⟨u7, hu7⟩ : ∃ q : UInt64, q = (f2_share (f4 bits (0 : Int32)) (0 : UInt64) (0 : Int32)) := ⟨_, rfl⟩
    rw [← hu7] at F_b2_share_5
    obtain ⟨u8, hu8⟩ : ∃ q : Int32, q = (f2_samples (f4 bits (0 : Int32)) (0 : UInt64) (0 : Int32)) := ⟨_, rfl⟩
    rw [← hu8] at F_b2_samples_5
    refine Gl.up (B := T5.setTop (mkF m 24 #[.val (.int cnt), .val (.int bits), .val (.int (1 : Int32)), .val (.ref b2), .unset, .unset] [])) (fun t kt => st5.trans kt) ?_
    have hsh9 : u7 = (own_st [(f4 bits (0 : Int32))]).1 := by rw [hu7]; first | rfl | (simp only [own_st])
    have hsa9 : u8 = (own_st [(f4 bits (0 : Int32))]).2 := by rw [hu8]; first | rfl | (simp only [own_st])
    refine Gl.up (B := T5.setTop (mkF m 128 #[.val (.int cnt), .val (.int bits), .val (.int (1 : Int32)), .val (.ref b2), .unset, .unset] [(.ref b2)])) (fun t kt => ?_) ?_
    · refine XS.iloadN X5.here hx rfl (hb hby at_24) rfl ?_
      show Steps p.tables e below (T5.setTop (mkF m 25 #[.val (.int cnt), .val (.int bits), .val (.int (1 : Int32)), .val (.ref b2), .unset, .unset] [(.int (1 : Int32))])) _
      refine XS.iconst X5.here hx rfl (hb hby at_25) ?_
      show Steps p.tables e below (T5.setTop (mkF m 26 #[.val (.int cnt), .val (.int bits), .val (.int (1 : Int32)), .val (.ref b2), .unset, .unset] [(.int (2 : Int32)), (.int (1 : Int32))])) _
      refine XS.icmpYes X5.here hx rfl (pc0 := 26) (pc' := 38) rfl (hb hby at_26) rfl (tlt (by decide : (1 : Int32) < (2 : Int32))).1 (by decide) (by decide) ?_
      show Steps p.tables e below (T5.setTop (mkF m 38 #[.val (.int cnt), .val (.int bits), .val (.int (1 : Int32)), .val (.ref b2), .unset, .unset] [])) _
      refine XS.iloadN X5.here hx rfl (hb hby at_38) rfl ?_
      show Steps p.tables e below (T5.setTop (mkF m 39 #[.val (.int cnt), .val (.int bits), .val (.int (1 : Int32)), .val (.ref b2), .unset, .unset] [(.int (1 : Int32))])) _
      refine XS.iconst X5.here hx rfl (hb hby at_39) ?_
      show Steps p.tables e below (T5.setTop (mkF m 40 #[.val (.int cnt), .val (.int bits), .val (.int (1 : Int32)), .val (.ref b2), .unset, .unset] [(.int (3 : Int32)), (.int (1 : Int32))])) _
      refine XS.icmpYes X5.here hx rfl (pc0 := 40) (pc' := 52) rfl (hb hby at_40) rfl (tlt (by decide : (1 : Int32) < (3 : Int32))).1 (by decide) (by decide) ?_
      show Steps p.tables e below (T5.setTop (mkF m 52 #[.val (.int cnt), .val (.int bits), .val (.int (1 : Int32)), .val (.ref b2), .unset, .unset] [])) _
      refine XS.iloadN X5.here hx rfl (hb hby at_52) rfl ?_
      show Steps p.tables e below (T5.setTop (mkF m 53 #[.val (.int cnt), .val (.int bits), .val (.int (1 : Int32)), .val (.ref b2), .unset, .unset] [(.int (1 : Int32))])) _
      refine XS.iconst X5.here hx rfl (hb hby at_53) ?_
      show Steps p.tables e below (T5.setTop (mkF m 54 #[.val (.int cnt), .val (.int bits), .val (.int (1 : Int32)), .val (.ref b2), .unset, .unset] [(.int (4 : Int32)), (.int (1 : Int32))])) _
      refine XS.icmpYes X5.here hx rfl (pc0 := 54) (pc' := 66) rfl (hb hby at_54) rfl (tlt (by decide : (1 : Int32) < (4 : Int32))).1 (by decide) (by decide) ?_
      show Steps p.tables e below (T5.setTop (mkF m 66 #[.val (.int cnt), .val (.int bits), .val (.int (1 : Int32)), .val (.ref b2), .unset, .unset] [])) _
      refine XS.iloadN X5.here hx rfl (hb hby at_66) rfl ?_
      show Steps p.tables e below (T5.setTop (mkF m 67 #[.val (.int cnt), .val (.int bits), .val (.int (1 : Int32)), .val (.ref b2), .unset, .unset] [(.int (1 : Int32))])) _
      refine XS.iconst X5.here hx rfl (hb hby at_67) ?_
      show Steps p.tables e below (T5.setTop (mkF m 68 #[.val (.int cnt), .val (.int bits), .val (.int (1 : Int32)), .val (.ref b2), .unset, .unset] [(.int (5 : Int32)), (.int (1 : Int32))])) _
      refine XS.icmpYes X5.here hx rfl (pc0 := 68) (pc' := 80) rfl (hb hby at_68) rfl (tlt (by decide : (1 : Int32) < (5 : Int32))).1 (by decide) (by decide) ?_
      show Steps p.tables e below (T5.setTop (mkF m 80 #[.val (.int cnt), .val (.int bits), .val (.int (1 : Int32)), .val (.ref b2), .unset, .unset] [])) _
      refine XS.iloadN X5.here hx rfl (hb hby at_80) rfl ?_
      show Steps p.tables e below (T5.setTop (mkF m 81 #[.val (.int cnt), .val (.int bits), .val (.int (1 : Int32)), .val (.ref b2), .unset, .unset] [(.int (1 : Int32))])) _
      refine XS.bipush X5.here hx rfl (hb hby at_81) ?_
      show Steps p.tables e below (T5.setTop (mkF m 83 #[.val (.int cnt), .val (.int bits), .val (.int (1 : Int32)), .val (.ref b2), .unset, .unset] [(.int (6 : Int32)), (.int (1 : Int32))])) _
      refine XS.icmpYes X5.here hx rfl (pc0 := 83) (pc' := 95) rfl (hb hby at_83) rfl (tlt (by decide : (1 : Int32) < (6 : Int32))).1 (by decide) (by decide) ?_
      show Steps p.tables e below (T5.setTop (mkF m 95 #[.val (.int cnt), .val (.int bits), .val (.int (1 : Int32)), .val (.ref b2), .unset, .unset] [])) _
      refine XS.iloadN X5.here hx rfl (hb hby at_95) rfl ?_
      show Steps p.tables e below (T5.setTop (mkF m 96 #[.val (.int cnt), .val (.int bits), .val (.int (1 : Int32)), .val (.ref b2), .unset, .unset] [(.int (1 : Int32))])) _
      refine XS.bipush X5.here hx rfl (hb hby at_96) ?_
      show Steps p.tables e below (T5.setTop (mkF m 98 #[.val (.int cnt), .val (.int bits), .val (.int (1 : Int32)), .val (.ref b2), .unset, .unset] [(.int (7 : Int32)), (.int (1 : Int32))])) _
      refine XS.icmpYes X5.here hx rfl (pc0 := 98) (pc' := 111) rfl (hb hby at_98) rfl (tlt (by decide : (1 : Int32) < (7 : Int32))).1 (by decide) (by decide) ?_
      show Steps p.tables e below (T5.setTop (mkF m 111 #[.val (.int cnt), .val (.int bits), .val (.int (1 : Int32)), .val (.ref b2), .unset, .unset] [])) _
      refine XS.iloadN X5.here hx rfl (hb hby at_111) rfl ?_
      show Steps p.tables e below (T5.setTop (mkF m 112 #[.val (.int cnt), .val (.int bits), .val (.int (1 : Int32)), .val (.ref b2), .unset, .unset] [(.int (1 : Int32))])) _
      refine XS.bipush X5.here hx rfl (hb hby at_112) ?_
      show Steps p.tables e below (T5.setTop (mkF m 114 #[.val (.int cnt), .val (.int bits), .val (.int (1 : Int32)), .val (.ref b2), .unset, .unset] [(.int (8 : Int32)), (.int (1 : Int32))])) _
      refine XS.icmpYes X5.here hx rfl (pc0 := 114) (pc' := 127) rfl (hb hby at_114) rfl (tlt (by decide : (1 : Int32) < (8 : Int32))).1 (by decide) (by decide) ?_
      show Steps p.tables e below (T5.setTop (mkF m 127 #[.val (.int cnt), .val (.int bits), .val (.int (1 : Int32)), .val (.ref b2), .unset, .unset] [])) _
      refine XS.aloadN X5.here hx rfl (hb hby at_127) rfl rfl ?_
      exact kt
    have hw1 : own_prew u7 := by rw [hsh9]; exact own_w1 _ (own_cons (f4_b bits (0 : Int32)) own_nil)
    obtain ⟨cq10, kq10, q10a, q10b, q10c⟩ := isOf hZ rfl E_b2_5
    obtain ⟨_, _, ⟨T10, L10, k10, n10⟩, -, X10, ⟨Lc10, hQ10, l10, y10, z10⟩, st10⟩ := X5.virtualBack hx (y := (⟨"com/example/gallant_courier/gallantcourier/core/LossRate", "waitsPerDoubling", "()I"⟩ : MethodName)) (z := (⟨"com/example/gallant_courier/gallantcourier/core/LossRate", "waitsPerDoubling", "()I"⟩ : MethodName)) hown (mvT hZ (hw _ (List.mem_of_getElem? (i := 22) rfl))) (mvT hZ (hw _ (List.mem_of_getElem? (i := 23) rfl))) (notFace_of_selects (args := #[]) (mvT hZ (hw _ (List.mem_of_getElem? (i := 25) rfl)))) (mvT hZ (hw _ (List.mem_of_getElem? (i := 25) rfl))) (mvT hZ (hw _ (List.mem_of_getElem? (i := 24) rfl))) (by decide) (backOf (W := 0) (rm3 l Z aa hw [] b2 u7 u8 T5.heap n0 O5 E_b2_5 F_b2_share_5 F_b2_samples_5 hw1.1 hw1.2.1 hw1.2.2.1 hw1.2.2.2.1 hw1.2.2.2.2.1 hw1.2.2.2.2.2.1 hw1.2.2.2.2.2.2.1 hw1.2.2.2.2.2.2.2.1 hw1.2.2.2.2.2.2.2.2.1 hw1.2.2.2.2.2.2.2.2.2) hZ (hw _ (List.mem_of_getElem? (i := 26) rfl)) (hw _ (List.mem_of_getElem? (i := 2) rfl)) (by decide) (by decide)) q10a q10c (g := (mkF m 128 #[.val (.int cnt), .val (.int bits), .val (.int (1 : Int32)), .val (.ref b2), .unset, .unset] [(.ref b2)])) rfl (by rw [hml]; rfl) (Steps.refl _) (argsL := []) (rest := []) (lenOf pd_ocI rfl) rfl (by show 2 * 0 + _ ≤ _; exact Nat.le_of_eq rfl) (hb hby at_128) (fun _ _ => ⟨rfl, rfl, (by decide : 1 + 0 ≤ _), (by decide : 2 + 0 ≤ _)⟩)
    dsimp only [Pt.U, Pt.locs, Pt.cells, Pt.slots] at X10 l10 y10 z10 st10 hQ10
    subst l10 y10 z10
    obtain ⟨rfl, rfl, e10⟩ := hQ10
    try rw [List.append_nil] at X10
    refine Gl.up (B := T10.setTop (mkF m 131 #[.val (.int cnt), .val (.int bits), .val (.int (1 : Int32)), .val (.ref b2), .unset, .unset] [(.int (f3 u7 u8))])) (fun t kt => st10.trans kt) ?_
    refine Gl.up (B := T10.setTop (mkF m 136 #[.val (.int cnt), .val (.int bits), .val (.int (1 : Int32)), .val (.ref b2), .val (.int (f3 u7 u8)), .unset] [(.int (1 : Int32)), (.int (0 : Int32)), (.int bits)])) (fun t kt => ?_) ?_
    · refine XS.istore X10.here hx rfl (hb hby at_131) rfl (l' := #[.val (.int cnt), .val (.int bits), .val (.int (1 : Int32)), .val (.ref b2), .val (.int (f3 u7 u8)), .unset]) rfl ?_
      show Steps p.tables e below (T10.setTop (mkF m 133 #[.val (.int cnt), .val (.int bits), .val (.int (1 : Int32)), .val (.ref b2), .val (.int (f3 u7 u8)), .unset] [])) _
      refine XS.iloadN X10.here hx rfl (hb hby at_133) rfl ?_
      show Steps p.tables e below (T10.setTop (mkF m 134 #[.val (.int cnt), .val (.int bits), .val (.int (1 : Int32)), .val (.ref b2), .val (.int (f3 u7 u8)), .unset] [(.int bits)])) _
      refine XS.iconst X10.here hx rfl (hb hby at_134) ?_
      show Steps p.tables e below (T10.setTop (mkF m 135 #[.val (.int cnt), .val (.int bits), .val (.int (1 : Int32)), .val (.ref b2), .val (.int (f3 u7 u8)), .unset] [(.int (0 : Int32)), (.int bits)])) _
      refine XS.iloadN X10.here hx rfl (hb hby at_135) rfl ?_
      exact kt
    obtain ⟨_, _, ⟨T11, L11, k11, n11⟩, -, X11, ⟨Lc11, hQ11, l11, y11, z11⟩, st11⟩ := Jvm.LawKit.callS X10 hx (y := (⟨"com/example/gallant_courier/gallantcourier/core/LossRateWaitsPerDoublingPinLaw", "one", "(III)I"⟩ : MethodName)) hown (mvT hZ (hw _ (List.mem_of_getElem? (i := 28) rfl))) (mvT hZ (hw _ (List.mem_of_getElem? (i := 29) rfl))) (mvT hZ (hw _ (List.mem_of_getElem? (i := 11) rfl))) (mvT hZ (hw _ (List.mem_of_getElem? (i := 30) rfl))) (by decide) (backOf (W := 0) (rm5 l Z aa hw [] bits (0 : Int32) (1 : Int32) T5.heap n0 O5) hZ (hw _ (List.mem_of_getElem? (i := 30) rfl)) (hw _ (List.mem_of_getElem? (i := 11) rfl)) (by decide) (by decide)) (g := (mkF m 136 #[.val (.int cnt), .val (.int bits), .val (.int (1 : Int32)), .val (.ref b2), .val (.int (f3 u7 u8)), .unset] [(.int (1 : Int32)), (.int (0 : Int32)), (.int bits)])) rfl (by rw [hml]; rfl) (argsL := [(.int bits), (.int (0 : Int32)), (.int (1 : Int32))]) (rest := []) (lenOf pd_oIIIcI rfl) rfl (by show 2 * 0 + _ ≤ _; exact Nat.le_of_eq rfl) (hb hby at_136) (fun _ _ => ⟨rfl, e10, (by decide : 1 + 0 ≤ _), (by decide : 2 + 0 ≤ _)⟩)
    dsimp only [Pt.U, Pt.locs, Pt.cells, Pt.slots] at X11 l11 y11 z11 st11 hQ11
    subst l11 y11 z11
    obtain ⟨rfl, rfl, e11⟩ := hQ11
    try rw [List.append_nil] at X11
    refine Gl.up (B := T11.setTop (mkF m 139 #[.val (.int cnt), .val (.int bits), .val (.int (1 : Int32)), .val (.ref b2), .val (.int (f3 u7 u8)), .unset] [(.int (f5 bits (0 : Int32) (1 : Int32)))])) (fun t kt => st11 _ kt) ?_
    refine Gl.up (B := T11.setTop (mkF m 142 #[.val (.int cnt), .val (.int bits), .val (.int (1 : Int32)), .val (.ref b2), .val (.int (f3 u7 u8)), .unset] [(.int (1 : Int32)), (.int (1 : Int32)), (.int bits), (.int (f5 bits (0 : Int32) (1 : Int32)))])) (fun t kt => ?_) ?_
    · refine XS.iloadN X11.here hx rfl (hb hby at_139) rfl ?_
      show Steps p.tables e below (T11.setTop (mkF m 140 #[.val (.int cnt), .val (.int bits), .val (.int (1 : Int32)), .val (.ref b2), .val (.int (f3 u7 u8)), .unset] [(.int bits), (.int (f5 bits (0 : Int32) (1 : Int32)))])) _
      refine XS.iconst X11.here hx rfl (hb hby at_140) ?_
      show Steps p.tables e below (T11.setTop (mkF m 141 #[.val (.int cnt), .val (.int bits), .val (.int (1 : Int32)), .val (.ref b2), .val (.int (f3 u7 u8)), .unset] [(.int (1 : Int32)), (.int bits), (.int (f5 bits (0 : Int32) (1 : Int32)))])) _
      refine XS.iloadN X11.here hx rfl (hb hby at_141) rfl ?_
      exact kt
    obtain ⟨_, _, ⟨T12, L12, k12, n12⟩, -, X12, ⟨Lc12, hQ12, l12, y12, z12⟩, st12⟩ := Jvm.LawKit.callS X11 hx (y := (⟨"com/example/gallant_courier/gallantcourier/core/LossRateWaitsPerDoublingPinLaw", "one", "(III)I"⟩ : MethodName)) hown (mvT hZ (hw _ (List.mem_of_getElem? (i := 28) rfl))) (mvT hZ (hw _ (List.mem_of_getElem? (i := 29) rfl))) (mvT hZ (hw _ (List.mem_of_getElem? (i := 11) rfl))) (mvT hZ (hw _ (List.mem_of_getElem? (i := 30) rfl))) (by decide) (backOf (W := 1) (rm5 l Z aa hw [] bits (1 : Int32) (1 : Int32) T5.heap n0 O5) hZ (hw _ (List.mem_of_getElem? (i := 30) rfl)) (hw _ (List.mem_of_getElem? (i := 11) rfl)) (by decide) (by decide)) (g := (mkF m 142 #[.val (.int cnt), .val (.int bits), .val (.int (1 : Int32)), .val (.ref b2), .val (.int (f3 u7 u8)), .unset] [(.int (1 : Int32)), (.int (1 : Int32)), (.int bits), (.int (f5 bits (0 : Int32) (1 : Int32)))])) rfl (by rw [hml]; rfl) (argsL := [(.int bits), (.int (1 : Int32)), (.int (1 : Int32))]) (rest := [(.int (f5 bits (0 : Int32) (1 : Int32)))]) (lenOf pd_oIIIcI rfl) rfl (by show 2 * 0 + _ ≤ _; exact Nat.le_of_eq rfl) (hb hby at_142) (fun _ _ => ⟨rfl, e11, (by decide : 1 + 0 ≤ _), (by decide : 2 + 0 ≤ _)⟩)
    dsimp only [Pt.U, Pt.locs, Pt.cells, Pt.slots] at X12 l12 y12 z12 st12 hQ12
    subst l12 y12 z12
    obtain ⟨rfl, rfl, e12⟩ := hQ12
    try rw [List.append_nil] at X12
    refine Gl.up (B := T12.setTop (mkF m 145 #[.val (.int cnt), .val (.int bits), .val (.int (1 : Int32)), .val (.ref b2), .val (.int (f3 u7 u8)), .unset] [(.int (f5 bits (1 : Int32) (1 : Int32))), (.int (f5 bits (0 : Int32) (1 : Int32)))])) (fun t kt => st12 _ kt) ?_
    refine Gl.up (B := T12.setTop (mkF m 149 #[.val (.int cnt), .val (.int bits), .val (.int (1 : Int32)), .val (.ref b2), .val (.int (f3 u7 u8)), .unset] [(.int (1 : Int32)), (.int (2 : Int32)), (.int bits), (.int ((f5 bits (0 : Int32) (1 : Int32)) + (f5 bits (1 : Int32) (1 : Int32))))])) (fun t kt => ?_) ?_
    · refine XS.iadd X12.here hx rfl (hb hby at_145) rfl ?_
      show Steps p.tables e below (T12.setTop (mkF m 146 #[.val (.int cnt), .val (.int bits), .val (.int (1 : Int32)), .val (.ref b2), .val (.int (f3 u7 u8)), .unset] [(.int ((f5 bits (0 : Int32) (1 : Int32)) + (f5 bits (1 : Int32) (1 : Int32))))])) _
      refine XS.iloadN X12.here hx rfl (hb hby at_146) rfl ?_
      show Steps p.tables e below (T12.setTop (mkF m 147 #[.val (.int cnt), .val (.int bits), .val (.int (1 : Int32)), .val (.ref b2), .val (.int (f3 u7 u8)), .unset] [(.int bits), (.int ((f5 bits (0 : Int32) (1 : Int32)) + (f5 bits (1 : Int32) (1 : Int32))))])) _
      refine XS.iconst X12.here hx rfl (hb hby at_147) ?_
      show Steps p.tables e below (T12.setTop (mkF m 148 #[.val (.int cnt), .val (.int bits), .val (.int (1 : Int32)), .val (.ref b2), .val (.int (f3 u7 u8)), .unset] [(.int (2 : Int32)), (.int bits), (.int ((f5 bits (0 : Int32) (1 : Int32)) + (f5 bits (1 : Int32) (1 : Int32))))])) _
      refine XS.iloadN X12.here hx rfl (hb hby at_148) rfl ?_
      exact kt
    obtain ⟨_, _, ⟨T13, L13, k13, n13⟩, -, X13, ⟨Lc13, hQ13, l13, y13, z13⟩, st13⟩ := Jvm.LawKit.callS X12 hx (y := (⟨"com/example/gallant_courier/gallantcourier/core/LossRateWaitsPerDoublingPinLaw", "one", "(III)I"⟩ : MethodName)) hown (mvT hZ (hw _ (List.mem_of_getElem? (i := 28) rfl))) (mvT hZ (hw _ (List.mem_of_getElem? (i := 29) rfl))) (mvT hZ (hw _ (List.mem_of_getElem? (i := 11) rfl))) (mvT hZ (hw _ (List.mem_of_getElem? (i := 30) rfl))) (by decide) (backOf (W := 1) (rm5 l Z aa hw [] bits (2 : Int32) (1 : Int32) T5.heap n0 O5) hZ (hw _ (List.mem_of_getElem? (i := 30) rfl)) (hw _ (List.mem_of_getElem? (i := 11) rfl)) (by decide) (by decide)) (g := (mkF m 149 #[.val (.int cnt), .val (.int bits), .val (.int (1 : Int32)), .val (.ref b2), .val (.int (f3 u7 u8)), .unset] [(.int (1 : Int32)), (.int (2 : Int32)), (.int bits), (.int ((f5 bits (0 : Int32) (1 : Int32)) + (f5 bits (1 : Int32) (1 : Int32))))])) rfl (by rw [hml]; rfl) (argsL := [(.int bits), (.int (2 : Int32)), (.int (1 : Int32))]) (rest := [(.int ((f5 bits (0 : Int32) (1 : Int32)) + (f5 bits (1 : Int32) (1 : Int32))))]) (lenOf pd_oIIIcI rfl) rfl (by show 2 * 0 + _ ≤ _; exact Nat.le_of_eq rfl) (hb hby at_149) (fun _ _ => ⟨rfl, e12, (by decide : 1 + 0 ≤ _), (by decide : 2 + 0 ≤ _)⟩)
    dsimp only [Pt.U, Pt.locs, Pt.cells, Pt.slots] at X13 l13 y13 z13 st13 hQ13
    subst l13 y13 z13
    obtain ⟨rfl, rfl, e13⟩ := hQ13
    try rw [List.append_nil] at X13
    refine Gl.up (B := T13.setTop (mkF m 152 #[.val (.int cnt), .val (.int bits), .val (.int (1 : Int32)), .val (.ref b2), .val (.int (f3 u7 u8)), .unset] [(.int (f5 bits (2 : Int32) (1 : Int32))), (.int ((f5 bits (0 : Int32) (1 : Int32)) + (f5 bits (1 : Int32) (1 : Int32))))])) (fun t kt => st13 _ kt) ?_
    refine Gl.up (B := T13.setTop (mkF m 156 #[.val (.int cnt), .val (.int bits), .val (.int (1 : Int32)), .val (.ref b2), .val (.int (f3 u7 u8)), .unset] [(.int (1 : Int32)), (.int (3 : Int32)), (.int bits), (.int (((f5 bits (0 : Int32) (1 : Int32)) + (f5 bits (1 : Int32) (1 : Int32))) + (f5 bits (2 : Int32) (1 : Int32))))])) (fun t kt => ?_) ?_
    · refine XS.iadd X13.here hx rfl (hb hby at_152) rfl ?_
      show Steps p.tables e below (T13.setTop (mkF m 153 #[.val (.int cnt), .val (.int bits), .val (.int (1 : Int32)), .val (.ref b2), .val (.int (f3 u7 u8)), .unset] [(.int (((f5 bits (0 : Int32) (1 : Int32)) + (f5 bits (1 : Int32) (1 : Int32))) + (f5 bits (2 : Int32) (1 : Int32))))])) _
      refine XS.iloadN X13.here hx rfl (hb hby at_153) rfl ?_
      show Steps p.tables e below (T13.setTop (mkF m 154 #[.val (.int cnt), .val (.int bits), .val (.int (1 : Int32)), .val (.ref b2), .val (.int (f3 u7 u8)), .unset] [(.int bits), (.int (((f5 bits (0 : Int32) (1 : Int32)) + (f5 bits (1 : Int32) (1 : Int32))) + (f5 bits (2 : Int32) (1 : Int32))))])) _
      refine XS.iconst X13.here hx rfl (hb hby at_154) ?_
      show Steps p.tables e below (T13.setTop (mkF m 155 #[.val (.int cnt), .val (.int bits), .val (.int (1 : Int32)), .val (.ref b2), .val (.int (f3 u7 u8)), .unset] [(.int (3 : Int32)), (.int bits), (.int (((f5 bits (0 : Int32) (1 : Int32)) + (f5 bits (1 : Int32) (1 : Int32))) + (f5 bits (2 : Int32) (1 : Int32))))])) _
      refine XS.iloadN X13.here hx rfl (hb hby at_155) rfl ?_
      exact kt
    obtain ⟨_, _, ⟨T14, L14, k14, n14⟩, -, X14, ⟨Lc14, hQ14, l14, y14, z14⟩, st14⟩ := Jvm.LawKit.callS X13 hx (y := (⟨"com/example/gallant_courier/gallantcourier/core/LossRateWaitsPerDoublingPinLaw", "one", "(III)I"⟩ : MethodName)) hown (mvT hZ (hw _ (List.mem_of_getElem? (i := 28) rfl))) (mvT hZ (hw _ (List.mem_of_getElem? (i := 29) rfl))) (mvT hZ (hw _ (List.mem_of_getElem? (i := 11) rfl))) (mvT hZ (hw _ (List.mem_of_getElem? (i := 30) rfl))) (by decide) (backOf (W := 1) (rm5 l Z aa hw [] bits (3 : Int32) (1 : Int32) T5.heap n0 O5) hZ (hw _ (List.mem_of_getElem? (i := 30) rfl)) (hw _ (List.mem_of_getElem? (i := 11) rfl)) (by decide) (by decide)) (g := (mkF m 156 #[.val (.int cnt), .val (.int bits), .val (.int (1 : Int32)), .val (.ref b2), .val (.int (f3 u7 u8)), .unset] [(.int (1 : Int32)), (.int (3 : Int32)), (.int bits), (.int (((f5 bits (0 : Int32) (1 : Int32)) + (f5 bits (1 : Int32) (1 : Int32))) + (f5 bits (2 : Int32) (1 : Int32))))])) rfl (by rw [hml]; rfl) (argsL := [(.int bits), (.int (3 : Int32)), (.int (1 : Int32))]) (rest := [(.int (((f5 bits (0 : Int32) (1 : Int32)) + (f5 bits (1 : Int32) (1 : Int32))) + (f5 bits (2 : Int32) (1 : Int32))))]) (lenOf pd_oIIIcI rfl) rfl (by show 2 * 0 + _ ≤ _; exact Nat.le_of_eq rfl) (hb hby at_156) (fun _ _ => ⟨rfl, e13, (by decide : 1 + 0 ≤ _), (by decide : 2 + 0 ≤ _)⟩)
    dsimp only [Pt.U, Pt.locs, Pt.cells, Pt.slots] at X14 l14 y14 z14 st14 hQ14
    subst l14 y14 z14
    obtain ⟨rfl, rfl, e14⟩ := hQ14
    try rw [List.append_nil] at X14
    refine Gl.up (B := T14.setTop (mkF m 159 #[.val (.int cnt), .val (.int bits), .val (.int (1 : Int32)), .val (.ref b2), .val (.int (f3 u7 u8)), .unset] [(.int (f5 bits (3 : Int32) (1 : Int32))), (.int (((f5 bits (0 : Int32) (1 : Int32)) + (f5 bits (1 : Int32) (1 : Int32))) + (f5 bits (2 : Int32) (1 : Int32))))])) (fun t kt => st14 _ kt) ?_
    refine Gl.up (B := T14.setTop (mkF m 163 #[.val (.int cnt), .val (.int bits), .val (.int (1 : Int32)), .val (.ref b2), .val (.int (f3 u7 u8)), .unset] [(.int (1 : Int32)), (.int (4 : Int32)), (.int bits), (.int ((((f5 bits (0 : Int32) (1 : Int32)) + (f5 bits (1 : Int32) (1 : Int32))) + (f5 bits (2 : Int32) (1 : Int32))) + (f5 bits (3 : Int32) (1 : Int32))))])) (fun t kt => ?_) ?_
    · refine XS.iadd X14.here hx rfl (hb hby at_159) rfl ?_
      show Steps p.tables e below (T14.setTop (mkF m 160 #[.val (.int cnt), .val (.int bits), .val (.int (1 : Int32)), .val (.ref b2), .val (.int (f3 u7 u8)), .unset] [(.int ((((f5 bits (0 : Int32) (1 : Int32)) + (f5 bits (1 : Int32) (1 : Int32))) + (f5 bits (2 : Int32) (1 : Int32))) + (f5 bits (3 : Int32) (1 : Int32))))])) _
      refine XS.iloadN X14.here hx rfl (hb hby at_160) rfl ?_
      show Steps p.tables e below (T14.setTop (mkF m 161 #[.val (.int cnt), .val (.int bits), .val (.int (1 : Int32)), .val (.ref b2), .val (.int (f3 u7 u8)), .unset] [(.int bits), (.int ((((f5 bits (0 : Int32) (1 : Int32)) + (f5 bits (1 : Int32) (1 : Int32))) + (f5 bits (2 : Int32) (1 : Int32))) + (f5 bits (3 : Int32) (1 : Int32))))])) _
      refine XS.iconst X14.here hx rfl (hb hby at_161) ?_
      show Steps p.tables e below (T14.setTop (mkF m 162 #[.val (.int cnt), .val (.int bits), .val (.int (1 : Int32)), .val (.ref b2), .val (.int (f3 u7 u8)), .unset] [(.int (4 : Int32)), (.int bits), (.int ((((f5 bits (0 : Int32) (1 : Int32)) + (f5 bits (1 : Int32) (1 : Int32))) + (f5 bits (2 : Int32) (1 : Int32))) + (f5 bits (3 : Int32) (1 : Int32))))])) _
      refine XS.iloadN X14.here hx rfl (hb hby at_162) rfl ?_
      exact kt
    obtain ⟨_, _, ⟨T15, L15, k15, n15⟩, -, X15, ⟨Lc15, hQ15, l15, y15, z15⟩, st15⟩ := Jvm.LawKit.callS X14 hx (y := (⟨"com/example/gallant_courier/gallantcourier/core/LossRateWaitsPerDoublingPinLaw", "one", "(III)I"⟩ : MethodName)) hown (mvT hZ (hw _ (List.mem_of_getElem? (i := 28) rfl))) (mvT hZ (hw _ (List.mem_of_getElem? (i := 29) rfl))) (mvT hZ (hw _ (List.mem_of_getElem? (i := 11) rfl))) (mvT hZ (hw _ (List.mem_of_getElem? (i := 30) rfl))) (by decide) (backOf (W := 1) (rm5 l Z aa hw [] bits (4 : Int32) (1 : Int32) T5.heap n0 O5) hZ (hw _ (List.mem_of_getElem? (i := 30) rfl)) (hw _ (List.mem_of_getElem? (i := 11) rfl)) (by decide) (by decide)) (g := (mkF m 163 #[.val (.int cnt), .val (.int bits), .val (.int (1 : Int32)), .val (.ref b2), .val (.int (f3 u7 u8)), .unset] [(.int (1 : Int32)), (.int (4 : Int32)), (.int bits), (.int ((((f5 bits (0 : Int32) (1 : Int32)) + (f5 bits (1 : Int32) (1 : Int32))) + (f5 bits (2 : Int32) (1 : Int32))) + (f5 bits (3 : Int32) (1 : Int32))))])) rfl (by rw [hml]; rfl) (argsL := [(.int bits), (.int (4 : Int32)), (.int (1 : Int32))]) (rest := [(.int ((((f5 bits (0 : Int32) (1 : Int32)) + (f5 bits (1 : Int32) (1 : Int32))) + (f5 bits (2 : Int32) (1 : Int32))) + (f5 bits (3 : Int32) (1 : Int32))))]) (lenOf pd_oIIIcI rfl) rfl (by show 2 * 0 + _ ≤ _; exact Nat.le_of_eq rfl) (hb hby at_163) (fun _ _ => ⟨rfl, e14, (by decide : 1 + 0 ≤ _), (by decide : 2 + 0 ≤ _)⟩)
    dsimp only [Pt.U, Pt.locs, Pt.cells, Pt.slots] at X15 l15 y15 z15 st15 hQ15
    subst l15 y15 z15
    obtain ⟨rfl, rfl, e15⟩ := hQ15
    try rw [List.append_nil] at X15
    refine Gl.up (B := T15.setTop (mkF m 166 #[.val (.int cnt), .val (.int bits), .val (.int (1 : Int32)), .val (.ref b2), .val (.int (f3 u7 u8)), .unset] [(.int (f5 bits (4 : Int32) (1 : Int32))), (.int ((((f5 bits (0 : Int32) (1 : Int32)) + (f5 bits (1 : Int32) (1 : Int32))) + (f5 bits (2 : Int32) (1 : Int32))) + (f5 bits (3 : Int32) (1 : Int32))))])) (fun t kt => st15 _ kt) ?_
    refine Gl.up (B := T15.setTop (mkF m 170 #[.val (.int cnt), .val (.int bits), .val (.int (1 : Int32)), .val (.ref b2), .val (.int (f3 u7 u8)), .unset] [(.int (1 : Int32)), (.int (5 : Int32)), (.int bits), (.int (((((f5 bits (0 : Int32) (1 : Int32)) + (f5 bits (1 : Int32) (1 : Int32))) + (f5 bits (2 : Int32) (1 : Int32))) + (f5 bits (3 : Int32) (1 : Int32))) + (f5 bits (4 : Int32) (1 : Int32))))])) (fun t kt => ?_) ?_
    · refine XS.iadd X15.here hx rfl (hb hby at_166) rfl ?_
      show Steps p.tables e below (T15.setTop (mkF m 167 #[.val (.int cnt), .val (.int bits), .val (.int (1 : Int32)), .val (.ref b2), .val (.int (f3 u7 u8)), .unset] [(.int (((((f5 bits (0 : Int32) (1 : Int32)) + (f5 bits (1 : Int32) (1 : Int32))) + (f5 bits (2 : Int32) (1 : Int32))) + (f5 bits (3 : Int32) (1 : Int32))) + (f5 bits (4 : Int32) (1 : Int32))))])) _
      refine XS.iloadN X15.here hx rfl (hb hby at_167) rfl ?_
      show Steps p.tables e below (T15.setTop (mkF m 168 #[.val (.int cnt), .val (.int bits), .val (.int (1 : Int32)), .val (.ref b2), .val (.int (f3 u7 u8)), .unset] [(.int bits), (.int (((((f5 bits (0 : Int32) (1 : Int32)) + (f5 bits (1 : Int32) (1 : Int32))) + (f5 bits (2 : Int32) (1 : Int32))) + (f5 bits (3 : Int32) (1 : Int32))) + (f5 bits (4 : Int32) (1 : Int32))))])) _
      refine XS.iconst X15.here hx rfl (hb hby at_168) ?_
      show Steps p.tables e below (T15.setTop (mkF m 169 #[.val (.int cnt), .val (.int bits), .val (.int (1 : Int32)), .val (.ref b2), .val (.int (f3 u7 u8)), .unset] [(.int (5 : Int32)), (.int bits), (.int (((((f5 bits (0 : Int32) (1 : Int32)) + (f5 bits (1 : Int32) (1 : Int32))) + (f5 bits (2 : Int32) (1 : Int32))) + (f5 bits (3 : Int32) (1 : Int32))) + (f5 bits (4 : Int32) (1 : Int32))))])) _
      refine XS.iloadN X15.here hx rfl (hb hby at_169) rfl ?_
      exact kt
    obtain ⟨_, _, ⟨T16, L16, k16, n16⟩, -, X16, ⟨Lc16, hQ16, l16, y16, z16⟩, st16⟩ := Jvm.LawKit.callS X15 hx (y := (⟨"com/example/gallant_courier/gallantcourier/core/LossRateWaitsPerDoublingPinLaw", "one", "(III)I"⟩ : MethodName)) hown (mvT hZ (hw _ (List.mem_of_getElem? (i := 28) rfl))) (mvT hZ (hw _ (List.mem_of_getElem? (i := 29) rfl))) (mvT hZ (hw _ (List.mem_of_getElem? (i := 11) rfl))) (mvT hZ (hw _ (List.mem_of_getElem? (i := 30) rfl))) (by decide) (backOf (W := 1) (rm5 l Z aa hw [] bits (5 : Int32) (1 : Int32) T5.heap n0 O5) hZ (hw _ (List.mem_of_getElem? (i := 30) rfl)) (hw _ (List.mem_of_getElem? (i := 11) rfl)) (by decide) (by decide)) (g := (mkF m 170 #[.val (.int cnt), .val (.int bits), .val (.int (1 : Int32)), .val (.ref b2), .val (.int (f3 u7 u8)), .unset] [(.int (1 : Int32)), (.int (5 : Int32)), (.int bits), (.int (((((f5 bits (0 : Int32) (1 : Int32)) + (f5 bits (1 : Int32) (1 : Int32))) + (f5 bits (2 : Int32) (1 : Int32))) + (f5 bits (3 : Int32) (1 : Int32))) + (f5 bits (4 : Int32) (1 : Int32))))])) rfl (by rw [hml]; rfl) (argsL := [(.int bits), (.int (5 : Int32)), (.int (1 : Int32))]) (rest := [(.int (((((f5 bits (0 : Int32) (1 : Int32)) + (f5 bits (1 : Int32) (1 : Int32))) + (f5 bits (2 : Int32) (1 : Int32))) + (f5 bits (3 : Int32) (1 : Int32))) + (f5 bits (4 : Int32) (1 : Int32))))]) (lenOf pd_oIIIcI rfl) rfl (by show 2 * 0 + _ ≤ _; exact Nat.le_of_eq rfl) (hb hby at_170) (fun _ _ => ⟨rfl, e15, (by decide : 1 + 0 ≤ _), (by decide : 2 + 0 ≤ _)⟩)
    dsimp only [Pt.U, Pt.locs, Pt.cells, Pt.slots] at X16 l16 y16 z16 st16 hQ16
    subst l16 y16 z16
    obtain ⟨rfl, rfl, e16⟩ := hQ16
    try rw [List.append_nil] at X16
    refine Gl.up (B := T16.setTop (mkF m 173 #[.val (.int cnt), .val (.int bits), .val (.int (1 : Int32)), .val (.ref b2), .val (.int (f3 u7 u8)), .unset] [(.int (f5 bits (5 : Int32) (1 : Int32))), (.int (((((f5 bits (0 : Int32) (1 : Int32)) + (f5 bits (1 : Int32) (1 : Int32))) + (f5 bits (2 : Int32) (1 : Int32))) + (f5 bits (3 : Int32) (1 : Int32))) + (f5 bits (4 : Int32) (1 : Int32))))])) (fun t kt => st16 _ kt) ?_
    refine Gl.up (B := T16.setTop (mkF m 178 #[.val (.int cnt), .val (.int bits), .val (.int (1 : Int32)), .val (.ref b2), .val (.int (f3 u7 u8)), .unset] [(.int (1 : Int32)), (.int (6 : Int32)), (.int bits), (.int ((((((f5 bits (0 : Int32) (1 : Int32)) + (f5 bits (1 : Int32) (1 : Int32))) + (f5 bits (2 : Int32) (1 : Int32))) + (f5 bits (3 : Int32) (1 : Int32))) + (f5 bits (4 : Int32) (1 : Int32))) + (f5 bits (5 : Int32) (1 : Int32))))])) (fun t kt => ?_) ?_
    · refine XS.iadd X16.here hx rfl (hb hby at_173) rfl ?_
      show Steps p.tables e below (T16.setTop (mkF m 174 #[.val (.int cnt), .val (.int bits), .val (.int (1 : Int32)), .val (.ref b2), .val (.int (f3 u7 u8)), .unset] [(.int ((((((f5 bits (0 : Int32) (1 : Int32)) + (f5 bits (1 : Int32) (1 : Int32))) + (f5 bits (2 : Int32) (1 : Int32))) + (f5 bits (3 : Int32) (1 : Int32))) + (f5 bits (4 : Int32) (1 : Int32))) + (f5 bits (5 : Int32) (1 : Int32))))])) _
      refine XS.iloadN X16.here hx rfl (hb hby at_174) rfl ?_
      show Steps p.tables e below (T16.setTop (mkF m 175 #[.val (.int cnt), .val (.int bits), .val (.int (1 : Int32)), .val (.ref b2), .val (.int (f3 u7 u8)), .unset] [(.int bits), (.int ((((((f5 bits (0 : Int32) (1 : Int32)) + (f5 bits (1 : Int32) (1 : Int32))) + (f5 bits (2 : Int32) (1 : Int32))) + (f5 bits (3 : Int32) (1 : Int32))) + (f5 bits (4 : Int32) (1 : Int32))) + (f5 bits (5 : Int32) (1 : Int32))))])) _
      refine XS.bipush X16.here hx rfl (hb hby at_175) ?_
      show Steps p.tables e below (T16.setTop (mkF m 177 #[.val (.int cnt), .val (.int bits), .val (.int (1 : Int32)), .val (.ref b2), .val (.int (f3 u7 u8)), .unset] [(.int (6 : Int32)), (.int bits), (.int ((((((f5 bits (0 : Int32) (1 : Int32)) + (f5 bits (1 : Int32) (1 : Int32))) + (f5 bits (2 : Int32) (1 : Int32))) + (f5 bits (3 : Int32) (1 : Int32))) + (f5 bits (4 : Int32) (1 : Int32))) + (f5 bits (5 : Int32) (1 : Int32))))])) _
      refine XS.iloadN X16.here hx rfl (hb hby at_177) rfl ?_
      exact kt
    obtain ⟨_, _, ⟨T17, L17, k17, n17⟩, -, X17, ⟨Lc17, hQ17, l17, y17, z17⟩, st17⟩ := Jvm.LawKit.callS X16 hx (y := (⟨"com/example/gallant_courier/gallantcourier/core/LossRateWaitsPerDoublingPinLaw", "one", "(III)I"⟩ : MethodName)) hown (mvT hZ (hw _ (List.mem_of_getElem? (i := 28) rfl))) (mvT hZ (hw _ (List.mem_of_getElem? (i := 29) rfl))) (mvT hZ (hw _ (List.mem_of_getElem? (i := 11) rfl))) (mvT hZ (hw _ (List.mem_of_getElem? (i := 30) rfl))) (by decide) (backOf (W := 1) (rm5 l Z aa hw [] bits (6 : Int32) (1 : Int32) T5.heap n0 O5) hZ (hw _ (List.mem_of_getElem? (i := 30) rfl)) (hw _ (List.mem_of_getElem? (i := 11) rfl)) (by decide) (by decide)) (g := (mkF m 178 #[.val (.int cnt), .val (.int bits), .val (.int (1 : Int32)), .val (.ref b2), .val (.int (f3 u7 u8)), .unset] [(.int (1 : Int32)), (.int (6 : Int32)), (.int bits), (.int ((((((f5 bits (0 : Int32) (1 : Int32)) + (f5 bits (1 : Int32) (1 : Int32))) + (f5 bits (2 : Int32) (1 : Int32))) + (f5 bits (3 : Int32) (1 : Int32))) + (f5 bits (4 : Int32) (1 : Int32))) + (f5 bits (5 : Int32) (1 : Int32))))])) rfl (by rw [hml]; rfl) (argsL := [(.int bits), (.int (6 : Int32)), (.int (1 : Int32))]) (rest := [(.int ((((((f5 bits (0 : Int32) (1 : Int32)) + (f5 bits (1 : Int32) (1 : Int32))) + (f5 bits (2 : Int32) (1 : Int32))) + (f5 bits (3 : Int32) (1 : Int32))) + (f5 bits (4 : Int32) (1 : Int32))) + (f5 bits (5 : Int32) (1 : Int32))))]) (lenOf pd_oIIIcI rfl) rfl (by show 2 * 0 + _ ≤ _; exact Nat.le_of_eq rfl) (hb hby at_178) (fun _ _ => ⟨rfl, e16, (by decide : 1 + 0 ≤ _), (by decide : 2 + 0 ≤ _)⟩)
    dsimp only [Pt.U, Pt.locs, Pt.cells, Pt.slots] at X17 l17 y17 z17 st17 hQ17
    subst l17 y17 z17
    obtain ⟨rfl, rfl, e17⟩ := hQ17
    try rw [List.append_nil] at X17
    refine Gl.up (B := T17.setTop (mkF m 181 #[.val (.int cnt), .val (.int bits), .val (.int (1 : Int32)), .val (.ref b2), .val (.int (f3 u7 u8)), .unset] [(.int (f5 bits (6 : Int32) (1 : Int32))), (.int ((((((f5 bits (0 : Int32) (1 : Int32)) + (f5 bits (1 : Int32) (1 : Int32))) + (f5 bits (2 : Int32) (1 : Int32))) + (f5 bits (3 : Int32) (1 : Int32))) + (f5 bits (4 : Int32) (1 : Int32))) + (f5 bits (5 : Int32) (1 : Int32))))])) (fun t kt => st17 _ kt) ?_
    refine Gl.up (B := T17.setTop (mkF m 186 #[.val (.int cnt), .val (.int bits), .val (.int (1 : Int32)), .val (.ref b2), .val (.int (f3 u7 u8)), .unset] [(.int (1 : Int32)), (.int (7 : Int32)), (.int bits), (.int (((((((f5 bits (0 : Int32) (1 : Int32)) + (f5 bits (1 : Int32) (1 : Int32))) + (f5 bits (2 : Int32) (1 : Int32))) + (f5 bits (3 : Int32) (1 : Int32))) + (f5 bits (4 : Int32) (1 : Int32))) + (f5 bits (5 : Int32) (1 : Int32))) + (f5 bits (6 : Int32) (1 : Int32))))])) (fun t kt => ?_) ?_
    · refine XS.iadd X17.here hx rfl (hb hby at_181) rfl ?_
      show Steps p.tables e below (T17.setTop (mkF m 182 #[.val (.int cnt), .val (.int bits), .val (.int (1 : Int32)), .val (.ref b2), .val (.int (f3 u7 u8)), .unset] [(.int (((((((f5 bits (0 : Int32) (1 : Int32)) + (f5 bits (1 : Int32) (1 : Int32))) + (f5 bits (2 : Int32) (1 : Int32))) + (f5 bits (3 : Int32) (1 : Int32))) + (f5 bits (4 : Int32) (1 : Int32))) + (f5 bits (5 : Int32) (1 : Int32))) + (f5 bits (6 : Int32) (1 : Int32))))])) _
      refine XS.iloadN X17.here hx rfl (hb hby at_182) rfl ?_
      show Steps p.tables e below (T17.setTop (mkF m 183 #[.val (.int cnt), .val (.int bits), .val (.int (1 : Int32)), .val (.ref b2), .val (.int (f3 u7 u8)), .unset] [(.int bits), (.int (((((((f5 bits (0 : Int32) (1 : Int32)) + (f5 bits (1 : Int32) (1 : Int32))) + (f5 bits (2 : Int32) (1 : Int32))) + (f5 bits (3 : Int32) (1 : Int32))) + (f5 bits (4 : Int32) (1 : Int32))) + (f5 bits (5 : Int32) (1 : Int32))) + (f5 bits (6 : Int32) (1 : Int32))))])) _
      refine XS.bipush X17.here hx rfl (hb hby at_183) ?_
      show Steps p.tables e below (T17.setTop (mkF m 185 #[.val (.int cnt), .val (.int bits), .val (.int (1 : Int32)), .val (.ref b2), .val (.int (f3 u7 u8)), .unset] [(.int (7 : Int32)), (.int bits), (.int (((((((f5 bits (0 : Int32) (1 : Int32)) + (f5 bits (1 : Int32) (1 : Int32))) + (f5 bits (2 : Int32) (1 : Int32))) + (f5 bits (3 : Int32) (1 : Int32))) + (f5 bits (4 : Int32) (1 : Int32))) + (f5 bits (5 : Int32) (1 : Int32))) + (f5 bits (6 : Int32) (1 : Int32))))])) _
      refine XS.iloadN X17.here hx rfl (hb hby at_185) rfl ?_
      exact kt
    obtain ⟨_, _, ⟨T18, L18, k18, n18⟩, -, X18, ⟨Lc18, hQ18, l18, y18, z18⟩, st18⟩ := Jvm.LawKit.callS X17 hx (y := (⟨"com/example/gallant_courier/gallantcourier/core/LossRateWaitsPerDoublingPinLaw", "one", "(III)I"⟩ : MethodName)) hown (mvT hZ (hw _ (List.mem_of_getElem? (i := 28) rfl))) (mvT hZ (hw _ (List.mem_of_getElem? (i := 29) rfl))) (mvT hZ (hw _ (List.mem_of_getElem? (i := 11) rfl))) (mvT hZ (hw _ (List.mem_of_getElem? (i := 30) rfl))) (by decide) (backOf (W := 1) (rm5 l Z aa hw [] bits (7 : Int32) (1 : Int32) T5.heap n0 O5) hZ (hw _ (List.mem_of_getElem? (i := 30) rfl)) (hw _ (List.mem_of_getElem? (i := 11) rfl)) (by decide) (by decide)) (g := (mkF m 186 #[.val (.int cnt), .val (.int bits), .val (.int (1 : Int32)), .val (.ref b2), .val (.int (f3 u7 u8)), .unset] [(.int (1 : Int32)), (.int (7 : Int32)), (.int bits), (.int (((((((f5 bits (0 : Int32) (1 : Int32)) + (f5 bits (1 : Int32) (1 : Int32))) + (f5 bits (2 : Int32) (1 : Int32))) + (f5 bits (3 : Int32) (1 : Int32))) + (f5 bits (4 : Int32) (1 : Int32))) + (f5 bits (5 : Int32) (1 : Int32))) + (f5 bits (6 : Int32) (1 : Int32))))])) rfl (by rw [hml]; rfl) (argsL := [(.int bits), (.int (7 : Int32)), (.int (1 : Int32))]) (rest := [(.int (((((((f5 bits (0 : Int32) (1 : Int32)) + (f5 bits (1 : Int32) (1 : Int32))) + (f5 bits (2 : Int32) (1 : Int32))) + (f5 bits (3 : Int32) (1 : Int32))) + (f5 bits (4 : Int32) (1 : Int32))) + (f5 bits (5 : Int32) (1 : Int32))) + (f5 bits (6 : Int32) (1 : Int32))))]) (lenOf pd_oIIIcI rfl) rfl (by show 2 * 0 + _ ≤ _; exact Nat.le_of_eq rfl) (hb hby at_186) (fun _ _ => ⟨rfl, e17, (by decide : 1 + 0 ≤ _), (by decide : 2 + 0 ≤ _)⟩)
    dsimp only [Pt.U, Pt.locs, Pt.cells, Pt.slots] at X18 l18 y18 z18 st18 hQ18
    subst l18 y18 z18
    obtain ⟨rfl, rfl, e18⟩ := hQ18
    try rw [List.append_nil] at X18
    refine Gl.up (B := T18.setTop (mkF m 189 #[.val (.int cnt), .val (.int bits), .val (.int (1 : Int32)), .val (.ref b2), .val (.int (f3 u7 u8)), .unset] [(.int (f5 bits (7 : Int32) (1 : Int32))), (.int (((((((f5 bits (0 : Int32) (1 : Int32)) + (f5 bits (1 : Int32) (1 : Int32))) + (f5 bits (2 : Int32) (1 : Int32))) + (f5 bits (3 : Int32) (1 : Int32))) + (f5 bits (4 : Int32) (1 : Int32))) + (f5 bits (5 : Int32) (1 : Int32))) + (f5 bits (6 : Int32) (1 : Int32))))])) (fun t kt => st18 _ kt) ?_
    refine Gl.up (B := T18.setTop (mkF m 190 #[.val (.int cnt), .val (.int bits), .val (.int (1 : Int32)), .val (.ref b2), .val (.int (f3 u7 u8)), .unset] [(.int ((((((((f5 bits (0 : Int32) (1 : Int32)) + (f5 bits (1 : Int32) (1 : Int32))) + (f5 bits (2 : Int32) (1 : Int32))) + (f5 bits (3 : Int32) (1 : Int32))) + (f5 bits (4 : Int32) (1 : Int32))) + (f5 bits (5 : Int32) (1 : Int32))) + (f5 bits (6 : Int32) (1 : Int32))) + (f5 bits (7 : Int32) (1 : Int32))))])) (fun t kt => ?_) ?_
    · refine XS.iadd X18.here hx rfl (hb hby at_189) rfl ?_
      exact kt
    obtain ⟨u19, hu19⟩ : ∃ q : Int32, q = ((((((((f5 bits (0 : Int32) (1 : Int32)) + (f5 bits (1 : Int32) (1 : Int32))) + (f5 bits (2 : Int32) (1 : Int32))) + (f5 bits (3 : Int32) (1 : Int32))) + (f5 bits (4 : Int32) (1 : Int32))) + (f5 bits (5 : Int32) (1 : Int32))) + (f5 bits (6 : Int32) (1 : Int32))) + (f5 bits (7 : Int32) (1 : Int32))) := ⟨_, rfl⟩
    rw [← hu19]
    refine Gl.up (B := T18.setTop (mkF m 197 #[.val (.int cnt), .val (.int bits), .val (.int (1 : Int32)), .val (.ref b2), .val (.int (f3 u7 u8)), .val (.int u19)] [(.int (1 : Int32)), (.int u19), (.int (f3 u7 u8))])) (fun t kt => ?_) ?_
    · refine XS.istore X18.here hx rfl (hb hby at_190) rfl (l' := #[.val (.int cnt), .val (.int bits), .val (.int (1 : Int32)), .val (.ref b2), .val (.int (f3 u7 u8)), .val (.int u19)]) rfl ?_
      show Steps p.tables e below (T18.setTop (mkF m 192 #[.val (.int cnt), .val (.int bits), .val (.int (1 : Int32)), .val (.ref b2), .val (.int (f3 u7 u8)), .val (.int u19)] [])) _
      refine XS.iload X18.here hx rfl (hb hby at_192) rfl ?_
      show Steps p.tables e below (T18.setTop (mkF m 194 #[.val (.int cnt), .val (.int bits), .val (.int (1 : Int32)), .val (.ref b2), .val (.int (f3 u7 u8)), .val (.int u19)] [(.int (f3 u7 u8))])) _
      refine XS.iload X18.here hx rfl (hb hby at_194) rfl ?_
      show Steps p.tables e below (T18.setTop (mkF m 196 #[.val (.int cnt), .val (.int bits), .val (.int (1 : Int32)), .val (.ref b2), .val (.int (f3 u7 u8)), .val (.int u19)] [(.int u19), (.int (f3 u7 u8))])) _
      refine XS.iloadN X18.here hx rfl (hb hby at_196) rfl ?_
      exact kt
    obtain ⟨_, _, ⟨T20, L20, k20, n20⟩, -, X20, ⟨Lc20, hQ20, l20, y20, z20⟩, st20⟩ := Jvm.LawKit.callS X18 hx (y := (⟨"com/example/gallant_courier/gallantcourier/core/LossRateWaitsPerDoublingPinLaw", "expected", "(II)I"⟩ : MethodName)) hown (mvT hZ (hw _ (List.mem_of_getElem? (i := 31) rfl))) (mvT hZ (hw _ (List.mem_of_getElem? (i := 32) rfl))) (mvT hZ (hw _ (List.mem_of_getElem? (i := 11) rfl))) (mvT hZ (hw _ (List.mem_of_getElem? (i := 33) rfl))) (by decide) (backOf (W := 1) (rm6 l Z aa hw [] u19 (1 : Int32) T5.heap n0 O5) hZ (hw _ (List.mem_of_getElem? (i := 33) rfl)) (hw _ (List.mem_of_getElem? (i := 11) rfl)) (by decide) (by decide)) (g := (mkF m 197 #[.val (.int cnt), .val (.int bits), .val (.int (1 : Int32)), .val (.ref b2), .val (.int (f3 u7 u8)), .val (.int u19)] [(.int (1 : Int32)), (.int u19), (.int (f3 u7 u8))])) rfl (by rw [hml]; rfl) (argsL := [(.int u19), (.int (1 : Int32))]) (rest := [(.int (f3 u7 u8))]) (lenOf pd_oIIcI rfl) rfl (by show 2 * 0 + _ ≤ _; exact Nat.le_of_eq rfl) (hb hby at_197) (fun _ _ => ⟨rfl, e18, (by decide : 1 + 0 ≤ _), (by decide : 2 + 0 ≤ _)⟩)
    dsimp only [Pt.U, Pt.locs, Pt.cells, Pt.slots] at X20 l20 y20 z20 st20 hQ20
    subst l20 y20 z20
    obtain ⟨rfl, rfl, e20⟩ := hQ20
    try rw [List.append_nil] at X20
    refine Gl.up (B := T20.setTop (mkF m 200 #[.val (.int cnt), .val (.int bits), .val (.int (1 : Int32)), .val (.ref b2), .val (.int (f3 u7 u8)), .val (.int u19)] [(.int (f6 u19 (1 : Int32))), (.int (f3 u7 u8))])) (fun t kt => st20 _ kt) ?_
    have hm21 : u19 = own_sum [(f4 bits (0 : Int32))] := by
      rw [hu19, own_bit _ (0 : Int32) _ (by decide), own_nobit _ (1 : Int32) _ (by decide), own_nobit _ (2 : Int32) _ (by decide), own_nobit _ (3 : Int32) _ (by decide), own_nobit _ (4 : Int32) _ (by decide), own_nobit _ (5 : Int32) _ (by decide), own_nobit _ (6 : Int32) _ (by decide), own_nobit _ (7 : Int32) _ (by decide)]
      simp only [own_sum, Int32.add_zero, Int32.zero_add]
    refine Gl.up (B := T20.setTop (mkF m 208 #[.val (.int cnt), .val (.int bits), .val (.int (1 : Int32)), .val (.ref b2), .val (.int (f3 u7 u8)), .val (.int u19)] [(.int (1 : Int32))])) (fun t kt => ?_) ?_
    · refine XS.icmpNo X20.here hx rfl (hb hby at_200) rfl (teq (by rw [hsh9, hsa9, hm21]; exact own_fin1 _ (own_cons (f4_b bits (0 : Int32)) own_nil))).2 ?_
      show Steps p.tables e below (T20.setTop (mkF m 203 #[.val (.int cnt), .val (.int bits), .val (.int (1 : Int32)), .val (.ref b2), .val (.int (f3 u7 u8)), .val (.int u19)] [])) _
      refine XS.iconst X20.here hx rfl (hb hby at_203) ?_
      show Steps p.tables e below (T20.setTop (mkF m 204 #[.val (.int cnt), .val (.int bits), .val (.int (1 : Int32)), .val (.ref b2), .val (.int (f3 u7 u8)), .val (.int u19)] [(.int (1 : Int32))])) _
      refine XS.goto X20.here hx rfl (pc0 := 204) (pc' := 208) rfl (hb hby at_204) (by decide) (by decide) ?_
      exact kt
    refine Gl.retN X20 hx hlk (t := .boolean) Bd.returns (by simp) (hb hby at_208) (w := (1 : Int32)) rfl ?_ (by decide) (by decide)
    exact ⟨rfl, N5⟩
  · rw [hk]
    obtain ⟨T22, h22, X22, e22, E22, A22, D22, -, st22⟩ := newO X0 hx hZ hown (hw _ (List.mem_of_getElem? (i := 0) rfl)) (hw _ (List.mem_of_getElem? (i := 1) rfl)) (hw _ (List.mem_of_getElem? (i := 2) rfl)) e0 (g := (mkF m 7 #[.val (.int cnt), .val (.int bits), .val (.int (2 : Int32)), .unset, .unset, .unset] [])) rfl (hb hby at_7) (by decide) (by decide)
    obtain ⟨b22, gq22⟩ : ∃ z, z = h0.size := ⟨_, rfl⟩
    rw [← gq22] at A22 D22 st22
    have g_b22 : n0 ≤ b22 := Nat.le_trans (old_le O0) (Nat.le_of_eq gq22.symm)
    have O22 := O0.ext E22
    have F_b22_samples_22 : Fld Z h22 b22 "com/example/gallant_courier/gallantcourier/core/LossRate" "samples" "I" (.int (0 : Int32)) := D22 (Or.inl (hw _ (List.mem_of_getElem? (i := 19) rfl))) (ty := .int) (by decide)
    have F_b22_share_22 : Fld Z h22 b22 "com/example/gallant_courier/gallantcourier/core/LossRate" "share" "D" (.double (0 : UInt64)) := D22 (Or.inl (hw _ (List.mem_of_getElem? (i := 21) rfl))) (ty := .double) (by decide)
    refine Gl.up (B := T22.setTop (mkF m 10 #[.val (.int cnt), .val (.int bits), .val (.int (2 : Int32)), .unset, .unset, .unset] [(.ref b22)])) (fun t kt => st22 _ kt) ?_
    refine Gl.up (B := T22.setTop (mkF m 11 #[.val (.int cnt), .val (.int bits), .val (.int (2 : Int32)), .unset, .unset, .unset] [(.ref b22), (.ref b22)])) (fun t kt => ?_) ?_
    · refine XS.dup X22.here hx rfl (hb hby at_10) rfl rfl ?_
      exact kt
    obtain ⟨_, _, ⟨T23, L23, k23, n23⟩, -, X23, ⟨Lc23, hQ23, l23, y23, z23⟩, st23⟩ := X22.specialBack hx (y := (⟨"com/example/gallant_courier/gallantcourier/core/LossRate", "<init>", "()V"⟩ : MethodName)) rfl hown (mvT hZ (hw _ (List.mem_of_getElem? (i := 3) rfl))) (mvT hZ (hw _ (List.mem_of_getElem? (i := 4) rfl))) (mvT hZ (hw _ (List.mem_of_getElem? (i := 5) rfl))) (by decide) (backOf (W := 1) (rm1 l Z aa hw [] b22 (0 : UInt64) (0 : Int32) h22 n0 O22 A22 F_b22_share_22 F_b22_samples_22 g_b22) hZ (hw _ (List.mem_of_getElem? (i := 5) rfl)) (hw _ (List.mem_of_getElem? (i := 2) rfl)) (by decide) (by decide)) (g := (mkF m 11 #[.val (.int cnt), .val (.int bits), .val (.int (2 : Int32)), .unset, .unset, .unset] [(.ref b22), (.ref b22)])) rfl (by rw [hml]; rfl) (Steps.refl _) (a := b22) (argsL := []) (rest := [(.ref b22)]) (lenOf pd_ocV rfl) rfl (by show 2 * 0 + _ ≤ _; exact Nat.le_of_eq rfl) (hb hby at_11) (fun _ _ => ⟨rfl, e22, (by decide : 1 + 0 ≤ _), (by decide : 2 + 0 ≤ _)⟩)
    dsimp only [Pt.U, Pt.locs, Pt.cells, Pt.slots] at X23 l23 y23 z23 st23 hQ23
    subst l23 y23 z23
    obtain ⟨rfl, M23, K23, F_b22_share_23, F_b22_samples_23⟩ := hQ23
    have N23 := Fr.app N0 M23
    have O23 := O22.keep K23 (allS g_b22 all0)
    have E_b22_23 := A22.keep K23
    refine Gl.up (B := T23.setTop (mkF m 14 #[.val (.int cnt), .val (.int bits), .val (.int (2 : Int32)), .unset, .unset, .unset] [(.ref b22)])) (fun t kt => st23.trans kt) ?_
    refine Gl.up (B := T23.setTop (mkF m 18 #[.val (.int cnt), .val (.int bits), .val (.int (2 : Int32)), .val (.ref b22), .unset, .unset] [(.int (0 : Int32)), (.int bits), (.ref b22)])) (fun t kt => ?_) ?_
    · refine XS.astoreN X23.here hx rfl (hb hby at_14) rfl rfl (l' := #[.val (.int cnt), .val (.int bits), .val (.int (2 : Int32)), .val (.ref b22), .unset, .unset]) rfl ?_
      show Steps p.tables e below (T23.setTop (mkF m 15 #[.val (.int cnt), .val (.int bits), .val (.int (2 : Int32)), .val (.ref b22), .unset, .unset] [])) _
      refine XS.aloadN X23.here hx rfl (hb hby at_15) rfl rfl ?_
      show Steps p.tables e below (T23.setTop (mkF m 16 #[.val (.int cnt), .val (.int bits), .val (.int (2 : Int32)), .val (.ref b22), .unset, .unset] [(.ref b22)])) _
      refine XS.iloadN X23.here hx rfl (hb hby at_16) rfl ?_
      show Steps p.tables e below (T23.setTop (mkF m 17 #[.val (.int cnt), .val (.int bits), .val (.int (2 : Int32)), .val (.ref b22), .unset, .unset] [(.int bits), (.ref b22)])) _
      refine XS.iconst X23.here hx rfl (hb hby at_17) ?_
      exact kt
    obtain ⟨_, _, ⟨T24, L24, k24, n24⟩, -, X24, ⟨Lc24, hQ24, l24, y24, z24⟩, st24⟩ := Jvm.LawKit.callS X23 hx (y := (⟨"com/example/gallant_courier/gallantcourier/core/LossRateWaitsPerDoublingPinLaw", "bit", "(II)Z"⟩ : MethodName)) hown (mvT hZ (hw _ (List.mem_of_getElem? (i := 9) rfl))) (mvT hZ (hw _ (List.mem_of_getElem? (i := 10) rfl))) (mvT hZ (hw _ (List.mem_of_getElem? (i := 11) rfl))) (mvT hZ (hw _ (List.mem_of_getElem? (i := 12) rfl))) (by decide) (backOf (W := 1) (rm4 l Z aa hw [] bits (0 : Int32) T23.heap n0 O23) hZ (hw _ (List.mem_of_getElem? (i := 12) rfl)) (hw _ (List.mem_of_getElem? (i := 11) rfl)) (by decide) (by decide)) (g := (mkF m 18 #[.val (.int cnt), .val (.int bits), .val (.int (2 : Int32)), .val (.ref b22), .unset, .unset] [(.int (0 : Int32)), (.int bits), (.ref b22)])) rfl (by rw [hml]; rfl) (argsL := [(.int bits), (.int (0 : Int32))]) (rest := [(.ref b22)]) (lenOf pd_oIIcZ rfl) rfl (by show 2 * 0 + _ ≤ _; exact Nat.le_of_eq rfl) (hb hby at_18) (fun _ _ => ⟨rfl, rfl, (by decide : 1 + 0 ≤ _), (by decide : 2 + 0 ≤ _)⟩)
    dsimp only [Pt.U, Pt.locs, Pt.cells, Pt.slots] at X24 l24 y24 z24 st24 hQ24
    subst l24 y24 z24
    obtain ⟨rfl, rfl, e24⟩ := hQ24
    try rw [List.append_nil] at X24
    refine Gl.up (B := T24.setTop (mkF m 21 #[.val (.int cnt), .val (.int bits), .val (.int (2 : Int32)), .val (.ref b22), .unset, .unset] [(.int (f4 bits (0 : Int32))), (.ref b22)])) (fun t kt => st24 _ kt) ?_
    have hp26 : own_pres (f4 bits (0 : Int32)) (0 : UInt64) (0 : Int32) := own_pre0 _ own_nil _ (own_b01 (f4_b bits (0 : Int32)))
    obtain ⟨cq25, kq25, q25a, q25b, q25c⟩ := isOf hZ e24 E_b22_23
    obtain ⟨_, _, ⟨T25, L25, k25, n25⟩, -, X25, ⟨Lc25, hQ25, l25, y25, z25⟩, st25⟩ := X24.virtualBack hx (y := (⟨"com/example/gallant_courier/gallantcourier/core/LossRate", "sample", "(Z)V"⟩ : MethodName)) (z := (⟨"com/example/gallant_courier/gallantcourier/core/LossRate", "sample", "(Z)V"⟩ : MethodName)) hown (mvT hZ (hw _ (List.mem_of_getElem? (i := 13) rfl))) (mvT hZ (hw _ (List.mem_of_getElem? (i := 14) rfl))) (notFace_of_selects (args := #[]) (mvT hZ (hw _ (List.mem_of_getElem? (i := 16) rfl)))) (mvT hZ (hw _ (List.mem_of_getElem? (i := 16) rfl))) (mvT hZ (hw _ (List.mem_of_getElem? (i := 15) rfl))) (by decide) (backOf (W := 0) (rm2 l Z aa hw [] b22 (f4 bits (0 : Int32)) (0 : UInt64) (0 : Int32) T23.heap n0 O23 E_b22_23 F_b22_share_23 F_b22_samples_23 g_b22 hp26.1 hp26.2.1 hp26.2.2) hZ (hw _ (List.mem_of_getElem? (i := 17) rfl)) (hw _ (List.mem_of_getElem? (i := 2) rfl)) (by decide) (by decide)) q25a q25c (g := (mkF m 21 #[.val (.int cnt), .val (.int bits), .val (.int (2 : Int32)), .val (.ref b22), .unset, .unset] [(.int (f4 bits (0 : Int32))), (.ref b22)])) rfl (by rw [hml]; rfl) (Steps.refl _) (argsL := [(.int (f4 bits (0 : Int32)))]) (rest := []) (lenOf pd_oZcV rfl) rfl (by show 2 * 0 + _ ≤ _; exact Nat.le_of_eq rfl) (hb hby at_21) (fun _ _ => ⟨rfl, e24, (by decide : 1 + 0 ≤ _), (by decide : 2 + 0 ≤ _)⟩)
    dsimp only [Pt.U, Pt.locs, Pt.cells, Pt.slots] at X25 l25 y25 z25 st25 hQ25
    subst l25 y25 z25
    obtain ⟨rfl, M25, K25, F_b22_share_25, F_b22_samples_25⟩ := hQ25
    have N25 := Fr.app N23 M25
    have O25 := O23.keep K25 (allS g_b22 all0)
    have E_b22_25 := E_b22_23.keep K25
    obtain ⟨u27, hu27⟩ : ∃ q : UInt64, q = (f2_share (f4 bits (0 : Int32)) (0 : UInt64) (0 : Int32)) := ⟨_, rfl⟩
    rw [← hu27] at F_b22_share_25
    obtain ⟨u28, hu28⟩ : ∃ q : Int32, q = (f2_samples (f4 bits (0 : Int32)) (0 : UInt64) (0 : Int32)) := ⟨_, rfl⟩
    rw [← hu28] at F_b22_samples_25
    refine Gl.up (B := T25.setTop (mkF m 24 #[.val (.int cnt), .val (.int bits), .val (.int (2 : Int32)), .val (.ref b22), .unset, .unset] [])) (fun t kt => st25.trans kt) ?_
    have hsh29 : u27 = (own_st [(f4 bits (0 : Int32))]).1 := by rw [hu27]; first | rfl | (simp only [own_st])
    have hsa29 : u28 = (own_st [(f4 bits (0 : Int32))]).2 := by rw [hu28]; first | rfl | (simp only [own_st])
    refine Gl.up (B := T25.setTop (mkF m 32 #[.val (.int cnt), .val (.int bits), .val (.int (2 : Int32)), .val (.ref b22), .unset, .unset] [(.int (1 : Int32)), (.int bits), (.ref b22)])) (fun t kt => ?_) ?_
    · refine XS.iloadN X25.here hx rfl (hb hby at_24) rfl ?_
      show Steps p.tables e below (T25.setTop (mkF m 25 #[.val (.int cnt), .val (.int bits), .val (.int (2 : Int32)), .val (.ref b22), .unset, .unset] [(.int (2 : Int32))])) _
      refine XS.iconst X25.here hx rfl (hb hby at_25) ?_
      show Steps p.tables e below (T25.setTop (mkF m 26 #[.val (.int cnt), .val (.int bits), .val (.int (2 : Int32)), .val (.ref b22), .unset, .unset] [(.int (2 : Int32)), (.int (2 : Int32))])) _
      refine XS.icmpNo X25.here hx rfl (hb hby at_26) rfl (flt (by decide : ¬ ((2 : Int32) < (2 : Int32)))).1 ?_
      show Steps p.tables e below (T25.setTop (mkF m 29 #[.val (.int cnt), .val (.int bits), .val (.int (2 : Int32)), .val (.ref b22), .unset, .unset] [])) _
      refine XS.aloadN X25.here hx rfl (hb hby at_29) rfl rfl ?_
      show Steps p.tables e below (T25.setTop (mkF m 30 #[.val (.int cnt), .val (.int bits), .val (.int (2 : Int32)), .val (.ref b22), .unset, .unset] [(.ref b22)])) _
      refine XS.iloadN X25.here hx rfl (hb hby at_30) rfl ?_
      show Steps p.tables e below (T25.setTop (mkF m 31 #[.val (.int cnt), .val (.int bits), .val (.int (2 : Int32)), .val (.ref b22), .unset, .unset] [(.int bits), (.ref b22)])) _
      refine XS.iconst X25.here hx rfl (hb hby at_31) ?_
      exact kt
    obtain ⟨_, _, ⟨T30, L30, k30, n30⟩, -, X30, ⟨Lc30, hQ30, l30, y30, z30⟩, st30⟩ := Jvm.LawKit.callS X25 hx (y := (⟨"com/example/gallant_courier/gallantcourier/core/LossRateWaitsPerDoublingPinLaw", "bit", "(II)Z"⟩ : MethodName)) hown (mvT hZ (hw _ (List.mem_of_getElem? (i := 9) rfl))) (mvT hZ (hw _ (List.mem_of_getElem? (i := 10) rfl))) (mvT hZ (hw _ (List.mem_of_getElem? (i := 11) rfl))) (mvT hZ (hw _ (List.mem_of_getElem? (i := 12) rfl))) (by decide) (backOf (W := 1) (rm4 l Z aa hw [] bits (1 : Int32) T25.heap n0 O25) hZ (hw _ (List.mem_of_getElem? (i := 12) rfl)) (hw _ (List.mem_of_getElem? (i := 11) rfl)) (by decide) (by decide)) (g := (mkF m 32 #[.val (.int cnt), .val (.int bits), .val (.int (2 : Int32)), .val (.ref b22), .unset, .unset] [(.int (1 : Int32)), (.int bits), (.ref b22)])) rfl (by rw [hml]; rfl) (argsL := [(.int bits), (.int (1 : Int32))]) (rest := [(.ref b22)]) (lenOf pd_oIIcZ rfl) rfl (by show 2 * 0 + _ ≤ _; exact Nat.le_of_eq rfl) (hb hby at_32) (fun _ _ => ⟨rfl, rfl, (by decide : 1 + 0 ≤ _), (by decide : 2 + 0 ≤ _)⟩)
    dsimp only [Pt.U, Pt.locs, Pt.cells, Pt.slots] at X30 l30 y30 z30 st30 hQ30
    subst l30 y30 z30
    obtain ⟨rfl, rfl, e30⟩ := hQ30
    try rw [List.append_nil] at X30
    refine Gl.up (B := T30.setTop (mkF m 35 #[.val (.int cnt), .val (.int bits), .val (.int (2 : Int32)), .val (.ref b22), .unset, .unset] [(.int (f4 bits (1 : Int32))), (.ref b22)])) (fun t kt => st30 _ kt) ?_
    have hp32 : own_pres (f4 bits (1 : Int32)) u27 u28 := by rw [hsh29, hsa29]; exact own_pre1 _ (own_cons (f4_b bits (0 : Int32)) own_nil) _ (own_b01 (f4_b bits (1 : Int32)))
    obtain ⟨cq31, kq31, q31a, q31b, q31c⟩ := isOf hZ e30 E_b22_25
    obtain ⟨_, _, ⟨T31, L31, k31, n31⟩, -, X31, ⟨Lc31, hQ31, l31, y31, z31⟩, st31⟩ := X30.virtualBack hx (y := (⟨"com/example/gallant_courier/gallantcourier/core/LossRate", "sample", "(Z)V"⟩ : MethodName)) (z := (⟨"com/example/gallant_courier/gallantcourier/core/LossRate", "sample", "(Z)V"⟩ : MethodName)) hown (mvT hZ (hw _ (List.mem_of_getElem? (i := 13) rfl))) (mvT hZ (hw _ (List.mem_of_getElem? (i := 14) rfl))) (notFace_of_selects (args := #[]) (mvT hZ (hw _ (List.mem_of_getElem? (i := 16) rfl)))) (mvT hZ (hw _ (List.mem_of_getElem? (i := 16) rfl))) (mvT hZ (hw _ (List.mem_of_getElem? (i := 15) rfl))) (by decide) (backOf (W := 0) (rm2 l Z aa hw [] b22 (f4 bits (1 : Int32)) u27 u28 T25.heap n0 O25 E_b22_25 F_b22_share_25 F_b22_samples_25 g_b22 hp32.1 hp32.2.1 hp32.2.2) hZ (hw _ (List.mem_of_getElem? (i := 17) rfl)) (hw _ (List.mem_of_getElem? (i := 2) rfl)) (by decide) (by decide)) q31a q31c (g := (mkF m 35 #[.val (.int cnt), .val (.int bits), .val (.int (2 : Int32)), .val (.ref b22), .unset, .unset] [(.int (f4 bits (1 : Int32))), (.ref b22)])) rfl (by rw [hml]; rfl) (Steps.refl _) (argsL := [(.int (f4 bits (1 : Int32)))]) (rest := []) (lenOf pd_oZcV rfl) rfl (by show 2 * 0 + _ ≤ _; exact Nat.le_of_eq rfl) (hb hby at_35) (fun _ _ => ⟨rfl, e30, (by decide : 1 + 0 ≤ _), (by decide : 2 + 0 ≤ _)⟩)
    dsimp only [Pt.U, Pt.locs, Pt.cells, Pt.slots] at X31 l31 y31 z31 st31 hQ31
    subst l31 y31 z31
    obtain ⟨rfl, M31, K31, F_b22_share_31, F_b22_samples_31⟩ := hQ31
    have N31 := Fr.app N25 M31
    have O31 := O25.keep K31 (allS g_b22 all0)
    have E_b22_31 := E_b22_25.keep K31
    obtain ⟨u33, hu33⟩ : ∃ q : UInt64, q = (f2_share (f4 bits (1 : Int32)) u27 u28) := ⟨_, rfl⟩
    rw [← hu33] at F_b22_share_31
    obtain ⟨u34, hu34⟩ : ∃ q : Int32, q = (f2_samples (f4 bits (1 : Int32)) u27 u28) := ⟨_, rfl⟩
    rw [← hu34] at F_b22_samples_31
    refine Gl.up (B := T31.setTop (mkF m 38 #[.val (.int cnt), .val (.int bits), .val (.int (2 : Int32)), .val (.ref b22), .unset, .unset] [])) (fun t kt => st31.trans kt) ?_
    have hsh35 : u33 = (own_st [(f4 bits (1 : Int32)), (f4 bits (0 : Int32))]).1 := by rw [hu33, hsh29, hsa29]; exact (own_st1 _ _).symm
    have hsa35 : u34 = (own_st [(f4 bits (1 : Int32)), (f4 bits (0 : Int32))]).2 := by rw [hu34, hsh29, hsa29]; exact (own_st2 _ _).symm
    refine Gl.up (B := T31.setTop (mkF m 128 #[.val (.int cnt), .val (.int bits), .val (.int (2 : Int32)), .val (.ref b22), .unset, .unset] [(.ref b22)])) (fun t kt => ?_) ?_
    · refine XS.iloadN X31.here hx rfl (hb hby at_38) rfl ?_
      show Steps p.tables e below (T31.setTop (mkF m 39 #[.val (.int cnt), .val (.int bits), .val (.int (2 : Int32)), .val (.ref b22), .unset, .unset] [(.int (2 : Int32))])) _
      refine XS.iconst X31.here hx rfl (hb hby at_39) ?_
      show Steps p.tables e below (T31.setTop (mkF m 40 #[.val (.int cnt), .val (.int bits), .val (.int (2 : Int32)), .val (.ref b22), .unset, .unset] [(.int (3 : Int32)), (.int (2 : Int32))])) _
      refine XS.icmpYes X31.here hx rfl (pc0 := 40) (pc' := 52) rfl (hb hby at_40) rfl (tlt (by decide : (2 : Int32) < (3 : Int32))).1 (by decide) (by decide) ?_
      show Steps p.tables e below (T31.setTop (mkF m 52 #[.val (.int cnt), .val (.int bits), .val (.int (2 : Int32)), .val (.ref b22), .unset, .unset] [])) _
      refine XS.iloadN X31.here hx rfl (hb hby at_52) rfl ?_
      show Steps p.tables e below (T31.setTop (mkF m 53 #[.val (.int cnt), .val (.int bits), .val (.int (2 : Int32)), .val (.ref b22), .unset, .unset] [(.int (2 : Int32))])) _
      refine XS.iconst X31.here hx rfl (hb hby at_53) ?_
      show Steps p.tables e below (T31.setTop (mkF m 54 #[.val (.int cnt), .val (.int bits), .val (.int (2 : Int32)), .val (.ref b22), .unset, .unset] [(.int (4 : Int32)), (.int (2 : Int32))])) _
      refine XS.icmpYes X31.here hx rfl (pc0 := 54) (pc' := 66) rfl (hb hby at_54) rfl (tlt (by decide : (2 : Int32) < (4 : Int32))).1 (by decide) (by decide) ?_
      show Steps p.tables e below (T31.setTop (mkF m 66 #[.val (.int cnt), .val (.int bits), .val (.int (2 : Int32)), .val (.ref b22), .unset, .unset] [])) _
      refine XS.iloadN X31.here hx rfl (hb hby at_66) rfl ?_
      show Steps p.tables e below (T31.setTop (mkF m 67 #[.val (.int cnt), .val (.int bits), .val (.int (2 : Int32)), .val (.ref b22), .unset, .unset] [(.int (2 : Int32))])) _
      refine XS.iconst X31.here hx rfl (hb hby at_67) ?_
      show Steps p.tables e below (T31.setTop (mkF m 68 #[.val (.int cnt), .val (.int bits), .val (.int (2 : Int32)), .val (.ref b22), .unset, .unset] [(.int (5 : Int32)), (.int (2 : Int32))])) _
      refine XS.icmpYes X31.here hx rfl (pc0 := 68) (pc' := 80) rfl (hb hby at_68) rfl (tlt (by decide : (2 : Int32) < (5 : Int32))).1 (by decide) (by decide) ?_
      show Steps p.tables e below (T31.setTop (mkF m 80 #[.val (.int cnt), .val (.int bits), .val (.int (2 : Int32)), .val (.ref b22), .unset, .unset] [])) _
      refine XS.iloadN X31.here hx rfl (hb hby at_80) rfl ?_
      show Steps p.tables e below (T31.setTop (mkF m 81 #[.val (.int cnt), .val (.int bits), .val (.int (2 : Int32)), .val (.ref b22), .unset, .unset] [(.int (2 : Int32))])) _
      refine XS.bipush X31.here hx rfl (hb hby at_81) ?_
      show Steps p.tables e below (T31.setTop (mkF m 83 #[.val (.int cnt), .val (.int bits), .val (.int (2 : Int32)), .val (.ref b22), .unset, .unset] [(.int (6 : Int32)), (.int (2 : Int32))])) _
      refine XS.icmpYes X31.here hx rfl (pc0 := 83) (pc' := 95) rfl (hb hby at_83) rfl (tlt (by decide : (2 : Int32) < (6 : Int32))).1 (by decide) (by decide) ?_
      show Steps p.tables e below (T31.setTop (mkF m 95 #[.val (.int cnt), .val (.int bits), .val (.int (2 : Int32)), .val (.ref b22), .unset, .unset] [])) _
      refine XS.iloadN X31.here hx rfl (hb hby at_95) rfl ?_
      show Steps p.tables e below (T31.setTop (mkF m 96 #[.val (.int cnt), .val (.int bits), .val (.int (2 : Int32)), .val (.ref b22), .unset, .unset] [(.int (2 : Int32))])) _
      refine XS.bipush X31.here hx rfl (hb hby at_96) ?_
      show Steps p.tables e below (T31.setTop (mkF m 98 #[.val (.int cnt), .val (.int bits), .val (.int (2 : Int32)), .val (.ref b22), .unset, .unset] [(.int (7 : Int32)), (.int (2 : Int32))])) _
      refine XS.icmpYes X31.here hx rfl (pc0 := 98) (pc' := 111) rfl (hb hby at_98) rfl (tlt (by decide : (2 : Int32) < (7 : Int32))).1 (by decide) (by decide) ?_
      show Steps p.tables e below (T31.setTop (mkF m 111 #[.val (.int cnt), .val (.int bits), .val (.int (2 : Int32)), .val (.ref b22), .unset, .unset] [])) _
      refine XS.iloadN X31.here hx rfl (hb hby at_111) rfl ?_
      show Steps p.tables e below (T31.setTop (mkF m 112 #[.val (.int cnt), .val (.int bits), .val (.int (2 : Int32)), .val (.ref b22), .unset, .unset] [(.int (2 : Int32))])) _
      refine XS.bipush X31.here hx rfl (hb hby at_112) ?_
      show Steps p.tables e below (T31.setTop (mkF m 114 #[.val (.int cnt), .val (.int bits), .val (.int (2 : Int32)), .val (.ref b22), .unset, .unset] [(.int (8 : Int32)), (.int (2 : Int32))])) _
      refine XS.icmpYes X31.here hx rfl (pc0 := 114) (pc' := 127) rfl (hb hby at_114) rfl (tlt (by decide : (2 : Int32) < (8 : Int32))).1 (by decide) (by decide) ?_
      show Steps p.tables e below (T31.setTop (mkF m 127 #[.val (.int cnt), .val (.int bits), .val (.int (2 : Int32)), .val (.ref b22), .unset, .unset] [])) _
      refine XS.aloadN X31.here hx rfl (hb hby at_127) rfl rfl ?_
      exact kt
    have hw2 : own_prew u33 := by rw [hsh35]; exact own_w2 _ (own_cons (f4_b bits (1 : Int32)) (own_cons (f4_b bits (0 : Int32)) own_nil))
    obtain ⟨cq36, kq36, q36a, q36b, q36c⟩ := isOf hZ rfl E_b22_31
    obtain ⟨_, _, ⟨T36, L36, k36, n36⟩, -, X36, ⟨Lc36, hQ36, l36, y36, z36⟩, st36⟩ := X31.virtualBack hx (y := (⟨"com/example/gallant_courier/gallantcourier/core/LossRate", "waitsPerDoubling", "()I"⟩ : MethodName)) (z := (⟨"com/example/gallant_courier/gallantcourier/core/LossRate", "waitsPerDoubling", "()I"⟩ : MethodName)) hown (mvT hZ (hw _ (List.mem_of_getElem? (i := 22) rfl))) (mvT hZ (hw _ (List.mem_of_getElem? (i := 23) rfl))) (notFace_of_selects (args := #[]) (mvT hZ (hw _ (List.mem_of_getElem? (i := 25) rfl)))) (mvT hZ (hw _ (List.mem_of_getElem? (i := 25) rfl))) (mvT hZ (hw _ (List.mem_of_getElem? (i := 24) rfl))) (by decide) (backOf (W := 0) (rm3 l Z aa hw [] b22 u33 u34 T31.heap n0 O31 E_b22_31 F_b22_share_31 F_b22_samples_31 hw2.1 hw2.2.1 hw2.2.2.1 hw2.2.2.2.1 hw2.2.2.2.2.1 hw2.2.2.2.2.2.1 hw2.2.2.2.2.2.2.1 hw2.2.2.2.2.2.2.2.1 hw2.2.2.2.2.2.2.2.2.1 hw2.2.2.2.2.2.2.2.2.2) hZ (hw _ (List.mem_of_getElem? (i := 26) rfl)) (hw _ (List.mem_of_getElem? (i := 2) rfl)) (by decide) (by decide)) q36a q36c (g := (mkF m 128 #[.val (.int cnt), .val (.int bits), .val (.int (2 : Int32)), .val (.ref b22), .unset, .unset] [(.ref b22)])) rfl (by rw [hml]; rfl) (Steps.refl _) (argsL := []) (rest := []) (lenOf pd_ocI rfl) rfl (by show 2 * 0 + _ ≤ _; exact Nat.le_of_eq rfl) (hb hby at_128) (fun _ _ => ⟨rfl, rfl, (by decide : 1 + 0 ≤ _), (by decide : 2 + 0 ≤ _)⟩)
    dsimp only [Pt.U, Pt.locs, Pt.cells, Pt.slots] at X36 l36 y36 z36 st36 hQ36
    subst l36 y36 z36
    obtain ⟨rfl, rfl, e36⟩ := hQ36
    try rw [List.append_nil] at X36
    refine Gl.up (B := T36.setTop (mkF m 131 #[.val (.int cnt), .val (.int bits), .val (.int (2 : Int32)), .val (.ref b22), .unset, .unset] [(.int (f3 u33 u34))])) (fun t kt => st36.trans kt) ?_
    refine Gl.up (B := T36.setTop (mkF m 136 #[.val (.int cnt), .val (.int bits), .val (.int (2 : Int32)), .val (.ref b22), .val (.int (f3 u33 u34)), .unset] [(.int (2 : Int32)), (.int (0 : Int32)), (.int bits)])) (fun t kt => ?_) ?_
    · refine XS.istore X36.here hx rfl (hb hby at_131) rfl (l' := #[.val (.int cnt), .val (.int bits), .val (.int (2 : Int32)), .val (.ref b22), .val (.int (f3 u33 u34)), .unset]) rfl ?_
      show Steps p.tables e below (T36.setTop (mkF m 133 #[.val (.int cnt), .val (.int bits), .val (.int (2 : Int32)), .val (.ref b22), .val (.int (f3 u33 u34)), .unset] [])) _
      refine XS.iloadN X36.here hx rfl (hb hby at_133) rfl ?_
      show Steps p.tables e below (T36.setTop (mkF m 134 #[.val (.int cnt), .val (.int bits), .val (.int (2 : Int32)), .val (.ref b22), .val (.int (f3 u33 u34)), .unset] [(.int bits)])) _
      refine XS.iconst X36.here hx rfl (hb hby at_134) ?_
      show Steps p.tables e below (T36.setTop (mkF m 135 #[.val (.int cnt), .val (.int bits), .val (.int (2 : Int32)), .val (.ref b22), .val (.int (f3 u33 u34)), .unset] [(.int (0 : Int32)), (.int bits)])) _
      refine XS.iloadN X36.here hx rfl (hb hby at_135) rfl ?_
      exact kt
    obtain ⟨_, _, ⟨T37, L37, k37, n37⟩, -, X37, ⟨Lc37, hQ37, l37, y37, z37⟩, st37⟩ := Jvm.LawKit.callS X36 hx (y := (⟨"com/example/gallant_courier/gallantcourier/core/LossRateWaitsPerDoublingPinLaw", "one", "(III)I"⟩ : MethodName)) hown (mvT hZ (hw _ (List.mem_of_getElem? (i := 28) rfl))) (mvT hZ (hw _ (List.mem_of_getElem? (i := 29) rfl))) (mvT hZ (hw _ (List.mem_of_getElem? (i := 11) rfl))) (mvT hZ (hw _ (List.mem_of_getElem? (i := 30) rfl))) (by decide) (backOf (W := 0) (rm5 l Z aa hw [] bits (0 : Int32) (2 : Int32) T31.heap n0 O31) hZ (hw _ (List.mem_of_getElem? (i := 30) rfl)) (hw _ (List.mem_of_getElem? (i := 11) rfl)) (by decide) (by decide)) (g := (mkF m 136 #[.val (.int cnt), .val (.int bits), .val (.int (2 : Int32)), .val (.ref b22), .val (.int (f3 u33 u34)), .unset] [(.int (2 : Int32)), (.int (0 : Int32)), (.int bits)])) rfl (by rw [hml]; rfl) (argsL := [(.int bits), (.int (0 : Int32)), (.int (2 : Int32))]) (rest := []) (lenOf pd_oIIIcI rfl) rfl (by show 2 * 0 + _ ≤ _; exact Nat.le_of_eq rfl) (hb hby at_136) (fun _ _ => ⟨rfl, e36, (by decide : 1 + 0 ≤ _), (by decide : 2 + 0 ≤ _)⟩)
    dsimp only [Pt.U, Pt.locs, Pt.cells, Pt.slots] at X37 l37 y37 z37 st37 hQ37
    subst l37 y37 z37
    obtain ⟨rfl, rfl, e37⟩ := hQ37
    try rw [List.append_nil] at X37
    refine Gl.up (B := T37.setTop (mkF m 139 #[.val (.int cnt), .val (.int bits), .val (.int (2 : Int32)), .val (.ref b22), .val (.int (f3 u33 u34)), .unset] [(.int (f5 bits (0 : Int32) (2 : Int32)))])) (fun t kt => st37 _ kt) ?_
    refine Gl.up (B := T37.setTop (mkF m 142 #[.val (.int cnt), .val (.int bits), .val (.int (2 : Int32)), .val (.ref b22), .val (.int (f3 u33 u34)), .unset] [(.int (2 : Int32)), (.int (1 : Int32)), (.int bits), (.int (f5 bits (0 : Int32) (2 : Int32)))])) (fun t kt => ?_) ?_
    · refine XS.iloadN X37.here hx rfl (hb hby at_139) rfl ?_
      show Steps p.tables e below (T37.setTop (mkF m 140 #[.val (.int cnt), .val (.int bits), .val (.int (2 : Int32)), .val (.ref b22), .val (.int (f3 u33 u34)), .unset] [(.int bits), (.int (f5 bits (0 : Int32) (2 : Int32)))])) _
      refine XS.iconst X37.here hx rfl (hb hby at_140) ?_
      show Steps p.tables e below (T37.setTop (mkF m 141 #[.val (.int cnt), .val (.int bits), .val (.int (2 : Int32)), .val (.ref b22), .val (.int (f3 u33 u34)), .unset] [(.int (1 : Int32)), (.int bits), (.int (f5 bits (0 : Int32) (2 : Int32)))])) _
      refine XS.iloadN X37.here hx rfl (hb hby at_141) rfl ?_
      exact kt
    obtain ⟨_, _, ⟨T38, L38, k38, n38⟩, -, X38, ⟨Lc38, hQ38, l38, y38, z38⟩, st38⟩ := Jvm.LawKit.callS X37 hx (y := (⟨"com/example/gallant_courier/gallantcourier/core/LossRateWaitsPerDoublingPinLaw", "one", "(III)I"⟩ : MethodName)) hown (mvT hZ (hw _ (List.mem_of_getElem? (i := 28) rfl))) (mvT hZ (hw _ (List.mem_of_getElem? (i := 29) rfl))) (mvT hZ (hw _ (List.mem_of_getElem? (i := 11) rfl))) (mvT hZ (hw _ (List.mem_of_getElem? (i := 30) rfl))) (by decide) (backOf (W := 1) (rm5 l Z aa hw [] bits (1 : Int32) (2 : Int32) T31.heap n0 O31) hZ (hw _ (List.mem_of_getElem? (i := 30) rfl)) (hw _ (List.mem_of_getElem? (i := 11) rfl)) (by decide) (by decide)) (g := (mkF m 142 #[.val (.int cnt), .val (.int bits), .val (.int (2 : Int32)), .val (.ref b22), .val (.int (f3 u33 u34)), .unset] [(.int (2 : Int32)), (.int (1 : Int32)), (.int bits), (.int (f5 bits (0 : Int32) (2 : Int32)))])) rfl (by rw [hml]; rfl) (argsL := [(.int bits), (.int (1 : Int32)), (.int (2 : Int32))]) (rest := [(.int (f5 bits (0 : Int32) (2 : Int32)))]) (lenOf pd_oIIIcI rfl) rfl (by show 2 * 0 + _ ≤ _; exact Nat.le_of_eq rfl) (hb hby at_142) (fun _ _ => ⟨rfl, e37, (by decide : 1 + 0 ≤ _), (by decide : 2 + 0 ≤ _)⟩)
    dsimp only [Pt.U, Pt.locs, Pt.cells, Pt.slots] at X38 l38 y38 z38 st38 hQ38
    subst l38 y38 z38
    obtain ⟨rfl, rfl, e38⟩ := hQ38
    try rw [List.append_nil] at X38
    refine Gl.up (B := T38.setTop (mkF m 145 #[.val (.int cnt), .val (.int bits), .val (.int (2 : Int32)), .val (.ref b22), .val (.int (f3 u33 u34)), .unset] [(.int (f5 bits (1 : Int32) (2 : Int32))), (.int (f5 bits (0 : Int32) (2 : Int32)))])) (fun t kt => st38 _ kt) ?_
    refine Gl.up (B := T38.setTop (mkF m 149 #[.val (.int cnt), .val (.int bits), .val (.int (2 : Int32)), .val (.ref b22), .val (.int (f3 u33 u34)), .unset] [(.int (2 : Int32)), (.int (2 : Int32)), (.int bits), (.int ((f5 bits (0 : Int32) (2 : Int32)) + (f5 bits (1 : Int32) (2 : Int32))))])) (fun t kt => ?_) ?_
    · refine XS.iadd X38.here hx rfl (hb hby at_145) rfl ?_
      show Steps p.tables e below (T38.setTop (mkF m 146 #[.val (.int cnt), .val (.int bits), .val (.int (2 : Int32)), .val (.ref b22), .val (.int (f3 u33 u34)), .unset] [(.int ((f5 bits (0 : Int32) (2 : Int32)) + (f5 bits (1 : Int32) (2 : Int32))))])) _
      refine XS.iloadN X38.here hx rfl (hb hby at_146) rfl ?_
      show Steps p.tables e below (T38.setTop (mkF m 147 #[.val (.int cnt), .val (.int bits), .val (.int (2 : Int32)), .val (.ref b22), .val (.int (f3 u33 u34)), .unset] [(.int bits), (.int ((f5 bits (0 : Int32) (2 : Int32)) + (f5 bits (1 : Int32) (2 : Int32))))])) _
      refine XS.iconst X38.here hx rfl (hb hby at_147) ?_
      show Steps p.tables e below (T38.setTop (mkF m 148 #[.val (.int cnt), .val (.int bits), .val (.int (2 : Int32)), .val (.ref b22), .val (.int (f3 u33 u34)), .unset] [(.int (2 : Int32)), (.int bits), (.int ((f5 bits (0 : Int32) (2 : Int32)) + (f5 bits (1 : Int32) (2 : Int32))))])) _
      refine XS.iloadN X38.here hx rfl (hb hby at_148) rfl ?_
      exact kt
    obtain ⟨_, _, ⟨T39, L39, k39, n39⟩, -, X39, ⟨Lc39, hQ39, l39, y39, z39⟩, st39⟩ := Jvm.LawKit.callS X38 hx (y := (⟨"com/example/gallant_courier/gallantcourier/core/LossRateWaitsPerDoublingPinLaw", "one", "(III)I"⟩ : MethodName)) hown (mvT hZ (hw _ (List.mem_of_getElem? (i := 28) rfl))) (mvT hZ (hw _ (List.mem_of_getElem? (i := 29) rfl))) (mvT hZ (hw _ (List.mem_of_getElem? (i := 11) rfl))) (mvT hZ (hw _ (List.mem_of_getElem? (i := 30) rfl))) (by decide) (backOf (W := 1) (rm5 l Z aa hw [] bits (2 : Int32) (2 : Int32) T31.heap n0 O31) hZ (hw _ (List.mem_of_getElem? (i := 30) rfl)) (hw _ (List.mem_of_getElem? (i := 11) rfl)) (by decide) (by decide)) (g := (mkF m 149 #[.val (.int cnt), .val (.int bits), .val (.int (2 : Int32)), .val (.ref b22), .val (.int (f3 u33 u34)), .unset] [(.int (2 : Int32)), (.int (2 : Int32)), (.int bits), (.int ((f5 bits (0 : Int32) (2 : Int32)) + (f5 bits (1 : Int32) (2 : Int32))))])) rfl (by rw [hml]; rfl) (argsL := [(.int bits), (.int (2 : Int32)), (.int (2 : Int32))]) (rest := [(.int ((f5 bits (0 : Int32) (2 : Int32)) + (f5 bits (1 : Int32) (2 : Int32))))]) (lenOf pd_oIIIcI rfl) rfl (by show 2 * 0 + _ ≤ _; exact Nat.le_of_eq rfl) (hb hby at_149) (fun _ _ => ⟨rfl, e38, (by decide : 1 + 0 ≤ _), (by decide : 2 + 0 ≤ _)⟩)
    dsimp only [Pt.U, Pt.locs, Pt.cells, Pt.slots] at X39 l39 y39 z39 st39 hQ39
    subst l39 y39 z39
    obtain ⟨rfl, rfl, e39⟩ := hQ39
    try rw [List.append_nil] at X39
    refine Gl.up (B := T39.setTop (mkF m 152 #[.val (.int cnt), .val (.int bits), .val (.int (2 : Int32)), .val (.ref b22), .val (.int (f3 u33 u34)), .unset] [(.int (f5 bits (2 : Int32) (2 : Int32))), (.int ((f5 bits (0 : Int32) (2 : Int32)) + (f5 bits (1 : Int32) (2 : Int32))))])) (fun t kt => st39 _ kt) ?_
    refine Gl.up (B := T39.setTop (mkF m 156 #[.val (.int cnt), .val (.int bits), .val (.int (2 : Int32)), .val (.ref b22), .val (.int (f3 u33 u34)), .unset] [(.int (2 : Int32)), (.int (3 : Int32)), (.int bits), (.int (((f5 bits (0 : Int32) (2 : Int32)) + (f5 bits (1 : Int32) (2 : Int32))) + (f5 bits (2 : Int32) (2 : Int32))))])) (fun t kt => ?_) ?_
    · refine XS.iadd X39.here hx rfl (hb hby at_152) rfl ?_
      show Steps p.tables e below (T39.setTop (mkF m 153 #[.val (.int cnt), .val (.int bits), .val (.int (2 : Int32)), .val (.ref b22), .val (.int (f3 u33 u34)), .unset] [(.int (((f5 bits (0 : Int32) (2 : Int32)) + (f5 bits (1 : Int32) (2 : Int32))) + (f5 bits (2 : Int32) (2 : Int32))))])) _
      refine XS.iloadN X39.here hx rfl (hb hby at_153) rfl ?_
      show Steps p.tables e below (T39.setTop (mkF m 154 #[.val (.int cnt), .val (.int bits), .val (.int (2 : Int32)), .val (.ref b22), .val (.int (f3 u33 u34)), .unset] [(.int bits), (.int (((f5 bits (0 : Int32) (2 : Int32)) + (f5 bits (1 : Int32) (2 : Int32))) + (f5 bits (2 : Int32) (2 : Int32))))])) _
      refine XS.iconst X39.here hx rfl (hb hby at_154) ?_
      show Steps p.tables e below (T39.setTop (mkF m 155 #[.val (.int cnt), .val (.int bits), .val (.int (2 : Int32)), .val (.ref b22), .val (.int (f3 u33 u34)), .unset] [(.int (3 : Int32)), (.int bits), (.int (((f5 bits (0 : Int32) (2 : Int32)) + (f5 bits (1 : Int32) (2 : Int32))) + (f5 bits (2 : Int32) (2 : Int32))))])) _
      refine XS.iloadN X39.here hx rfl (hb hby at_155) rfl ?_
      exact kt
    obtain ⟨_, _, ⟨T40, L40, k40, n40⟩, -, X40, ⟨Lc40, hQ40, l40, y40, z40⟩, st40⟩ := Jvm.LawKit.callS X39 hx (y := (⟨"com/example/gallant_courier/gallantcourier/core/LossRateWaitsPerDoublingPinLaw", "one", "(III)I"⟩ : MethodName)) hown (mvT hZ (hw _ (List.mem_of_getElem? (i := 28) rfl))) (mvT hZ (hw _ (List.mem_of_getElem? (i := 29) rfl))) (mvT hZ (hw _ (List.mem_of_getElem? (i := 11) rfl))) (mvT hZ (hw _ (List.mem_of_getElem? (i := 30) rfl))) (by decide) (backOf (W := 1) (rm5 l Z aa hw [] bits (3 : Int32) (2 : Int32) T31.heap n0 O31) hZ (hw _ (List.mem_of_getElem? (i := 30) rfl)) (hw _ (List.mem_of_getElem? (i := 11) rfl)) (by decide) (by decide)) (g := (mkF m 156 #[.val (.int cnt), .val (.int bits), .val (.int (2 : Int32)), .val (.ref b22), .val (.int (f3 u33 u34)), .unset] [(.int (2 : Int32)), (.int (3 : Int32)), (.int bits), (.int (((f5 bits (0 : Int32) (2 : Int32)) + (f5 bits (1 : Int32) (2 : Int32))) + (f5 bits (2 : Int32) (2 : Int32))))])) rfl (by rw [hml]; rfl) (argsL := [(.int bits), (.int (3 : Int32)), (.int (2 : Int32))]) (rest := [(.int (((f5 bits (0 : Int32) (2 : Int32)) + (f5 bits (1 : Int32) (2 : Int32))) + (f5 bits (2 : Int32) (2 : Int32))))]) (lenOf pd_oIIIcI rfl) rfl (by show 2 * 0 + _ ≤ _; exact Nat.le_of_eq rfl) (hb hby at_156) (fun _ _ => ⟨rfl, e39, (by decide : 1 + 0 ≤ _), (by decide : 2 + 0 ≤ _)⟩)
    dsimp only [Pt.U, Pt.locs, Pt.cells, Pt.slots] at X40 l40 y40 z40 st40 hQ40
    subst l40 y40 z40
    obtain ⟨rfl, rfl, e40⟩ := hQ40
    try rw [List.append_nil] at X40
    refine Gl.up (B := T40.setTop (mkF m 159 #[.val (.int cnt), .val (.int bits), .val (.int (2 : Int32)), .val (.ref b22), .val (.int (f3 u33 u34)), .unset] [(.int (f5 bits (3 : Int32) (2 : Int32))), (.int (((f5 bits (0 : Int32) (2 : Int32)) + (f5 bits (1 : Int32) (2 : Int32))) + (f5 bits (2 : Int32) (2 : Int32))))])) (fun t kt => st40 _ kt) ?_
    refine Gl.up (B := T40.setTop (mkF m 163 #[.val (.int cnt), .val (.int bits), .val (.int (2 : Int32)), .val (.ref b22), .val (.int (f3 u33 u34)), .unset] [(.int (2 : Int32)), (.int (4 : Int32)), (.int bits), (.int ((((f5 bits (0 : Int32) (2 : Int32)) + (f5 bits (1 : Int32) (2 : Int32))) + (f5 bits (2 : Int32) (2 : Int32))) + (f5 bits (3 : Int32) (2 : Int32))))])) (fun t kt => ?_) ?_
    · refine XS.iadd X40.here hx rfl (hb hby at_159) rfl ?_
      show Steps p.tables e below (T40.setTop (mkF m 160 #[.val (.int cnt), .val (.int bits), .val (.int (2 : Int32)), .val (.ref b22), .val (.int (f3 u33 u34)), .unset] [(.int ((((f5 bits (0 : Int32) (2 : Int32)) + (f5 bits (1 : Int32) (2 : Int32))) + (f5 bits (2 : Int32) (2 : Int32))) + (f5 bits (3 : Int32) (2 : Int32))))])) _
      refine XS.iloadN X40.here hx rfl (hb hby at_160) rfl ?_
      show Steps p.tables e below (T40.setTop (mkF m 161 #[.val (.int cnt), .val (.int bits), .val (.int (2 : Int32)), .val (.ref b22), .val (.int (f3 u33 u34)), .unset] [(.int bits), (.int ((((f5 bits (0 : Int32) (2 : Int32)) + (f5 bits (1 : Int32) (2 : Int32))) + (f5 bits (2 : Int32) (2 : Int32))) + (f5 bits (3 : Int32) (2 : Int32))))])) _
      refine XS.iconst X40.here hx rfl (hb hby at_161) ?_
      show Steps p.tables e below (T40.setTop (mkF m 162 #[.val (.int cnt), .val (.int bits), .val (.int (2 : Int32)), .val (.ref b22), .val (.int (f3 u33 u34)), .unset] [(.int (4 : Int32)), (.int bits), (.int ((((f5 bits (0 : Int32) (2 : Int32)) + (f5 bits (1 : Int32) (2 : Int32))) + (f5 bits (2 : Int32) (2 : Int32))) + (f5 bits (3 : Int32) (2 : Int32))))])) _
      refine XS.iloadN X40.here hx rfl (hb hby at_162) rfl ?_
      exact kt
    obtain ⟨_, _, ⟨T41, L41, k41, n41⟩, -, X41, ⟨Lc41, hQ41, l41, y41, z41⟩, st41⟩ := Jvm.LawKit.callS X40 hx (y := (⟨"com/example/gallant_courier/gallantcourier/core/LossRateWaitsPerDoublingPinLaw", "one", "(III)I"⟩ : MethodName)) hown (mvT hZ (hw _ (List.mem_of_getElem? (i := 28) rfl))) (mvT hZ (hw _ (List.mem_of_getElem? (i := 29) rfl))) (mvT hZ (hw _ (List.mem_of_getElem? (i := 11) rfl))) (mvT hZ (hw _ (List.mem_of_getElem? (i := 30) rfl))) (by decide) (backOf (W := 1) (rm5 l Z aa hw [] bits (4 : Int32) (2 : Int32) T31.heap n0 O31) hZ (hw _ (List.mem_of_getElem? (i := 30) rfl)) (hw _ (List.mem_of_getElem? (i := 11) rfl)) (by decide) (by decide)) (g := (mkF m 163 #[.val (.int cnt), .val (.int bits), .val (.int (2 : Int32)), .val (.ref b22), .val (.int (f3 u33 u34)), .unset] [(.int (2 : Int32)), (.int (4 : Int32)), (.int bits), (.int ((((f5 bits (0 : Int32) (2 : Int32)) + (f5 bits (1 : Int32) (2 : Int32))) + (f5 bits (2 : Int32) (2 : Int32))) + (f5 bits (3 : Int32) (2 : Int32))))])) rfl (by rw [hml]; rfl) (argsL := [(.int bits), (.int (4 : Int32)), (.int (2 : Int32))]) (rest := [(.int ((((f5 bits (0 : Int32) (2 : Int32)) + (f5 bits (1 : Int32) (2 : Int32))) + (f5 bits (2 : Int32) (2 : Int32))) + (f5 bits (3 : Int32) (2 : Int32))))]) (lenOf pd_oIIIcI rfl) rfl (by show 2 * 0 + _ ≤ _; exact Nat.le_of_eq rfl) (hb hby at_163) (fun _ _ => ⟨rfl, e40, (by decide : 1 + 0 ≤ _), (by decide : 2 + 0 ≤ _)⟩)
    dsimp only [Pt.U, Pt.locs, Pt.cells, Pt.slots] at X41 l41 y41 z41 st41 hQ41
    subst l41 y41 z41
    obtain ⟨rfl, rfl, e41⟩ := hQ41
    try rw [List.append_nil] at X41
    refine Gl.up (B := T41.setTop (mkF m 166 #[.val (.int cnt), .val (.int bits), .val (.int (2 : Int32)), .val (.ref b22), .val (.int (f3 u33 u34)), .unset] [(.int (f5 bits (4 : Int32) (2 : Int32))), (.int ((((f5 bits (0 : Int32) (2 : Int32)) + (f5 bits (1 : Int32) (2 : Int32))) + (f5 bits (2 : Int32) (2 : Int32))) + (f5 bits (3 : Int32) (2 : Int32))))])) (fun t kt => st41 _ kt) ?_
    refine Gl.up (B := T41.setTop (mkF m 170 #[.val (.int cnt), .val (.int bits), .val (.int (2 : Int32)), .val (.ref b22), .val (.int (f3 u33 u34)), .unset] [(.int (2 : Int32)), (.int (5 : Int32)), (.int bits), (.int (((((f5 bits (0 : Int32) (2 : Int32)) + (f5 bits (1 : Int32) (2 : Int32))) + (f5 bits (2 : Int32) (2 : Int32))) + (f5 bits (3 : Int32) (2 : Int32))) + (f5 bits (4 : Int32) (2 : Int32))))])) (fun t kt => ?_) ?_
    · refine XS.iadd X41.here hx rfl (hb hby at_166) rfl ?_
      show Steps p.tables e below (T41.setTop (mkF m 167 #[.val (.int cnt), .val (.int bits), .val (.int (2 : Int32)), .val (.ref b22), .val (.int (f3 u33 u34)), .unset] [(.int (((((f5 bits (0 : Int32) (2 : Int32)) + (f5 bits (1 : Int32) (2 : Int32))) + (f5 bits (2 : Int32) (2 : Int32))) + (f5 bits (3 : Int32) (2 : Int32))) + (f5 bits (4 : Int32) (2 : Int32))))])) _
      refine XS.iloadN X41.here hx rfl (hb hby at_167) rfl ?_
      show Steps p.tables e below (T41.setTop (mkF m 168 #[.val (.int cnt), .val (.int bits), .val (.int (2 : Int32)), .val (.ref b22), .val (.int (f3 u33 u34)), .unset] [(.int bits), (.int (((((f5 bits (0 : Int32) (2 : Int32)) + (f5 bits (1 : Int32) (2 : Int32))) + (f5 bits (2 : Int32) (2 : Int32))) + (f5 bits (3 : Int32) (2 : Int32))) + (f5 bits (4 : Int32) (2 : Int32))))])) _
      refine XS.iconst X41.here hx rfl (hb hby at_168) ?_
      show Steps p.tables e below (T41.setTop (mkF m 169 #[.val (.int cnt), .val (.int bits), .val (.int (2 : Int32)), .val (.ref b22), .val (.int (f3 u33 u34)), .unset] [(.int (5 : Int32)), (.int bits), (.int (((((f5 bits (0 : Int32) (2 : Int32)) + (f5 bits (1 : Int32) (2 : Int32))) + (f5 bits (2 : Int32) (2 : Int32))) + (f5 bits (3 : Int32) (2 : Int32))) + (f5 bits (4 : Int32) (2 : Int32))))])) _
      refine XS.iloadN X41.here hx rfl (hb hby at_169) rfl ?_
      exact kt
    obtain ⟨_, _, ⟨T42, L42, k42, n42⟩, -, X42, ⟨Lc42, hQ42, l42, y42, z42⟩, st42⟩ := Jvm.LawKit.callS X41 hx (y := (⟨"com/example/gallant_courier/gallantcourier/core/LossRateWaitsPerDoublingPinLaw", "one", "(III)I"⟩ : MethodName)) hown (mvT hZ (hw _ (List.mem_of_getElem? (i := 28) rfl))) (mvT hZ (hw _ (List.mem_of_getElem? (i := 29) rfl))) (mvT hZ (hw _ (List.mem_of_getElem? (i := 11) rfl))) (mvT hZ (hw _ (List.mem_of_getElem? (i := 30) rfl))) (by decide) (backOf (W := 1) (rm5 l Z aa hw [] bits (5 : Int32) (2 : Int32) T31.heap n0 O31) hZ (hw _ (List.mem_of_getElem? (i := 30) rfl)) (hw _ (List.mem_of_getElem? (i := 11) rfl)) (by decide) (by decide)) (g := (mkF m 170 #[.val (.int cnt), .val (.int bits), .val (.int (2 : Int32)), .val (.ref b22), .val (.int (f3 u33 u34)), .unset] [(.int (2 : Int32)), (.int (5 : Int32)), (.int bits), (.int (((((f5 bits (0 : Int32) (2 : Int32)) + (f5 bits (1 : Int32) (2 : Int32))) + (f5 bits (2 : Int32) (2 : Int32))) + (f5 bits (3 : Int32) (2 : Int32))) + (f5 bits (4 : Int32) (2 : Int32))))])) rfl (by rw [hml]; rfl) (argsL := [(.int bits), (.int (5 : Int32)), (.int (2 : Int32))]) (rest := [(.int (((((f5 bits (0 : Int32) (2 : Int32)) + (f5 bits (1 : Int32) (2 : Int32))) + (f5 bits (2 : Int32) (2 : Int32))) + (f5 bits (3 : Int32) (2 : Int32))) + (f5 bits (4 : Int32) (2 : Int32))))]) (lenOf pd_oIIIcI rfl) rfl (by show 2 * 0 + _ ≤ _; exact Nat.le_of_eq rfl) (hb hby at_170) (fun _ _ => ⟨rfl, e41, (by decide : 1 + 0 ≤ _), (by decide : 2 + 0 ≤ _)⟩)
    dsimp only [Pt.U, Pt.locs, Pt.cells, Pt.slots] at X42 l42 y42 z42 st42 hQ42
    subst l42 y42 z42
    obtain ⟨rfl, rfl, e42⟩ := hQ42
    try rw [List.append_nil] at X42
    refine Gl.up (B := T42.setTop (mkF m 173 #[.val (.int cnt), .val (.int bits), .val (.int (2 : Int32)), .val (.ref b22), .val (.int (f3 u33 u34)), .unset] [(.int (f5 bits (5 : Int32) (2 : Int32))), (.int (((((f5 bits (0 : Int32) (2 : Int32)) + (f5 bits (1 : Int32) (2 : Int32))) + (f5 bits (2 : Int32) (2 : Int32))) + (f5 bits (3 : Int32) (2 : Int32))) + (f5 bits (4 : Int32) (2 : Int32))))])) (fun t kt => st42 _ kt) ?_
    refine Gl.up (B := T42.setTop (mkF m 178 #[.val (.int cnt), .val (.int bits), .val (.int (2 : Int32)), .val (.ref b22), .val (.int (f3 u33 u34)), .unset] [(.int (2 : Int32)), (.int (6 : Int32)), (.int bits), (.int ((((((f5 bits (0 : Int32) (2 : Int32)) + (f5 bits (1 : Int32) (2 : Int32))) + (f5 bits (2 : Int32) (2 : Int32))) + (f5 bits (3 : Int32) (2 : Int32))) + (f5 bits (4 : Int32) (2 : Int32))) + (f5 bits (5 : Int32) (2 : Int32))))])) (fun t kt => ?_) ?_
    · refine XS.iadd X42.here hx rfl (hb hby at_173) rfl ?_
      show Steps p.tables e below (T42.setTop (mkF m 174 #[.val (.int cnt), .val (.int bits), .val (.int (2 : Int32)), .val (.ref b22), .val (.int (f3 u33 u34)), .unset] [(.int ((((((f5 bits (0 : Int32) (2 : Int32)) + (f5 bits (1 : Int32) (2 : Int32))) + (f5 bits (2 : Int32) (2 : Int32))) + (f5 bits (3 : Int32) (2 : Int32))) + (f5 bits (4 : Int32) (2 : Int32))) + (f5 bits (5 : Int32) (2 : Int32))))])) _
      refine XS.iloadN X42.here hx rfl (hb hby at_174) rfl ?_
      show Steps p.tables e below (T42.setTop (mkF m 175 #[.val (.int cnt), .val (.int bits), .val (.int (2 : Int32)), .val (.ref b22), .val (.int (f3 u33 u34)), .unset] [(.int bits), (.int ((((((f5 bits (0 : Int32) (2 : Int32)) + (f5 bits (1 : Int32) (2 : Int32))) + (f5 bits (2 : Int32) (2 : Int32))) + (f5 bits (3 : Int32) (2 : Int32))) + (f5 bits (4 : Int32) (2 : Int32))) + (f5 bits (5 : Int32) (2 : Int32))))])) _
      refine XS.bipush X42.here hx rfl (hb hby at_175) ?_
      show Steps p.tables e below (T42.setTop (mkF m 177 #[.val (.int cnt), .val (.int bits), .val (.int (2 : Int32)), .val (.ref b22), .val (.int (f3 u33 u34)), .unset] [(.int (6 : Int32)), (.int bits), (.int ((((((f5 bits (0 : Int32) (2 : Int32)) + (f5 bits (1 : Int32) (2 : Int32))) + (f5 bits (2 : Int32) (2 : Int32))) + (f5 bits (3 : Int32) (2 : Int32))) + (f5 bits (4 : Int32) (2 : Int32))) + (f5 bits (5 : Int32) (2 : Int32))))])) _
      refine XS.iloadN X42.here hx rfl (hb hby at_177) rfl ?_
      exact kt
    obtain ⟨_, _, ⟨T43, L43, k43, n43⟩, -, X43, ⟨Lc43, hQ43, l43, y43, z43⟩, st43⟩ := Jvm.LawKit.callS X42 hx (y := (⟨"com/example/gallant_courier/gallantcourier/core/LossRateWaitsPerDoublingPinLaw", "one", "(III)I"⟩ : MethodName)) hown (mvT hZ (hw _ (List.mem_of_getElem? (i := 28) rfl))) (mvT hZ (hw _ (List.mem_of_getElem? (i := 29) rfl))) (mvT hZ (hw _ (List.mem_of_getElem? (i := 11) rfl))) (mvT hZ (hw _ (List.mem_of_getElem? (i := 30) rfl))) (by decide) (backOf (W := 1) (rm5 l Z aa hw [] bits (6 : Int32) (2 : Int32) T31.heap n0 O31) hZ (hw _ (List.mem_of_getElem? (i := 30) rfl)) (hw _ (List.mem_of_getElem? (i := 11) rfl)) (by decide) (by decide)) (g := (mkF m 178 #[.val (.int cnt), .val (.int bits), .val (.int (2 : Int32)), .val (.ref b22), .val (.int (f3 u33 u34)), .unset] [(.int (2 : Int32)), (.int (6 : Int32)), (.int bits), (.int ((((((f5 bits (0 : Int32) (2 : Int32)) + (f5 bits (1 : Int32) (2 : Int32))) + (f5 bits (2 : Int32) (2 : Int32))) + (f5 bits (3 : Int32) (2 : Int32))) + (f5 bits (4 : Int32) (2 : Int32))) + (f5 bits (5 : Int32) (2 : Int32))))])) rfl (by rw [hml]; rfl) (argsL := [(.int bits), (.int (6 : Int32)), (.int (2 : Int32))]) (rest := [(.int ((((((f5 bits (0 : Int32) (2 : Int32)) + (f5 bits (1 : Int32) (2 : Int32))) + (f5 bits (2 : Int32) (2 : Int32))) + (f5 bits (3 : Int32) (2 : Int32))) + (f5 bits (4 : Int32) (2 : Int32))) + (f5 bits (5 : Int32) (2 : Int32))))]) (lenOf pd_oIIIcI rfl) rfl (by show 2 * 0 + _ ≤ _; exact Nat.le_of_eq rfl) (hb hby at_178) (fun _ _ => ⟨rfl, e42, (by decide : 1 + 0 ≤ _), (by decide : 2 + 0 ≤ _)⟩)
    dsimp only [Pt.U, Pt.locs, Pt.cells, Pt.slots] at X43 l43 y43 z43 st43 hQ43
    subst l43 y43 z43
    obtain ⟨rfl, rfl, e43⟩ := hQ43
    try rw [List.append_nil] at X43
    refine Gl.up (B := T43.setTop (mkF m 181 #[.val (.int cnt), .val (.int bits), .val (.int (2 : Int32)), .val (.ref b22), .val (.int (f3 u33 u34)), .unset] [(.int (f5 bits (6 : Int32) (2 : Int32))), (.int ((((((f5 bits (0 : Int32) (2 : Int32)) + (f5 bits (1 : Int32) (2 : Int32))) + (f5 bits (2 : Int32) (2 : Int32))) + (f5 bits (3 : Int32) (2 : Int32))) + (f5 bits (4 : Int32) (2 : Int32))) + (f5 bits (5 : Int32) (2 : Int32))))])) (fun t kt => st43 _ kt) ?_
    refine Gl.up (B := T43.setTop (mkF m 186 #[.val (.int cnt), .val (.int bits), .val (.int (2 : Int32)), .val (.ref b22), .val (.int (f3 u33 u34)), .unset] [(.int (2 : Int32)), (.int (7 : Int32)), (.int bits), (.int (((((((f5 bits (0 : Int32) (2 : Int32)) + (f5 bits (1 : Int32) (2 : Int32))) + (f5 bits (2 : Int32) (2 : Int32))) + (f5 bits (3 : Int32) (2 : Int32))) + (f5 bits (4 : Int32) (2 : Int32))) + (f5 bits (5 : Int32) (2 : Int32))) + (f5 bits (6 : Int32) (2 : Int32))))])) (fun t kt => ?_) ?_
    · refine XS.iadd X43.here hx rfl (hb hby at_181) rfl ?_
      show Steps p.tables e below (T43.setTop (mkF m 182 #[.val (.int cnt), .val (.int bits), .val (.int (2 : Int32)), .val (.ref b22), .val (.int (f3 u33 u34)), .unset] [(.int (((((((f5 bits (0 : Int32) (2 : Int32)) + (f5 bits (1 : Int32) (2 : Int32))) + (f5 bits (2 : Int32) (2 : Int32))) + (f5 bits (3 : Int32) (2 : Int32))) + (f5 bits (4 : Int32) (2 : Int32))) + (f5 bits (5 : Int32) (2 : Int32))) + (f5 bits (6 : Int32) (2 : Int32))))])) _
      refine XS.iloadN X43.here hx rfl (hb hby at_182) rfl ?_
      show Steps p.tables e below (T43.setTop (mkF m 183 #[.val (.int cnt), .val (.int bits), .val (.int (2 : Int32)), .val (.ref b22), .val (.int (f3 u33 u34)), .unset] [(.int bits), (.int (((((((f5 bits (0 : Int32) (2 : Int32)) + (f5 bits (1 : Int32) (2 : Int32))) + (f5 bits (2 : Int32) (2 : Int32))) + (f5 bits (3 : Int32) (2 : Int32))) + (f5 bits (4 : Int32) (2 : Int32))) + (f5 bits (5 : Int32) (2 : Int32))) + (f5 bits (6 : Int32) (2 : Int32))))])) _
      refine XS.bipush X43.here hx rfl (hb hby at_183) ?_
      show Steps p.tables e below (T43.setTop (mkF m 185 #[.val (.int cnt), .val (.int bits), .val (.int (2 : Int32)), .val (.ref b22), .val (.int (f3 u33 u34)), .unset] [(.int (7 : Int32)), (.int bits), (.int (((((((f5 bits (0 : Int32) (2 : Int32)) + (f5 bits (1 : Int32) (2 : Int32))) + (f5 bits (2 : Int32) (2 : Int32))) + (f5 bits (3 : Int32) (2 : Int32))) + (f5 bits (4 : Int32) (2 : Int32))) + (f5 bits (5 : Int32) (2 : Int32))) + (f5 bits (6 : Int32) (2 : Int32))))])) _
      refine XS.iloadN X43.here hx rfl (hb hby at_185) rfl ?_
      exact kt
    obtain ⟨_, _, ⟨T44, L44, k44, n44⟩, -, X44, ⟨Lc44, hQ44, l44, y44, z44⟩, st44⟩ := Jvm.LawKit.callS X43 hx (y := (⟨"com/example/gallant_courier/gallantcourier/core/LossRateWaitsPerDoublingPinLaw", "one", "(III)I"⟩ : MethodName)) hown (mvT hZ (hw _ (List.mem_of_getElem? (i := 28) rfl))) (mvT hZ (hw _ (List.mem_of_getElem? (i := 29) rfl))) (mvT hZ (hw _ (List.mem_of_getElem? (i := 11) rfl))) (mvT hZ (hw _ (List.mem_of_getElem? (i := 30) rfl))) (by decide) (backOf (W := 1) (rm5 l Z aa hw [] bits (7 : Int32) (2 : Int32) T31.heap n0 O31) hZ (hw _ (List.mem_of_getElem? (i := 30) rfl)) (hw _ (List.mem_of_getElem? (i := 11) rfl)) (by decide) (by decide)) (g := (mkF m 186 #[.val (.int cnt), .val (.int bits), .val (.int (2 : Int32)), .val (.ref b22), .val (.int (f3 u33 u34)), .unset] [(.int (2 : Int32)), (.int (7 : Int32)), (.int bits), (.int (((((((f5 bits (0 : Int32) (2 : Int32)) + (f5 bits (1 : Int32) (2 : Int32))) + (f5 bits (2 : Int32) (2 : Int32))) + (f5 bits (3 : Int32) (2 : Int32))) + (f5 bits (4 : Int32) (2 : Int32))) + (f5 bits (5 : Int32) (2 : Int32))) + (f5 bits (6 : Int32) (2 : Int32))))])) rfl (by rw [hml]; rfl) (argsL := [(.int bits), (.int (7 : Int32)), (.int (2 : Int32))]) (rest := [(.int (((((((f5 bits (0 : Int32) (2 : Int32)) + (f5 bits (1 : Int32) (2 : Int32))) + (f5 bits (2 : Int32) (2 : Int32))) + (f5 bits (3 : Int32) (2 : Int32))) + (f5 bits (4 : Int32) (2 : Int32))) + (f5 bits (5 : Int32) (2 : Int32))) + (f5 bits (6 : Int32) (2 : Int32))))]) (lenOf pd_oIIIcI rfl) rfl (by show 2 * 0 + _ ≤ _; exact Nat.le_of_eq rfl) (hb hby at_186) (fun _ _ => ⟨rfl, e43, (by decide : 1 + 0 ≤ _), (by decide : 2 + 0 ≤ _)⟩)
    dsimp only [Pt.U, Pt.locs, Pt.cells, Pt.slots] at X44 l44 y44 z44 st44 hQ44
    subst l44 y44 z44
    obtain ⟨rfl, rfl, e44⟩ := hQ44
    try rw [List.append_nil] at X44
    refine Gl.up (B := T44.setTop (mkF m 189 #[.val (.int cnt), .val (.int bits), .val (.int (2 : Int32)), .val (.ref b22), .val (.int (f3 u33 u34)), .unset] [(.int (f5 bits (7 : Int32) (2 : Int32))), (.int (((((((f5 bits (0 : Int32) (2 : Int32)) + (f5 bits (1 : Int32) (2 : Int32))) + (f5 bits (2 : Int32) (2 : Int32))) + (f5 bits (3 : Int32) (2 : Int32))) + (f5 bits (4 : Int32) (2 : Int32))) + (f5 bits (5 : Int32) (2 : Int32))) + (f5 bits (6 : Int32) (2 : Int32))))])) (fun t kt => st44 _ kt) ?_
    refine Gl.up (B := T44.setTop (mkF m 190 #[.val (.int cnt), .val (.int bits), .val (.int (2 : Int32)), .val (.ref b22), .val (.int (f3 u33 u34)), .unset] [(.int ((((((((f5 bits (0 : Int32) (2 : Int32)) + (f5 bits (1 : Int32) (2 : Int32))) + (f5 bits (2 : Int32) (2 : Int32))) + (f5 bits (3 : Int32) (2 : Int32))) + (f5 bits (4 : Int32) (2 : Int32))) + (f5 bits (5 : Int32) (2 : Int32))) + (f5 bits (6 : Int32) (2 : Int32))) + (f5 bits (7 : Int32) (2 : Int32))))])) (fun t kt => ?_) ?_
    · refine XS.iadd X44.here hx rfl (hb hby at_189) rfl ?_
      exact kt
    obtain ⟨u45, hu45⟩ : ∃ q : Int32, q = ((((((((f5 bits (0 : Int32) (2 : Int32)) + (f5 bits (1 : Int32) (2 : Int32))) + (f5 bits (2 : Int32) (2 : Int32))) + (f5 bits (3 : Int32) (2 : Int32))) + (f5 bits (4 : Int32) (2 : Int32))) + (f5 bits (5 : Int32) (2 : Int32))) + (f5 bits (6 : Int32) (2 : Int32))) + (f5 bits (7 : Int32) (2 : Int32))) := ⟨_, rfl⟩
    rw [← hu45]
    refine Gl.up (B := T44.setTop (mkF m 197 #[.val (.int cnt), .val (.int bits), .val (.int (2 : Int32)), .val (.ref b22), .val (.int (f3 u33 u34)), .val (.int u45)] [(.int (2 : Int32)), (.int u45), (.int (f3 u33 u34))])) (fun t kt => ?_) ?_
    · refine XS.istore X44.here hx rfl (hb hby at_190) rfl (l' := #[.val (.int cnt), .val (.int bits), .val (.int (2 : Int32)), .val (.ref b22), .val (.int (f3 u33 u34)), .val (.int u45)]) rfl ?_
      show Steps p.tables e below (T44.setTop (mkF m 192 #[.val (.int cnt), .val (.int bits), .val (.int (2 : Int32)), .val (.ref b22), .val (.int (f3 u33 u34)), .val (.int u45)] [])) _
      refine XS.iload X44.here hx rfl (hb hby at_192) rfl ?_
      show Steps p.tables e below (T44.setTop (mkF m 194 #[.val (.int cnt), .val (.int bits), .val (.int (2 : Int32)), .val (.ref b22), .val (.int (f3 u33 u34)), .val (.int u45)] [(.int (f3 u33 u34))])) _
      refine XS.iload X44.here hx rfl (hb hby at_194) rfl ?_
      show Steps p.tables e below (T44.setTop (mkF m 196 #[.val (.int cnt), .val (.int bits), .val (.int (2 : Int32)), .val (.ref b22), .val (.int (f3 u33 u34)), .val (.int u45)] [(.int u45), (.int (f3 u33 u34))])) _
      refine XS.iloadN X44.here hx rfl (hb hby at_196) rfl ?_
      exact kt
    obtain ⟨_, _, ⟨T46, L46, k46, n46⟩, -, X46, ⟨Lc46, hQ46, l46, y46, z46⟩, st46⟩ := Jvm.LawKit.callS X44 hx (y := (⟨"com/example/gallant_courier/gallantcourier/core/LossRateWaitsPerDoublingPinLaw", "expected", "(II)I"⟩ : MethodName)) hown (mvT hZ (hw _ (List.mem_of_getElem? (i := 31) rfl))) (mvT hZ (hw _ (List.mem_of_getElem? (i := 32) rfl))) (mvT hZ (hw _ (List.mem_of_getElem? (i := 11) rfl))) (mvT hZ (hw _ (List.mem_of_getElem? (i := 33) rfl))) (by decide) (backOf (W := 1) (rm6 l Z aa hw [] u45 (2 : Int32) T31.heap n0 O31) hZ (hw _ (List.mem_of_getElem? (i := 33) rfl)) (hw _ (List.mem_of_getElem? (i := 11) rfl)) (by decide) (by decide)) (g := (mkF m 197 #[.val (.int cnt), .val (.int bits), .val (.int (2 : Int32)), .val (.ref b22), .val (.int (f3 u33 u34)), .val (.int u45)] [(.int (2 : Int32)), (.int u45), (.int (f3 u33 u34))])) rfl (by rw [hml]; rfl) (argsL := [(.int u45), (.int (2 : Int32))]) (rest := [(.int (f3 u33 u34))]) (lenOf pd_oIIcI rfl) rfl (by show 2 * 0 + _ ≤ _; exact Nat.le_of_eq rfl) (hb hby at_197) (fun _ _ => ⟨rfl, e44, (by decide : 1 + 0 ≤ _), (by decide : 2 + 0 ≤ _)⟩)
    dsimp only [Pt.U, Pt.locs, Pt.cells, Pt.slots] at X46 l46 y46 z46 st46 hQ46
    subst l46 y46 z46
    obtain ⟨rfl, rfl, e46⟩ := hQ46
    try rw [List.append_nil] at X46
    refine Gl.up (B := T46.setTop (mkF m 200 #[.val (.int cnt), .val (.int bits), .val (.int (2 : Int32)), .val (.ref b22), .val (.int (f3 u33 u34)), .val (.int u45)] [(.int (f6 u45 (2 : Int32))), (.int (f3 u33 u34))])) (fun t kt => st46 _ kt) ?_
    have hm47 : u45 = own_sum [(f4 bits (1 : Int32)), (f4 bits (0 : Int32))] := by
      rw [hu45, own_bit _ (0 : Int32) _ (by decide), own_bit _ (1 : Int32) _ (by decide), own_nobit _ (2 : Int32) _ (by decide), own_nobit _ (3 : Int32) _ (by decide), own_nobit _ (4 : Int32) _ (by decide), own_nobit _ (5 : Int32) _ (by decide), own_nobit _ (6 : Int32) _ (by decide), own_nobit _ (7 : Int32) _ (by decide)]
      simp only [own_sum, Int32.add_zero, Int32.zero_add]
    refine Gl.up (B := T46.setTop (mkF m 208 #[.val (.int cnt), .val (.int bits), .val (.int (2 : Int32)), .val (.ref b22), .val (.int (f3 u33 u34)), .val (.int u45)] [(.int (1 : Int32))])) (fun t kt => ?_) ?_
    · refine XS.icmpNo X46.here hx rfl (hb hby at_200) rfl (teq (by rw [hsh35, hsa35, hm47]; exact own_fin2 _ (own_cons (f4_b bits (1 : Int32)) (own_cons (f4_b bits (0 : Int32)) own_nil)))).2 ?_
      show Steps p.tables e below (T46.setTop (mkF m 203 #[.val (.int cnt), .val (.int bits), .val (.int (2 : Int32)), .val (.ref b22), .val (.int (f3 u33 u34)), .val (.int u45)] [])) _
      refine XS.iconst X46.here hx rfl (hb hby at_203) ?_
      show Steps p.tables e below (T46.setTop (mkF m 204 #[.val (.int cnt), .val (.int bits), .val (.int (2 : Int32)), .val (.ref b22), .val (.int (f3 u33 u34)), .val (.int u45)] [(.int (1 : Int32))])) _
      refine XS.goto X46.here hx rfl (pc0 := 204) (pc' := 208) rfl (hb hby at_204) (by decide) (by decide) ?_
      exact kt
    refine Gl.retN X46 hx hlk (t := .boolean) Bd.returns (by simp) (hb hby at_208) (w := (1 : Int32)) rfl ?_ (by decide) (by decide)
    exact ⟨rfl, N31⟩
  · rw [hk]
    obtain ⟨T48, h48, X48, e48, E48, A48, D48, -, st48⟩ := newO X0 hx hZ hown (hw _ (List.mem_of_getElem? (i := 0) rfl)) (hw _ (List.mem_of_getElem? (i := 1) rfl)) (hw _ (List.mem_of_getElem? (i := 2) rfl)) e0 (g := (mkF m 7 #[.val (.int cnt), .val (.int bits), .val (.int (3 : Int32)), .unset, .unset, .unset] [])) rfl (hb hby at_7) (by decide) (by decide)
    obtain ⟨b48, gq48⟩ : ∃ z, z = h0.size := ⟨_, rfl⟩
    rw [← gq48] at A48 D48 st48
    have g_b48 : n0 ≤ b48 := Nat.le_trans (old_le O0) (Nat.le_of_eq gq48.symm)
    have O48 := O0.ext E48
    have F_b48_samples_48 : Fld Z h48 b48 "com/example/gallant_courier/gallantcourier/core/LossRate" "samples" "I" (.int (0 : Int32)) := D48 (Or.inl (hw _ (List.mem_of_getElem? (i := 19) rfl))) (ty := .int) (by decide)
    have F_b48_share_48 : Fld Z h48 b48 "com/example/gallant_courier/gallantcourier/core/LossRate" "share" "D" (.double (0 : UInt64)) := D48 (Or.inl (hw _ (List.mem_of_getElem? (i := 21) rfl))) (ty := .double) (by decide)
    refine Gl.up (B := T48.setTop (mkF m 10 #[.val (.int cnt), .val (.int bits), .val (.int (3 : Int32)), .unset, .unset, .unset] [(.ref b48)])) (fun t kt => st48 _ kt) ?_
    refine Gl.up (B := T48.setTop (mkF m 11 #[.val (.int cnt), .val (.int bits), .val (.int (3 : Int32)), .unset, .unset, .unset] [(.ref b48), (.ref b48)])) (fun t kt => ?_) ?_
    · refine XS.dup X48.here hx rfl (hb hby at_10) rfl rfl ?_
      exact kt
    obtain ⟨_, _, ⟨T49, L49, k49, n49⟩, -, X49, ⟨Lc49, hQ49, l49, y49, z49⟩, st49⟩ := X48.specialBack hx (y := (⟨"com/example/gallant_courier/gallantcourier/core/LossRate", "<init>", "()V"⟩ : MethodName)) rfl hown (mvT hZ (hw _ (List.mem_of_getElem? (i := 3) rfl))) (mvT hZ (hw _ (List.mem_of_getElem? (i := 4) rfl))) (mvT hZ (hw _ (List.mem_of_getElem? (i := 5) rfl))) (by decide) (backOf (W := 1) (rm1 l Z aa hw [] b48 (0 : UInt64) (0 : Int32) h48 n0 O48 A48 F_b48_share_48 F_b48_samples_48 g_b48) hZ (hw _ (List.mem_of_getElem? (i := 5) rfl)) (hw _ (List.mem_of_getElem? (i := 2) rfl)) (by decide) (by decide)) (g := (mkF m 11 #[.val (.int cnt), .val (.int bits), .val (.int (3 : Int32)), .unset, .unset, .unset] [(.ref b48), (.ref b48)])) rfl (by rw [hml]; rfl) (Steps.refl _) (a := b48) (argsL := []) (rest := [(.ref b48)]) (lenOf pd_ocV rfl) rfl (by show 2 * 0 + _ ≤ _; exact Nat.le_of_eq rfl) (hb hby at_11) (fun _ _ => ⟨rfl, e48, (by decide : 1 + 0 ≤ _), (by decide : 2 + 0 ≤ _)⟩)
    dsimp only [Pt.U, Pt.locs, Pt.cells, Pt.slots] at X49 l49 y49 z49 st49 hQ49
    subst l49 y49 z49
    obtain ⟨rfl, M49, K49, F_b48_share_49, F_b48_samples_49⟩ := hQ49
    have N49 := Fr.app N0 M49
    have O49 := O48.keep K49 (allS g_b48 all0)
    have E_b48_49 := A48.keep K49
    refine Gl.up (B := T49.setTop (mkF m 14 #[.val (.int cnt), .val (.int bits), .val (.int (3 : Int32)), .unset, .unset, .unset] [(.ref b48)])) (fun t kt => st49.trans kt) ?_
    refine Gl.up (B := T49.setTop (mkF m 18 #[.val (.int cnt), .val (.int bits), .val (.int (3 : Int32)), .val (.ref b48), .unset, .unset] [(.int (0 : Int32)), (.int bits), (.ref b48)])) (fun t kt => ?_) ?_
    · refine XS.astoreN X49.here hx rfl (hb hby at_14) rfl rfl (l' := #[.val (.int cnt), .val (.int bits), .val (.int (3 : Int32)), .val (.ref b48), .unset, .unset]) rfl ?_
      show Steps p.tables e below (T49.setTop (mkF m 15 #[.val (.int cnt), .val (.int bits), .val (.int (3 : Int32)), .val (.ref b48), .unset, .unset] [])) _
      refine XS.aloadN X49.here hx rfl (hb hby at_15) rfl rfl ?_
      show Steps p.tables e below (T49.setTop (mkF m 16 #[.val (.int cnt), .val (.int bits), .val (.int (3 : Int32)), .val (.ref b48), .unset, .unset] [(.ref b48)])) _
      refine XS.iloadN X49.here hx rfl (hb hby at_16) rfl ?_
      show Steps p.tables e below (T49.setTop (mkF m 17 #[.val (.int cnt), .val (.int bits), .val (.int (3 : Int32)), .val (.ref b48), .unset, .unset] [(.int bits), (.ref b48)])) _
      refine XS.iconst X49.here hx rfl (hb hby at_17) ?_
      exact kt
    obtain ⟨_, _, ⟨T50, L50, k50, n50⟩, -, X50, ⟨Lc50, hQ50, l50, y50, z50⟩, st50⟩ := Jvm.LawKit.callS X49 hx (y := (⟨"com/example/gallant_courier/gallantcourier/core/LossRateWaitsPerDoublingPinLaw", "bit", "(II)Z"⟩ : MethodName)) hown (mvT hZ (hw _ (List.mem_of_getElem? (i := 9) rfl))) (mvT hZ (hw _ (List.mem_of_getElem? (i := 10) rfl))) (mvT hZ (hw _ (List.mem_of_getElem? (i := 11) rfl))) (mvT hZ (hw _ (List.mem_of_getElem? (i := 12) rfl))) (by decide) (backOf (W := 1) (rm4 l Z aa hw [] bits (0 : Int32) T49.heap n0 O49) hZ (hw _ (List.mem_of_getElem? (i := 12) rfl)) (hw _ (List.mem_of_getElem? (i := 11) rfl)) (by decide) (by decide)) (g := (mkF m 18 #[.val (.int cnt), .val (.int bits), .val (.int (3 : Int32)), .val (.ref b48), .unset, .unset] [(.int (0 : Int32)), (.int bits), (.ref b48)])) rfl (by rw [hml]; rfl) (argsL := [(.int bits), (.int (0 : Int32))]) (rest := [(.ref b48)]) (lenOf pd_oIIcZ rfl) rfl (by show 2 * 0 + _ ≤ _; exact Nat.le_of_eq rfl) (hb hby at_18) (fun _ _ => ⟨rfl, rfl, (by decide : 1 + 0 ≤ _), (by decide : 2 + 0 ≤ _)⟩)
    dsimp only [Pt.U, Pt.locs, Pt.cells, Pt.slots] at X50 l50 y50 z50 st50 hQ50
    subst l50 y50 z50
    obtain ⟨rfl, rfl, e50⟩ := hQ50
    try rw [List.append_nil] at X50
    refine Gl.up (B := T50.setTop (mkF m 21 #[.val (.int cnt), .val (.int bits), .val (.int (3 : Int32)), .val (.ref b48), .unset, .unset] [(.int (f4 bits (0 : Int32))), (.ref b48)])) (fun t kt => st50 _ kt) ?_
    have hp52 : own_pres (f4 bits (0 : Int32)) (0 : UInt64) (0 : Int32) := own_pre0 _ own_nil _ (own_b01 (f4_b bits (0 : Int32)))
    obtain ⟨cq51, kq51, q51a, q51b, q51c⟩ := isOf hZ e50 E_b48_49
    obtain ⟨_, _, ⟨T51, L51, k51, n51⟩, -, X51, ⟨Lc51, hQ51, l51, y51, z51⟩, st51⟩ := X50.virtualBack hx (y := (⟨"com/example/gallant_courier/gallantcourier/core/LossRate", "sample", "(Z)V"⟩ : MethodName)) (z := (⟨"com/example/gallant_courier/gallantcourier/core/LossRate", "sample", "(Z)V"⟩ : MethodName)) hown (mvT hZ (hw _ (List.mem_of_getElem? (i := 13) rfl))) (mvT hZ (hw _ (List.mem_of_getElem? (i := 14) rfl))) (notFace_of_selects (args := #[]) (mvT hZ (hw _ (List.mem_of_getElem? (i := 16) rfl)))) (mvT hZ (hw _ (List.mem_of_getElem? (i := 16) rfl))) (mvT hZ (hw _ (List.mem_of_getElem? (i := 15) rfl))) (by decide) (backOf (W := 0) (rm2 l Z aa hw [] b48 (f4 bits (0 : Int32)) (0 : UInt64) (0 : Int32) T49.heap n0 O49 E_b48_49 F_b48_share_49 F_b48_samples_49 g_b48 hp52.1 hp52.2.1 hp52.2.2) hZ (hw _ (List.mem_of_getElem? (i := 17) rfl)) (hw _ (List.mem_of_getElem? (i := 2) rfl)) (by decide) (by decide)) q51a q51c (g := (mkF m 21 #[.val (.int cnt), .val (.int bits), .val (.int (3 : Int32)), .val (.ref b48), .unset, .unset] [(.int (f4 bits (0 : Int32))), (.ref b48)])) rfl (by rw [hml]; rfl) (Steps.refl _) (argsL := [(.int (f4 bits (0 : Int32)))]) (rest := []) (lenOf pd_oZcV rfl) rfl (by show 2 * 0 + _ ≤ _; exact Nat.le_of_eq rfl) (hb hby at_21) (fun _ _ => ⟨rfl, e50, (by decide : 1 + 0 ≤ _), (by decide : 2 + 0 ≤ _)⟩)
    dsimp only [Pt.U, Pt.locs, Pt.cells, Pt.slots] at X51 l51 y51 z51 st51 hQ51
    subst l51 y51 z51
    obtain ⟨rfl, M51, K51, F_b48_share_51, F_b48_samples_51⟩ := hQ51
    have N51 := Fr.app N49 M51
    have O51 := O49.keep K51 (allS g_b48 all0)
    have E_b48_51 := E_b48_49.keep K51
    obtain ⟨u53, hu53⟩ : ∃ q : UInt64, q = (f2_share (f4 bits (0 : Int32)) (0 : UInt64) (0 : Int32)) := ⟨_, rfl⟩
    rw [← hu53] at F_b48_share_51
    obtain ⟨u54, hu54⟩ : ∃ q : Int32, q = (f2_samples (f4 bits (0 : Int32)) (0 : UInt64) (0 : Int32)) := ⟨_, rfl⟩
    rw [← hu54] at F_b48_samples_51
    refine Gl.up (B := T51.setTop (mkF m 24 #[.val (.int cnt), .val (.int bits), .val (.int (3 : Int32)), .val (.ref b48), .unset, .unset] [])) (fun t kt => st51.trans kt) ?_
    have hsh55 : u53 = (own_st [(f4 bits (0 : Int32))]).1 := by rw [hu53]; first | rfl | (simp only [own_st])
    have hsa55 : u54 = (own_st [(f4 bits (0 : Int32))]).2 := by rw [hu54]; first | rfl | (simp only [own_st])
    refine Gl.up (B := T51.setTop (mkF m 32 #[.val (.int cnt), .val (.int bits), .val (.int (3 : Int32)), .val (.ref b48), .unset, .unset] [(.int (1 : Int32)), (.int bits), (.ref b48)])) (fun t kt => ?_) ?_
    · refine XS.iloadN X51.here hx rfl (hb hby at_24) rfl ?_
      show Steps p.tables e below (T51.setTop (mkF m 25 #[.val (.int cnt), .val (.int bits), .val (.int (3 : Int32)), .val (.ref b48), .unset, .unset] [(.int (3 : Int32))])) _
      refine XS.iconst X51.here hx rfl (hb hby at_25) ?_
      show Steps p.tables e below (T51.setTop (mkF m 26 #[.val (.int cnt), .val (.int bits), .val (.int (3 : Int32)), .val (.ref b48), .unset, .unset] [(.int (2 : Int32)), (.int (3 : Int32))])) _
      refine XS.icmpNo X51.here hx rfl (hb hby at_26) rfl (flt (by decide : ¬ ((3 : Int32) < (2 : Int32)))).1 ?_
      show Steps p.tables e below (T51.setTop (mkF m 29 #[.val (.int cnt), .val (.int bits), .val (.int (3 : Int32)), .val (.ref b48), .unset, .unset] [])) _
      refine XS.aloadN X51.here hx rfl (hb hby at_29) rfl rfl ?_
      show Steps p.tables e below (T51.setTop (mkF m 30 #[.val (.int cnt), .val (.int bits), .val (.int (3 : Int32)), .val (.ref b48), .unset, .unset] [(.ref b48)])) _
      refine XS.iloadN X51.here hx rfl (hb hby at_30) rfl ?_
      show Steps p.tables e below (T51.setTop (mkF m 31 #[.val (.int cnt), .val (.int bits), .val (.int (3 : Int32)), .val (.ref b48), .unset, .unset] [(.int bits), (.ref b48)])) _
      refine XS.iconst X51.here hx rfl (hb hby at_31) ?_
      exact kt
    obtain ⟨_, _, ⟨T56, L56, k56, n56⟩, -, X56, ⟨Lc56, hQ56, l56, y56, z56⟩, st56⟩ := Jvm.LawKit.callS X51 hx (y := (⟨"com/example/gallant_courier/gallantcourier/core/LossRateWaitsPerDoublingPinLaw", "bit", "(II)Z"⟩ : MethodName)) hown (mvT hZ (hw _ (List.mem_of_getElem? (i := 9) rfl))) (mvT hZ (hw _ (List.mem_of_getElem? (i := 10) rfl))) (mvT hZ (hw _ (List.mem_of_getElem? (i := 11) rfl))) (mvT hZ (hw _ (List.mem_of_getElem? (i := 12) rfl))) (by decide) (backOf (W := 1) (rm4 l Z aa hw [] bits (1 : Int32) T51.heap n0 O51) hZ (hw _ (List.mem_of_getElem? (i := 12) rfl)) (hw _ (List.mem_of_getElem? (i := 11) rfl)) (by decide) (by decide)) (g := (mkF m 32 #[.val (.int cnt), .val (.int bits), .val (.int (3 : Int32)), .val (.ref b48), .unset, .unset] [(.int (1 : Int32)), (.int bits), (.ref b48)])) rfl (by rw [hml]; rfl) (argsL := [(.int bits), (.int (1 : Int32))]) (rest := [(.ref b48)]) (lenOf pd_oIIcZ rfl) rfl (by show 2 * 0 + _ ≤ _; exact Nat.le_of_eq rfl) (hb hby at_32) (fun _ _ => ⟨rfl, rfl, (by decide : 1 + 0 ≤ _), (by decide : 2 + 0 ≤ _)⟩)
    dsimp only [Pt.U, Pt.locs, Pt.cells, Pt.slots] at X56 l56 y56 z56 st56 hQ56
    subst l56 y56 z56
    obtain ⟨rfl, rfl, e56⟩ := hQ56
    try rw [List.append_nil] at X56
    refine Gl.up (B := T56.setTop (mkF m 35 #[.val (.int cnt), .val (.int bits), .val (.int (3 : Int32)), .val (.ref b48), .unset, .unset] [(.int (f4 bits (1 : Int32))), (.ref b48)])) (fun t kt => st56 _ kt) ?_
    have hp58 : own_pres (f4 bits (1 : Int32)) u53 u54 := by rw [hsh55, hsa55]; exact own_pre1 _ (own_cons (f4_b bits (0 : Int32)) own_nil) _ (own_b01 (f4_b bits (1 : Int32)))
    obtain ⟨cq57, kq57, q57a, q57b, q57c⟩ := isOf hZ e56 E_b48_51
    obtain ⟨_, _, ⟨T57, L57, k57, n57⟩, -, X57, ⟨Lc57, hQ57, l57, y57, z57⟩, st57⟩ := X56.virtualBack hx (y := (⟨"com/example/gallant_courier/gallantcourier/core/LossRate", "sample", "(Z)V"⟩ : MethodName)) (z := (⟨"com/example/gallant_courier/gallantcourier/core/LossRate", "sample", "(Z)V"⟩ : MethodName)) hown (mvT hZ (hw _ (List.mem_of_getElem? (i := 13) rfl))) (mvT hZ (hw _ (List.mem_of_getElem? (i := 14) rfl))) (notFace_of_selects (args := #[]) (mvT hZ (hw _ (List.mem_of_getElem? (i := 16) rfl)))) (mvT hZ (hw _ (List.mem_of_getElem? (i := 16) rfl))) (mvT hZ (hw _ (List.mem_of_getElem? (i := 15) rfl))) (by decide) (backOf (W := 0) (rm2 l Z aa hw [] b48 (f4 bits (1 : Int32)) u53 u54 T51.heap n0 O51 E_b48_51 F_b48_share_51 F_b48_samples_51 g_b48 hp58.1 hp58.2.1 hp58.2.2) hZ (hw _ (List.mem_of_getElem? (i := 17) rfl)) (hw _ (List.mem_of_getElem? (i := 2) rfl)) (by decide) (by decide)) q57a q57c (g := (mkF m 35 #[.val (.int cnt), .val (.int bits), .val (.int (3 : Int32)), .val (.ref b48), .unset, .unset] [(.int (f4 bits (1 : Int32))), (.ref b48)])) rfl (by rw [hml]; rfl) (Steps.refl _) (argsL := [(.int (f4 bits (1 : Int32)))]) (rest := []) (lenOf pd_oZcV rfl) rfl (by show 2 * 0 + _ ≤ _; exact Nat.le_of_eq rfl) (hb hby at_35) (fun _ _ => ⟨rfl, e56, (by decide : 1 + 0 ≤ _), (by decide : 2 + 0 ≤ _)⟩)
    dsimp only [Pt.U, Pt.locs, Pt.cells, Pt.slots] at X57 l57 y57 z57 st57 hQ57
    subst l57 y57 z57
    obtain ⟨rfl, M57, K57, F_b48_share_57, F_b48_samples_57⟩ := hQ57
    have N57 := Fr.app N51 M57
    have O57 := O51.keep K57 (allS g_b48 all0)
    have E_b48_57 := E_b48_51.keep K57
    obtain ⟨u59, hu59⟩ : ∃ q : UInt64, q = (f2_share (f4 bits (1 : Int32)) u53 u54) := ⟨_, rfl⟩
    rw [← hu59] at F_b48_share_57
    obtain ⟨u60, hu60⟩ : ∃ q : Int32, q = (f2_samples (f4 bits (1 : Int32)) u53 u54) := ⟨_, rfl⟩
    rw [← hu60] at F_b48_samples_57
    refine Gl.up (B := T57.setTop (mkF m 38 #[.val (.int cnt), .val (.int bits), .val (.int (3 : Int32)), .val (.ref b48), .unset, .unset] [])) (fun t kt => st57.trans kt) ?_
    have hsh61 : u59 = (own_st [(f4 bits (1 : Int32)), (f4 bits (0 : Int32))]).1 := by rw [hu59, hsh55, hsa55]; exact (own_st1 _ _).symm
    have hsa61 : u60 = (own_st [(f4 bits (1 : Int32)), (f4 bits (0 : Int32))]).2 := by rw [hu60, hsh55, hsa55]; exact (own_st2 _ _).symm
    refine Gl.up (B := T57.setTop (mkF m 46 #[.val (.int cnt), .val (.int bits), .val (.int (3 : Int32)), .val (.ref b48), .unset, .unset] [(.int (2 : Int32)), (.int bits), (.ref b48)])) (fun t kt => ?_) ?_
    · refine XS.iloadN X57.here hx rfl (hb hby at_38) rfl ?_
      show Steps p.tables e below (T57.setTop (mkF m 39 #[.val (.int cnt), .val (.int bits), .val (.int (3 : Int32)), .val (.ref b48), .unset, .unset] [(.int (3 : Int32))])) _
      refine XS.iconst X57.here hx rfl (hb hby at_39) ?_
      show Steps p.tables e below (T57.setTop (mkF m 40 #[.val (.int cnt), .val (.int bits), .val (.int (3 : Int32)), .val (.ref b48), .unset, .unset] [(.int (3 : Int32)), (.int (3 : Int32))])) _
      refine XS.icmpNo X57.here hx rfl (hb hby at_40) rfl (flt (by decide : ¬ ((3 : Int32) < (3 : Int32)))).1 ?_
      show Steps p.tables e below (T57.setTop (mkF m 43 #[.val (.int cnt), .val (.int bits), .val (.int (3 : Int32)), .val (.ref b48), .unset, .unset] [])) _
      refine XS.aloadN X57.here hx rfl (hb hby at_43) rfl rfl ?_
      show Steps p.tables e below (T57.setTop (mkF m 44 #[.val (.int cnt), .val (.int bits), .val (.int (3 : Int32)), .val (.ref b48), .unset, .unset] [(.ref b48)])) _
      refine XS.iloadN X57.here hx rfl (hb hby at_44) rfl ?_
      show Steps p.tables e below (T57.setTop (mkF m 45 #[.val (.int cnt), .val (.int bits), .val (.int (3 : Int32)), .val (.ref b48), .unset, .unset] [(.int bits), (.ref b48)])) _
      refine XS.iconst X57.here hx rfl (hb hby at_45) ?_
      exact kt
    obtain ⟨_, _, ⟨T62, L62, k62, n62⟩, -, X62, ⟨Lc62, hQ62, l62, y62, z62⟩, st62⟩ := Jvm.LawKit.callS X57 hx (y := (⟨"com/example/gallant_courier/gallantcourier/core/LossRateWaitsPerDoublingPinLaw", "bit", "(II)Z"⟩ : MethodName)) hown (mvT hZ (hw _ (List.mem_of_getElem? (i := 9) rfl))) (mvT hZ (hw _ (List.mem_of_getElem? (i := 10) rfl))) (mvT hZ (hw _ (List.mem_of_getElem? (i := 11) rfl))) (mvT hZ (hw _ (List.mem_of_getElem? (i := 12) rfl))) (by decide) (backOf (W := 1) (rm4 l Z aa hw [] bits (2 : Int32) T57.heap n0 O57) hZ (hw _ (List.mem_of_getElem? (i := 12) rfl)) (hw _ (List.mem_of_getElem? (i := 11) rfl)) (by decide) (by decide)) (g := (mkF m 46 #[.val (.int cnt), .val (.int bits), .val (.int (3 : Int32)), .val (.ref b48), .unset, .unset] [(.int (2 : Int32)), (.int bits), (.ref b48)])) rfl (by rw [hml]; rfl) (argsL := [(.int bits), (.int (2 : Int32))]) (rest := [(.ref b48)]) (lenOf pd_oIIcZ rfl) rfl (by show 2 * 0 + _ ≤ _; exact Nat.le_of_eq rfl) (hb hby at_46) (fun _ _ => ⟨rfl, rfl, (by decide : 1 + 0 ≤ _), (by decide : 2 + 0 ≤ _)⟩)
    dsimp only [Pt.U, Pt.locs, Pt.cells, Pt.slots] at X62 l62 y62 z62 st62 hQ62
    subst l62 y62 z62
    obtain ⟨rfl, rfl, e62⟩ := hQ62
    try rw [List.append_nil] at X62
    refine Gl.up (B := T62.setTop (mkF m 49 #[.val (.int cnt), .val (.int bits), .val (.int (3 : Int32)), .val (.ref b48), .unset, .unset] [(.int (f4 bits (2 : Int32))), (.ref b48)])) (fun t kt => st62 _ kt) ?_
    have hp64 : own_pres (f4 bits (2 : Int32)) u59 u60 := by rw [hsh61, hsa61]; exact own_pre2 _ (own_cons (f4_b bits (1 : Int32)) (own_cons (f4_b bits (0 : Int32)) own_nil)) _ (own_b01 (f4_b bits (2 : Int32)))
    obtain ⟨cq63, kq63, q63a, q63b, q63c⟩ := isOf hZ e62 E_b48_57
    obtain ⟨_, _, ⟨T63, L63, k63, n63⟩, -, X63, ⟨Lc63, hQ63, l63, y63, z63⟩, st63⟩ := X62.virtualBack hx (y := (⟨"com/example/gallant_courier/gallantcourier/core/LossRate", "sample", "(Z)V"⟩ : MethodName)) (z := (⟨"com/example/gallant_courier/gallantcourier/core/LossRate", "sample", "(Z)V"⟩ : MethodName)) hown (mvT hZ (hw _ (List.mem_of_getElem? (i := 13) rfl))) (mvT hZ (hw _ (List.mem_of_getElem? (i := 14) rfl))) (notFace_of_selects (args := #[]) (mvT hZ (hw _ (List.mem_of_getElem? (i := 16) rfl)))) (mvT hZ (hw _ (List.mem_of_getElem? (i := 16) rfl))) (mvT hZ (hw _ (List.mem_of_getElem? (i := 15) rfl))) (by decide) (backOf (W := 0) (rm2 l Z aa hw [] b48 (f4 bits (2 : Int32)) u59 u60 T57.heap n0 O57 E_b48_57 F_b48_share_57 F_b48_samples_57 g_b48 hp64.1 hp64.2.1 hp64.2.2) hZ (hw _ (List.mem_of_getElem? (i := 17) rfl)) (hw _ (List.mem_of_getElem? (i := 2) rfl)) (by decide) (by decide)) q63a q63c (g := (mkF m 49 #[.val (.int cnt), .val (.int bits), .val (.int (3 : Int32)), .val (.ref b48), .unset, .unset] [(.int (f4 bits (2 : Int32))), (.ref b48)])) rfl (by rw [hml]; rfl) (Steps.refl _) (argsL := [(.int (f4 bits (2 : Int32)))]) (rest := []) (lenOf pd_oZcV rfl) rfl (by show 2 * 0 + _ ≤ _; exact Nat.le_of_eq rfl) (hb hby at_49) (fun _ _ => ⟨rfl, e62, (by decide : 1 + 0 ≤ _), (by decide : 2 + 0 ≤ _)⟩)
    dsimp only [Pt.U, Pt.locs, Pt.cells, Pt.slots] at X63 l63 y63 z63 st63 hQ63
    subst l63 y63 z63
    obtain ⟨rfl, M63, K63, F_b48_share_63, F_b48_samples_63⟩ := hQ63
    have N63 := Fr.app N57 M63
    have O63 := O57.keep K63 (allS g_b48 all0)
    have E_b48_63 := E_b48_57.keep K63
    obtain ⟨u65, hu65⟩ : ∃ q : UInt64, q = (f2_share (f4 bits (2 : Int32)) u59 u60) := ⟨_, rfl⟩
    rw [← hu65] at F_b48_share_63
    obtain ⟨u66, hu66⟩ : ∃ q : Int32, q = (f2_samples (f4 bits (2 : Int32)) u59 u60) := ⟨_, rfl⟩
    rw [← hu66] at F_b48_samples_63
    refine Gl.up (B := T63.setTop (mkF m 52 #[.val (.int cnt), .val (.int bits), .val (.int (3 : Int32)), .val (.ref b48), .unset, .unset] [])) (fun t kt => st63.trans kt) ?_
    have hsh67 : u65 = (own_st [(f4 bits (2 : Int32)), (f4 bits (1 : Int32)), (f4 bits (0 : Int32))]).1 := by rw [hu65, hsh61, hsa61]; exact (own_st1 _ _).symm
    have hsa67 : u66 = (own_st [(f4 bits (2 : Int32)), (f4 bits (1 : Int32)), (f4 bits (0 : Int32))]).2 := by rw [hu66, hsh61, hsa61]; exact (own_st2 _ _).symm
    refine Gl.up (B := T63.setTop (mkF m 128 #[.val (.int cnt), .val (.int bits), .val (.int (3 : Int32)), .val (.ref b48), .unset, .unset] [(.ref b48)])) (fun t kt => ?_) ?_
    · refine XS.iloadN X63.here hx rfl (hb hby at_52) rfl ?_
      show Steps p.tables e below (T63.setTop (mkF m 53 #[.val (.int cnt), .val (.int bits), .val (.int (3 : Int32)), .val (.ref b48), .unset, .unset] [(.int (3 : Int32))])) _
      refine XS.iconst X63.here hx rfl (hb hby at_53) ?_
      show Steps p.tables e below (T63.setTop (mkF m 54 #[.val (.int cnt), .val (.int bits), .val (.int (3 : Int32)), .val (.ref b48), .unset, .unset] [(.int (4 : Int32)), (.int (3 : Int32))])) _
      refine XS.icmpYes X63.here hx rfl (pc0 := 54) (pc' := 66) rfl (hb hby at_54) rfl (tlt (by decide : (3 : Int32) < (4 : Int32))).1 (by decide) (by decide) ?_
      show Steps p.tables e below (T63.setTop (mkF m 66 #[.val (.int cnt), .val (.int bits), .val (.int (3 : Int32)), .val (.ref b48), .unset, .unset] [])) _
      refine XS.iloadN X63.here hx rfl (hb hby at_66) rfl ?_
      show Steps p.tables e below (T63.setTop (mkF m 67 #[.val (.int cnt), .val (.int bits), .val (.int (3 : Int32)), .val (.ref b48), .unset, .unset] [(.int (3 : Int32))])) _
      refine XS.iconst X63.here hx rfl (hb hby at_67) ?_
      show Steps p.tables e below (T63.setTop (mkF m 68 #[.val (.int cnt), .val (.int bits), .val (.int (3 : Int32)), .val (.ref b48), .unset, .unset] [(.int (5 : Int32)), (.int (3 : Int32))])) _
      refine XS.icmpYes X63.here hx rfl (pc0 := 68) (pc' := 80) rfl (hb hby at_68) rfl (tlt (by decide : (3 : Int32) < (5 : Int32))).1 (by decide) (by decide) ?_
      show Steps p.tables e below (T63.setTop (mkF m 80 #[.val (.int cnt), .val (.int bits), .val (.int (3 : Int32)), .val (.ref b48), .unset, .unset] [])) _
      refine XS.iloadN X63.here hx rfl (hb hby at_80) rfl ?_
      show Steps p.tables e below (T63.setTop (mkF m 81 #[.val (.int cnt), .val (.int bits), .val (.int (3 : Int32)), .val (.ref b48), .unset, .unset] [(.int (3 : Int32))])) _
      refine XS.bipush X63.here hx rfl (hb hby at_81) ?_
      show Steps p.tables e below (T63.setTop (mkF m 83 #[.val (.int cnt), .val (.int bits), .val (.int (3 : Int32)), .val (.ref b48), .unset, .unset] [(.int (6 : Int32)), (.int (3 : Int32))])) _
      refine XS.icmpYes X63.here hx rfl (pc0 := 83) (pc' := 95) rfl (hb hby at_83) rfl (tlt (by decide : (3 : Int32) < (6 : Int32))).1 (by decide) (by decide) ?_
      show Steps p.tables e below (T63.setTop (mkF m 95 #[.val (.int cnt), .val (.int bits), .val (.int (3 : Int32)), .val (.ref b48), .unset, .unset] [])) _
      refine XS.iloadN X63.here hx rfl (hb hby at_95) rfl ?_
      show Steps p.tables e below (T63.setTop (mkF m 96 #[.val (.int cnt), .val (.int bits), .val (.int (3 : Int32)), .val (.ref b48), .unset, .unset] [(.int (3 : Int32))])) _
      refine XS.bipush X63.here hx rfl (hb hby at_96) ?_
      show Steps p.tables e below (T63.setTop (mkF m 98 #[.val (.int cnt), .val (.int bits), .val (.int (3 : Int32)), .val (.ref b48), .unset, .unset] [(.int (7 : Int32)), (.int (3 : Int32))])) _
      refine XS.icmpYes X63.here hx rfl (pc0 := 98) (pc' := 111) rfl (hb hby at_98) rfl (tlt (by decide : (3 : Int32) < (7 : Int32))).1 (by decide) (by decide) ?_
      show Steps p.tables e below (T63.setTop (mkF m 111 #[.val (.int cnt), .val (.int bits), .val (.int (3 : Int32)), .val (.ref b48), .unset, .unset] [])) _
      refine XS.iloadN X63.here hx rfl (hb hby at_111) rfl ?_
      show Steps p.tables e below (T63.setTop (mkF m 112 #[.val (.int cnt), .val (.int bits), .val (.int (3 : Int32)), .val (.ref b48), .unset, .unset] [(.int (3 : Int32))])) _
      refine XS.bipush X63.here hx rfl (hb hby at_112) ?_
      show Steps p.tables e below (T63.setTop (mkF m 114 #[.val (.int cnt), .val (.int bits), .val (.int (3 : Int32)), .val (.ref b48), .unset, .unset] [(.int (8 : Int32)), (.int (3 : Int32))])) _
      refine XS.icmpYes X63.here hx rfl (pc0 := 114) (pc' := 127) rfl (hb hby at_114) rfl (tlt (by decide : (3 : Int32) < (8 : Int32))).1 (by decide) (by decide) ?_
      show Steps p.tables e below (T63.setTop (mkF m 127 #[.val (.int cnt), .val (.int bits), .val (.int (3 : Int32)), .val (.ref b48), .unset, .unset] [])) _
      refine XS.aloadN X63.here hx rfl (hb hby at_127) rfl rfl ?_
      exact kt
    have hw3 : own_prew u65 := by rw [hsh67]; exact own_w3 _ (own_cons (f4_b bits (2 : Int32)) (own_cons (f4_b bits (1 : Int32)) (own_cons (f4_b bits (0 : Int32)) own_nil)))
    obtain ⟨cq68, kq68, q68a, q68b, q68c⟩ := isOf hZ rfl E_b48_63
    obtain ⟨_, _, ⟨T68, L68, k68, n68⟩, -, X68, ⟨Lc68, hQ68, l68, y68, z68⟩, st68⟩ := X63.virtualBack hx (y := (⟨"com/example/gallant_courier/gallantcourier/core/LossRate", "waitsPerDoubling", "()I"⟩ : MethodName)) (z := (⟨"com/example/gallant_courier/gallantcourier/core/LossRate", "waitsPerDoubling", "()I"⟩ : MethodName)) hown (mvT hZ (hw _ (List.mem_of_getElem? (i := 22) rfl))) (mvT hZ (hw _ (List.mem_of_getElem? (i := 23) rfl))) (notFace_of_selects (args := #[]) (mvT hZ (hw _ (List.mem_of_getElem? (i := 25) rfl)))) (mvT hZ (hw _ (List.mem_of_getElem? (i := 25) rfl))) (mvT hZ (hw _ (List.mem_of_getElem? (i := 24) rfl))) (by decide) (backOf (W := 0) (rm3 l Z aa hw [] b48 u65 u66 T63.heap n0 O63 E_b48_63 F_b48_share_63 F_b48_samples_63 hw3.1 hw3.2.1 hw3.2.2.1 hw3.2.2.2.1 hw3.2.2.2.2.1 hw3.2.2.2.2.2.1 hw3.2.2.2.2.2.2.1 hw3.2.2.2.2.2.2.2.1 hw3.2.2.2.2.2.2.2.2.1 hw3.2.2.2.2.2.2.2.2.2) hZ (hw _ (List.mem_of_getElem? (i := 26) rfl)) (hw _ (List.mem_of_getElem? (i := 2) rfl)) (by decide) (by decide)) q68a q68c (g := (mkF m 128 #[.val (.int cnt), .val (.int bits), .val (.int (3 : Int32)), .val (.ref b48), .unset, .unset] [(.ref b48)])) rfl (by rw [hml]; rfl) (Steps.refl _) (argsL := []) (rest := []) (lenOf pd_ocI rfl) rfl (by show 2 * 0 + _ ≤ _; exact Nat.le_of_eq rfl) (hb hby at_128) (fun _ _ => ⟨rfl, rfl, (by decide : 1 + 0 ≤ _), (by decide : 2 + 0 ≤ _)⟩)
    dsimp only [Pt.U, Pt.locs, Pt.cells, Pt.slots] at X68 l68 y68 z68 st68 hQ68
    subst l68 y68 z68
    obtain ⟨rfl, rfl, e68⟩ := hQ68
    try rw [List.append_nil] at X68
    refine Gl.up (B := T68.setTop (mkF m 131 #[.val (.int cnt), .val (.int bits), .val (.int (3 : Int32)), .val (.ref b48), .unset, .unset] [(.int (f3 u65 u66))])) (fun t kt => st68.trans kt) ?_
    refine Gl.up (B := T68.setTop (mkF m 136 #[.val (.int cnt), .val (.int bits), .val (.int (3 : Int32)), .val (.ref b48), .val (.int (f3 u65 u66)), .unset] [(.int (3 : Int32)), (.int (0 : Int32)), (.int bits)])) (fun t kt => ?_) ?_
    · refine XS.istore X68.here hx rfl (hb hby at_131) rfl (l' := #[.val (.int cnt), .val (.int bits), .val (.int (3 : Int32)), .val (.ref b48), .val (.int (f3 u65 u66)), .unset]) rfl ?_
      show Steps p.tables e below (T68.setTop (mkF m 133 #[.val (.int cnt), .val (.int bits), .val (.int (3 : Int32)), .val (.ref b48), .val (.int (f3 u65 u66)), .unset] [])) _
      refine XS.iloadN X68.here hx rfl (hb hby at_133) rfl ?_
      show Steps p.tables e below (T68.setTop (mkF m 134 #[.val (.int cnt), .val (.int bits), .val (.int (3 : Int32)), .val (.ref b48), .val (.int (f3 u65 u66)), .unset] [(.int bits)])) _
      refine XS.iconst X68.here hx rfl (hb hby at_134) ?_
      show Steps p.tables e below (T68.setTop (mkF m 135 #[.val (.int cnt), .val (.int bits), .val (.int (3 : Int32)), .val (.ref b48), .val (.int (f3 u65 u66)), .unset] [(.int (0 : Int32)), (.int bits)])) _
      refine XS.iloadN X68.here hx rfl (hb hby at_135) rfl ?_
      exact kt
    obtain ⟨_, _, ⟨T69, L69, k69, n69⟩, -, X69, ⟨Lc69, hQ69, l69, y69, z69⟩, st69⟩ := Jvm.LawKit.callS X68 hx (y := (⟨"com/example/gallant_courier/gallantcourier/core/LossRateWaitsPerDoublingPinLaw", "one", "(III)I"⟩ : MethodName)) hown (mvT hZ (hw _ (List.mem_of_getElem? (i := 28) rfl))) (mvT hZ (hw _ (List.mem_of_getElem? (i := 29) rfl))) (mvT hZ (hw _ (List.mem_of_getElem? (i := 11) rfl))) (mvT hZ (hw _ (List.mem_of_getElem? (i := 30) rfl))) (by decide) (backOf (W := 0) (rm5 l Z aa hw [] bits (0 : Int32) (3 : Int32) T63.heap n0 O63) hZ (hw _ (List.mem_of_getElem? (i := 30) rfl)) (hw _ (List.mem_of_getElem? (i := 11) rfl)) (by decide) (by decide)) (g := (mkF m 136 #[.val (.int cnt), .val (.int bits), .val (.int (3 : Int32)), .val (.ref b48), .val (.int (f3 u65 u66)), .unset] [(.int (3 : Int32)), (.int (0 : Int32)), (.int bits)])) rfl (by rw [hml]; rfl) (argsL := [(.int bits), (.int (0 : Int32)), (.int (3 : Int32))]) (rest := []) (lenOf pd_oIIIcI rfl) rfl (by show 2 * 0 + _ ≤ _; exact Nat.le_of_eq rfl) (hb hby at_136) (fun _ _ => ⟨rfl, e68, (by decide : 1 + 0 ≤ _), (by decide : 2 + 0 ≤ _)⟩)
    dsimp only [Pt.U, Pt.locs, Pt.cells, Pt.slots] at X69 l69 y69 z69 st69 hQ69
    subst l69 y69 z69
    obtain ⟨rfl, rfl, e69⟩ := hQ69
    try rw [List.append_nil] at X69
    refine Gl.up (B := T69.setTop (mkF m 139 #[.val (.int cnt), .val (.int bits), .val (.int (3 : Int32)), .val (.ref b48), .val (.int (f3 u65 u66)), .unset] [(.int (f5 bits (0 : Int32) (3 : Int32)))])) (fun t kt => st69 _ kt) ?_
    refine Gl.up (B := T69.setTop (mkF m 142 #[.val (.int cnt), .val (.int bits), .val (.int (3 : Int32)), .val (.ref b48), .val (.int (f3 u65 u66)), .unset] [(.int (3 : Int32)), (.int (1 : Int32)), (.int bits), (.int (f5 bits (0 : Int32) (3 : Int32)))])) (fun t kt => ?_) ?_
    · refine XS.iloadN X69.here hx rfl (hb hby at_139) rfl ?_
      show Steps p.tables e below (T69.setTop (mkF m 140 #[.val (.int cnt), .val (.int bits), .val (.int (3 : Int32)), .val (.ref b48), .val (.int (f3 u65 u66)), .unset] [(.int bits), (.int (f5 bits (0 : Int32) (3 : Int32)))])) _
      refine XS.iconst X69.here hx rfl (hb hby at_140) ?_
      show Steps p.tables e below (T69.setTop (mkF m 141 #[.val (.int cnt), .val (.int bits), .val (.int (3 : Int32)), .val (.ref b48), .val (.int (f3 u65 u66)), .unset] [(.int (1 : Int32)), (.int bits), (.int (f5 bits (0 : Int32) (3 : Int32)))])) _
      refine XS.iloadN X69.here hx rfl (hb hby at_141) rfl ?_
      exact kt
    obtain ⟨_, _, ⟨T70, L70, k70, n70⟩, -, X70, ⟨Lc70, hQ70, l70, y70, z70⟩, st70⟩ := Jvm.LawKit.callS X69 hx (y := (⟨"com/example/gallant_courier/gallantcourier/core/LossRateWaitsPerDoublingPinLaw", "one", "(III)I"⟩ : MethodName)) hown (mvT hZ (hw _ (List.mem_of_getElem? (i := 28) rfl))) (mvT hZ (hw _ (List.mem_of_getElem? (i := 29) rfl))) (mvT hZ (hw _ (List.mem_of_getElem? (i := 11) rfl))) (mvT hZ (hw _ (List.mem_of_getElem? (i := 30) rfl))) (by decide) (backOf (W := 1) (rm5 l Z aa hw [] bits (1 : Int32) (3 : Int32) T63.heap n0 O63) hZ (hw _ (List.mem_of_getElem? (i := 30) rfl)) (hw _ (List.mem_of_getElem? (i := 11) rfl)) (by decide) (by decide)) (g := (mkF m 142 #[.val (.int cnt), .val (.int bits), .val (.int (3 : Int32)), .val (.ref b48), .val (.int (f3 u65 u66)), .unset] [(.int (3 : Int32)), (.int (1 : Int32)), (.int bits), (.int (f5 bits (0 : Int32) (3 : Int32)))])) rfl (by rw [hml]; rfl) (argsL := [(.int bits), (.int (1 : Int32)), (.int (3 : Int32))]) (rest := [(.int (f5 bits (0 : Int32) (3 : Int32)))]) (lenOf pd_oIIIcI rfl) rfl (by show 2 * 0 + _ ≤ _; exact Nat.le_of_eq rfl) (hb hby at_142) (fun _ _ => ⟨rfl, e69, (by decide : 1 + 0 ≤ _), (by decide : 2 + 0 ≤ _)⟩)
    dsimp only [Pt.U, Pt.locs, Pt.cells, Pt.slots] at X70 l70 y70 z70 st70 hQ70
    subst l70 y70 z70
    obtain ⟨rfl, rfl, e70⟩ := hQ70
    try rw [List.append_nil] at X70
    refine Gl.up (B := T70.setTop (mkF m 145 #[.val (.int cnt), .val (.int bits), .val (.int (3 : Int32)), .val (.ref b48), .val (.int (f3 u65 u66)), .unset] [(.int (f5 bits (1 : Int32) (3 : Int32))), (.int (f5 bits (0 : Int32) (3 : Int32)))])) (fun t kt => st70 _ kt) ?_
    refine Gl.up (B := T70.setTop (mkF m 149 #[.val (.int cnt), .val (.int bits), .val (.int (3 : Int32)), .val (.ref b48), .val (.int (f3 u65 u66)), .unset] [(.int (3 : Int32)), (.int (2 : Int32)), (.int bits), (.int ((f5 bits (0 : Int32) (3 : Int32)) + (f5 bits (1 : Int32) (3 : Int32))))])) (fun t kt => ?_) ?_
    · refine XS.iadd X70.here hx rfl (hb hby at_145) rfl ?_
      show Steps p.tables e below (T70.setTop (mkF m 146 #[.val (.int cnt), .val (.int bits), .val (.int (3 : Int32)), .val (.ref b48), .val (.int (f3 u65 u66)), .unset] [(.int ((f5 bits (0 : Int32) (3 : Int32)) + (f5 bits (1 : Int32) (3 : Int32))))])) _
      refine XS.iloadN X70.here hx rfl (hb hby at_146) rfl ?_
      show Steps p.tables e below (T70.setTop (mkF m 147 #[.val (.int cnt), .val (.int bits), .val (.int (3 : Int32)), .val (.ref b48), .val (.int (f3 u65 u66)), .unset] [(.int bits), (.int ((f5 bits (0 : Int32) (3 : Int32)) + (f5 bits (1 : Int32) (3 : Int32))))])) _
      refine XS.iconst X70.here hx rfl (hb hby at_147) ?_
      show Steps p.tables e below (T70.setTop (mkF m 148 #[.val (.int cnt), .val (.int bits), .val (.int (3 : Int32)), .val (.ref b48), .val (.int (f3 u65 u66)), .unset] [(.int (2 : Int32)), (.int bits), (.int ((f5 bits (0 : Int32) (3 : Int32)) + (f5 bits (1 : Int32) (3 : Int32))))])) _
      refine XS.iloadN X70.here hx rfl (hb hby at_148) rfl ?_
      exact kt
    obtain ⟨_, _, ⟨T71, L71, k71, n71⟩, -, X71, ⟨Lc71, hQ71, l71, y71, z71⟩, st71⟩ := Jvm.LawKit.callS X70 hx (y := (⟨"com/example/gallant_courier/gallantcourier/core/LossRateWaitsPerDoublingPinLaw", "one", "(III)I"⟩ : MethodName)) hown (mvT hZ (hw _ (List.mem_of_getElem? (i := 28) rfl))) (mvT hZ (hw _ (List.mem_of_getElem? (i := 29) rfl))) (mvT hZ (hw _ (List.mem_of_getElem? (i := 11) rfl))) (mvT hZ (hw _ (List.mem_of_getElem? (i := 30) rfl))) (by decide) (backOf (W := 1) (rm5 l Z aa hw [] bits (2 : Int32) (3 : Int32) T63.heap n0 O63) hZ (hw _ (List.mem_of_getElem? (i := 30) rfl)) (hw _ (List.mem_of_getElem? (i := 11) rfl)) (by decide) (by decide)) (g := (mkF m 149 #[.val (.int cnt), .val (.int bits), .val (.int (3 : Int32)), .val (.ref b48), .val (.int (f3 u65 u66)), .unset] [(.int (3 : Int32)), (.int (2 : Int32)), (.int bits), (.int ((f5 bits (0 : Int32) (3 : Int32)) + (f5 bits (1 : Int32) (3 : Int32))))])) rfl (by rw [hml]; rfl) (argsL := [(.int bits), (.int (2 : Int32)), (.int (3 : Int32))]) (rest := [(.int ((f5 bits (0 : Int32) (3 : Int32)) + (f5 bits (1 : Int32) (3 : Int32))))]) (lenOf pd_oIIIcI rfl) rfl (by show 2 * 0 + _ ≤ _; exact Nat.le_of_eq rfl) (hb hby at_149) (fun _ _ => ⟨rfl, e70, (by decide : 1 + 0 ≤ _), (by decide : 2 + 0 ≤ _)⟩)
    dsimp only [Pt.U, Pt.locs, Pt.cells, Pt.slots] at X71 l71 y71 z71 st71 hQ71
    subst l71 y71 z71
    obtain ⟨rfl, rfl, e71⟩ := hQ71
    try rw [List.append_nil] at X71
    refine Gl.up (B := T71.setTop (mkF m 152 #[.val (.int cnt), .val (.int bits), .val (.int (3 : Int32)), .val (.ref b48), .val (.int (f3 u65 u66)), .unset] [(.int (f5 bits (2 : Int32) (3 : Int32))), (.int ((f5 bits (0 : Int32) (3 : Int32)) + (f5 bits (1 : Int32) (3 : Int32))))])) (fun t kt => st71 _ kt) ?_
    refine Gl.up (B := T71.setTop (mkF m 156 #[.val (.int cnt), .val (.int bits), .val (.int (3 : Int32)), .val (.ref b48), .val (.int (f3 u65 u66)), .unset] [(.int (3 : Int32)), (.int (3 : Int32)), (.int bits), (.int (((f5 bits (0 : Int32) (3 : Int32)) + (f5 bits (1 : Int32) (3 : Int32))) + (f5 bits (2 : Int32) (3 : Int32))))])) (fun t kt => ?_) ?_
    · refine XS.iadd X71.here hx rfl (hb hby at_152) rfl ?_
      show Steps p.tables e below (T71.setTop (mkF m 153 #[.val (.int cnt), .val (.int bits), .val (.int (3 : Int32)), .val (.ref b48), .val (.int (f3 u65 u66)), .unset] [(.int (((f5 bits (0 : Int32) (3 : Int32)) + (f5 bits (1 : Int32) (3 : Int32))) + (f5 bits (2 : Int32) (3 : Int32))))])) _
      refine XS.iloadN X71.here hx rfl (hb hby at_153) rfl ?_
      show Steps p.tables e below (T71.setTop (mkF m 154 #[.val (.int cnt), .val (.int bits), .val (.int (3 : Int32)), .val (.ref b48), .val (.int (f3 u65 u66)), .unset] [(.int bits), (.int (((f5 bits (0 : Int32) (3 : Int32)) + (f5 bits (1 : Int32) (3 : Int32))) + (f5 bits (2 : Int32) (3 : Int32))))])) _
      refine XS.iconst X71.here hx rfl (hb hby at_154) ?_
      show Steps p.tables e below (T71.setTop (mkF m 155 #[.val (.int cnt), .val (.int bits), .val (.int (3 : Int32)), .val (.ref b48), .val (.int (f3 u65 u66)), .unset] [(.int (3 : Int32)), (.int bits), (.int (((f5 bits (0 : Int32) (3 : Int32)) + (f5 bits (1 : Int32) (3 : Int32))) + (f5 bits (2 : Int32) (3 : Int32))))])) _
      refine XS.iloadN X71.here hx rfl (hb hby at_155) rfl ?_
      exact kt
    obtain ⟨_, _, ⟨T72, L72, k72, n72⟩, -, X72, ⟨Lc72, hQ72, l72, y72, z72⟩, st72⟩ := Jvm.LawKit.callS X71 hx (y := (⟨"com/example/gallant_courier/gallantcourier/core/LossRateWaitsPerDoublingPinLaw", "one", "(III)I"⟩ : MethodName)) hown (mvT hZ (hw _ (List.mem_of_getElem? (i := 28) rfl))) (mvT hZ (hw _ (List.mem_of_getElem? (i := 29) rfl))) (mvT hZ (hw _ (List.mem_of_getElem? (i := 11) rfl))) (mvT hZ (hw _ (List.mem_of_getElem? (i := 30) rfl))) (by decide) (backOf (W := 1) (rm5 l Z aa hw [] bits (3 : Int32) (3 : Int32) T63.heap n0 O63) hZ (hw _ (List.mem_of_getElem? (i := 30) rfl)) (hw _ (List.mem_of_getElem? (i := 11) rfl)) (by decide) (by decide)) (g := (mkF m 156 #[.val (.int cnt), .val (.int bits), .val (.int (3 : Int32)), .val (.ref b48), .val (.int (f3 u65 u66)), .unset] [(.int (3 : Int32)), (.int (3 : Int32)), (.int bits), (.int (((f5 bits (0 : Int32) (3 : Int32)) + (f5 bits (1 : Int32) (3 : Int32))) + (f5 bits (2 : Int32) (3 : Int32))))])) rfl (by rw [hml]; rfl) (argsL := [(.int bits), (.int (3 : Int32)), (.int (3 : Int32))]) (rest := [(.int (((f5 bits (0 : Int32) (3 : Int32)) + (f5 bits (1 : Int32) (3 : Int32))) + (f5 bits (2 : Int32) (3 : Int32))))]) (lenOf pd_oIIIcI rfl) rfl (by show 2 * 0 + _ ≤ _; exact Nat.le_of_eq rfl) (hb hby at_156) (fun _ _ => ⟨rfl, e71, (by decide : 1 + 0 ≤ _), (by decide : 2 + 0 ≤ _)⟩)
    dsimp only [Pt.U, Pt.locs, Pt.cells, Pt.slots] at X72 l72 y72 z72 st72 hQ72
    subst l72 y72 z72
    obtain ⟨rfl, rfl, e72⟩ := hQ72
    try rw [List.append_nil] at X72
    refine Gl.up (B := T72.setTop (mkF m 159 #[.val (.int cnt), .val (.int bits), .val (.int (3 : Int32)), .val (.ref b48), .val (.int (f3 u65 u66)), .unset] [(.int (f5 bits (3 : Int32) (3 : Int32))), (.int (((f5 bits (0 : Int32) (3 : Int32)) + (f5 bits (1 : Int32) (3 : Int32))) + (f5 bits (2 : Int32) (3 : Int32))))])) (fun t kt => st72 _ kt) ?_
    refine Gl.up (B := T72.setTop (mkF m 163 #[.val (.int cnt), .val (.int bits), .val (.int (3 : Int32)), .val (.ref b48), .val (.int (f3 u65 u66)), .unset] [(.int (3 : Int32)), (.int (4 : Int32)), (.int bits), (.int ((((f5 bits (0 : Int32) (3 : Int32)) + (f5 bits (1 : Int32) (3 : Int32))) + (f5 bits (2 : Int32) (3 : Int32))) + (f5 bits (3 : Int32) (3 : Int32))))])) (fun t kt => ?_) ?_
    · refine XS.iadd X72.here hx rfl (hb hby at_159) rfl ?_
      show Steps p.tables e below (T72.setTop (mkF m 160 #[.val (.int cnt), .val (.int bits), .val (.int (3 : Int32)), .val (.ref b48), .val (.int (f3 u65 u66)), .unset] [(.int ((((f5 bits (0 : Int32) (3 : Int32)) + (f5 bits (1 : Int32) (3 : Int32))) + (f5 bits (2 : Int32) (3 : Int32))) + (f5 bits (3 : Int32) (3 : Int32))))])) _
      refine XS.iloadN X72.here hx rfl (hb hby at_160) rfl ?_
      show Steps p.tables e below (T72.setTop (mkF m 161 #[.val (.int cnt), .val (.int bits), .val (.int (3 : Int32)), .val (.ref b48), .val (.int (f3 u65 u66)), .unset] [(.int bits), (.int ((((f5 bits (0 : Int32) (3 : Int32)) + (f5 bits (1 : Int32) (3 : Int32))) + (f5 bits (2 : Int32) (3 : Int32))) + (f5 bits (3 : Int32) (3 : Int32))))])) _
      refine XS.iconst X72.here hx rfl (hb hby at_161) ?_
      show Steps p.tables e below (T72.setTop (mkF m 162 #[.val (.int cnt), .val (.int bits), .val (.int (3 : Int32)), .val (.ref b48), .val (.int (f3 u65 u66)), .unset] [(.int (4 : Int32)), (.int bits), (.int ((((f5 bits (0 : Int32) (3 : Int32)) + (f5 bits (1 : Int32) (3 : Int32))) + (f5 bits (2 : Int32) (3 : Int32))) + (f5 bits (3 : Int32) (3 : Int32))))])) _
      refine XS.iloadN X72.here hx rfl (hb hby at_162) rfl ?_
      exact kt
    obtain ⟨_, _, ⟨T73, L73, k73, n73⟩, -, X73, ⟨Lc73, hQ73, l73, y73, z73⟩, st73⟩ := Jvm.LawKit.callS X72 hx (y := (⟨"com/example/gallant_courier/gallantcourier/core/LossRateWaitsPerDoublingPinLaw", "one", "(III)I"⟩ : MethodName)) hown (mvT hZ (hw _ (List.mem_of_getElem? (i := 28) rfl))) (mvT hZ (hw _ (List.mem_of_getElem? (i := 29) rfl))) (mvT hZ (hw _ (List.mem_of_getElem? (i := 11) rfl))) (mvT hZ (hw _ (List.mem_of_getElem? (i := 30) rfl))) (by decide) (backOf (W := 1) (rm5 l Z aa hw [] bits (4 : Int32) (3 : Int32) T63.heap n0 O63) hZ (hw _ (List.mem_of_getElem? (i := 30) rfl)) (hw _ (List.mem_of_getElem? (i := 11) rfl)) (by decide) (by decide)) (g := (mkF m 163 #[.val (.int cnt), .val (.int bits), .val (.int (3 : Int32)), .val (.ref b48), .val (.int (f3 u65 u66)), .unset] [(.int (3 : Int32)), (.int (4 : Int32)), (.int bits), (.int ((((f5 bits (0 : Int32) (3 : Int32)) + (f5 bits (1 : Int32) (3 : Int32))) + (f5 bits (2 : Int32) (3 : Int32))) + (f5 bits (3 : Int32) (3 : Int32))))])) rfl (by rw [hml]; rfl) (argsL := [(.int bits), (.int (4 : Int32)), (.int (3 : Int32))]) (rest := [(.int ((((f5 bits (0 : Int32) (3 : Int32)) + (f5 bits (1 : Int32) (3 : Int32))) + (f5 bits (2 : Int32) (3 : Int32))) + (f5 bits (3 : Int32) (3 : Int32))))]) (lenOf pd_oIIIcI rfl) rfl (by show 2 * 0 + _ ≤ _; exact Nat.le_of_eq rfl) (hb hby at_163) (fun _ _ => ⟨rfl, e72, (by decide : 1 + 0 ≤ _), (by decide : 2 + 0 ≤ _)⟩)
    dsimp only [Pt.U, Pt.locs, Pt.cells, Pt.slots] at X73 l73 y73 z73 st73 hQ73
    subst l73 y73 z73
    obtain ⟨rfl, rfl, e73⟩ := hQ73
    try rw [List.append_nil] at X73
    refine Gl.up (B := T73.setTop (mkF m 166 #[.val (.int cnt), .val (.int bits), .val (.int (3 : Int32)), .val (.ref b48), .val (.int (f3 u65 u66)), .unset] [(.int (f5 bits (4 : Int32) (3 : Int32))), (.int ((((f5 bits (0 : Int32) (3 : Int32)) + (f5 bits (1 : Int32) (3 : Int32))) + (f5 bits (2 : Int32) (3 : Int32))) + (f5 bits (3 : Int32) (3 : Int32))))])) (fun t kt => st73 _ kt) ?_
    refine Gl.up (B := T73.setTop (mkF m 170 #[.val (.int cnt), .val (.int bits), .val (.int (3 : Int32)), .val (.ref b48), .val (.int (f3 u65 u66)), .unset] [(.int (3 : Int32)), (.int (5 : Int32)), (.int bits), (.int (((((f5 bits (0 : Int32) (3 : Int32)) + (f5 bits (1 : Int32) (3 : Int32))) + (f5 bits (2 : Int32) (3 : Int32))) + (f5 bits (3 : Int32) (3 : Int32))) + (f5 bits (4 : Int32) (3 : Int32))))])) (fun t kt => ?_) ?_
    · refine XS.iadd X73.here hx rfl (hb hby at_166) rfl ?_
      show Steps p.tables e below (T73.setTop (mkF m 167 #[.val (.int cnt), .val (.int bits), .val (.int (3 : Int32)), .val (.ref b48), .val (.int (f3 u65 u66)), .unset] [(.int (((((f5 bits (0 : Int32) (3 : Int32)) + (f5 bits (1 : Int32) (3 : Int32))) + (f5 bits (2 : Int32) (3 : Int32))) + (f5 bits (3 : Int32) (3 : Int32))) + (f5 bits (4 : Int32) (3 : Int32))))])) _
      refine XS.iloadN X73.here hx rfl (hb hby at_167) rfl ?_
      show Steps p.tables e below (T73.setTop (mkF m 168 #[.val (.int cnt), .val (.int bits), .val (.int (3 : Int32)), .val (.ref b48), .val (.int (f3 u65 u66)), .unset] [(.int bits), (.int (((((f5 bits (0 : Int32) (3 : Int32)) + (f5 bits (1 : Int32) (3 : Int32))) + (f5 bits (2 : Int32) (3 : Int32))) + (f5 bits (3 : Int32) (3 : Int32))) + (f5 bits (4 : Int32) (3 : Int32))))])) _
      refine XS.iconst X73.here hx rfl (hb hby at_168) ?_
      show Steps p.tables e below (T73.setTop (mkF m 169 #[.val (.int cnt), .val (.int bits), .val (.int (3 : Int32)), .val (.ref b48), .val (.int (f3 u65 u66)), .unset] [(.int (5 : Int32)), (.int bits), (.int (((((f5 bits (0 : Int32) (3 : Int32)) + (f5 bits (1 : Int32) (3 : Int32))) + (f5 bits (2 : Int32) (3 : Int32))) + (f5 bits (3 : Int32) (3 : Int32))) + (f5 bits (4 : Int32) (3 : Int32))))])) _
      refine XS.iloadN X73.here hx rfl (hb hby at_169) rfl ?_
      exact kt
    obtain ⟨_, _, ⟨T74, L74, k74, n74⟩, -, X74, ⟨Lc74, hQ74, l74, y74, z74⟩, st74⟩ := Jvm.LawKit.callS X73 hx (y := (⟨"com/example/gallant_courier/gallantcourier/core/LossRateWaitsPerDoublingPinLaw", "one", "(III)I"⟩ : MethodName)) hown (mvT hZ (hw _ (List.mem_of_getElem? (i := 28) rfl))) (mvT hZ (hw _ (List.mem_of_getElem? (i := 29) rfl))) (mvT hZ (hw _ (List.mem_of_getElem? (i := 11) rfl))) (mvT hZ (hw _ (List.mem_of_getElem? (i := 30) rfl))) (by decide) (backOf (W := 1) (rm5 l Z aa hw [] bits (5 : Int32) (3 : Int32) T63.heap n0 O63) hZ (hw _ (List.mem_of_getElem? (i := 30) rfl)) (hw _ (List.mem_of_getElem? (i := 11) rfl)) (by decide) (by decide)) (g := (mkF m 170 #[.val (.int cnt), .val (.int bits), .val (.int (3 : Int32)), .val (.ref b48), .val (.int (f3 u65 u66)), .unset] [(.int (3 : Int32)), (.int (5 : Int32)), (.int bits), (.int (((((f5 bits (0 : Int32) (3 : Int32)) + (f5 bits (1 : Int32) (3 : Int32))) + (f5 bits (2 : Int32) (3 : Int32))) + (f5 bits (3 : Int32) (3 : Int32))) + (f5 bits (4 : Int32) (3 : Int32))))])) rfl (by rw [hml]; rfl) (argsL := [(.int bits), (.int (5 : Int32)), (.int (3 : Int32))]) (rest := [(.int (((((f5 bits (0 : Int32) (3 : Int32)) + (f5 bits (1 : Int32) (3 : Int32))) + (f5 bits (2 : Int32) (3 : Int32))) + (f5 bits (3 : Int32) (3 : Int32))) + (f5 bits (4 : Int32) (3 : Int32))))]) (lenOf pd_oIIIcI rfl) rfl (by show 2 * 0 + _ ≤ _; exact Nat.le_of_eq rfl) (hb hby at_170) (fun _ _ => ⟨rfl, e73, (by decide : 1 + 0 ≤ _), (by decide : 2 + 0 ≤ _)⟩)
    dsimp only [Pt.U, Pt.locs, Pt.cells, Pt.slots] at X74 l74 y74 z74 st74 hQ74
    subst l74 y74 z74
    obtain ⟨rfl, rfl, e74⟩ := hQ74
    try rw [List.append_nil] at X74
    refine Gl.up (B := T74.setTop (mkF m 173 #[.val (.int cnt), .val (.int bits), .val (.int (3 : Int32)), .val (.ref b48), .val (.int (f3 u65 u66)), .unset] [(.int (f5 bits (5 : Int32) (3 : Int32))), (.int (((((f5 bits (0 : Int32) (3 : Int32)) + (f5 bits (1 : Int32) (3 : Int32))) + (f5 bits (2 : Int32) (3 : Int32))) + (f5 bits (3 : Int32) (3 : Int32))) + (f5 bits (4 : Int32) (3 : Int32))))])) (fun t kt => st74 _ kt) ?_
    refine Gl.up (B := T74.setTop (mkF m 178 #[.val (.int cnt), .val (.int bits), .val (.int (3 : Int32)), .val (.ref b48), .val (.int (f3 u65 u66)), .unset] [(.int (3 : Int32)), (.int (6 : Int32)), (.int bits), (.int ((((((f5 bits (0 : Int32) (3 : Int32)) + (f5 bits (1 : Int32) (3 : Int32))) + (f5 bits (2 : Int32) (3 : Int32))) + (f5 bits (3 : Int32) (3 : Int32))) + (f5 bits (4 : Int32) (3 : Int32))) + (f5 bits (5 : Int32) (3 : Int32))))])) (fun t kt => ?_) ?_
    · refine XS.iadd X74.here hx rfl (hb hby at_173) rfl ?_
      show Steps p.tables e below (T74.setTop (mkF m 174 #[.val (.int cnt), .val (.int bits), .val (.int (3 : Int32)), .val (.ref b48), .val (.int (f3 u65 u66)), .unset] [(.int ((((((f5 bits (0 : Int32) (3 : Int32)) + (f5 bits (1 : Int32) (3 : Int32))) + (f5 bits (2 : Int32) (3 : Int32))) + (f5 bits (3 : Int32) (3 : Int32))) + (f5 bits (4 : Int32) (3 : Int32))) + (f5 bits (5 : Int32) (3 : Int32))))])) _
      refine XS.iloadN X74.here hx rfl (hb hby at_174) rfl ?_
      show Steps p.tables e below (T74.setTop (mkF m 175 #[.val (.int cnt), .val (.int bits), .val (.int (3 : Int32)), .val (.ref b48), .val (.int (f3 u65 u66)), .unset] [(.int bits), (.int ((((((f5 bits (0 : Int32) (3 : Int32)) + (f5 bits (1 : Int32) (3 : Int32))) + (f5 bits (2 : Int32) (3 : Int32))) + (f5 bits (3 : Int32) (3 : Int32))) + (f5 bits (4 : Int32) (3 : Int32))) + (f5 bits (5 : Int32) (3 : Int32))))])) _
      refine XS.bipush X74.here hx rfl (hb hby at_175) ?_
      show Steps p.tables e below (T74.setTop (mkF m 177 #[.val (.int cnt), .val (.int bits), .val (.int (3 : Int32)), .val (.ref b48), .val (.int (f3 u65 u66)), .unset] [(.int (6 : Int32)), (.int bits), (.int ((((((f5 bits (0 : Int32) (3 : Int32)) + (f5 bits (1 : Int32) (3 : Int32))) + (f5 bits (2 : Int32) (3 : Int32))) + (f5 bits (3 : Int32) (3 : Int32))) + (f5 bits (4 : Int32) (3 : Int32))) + (f5 bits (5 : Int32) (3 : Int32))))])) _
      refine XS.iloadN X74.here hx rfl (hb hby at_177) rfl ?_
      exact kt
    obtain ⟨_, _, ⟨T75, L75, k75, n75⟩, -, X75, ⟨Lc75, hQ75, l75, y75, z75⟩, st75⟩ := Jvm.LawKit.callS X74 hx (y := (⟨"com/example/gallant_courier/gallantcourier/core/LossRateWaitsPerDoublingPinLaw", "one", "(III)I"⟩ : MethodName)) hown (mvT hZ (hw _ (List.mem_of_getElem? (i := 28) rfl))) (mvT hZ (hw _ (List.mem_of_getElem? (i := 29) rfl))) (mvT hZ (hw _ (List.mem_of_getElem? (i := 11) rfl))) (mvT hZ (hw _ (List.mem_of_getElem? (i := 30) rfl))) (by decide) (backOf (W := 1) (rm5 l Z aa hw [] bits (6 : Int32) (3 : Int32) T63.heap n0 O63) hZ (hw _ (List.mem_of_getElem? (i := 30) rfl)) (hw _ (List.mem_of_getElem? (i := 11) rfl)) (by decide) (by decide)) (g := (mkF m 178 #[.val (.int cnt), .val (.int bits), .val (.int (3 : Int32)), .val (.ref b48), .val (.int (f3 u65 u66)), .unset] [(.int (3 : Int32)), (.int (6 : Int32)), (.int bits), (.int ((((((f5 bits (0 : Int32) (3 : Int32)) + (f5 bits (1 : Int32) (3 : Int32))) + (f5 bits (2 : Int32) (3 : Int32))) + (f5 bits (3 : Int32) (3 : Int32))) + (f5 bits (4 : Int32) (3 : Int32))) + (f5 bits (5 : Int32) (3 : Int32))))])) rfl (by rw [hml]; rfl) (argsL := [(.int bits), (.int (6 : Int32)), (.int (3 : Int32))]) (rest := [(.int ((((((f5 bits (0 : Int32) (3 : Int32)) + (f5 bits (1 : Int32) (3 : Int32))) + (f5 bits (2 : Int32) (3 : Int32))) + (f5 bits (3 : Int32) (3 : Int32))) + (f5 bits (4 : Int32) (3 : Int32))) + (f5 bits (5 : Int32) (3 : Int32))))]) (lenOf pd_oIIIcI rfl) rfl (by show 2 * 0 + _ ≤ _; exact Nat.le_of_eq rfl) (hb hby at_178) (fun _ _ => ⟨rfl, e74, (by decide : 1 + 0 ≤ _), (by decide : 2 + 0 ≤ _)⟩)
    dsimp only [Pt.U, Pt.locs, Pt.cells, Pt.slots] at X75 l75 y75 z75 st75 hQ75
    subst l75 y75 z75
    obtain ⟨rfl, rfl, e75⟩ := hQ75
    try rw [List.append_nil] at X75
    refine Gl.up (B := T75.setTop (mkF m 181 #[.val (.int cnt), .val (.int bits), .val (.int (3 : Int32)), .val (.ref b48), .val (.int (f3 u65 u66)), .unset] [(.int (f5 bits (6 : Int32) (3 : Int32))), (.int ((((((f5 bits (0 : Int32) (3 : Int32)) + (f5 bits (1 : Int32) (3 : Int32))) + (f5 bits (2 : Int32) (3 : Int32))) + (f5 bits (3 : Int32) (3 : Int32))) + (f5 bits (4 : Int32) (3 : Int32))) + (f5 bits (5 : Int32) (3 : Int32))))])) (fun t kt => st75 _ kt) ?_
    refine Gl.up (B := T75.setTop (mkF m 186 #[.val (.int cnt), .val (.int bits), .val (.int (3 : Int32)), .val (.ref b48), .val (.int (f3 u65 u66)), .unset] [(.int (3 : Int32)), (.int (7 : Int32)), (.int bits), (.int (((((((f5 bits (0 : Int32) (3 : Int32)) + (f5 bits (1 : Int32) (3 : Int32))) + (f5 bits (2 : Int32) (3 : Int32))) + (f5 bits (3 : Int32) (3 : Int32))) + (f5 bits (4 : Int32) (3 : Int32))) + (f5 bits (5 : Int32) (3 : Int32))) + (f5 bits (6 : Int32) (3 : Int32))))])) (fun t kt => ?_) ?_
    · refine XS.iadd X75.here hx rfl (hb hby at_181) rfl ?_
      show Steps p.tables e below (T75.setTop (mkF m 182 #[.val (.int cnt), .val (.int bits), .val (.int (3 : Int32)), .val (.ref b48), .val (.int (f3 u65 u66)), .unset] [(.int (((((((f5 bits (0 : Int32) (3 : Int32)) + (f5 bits (1 : Int32) (3 : Int32))) + (f5 bits (2 : Int32) (3 : Int32))) + (f5 bits (3 : Int32) (3 : Int32))) + (f5 bits (4 : Int32) (3 : Int32))) + (f5 bits (5 : Int32) (3 : Int32))) + (f5 bits (6 : Int32) (3 : Int32))))])) _
      refine XS.iloadN X75.here hx rfl (hb hby at_182) rfl ?_
      show Steps p.tables e below (T75.setTop (mkF m 183 #[.val (.int cnt), .val (.int bits), .val (.int (3 : Int32)), .val (.ref b48), .val (.int (f3 u65 u66)), .unset] [(.int bits), (.int (((((((f5 bits (0 : Int32) (3 : Int32)) + (f5 bits (1 : Int32) (3 : Int32))) + (f5 bits (2 : Int32) (3 : Int32))) + (f5 bits (3 : Int32) (3 : Int32))) + (f5 bits (4 : Int32) (3 : Int32))) + (f5 bits (5 : Int32) (3 : Int32))) + (f5 bits (6 : Int32) (3 : Int32))))])) _
      refine XS.bipush X75.here hx rfl (hb hby at_183) ?_
      show Steps p.tables e below (T75.setTop (mkF m 185 #[.val (.int cnt), .val (.int bits), .val (.int (3 : Int32)), .val (.ref b48), .val (.int (f3 u65 u66)), .unset] [(.int (7 : Int32)), (.int bits), (.int (((((((f5 bits (0 : Int32) (3 : Int32)) + (f5 bits (1 : Int32) (3 : Int32))) + (f5 bits (2 : Int32) (3 : Int32))) + (f5 bits (3 : Int32) (3 : Int32))) + (f5 bits (4 : Int32) (3 : Int32))) + (f5 bits (5 : Int32) (3 : Int32))) + (f5 bits (6 : Int32) (3 : Int32))))])) _
      refine XS.iloadN X75.here hx rfl (hb hby at_185) rfl ?_
      exact kt
    obtain ⟨_, _, ⟨T76, L76, k76, n76⟩, -, X76, ⟨Lc76, hQ76, l76, y76, z76⟩, st76⟩ := Jvm.LawKit.callS X75 hx (y := (⟨"com/example/gallant_courier/gallantcourier/core/LossRateWaitsPerDoublingPinLaw", "one", "(III)I"⟩ : MethodName)) hown (mvT hZ (hw _ (List.mem_of_getElem? (i := 28) rfl))) (mvT hZ (hw _ (List.mem_of_getElem? (i := 29) rfl))) (mvT hZ (hw _ (List.mem_of_getElem? (i := 11) rfl))) (mvT hZ (hw _ (List.mem_of_getElem? (i := 30) rfl))) (by decide) (backOf (W := 1) (rm5 l Z aa hw [] bits (7 : Int32) (3 : Int32) T63.heap n0 O63) hZ (hw _ (List.mem_of_getElem? (i := 30) rfl)) (hw _ (List.mem_of_getElem? (i := 11) rfl)) (by decide) (by decide)) (g := (mkF m 186 #[.val (.int cnt), .val (.int bits), .val (.int (3 : Int32)), .val (.ref b48), .val (.int (f3 u65 u66)), .unset] [(.int (3 : Int32)), (.int (7 : Int32)), (.int bits), (.int (((((((f5 bits (0 : Int32) (3 : Int32)) + (f5 bits (1 : Int32) (3 : Int32))) + (f5 bits (2 : Int32) (3 : Int32))) + (f5 bits (3 : Int32) (3 : Int32))) + (f5 bits (4 : Int32) (3 : Int32))) + (f5 bits (5 : Int32) (3 : Int32))) + (f5 bits (6 : Int32) (3 : Int32))))])) rfl (by rw [hml]; rfl) (argsL := [(.int bits), (.int (7 : Int32)), (.int (3 : Int32))]) (rest := [(.int (((((((f5 bits (0 : Int32) (3 : Int32)) + (f5 bits (1 : Int32) (3 : Int32))) + (f5 bits (2 : Int32) (3 : Int32))) + (f5 bits (3 : Int32) (3 : Int32))) + (f5 bits (4 : Int32) (3 : Int32))) + (f5 bits (5 : Int32) (3 : Int32))) + (f5 bits (6 : Int32) (3 : Int32))))]) (lenOf pd_oIIIcI rfl) rfl (by show 2 * 0 + _ ≤ _; exact Nat.le_of_eq rfl) (hb hby at_186) (fun _ _ => ⟨rfl, e75, (by decide : 1 + 0 ≤ _), (by decide : 2 + 0 ≤ _)⟩)
    dsimp only [Pt.U, Pt.locs, Pt.cells, Pt.slots] at X76 l76 y76 z76 st76 hQ76
    subst l76 y76 z76
    obtain ⟨rfl, rfl, e76⟩ := hQ76
    try rw [List.append_nil] at X76
    refine Gl.up (B := T76.setTop (mkF m 189 #[.val (.int cnt), .val (.int bits), .val (.int (3 : Int32)), .val (.ref b48), .val (.int (f3 u65 u66)), .unset] [(.int (f5 bits (7 : Int32) (3 : Int32))), (.int (((((((f5 bits (0 : Int32) (3 : Int32)) + (f5 bits (1 : Int32) (3 : Int32))) + (f5 bits (2 : Int32) (3 : Int32))) + (f5 bits (3 : Int32) (3 : Int32))) + (f5 bits (4 : Int32) (3 : Int32))) + (f5 bits (5 : Int32) (3 : Int32))) + (f5 bits (6 : Int32) (3 : Int32))))])) (fun t kt => st76 _ kt) ?_
    refine Gl.up (B := T76.setTop (mkF m 190 #[.val (.int cnt), .val (.int bits), .val (.int (3 : Int32)), .val (.ref b48), .val (.int (f3 u65 u66)), .unset] [(.int ((((((((f5 bits (0 : Int32) (3 : Int32)) + (f5 bits (1 : Int32) (3 : Int32))) + (f5 bits (2 : Int32) (3 : Int32))) + (f5 bits (3 : Int32) (3 : Int32))) + (f5 bits (4 : Int32) (3 : Int32))) + (f5 bits (5 : Int32) (3 : Int32))) + (f5 bits (6 : Int32) (3 : Int32))) + (f5 bits (7 : Int32) (3 : Int32))))])) (fun t kt => ?_) ?_
    · refine XS.iadd X76.here hx rfl (hb hby at_189) rfl ?_
      exact kt
    obtain ⟨u77, hu77⟩ : ∃ q : Int32, q = ((((((((f5 bits (0 : Int32) (3 : Int32)) + (f5 bits (1 : Int32) (3 : Int32))) + (f5 bits (2 : Int32) (3 : Int32))) + (f5 bits (3 : Int32) (3 : Int32))) + (f5 bits (4 : Int32) (3 : Int32))) + (f5 bits (5 : Int32) (3 : Int32))) + (f5 bits (6 : Int32) (3 : Int32))) + (f5 bits (7 : Int32) (3 : Int32))) := ⟨_, rfl⟩
    rw [← hu77]
    refine Gl.up (B := T76.setTop (mkF m 197 #[.val (.int cnt), .val (.int bits), .val (.int (3 : Int32)), .val (.ref b48), .val (.int (f3 u65 u66)), .val (.int u77)] [(.int (3 : Int32)), (.int u77), (.int (f3 u65 u66))])) (fun t kt => ?_) ?_
    · refine XS.istore X76.here hx rfl (hb hby at_190) rfl (l' := #[.val (.int cnt), .val (.int bits), .val (.int (3 : Int32)), .val (.ref b48), .val (.int (f3 u65 u66)), .val (.int u77)]) rfl ?_
      show Steps p.tables e below (T76.setTop (mkF m 192 #[.val (.int cnt), .val (.int bits), .val (.int (3 : Int32)), .val (.ref b48), .val (.int (f3 u65 u66)), .val (.int u77)] [])) _
      refine XS.iload X76.here hx rfl (hb hby at_192) rfl ?_
      show Steps p.tables e below (T76.setTop (mkF m 194 #[.val (.int cnt), .val (.int bits), .val (.int (3 : Int32)), .val (.ref b48), .val (.int (f3 u65 u66)), .val (.int u77)] [(.int (f3 u65 u66))])) _
      refine XS.iload X76.here hx rfl (hb hby at_194) rfl ?_
      show Steps p.tables e below (T76.setTop (mkF m 196 #[.val (.int cnt), .val (.int bits), .val (.int (3 : Int32)), .val (.ref b48), .val (.int (f3 u65 u66)), .val (.int u77)] [(.int u77), (.int (f3 u65 u66))])) _
      refine XS.iloadN X76.here hx rfl (hb hby at_196) rfl ?_
      exact kt
    obtain ⟨_, _, ⟨T78, L78, k78, n78⟩, -, X78, ⟨Lc78, hQ78, l78, y78, z78⟩, st78⟩ := Jvm.LawKit.callS X76 hx (y := (⟨"com/example/gallant_courier/gallantcourier/core/LossRateWaitsPerDoublingPinLaw", "expected", "(II)I"⟩ : MethodName)) hown (mvT hZ (hw _ (List.mem_of_getElem? (i := 31) rfl))) (mvT hZ (hw _ (List.mem_of_getElem? (i := 32) rfl))) (mvT hZ (hw _ (List.mem_of_getElem? (i := 11) rfl))) (mvT hZ (hw _ (List.mem_of_getElem? (i := 33) rfl))) (by decide) (backOf (W := 1) (rm6 l Z aa hw [] u77 (3 : Int32) T63.heap n0 O63) hZ (hw _ (List.mem_of_getElem? (i := 33) rfl)) (hw _ (List.mem_of_getElem? (i := 11) rfl)) (by decide) (by decide)) (g := (mkF m 197 #[.val (.int cnt), .val (.int bits), .val (.int (3 : Int32)), .val (.ref b48), .val (.int (f3 u65 u66)), .val (.int u77)] [(.int (3 : Int32)), (.int u77), (.int (f3 u65 u66))])) rfl (by rw [hml]; rfl) (argsL := [(.int u77), (.int (3 : Int32))]) (rest := [(.int (f3 u65 u66))]) (lenOf pd_oIIcI rfl) rfl (by show 2 * 0 + _ ≤ _; exact Nat.le_of_eq rfl) (hb hby at_197) (fun _ _ => ⟨rfl, e76, (by decide : 1 + 0 ≤ _), (by decide : 2 + 0 ≤ _)⟩)
    dsimp only [Pt.U, Pt.locs, Pt.cells, Pt.slots] at X78 l78 y78 z78 st78 hQ78
    subst l78 y78 z78
    obtain ⟨rfl, rfl, e78⟩ := hQ78
    try rw [List.append_nil] at X78
    refine Gl.up (B := T78.setTop (mkF m 200 #[.val (.int cnt), .val (.int bits), .val (.int (3 : Int32)), .val (.ref b48), .val (.int (f3 u65 u66)), .val (.int u77)] [(.int (f6 u77 (3 : Int32))), (.int (f3 u65 u66))])) (fun t kt => st78 _ kt) ?_
    have hm79 : u77 = own_sum [(f4 bits (2 : Int32)), (f4 bits (1 : Int32)), (f4 bits (0 : Int32))] := by
      rw [hu77, own_bit _ (0 : Int32) _ (by decide), own_bit _ (1 : Int32) _ (by decide), own_bit _ (2 : Int32) _ (by decide), own_nobit _ (3 : Int32) _ (by decide), own_nobit _ (4 : Int32) _ (by decide), own_nobit _ (5 : Int32) _ (by decide), own_nobit _ (6 : Int32) _ (by decide), own_nobit _ (7 : Int32) _ (by decide)]
      simp only [own_sum, Int32.add_zero, Int32.zero_add]
    refine Gl.up (B := T78.setTop (mkF m 208 #[.val (.int cnt), .val (.int bits), .val (.int (3 : Int32)), .val (.ref b48), .val (.int (f3 u65 u66)), .val (.int u77)] [(.int (1 : Int32))])) (fun t kt => ?_) ?_
    · refine XS.icmpNo X78.here hx rfl (hb hby at_200) rfl (teq (by rw [hsh67, hsa67, hm79]; exact own_fin3 _ (own_cons (f4_b bits (2 : Int32)) (own_cons (f4_b bits (1 : Int32)) (own_cons (f4_b bits (0 : Int32)) own_nil))))).2 ?_
      show Steps p.tables e below (T78.setTop (mkF m 203 #[.val (.int cnt), .val (.int bits), .val (.int (3 : Int32)), .val (.ref b48), .val (.int (f3 u65 u66)), .val (.int u77)] [])) _
      refine XS.iconst X78.here hx rfl (hb hby at_203) ?_
      show Steps p.tables e below (T78.setTop (mkF m 204 #[.val (.int cnt), .val (.int bits), .val (.int (3 : Int32)), .val (.ref b48), .val (.int (f3 u65 u66)), .val (.int u77)] [(.int (1 : Int32))])) _
      refine XS.goto X78.here hx rfl (pc0 := 204) (pc' := 208) rfl (hb hby at_204) (by decide) (by decide) ?_
      exact kt
    refine Gl.retN X78 hx hlk (t := .boolean) Bd.returns (by simp) (hb hby at_208) (w := (1 : Int32)) rfl ?_ (by decide) (by decide)
    exact ⟨rfl, N63⟩
  · rw [hk]
    obtain ⟨T80, h80, X80, e80, E80, A80, D80, -, st80⟩ := newO X0 hx hZ hown (hw _ (List.mem_of_getElem? (i := 0) rfl)) (hw _ (List.mem_of_getElem? (i := 1) rfl)) (hw _ (List.mem_of_getElem? (i := 2) rfl)) e0 (g := (mkF m 7 #[.val (.int cnt), .val (.int bits), .val (.int (4 : Int32)), .unset, .unset, .unset] [])) rfl (hb hby at_7) (by decide) (by decide)
    obtain ⟨b80, gq80⟩ : ∃ z, z = h0.size := ⟨_, rfl⟩
    rw [← gq80] at A80 D80 st80
    have g_b80 : n0 ≤ b80 := Nat.le_trans (old_le O0) (Nat.le_of_eq gq80.symm)
    have O80 := O0.ext E80
    have F_b80_samples_80 : Fld Z h80 b80 "com/example/gallant_courier/gallantcourier/core/LossRate" "samples" "I" (.int (0 : Int32)) := D80 (Or.inl (hw _ (List.mem_of_getElem? (i := 19) rfl))) (ty := .int) (by decide)
    have F_b80_share_80 : Fld Z h80 b80 "com/example/gallant_courier/gallantcourier/core/LossRate" "share" "D" (.double (0 : UInt64)) := D80 (Or.inl (hw _ (List.mem_of_getElem? (i := 21) rfl))) (ty := .double) (by decide)
    refine Gl.up (B := T80.setTop (mkF m 10 #[.val (.int cnt), .val (.int bits), .val (.int (4 : Int32)), .unset, .unset, .unset] [(.ref b80)])) (fun t kt => st80 _ kt) ?_
    refine Gl.up (B := T80.setTop (mkF m 11 #[.val (.int cnt), .val (.int bits), .val (.int (4 : Int32)), .unset, .unset, .unset] [(.ref b80), (.ref b80)])) (fun t kt => ?_) ?_
    · refine XS.dup X80.here hx rfl (hb hby at_10) rfl rfl ?_
      exact kt
    obtain ⟨_, _, ⟨T81, L81, k81, n81⟩, -, X81, ⟨Lc81, hQ81, l81, y81, z81⟩, st81⟩ := X80.specialBack hx (y := (⟨"com/example/gallant_courier/gallantcourier/core/LossRate", "<init>", "()V"⟩ : MethodName)) rfl hown (mvT hZ (hw _ (List.mem_of_getElem? (i := 3) rfl))) (mvT hZ (hw _ (List.mem_of_getElem? (i := 4) rfl))) (mvT hZ (hw _ (List.mem_of_getElem? (i := 5) rfl))) (by decide) (backOf (W := 1) (rm1 l Z aa hw [] b80 (0 : UInt64) (0 : Int32) h80 n0 O80 A80 F_b80_share_80 F_b80_samples_80 g_b80) hZ (hw _ (List.mem_of_getElem? (i := 5) rfl)) (hw _ (List.mem_of_getElem? (i := 2) rfl)) (by decide) (by decide)) (g := (mkF m 11 #[.val (.int cnt), .val (.int bits), .val (.int (4 : Int32)), .unset, .unset, .unset] [(.ref b80), (.ref b80)])) rfl (by rw [hml]; rfl) (Steps.refl _) (a := b80) (argsL := []) (rest := [(.ref b80)]) (lenOf pd_ocV rfl) rfl (by show 2 * 0 + _ ≤ _; exact Nat.le_of_eq rfl) (hb hby at_11) (fun _ _ => ⟨rfl, e80, (by decide : 1 + 0 ≤ _), (by decide : 2 + 0 ≤ _)⟩)
    dsimp only [Pt.U, Pt.locs, Pt.cells, Pt.slots] at X81 l81 y81 z81 st81 hQ81
    subst l81 y81 z81
    obtain ⟨rfl, M81, K81, F_b80_share_81, F_b80_samples_81⟩ := hQ81
    have N81 := Fr.app N0 M81
    have O81 := O80.keep K81 (allS g_b80 all0)
    have E_b80_81 := A80.keep K81
    refine Gl.up (B := T81.setTop (mkF m 14 #[.val (.int cnt), .val (.int bits), .val (.int (4 : Int32)), .unset, .unset, .unset] [(.ref b80)])) (fun t kt => st81.trans kt) ?_
    refine Gl.up (B := T81.setTop (mkF m 18 #[.val (.int cnt), .val (.int bits), .val (.int (4 : Int32)), .val (.ref b80), .unset, .unset] [(.int (0 : Int32)), (.int bits), (.ref b80)])) (fun t kt => ?_) ?_
    · refine XS.astoreN X81.here hx rfl (hb hby at_14) rfl rfl (l' := #[.val (.int cnt), .val (.int bits), .val (.int (4 : Int32)), .val (.ref b80), .unset, .unset]) rfl ?_
      show Steps p.tables e below (T81.setTop (mkF m 15 #[.val (.int cnt), .val (.int bits), .val (.int (4 : Int32)), .val (.ref b80), .unset, .unset] [])) _
      refine XS.aloadN X81.here hx rfl (hb hby at_15) rfl rfl ?_
      show Steps p.tables e below (T81.setTop (mkF m 16 #[.val (.int cnt), .val (.int bits), .val (.int (4 : Int32)), .val (.ref b80), .unset, .unset] [(.ref b80)])) _
      refine XS.iloadN X81.here hx rfl (hb hby at_16) rfl ?_
      show Steps p.tables e below (T81.setTop (mkF m 17 #[.val (.int cnt), .val (.int bits), .val (.int (4 : Int32)), .val (.ref b80), .unset, .unset] [(.int bits), (.ref b80)])) _
      refine XS.iconst X81.here hx rfl (hb hby at_17) ?_
      exact kt
    obtain ⟨_, _, ⟨T82, L82, k82, n82⟩, -, X82, ⟨Lc82, hQ82, l82, y82, z82⟩, st82⟩ := Jvm.LawKit.callS X81 hx (y := (⟨"com/example/gallant_courier/gallantcourier/core/LossRateWaitsPerDoublingPinLaw", "bit", "(II)Z"⟩ : MethodName)) hown (mvT hZ (hw _ (List.mem_of_getElem? (i := 9) rfl))) (mvT hZ (hw _ (List.mem_of_getElem? (i := 10) rfl))) (mvT hZ (hw _ (List.mem_of_getElem? (i := 11) rfl))) (mvT hZ (hw _ (List.mem_of_getElem? (i := 12) rfl))) (by decide) (backOf (W := 1) (rm4 l Z aa hw [] bits (0 : Int32) T81.heap n0 O81) hZ (hw _ (List.mem_of_getElem? (i := 12) rfl)) (hw _ (List.mem_of_getElem? (i := 11) rfl)) (by decide) (by decide)) (g := (mkF m 18 #[.val (.int cnt), .val (.int bits), .val (.int (4 : Int32)), .val (.ref b80), .unset, .unset] [(.int (0 : Int32)), (.int bits), (.ref b80)])) rfl (by rw [hml]; rfl) (argsL := [(.int bits), (.int (0 : Int32))]) (rest := [(.ref b80)]) (lenOf pd_oIIcZ rfl) rfl (by show 2 * 0 + _ ≤ _; exact Nat.le_of_eq rfl) (hb hby at_18) (fun _ _ => ⟨rfl, rfl, (by decide : 1 + 0 ≤ _), (by decide : 2 + 0 ≤ _)⟩)
    dsimp only [Pt.U, Pt.locs, Pt.cells, Pt.slots] at X82 l82 y82 z82 st82 hQ82
    subst l82 y82 z82
    obtain ⟨rfl, rfl, e82⟩ := hQ82
    try rw [List.append_nil] at X82
    refine Gl.up (B := T82.setTop (mkF m 21 #[.val (.int cnt), .val (.int bits), .val (.int (4 : Int32)), .val (.ref b80), .unset, .unset] [(.int (f4 bits (0 : Int32))), (.ref b80)])) (fun t kt => st82 _ kt) ?_
    have hp84 : own_pres (f4 bits (0 : Int32)) (0 : UInt64) (0 : Int32) := own_pre0 _ own_nil _ (own_b01 (f4_b bits (0 : Int32)))
    obtain ⟨cq83, kq83, q83a, q83b, q83c⟩ := isOf hZ e82 E_b80_81
    obtain ⟨_, _, ⟨T83, L83, k83, n83⟩, -, X83, ⟨Lc83, hQ83, l83, y83, z83⟩, st83⟩ := X82.virtualBack hx (y := (⟨"com/example/gallant_courier/gallantcourier/core/LossRate", "sample", "(Z)V"⟩ : MethodName)) (z := (⟨"com/example/gallant_courier/gallantcourier/core/LossRate", "sample", "(Z)V"⟩ : MethodName)) hown (mvT hZ (hw _ (List.mem_of_getElem? (i := 13) rfl))) (mvT hZ (hw _ (List.mem_of_getElem? (i := 14) rfl))) (notFace_of_selects (args := #[]) (mvT hZ (hw _ (List.mem_of_getElem? (i := 16) rfl)))) (mvT hZ (hw _ (List.mem_of_getElem? (i := 16) rfl))) (mvT hZ (hw _ (List.mem_of_getElem? (i := 15) rfl))) (by decide) (backOf (W := 0) (rm2 l Z aa hw [] b80 (f4 bits (0 : Int32)) (0 : UInt64) (0 : Int32) T81.heap n0 O81 E_b80_81 F_b80_share_81 F_b80_samples_81 g_b80 hp84.1 hp84.2.1 hp84.2.2) hZ (hw _ (List.mem_of_getElem? (i := 17) rfl)) (hw _ (List.mem_of_getElem? (i := 2) rfl)) (by decide) (by decide)) q83a q83c (g := (mkF m 21 #[.val (.int cnt), .val (.int bits), .val (.int (4 : Int32)), .val (.ref b80), .unset, .unset] [(.int (f4 bits (0 : Int32))), (.ref b80)])) rfl (by rw [hml]; rfl) (Steps.refl _) (argsL := [(.int (f4 bits (0 : Int32)))]) (rest := []) (lenOf pd_oZcV rfl) rfl (by show 2 * 0 + _ ≤ _; exact Nat.le_of_eq rfl) (hb hby at_21) (fun _ _ => ⟨rfl, e82, (by decide : 1 + 0 ≤ _), (by decide : 2 + 0 ≤ _)⟩)
    dsimp only [Pt.U, Pt.locs, Pt.cells, Pt.slots] at X83 l83 y83 z83 st83 hQ83
    subst l83 y83 z83
    obtain ⟨rfl, M83, K83, F_b80_share_83, F_b80_samples_83⟩ := hQ83
    have N83 := Fr.app N81 M83
    have O83 := O81.keep K83 (allS g_b80 all0)
    have E_b80_83 := E_b80_81.keep K83
    obtain ⟨u85, hu85⟩ : ∃ q : UInt64, q = (f2_share (f4 bits (0 : Int32)) (0 : UInt64) (0 : Int32)) := ⟨_, rfl⟩
    rw [← hu85] at F_b80_share_83
    obtain ⟨u86, hu86⟩ : ∃ q : Int32, q = (f2_samples (f4 bits (0 : Int32)) (0 : UInt64) (0 : Int32)) := ⟨_, rfl⟩
    rw [← hu86] at F_b80_samples_83
    refine Gl.up (B := T83.setTop (mkF m 24 #[.val (.int cnt), .val (.int bits), .val (.int (4 : Int32)), .val (.ref b80), .unset, .unset] [])) (fun t kt => st83.trans kt) ?_
    have hsh87 : u85 = (own_st [(f4 bits (0 : Int32))]).1 := by rw [hu85]; first | rfl | (simp only [own_st])
    have hsa87 : u86 = (own_st [(f4 bits (0 : Int32))]).2 := by rw [hu86]; first | rfl | (simp only [own_st])
    refine Gl.up (B := T83.setTop (mkF m 32 #[.val (.int cnt), .val (.int bits), .val (.int (4 : Int32)), .val (.ref b80), .unset, .unset] [(.int (1 : Int32)), (.int bits), (.ref b80)])) (fun t kt => ?_) ?_
    · refine XS.iloadN X83.here hx rfl (hb hby at_24) rfl ?_
      show Steps p.tables e below (T83.setTop (mkF m 25 #[.val (.int cnt), .val (.int bits), .val (.int (4 : Int32)), .val (.ref b80), .unset, .unset] [(.int (4 : Int32))])) _
      refine XS.iconst X83.here hx rfl (hb hby at_25) ?_
      show Steps p.tables e below (T83.setTop (mkF m 26 #[.val (.int cnt), .val (.int bits), .val (.int (4 : Int32)), .val (.ref b80), .unset, .unset] [(.int (2 : Int32)), (.int (4 : Int32))])) _
      refine XS.icmpNo X83.here hx rfl (hb hby at_26) rfl (flt (by decide : ¬ ((4 : Int32) < (2 : Int32)))).1 ?_
      show Steps p.tables e below (T83.setTop (mkF m 29 #[.val (.int cnt), .val (.int bits), .val (.int (4 : Int32)), .val (.ref b80), .unset, .unset] [])) _
      refine XS.aloadN X83.here hx rfl (hb hby at_29) rfl rfl ?_
      show Steps p.tables e below (T83.setTop (mkF m 30 #[.val (.int cnt), .val (.int bits), .val (.int (4 : Int32)), .val (.ref b80), .unset, .unset] [(.ref b80)])) _
      refine XS.iloadN X83.here hx rfl (hb hby at_30) rfl ?_
      show Steps p.tables e below (T83.setTop (mkF m 31 #[.val (.int cnt), .val (.int bits), .val (.int (4 : Int32)), .val (.ref b80), .unset, .unset] [(.int bits), (.ref b80)])) _
      refine XS.iconst X83.here hx rfl (hb hby at_31) ?_
      exact kt
    obtain ⟨_, _, ⟨T88, L88, k88, n88⟩, -, X88, ⟨Lc88, hQ88, l88, y88, z88⟩, st88⟩ := Jvm.LawKit.callS X83 hx (y := (⟨"com/example/gallant_courier/gallantcourier/core/LossRateWaitsPerDoublingPinLaw", "bit", "(II)Z"⟩ : MethodName)) hown (mvT hZ (hw _ (List.mem_of_getElem? (i := 9) rfl))) (mvT hZ (hw _ (List.mem_of_getElem? (i := 10) rfl))) (mvT hZ (hw _ (List.mem_of_getElem? (i := 11) rfl))) (mvT hZ (hw _ (List.mem_of_getElem? (i := 12) rfl))) (by decide) (backOf (W := 1) (rm4 l Z aa hw [] bits (1 : Int32) T83.heap n0 O83) hZ (hw _ (List.mem_of_getElem? (i := 12) rfl)) (hw _ (List.mem_of_getElem? (i := 11) rfl)) (by decide) (by decide)) (g := (mkF m 32 #[.val (.int cnt), .val (.int bits), .val (.int (4 : Int32)), .val (.ref b80), .unset, .unset] [(.int (1 : Int32)), (.int bits), (.ref b80)])) rfl (by rw [hml]; rfl) (argsL := [(.int bits), (.int (1 : Int32))]) (rest := [(.ref b80)]) (lenOf pd_oIIcZ rfl) rfl (by show 2 * 0 + _ ≤ _; exact Nat.le_of_eq rfl) (hb hby at_32) (fun _ _ => ⟨rfl, rfl, (by decide : 1 + 0 ≤ _), (by decide : 2 + 0 ≤ _)⟩)
    dsimp only [Pt.U, Pt.locs, Pt.cells, Pt.slots] at X88 l88 y88 z88 st88 hQ88
    subst l88 y88 z88
    obtain ⟨rfl, rfl, e88⟩ := hQ88
    try rw [List.append_nil] at X88
    refine Gl.up (B := T88.setTop (mkF m 35 #[.val (.int cnt), .val (.int bits), .val (.int (4 : Int32)), .val (.ref b80), .unset, .unset] [(.int (f4 bits (1 : Int32))), (.ref b80)])) (fun t kt => st88 _ kt) ?_
    have hp90 : own_pres (f4 bits (1 : Int32)) u85 u86 := by rw [hsh87, hsa87]; exact own_pre1 _ (own_cons (f4_b bits (0 : Int32)) own_nil) _ (own_b01 (f4_b bits (1 : Int32)))
    obtain ⟨cq89, kq89, q89a, q89b, q89c⟩ := isOf hZ e88 E_b80_83
    obtain ⟨_, _, ⟨T89, L89, k89, n89⟩, -, X89, ⟨Lc89, hQ89, l89, y89, z89⟩, st89⟩ := X88.virtualBack hx (y := (⟨"com/example/gallant_courier/gallantcourier/core/LossRate", "sample", "(Z)V"⟩ : MethodName)) (z := (⟨"com/example/gallant_courier/gallantcourier/core/LossRate", "sample", "(Z)V"⟩ : MethodName)) hown (mvT hZ (hw _ (List.mem_of_getElem? (i := 13) rfl))) (mvT hZ (hw _ (List.mem_of_getElem? (i := 14) rfl))) (notFace_of_selects (args := #[]) (mvT hZ (hw _ (List.mem_of_getElem? (i := 16) rfl)))) (mvT hZ (hw _ (List.mem_of_getElem? (i := 16) rfl))) (mvT hZ (hw _ (List.mem_of_getElem? (i := 15) rfl))) (by decide) (backOf (W := 0) (rm2 l Z aa hw [] b80 (f4 bits (1 : Int32)) u85 u86 T83.heap n0 O83 E_b80_83 F_b80_share_83 F_b80_samples_83 g_b80 hp90.1 hp90.2.1 hp90.2.2) hZ (hw _ (List.mem_of_getElem? (i := 17) rfl)) (hw _ (List.mem_of_getElem? (i := 2) rfl)) (by decide) (by decide)) q89a q89c (g := (mkF m 35 #[.val (.int cnt), .val (.int bits), .val (.int (4 : Int32)), .val (.ref b80), .unset, .unset] [(.int (f4 bits (1 : Int32))), (.ref b80)])) rfl (by rw [hml]; rfl) (Steps.refl _) (argsL := [(.int (f4 bits (1 : Int32)))]) (rest := []) (lenOf pd_oZcV rfl) rfl (by show 2 * 0 + _ ≤ _; exact Nat.le_of_eq rfl) (hb hby at_35) (fun _ _ => ⟨rfl, e88, (by decide : 1 + 0 ≤ _), (by decide : 2 + 0 ≤ _)⟩)
    dsimp only [Pt.U, Pt.locs, Pt.cells, Pt.slots] at X89 l89 y89 z89 st89 hQ89
    subst l89 y89 z89
    obtain ⟨rfl, M89, K89, F_b80_share_89, F_b80_samples_89⟩ := hQ89
    have N89 := Fr.app N83 M89
    have O89 := O83.keep K89 (allS g_b80 all0)
    have E_b80_89 := E_b80_83.keep K89
    obtain ⟨u91, hu91⟩ : ∃ q : UInt64, q = (f2_share (f4 bits (1 : Int32)) u85 u86) := ⟨_, rfl⟩
    rw [← hu91] at F_b80_share_89
    obtain ⟨u92, hu92⟩ : ∃ q : Int32, q = (f2_samples (f4 bits (1 : Int32)) u85 u86) := ⟨_, rfl⟩
    rw [← hu92] at F_b80_samples_89
    refine Gl.up (B := T89.setTop (mkF m 38 #[.val (.int cnt), .val (.int bits), .val (.int (4 : Int32)), .val (.ref b80), .unset, .unset] [])) (fun t kt => st89.trans kt) ?_
    have hsh93 : u91 = (own_st [(f4 bits (1 : Int32)), (f4 bits (0 : Int32))]).1 := by rw [hu91, hsh87, hsa87]; exact (own_st1 _ _).symm
    have hsa93 : u92 = (own_st [(f4 bits (1 : Int32)), (f4 bits (0 : Int32))]).2 := by rw [hu92, hsh87, hsa87]; exact (own_st2 _ _).symm
    refine Gl.up (B := T89.setTop (mkF m 46 #[.val (.int cnt), .val (.int bits), .val (.int (4 : Int32)), .val (.ref b80), .unset, .unset] [(.int (2 : Int32)), (.int bits), (.ref b80)])) (fun t kt => ?_) ?_
    · refine XS.iloadN X89.here hx rfl (hb hby at_38) rfl ?_
      show Steps p.tables e below (T89.setTop (mkF m 39 #[.val (.int cnt), .val (.int bits), .val (.int (4 : Int32)), .val (.ref b80), .unset, .unset] [(.int (4 : Int32))])) _
      refine XS.iconst X89.here hx rfl (hb hby at_39) ?_
      show Steps p.tables e below (T89.setTop (mkF m 40 #[.val (.int cnt), .val (.int bits), .val (.int (4 : Int32)), .val (.ref b80), .unset, .unset] [(.int (3 : Int32)), (.int (4 : Int32))])) _
      refine XS.icmpNo X89.here hx rfl (hb hby at_40) rfl (flt (by decide : ¬ ((4 : Int32) < (3 : Int32)))).1 ?_
      show Steps p.tables e below (T89.setTop (mkF m 43 #[.val (.int cnt), .val (.int bits), .val (.int (4 : Int32)), .val (.ref b80), .unset, .unset] [])) _
      refine XS.aloadN X89.here hx rfl (hb hby at_43) rfl rfl ?_
      show Steps p.tables e below (T89.setTop (mkF m 44 #[.val (.int cnt), .val (.int bits), .val (.int (4 : Int32)), .val (.ref b80), .unset, .unset] [(.ref b80)])) _
      refine XS.iloadN X89.here hx rfl (hb hby at_44) rfl ?_
      show Steps p.tables e below (T89.setTop (mkF m 45 #[.val (.int cnt), .val (.int bits), .val (.int (4 : Int32)), .val (.ref b80), .unset, .unset] [(.int bits), (.ref b80)])) _
      refine XS.iconst X89.here hx rfl (hb hby at_45) ?_
      exact kt
    obtain ⟨_, _, ⟨T94, L94, k94, n94⟩, -, X94, ⟨Lc94, hQ94, l94, y94, z94⟩, st94⟩ := Jvm.LawKit.callS X89 hx (y := (⟨"com/example/gallant_courier/gallantcourier/core/LossRateWaitsPerDoublingPinLaw", "bit", "(II)Z"⟩ : MethodName)) hown (mvT hZ (hw _ (List.mem_of_getElem? (i := 9) rfl))) (mvT hZ (hw _ (List.mem_of_getElem? (i := 10) rfl))) (mvT hZ (hw _ (List.mem_of_getElem? (i := 11) rfl))) (mvT hZ (hw _ (List.mem_of_getElem? (i := 12) rfl))) (by decide) (backOf (W := 1) (rm4 l Z aa hw [] bits (2 : Int32) T89.heap n0 O89) hZ (hw _ (List.mem_of_getElem? (i := 12) rfl)) (hw _ (List.mem_of_getElem? (i := 11) rfl)) (by decide) (by decide)) (g := (mkF m 46 #[.val (.int cnt), .val (.int bits), .val (.int (4 : Int32)), .val (.ref b80), .unset, .unset] [(.int (2 : Int32)), (.int bits), (.ref b80)])) rfl (by rw [hml]; rfl) (argsL := [(.int bits), (.int (2 : Int32))]) (rest := [(.ref b80)]) (lenOf pd_oIIcZ rfl) rfl (by show 2 * 0 + _ ≤ _; exact Nat.le_of_eq rfl) (hb hby at_46) (fun _ _ => ⟨rfl, rfl, (by decide : 1 + 0 ≤ _), (by decide : 2 + 0 ≤ _)⟩)
    dsimp only [Pt.U, Pt.locs, Pt.cells, Pt.slots] at X94 l94 y94 z94 st94 hQ94
    subst l94 y94 z94
    obtain ⟨rfl, rfl, e94⟩ := hQ94
    try rw [List.append_nil] at X94
    refine Gl.up (B := T94.setTop (mkF m 49 #[.val (.int cnt), .val (.int bits), .val (.int (4 : Int32)), .val (.ref b80), .unset, .unset] [(.int (f4 bits (2 : Int32))), (.ref b80)])) (fun t kt => st94 _ kt) ?_
    have hp96 : own_pres (f4 bits (2 : Int32)) u91 u92 := by rw [hsh93, hsa93]; exact own_pre2 _ (own_cons (f4_b bits (1 : Int32)) (own_cons (f4_b bits (0 : Int32)) own_nil)) _ (own_b01 (f4_b bits (2 : Int32)))
    obtain ⟨cq95, kq95, q95a, q95b, q95c⟩ := isOf hZ e94 E_b80_89
    obtain ⟨_, _, ⟨T95, L95, k95, n95⟩, -, X95, ⟨Lc95, hQ95, l95, y95, z95⟩, st95⟩ := X94.virtualBack hx (y := (⟨"com/example/gallant_courier/gallantcourier/core/LossRate", "sample", "(Z)V"⟩ : MethodName)) (z := (⟨"com/example/gallant_courier/gallantcourier/core/LossRate", "sample", "(Z)V"⟩ : MethodName)) hown (mvT hZ (hw _ (List.mem_of_getElem? (i := 13) rfl))) (mvT hZ (hw _ (List.mem_of_getElem? (i := 14) rfl))) (notFace_of_selects (args := #[]) (mvT hZ (hw _ (List.mem_of_getElem? (i := 16) rfl)))) (mvT hZ (hw _ (List.mem_of_getElem? (i := 16) rfl))) (mvT hZ (hw _ (List.mem_of_getElem? (i := 15) rfl))) (by decide) (backOf (W := 0) (rm2 l Z aa hw [] b80 (f4 bits (2 : Int32)) u91 u92 T89.heap n0 O89 E_b80_89 F_b80_share_89 F_b80_samples_89 g_b80 hp96.1 hp96.2.1 hp96.2.2) hZ (hw _ (List.mem_of_getElem? (i := 17) rfl)) (hw _ (List.mem_of_getElem? (i := 2) rfl)) (by decide) (by decide)) q95a q95c (g := (mkF m 49 #[.val (.int cnt), .val (.int bits), .val (.int (4 : Int32)), .val (.ref b80), .unset, .unset] [(.int (f4 bits (2 : Int32))), (.ref b80)])) rfl (by rw [hml]; rfl) (Steps.refl _) (argsL := [(.int (f4 bits (2 : Int32)))]) (rest := []) (lenOf pd_oZcV rfl) rfl (by show 2 * 0 + _ ≤ _; exact Nat.le_of_eq rfl) (hb hby at_49) (fun _ _ => ⟨rfl, e94, (by decide : 1 + 0 ≤ _), (by decide : 2 + 0 ≤ _)⟩)
    dsimp only [Pt.U, Pt.locs, Pt.cells, Pt.slots] at X95 l95 y95 z95 st95 hQ95
    subst l95 y95 z95
    obtain ⟨rfl, M95, K95, F_b80_share_95, F_b80_samples_95⟩ := hQ95
    have N95 := Fr.app N89 M95
    have O95 := O89.keep K95 (allS g_b80 all0)
    have E_b80_95 := E_b80_89.keep K95
    obtain ⟨u97, hu97⟩ : ∃ q : UInt64, q = (f2_share (f4 bits (2 : Int32)) u91 u92) := ⟨_, rfl⟩
    rw [← hu97] at F_b80_share_95
    obtain ⟨u98, hu98⟩ : ∃ q : Int32, q = (f2_samples (f4 bits (2 : Int32)) u91 u92) := ⟨_, rfl⟩
    rw [← hu98] at F_b80_samples_95
    refine Gl.up (B := T95.setTop (mkF m 52 #[.val (.int cnt), .val (.int bits), .val (.int (4 : Int32)), .val (.ref b80), .unset, .unset] [])) (fun t kt => st95.trans kt) ?_
    have hsh99 : u97 = (own_st [(f4 bits (2 : Int32)), (f4 bits (1 : Int32)), (f4 bits (0 : Int32))]).1 := by rw [hu97, hsh93, hsa93]; exact (own_st1 _ _).symm
    have hsa99 : u98 = (own_st [(f4 bits (2 : Int32)), (f4 bits (1 : Int32)), (f4 bits (0 : Int32))]).2 := by rw [hu98, hsh93, hsa93]; exact (own_st2 _ _).symm
    refine Gl.up (B := T95.setTop (mkF m 60 #[.val (.int cnt), .val (.int bits), .val (.int (4 : Int32)), .val (.ref b80), .unset, .unset] [(.int (3 : Int32)), (.int bits), (.ref b80)])) (fun t kt => ?_) ?_
    · refine XS.iloadN X95.here hx rfl (hb hby at_52) rfl ?_
      show Steps p.tables e below (T95.setTop (mkF m 53 #[.val (.int cnt), .val (.int bits), .val (.int (4 : Int32)), .val (.ref b80), .unset, .unset] [(.int (4 : Int32))])) _
      refine XS.iconst X95.here hx rfl (hb hby at_53) ?_
      show Steps p.tables e below (T95.setTop (mkF m 54 #[.val (.int cnt), .val (.int bits), .val (.int (4 : Int32)), .val (.ref b80), .unset, .unset] [(.int (4 : Int32)), (.int (4 : Int32))])) _
      refine XS.icmpNo X95.here hx rfl (hb hby at_54) rfl (flt (by decide : ¬ ((4 : Int32) < (4 : Int32)))).1 ?_
      show Steps p.tables e below (T95.setTop (mkF m 57 #[.val (.int cnt), .val (.int bits), .val (.int (4 : Int32)), .val (.ref b80), .unset, .unset] [])) _
      refine XS.aloadN X95.here hx rfl (hb hby at_57) rfl rfl ?_
      show Steps p.tables e below (T95.setTop (mkF m 58 #[.val (.int cnt), .val (.int bits), .val (.int (4 : Int32)), .val (.ref b80), .unset, .unset] [(.ref b80)])) _
      refine XS.iloadN X95.here hx rfl (hb hby at_58) rfl ?_
      show Steps p.tables e below (T95.setTop (mkF m 59 #[.val (.int cnt), .val (.int bits), .val (.int (4 : Int32)), .val (.ref b80), .unset, .unset] [(.int bits), (.ref b80)])) _
      refine XS.iconst X95.here hx rfl (hb hby at_59) ?_
      exact kt
    obtain ⟨_, _, ⟨T100, L100, k100, n100⟩, -, X100, ⟨Lc100, hQ100, l100, y100, z100⟩, st100⟩ := Jvm.LawKit.callS X95 hx (y := (⟨"com/example/gallant_courier/gallantcourier/core/LossRateWaitsPerDoublingPinLaw", "bit", "(II)Z"⟩ : MethodName)) hown (mvT hZ (hw _ (List.mem_of_getElem? (i := 9) rfl))) (mvT hZ (hw _ (List.mem_of_getElem? (i := 10) rfl))) (mvT hZ (hw _ (List.mem_of_getElem? (i := 11) rfl))) (mvT hZ (hw _ (List.mem_of_getElem? (i := 12) rfl))) (by decide) (backOf (W := 1) (rm4 l Z aa hw [] bits (3 : Int32) T95.heap n0 O95) hZ (hw _ (List.mem_of_getElem? (i := 12) rfl)) (hw _ (List.mem_of_getElem? (i := 11) rfl)) (by decide) (by decide)) (g := (mkF m 60 #[.val (.int cnt), .val (.int bits), .val (.int (4 : Int32)), .val (.ref b80), .unset, .unset] [(.int (3 : Int32)), (.int bits), (.ref b80)])) rfl (by rw [hml]; rfl) (argsL := [(.int bits), (.int (3 : Int32))]) (rest := [(.ref b80)]) (lenOf pd_oIIcZ rfl) rfl (by show 2 * 0 + _ ≤ _; exact Nat.le_of_eq rfl) (hb hby at_60) (fun _ _ => ⟨rfl, rfl, (by decide : 1 + 0 ≤ _), (by decide : 2 + 0 ≤ _)⟩)
    dsimp only [Pt.U, Pt.locs, Pt.cells, Pt.slots] at X100 l100 y100 z100 st100 hQ100
    subst l100 y100 z100
    obtain ⟨rfl, rfl, e100⟩ := hQ100
    try rw [List.append_nil] at X100
    refine Gl.up (B := T100.setTop (mkF m 63 #[.val (.int cnt), .val (.int bits), .val (.int (4 : Int32)), .val (.ref b80), .unset, .unset] [(.int (f4 bits (3 : Int32))), (.ref b80)])) (fun t kt => st100 _ kt) ?_
    have hp102 : own_pres (f4 bits (3 : Int32)) u97 u98 := by rw [hsh99, hsa99]; exact own_pre3 _ (own_cons (f4_b bits (2 : Int32)) (own_cons (f4_b bits (1 : Int32)) (own_cons (f4_b bits (0 : Int32)) own_nil))) _ (own_b01 (f4_b bits (3 : Int32)))
    obtain ⟨cq101, kq101, q101a, q101b, q101c⟩ := isOf hZ e100 E_b80_95
    obtain ⟨_, _, ⟨T101, L101, k101, n101⟩, -, X101, ⟨Lc101, hQ101, l101, y101, z101⟩, st101⟩ := X100.virtualBack hx (y := (⟨"com/example/gallant_courier/gallantcourier/core/LossRate", "sample", "(Z)V"⟩ : MethodName)) (z := (⟨"com/example/gallant_courier/gallantcourier/core/LossRate", "sample", "(Z)V"⟩ : MethodName)) hown (mvT hZ (hw _ (List.mem_of_getElem? (i := 13) rfl))) (mvT hZ (hw _ (List.mem_of_getElem? (i := 14) rfl))) (notFace_of_selects (args := #[]) (mvT hZ (hw _ (List.mem_of_getElem? (i := 16) rfl)))) (mvT hZ (hw _ (List.mem_of_getElem? (i := 16) rfl))) (mvT hZ (hw _ (List.mem_of_getElem? (i := 15) rfl))) (by decide) (backOf (W := 0) (rm2 l Z aa hw [] b80 (f4 bits (3 : Int32)) u97 u98 T95.heap n0 O95 E_b80_95 F_b80_share_95 F_b80_samples_95 g_b80 hp102.1 hp102.2.1 hp102.2.2) hZ (hw _ (List.mem_of_getElem? (i := 17) rfl)) (hw _ (List.mem_of_getElem? (i := 2) rfl)) (by decide) (by decide)) q101a q101c (g := (mkF m 63 #[.val (.int cnt), .val (.int bits), .val (.int (4 : Int32)), .val (.ref b80), .unset, .unset] [(.int (f4 bits (3 : Int32))), (.ref b80)])) rfl (by rw [hml]; rfl) (Steps.refl _) (argsL := [(.int (f4 bits (3 : Int32)))]) (rest := []) (lenOf pd_oZcV rfl) rfl (by show 2 * 0 + _ ≤ _; exact Nat.le_of_eq rfl) (hb hby at_63) (fun _ _ => ⟨rfl, e100, (by decide : 1 + 0 ≤ _), (by decide : 2 + 0 ≤ _)⟩)
    dsimp only [Pt.U, Pt.locs, Pt.cells, Pt.slots] at X101 l101 y101 z101 st101 hQ101
    subst l101 y101 z101
    obtain ⟨rfl, M101, K101, F_b80_share_101, F_b80_samples_101⟩ := hQ101
    have N101 := Fr.app N95 M101
    have O101 := O95.keep K101 (allS g_b80 all0)
    have E_b80_101 := E_b80_95.keep K101
    obtain ⟨u103, hu103⟩ : ∃ q : UInt64, q = (f2_share (f4 bits (3 : Int32)) u97 u98) := ⟨_, rfl⟩
    rw [← hu103] at F_b80_share_101
    obtain ⟨u104, hu104⟩ : ∃ q : Int32, q = (f2_samples (f4 bits (3 : Int32)) u97 u98) := ⟨_, rfl⟩
    rw [← hu104] at F_b80_samples_101
    refine Gl.up (B := T101.setTop (mkF m 66 #[.val (.int cnt), .val (.int bits), .val (.int (4 : Int32)), .val (.ref b80), .unset, .unset] [])) (fun t kt => st101.trans kt) ?_
    have hsh105 : u103 = (own_st [(f4 bits (3 : Int32)), (f4 bits (2 : Int32)), (f4 bits (1 : Int32)), (f4 bits (0 : Int32))]).1 := by rw [hu103, hsh99, hsa99]; exact (own_st1 _ _).symm
    have hsa105 : u104 = (own_st [(f4 bits (3 : Int32)), (f4 bits (2 : Int32)), (f4 bits (1 : Int32)), (f4 bits (0 : Int32))]).2 := by rw [hu104, hsh99, hsa99]; exact (own_st2 _ _).symm
    refine Gl.up (B := T101.setTop (mkF m 128 #[.val (.int cnt), .val (.int bits), .val (.int (4 : Int32)), .val (.ref b80), .unset, .unset] [(.ref b80)])) (fun t kt => ?_) ?_
    · refine XS.iloadN X101.here hx rfl (hb hby at_66) rfl ?_
      show Steps p.tables e below (T101.setTop (mkF m 67 #[.val (.int cnt), .val (.int bits), .val (.int (4 : Int32)), .val (.ref b80), .unset, .unset] [(.int (4 : Int32))])) _
      refine XS.iconst X101.here hx rfl (hb hby at_67) ?_
      show Steps p.tables e below (T101.setTop (mkF m 68 #[.val (.int cnt), .val (.int bits), .val (.int (4 : Int32)), .val (.ref b80), .unset, .unset] [(.int (5 : Int32)), (.int (4 : Int32))])) _
      refine XS.icmpYes X101.here hx rfl (pc0 := 68) (pc' := 80) rfl (hb hby at_68) rfl (tlt (by decide : (4 : Int32) < (5 : Int32))).1 (by decide) (by decide) ?_
      show Steps p.tables e below (T101.setTop (mkF m 80 #[.val (.int cnt), .val (.int bits), .val (.int (4 : Int32)), .val (.ref b80), .unset, .unset] [])) _
      refine XS.iloadN X101.here hx rfl (hb hby at_80) rfl ?_
      show Steps p.tables e below (T101.setTop (mkF m 81 #[.val (.int cnt), .val (.int bits), .val (.int (4 : Int32)), .val (.ref b80), .unset, .unset] [(.int (4 : Int32))])) _
      refine XS.bipush X101.here hx rfl (hb hby at_81) ?_
      show Steps p.tables e below (T101.setTop (mkF m 83 #[.val (.int cnt), .val (.int bits), .val (.int (4 : Int32)), .val (.ref b80), .unset, .unset] [(.int (6 : Int32)), (.int (4 : Int32))])) _
      refine XS.icmpYes X101.here hx rfl (pc0 := 83) (pc' := 95) rfl (hb hby at_83) rfl (tlt (by decide : (4 : Int32) < (6 : Int32))).1 (by decide) (by decide) ?_
      show Steps p.tables e below (T101.setTop (mkF m 95 #[.val (.int cnt), .val (.int bits), .val (.int (4 : Int32)), .val (.ref b80), .unset, .unset] [])) _
      refine XS.iloadN X101.here hx rfl (hb hby at_95) rfl ?_
      show Steps p.tables e below (T101.setTop (mkF m 96 #[.val (.int cnt), .val (.int bits), .val (.int (4 : Int32)), .val (.ref b80), .unset, .unset] [(.int (4 : Int32))])) _
      refine XS.bipush X101.here hx rfl (hb hby at_96) ?_
      show Steps p.tables e below (T101.setTop (mkF m 98 #[.val (.int cnt), .val (.int bits), .val (.int (4 : Int32)), .val (.ref b80), .unset, .unset] [(.int (7 : Int32)), (.int (4 : Int32))])) _
      refine XS.icmpYes X101.here hx rfl (pc0 := 98) (pc' := 111) rfl (hb hby at_98) rfl (tlt (by decide : (4 : Int32) < (7 : Int32))).1 (by decide) (by decide) ?_
      show Steps p.tables e below (T101.setTop (mkF m 111 #[.val (.int cnt), .val (.int bits), .val (.int (4 : Int32)), .val (.ref b80), .unset, .unset] [])) _
      refine XS.iloadN X101.here hx rfl (hb hby at_111) rfl ?_
      show Steps p.tables e below (T101.setTop (mkF m 112 #[.val (.int cnt), .val (.int bits), .val (.int (4 : Int32)), .val (.ref b80), .unset, .unset] [(.int (4 : Int32))])) _
      refine XS.bipush X101.here hx rfl (hb hby at_112) ?_
      show Steps p.tables e below (T101.setTop (mkF m 114 #[.val (.int cnt), .val (.int bits), .val (.int (4 : Int32)), .val (.ref b80), .unset, .unset] [(.int (8 : Int32)), (.int (4 : Int32))])) _
      refine XS.icmpYes X101.here hx rfl (pc0 := 114) (pc' := 127) rfl (hb hby at_114) rfl (tlt (by decide : (4 : Int32) < (8 : Int32))).1 (by decide) (by decide) ?_
      show Steps p.tables e below (T101.setTop (mkF m 127 #[.val (.int cnt), .val (.int bits), .val (.int (4 : Int32)), .val (.ref b80), .unset, .unset] [])) _
      refine XS.aloadN X101.here hx rfl (hb hby at_127) rfl rfl ?_
      exact kt
    have hw4 : own_prew u103 := by rw [hsh105]; exact own_w4 _ (own_cons (f4_b bits (3 : Int32)) (own_cons (f4_b bits (2 : Int32)) (own_cons (f4_b bits (1 : Int32)) (own_cons (f4_b bits (0 : Int32)) own_nil))))
    obtain ⟨cq106, kq106, q106a, q106b, q106c⟩ := isOf hZ rfl E_b80_101
    obtain ⟨_, _, ⟨T106, L106, k106, n106⟩, -, X106, ⟨Lc106, hQ106, l106, y106, z106⟩, st106⟩ := X101.virtualBack hx (y := (⟨"com/example/gallant_courier/gallantcourier/core/LossRate", "waitsPerDoubling", "()I"⟩ : MethodName)) (z := (⟨"com/example/gallant_courier/gallantcourier/core/LossRate", "waitsPerDoubling", "()I"⟩ : MethodName)) hown (mvT hZ (hw _ (List.mem_of_getElem? (i := 22) rfl))) (mvT hZ (hw _ (List.mem_of_getElem? (i := 23) rfl))) (notFace_of_selects (args := #[]) (mvT hZ (hw _ (List.mem_of_getElem? (i := 25) rfl)))) (mvT hZ (hw _ (List.mem_of_getElem? (i := 25) rfl))) (mvT hZ (hw _ (List.mem_of_getElem? (i := 24) rfl))) (by decide) (backOf (W := 0) (rm3 l Z aa hw [] b80 u103 u104 T101.heap n0 O101 E_b80_101 F_b80_share_101 F_b80_samples_101 hw4.1 hw4.2.1 hw4.2.2.1 hw4.2.2.2.1 hw4.2.2.2.2.1 hw4.2.2.2.2.2.1 hw4.2.2.2.2.2.2.1 hw4.2.2.2.2.2.2.2.1 hw4.2.2.2.2.2.2.2.2.1 hw4.2.2.2.2.2.2.2.2.2) hZ (hw _ (List.mem_of_getElem? (i := 26) rfl)) (hw _ (List.mem_of_getElem? (i := 2) rfl)) (by decide) (by decide)) q106a q106c (g := (mkF m 128 #[.val (.int cnt), .val (.int bits), .val (.int (4 : Int32)), .val (.ref b80), .unset, .unset] [(.ref b80)])) rfl (by rw [hml]; rfl) (Steps.refl _) (argsL := []) (rest := []) (lenOf pd_ocI rfl) rfl (by show 2 * 0 + _ ≤ _; exact Nat.le_of_eq rfl) (hb hby at_128) (fun _ _ => ⟨rfl, rfl, (by decide : 1 + 0 ≤ _), (by decide : 2 + 0 ≤ _)⟩)
    dsimp only [Pt.U, Pt.locs, Pt.cells, Pt.slots] at X106 l106 y106 z106 st106 hQ106
    subst l106 y106 z106
    obtain ⟨rfl, rfl, e106⟩ := hQ106
    try rw [List.append_nil] at X106
    refine Gl.up (B := T106.setTop (mkF m 131 #[.val (.int cnt), .val (.int bits), .val (.int (4 : Int32)), .val (.ref b80), .unset, .unset] [(.int (f3 u103 u104))])) (fun t kt => st106.trans kt) ?_
    refine Gl.up (B := T106.setTop (mkF m 136 #[.val (.int cnt), .val (.int bits), .val (.int (4 : Int32)), .val (.ref b80), .val (.int (f3 u103 u104)), .unset] [(.int (4 : Int32)), (.int (0 : Int32)), (.int bits)])) (fun t kt => ?_) ?_
    · refine XS.istore X106.here hx rfl (hb hby at_131) rfl (l' := #[.val (.int cnt), .val (.int bits), .val (.int (4 : Int32)), .val (.ref b80), .val (.int (f3 u103 u104)), .unset]) rfl ?_
      show Steps p.tables e below (T106.setTop (mkF m 133 #[.val (.int cnt), .val (.int bits), .val (.int (4 : Int32)), .val (.ref b80), .val (.int (f3 u103 u104)), .unset] [])) _
      refine XS.iloadN X106.here hx rfl (hb hby at_133) rfl ?_
      show Steps p.tables e below (T106.setTop (mkF m 134 #[.val (.int cnt), .val (.int bits), .val (.int (4 : Int32)), .val (.ref b80), .val (.int (f3 u103 u104)), .unset] [(.int bits)])) _
      refine XS.iconst X106.here hx rfl (hb hby at_134) ?_
      show Steps p.tables e below (T106.setTop (mkF m 135 #[.val (.int cnt), .val (.int bits), .val (.int (4 : Int32)), .val (.ref b80), .val (.int (f3 u103 u104)), .unset] [(.int (0 : Int32)), (.int bits)])) _
      refine XS.iloadN X106.here hx rfl (hb hby at_135) rfl ?_
      exact kt
    obtain ⟨_, _, ⟨T107, L107, k107, n107⟩, -, X107, ⟨Lc107, hQ107, l107, y107, z107⟩, st107⟩ := Jvm.LawKit.callS X106 hx (y := (⟨"com/example/gallant_courier/gallantcourier/core/LossRateWaitsPerDoublingPinLaw", "one", "(III)I"⟩ : MethodName)) hown (mvT hZ (hw _ (List.mem_of_getElem? (i := 28) rfl))) (mvT hZ (hw _ (List.mem_of_getElem? (i := 29) rfl))) (mvT hZ (hw _ (List.mem_of_getElem? (i := 11) rfl))) (mvT hZ (hw _ (List.mem_of_getElem? (i := 30) rfl))) (by decide) (backOf (W := 0) (rm5 l Z aa hw [] bits (0 : Int32) (4 : Int32) T101.heap n0 O101) hZ (hw _ (List.mem_of_getElem? (i := 30) rfl)) (hw _ (List.mem_of_getElem? (i := 11) rfl)) (by decide) (by decide)) (g := (mkF m 136 #[.val (.int cnt), .val (.int bits), .val (.int (4 : Int32)), .val (.ref b80), .val (.int (f3 u103 u104)), .unset] [(.int (4 : Int32)), (.int (0 : Int32)), (.int bits)])) rfl (by rw [hml]; rfl) (argsL := [(.int bits), (.int (0 : Int32)), (.int (4 : Int32))]) (rest := []) (lenOf pd_oIIIcI rfl) rfl (by show 2 * 0 + _ ≤ _; exact Nat.le_of_eq rfl) (hb hby at_136) (fun _ _ => ⟨rfl, e106, (by decide : 1 + 0 ≤ _), (by decide : 2 + 0 ≤ _)⟩)
    dsimp only [Pt.U, Pt.locs, Pt.cells, Pt.slots] at X107 l107 y107 z107 st107 hQ107
    subst l107 y107 z107
    obtain ⟨rfl, rfl, e107⟩ := hQ107
    try rw [List.append_nil] at X107
    refine Gl.up (B := T107.setTop (mkF m 139 #[.val (.int cnt), .val (.int bits), .val (.int (4 : Int32)), .val (.ref b80), .val (.int (f3 u103 u104)), .unset] [(.int (f5 bits (0 : Int32) (4 : Int32)))])) (fun t kt => st107 _ kt) ?_
    refine Gl.up (B := T107.setTop (mkF m 142 #[.val (.int cnt), .val (.int bits), .val (.int (4 : Int32)), .val (.ref b80), .val (.int (f3 u103 u104)), .unset] [(.int (4 : Int32)), (.int (1 : Int32)), (.int bits), (.int (f5 bits (0 : Int32) (4 : Int32)))])) (fun t kt => ?_) ?_
    · refine XS.iloadN X107.here hx rfl (hb hby at_139) rfl ?_
      show Steps p.tables e below (T107.setTop (mkF m 140 #[.val (.int cnt), .val (.int bits), .val (.int (4 : Int32)), .val (.ref b80), .val (.int (f3 u103 u104)), .unset] [(.int bits), (.int (f5 bits (0 : Int32) (4 : Int32)))])) _
      refine XS.iconst X107.here hx rfl (hb hby at_140) ?_
      show Steps p.tables e below (T107.setTop (mkF m 141 #[.val (.int cnt), .val (.int bits), .val (.int (4 : Int32)), .val (.ref b80), .val (.int (f3 u103 u104)), .unset] [(.int (1 : Int32)), (.int bits), (.int (f5 bits (0 : Int32) (4 : Int32)))])) _
      refine XS.iloadN X107.here hx rfl (hb hby at_141) rfl ?_
      exact kt
    obtain ⟨_, _, ⟨T108, L108, k108, n108⟩, -, X108, ⟨Lc108, hQ108, l108, y108, z108⟩, st108⟩ := Jvm.LawKit.callS X107 hx (y := (⟨"com/example/gallant_courier/gallantcourier/core/LossRateWaitsPerDoublingPinLaw", "one", "(III)I"⟩ : MethodName)) hown (mvT hZ (hw _ (List.mem_of_getElem? (i := 28) rfl))) (mvT hZ (hw _ (List.mem_of_getElem? (i := 29) rfl))) (mvT hZ (hw _ (List.mem_of_getElem? (i := 11) rfl))) (mvT hZ (hw _ (List.mem_of_getElem? (i := 30) rfl))) (by decide) (backOf (W := 1) (rm5 l Z aa hw [] bits (1 : Int32) (4 : Int32) T101.heap n0 O101) hZ (hw _ (List.mem_of_getElem? (i := 30) rfl)) (hw _ (List.mem_of_getElem? (i := 11) rfl)) (by decide) (by decide)) (g := (mkF m 142 #[.val (.int cnt), .val (.int bits), .val (.int (4 : Int32)), .val (.ref b80), .val (.int (f3 u103 u104)), .unset] [(.int (4 : Int32)), (.int (1 : Int32)), (.int bits), (.int (f5 bits (0 : Int32) (4 : Int32)))])) rfl (by rw [hml]; rfl) (argsL := [(.int bits), (.int (1 : Int32)), (.int (4 : Int32))]) (rest := [(.int (f5 bits (0 : Int32) (4 : Int32)))]) (lenOf pd_oIIIcI rfl) rfl (by show 2 * 0 + _ ≤ _; exact Nat.le_of_eq rfl) (hb hby at_142) (fun _ _ => ⟨rfl, e107, (by decide : 1 + 0 ≤ _), (by decide : 2 + 0 ≤ _)⟩)
    dsimp only [Pt.U, Pt.locs, Pt.cells, Pt.slots] at X108 l108 y108 z108 st108 hQ108
    subst l108 y108 z108
    obtain ⟨rfl, rfl, e108⟩ := hQ108
    try rw [List.append_nil] at X108
    refine Gl.up (B := T108.setTop (mkF m 145 #[.val (.int cnt), .val (.int bits), .val (.int (4 : Int32)), .val (.ref b80), .val (.int (f3 u103 u104)), .unset] [(.int (f5 bits (1 : Int32) (4 : Int32))), (.int (f5 bits (0 : Int32) (4 : Int32)))])) (fun t kt => st108 _ kt) ?_
    refine Gl.up (B := T108.setTop (mkF m 149 #[.val (.int cnt), .val (.int bits), .val (.int (4 : Int32)), .val (.ref b80), .val (.int (f3 u103 u104)), .unset] [(.int (4 : Int32)), (.int (2 : Int32)), (.int bits), (.int ((f5 bits (0 : Int32) (4 : Int32)) + (f5 bits (1 : Int32) (4 : Int32))))])) (fun t kt => ?_) ?_
    · refine XS.iadd X108.here hx rfl (hb hby at_145) rfl ?_
      show Steps p.tables e below (T108.setTop (mkF m 146 #[.val (.int cnt), .val (.int bits), .val (.int (4 : Int32)), .val (.ref b80), .val (.int (f3 u103 u104)), .unset] [(.int ((f5 bits (0 : Int32) (4 : Int32)) + (f5 bits (1 : Int32) (4 : Int32))))])) _
      refine XS.iloadN X108.here hx rfl (hb hby at_146) rfl ?_
      show Steps p.tables e below (T108.setTop (mkF m 147 #[.val (.int cnt), .val (.int bits), .val (.int (4 : Int32)), .val (.ref b80), .val (.int (f3 u103 u104)), .unset] [(.int bits), (.int ((f5 bits (0 : Int32) (4 : Int32)) + (f5 bits (1 : Int32) (4 : Int32))))])) _
      refine XS.iconst X108.here hx rfl (hb hby at_147) ?_
      show Steps p.tables e below (T108.setTop (mkF m 148 #[.val (.int cnt), .val (.int bits), .val (.int (4 : Int32)), .val (.ref b80), .val (.int (f3 u103 u104)), .unset] [(.int (2 : Int32)), (.int bits), (.int ((f5 bits (0 : Int32) (4 : Int32)) + (f5 bits (1 : Int32) (4 : Int32))))])) _
      refine XS.iloadN X108.here hx rfl (hb hby at_148) rfl ?_
      exact kt
    obtain ⟨_, _, ⟨T109, L109, k109, n109⟩, -, X109, ⟨Lc109, hQ109, l109, y109, z109⟩, st109⟩ := Jvm.LawKit.callS X108 hx (y := (⟨"com/example/gallant_courier/gallantcourier/core/LossRateWaitsPerDoublingPinLaw", "one", "(III)I"⟩ : MethodName)) hown (mvT hZ (hw _ (List.mem_of_getElem? (i := 28) rfl))) (mvT hZ (hw _ (List.mem_of_getElem? (i := 29) rfl))) (mvT hZ (hw _ (List.mem_of_getElem? (i := 11) rfl))) (mvT hZ (hw _ (List.mem_of_getElem? (i := 30) rfl))) (by decide) (backOf (W := 1) (rm5 l Z aa hw [] bits (2 : Int32) (4 : Int32) T101.heap n0 O101) hZ (hw _ (List.mem_of_getElem? (i := 30) rfl)) (hw _ (List.mem_of_getElem? (i := 11) rfl)) (by decide) (by decide)) (g := (mkF m 149 #[.val (.int cnt), .val (.int bits), .val (.int (4 : Int32)), .val (.ref b80), .val (.int (f3 u103 u104)), .unset] [(.int (4 : Int32)), (.int (2 : Int32)), (.int bits), (.int ((f5 bits (0 : Int32) (4 : Int32)) + (f5 bits (1 : Int32) (4 : Int32))))])) rfl (by rw [hml]; rfl) (argsL := [(.int bits), (.int (2 : Int32)), (.int (4 : Int32))]) (rest := [(.int ((f5 bits (0 : Int32) (4 : Int32)) + (f5 bits (1 : Int32) (4 : Int32))))]) (lenOf pd_oIIIcI rfl) rfl (by show 2 * 0 + _ ≤ _; exact Nat.le_of_eq rfl) (hb hby at_149) (fun _ _ => ⟨rfl, e108, (by decide : 1 + 0 ≤ _), (by decide : 2 + 0 ≤ _)⟩)
    dsimp only [Pt.U, Pt.locs, Pt.cells, Pt.slots] at X109 l109 y109 z109 st109 hQ109
    subst l109 y109 z109
    obtain ⟨rfl, rfl, e109⟩ := hQ109
    try rw [List.append_nil] at X109
    refine Gl.up (B := T109.setTop (mkF m 152 #[.val (.int cnt), .val (.int bits), .val (.int (4 : Int32)), .val (.ref b80), .val (.int (f3 u103 u104)), .unset] [(.int (f5 bits (2 : Int32) (4 : Int32))), (.int ((f5 bits (0 : Int32) (4 : Int32)) + (f5 bits (1 : Int32) (4 : Int32))))])) (fun t kt => st109 _ kt) ?_
    refine Gl.up (B := T109.setTop (mkF m 156 #[.val (.int cnt), .val (.int bits), .val (.int (4 : Int32)), .val (.ref b80), .val (.int (f3 u103 u104)), .unset] [(.int (4 : Int32)), (.int (3 : Int32)), (.int bits), (.int (((f5 bits (0 : Int32) (4 : Int32)) + (f5 bits (1 : Int32) (4 : Int32))) + (f5 bits (2 : Int32) (4 : Int32))))])) (fun t kt => ?_) ?_
    · refine XS.iadd X109.here hx rfl (hb hby at_152) rfl ?_
      show Steps p.tables e below (T109.setTop (mkF m 153 #[.val (.int cnt), .val (.int bits), .val (.int (4 : Int32)), .val (.ref b80), .val (.int (f3 u103 u104)), .unset] [(.int (((f5 bits (0 : Int32) (4 : Int32)) + (f5 bits (1 : Int32) (4 : Int32))) + (f5 bits (2 : Int32) (4 : Int32))))])) _
      refine XS.iloadN X109.here hx rfl (hb hby at_153) rfl ?_
      show Steps p.tables e below (T109.setTop (mkF m 154 #[.val (.int cnt), .val (.int bits), .val (.int (4 : Int32)), .val (.ref b80), .val (.int (f3 u103 u104)), .unset] [(.int bits), (.int (((f5 bits (0 : Int32) (4 : Int32)) + (f5 bits (1 : Int32) (4 : Int32))) + (f5 bits (2 : Int32) (4 : Int32))))])) _
      refine XS.iconst X109.here hx rfl (hb hby at_154) ?_
      show Steps p.tables e below (T109.setTop (mkF m 155 #[.val (.int cnt), .val (.int bits), .val (.int (4 : Int32)), .val (.ref b80), .val (.int (f3 u103 u104)), .unset] [(.int (3 : Int32)), (.int bits), (.int (((f5 bits (0 : Int32) (4 : Int32)) + (f5 bits (1 : Int32) (4 : Int32))) + (f5 bits (2 : Int32) (4 : Int32))))])) _
      refine XS.iloadN X109.here hx rfl (hb hby at_155) rfl ?_
      exact kt
    obtain ⟨_, _, ⟨T110, L110, k110, n110⟩, -, X110, ⟨Lc110, hQ110, l110, y110, z110⟩, st110⟩ := Jvm.LawKit.callS X109 hx (y := (⟨"com/example/gallant_courier/gallantcourier/core/LossRateWaitsPerDoublingPinLaw", "one", "(III)I"⟩ : MethodName)) hown (mvT hZ (hw _ (List.mem_of_getElem? (i := 28) rfl))) (mvT hZ (hw _ (List.mem_of_getElem? (i := 29) rfl))) (mvT hZ (hw _ (List.mem_of_getElem? (i := 11) rfl))) (mvT hZ (hw _ (List.mem_of_getElem? (i := 30) rfl))) (by decide) (backOf (W := 1) (rm5 l Z aa hw [] bits (3 : Int32) (4 : Int32) T101.heap n0 O101) hZ (hw _ (List.mem_of_getElem? (i := 30) rfl)) (hw _ (List.mem_of_getElem? (i := 11) rfl)) (by decide) (by decide)) (g := (mkF m 156 #[.val (.int cnt), .val (.int bits), .val (.int (4 : Int32)), .val (.ref b80), .val (.int (f3 u103 u104)), .unset] [(.int (4 : Int32)), (.int (3 : Int32)), (.int bits), (.int (((f5 bits (0 : Int32) (4 : Int32)) + (f5 bits (1 : Int32) (4 : Int32))) + (f5 bits (2 : Int32) (4 : Int32))))])) rfl (by rw [hml]; rfl) (argsL := [(.int bits), (.int (3 : Int32)), (.int (4 : Int32))]) (rest := [(.int (((f5 bits (0 : Int32) (4 : Int32)) + (f5 bits (1 : Int32) (4 : Int32))) + (f5 bits (2 : Int32) (4 : Int32))))]) (lenOf pd_oIIIcI rfl) rfl (by show 2 * 0 + _ ≤ _; exact Nat.le_of_eq rfl) (hb hby at_156) (fun _ _ => ⟨rfl, e109, (by decide : 1 + 0 ≤ _), (by decide : 2 + 0 ≤ _)⟩)
    dsimp only [Pt.U, Pt.locs, Pt.cells, Pt.slots] at X110 l110 y110 z110 st110 hQ110
    subst l110 y110 z110
    obtain ⟨rfl, rfl, e110⟩ := hQ110
    try rw [List.append_nil] at X110
    refine Gl.up (B := T110.setTop (mkF m 159 #[.val (.int cnt), .val (.int bits), .val (.int (4 : Int32)), .val (.ref b80), .val (.int (f3 u103 u104)), .unset] [(.int (f5 bits (3 : Int32) (4 : Int32))), (.int (((f5 bits (0 : Int32) (4 : Int32)) + (f5 bits (1 : Int32) (4 : Int32))) + (f5 bits (2 : Int32) (4 : Int32))))])) (fun t kt => st110 _ kt) ?_
    refine Gl.up (B := T110.setTop (mkF m 163 #[.val (.int cnt), .val (.int bits), .val (.int (4 : Int32)), .val (.ref b80), .val (.int (f3 u103 u104)), .unset] [(.int (4 : Int32)), (.int (4 : Int32)), (.int bits), (.int ((((f5 bits (0 : Int32) (4 : Int32)) + (f5 bits (1 : Int32) (4 : Int32))) + (f5 bits (2 : Int32) (4 : Int32))) + (f5 bits (3 : Int32) (4 : Int32))))])) (fun t kt => ?_) ?_
    · refine XS.iadd X110.here hx rfl (hb hby at_159) rfl ?_
      show Steps p.tables e below (T110.setTop (mkF m 160 #[.val (.int cnt), .val (.int bits), .val (.int (4 : Int32)), .val (.ref b80), .val (.int (f3 u103 u104)), .unset] [(.int ((((f5 bits (0 : Int32) (4 : Int32)) + (f5 bits (1 : Int32) (4 : Int32))) + (f5 bits (2 : Int32) (4 : Int32))) + (f5 bits (3 : Int32) (4 : Int32))))])) _
      refine XS.iloadN X110.here hx rfl (hb hby at_160) rfl ?_
      show Steps p.tables e below (T110.setTop (mkF m 161 #[.val (.int cnt), .val (.int bits), .val (.int (4 : Int32)), .val (.ref b80), .val (.int (f3 u103 u104)), .unset] [(.int bits), (.int ((((f5 bits (0 : Int32) (4 : Int32)) + (f5 bits (1 : Int32) (4 : Int32))) + (f5 bits (2 : Int32) (4 : Int32))) + (f5 bits (3 : Int32) (4 : Int32))))])) _
      refine XS.iconst X110.here hx rfl (hb hby at_161) ?_
      show Steps p.tables e below (T110.setTop (mkF m 162 #[.val (.int cnt), .val (.int bits), .val (.int (4 : Int32)), .val (.ref b80), .val (.int (f3 u103 u104)), .unset] [(.int (4 : Int32)), (.int bits), (.int ((((f5 bits (0 : Int32) (4 : Int32)) + (f5 bits (1 : Int32) (4 : Int32))) + (f5 bits (2 : Int32) (4 : Int32))) + (f5 bits (3 : Int32) (4 : Int32))))])) _
      refine XS.iloadN X110.here hx rfl (hb hby at_162) rfl ?_
      exact kt
    obtain ⟨_, _, ⟨T111, L111, k111, n111⟩, -, X111, ⟨Lc111, hQ111, l111, y111, z111⟩, st111⟩ := Jvm.LawKit.callS X110 hx (y := (⟨"com/example/gallant_courier/gallantcourier/core/LossRateWaitsPerDoublingPinLaw", "one", "(III)I"⟩ : MethodName)) hown (mvT hZ (hw _ (List.mem_of_getElem? (i := 28) rfl))) (mvT hZ (hw _ (List.mem_of_getElem? (i := 29) rfl))) (mvT hZ (hw _ (List.mem_of_getElem? (i := 11) rfl))) (mvT hZ (hw _ (List.mem_of_getElem? (i := 30) rfl))) (by decide) (backOf (W := 1) (rm5 l Z aa hw [] bits (4 : Int32) (4 : Int32) T101.heap n0 O101) hZ (hw _ (List.mem_of_getElem? (i := 30) rfl)) (hw _ (List.mem_of_getElem? (i := 11) rfl)) (by decide) (by decide)) (g := (mkF m 163 #[.val (.int cnt), .val (.int bits), .val (.int (4 : Int32)), .val (.ref b80), .val (.int (f3 u103 u104)), .unset] [(.int (4 : Int32)), (.int (4 : Int32)), (.int bits), (.int ((((f5 bits (0 : Int32) (4 : Int32)) + (f5 bits (1 : Int32) (4 : Int32))) + (f5 bits (2 : Int32) (4 : Int32))) + (f5 bits (3 : Int32) (4 : Int32))))])) rfl (by rw [hml]; rfl) (argsL := [(.int bits), (.int (4 : Int32)), (.int (4 : Int32))]) (rest := [(.int ((((f5 bits (0 : Int32) (4 : Int32)) + (f5 bits (1 : Int32) (4 : Int32))) + (f5 bits (2 : Int32) (4 : Int32))) + (f5 bits (3 : Int32) (4 : Int32))))]) (lenOf pd_oIIIcI rfl) rfl (by show 2 * 0 + _ ≤ _; exact Nat.le_of_eq rfl) (hb hby at_163) (fun _ _ => ⟨rfl, e110, (by decide : 1 + 0 ≤ _), (by decide : 2 + 0 ≤ _)⟩)
    dsimp only [Pt.U, Pt.locs, Pt.cells, Pt.slots] at X111 l111 y111 z111 st111 hQ111
    subst l111 y111 z111
    obtain ⟨rfl, rfl, e111⟩ := hQ111
    try rw [List.append_nil] at X111
    refine Gl.up (B := T111.setTop (mkF m 166 #[.val (.int cnt), .val (.int bits), .val (.int (4 : Int32)), .val (.ref b80), .val (.int (f3 u103 u104)), .unset] [(.int (f5 bits (4 : Int32) (4 : Int32))), (.int ((((f5 bits (0 : Int32) (4 : Int32)) + (f5 bits (1 : Int32) (4 : Int32))) + (f5 bits (2 : Int32) (4 : Int32))) + (f5 bits (3 : Int32) (4 : Int32))))])) (fun t kt => st111 _ kt) ?_
    refine Gl.up (B := T111.setTop (mkF m 170 #[.val (.int cnt), .val (.int bits), .val (.int (4 : Int32)), .val (.ref b80), .val (.int (f3 u103 u104)), .unset] [(.int (4 : Int32)), (.int (5 : Int32)), (.int bits), (.int (((((f5 bits (0 : Int32) (4 : Int32)) + (f5 bits (1 : Int32) (4 : Int32))) + (f5 bits (2 : Int32) (4 : Int32))) + (f5 bits (3 : Int32) (4 : Int32))) + (f5 bits (4 : Int32) (4 : Int32))))])) (fun t kt => ?_) ?_
    · refine XS.iadd X111.here hx rfl (hb hby at_166) rfl ?_
      show Steps p.tables e below (T111.setTop (mkF m 167 #[.val (.int cnt), .val (.int bits), .val (.int (4 : Int32)), .val (.ref b80), .val (.int (f3 u103 u104)), .unset] [(.int (((((f5 bits (0 : Int32) (4 : Int32)) + (f5 bits (1 : Int32) (4 : Int32))) + (f5 bits (2 : Int32) (4 : Int32))) + (f5 bits (3 : Int32) (4 : Int32))) + (f5 bits (4 : Int32) (4 : Int32))))])) _
      refine XS.iloadN X111.here hx rfl (hb hby at_167) rfl ?_
      show Steps p.tables e below (T111.setTop (mkF m 168 #[.val (.int cnt), .val (.int bits), .val (.int (4 : Int32)), .val (.ref b80), .val (.int (f3 u103 u104)), .unset] [(.int bits), (.int (((((f5 bits (0 : Int32) (4 : Int32)) + (f5 bits (1 : Int32) (4 : Int32))) + (f5 bits (2 : Int32) (4 : Int32))) + (f5 bits (3 : Int32) (4 : Int32))) + (f5 bits (4 : Int32) (4 : Int32))))])) _
      refine XS.iconst X111.here hx rfl (hb hby at_168) ?_
      show Steps p.tables e below (T111.setTop (mkF m 169 #[.val (.int cnt), .val (.int bits), .val (.int (4 : Int32)), .val (.ref b80), .val (.int (f3 u103 u104)), .unset] [(.int (5 : Int32)), (.int bits), (.int (((((f5 bits (0 : Int32) (4 : Int32)) + (f5 bits (1 : Int32) (4 : Int32))) + (f5 bits (2 : Int32) (4 : Int32))) + (f5 bits (3 : Int32) (4 : Int32))) + (f5 bits (4 : Int32) (4 : Int32))))])) _
      refine XS.iloadN X111.here hx rfl (hb hby at_169) rfl ?_
      exact kt
    obtain ⟨_, _, ⟨T112, L112, k112, n112⟩, -, X112, ⟨Lc112, hQ112, l112, y112, z112⟩, st112⟩ := Jvm.LawKit.callS X111 hx (y := (⟨"com/example/gallant_courier/gallantcourier/core/LossRateWaitsPerDoublingPinLaw", "one", "(III)I"⟩ : MethodName)) hown (mvT hZ (hw _ (List.mem_of_getElem? (i := 28) rfl))) (mvT hZ (hw _ (List.mem_of_getElem? (i := 29) rfl))) (mvT hZ (hw _ (List.mem_of_getElem? (i := 11) rfl))) (mvT hZ (hw _ (List.mem_of_getElem? (i := 30) rfl))) (by decide) (backOf (W := 1) (rm5 l Z aa hw [] bits (5 : Int32) (4 : Int32) T101.heap n0 O101) hZ (hw _ (List.mem_of_getElem? (i := 30) rfl)) (hw _ (List.mem_of_getElem? (i := 11) rfl)) (by decide) (by decide)) (g := (mkF m 170 #[.val (.int cnt), .val (.int bits), .val (.int (4 : Int32)), .val (.ref b80), .val (.int (f3 u103 u104)), .unset] [(.int (4 : Int32)), (.int (5 : Int32)), (.int bits), (.int (((((f5 bits (0 : Int32) (4 : Int32)) + (f5 bits (1 : Int32) (4 : Int32))) + (f5 bits (2 : Int32) (4 : Int32))) + (f5 bits (3 : Int32) (4 : Int32))) + (f5 bits (4 : Int32) (4 : Int32))))])) rfl (by rw [hml]; rfl) (argsL := [(.int bits), (.int (5 : Int32)), (.int (4 : Int32))]) (rest := [(.int (((((f5 bits (0 : Int32) (4 : Int32)) + (f5 bits (1 : Int32) (4 : Int32))) + (f5 bits (2 : Int32) (4 : Int32))) + (f5 bits (3 : Int32) (4 : Int32))) + (f5 bits (4 : Int32) (4 : Int32))))]) (lenOf pd_oIIIcI rfl) rfl (by show 2 * 0 + _ ≤ _; exact Nat.le_of_eq rfl) (hb hby at_170) (fun _ _ => ⟨rfl, e111, (by decide : 1 + 0 ≤ _), (by decide : 2 + 0 ≤ _)⟩)
    dsimp only [Pt.U, Pt.locs, Pt.cells, Pt.slots] at X112 l112 y112 z112 st112 hQ112
    subst l112 y112 z112
    obtain ⟨rfl, rfl, e112⟩ := hQ112
    try rw [List.append_nil] at X112
    refine Gl.up (B := T112.setTop (mkF m 173 #[.val (.int cnt), .val (.int bits), .val (.int (4 : Int32)), .val (.ref b80), .val (.int (f3 u103 u104)), .unset] [(.int (f5 bits (5 : Int32) (4 : Int32))), (.int (((((f5 bits (0 : Int32) (4 : Int32)) + (f5 bits (1 : Int32) (4 : Int32))) + (f5 bits (2 : Int32) (4 : Int32))) + (f5 bits (3 : Int32) (4 : Int32))) + (f5 bits (4 : Int32) (4 : Int32))))])) (fun t kt => st112 _ kt) ?_
    refine Gl.up (B := T112.setTop (mkF m 178 #[.val (.int cnt), .val (.int bits), .val (.int (4 : Int32)), .val (.ref b80), .val (.int (f3 u103 u104)), .unset] [(.int (4 : Int32)), (.int (6 : Int32)), (.int bits), (.int ((((((f5 bits (0 : Int32) (4 : Int32)) + (f5 bits (1 : Int32) (4 : Int32))) + (f5 bits (2 : Int32) (4 : Int32))) + (f5 bits (3 : Int32) (4 : Int32))) + (f5 bits (4 : Int32) (4 : Int32))) + (f5 bits (5 : Int32) (4 : Int32))))])) (fun t kt => ?_) ?_
    · refine XS.iadd X112.here hx rfl (hb hby at_173) rfl ?_
      show Steps p.tables e below (T112.setTop (mkF m 174 #[.val (.int cnt), .val (.int bits), .val (.int (4 : Int32)), .val (.ref b80), .val (.int (f3 u103 u104)), .unset] [(.int ((((((f5 bits (0 : Int32) (4 : Int32)) + (f5 bits (1 : Int32) (4 : Int32))) + (f5 bits (2 : Int32) (4 : Int32))) + (f5 bits (3 : Int32) (4 : Int32))) + (f5 bits (4 : Int32) (4 : Int32))) + (f5 bits (5 : Int32) (4 : Int32))))])) _
      refine XS.iloadN X112.here hx rfl (hb hby at_174) rfl ?_
      show Steps p.tables e below (T112.setTop (mkF m 175 #[.val (.int cnt), .val (.int bits), .val (.int (4 : Int32)), .val (.ref b80), .val (.int (f3 u103 u104)), .unset] [(.int bits), (.int ((((((f5 bits (0 : Int32) (4 : Int32)) + (f5 bits (1 : Int32) (4 : Int32))) + (f5 bits (2 : Int32) (4 : Int32))) + (f5 bits (3 : Int32) (4 : Int32))) + (f5 bits (4 : Int32) (4 : Int32))) + (f5 bits (5 : Int32) (4 : Int32))))])) _
      refine XS.bipush X112.here hx rfl (hb hby at_175) ?_
      show Steps p.tables e below (T112.setTop (mkF m 177 #[.val (.int cnt), .val (.int bits), .val (.int (4 : Int32)), .val (.ref b80), .val (.int (f3 u103 u104)), .unset] [(.int (6 : Int32)), (.int bits), (.int ((((((f5 bits (0 : Int32) (4 : Int32)) + (f5 bits (1 : Int32) (4 : Int32))) + (f5 bits (2 : Int32) (4 : Int32))) + (f5 bits (3 : Int32) (4 : Int32))) + (f5 bits (4 : Int32) (4 : Int32))) + (f5 bits (5 : Int32) (4 : Int32))))])) _
      refine XS.iloadN X112.here hx rfl (hb hby at_177) rfl ?_
      exact kt
    obtain ⟨_, _, ⟨T113, L113, k113, n113⟩, -, X113, ⟨Lc113, hQ113, l113, y113, z113⟩, st113⟩ := Jvm.LawKit.callS X112 hx (y := (⟨"com/example/gallant_courier/gallantcourier/core/LossRateWaitsPerDoublingPinLaw", "one", "(III)I"⟩ : MethodName)) hown (mvT hZ (hw _ (List.mem_of_getElem? (i := 28) rfl))) (mvT hZ (hw _ (List.mem_of_getElem? (i := 29) rfl))) (mvT hZ (hw _ (List.mem_of_getElem? (i := 11) rfl))) (mvT hZ (hw _ (List.mem_of_getElem? (i := 30) rfl))) (by decide) (backOf (W := 1) (rm5 l Z aa hw [] bits (6 : Int32) (4 : Int32) T101.heap n0 O101) hZ (hw _ (List.mem_of_getElem? (i := 30) rfl)) (hw _ (List.mem_of_getElem? (i := 11) rfl)) (by decide) (by decide)) (g := (mkF m 178 #[.val (.int cnt), .val (.int bits), .val (.int (4 : Int32)), .val (.ref b80), .val (.int (f3 u103 u104)), .unset] [(.int (4 : Int32)), (.int (6 : Int32)), (.int bits), (.int ((((((f5 bits (0 : Int32) (4 : Int32)) + (f5 bits (1 : Int32) (4 : Int32))) + (f5 bits (2 : Int32) (4 : Int32))) + (f5 bits (3 : Int32) (4 : Int32))) + (f5 bits (4 : Int32) (4 : Int32))) + (f5 bits (5 : Int32) (4 : Int32))))])) rfl (by rw [hml]; rfl) (argsL := [(.int bits), (.int (6 : Int32)), (.int (4 : Int32))]) (rest := [(.int ((((((f5 bits (0 : Int32) (4 : Int32)) + (f5 bits (1 : Int32) (4 : Int32))) + (f5 bits (2 : Int32) (4 : Int32))) + (f5 bits (3 : Int32) (4 : Int32))) + (f5 bits (4 : Int32) (4 : Int32))) + (f5 bits (5 : Int32) (4 : Int32))))]) (lenOf pd_oIIIcI rfl) rfl (by show 2 * 0 + _ ≤ _; exact Nat.le_of_eq rfl) (hb hby at_178) (fun _ _ => ⟨rfl, e112, (by decide : 1 + 0 ≤ _), (by decide : 2 + 0 ≤ _)⟩)
    dsimp only [Pt.U, Pt.locs, Pt.cells, Pt.slots] at X113 l113 y113 z113 st113 hQ113
    subst l113 y113 z113
    obtain ⟨rfl, rfl, e113⟩ := hQ113
    try rw [List.append_nil] at X113
    refine Gl.up (B := T113.setTop (mkF m 181 #[.val (.int cnt), .val (.int bits), .val (.int (4 : Int32)), .val (.ref b80), .val (.int (f3 u103 u104)), .unset] [(.int (f5 bits (6 : Int32) (4 : Int32))), (.int ((((((f5 bits (0 : Int32) (4 : Int32)) + (f5 bits (1 : Int32) (4 : Int32))) + (f5 bits (2 : Int32) (4 : Int32))) + (f5 bits (3 : Int32) (4 : Int32))) + (f5 bits (4 : Int32) (4 : Int32))) + (f5 bits (5 : Int32) (4 : Int32))))])) (fun t kt => st113 _ kt) ?_
    refine Gl.up (B := T113.setTop (mkF m 186 #[.val (.int cnt), .val (.int bits), .val (.int (4 : Int32)), .val (.ref b80), .val (.int (f3 u103 u104)), .unset] [(.int (4 : Int32)), (.int (7 : Int32)), (.int bits), (.int (((((((f5 bits (0 : Int32) (4 : Int32)) + (f5 bits (1 : Int32) (4 : Int32))) + (f5 bits (2 : Int32) (4 : Int32))) + (f5 bits (3 : Int32) (4 : Int32))) + (f5 bits (4 : Int32) (4 : Int32))) + (f5 bits (5 : Int32) (4 : Int32))) + (f5 bits (6 : Int32) (4 : Int32))))])) (fun t kt => ?_) ?_
    · refine XS.iadd X113.here hx rfl (hb hby at_181) rfl ?_
      show Steps p.tables e below (T113.setTop (mkF m 182 #[.val (.int cnt), .val (.int bits), .val (.int (4 : Int32)), .val (.ref b80), .val (.int (f3 u103 u104)), .unset] [(.int (((((((f5 bits (0 : Int32) (4 : Int32)) + (f5 bits (1 : Int32) (4 : Int32))) + (f5 bits (2 : Int32) (4 : Int32))) + (f5 bits (3 : Int32) (4 : Int32))) + (f5 bits (4 : Int32) (4 : Int32))) + (f5 bits (5 : Int32) (4 : Int32))) + (f5 bits (6 : Int32) (4 : Int32))))])) _
      refine XS.iloadN X113.here hx rfl (hb hby at_182) rfl ?_
      show Steps p.tables e below (T113.setTop (mkF m 183 #[.val (.int cnt), .val (.int bits), .val (.int (4 : Int32)), .val (.ref b80), .val (.int (f3 u103 u104)), .unset] [(.int bits), (.int (((((((f5 bits (0 : Int32) (4 : Int32)) + (f5 bits (1 : Int32) (4 : Int32))) + (f5 bits (2 : Int32) (4 : Int32))) + (f5 bits (3 : Int32) (4 : Int32))) + (f5 bits (4 : Int32) (4 : Int32))) + (f5 bits (5 : Int32) (4 : Int32))) + (f5 bits (6 : Int32) (4 : Int32))))])) _
      refine XS.bipush X113.here hx rfl (hb hby at_183) ?_
      show Steps p.tables e below (T113.setTop (mkF m 185 #[.val (.int cnt), .val (.int bits), .val (.int (4 : Int32)), .val (.ref b80), .val (.int (f3 u103 u104)), .unset] [(.int (7 : Int32)), (.int bits), (.int (((((((f5 bits (0 : Int32) (4 : Int32)) + (f5 bits (1 : Int32) (4 : Int32))) + (f5 bits (2 : Int32) (4 : Int32))) + (f5 bits (3 : Int32) (4 : Int32))) + (f5 bits (4 : Int32) (4 : Int32))) + (f5 bits (5 : Int32) (4 : Int32))) + (f5 bits (6 : Int32) (4 : Int32))))])) _
      refine XS.iloadN X113.here hx rfl (hb hby at_185) rfl ?_
      exact kt
    obtain ⟨_, _, ⟨T114, L114, k114, n114⟩, -, X114, ⟨Lc114, hQ114, l114, y114, z114⟩, st114⟩ := Jvm.LawKit.callS X113 hx (y := (⟨"com/example/gallant_courier/gallantcourier/core/LossRateWaitsPerDoublingPinLaw", "one", "(III)I"⟩ : MethodName)) hown (mvT hZ (hw _ (List.mem_of_getElem? (i := 28) rfl))) (mvT hZ (hw _ (List.mem_of_getElem? (i := 29) rfl))) (mvT hZ (hw _ (List.mem_of_getElem? (i := 11) rfl))) (mvT hZ (hw _ (List.mem_of_getElem? (i := 30) rfl))) (by decide) (backOf (W := 1) (rm5 l Z aa hw [] bits (7 : Int32) (4 : Int32) T101.heap n0 O101) hZ (hw _ (List.mem_of_getElem? (i := 30) rfl)) (hw _ (List.mem_of_getElem? (i := 11) rfl)) (by decide) (by decide)) (g := (mkF m 186 #[.val (.int cnt), .val (.int bits), .val (.int (4 : Int32)), .val (.ref b80), .val (.int (f3 u103 u104)), .unset] [(.int (4 : Int32)), (.int (7 : Int32)), (.int bits), (.int (((((((f5 bits (0 : Int32) (4 : Int32)) + (f5 bits (1 : Int32) (4 : Int32))) + (f5 bits (2 : Int32) (4 : Int32))) + (f5 bits (3 : Int32) (4 : Int32))) + (f5 bits (4 : Int32) (4 : Int32))) + (f5 bits (5 : Int32) (4 : Int32))) + (f5 bits (6 : Int32) (4 : Int32))))])) rfl (by rw [hml]; rfl) (argsL := [(.int bits), (.int (7 : Int32)), (.int (4 : Int32))]) (rest := [(.int (((((((f5 bits (0 : Int32) (4 : Int32)) + (f5 bits (1 : Int32) (4 : Int32))) + (f5 bits (2 : Int32) (4 : Int32))) + (f5 bits (3 : Int32) (4 : Int32))) + (f5 bits (4 : Int32) (4 : Int32))) + (f5 bits (5 : Int32) (4 : Int32))) + (f5 bits (6 : Int32) (4 : Int32))))]) (lenOf pd_oIIIcI rfl) rfl (by show 2 * 0 + _ ≤ _; exact Nat.le_of_eq rfl) (hb hby at_186) (fun _ _ => ⟨rfl, e113, (by decide : 1 + 0 ≤ _), (by decide : 2 + 0 ≤ _)⟩)
    dsimp only [Pt.U, Pt.locs, Pt.cells, Pt.slots] at X114 l114 y114 z114 st114 hQ114
    subst l114 y114 z114
    obtain ⟨rfl, rfl, e114⟩ := hQ114
    try rw [List.append_nil] at X114
    refine Gl.up (B := T114.setTop (mkF m 189 #[.val (.int cnt), .val (.int bits), .val (.int (4 : Int32)), .val (.ref b80), .val (.int (f3 u103 u104)), .unset] [(.int (f5 bits (7 : Int32) (4 : Int32))), (.int (((((((f5 bits (0 : Int32) (4 : Int32)) + (f5 bits (1 : Int32) (4 : Int32))) + (f5 bits (2 : Int32) (4 : Int32))) + (f5 bits (3 : Int32) (4 : Int32))) + (f5 bits (4 : Int32) (4 : Int32))) + (f5 bits (5 : Int32) (4 : Int32))) + (f5 bits (6 : Int32) (4 : Int32))))])) (fun t kt => st114 _ kt) ?_
    refine Gl.up (B := T114.setTop (mkF m 190 #[.val (.int cnt), .val (.int bits), .val (.int (4 : Int32)), .val (.ref b80), .val (.int (f3 u103 u104)), .unset] [(.int ((((((((f5 bits (0 : Int32) (4 : Int32)) + (f5 bits (1 : Int32) (4 : Int32))) + (f5 bits (2 : Int32) (4 : Int32))) + (f5 bits (3 : Int32) (4 : Int32))) + (f5 bits (4 : Int32) (4 : Int32))) + (f5 bits (5 : Int32) (4 : Int32))) + (f5 bits (6 : Int32) (4 : Int32))) + (f5 bits (7 : Int32) (4 : Int32))))])) (fun t kt => ?_) ?_
    · refine XS.iadd X114.here hx rfl (hb hby at_189) rfl ?_
      exact kt
    obtain ⟨u115, hu115⟩ : ∃ q : Int32, q = ((((((((f5 bits (0 : Int32) (4 : Int32)) + (f5 bits (1 : Int32) (4 : Int32))) + (f5 bits (2 : Int32) (4 : Int32))) + (f5 bits (3 : Int32) (4 : Int32))) + (f5 bits (4 : Int32) (4 : Int32))) + (f5 bits (5 : Int32) (4 : Int32))) + (f5 bits (6 : Int32) (4 : Int32))) + (f5 bits (7 : Int32) (4 : Int32))) := ⟨_, rfl⟩
    rw [← hu115]
    refine Gl.up (B := T114.setTop (mkF m 197 #[.val (.int cnt), .val (.int bits), .val (.int (4 : Int32)), .val (.ref b80), .val (.int (f3 u103 u104)), .val (.int u115)] [(.int (4 : Int32)), (.int u115), (.int (f3 u103 u104))])) (fun t kt => ?_) ?_
    · refine XS.istore X114.here hx rfl (hb hby at_190) rfl (l' := #[.val (.int cnt), .val (.int bits), .val (.int (4 : Int32)), .val (.ref b80), .val (.int (f3 u103 u104)), .val (.int u115)]) rfl ?_
      show Steps p.tables e below (T114.setTop (mkF m 192 #[.val (.int cnt), .val (.int bits), .val (.int (4 : Int32)), .val (.ref b80), .val (.int (f3 u103 u104)), .val (.int u115)] [])) _
      refine XS.iload X114.here hx rfl (hb hby at_192) rfl ?_
      show Steps p.tables e below (T114.setTop (mkF m 194 #[.val (.int cnt), .val (.int bits), .val (.int (4 : Int32)), .val (.ref b80), .val (.int (f3 u103 u104)), .val (.int u115)] [(.int (f3 u103 u104))])) _
      refine XS.iload X114.here hx rfl (hb hby at_194) rfl ?_
      show Steps p.tables e below (T114.setTop (mkF m 196 #[.val (.int cnt), .val (.int bits), .val (.int (4 : Int32)), .val (.ref b80), .val (.int (f3 u103 u104)), .val (.int u115)] [(.int u115), (.int (f3 u103 u104))])) _
      refine XS.iloadN X114.here hx rfl (hb hby at_196) rfl ?_
      exact kt
    obtain ⟨_, _, ⟨T116, L116, k116, n116⟩, -, X116, ⟨Lc116, hQ116, l116, y116, z116⟩, st116⟩ := Jvm.LawKit.callS X114 hx (y := (⟨"com/example/gallant_courier/gallantcourier/core/LossRateWaitsPerDoublingPinLaw", "expected", "(II)I"⟩ : MethodName)) hown (mvT hZ (hw _ (List.mem_of_getElem? (i := 31) rfl))) (mvT hZ (hw _ (List.mem_of_getElem? (i := 32) rfl))) (mvT hZ (hw _ (List.mem_of_getElem? (i := 11) rfl))) (mvT hZ (hw _ (List.mem_of_getElem? (i := 33) rfl))) (by decide) (backOf (W := 1) (rm6 l Z aa hw [] u115 (4 : Int32) T101.heap n0 O101) hZ (hw _ (List.mem_of_getElem? (i := 33) rfl)) (hw _ (List.mem_of_getElem? (i := 11) rfl)) (by decide) (by decide)) (g := (mkF m 197 #[.val (.int cnt), .val (.int bits), .val (.int (4 : Int32)), .val (.ref b80), .val (.int (f3 u103 u104)), .val (.int u115)] [(.int (4 : Int32)), (.int u115), (.int (f3 u103 u104))])) rfl (by rw [hml]; rfl) (argsL := [(.int u115), (.int (4 : Int32))]) (rest := [(.int (f3 u103 u104))]) (lenOf pd_oIIcI rfl) rfl (by show 2 * 0 + _ ≤ _; exact Nat.le_of_eq rfl) (hb hby at_197) (fun _ _ => ⟨rfl, e114, (by decide : 1 + 0 ≤ _), (by decide : 2 + 0 ≤ _)⟩)
    dsimp only [Pt.U, Pt.locs, Pt.cells, Pt.slots] at X116 l116 y116 z116 st116 hQ116
    subst l116 y116 z116
    obtain ⟨rfl, rfl, e116⟩ := hQ116
    try rw [List.append_nil] at X116
    refine Gl.up (B := T116.setTop (mkF m 200 #[.val (.int cnt), .val (.int bits), .val (.int (4 : Int32)), .val (.ref b80), .val (.int (f3 u103 u104)), .val (.int u115)] [(.int (f6 u115 (4 : Int32))), (.int (f3 u103 u104))])) (fun t kt => st116 _ kt) ?_
    have hm117 : u115 = own_sum [(f4 bits (3 : Int32)), (f4 bits (2 : Int32)), (f4 bits (1 : Int32)), (f4 bits (0 : Int32))] := by
      rw [hu115, own_bit _ (0 : Int32) _ (by decide), own_bit _ (1 : Int32) _ (by decide), own_bit _ (2 : Int32) _ (by decide), own_bit _ (3 : Int32) _ (by decide), own_nobit _ (4 : Int32) _ (by decide), own_nobit _ (5 : Int32) _ (by decide), own_nobit _ (6 : Int32) _ (by decide), own_nobit _ (7 : Int32) _ (by decide)]
      simp only [own_sum, Int32.add_zero, Int32.zero_add]
    refine Gl.up (B := T116.setTop (mkF m 208 #[.val (.int cnt), .val (.int bits), .val (.int (4 : Int32)), .val (.ref b80), .val (.int (f3 u103 u104)), .val (.int u115)] [(.int (1 : Int32))])) (fun t kt => ?_) ?_
    · refine XS.icmpNo X116.here hx rfl (hb hby at_200) rfl (teq (by rw [hsh105, hsa105, hm117]; exact own_fin4 _ (own_cons (f4_b bits (3 : Int32)) (own_cons (f4_b bits (2 : Int32)) (own_cons (f4_b bits (1 : Int32)) (own_cons (f4_b bits (0 : Int32)) own_nil)))))).2 ?_
      show Steps p.tables e below (T116.setTop (mkF m 203 #[.val (.int cnt), .val (.int bits), .val (.int (4 : Int32)), .val (.ref b80), .val (.int (f3 u103 u104)), .val (.int u115)] [])) _
      refine XS.iconst X116.here hx rfl (hb hby at_203) ?_
      show Steps p.tables e below (T116.setTop (mkF m 204 #[.val (.int cnt), .val (.int bits), .val (.int (4 : Int32)), .val (.ref b80), .val (.int (f3 u103 u104)), .val (.int u115)] [(.int (1 : Int32))])) _
      refine XS.goto X116.here hx rfl (pc0 := 204) (pc' := 208) rfl (hb hby at_204) (by decide) (by decide) ?_
      exact kt
    refine Gl.retN X116 hx hlk (t := .boolean) Bd.returns (by simp) (hb hby at_208) (w := (1 : Int32)) rfl ?_ (by decide) (by decide)
    exact ⟨rfl, N101⟩
  · rw [hk]
    obtain ⟨T118, h118, X118, e118, E118, A118, D118, -, st118⟩ := newO X0 hx hZ hown (hw _ (List.mem_of_getElem? (i := 0) rfl)) (hw _ (List.mem_of_getElem? (i := 1) rfl)) (hw _ (List.mem_of_getElem? (i := 2) rfl)) e0 (g := (mkF m 7 #[.val (.int cnt), .val (.int bits), .val (.int (5 : Int32)), .unset, .unset, .unset] [])) rfl (hb hby at_7) (by decide) (by decide)
    obtain ⟨b118, gq118⟩ : ∃ z, z = h0.size := ⟨_, rfl⟩
    rw [← gq118] at A118 D118 st118
    have g_b118 : n0 ≤ b118 := Nat.le_trans (old_le O0) (Nat.le_of_eq gq118.symm)
    have O118 := O0.ext E118
    have F_b118_samples_118 : Fld Z h118 b118 "com/example/gallant_courier/gallantcourier/core/LossRate" "samples" "I" (.int (0 : Int32)) := D118 (Or.inl (hw _ (List.mem_of_getElem? (i := 19) rfl))) (ty := .int) (by decide)
    have F_b118_share_118 : Fld Z h118 b118 "com/example/gallant_courier/gallantcourier/core/LossRate" "share" "D" (.double (0 : UInt64)) := D118 (Or.inl (hw _ (List.mem_of_getElem? (i := 21) rfl))) (ty := .double) (by decide)
    refine Gl.up (B := T118.setTop (mkF m 10 #[.val (.int cnt), .val (.int bits), .val (.int (5 : Int32)), .unset, .unset, .unset] [(.ref b118)])) (fun t kt => st118 _ kt) ?_
    refine Gl.up (B := T118.setTop (mkF m 11 #[.val (.int cnt), .val (.int bits), .val (.int (5 : Int32)), .unset, .unset, .unset] [(.ref b118), (.ref b118)])) (fun t kt => ?_) ?_
    · refine XS.dup X118.here hx rfl (hb hby at_10) rfl rfl ?_
      exact kt
    obtain ⟨_, _, ⟨T119, L119, k119, n119⟩, -, X119, ⟨Lc119, hQ119, l119, y119, z119⟩, st119⟩ := X118.specialBack hx (y := (⟨"com/example/gallant_courier/gallantcourier/core/LossRate", "<init>", "()V"⟩ : MethodName)) rfl hown (mvT hZ (hw _ (List.mem_of_getElem? (i := 3) rfl))) (mvT hZ (hw _ (List.mem_of_getElem? (i := 4) rfl))) (mvT hZ (hw _ (List.mem_of_getElem? (i := 5) rfl))) (by decide) (backOf (W := 1) (rm1 l Z aa hw [] b118 (0 : UInt64) (0 : Int32) h118 n0 O118 A118 F_b118_share_118 F_b118_samples_118 g_b118) hZ (hw _ (List.mem_of_getElem? (i := 5) rfl)) (hw _ (List.mem_of_getElem? (i := 2) rfl)) (by decide) (by decide)) (g := (mkF m 11 #[.val (.int cnt), .val (.int bits), .val (.int (5 : Int32)), .unset, .unset, .unset] [(.ref b118), (.ref b118)])) rfl (by rw [hml]; rfl) (Steps.refl _) (a := b118) (argsL := []) (rest := [(.ref b118)]) (lenOf pd_ocV rfl) rfl (by show 2 * 0 + _ ≤ _; exact Nat.le_of_eq rfl) (hb hby at_11) (fun _ _ => ⟨rfl, e118, (by decide : 1 + 0 ≤ _), (by decide : 2 + 0 ≤ _)⟩)
    dsimp only [Pt.U, Pt.locs, Pt.cells, Pt.slots] at X119 l119 y119 z119 st119 hQ119
    subst l119 y119 z119
    obtain ⟨rfl, M119, K119, F_b118_share_119, F_b118_samples_119⟩ := hQ119
    have N119 := Fr.app N0 M119
    have O119 := O118.keep K119 (allS g_b118 all0)
    have E_b118_119 := A118.keep K119
    refine Gl.up (B := T119.setTop (mkF m 14 #[.val (.int cnt), .val (.int bits), .val (.int (5 : Int32)), .unset, .unset, .unset] [(.ref b118)])) (fun t kt => st119.trans kt) ?_
    refine Gl.up (B := T119.setTop (mkF m 18 #[.val (.int cnt), .val (.int bits), .val (.int (5 : Int32)), .val (.ref b118), .unset, .unset] [(.int (0 : Int32)), (.int bits), (.ref b118)])) (fun t kt => ?_) ?_
    · refine XS.astoreN X119.here hx rfl (hb hby at_14) rfl rfl (l' := #[.val (.int cnt), .val (.int bits), .val (.int (5 : Int32)), .val (.ref b118), .unset, .unset]) rfl ?_
      show Steps p.tables e below (T119.setTop (mkF m 15 #[.val (.int cnt), .val (.int bits), .val (.int (5 : Int32)), .val (.ref b118), .unset, .unset] [])) _
      refine XS.aloadN X119.here hx rfl (hb hby at_15) rfl rfl ?_
      show Steps p.tables e below (T119.setTop (mkF m 16 #[.val (.int cnt), .val (.int bits), .val (.int (5 : Int32)), .val (.ref b118), .unset, .unset] [(.ref b118)])) _
      refine XS.iloadN X119.here hx rfl (hb hby at_16) rfl ?_
      show Steps p.tables e below (T119.setTop (mkF m 17 #[.val (.int cnt), .val (.int bits), .val (.int (5 : Int32)), .val (.ref b118), .unset, .unset] [(.int bits), (.ref b118)])) _
      refine XS.iconst X119.here hx rfl (hb hby at_17) ?_
      exact kt
    obtain ⟨_, _, ⟨T120, L120, k120, n120⟩, -, X120, ⟨Lc120, hQ120, l120, y120, z120⟩, st120⟩ := Jvm.LawKit.callS X119 hx (y := (⟨"com/example/gallant_courier/gallantcourier/core/LossRateWaitsPerDoublingPinLaw", "bit", "(II)Z"⟩ : MethodName)) hown (mvT hZ (hw _ (List.mem_of_getElem? (i := 9) rfl))) (mvT hZ (hw _ (List.mem_of_getElem? (i := 10) rfl))) (mvT hZ (hw _ (List.mem_of_getElem? (i := 11) rfl))) (mvT hZ (hw _ (List.mem_of_getElem? (i := 12) rfl))) (by decide) (backOf (W := 1) (rm4 l Z aa hw [] bits (0 : Int32) T119.heap n0 O119) hZ (hw _ (List.mem_of_getElem? (i := 12) rfl)) (hw _ (List.mem_of_getElem? (i := 11) rfl)) (by decide) (by decide)) (g := (mkF m 18 #[.val (.int cnt), .val (.int bits), .val (.int (5 : Int32)), .val (.ref b118), .unset, .unset] [(.int (0 : Int32)), (.int bits), (.ref b118)])) rfl (by rw [hml]; rfl) (argsL := [(.int bits), (.int (0 : Int32))]) (rest := [(.ref b118)]) (lenOf pd_oIIcZ rfl) rfl (by show 2 * 0 + _ ≤ _; exact Nat.le_of_eq rfl) (hb hby at_18) (fun _ _ => ⟨rfl, rfl, (by decide : 1 + 0 ≤ _), (by decide : 2 + 0 ≤ _)⟩)
    dsimp only [Pt.U, Pt.locs, Pt.cells, Pt.slots] at X120 l120 y120 z120 st120 hQ120
    subst l120 y120 z120
    obtain ⟨rfl, rfl, e120⟩ := hQ120
    try rw [List.append_nil] at X120
    refine Gl.up (B := T120.setTop (mkF m 21 #[.val (.int cnt), .val (.int bits), .val (.int (5 : Int32)), .val (.ref b118), .unset, .unset] [(.int (f4 bits (0 : Int32))), (.ref b118)])) (fun t kt => st120 _ kt) ?_
    have hp122 : own_pres (f4 bits (0 : Int32)) (0 : UInt64) (0 : Int32) := own_pre0 _ own_nil _ (own_b01 (f4_b bits (0 : Int32)))
    obtain ⟨cq121, kq121, q121a, q121b, q121c⟩ := isOf hZ e120 E_b118_119
    obtain ⟨_, _, ⟨T121, L121, k121, n121⟩, -, X121, ⟨Lc121, hQ121, l121, y121, z121⟩, st121⟩ := X120.virtualBack hx (y := (⟨"com/example/gallant_courier/gallantcourier/core/LossRate", "sample", "(Z)V"⟩ : MethodName)) (z := (⟨"com/example/gallant_courier/gallantcourier/core/LossRate", "sample", "(Z)V"⟩ : MethodName)) hown (mvT hZ (hw _ (List.mem_of_getElem? (i := 13) rfl))) (mvT hZ (hw _ (List.mem_of_getElem? (i := 14) rfl))) (notFace_of_selects (args := #[]) (mvT hZ (hw _ (List.mem_of_getElem? (i := 16) rfl)))) (mvT hZ (hw _ (List.mem_of_getElem? (i := 16) rfl))) (mvT hZ (hw _ (List.mem_of_getElem? (i := 15) rfl))) (by decide) (backOf (W := 0) (rm2 l Z aa hw [] b118 (f4 bits (0 : Int32)) (0 : UInt64) (0 : Int32) T119.heap n0 O119 E_b118_119 F_b118_share_119 F_b118_samples_119 g_b118 hp122.1 hp122.2.1 hp122.2.2) hZ (hw _ (List.mem_of_getElem? (i := 17) rfl)) (hw _ (List.mem_of_getElem? (i := 2) rfl)) (by decide) (by decide)) q121a q121c (g := (mkF m 21 #[.val (.int cnt), .val (.int bits), .val (.int (5 : Int32)), .val (.ref b118), .unset, .unset] [(.int (f4 bits (0 : Int32))), (.ref b118)])) rfl (by rw [hml]; rfl) (Steps.refl _) (argsL := [(.int (f4 bits (0 : Int32)))]) (rest := []) (lenOf pd_oZcV rfl) rfl (by show 2 * 0 + _ ≤ _; exact Nat.le_of_eq rfl) (hb hby at_21) (fun _ _ => ⟨rfl, e120, (by decide : 1 + 0 ≤ _), (by decide : 2 + 0 ≤ _)⟩)
    dsimp only [Pt.U, Pt.locs, Pt.cells, Pt.slots] at X121 l121 y121 z121 st121 hQ121
    subst l121 y121 z121
    obtain ⟨rfl, M121, K121, F_b118_share_121, F_b118_samples_121⟩ := hQ121
    have N121 := Fr.app N119 M121
    have O121 := O119.keep K121 (allS g_b118 all0)
    have E_b118_121 := E_b118_119.keep K121
    obtain ⟨u123, hu123⟩ : ∃ q : UInt64, q = (f2_share (f4 bits (0 : Int32)) (0 : UInt64) (0 : Int32)) := ⟨_, rfl⟩
    rw [← hu123] at F_b118_share_121
    obtain ⟨u124, hu124⟩ : ∃ q : Int32, q = (f2_samples (f4 bits (0 : Int32)) (0 : UInt64) (0 : Int32)) := ⟨_, rfl⟩
    rw [← hu124] at F_b118_samples_121
    refine Gl.up (B := T121.setTop (mkF m 24 #[.val (.int cnt), .val (.int bits), .val (.int (5 : Int32)), .val (.ref b118), .unset, .unset] [])) (fun t kt => st121.trans kt) ?_
    have hsh125 : u123 = (own_st [(f4 bits (0 : Int32))]).1 := by rw [hu123]; first | rfl | (simp only [own_st])
    have hsa125 : u124 = (own_st [(f4 bits (0 : Int32))]).2 := by rw [hu124]; first | rfl | (simp only [own_st])
    refine Gl.up (B := T121.setTop (mkF m 32 #[.val (.int cnt), .val (.int bits), .val (.int (5 : Int32)), .val (.ref b118), .unset, .unset] [(.int (1 : Int32)), (.int bits), (.ref b118)])) (fun t kt => ?_) ?_
    · refine XS.iloadN X121.here hx rfl (hb hby at_24) rfl ?_
      show Steps p.tables e below (T121.setTop (mkF m 25 #[.val (.int cnt), .val (.int bits), .val (.int (5 : Int32)), .val (.ref b118), .unset, .unset] [(.int (5 : Int32))])) _
      refine XS.iconst X121.here hx rfl (hb hby at_25) ?_
      show Steps p.tables e below (T121.setTop (mkF m 26 #[.val (.int cnt), .val (.int bits), .val (.int (5 : Int32)), .val (.ref b118), .unset, .unset] [(.int (2 : Int32)), (.int (5 : Int32))])) _
      refine XS.icmpNo X121.here hx rfl (hb hby at_26) rfl (flt (by decide : ¬ ((5 : Int32) < (2 : Int32)))).1 ?_
      show Steps p.tables e below (T121.setTop (mkF m 29 #[.val (.int cnt), .val (.int bits), .val (.int (5 : Int32)), .val (.ref b118), .unset, .unset] [])) _
      refine XS.aloadN X121.here hx rfl (hb hby at_29) rfl rfl ?_
      show Steps p.tables e below (T121.setTop (mkF m 30 #[.val (.int cnt), .val (.int bits), .val (.int (5 : Int32)), .val (.ref b118), .unset, .unset] [(.ref b118)])) _
      refine XS.iloadN X121.here hx rfl (hb hby at_30) rfl ?_
      show Steps p.tables e below (T121.setTop (mkF m 31 #[.val (.int cnt), .val (.int bits), .val (.int (5 : Int32)), .val (.ref b118), .unset, .unset] [(.int bits), (.ref b118)])) _
      refine XS.iconst X121.here hx rfl (hb hby at_31) ?_
      exact kt
    obtain ⟨_, _, ⟨T126, L126, k126, n126⟩, -, X126, ⟨Lc126, hQ126, l126, y126, z126⟩, st126⟩ := Jvm.LawKit.callS X121 hx (y := (⟨"com/example/gallant_courier/gallantcourier/core/LossRateWaitsPerDoublingPinLaw", "bit", "(II)Z"⟩ : MethodName)) hown (mvT hZ (hw _ (List.mem_of_getElem? (i := 9) rfl))) (mvT hZ (hw _ (List.mem_of_getElem? (i := 10) rfl))) (mvT hZ (hw _ (List.mem_of_getElem? (i := 11) rfl))) (mvT hZ (hw _ (List.mem_of_getElem? (i := 12) rfl))) (by decide) (backOf (W := 1) (rm4 l Z aa hw [] bits (1 : Int32) T121.heap n0 O121) hZ (hw _ (List.mem_of_getElem? (i := 12) rfl)) (hw _ (List.mem_of_getElem? (i := 11) rfl)) (by decide) (by decide)) (g := (mkF m 32 #[.val (.int cnt), .val (.int bits), .val (.int (5 : Int32)), .val (.ref b118), .unset, .unset] [(.int (1 : Int32)), (.int bits), (.ref b118)])) rfl (by rw [hml]; rfl) (argsL := [(.int bits), (.int (1 : Int32))]) (rest := [(.ref b118)]) (lenOf pd_oIIcZ rfl) rfl (by show 2 * 0 + _ ≤ _; exact Nat.le_of_eq rfl) (hb hby at_32) (fun _ _ => ⟨rfl, rfl, (by decide : 1 + 0 ≤ _), (by decide : 2 + 0 ≤ _)⟩)
    dsimp only [Pt.U, Pt.locs, Pt.cells, Pt.slots] at X126 l126 y126 z126 st126 hQ126
    subst l126 y126 z126
    obtain ⟨rfl, rfl, e126⟩ := hQ126
    try rw [List.append_nil] at X126
    refine Gl.up (B := T126.setTop (mkF m 35 #[.val (.int cnt), .val (.int bits), .val (.int (5 : Int32)), .val (.ref b118), .unset, .unset] [(.int (f4 bits (1 : Int32))), (.ref b118)])) (fun t kt => st126 _ kt) ?_
    have hp128 : own_pres (f4 bits (1 : Int32)) u123 u124 := by rw [hsh125, hsa125]; exact own_pre1 _ (own_cons (f4_b bits (0 : Int32)) own_nil) _ (own_b01 (f4_b bits (1 : Int32)))
    obtain ⟨cq127, kq127, q127a, q127b, q127c⟩ := isOf hZ e126 E_b118_121
    obtain ⟨_, _, ⟨T127, L127, k127, n127⟩, -, X127, ⟨Lc127, hQ127, l127, y127, z127⟩, st127⟩ := X126.virtualBack hx (y := (⟨"com/example/gallant_courier/gallantcourier/core/LossRate", "sample", "(Z)V"⟩ : MethodName)) (z := (⟨"com/example/gallant_courier/gallantcourier/core/LossRate", "sample", "(Z)V"⟩ : MethodName)) hown (mvT hZ (hw _ (List.mem_of_getElem? (i := 13) rfl))) (mvT hZ (hw _ (List.mem_of_getElem? (i := 14) rfl))) (notFace_of_selects (args := #[]) (mvT hZ (hw _ (List.mem_of_getElem? (i := 16) rfl)))) (mvT hZ (hw _ (List.mem_of_getElem? (i := 16) rfl))) (mvT hZ (hw _ (List.mem_of_getElem? (i := 15) rfl))) (by decide) (backOf (W := 0) (rm2 l Z aa hw [] b118 (f4 bits (1 : Int32)) u123 u124 T121.heap n0 O121 E_b118_121 F_b118_share_121 F_b118_samples_121 g_b118 hp128.1 hp128.2.1 hp128.2.2) hZ (hw _ (List.mem_of_getElem? (i := 17) rfl)) (hw _ (List.mem_of_getElem? (i := 2) rfl)) (by decide) (by decide)) q127a q127c (g := (mkF m 35 #[.val (.int cnt), .val (.int bits), .val (.int (5 : Int32)), .val (.ref b118), .unset, .unset] [(.int (f4 bits (1 : Int32))), (.ref b118)])) rfl (by rw [hml]; rfl) (Steps.refl _) (argsL := [(.int (f4 bits (1 : Int32)))]) (rest := []) (lenOf pd_oZcV rfl) rfl (by show 2 * 0 + _ ≤ _; exact Nat.le_of_eq rfl) (hb hby at_35) (fun _ _ => ⟨rfl, e126, (by decide : 1 + 0 ≤ _), (by decide : 2 + 0 ≤ _)⟩)
    dsimp only [Pt.U, Pt.locs, Pt.cells, Pt.slots] at X127 l127 y127 z127 st127 hQ127
    subst l127 y127 z127
    obtain ⟨rfl, M127, K127, F_b118_share_127, F_b118_samples_127⟩ := hQ127
    have N127 := Fr.app N121 M127
    have O127 := O121.keep K127 (allS g_b118 all0)
    have E_b118_127 := E_b118_121.keep K127
    obtain ⟨u129, hu129⟩ : ∃ q : UInt64, q = (f2_share (f4 bits (1 : Int32)) u123 u124) := ⟨_, rfl⟩
    rw [← hu129] at F_b118_share_127
    obtain ⟨u130, hu130⟩ : ∃ q : Int32, q = (f2_samples (f4 bits (1 : Int32)) u123 u124) := ⟨_, rfl⟩
    rw [← hu130] at F_b118_samples_127
    refine Gl.up (B := T127.setTop (mkF m 38 #[.val (.int cnt), .val (.int bits), .val (.int (5 : Int32)), .val (.ref b118), .unset, .unset] [])) (fun t kt => st127.trans kt) ?_
    have hsh131 : u129 = (own_st [(f4 bits (1 : Int32)), (f4 bits (0 : Int32))]).1 := by rw [hu129, hsh125, hsa125]; exact (own_st1 _ _).symm
    have hsa131 : u130 = (own_st [(f4 bits (1 : Int32)), (f4 bits (0 : Int32))]).2 := by rw [hu130, hsh125, hsa125]; exact (own_st2 _ _).symm
    refine Gl.up (B := T127.setTop (mkF m 46 #[.val (.int cnt), .val (.int bits), .val (.int (5 : Int32)), .val (.ref b118), .unset, .unset] [(.int (2 : Int32)), (.int bits), (.ref b118)])) (fun t kt => ?_) ?_
    · refine XS.iloadN X127.here hx rfl (hb hby at_38) rfl ?_
      show Steps p.tables e below (T127.setTop (mkF m 39 #[.val (.int cnt), .val (.int bits), .val (.int (5 : Int32)), .val (.ref b118), .unset, .unset] [(.int (5 : Int32))])) _
      refine XS.iconst X127.here hx rfl (hb hby at_39) ?_
      show Steps p.tables e below (T127.setTop (mkF m 40 #[.val (.int cnt), .val (.int bits), .val (.int (5 : Int32)), .val (.ref b118), .unset, .unset] [(.int (3 : Int32)), (.int (5 : Int32))])) _
      refine XS.icmpNo X127.here hx rfl (hb hby at_40) rfl (flt (by decide : ¬ ((5 : Int32) < (3 : Int32)))).1 ?_
      show Steps p.tables e below (T127.setTop (mkF m 43 #[.val (.int cnt), .val (.int bits), .val (.int (5 : Int32)), .val (.ref b118), .unset, .unset] [])) _
      refine XS.aloadN X127.here hx rfl (hb hby at_43) rfl rfl ?_
      show Steps p.tables e below (T127.setTop (mkF m 44 #[.val (.int cnt), .val (.int bits), .val (.int (5 : Int32)), .val (.ref b118), .unset, .unset] [(.ref b118)])) _
      refine XS.iloadN X127.here hx rfl (hb hby at_44) rfl ?_
      show Steps p.tables e below (T127.setTop (mkF m 45 #[.val (.int cnt), .val (.int bits), .val (.int (5 : Int32)), .val (.ref b118), .unset, .unset] [(.int bits), (.ref b118)])) _
      refine XS.iconst X127.here hx rfl (hb hby at_45) ?_
      exact kt
    obtain ⟨_, _, ⟨T132, L132, k132, n132⟩, -, X132, ⟨Lc132, hQ132, l132, y132, z132⟩, st132⟩ := Jvm.LawKit.callS X127 hx (y := (⟨"com/example/gallant_courier/gallantcourier/core/LossRateWaitsPerDoublingPinLaw", "bit", "(II)Z"⟩ : MethodName)) hown (mvT hZ (hw _ (List.mem_of_getElem? (i := 9) rfl))) (mvT hZ (hw _ (List.mem_of_getElem? (i := 10) rfl))) (mvT hZ (hw _ (List.mem_of_getElem? (i := 11) rfl))) (mvT hZ (hw _ (List.mem_of_getElem? (i := 12) rfl))) (by decide) (backOf (W := 1) (rm4 l Z aa hw [] bits (2 : Int32) T127.heap n0 O127) hZ (hw _ (List.mem_of_getElem? (i := 12) rfl)) (hw _ (List.mem_of_getElem? (i := 11) rfl)) (by decide) (by decide)) (g := (mkF m 46 #[.val (.int cnt), .val (.int bits), .val (.int (5 : Int32)), .val (.ref b118), .unset, .unset] [(.int (2 : Int32)), (.int bits), (.ref b118)])) rfl (by rw [hml]; rfl) (argsL := [(.int bits), (.int (2 : Int32))]) (rest := [(.ref b118)]) (lenOf pd_oIIcZ rfl) rfl (by show 2 * 0 + _ ≤ _; exact Nat.le_of_eq rfl) (hb hby at_46) (fun _ _ => ⟨rfl, rfl, (by decide : 1 + 0 ≤ _), (by decide : 2 + 0 ≤ _)⟩)
    dsimp only [Pt.U, Pt.locs, Pt.cells, Pt.slots] at X132 l132 y132 z132 st132 hQ132
    subst l132 y132 z132
    obtain ⟨rfl, rfl, e132⟩ := hQ132
    try rw [List.append_nil] at X132
    refine Gl.up (B := T132.setTop (mkF m 49 #[.val (.int cnt), .val (.int bits), .val (.int (5 : Int32)), .val (.ref b118), .unset, .unset] [(.int (f4 bits (2 : Int32))), (.ref b118)])) (fun t kt => st132 _ kt) ?_
    have hp134 : own_pres (f4 bits (2 : Int32)) u129 u130 := by rw [hsh131, hsa131]; exact own_pre2 _ (own_cons (f4_b bits (1 : Int32)) (own_cons (f4_b bits (0 : Int32)) own_nil)) _ (own_b01 (f4_b bits (2 : Int32)))
    obtain ⟨cq133, kq133, q133a, q133b, q133c⟩ := isOf hZ e132 E_b118_127
    obtain ⟨_, _, ⟨T133, L133, k133, n133⟩, -, X133, ⟨Lc133, hQ133, l133, y133, z133⟩, st133⟩ := X132.virtualBack hx (y := (⟨"com/example/gallant_courier/gallantcourier/core/LossRate", "sample", "(Z)V"⟩ : MethodName)) (z := (⟨"com/example/gallant_courier/gallantcourier/core/LossRate", "sample", "(Z)V"⟩ : MethodName)) hown (mvT hZ (hw _ (List.mem_of_getElem? (i := 13) rfl))) (mvT hZ (hw _ (List.mem_of_getElem? (i := 14) rfl))) (notFace_of_selects (args := #[]) (mvT hZ (hw _ (List.mem_of_getElem? (i := 16) rfl)))) (mvT hZ (hw _ (List.mem_of_getElem? (i := 16) rfl))) (mvT hZ (hw _ (List.mem_of_getElem? (i := 15) rfl))) (by decide) (backOf (W := 0) (rm2 l Z aa hw [] b118 (f4 bits (2 : Int32)) u129 u130 T127.heap n0 O127 E_b118_127 F_b118_share_127 F_b118_samples_127 g_b118 hp134.1 hp134.2.1 hp134.2.2) hZ (hw _ (List.mem_of_getElem? (i := 17) rfl)) (hw _ (List.mem_of_getElem? (i := 2) rfl)) (by decide) (by decide)) q133a q133c (g := (mkF m 49 #[.val (.int cnt), .val (.int bits), .val (.int (5 : Int32)), .val (.ref b118), .unset, .unset] [(.int (f4 bits (2 : Int32))), (.ref b118)])) rfl (by rw [hml]; rfl) (Steps.refl _) (argsL := [(.int (f4 bits (2 : Int32)))]) (rest := []) (lenOf pd_oZcV rfl) rfl (by show 2 * 0 + _ ≤ _; exact Nat.le_of_eq rfl) (hb hby at_49) (fun _ _ => ⟨rfl, e132, (by decide : 1 + 0 ≤ _), (by decide : 2 + 0 ≤ _)⟩)
    dsimp only [Pt.U, Pt.locs, Pt.cells, Pt.slots] at X133 l133 y133 z133 st133 hQ133
    subst l133 y133 z133
    obtain ⟨rfl, M133, K133, F_b118_share_133, F_b118_samples_133⟩ := hQ133
    have N133 := Fr.app N127 M133
    have O133 := O127.keep K133 (allS g_b118 all0)
    have E_b118_133 := E_b118_127.keep K133
    obtain ⟨u135, hu135⟩ : ∃ q : UInt64, q = (f2_share (f4 bits (2 : Int32)) u129 u130) := ⟨_, rfl⟩
    rw [← hu135] at F_b118_share_133
    obtain ⟨u136, hu136⟩ : ∃ q : Int32, q = (f2_samples (f4 bits (2 : Int32)) u129 u130) := ⟨_, rfl⟩
    rw [← hu136] at F_b118_samples_133
    refine Gl.up (B := T133.setTop (mkF m 52 #[.val (.int cnt), .val (.int bits), .val (.int (5 : Int32)), .val (.ref b118), .unset, .unset] [])) (fun t kt => st133.trans kt) ?_
    have hsh137 : u135 = (own_st [(f4 bits (2 : Int32)), (f4 bits (1 : Int32)), (f4 bits (0 : Int32))]).1 := by rw [hu135, hsh131, hsa131]; exact (own_st1 _ _).symm
    have hsa137 : u136 = (own_st [(f4 bits (2 : Int32)), (f4 bits (1 : Int32)), (f4 bits (0 : Int32))]).2 := by rw [hu136, hsh131, hsa131]; exact (own_st2 _ _).symm
    refine Gl.up (B := T133.setTop (mkF m 60 #[.val (.int cnt), .val (.int bits), .val (.int (5 : Int32)), .val (.ref b118), .unset, .unset] [(.int (3 : Int32)), (.int bits), (.ref b118)])) (fun t kt => ?_) ?_
    · refine XS.iloadN X133.here hx rfl (hb hby at_52) rfl ?_
      show Steps p.tables e below (T133.setTop (mkF m 53 #[.val (.int cnt), .val (.int bits), .val (.int (5 : Int32)), .val (.ref b118), .unset, .unset] [(.int (5 : Int32))])) _
      refine XS.iconst X133.here hx rfl (hb hby at_53) ?_
      show Steps p.tables e below (T133.setTop (mkF m 54 #[.val (.int cnt), .val (.int bits), .val (.int (5 : Int32)), .val (.ref b118), .unset, .unset] [(.int (4 : Int32)), (.int (5 : Int32))])) _
      refine XS.icmpNo X133.here hx rfl (hb hby at_54) rfl (flt (by decide : ¬ ((5 : Int32) < (4 : Int32)))).1 ?_
      show Steps p.tables e below (T133.setTop (mkF m 57 #[.val (.int cnt), .val (.int bits), .val (.int (5 : Int32)), .val (.ref b118), .unset, .unset] [])) _
      refine XS.aloadN X133.here hx rfl (hb hby at_57) rfl rfl ?_
      show Steps p.tables e below (T133.setTop (mkF m 58 #[.val (.int cnt), .val (.int bits), .val (.int (5 : Int32)), .val (.ref b118), .unset, .unset] [(.ref b118)])) _
      refine XS.iloadN X133.here hx rfl (hb hby at_58) rfl ?_
      show Steps p.tables e below (T133.setTop (mkF m 59 #[.val (.int cnt), .val (.int bits), .val (.int (5 : Int32)), .val (.ref b118), .unset, .unset] [(.int bits), (.ref b118)])) _
      refine XS.iconst X133.here hx rfl (hb hby at_59) ?_
      exact kt
    obtain ⟨_, _, ⟨T138, L138, k138, n138⟩, -, X138, ⟨Lc138, hQ138, l138, y138, z138⟩, st138⟩ := Jvm.LawKit.callS X133 hx (y := (⟨"com/example/gallant_courier/gallantcourier/core/LossRateWaitsPerDoublingPinLaw", "bit", "(II)Z"⟩ : MethodName)) hown (mvT hZ (hw _ (List.mem_of_getElem? (i := 9) rfl))) (mvT hZ (hw _ (List.mem_of_getElem? (i := 10) rfl))) (mvT hZ (hw _ (List.mem_of_getElem? (i := 11) rfl))) (mvT hZ (hw _ (List.mem_of_getElem? (i := 12) rfl))) (by decide) (backOf (W := 1) (rm4 l Z aa hw [] bits (3 : Int32) T133.heap n0 O133) hZ (hw _ (List.mem_of_getElem? (i := 12) rfl)) (hw _ (List.mem_of_getElem? (i := 11) rfl)) (by decide) (by decide)) (g := (mkF m 60 #[.val (.int cnt), .val (.int bits), .val (.int (5 : Int32)), .val (.ref b118), .unset, .unset] [(.int (3 : Int32)), (.int bits), (.ref b118)])) rfl (by rw [hml]; rfl) (argsL := [(.int bits), (.int (3 : Int32))]) (rest := [(.ref b118)]) (lenOf pd_oIIcZ rfl) rfl (by show 2 * 0 + _ ≤ _; exact Nat.le_of_eq rfl) (hb hby at_60) (fun _ _ => ⟨rfl, rfl, (by decide : 1 + 0 ≤ _), (by decide : 2 + 0 ≤ _)⟩)
    dsimp only [Pt.U, Pt.locs, Pt.cells, Pt.slots] at X138 l138 y138 z138 st138 hQ138
    subst l138 y138 z138
    obtain ⟨rfl, rfl, e138⟩ := hQ138
    try rw [List.append_nil] at X138
    refine Gl.up (B := T138.setTop (mkF m 63 #[.val (.int cnt), .val (.int bits), .val (.int (5 : Int32)), .val (.ref b118), .unset, .unset] [(.int (f4 bits (3 : Int32))), (.ref b118)])) (fun t kt => st138 _ kt) ?_
    have hp140 : own_pres (f4 bits (3 : Int32)) u135 u136 := by rw [hsh137, hsa137]; exact own_pre3 _ (own_cons (f4_b bits (2 : Int32)) (own_cons (f4_b bits (1 : Int32)) (own_cons (f4_b bits (0 : Int32)) own_nil))) _ (own_b01 (f4_b bits (3 : Int32)))
    obtain ⟨cq139, kq139, q139a, q139b, q139c⟩ := isOf hZ e138 E_b118_133
    obtain ⟨_, _, ⟨T139, L139, k139, n139⟩, -, X139, ⟨Lc139, hQ139, l139, y139, z139⟩, st139⟩ := X138.virtualBack hx (y := (⟨"com/example/gallant_courier/gallantcourier/core/LossRate", "sample", "(Z)V"⟩ : MethodName)) (z := (⟨"com/example/gallant_courier/gallantcourier/core/LossRate", "sample", "(Z)V"⟩ : MethodName)) hown (mvT hZ (hw _ (List.mem_of_getElem? (i := 13) rfl))) (mvT hZ (hw _ (List.mem_of_getElem? (i := 14) rfl))) (notFace_of_selects (args := #[]) (mvT hZ (hw _ (List.mem_of_getElem? (i := 16) rfl)))) (mvT hZ (hw _ (List.mem_of_getElem? (i := 16) rfl))) (mvT hZ (hw _ (List.mem_of_getElem? (i := 15) rfl))) (by decide) (backOf (W := 0) (rm2 l Z aa hw [] b118 (f4 bits (3 : Int32)) u135 u136 T133.heap n0 O133 E_b118_133 F_b118_share_133 F_b118_samples_133 g_b118 hp140.1 hp140.2.1 hp140.2.2) hZ (hw _ (List.mem_of_getElem? (i := 17) rfl)) (hw _ (List.mem_of_getElem? (i := 2) rfl)) (by decide) (by decide)) q139a q139c (g := (mkF m 63 #[.val (.int cnt), .val (.int bits), .val (.int (5 : Int32)), .val (.ref b118), .unset, .unset] [(.int (f4 bits (3 : Int32))), (.ref b118)])) rfl (by rw [hml]; rfl) (Steps.refl _) (argsL := [(.int (f4 bits (3 : Int32)))]) (rest := []) (lenOf pd_oZcV rfl) rfl (by show 2 * 0 + _ ≤ _; exact Nat.le_of_eq rfl) (hb hby at_63) (fun _ _ => ⟨rfl, e138, (by decide : 1 + 0 ≤ _), (by decide : 2 + 0 ≤ _)⟩)
    dsimp only [Pt.U, Pt.locs, Pt.cells, Pt.slots] at X139 l139 y139 z139 st139 hQ139
    subst l139 y139 z139
    obtain ⟨rfl, M139, K139, F_b118_share_139, F_b118_samples_139⟩ := hQ139
    have N139 := Fr.app N133 M139
    have O139 := O133.keep K139 (allS g_b118 all0)
    have E_b118_139 := E_b118_133.keep K139
    obtain ⟨u141, hu141⟩ : ∃ q : UInt64, q = (f2_share (f4 bits (3 : Int32)) u135 u136) := ⟨_, rfl⟩
    rw [← hu141] at F_b118_share_139
    obtain ⟨u142, hu142⟩ : ∃ q : Int32, q = (f2_samples (f4 bits (3 : Int32)) u135 u136) := ⟨_, rfl⟩
    rw [← hu142] at F_b118_samples_139
    refine Gl.up (B := T139.setTop (mkF m 66 #[.val (.int cnt), .val (.int bits), .val (.int (5 : Int32)), .val (.ref b118), .unset, .unset] [])) (fun t kt => st139.trans kt) ?_
    have hsh143 : u141 = (own_st [(f4 bits (3 : Int32)), (f4 bits (2 : Int32)), (f4 bits (1 : Int32)), (f4 bits (0 : Int32))]).1 := by rw [hu141, hsh137, hsa137]; exact (own_st1 _ _).symm
    have hsa143 : u142 = (own_st [(f4 bits (3 : Int32)), (f4 bits (2 : Int32)), (f4 bits (1 : Int32)), (f4 bits (0 : Int32))]).2 := by rw [hu142, hsh137, hsa137]; exact (own_st2 _ _).symm
    refine Gl.up (B := T139.setTop (mkF m 74 #[.val (.int cnt), .val (.int bits), .val (.int (5 : Int32)), .val (.ref b118), .unset, .unset] [(.int (4 : Int32)), (.int bits), (.ref b118)])) (fun t kt => ?_) ?_
    · refine XS.iloadN X139.here hx rfl (hb hby at_66) rfl ?_
      show Steps p.tables e below (T139.setTop (mkF m 67 #[.val (.int cnt), .val (.int bits), .val (.int (5 : Int32)), .val (.ref b118), .unset, .unset] [(.int (5 : Int32))])) _
      refine XS.iconst X139.here hx rfl (hb hby at_67) ?_
      show Steps p.tables e below (T139.setTop (mkF m 68 #[.val (.int cnt), .val (.int bits), .val (.int (5 : Int32)), .val (.ref b118), .unset, .unset] [(.int (5 : Int32)), (.int (5 : Int32))])) _
      refine XS.icmpNo X139.here hx rfl (hb hby at_68) rfl (flt (by decide : ¬ ((5 : Int32) < (5 : Int32)))).1 ?_
      show Steps p.tables e below (T139.setTop (mkF m 71 #[.val (.int cnt), .val (.int bits), .val (.int (5 : Int32)), .val (.ref b118), .unset, .unset] [])) _
      refine XS.aloadN X139.here hx rfl (hb hby at_71) rfl rfl ?_
      show Steps p.tables e below (T139.setTop (mkF m 72 #[.val (.int cnt), .val (.int bits), .val (.int (5 : Int32)), .val (.ref b118), .unset, .unset] [(.ref b118)])) _
      refine XS.iloadN X139.here hx rfl (hb hby at_72) rfl ?_
      show Steps p.tables e below (T139.setTop (mkF m 73 #[.val (.int cnt), .val (.int bits), .val (.int (5 : Int32)), .val (.ref b118), .unset, .unset] [(.int bits), (.ref b118)])) _
      refine XS.iconst X139.here hx rfl (hb hby at_73) ?_
      exact kt
    obtain ⟨_, _, ⟨T144, L144, k144, n144⟩, -, X144, ⟨Lc144, hQ144, l144, y144, z144⟩, st144⟩ := Jvm.LawKit.callS X139 hx (y := (⟨"com/example/gallant_courier/gallantcourier/core/LossRateWaitsPerDoublingPinLaw", "bit", "(II)Z"⟩ : MethodName)) hown (mvT hZ (hw _ (List.mem_of_getElem? (i := 9) rfl))) (mvT hZ (hw _ (List.mem_of_getElem? (i := 10) rfl))) (mvT hZ (hw _ (List.mem_of_getElem? (i := 11) rfl))) (mvT hZ (hw _ (List.mem_of_getElem? (i := 12) rfl))) (by decide) (backOf (W := 1) (rm4 l Z aa hw [] bits (4 : Int32) T139.heap n0 O139) hZ (hw _ (List.mem_of_getElem? (i := 12) rfl)) (hw _ (List.mem_of_getElem? (i := 11) rfl)) (by decide) (by decide)) (g := (mkF m 74 #[.val (.int cnt), .val (.int bits), .val (.int (5 : Int32)), .val (.ref b118), .unset, .unset] [(.int (4 : Int32)), (.int bits), (.ref b118)])) rfl (by rw [hml]; rfl) (argsL := [(.int bits), (.int (4 : Int32))]) (rest := [(.ref b118)]) (lenOf pd_oIIcZ rfl) rfl (by show 2 * 0 + _ ≤ _; exact Nat.le_of_eq rfl) (hb hby at_74) (fun _ _ => ⟨rfl, rfl, (by decide : 1 + 0 ≤ _), (by decide : 2 + 0 ≤ _)⟩)
    dsimp only [Pt.U, Pt.locs, Pt.cells, Pt.slots] at X144 l144 y144 z144 st144 hQ144
    subst l144 y144 z144
    obtain ⟨rfl, rfl, e144⟩ := hQ144
    try rw [List.append_nil] at X144
    refine Gl.up (B := T144.setTop (mkF m 77 #[.val (.int cnt), .val (.int bits), .val (.int (5 : Int32)), .val (.ref b118), .unset, .unset] [(.int (f4 bits (4 : Int32))), (.ref b118)])) (fun t kt => st144 _ kt) ?_
    have hp146 : own_pres (f4 bits (4 : Int32)) u141 u142 := by rw [hsh143, hsa143]; exact own_pre4 _ (own_cons (f4_b bits (3 : Int32)) (own_cons (f4_b bits (2 : Int32)) (own_cons (f4_b bits (1 : Int32)) (own_cons (f4_b bits (0 : Int32)) own_nil)))) _ (own_b01 (f4_b bits (4 : Int32)))
    obtain ⟨cq145, kq145, q145a, q145b, q145c⟩ := isOf hZ e144 E_b118_139
    obtain ⟨_, _, ⟨T145, L145, k145, n145⟩, -, X145, ⟨Lc145, hQ145, l145, y145, z145⟩, st145⟩ := X144.virtualBack hx (y := (⟨"com/example/gallant_courier/gallantcourier/core/LossRate", "sample", "(Z)V"⟩ : MethodName)) (z := (⟨"com/example/gallant_courier/gallantcourier/core/LossRate", "sample", "(Z)V"⟩ : MethodName)) hown (mvT hZ (hw _ (List.mem_of_getElem? (i := 13) rfl))) (mvT hZ (hw _ (List.mem_of_getElem? (i := 14) rfl))) (notFace_of_selects (args := #[]) (mvT hZ (hw _ (List.mem_of_getElem? (i := 16) rfl)))) (mvT hZ (hw _ (List.mem_of_getElem? (i := 16) rfl))) (mvT hZ (hw _ (List.mem_of_getElem? (i := 15) rfl))) (by decide) (backOf (W := 0) (rm2 l Z aa hw [] b118 (f4 bits (4 : Int32)) u141 u142 T139.heap n0 O139 E_b118_139 F_b118_share_139 F_b118_samples_139 g_b118 hp146.1 hp146.2.1 hp146.2.2) hZ (hw _ (List.mem_of_getElem? (i := 17) rfl)) (hw _ (List.mem_of_getElem? (i := 2) rfl)) (by decide) (by decide)) q145a q145c (g := (mkF m 77 #[.val (.int cnt), .val (.int bits), .val (.int (5 : Int32)), .val (.ref b118), .unset, .unset] [(.int (f4 bits (4 : Int32))), (.ref b118)])) rfl (by rw [hml]; rfl) (Steps.refl _) (argsL := [(.int (f4 bits (4 : Int32)))]) (rest := []) (lenOf pd_oZcV rfl) rfl (by show 2 * 0 + _ ≤ _; exact Nat.le_of_eq rfl) (hb hby at_77) (fun _ _ => ⟨rfl, e144, (by decide : 1 + 0 ≤ _), (by decide : 2 + 0 ≤ _)⟩)
    dsimp only [Pt.U, Pt.locs, Pt.cells, Pt.slots] at X145 l145 y145 z145 st145 hQ145
    subst l145 y145 z145
    obtain ⟨rfl, M145, K145, F_b118_share_145, F_b118_samples_145⟩ := hQ145
    have N145 := Fr.app N139 M145
    have O145 := O139.keep K145 (allS g_b118 all0)
    have E_b118_145 := E_b118_139.keep K145
    obtain ⟨u147, hu147⟩ : ∃ q : UInt64, q = (f2_share (f4 bits (4 : Int32)) u141 u142) := ⟨_, rfl⟩
    rw [← hu147] at F_b118_share_145
    obtain ⟨u148, hu148⟩ : ∃ q : Int32, q = (f2_samples (f4 bits (4 : Int32)) u141 u142) := ⟨_, rfl⟩
    rw [← hu148] at F_b118_samples_145
    refine Gl.up (B := T145.setTop (mkF m 80 #[.val (.int cnt), .val (.int bits), .val (.int (5 : Int32)), .val (.ref b118), .unset, .unset] [])) (fun t kt => st145.trans kt) ?_
    have hsh149 : u147 = (own_st [(f4 bits (4 : Int32)), (f4 bits (3 : Int32)), (f4 bits (2 : Int32)), (f4 bits (1 : Int32)), (f4 bits (0 : Int32))]).1 := by rw [hu147, hsh143, hsa143]; exact (own_st1 _ _).symm
    have hsa149 : u148 = (own_st [(f4 bits (4 : Int32)), (f4 bits (3 : Int32)), (f4 bits (2 : Int32)), (f4 bits (1 : Int32)), (f4 bits (0 : Int32))]).2 := by rw [hu148, hsh143, hsa143]; exact (own_st2 _ _).symm
    refine Gl.up (B := T145.setTop (mkF m 128 #[.val (.int cnt), .val (.int bits), .val (.int (5 : Int32)), .val (.ref b118), .unset, .unset] [(.ref b118)])) (fun t kt => ?_) ?_
    · refine XS.iloadN X145.here hx rfl (hb hby at_80) rfl ?_
      show Steps p.tables e below (T145.setTop (mkF m 81 #[.val (.int cnt), .val (.int bits), .val (.int (5 : Int32)), .val (.ref b118), .unset, .unset] [(.int (5 : Int32))])) _
      refine XS.bipush X145.here hx rfl (hb hby at_81) ?_
      show Steps p.tables e below (T145.setTop (mkF m 83 #[.val (.int cnt), .val (.int bits), .val (.int (5 : Int32)), .val (.ref b118), .unset, .unset] [(.int (6 : Int32)), (.int (5 : Int32))])) _
      refine XS.icmpYes X145.here hx rfl (pc0 := 83) (pc' := 95) rfl (hb hby at_83) rfl (tlt (by decide : (5 : Int32) < (6 : Int32))).1 (by decide) (by decide) ?_
      show Steps p.tables e below (T145.setTop (mkF m 95 #[.val (.int cnt), .val (.int bits), .val (.int (5 : Int32)), .val (.ref b118), .unset, .unset] [])) _
      refine XS.iloadN X145.here hx rfl (hb hby at_95) rfl ?_
      show Steps p.tables e below (T145.setTop (mkF m 96 #[.val (.int cnt), .val (.int bits), .val (.int (5 : Int32)), .val (.ref b118), .unset, .unset] [(.int (5 : Int32))])) _
      refine XS.bipush X145.here hx rfl (hb hby at_96) ?_
      show Steps p.tables e below (T145.setTop (mkF m 98 #[.val (.int cnt), .val (.int bits), .val (.int (5 : Int32)), .val (.ref b118), .unset, .unset] [(.int (7 : Int32)), (.int (5 : Int32))])) _
      refine XS.icmpYes X145.here hx rfl (pc0 := 98) (pc' := 111) rfl (hb hby at_98) rfl (tlt (by decide : (5 : Int32) < (7 : Int32))).1 (by decide) (by decide) ?_
      show Steps p.tables e below (T145.setTop (mkF m 111 #[.val (.int cnt), .val (.int bits), .val (.int (5 : Int32)), .val (.ref b118), .unset, .unset] [])) _
      refine XS.iloadN X145.here hx rfl (hb hby at_111) rfl ?_
      show Steps p.tables e below (T145.setTop (mkF m 112 #[.val (.int cnt), .val (.int bits), .val (.int (5 : Int32)), .val (.ref b118), .unset, .unset] [(.int (5 : Int32))])) _
      refine XS.bipush X145.here hx rfl (hb hby at_112) ?_
      show Steps p.tables e below (T145.setTop (mkF m 114 #[.val (.int cnt), .val (.int bits), .val (.int (5 : Int32)), .val (.ref b118), .unset, .unset] [(.int (8 : Int32)), (.int (5 : Int32))])) _
      refine XS.icmpYes X145.here hx rfl (pc0 := 114) (pc' := 127) rfl (hb hby at_114) rfl (tlt (by decide : (5 : Int32) < (8 : Int32))).1 (by decide) (by decide) ?_
      show Steps p.tables e below (T145.setTop (mkF m 127 #[.val (.int cnt), .val (.int bits), .val (.int (5 : Int32)), .val (.ref b118), .unset, .unset] [])) _
      refine XS.aloadN X145.here hx rfl (hb hby at_127) rfl rfl ?_
      exact kt
    have hw5 : own_prew u147 := by rw [hsh149]; exact own_w5 _ (own_cons (f4_b bits (4 : Int32)) (own_cons (f4_b bits (3 : Int32)) (own_cons (f4_b bits (2 : Int32)) (own_cons (f4_b bits (1 : Int32)) (own_cons (f4_b bits (0 : Int32)) own_nil)))))
    obtain ⟨cq150, kq150, q150a, q150b, q150c⟩ := isOf hZ rfl E_b118_145
    obtain ⟨_, _, ⟨T150, L150, k150, n150⟩, -, X150, ⟨Lc150, hQ150, l150, y150, z150⟩, st150⟩ := X145.virtualBack hx (y := (⟨"com/example/gallant_courier/gallantcourier/core/LossRate", "waitsPerDoubling", "()I"⟩ : MethodName)) (z := (⟨"com/example/gallant_courier/gallantcourier/core/LossRate", "waitsPerDoubling", "()I"⟩ : MethodName)) hown (mvT hZ (hw _ (List.mem_of_getElem? (i := 22) rfl))) (mvT hZ (hw _ (List.mem_of_getElem? (i := 23) rfl))) (notFace_of_selects (args := #[]) (mvT hZ (hw _ (List.mem_of_getElem? (i := 25) rfl)))) (mvT hZ (hw _ (List.mem_of_getElem? (i := 25) rfl))) (mvT hZ (hw _ (List.mem_of_getElem? (i := 24) rfl))) (by decide) (backOf (W := 0) (rm3 l Z aa hw [] b118 u147 u148 T145.heap n0 O145 E_b118_145 F_b118_share_145 F_b118_samples_145 hw5.1 hw5.2.1 hw5.2.2.1 hw5.2.2.2.1 hw5.2.2.2.2.1 hw5.2.2.2.2.2.1 hw5.2.2.2.2.2.2.1 hw5.2.2.2.2.2.2.2.1 hw5.2.2.2.2.2.2.2.2.1 hw5.2.2.2.2.2.2.2.2.2) hZ (hw _ (List.mem_of_getElem? (i := 26) rfl)) (hw _ (List.mem_of_getElem? (i := 2) rfl)) (by decide) (by decide)) q150a q150c (g := (mkF m 128 #[.val (.int cnt), .val (.int bits), .val (.int (5 : Int32)), .val (.ref b118), .unset, .unset] [(.ref b118)])) rfl (by rw [hml]; rfl) (Steps.refl _) (argsL := []) (rest := []) (lenOf pd_ocI rfl) rfl (by show 2 * 0 + _ ≤ _; exact Nat.le_of_eq rfl) (hb hby at_128) (fun _ _ => ⟨rfl, rfl, (by decide : 1 + 0 ≤ _), (by decide : 2 + 0 ≤ _)⟩)
    dsimp only [Pt.U, Pt.locs, Pt.cells, Pt.slots] at X150 l150 y150 z150 st150 hQ150
    subst l150 y150 z150
    obtain ⟨rfl, rfl, e150⟩ := hQ150
    try rw [List.append_nil] at X150
    refine Gl.up (B := T150.setTop (mkF m 131 #[.val (.int cnt), .val (.int bits), .val (.int (5 : Int32)), .val (.ref b118), .unset, .unset] [(.int (f3 u147 u148))])) (fun t kt => st150.trans kt) ?_
    refine Gl.up (B := T150.setTop (mkF m 136 #[.val (.int cnt), .val (.int bits), .val (.int (5 : Int32)), .val (.ref b118), .val (.int (f3 u147 u148)), .unset] [(.int (5 : Int32)), (.int (0 : Int32)), (.int bits)])) (fun t kt => ?_) ?_
    · refine XS.istore X150.here hx rfl (hb hby at_131) rfl (l' := #[.val (.int cnt), .val (.int bits), .val (.int (5 : Int32)), .val (.ref b118), .val (.int (f3 u147 u148)), .unset]) rfl ?_
      show Steps p.tables e below (T150.setTop (mkF m 133 #[.val (.int cnt), .val (.int bits), .val (.int (5 : Int32)), .val (.ref b118), .val (.int (f3 u147 u148)), .unset] [])) _
      refine XS.iloadN X150.here hx rfl (hb hby at_133) rfl ?_
      show Steps p.tables e below (T150.setTop (mkF m 134 #[.val (.int cnt), .val (.int bits), .val (.int (5 : Int32)), .val (.ref b118), .val (.int (f3 u147 u148)), .unset] [(.int bits)])) _
      refine XS.iconst X150.here hx rfl (hb hby at_134) ?_
      show Steps p.tables e below (T150.setTop (mkF m 135 #[.val (.int cnt), .val (.int bits), .val (.int (5 : Int32)), .val (.ref b118), .val (.int (f3 u147 u148)), .unset] [(.int (0 : Int32)), (.int bits)])) _
      refine XS.iloadN X150.here hx rfl (hb hby at_135) rfl ?_
      exact kt
    obtain ⟨_, _, ⟨T151, L151, k151, n151⟩, -, X151, ⟨Lc151, hQ151, l151, y151, z151⟩, st151⟩ := Jvm.LawKit.callS X150 hx (y := (⟨"com/example/gallant_courier/gallantcourier/core/LossRateWaitsPerDoublingPinLaw", "one", "(III)I"⟩ : MethodName)) hown (mvT hZ (hw _ (List.mem_of_getElem? (i := 28) rfl))) (mvT hZ (hw _ (List.mem_of_getElem? (i := 29) rfl))) (mvT hZ (hw _ (List.mem_of_getElem? (i := 11) rfl))) (mvT hZ (hw _ (List.mem_of_getElem? (i := 30) rfl))) (by decide) (backOf (W := 0) (rm5 l Z aa hw [] bits (0 : Int32) (5 : Int32) T145.heap n0 O145) hZ (hw _ (List.mem_of_getElem? (i := 30) rfl)) (hw _ (List.mem_of_getElem? (i := 11) rfl)) (by decide) (by decide)) (g := (mkF m 136 #[.val (.int cnt), .val (.int bits), .val (.int (5 : Int32)), .val (.ref b118), .val (.int (f3 u147 u148)), .unset] [(.int (5 : Int32)), (.int (0 : Int32)), (.int bits)])) rfl (by rw [hml]; rfl) (argsL := [(.int bits), (.int (0 : Int32)), (.int (5 : Int32))]) (rest := []) (lenOf pd_oIIIcI rfl) rfl (by show 2 * 0 + _ ≤ _; exact Nat.le_of_eq rfl) (hb hby at_136) (fun _ _ => ⟨rfl, e150, (by decide : 1 + 0 ≤ _), (by decide : 2 + 0 ≤ _)⟩)
    dsimp only [Pt.U, Pt.locs, Pt.cells, Pt.slots] at X151 l151 y151 z151 st151 hQ151
    subst l151 y151 z151
    obtain ⟨rfl, rfl, e151⟩ := hQ151
    try rw [List.append_nil] at X151
    refine Gl.up (B := T151.setTop (mkF m 139 #[.val (.int cnt), .val (.int bits), .val (.int (5 : Int32)), .val (.ref b118), .val (.int (f3 u147 u148)), .unset] [(.int (f5 bits (0 : Int32) (5 : Int32)))])) (fun t kt => st151 _ kt) ?_
    refine Gl.up (B := T151.setTop (mkF m 142 #[.val (.int cnt), .val (.int bits), .val (.int (5 : Int32)), .val (.ref b118), .val (.int (f3 u147 u148)), .unset] [(.int (5 : Int32)), (.int (1 : Int32)), (.int bits), (.int (f5 bits (0 : Int32) (5 : Int32)))])) (fun t kt => ?_) ?_
    · refine XS.iloadN X151.here hx rfl (hb hby at_139) rfl ?_
      show Steps p.tables e below (T151.setTop (mkF m 140 #[.val (.int cnt), .val (.int bits), .val (.int (5 : Int32)), .val (.ref b118), .val (.int (f3 u147 u148)), .unset] [(.int bits), (.int (f5 bits (0 : Int32) (5 : Int32)))])) _
      refine XS.iconst X151.here hx rfl (hb hby at_140) ?_
      show Steps p.tables e below (T151.setTop (mkF m 141 #[.val (.int cnt), .val (.int bits), .val (.int (5 : Int32)), .val (.ref b118), .val (.int (f3 u147 u148)), .unset] [(.int (1 : Int32)), (.int bits), (.int (f5 bits (0 : Int32) (5 : Int32)))])) _
      refine XS.iloadN X151.here hx rfl (hb hby at_141) rfl ?_
      exact kt
    obtain ⟨_, _, ⟨T152, L152, k152, n152⟩, -, X152, ⟨Lc152, hQ152, l152, y152, z152⟩, st152⟩ := Jvm.LawKit.callS X151 hx (y := (⟨"com/example/gallant_courier/gallantcourier/core/LossRateWaitsPerDoublingPinLaw", "one", "(III)I"⟩ : MethodName)) hown (mvT hZ (hw _ (List.mem_of_getElem? (i := 28) rfl))) (mvT hZ (hw _ (List.mem_of_getElem? (i := 29) rfl))) (mvT hZ (hw _ (List.mem_of_getElem? (i := 11) rfl))) (mvT hZ (hw _ (List.mem_of_getElem? (i := 30) rfl))) (by decide) (backOf (W := 1) (rm5 l Z aa hw [] bits (1 : Int32) (5 : Int32) T145.heap n0 O145) hZ (hw _ (List.mem_of_getElem? (i := 30) rfl)) (hw _ (List.mem_of_getElem? (i := 11) rfl)) (by decide) (by decide)) (g := (mkF m 142 #[.val (.int cnt), .val (.int bits), .val (.int (5 : Int32)), .val (.ref b118), .val (.int (f3 u147 u148)), .unset] [(.int (5 : Int32)), (.int (1 : Int32)), (.int bits), (.int (f5 bits (0 : Int32) (5 : Int32)))])) rfl (by rw [hml]; rfl) (argsL := [(.int bits), (.int (1 : Int32)), (.int (5 : Int32))]) (rest := [(.int (f5 bits (0 : Int32) (5 : Int32)))]) (lenOf pd_oIIIcI rfl) rfl (by show 2 * 0 + _ ≤ _; exact Nat.le_of_eq rfl) (hb hby at_142) (fun _ _ => ⟨rfl, e151, (by decide : 1 + 0 ≤ _), (by decide : 2 + 0 ≤ _)⟩)
    dsimp only [Pt.U, Pt.locs, Pt.cells, Pt.slots] at X152 l152 y152 z152 st152 hQ152
    subst l152 y152 z152
    obtain ⟨rfl, rfl, e152⟩ := hQ152
    try rw [List.append_nil] at X152
    refine Gl.up (B := T152.setTop (mkF m 145 #[.val (.int cnt), .val (.int bits), .val (.int (5 : Int32)), .val (.ref b118), .val (.int (f3 u147 u148)), .unset] [(.int (f5 bits (1 : Int32) (5 : Int32))), (.int (f5 bits (0 : Int32) (5 : Int32)))])) (fun t kt => st152 _ kt) ?_
    refine Gl.up (B := T152.setTop (mkF m 149 #[.val (.int cnt), .val (.int bits), .val (.int (5 : Int32)), .val (.ref b118), .val (.int (f3 u147 u148)), .unset] [(.int (5 : Int32)), (.int (2 : Int32)), (.int bits), (.int ((f5 bits (0 : Int32) (5 : Int32)) + (f5 bits (1 : Int32) (5 : Int32))))])) (fun t kt => ?_) ?_
    · refine XS.iadd X152.here hx rfl (hb hby at_145) rfl ?_
      show Steps p.tables e below (T152.setTop (mkF m 146 #[.val (.int cnt), .val (.int bits), .val (.int (5 : Int32)), .val (.ref b118), .val (.int (f3 u147 u148)), .unset] [(.int ((f5 bits (0 : Int32) (5 : Int32)) + (f5 bits (1 : Int32) (5 : Int32))))])) _
      refine XS.iloadN X152.here hx rfl (hb hby at_146) rfl ?_
      show Steps p.tables e below (T152.setTop (mkF m 147 #[.val (.int cnt), .val (.int bits), .val (.int (5 : Int32)), .val (.ref b118), .val (.int (f3 u147 u148)), .unset] [(.int bits), (.int ((f5 bits (0 : Int32) (5 : Int32)) + (f5 bits (1 : Int32) (5 : Int32))))])) _
      refine XS.iconst X152.here hx rfl (hb hby at_147) ?_
      show Steps p.tables e below (T152.setTop (mkF m 148 #[.val (.int cnt), .val (.int bits), .val (.int (5 : Int32)), .val (.ref b118), .val (.int (f3 u147 u148)), .unset] [(.int (2 : Int32)), (.int bits), (.int ((f5 bits (0 : Int32) (5 : Int32)) + (f5 bits (1 : Int32) (5 : Int32))))])) _
      refine XS.iloadN X152.here hx rfl (hb hby at_148) rfl ?_
      exact kt
    obtain ⟨_, _, ⟨T153, L153, k153, n153⟩, -, X153, ⟨Lc153, hQ153, l153, y153, z153⟩, st153⟩ := Jvm.LawKit.callS X152 hx (y := (⟨"com/example/gallant_courier/gallantcourier/core/LossRateWaitsPerDoublingPinLaw", "one", "(III)I"⟩ : MethodName)) hown (mvT hZ (hw _ (List.mem_of_getElem? (i := 28) rfl))) (mvT hZ (hw _ (List.mem_of_getElem? (i := 29) rfl))) (mvT hZ (hw _ (List.mem_of_getElem? (i := 11) rfl))) (mvT hZ (hw _ (List.mem_of_getElem? (i := 30) rfl))) (by decide) (backOf (W := 1) (rm5 l Z aa hw [] bits (2 : Int32) (5 : Int32) T145.heap n0 O145) hZ (hw _ (List.mem_of_getElem? (i := 30) rfl)) (hw _ (List.mem_of_getElem? (i := 11) rfl)) (by decide) (by decide)) (g := (mkF m 149 #[.val (.int cnt), .val (.int bits), .val (.int (5 : Int32)), .val (.ref b118), .val (.int (f3 u147 u148)), .unset] [(.int (5 : Int32)), (.int (2 : Int32)), (.int bits), (.int ((f5 bits (0 : Int32) (5 : Int32)) + (f5 bits (1 : Int32) (5 : Int32))))])) rfl (by rw [hml]; rfl) (argsL := [(.int bits), (.int (2 : Int32)), (.int (5 : Int32))]) (rest := [(.int ((f5 bits (0 : Int32) (5 : Int32)) + (f5 bits (1 : Int32) (5 : Int32))))]) (lenOf pd_oIIIcI rfl) rfl (by show 2 * 0 + _ ≤ _; exact Nat.le_of_eq rfl) (hb hby at_149) (fun _ _ => ⟨rfl, e152, (by decide : 1 + 0 ≤ _), (by decide : 2 + 0 ≤ _)⟩)
    dsimp only [Pt.U, Pt.locs, Pt.cells, Pt.slots] at X153 l153 y153 z153 st153 hQ153
    subst l153 y153 z153
    obtain ⟨rfl, rfl, e153⟩ := hQ153
    try rw [List.append_nil] at X153
    refine Gl.up (B := T153.setTop (mkF m 152 #[.val (.int cnt), .val (.int bits), .val (.int (5 : Int32)), .val (.ref b118), .val (.int (f3 u147 u148)), .unset] [(.int (f5 bits (2 : Int32) (5 : Int32))), (.int ((f5 bits (0 : Int32) (5 : Int32)) + (f5 bits (1 : Int32) (5 : Int32))))])) (fun t kt => st153 _ kt) ?_
    refine Gl.up (B := T153.setTop (mkF m 156 #[.val (.int cnt), .val (.int bits), .val (.int (5 : Int32)), .val (.ref b118), .val (.int (f3 u147 u148)), .unset] [(.int (5 : Int32)), (.int (3 : Int32)), (.int bits), (.int (((f5 bits (0 : Int32) (5 : Int32)) + (f5 bits (1 : Int32) (5 : Int32))) + (f5 bits (2 : Int32) (5 : Int32))))])) (fun t kt => ?_) ?_
    · refine XS.iadd X153.here hx rfl (hb hby at_152) rfl ?_
      show Steps p.tables e below (T153.setTop (mkF m 153 #[.val (.int cnt), .val (.int bits), .val (.int (5 : Int32)), .val (.ref b118), .val (.int (f3 u147 u148)), .unset] [(.int (((f5 bits (0 : Int32) (5 : Int32)) + (f5 bits (1 : Int32) (5 : Int32))) + (f5 bits (2 : Int32) (5 : Int32))))])) _
      refine XS.iloadN X153.here hx rfl (hb hby at_153) rfl ?_
      show Steps p.tables e below (T153.setTop (mkF m 154 #[.val (.int cnt), .val (.int bits), .val (.int (5 : Int32)), .val (.ref b118), .val (.int (f3 u147 u148)), .unset] [(.int bits), (.int (((f5 bits (0 : Int32) (5 : Int32)) + (f5 bits (1 : Int32) (5 : Int32))) + (f5 bits (2 : Int32) (5 : Int32))))])) _
      refine XS.iconst X153.here hx rfl (hb hby at_154) ?_
      show Steps p.tables e below (T153.setTop (mkF m 155 #[.val (.int cnt), .val (.int bits), .val (.int (5 : Int32)), .val (.ref b118), .val (.int (f3 u147 u148)), .unset] [(.int (3 : Int32)), (.int bits), (.int (((f5 bits (0 : Int32) (5 : Int32)) + (f5 bits (1 : Int32) (5 : Int32))) + (f5 bits (2 : Int32) (5 : Int32))))])) _
      refine XS.iloadN X153.here hx rfl (hb hby at_155) rfl ?_
      exact kt
    obtain ⟨_, _, ⟨T154, L154, k154, n154⟩, -, X154, ⟨Lc154, hQ154, l154, y154, z154⟩, st154⟩ := Jvm.LawKit.callS X153 hx (y := (⟨"com/example/gallant_courier/gallantcourier/core/LossRateWaitsPerDoublingPinLaw", "one", "(III)I"⟩ : MethodName)) hown (mvT hZ (hw _ (List.mem_of_getElem? (i := 28) rfl))) (mvT hZ (hw _ (List.mem_of_getElem? (i := 29) rfl))) (mvT hZ (hw _ (List.mem_of_getElem? (i := 11) rfl))) (mvT hZ (hw _ (List.mem_of_getElem? (i := 30) rfl))) (by decide) (backOf (W := 1) (rm5 l Z aa hw [] bits (3 : Int32) (5 : Int32) T145.heap n0 O145) hZ (hw _ (List.mem_of_getElem? (i := 30) rfl)) (hw _ (List.mem_of_getElem? (i := 11) rfl)) (by decide) (by decide)) (g := (mkF m 156 #[.val (.int cnt), .val (.int bits), .val (.int (5 : Int32)), .val (.ref b118), .val (.int (f3 u147 u148)), .unset] [(.int (5 : Int32)), (.int (3 : Int32)), (.int bits), (.int (((f5 bits (0 : Int32) (5 : Int32)) + (f5 bits (1 : Int32) (5 : Int32))) + (f5 bits (2 : Int32) (5 : Int32))))])) rfl (by rw [hml]; rfl) (argsL := [(.int bits), (.int (3 : Int32)), (.int (5 : Int32))]) (rest := [(.int (((f5 bits (0 : Int32) (5 : Int32)) + (f5 bits (1 : Int32) (5 : Int32))) + (f5 bits (2 : Int32) (5 : Int32))))]) (lenOf pd_oIIIcI rfl) rfl (by show 2 * 0 + _ ≤ _; exact Nat.le_of_eq rfl) (hb hby at_156) (fun _ _ => ⟨rfl, e153, (by decide : 1 + 0 ≤ _), (by decide : 2 + 0 ≤ _)⟩)
    dsimp only [Pt.U, Pt.locs, Pt.cells, Pt.slots] at X154 l154 y154 z154 st154 hQ154
    subst l154 y154 z154
    obtain ⟨rfl, rfl, e154⟩ := hQ154
    try rw [List.append_nil] at X154
    refine Gl.up (B := T154.setTop (mkF m 159 #[.val (.int cnt), .val (.int bits), .val (.int (5 : Int32)), .val (.ref b118), .val (.int (f3 u147 u148)), .unset] [(.int (f5 bits (3 : Int32) (5 : Int32))), (.int (((f5 bits (0 : Int32) (5 : Int32)) + (f5 bits (1 : Int32) (5 : Int32))) + (f5 bits (2 : Int32) (5 : Int32))))])) (fun t kt => st154 _ kt) ?_
    refine Gl.up (B := T154.setTop (mkF m 163 #[.val (.int cnt), .val (.int bits), .val (.int (5 : Int32)), .val (.ref b118), .val (.int (f3 u147 u148)), .unset] [(.int (5 : Int32)), (.int (4 : Int32)), (.int bits), (.int ((((f5 bits (0 : Int32) (5 : Int32)) + (f5 bits (1 : Int32) (5 : Int32))) + (f5 bits (2 : Int32) (5 : Int32))) + (f5 bits (3 : Int32) (5 : Int32))))])) (fun t kt => ?_) ?_
    · refine XS.iadd X154.here hx rfl (hb hby at_159) rfl ?_
      show Steps p.tables e below (T154.setTop (mkF m 160 #[.val (.int cnt), .val (.int bits), .val (.int (5 : Int32)), .val (.ref b118), .val (.int (f3 u147 u148)), .unset] [(.int ((((f5 bits (0 : Int32) (5 : Int32)) + (f5 bits (1 : Int32) (5 : Int32))) + (f5 bits (2 : Int32) (5 : Int32))) + (f5 bits (3 : Int32) (5 : Int32))))])) _
      refine XS.iloadN X154.here hx rfl (hb hby at_160) rfl ?_
      show Steps p.tables e below (T154.setTop (mkF m 161 #[.val (.int cnt), .val (.int bits), .val (.int (5 : Int32)), .val (.ref b118), .val (.int (f3 u147 u148)), .unset] [(.int bits), (.int ((((f5 bits (0 : Int32) (5 : Int32)) + (f5 bits (1 : Int32) (5 : Int32))) + (f5 bits (2 : Int32) (5 : Int32))) + (f5 bits (3 : Int32) (5 : Int32))))])) _
      refine XS.iconst X154.here hx rfl (hb hby at_161) ?_
      show Steps p.tables e below (T154.setTop (mkF m 162 #[.val (.int cnt), .val (.int bits), .val (.int (5 : Int32)), .val (.ref b118), .val (.int (f3 u147 u148)), .unset] [(.int (4 : Int32)), (.int bits), (.int ((((f5 bits (0 : Int32) (5 : Int32)) + (f5 bits (1 : Int32) (5 : Int32))) + (f5 bits (2 : Int32) (5 : Int32))) + (f5 bits (3 : Int32) (5 : Int32))))])) _
      refine XS.iloadN X154.here hx rfl (hb hby at_162) rfl ?_
      exact kt
    obtain ⟨_, _, ⟨T155, L155, k155, n155⟩, -, X155, ⟨Lc155, hQ155, l155, y155, z155⟩, st155⟩ := Jvm.LawKit.callS X154 hx (y := (⟨"com/example/gallant_courier/gallantcourier/core/LossRateWaitsPerDoublingPinLaw", "one", "(III)I"⟩ : MethodName)) hown (mvT hZ (hw _ (List.mem_of_getElem? (i := 28) rfl))) (mvT hZ (hw _ (List.mem_of_getElem? (i := 29) rfl))) (mvT hZ (hw _ (List.mem_of_getElem? (i := 11) rfl))) (mvT hZ (hw _ (List.mem_of_getElem? (i := 30) rfl))) (by decide) (backOf (W := 1) (rm5 l Z aa hw [] bits (4 : Int32) (5 : Int32) T145.heap n0 O145) hZ (hw _ (List.mem_of_getElem? (i := 30) rfl)) (hw _ (List.mem_of_getElem? (i := 11) rfl)) (by decide) (by decide)) (g := (mkF m 163 #[.val (.int cnt), .val (.int bits), .val (.int (5 : Int32)), .val (.ref b118), .val (.int (f3 u147 u148)), .unset] [(.int (5 : Int32)), (.int (4 : Int32)), (.int bits), (.int ((((f5 bits (0 : Int32) (5 : Int32)) + (f5 bits (1 : Int32) (5 : Int32))) + (f5 bits (2 : Int32) (5 : Int32))) + (f5 bits (3 : Int32) (5 : Int32))))])) rfl (by rw [hml]; rfl) (argsL := [(.int bits), (.int (4 : Int32)), (.int (5 : Int32))]) (rest := [(.int ((((f5 bits (0 : Int32) (5 : Int32)) + (f5 bits (1 : Int32) (5 : Int32))) + (f5 bits (2 : Int32) (5 : Int32))) + (f5 bits (3 : Int32) (5 : Int32))))]) (lenOf pd_oIIIcI rfl) rfl (by show 2 * 0 + _ ≤ _; exact Nat.le_of_eq rfl) (hb hby at_163) (fun _ _ => ⟨rfl, e154, (by decide : 1 + 0 ≤ _), (by decide : 2 + 0 ≤ _)⟩)
    dsimp only [Pt.U, Pt.locs, Pt.cells, Pt.slots] at X155 l155 y155 z155 st155 hQ155
    subst l155 y155 z155
    obtain ⟨rfl, rfl, e155⟩ := hQ155
    try rw [List.append_nil] at X155
    refine Gl.up (B := T155.setTop (mkF m 166 #[.val (.int cnt), .val (.int bits), .val (.int (5 : Int32)), .val (.ref b118), .val (.int (f3 u147 u148)), .unset] [(.int (f5 bits (4 : Int32) (5 : Int32))), (.int ((((f5 bits (0 : Int32) (5 : Int32)) + (f5 bits (1 : Int32) (5 : Int32))) + (f5 bits (2 : Int32) (5 : Int32))) + (f5 bits (3 : Int32) (5 : Int32))))])) (fun t kt => st155 _ kt) ?_
    refine Gl.up (B := T155.setTop (mkF m 170 #[.val (.int cnt), .val (.int bits), .val (.int (5 : Int32)), .val (.ref b118), .val (.int (f3 u147 u148)), .unset] [(.int (5 : Int32)), (.int (5 : Int32)), (.int bits), (.int (((((f5 bits (0 : Int32) (5 : Int32)) + (f5 bits (1 : Int32) (5 : Int32))) + (f5 bits (2 : Int32) (5 : Int32))) + (f5 bits (3 : Int32) (5 : Int32))) + (f5 bits (4 : Int32) (5 : Int32))))])) (fun t kt => ?_) ?_
    · refine XS.iadd X155.here hx rfl (hb hby at_166) rfl ?_
      show Steps p.tables e below (T155.setTop (mkF m 167 #[.val (.int cnt), .val (.int bits), .val (.int (5 : Int32)), .val (.ref b118), .val (.int (f3 u147 u148)), .unset] [(.int (((((f5 bits (0 : Int32) (5 : Int32)) + (f5 bits (1 : Int32) (5 : Int32))) + (f5 bits (2 : Int32) (5 : Int32))) + (f5 bits (3 : Int32) (5 : Int32))) + (f5 bits (4 : Int32) (5 : Int32))))])) _
      refine XS.iloadN X155.here hx rfl (hb hby at_167) rfl ?_
      show Steps p.tables e below (T155.setTop (mkF m 168 #[.val (.int cnt), .val (.int bits), .val (.int (5 : Int32)), .val (.ref b118), .val (.int (f3 u147 u148)), .unset] [(.int bits), (.int (((((f5 bits (0 : Int32) (5 : Int32)) + (f5 bits (1 : Int32) (5 : Int32))) + (f5 bits (2 : Int32) (5 : Int32))) + (f5 bits (3 : Int32) (5 : Int32))) + (f5 bits (4 : Int32) (5 : Int32))))])) _
      refine XS.iconst X155.here hx rfl (hb hby at_168) ?_
      show Steps p.tables e below (T155.setTop (mkF m 169 #[.val (.int cnt), .val (.int bits), .val (.int (5 : Int32)), .val (.ref b118), .val (.int (f3 u147 u148)), .unset] [(.int (5 : Int32)), (.int bits), (.int (((((f5 bits (0 : Int32) (5 : Int32)) + (f5 bits (1 : Int32) (5 : Int32))) + (f5 bits (2 : Int32) (5 : Int32))) + (f5 bits (3 : Int32) (5 : Int32))) + (f5 bits (4 : Int32) (5 : Int32))))])) _
      refine XS.iloadN X155.here hx rfl (hb hby at_169) rfl ?_
      exact kt
    obtain ⟨_, _, ⟨T156, L156, k156, n156⟩, -, X156, ⟨Lc156, hQ156, l156, y156, z156⟩, st156⟩ := Jvm.LawKit.callS X155 hx (y := (⟨"com/example/gallant_courier/gallantcourier/core/LossRateWaitsPerDoublingPinLaw", "one", "(III)I"⟩ : MethodName)) hown (mvT hZ (hw _ (List.mem_of_getElem? (i := 28) rfl))) (mvT hZ (hw _ (List.mem_of_getElem? (i := 29) rfl))) (mvT hZ (hw _ (List.mem_of_getElem? (i := 11) rfl))) (mvT hZ (hw _ (List.mem_of_getElem? (i := 30) rfl))) (by decide) (backOf (W := 1) (rm5 l Z aa hw [] bits (5 : Int32) (5 : Int32) T145.heap n0 O145) hZ (hw _ (List.mem_of_getElem? (i := 30) rfl)) (hw _ (List.mem_of_getElem? (i := 11) rfl)) (by decide) (by decide)) (g := (mkF m 170 #[.val (.int cnt), .val (.int bits), .val (.int (5 : Int32)), .val (.ref b118), .val (.int (f3 u147 u148)), .unset] [(.int (5 : Int32)), (.int (5 : Int32)), (.int bits), (.int (((((f5 bits (0 : Int32) (5 : Int32)) + (f5 bits (1 : Int32) (5 : Int32))) + (f5 bits (2 : Int32) (5 : Int32))) + (f5 bits (3 : Int32) (5 : Int32))) + (f5 bits (4 : Int32) (5 : Int32))))])) rfl (by rw [hml]; rfl) (argsL := [(.int bits), (.int (5 : Int32)), (.int (5 : Int32))]) (rest := [(.int (((((f5 bits (0 : Int32) (5 : Int32)) + (f5 bits (1 : Int32) (5 : Int32))) + (f5 bits (2 : Int32) (5 : Int32))) + (f5 bits (3 : Int32) (5 : Int32))) + (f5 bits (4 : Int32) (5 : Int32))))]) (lenOf pd_oIIIcI rfl) rfl (by show 2 * 0 + _ ≤ _; exact Nat.le_of_eq rfl) (hb hby at_170) (fun _ _ => ⟨rfl, e155, (by decide : 1 + 0 ≤ _), (by decide : 2 + 0 ≤ _)⟩)
    dsimp only [Pt.U, Pt.locs, Pt.cells, Pt.slots] at X156 l156 y156 z156 st156 hQ156
    subst l156 y156 z156
    obtain ⟨rfl, rfl, e156⟩ := hQ156
    try rw [List.append_nil] at X156
    refine Gl.up (B := T156.setTop (mkF m 173 #[.val (.int cnt), .val (.int bits), .val (.int (5 : Int32)), .val (.ref b118), .val (.int (f3 u147 u148)), .unset] [(.int (f5 bits (5 : Int32) (5 : Int32))), (.int (((((f5 bits (0 : Int32) (5 : Int32)) + (f5 bits (1 : Int32) (5 : Int32))) + (f5 bits (2 : Int32) (5 : Int32))) + (f5 bits (3 : Int32) (5 : Int32))) + (f5 bits (4 : Int32) (5 : Int32))))])) (fun t kt => st156 _ kt) ?_
    refine Gl.up (B := T156.setTop (mkF m 178 #[.val (.int cnt), .val (.int bits), .val (.int (5 : Int32)), .val (.ref b118), .val (.int (f3 u147 u148)), .unset] [(.int (5 : Int32)), (.int (6 : Int32)), (.int bits), (.int ((((((f5 bits (0 : Int32) (5 : Int32)) + (f5 bits (1 : Int32) (5 : Int32))) + (f5 bits (2 : Int32) (5 : Int32))) + (f5 bits (3 : Int32) (5 : Int32))) + (f5 bits (4 : Int32) (5 : Int32))) + (f5 bits (5 : Int32) (5 : Int32))))])) (fun t kt => ?_) ?_
    · refine XS.iadd X156.here hx rfl (hb hby at_173) rfl ?_
      show Steps p.tables e below (T156.setTop (mkF m 174 #[.val (.int cnt), .val (.int bits), .val (.int (5 : Int32)), .val (.ref b118), .val (.int (f3 u147 u148)), .unset] [(.int ((((((f5 bits (0 : Int32) (5 : Int32)) + (f5 bits (1 : Int32) (5 : Int32))) + (f5 bits (2 : Int32) (5 : Int32))) + (f5 bits (3 : Int32) (5 : Int32))) + (f5 bits (4 : Int32) (5 : Int32))) + (f5 bits (5 : Int32) (5 : Int32))))])) _
      refine XS.iloadN X156.here hx rfl (hb hby at_174) rfl ?_
      show Steps p.tables e below (T156.setTop (mkF m 175 #[.val (.int cnt), .val (.int bits), .val (.int (5 : Int32)), .val (.ref b118), .val (.int (f3 u147 u148)), .unset] [(.int bits), (.int ((((((f5 bits (0 : Int32) (5 : Int32)) + (f5 bits (1 : Int32) (5 : Int32))) + (f5 bits (2 : Int32) (5 : Int32))) + (f5 bits (3 : Int32) (5 : Int32))) + (f5 bits (4 : Int32) (5 : Int32))) + (f5 bits (5 : Int32) (5 : Int32))))])) _
      refine XS.bipush X156.here hx rfl (hb hby at_175) ?_
      show Steps p.tables e below (T156.setTop (mkF m 177 #[.val (.int cnt), .val (.int bits), .val (.int (5 : Int32)), .val (.ref b118), .val (.int (f3 u147 u148)), .unset] [(.int (6 : Int32)), (.int bits), (.int ((((((f5 bits (0 : Int32) (5 : Int32)) + (f5 bits (1 : Int32) (5 : Int32))) + (f5 bits (2 : Int32) (5 : Int32))) + (f5 bits (3 : Int32) (5 : Int32))) + (f5 bits (4 : Int32) (5 : Int32))) + (f5 bits (5 : Int32) (5 : Int32))))])) _
      refine XS.iloadN X156.here hx rfl (hb hby at_177) rfl ?_
      exact kt
    obtain ⟨_, _, ⟨T157, L157, k157, n157⟩, -, X157, ⟨Lc157, hQ157, l157, y157, z157⟩, st157⟩ := Jvm.LawKit.callS X156 hx (y := (⟨"com/example/gallant_courier/gallantcourier/core/LossRateWaitsPerDoublingPinLaw", "one", "(III)I"⟩ : MethodName)) hown (mvT hZ (hw _ (List.mem_of_getElem? (i := 28) rfl))) (mvT hZ (hw _ (List.mem_of_getElem? (i := 29) rfl))) (mvT hZ (hw _ (List.mem_of_getElem? (i := 11) rfl))) (mvT hZ (hw _ (List.mem_of_getElem? (i := 30) rfl))) (by decide) (backOf (W := 1) (rm5 l Z aa hw [] bits (6 : Int32) (5 : Int32) T145.heap n0 O145) hZ (hw _ (List.mem_of_getElem? (i := 30) rfl)) (hw _ (List.mem_of_getElem? (i := 11) rfl)) (by decide) (by decide)) (g := (mkF m 178 #[.val (.int cnt), .val (.int bits), .val (.int (5 : Int32)), .val (.ref b118), .val (.int (f3 u147 u148)), .unset] [(.int (5 : Int32)), (.int (6 : Int32)), (.int bits), (.int ((((((f5 bits (0 : Int32) (5 : Int32)) + (f5 bits (1 : Int32) (5 : Int32))) + (f5 bits (2 : Int32) (5 : Int32))) + (f5 bits (3 : Int32) (5 : Int32))) + (f5 bits (4 : Int32) (5 : Int32))) + (f5 bits (5 : Int32) (5 : Int32))))])) rfl (by rw [hml]; rfl) (argsL := [(.int bits), (.int (6 : Int32)), (.int (5 : Int32))]) (rest := [(.int ((((((f5 bits (0 : Int32) (5 : Int32)) + (f5 bits (1 : Int32) (5 : Int32))) + (f5 bits (2 : Int32) (5 : Int32))) + (f5 bits (3 : Int32) (5 : Int32))) + (f5 bits (4 : Int32) (5 : Int32))) + (f5 bits (5 : Int32) (5 : Int32))))]) (lenOf pd_oIIIcI rfl) rfl (by show 2 * 0 + _ ≤ _; exact Nat.le_of_eq rfl) (hb hby at_178) (fun _ _ => ⟨rfl, e156, (by decide : 1 + 0 ≤ _), (by decide : 2 + 0 ≤ _)⟩)
    dsimp only [Pt.U, Pt.locs, Pt.cells, Pt.slots] at X157 l157 y157 z157 st157 hQ157
    subst l157 y157 z157
    obtain ⟨rfl, rfl, e157⟩ := hQ157
    try rw [List.append_nil] at X157
    refine Gl.up (B := T157.setTop (mkF m 181 #[.val (.int cnt), .val (.int bits), .val (.int (5 : Int32)), .val (.ref b118), .val (.int (f3 u147 u148)), .unset] [(.int (f5 bits (6 : Int32) (5 : Int32))), (.int ((((((f5 bits (0 : Int32) (5 : Int32)) + (f5 bits (1 : Int32) (5 : Int32))) + (f5 bits (2 : Int32) (5 : Int32))) + (f5 bits (3 : Int32) (5 : Int32))) + (f5 bits (4 : Int32) (5 : Int32))) + (f5 bits (5 : Int32) (5 : Int32))))])) (fun t kt => st157 _ kt) ?_
    refine Gl.up (B := T157.setTop (mkF m 186 #[.val (.int cnt), .val (.int bits), .val (.int (5 : Int32)), .val (.ref b118), .val (.int (f3 u147 u148)), .unset] [(.int (5 : Int32)), (.int (7 : Int32)), (.int bits), (.int (((((((f5 bits (0 : Int32) (5 : Int32)) + (f5 bits (1 : Int32) (5 : Int32))) + (f5 bits (2 : Int32) (5 : Int32))) + (f5 bits (3 : Int32) (5 : Int32))) + (f5 bits (4 : Int32) (5 : Int32))) + (f5 bits (5 : Int32) (5 : Int32))) + (f5 bits (6 : Int32) (5 : Int32))))])) (fun t kt => ?_) ?_
    · refine XS.iadd X157.here hx rfl (hb hby at_181) rfl ?_
      show Steps p.tables e below (T157.setTop (mkF m 182 #[.val (.int cnt), .val (.int bits), .val (.int (5 : Int32)), .val (.ref b118), .val (.int (f3 u147 u148)), .unset] [(.int (((((((f5 bits (0 : Int32) (5 : Int32)) + (f5 bits (1 : Int32) (5 : Int32))) + (f5 bits (2 : Int32) (5 : Int32))) + (f5 bits (3 : Int32) (5 : Int32))) + (f5 bits (4 : Int32) (5 : Int32))) + (f5 bits (5 : Int32) (5 : Int32))) + (f5 bits (6 : Int32) (5 : Int32))))])) _
      refine XS.iloadN X157.here hx rfl (hb hby at_182) rfl ?_
      show Steps p.tables e below (T157.setTop (mkF m 183 #[.val (.int cnt), .val (.int bits), .val (.int (5 : Int32)), .val (.ref b118), .val (.int (f3 u147 u148)), .unset] [(.int bits), (.int (((((((f5 bits (0 : Int32) (5 : Int32)) + (f5 bits (1 : Int32) (5 : Int32))) + (f5 bits (2 : Int32) (5 : Int32))) + (f5 bits (3 : Int32) (5 : Int32))) + (f5 bits (4 : Int32) (5 : Int32))) + (f5 bits (5 : Int32) (5 : Int32))) + (f5 bits (6 : Int32) (5 : Int32))))])) _
      refine XS.bipush X157.here hx rfl (hb hby at_183) ?_
      show Steps p.tables e below (T157.setTop (mkF m 185 #[.val (.int cnt), .val (.int bits), .val (.int (5 : Int32)), .val (.ref b118), .val (.int (f3 u147 u148)), .unset] [(.int (7 : Int32)), (.int bits), (.int (((((((f5 bits (0 : Int32) (5 : Int32)) + (f5 bits (1 : Int32) (5 : Int32))) + (f5 bits (2 : Int32) (5 : Int32))) + (f5 bits (3 : Int32) (5 : Int32))) + (f5 bits (4 : Int32) (5 : Int32))) + (f5 bits (5 : Int32) (5 : Int32))) + (f5 bits (6 : Int32) (5 : Int32))))])) _
      refine XS.iloadN X157.here hx rfl (hb hby at_185) rfl ?_
      exact kt
    obtain ⟨_, _, ⟨T158, L158, k158, n158⟩, -, X158, ⟨Lc158, hQ158, l158, y158, z158⟩, st158⟩ := Jvm.LawKit.callS X157 hx (y := (⟨"com/example/gallant_courier/gallantcourier/core/LossRateWaitsPerDoublingPinLaw", "one", "(III)I"⟩ : MethodName)) hown (mvT hZ (hw _ (List.mem_of_getElem? (i := 28) rfl))) (mvT hZ (hw _ (List.mem_of_getElem? (i := 29) rfl))) (mvT hZ (hw _ (List.mem_of_getElem? (i := 11) rfl))) (mvT hZ (hw _ (List.mem_of_getElem? (i := 30) rfl))) (by decide) (backOf (W := 1) (rm5 l Z aa hw [] bits (7 : Int32) (5 : Int32) T145.heap n0 O145) hZ (hw _ (List.mem_of_getElem? (i := 30) rfl)) (hw _ (List.mem_of_getElem? (i := 11) rfl)) (by decide) (by decide)) (g := (mkF m 186 #[.val (.int cnt), .val (.int bits), .val (.int (5 : Int32)), .val (.ref b118), .val (.int (f3 u147 u148)), .unset] [(.int (5 : Int32)), (.int (7 : Int32)), (.int bits), (.int (((((((f5 bits (0 : Int32) (5 : Int32)) + (f5 bits (1 : Int32) (5 : Int32))) + (f5 bits (2 : Int32) (5 : Int32))) + (f5 bits (3 : Int32) (5 : Int32))) + (f5 bits (4 : Int32) (5 : Int32))) + (f5 bits (5 : Int32) (5 : Int32))) + (f5 bits (6 : Int32) (5 : Int32))))])) rfl (by rw [hml]; rfl) (argsL := [(.int bits), (.int (7 : Int32)), (.int (5 : Int32))]) (rest := [(.int (((((((f5 bits (0 : Int32) (5 : Int32)) + (f5 bits (1 : Int32) (5 : Int32))) + (f5 bits (2 : Int32) (5 : Int32))) + (f5 bits (3 : Int32) (5 : Int32))) + (f5 bits (4 : Int32) (5 : Int32))) + (f5 bits (5 : Int32) (5 : Int32))) + (f5 bits (6 : Int32) (5 : Int32))))]) (lenOf pd_oIIIcI rfl) rfl (by show 2 * 0 + _ ≤ _; exact Nat.le_of_eq rfl) (hb hby at_186) (fun _ _ => ⟨rfl, e157, (by decide : 1 + 0 ≤ _), (by decide : 2 + 0 ≤ _)⟩)
    dsimp only [Pt.U, Pt.locs, Pt.cells, Pt.slots] at X158 l158 y158 z158 st158 hQ158
    subst l158 y158 z158
    obtain ⟨rfl, rfl, e158⟩ := hQ158
    try rw [List.append_nil] at X158
    refine Gl.up (B := T158.setTop (mkF m 189 #[.val (.int cnt), .val (.int bits), .val (.int (5 : Int32)), .val (.ref b118), .val (.int (f3 u147 u148)), .unset] [(.int (f5 bits (7 : Int32) (5 : Int32))), (.int (((((((f5 bits (0 : Int32) (5 : Int32)) + (f5 bits (1 : Int32) (5 : Int32))) + (f5 bits (2 : Int32) (5 : Int32))) + (f5 bits (3 : Int32) (5 : Int32))) + (f5 bits (4 : Int32) (5 : Int32))) + (f5 bits (5 : Int32) (5 : Int32))) + (f5 bits (6 : Int32) (5 : Int32))))])) (fun t kt => st158 _ kt) ?_
    refine Gl.up (B := T158.setTop (mkF m 190 #[.val (.int cnt), .val (.int bits), .val (.int (5 : Int32)), .val (.ref b118), .val (.int (f3 u147 u148)), .unset] [(.int ((((((((f5 bits (0 : Int32) (5 : Int32)) + (f5 bits (1 : Int32) (5 : Int32))) + (f5 bits (2 : Int32) (5 : Int32))) + (f5 bits (3 : Int32) (5 : Int32))) + (f5 bits (4 : Int32) (5 : Int32))) + (f5 bits (5 : Int32) (5 : Int32))) + (f5 bits (6 : Int32) (5 : Int32))) + (f5 bits (7 : Int32) (5 : Int32))))])) (fun t kt => ?_) ?_
    · refine XS.iadd X158.here hx rfl (hb hby at_189) rfl ?_
      exact kt
    obtain ⟨u159, hu159⟩ : ∃ q : Int32, q = ((((((((f5 bits (0 : Int32) (5 : Int32)) + (f5 bits (1 : Int32) (5 : Int32))) + (f5 bits (2 : Int32) (5 : Int32))) + (f5 bits (3 : Int32) (5 : Int32))) + (f5 bits (4 : Int32) (5 : Int32))) + (f5 bits (5 : Int32) (5 : Int32))) + (f5 bits (6 : Int32) (5 : Int32))) + (f5 bits (7 : Int32) (5 : Int32))) := ⟨_, rfl⟩
    rw [← hu159]
    refine Gl.up (B := T158.setTop (mkF m 197 #[.val (.int cnt), .val (.int bits), .val (.int (5 : Int32)), .val (.ref b118), .val (.int (f3 u147 u148)), .val (.int u159)] [(.int (5 : Int32)), (.int u159), (.int (f3 u147 u148))])) (fun t kt => ?_) ?_
    · refine XS.istore X158.here hx rfl (hb hby at_190) rfl (l' := #[.val (.int cnt), .val (.int bits), .val (.int (5 : Int32)), .val (.ref b118), .val (.int (f3 u147 u148)), .val (.int u159)]) rfl ?_
      show Steps p.tables e below (T158.setTop (mkF m 192 #[.val (.int cnt), .val (.int bits), .val (.int (5 : Int32)), .val (.ref b118), .val (.int (f3 u147 u148)), .val (.int u159)] [])) _
      refine XS.iload X158.here hx rfl (hb hby at_192) rfl ?_
      show Steps p.tables e below (T158.setTop (mkF m 194 #[.val (.int cnt), .val (.int bits), .val (.int (5 : Int32)), .val (.ref b118), .val (.int (f3 u147 u148)), .val (.int u159)] [(.int (f3 u147 u148))])) _
      refine XS.iload X158.here hx rfl (hb hby at_194) rfl ?_
      show Steps p.tables e below (T158.setTop (mkF m 196 #[.val (.int cnt), .val (.int bits), .val (.int (5 : Int32)), .val (.ref b118), .val (.int (f3 u147 u148)), .val (.int u159)] [(.int u159), (.int (f3 u147 u148))])) _
      refine XS.iloadN X158.here hx rfl (hb hby at_196) rfl ?_
      exact kt
    obtain ⟨_, _, ⟨T160, L160, k160, n160⟩, -, X160, ⟨Lc160, hQ160, l160, y160, z160⟩, st160⟩ := Jvm.LawKit.callS X158 hx (y := (⟨"com/example/gallant_courier/gallantcourier/core/LossRateWaitsPerDoublingPinLaw", "expected", "(II)I"⟩ : MethodName)) hown (mvT hZ (hw _ (List.mem_of_getElem? (i := 31) rfl))) (mvT hZ (hw _ (List.mem_of_getElem? (i := 32) rfl))) (mvT hZ (hw _ (List.mem_of_getElem? (i := 11) rfl))) (mvT hZ (hw _ (List.mem_of_getElem? (i := 33) rfl))) (by decide) (backOf (W := 1) (rm6 l Z aa hw [] u159 (5 : Int32) T145.heap n0 O145) hZ (hw _ (List.mem_of_getElem? (i := 33) rfl)) (hw _ (List.mem_of_getElem? (i := 11) rfl)) (by decide) (by decide)) (g := (mkF m 197 #[.val (.int cnt), .val (.int bits), .val (.int (5 : Int32)), .val (.ref b118), .val (.int (f3 u147 u148)), .val (.int u159)] [(.int (5 : Int32)), (.int u159), (.int (f3 u147 u148))])) rfl (by rw [hml]; rfl) (argsL := [(.int u159), (.int (5 : Int32))]) (rest := [(.int (f3 u147 u148))]) (lenOf pd_oIIcI rfl) rfl (by show 2 * 0 + _ ≤ _; exact Nat.le_of_eq rfl) (hb hby at_197) (fun _ _ => ⟨rfl, e158, (by decide : 1 + 0 ≤ _), (by decide : 2 + 0 ≤ _)⟩)
    dsimp only [Pt.U, Pt.locs, Pt.cells, Pt.slots] at X160 l160 y160 z160 st160 hQ160
    subst l160 y160 z160
    obtain ⟨rfl, rfl, e160⟩ := hQ160
    try rw [List.append_nil] at X160
    refine Gl.up (B := T160.setTop (mkF m 200 #[.val (.int cnt), .val (.int bits), .val (.int (5 : Int32)), .val (.ref b118), .val (.int (f3 u147 u148)), .val (.int u159)] [(.int (f6 u159 (5 : Int32))), (.int (f3 u147 u148))])) (fun t kt => st160 _ kt) ?_
    have hm161 : u159 = own_sum [(f4 bits (4 : Int32)), (f4 bits (3 : Int32)), (f4 bits (2 : Int32)), (f4 bits (1 : Int32)), (f4 bits (0 : Int32))] := by
      rw [hu159, own_bit _ (0 : Int32) _ (by decide), own_bit _ (1 : Int32) _ (by decide), own_bit _ (2 : Int32) _ (by decide), own_bit _ (3 : Int32) _ (by decide), own_bit _ (4 : Int32) _ (by decide), own_nobit _ (5 : Int32) _ (by decide), own_nobit _ (6 : Int32) _ (by decide), own_nobit _ (7 : Int32) _ (by decide)]
      simp only [own_sum, Int32.add_zero, Int32.zero_add]
    refine Gl.up (B := T160.setTop (mkF m 208 #[.val (.int cnt), .val (.int bits), .val (.int (5 : Int32)), .val (.ref b118), .val (.int (f3 u147 u148)), .val (.int u159)] [(.int (1 : Int32))])) (fun t kt => ?_) ?_
    · refine XS.icmpNo X160.here hx rfl (hb hby at_200) rfl (teq (by rw [hsh149, hsa149, hm161]; exact own_fin5 _ (own_cons (f4_b bits (4 : Int32)) (own_cons (f4_b bits (3 : Int32)) (own_cons (f4_b bits (2 : Int32)) (own_cons (f4_b bits (1 : Int32)) (own_cons (f4_b bits (0 : Int32)) own_nil))))))).2 ?_
      show Steps p.tables e below (T160.setTop (mkF m 203 #[.val (.int cnt), .val (.int bits), .val (.int (5 : Int32)), .val (.ref b118), .val (.int (f3 u147 u148)), .val (.int u159)] [])) _
      refine XS.iconst X160.here hx rfl (hb hby at_203) ?_
      show Steps p.tables e below (T160.setTop (mkF m 204 #[.val (.int cnt), .val (.int bits), .val (.int (5 : Int32)), .val (.ref b118), .val (.int (f3 u147 u148)), .val (.int u159)] [(.int (1 : Int32))])) _
      refine XS.goto X160.here hx rfl (pc0 := 204) (pc' := 208) rfl (hb hby at_204) (by decide) (by decide) ?_
      exact kt
    refine Gl.retN X160 hx hlk (t := .boolean) Bd.returns (by simp) (hb hby at_208) (w := (1 : Int32)) rfl ?_ (by decide) (by decide)
    exact ⟨rfl, N145⟩
  · rw [hk]
    obtain ⟨T162, h162, X162, e162, E162, A162, D162, -, st162⟩ := newO X0 hx hZ hown (hw _ (List.mem_of_getElem? (i := 0) rfl)) (hw _ (List.mem_of_getElem? (i := 1) rfl)) (hw _ (List.mem_of_getElem? (i := 2) rfl)) e0 (g := (mkF m 7 #[.val (.int cnt), .val (.int bits), .val (.int (6 : Int32)), .unset, .unset, .unset] [])) rfl (hb hby at_7) (by decide) (by decide)
    obtain ⟨b162, gq162⟩ : ∃ z, z = h0.size := ⟨_, rfl⟩
    rw [← gq162] at A162 D162 st162
    have g_b162 : n0 ≤ b162 := Nat.le_trans (old_le O0) (Nat.le_of_eq gq162.symm)
    have O162 := O0.ext E162
    have F_b162_samples_162 : Fld Z h162 b162 "com/example/gallant_courier/gallantcourier/core/LossRate" "samples" "I" (.int (0 : Int32)) := D162 (Or.inl (hw _ (List.mem_of_getElem? (i := 19) rfl))) (ty := .int) (by decide)
    have F_b162_share_162 : Fld Z h162 b162 "com/example/gallant_courier/gallantcourier/core/LossRate" "share" "D" (.double (0 : UInt64)) := D162 (Or.inl (hw _ (List.mem_of_getElem? (i := 21) rfl))) (ty := .double) (by decide)
    refine Gl.up (B := T162.setTop (mkF m 10 #[.val (.int cnt), .val (.int bits), .val (.int (6 : Int32)), .unset, .unset, .unset] [(.ref b162)])) (fun t kt => st162 _ kt) ?_
    refine Gl.up (B := T162.setTop (mkF m 11 #[.val (.int cnt), .val (.int bits), .val (.int (6 : Int32)), .unset, .unset, .unset] [(.ref b162), (.ref b162)])) (fun t kt => ?_) ?_
    · refine XS.dup X162.here hx rfl (hb hby at_10) rfl rfl ?_
      exact kt
    obtain ⟨_, _, ⟨T163, L163, k163, n163⟩, -, X163, ⟨Lc163, hQ163, l163, y163, z163⟩, st163⟩ := X162.specialBack hx (y := (⟨"com/example/gallant_courier/gallantcourier/core/LossRate", "<init>", "()V"⟩ : MethodName)) rfl hown (mvT hZ (hw _ (List.mem_of_getElem? (i := 3) rfl))) (mvT hZ (hw _ (List.mem_of_getElem? (i := 4) rfl))) (mvT hZ (hw _ (List.mem_of_getElem? (i := 5) rfl))) (by decide) (backOf (W := 1) (rm1 l Z aa hw [] b162 (0 : UInt64) (0 : Int32) h162 n0 O162 A162 F_b162_share_162 F_b162_samples_162 g_b162) hZ (hw _ (List.mem_of_getElem? (i := 5) rfl)) (hw _ (List.mem_of_getElem? (i := 2) rfl)) (by decide) (by decide)) (g := (mkF m 11 #[.val (.int cnt), .val (.int bits), .val (.int (6 : Int32)), .unset, .unset, .unset] [(.ref b162), (.ref b162)])) rfl (by rw [hml]; rfl) (Steps.refl _) (a := b162) (argsL := []) (rest := [(.ref b162)]) (lenOf pd_ocV rfl) rfl (by show 2 * 0 + _ ≤ _; exact Nat.le_of_eq rfl) (hb hby at_11) (fun _ _ => ⟨rfl, e162, (by decide : 1 + 0 ≤ _), (by decide : 2 + 0 ≤ _)⟩)
    dsimp only [Pt.U, Pt.locs, Pt.cells, Pt.slots] at X163 l163 y163 z163 st163 hQ163
    subst l163 y163 z163
    obtain ⟨rfl, M163, K163, F_b162_share_163, F_b162_samples_163⟩ := hQ163
    have N163 := Fr.app N0 M163
    have O163 := O162.keep K163 (allS g_b162 all0)
    have E_b162_163 := A162.keep K163
    refine Gl.up (B := T163.setTop (mkF m 14 #[.val (.int cnt), .val (.int bits), .val (.int (6 : Int32)), .unset, .unset, .unset] [(.ref b162)])) (fun t kt => st163.trans kt) ?_
    refine Gl.up (B := T163.setTop (mkF m 18 #[.val (.int cnt), .val (.int bits), .val (.int (6 : Int32)), .val (.ref b162), .unset, .unset] [(.int (0 : Int32)), (.int bits), (.ref b162)])) (fun t kt => ?_) ?_
    · refine XS.astoreN X163.here hx rfl (hb hby at_14) rfl rfl (l' := #[.val (.int cnt), .val (.int bits), .val (.int (6 : Int32)), .val (.ref b162), .unset, .unset]) rfl ?_
      show Steps p.tables e below (T163.setTop (mkF m 15 #[.val (.int cnt), .val (.int bits), .val (.int (6 : Int32)), .val (.ref b162), .unset, .unset] [])) _
      refine XS.aloadN X163.here hx rfl (hb hby at_15) rfl rfl ?_
      show Steps p.tables e below (T163.setTop (mkF m 16 #[.val (.int cnt), .val (.int bits), .val (.int (6 : Int32)), .val (.ref b162), .unset, .unset] [(.ref b162)])) _
      refine XS.iloadN X163.here hx rfl (hb hby at_16) rfl ?_
      show Steps p.tables e below (T163.setTop (mkF m 17 #[.val (.int cnt), .val (.int bits), .val (.int (6 : Int32)), .val (.ref b162), .unset, .unset] [(.int bits), (.ref b162)])) _
      refine XS.iconst X163.here hx rfl (hb hby at_17) ?_
      exact kt
    obtain ⟨_, _, ⟨T164, L164, k164, n164⟩, -, X164, ⟨Lc164, hQ164, l164, y164, z164⟩, st164⟩ := Jvm.LawKit.callS X163 hx (y := (⟨"com/example/gallant_courier/gallantcourier/core/LossRateWaitsPerDoublingPinLaw", "bit", "(II)Z"⟩ : MethodName)) hown (mvT hZ (hw _ (List.mem_of_getElem? (i := 9) rfl))) (mvT hZ (hw _ (List.mem_of_getElem? (i := 10) rfl))) (mvT hZ (hw _ (List.mem_of_getElem? (i := 11) rfl))) (mvT hZ (hw _ (List.mem_of_getElem? (i := 12) rfl))) (by decide) (backOf (W := 1) (rm4 l Z aa hw [] bits (0 : Int32) T163.heap n0 O163) hZ (hw _ (List.mem_of_getElem? (i := 12) rfl)) (hw _ (List.mem_of_getElem? (i := 11) rfl)) (by decide) (by decide)) (g := (mkF m 18 #[.val (.int cnt), .val (.int bits), .val (.int (6 : Int32)), .val (.ref b162), .unset, .unset] [(.int (0 : Int32)), (.int bits), (.ref b162)])) rfl (by rw [hml]; rfl) (argsL := [(.int bits), (.int (0 : Int32))]) (rest := [(.ref b162)]) (lenOf pd_oIIcZ rfl) rfl (by show 2 * 0 + _ ≤ _; exact Nat.le_of_eq rfl) (hb hby at_18) (fun _ _ => ⟨rfl, rfl, (by decide : 1 + 0 ≤ _), (by decide : 2 + 0 ≤ _)⟩)
    dsimp only [Pt.U, Pt.locs, Pt.cells, Pt.slots] at X164 l164 y164 z164 st164 hQ164
    subst l164 y164 z164
    obtain ⟨rfl, rfl, e164⟩ := hQ164
    try rw [List.append_nil] at X164
    refine Gl.up (B := T164.setTop (mkF m 21 #[.val (.int cnt), .val (.int bits), .val (.int (6 : Int32)), .val (.ref b162), .unset, .unset] [(.int (f4 bits (0 : Int32))), (.ref b162)])) (fun t kt => st164 _ kt) ?_
    have hp166 : own_pres (f4 bits (0 : Int32)) (0 : UInt64) (0 : Int32) := own_pre0 _ own_nil _ (own_b01 (f4_b bits (0 : Int32)))
    obtain ⟨cq165, kq165, q165a, q165b, q165c⟩ := isOf hZ e164 E_b162_163
    obtain ⟨_, _, ⟨T165, L165, k165, n165⟩, -, X165, ⟨Lc165, hQ165, l165, y165, z165⟩, st165⟩ := X164.virtualBack hx (y := (⟨"com/example/gallant_courier/gallantcourier/core/LossRate", "sample", "(Z)V"⟩ : MethodName)) (z := (⟨"com/example/gallant_courier/gallantcourier/core/LossRate", "sample", "(Z)V"⟩ : MethodName)) hown (mvT hZ (hw _ (List.mem_of_getElem? (i := 13) rfl))) (mvT hZ (hw _ (List.mem_of_getElem? (i := 14) rfl))) (notFace_of_selects (args := #[]) (mvT hZ (hw _ (List.mem_of_getElem? (i := 16) rfl)))) (mvT hZ (hw _ (List.mem_of_getElem? (i := 16) rfl))) (mvT hZ (hw _ (List.mem_of_getElem? (i := 15) rfl))) (by decide) (backOf (W := 0) (rm2 l Z aa hw [] b162 (f4 bits (0 : Int32)) (0 : UInt64) (0 : Int32) T163.heap n0 O163 E_b162_163 F_b162_share_163 F_b162_samples_163 g_b162 hp166.1 hp166.2.1 hp166.2.2) hZ (hw _ (List.mem_of_getElem? (i := 17) rfl)) (hw _ (List.mem_of_getElem? (i := 2) rfl)) (by decide) (by decide)) q165a q165c (g := (mkF m 21 #[.val (.int cnt), .val (.int bits), .val (.int (6 : Int32)), .val (.ref b162), .unset, .unset] [(.int (f4 bits (0 : Int32))), (.ref b162)])) rfl (by rw [hml]; rfl) (Steps.refl _) (argsL := [(.int (f4 bits (0 : Int32)))]) (rest := []) (lenOf pd_oZcV rfl) rfl (by show 2 * 0 + _ ≤ _; exact Nat.le_of_eq rfl) (hb hby at_21) (fun _ _ => ⟨rfl, e164, (by decide : 1 + 0 ≤ _), (by decide : 2 + 0 ≤ _)⟩)
    dsimp only [Pt.U, Pt.locs, Pt.cells, Pt.slots] at X165 l165 y165 z165 st165 hQ165
    subst l165 y165 z165
    obtain ⟨rfl, M165, K165, F_b162_share_165, F_b162_samples_165⟩ := hQ165
    have N165 := Fr.app N163 M165
    have O165 := O163.keep K165 (allS g_b162 all0)
    have E_b162_165 := E_b162_163.keep K165
    obtain ⟨u167, hu167⟩ : ∃ q : UInt64, q = (f2_share (f4 bits (0 : Int32)) (0 : UInt64) (0 : Int32)) := ⟨_, rfl⟩
    rw [← hu167] at F_b162_share_165
    obtain ⟨u168, hu168⟩ : ∃ q : Int32, q = (f2_samples (f4 bits (0 : Int32)) (0 : UInt64) (0 : Int32)) := ⟨_, rfl⟩
    rw [← hu168] at F_b162_samples_165
    refine Gl.up (B := T165.setTop (mkF m 24 #[.val (.int cnt), .val (.int bits), .val (.int (6 : Int32)), .val (.ref b162), .unset, .unset] [])) (fun t kt => st165.trans kt) ?_
    have hsh169 : u167 = (own_st [(f4 bits (0 : Int32))]).1 := by rw [hu167]; first | rfl | (simp only [own_st])
    have hsa169 : u168 = (own_st [(f4 bits (0 : Int32))]).2 := by rw [hu168]; first | rfl | (simp only [own_st])
    refine Gl.up (B := T165.setTop (mkF m 32 #[.val (.int cnt), .val (.int bits), .val (.int (6 : Int32)), .val (.ref b162), .unset, .unset] [(.int (1 : Int32)), (.int bits), (.ref b162)])) (fun t kt => ?_) ?_
    · refine XS.iloadN X165.here hx rfl (hb hby at_24) rfl ?_
      show Steps p.tables e below (T165.setTop (mkF m 25 #[.val (.int cnt), .val (.int bits), .val (.int (6 : Int32)), .val (.ref b162), .unset, .unset] [(.int (6 : Int32))])) _
      refine XS.iconst X165.here hx rfl (hb hby at_25) ?_
      show Steps p.tables e below (T165.setTop (mkF m 26 #[.val (.int cnt), .val (.int bits), .val (.int (6 : Int32)), .val (.ref b162), .unset, .unset] [(.int (2 : Int32)), (.int (6 : Int32))])) _
      refine XS.icmpNo X165.here hx rfl (hb hby at_26) rfl (flt (by decide : ¬ ((6 : Int32) < (2 : Int32)))).1 ?_
      show Steps p.tables e below (T165.setTop (mkF m 29 #[.val (.int cnt), .val (.int bits), .val (.int (6 : Int32)), .val (.ref b162), .unset, .unset] [])) _
      refine XS.aloadN X165.here hx rfl (hb hby at_29) rfl rfl ?_
      show Steps p.tables e below (T165.setTop (mkF m 30 #[.val (.int cnt), .val (.int bits), .val (.int (6 : Int32)), .val (.ref b162), .unset, .unset] [(.ref b162)])) _
      refine XS.iloadN X165.here hx rfl (hb hby at_30) rfl ?_
      show Steps p.tables e below (T165.setTop (mkF m 31 #[.val (.int cnt), .val (.int bits), .val (.int (6 : Int32)), .val (.ref b162), .unset, .unset] [(.int bits), (.ref b162)])) _
      refine XS.iconst X165.here hx rfl (hb hby at_31) ?_
      exact kt
    obtain ⟨_, _, ⟨T170, L170, k170, n170⟩, -, X170, ⟨Lc170, hQ170, l170, y170, z170⟩, st170⟩ := Jvm.LawKit.callS X165 hx (y := (⟨"com/example/gallant_courier/gallantcourier/core/LossRateWaitsPerDoublingPinLaw", "bit", "(II)Z"⟩ : MethodName)) hown (mvT hZ (hw _ (List.mem_of_getElem? (i := 9) rfl))) (mvT hZ (hw _ (List.mem_of_getElem? (i := 10) rfl))) (mvT hZ (hw _ (List.mem_of_getElem? (i := 11) rfl))) (mvT hZ (hw _ (List.mem_of_getElem? (i := 12) rfl))) (by decide) (backOf (W := 1) (rm4 l Z aa hw [] bits (1 : Int32) T165.heap n0 O165) hZ (hw _ (List.mem_of_getElem? (i := 12) rfl)) (hw _ (List.mem_of_getElem? (i := 11) rfl)) (by decide) (by decide)) (g := (mkF m 32 #[.val (.int cnt), .val (.int bits), .val (.int (6 : Int32)), .val (.ref b162), .unset, .unset] [(.int (1 : Int32)), (.int bits), (.ref b162)])) rfl (by rw [hml]; rfl) (argsL := [(.int bits), (.int (1 : Int32))]) (rest := [(.ref b162)]) (lenOf pd_oIIcZ rfl) rfl (by show 2 * 0 + _ ≤ _; exact Nat.le_of_eq rfl) (hb hby at_32) (fun _ _ => ⟨rfl, rfl, (by decide : 1 + 0 ≤ _), (by decide : 2 + 0 ≤ _)⟩)
    dsimp only [Pt.U, Pt.locs, Pt.cells, Pt.slots] at X170 l170 y170 z170 st170 hQ170
    subst l170 y170 z170
    obtain ⟨rfl, rfl, e170⟩ := hQ170
    try rw [List.append_nil] at X170
    refine Gl.up (B := T170.setTop (mkF m 35 #[.val (.int cnt), .val (.int bits), .val (.int (6 : Int32)), .val (.ref b162), .unset, .unset] [(.int (f4 bits (1 : Int32))), (.ref b162)])) (fun t kt => st170 _ kt) ?_
    have hp172 : own_pres (f4 bits (1 : Int32)) u167 u168 := by rw [hsh169, hsa169]; exact own_pre1 _ (own_cons (f4_b bits (0 : Int32)) own_nil) _ (own_b01 (f4_b bits (1 : Int32)))
    obtain ⟨cq171, kq171, q171a, q171b, q171c⟩ := isOf hZ e170 E_b162_165
    obtain ⟨_, _, ⟨T171, L171, k171, n171⟩, -, X171, ⟨Lc171, hQ171, l171, y171, z171⟩, st171⟩ := X170.virtualBack hx (y := (⟨"com/example/gallant_courier/gallantcourier/core/LossRate", "sample", "(Z)V"⟩ : MethodName)) (z := (⟨"com/example/gallant_courier/gallantcourier/core/LossRate", "sample", "(Z)V"⟩ : MethodName)) hown (mvT hZ (hw _ (List.mem_of_getElem? (i := 13) rfl))) (mvT hZ (hw _ (List.mem_of_getElem? (i := 14) rfl))) (notFace_of_selects (args := #[]) (mvT hZ (hw _ (List.mem_of_getElem? (i := 16) rfl)))) (mvT hZ (hw _ (List.mem_of_getElem? (i := 16) rfl))) (mvT hZ (hw _ (List.mem_of_getElem? (i := 15) rfl))) (by decide) (backOf (W := 0) (rm2 l Z aa hw [] b162 (f4 bits (1 : Int32)) u167 u168 T165.heap n0 O165 E_b162_165 F_b162_share_165 F_b162_samples_165 g_b162 hp172.1 hp172.2.1 hp172.2.2) hZ (hw _ (List.mem_of_getElem? (i := 17) rfl)) (hw _ (List.mem_of_getElem? (i := 2) rfl)) (by decide) (by decide)) q171a q171c (g := (mkF m 35 #[.val (.int cnt), .val (.int bits), .val (.int (6 : Int32)), .val (.ref b162), .unset, .unset] [(.int (f4 bits (1 : Int32))), (.ref b162)])) rfl (by rw [hml]; rfl) (Steps.refl _) (argsL := [(.int (f4 bits (1 : Int32)))]) (rest := []) (lenOf pd_oZcV rfl) rfl (by show 2 * 0 + _ ≤ _; exact Nat.le_of_eq rfl) (hb hby at_35) (fun _ _ => ⟨rfl, e170, (by decide : 1 + 0 ≤ _), (by decide : 2 + 0 ≤ _)⟩)
    dsimp only [Pt.U, Pt.locs, Pt.cells, Pt.slots] at X171 l171 y171 z171 st171 hQ171
    subst l171 y171 z171
    obtain ⟨rfl, M171, K171, F_b162_share_171, F_b162_samples_171⟩ := hQ171
    have N171 := Fr.app N165 M171
    have O171 := O165.keep K171 (allS g_b162 all0)
    have E_b162_171 := E_b162_165.keep K171
    obtain ⟨u173, hu173⟩ : ∃ q : UInt64, q = (f2_share (f4 bits (1 : Int32)) u167 u168) := ⟨_, rfl⟩
    rw [← hu173] at F_b162_share_171
    obtain ⟨u174, hu174⟩ : ∃ q : Int32, q = (f2_samples (f4 bits (1 : Int32)) u167 u168) := ⟨_, rfl⟩
    rw [← hu174] at F_b162_samples_171
    refine Gl.up (B := T171.setTop (mkF m 38 #[.val (.int cnt), .val (.int bits), .val (.int (6 : Int32)), .val (.ref b162), .unset, .unset] [])) (fun t kt => st171.trans kt) ?_
    have hsh175 : u173 = (own_st [(f4 bits (1 : Int32)), (f4 bits (0 : Int32))]).1 := by rw [hu173, hsh169, hsa169]; exact (own_st1 _ _).symm
    have hsa175 : u174 = (own_st [(f4 bits (1 : Int32)), (f4 bits (0 : Int32))]).2 := by rw [hu174, hsh169, hsa169]; exact (own_st2 _ _).symm
    refine Gl.up (B := T171.setTop (mkF m 46 #[.val (.int cnt), .val (.int bits), .val (.int (6 : Int32)), .val (.ref b162), .unset, .unset] [(.int (2 : Int32)), (.int bits), (.ref b162)])) (fun t kt => ?_) ?_
    · refine XS.iloadN X171.here hx rfl (hb hby at_38) rfl ?_
      show Steps p.tables e below (T171.setTop (mkF m 39 #[.val (.int cnt), .val (.int bits), .val (.int (6 : Int32)), .val (.ref b162), .unset, .unset] [(.int (6 : Int32))])) _
      refine XS.iconst X171.here hx rfl (hb hby at_39) ?_
      show Steps p.tables e below (T171.setTop (mkF m 40 #[.val (.int cnt), .val (.int bits), .val (.int (6 : Int32)), .val (.ref b162), .unset, .unset] [(.int (3 : Int32)), (.int (6 : Int32))])) _
      refine XS.icmpNo X171.here hx rfl (hb hby at_40) rfl (flt (by decide : ¬ ((6 : Int32) < (3 : Int32)))).1 ?_
      show Steps p.tables e below (T171.setTop (mkF m 43 #[.val (.int cnt), .val (.int bits), .val (.int (6 : Int32)), .val (.ref b162), .unset, .unset] [])) _
      refine XS.aloadN X171.here hx rfl (hb hby at_43) rfl rfl ?_
      show Steps p.tables e below (T171.setTop (mkF m 44 #[.val (.int cnt), .val (.int bits), .val (.int (6 : Int32)), .val (.ref b162), .unset, .unset] [(.ref b162)])) _
      refine XS.iloadN X171.here hx rfl (hb hby at_44) rfl ?_
      show Steps p.tables e below (T171.setTop (mkF m 45 #[.val (.int cnt), .val (.int bits), .val (.int (6 : Int32)), .val (.ref b162), .unset, .unset] [(.int bits), (.ref b162)])) _
      refine XS.iconst X171.here hx rfl (hb hby at_45) ?_
      exact kt
    obtain ⟨_, _, ⟨T176, L176, k176, n176⟩, -, X176, ⟨Lc176, hQ176, l176, y176, z176⟩, st176⟩ := Jvm.LawKit.callS X171 hx (y := (⟨"com/example/gallant_courier/gallantcourier/core/LossRateWaitsPerDoublingPinLaw", "bit", "(II)Z"⟩ : MethodName)) hown (mvT hZ (hw _ (List.mem_of_getElem? (i := 9) rfl))) (mvT hZ (hw _ (List.mem_of_getElem? (i := 10) rfl))) (mvT hZ (hw _ (List.mem_of_getElem? (i := 11) rfl))) (mvT hZ (hw _ (List.mem_of_getElem? (i := 12) rfl))) (by decide) (backOf (W := 1) (rm4 l Z aa hw [] bits (2 : Int32) T171.heap n0 O171) hZ (hw _ (List.mem_of_getElem? (i := 12) rfl)) (hw _ (List.mem_of_getElem? (i := 11) rfl)) (by decide) (by decide)) (g := (mkF m 46 #[.val (.int cnt), .val (.int bits), .val (.int (6 : Int32)), .val (.ref b162), .unset, .unset] [(.int (2 : Int32)), (.int bits), (.ref b162)])) rfl (by rw [hml]; rfl) (argsL := [(.int bits), (.int (2 : Int32))]) (rest := [(.ref b162)]) (lenOf pd_oIIcZ rfl) rfl (by show 2 * 0 + _ ≤ _; exact Nat.le_of_eq rfl) (hb hby at_46) (fun _ _ => ⟨rfl, rfl, (by decide : 1 + 0 ≤ _), (by decide : 2 + 0 ≤ _)⟩)
    dsimp only [Pt.U, Pt.locs, Pt.cells, Pt.slots] at X176 l176 y176 z176 st176 hQ176
    subst l176 y176 z176
    obtain ⟨rfl, rfl, e176⟩ := hQ176
    try rw [List.append_nil] at X176
    refine Gl.up (B := T176.setTop (mkF m 49 #[.val (.int cnt), .val (.int bits), .val (.int (6 : Int32)), .val (.ref b162), .unset, .unset] [(.int (f4 bits (2 : Int32))), (.ref b162)])) (fun t kt => st176 _ kt) ?_
    have hp178 : own_pres (f4 bits (2 : Int32)) u173 u174 := by rw [hsh175, hsa175]; exact own_pre2 _ (own_cons (f4_b bits (1 : Int32)) (own_cons (f4_b bits (0 : Int32)) own_nil)) _ (own_b01 (f4_b bits (2 : Int32)))
    obtain ⟨cq177, kq177, q177a, q177b, q177c⟩ := isOf hZ e176 E_b162_171
    obtain ⟨_, _, ⟨T177, L177, k177, n177⟩, -, X177, ⟨Lc177, hQ177, l177, y177, z177⟩, st177⟩ := X176.virtualBack hx (y := (⟨"com/example/gallant_courier/gallantcourier/core/LossRate", "sample", "(Z)V"⟩ : MethodName)) (z := (⟨"com/example/gallant_courier/gallantcourier/core/LossRate", "sample", "(Z)V"⟩ : MethodName)) hown (mvT hZ (hw _ (List.mem_of_getElem? (i := 13) rfl))) (mvT hZ (hw _ (List.mem_of_getElem? (i := 14) rfl))) (notFace_of_selects (args := #[]) (mvT hZ (hw _ (List.mem_of_getElem? (i := 16) rfl)))) (mvT hZ (hw _ (List.mem_of_getElem? (i := 16) rfl))) (mvT hZ (hw _ (List.mem_of_getElem? (i := 15) rfl))) (by decide) (backOf (W := 0) (rm2 l Z aa hw [] b162 (f4 bits (2 : Int32)) u173 u174 T171.heap n0 O171 E_b162_171 F_b162_share_171 F_b162_samples_171 g_b162 hp178.1 hp178.2.1 hp178.2.2) hZ (hw _ (List.mem_of_getElem? (i := 17) rfl)) (hw _ (List.mem_of_getElem? (i := 2) rfl)) (by decide) (by decide)) q177a q177c (g := (mkF m 49 #[.val (.int cnt), .val (.int bits), .val (.int (6 : Int32)), .val (.ref b162), .unset, .unset] [(.int (f4 bits (2 : Int32))), (.ref b162)])) rfl (by rw [hml]; rfl) (Steps.refl _) (argsL := [(.int (f4 bits (2 : Int32)))]) (rest := []) (lenOf pd_oZcV rfl) rfl (by show 2 * 0 + _ ≤ _; exact Nat.le_of_eq rfl) (hb hby at_49) (fun _ _ => ⟨rfl, e176, (by decide : 1 + 0 ≤ _), (by decide : 2 + 0 ≤ _)⟩)
    dsimp only [Pt.U, Pt.locs, Pt.cells, Pt.slots] at X177 l177 y177 z177 st177 hQ177
    subst l177 y177 z177
    obtain ⟨rfl, M177, K177, F_b162_share_177, F_b162_samples_177⟩ := hQ177
    have N177 := Fr.app N171 M177
    have O177 := O171.keep K177 (allS g_b162 all0)
    have E_b162_177 := E_b162_171.keep K177
    obtain ⟨u179, hu179⟩ : ∃ q : UInt64, q = (f2_share (f4 bits (2 : Int32)) u173 u174) := ⟨_, rfl⟩
    rw [← hu179] at F_b162_share_177
    obtain ⟨u180, hu180⟩ : ∃ q : Int32, q = (f2_samples (f4 bits (2 : Int32)) u173 u174) := ⟨_, rfl⟩
    rw [← hu180] at F_b162_samples_177
    refine Gl.up (B := T177.setTop (mkF m 52 #[.val (.int cnt), .val (.int bits), .val (.int (6 : Int32)), .val (.ref b162), .unset, .unset] [])) (fun t kt => st177.trans kt) ?_
    have hsh181 : u179 = (own_st [(f4 bits (2 : Int32)), (f4 bits (1 : Int32)), (f4 bits (0 : Int32))]).1 := by rw [hu179, hsh175, hsa175]; exact (own_st1 _ _).symm
    have hsa181 : u180 = (own_st [(f4 bits (2 : Int32)), (f4 bits (1 : Int32)), (f4 bits (0 : Int32))]).2 := by rw [hu180, hsh175, hsa175]; exact (own_st2 _ _).symm
    refine Gl.up (B := T177.setTop (mkF m 60 #[.val (.int cnt), .val (.int bits), .val (.int (6 : Int32)), .val (.ref b162), .unset, .unset] [(.int (3 : Int32)), (.int bits), (.ref b162)])) (fun t kt => ?_) ?_
    · refine XS.iloadN X177.here hx rfl (hb hby at_52) rfl ?_
      show Steps p.tables e below (T177.setTop (mkF m 53 #[.val (.int cnt), .val (.int bits), .val (.int (6 : Int32)), .val (.ref b162), .unset, .unset] [(.int (6 : Int32))])) _
      refine XS.iconst X177.here hx rfl (hb hby at_53) ?_
      show Steps p.tables e below (T177.setTop (mkF m 54 #[.val (.int cnt), .val (.int bits), .val (.int (6 : Int32)), .val (.ref b162), .unset, .unset] [(.int (4 : Int32)), (.int (6 : Int32))])) _
      refine XS.icmpNo X177.here hx rfl (hb hby at_54) rfl (flt (by decide : ¬ ((6 : Int32) < (4 : Int32)))).1 ?_
      show Steps p.tables e below (T177.setTop (mkF m 57 #[.val (.int cnt), .val (.int bits), .val (.int (6 : Int32)), .val (.ref b162), .unset, .unset] [])) _
      refine XS.aloadN X177.here hx rfl (hb hby at_57) rfl rfl ?_
      show Steps p.tables e below (T177.setTop (mkF m 58 #[.val (.int cnt), .val (.int bits), .val (.int (6 : Int32)), .val (.ref b162), .unset, .unset] [(.ref b162)])) _
      refine XS.iloadN X177.here hx rfl (hb hby at_58) rfl ?_
      show Steps p.tables e below (T177.setTop (mkF m 59 #[.val (.int cnt), .val (.int bits), .val (.int (6 : Int32)), .val (.ref b162), .unset, .unset] [(.int bits), (.ref b162)])) _
      refine XS.iconst X177.here hx rfl (hb hby at_59) ?_
      exact kt
    obtain ⟨_, _, ⟨T182, L182, k182, n182⟩, -, X182, ⟨Lc182, hQ182, l182, y182, z182⟩, st182⟩ := Jvm.LawKit.callS X177 hx (y := (⟨"com/example/gallant_courier/gallantcourier/core/LossRateWaitsPerDoublingPinLaw", "bit", "(II)Z"⟩ : MethodName)) hown (mvT hZ (hw _ (List.mem_of_getElem? (i := 9) rfl))) (mvT hZ (hw _ (List.mem_of_getElem? (i := 10) rfl))) (mvT hZ (hw _ (List.mem_of_getElem? (i := 11) rfl))) (mvT hZ (hw _ (List.mem_of_getElem? (i := 12) rfl))) (by decide) (backOf (W := 1) (rm4 l Z aa hw [] bits (3 : Int32) T177.heap n0 O177) hZ (hw _ (List.mem_of_getElem? (i := 12) rfl)) (hw _ (List.mem_of_getElem? (i := 11) rfl)) (by decide) (by decide)) (g := (mkF m 60 #[.val (.int cnt), .val (.int bits), .val (.int (6 : Int32)), .val (.ref b162), .unset, .unset] [(.int (3 : Int32)), (.int bits), (.ref b162)])) rfl (by rw [hml]; rfl) (argsL := [(.int bits), (.int (3 : Int32))]) (rest := [(.ref b162)]) (lenOf pd_oIIcZ rfl) rfl (by show 2 * 0 + _ ≤ _; exact Nat.le_of_eq rfl) (hb hby at_60) (fun _ _ => ⟨rfl, rfl, (by decide : 1 + 0 ≤ _), (by decide : 2 + 0 ≤ _)⟩)
    dsimp only [Pt.U, Pt.locs, Pt.cells, Pt.slots] at X182 l182 y182 z182 st182 hQ182
    subst l182 y182 z182
    obtain ⟨rfl, rfl, e182⟩ := hQ182
    try rw [List.append_nil] at X182
    refine Gl.up (B := T182.setTop (mkF m 63 #[.val (.int cnt), .val (.int bits), .val (.int (6 : Int32)), .val (.ref b162), .unset, .unset] [(.int (f4 bits (3 : Int32))), (.ref b162)])) (fun t kt => st182 _ kt) ?_
    have hp184 : own_pres (f4 bits (3 : Int32)) u179 u180 := by rw [hsh181, hsa181]; exact own_pre3 _ (own_cons (f4_b bits (2 : Int32)) (own_cons (f4_b bits (1 : Int32)) (own_cons (f4_b bits (0 : Int32)) own_nil))) _ (own_b01 (f4_b bits (3 : Int32)))
    obtain ⟨cq183, kq183, q183a, q183b, q183c⟩ := isOf hZ e182 E_b162_177
    obtain ⟨_, _, ⟨T183, L183, k183, n183⟩, -, X183, ⟨Lc183, hQ183, l183, y183, z183⟩, st183⟩ := X182.virtualBack hx (y := (⟨"com/example/gallant_courier/gallantcourier/core/LossRate", "sample", "(Z)V"⟩ : MethodName)) (z := (⟨"com/example/gallant_courier/gallantcourier/core/LossRate", "sample", "(Z)V"⟩ : MethodName)) hown (mvT hZ (hw _ (List.mem_of_getElem? (i := 13) rfl))) (mvT hZ (hw _ (List.mem_of_getElem? (i := 14) rfl))) (notFace_of_selects (args := #[]) (mvT hZ (hw _ (List.mem_of_getElem? (i := 16) rfl)))) (mvT hZ (hw _ (List.mem_of_getElem? (i := 16) rfl))) (mvT hZ (hw _ (List.mem_of_getElem? (i := 15) rfl))) (by decide) (backOf (W := 0) (rm2 l Z aa hw [] b162 (f4 bits (3 : Int32)) u179 u180 T177.heap n0 O177 E_b162_177 F_b162_share_177 F_b162_samples_177 g_b162 hp184.1 hp184.2.1 hp184.2.2) hZ (hw _ (List.mem_of_getElem? (i := 17) rfl)) (hw _ (List.mem_of_getElem? (i := 2) rfl)) (by decide) (by decide)) q183a q183c (g := (mkF m 63 #[.val (.int cnt), .val (.int bits), .val (.int (6 : Int32)), .val (.ref b162), .unset, .unset] [(.int (f4 bits (3 : Int32))), (.ref b162)])) rfl (by rw [hml]; rfl) (Steps.refl _) (argsL := [(.int (f4 bits (3 : Int32)))]) (rest := []) (lenOf pd_oZcV rfl) rfl (by show 2 * 0 + _ ≤ _; exact Nat.le_of_eq rfl) (hb hby at_63) (fun _ _ => ⟨rfl, e182, (by decide : 1 + 0 ≤ _), (by decide : 2 + 0 ≤ _)⟩)
    dsimp only [Pt.U, Pt.locs, Pt.cells, Pt.slots] at X183 l183 y183 z183 st183 hQ183
    subst l183 y183 z183
    obtain ⟨rfl, M183, K183, F_b162_share_183, F_b162_samples_183⟩ := hQ183
    have N183 := Fr.app N177 M183
    have O183 := O177.keep K183 (allS g_b162 all0)
    have E_b162_183 := E_b162_177.keep K183
    obtain ⟨u185, hu185⟩ : ∃ q : UInt64, q = (f2_share (f4 bits (3 : Int32)) u179 u180) := ⟨_, rfl⟩
    rw [← hu185] at F_b162_share_183
    obtain ⟨u186, hu186⟩ : ∃ q : Int32, q = (f2_samples (f4 bits (3 : Int32)) u179 u180) := ⟨_, rfl⟩
    rw [← hu186] at F_b162_samples_183
    refine Gl.up (B := T183.setTop (mkF m 66 #[.val (.int cnt), .val (.int bits), .val (.int (6 : Int32)), .val (.ref b162), .unset, .unset] [])) (fun t kt => st183.trans kt) ?_
    have hsh187 : u185 = (own_st [(f4 bits (3 : Int32)), (f4 bits (2 : Int32)), (f4 bits (1 : Int32)), (f4 bits (0 : Int32))]).1 := by rw [hu185, hsh181, hsa181]; exact (own_st1 _ _).symm
    have hsa187 : u186 = (own_st [(f4 bits (3 : Int32)), (f4 bits (2 : Int32)), (f4 bits (1 : Int32)), (f4 bits (0 : Int32))]).2 := by rw [hu186, hsh181, hsa181]; exact (own_st2 _ _).symm
    refine Gl.up (B := T183.setTop (mkF m 74 #[.val (.int cnt), .val (.int bits), .val (.int (6 : Int32)), .val (.ref b162), .unset, .unset] [(.int (4 : Int32)), (.int bits), (.ref b162)])) (fun t kt => ?_) ?_
    · refine XS.iloadN X183.here hx rfl (hb hby at_66) rfl ?_
      show Steps p.tables e below (T183.setTop (mkF m 67 #[.val (.int cnt), .val (.int bits), .val (.int (6 : Int32)), .val (.ref b162), .unset, .unset] [(.int (6 : Int32))])) _
      refine XS.iconst X183.here hx rfl (hb hby at_67) ?_
      show Steps p.tables e below (T183.setTop (mkF m 68 #[.val (.int cnt), .val (.int bits), .val (.int (6 : Int32)), .val (.ref b162), .unset, .unset] [(.int (5 : Int32)), (.int (6 : Int32))])) _
      refine XS.icmpNo X183.here hx rfl (hb hby at_68) rfl (flt (by decide : ¬ ((6 : Int32) < (5 : Int32)))).1 ?_
      show Steps p.tables e below (T183.setTop (mkF m 71 #[.val (.int cnt), .val (.int bits), .val (.int (6 : Int32)), .val (.ref b162), .unset, .unset] [])) _
      refine XS.aloadN X183.here hx rfl (hb hby at_71) rfl rfl ?_
      show Steps p.tables e below (T183.setTop (mkF m 72 #[.val (.int cnt), .val (.int bits), .val (.int (6 : Int32)), .val (.ref b162), .unset, .unset] [(.ref b162)])) _
      refine XS.iloadN X183.here hx rfl (hb hby at_72) rfl ?_
      show Steps p.tables e below (T183.setTop (mkF m 73 #[.val (.int cnt), .val (.int bits), .val (.int (6 : Int32)), .val (.ref b162), .unset, .unset] [(.int bits), (.ref b162)])) _
      refine XS.iconst X183.here hx rfl (hb hby at_73) ?_
      exact kt
    obtain ⟨_, _, ⟨T188, L188, k188, n188⟩, -, X188, ⟨Lc188, hQ188, l188, y188, z188⟩, st188⟩ := Jvm.LawKit.callS X183 hx (y := (⟨"com/example/gallant_courier/gallantcourier/core/LossRateWaitsPerDoublingPinLaw", "bit", "(II)Z"⟩ : MethodName)) hown (mvT hZ (hw _ (List.mem_of_getElem? (i := 9) rfl))) (mvT hZ (hw _ (List.mem_of_getElem? (i := 10) rfl))) (mvT hZ (hw _ (List.mem_of_getElem? (i := 11) rfl))) (mvT hZ (hw _ (List.mem_of_getElem? (i := 12) rfl))) (by decide) (backOf (W := 1) (rm4 l Z aa hw [] bits (4 : Int32) T183.heap n0 O183) hZ (hw _ (List.mem_of_getElem? (i := 12) rfl)) (hw _ (List.mem_of_getElem? (i := 11) rfl)) (by decide) (by decide)) (g := (mkF m 74 #[.val (.int cnt), .val (.int bits), .val (.int (6 : Int32)), .val (.ref b162), .unset, .unset] [(.int (4 : Int32)), (.int bits), (.ref b162)])) rfl (by rw [hml]; rfl) (argsL := [(.int bits), (.int (4 : Int32))]) (rest := [(.ref b162)]) (lenOf pd_oIIcZ rfl) rfl (by show 2 * 0 + _ ≤ _; exact Nat.le_of_eq rfl) (hb hby at_74) (fun _ _ => ⟨rfl, rfl, (by decide : 1 + 0 ≤ _), (by decide : 2 + 0 ≤ _)⟩)
    dsimp only [Pt.U, Pt.locs, Pt.cells, Pt.slots] at X188 l188 y188 z188 st188 hQ188
    subst l188 y188 z188
    obtain ⟨rfl, rfl, e188⟩ := hQ188
    try rw [List.append_nil] at X188
    refine Gl.up (B := T188.setTop (mkF m 77 #[.val (.int cnt), .val (.int bits), .val (.int (6 : Int32)), .val (.ref b162), .unset, .unset] [(.int (f4 bits (4 : Int32))), (.ref b162)])) (fun t kt => st188 _ kt) ?_
    have hp190 : own_pres (f4 bits (4 : Int32)) u185 u186 := by rw [hsh187, hsa187]; exact own_pre4 _ (own_cons (f4_b bits (3 : Int32)) (own_cons (f4_b bits (2 : Int32)) (own_cons (f4_b bits (1 : Int32)) (own_cons (f4_b bits (0 : Int32)) own_nil)))) _ (own_b01 (f4_b bits (4 : Int32)))
    obtain ⟨cq189, kq189, q189a, q189b, q189c⟩ := isOf hZ e188 E_b162_183
    obtain ⟨_, _, ⟨T189, L189, k189, n189⟩, -, X189, ⟨Lc189, hQ189, l189, y189, z189⟩, st189⟩ := X188.virtualBack hx (y := (⟨"com/example/gallant_courier/gallantcourier/core/LossRate", "sample", "(Z)V"⟩ : MethodName)) (z := (⟨"com/example/gallant_courier/gallantcourier/core/LossRate", "sample", "(Z)V"⟩ : MethodName)) hown (mvT hZ (hw _ (List.mem_of_getElem? (i := 13) rfl))) (mvT hZ (hw _ (List.mem_of_getElem? (i := 14) rfl))) (notFace_of_selects (args := #[]) (mvT hZ (hw _ (List.mem_of_getElem? (i := 16) rfl)))) (mvT hZ (hw _ (List.mem_of_getElem? (i := 16) rfl))) (mvT hZ (hw _ (List.mem_of_getElem? (i := 15) rfl))) (by decide) (backOf (W := 0) (rm2 l Z aa hw [] b162 (f4 bits (4 : Int32)) u185 u186 T183.heap n0 O183 E_b162_183 F_b162_share_183 F_b162_samples_183 g_b162 hp190.1 hp190.2.1 hp190.2.2) hZ (hw _ (List.mem_of_getElem? (i := 17) rfl)) (hw _ (List.mem_of_getElem? (i := 2) rfl)) (by decide) (by decide)) q189a q189c (g := (mkF m 77 #[.val (.int cnt), .val (.int bits), .val (.int (6 : Int32)), .val (.ref b162), .unset, .unset] [(.int (f4 bits (4 : Int32))), (.ref b162)])) rfl (by rw [hml]; rfl) (Steps.refl _) (argsL := [(.int (f4 bits (4 : Int32)))]) (rest := []) (lenOf pd_oZcV rfl) rfl (by show 2 * 0 + _ ≤ _; exact Nat.le_of_eq rfl) (hb hby at_77) (fun _ _ => ⟨rfl, e188, (by decide : 1 + 0 ≤ _), (by decide : 2 + 0 ≤ _)⟩)
    dsimp only [Pt.U, Pt.locs, Pt.cells, Pt.slots] at X189 l189 y189 z189 st189 hQ189
    subst l189 y189 z189
    obtain ⟨rfl, M189, K189, F_b162_share_189, F_b162_samples_189⟩ := hQ189
    have N189 := Fr.app N183 M189
    have O189 := O183.keep K189 (allS g_b162 all0)
    have E_b162_189 := E_b162_183.keep K189
    obtain ⟨u191, hu191⟩ : ∃ q : UInt64, q = (f2_share (f4 bits (4 : Int32)) u185 u186) := ⟨_, rfl⟩
    rw [← hu191] at F_b162_share_189
    obtain ⟨u192, hu192⟩ : ∃ q : Int32, q = (f2_samples (f4 bits (4 : Int32)) u185 u186) := ⟨_, rfl⟩
    rw [← hu192] at F_b162_samples_189
    refine Gl.up (B := T189.setTop (mkF m 80 #[.val (.int cnt), .val (.int bits), .val (.int (6 : Int32)), .val (.ref b162), .unset, .unset] [])) (fun t kt => st189.trans kt) ?_
    have hsh193 : u191 = (own_st [(f4 bits (4 : Int32)), (f4 bits (3 : Int32)), (f4 bits (2 : Int32)), (f4 bits (1 : Int32)), (f4 bits (0 : Int32))]).1 := by rw [hu191, hsh187, hsa187]; exact (own_st1 _ _).symm
    have hsa193 : u192 = (own_st [(f4 bits (4 : Int32)), (f4 bits (3 : Int32)), (f4 bits (2 : Int32)), (f4 bits (1 : Int32)), (f4 bits (0 : Int32))]).2 := by rw [hu192, hsh187, hsa187]; exact (own_st2 _ _).symm
    refine Gl.up (B := T189.setTop (mkF m 89 #[.val (.int cnt), .val (.int bits), .val (.int (6 : Int32)), .val (.ref b162), .unset, .unset] [(.int (5 : Int32)), (.int bits), (.ref b162)])) (fun t kt => ?_) ?_
    · refine XS.iloadN X189.here hx rfl (hb hby at_80) rfl ?_
      show Steps p.tables e below (T189.setTop (mkF m 81 #[.val (.int cnt), .val (.int bits), .val (.int (6 : Int32)), .val (.ref b162), .unset, .unset] [(.int (6 : Int32))])) _
      refine XS.bipush X189.here hx rfl (hb hby at_81) ?_
      show Steps p.tables e below (T189.setTop (mkF m 83 #[.val (.int cnt), .val (.int bits), .val (.int (6 : Int32)), .val (.ref b162), .unset, .unset] [(.int (6 : Int32)), (.int (6 : Int32))])) _
      refine XS.icmpNo X189.here hx rfl (hb hby at_83) rfl (flt (by decide : ¬ ((6 : Int32) < (6 : Int32)))).1 ?_
      show Steps p.tables e below (T189.setTop (mkF m 86 #[.val (.int cnt), .val (.int bits), .val (.int (6 : Int32)), .val (.ref b162), .unset, .unset] [])) _
      refine XS.aloadN X189.here hx rfl (hb hby at_86) rfl rfl ?_
      show Steps p.tables e below (T189.setTop (mkF m 87 #[.val (.int cnt), .val (.int bits), .val (.int (6 : Int32)), .val (.ref b162), .unset, .unset] [(.ref b162)])) _
      refine XS.iloadN X189.here hx rfl (hb hby at_87) rfl ?_
      show Steps p.tables e below (T189.setTop (mkF m 88 #[.val (.int cnt), .val (.int bits), .val (.int (6 : Int32)), .val (.ref b162), .unset, .unset] [(.int bits), (.ref b162)])) _
      refine XS.iconst X189.here hx rfl (hb hby at_88) ?_
      exact kt
    obtain ⟨_, _, ⟨T194, L194, k194, n194⟩, -, X194, ⟨Lc194, hQ194, l194, y194, z194⟩, st194⟩ := Jvm.LawKit.callS X189 hx (y := (⟨"com/example/gallant_courier/gallantcourier/core/LossRateWaitsPerDoublingPinLaw", "bit", "(II)Z"⟩ : MethodName)) hown (mvT hZ (hw _ (List.mem_of_getElem? (i := 9) rfl))) (mvT hZ (hw _ (List.mem_of_getElem? (i := 10) rfl))) (mvT hZ (hw _ (List.mem_of_getElem? (i := 11) rfl))) (mvT hZ (hw _ (List.mem_of_getElem? (i := 12) rfl))) (by decide) (backOf (W := 1) (rm4 l Z aa hw [] bits (5 : Int32) T189.heap n0 O189) hZ (hw _ (List.mem_of_getElem? (i := 12) rfl)) (hw _ (List.mem_of_getElem? (i := 11) rfl)) (by decide) (by decide)) (g := (mkF m 89 #[.val (.int cnt), .val (.int bits), .val (.int (6 : Int32)), .val (.ref b162), .unset, .unset] [(.int (5 : Int32)), (.int bits), (.ref b162)])) rfl (by rw [hml]; rfl) (argsL := [(.int bits), (.int (5 : Int32))]) (rest := [(.ref b162)]) (lenOf pd_oIIcZ rfl) rfl (by show 2 * 0 + _ ≤ _; exact Nat.le_of_eq rfl) (hb hby at_89) (fun _ _ => ⟨rfl, rfl, (by decide : 1 + 0 ≤ _), (by decide : 2 + 0 ≤ _)⟩)
    dsimp only [Pt.U, Pt.locs, Pt.cells, Pt.slots] at X194 l194 y194 z194 st194 hQ194
    subst l194 y194 z194
    obtain ⟨rfl, rfl, e194⟩ := hQ194
    try rw [List.append_nil] at X194
    refine Gl.up (B := T194.setTop (mkF m 92 #[.val (.int cnt), .val (.int bits), .val (.int (6 : Int32)), .val (.ref b162), .unset, .unset] [(.int (f4 bits (5 : Int32))), (.ref b162)])) (fun t kt => st194 _ kt) ?_
    have hp196 : own_pres (f4 bits (5 : Int32)) u191 u192 := by rw [hsh193, hsa193]; exact own_pre5 _ (own_cons (f4_b bits (4 : Int32)) (own_cons (f4_b bits (3 : Int32)) (own_cons (f4_b bits (2 : Int32)) (own_cons (f4_b bits (1 : Int32)) (own_cons (f4_b bits (0 : Int32)) own_nil))))) _ (own_b01 (f4_b bits (5 : Int32)))
    obtain ⟨cq195, kq195, q195a, q195b, q195c⟩ := isOf hZ e194 E_b162_189
    obtain ⟨_, _, ⟨T195, L195, k195, n195⟩, -, X195, ⟨Lc195, hQ195, l195, y195, z195⟩, st195⟩ := X194.virtualBack hx (y := (⟨"com/example/gallant_courier/gallantcourier/core/LossRate", "sample", "(Z)V"⟩ : MethodName)) (z := (⟨"com/example/gallant_courier/gallantcourier/core/LossRate", "sample", "(Z)V"⟩ : MethodName)) hown (mvT hZ (hw _ (List.mem_of_getElem? (i := 13) rfl))) (mvT hZ (hw _ (List.mem_of_getElem? (i := 14) rfl))) (notFace_of_selects (args := #[]) (mvT hZ (hw _ (List.mem_of_getElem? (i := 16) rfl)))) (mvT hZ (hw _ (List.mem_of_getElem? (i := 16) rfl))) (mvT hZ (hw _ (List.mem_of_getElem? (i := 15) rfl))) (by decide) (backOf (W := 0) (rm2 l Z aa hw [] b162 (f4 bits (5 : Int32)) u191 u192 T189.heap n0 O189 E_b162_189 F_b162_share_189 F_b162_samples_189 g_b162 hp196.1 hp196.2.1 hp196.2.2) hZ (hw _ (List.mem_of_getElem? (i := 17) rfl)) (hw _ (List.mem_of_getElem? (i := 2) rfl)) (by decide) (by decide)) q195a q195c (g := (mkF m 92 #[.val (.int cnt), .val (.int bits), .val (.int (6 : Int32)), .val (.ref b162), .unset, .unset] [(.int (f4 bits (5 : Int32))), (.ref b162)])) rfl (by rw [hml]; rfl) (Steps.refl _) (argsL := [(.int (f4 bits (5 : Int32)))]) (rest := []) (lenOf pd_oZcV rfl) rfl (by show 2 * 0 + _ ≤ _; exact Nat.le_of_eq rfl) (hb hby at_92) (fun _ _ => ⟨rfl, e194, (by decide : 1 + 0 ≤ _), (by decide : 2 + 0 ≤ _)⟩)
    dsimp only [Pt.U, Pt.locs, Pt.cells, Pt.slots] at X195 l195 y195 z195 st195 hQ195
    subst l195 y195 z195
    obtain ⟨rfl, M195, K195, F_b162_share_195, F_b162_samples_195⟩ := hQ195
    have N195 := Fr.app N189 M195
    have O195 := O189.keep K195 (allS g_b162 all0)
    have E_b162_195 := E_b162_189.keep K195
    obtain ⟨u197, hu197⟩ : ∃ q : UInt64, q = (f2_share (f4 bits (5 : Int32)) u191 u192) := ⟨_, rfl⟩
    rw [← hu197] at F_b162_share_195
    obtain ⟨u198, hu198⟩ : ∃ q : Int32, q = (f2_samples (f4 bits (5 : Int32)) u191 u192) := ⟨_, rfl⟩
    rw [← hu198] at F_b162_samples_195
    refine Gl.up (B := T195.setTop (mkF m 95 #[.val (.int cnt), .val (.int bits), .val (.int (6 : Int32)), .val (.ref b162), .unset, .unset] [])) (fun t kt => st195.trans kt) ?_
    have hsh199 : u197 = (own_st [(f4 bits (5 : Int32)), (f4 bits (4 : Int32)), (f4 bits (3 : Int32)), (f4 bits (2 : Int32)), (f4 bits (1 : Int32)), (f4 bits (0 : Int32))]).1 := by rw [hu197, hsh193, hsa193]; exact (own_st1 _ _).symm
    have hsa199 : u198 = (own_st [(f4 bits (5 : Int32)), (f4 bits (4 : Int32)), (f4 bits (3 : Int32)), (f4 bits (2 : Int32)), (f4 bits (1 : Int32)), (f4 bits (0 : Int32))]).2 := by rw [hu198, hsh193, hsa193]; exact (own_st2 _ _).symm
    refine Gl.up (B := T195.setTop (mkF m 128 #[.val (.int cnt), .val (.int bits), .val (.int (6 : Int32)), .val (.ref b162), .unset, .unset] [(.ref b162)])) (fun t kt => ?_) ?_
    · refine XS.iloadN X195.here hx rfl (hb hby at_95) rfl ?_
      show Steps p.tables e below (T195.setTop (mkF m 96 #[.val (.int cnt), .val (.int bits), .val (.int (6 : Int32)), .val (.ref b162), .unset, .unset] [(.int (6 : Int32))])) _
      refine XS.bipush X195.here hx rfl (hb hby at_96) ?_
      show Steps p.tables e below (T195.setTop (mkF m 98 #[.val (.int cnt), .val (.int bits), .val (.int (6 : Int32)), .val (.ref b162), .unset, .unset] [(.int (7 : Int32)), (.int (6 : Int32))])) _
      refine XS.icmpYes X195.here hx rfl (pc0 := 98) (pc' := 111) rfl (hb hby at_98) rfl (tlt (by decide : (6 : Int32) < (7 : Int32))).1 (by decide) (by decide) ?_
      show Steps p.tables e below (T195.setTop (mkF m 111 #[.val (.int cnt), .val (.int bits), .val (.int (6 : Int32)), .val (.ref b162), .unset, .unset] [])) _
      refine XS.iloadN X195.here hx rfl (hb hby at_111) rfl ?_
      show Steps p.tables e below (T195.setTop (mkF m 112 #[.val (.int cnt), .val (.int bits), .val (.int (6 : Int32)), .val (.ref b162), .unset, .unset] [(.int (6 : Int32))])) _
      refine XS.bipush X195.here hx rfl (hb hby at_112) ?_
      show Steps p.tables e below (T195.setTop (mkF m 114 #[.val (.int cnt), .val (.int bits), .val (.int (6 : Int32)), .val (.ref b162), .unset, .unset] [(.int (8 : Int32)), (.int (6 : Int32))])) _
      refine XS.icmpYes X195.here hx rfl (pc0 := 114) (pc' := 127) rfl (hb hby at_114) rfl (tlt (by decide : (6 : Int32) < (8 : Int32))).1 (by decide) (by decide) ?_
      show Steps p.tables e below (T195.setTop (mkF m 127 #[.val (.int cnt), .val (.int bits), .val (.int (6 : Int32)), .val (.ref b162), .unset, .unset] [])) _
      refine XS.aloadN X195.here hx rfl (hb hby at_127) rfl rfl ?_
      exact kt
    have hw6 : own_prew u197 := by rw [hsh199]; exact own_w6 _ (own_cons (f4_b bits (5 : Int32)) (own_cons (f4_b bits (4 : Int32)) (own_cons (f4_b bits (3 : Int32)) (own_cons (f4_b bits (2 : Int32)) (own_cons (f4_b bits (1 : Int32)) (own_cons (f4_b bits (0 : Int32)) own_nil))))))
    obtain ⟨cq200, kq200, q200a, q200b, q200c⟩ := isOf hZ rfl E_b162_195
    obtain ⟨_, _, ⟨T200, L200, k200, n200⟩, -, X200, ⟨Lc200, hQ200, l200, y200, z200⟩, st200⟩ := X195.virtualBack hx (y := (⟨"com/example/gallant_courier/gallantcourier/core/LossRate", "waitsPerDoubling", "()I"⟩ : MethodName)) (z := (⟨"com/example/gallant_courier/gallantcourier/core/LossRate", "waitsPerDoubling", "()I"⟩ : MethodName)) hown (mvT hZ (hw _ (List.mem_of_getElem? (i := 22) rfl))) (mvT hZ (hw _ (List.mem_of_getElem? (i := 23) rfl))) (notFace_of_selects (args := #[]) (mvT hZ (hw _ (List.mem_of_getElem? (i := 25) rfl)))) (mvT hZ (hw _ (List.mem_of_getElem? (i := 25) rfl))) (mvT hZ (hw _ (List.mem_of_getElem? (i := 24) rfl))) (by decide) (backOf (W := 0) (rm3 l Z aa hw [] b162 u197 u198 T195.heap n0 O195 E_b162_195 F_b162_share_195 F_b162_samples_195 hw6.1 hw6.2.1 hw6.2.2.1 hw6.2.2.2.1 hw6.2.2.2.2.1 hw6.2.2.2.2.2.1 hw6.2.2.2.2.2.2.1 hw6.2.2.2.2.2.2.2.1 hw6.2.2.2.2.2.2.2.2.1 hw6.2.2.2.2.2.2.2.2.2) hZ (hw _ (List.mem_of_getElem? (i := 26) rfl)) (hw _ (List.mem_of_getElem? (i := 2) rfl)) (by decide) (by decide)) q200a q200c (g := (mkF m 128 #[.val (.int cnt), .val (.int bits), .val (.int (6 : Int32)), .val (.ref b162), .unset, .unset] [(.ref b162)])) rfl (by rw [hml]; rfl) (Steps.refl _) (argsL := []) (rest := []) (lenOf pd_ocI rfl) rfl (by show 2 * 0 + _ ≤ _; exact Nat.le_of_eq rfl) (hb hby at_128) (fun _ _ => ⟨rfl, rfl, (by decide : 1 + 0 ≤ _), (by decide : 2 + 0 ≤ _)⟩)
    dsimp only [Pt.U, Pt.locs, Pt.cells, Pt.slots] at X200 l200 y200 z200 st200 hQ200
    subst l200 y200 z200
    obtain ⟨rfl, rfl, e200⟩ := hQ200
    try rw [List.append_nil] at X200
    refine Gl.up (B := T200.setTop (mkF m 131 #[.val (.int cnt), .val (.int bits), .val (.int (6 : Int32)), .val (.ref b162), .unset, .unset] [(.int (f3 u197 u198))])) (fun t kt => st200.trans kt) ?_
    refine Gl.up (B := T200.setTop (mkF m 136 #[.val (.int cnt), .val (.int bits), .val (.int (6 : Int32)), .val (.ref b162), .val (.int (f3 u197 u198)), .unset] [(.int (6 : Int32)), (.int (0 : Int32)), (.int bits)])) (fun t kt => ?_) ?_
    · refine XS.istore X200.here hx rfl (hb hby at_131) rfl (l' := #[.val (.int cnt), .val (.int bits), .val (.int (6 : Int32)), .val (.ref b162), .val (.int (f3 u197 u198)), .unset]) rfl ?_
      show Steps p.tables e below (T200.setTop (mkF m 133 #[.val (.int cnt), .val (.int bits), .val (.int (6 : Int32)), .val (.ref b162), .val (.int (f3 u197 u198)), .unset] [])) _
      refine XS.iloadN X200.here hx rfl (hb hby at_133) rfl ?_
      show Steps p.tables e below (T200.setTop (mkF m 134 #[.val (.int cnt), .val (.int bits), .val (.int (6 : Int32)), .val (.ref b162), .val (.int (f3 u197 u198)), .unset] [(.int bits)])) _
      refine XS.iconst X200.here hx rfl (hb hby at_134) ?_
      show Steps p.tables e below (T200.setTop (mkF m 135 #[.val (.int cnt), .val (.int bits), .val (.int (6 : Int32)), .val (.ref b162), .val (.int (f3 u197 u198)), .unset] [(.int (0 : Int32)), (.int bits)])) _
      refine XS.iloadN X200.here hx rfl (hb hby at_135) rfl ?_
      exact kt
    obtain ⟨_, _, ⟨T201, L201, k201, n201⟩, -, X201, ⟨Lc201, hQ201, l201, y201, z201⟩, st201⟩ := Jvm.LawKit.callS X200 hx (y := (⟨"com/example/gallant_courier/gallantcourier/core/LossRateWaitsPerDoublingPinLaw", "one", "(III)I"⟩ : MethodName)) hown (mvT hZ (hw _ (List.mem_of_getElem? (i := 28) rfl))) (mvT hZ (hw _ (List.mem_of_getElem? (i := 29) rfl))) (mvT hZ (hw _ (List.mem_of_getElem? (i := 11) rfl))) (mvT hZ (hw _ (List.mem_of_getElem? (i := 30) rfl))) (by decide) (backOf (W := 0) (rm5 l Z aa hw [] bits (0 : Int32) (6 : Int32) T195.heap n0 O195) hZ (hw _ (List.mem_of_getElem? (i := 30) rfl)) (hw _ (List.mem_of_getElem? (i := 11) rfl)) (by decide) (by decide)) (g := (mkF m 136 #[.val (.int cnt), .val (.int bits), .val (.int (6 : Int32)), .val (.ref b162), .val (.int (f3 u197 u198)), .unset] [(.int (6 : Int32)), (.int (0 : Int32)), (.int bits)])) rfl (by rw [hml]; rfl) (argsL := [(.int bits), (.int (0 : Int32)), (.int (6 : Int32))]) (rest := []) (lenOf pd_oIIIcI rfl) rfl (by show 2 * 0 + _ ≤ _; exact Nat.le_of_eq rfl) (hb hby at_136) (fun _ _ => ⟨rfl, e200, (by decide : 1 + 0 ≤ _), (by decide : 2 + 0 ≤ _)⟩)
    dsimp only [Pt.U, Pt.locs, Pt.cells, Pt.slots] at X201 l201 y201 z201 st201 hQ201
    subst l201 y201 z201
    obtain ⟨rfl, rfl, e201⟩ := hQ201
    try rw [List.append_nil] at X201
    refine Gl.up (B := T201.setTop (mkF m 139 #[.val (.int cnt), .val (.int bits), .val (.int (6 : Int32)), .val (.ref b162), .val (.int (f3 u197 u198)), .unset] [(.int (f5 bits (0 : Int32) (6 : Int32)))])) (fun t kt => st201 _ kt) ?_
    refine Gl.up (B := T201.setTop (mkF m 142 #[.val (.int cnt), .val (.int bits), .val (.int (6 : Int32)), .val (.ref b162), .val (.int (f3 u197 u198)), .unset] [(.int (6 : Int32)), (.int (1 : Int32)), (.int bits), (.int (f5 bits (0 : Int32) (6 : Int32)))])) (fun t kt => ?_) ?_
    · refine XS.iloadN X201.here hx rfl (hb hby at_139) rfl ?_
      show Steps p.tables e below (T201.setTop (mkF m 140 #[.val (.int cnt), .val (.int bits), .val (.int (6 : Int32)), .val (.ref b162), .val (.int (f3 u197 u198)), .unset] [(.int bits), (.int (f5 bits (0 : Int32) (6 : Int32)))])) _
      refine XS.iconst X201.here hx rfl (hb hby at_140) ?_
      show Steps p.tables e below (T201.setTop (mkF m 141 #[.val (.int cnt), .val (.int bits), .val (.int (6 : Int32)), .val (.ref b162), .val (.int (f3 u197 u198)), .unset] [(.int (1 : Int32)), (.int bits), (.int (f5 bits (0 : Int32) (6 : Int32)))])) _
      refine XS.iloadN X201.here hx rfl (hb hby at_141) rfl ?_
      exact kt
    obtain ⟨_, _, ⟨T202, L202, k202, n202⟩, -, X202, ⟨Lc202, hQ202, l202, y202, z202⟩, st202⟩ := Jvm.LawKit.callS X201 hx (y := (⟨"com/example/gallant_courier/gallantcourier/core/LossRateWaitsPerDoublingPinLaw", "one", "(III)I"⟩ : MethodName)) hown (mvT hZ (hw _ (List.mem_of_getElem? (i := 28) rfl))) (mvT hZ (hw _ (List.mem_of_getElem? (i := 29) rfl))) (mvT hZ (hw _ (List.mem_of_getElem? (i := 11) rfl))) (mvT hZ (hw _ (List.mem_of_getElem? (i := 30) rfl))) (by decide) (backOf (W := 1) (rm5 l Z aa hw [] bits (1 : Int32) (6 : Int32) T195.heap n0 O195) hZ (hw _ (List.mem_of_getElem? (i := 30) rfl)) (hw _ (List.mem_of_getElem? (i := 11) rfl)) (by decide) (by decide)) (g := (mkF m 142 #[.val (.int cnt), .val (.int bits), .val (.int (6 : Int32)), .val (.ref b162), .val (.int (f3 u197 u198)), .unset] [(.int (6 : Int32)), (.int (1 : Int32)), (.int bits), (.int (f5 bits (0 : Int32) (6 : Int32)))])) rfl (by rw [hml]; rfl) (argsL := [(.int bits), (.int (1 : Int32)), (.int (6 : Int32))]) (rest := [(.int (f5 bits (0 : Int32) (6 : Int32)))]) (lenOf pd_oIIIcI rfl) rfl (by show 2 * 0 + _ ≤ _; exact Nat.le_of_eq rfl) (hb hby at_142) (fun _ _ => ⟨rfl, e201, (by decide : 1 + 0 ≤ _), (by decide : 2 + 0 ≤ _)⟩)
    dsimp only [Pt.U, Pt.locs, Pt.cells, Pt.slots] at X202 l202 y202 z202 st202 hQ202
    subst l202 y202 z202
    obtain ⟨rfl, rfl, e202⟩ := hQ202
    try rw [List.append_nil] at X202
    refine Gl.up (B := T202.setTop (mkF m 145 #[.val (.int cnt), .val (.int bits), .val (.int (6 : Int32)), .val (.ref b162), .val (.int (f3 u197 u198)), .unset] [(.int (f5 bits (1 : Int32) (6 : Int32))), (.int (f5 bits (0 : Int32) (6 : Int32)))])) (fun t kt => st202 _ kt) ?_
    refine Gl.up (B := T202.setTop (mkF m 149 #[.val (.int cnt), .val (.int bits), .val (.int (6 : Int32)), .val (.ref b162), .val (.int (f3 u197 u198)), .unset] [(.int (6 : Int32)), (.int (2 : Int32)), (.int bits), (.int ((f5 bits (0 : Int32) (6 : Int32)) + (f5 bits (1 : Int32) (6 : Int32))))])) (fun t kt => ?_) ?_
    · refine XS.iadd X202.here hx rfl (hb hby at_145) rfl ?_
      show Steps p.tables e below (T202.setTop (mkF m 146 #[.val (.int cnt), .val (.int bits), .val (.int (6 : Int32)), .val (.ref b162), .val (.int (f3 u197 u198)), .unset] [(.int ((f5 bits (0 : Int32) (6 : Int32)) + (f5 bits (1 : Int32) (6 : Int32))))])) _
      refine XS.iloadN X202.here hx rfl (hb hby at_146) rfl ?_
      show Steps p.tables e below (T202.setTop (mkF m 147 #[.val (.int cnt), .val (.int bits), .val (.int (6 : Int32)), .val (.ref b162), .val (.int (f3 u197 u198)), .unset] [(.int bits), (.int ((f5 bits (0 : Int32) (6 : Int32)) + (f5 bits (1 : Int32) (6 : Int32))))])) _
      refine XS.iconst X202.here hx rfl (hb hby at_147) ?_
      show Steps p.tables e below (T202.setTop (mkF m 148 #[.val (.int cnt), .val (.int bits), .val (.int (6 : Int32)), .val (.ref b162), .val (.int (f3 u197 u198)), .unset] [(.int (2 : Int32)), (.int bits), (.int ((f5 bits (0 : Int32) (6 : Int32)) + (f5 bits (1 : Int32) (6 : Int32))))])) _
      refine XS.iloadN X202.here hx rfl (hb hby at_148) rfl ?_
      exact kt
    obtain ⟨_, _, ⟨T203, L203, k203, n203⟩, -, X203, ⟨Lc203, hQ203, l203, y203, z203⟩, st203⟩ := Jvm.LawKit.callS X202 hx (y := (⟨"com/example/gallant_courier/gallantcourier/core/LossRateWaitsPerDoublingPinLaw", "one", "(III)I"⟩ : MethodName)) hown (mvT hZ (hw _ (List.mem_of_getElem? (i := 28) rfl))) (mvT hZ (hw _ (List.mem_of_getElem? (i := 29) rfl))) (mvT hZ (hw _ (List.mem_of_getElem? (i := 11) rfl))) (mvT hZ (hw _ (List.mem_of_getElem? (i := 30) rfl))) (by decide) (backOf (W := 1) (rm5 l Z aa hw [] bits (2 : Int32) (6 : Int32) T195.heap n0 O195) hZ (hw _ (List.mem_of_getElem? (i := 30) rfl)) (hw _ (List.mem_of_getElem? (i := 11) rfl)) (by decide) (by decide)) (g := (mkF m 149 #[.val (.int cnt), .val (.int bits), .val (.int (6 : Int32)), .val (.ref b162), .val (.int (f3 u197 u198)), .unset] [(.int (6 : Int32)), (.int (2 : Int32)), (.int bits), (.int ((f5 bits (0 : Int32) (6 : Int32)) + (f5 bits (1 : Int32) (6 : Int32))))])) rfl (by rw [hml]; rfl) (argsL := [(.int bits), (.int (2 : Int32)), (.int (6 : Int32))]) (rest := [(.int ((f5 bits (0 : Int32) (6 : Int32)) + (f5 bits (1 : Int32) (6 : Int32))))]) (lenOf pd_oIIIcI rfl) rfl (by show 2 * 0 + _ ≤ _; exact Nat.le_of_eq rfl) (hb hby at_149) (fun _ _ => ⟨rfl, e202, (by decide : 1 + 0 ≤ _), (by decide : 2 + 0 ≤ _)⟩)
    dsimp only [Pt.U, Pt.locs, Pt.cells, Pt.slots] at X203 l203 y203 z203 st203 hQ203
    subst l203 y203 z203
    obtain ⟨rfl, rfl, e203⟩ := hQ203
    try rw [List.append_nil] at X203
    refine Gl.up (B := T203.setTop (mkF m 152 #[.val (.int cnt), .val (.int bits), .val (.int (6 : Int32)), .val (.ref b162), .val (.int (f3 u197 u198)), .unset] [(.int (f5 bits (2 : Int32) (6 : Int32))), (.int ((f5 bits (0 : Int32) (6 : Int32)) + (f5 bits (1 : Int32) (6 : Int32))))])) (fun t kt => st203 _ kt) ?_
    refine Gl.up (B := T203.setTop (mkF m 156 #[.val (.int cnt), .val (.int bits), .val (.int (6 : Int32)), .val (.ref b162), .val (.int (f3 u197 u198)), .unset] [(.int (6 : Int32)), (.int (3 : Int32)), (.int bits), (.int (((f5 bits (0 : Int32) (6 : Int32)) + (f5 bits (1 : Int32) (6 : Int32))) + (f5 bits (2 : Int32) (6 : Int32))))])) (fun t kt => ?_) ?_
    · refine XS.iadd X203.here hx rfl (hb hby at_152) rfl ?_
      show Steps p.tables e below (T203.setTop (mkF m 153 #[.val (.int cnt), .val (.int bits), .val (.int (6 : Int32)), .val (.ref b162), .val (.int (f3 u197 u198)), .unset] [(.int (((f5 bits (0 : Int32) (6 : Int32)) + (f5 bits (1 : Int32) (6 : Int32))) + (f5 bits (2 : Int32) (6 : Int32))))])) _
      refine XS.iloadN X203.here hx rfl (hb hby at_153) rfl ?_
      show Steps p.tables e below (T203.setTop (mkF m 154 #[.val (.int cnt), .val (.int bits), .val (.int (6 : Int32)), .val (.ref b162), .val (.int (f3 u197 u198)), .unset] [(.int bits), (.int (((f5 bits (0 : Int32) (6 : Int32)) + (f5 bits (1 : Int32) (6 : Int32))) + (f5 bits (2 : Int32) (6 : Int32))))])) _
      refine XS.iconst X203.here hx rfl (hb hby at_154) ?_
      show Steps p.tables e below (T203.setTop (mkF m 155 #[.val (.int cnt), .val (.int bits), .val (.int (6 : Int32)), .val (.ref b162), .val (.int (f3 u197 u198)), .unset] [(.int (3 : Int32)), (.int bits), (.int (((f5 bits (0 : Int32) (6 : Int32)) + (f5 bits (1 : Int32) (6 : Int32))) + (f5 bits (2 : Int32) (6 : Int32))))])) _
      refine XS.iloadN X203.here hx rfl (hb hby at_155) rfl ?_
      exact kt
    obtain ⟨_, _, ⟨T204, L204, k204, n204⟩, -, X204, ⟨Lc204, hQ204, l204, y204, z204⟩, st204⟩ := Jvm.LawKit.callS X203 hx (y := (⟨"com/example/gallant_courier/gallantcourier/core/LossRateWaitsPerDoublingPinLaw", "one", "(III)I"⟩ : MethodName)) hown (mvT hZ (hw _ (List.mem_of_getElem? (i := 28) rfl))) (mvT hZ (hw _ (List.mem_of_getElem? (i := 29) rfl))) (mvT hZ (hw _ (List.mem_of_getElem? (i := 11) rfl))) (mvT hZ (hw _ (List.mem_of_getElem? (i := 30) rfl))) (by decide) (backOf (W := 1) (rm5 l Z aa hw [] bits (3 : Int32) (6 : Int32) T195.heap n0 O195) hZ (hw _ (List.mem_of_getElem? (i := 30) rfl)) (hw _ (List.mem_of_getElem? (i := 11) rfl)) (by decide) (by decide)) (g := (mkF m 156 #[.val (.int cnt), .val (.int bits), .val (.int (6 : Int32)), .val (.ref b162), .val (.int (f3 u197 u198)), .unset] [(.int (6 : Int32)), (.int (3 : Int32)), (.int bits), (.int (((f5 bits (0 : Int32) (6 : Int32)) + (f5 bits (1 : Int32) (6 : Int32))) + (f5 bits (2 : Int32) (6 : Int32))))])) rfl (by rw [hml]; rfl) (argsL := [(.int bits), (.int (3 : Int32)), (.int (6 : Int32))]) (rest := [(.int (((f5 bits (0 : Int32) (6 : Int32)) + (f5 bits (1 : Int32) (6 : Int32))) + (f5 bits (2 : Int32) (6 : Int32))))]) (lenOf pd_oIIIcI rfl) rfl (by show 2 * 0 + _ ≤ _; exact Nat.le_of_eq rfl) (hb hby at_156) (fun _ _ => ⟨rfl, e203, (by decide : 1 + 0 ≤ _), (by decide : 2 + 0 ≤ _)⟩)
    dsimp only [Pt.U, Pt.locs, Pt.cells, Pt.slots] at X204 l204 y204 z204 st204 hQ204
    subst l204 y204 z204
    obtain ⟨rfl, rfl, e204⟩ := hQ204
    try rw [List.append_nil] at X204
    refine Gl.up (B := T204.setTop (mkF m 159 #[.val (.int cnt), .val (.int bits), .val (.int (6 : Int32)), .val (.ref b162), .val (.int (f3 u197 u198)), .unset] [(.int (f5 bits (3 : Int32) (6 : Int32))), (.int (((f5 bits (0 : Int32) (6 : Int32)) + (f5 bits (1 : Int32) (6 : Int32))) + (f5 bits (2 : Int32) (6 : Int32))))])) (fun t kt => st204 _ kt) ?_
    refine Gl.up (B := T204.setTop (mkF m 163 #[.val (.int cnt), .val (.int bits), .val (.int (6 : Int32)), .val (.ref b162), .val (.int (f3 u197 u198)), .unset] [(.int (6 : Int32)), (.int (4 : Int32)), (.int bits), (.int ((((f5 bits (0 : Int32) (6 : Int32)) + (f5 bits (1 : Int32) (6 : Int32))) + (f5 bits (2 : Int32) (6 : Int32))) + (f5 bits (3 : Int32) (6 : Int32))))])) (fun t kt => ?_) ?_
    · refine XS.iadd X204.here hx rfl (hb hby at_159) rfl ?_
      show Steps p.tables e below (T204.setTop (mkF m 160 #[.val (.int cnt), .val (.int bits), .val (.int (6 : Int32)), .val (.ref b162), .val (.int (f3 u197 u198)), .unset] [(.int ((((f5 bits (0 : Int32) (6 : Int32)) + (f5 bits (1 : Int32) (6 : Int32))) + (f5 bits (2 : Int32) (6 : Int32))) + (f5 bits (3 : Int32) (6 : Int32))))])) _
      refine XS.iloadN X204.here hx rfl (hb hby at_160) rfl ?_
      show Steps p.tables e below (T204.setTop (mkF m 161 #[.val (.int cnt), .val (.int bits), .val (.int (6 : Int32)), .val (.ref b162), .val (.int (f3 u197 u198)), .unset] [(.int bits), (.int ((((f5 bits (0 : Int32) (6 : Int32)) + (f5 bits (1 : Int32) (6 : Int32))) + (f5 bits (2 : Int32) (6 : Int32))) + (f5 bits (3 : Int32) (6 : Int32))))])) _
      refine XS.iconst X204.here hx rfl (hb hby at_161) ?_
      show Steps p.tables e below (T204.setTop (mkF m 162 #[.val (.int cnt), .val (.int bits), .val (.int (6 : Int32)), .val (.ref b162), .val (.int (f3 u197 u198)), .unset] [(.int (4 : Int32)), (.int bits), (.int ((((f5 bits (0 : Int32) (6 : Int32)) + (f5 bits (1 : Int32) (6 : Int32))) + (f5 bits (2 : Int32) (6 : Int32))) + (f5 bits (3 : Int32) (6 : Int32))))])) _
      refine XS.iloadN X204.here hx rfl (hb hby at_162) rfl ?_
      exact kt
    obtain ⟨_, _, ⟨T205, L205, k205, n205⟩, -, X205, ⟨Lc205, hQ205, l205, y205, z205⟩, st205⟩ := Jvm.LawKit.callS X204 hx (y := (⟨"com/example/gallant_courier/gallantcourier/core/LossRateWaitsPerDoublingPinLaw", "one", "(III)I"⟩ : MethodName)) hown (mvT hZ (hw _ (List.mem_of_getElem? (i := 28) rfl))) (mvT hZ (hw _ (List.mem_of_getElem? (i := 29) rfl))) (mvT hZ (hw _ (List.mem_of_getElem? (i := 11) rfl))) (mvT hZ (hw _ (List.mem_of_getElem? (i := 30) rfl))) (by decide) (backOf (W := 1) (rm5 l Z aa hw [] bits (4 : Int32) (6 : Int32) T195.heap n0 O195) hZ (hw _ (List.mem_of_getElem? (i := 30) rfl)) (hw _ (List.mem_of_getElem? (i := 11) rfl)) (by decide) (by decide)) (g := (mkF m 163 #[.val (.int cnt), .val (.int bits), .val (.int (6 : Int32)), .val (.ref b162), .val (.int (f3 u197 u198)), .unset] [(.int (6 : Int32)), (.int (4 : Int32)), (.int bits), (.int ((((f5 bits (0 : Int32) (6 : Int32)) + (f5 bits (1 : Int32) (6 : Int32))) + (f5 bits (2 : Int32) (6 : Int32))) + (f5 bits (3 : Int32) (6 : Int32))))])) rfl (by rw [hml]; rfl) (argsL := [(.int bits), (.int (4 : Int32)), (.int (6 : Int32))]) (rest := [(.int ((((f5 bits (0 : Int32) (6 : Int32)) + (f5 bits (1 : Int32) (6 : Int32))) + (f5 bits (2 : Int32) (6 : Int32))) + (f5 bits (3 : Int32) (6 : Int32))))]) (lenOf pd_oIIIcI rfl) rfl (by show 2 * 0 + _ ≤ _; exact Nat.le_of_eq rfl) (hb hby at_163) (fun _ _ => ⟨rfl, e204, (by decide : 1 + 0 ≤ _), (by decide : 2 + 0 ≤ _)⟩)
    dsimp only [Pt.U, Pt.locs, Pt.cells, Pt.slots] at X205 l205 y205 z205 st205 hQ205
    subst l205 y205 z205
    obtain ⟨rfl, rfl, e205⟩ := hQ205
    try rw [List.append_nil] at X205
    refine Gl.up (B := T205.setTop (mkF m 166 #[.val (.int cnt), .val (.int bits), .val (.int (6 : Int32)), .val (.ref b162), .val (.int (f3 u197 u198)), .unset] [(.int (f5 bits (4 : Int32) (6 : Int32))), (.int ((((f5 bits (0 : Int32) (6 : Int32)) + (f5 bits (1 : Int32) (6 : Int32))) + (f5 bits (2 : Int32) (6 : Int32))) + (f5 bits (3 : Int32) (6 : Int32))))])) (fun t kt => st205 _ kt) ?_
    refine Gl.up (B := T205.setTop (mkF m 170 #[.val (.int cnt), .val (.int bits), .val (.int (6 : Int32)), .val (.ref b162), .val (.int (f3 u197 u198)), .unset] [(.int (6 : Int32)), (.int (5 : Int32)), (.int bits), (.int (((((f5 bits (0 : Int32) (6 : Int32)) + (f5 bits (1 : Int32) (6 : Int32))) + (f5 bits (2 : Int32) (6 : Int32))) + (f5 bits (3 : Int32) (6 : Int32))) + (f5 bits (4 : Int32) (6 : Int32))))])) (fun t kt => ?_) ?_
    · refine XS.iadd X205.here hx rfl (hb hby at_166) rfl ?_
      show Steps p.tables e below (T205.setTop (mkF m 167 #[.val (.int cnt), .val (.int bits), .val (.int (6 : Int32)), .val (.ref b162), .val (.int (f3 u197 u198)), .unset] [(.int (((((f5 bits (0 : Int32) (6 : Int32)) + (f5 bits (1 : Int32) (6 : Int32))) + (f5 bits (2 : Int32) (6 : Int32))) + (f5 bits (3 : Int32) (6 : Int32))) + (f5 bits (4 : Int32) (6 : Int32))))])) _
      refine XS.iloadN X205.here hx rfl (hb hby at_167) rfl ?_
      show Steps p.tables e below (T205.setTop (mkF m 168 #[.val (.int cnt), .val (.int bits), .val (.int (6 : Int32)), .val (.ref b162), .val (.int (f3 u197 u198)), .unset] [(.int bits), (.int (((((f5 bits (0 : Int32) (6 : Int32)) + (f5 bits (1 : Int32) (6 : Int32))) + (f5 bits (2 : Int32) (6 : Int32))) + (f5 bits (3 : Int32) (6 : Int32))) + (f5 bits (4 : Int32) (6 : Int32))))])) _
      refine XS.iconst X205.here hx rfl (hb hby at_168) ?_
      show Steps p.tables e below (T205.setTop (mkF m 169 #[.val (.int cnt), .val (.int bits), .val (.int (6 : Int32)), .val (.ref b162), .val (.int (f3 u197 u198)), .unset] [(.int (5 : Int32)), (.int bits), (.int (((((f5 bits (0 : Int32) (6 : Int32)) + (f5 bits (1 : Int32) (6 : Int32))) + (f5 bits (2 : Int32) (6 : Int32))) + (f5 bits (3 : Int32) (6 : Int32))) + (f5 bits (4 : Int32) (6 : Int32))))])) _
      refine XS.iloadN X205.here hx rfl (hb hby at_169) rfl ?_
      exact kt
    obtain ⟨_, _, ⟨T206, L206, k206, n206⟩, -, X206, ⟨Lc206, hQ206, l206, y206, z206⟩, st206⟩ := Jvm.LawKit.callS X205 hx (y := (⟨"com/example/gallant_courier/gallantcourier/core/LossRateWaitsPerDoublingPinLaw", "one", "(III)I"⟩ : MethodName)) hown (mvT hZ (hw _ (List.mem_of_getElem? (i := 28) rfl))) (mvT hZ (hw _ (List.mem_of_getElem? (i := 29) rfl))) (mvT hZ (hw _ (List.mem_of_getElem? (i := 11) rfl))) (mvT hZ (hw _ (List.mem_of_getElem? (i := 30) rfl))) (by decide) (backOf (W := 1) (rm5 l Z aa hw [] bits (5 : Int32) (6 : Int32) T195.heap n0 O195) hZ (hw _ (List.mem_of_getElem? (i := 30) rfl)) (hw _ (List.mem_of_getElem? (i := 11) rfl)) (by decide) (by decide)) (g := (mkF m 170 #[.val (.int cnt), .val (.int bits), .val (.int (6 : Int32)), .val (.ref b162), .val (.int (f3 u197 u198)), .unset] [(.int (6 : Int32)), (.int (5 : Int32)), (.int bits), (.int (((((f5 bits (0 : Int32) (6 : Int32)) + (f5 bits (1 : Int32) (6 : Int32))) + (f5 bits (2 : Int32) (6 : Int32))) + (f5 bits (3 : Int32) (6 : Int32))) + (f5 bits (4 : Int32) (6 : Int32))))])) rfl (by rw [hml]; rfl) (argsL := [(.int bits), (.int (5 : Int32)), (.int (6 : Int32))]) (rest := [(.int (((((f5 bits (0 : Int32) (6 : Int32)) + (f5 bits (1 : Int32) (6 : Int32))) + (f5 bits (2 : Int32) (6 : Int32))) + (f5 bits (3 : Int32) (6 : Int32))) + (f5 bits (4 : Int32) (6 : Int32))))]) (lenOf pd_oIIIcI rfl) rfl (by show 2 * 0 + _ ≤ _; exact Nat.le_of_eq rfl) (hb hby at_170) (fun _ _ => ⟨rfl, e205, (by decide : 1 + 0 ≤ _), (by decide : 2 + 0 ≤ _)⟩)
    dsimp only [Pt.U, Pt.locs, Pt.cells, Pt.slots] at X206 l206 y206 z206 st206 hQ206
    subst l206 y206 z206
    obtain ⟨rfl, rfl, e206⟩ := hQ206
    try rw [List.append_nil] at X206
    refine Gl.up (B := T206.setTop (mkF m 173 #[.val (.int cnt), .val (.int bits), .val (.int (6 : Int32)), .val (.ref b162), .val (.int (f3 u197 u198)), .unset] [(.int (f5 bits (5 : Int32) (6 : Int32))), (.int (((((f5 bits (0 : Int32) (6 : Int32)) + (f5 bits (1 : Int32) (6 : Int32))) + (f5 bits (2 : Int32) (6 : Int32))) + (f5 bits (3 : Int32) (6 : Int32))) + (f5 bits (4 : Int32) (6 : Int32))))])) (fun t kt => st206 _ kt) ?_
    refine Gl.up (B := T206.setTop (mkF m 178 #[.val (.int cnt), .val (.int bits), .val (.int (6 : Int32)), .val (.ref b162), .val (.int (f3 u197 u198)), .unset] [(.int (6 : Int32)), (.int (6 : Int32)), (.int bits), (.int ((((((f5 bits (0 : Int32) (6 : Int32)) + (f5 bits (1 : Int32) (6 : Int32))) + (f5 bits (2 : Int32) (6 : Int32))) + (f5 bits (3 : Int32) (6 : Int32))) + (f5 bits (4 : Int32) (6 : Int32))) + (f5 bits (5 : Int32) (6 : Int32))))])) (fun t kt => ?_) ?_
    · refine XS.iadd X206.here hx rfl (hb hby at_173) rfl ?_
      show Steps p.tables e below (T206.setTop (mkF m 174 #[.val (.int cnt), .val (.int bits), .val (.int (6 : Int32)), .val (.ref b162), .val (.int (f3 u197 u198)), .unset] [(.int ((((((f5 bits (0 : Int32) (6 : Int32)) + (f5 bits (1 : Int32) (6 : Int32))) + (f5 bits (2 : Int32) (6 : Int32))) + (f5 bits (3 : Int32) (6 : Int32))) + (f5 bits (4 : Int32) (6 : Int32))) + (f5 bits (5 : Int32) (6 : Int32))))])) _
      refine XS.iloadN X206.here hx rfl (hb hby at_174) rfl ?_
      show Steps p.tables e below (T206.setTop (mkF m 175 #[.val (.int cnt), .val (.int bits), .val (.int (6 : Int32)), .val (.ref b162), .val (.int (f3 u197 u198)), .unset] [(.int bits), (.int ((((((f5 bits (0 : Int32) (6 : Int32)) + (f5 bits (1 : Int32) (6 : Int32))) + (f5 bits (2 : Int32) (6 : Int32))) + (f5 bits (3 : Int32) (6 : Int32))) + (f5 bits (4 : Int32) (6 : Int32))) + (f5 bits (5 : Int32) (6 : Int32))))])) _
      refine XS.bipush X206.here hx rfl (hb hby at_175) ?_
      show Steps p.tables e below (T206.setTop (mkF m 177 #[.val (.int cnt), .val (.int bits), .val (.int (6 : Int32)), .val (.ref b162), .val (.int (f3 u197 u198)), .unset] [(.int (6 : Int32)), (.int bits), (.int ((((((f5 bits (0 : Int32) (6 : Int32)) + (f5 bits (1 : Int32) (6 : Int32))) + (f5 bits (2 : Int32) (6 : Int32))) + (f5 bits (3 : Int32) (6 : Int32))) + (f5 bits (4 : Int32) (6 : Int32))) + (f5 bits (5 : Int32) (6 : Int32))))])) _
      refine XS.iloadN X206.here hx rfl (hb hby at_177) rfl ?_
      exact kt
    obtain ⟨_, _, ⟨T207, L207, k207, n207⟩, -, X207, ⟨Lc207, hQ207, l207, y207, z207⟩, st207⟩ := Jvm.LawKit.callS X206 hx (y := (⟨"com/example/gallant_courier/gallantcourier/core/LossRateWaitsPerDoublingPinLaw", "one", "(III)I"⟩ : MethodName)) hown (mvT hZ (hw _ (List.mem_of_getElem? (i := 28) rfl))) (mvT hZ (hw _ (List.mem_of_getElem? (i := 29) rfl))) (mvT hZ (hw _ (List.mem_of_getElem? (i := 11) rfl))) (mvT hZ (hw _ (List.mem_of_getElem? (i := 30) rfl))) (by decide) (backOf (W := 1) (rm5 l Z aa hw [] bits (6 : Int32) (6 : Int32) T195.heap n0 O195) hZ (hw _ (List.mem_of_getElem? (i := 30) rfl)) (hw _ (List.mem_of_getElem? (i := 11) rfl)) (by decide) (by decide)) (g := (mkF m 178 #[.val (.int cnt), .val (.int bits), .val (.int (6 : Int32)), .val (.ref b162), .val (.int (f3 u197 u198)), .unset] [(.int (6 : Int32)), (.int (6 : Int32)), (.int bits), (.int ((((((f5 bits (0 : Int32) (6 : Int32)) + (f5 bits (1 : Int32) (6 : Int32))) + (f5 bits (2 : Int32) (6 : Int32))) + (f5 bits (3 : Int32) (6 : Int32))) + (f5 bits (4 : Int32) (6 : Int32))) + (f5 bits (5 : Int32) (6 : Int32))))])) rfl (by rw [hml]; rfl) (argsL := [(.int bits), (.int (6 : Int32)), (.int (6 : Int32))]) (rest := [(.int ((((((f5 bits (0 : Int32) (6 : Int32)) + (f5 bits (1 : Int32) (6 : Int32))) + (f5 bits (2 : Int32) (6 : Int32))) + (f5 bits (3 : Int32) (6 : Int32))) + (f5 bits (4 : Int32) (6 : Int32))) + (f5 bits (5 : Int32) (6 : Int32))))]) (lenOf pd_oIIIcI rfl) rfl (by show 2 * 0 + _ ≤ _; exact Nat.le_of_eq rfl) (hb hby at_178) (fun _ _ => ⟨rfl, e206, (by decide : 1 + 0 ≤ _), (by decide : 2 + 0 ≤ _)⟩)
    dsimp only [Pt.U, Pt.locs, Pt.cells, Pt.slots] at X207 l207 y207 z207 st207 hQ207
    subst l207 y207 z207
    obtain ⟨rfl, rfl, e207⟩ := hQ207
    try rw [List.append_nil] at X207
    refine Gl.up (B := T207.setTop (mkF m 181 #[.val (.int cnt), .val (.int bits), .val (.int (6 : Int32)), .val (.ref b162), .val (.int (f3 u197 u198)), .unset] [(.int (f5 bits (6 : Int32) (6 : Int32))), (.int ((((((f5 bits (0 : Int32) (6 : Int32)) + (f5 bits (1 : Int32) (6 : Int32))) + (f5 bits (2 : Int32) (6 : Int32))) + (f5 bits (3 : Int32) (6 : Int32))) + (f5 bits (4 : Int32) (6 : Int32))) + (f5 bits (5 : Int32) (6 : Int32))))])) (fun t kt => st207 _ kt) ?_
    refine Gl.up (B := T207.setTop (mkF m 186 #[.val (.int cnt), .val (.int bits), .val (.int (6 : Int32)), .val (.ref b162), .val (.int (f3 u197 u198)), .unset] [(.int (6 : Int32)), (.int (7 : Int32)), (.int bits), (.int (((((((f5 bits (0 : Int32) (6 : Int32)) + (f5 bits (1 : Int32) (6 : Int32))) + (f5 bits (2 : Int32) (6 : Int32))) + (f5 bits (3 : Int32) (6 : Int32))) + (f5 bits (4 : Int32) (6 : Int32))) + (f5 bits (5 : Int32) (6 : Int32))) + (f5 bits (6 : Int32) (6 : Int32))))])) (fun t kt => ?_) ?_
    · refine XS.iadd X207.here hx rfl (hb hby at_181) rfl ?_
      show Steps p.tables e below (T207.setTop (mkF m 182 #[.val (.int cnt), .val (.int bits), .val (.int (6 : Int32)), .val (.ref b162), .val (.int (f3 u197 u198)), .unset] [(.int (((((((f5 bits (0 : Int32) (6 : Int32)) + (f5 bits (1 : Int32) (6 : Int32))) + (f5 bits (2 : Int32) (6 : Int32))) + (f5 bits (3 : Int32) (6 : Int32))) + (f5 bits (4 : Int32) (6 : Int32))) + (f5 bits (5 : Int32) (6 : Int32))) + (f5 bits (6 : Int32) (6 : Int32))))])) _
      refine XS.iloadN X207.here hx rfl (hb hby at_182) rfl ?_
      show Steps p.tables e below (T207.setTop (mkF m 183 #[.val (.int cnt), .val (.int bits), .val (.int (6 : Int32)), .val (.ref b162), .val (.int (f3 u197 u198)), .unset] [(.int bits), (.int (((((((f5 bits (0 : Int32) (6 : Int32)) + (f5 bits (1 : Int32) (6 : Int32))) + (f5 bits (2 : Int32) (6 : Int32))) + (f5 bits (3 : Int32) (6 : Int32))) + (f5 bits (4 : Int32) (6 : Int32))) + (f5 bits (5 : Int32) (6 : Int32))) + (f5 bits (6 : Int32) (6 : Int32))))])) _
      refine XS.bipush X207.here hx rfl (hb hby at_183) ?_
      show Steps p.tables e below (T207.setTop (mkF m 185 #[.val (.int cnt), .val (.int bits), .val (.int (6 : Int32)), .val (.ref b162), .val (.int (f3 u197 u198)), .unset] [(.int (7 : Int32)), (.int bits), (.int (((((((f5 bits (0 : Int32) (6 : Int32)) + (f5 bits (1 : Int32) (6 : Int32))) + (f5 bits (2 : Int32) (6 : Int32))) + (f5 bits (3 : Int32) (6 : Int32))) + (f5 bits (4 : Int32) (6 : Int32))) + (f5 bits (5 : Int32) (6 : Int32))) + (f5 bits (6 : Int32) (6 : Int32))))])) _
      refine XS.iloadN X207.here hx rfl (hb hby at_185) rfl ?_
      exact kt
    obtain ⟨_, _, ⟨T208, L208, k208, n208⟩, -, X208, ⟨Lc208, hQ208, l208, y208, z208⟩, st208⟩ := Jvm.LawKit.callS X207 hx (y := (⟨"com/example/gallant_courier/gallantcourier/core/LossRateWaitsPerDoublingPinLaw", "one", "(III)I"⟩ : MethodName)) hown (mvT hZ (hw _ (List.mem_of_getElem? (i := 28) rfl))) (mvT hZ (hw _ (List.mem_of_getElem? (i := 29) rfl))) (mvT hZ (hw _ (List.mem_of_getElem? (i := 11) rfl))) (mvT hZ (hw _ (List.mem_of_getElem? (i := 30) rfl))) (by decide) (backOf (W := 1) (rm5 l Z aa hw [] bits (7 : Int32) (6 : Int32) T195.heap n0 O195) hZ (hw _ (List.mem_of_getElem? (i := 30) rfl)) (hw _ (List.mem_of_getElem? (i := 11) rfl)) (by decide) (by decide)) (g := (mkF m 186 #[.val (.int cnt), .val (.int bits), .val (.int (6 : Int32)), .val (.ref b162), .val (.int (f3 u197 u198)), .unset] [(.int (6 : Int32)), (.int (7 : Int32)), (.int bits), (.int (((((((f5 bits (0 : Int32) (6 : Int32)) + (f5 bits (1 : Int32) (6 : Int32))) + (f5 bits (2 : Int32) (6 : Int32))) + (f5 bits (3 : Int32) (6 : Int32))) + (f5 bits (4 : Int32) (6 : Int32))) + (f5 bits (5 : Int32) (6 : Int32))) + (f5 bits (6 : Int32) (6 : Int32))))])) rfl (by rw [hml]; rfl) (argsL := [(.int bits), (.int (7 : Int32)), (.int (6 : Int32))]) (rest := [(.int (((((((f5 bits (0 : Int32) (6 : Int32)) + (f5 bits (1 : Int32) (6 : Int32))) + (f5 bits (2 : Int32) (6 : Int32))) + (f5 bits (3 : Int32) (6 : Int32))) + (f5 bits (4 : Int32) (6 : Int32))) + (f5 bits (5 : Int32) (6 : Int32))) + (f5 bits (6 : Int32) (6 : Int32))))]) (lenOf pd_oIIIcI rfl) rfl (by show 2 * 0 + _ ≤ _; exact Nat.le_of_eq rfl) (hb hby at_186) (fun _ _ => ⟨rfl, e207, (by decide : 1 + 0 ≤ _), (by decide : 2 + 0 ≤ _)⟩)
    dsimp only [Pt.U, Pt.locs, Pt.cells, Pt.slots] at X208 l208 y208 z208 st208 hQ208
    subst l208 y208 z208
    obtain ⟨rfl, rfl, e208⟩ := hQ208
    try rw [List.append_nil] at X208
    refine Gl.up (B := T208.setTop (mkF m 189 #[.val (.int cnt), .val (.int bits), .val (.int (6 : Int32)), .val (.ref b162), .val (.int (f3 u197 u198)), .unset] [(.int (f5 bits (7 : Int32) (6 : Int32))), (.int (((((((f5 bits (0 : Int32) (6 : Int32)) + (f5 bits (1 : Int32) (6 : Int32))) + (f5 bits (2 : Int32) (6 : Int32))) + (f5 bits (3 : Int32) (6 : Int32))) + (f5 bits (4 : Int32) (6 : Int32))) + (f5 bits (5 : Int32) (6 : Int32))) + (f5 bits (6 : Int32) (6 : Int32))))])) (fun t kt => st208 _ kt) ?_
    refine Gl.up (B := T208.setTop (mkF m 190 #[.val (.int cnt), .val (.int bits), .val (.int (6 : Int32)), .val (.ref b162), .val (.int (f3 u197 u198)), .unset] [(.int ((((((((f5 bits (0 : Int32) (6 : Int32)) + (f5 bits (1 : Int32) (6 : Int32))) + (f5 bits (2 : Int32) (6 : Int32))) + (f5 bits (3 : Int32) (6 : Int32))) + (f5 bits (4 : Int32) (6 : Int32))) + (f5 bits (5 : Int32) (6 : Int32))) + (f5 bits (6 : Int32) (6 : Int32))) + (f5 bits (7 : Int32) (6 : Int32))))])) (fun t kt => ?_) ?_
    · refine XS.iadd X208.here hx rfl (hb hby at_189) rfl ?_
      exact kt
    obtain ⟨u209, hu209⟩ : ∃ q : Int32, q = ((((((((f5 bits (0 : Int32) (6 : Int32)) + (f5 bits (1 : Int32) (6 : Int32))) + (f5 bits (2 : Int32) (6 : Int32))) + (f5 bits (3 : Int32) (6 : Int32))) + (f5 bits (4 : Int32) (6 : Int32))) + (f5 bits (5 : Int32) (6 : Int32))) + (f5 bits (6 : Int32) (6 : Int32))) + (f5 bits (7 : Int32) (6 : Int32))) := ⟨_, rfl⟩
    rw [← hu209]
    refine Gl.up (B := T208.setTop (mkF m 197 #[.val (.int cnt), .val (.int bits), .val (.int (6 : Int32)), .val (.ref b162), .val (.int (f3 u197 u198)), .val (.int u209)] [(.int (6 : Int32)), (.int u209), (.int (f3 u197 u198))])) (fun t kt => ?_) ?_
    · refine XS.istore X208.here hx rfl (hb hby at_190) rfl (l' := #[.val (.int cnt), .val (.int bits), .val (.int (6 : Int32)), .val (.ref b162), .val (.int (f3 u197 u198)), .val (.int u209)]) rfl ?_
      show Steps p.tables e below (T208.setTop (mkF m 192 #[.val (.int cnt), .val (.int bits), .val (.int (6 : Int32)), .val (.ref b162), .val (.int (f3 u197 u198)), .val (.int u209)] [])) _
      refine XS.iload X208.here hx rfl (hb hby at_192) rfl ?_
      show Steps p.tables e below (T208.setTop (mkF m 194 #[.val (.int cnt), .val (.int bits), .val (.int (6 : Int32)), .val (.ref b162), .val (.int (f3 u197 u198)), .val (.int u209)] [(.int (f3 u197 u198))])) _
      refine XS.iload X208.here hx rfl (hb hby at_194) rfl ?_
      show Steps p.tables e below (T208.setTop (mkF m 196 #[.val (.int cnt), .val (.int bits), .val (.int (6 : Int32)), .val (.ref b162), .val (.int (f3 u197 u198)), .val (.int u209)] [(.int u209), (.int (f3 u197 u198))])) _
      refine XS.iloadN X208.here hx rfl (hb hby at_196) rfl ?_
      exact kt
    obtain ⟨_, _, ⟨T210, L210, k210, n210⟩, -, X210, ⟨Lc210, hQ210, l210, y210, z210⟩, st210⟩ := Jvm.LawKit.callS X208 hx (y := (⟨"com/example/gallant_courier/gallantcourier/core/LossRateWaitsPerDoublingPinLaw", "expected", "(II)I"⟩ : MethodName)) hown (mvT hZ (hw _ (List.mem_of_getElem? (i := 31) rfl))) (mvT hZ (hw _ (List.mem_of_getElem? (i := 32) rfl))) (mvT hZ (hw _ (List.mem_of_getElem? (i := 11) rfl))) (mvT hZ (hw _ (List.mem_of_getElem? (i := 33) rfl))) (by decide) (backOf (W := 1) (rm6 l Z aa hw [] u209 (6 : Int32) T195.heap n0 O195) hZ (hw _ (List.mem_of_getElem? (i := 33) rfl)) (hw _ (List.mem_of_getElem? (i := 11) rfl)) (by decide) (by decide)) (g := (mkF m 197 #[.val (.int cnt), .val (.int bits), .val (.int (6 : Int32)), .val (.ref b162), .val (.int (f3 u197 u198)), .val (.int u209)] [(.int (6 : Int32)), (.int u209), (.int (f3 u197 u198))])) rfl (by rw [hml]; rfl) (argsL := [(.int u209), (.int (6 : Int32))]) (rest := [(.int (f3 u197 u198))]) (lenOf pd_oIIcI rfl) rfl (by show 2 * 0 + _ ≤ _; exact Nat.le_of_eq rfl) (hb hby at_197) (fun _ _ => ⟨rfl, e208, (by decide : 1 + 0 ≤ _), (by decide : 2 + 0 ≤ _)⟩)
    dsimp only [Pt.U, Pt.locs, Pt.cells, Pt.slots] at X210 l210 y210 z210 st210 hQ210
    subst l210 y210 z210
    obtain ⟨rfl, rfl, e210⟩ := hQ210
    try rw [List.append_nil] at X210
    refine Gl.up (B := T210.setTop (mkF m 200 #[.val (.int cnt), .val (.int bits), .val (.int (6 : Int32)), .val (.ref b162), .val (.int (f3 u197 u198)), .val (.int u209)] [(.int (f6 u209 (6 : Int32))), (.int (f3 u197 u198))])) (fun t kt => st210 _ kt) ?_
    have hm211 : u209 = own_sum [(f4 bits (5 : Int32)), (f4 bits (4 : Int32)), (f4 bits (3 : Int32)), (f4 bits (2 : Int32)), (f4 bits (1 : Int32)), (f4 bits (0 : Int32))] := by
      rw [hu209, own_bit _ (0 : Int32) _ (by decide), own_bit _ (1 : Int32) _ (by decide), own_bit _ (2 : Int32) _ (by decide), own_bit _ (3 : Int32) _ (by decide), own_bit _ (4 : Int32) _ (by decide), own_bit _ (5 : Int32) _ (by decide), own_nobit _ (6 : Int32) _ (by decide), own_nobit _ (7 : Int32) _ (by decide)]
      simp only [own_sum, Int32.add_zero, Int32.zero_add]
    refine Gl.up (B := T210.setTop (mkF m 208 #[.val (.int cnt), .val (.int bits), .val (.int (6 : Int32)), .val (.ref b162), .val (.int (f3 u197 u198)), .val (.int u209)] [(.int (1 : Int32))])) (fun t kt => ?_) ?_
    · refine XS.icmpNo X210.here hx rfl (hb hby at_200) rfl (teq (by rw [hsh199, hsa199, hm211]; exact own_fin6 _ (own_cons (f4_b bits (5 : Int32)) (own_cons (f4_b bits (4 : Int32)) (own_cons (f4_b bits (3 : Int32)) (own_cons (f4_b bits (2 : Int32)) (own_cons (f4_b bits (1 : Int32)) (own_cons (f4_b bits (0 : Int32)) own_nil)))))))).2 ?_
      show Steps p.tables e below (T210.setTop (mkF m 203 #[.val (.int cnt), .val (.int bits), .val (.int (6 : Int32)), .val (.ref b162), .val (.int (f3 u197 u198)), .val (.int u209)] [])) _
      refine XS.iconst X210.here hx rfl (hb hby at_203) ?_
      show Steps p.tables e below (T210.setTop (mkF m 204 #[.val (.int cnt), .val (.int bits), .val (.int (6 : Int32)), .val (.ref b162), .val (.int (f3 u197 u198)), .val (.int u209)] [(.int (1 : Int32))])) _
      refine XS.goto X210.here hx rfl (pc0 := 204) (pc' := 208) rfl (hb hby at_204) (by decide) (by decide) ?_
      exact kt
    refine Gl.retN X210 hx hlk (t := .boolean) Bd.returns (by simp) (hb hby at_208) (w := (1 : Int32)) rfl ?_ (by decide) (by decide)
    exact ⟨rfl, N195⟩
  · rw [hk]
    obtain ⟨T212, h212, X212, e212, E212, A212, D212, -, st212⟩ := newO X0 hx hZ hown (hw _ (List.mem_of_getElem? (i := 0) rfl)) (hw _ (List.mem_of_getElem? (i := 1) rfl)) (hw _ (List.mem_of_getElem? (i := 2) rfl)) e0 (g := (mkF m 7 #[.val (.int cnt), .val (.int bits), .val (.int (7 : Int32)), .unset, .unset, .unset] [])) rfl (hb hby at_7) (by decide) (by decide)
    obtain ⟨b212, gq212⟩ : ∃ z, z = h0.size := ⟨_, rfl⟩
    rw [← gq212] at A212 D212 st212
    have g_b212 : n0 ≤ b212 := Nat.le_trans (old_le O0) (Nat.le_of_eq gq212.symm)
    have O212 := O0.ext E212
    have F_b212_samples_212 : Fld Z h212 b212 "com/example/gallant_courier/gallantcourier/core/LossRate" "samples" "I" (.int (0 : Int32)) := D212 (Or.inl (hw _ (List.mem_of_getElem? (i := 19) rfl))) (ty := .int) (by decide)
    have F_b212_share_212 : Fld Z h212 b212 "com/example/gallant_courier/gallantcourier/core/LossRate" "share" "D" (.double (0 : UInt64)) := D212 (Or.inl (hw _ (List.mem_of_getElem? (i := 21) rfl))) (ty := .double) (by decide)
    refine Gl.up (B := T212.setTop (mkF m 10 #[.val (.int cnt), .val (.int bits), .val (.int (7 : Int32)), .unset, .unset, .unset] [(.ref b212)])) (fun t kt => st212 _ kt) ?_
    refine Gl.up (B := T212.setTop (mkF m 11 #[.val (.int cnt), .val (.int bits), .val (.int (7 : Int32)), .unset, .unset, .unset] [(.ref b212), (.ref b212)])) (fun t kt => ?_) ?_
    · refine XS.dup X212.here hx rfl (hb hby at_10) rfl rfl ?_
      exact kt
    obtain ⟨_, _, ⟨T213, L213, k213, n213⟩, -, X213, ⟨Lc213, hQ213, l213, y213, z213⟩, st213⟩ := X212.specialBack hx (y := (⟨"com/example/gallant_courier/gallantcourier/core/LossRate", "<init>", "()V"⟩ : MethodName)) rfl hown (mvT hZ (hw _ (List.mem_of_getElem? (i := 3) rfl))) (mvT hZ (hw _ (List.mem_of_getElem? (i := 4) rfl))) (mvT hZ (hw _ (List.mem_of_getElem? (i := 5) rfl))) (by decide) (backOf (W := 1) (rm1 l Z aa hw [] b212 (0 : UInt64) (0 : Int32) h212 n0 O212 A212 F_b212_share_212 F_b212_samples_212 g_b212) hZ (hw _ (List.mem_of_getElem? (i := 5) rfl)) (hw _ (List.mem_of_getElem? (i := 2) rfl)) (by decide) (by decide)) (g := (mkF m 11 #[.val (.int cnt), .val (.int bits), .val (.int (7 : Int32)), .unset, .unset, .unset] [(.ref b212), (.ref b212)])) rfl (by rw [hml]; rfl) (Steps.refl _) (a := b212) (argsL := []) (rest := [(.ref b212)]) (lenOf pd_ocV rfl) rfl (by show 2 * 0 + _ ≤ _; exact Nat.le_of_eq rfl) (hb hby at_11) (fun _ _ => ⟨rfl, e212, (by decide : 1 + 0 ≤ _), (by decide : 2 + 0 ≤ _)⟩)
    dsimp only [Pt.U, Pt.locs, Pt.cells, Pt.slots] at X213 l213 y213 z213 st213 hQ213
    subst l213 y213 z213
    obtain ⟨rfl, M213, K213, F_b212_share_213, F_b212_samples_213⟩ := hQ213
    have N213 := Fr.app N0 M213
    have O213 := O212.keep K213 (allS g_b212 all0)
    have E_b212_213 := A212.keep K213
    refine Gl.up (B := T213.setTop (mkF m 14 #[.val (.int cnt), .val (.int bits), .val (.int (7 : Int32)), .unset, .unset, .unset] [(.ref b212)])) (fun t kt => st213.trans kt) ?_
    refine Gl.up (B := T213.setTop (mkF m 18 #[.val (.int cnt), .val (.int bits), .val (.int (7 : Int32)), .val (.ref b212), .unset, .unset] [(.int (0 : Int32)), (.int bits), (.ref b212)])) (fun t kt => ?_) ?_
    · refine XS.astoreN X213.here hx rfl (hb hby at_14) rfl rfl (l' := #[.val (.int cnt), .val (.int bits), .val (.int (7 : Int32)), .val (.ref b212), .unset, .unset]) rfl ?_
      show Steps p.tables e below (T213.setTop (mkF m 15 #[.val (.int cnt), .val (.int bits), .val (.int (7 : Int32)), .val (.ref b212), .unset, .unset] [])) _
      refine XS.aloadN X213.here hx rfl (hb hby at_15) rfl rfl ?_
      show Steps p.tables e below (T213.setTop (mkF m 16 #[.val (.int cnt), .val (.int bits), .val (.int (7 : Int32)), .val (.ref b212), .unset, .unset] [(.ref b212)])) _
      refine XS.iloadN X213.here hx rfl (hb hby at_16) rfl ?_
      show Steps p.tables e below (T213.setTop (mkF m 17 #[.val (.int cnt), .val (.int bits), .val (.int (7 : Int32)), .val (.ref b212), .unset, .unset] [(.int bits), (.ref b212)])) _
      refine XS.iconst X213.here hx rfl (hb hby at_17) ?_
      exact kt
    obtain ⟨_, _, ⟨T214, L214, k214, n214⟩, -, X214, ⟨Lc214, hQ214, l214, y214, z214⟩, st214⟩ := Jvm.LawKit.callS X213 hx (y := (⟨"com/example/gallant_courier/gallantcourier/core/LossRateWaitsPerDoublingPinLaw", "bit", "(II)Z"⟩ : MethodName)) hown (mvT hZ (hw _ (List.mem_of_getElem? (i := 9) rfl))) (mvT hZ (hw _ (List.mem_of_getElem? (i := 10) rfl))) (mvT hZ (hw _ (List.mem_of_getElem? (i := 11) rfl))) (mvT hZ (hw _ (List.mem_of_getElem? (i := 12) rfl))) (by decide) (backOf (W := 1) (rm4 l Z aa hw [] bits (0 : Int32) T213.heap n0 O213) hZ (hw _ (List.mem_of_getElem? (i := 12) rfl)) (hw _ (List.mem_of_getElem? (i := 11) rfl)) (by decide) (by decide)) (g := (mkF m 18 #[.val (.int cnt), .val (.int bits), .val (.int (7 : Int32)), .val (.ref b212), .unset, .unset] [(.int (0 : Int32)), (.int bits), (.ref b212)])) rfl (by rw [hml]; rfl) (argsL := [(.int bits), (.int (0 : Int32))]) (rest := [(.ref b212)]) (lenOf pd_oIIcZ rfl) rfl (by show 2 * 0 + _ ≤ _; exact Nat.le_of_eq rfl) (hb hby at_18) (fun _ _ => ⟨rfl, rfl, (by decide : 1 + 0 ≤ _), (by decide : 2 + 0 ≤ _)⟩)
    dsimp only [Pt.U, Pt.locs, Pt.cells, Pt.slots] at X214 l214 y214 z214 st214 hQ214
    subst l214 y214 z214
    obtain ⟨rfl, rfl, e214⟩ := hQ214
    try rw [List.append_nil] at X214
    refine Gl.up (B := T214.setTop (mkF m 21 #[.val (.int cnt), .val (.int bits), .val (.int (7 : Int32)), .val (.ref b212), .unset, .unset] [(.int (f4 bits (0 : Int32))), (.ref b212)])) (fun t kt => st214 _ kt) ?_
    have hp216 : own_pres (f4 bits (0 : Int32)) (0 : UInt64) (0 : Int32) := own_pre0 _ own_nil _ (own_b01 (f4_b bits (0 : Int32)))
    obtain ⟨cq215, kq215, q215a, q215b, q215c⟩ := isOf hZ e214 E_b212_213
    obtain ⟨_, _, ⟨T215, L215, k215, n215⟩, -, X215, ⟨Lc215, hQ215, l215, y215, z215⟩, st215⟩ := X214.virtualBack hx (y := (⟨"com/example/gallant_courier/gallantcourier/core/LossRate", "sample", "(Z)V"⟩ : MethodName)) (z := (⟨"com/example/gallant_courier/gallantcourier/core/LossRate", "sample", "(Z)V"⟩ : MethodName)) hown (mvT hZ (hw _ (List.mem_of_getElem? (i := 13) rfl))) (mvT hZ (hw _ (List.mem_of_getElem? (i := 14) rfl))) (notFace_of_selects (args := #[]) (mvT hZ (hw _ (List.mem_of_getElem? (i := 16) rfl)))) (mvT hZ (hw _ (List.mem_of_getElem? (i := 16) rfl))) (mvT hZ (hw _ (List.mem_of_getElem? (i := 15) rfl))) (by decide) (backOf (W := 0) (rm2 l Z aa hw [] b212 (f4 bits (0 : Int32)) (0 : UInt64) (0 : Int32) T213.heap n0 O213 E_b212_213 F_b212_share_213 F_b212_samples_213 g_b212 hp216.1 hp216.2.1 hp216.2.2) hZ (hw _ (List.mem_of_getElem? (i := 17) rfl)) (hw _ (List.mem_of_getElem? (i := 2) rfl)) (by decide) (by decide)) q215a q215c (g := (mkF m 21 #[.val (.int cnt), .val (.int bits), .val (.int (7 : Int32)), .val (.ref b212), .unset, .unset] [(.int (f4 bits (0 : Int32))), (.ref b212)])) rfl (by rw [hml]; rfl) (Steps.refl _) (argsL := [(.int (f4 bits (0 : Int32)))]) (rest := []) (lenOf pd_oZcV rfl) rfl (by show 2 * 0 + _ ≤ _; exact Nat.le_of_eq rfl) (hb hby at_21) (fun _ _ => ⟨rfl, e214, (by decide : 1 + 0 ≤ _), (by decide : 2 + 0 ≤ _)⟩)
    dsimp only [Pt.U, Pt.locs, Pt.cells, Pt.slots] at X215 l215 y215 z215 st215 hQ215
    subst l215 y215 z215
    obtain ⟨rfl, M215, K215, F_b212_share_215, F_b212_samples_215⟩ := hQ215
    have N215 := Fr.app N213 M215
    have O215 := O213.keep K215 (allS g_b212 all0)
    have E_b212_215 := E_b212_213.keep K215
    obtain ⟨u217, hu217⟩ : ∃ q : UInt64, q = (f2_share (f4 bits (0 : Int32)) (0 : UInt64) (0 : Int32)) := ⟨_, rfl⟩
    rw [← hu217] at F_b212_share_215
    obtain ⟨u218, hu218⟩ : ∃ q : Int32, q = (f2_samples (f4 bits (0 : Int32)) (0 : UInt64) (0 : Int32)) := ⟨_, rfl⟩
    rw [← hu218] at F_b212_samples_215
    refine Gl.up (B := T215.setTop (mkF m 24 #[.val (.int cnt), .val (.int bits), .val (.int (7 : Int32)), .val (.ref b212), .unset, .unset] [])) (fun t kt => st215.trans kt) ?_
    have hsh219 : u217 = (own_st [(f4 bits (0 : Int32))]).1 := by rw [hu217]; first | rfl | (simp only [own_st])
    have hsa219 : u218 = (own_st [(f4 bits (0 : Int32))]).2 := by rw [hu218]; first | rfl | (simp only [own_st])
    refine Gl.up (B := T215.setTop (mkF m 32 #[.val (.int cnt), .val (.int bits), .val (.int (7 : Int32)), .val (.ref b212), .unset, .unset] [(.int (1 : Int32)), (.int bits), (.ref b212)])) (fun t kt => ?_) ?_
    · refine XS.iloadN X215.here hx rfl (hb hby at_24) rfl ?_
      show Steps p.tables e below (T215.setTop (mkF m 25 #[.val (.int cnt), .val (.int bits), .val (.int (7 : Int32)), .val (.ref b212), .unset, .unset] [(.int (7 : Int32))])) _
      refine XS.iconst X215.here hx rfl (hb hby at_25) ?_
      show Steps p.tables e below (T215.setTop (mkF m 26 #[.val (.int cnt), .val (.int bits), .val (.int (7 : Int32)), .val (.ref b212), .unset, .unset] [(.int (2 : Int32)), (.int (7 : Int32))])) _
      refine XS.icmpNo X215.here hx rfl (hb hby at_26) rfl (flt (by decide : ¬ ((7 : Int32) < (2 : Int32)))).1 ?_
      show Steps p.tables e below (T215.setTop (mkF m 29 #[.val (.int cnt), .val (.int bits), .val (.int (7 : Int32)), .val (.ref b212), .unset, .unset] [])) _
      refine XS.aloadN X215.here hx rfl (hb hby at_29) rfl rfl ?_
      show Steps p.tables e below (T215.setTop (mkF m 30 #[.val (.int cnt), .val (.int bits), .val (.int (7 : Int32)), .val (.ref b212), .unset, .unset] [(.ref b212)])) _
      refine XS.iloadN X215.here hx rfl (hb hby at_30) rfl ?_
      show Steps p.tables e below (T215.setTop (mkF m 31 #[.val (.int cnt), .val (.int bits), .val (.int (7 : Int32)), .val (.ref b212), .unset, .unset] [(.int bits), (.ref b212)])) _
      refine XS.iconst X215.here hx rfl (hb hby at_31) ?_
      exact kt
    obtain ⟨_, _, ⟨T220, L220, k220, n220⟩, -, X220, ⟨Lc220, hQ220, l220, y220, z220⟩, st220⟩ := Jvm.LawKit.callS X215 hx (y := (⟨"com/example/gallant_courier/gallantcourier/core/LossRateWaitsPerDoublingPinLaw", "bit", "(II)Z"⟩ : MethodName)) hown (mvT hZ (hw _ (List.mem_of_getElem? (i := 9) rfl))) (mvT hZ (hw _ (List.mem_of_getElem? (i := 10) rfl))) (mvT hZ (hw _ (List.mem_of_getElem? (i := 11) rfl))) (mvT hZ (hw _ (List.mem_of_getElem? (i := 12) rfl))) (by decide) (backOf (W := 1) (rm4 l Z aa hw [] bits (1 : Int32) T215.heap n0 O215) hZ (hw _ (List.mem_of_getElem? (i := 12) rfl)) (hw _ (List.mem_of_getElem? (i := 11) rfl)) (by decide) (by decide)) (g := (mkF m 32 #[.val (.int cnt), .val (.int bits), .val (.int (7 : Int32)), .val (.ref b212), .unset, .unset] [(.int (1 : Int32)), (.int bits), (.ref b212)])) rfl (by rw [hml]; rfl) (argsL := [(.int bits), (.int (1 : Int32))]) (rest := [(.ref b212)]) (lenOf pd_oIIcZ rfl) rfl (by show 2 * 0 + _ ≤ _; exact Nat.le_of_eq rfl) (hb hby at_32) (fun _ _ => ⟨rfl, rfl, (by decide : 1 + 0 ≤ _), (by decide : 2 + 0 ≤ _)⟩)
    dsimp only [Pt.U, Pt.locs, Pt.cells, Pt.slots] at X220 l220 y220 z220 st220 hQ220
    subst l220 y220 z220
    obtain ⟨rfl, rfl, e220⟩ := hQ220
    try rw [List.append_nil] at X220
    refine Gl.up (B := T220.setTop (mkF m 35 #[.val (.int cnt), .val (.int bits), .val (.int (7 : Int32)), .val (.ref b212), .unset, .unset] [(.int (f4 bits (1 : Int32))), (.ref b212)])) (fun t kt => st220 _ kt) ?_
    have hp222 : own_pres (f4 bits (1 : Int32)) u217 u218 := by rw [hsh219, hsa219]; exact own_pre1 _ (own_cons (f4_b bits (0 : Int32)) own_nil) _ (own_b01 (f4_b bits (1 : Int32)))
    obtain ⟨cq221, kq221, q221a, q221b, q221c⟩ := isOf hZ e220 E_b212_215
    obtain ⟨_, _, ⟨T221, L221, k221, n221⟩, -, X221, ⟨Lc221, hQ221, l221, y221, z221⟩, st221⟩ := X220.virtualBack hx (y := (⟨"com/example/gallant_courier/gallantcourier/core/LossRate", "sample", "(Z)V"⟩ : MethodName)) (z := (⟨"com/example/gallant_courier/gallantcourier/core/LossRate", "sample", "(Z)V"⟩ : MethodName)) hown (mvT hZ (hw _ (List.mem_of_getElem? (i := 13) rfl))) (mvT hZ (hw _ (List.mem_of_getElem? (i := 14) rfl))) (notFace_of_selects (args := #[]) (mvT hZ (hw _ (List.mem_of_getElem? (i := 16) rfl)))) (mvT hZ (hw _ (List.mem_of_getElem? (i := 16) rfl))) (mvT hZ (hw _ (List.mem_of_getElem? (i := 15) rfl))) (by decide) (backOf (W := 0) (rm2 l Z aa hw [] b212 (f4 bits (1 : Int32)) u217 u218 T215.heap n0 O215 E_b212_215 F_b212_share_215 F_b212_samples_215 g_b212 hp222.1 hp222.2.1 hp222.2.2) hZ (hw _ (List.mem_of_getElem? (i := 17) rfl)) (hw _ (List.mem_of_getElem? (i := 2) rfl)) (by decide) (by decide)) q221a q221c (g := (mkF m 35 #[.val (.int cnt), .val (.int bits), .val (.int (7 : Int32)), .val (.ref b212), .unset, .unset] [(.int (f4 bits (1 : Int32))), (.ref b212)])) rfl (by rw [hml]; rfl) (Steps.refl _) (argsL := [(.int (f4 bits (1 : Int32)))]) (rest := []) (lenOf pd_oZcV rfl) rfl (by show 2 * 0 + _ ≤ _; exact Nat.le_of_eq rfl) (hb hby at_35) (fun _ _ => ⟨rfl, e220, (by decide : 1 + 0 ≤ _), (by decide : 2 + 0 ≤ _)⟩)
    dsimp only [Pt.U, Pt.locs, Pt.cells, Pt.slots] at X221 l221 y221 z221 st221 hQ221
    subst l221 y221 z221
    obtain ⟨rfl, M221, K221, F_b212_share_221, F_b212_samples_221⟩ := hQ221
    have N221 := Fr.app N215 M221
    have O221 := O215.keep K221 (allS g_b212 all0)
    have E_b212_221 := E_b212_215.keep K221
    obtain ⟨u223, hu223⟩ : ∃ q : UInt64, q = (f2_share (f4 bits (1 : Int32)) u217 u218) := ⟨_, rfl⟩
    rw [← hu223] at F_b212_share_221
    obtain ⟨u224, hu224⟩ : ∃ q : Int32, q = (f2_samples (f4 bits (1 : Int32)) u217 u218) := ⟨_, rfl⟩
    rw [← hu224] at F_b212_samples_221
    refine Gl.up (B := T221.setTop (mkF m 38 #[.val (.int cnt), .val (.int bits), .val (.int (7 : Int32)), .val (.ref b212), .unset, .unset] [])) (fun t kt => st221.trans kt) ?_
    have hsh225 : u223 = (own_st [(f4 bits (1 : Int32)), (f4 bits (0 : Int32))]).1 := by rw [hu223, hsh219, hsa219]; exact (own_st1 _ _).symm
    have hsa225 : u224 = (own_st [(f4 bits (1 : Int32)), (f4 bits (0 : Int32))]).2 := by rw [hu224, hsh219, hsa219]; exact (own_st2 _ _).symm
    refine Gl.up (B := T221.setTop (mkF m 46 #[.val (.int cnt), .val (.int bits), .val (.int (7 : Int32)), .val (.ref b212), .unset, .unset] [(.int (2 : Int32)), (.int bits), (.ref b212)])) (fun t kt => ?_) ?_
    · refine XS.iloadN X221.here hx rfl (hb hby at_38) rfl ?_
      show Steps p.tables e below (T221.setTop (mkF m 39 #[.val (.int cnt), .val (.int bits), .val (.int (7 : Int32)), .val (.ref b212), .unset, .unset] [(.int (7 : Int32))])) _
      refine XS.iconst X221.here hx rfl (hb hby at_39) ?_
      show Steps p.tables e below (T221.setTop (mkF m 40 #[.val (.int cnt), .val (.int bits), .val (.int (7 : Int32)), .val (.ref b212), .unset, .unset] [(.int (3 : Int32)), (.int (7 : Int32))])) _
      refine XS.icmpNo X221.here hx rfl (hb hby at_40) rfl (flt (by decide : ¬ ((7 : Int32) < (3 : Int32)))).1 ?_
      show Steps p.tables e below (T221.setTop (mkF m 43 #[.val (.int cnt), .val (.int bits), .val (.int (7 : Int32)), .val (.ref b212), .unset, .unset] [])) _
      refine XS.aloadN X221.here hx rfl (hb hby at_43) rfl rfl ?_
      show Steps p.tables e below (T221.setTop (mkF m 44 #[.val (.int cnt), .val (.int bits), .val (.int (7 : Int32)), .val (.ref b212), .unset, .unset] [(.ref b212)])) _
      refine XS.iloadN X221.here hx rfl (hb hby at_44) rfl ?_
      show Steps p.tables e below (T221.setTop (mkF m 45 #[.val (.int cnt), .val (.int bits), .val (.int (7 : Int32)), .val (.ref b212), .unset, .unset] [(.int bits), (.ref b212)])) _
      refine XS.iconst X221.here hx rfl (hb hby at_45) ?_
      exact kt
    obtain ⟨_, _, ⟨T226, L226, k226, n226⟩, -, X226, ⟨Lc226, hQ226, l226, y226, z226⟩, st226⟩ := Jvm.LawKit.callS X221 hx (y := (⟨"com/example/gallant_courier/gallantcourier/core/LossRateWaitsPerDoublingPinLaw", "bit", "(II)Z"⟩ : MethodName)) hown (mvT hZ (hw _ (List.mem_of_getElem? (i := 9) rfl))) (mvT hZ (hw _ (List.mem_of_getElem? (i := 10) rfl))) (mvT hZ (hw _ (List.mem_of_getElem? (i := 11) rfl))) (mvT hZ (hw _ (List.mem_of_getElem? (i := 12) rfl))) (by decide) (backOf (W := 1) (rm4 l Z aa hw [] bits (2 : Int32) T221.heap n0 O221) hZ (hw _ (List.mem_of_getElem? (i := 12) rfl)) (hw _ (List.mem_of_getElem? (i := 11) rfl)) (by decide) (by decide)) (g := (mkF m 46 #[.val (.int cnt), .val (.int bits), .val (.int (7 : Int32)), .val (.ref b212), .unset, .unset] [(.int (2 : Int32)), (.int bits), (.ref b212)])) rfl (by rw [hml]; rfl) (argsL := [(.int bits), (.int (2 : Int32))]) (rest := [(.ref b212)]) (lenOf pd_oIIcZ rfl) rfl (by show 2 * 0 + _ ≤ _; exact Nat.le_of_eq rfl) (hb hby at_46) (fun _ _ => ⟨rfl, rfl, (by decide : 1 + 0 ≤ _), (by decide : 2 + 0 ≤ _)⟩)
    dsimp only [Pt.U, Pt.locs, Pt.cells, Pt.slots] at X226 l226 y226 z226 st226 hQ226
    subst l226 y226 z226
    obtain ⟨rfl, rfl, e226⟩ := hQ226
    try rw [List.append_nil] at X226
    refine Gl.up (B := T226.setTop (mkF m 49 #[.val (.int cnt), .val (.int bits), .val (.int (7 : Int32)), .val (.ref b212), .unset, .unset] [(.int (f4 bits (2 : Int32))), (.ref b212)])) (fun t kt => st226 _ kt) ?_
    have hp228 : own_pres (f4 bits (2 : Int32)) u223 u224 := by rw [hsh225, hsa225]; exact own_pre2 _ (own_cons (f4_b bits (1 : Int32)) (own_cons (f4_b bits (0 : Int32)) own_nil)) _ (own_b01 (f4_b bits (2 : Int32)))
    obtain ⟨cq227, kq227, q227a, q227b, q227c⟩ := isOf hZ e226 E_b212_221
    obtain ⟨_, _, ⟨T227, L227, k227, n227⟩, -, X227, ⟨Lc227, hQ227, l227, y227, z227⟩, st227⟩ := X226.virtualBack hx (y := (⟨"com/example/gallant_courier/gallantcourier/core/LossRate", "sample", "(Z)V"⟩ : MethodName)) (z := (⟨"com/example/gallant_courier/gallantcourier/core/LossRate", "sample", "(Z)V"⟩ : MethodName)) hown (mvT hZ (hw _ (List.mem_of_getElem? (i := 13) rfl))) (mvT hZ (hw _ (List.mem_of_getElem? (i := 14) rfl))) (notFace_of_selects (args := #[]) (mvT hZ (hw _ (List.mem_of_getElem? (i := 16) rfl)))) (mvT hZ (hw _ (List.mem_of_getElem? (i := 16) rfl))) (mvT hZ (hw _ (List.mem_of_getElem? (i := 15) rfl))) (by decide) (backOf (W := 0) (rm2 l Z aa hw [] b212 (f4 bits (2 : Int32)) u223 u224 T221.heap n0 O221 E_b212_221 F_b212_share_221 F_b212_samples_221 g_b212 hp228.1 hp228.2.1 hp228.2.2) hZ (hw _ (List.mem_of_getElem? (i := 17) rfl)) (hw _ (List.mem_of_getElem? (i := 2) rfl)) (by decide) (by decide)) q227a q227c (g := (mkF m 49 #[.val (.int cnt), .val (.int bits), .val (.int (7 : Int32)), .val (.ref b212), .unset, .unset] [(.int (f4 bits (2 : Int32))), (.ref b212)])) rfl (by rw [hml]; rfl) (Steps.refl _) (argsL := [(.int (f4 bits (2 : Int32)))]) (rest := []) (lenOf pd_oZcV rfl) rfl (by show 2 * 0 + _ ≤ _; exact Nat.le_of_eq rfl) (hb hby at_49) (fun _ _ => ⟨rfl, e226, (by decide : 1 + 0 ≤ _), (by decide : 2 + 0 ≤ _)⟩)
    dsimp only [Pt.U, Pt.locs, Pt.cells, Pt.slots] at X227 l227 y227 z227 st227 hQ227
    subst l227 y227 z227
    obtain ⟨rfl, M227, K227, F_b212_share_227, F_b212_samples_227⟩ := hQ227
    have N227 := Fr.app N221 M227
    have O227 := O221.keep K227 (allS g_b212 all0)
    have E_b212_227 := E_b212_221.keep K227
    obtain ⟨u229, hu229⟩ : ∃ q : UInt64, q = (f2_share (f4 bits (2 : Int32)) u223 u224) := ⟨_, rfl⟩
    rw [← hu229] at F_b212_share_227
    obtain ⟨u230, hu230⟩ : ∃ q : Int32, q = (f2_samples (f4 bits (2 : Int32)) u223 u224) := ⟨_, rfl⟩
    rw [← hu230] at F_b212_samples_227
    refine Gl.up (B := T227.setTop (mkF m 52 #[.val (.int cnt), .val (.int bits), .val (.int (7 : Int32)), .val (.ref b212), .unset, .unset] [])) (fun t kt => st227.trans kt) ?_
    have hsh231 : u229 = (own_st [(f4 bits (2 : Int32)), (f4 bits (1 : Int32)), (f4 bits (0 : Int32))]).1 := by rw [hu229, hsh225, hsa225]; exact (own_st1 _ _).symm
    have hsa231 : u230 = (own_st [(f4 bits (2 : Int32)), (f4 bits (1 : Int32)), (f4 bits (0 : Int32))]).2 := by rw [hu230, hsh225, hsa225]; exact (own_st2 _ _).symm
    refine Gl.up (B := T227.setTop (mkF m 60 #[.val (.int cnt), .val (.int bits), .val (.int (7 : Int32)), .val (.ref b212), .unset, .unset] [(.int (3 : Int32)), (.int bits), (.ref b212)])) (fun t kt => ?_) ?_
    · refine XS.iloadN X227.here hx rfl (hb hby at_52) rfl ?_
      show Steps p.tables e below (T227.setTop (mkF m 53 #[.val (.int cnt), .val (.int bits), .val (.int (7 : Int32)), .val (.ref b212), .unset, .unset] [(.int (7 : Int32))])) _
      refine XS.iconst X227.here hx rfl (hb hby at_53) ?_
      show Steps p.tables e below (T227.setTop (mkF m 54 #[.val (.int cnt), .val (.int bits), .val (.int (7 : Int32)), .val (.ref b212), .unset, .unset] [(.int (4 : Int32)), (.int (7 : Int32))])) _
      refine XS.icmpNo X227.here hx rfl (hb hby at_54) rfl (flt (by decide : ¬ ((7 : Int32) < (4 : Int32)))).1 ?_
      show Steps p.tables e below (T227.setTop (mkF m 57 #[.val (.int cnt), .val (.int bits), .val (.int (7 : Int32)), .val (.ref b212), .unset, .unset] [])) _
      refine XS.aloadN X227.here hx rfl (hb hby at_57) rfl rfl ?_
      show Steps p.tables e below (T227.setTop (mkF m 58 #[.val (.int cnt), .val (.int bits), .val (.int (7 : Int32)), .val (.ref b212), .unset, .unset] [(.ref b212)])) _
      refine XS.iloadN X227.here hx rfl (hb hby at_58) rfl ?_
      show Steps p.tables e below (T227.setTop (mkF m 59 #[.val (.int cnt), .val (.int bits), .val (.int (7 : Int32)), .val (.ref b212), .unset, .unset] [(.int bits), (.ref b212)])) _
      refine XS.iconst X227.here hx rfl (hb hby at_59) ?_
      exact kt
    obtain ⟨_, _, ⟨T232, L232, k232, n232⟩, -, X232, ⟨Lc232, hQ232, l232, y232, z232⟩, st232⟩ := Jvm.LawKit.callS X227 hx (y := (⟨"com/example/gallant_courier/gallantcourier/core/LossRateWaitsPerDoublingPinLaw", "bit", "(II)Z"⟩ : MethodName)) hown (mvT hZ (hw _ (List.mem_of_getElem? (i := 9) rfl))) (mvT hZ (hw _ (List.mem_of_getElem? (i := 10) rfl))) (mvT hZ (hw _ (List.mem_of_getElem? (i := 11) rfl))) (mvT hZ (hw _ (List.mem_of_getElem? (i := 12) rfl))) (by decide) (backOf (W := 1) (rm4 l Z aa hw [] bits (3 : Int32) T227.heap n0 O227) hZ (hw _ (List.mem_of_getElem? (i := 12) rfl)) (hw _ (List.mem_of_getElem? (i := 11) rfl)) (by decide) (by decide)) (g := (mkF m 60 #[.val (.int cnt), .val (.int bits), .val (.int (7 : Int32)), .val (.ref b212), .unset, .unset] [(.int (3 : Int32)), (.int bits), (.ref b212)])) rfl (by rw [hml]; rfl) (argsL := [(.int bits), (.int (3 : Int32))]) (rest := [(.ref b212)]) (lenOf pd_oIIcZ rfl) rfl (by show 2 * 0 + _ ≤ _; exact Nat.le_of_eq rfl) (hb hby at_60) (fun _ _ => ⟨rfl, rfl, (by decide : 1 + 0 ≤ _), (by decide : 2 + 0 ≤ _)⟩)
    dsimp only [Pt.U, Pt.locs, Pt.cells, Pt.slots] at X232 l232 y232 z232 st232 hQ232
    subst l232 y232 z232
    obtain ⟨rfl, rfl, e232⟩ := hQ232
    try rw [List.append_nil] at X232
    refine Gl.up (B := T232.setTop (mkF m 63 #[.val (.int cnt), .val (.int bits), .val (.int (7 : Int32)), .val (.ref b212), .unset, .unset] [(.int (f4 bits (3 : Int32))), (.ref b212)])) (fun t kt => st232 _ kt) ?_
    have hp234 : own_pres (f4 bits (3 : Int32)) u229 u230 := by rw [hsh231, hsa231]; exact own_pre3 _ (own_cons (f4_b bits (2 : Int32)) (own_cons (f4_b bits (1 : Int32)) (own_cons (f4_b bits (0 : Int32)) own_nil))) _ (own_b01 (f4_b bits (3 : Int32)))
    obtain ⟨cq233, kq233, q233a, q233b, q233c⟩ := isOf hZ e232 E_b212_227
    obtain ⟨_, _, ⟨T233, L233, k233, n233⟩, -, X233, ⟨Lc233, hQ233, l233, y233, z233⟩, st233⟩ := X232.virtualBack hx (y := (⟨"com/example/gallant_courier/gallantcourier/core/LossRate", "sample", "(Z)V"⟩ : MethodName)) (z := (⟨"com/example/gallant_courier/gallantcourier/core/LossRate", "sample", "(Z)V"⟩ : MethodName)) hown (mvT hZ (hw _ (List.mem_of_getElem? (i := 13) rfl))) (mvT hZ (hw _ (List.mem_of_getElem? (i := 14) rfl))) (notFace_of_selects (args := #[]) (mvT hZ (hw _ (List.mem_of_getElem? (i := 16) rfl)))) (mvT hZ (hw _ (List.mem_of_getElem? (i := 16) rfl))) (mvT hZ (hw _ (List.mem_of_getElem? (i := 15) rfl))) (by decide) (backOf (W := 0) (rm2 l Z aa hw [] b212 (f4 bits (3 : Int32)) u229 u230 T227.heap n0 O227 E_b212_227 F_b212_share_227 F_b212_samples_227 g_b212 hp234.1 hp234.2.1 hp234.2.2) hZ (hw _ (List.mem_of_getElem? (i := 17) rfl)) (hw _ (List.mem_of_getElem? (i := 2) rfl)) (by decide) (by decide)) q233a q233c (g := (mkF m 63 #[.val (.int cnt), .val (.int bits), .val (.int (7 : Int32)), .val (.ref b212), .unset, .unset] [(.int (f4 bits (3 : Int32))), (.ref b212)])) rfl (by rw [hml]; rfl) (Steps.refl _) (argsL := [(.int (f4 bits (3 : Int32)))]) (rest := []) (lenOf pd_oZcV rfl) rfl (by show 2 * 0 + _ ≤ _; exact Nat.le_of_eq rfl) (hb hby at_63) (fun _ _ => ⟨rfl, e232, (by decide : 1 + 0 ≤ _), (by decide : 2 + 0 ≤ _)⟩)
    dsimp only [Pt.U, Pt.locs, Pt.cells, Pt.slots] at X233 l233 y233 z233 st233 hQ233
    subst l233 y233 z233
    obtain ⟨rfl, M233, K233, F_b212_share_233, F_b212_samples_233⟩ := hQ233
    have N233 := Fr.app N227 M233
    have O233 := O227.keep K233 (allS g_b212 all0)
    have E_b212_233 := E_b212_227.keep K233
    obtain ⟨u235, hu235⟩ : ∃ q : UInt64, q = (f2_share (f4 bits (3 : Int32)) u229 u230) := ⟨_, rfl⟩
    rw [← hu235] at F_b212_share_233
    obtain ⟨u236, hu236⟩ : ∃ q : Int32, q = (f2_samples (f4 bits (3 : Int32)) u229 u230) := ⟨_, rfl⟩
    rw [← hu236] at F_b212_samples_233
    refine Gl.up (B := T233.setTop (mkF m 66 #[.val (.int cnt), .val (.int bits), .val (.int (7 : Int32)), .val (.ref b212), .unset, .unset] [])) (fun t kt => st233.trans kt) ?_
    have hsh237 : u235 = (own_st [(f4 bits (3 : Int32)), (f4 bits (2 : Int32)), (f4 bits (1 : Int32)), (f4 bits (0 : Int32))]).1 := by rw [hu235, hsh231, hsa231]; exact (own_st1 _ _).symm
    have hsa237 : u236 = (own_st [(f4 bits (3 : Int32)), (f4 bits (2 : Int32)), (f4 bits (1 : Int32)), (f4 bits (0 : Int32))]).2 := by rw [hu236, hsh231, hsa231]; exact (own_st2 _ _).symm
    refine Gl.up (B := T233.setTop (mkF m 74 #[.val (.int cnt), .val (.int bits), .val (.int (7 : Int32)), .val (.ref b212), .unset, .unset] [(.int (4 : Int32)), (.int bits), (.ref b212)])) (fun t kt => ?_) ?_
    · refine XS.iloadN X233.here hx rfl (hb hby at_66) rfl ?_
      show Steps p.tables e below (T233.setTop (mkF m 67 #[.val (.int cnt), .val (.int bits), .val (.int (7 : Int32)), .val (.ref b212), .unset, .unset] [(.int (7 : Int32))])) _
      refine XS.iconst X233.here hx rfl (hb hby at_67) ?_
      show Steps p.tables e below (T233.setTop (mkF m 68 #[.val (.int cnt), .val (.int bits), .val (.int (7 : Int32)), .val (.ref b212), .unset, .unset] [(.int (5 : Int32)), (.int (7 : Int32))])) _
      refine XS.icmpNo X233.here hx rfl (hb hby at_68) rfl (flt (by decide : ¬ ((7 : Int32) < (5 : Int32)))).1 ?_
      show Steps p.tables e below (T233.setTop (mkF m 71 #[.val (.int cnt), .val (.int bits), .val (.int (7 : Int32)), .val (.ref b212), .unset, .unset] [])) _
      refine XS.aloadN X233.here hx rfl (hb hby at_71) rfl rfl ?_
      show Steps p.tables e below (T233.setTop (mkF m 72 #[.val (.int cnt), .val (.int bits), .val (.int (7 : Int32)), .val (.ref b212), .unset, .unset] [(.ref b212)])) _
      refine XS.iloadN X233.here hx rfl (hb hby at_72) rfl ?_
      show Steps p.tables e below (T233.setTop (mkF m 73 #[.val (.int cnt), .val (.int bits), .val (.int (7 : Int32)), .val (.ref b212), .unset, .unset] [(.int bits), (.ref b212)])) _
      refine XS.iconst X233.here hx rfl (hb hby at_73) ?_
      exact kt
    obtain ⟨_, _, ⟨T238, L238, k238, n238⟩, -, X238, ⟨Lc238, hQ238, l238, y238, z238⟩, st238⟩ := Jvm.LawKit.callS X233 hx (y := (⟨"com/example/gallant_courier/gallantcourier/core/LossRateWaitsPerDoublingPinLaw", "bit", "(II)Z"⟩ : MethodName)) hown (mvT hZ (hw _ (List.mem_of_getElem? (i := 9) rfl))) (mvT hZ (hw _ (List.mem_of_getElem? (i := 10) rfl))) (mvT hZ (hw _ (List.mem_of_getElem? (i := 11) rfl))) (mvT hZ (hw _ (List.mem_of_getElem? (i := 12) rfl))) (by decide) (backOf (W := 1) (rm4 l Z aa hw [] bits (4 : Int32) T233.heap n0 O233) hZ (hw _ (List.mem_of_getElem? (i := 12) rfl)) (hw _ (List.mem_of_getElem? (i := 11) rfl)) (by decide) (by decide)) (g := (mkF m 74 #[.val (.int cnt), .val (.int bits), .val (.int (7 : Int32)), .val (.ref b212), .unset, .unset] [(.int (4 : Int32)), (.int bits), (.ref b212)])) rfl (by rw [hml]; rfl) (argsL := [(.int bits), (.int (4 : Int32))]) (rest := [(.ref b212)]) (lenOf pd_oIIcZ rfl) rfl (by show 2 * 0 + _ ≤ _; exact Nat.le_of_eq rfl) (hb hby at_74) (fun _ _ => ⟨rfl, rfl, (by decide : 1 + 0 ≤ _), (by decide : 2 + 0 ≤ _)⟩)
    dsimp only [Pt.U, Pt.locs, Pt.cells, Pt.slots] at X238 l238 y238 z238 st238 hQ238
    subst l238 y238 z238
    obtain ⟨rfl, rfl, e238⟩ := hQ238
    try rw [List.append_nil] at X238
    refine Gl.up (B := T238.setTop (mkF m 77 #[.val (.int cnt), .val (.int bits), .val (.int (7 : Int32)), .val (.ref b212), .unset, .unset] [(.int (f4 bits (4 : Int32))), (.ref b212)])) (fun t kt => st238 _ kt) ?_
    have hp240 : own_pres (f4 bits (4 : Int32)) u235 u236 := by rw [hsh237, hsa237]; exact own_pre4 _ (own_cons (f4_b bits (3 : Int32)) (own_cons (f4_b bits (2 : Int32)) (own_cons (f4_b bits (1 : Int32)) (own_cons (f4_b bits (0 : Int32)) own_nil)))) _ (own_b01 (f4_b bits (4 : Int32)))
    obtain ⟨cq239, kq239, q239a, q239b, q239c⟩ := isOf hZ e238 E_b212_233
    obtain ⟨_, _, ⟨T239, L239, k239, n239⟩, -, X239, ⟨Lc239, hQ239, l239, y239, z239⟩, st239⟩ := X238.virtualBack hx (y := (⟨"com/example/gallant_courier/gallantcourier/core/LossRate", "sample", "(Z)V"⟩ : MethodName)) (z := (⟨"com/example/gallant_courier/gallantcourier/core/LossRate", "sample", "(Z)V"⟩ : MethodName)) hown (mvT hZ (hw _ (List.mem_of_getElem? (i := 13) rfl))) (mvT hZ (hw _ (List.mem_of_getElem? (i := 14) rfl))) (notFace_of_selects (args := #[]) (mvT hZ (hw _ (List.mem_of_getElem? (i := 16) rfl)))) (mvT hZ (hw _ (List.mem_of_getElem? (i := 16) rfl))) (mvT hZ (hw _ (List.mem_of_getElem? (i := 15) rfl))) (by decide) (backOf (W := 0) (rm2 l Z aa hw [] b212 (f4 bits (4 : Int32)) u235 u236 T233.heap n0 O233 E_b212_233 F_b212_share_233 F_b212_samples_233 g_b212 hp240.1 hp240.2.1 hp240.2.2) hZ (hw _ (List.mem_of_getElem? (i := 17) rfl)) (hw _ (List.mem_of_getElem? (i := 2) rfl)) (by decide) (by decide)) q239a q239c (g := (mkF m 77 #[.val (.int cnt), .val (.int bits), .val (.int (7 : Int32)), .val (.ref b212), .unset, .unset] [(.int (f4 bits (4 : Int32))), (.ref b212)])) rfl (by rw [hml]; rfl) (Steps.refl _) (argsL := [(.int (f4 bits (4 : Int32)))]) (rest := []) (lenOf pd_oZcV rfl) rfl (by show 2 * 0 + _ ≤ _; exact Nat.le_of_eq rfl) (hb hby at_77) (fun _ _ => ⟨rfl, e238, (by decide : 1 + 0 ≤ _), (by decide : 2 + 0 ≤ _)⟩)
    dsimp only [Pt.U, Pt.locs, Pt.cells, Pt.slots] at X239 l239 y239 z239 st239 hQ239
    subst l239 y239 z239
    obtain ⟨rfl, M239, K239, F_b212_share_239, F_b212_samples_239⟩ := hQ239
    have N239 := Fr.app N233 M239
    have O239 := O233.keep K239 (allS g_b212 all0)
    have E_b212_239 := E_b212_233.keep K239
    obtain ⟨u241, hu241⟩ : ∃ q : UInt64, q = (f2_share (f4 bits (4 : Int32)) u235 u236) := ⟨_, rfl⟩
    rw [← hu241] at F_b212_share_239
    obtain ⟨u242, hu242⟩ : ∃ q : Int32, q = (f2_samples (f4 bits (4 : Int32)) u235 u236) := ⟨_, rfl⟩
    rw [← hu242] at F_b212_samples_239
    refine Gl.up (B := T239.setTop (mkF m 80 #[.val (.int cnt), .val (.int bits), .val (.int (7 : Int32)), .val (.ref b212), .unset, .unset] [])) (fun t kt => st239.trans kt) ?_
    have hsh243 : u241 = (own_st [(f4 bits (4 : Int32)), (f4 bits (3 : Int32)), (f4 bits (2 : Int32)), (f4 bits (1 : Int32)), (f4 bits (0 : Int32))]).1 := by rw [hu241, hsh237, hsa237]; exact (own_st1 _ _).symm
    have hsa243 : u242 = (own_st [(f4 bits (4 : Int32)), (f4 bits (3 : Int32)), (f4 bits (2 : Int32)), (f4 bits (1 : Int32)), (f4 bits (0 : Int32))]).2 := by rw [hu242, hsh237, hsa237]; exact (own_st2 _ _).symm
    refine Gl.up (B := T239.setTop (mkF m 89 #[.val (.int cnt), .val (.int bits), .val (.int (7 : Int32)), .val (.ref b212), .unset, .unset] [(.int (5 : Int32)), (.int bits), (.ref b212)])) (fun t kt => ?_) ?_
    · refine XS.iloadN X239.here hx rfl (hb hby at_80) rfl ?_
      show Steps p.tables e below (T239.setTop (mkF m 81 #[.val (.int cnt), .val (.int bits), .val (.int (7 : Int32)), .val (.ref b212), .unset, .unset] [(.int (7 : Int32))])) _
      refine XS.bipush X239.here hx rfl (hb hby at_81) ?_
      show Steps p.tables e below (T239.setTop (mkF m 83 #[.val (.int cnt), .val (.int bits), .val (.int (7 : Int32)), .val (.ref b212), .unset, .unset] [(.int (6 : Int32)), (.int (7 : Int32))])) _
      refine XS.icmpNo X239.here hx rfl (hb hby at_83) rfl (flt (by decide : ¬ ((7 : Int32) < (6 : Int32)))).1 ?_
      show Steps p.tables e below (T239.setTop (mkF m 86 #[.val (.int cnt), .val (.int bits), .val (.int (7 : Int32)), .val (.ref b212), .unset, .unset] [])) _
      refine XS.aloadN X239.here hx rfl (hb hby at_86) rfl rfl ?_
      show Steps p.tables e below (T239.setTop (mkF m 87 #[.val (.int cnt), .val (.int bits), .val (.int (7 : Int32)), .val (.ref b212), .unset, .unset] [(.ref b212)])) _
      refine XS.iloadN X239.here hx rfl (hb hby at_87) rfl ?_
      show Steps p.tables e below (T239.setTop (mkF m 88 #[.val (.int cnt), .val (.int bits), .val (.int (7 : Int32)), .val (.ref b212), .unset, .unset] [(.int bits), (.ref b212)])) _
      refine XS.iconst X239.here hx rfl (hb hby at_88) ?_
      exact kt
    obtain ⟨_, _, ⟨T244, L244, k244, n244⟩, -, X244, ⟨Lc244, hQ244, l244, y244, z244⟩, st244⟩ := Jvm.LawKit.callS X239 hx (y := (⟨"com/example/gallant_courier/gallantcourier/core/LossRateWaitsPerDoublingPinLaw", "bit", "(II)Z"⟩ : MethodName)) hown (mvT hZ (hw _ (List.mem_of_getElem? (i := 9) rfl))) (mvT hZ (hw _ (List.mem_of_getElem? (i := 10) rfl))) (mvT hZ (hw _ (List.mem_of_getElem? (i := 11) rfl))) (mvT hZ (hw _ (List.mem_of_getElem? (i := 12) rfl))) (by decide) (backOf (W := 1) (rm4 l Z aa hw [] bits (5 : Int32) T239.heap n0 O239) hZ (hw _ (List.mem_of_getElem? (i := 12) rfl)) (hw _ (List.mem_of_getElem? (i := 11) rfl)) (by decide) (by decide)) (g := (mkF m 89 #[.val (.int cnt), .val (.int bits), .val (.int (7 : Int32)), .val (.ref b212), .unset, .unset] [(.int (5 : Int32)), (.int bits), (.ref b212)])) rfl (by rw [hml]; rfl) (argsL := [(.int bits), (.int (5 : Int32))]) (rest := [(.ref b212)]) (lenOf pd_oIIcZ rfl) rfl (by show 2 * 0 + _ ≤ _; exact Nat.le_of_eq rfl) (hb hby at_89) (fun _ _ => ⟨rfl, rfl, (by decide : 1 + 0 ≤ _), (by decide : 2 + 0 ≤ _)⟩)
    dsimp only [Pt.U, Pt.locs, Pt.cells, Pt.slots] at X244 l244 y244 z244 st244 hQ244
    subst l244 y244 z244
    obtain ⟨rfl, rfl, e244⟩ := hQ244
    try rw [List.append_nil] at X244
    refine Gl.up (B := T244.setTop (mkF m 92 #[.val (.int cnt), .val (.int bits), .val (.int (7 : Int32)), .val (.ref b212), .unset, .unset] [(.int (f4 bits (5 : Int32))), (.ref b212)])) (fun t kt => st244 _ kt) ?_
    have hp246 : own_pres (f4 bits (5 : Int32)) u241 u242 := by rw [hsh243, hsa243]; exact own_pre5 _ (own_cons (f4_b bits (4 : Int32)) (own_cons (f4_b bits (3 : Int32)) (own_cons (f4_b bits (2 : Int32)) (own_cons (f4_b bits (1 : Int32)) (own_cons (f4_b bits (0 : Int32)) own_nil))))) _ (own_b01 (f4_b bits (5 : Int32)))
    obtain ⟨cq245, kq245, q245a, q245b, q245c⟩ := isOf hZ e244 E_b212_239
    obtain ⟨_, _, ⟨T245, L245, k245, n245⟩, -, X245, ⟨Lc245, hQ245, l245, y245, z245⟩, st245⟩ := X244.virtualBack hx (y := (⟨"com/example/gallant_courier/gallantcourier/core/LossRate", "sample", "(Z)V"⟩ : MethodName)) (z := (⟨"com/example/gallant_courier/gallantcourier/core/LossRate", "sample", "(Z)V"⟩ : MethodName)) hown (mvT hZ (hw _ (List.mem_of_getElem? (i := 13) rfl))) (mvT hZ (hw _ (List.mem_of_getElem? (i := 14) rfl))) (notFace_of_selects (args := #[]) (mvT hZ (hw _ (List.mem_of_getElem? (i := 16) rfl)))) (mvT hZ (hw _ (List.mem_of_getElem? (i := 16) rfl))) (mvT hZ (hw _ (List.mem_of_getElem? (i := 15) rfl))) (by decide) (backOf (W := 0) (rm2 l Z aa hw [] b212 (f4 bits (5 : Int32)) u241 u242 T239.heap n0 O239 E_b212_239 F_b212_share_239 F_b212_samples_239 g_b212 hp246.1 hp246.2.1 hp246.2.2) hZ (hw _ (List.mem_of_getElem? (i := 17) rfl)) (hw _ (List.mem_of_getElem? (i := 2) rfl)) (by decide) (by decide)) q245a q245c (g := (mkF m 92 #[.val (.int cnt), .val (.int bits), .val (.int (7 : Int32)), .val (.ref b212), .unset, .unset] [(.int (f4 bits (5 : Int32))), (.ref b212)])) rfl (by rw [hml]; rfl) (Steps.refl _) (argsL := [(.int (f4 bits (5 : Int32)))]) (rest := []) (lenOf pd_oZcV rfl) rfl (by show 2 * 0 + _ ≤ _; exact Nat.le_of_eq rfl) (hb hby at_92) (fun _ _ => ⟨rfl, e244, (by decide : 1 + 0 ≤ _), (by decide : 2 + 0 ≤ _)⟩)
    dsimp only [Pt.U, Pt.locs, Pt.cells, Pt.slots] at X245 l245 y245 z245 st245 hQ245
    subst l245 y245 z245
    obtain ⟨rfl, M245, K245, F_b212_share_245, F_b212_samples_245⟩ := hQ245
    have N245 := Fr.app N239 M245
    have O245 := O239.keep K245 (allS g_b212 all0)
    have E_b212_245 := E_b212_239.keep K245
    obtain ⟨u247, hu247⟩ : ∃ q : UInt64, q = (f2_share (f4 bits (5 : Int32)) u241 u242) := ⟨_, rfl⟩
    rw [← hu247] at F_b212_share_245
    obtain ⟨u248, hu248⟩ : ∃ q : Int32, q = (f2_samples (f4 bits (5 : Int32)) u241 u242) := ⟨_, rfl⟩
    rw [← hu248] at F_b212_samples_245
    refine Gl.up (B := T245.setTop (mkF m 95 #[.val (.int cnt), .val (.int bits), .val (.int (7 : Int32)), .val (.ref b212), .unset, .unset] [])) (fun t kt => st245.trans kt) ?_
    have hsh249 : u247 = (own_st [(f4 bits (5 : Int32)), (f4 bits (4 : Int32)), (f4 bits (3 : Int32)), (f4 bits (2 : Int32)), (f4 bits (1 : Int32)), (f4 bits (0 : Int32))]).1 := by rw [hu247, hsh243, hsa243]; exact (own_st1 _ _).symm
    have hsa249 : u248 = (own_st [(f4 bits (5 : Int32)), (f4 bits (4 : Int32)), (f4 bits (3 : Int32)), (f4 bits (2 : Int32)), (f4 bits (1 : Int32)), (f4 bits (0 : Int32))]).2 := by rw [hu248, hsh243, hsa243]; exact (own_st2 _ _).symm
    refine Gl.up (B := T245.setTop (mkF m 105 #[.val (.int cnt), .val (.int bits), .val (.int (7 : Int32)), .val (.ref b212), .unset, .unset] [(.int (6 : Int32)), (.int bits), (.ref b212)])) (fun t kt => ?_) ?_
    · refine XS.iloadN X245.here hx rfl (hb hby at_95) rfl ?_
      show Steps p.tables e below (T245.setTop (mkF m 96 #[.val (.int cnt), .val (.int bits), .val (.int (7 : Int32)), .val (.ref b212), .unset, .unset] [(.int (7 : Int32))])) _
      refine XS.bipush X245.here hx rfl (hb hby at_96) ?_
      show Steps p.tables e below (T245.setTop (mkF m 98 #[.val (.int cnt), .val (.int bits), .val (.int (7 : Int32)), .val (.ref b212), .unset, .unset] [(.int (7 : Int32)), (.int (7 : Int32))])) _
      refine XS.icmpNo X245.here hx rfl (hb hby at_98) rfl (flt (by decide : ¬ ((7 : Int32) < (7 : Int32)))).1 ?_
      show Steps p.tables e below (T245.setTop (mkF m 101 #[.val (.int cnt), .val (.int bits), .val (.int (7 : Int32)), .val (.ref b212), .unset, .unset] [])) _
      refine XS.aloadN X245.here hx rfl (hb hby at_101) rfl rfl ?_
      show Steps p.tables e below (T245.setTop (mkF m 102 #[.val (.int cnt), .val (.int bits), .val (.int (7 : Int32)), .val (.ref b212), .unset, .unset] [(.ref b212)])) _
      refine XS.iloadN X245.here hx rfl (hb hby at_102) rfl ?_
      show Steps p.tables e below (T245.setTop (mkF m 103 #[.val (.int cnt), .val (.int bits), .val (.int (7 : Int32)), .val (.ref b212), .unset, .unset] [(.int bits), (.ref b212)])) _
      refine XS.bipush X245.here hx rfl (hb hby at_103) ?_
      exact kt
    obtain ⟨_, _, ⟨T250, L250, k250, n250⟩, -, X250, ⟨Lc250, hQ250, l250, y250, z250⟩, st250⟩ := Jvm.LawKit.callS X245 hx (y := (⟨"com/example/gallant_courier/gallantcourier/core/LossRateWaitsPerDoublingPinLaw", "bit", "(II)Z"⟩ : MethodName)) hown (mvT hZ (hw _ (List.mem_of_getElem? (i := 9) rfl))) (mvT hZ (hw _ (List.mem_of_getElem? (i := 10) rfl))) (mvT hZ (hw _ (List.mem_of_getElem? (i := 11) rfl))) (mvT hZ (hw _ (List.mem_of_getElem? (i := 12) rfl))) (by decide) (backOf (W := 1) (rm4 l Z aa hw [] bits (6 : Int32) T245.heap n0 O245) hZ (hw _ (List.mem_of_getElem? (i := 12) rfl)) (hw _ (List.mem_of_getElem? (i := 11) rfl)) (by decide) (by decide)) (g := (mkF m 105 #[.val (.int cnt), .val (.int bits), .val (.int (7 : Int32)), .val (.ref b212), .unset, .unset] [(.int (6 : Int32)), (.int bits), (.ref b212)])) rfl (by rw [hml]; rfl) (argsL := [(.int bits), (.int (6 : Int32))]) (rest := [(.ref b212)]) (lenOf pd_oIIcZ rfl) rfl (by show 2 * 0 + _ ≤ _; exact Nat.le_of_eq rfl) (hb hby at_105) (fun _ _ => ⟨rfl, rfl, (by decide : 1 + 0 ≤ _), (by decide : 2 + 0 ≤ _)⟩)
    dsimp only [Pt.U, Pt.locs, Pt.cells, Pt.slots] at X250 l250 y250 z250 st250 hQ250
    subst l250 y250 z250
    obtain ⟨rfl, rfl, e250⟩ := hQ250
    try rw [List.append_nil] at X250
    refine Gl.up (B := T250.setTop (mkF m 108 #[.val (.int cnt), .val (.int bits), .val (.int (7 : Int32)), .val (.ref b212), .unset, .unset] [(.int (f4 bits (6 : Int32))), (.ref b212)])) (fun t kt => st250 _ kt) ?_
    have hp252 : own_pres (f4 bits (6 : Int32)) u247 u248 := by rw [hsh249, hsa249]; exact own_pre6 _ (own_cons (f4_b bits (5 : Int32)) (own_cons (f4_b bits (4 : Int32)) (own_cons (f4_b bits (3 : Int32)) (own_cons (f4_b bits (2 : Int32)) (own_cons (f4_b bits (1 : Int32)) (own_cons (f4_b bits (0 : Int32)) own_nil)))))) _ (own_b01 (f4_b bits (6 : Int32)))
    obtain ⟨cq251, kq251, q251a, q251b, q251c⟩ := isOf hZ e250 E_b212_245
    obtain ⟨_, _, ⟨T251, L251, k251, n251⟩, -, X251, ⟨Lc251, hQ251, l251, y251, z251⟩, st251⟩ := X250.virtualBack hx (y := (⟨"com/example/gallant_courier/gallantcourier/core/LossRate", "sample", "(Z)V"⟩ : MethodName)) (z := (⟨"com/example/gallant_courier/gallantcourier/core/LossRate", "sample", "(Z)V"⟩ : MethodName)) hown (mvT hZ (hw _ (List.mem_of_getElem? (i := 13) rfl))) (mvT hZ (hw _ (List.mem_of_getElem? (i := 14) rfl))) (notFace_of_selects (args := #[]) (mvT hZ (hw _ (List.mem_of_getElem? (i := 16) rfl)))) (mvT hZ (hw _ (List.mem_of_getElem? (i := 16) rfl))) (mvT hZ (hw _ (List.mem_of_getElem? (i := 15) rfl))) (by decide) (backOf (W := 0) (rm2 l Z aa hw [] b212 (f4 bits (6 : Int32)) u247 u248 T245.heap n0 O245 E_b212_245 F_b212_share_245 F_b212_samples_245 g_b212 hp252.1 hp252.2.1 hp252.2.2) hZ (hw _ (List.mem_of_getElem? (i := 17) rfl)) (hw _ (List.mem_of_getElem? (i := 2) rfl)) (by decide) (by decide)) q251a q251c (g := (mkF m 108 #[.val (.int cnt), .val (.int bits), .val (.int (7 : Int32)), .val (.ref b212), .unset, .unset] [(.int (f4 bits (6 : Int32))), (.ref b212)])) rfl (by rw [hml]; rfl) (Steps.refl _) (argsL := [(.int (f4 bits (6 : Int32)))]) (rest := []) (lenOf pd_oZcV rfl) rfl (by show 2 * 0 + _ ≤ _; exact Nat.le_of_eq rfl) (hb hby at_108) (fun _ _ => ⟨rfl, e250, (by decide : 1 + 0 ≤ _), (by decide : 2 + 0 ≤ _)⟩)
    dsimp only [Pt.U, Pt.locs, Pt.cells, Pt.slots] at X251 l251 y251 z251 st251 hQ251
    subst l251 y251 z251
    obtain ⟨rfl, M251, K251, F_b212_share_251, F_b212_samples_251⟩ := hQ251
    have N251 := Fr.app N245 M251
    have O251 := O245.keep K251 (allS g_b212 all0)
    have E_b212_251 := E_b212_245.keep K251
    obtain ⟨u253, hu253⟩ : ∃ q : UInt64, q = (f2_share (f4 bits (6 : Int32)) u247 u248) := ⟨_, rfl⟩
    rw [← hu253] at F_b212_share_251
    obtain ⟨u254, hu254⟩ : ∃ q : Int32, q = (f2_samples (f4 bits (6 : Int32)) u247 u248) := ⟨_, rfl⟩
    rw [← hu254] at F_b212_samples_251
    refine Gl.up (B := T251.setTop (mkF m 111 #[.val (.int cnt), .val (.int bits), .val (.int (7 : Int32)), .val (.ref b212), .unset, .unset] [])) (fun t kt => st251.trans kt) ?_
    have hsh255 : u253 = (own_st [(f4 bits (6 : Int32)), (f4 bits (5 : Int32)), (f4 bits (4 : Int32)), (f4 bits (3 : Int32)), (f4 bits (2 : Int32)), (f4 bits (1 : Int32)), (f4 bits (0 : Int32))]).1 := by rw [hu253, hsh249, hsa249]; exact (own_st1 _ _).symm
    have hsa255 : u254 = (own_st [(f4 bits (6 : Int32)), (f4 bits (5 : Int32)), (f4 bits (4 : Int32)), (f4 bits (3 : Int32)), (f4 bits (2 : Int32)), (f4 bits (1 : Int32)), (f4 bits (0 : Int32))]).2 := by rw [hu254, hsh249, hsa249]; exact (own_st2 _ _).symm
    refine Gl.up (B := T251.setTop (mkF m 128 #[.val (.int cnt), .val (.int bits), .val (.int (7 : Int32)), .val (.ref b212), .unset, .unset] [(.ref b212)])) (fun t kt => ?_) ?_
    · refine XS.iloadN X251.here hx rfl (hb hby at_111) rfl ?_
      show Steps p.tables e below (T251.setTop (mkF m 112 #[.val (.int cnt), .val (.int bits), .val (.int (7 : Int32)), .val (.ref b212), .unset, .unset] [(.int (7 : Int32))])) _
      refine XS.bipush X251.here hx rfl (hb hby at_112) ?_
      show Steps p.tables e below (T251.setTop (mkF m 114 #[.val (.int cnt), .val (.int bits), .val (.int (7 : Int32)), .val (.ref b212), .unset, .unset] [(.int (8 : Int32)), (.int (7 : Int32))])) _
      refine XS.icmpYes X251.here hx rfl (pc0 := 114) (pc' := 127) rfl (hb hby at_114) rfl (tlt (by decide : (7 : Int32) < (8 : Int32))).1 (by decide) (by decide) ?_
      show Steps p.tables e below (T251.setTop (mkF m 127 #[.val (.int cnt), .val (.int bits), .val (.int (7 : Int32)), .val (.ref b212), .unset, .unset] [])) _
      refine XS.aloadN X251.here hx rfl (hb hby at_127) rfl rfl ?_
      exact kt
    have hw7 : own_prew u253 := by rw [hsh255]; exact own_w7 _ (own_cons (f4_b bits (6 : Int32)) (own_cons (f4_b bits (5 : Int32)) (own_cons (f4_b bits (4 : Int32)) (own_cons (f4_b bits (3 : Int32)) (own_cons (f4_b bits (2 : Int32)) (own_cons (f4_b bits (1 : Int32)) (own_cons (f4_b bits (0 : Int32)) own_nil)))))))
    obtain ⟨cq256, kq256, q256a, q256b, q256c⟩ := isOf hZ rfl E_b212_251
    obtain ⟨_, _, ⟨T256, L256, k256, n256⟩, -, X256, ⟨Lc256, hQ256, l256, y256, z256⟩, st256⟩ := X251.virtualBack hx (y := (⟨"com/example/gallant_courier/gallantcourier/core/LossRate", "waitsPerDoubling", "()I"⟩ : MethodName)) (z := (⟨"com/example/gallant_courier/gallantcourier/core/LossRate", "waitsPerDoubling", "()I"⟩ : MethodName)) hown (mvT hZ (hw _ (List.mem_of_getElem? (i := 22) rfl))) (mvT hZ (hw _ (List.mem_of_getElem? (i := 23) rfl))) (notFace_of_selects (args := #[]) (mvT hZ (hw _ (List.mem_of_getElem? (i := 25) rfl)))) (mvT hZ (hw _ (List.mem_of_getElem? (i := 25) rfl))) (mvT hZ (hw _ (List.mem_of_getElem? (i := 24) rfl))) (by decide) (backOf (W := 0) (rm3 l Z aa hw [] b212 u253 u254 T251.heap n0 O251 E_b212_251 F_b212_share_251 F_b212_samples_251 hw7.1 hw7.2.1 hw7.2.2.1 hw7.2.2.2.1 hw7.2.2.2.2.1 hw7.2.2.2.2.2.1 hw7.2.2.2.2.2.2.1 hw7.2.2.2.2.2.2.2.1 hw7.2.2.2.2.2.2.2.2.1 hw7.2.2.2.2.2.2.2.2.2) hZ (hw _ (List.mem_of_getElem? (i := 26) rfl)) (hw _ (List.mem_of_getElem? (i := 2) rfl)) (by decide) (by decide)) q256a q256c (g := (mkF m 128 #[.val (.int cnt), .val (.int bits), .val (.int (7 : Int32)), .val (.ref b212), .unset, .unset] [(.ref b212)])) rfl (by rw [hml]; rfl) (Steps.refl _) (argsL := []) (rest := []) (lenOf pd_ocI rfl) rfl (by show 2 * 0 + _ ≤ _; exact Nat.le_of_eq rfl) (hb hby at_128) (fun _ _ => ⟨rfl, rfl, (by decide : 1 + 0 ≤ _), (by decide : 2 + 0 ≤ _)⟩)
    dsimp only [Pt.U, Pt.locs, Pt.cells, Pt.slots] at X256 l256 y256 z256 st256 hQ256
    subst l256 y256 z256
    obtain ⟨rfl, rfl, e256⟩ := hQ256
    try rw [List.append_nil] at X256
    refine Gl.up (B := T256.setTop (mkF m 131 #[.val (.int cnt), .val (.int bits), .val (.int (7 : Int32)), .val (.ref b212), .unset, .unset] [(.int (f3 u253 u254))])) (fun t kt => st256.trans kt) ?_
    refine Gl.up (B := T256.setTop (mkF m 136 #[.val (.int cnt), .val (.int bits), .val (.int (7 : Int32)), .val (.ref b212), .val (.int (f3 u253 u254)), .unset] [(.int (7 : Int32)), (.int (0 : Int32)), (.int bits)])) (fun t kt => ?_) ?_
    · refine XS.istore X256.here hx rfl (hb hby at_131) rfl (l' := #[.val (.int cnt), .val (.int bits), .val (.int (7 : Int32)), .val (.ref b212), .val (.int (f3 u253 u254)), .unset]) rfl ?_
      show Steps p.tables e below (T256.setTop (mkF m 133 #[.val (.int cnt), .val (.int bits), .val (.int (7 : Int32)), .val (.ref b212), .val (.int (f3 u253 u254)), .unset] [])) _
      refine XS.iloadN X256.here hx rfl (hb hby at_133) rfl ?_
      show Steps p.tables e below (T256.setTop (mkF m 134 #[.val (.int cnt), .val (.int bits), .val (.int (7 : Int32)), .val (.ref b212), .val (.int (f3 u253 u254)), .unset] [(.int bits)])) _
      refine XS.iconst X256.here hx rfl (hb hby at_134) ?_
      show Steps p.tables e below (T256.setTop (mkF m 135 #[.val (.int cnt), .val (.int bits), .val (.int (7 : Int32)), .val (.ref b212), .val (.int (f3 u253 u254)), .unset] [(.int (0 : Int32)), (.int bits)])) _
      refine XS.iloadN X256.here hx rfl (hb hby at_135) rfl ?_
      exact kt
    obtain ⟨_, _, ⟨T257, L257, k257, n257⟩, -, X257, ⟨Lc257, hQ257, l257, y257, z257⟩, st257⟩ := Jvm.LawKit.callS X256 hx (y := (⟨"com/example/gallant_courier/gallantcourier/core/LossRateWaitsPerDoublingPinLaw", "one", "(III)I"⟩ : MethodName)) hown (mvT hZ (hw _ (List.mem_of_getElem? (i := 28) rfl))) (mvT hZ (hw _ (List.mem_of_getElem? (i := 29) rfl))) (mvT hZ (hw _ (List.mem_of_getElem? (i := 11) rfl))) (mvT hZ (hw _ (List.mem_of_getElem? (i := 30) rfl))) (by decide) (backOf (W := 0) (rm5 l Z aa hw [] bits (0 : Int32) (7 : Int32) T251.heap n0 O251) hZ (hw _ (List.mem_of_getElem? (i := 30) rfl)) (hw _ (List.mem_of_getElem? (i := 11) rfl)) (by decide) (by decide)) (g := (mkF m 136 #[.val (.int cnt), .val (.int bits), .val (.int (7 : Int32)), .val (.ref b212), .val (.int (f3 u253 u254)), .unset] [(.int (7 : Int32)), (.int (0 : Int32)), (.int bits)])) rfl (by rw [hml]; rfl) (argsL := [(.int bits), (.int (0 : Int32)), (.int (7 : Int32))]) (rest := []) (lenOf pd_oIIIcI rfl) rfl (by show 2 * 0 + _ ≤ _; exact Nat.le_of_eq rfl) (hb hby at_136) (fun _ _ => ⟨rfl, e256, (by decide : 1 + 0 ≤ _), (by decide : 2 + 0 ≤ _)⟩)
    dsimp only [Pt.U, Pt.locs, Pt.cells, Pt.slots] at X257 l257 y257 z257 st257 hQ257
    subst l257 y257 z257
    obtain ⟨rfl, rfl, e257⟩ := hQ257
    try rw [List.append_nil] at X257
    refine Gl.up (B := T257.setTop (mkF m 139 #[.val (.int cnt), .val (.int bits), .val (.int (7 : Int32)), .val (.ref b212), .val (.int (f3 u253 u254)), .unset] [(.int (f5 bits (0 : Int32) (7 : Int32)))])) (fun t kt => st257 _ kt) ?_
    refine Gl.up (B := T257.setTop (mkF m 142 #[.val (.int cnt), .val (.int bits), .val (.int (7 : Int32)), .val (.ref b212), .val (.int (f3 u253 u254)), .unset] [(.int (7 : Int32)), (.int (1 : Int32)), (.int bits), (.int (f5 bits (0 : Int32) (7 : Int32)))])) (fun t kt => ?_) ?_
    · refine XS.iloadN X257.here hx rfl (hb hby at_139) rfl ?_
      show Steps p.tables e below (T257.setTop (mkF m 140 #[.val (.int cnt), .val (.int bits), .val (.int (7 : Int32)), .val (.ref b212), .val (.int (f3 u253 u254)), .unset] [(.int bits), (.int (f5 bits (0 : Int32) (7 : Int32)))])) _
      refine XS.iconst X257.here hx rfl (hb hby at_140) ?_
      show Steps p.tables e below (T257.setTop (mkF m 141 #[.val (.int cnt), .val (.int bits), .val (.int (7 : Int32)), .val (.ref b212), .val (.int (f3 u253 u254)), .unset] [(.int (1 : Int32)), (.int bits), (.int (f5 bits (0 : Int32) (7 : Int32)))])) _
      refine XS.iloadN X257.here hx rfl (hb hby at_141) rfl ?_
      exact kt
    obtain ⟨_, _, ⟨T258, L258, k258, n258⟩, -, X258, ⟨Lc258, hQ258, l258, y258, z258⟩, st258⟩ := Jvm.LawKit.callS X257 hx (y := (⟨"com/example/gallant_courier/gallantcourier/core/LossRateWaitsPerDoublingPinLaw", "one", "(III)I"⟩ : MethodName)) hown (mvT hZ (hw _ (List.mem_of_getElem? (i := 28) rfl))) (mvT hZ (hw _ (List.mem_of_getElem? (i := 29) rfl))) (mvT hZ (hw _ (List.mem_of_getElem? (i := 11) rfl))) (mvT hZ (hw _ (List.mem_of_getElem? (i := 30) rfl))) (by decide) (backOf (W := 1) (rm5 l Z aa hw [] bits (1 : Int32) (7 : Int32) T251.heap n0 O251) hZ (hw _ (List.mem_of_getElem? (i := 30) rfl)) (hw _ (List.mem_of_getElem? (i := 11) rfl)) (by decide) (by decide)) (g := (mkF m 142 #[.val (.int cnt), .val (.int bits), .val (.int (7 : Int32)), .val (.ref b212), .val (.int (f3 u253 u254)), .unset] [(.int (7 : Int32)), (.int (1 : Int32)), (.int bits), (.int (f5 bits (0 : Int32) (7 : Int32)))])) rfl (by rw [hml]; rfl) (argsL := [(.int bits), (.int (1 : Int32)), (.int (7 : Int32))]) (rest := [(.int (f5 bits (0 : Int32) (7 : Int32)))]) (lenOf pd_oIIIcI rfl) rfl (by show 2 * 0 + _ ≤ _; exact Nat.le_of_eq rfl) (hb hby at_142) (fun _ _ => ⟨rfl, e257, (by decide : 1 + 0 ≤ _), (by decide : 2 + 0 ≤ _)⟩)
    dsimp only [Pt.U, Pt.locs, Pt.cells, Pt.slots] at X258 l258 y258 z258 st258 hQ258
    subst l258 y258 z258
    obtain ⟨rfl, rfl, e258⟩ := hQ258
    try rw [List.append_nil] at X258
    refine Gl.up (B := T258.setTop (mkF m 145 #[.val (.int cnt), .val (.int bits), .val (.int (7 : Int32)), .val (.ref b212), .val (.int (f3 u253 u254)), .unset] [(.int (f5 bits (1 : Int32) (7 : Int32))), (.int (f5 bits (0 : Int32) (7 : Int32)))])) (fun t kt => st258 _ kt) ?_
    refine Gl.up (B := T258.setTop (mkF m 149 #[.val (.int cnt), .val (.int bits), .val (.int (7 : Int32)), .val (.ref b212), .val (.int (f3 u253 u254)), .unset] [(.int (7 : Int32)), (.int (2 : Int32)), (.int bits), (.int ((f5 bits (0 : Int32) (7 : Int32)) + (f5 bits (1 : Int32) (7 : Int32))))])) (fun t kt => ?_) ?_
    · refine XS.iadd X258.here hx rfl (hb hby at_145) rfl ?_
      show Steps p.tables e below (T258.setTop (mkF m 146 #[.val (.int cnt), .val (.int bits), .val (.int (7 : Int32)), .val (.ref b212), .val (.int (f3 u253 u254)), .unset] [(.int ((f5 bits (0 : Int32) (7 : Int32)) + (f5 bits (1 : Int32) (7 : Int32))))])) _
      refine XS.iloadN X258.here hx rfl (hb hby at_146) rfl ?_
      show Steps p.tables e below (T258.setTop (mkF m 147 #[.val (.int cnt), .val (.int bits), .val (.int (7 : Int32)), .val (.ref b212), .val (.int (f3 u253 u254)), .unset] [(.int bits), (.int ((f5 bits (0 : Int32) (7 : Int32)) + (f5 bits (1 : Int32) (7 : Int32))))])) _
      refine XS.iconst X258.here hx rfl (hb hby at_147) ?_
      show Steps p.tables e below (T258.setTop (mkF m 148 #[.val (.int cnt), .val (.int bits), .val (.int (7 : Int32)), .val (.ref b212), .val (.int (f3 u253 u254)), .unset] [(.int (2 : Int32)), (.int bits), (.int ((f5 bits (0 : Int32) (7 : Int32)) + (f5 bits (1 : Int32) (7 : Int32))))])) _
      refine XS.iloadN X258.here hx rfl (hb hby at_148) rfl ?_
      exact kt
    obtain ⟨_, _, ⟨T259, L259, k259, n259⟩, -, X259, ⟨Lc259, hQ259, l259, y259, z259⟩, st259⟩ := Jvm.LawKit.callS X258 hx (y := (⟨"com/example/gallant_courier/gallantcourier/core/LossRateWaitsPerDoublingPinLaw", "one", "(III)I"⟩ : MethodName)) hown (mvT hZ (hw _ (List.mem_of_getElem? (i := 28) rfl))) (mvT hZ (hw _ (List.mem_of_getElem? (i := 29) rfl))) (mvT hZ (hw _ (List.mem_of_getElem? (i := 11) rfl))) (mvT hZ (hw _ (List.mem_of_getElem? (i := 30) rfl))) (by decide) (backOf (W := 1) (rm5 l Z aa hw [] bits (2 : Int32) (7 : Int32) T251.heap n0 O251) hZ (hw _ (List.mem_of_getElem? (i := 30) rfl)) (hw _ (List.mem_of_getElem? (i := 11) rfl)) (by decide) (by decide)) (g := (mkF m 149 #[.val (.int cnt), .val (.int bits), .val (.int (7 : Int32)), .val (.ref b212), .val (.int (f3 u253 u254)), .unset] [(.int (7 : Int32)), (.int (2 : Int32)), (.int bits), (.int ((f5 bits (0 : Int32) (7 : Int32)) + (f5 bits (1 : Int32) (7 : Int32))))])) rfl (by rw [hml]; rfl) (argsL := [(.int bits), (.int (2 : Int32)), (.int (7 : Int32))]) (rest := [(.int ((f5 bits (0 : Int32) (7 : Int32)) + (f5 bits (1 : Int32) (7 : Int32))))]) (lenOf pd_oIIIcI rfl) rfl (by show 2 * 0 + _ ≤ _; exact Nat.le_of_eq rfl) (hb hby at_149) (fun _ _ => ⟨rfl, e258, (by decide : 1 + 0 ≤ _), (by decide : 2 + 0 ≤ _)⟩)
    dsimp only [Pt.U, Pt.locs, Pt.cells, Pt.slots] at X259 l259 y259 z259 st259 hQ259
    subst l259 y259 z259
    obtain ⟨rfl, rfl, e259⟩ := hQ259
    try rw [List.append_nil] at X259
    refine Gl.up (B := T259.setTop (mkF m 152 #[.val (.int cnt), .val (.int bits), .val (.int (7 : Int32)), .val (.ref b212), .val (.int (f3 u253 u254)), .unset] [(.int (f5 bits (2 : Int32) (7 : Int32))), (.int ((f5 bits (0 : Int32) (7 : Int32)) + (f5 bits (1 : Int32) (7 : Int32))))])) (fun t kt => st259 _ kt) ?_
    refine Gl.up (B := T259.setTop (mkF m 156 #[.val (.int cnt), .val (.int bits), .val (.int (7 : Int32)), .val (.ref b212), .val (.int (f3 u253 u254)), .unset] [(.int (7 : Int32)), (.int (3 : Int32)), (.int bits), (.int (((f5 bits (0 : Int32) (7 : Int32)) + (f5 bits (1 : Int32) (7 : Int32))) + (f5 bits (2 : Int32) (7 : Int32))))])) (fun t kt => ?_) ?_
    · refine XS.iadd X259.here hx rfl (hb hby at_152) rfl ?_
      show Steps p.tables e below (T259.setTop (mkF m 153 #[.val (.int cnt), .val (.int bits), .val (.int (7 : Int32)), .val (.ref b212), .val (.int (f3 u253 u254)), .unset] [(.int (((f5 bits (0 : Int32) (7 : Int32)) + (f5 bits (1 : Int32) (7 : Int32))) + (f5 bits (2 : Int32) (7 : Int32))))])) _
      refine XS.iloadN X259.here hx rfl (hb hby at_153) rfl ?_
      show Steps p.tables e below (T259.setTop (mkF m 154 #[.val (.int cnt), .val (.int bits), .val (.int (7 : Int32)), .val (.ref b212), .val (.int (f3 u253 u254)), .unset] [(.int bits), (.int (((f5 bits (0 : Int32) (7 : Int32)) + (f5 bits (1 : Int32) (7 : Int32))) + (f5 bits (2 : Int32) (7 : Int32))))])) _
      refine XS.iconst X259.here hx rfl (hb hby at_154) ?_
      show Steps p.tables e below (T259.setTop (mkF m 155 #[.val (.int cnt), .val (.int bits), .val (.int (7 : Int32)), .val (.ref b212), .val (.int (f3 u253 u254)), .unset] [(.int (3 : Int32)), (.int bits), (.int (((f5 bits (0 : Int32) (7 : Int32)) + (f5 bits (1 : Int32) (7 : Int32))) + (f5 bits (2 : Int32) (7 : Int32))))])) _
      refine XS.iloadN X259.here hx rfl (hb hby at_155) rfl ?_
      exact kt
    obtain ⟨_, _, ⟨T260, L260, k260, n260⟩, -, X260, ⟨Lc260, hQ260, l260, y260, z260⟩, st260⟩ := Jvm.LawKit.callS X259 hx (y := (⟨"com/example/gallant_courier/gallantcourier/core/LossRateWaitsPerDoublingPinLaw", "one", "(III)I"⟩ : MethodName)) hown (mvT hZ (hw _ (List.mem_of_getElem? (i := 28) rfl))) (mvT hZ (hw _ (List.mem_of_getElem? (i := 29) rfl))) (mvT hZ (hw _ (List.mem_of_getElem? (i := 11) rfl))) (mvT hZ (hw _ (List.mem_of_getElem? (i := 30) rfl))) (by decide) (backOf (W := 1) (rm5 l Z aa hw [] bits (3 : Int32) (7 : Int32) T251.heap n0 O251) hZ (hw _ (List.mem_of_getElem? (i := 30) rfl)) (hw _ (List.mem_of_getElem? (i := 11) rfl)) (by decide) (by decide)) (g := (mkF m 156 #[.val (.int cnt), .val (.int bits), .val (.int (7 : Int32)), .val (.ref b212), .val (.int (f3 u253 u254)), .unset] [(.int (7 : Int32)), (.int (3 : Int32)), (.int bits), (.int (((f5 bits (0 : Int32) (7 : Int32)) + (f5 bits (1 : Int32) (7 : Int32))) + (f5 bits (2 : Int32) (7 : Int32))))])) rfl (by rw [hml]; rfl) (argsL := [(.int bits), (.int (3 : Int32)), (.int (7 : Int32))]) (rest := [(.int (((f5 bits (0 : Int32) (7 : Int32)) + (f5 bits (1 : Int32) (7 : Int32))) + (f5 bits (2 : Int32) (7 : Int32))))]) (lenOf pd_oIIIcI rfl) rfl (by show 2 * 0 + _ ≤ _; exact Nat.le_of_eq rfl) (hb hby at_156) (fun _ _ => ⟨rfl, e259, (by decide : 1 + 0 ≤ _), (by decide : 2 + 0 ≤ _)⟩)
    dsimp only [Pt.U, Pt.locs, Pt.cells, Pt.slots] at X260 l260 y260 z260 st260 hQ260
    subst l260 y260 z260
    obtain ⟨rfl, rfl, e260⟩ := hQ260
    try rw [List.append_nil] at X260
    refine Gl.up (B := T260.setTop (mkF m 159 #[.val (.int cnt), .val (.int bits), .val (.int (7 : Int32)), .val (.ref b212), .val (.int (f3 u253 u254)), .unset] [(.int (f5 bits (3 : Int32) (7 : Int32))), (.int (((f5 bits (0 : Int32) (7 : Int32)) + (f5 bits (1 : Int32) (7 : Int32))) + (f5 bits (2 : Int32) (7 : Int32))))])) (fun t kt => st260 _ kt) ?_
    refine Gl.up (B := T260.setTop (mkF m 163 #[.val (.int cnt), .val (.int bits), .val (.int (7 : Int32)), .val (.ref b212), .val (.int (f3 u253 u254)), .unset] [(.int (7 : Int32)), (.int (4 : Int32)), (.int bits), (.int ((((f5 bits (0 : Int32) (7 : Int32)) + (f5 bits (1 : Int32) (7 : Int32))) + (f5 bits (2 : Int32) (7 : Int32))) + (f5 bits (3 : Int32) (7 : Int32))))])) (fun t kt => ?_) ?_
    · refine XS.iadd X260.here hx rfl (hb hby at_159) rfl ?_
      show Steps p.tables e below (T260.setTop (mkF m 160 #[.val (.int cnt), .val (.int bits), .val (.int (7 : Int32)), .val (.ref b212), .val (.int (f3 u253 u254)), .unset] [(.int ((((f5 bits (0 : Int32) (7 : Int32)) + (f5 bits (1 : Int32) (7 : Int32))) + (f5 bits (2 : Int32) (7 : Int32))) + (f5 bits (3 : Int32) (7 : Int32))))])) _
      refine XS.iloadN X260.here hx rfl (hb hby at_160) rfl ?_
      show Steps p.tables e below (T260.setTop (mkF m 161 #[.val (.int cnt), .val (.int bits), .val (.int (7 : Int32)), .val (.ref b212), .val (.int (f3 u253 u254)), .unset] [(.int bits), (.int ((((f5 bits (0 : Int32) (7 : Int32)) + (f5 bits (1 : Int32) (7 : Int32))) + (f5 bits (2 : Int32) (7 : Int32))) + (f5 bits (3 : Int32) (7 : Int32))))])) _
      refine XS.iconst X260.here hx rfl (hb hby at_161) ?_
      show Steps p.tables e below (T260.setTop (mkF m 162 #[.val (.int cnt), .val (.int bits), .val (.int (7 : Int32)), .val (.ref b212), .val (.int (f3 u253 u254)), .unset] [(.int (4 : Int32)), (.int bits), (.int ((((f5 bits (0 : Int32) (7 : Int32)) + (f5 bits (1 : Int32) (7 : Int32))) + (f5 bits (2 : Int32) (7 : Int32))) + (f5 bits (3 : Int32) (7 : Int32))))])) _
      refine XS.iloadN X260.here hx rfl (hb hby at_162) rfl ?_
      exact kt
    obtain ⟨_, _, ⟨T261, L261, k261, n261⟩, -, X261, ⟨Lc261, hQ261, l261, y261, z261⟩, st261⟩ := Jvm.LawKit.callS X260 hx (y := (⟨"com/example/gallant_courier/gallantcourier/core/LossRateWaitsPerDoublingPinLaw", "one", "(III)I"⟩ : MethodName)) hown (mvT hZ (hw _ (List.mem_of_getElem? (i := 28) rfl))) (mvT hZ (hw _ (List.mem_of_getElem? (i := 29) rfl))) (mvT hZ (hw _ (List.mem_of_getElem? (i := 11) rfl))) (mvT hZ (hw _ (List.mem_of_getElem? (i := 30) rfl))) (by decide) (backOf (W := 1) (rm5 l Z aa hw [] bits (4 : Int32) (7 : Int32) T251.heap n0 O251) hZ (hw _ (List.mem_of_getElem? (i := 30) rfl)) (hw _ (List.mem_of_getElem? (i := 11) rfl)) (by decide) (by decide)) (g := (mkF m 163 #[.val (.int cnt), .val (.int bits), .val (.int (7 : Int32)), .val (.ref b212), .val (.int (f3 u253 u254)), .unset] [(.int (7 : Int32)), (.int (4 : Int32)), (.int bits), (.int ((((f5 bits (0 : Int32) (7 : Int32)) + (f5 bits (1 : Int32) (7 : Int32))) + (f5 bits (2 : Int32) (7 : Int32))) + (f5 bits (3 : Int32) (7 : Int32))))])) rfl (by rw [hml]; rfl) (argsL := [(.int bits), (.int (4 : Int32)), (.int (7 : Int32))]) (rest := [(.int ((((f5 bits (0 : Int32) (7 : Int32)) + (f5 bits (1 : Int32) (7 : Int32))) + (f5 bits (2 : Int32) (7 : Int32))) + (f5 bits (3 : Int32) (7 : Int32))))]) (lenOf pd_oIIIcI rfl) rfl (by show 2 * 0 + _ ≤ _; exact Nat.le_of_eq rfl) (hb hby at_163) (fun _ _ => ⟨rfl, e260, (by decide : 1 + 0 ≤ _), (by decide : 2 + 0 ≤ _)⟩)
    dsimp only [Pt.U, Pt.locs, Pt.cells, Pt.slots] at X261 l261 y261 z261 st261 hQ261
    subst l261 y261 z261
    obtain ⟨rfl, rfl, e261⟩ := hQ261
    try rw [List.append_nil] at X261
    refine Gl.up (B := T261.setTop (mkF m 166 #[.val (.int cnt), .val (.int bits), .val (.int (7 : Int32)), .val (.ref b212), .val (.int (f3 u253 u254)), .unset] [(.int (f5 bits (4 : Int32) (7 : Int32))), (.int ((((f5 bits (0 : Int32) (7 : Int32)) + (f5 bits (1 : Int32) (7 : Int32))) + (f5 bits (2 : Int32) (7 : Int32))) + (f5 bits (3 : Int32) (7 : Int32))))])) (fun t kt => st261 _ kt) ?_
    refine Gl.up (B := T261.setTop (mkF m 170 #[.val (.int cnt), .val (.int bits), .val (.int (7 : Int32)), .val (.ref b212), .val (.int (f3 u253 u254)), .unset] [(.int (7 : Int32)), (.int (5 : Int32)), (.int bits), (.int (((((f5 bits (0 : Int32) (7 : Int32)) + (f5 bits (1 : Int32) (7 : Int32))) + (f5 bits (2 : Int32) (7 : Int32))) + (f5 bits (3 : Int32) (7 : Int32))) + (f5 bits (4 : Int32) (7 : Int32))))])) (fun t kt => ?_) ?_
    · refine XS.iadd X261.here hx rfl (hb hby at_166) rfl ?_
      show Steps p.tables e below (T261.setTop (mkF m 167 #[.val (.int cnt), .val (.int bits), .val (.int (7 : Int32)), .val (.ref b212), .val (.int (f3 u253 u254)), .unset] [(.int (((((f5 bits (0 : Int32) (7 : Int32)) + (f5 bits (1 : Int32) (7 : Int32))) + (f5 bits (2 : Int32) (7 : Int32))) + (f5 bits (3 : Int32) (7 : Int32))) + (f5 bits (4 : Int32) (7 : Int32))))])) _
      refine XS.iloadN X261.here hx rfl (hb hby at_167) rfl ?_
      show Steps p.tables e below (T261.setTop (mkF m 168 #[.val (.int cnt), .val (.int bits), .val (.int (7 : Int32)), .val (.ref b212), .val (.int (f3 u253 u254)), .unset] [(.int bits), (.int (((((f5 bits (0 : Int32) (7 : Int32)) + (f5 bits (1 : Int32) (7 : Int32))) + (f5 bits (2 : Int32) (7 : Int32))) + (f5 bits (3 : Int32) (7 : Int32))) + (f5 bits (4 : Int32) (7 : Int32))))])) _
      refine XS.iconst X261.here hx rfl (hb hby at_168) ?_
      show Steps p.tables e below (T261.setTop (mkF m 169 #[.val (.int cnt), .val (.int bits), .val (.int (7 : Int32)), .val (.ref b212), .val (.int (f3 u253 u254)), .unset] [(.int (5 : Int32)), (.int bits), (.int (((((f5 bits (0 : Int32) (7 : Int32)) + (f5 bits (1 : Int32) (7 : Int32))) + (f5 bits (2 : Int32) (7 : Int32))) + (f5 bits (3 : Int32) (7 : Int32))) + (f5 bits (4 : Int32) (7 : Int32))))])) _
      refine XS.iloadN X261.here hx rfl (hb hby at_169) rfl ?_
      exact kt
    obtain ⟨_, _, ⟨T262, L262, k262, n262⟩, -, X262, ⟨Lc262, hQ262, l262, y262, z262⟩, st262⟩ := Jvm.LawKit.callS X261 hx (y := (⟨"com/example/gallant_courier/gallantcourier/core/LossRateWaitsPerDoublingPinLaw", "one", "(III)I"⟩ : MethodName)) hown (mvT hZ (hw _ (List.mem_of_getElem? (i := 28) rfl))) (mvT hZ (hw _ (List.mem_of_getElem? (i := 29) rfl))) (mvT hZ (hw _ (List.mem_of_getElem? (i := 11) rfl))) (mvT hZ (hw _ (List.mem_of_getElem? (i := 30) rfl))) (by decide) (backOf (W := 1) (rm5 l Z aa hw [] bits (5 : Int32) (7 : Int32) T251.heap n0 O251) hZ (hw _ (List.mem_of_getElem? (i := 30) rfl)) (hw _ (List.mem_of_getElem? (i := 11) rfl)) (by decide) (by decide)) (g := (mkF m 170 #[.val (.int cnt), .val (.int bits), .val (.int (7 : Int32)), .val (.ref b212), .val (.int (f3 u253 u254)), .unset] [(.int (7 : Int32)), (.int (5 : Int32)), (.int bits), (.int (((((f5 bits (0 : Int32) (7 : Int32)) + (f5 bits (1 : Int32) (7 : Int32))) + (f5 bits (2 : Int32) (7 : Int32))) + (f5 bits (3 : Int32) (7 : Int32))) + (f5 bits (4 : Int32) (7 : Int32))))])) rfl (by rw [hml]; rfl) (argsL := [(.int bits), (.int (5 : Int32)), (.int (7 : Int32))]) (rest := [(.int (((((f5 bits (0 : Int32) (7 : Int32)) + (f5 bits (1 : Int32) (7 : Int32))) + (f5 bits (2 : Int32) (7 : Int32))) + (f5 bits (3 : Int32) (7 : Int32))) + (f5 bits (4 : Int32) (7 : Int32))))]) (lenOf pd_oIIIcI rfl) rfl (by show 2 * 0 + _ ≤ _; exact Nat.le_of_eq rfl) (hb hby at_170) (fun _ _ => ⟨rfl, e261, (by decide : 1 + 0 ≤ _), (by decide : 2 + 0 ≤ _)⟩)
    dsimp only [Pt.U, Pt.locs, Pt.cells, Pt.slots] at X262 l262 y262 z262 st262 hQ262
    subst l262 y262 z262
    obtain ⟨rfl, rfl, e262⟩ := hQ262
    try rw [List.append_nil] at X262
    refine Gl.up (B := T262.setTop (mkF m 173 #[.val (.int cnt), .val (.int bits), .val (.int (7 : Int32)), .val (.ref b212), .val (.int (f3 u253 u254)), .unset] [(.int (f5 bits (5 : Int32) (7 : Int32))), (.int (((((f5 bits (0 : Int32) (7 : Int32)) + (f5 bits (1 : Int32) (7 : Int32))) + (f5 bits (2 : Int32) (7 : Int32))) + (f5 bits (3 : Int32) (7 : Int32))) + (f5 bits (4 : Int32) (7 : Int32))))])) (fun t kt => st262 _ kt) ?_
    refine Gl.up (B := T262.setTop (mkF m 178 #[.val (.int cnt), .val (.int bits), .val (.int (7 : Int32)), .val (.ref b212), .val (.int (f3 u253 u254)), .unset] [(.int (7 : Int32)), (.int (6 : Int32)), (.int bits), (.int ((((((f5 bits (0 : Int32) (7 : Int32)) + (f5 bits (1 : Int32) (7 : Int32))) + (f5 bits (2 : Int32) (7 : Int32))) + (f5 bits (3 : Int32) (7 : Int32))) + (f5 bits (4 : Int32) (7 : Int32))) + (f5 bits (5 : Int32) (7 : Int32))))])) (fun t kt => ?_) ?_
    · refine XS.iadd X262.here hx rfl (hb hby at_173) rfl ?_
      show Steps p.tables e below (T262.setTop (mkF m 174 #[.val (.int cnt), .val (.int bits), .val (.int (7 : Int32)), .val (.ref b212), .val (.int (f3 u253 u254)), .unset] [(.int ((((((f5 bits (0 : Int32) (7 : Int32)) + (f5 bits (1 : Int32) (7 : Int32))) + (f5 bits (2 : Int32) (7 : Int32))) + (f5 bits (3 : Int32) (7 : Int32))) + (f5 bits (4 : Int32) (7 : Int32))) + (f5 bits (5 : Int32) (7 : Int32))))])) _
      refine XS.iloadN X262.here hx rfl (hb hby at_174) rfl ?_
      show Steps p.tables e below (T262.setTop (mkF m 175 #[.val (.int cnt), .val (.int bits), .val (.int (7 : Int32)), .val (.ref b212), .val (.int (f3 u253 u254)), .unset] [(.int bits), (.int ((((((f5 bits (0 : Int32) (7 : Int32)) + (f5 bits (1 : Int32) (7 : Int32))) + (f5 bits (2 : Int32) (7 : Int32))) + (f5 bits (3 : Int32) (7 : Int32))) + (f5 bits (4 : Int32) (7 : Int32))) + (f5 bits (5 : Int32) (7 : Int32))))])) _
      refine XS.bipush X262.here hx rfl (hb hby at_175) ?_
      show Steps p.tables e below (T262.setTop (mkF m 177 #[.val (.int cnt), .val (.int bits), .val (.int (7 : Int32)), .val (.ref b212), .val (.int (f3 u253 u254)), .unset] [(.int (6 : Int32)), (.int bits), (.int ((((((f5 bits (0 : Int32) (7 : Int32)) + (f5 bits (1 : Int32) (7 : Int32))) + (f5 bits (2 : Int32) (7 : Int32))) + (f5 bits (3 : Int32) (7 : Int32))) + (f5 bits (4 : Int32) (7 : Int32))) + (f5 bits (5 : Int32) (7 : Int32))))])) _
      refine XS.iloadN X262.here hx rfl (hb hby at_177) rfl ?_
      exact kt
    obtain ⟨_, _, ⟨T263, L263, k263, n263⟩, -, X263, ⟨Lc263, hQ263, l263, y263, z263⟩, st263⟩ := Jvm.LawKit.callS X262 hx (y := (⟨"com/example/gallant_courier/gallantcourier/core/LossRateWaitsPerDoublingPinLaw", "one", "(III)I"⟩ : MethodName)) hown (mvT hZ (hw _ (List.mem_of_getElem? (i := 28) rfl))) (mvT hZ (hw _ (List.mem_of_getElem? (i := 29) rfl))) (mvT hZ (hw _ (List.mem_of_getElem? (i := 11) rfl))) (mvT hZ (hw _ (List.mem_of_getElem? (i := 30) rfl))) (by decide) (backOf (W := 1) (rm5 l Z aa hw [] bits (6 : Int32) (7 : Int32) T251.heap n0 O251) hZ (hw _ (List.mem_of_getElem? (i := 30) rfl)) (hw _ (List.mem_of_getElem? (i := 11) rfl)) (by decide) (by decide)) (g := (mkF m 178 #[.val (.int cnt), .val (.int bits), .val (.int (7 : Int32)), .val (.ref b212), .val (.int (f3 u253 u254)), .unset] [(.int (7 : Int32)), (.int (6 : Int32)), (.int bits), (.int ((((((f5 bits (0 : Int32) (7 : Int32)) + (f5 bits (1 : Int32) (7 : Int32))) + (f5 bits (2 : Int32) (7 : Int32))) + (f5 bits (3 : Int32) (7 : Int32))) + (f5 bits (4 : Int32) (7 : Int32))) + (f5 bits (5 : Int32) (7 : Int32))))])) rfl (by rw [hml]; rfl) (argsL := [(.int bits), (.int (6 : Int32)), (.int (7 : Int32))]) (rest := [(.int ((((((f5 bits (0 : Int32) (7 : Int32)) + (f5 bits (1 : Int32) (7 : Int32))) + (f5 bits (2 : Int32) (7 : Int32))) + (f5 bits (3 : Int32) (7 : Int32))) + (f5 bits (4 : Int32) (7 : Int32))) + (f5 bits (5 : Int32) (7 : Int32))))]) (lenOf pd_oIIIcI rfl) rfl (by show 2 * 0 + _ ≤ _; exact Nat.le_of_eq rfl) (hb hby at_178) (fun _ _ => ⟨rfl, e262, (by decide : 1 + 0 ≤ _), (by decide : 2 + 0 ≤ _)⟩)
    dsimp only [Pt.U, Pt.locs, Pt.cells, Pt.slots] at X263 l263 y263 z263 st263 hQ263
    subst l263 y263 z263
    obtain ⟨rfl, rfl, e263⟩ := hQ263
    try rw [List.append_nil] at X263
    refine Gl.up (B := T263.setTop (mkF m 181 #[.val (.int cnt), .val (.int bits), .val (.int (7 : Int32)), .val (.ref b212), .val (.int (f3 u253 u254)), .unset] [(.int (f5 bits (6 : Int32) (7 : Int32))), (.int ((((((f5 bits (0 : Int32) (7 : Int32)) + (f5 bits (1 : Int32) (7 : Int32))) + (f5 bits (2 : Int32) (7 : Int32))) + (f5 bits (3 : Int32) (7 : Int32))) + (f5 bits (4 : Int32) (7 : Int32))) + (f5 bits (5 : Int32) (7 : Int32))))])) (fun t kt => st263 _ kt) ?_
    refine Gl.up (B := T263.setTop (mkF m 186 #[.val (.int cnt), .val (.int bits), .val (.int (7 : Int32)), .val (.ref b212), .val (.int (f3 u253 u254)), .unset] [(.int (7 : Int32)), (.int (7 : Int32)), (.int bits), (.int (((((((f5 bits (0 : Int32) (7 : Int32)) + (f5 bits (1 : Int32) (7 : Int32))) + (f5 bits (2 : Int32) (7 : Int32))) + (f5 bits (3 : Int32) (7 : Int32))) + (f5 bits (4 : Int32) (7 : Int32))) + (f5 bits (5 : Int32) (7 : Int32))) + (f5 bits (6 : Int32) (7 : Int32))))])) (fun t kt => ?_) ?_
    · refine XS.iadd X263.here hx rfl (hb hby at_181) rfl ?_
      show Steps p.tables e below (T263.setTop (mkF m 182 #[.val (.int cnt), .val (.int bits), .val (.int (7 : Int32)), .val (.ref b212), .val (.int (f3 u253 u254)), .unset] [(.int (((((((f5 bits (0 : Int32) (7 : Int32)) + (f5 bits (1 : Int32) (7 : Int32))) + (f5 bits (2 : Int32) (7 : Int32))) + (f5 bits (3 : Int32) (7 : Int32))) + (f5 bits (4 : Int32) (7 : Int32))) + (f5 bits (5 : Int32) (7 : Int32))) + (f5 bits (6 : Int32) (7 : Int32))))])) _
      refine XS.iloadN X263.here hx rfl (hb hby at_182) rfl ?_
      show Steps p.tables e below (T263.setTop (mkF m 183 #[.val (.int cnt), .val (.int bits), .val (.int (7 : Int32)), .val (.ref b212), .val (.int (f3 u253 u254)), .unset] [(.int bits), (.int (((((((f5 bits (0 : Int32) (7 : Int32)) + (f5 bits (1 : Int32) (7 : Int32))) + (f5 bits (2 : Int32) (7 : Int32))) + (f5 bits (3 : Int32) (7 : Int32))) + (f5 bits (4 : Int32) (7 : Int32))) + (f5 bits (5 : Int32) (7 : Int32))) + (f5 bits (6 : Int32) (7 : Int32))))])) _
      refine XS.bipush X263.here hx rfl (hb hby at_183) ?_
      show Steps p.tables e below (T263.setTop (mkF m 185 #[.val (.int cnt), .val (.int bits), .val (.int (7 : Int32)), .val (.ref b212), .val (.int (f3 u253 u254)), .unset] [(.int (7 : Int32)), (.int bits), (.int (((((((f5 bits (0 : Int32) (7 : Int32)) + (f5 bits (1 : Int32) (7 : Int32))) + (f5 bits (2 : Int32) (7 : Int32))) + (f5 bits (3 : Int32) (7 : Int32))) + (f5 bits (4 : Int32) (7 : Int32))) + (f5 bits (5 : Int32) (7 : Int32))) + (f5 bits (6 : Int32) (7 : Int32))))])) _
      refine XS.iloadN X263.here hx rfl (hb hby at_185) rfl ?_
      exact kt
    obtain ⟨_, _, ⟨T264, L264, k264, n264⟩, -, X264, ⟨Lc264, hQ264, l264, y264, z264⟩, st264⟩ := Jvm.LawKit.callS X263 hx (y := (⟨"com/example/gallant_courier/gallantcourier/core/LossRateWaitsPerDoublingPinLaw", "one", "(III)I"⟩ : MethodName)) hown (mvT hZ (hw _ (List.mem_of_getElem? (i := 28) rfl))) (mvT hZ (hw _ (List.mem_of_getElem? (i := 29) rfl))) (mvT hZ (hw _ (List.mem_of_getElem? (i := 11) rfl))) (mvT hZ (hw _ (List.mem_of_getElem? (i := 30) rfl))) (by decide) (backOf (W := 1) (rm5 l Z aa hw [] bits (7 : Int32) (7 : Int32) T251.heap n0 O251) hZ (hw _ (List.mem_of_getElem? (i := 30) rfl)) (hw _ (List.mem_of_getElem? (i := 11) rfl)) (by decide) (by decide)) (g := (mkF m 186 #[.val (.int cnt), .val (.int bits), .val (.int (7 : Int32)), .val (.ref b212), .val (.int (f3 u253 u254)), .unset] [(.int (7 : Int32)), (.int (7 : Int32)), (.int bits), (.int (((((((f5 bits (0 : Int32) (7 : Int32)) + (f5 bits (1 : Int32) (7 : Int32))) + (f5 bits (2 : Int32) (7 : Int32))) + (f5 bits (3 : Int32) (7 : Int32))) + (f5 bits (4 : Int32) (7 : Int32))) + (f5 bits (5 : Int32) (7 : Int32))) + (f5 bits (6 : Int32) (7 : Int32))))])) rfl (by rw [hml]; rfl) (argsL := [(.int bits), (.int (7 : Int32)), (.int (7 : Int32))]) (rest := [(.int (((((((f5 bits (0 : Int32) (7 : Int32)) + (f5 bits (1 : Int32) (7 : Int32))) + (f5 bits (2 : Int32) (7 : Int32))) + (f5 bits (3 : Int32) (7 : Int32))) + (f5 bits (4 : Int32) (7 : Int32))) + (f5 bits (5 : Int32) (7 : Int32))) + (f5 bits (6 : Int32) (7 : Int32))))]) (lenOf pd_oIIIcI rfl) rfl (by show 2 * 0 + _ ≤ _; exact Nat.le_of_eq rfl) (hb hby at_186) (fun _ _ => ⟨rfl, e263, (by decide : 1 + 0 ≤ _), (by decide : 2 + 0 ≤ _)⟩)
    dsimp only [Pt.U, Pt.locs, Pt.cells, Pt.slots] at X264 l264 y264 z264 st264 hQ264
    subst l264 y264 z264
    obtain ⟨rfl, rfl, e264⟩ := hQ264
    try rw [List.append_nil] at X264
    refine Gl.up (B := T264.setTop (mkF m 189 #[.val (.int cnt), .val (.int bits), .val (.int (7 : Int32)), .val (.ref b212), .val (.int (f3 u253 u254)), .unset] [(.int (f5 bits (7 : Int32) (7 : Int32))), (.int (((((((f5 bits (0 : Int32) (7 : Int32)) + (f5 bits (1 : Int32) (7 : Int32))) + (f5 bits (2 : Int32) (7 : Int32))) + (f5 bits (3 : Int32) (7 : Int32))) + (f5 bits (4 : Int32) (7 : Int32))) + (f5 bits (5 : Int32) (7 : Int32))) + (f5 bits (6 : Int32) (7 : Int32))))])) (fun t kt => st264 _ kt) ?_
    refine Gl.up (B := T264.setTop (mkF m 190 #[.val (.int cnt), .val (.int bits), .val (.int (7 : Int32)), .val (.ref b212), .val (.int (f3 u253 u254)), .unset] [(.int ((((((((f5 bits (0 : Int32) (7 : Int32)) + (f5 bits (1 : Int32) (7 : Int32))) + (f5 bits (2 : Int32) (7 : Int32))) + (f5 bits (3 : Int32) (7 : Int32))) + (f5 bits (4 : Int32) (7 : Int32))) + (f5 bits (5 : Int32) (7 : Int32))) + (f5 bits (6 : Int32) (7 : Int32))) + (f5 bits (7 : Int32) (7 : Int32))))])) (fun t kt => ?_) ?_
    · refine XS.iadd X264.here hx rfl (hb hby at_189) rfl ?_
      exact kt
    obtain ⟨u265, hu265⟩ : ∃ q : Int32, q = ((((((((f5 bits (0 : Int32) (7 : Int32)) + (f5 bits (1 : Int32) (7 : Int32))) + (f5 bits (2 : Int32) (7 : Int32))) + (f5 bits (3 : Int32) (7 : Int32))) + (f5 bits (4 : Int32) (7 : Int32))) + (f5 bits (5 : Int32) (7 : Int32))) + (f5 bits (6 : Int32) (7 : Int32))) + (f5 bits (7 : Int32) (7 : Int32))) := ⟨_, rfl⟩
    rw [← hu265]
    refine Gl.up (B := T264.setTop (mkF m 197 #[.val (.int cnt), .val (.int bits), .val (.int (7 : Int32)), .val (.ref b212), .val (.int (f3 u253 u254)), .val (.int u265)] [(.int (7 : Int32)), (.int u265), (.int (f3 u253 u254))])) (fun t kt => ?_) ?_
    · refine XS.istore X264.here hx rfl (hb hby at_190) rfl (l' := #[.val (.int cnt), .val (.int bits), .val (.int (7 : Int32)), .val (.ref b212), .val (.int (f3 u253 u254)), .val (.int u265)]) rfl ?_
      show Steps p.tables e below (T264.setTop (mkF m 192 #[.val (.int cnt), .val (.int bits), .val (.int (7 : Int32)), .val (.ref b212), .val (.int (f3 u253 u254)), .val (.int u265)] [])) _
      refine XS.iload X264.here hx rfl (hb hby at_192) rfl ?_
      show Steps p.tables e below (T264.setTop (mkF m 194 #[.val (.int cnt), .val (.int bits), .val (.int (7 : Int32)), .val (.ref b212), .val (.int (f3 u253 u254)), .val (.int u265)] [(.int (f3 u253 u254))])) _
      refine XS.iload X264.here hx rfl (hb hby at_194) rfl ?_
      show Steps p.tables e below (T264.setTop (mkF m 196 #[.val (.int cnt), .val (.int bits), .val (.int (7 : Int32)), .val (.ref b212), .val (.int (f3 u253 u254)), .val (.int u265)] [(.int u265), (.int (f3 u253 u254))])) _
      refine XS.iloadN X264.here hx rfl (hb hby at_196) rfl ?_
      exact kt
    obtain ⟨_, _, ⟨T266, L266, k266, n266⟩, -, X266, ⟨Lc266, hQ266, l266, y266, z266⟩, st266⟩ := Jvm.LawKit.callS X264 hx (y := (⟨"com/example/gallant_courier/gallantcourier/core/LossRateWaitsPerDoublingPinLaw", "expected", "(II)I"⟩ : MethodName)) hown (mvT hZ (hw _ (List.mem_of_getElem? (i := 31) rfl))) (mvT hZ (hw _ (List.mem_of_getElem? (i := 32) rfl))) (mvT hZ (hw _ (List.mem_of_getElem? (i := 11) rfl))) (mvT hZ (hw _ (List.mem_of_getElem? (i := 33) rfl))) (by decide) (backOf (W := 1) (rm6 l Z aa hw [] u265 (7 : Int32) T251.heap n0 O251) hZ (hw _ (List.mem_of_getElem? (i := 33) rfl)) (hw _ (List.mem_of_getElem? (i := 11) rfl)) (by decide) (by decide)) (g := (mkF m 197 #[.val (.int cnt), .val (.int bits), .val (.int (7 : Int32)), .val (.ref b212), .val (.int (f3 u253 u254)), .val (.int u265)] [(.int (7 : Int32)), (.int u265), (.int (f3 u253 u254))])) rfl (by rw [hml]; rfl) (argsL := [(.int u265), (.int (7 : Int32))]) (rest := [(.int (f3 u253 u254))]) (lenOf pd_oIIcI rfl) rfl (by show 2 * 0 + _ ≤ _; exact Nat.le_of_eq rfl) (hb hby at_197) (fun _ _ => ⟨rfl, e264, (by decide : 1 + 0 ≤ _), (by decide : 2 + 0 ≤ _)⟩)
    dsimp only [Pt.U, Pt.locs, Pt.cells, Pt.slots] at X266 l266 y266 z266 st266 hQ266
    subst l266 y266 z266
    obtain ⟨rfl, rfl, e266⟩ := hQ266
    try rw [List.append_nil] at X266
    refine Gl.up (B := T266.setTop (mkF m 200 #[.val (.int cnt), .val (.int bits), .val (.int (7 : Int32)), .val (.ref b212), .val (.int (f3 u253 u254)), .val (.int u265)] [(.int (f6 u265 (7 : Int32))), (.int (f3 u253 u254))])) (fun t kt => st266 _ kt) ?_
    have hm267 : u265 = own_sum [(f4 bits (6 : Int32)), (f4 bits (5 : Int32)), (f4 bits (4 : Int32)), (f4 bits (3 : Int32)), (f4 bits (2 : Int32)), (f4 bits (1 : Int32)), (f4 bits (0 : Int32))] := by
      rw [hu265, own_bit _ (0 : Int32) _ (by decide), own_bit _ (1 : Int32) _ (by decide), own_bit _ (2 : Int32) _ (by decide), own_bit _ (3 : Int32) _ (by decide), own_bit _ (4 : Int32) _ (by decide), own_bit _ (5 : Int32) _ (by decide), own_bit _ (6 : Int32) _ (by decide), own_nobit _ (7 : Int32) _ (by decide)]
      simp only [own_sum, Int32.add_zero, Int32.zero_add]
    refine Gl.up (B := T266.setTop (mkF m 208 #[.val (.int cnt), .val (.int bits), .val (.int (7 : Int32)), .val (.ref b212), .val (.int (f3 u253 u254)), .val (.int u265)] [(.int (1 : Int32))])) (fun t kt => ?_) ?_
    · refine XS.icmpNo X266.here hx rfl (hb hby at_200) rfl (teq (by rw [hsh255, hsa255, hm267]; exact own_fin7 _ (own_cons (f4_b bits (6 : Int32)) (own_cons (f4_b bits (5 : Int32)) (own_cons (f4_b bits (4 : Int32)) (own_cons (f4_b bits (3 : Int32)) (own_cons (f4_b bits (2 : Int32)) (own_cons (f4_b bits (1 : Int32)) (own_cons (f4_b bits (0 : Int32)) own_nil))))))))).2 ?_
      show Steps p.tables e below (T266.setTop (mkF m 203 #[.val (.int cnt), .val (.int bits), .val (.int (7 : Int32)), .val (.ref b212), .val (.int (f3 u253 u254)), .val (.int u265)] [])) _
      refine XS.iconst X266.here hx rfl (hb hby at_203) ?_
      show Steps p.tables e below (T266.setTop (mkF m 204 #[.val (.int cnt), .val (.int bits), .val (.int (7 : Int32)), .val (.ref b212), .val (.int (f3 u253 u254)), .val (.int u265)] [(.int (1 : Int32))])) _
      refine XS.goto X266.here hx rfl (pc0 := 204) (pc' := 208) rfl (hb hby at_204) (by decide) (by decide) ?_
      exact kt
    refine Gl.retN X266 hx hlk (t := .boolean) Bd.returns (by simp) (hb hby at_208) (w := (1 : Int32)) rfl ?_ (by decide) (by decide)
    exact ⟨rfl, N251⟩
  · rw [hk]
    obtain ⟨T268, h268, X268, e268, E268, A268, D268, -, st268⟩ := newO X0 hx hZ hown (hw _ (List.mem_of_getElem? (i := 0) rfl)) (hw _ (List.mem_of_getElem? (i := 1) rfl)) (hw _ (List.mem_of_getElem? (i := 2) rfl)) e0 (g := (mkF m 7 #[.val (.int cnt), .val (.int bits), .val (.int (8 : Int32)), .unset, .unset, .unset] [])) rfl (hb hby at_7) (by decide) (by decide)
    obtain ⟨b268, gq268⟩ : ∃ z, z = h0.size := ⟨_, rfl⟩
    rw [← gq268] at A268 D268 st268
    have g_b268 : n0 ≤ b268 := Nat.le_trans (old_le O0) (Nat.le_of_eq gq268.symm)
    have O268 := O0.ext E268
    have F_b268_samples_268 : Fld Z h268 b268 "com/example/gallant_courier/gallantcourier/core/LossRate" "samples" "I" (.int (0 : Int32)) := D268 (Or.inl (hw _ (List.mem_of_getElem? (i := 19) rfl))) (ty := .int) (by decide)
    have F_b268_share_268 : Fld Z h268 b268 "com/example/gallant_courier/gallantcourier/core/LossRate" "share" "D" (.double (0 : UInt64)) := D268 (Or.inl (hw _ (List.mem_of_getElem? (i := 21) rfl))) (ty := .double) (by decide)
    refine Gl.up (B := T268.setTop (mkF m 10 #[.val (.int cnt), .val (.int bits), .val (.int (8 : Int32)), .unset, .unset, .unset] [(.ref b268)])) (fun t kt => st268 _ kt) ?_
    refine Gl.up (B := T268.setTop (mkF m 11 #[.val (.int cnt), .val (.int bits), .val (.int (8 : Int32)), .unset, .unset, .unset] [(.ref b268), (.ref b268)])) (fun t kt => ?_) ?_
    · refine XS.dup X268.here hx rfl (hb hby at_10) rfl rfl ?_
      exact kt
    obtain ⟨_, _, ⟨T269, L269, k269, n269⟩, -, X269, ⟨Lc269, hQ269, l269, y269, z269⟩, st269⟩ := X268.specialBack hx (y := (⟨"com/example/gallant_courier/gallantcourier/core/LossRate", "<init>", "()V"⟩ : MethodName)) rfl hown (mvT hZ (hw _ (List.mem_of_getElem? (i := 3) rfl))) (mvT hZ (hw _ (List.mem_of_getElem? (i := 4) rfl))) (mvT hZ (hw _ (List.mem_of_getElem? (i := 5) rfl))) (by decide) (backOf (W := 1) (rm1 l Z aa hw [] b268 (0 : UInt64) (0 : Int32) h268 n0 O268 A268 F_b268_share_268 F_b268_samples_268 g_b268) hZ (hw _ (List.mem_of_getElem? (i := 5) rfl)) (hw _ (List.mem_of_getElem? (i := 2) rfl)) (by decide) (by decide)) (g := (mkF m 11 #[.val (.int cnt), .val (.int bits), .val (.int (8 : Int32)), .unset, .unset, .unset] [(.ref b268), (.ref b268)])) rfl (by rw [hml]; rfl) (Steps.refl _) (a := b268) (argsL := []) (rest := [(.ref b268)]) (lenOf pd_ocV rfl) rfl (by show 2 * 0 + _ ≤ _; exact Nat.le_of_eq rfl) (hb hby at_11) (fun _ _ => ⟨rfl, e268, (by decide : 1 + 0 ≤ _), (by decide : 2 + 0 ≤ _)⟩)
    dsimp only [Pt.U, Pt.locs, Pt.cells, Pt.slots] at X269 l269 y269 z269 st269 hQ269
    subst l269 y269 z269
    obtain ⟨rfl, M269, K269, F_b268_share_269, F_b268_samples_269⟩ := hQ269
    have N269 := Fr.app N0 M269
    have O269 := O268.keep K269 (allS g_b268 all0)
    have E_b268_269 := A268.keep K269
    refine Gl.up (B := T269.setTop (mkF m 14 #[.val (.int cnt), .val (.int bits), .val (.int (8 : Int32)), .unset, .unset, .unset] [(.ref b268)])) (fun t kt => st269.trans kt) ?_
    refine Gl.up (B := T269.setTop (mkF m 18 #[.val (.int cnt), .val (.int bits), .val (.int (8 : Int32)), .val (.ref b268), .unset, .unset] [(.int (0 : Int32)), (.int bits), (.ref b268)])) (fun t kt => ?_) ?_
    · refine XS.astoreN X269.here hx rfl (hb hby at_14) rfl rfl (l' := #[.val (.int cnt), .val (.int bits), .val (.int (8 : Int32)), .val (.ref b268), .unset, .unset]) rfl ?_
      show Steps p.tables e below (T269.setTop (mkF m 15 #[.val (.int cnt), .val (.int bits), .val (.int (8 : Int32)), .val (.ref b268), .unset, .unset] [])) _
      refine XS.aloadN X269.here hx rfl (hb hby at_15) rfl rfl ?_
      show Steps p.tables e below (T269.setTop (mkF m 16 #[.val (.int cnt), .val (.int bits), .val (.int (8 : Int32)), .val (.ref b268), .unset, .unset] [(.ref b268)])) _
      refine XS.iloadN X269.here hx rfl (hb hby at_16) rfl ?_
      show Steps p.tables e below (T269.setTop (mkF m 17 #[.val (.int cnt), .val (.int bits), .val (.int (8 : Int32)), .val (.ref b268), .unset, .unset] [(.int bits), (.ref b268)])) _
      refine XS.iconst X269.here hx rfl (hb hby at_17) ?_
      exact kt
    obtain ⟨_, _, ⟨T270, L270, k270, n270⟩, -, X270, ⟨Lc270, hQ270, l270, y270, z270⟩, st270⟩ := Jvm.LawKit.callS X269 hx (y := (⟨"com/example/gallant_courier/gallantcourier/core/LossRateWaitsPerDoublingPinLaw", "bit", "(II)Z"⟩ : MethodName)) hown (mvT hZ (hw _ (List.mem_of_getElem? (i := 9) rfl))) (mvT hZ (hw _ (List.mem_of_getElem? (i := 10) rfl))) (mvT hZ (hw _ (List.mem_of_getElem? (i := 11) rfl))) (mvT hZ (hw _ (List.mem_of_getElem? (i := 12) rfl))) (by decide) (backOf (W := 1) (rm4 l Z aa hw [] bits (0 : Int32) T269.heap n0 O269) hZ (hw _ (List.mem_of_getElem? (i := 12) rfl)) (hw _ (List.mem_of_getElem? (i := 11) rfl)) (by decide) (by decide)) (g := (mkF m 18 #[.val (.int cnt), .val (.int bits), .val (.int (8 : Int32)), .val (.ref b268), .unset, .unset] [(.int (0 : Int32)), (.int bits), (.ref b268)])) rfl (by rw [hml]; rfl) (argsL := [(.int bits), (.int (0 : Int32))]) (rest := [(.ref b268)]) (lenOf pd_oIIcZ rfl) rfl (by show 2 * 0 + _ ≤ _; exact Nat.le_of_eq rfl) (hb hby at_18) (fun _ _ => ⟨rfl, rfl, (by decide : 1 + 0 ≤ _), (by decide : 2 + 0 ≤ _)⟩)
    dsimp only [Pt.U, Pt.locs, Pt.cells, Pt.slots] at X270 l270 y270 z270 st270 hQ270
    subst l270 y270 z270
    obtain ⟨rfl, rfl, e270⟩ := hQ270
    try rw [List.append_nil] at X270
    refine Gl.up (B := T270.setTop (mkF m 21 #[.val (.int cnt), .val (.int bits), .val (.int (8 : Int32)), .val (.ref b268), .unset, .unset] [(.int (f4 bits (0 : Int32))), (.ref b268)])) (fun t kt => st270 _ kt) ?_
    have hp272 : own_pres (f4 bits (0 : Int32)) (0 : UInt64) (0 : Int32) := own_pre0 _ own_nil _ (own_b01 (f4_b bits (0 : Int32)))
    obtain ⟨cq271, kq271, q271a, q271b, q271c⟩ := isOf hZ e270 E_b268_269
    obtain ⟨_, _, ⟨T271, L271, k271, n271⟩, -, X271, ⟨Lc271, hQ271, l271, y271, z271⟩, st271⟩ := X270.virtualBack hx (y := (⟨"com/example/gallant_courier/gallantcourier/core/LossRate", "sample", "(Z)V"⟩ : MethodName)) (z := (⟨"com/example/gallant_courier/gallantcourier/core/LossRate", "sample", "(Z)V"⟩ : MethodName)) hown (mvT hZ (hw _ (List.mem_of_getElem? (i := 13) rfl))) (mvT hZ (hw _ (List.mem_of_getElem? (i := 14) rfl))) (notFace_of_selects (args := #[]) (mvT hZ (hw _ (List.mem_of_getElem? (i := 16) rfl)))) (mvT hZ (hw _ (List.mem_of_getElem? (i := 16) rfl))) (mvT hZ (hw _ (List.mem_of_getElem? (i := 15) rfl))) (by decide) (backOf (W := 0) (rm2 l Z aa hw [] b268 (f4 bits (0 : Int32)) (0 : UInt64) (0 : Int32) T269.heap n0 O269 E_b268_269 F_b268_share_269 F_b268_samples_269 g_b268 hp272.1 hp272.2.1 hp272.2.2) hZ (hw _ (List.mem_of_getElem? (i := 17) rfl)) (hw _ (List.mem_of_getElem? (i := 2) rfl)) (by decide) (by decide)) q271a q271c (g := (mkF m 21 #[.val (.int cnt), .val (.int bits), .val (.int (8 : Int32)), .val (.ref b268), .unset, .unset] [(.int (f4 bits (0 : Int32))), (.ref b268)])) rfl (by rw [hml]; rfl) (Steps.refl _) (argsL := [(.int (f4 bits (0 : Int32)))]) (rest := []) (lenOf pd_oZcV rfl) rfl (by show 2 * 0 + _ ≤ _; exact Nat.le_of_eq rfl) (hb hby at_21) (fun _ _ => ⟨rfl, e270, (by decide : 1 + 0 ≤ _), (by decide : 2 + 0 ≤ _)⟩)
    dsimp only [Pt.U, Pt.locs, Pt.cells, Pt.slots] at X271 l271 y271 z271 st271 hQ271
    subst l271 y271 z271
    obtain ⟨rfl, M271, K271, F_b268_share_271, F_b268_samples_271⟩ := hQ271
    have N271 := Fr.app N269 M271
    have O271 := O269.keep K271 (allS g_b268 all0)
    have E_b268_271 := E_b268_269.keep K271
    obtain ⟨u273, hu273⟩ : ∃ q : UInt64, q = (f2_share (f4 bits (0 : Int32)) (0 : UInt64) (0 : Int32)) := ⟨_, rfl⟩
    rw [← hu273] at F_b268_share_271
    obtain ⟨u274, hu274⟩ : ∃ q : Int32, q = (f2_samples (f4 bits (0 : Int32)) (0 : UInt64) (0 : Int32)) := ⟨_, rfl⟩
    rw [← hu274] at F_b268_samples_271
    refine Gl.up (B := T271.setTop (mkF m 24 #[.val (.int cnt), .val (.int bits), .val (.int (8 : Int32)), .val (.ref b268), .unset, .unset] [])) (fun t kt => st271.trans kt) ?_
    have hsh275 : u273 = (own_st [(f4 bits (0 : Int32))]).1 := by rw [hu273]; first | rfl | (simp only [own_st])
    have hsa275 : u274 = (own_st [(f4 bits (0 : Int32))]).2 := by rw [hu274]; first | rfl | (simp only [own_st])
    refine Gl.up (B := T271.setTop (mkF m 32 #[.val (.int cnt), .val (.int bits), .val (.int (8 : Int32)), .val (.ref b268), .unset, .unset] [(.int (1 : Int32)), (.int bits), (.ref b268)])) (fun t kt => ?_) ?_
    · refine XS.iloadN X271.here hx rfl (hb hby at_24) rfl ?_
      show Steps p.tables e below (T271.setTop (mkF m 25 #[.val (.int cnt), .val (.int bits), .val (.int (8 : Int32)), .val (.ref b268), .unset, .unset] [(.int (8 : Int32))])) _
      refine XS.iconst X271.here hx rfl (hb hby at_25) ?_
      show Steps p.tables e below (T271.setTop (mkF m 26 #[.val (.int cnt), .val (.int bits), .val (.int (8 : Int32)), .val (.ref b268), .unset, .unset] [(.int (2 : Int32)), (.int (8 : Int32))])) _
      refine XS.icmpNo X271.here hx rfl (hb hby at_26) rfl (flt (by decide : ¬ ((8 : Int32) < (2 : Int32)))).1 ?_
      show Steps p.tables e below (T271.setTop (mkF m 29 #[.val (.int cnt), .val (.int bits), .val (.int (8 : Int32)), .val (.ref b268), .unset, .unset] [])) _
      refine XS.aloadN X271.here hx rfl (hb hby at_29) rfl rfl ?_
      show Steps p.tables e below (T271.setTop (mkF m 30 #[.val (.int cnt), .val (.int bits), .val (.int (8 : Int32)), .val (.ref b268), .unset, .unset] [(.ref b268)])) _
      refine XS.iloadN X271.here hx rfl (hb hby at_30) rfl ?_
      show Steps p.tables e below (T271.setTop (mkF m 31 #[.val (.int cnt), .val (.int bits), .val (.int (8 : Int32)), .val (.ref b268), .unset, .unset] [(.int bits), (.ref b268)])) _
      refine XS.iconst X271.here hx rfl (hb hby at_31) ?_
      exact kt
    obtain ⟨_, _, ⟨T276, L276, k276, n276⟩, -, X276, ⟨Lc276, hQ276, l276, y276, z276⟩, st276⟩ := Jvm.LawKit.callS X271 hx (y := (⟨"com/example/gallant_courier/gallantcourier/core/LossRateWaitsPerDoublingPinLaw", "bit", "(II)Z"⟩ : MethodName)) hown (mvT hZ (hw _ (List.mem_of_getElem? (i := 9) rfl))) (mvT hZ (hw _ (List.mem_of_getElem? (i := 10) rfl))) (mvT hZ (hw _ (List.mem_of_getElem? (i := 11) rfl))) (mvT hZ (hw _ (List.mem_of_getElem? (i := 12) rfl))) (by decide) (backOf (W := 1) (rm4 l Z aa hw [] bits (1 : Int32) T271.heap n0 O271) hZ (hw _ (List.mem_of_getElem? (i := 12) rfl)) (hw _ (List.mem_of_getElem? (i := 11) rfl)) (by decide) (by decide)) (g := (mkF m 32 #[.val (.int cnt), .val (.int bits), .val (.int (8 : Int32)), .val (.ref b268), .unset, .unset] [(.int (1 : Int32)), (.int bits), (.ref b268)])) rfl (by rw [hml]; rfl) (argsL := [(.int bits), (.int (1 : Int32))]) (rest := [(.ref b268)]) (lenOf pd_oIIcZ rfl) rfl (by show 2 * 0 + _ ≤ _; exact Nat.le_of_eq rfl) (hb hby at_32) (fun _ _ => ⟨rfl, rfl, (by decide : 1 + 0 ≤ _), (by decide : 2 + 0 ≤ _)⟩)
    dsimp only [Pt.U, Pt.locs, Pt.cells, Pt.slots] at X276 l276 y276 z276 st276 hQ276
    subst l276 y276 z276
    obtain ⟨rfl, rfl, e276⟩ := hQ276
    try rw [List.append_nil] at X276
    refine Gl.up (B := T276.setTop (mkF m 35 #[.val (.int cnt), .val (.int bits), .val (.int (8 : Int32)), .val (.ref b268), .unset, .unset] [(.int (f4 bits (1 : Int32))), (.ref b268)])) (fun t kt => st276 _ kt) ?_
    have hp278 : own_pres (f4 bits (1 : Int32)) u273 u274 := by rw [hsh275, hsa275]; exact own_pre1 _ (own_cons (f4_b bits (0 : Int32)) own_nil) _ (own_b01 (f4_b bits (1 : Int32)))
    obtain ⟨cq277, kq277, q277a, q277b, q277c⟩ := isOf hZ e276 E_b268_271
    obtain ⟨_, _, ⟨T277, L277, k277, n277⟩, -, X277, ⟨Lc277, hQ277, l277, y277, z277⟩, st277⟩ := X276.virtualBack hx (y := (⟨"com/example/gallant_courier/gallantcourier/core/LossRate", "sample", "(Z)V"⟩ : MethodName)) (z := (⟨"com/example/gallant_courier/gallantcourier/core/LossRate", "sample", "(Z)V"⟩ : MethodName)) hown (mvT hZ (hw _ (List.mem_of_getElem? (i := 13) rfl))) (mvT hZ (hw _ (List.mem_of_getElem? (i := 14) rfl))) (notFace_of_selects (args := #[]) (mvT hZ (hw _ (List.mem_of_getElem? (i := 16) rfl)))) (mvT hZ (hw _ (List.mem_of_getElem? (i := 16) rfl))) (mvT hZ (hw _ (List.mem_of_getElem? (i := 15) rfl))) (by decide) (backOf (W := 0) (rm2 l Z aa hw [] b268 (f4 bits (1 : Int32)) u273 u274 T271.heap n0 O271 E_b268_271 F_b268_share_271 F_b268_samples_271 g_b268 hp278.1 hp278.2.1 hp278.2.2) hZ (hw _ (List.mem_of_getElem? (i := 17) rfl)) (hw _ (List.mem_of_getElem? (i := 2) rfl)) (by decide) (by decide)) q277a q277c (g := (mkF m 35 #[.val (.int cnt), .val (.int bits), .val (.int (8 : Int32)), .val (.ref b268), .unset, .unset] [(.int (f4 bits (1 : Int32))), (.ref b268)])) rfl (by rw [hml]; rfl) (Steps.refl _) (argsL := [(.int (f4 bits (1 : Int32)))]) (rest := []) (lenOf pd_oZcV rfl) rfl (by show 2 * 0 + _ ≤ _; exact Nat.le_of_eq rfl) (hb hby at_35) (fun _ _ => ⟨rfl, e276, (by decide : 1 + 0 ≤ _), (by decide : 2 + 0 ≤ _)⟩)
    dsimp only [Pt.U, Pt.locs, Pt.cells, Pt.slots] at X277 l277 y277 z277 st277 hQ277
    subst l277 y277 z277
    obtain ⟨rfl, M277, K277, F_b268_share_277, F_b268_samples_277⟩ := hQ277
    have N277 := Fr.app N271 M277
    have O277 := O271.keep K277 (allS g_b268 all0)
    have E_b268_277 := E_b268_271.keep K277
    obtain ⟨u279, hu279⟩ : ∃ q : UInt64, q = (f2_share (f4 bits (1 : Int32)) u273 u274) := ⟨_, rfl⟩
    rw [← hu279] at F_b268_share_277
    obtain ⟨u280, hu280⟩ : ∃ q : Int32, q = (f2_samples (f4 bits (1 : Int32)) u273 u274) := ⟨_, rfl⟩
    rw [← hu280] at F_b268_samples_277
    refine Gl.up (B := T277.setTop (mkF m 38 #[.val (.int cnt), .val (.int bits), .val (.int (8 : Int32)), .val (.ref b268), .unset, .unset] [])) (fun t kt => st277.trans kt) ?_
    have hsh281 : u279 = (own_st [(f4 bits (1 : Int32)), (f4 bits (0 : Int32))]).1 := by rw [hu279, hsh275, hsa275]; exact (own_st1 _ _).symm
    have hsa281 : u280 = (own_st [(f4 bits (1 : Int32)), (f4 bits (0 : Int32))]).2 := by rw [hu280, hsh275, hsa275]; exact (own_st2 _ _).symm
    refine Gl.up (B := T277.setTop (mkF m 46 #[.val (.int cnt), .val (.int bits), .val (.int (8 : Int32)), .val (.ref b268), .unset, .unset] [(.int (2 : Int32)), (.int bits), (.ref b268)])) (fun t kt => ?_) ?_
    · refine XS.iloadN X277.here hx rfl (hb hby at_38) rfl ?_
      show Steps p.tables e below (T277.setTop (mkF m 39 #[.val (.int cnt), .val (.int bits), .val (.int (8 : Int32)), .val (.ref b268), .unset, .unset] [(.int (8 : Int32))])) _
      refine XS.iconst X277.here hx rfl (hb hby at_39) ?_
      show Steps p.tables e below (T277.setTop (mkF m 40 #[.val (.int cnt), .val (.int bits), .val (.int (8 : Int32)), .val (.ref b268), .unset, .unset] [(.int (3 : Int32)), (.int (8 : Int32))])) _
      refine XS.icmpNo X277.here hx rfl (hb hby at_40) rfl (flt (by decide : ¬ ((8 : Int32) < (3 : Int32)))).1 ?_
      show Steps p.tables e below (T277.setTop (mkF m 43 #[.val (.int cnt), .val (.int bits), .val (.int (8 : Int32)), .val (.ref b268), .unset, .unset] [])) _
      refine XS.aloadN X277.here hx rfl (hb hby at_43) rfl rfl ?_
      show Steps p.tables e below (T277.setTop (mkF m 44 #[.val (.int cnt), .val (.int bits), .val (.int (8 : Int32)), .val (.ref b268), .unset, .unset] [(.ref b268)])) _
      refine XS.iloadN X277.here hx rfl (hb hby at_44) rfl ?_
      show Steps p.tables e below (T277.setTop (mkF m 45 #[.val (.int cnt), .val (.int bits), .val (.int (8 : Int32)), .val (.ref b268), .unset, .unset] [(.int bits), (.ref b268)])) _
      refine XS.iconst X277.here hx rfl (hb hby at_45) ?_
      exact kt
    obtain ⟨_, _, ⟨T282, L282, k282, n282⟩, -, X282, ⟨Lc282, hQ282, l282, y282, z282⟩, st282⟩ := Jvm.LawKit.callS X277 hx (y := (⟨"com/example/gallant_courier/gallantcourier/core/LossRateWaitsPerDoublingPinLaw", "bit", "(II)Z"⟩ : MethodName)) hown (mvT hZ (hw _ (List.mem_of_getElem? (i := 9) rfl))) (mvT hZ (hw _ (List.mem_of_getElem? (i := 10) rfl))) (mvT hZ (hw _ (List.mem_of_getElem? (i := 11) rfl))) (mvT hZ (hw _ (List.mem_of_getElem? (i := 12) rfl))) (by decide) (backOf (W := 1) (rm4 l Z aa hw [] bits (2 : Int32) T277.heap n0 O277) hZ (hw _ (List.mem_of_getElem? (i := 12) rfl)) (hw _ (List.mem_of_getElem? (i := 11) rfl)) (by decide) (by decide)) (g := (mkF m 46 #[.val (.int cnt), .val (.int bits), .val (.int (8 : Int32)), .val (.ref b268), .unset, .unset] [(.int (2 : Int32)), (.int bits), (.ref b268)])) rfl (by rw [hml]; rfl) (argsL := [(.int bits), (.int (2 : Int32))]) (rest := [(.ref b268)]) (lenOf pd_oIIcZ rfl) rfl (by show 2 * 0 + _ ≤ _; exact Nat.le_of_eq rfl) (hb hby at_46) (fun _ _ => ⟨rfl, rfl, (by decide : 1 + 0 ≤ _), (by decide : 2 + 0 ≤ _)⟩)
    dsimp only [Pt.U, Pt.locs, Pt.cells, Pt.slots] at X282 l282 y282 z282 st282 hQ282
    subst l282 y282 z282
    obtain ⟨rfl, rfl, e282⟩ := hQ282
    try rw [List.append_nil] at X282
    refine Gl.up (B := T282.setTop (mkF m 49 #[.val (.int cnt), .val (.int bits), .val (.int (8 : Int32)), .val (.ref b268), .unset, .unset] [(.int (f4 bits (2 : Int32))), (.ref b268)])) (fun t kt => st282 _ kt) ?_
    have hp284 : own_pres (f4 bits (2 : Int32)) u279 u280 := by rw [hsh281, hsa281]; exact own_pre2 _ (own_cons (f4_b bits (1 : Int32)) (own_cons (f4_b bits (0 : Int32)) own_nil)) _ (own_b01 (f4_b bits (2 : Int32)))
    obtain ⟨cq283, kq283, q283a, q283b, q283c⟩ := isOf hZ e282 E_b268_277
    obtain ⟨_, _, ⟨T283, L283, k283, n283⟩, -, X283, ⟨Lc283, hQ283, l283, y283, z283⟩, st283⟩ := X282.virtualBack hx (y := (⟨"com/example/gallant_courier/gallantcourier/core/LossRate", "sample", "(Z)V"⟩ : MethodName)) (z := (⟨"com/example/gallant_courier/gallantcourier/core/LossRate", "sample", "(Z)V"⟩ : MethodName)) hown (mvT hZ (hw _ (List.mem_of_getElem? (i := 13) rfl))) (mvT hZ (hw _ (List.mem_of_getElem? (i := 14) rfl))) (notFace_of_selects (args := #[]) (mvT hZ (hw _ (List.mem_of_getElem? (i := 16) rfl)))) (mvT hZ (hw _ (List.mem_of_getElem? (i := 16) rfl))) (mvT hZ (hw _ (List.mem_of_getElem? (i := 15) rfl))) (by decide) (backOf (W := 0) (rm2 l Z aa hw [] b268 (f4 bits (2 : Int32)) u279 u280 T277.heap n0 O277 E_b268_277 F_b268_share_277 F_b268_samples_277 g_b268 hp284.1 hp284.2.1 hp284.2.2) hZ (hw _ (List.mem_of_getElem? (i := 17) rfl)) (hw _ (List.mem_of_getElem? (i := 2) rfl)) (by decide) (by decide)) q283a q283c (g := (mkF m 49 #[.val (.int cnt), .val (.int bits), .val (.int (8 : Int32)), .val (.ref b268), .unset, .unset] [(.int (f4 bits (2 : Int32))), (.ref b268)])) rfl (by rw [hml]; rfl) (Steps.refl _) (argsL := [(.int (f4 bits (2 : Int32)))]) (rest := []) (lenOf pd_oZcV rfl) rfl (by show 2 * 0 + _ ≤ _; exact Nat.le_of_eq rfl) (hb hby at_49) (fun _ _ => ⟨rfl, e282, (by decide : 1 + 0 ≤ _), (by decide : 2 + 0 ≤ _)⟩)
    dsimp only [Pt.U, Pt.locs, Pt.cells, Pt.slots] at X283 l283 y283 z283 st283 hQ283
    subst l283 y283 z283
    obtain ⟨rfl, M283, K283, F_b268_share_283, F_b268_samples_283⟩ := hQ283
    have N283 := Fr.app N277 M283
    have O283 := O277.keep K283 (allS g_b268 all0)
    have E_b268_283 := E_b268_277.keep K283
    obtain ⟨u285, hu285⟩ : ∃ q : UInt64, q = (f2_share (f4 bits (2 : Int32)) u279 u280) := ⟨_, rfl⟩
    rw [← hu285] at F_b268_share_283
    obtain ⟨u286, hu286⟩ : ∃ q : Int32, q = (f2_samples (f4 bits (2 : Int32)) u279 u280) := ⟨_, rfl⟩
    rw [← hu286] at F_b268_samples_283
    refine Gl.up (B := T283.setTop (mkF m 52 #[.val (.int cnt), .val (.int bits), .val (.int (8 : Int32)), .val (.ref b268), .unset, .unset] [])) (fun t kt => st283.trans kt) ?_
    have hsh287 : u285 = (own_st [(f4 bits (2 : Int32)), (f4 bits (1 : Int32)), (f4 bits (0 : Int32))]).1 := by rw [hu285, hsh281, hsa281]; exact (own_st1 _ _).symm
    have hsa287 : u286 = (own_st [(f4 bits (2 : Int32)), (f4 bits (1 : Int32)), (f4 bits (0 : Int32))]).2 := by rw [hu286, hsh281, hsa281]; exact (own_st2 _ _).symm
    refine Gl.up (B := T283.setTop (mkF m 60 #[.val (.int cnt), .val (.int bits), .val (.int (8 : Int32)), .val (.ref b268), .unset, .unset] [(.int (3 : Int32)), (.int bits), (.ref b268)])) (fun t kt => ?_) ?_
    · refine XS.iloadN X283.here hx rfl (hb hby at_52) rfl ?_
      show Steps p.tables e below (T283.setTop (mkF m 53 #[.val (.int cnt), .val (.int bits), .val (.int (8 : Int32)), .val (.ref b268), .unset, .unset] [(.int (8 : Int32))])) _
      refine XS.iconst X283.here hx rfl (hb hby at_53) ?_
      show Steps p.tables e below (T283.setTop (mkF m 54 #[.val (.int cnt), .val (.int bits), .val (.int (8 : Int32)), .val (.ref b268), .unset, .unset] [(.int (4 : Int32)), (.int (8 : Int32))])) _
      refine XS.icmpNo X283.here hx rfl (hb hby at_54) rfl (flt (by decide : ¬ ((8 : Int32) < (4 : Int32)))).1 ?_
      show Steps p.tables e below (T283.setTop (mkF m 57 #[.val (.int cnt), .val (.int bits), .val (.int (8 : Int32)), .val (.ref b268), .unset, .unset] [])) _
      refine XS.aloadN X283.here hx rfl (hb hby at_57) rfl rfl ?_
      show Steps p.tables e below (T283.setTop (mkF m 58 #[.val (.int cnt), .val (.int bits), .val (.int (8 : Int32)), .val (.ref b268), .unset, .unset] [(.ref b268)])) _
      refine XS.iloadN X283.here hx rfl (hb hby at_58) rfl ?_
      show Steps p.tables e below (T283.setTop (mkF m 59 #[.val (.int cnt), .val (.int bits), .val (.int (8 : Int32)), .val (.ref b268), .unset, .unset] [(.int bits), (.ref b268)])) _
      refine XS.iconst X283.here hx rfl (hb hby at_59) ?_
      exact kt
    obtain ⟨_, _, ⟨T288, L288, k288, n288⟩, -, X288, ⟨Lc288, hQ288, l288, y288, z288⟩, st288⟩ := Jvm.LawKit.callS X283 hx (y := (⟨"com/example/gallant_courier/gallantcourier/core/LossRateWaitsPerDoublingPinLaw", "bit", "(II)Z"⟩ : MethodName)) hown (mvT hZ (hw _ (List.mem_of_getElem? (i := 9) rfl))) (mvT hZ (hw _ (List.mem_of_getElem? (i := 10) rfl))) (mvT hZ (hw _ (List.mem_of_getElem? (i := 11) rfl))) (mvT hZ (hw _ (List.mem_of_getElem? (i := 12) rfl))) (by decide) (backOf (W := 1) (rm4 l Z aa hw [] bits (3 : Int32) T283.heap n0 O283) hZ (hw _ (List.mem_of_getElem? (i := 12) rfl)) (hw _ (List.mem_of_getElem? (i := 11) rfl)) (by decide) (by decide)) (g := (mkF m 60 #[.val (.int cnt), .val (.int bits), .val (.int (8 : Int32)), .val (.ref b268), .unset, .unset] [(.int (3 : Int32)), (.int bits), (.ref b268)])) rfl (by rw [hml]; rfl) (argsL := [(.int bits), (.int (3 : Int32))]) (rest := [(.ref b268)]) (lenOf pd_oIIcZ rfl) rfl (by show 2 * 0 + _ ≤ _; exact Nat.le_of_eq rfl) (hb hby at_60) (fun _ _ => ⟨rfl, rfl, (by decide : 1 + 0 ≤ _), (by decide : 2 + 0 ≤ _)⟩)
    dsimp only [Pt.U, Pt.locs, Pt.cells, Pt.slots] at X288 l288 y288 z288 st288 hQ288
    subst l288 y288 z288
    obtain ⟨rfl, rfl, e288⟩ := hQ288
    try rw [List.append_nil] at X288
    refine Gl.up (B := T288.setTop (mkF m 63 #[.val (.int cnt), .val (.int bits), .val (.int (8 : Int32)), .val (.ref b268), .unset, .unset] [(.int (f4 bits (3 : Int32))), (.ref b268)])) (fun t kt => st288 _ kt) ?_
    have hp290 : own_pres (f4 bits (3 : Int32)) u285 u286 := by rw [hsh287, hsa287]; exact own_pre3 _ (own_cons (f4_b bits (2 : Int32)) (own_cons (f4_b bits (1 : Int32)) (own_cons (f4_b bits (0 : Int32)) own_nil))) _ (own_b01 (f4_b bits (3 : Int32)))
    obtain ⟨cq289, kq289, q289a, q289b, q289c⟩ := isOf hZ e288 E_b268_283
    obtain ⟨_, _, ⟨T289, L289, k289, n289⟩, -, X289, ⟨Lc289, hQ289, l289, y289, z289⟩, st289⟩ := X288.virtualBack hx (y := (⟨"com/example/gallant_courier/gallantcourier/core/LossRate", "sample", "(Z)V"⟩ : MethodName)) (z := (⟨"com/example/gallant_courier/gallantcourier/core/LossRate", "sample", "(Z)V"⟩ : MethodName)) hown (mvT hZ (hw _ (List.mem_of_getElem? (i := 13) rfl))) (mvT hZ (hw _ (List.mem_of_getElem? (i := 14) rfl))) (notFace_of_selects (args := #[]) (mvT hZ (hw _ (List.mem_of_getElem? (i := 16) rfl)))) (mvT hZ (hw _ (List.mem_of_getElem? (i := 16) rfl))) (mvT hZ (hw _ (List.mem_of_getElem? (i := 15) rfl))) (by decide) (backOf (W := 0) (rm2 l Z aa hw [] b268 (f4 bits (3 : Int32)) u285 u286 T283.heap n0 O283 E_b268_283 F_b268_share_283 F_b268_samples_283 g_b268 hp290.1 hp290.2.1 hp290.2.2) hZ (hw _ (List.mem_of_getElem? (i := 17) rfl)) (hw _ (List.mem_of_getElem? (i := 2) rfl)) (by decide) (by decide)) q289a q289c (g := (mkF m 63 #[.val (.int cnt), .val (.int bits), .val (.int (8 : Int32)), .val (.ref b268), .unset, .unset] [(.int (f4 bits (3 : Int32))), (.ref b268)])) rfl (by rw [hml]; rfl) (Steps.refl _) (argsL := [(.int (f4 bits (3 : Int32)))]) (rest := []) (lenOf pd_oZcV rfl) rfl (by show 2 * 0 + _ ≤ _; exact Nat.le_of_eq rfl) (hb hby at_63) (fun _ _ => ⟨rfl, e288, (by decide : 1 + 0 ≤ _), (by decide : 2 + 0 ≤ _)⟩)
    dsimp only [Pt.U, Pt.locs, Pt.cells, Pt.slots] at X289 l289 y289 z289 st289 hQ289
    subst l289 y289 z289
    obtain ⟨rfl, M289, K289, F_b268_share_289, F_b268_samples_289⟩ := hQ289
    have N289 := Fr.app N283 M289
    have O289 := O283.keep K289 (allS g_b268 all0)
    have E_b268_289 := E_b268_283.keep K289
    obtain ⟨u291, hu291⟩ : ∃ q : UInt64, q = (f2_share (f4 bits (3 : Int32)) u285 u286) := ⟨_, rfl⟩
    rw [← hu291] at F_b268_share_289
    obtain ⟨u292, hu292⟩ : ∃ q : Int32, q = (f2_samples (f4 bits (3 : Int32)) u285 u286) := ⟨_, rfl⟩
    rw [← hu292] at F_b268_samples_289
    refine Gl.up (B := T289.setTop (mkF m 66 #[.val (.int cnt), .val (.int bits), .val (.int (8 : Int32)), .val (.ref b268), .unset, .unset] [])) (fun t kt => st289.trans kt) ?_
    have hsh293 : u291 = (own_st [(f4 bits (3 : Int32)), (f4 bits (2 : Int32)), (f4 bits (1 : Int32)), (f4 bits (0 : Int32))]).1 := by rw [hu291, hsh287, hsa287]; exact (own_st1 _ _).symm
    have hsa293 : u292 = (own_st [(f4 bits (3 : Int32)), (f4 bits (2 : Int32)), (f4 bits (1 : Int32)), (f4 bits (0 : Int32))]).2 := by rw [hu292, hsh287, hsa287]; exact (own_st2 _ _).symm
    refine Gl.up (B := T289.setTop (mkF m 74 #[.val (.int cnt), .val (.int bits), .val (.int (8 : Int32)), .val (.ref b268), .unset, .unset] [(.int (4 : Int32)), (.int bits), (.ref b268)])) (fun t kt => ?_) ?_
    · refine XS.iloadN X289.here hx rfl (hb hby at_66) rfl ?_
      show Steps p.tables e below (T289.setTop (mkF m 67 #[.val (.int cnt), .val (.int bits), .val (.int (8 : Int32)), .val (.ref b268), .unset, .unset] [(.int (8 : Int32))])) _
      refine XS.iconst X289.here hx rfl (hb hby at_67) ?_
      show Steps p.tables e below (T289.setTop (mkF m 68 #[.val (.int cnt), .val (.int bits), .val (.int (8 : Int32)), .val (.ref b268), .unset, .unset] [(.int (5 : Int32)), (.int (8 : Int32))])) _
      refine XS.icmpNo X289.here hx rfl (hb hby at_68) rfl (flt (by decide : ¬ ((8 : Int32) < (5 : Int32)))).1 ?_
      show Steps p.tables e below (T289.setTop (mkF m 71 #[.val (.int cnt), .val (.int bits), .val (.int (8 : Int32)), .val (.ref b268), .unset, .unset] [])) _
      refine XS.aloadN X289.here hx rfl (hb hby at_71) rfl rfl ?_
      show Steps p.tables e below (T289.setTop (mkF m 72 #[.val (.int cnt), .val (.int bits), .val (.int (8 : Int32)), .val (.ref b268), .unset, .unset] [(.ref b268)])) _
      refine XS.iloadN X289.here hx rfl (hb hby at_72) rfl ?_
      show Steps p.tables e below (T289.setTop (mkF m 73 #[.val (.int cnt), .val (.int bits), .val (.int (8 : Int32)), .val (.ref b268), .unset, .unset] [(.int bits), (.ref b268)])) _
      refine XS.iconst X289.here hx rfl (hb hby at_73) ?_
      exact kt
    obtain ⟨_, _, ⟨T294, L294, k294, n294⟩, -, X294, ⟨Lc294, hQ294, l294, y294, z294⟩, st294⟩ := Jvm.LawKit.callS X289 hx (y := (⟨"com/example/gallant_courier/gallantcourier/core/LossRateWaitsPerDoublingPinLaw", "bit", "(II)Z"⟩ : MethodName)) hown (mvT hZ (hw _ (List.mem_of_getElem? (i := 9) rfl))) (mvT hZ (hw _ (List.mem_of_getElem? (i := 10) rfl))) (mvT hZ (hw _ (List.mem_of_getElem? (i := 11) rfl))) (mvT hZ (hw _ (List.mem_of_getElem? (i := 12) rfl))) (by decide) (backOf (W := 1) (rm4 l Z aa hw [] bits (4 : Int32) T289.heap n0 O289) hZ (hw _ (List.mem_of_getElem? (i := 12) rfl)) (hw _ (List.mem_of_getElem? (i := 11) rfl)) (by decide) (by decide)) (g := (mkF m 74 #[.val (.int cnt), .val (.int bits), .val (.int (8 : Int32)), .val (.ref b268), .unset, .unset] [(.int (4 : Int32)), (.int bits), (.ref b268)])) rfl (by rw [hml]; rfl) (argsL := [(.int bits), (.int (4 : Int32))]) (rest := [(.ref b268)]) (lenOf pd_oIIcZ rfl) rfl (by show 2 * 0 + _ ≤ _; exact Nat.le_of_eq rfl) (hb hby at_74) (fun _ _ => ⟨rfl, rfl, (by decide : 1 + 0 ≤ _), (by decide : 2 + 0 ≤ _)⟩)
    dsimp only [Pt.U, Pt.locs, Pt.cells, Pt.slots] at X294 l294 y294 z294 st294 hQ294
    subst l294 y294 z294
    obtain ⟨rfl, rfl, e294⟩ := hQ294
    try rw [List.append_nil] at X294
    refine Gl.up (B := T294.setTop (mkF m 77 #[.val (.int cnt), .val (.int bits), .val (.int (8 : Int32)), .val (.ref b268), .unset, .unset] [(.int (f4 bits (4 : Int32))), (.ref b268)])) (fun t kt => st294 _ kt) ?_
    have hp296 : own_pres (f4 bits (4 : Int32)) u291 u292 := by rw [hsh293, hsa293]; exact own_pre4 _ (own_cons (f4_b bits (3 : Int32)) (own_cons (f4_b bits (2 : Int32)) (own_cons (f4_b bits (1 : Int32)) (own_cons (f4_b bits (0 : Int32)) own_nil)))) _ (own_b01 (f4_b bits (4 : Int32)))
    obtain ⟨cq295, kq295, q295a, q295b, q295c⟩ := isOf hZ e294 E_b268_289
    obtain ⟨_, _, ⟨T295, L295, k295, n295⟩, -, X295, ⟨Lc295, hQ295, l295, y295, z295⟩, st295⟩ := X294.virtualBack hx (y := (⟨"com/example/gallant_courier/gallantcourier/core/LossRate", "sample", "(Z)V"⟩ : MethodName)) (z := (⟨"com/example/gallant_courier/gallantcourier/core/LossRate", "sample", "(Z)V"⟩ : MethodName)) hown (mvT hZ (hw _ (List.mem_of_getElem? (i := 13) rfl))) (mvT hZ (hw _ (List.mem_of_getElem? (i := 14) rfl))) (notFace_of_selects (args := #[]) (mvT hZ (hw _ (List.mem_of_getElem? (i := 16) rfl)))) (mvT hZ (hw _ (List.mem_of_getElem? (i := 16) rfl))) (mvT hZ (hw _ (List.mem_of_getElem? (i := 15) rfl))) (by decide) (backOf (W := 0) (rm2 l Z aa hw [] b268 (f4 bits (4 : Int32)) u291 u292 T289.heap n0 O289 E_b268_289 F_b268_share_289 F_b268_samples_289 g_b268 hp296.1 hp296.2.1 hp296.2.2) hZ (hw _ (List.mem_of_getElem? (i := 17) rfl)) (hw _ (List.mem_of_getElem? (i := 2) rfl)) (by decide) (by decide)) q295a q295c (g := (mkF m 77 #[.val (.int cnt), .val (.int bits), .val (.int (8 : Int32)), .val (.ref b268), .unset, .unset] [(.int (f4 bits (4 : Int32))), (.ref b268)])) rfl (by rw [hml]; rfl) (Steps.refl _) (argsL := [(.int (f4 bits (4 : Int32)))]) (rest := []) (lenOf pd_oZcV rfl) rfl (by show 2 * 0 + _ ≤ _; exact Nat.le_of_eq rfl) (hb hby at_77) (fun _ _ => ⟨rfl, e294, (by decide : 1 + 0 ≤ _), (by decide : 2 + 0 ≤ _)⟩)
    dsimp only [Pt.U, Pt.locs, Pt.cells, Pt.slots] at X295 l295 y295 z295 st295 hQ295
    subst l295 y295 z295
    obtain ⟨rfl, M295, K295, F_b268_share_295, F_b268_samples_295⟩ := hQ295
    have N295 := Fr.app N289 M295
    have O295 := O289.keep K295 (allS g_b268 all0)
    have E_b268_295 := E_b268_289.keep K295
    obtain ⟨u297, hu297⟩ : ∃ q : UInt64, q = (f2_share (f4 bits (4 : Int32)) u291 u292) := ⟨_, rfl⟩
    rw [← hu297] at F_b268_share_295
    obtain ⟨u298, hu298⟩ : ∃ q : Int32, q = (f2_samples (f4 bits (4 : Int32)) u291 u292) := ⟨_, rfl⟩
    rw [← hu298] at F_b268_samples_295
    refine Gl.up (B := T295.setTop (mkF m 80 #[.val (.int cnt), .val (.int bits), .val (.int (8 : Int32)), .val (.ref b268), .unset, .unset] [])) (fun t kt => st295.trans kt) ?_
    have hsh299 : u297 = (own_st [(f4 bits (4 : Int32)), (f4 bits (3 : Int32)), (f4 bits (2 : Int32)), (f4 bits (1 : Int32)), (f4 bits (0 : Int32))]).1 := by rw [hu297, hsh293, hsa293]; exact (own_st1 _ _).symm
    have hsa299 : u298 = (own_st [(f4 bits (4 : Int32)), (f4 bits (3 : Int32)), (f4 bits (2 : Int32)), (f4 bits (1 : Int32)), (f4 bits (0 : Int32))]).2 := by rw [hu298, hsh293, hsa293]; exact (own_st2 _ _).symm
    refine Gl.up (B := T295.setTop (mkF m 89 #[.val (.int cnt), .val (.int bits), .val (.int (8 : Int32)), .val (.ref b268), .unset, .unset] [(.int (5 : Int32)), (.int bits), (.ref b268)])) (fun t kt => ?_) ?_
    · refine XS.iloadN X295.here hx rfl (hb hby at_80) rfl ?_
      show Steps p.tables e below (T295.setTop (mkF m 81 #[.val (.int cnt), .val (.int bits), .val (.int (8 : Int32)), .val (.ref b268), .unset, .unset] [(.int (8 : Int32))])) _
      refine XS.bipush X295.here hx rfl (hb hby at_81) ?_
      show Steps p.tables e below (T295.setTop (mkF m 83 #[.val (.int cnt), .val (.int bits), .val (.int (8 : Int32)), .val (.ref b268), .unset, .unset] [(.int (6 : Int32)), (.int (8 : Int32))])) _
      refine XS.icmpNo X295.here hx rfl (hb hby at_83) rfl (flt (by decide : ¬ ((8 : Int32) < (6 : Int32)))).1 ?_
      show Steps p.tables e below (T295.setTop (mkF m 86 #[.val (.int cnt), .val (.int bits), .val (.int (8 : Int32)), .val (.ref b268), .unset, .unset] [])) _
      refine XS.aloadN X295.here hx rfl (hb hby at_86) rfl rfl ?_
      show Steps p.tables e below (T295.setTop (mkF m 87 #[.val (.int cnt), .val (.int bits), .val (.int (8 : Int32)), .val (.ref b268), .unset, .unset] [(.ref b268)])) _
      refine XS.iloadN X295.here hx rfl (hb hby at_87) rfl ?_
      show Steps p.tables e below (T295.setTop (mkF m 88 #[.val (.int cnt), .val (.int bits), .val (.int (8 : Int32)), .val (.ref b268), .unset, .unset] [(.int bits), (.ref b268)])) _
      refine XS.iconst X295.here hx rfl (hb hby at_88) ?_
      exact kt
    obtain ⟨_, _, ⟨T300, L300, k300, n300⟩, -, X300, ⟨Lc300, hQ300, l300, y300, z300⟩, st300⟩ := Jvm.LawKit.callS X295 hx (y := (⟨"com/example/gallant_courier/gallantcourier/core/LossRateWaitsPerDoublingPinLaw", "bit", "(II)Z"⟩ : MethodName)) hown (mvT hZ (hw _ (List.mem_of_getElem? (i := 9) rfl))) (mvT hZ (hw _ (List.mem_of_getElem? (i := 10) rfl))) (mvT hZ (hw _ (List.mem_of_getElem? (i := 11) rfl))) (mvT hZ (hw _ (List.mem_of_getElem? (i := 12) rfl))) (by decide) (backOf (W := 1) (rm4 l Z aa hw [] bits (5 : Int32) T295.heap n0 O295) hZ (hw _ (List.mem_of_getElem? (i := 12) rfl)) (hw _ (List.mem_of_getElem? (i := 11) rfl)) (by decide) (by decide)) (g := (mkF m 89 #[.val (.int cnt), .val (.int bits), .val (.int (8 : Int32)), .val (.ref b268), .unset, .unset] [(.int (5 : Int32)), (.int bits), (.ref b268)])) rfl (by rw [hml]; rfl) (argsL := [(.int bits), (.int (5 : Int32))]) (rest := [(.ref b268)]) (lenOf pd_oIIcZ rfl) rfl (by show 2 * 0 + _ ≤ _; exact Nat.le_of_eq rfl) (hb hby at_89) (fun _ _ => ⟨rfl, rfl, (by decide : 1 + 0 ≤ _), (by decide : 2 + 0 ≤ _)⟩)
    dsimp only [Pt.U, Pt.locs, Pt.cells, Pt.slots] at X300 l300 y300 z300 st300 hQ300
    subst l300 y300 z300
    obtain ⟨rfl, rfl, e300⟩ := hQ300
    try rw [List.append_nil] at X300
    refine Gl.up (B := T300.setTop (mkF m 92 #[.val (.int cnt), .val (.int bits), .val (.int (8 : Int32)), .val (.ref b268), .unset, .unset] [(.int (f4 bits (5 : Int32))), (.ref b268)])) (fun t kt => st300 _ kt) ?_
    have hp302 : own_pres (f4 bits (5 : Int32)) u297 u298 := by rw [hsh299, hsa299]; exact own_pre5 _ (own_cons (f4_b bits (4 : Int32)) (own_cons (f4_b bits (3 : Int32)) (own_cons (f4_b bits (2 : Int32)) (own_cons (f4_b bits (1 : Int32)) (own_cons (f4_b bits (0 : Int32)) own_nil))))) _ (own_b01 (f4_b bits (5 : Int32)))
    obtain ⟨cq301, kq301, q301a, q301b, q301c⟩ := isOf hZ e300 E_b268_295
    obtain ⟨_, _, ⟨T301, L301, k301, n301⟩, -, X301, ⟨Lc301, hQ301, l301, y301, z301⟩, st301⟩ := X300.virtualBack hx (y := (⟨"com/example/gallant_courier/gallantcourier/core/LossRate", "sample", "(Z)V"⟩ : MethodName)) (z := (⟨"com/example/gallant_courier/gallantcourier/core/LossRate", "sample", "(Z)V"⟩ : MethodName)) hown (mvT hZ (hw _ (List.mem_of_getElem? (i := 13) rfl))) (mvT hZ (hw _ (List.mem_of_getElem? (i := 14) rfl))) (notFace_of_selects (args := #[]) (mvT hZ (hw _ (List.mem_of_getElem? (i := 16) rfl)))) (mvT hZ (hw _ (List.mem_of_getElem? (i := 16) rfl))) (mvT hZ (hw _ (List.mem_of_getElem? (i := 15) rfl))) (by decide) (backOf (W := 0) (rm2 l Z aa hw [] b268 (f4 bits (5 : Int32)) u297 u298 T295.heap n0 O295 E_b268_295 F_b268_share_295 F_b268_samples_295 g_b268 hp302.1 hp302.2.1 hp302.2.2) hZ (hw _ (List.mem_of_getElem? (i := 17) rfl)) (hw _ (List.mem_of_getElem? (i := 2) rfl)) (by decide) (by decide)) q301a q301c (g := (mkF m 92 #[.val (.int cnt), .val (.int bits), .val (.int (8 : Int32)), .val (.ref b268), .unset, .unset] [(.int (f4 bits (5 : Int32))), (.ref b268)])) rfl (by rw [hml]; rfl) (Steps.refl _) (argsL := [(.int (f4 bits (5 : Int32)))]) (rest := []) (lenOf pd_oZcV rfl) rfl (by show 2 * 0 + _ ≤ _; exact Nat.le_of_eq rfl) (hb hby at_92) (fun _ _ => ⟨rfl, e300, (by decide : 1 + 0 ≤ _), (by decide : 2 + 0 ≤ _)⟩)
    dsimp only [Pt.U, Pt.locs, Pt.cells, Pt.slots] at X301 l301 y301 z301 st301 hQ301
    subst l301 y301 z301
    obtain ⟨rfl, M301, K301, F_b268_share_301, F_b268_samples_301⟩ := hQ301
    have N301 := Fr.app N295 M301
    have O301 := O295.keep K301 (allS g_b268 all0)
    have E_b268_301 := E_b268_295.keep K301
    obtain ⟨u303, hu303⟩ : ∃ q : UInt64, q = (f2_share (f4 bits (5 : Int32)) u297 u298) := ⟨_, rfl⟩
    rw [← hu303] at F_b268_share_301
    obtain ⟨u304, hu304⟩ : ∃ q : Int32, q = (f2_samples (f4 bits (5 : Int32)) u297 u298) := ⟨_, rfl⟩
    rw [← hu304] at F_b268_samples_301
    refine Gl.up (B := T301.setTop (mkF m 95 #[.val (.int cnt), .val (.int bits), .val (.int (8 : Int32)), .val (.ref b268), .unset, .unset] [])) (fun t kt => st301.trans kt) ?_
    have hsh305 : u303 = (own_st [(f4 bits (5 : Int32)), (f4 bits (4 : Int32)), (f4 bits (3 : Int32)), (f4 bits (2 : Int32)), (f4 bits (1 : Int32)), (f4 bits (0 : Int32))]).1 := by rw [hu303, hsh299, hsa299]; exact (own_st1 _ _).symm
    have hsa305 : u304 = (own_st [(f4 bits (5 : Int32)), (f4 bits (4 : Int32)), (f4 bits (3 : Int32)), (f4 bits (2 : Int32)), (f4 bits (1 : Int32)), (f4 bits (0 : Int32))]).2 := by rw [hu304, hsh299, hsa299]; exact (own_st2 _ _).symm
    refine Gl.up (B := T301.setTop (mkF m 105 #[.val (.int cnt), .val (.int bits), .val (.int (8 : Int32)), .val (.ref b268), .unset, .unset] [(.int (6 : Int32)), (.int bits), (.ref b268)])) (fun t kt => ?_) ?_
    · refine XS.iloadN X301.here hx rfl (hb hby at_95) rfl ?_
      show Steps p.tables e below (T301.setTop (mkF m 96 #[.val (.int cnt), .val (.int bits), .val (.int (8 : Int32)), .val (.ref b268), .unset, .unset] [(.int (8 : Int32))])) _
      refine XS.bipush X301.here hx rfl (hb hby at_96) ?_
      show Steps p.tables e below (T301.setTop (mkF m 98 #[.val (.int cnt), .val (.int bits), .val (.int (8 : Int32)), .val (.ref b268), .unset, .unset] [(.int (7 : Int32)), (.int (8 : Int32))])) _
      refine XS.icmpNo X301.here hx rfl (hb hby at_98) rfl (flt (by decide : ¬ ((8 : Int32) < (7 : Int32)))).1 ?_
      show Steps p.tables e below (T301.setTop (mkF m 101 #[.val (.int cnt), .val (.int bits), .val (.int (8 : Int32)), .val (.ref b268), .unset, .unset] [])) _
      refine XS.aloadN X301.here hx rfl (hb hby at_101) rfl rfl ?_
      show Steps p.tables e below (T301.setTop (mkF m 102 #[.val (.int cnt), .val (.int bits), .val (.int (8 : Int32)), .val (.ref b268), .unset, .unset] [(.ref b268)])) _
      refine XS.iloadN X301.here hx rfl (hb hby at_102) rfl ?_
      show Steps p.tables e below (T301.setTop (mkF m 103 #[.val (.int cnt), .val (.int bits), .val (.int (8 : Int32)), .val (.ref b268), .unset, .unset] [(.int bits), (.ref b268)])) _
      refine XS.bipush X301.here hx rfl (hb hby at_103) ?_
      exact kt
    obtain ⟨_, _, ⟨T306, L306, k306, n306⟩, -, X306, ⟨Lc306, hQ306, l306, y306, z306⟩, st306⟩ := Jvm.LawKit.callS X301 hx (y := (⟨"com/example/gallant_courier/gallantcourier/core/LossRateWaitsPerDoublingPinLaw", "bit", "(II)Z"⟩ : MethodName)) hown (mvT hZ (hw _ (List.mem_of_getElem? (i := 9) rfl))) (mvT hZ (hw _ (List.mem_of_getElem? (i := 10) rfl))) (mvT hZ (hw _ (List.mem_of_getElem? (i := 11) rfl))) (mvT hZ (hw _ (List.mem_of_getElem? (i := 12) rfl))) (by decide) (backOf (W := 1) (rm4 l Z aa hw [] bits (6 : Int32) T301.heap n0 O301) hZ (hw _ (List.mem_of_getElem? (i := 12) rfl)) (hw _ (List.mem_of_getElem? (i := 11) rfl)) (by decide) (by decide)) (g := (mkF m 105 #[.val (.int cnt), .val (.int bits), .val (.int (8 : Int32)), .val (.ref b268), .unset, .unset] [(.int (6 : Int32)), (.int bits), (.ref b268)])) rfl (by rw [hml]; rfl) (argsL := [(.int bits), (.int (6 : Int32))]) (rest := [(.ref b268)]) (lenOf pd_oIIcZ rfl) rfl (by show 2 * 0 + _ ≤ _; exact Nat.le_of_eq rfl) (hb hby at_105) (fun _ _ => ⟨rfl, rfl, (by decide : 1 + 0 ≤ _), (by decide : 2 + 0 ≤ _)⟩)
    dsimp only [Pt.U, Pt.locs, Pt.cells, Pt.slots] at X306 l306 y306 z306 st306 hQ306
    subst l306 y306 z306
    obtain ⟨rfl, rfl, e306⟩ := hQ306
    try rw [List.append_nil] at X306
    refine Gl.up (B := T306.setTop (mkF m 108 #[.val (.int cnt), .val (.int bits), .val (.int (8 : Int32)), .val (.ref b268), .unset, .unset] [(.int (f4 bits (6 : Int32))), (.ref b268)])) (fun t kt => st306 _ kt) ?_
    have hp308 : own_pres (f4 bits (6 : Int32)) u303 u304 := by rw [hsh305, hsa305]; exact own_pre6 _ (own_cons (f4_b bits (5 : Int32)) (own_cons (f4_b bits (4 : Int32)) (own_cons (f4_b bits (3 : Int32)) (own_cons (f4_b bits (2 : Int32)) (own_cons (f4_b bits (1 : Int32)) (own_cons (f4_b bits (0 : Int32)) own_nil)))))) _ (own_b01 (f4_b bits (6 : Int32)))
    obtain ⟨cq307, kq307, q307a, q307b, q307c⟩ := isOf hZ e306 E_b268_301
    obtain ⟨_, _, ⟨T307, L307, k307, n307⟩, -, X307, ⟨Lc307, hQ307, l307, y307, z307⟩, st307⟩ := X306.virtualBack hx (y := (⟨"com/example/gallant_courier/gallantcourier/core/LossRate", "sample", "(Z)V"⟩ : MethodName)) (z := (⟨"com/example/gallant_courier/gallantcourier/core/LossRate", "sample", "(Z)V"⟩ : MethodName)) hown (mvT hZ (hw _ (List.mem_of_getElem? (i := 13) rfl))) (mvT hZ (hw _ (List.mem_of_getElem? (i := 14) rfl))) (notFace_of_selects (args := #[]) (mvT hZ (hw _ (List.mem_of_getElem? (i := 16) rfl)))) (mvT hZ (hw _ (List.mem_of_getElem? (i := 16) rfl))) (mvT hZ (hw _ (List.mem_of_getElem? (i := 15) rfl))) (by decide) (backOf (W := 0) (rm2 l Z aa hw [] b268 (f4 bits (6 : Int32)) u303 u304 T301.heap n0 O301 E_b268_301 F_b268_share_301 F_b268_samples_301 g_b268 hp308.1 hp308.2.1 hp308.2.2) hZ (hw _ (List.mem_of_getElem? (i := 17) rfl)) (hw _ (List.mem_of_getElem? (i := 2) rfl)) (by decide) (by decide)) q307a q307c (g := (mkF m 108 #[.val (.int cnt), .val (.int bits), .val (.int (8 : Int32)), .val (.ref b268), .unset, .unset] [(.int (f4 bits (6 : Int32))), (.ref b268)])) rfl (by rw [hml]; rfl) (Steps.refl _) (argsL := [(.int (f4 bits (6 : Int32)))]) (rest := []) (lenOf pd_oZcV rfl) rfl (by show 2 * 0 + _ ≤ _; exact Nat.le_of_eq rfl) (hb hby at_108) (fun _ _ => ⟨rfl, e306, (by decide : 1 + 0 ≤ _), (by decide : 2 + 0 ≤ _)⟩)
    dsimp only [Pt.U, Pt.locs, Pt.cells, Pt.slots] at X307 l307 y307 z307 st307 hQ307
    subst l307 y307 z307
    obtain ⟨rfl, M307, K307, F_b268_share_307, F_b268_samples_307⟩ := hQ307
    have N307 := Fr.app N301 M307
    have O307 := O301.keep K307 (allS g_b268 all0)
    have E_b268_307 := E_b268_301.keep K307
    obtain ⟨u309, hu309⟩ : ∃ q : UInt64, q = (f2_share (f4 bits (6 : Int32)) u303 u304) := ⟨_, rfl⟩
    rw [← hu309] at F_b268_share_307
    obtain ⟨u310, hu310⟩ : ∃ q : Int32, q = (f2_samples (f4 bits (6 : Int32)) u303 u304) := ⟨_, rfl⟩
    rw [← hu310] at F_b268_samples_307
    refine Gl.up (B := T307.setTop (mkF m 111 #[.val (.int cnt), .val (.int bits), .val (.int (8 : Int32)), .val (.ref b268), .unset, .unset] [])) (fun t kt => st307.trans kt) ?_
    have hsh311 : u309 = (own_st [(f4 bits (6 : Int32)), (f4 bits (5 : Int32)), (f4 bits (4 : Int32)), (f4 bits (3 : Int32)), (f4 bits (2 : Int32)), (f4 bits (1 : Int32)), (f4 bits (0 : Int32))]).1 := by rw [hu309, hsh305, hsa305]; exact (own_st1 _ _).symm
    have hsa311 : u310 = (own_st [(f4 bits (6 : Int32)), (f4 bits (5 : Int32)), (f4 bits (4 : Int32)), (f4 bits (3 : Int32)), (f4 bits (2 : Int32)), (f4 bits (1 : Int32)), (f4 bits (0 : Int32))]).2 := by rw [hu310, hsh305, hsa305]; exact (own_st2 _ _).symm
    refine Gl.up (B := T307.setTop (mkF m 121 #[.val (.int cnt), .val (.int bits), .val (.int (8 : Int32)), .val (.ref b268), .unset, .unset] [(.int (7 : Int32)), (.int bits), (.ref b268)])) (fun t kt => ?_) ?_
    · refine XS.iloadN X307.here hx rfl (hb hby at_111) rfl ?_
      show Steps p.tables e below (T307.setTop (mkF m 112 #[.val (.int cnt), .val (.int bits), .val (.int (8 : Int32)), .val (.ref b268), .unset, .unset] [(.int (8 : Int32))])) _
      refine XS.bipush X307.here hx rfl (hb hby at_112) ?_
      show Steps p.tables e below (T307.setTop (mkF m 114 #[.val (.int cnt), .val (.int bits), .val (.int (8 : Int32)), .val (.ref b268), .unset, .unset] [(.int (8 : Int32)), (.int (8 : Int32))])) _
      refine XS.icmpNo X307.here hx rfl (hb hby at_114) rfl (flt (by decide : ¬ ((8 : Int32) < (8 : Int32)))).1 ?_
      show Steps p.tables e below (T307.setTop (mkF m 117 #[.val (.int cnt), .val (.int bits), .val (.int (8 : Int32)), .val (.ref b268), .unset, .unset] [])) _
      refine XS.aloadN X307.here hx rfl (hb hby at_117) rfl rfl ?_
      show Steps p.tables e below (T307.setTop (mkF m 118 #[.val (.int cnt), .val (.int bits), .val (.int (8 : Int32)), .val (.ref b268), .unset, .unset] [(.ref b268)])) _
      refine XS.iloadN X307.here hx rfl (hb hby at_118) rfl ?_
      show Steps p.tables e below (T307.setTop (mkF m 119 #[.val (.int cnt), .val (.int bits), .val (.int (8 : Int32)), .val (.ref b268), .unset, .unset] [(.int bits), (.ref b268)])) _
      refine XS.bipush X307.here hx rfl (hb hby at_119) ?_
      exact kt
    obtain ⟨_, _, ⟨T312, L312, k312, n312⟩, -, X312, ⟨Lc312, hQ312, l312, y312, z312⟩, st312⟩ := Jvm.LawKit.callS X307 hx (y := (⟨"com/example/gallant_courier/gallantcourier/core/LossRateWaitsPerDoublingPinLaw", "bit", "(II)Z"⟩ : MethodName)) hown (mvT hZ (hw _ (List.mem_of_getElem? (i := 9) rfl))) (mvT hZ (hw _ (List.mem_of_getElem? (i := 10) rfl))) (mvT hZ (hw _ (List.mem_of_getElem? (i := 11) rfl))) (mvT hZ (hw _ (List.mem_of_getElem? (i := 12) rfl))) (by decide) (backOf (W := 1) (rm4 l Z aa hw [] bits (7 : Int32) T307.heap n0 O307) hZ (hw _ (List.mem_of_getElem? (i := 12) rfl)) (hw _ (List.mem_of_getElem? (i := 11) rfl)) (by decide) (by decide)) (g := (mkF m 121 #[.val (.int cnt), .val (.int bits), .val (.int (8 : Int32)), .val (.ref b268), .unset, .unset] [(.int (7 : Int32)), (.int bits), (.ref b268)])) rfl (by rw [hml]; rfl) (argsL := [(.int bits), (.int (7 : Int32))]) (rest := [(.ref b268)]) (lenOf pd_oIIcZ rfl) rfl (by show 2 * 0 + _ ≤ _; exact Nat.le_of_eq rfl) (hb hby at_121) (fun _ _ => ⟨rfl, rfl, (by decide : 1 + 0 ≤ _), (by decide : 2 + 0 ≤ _)⟩)
    dsimp only [Pt.U, Pt.locs, Pt.cells, Pt.slots] at X312 l312 y312 z312 st312 hQ312
    subst l312 y312 z312
    obtain ⟨rfl, rfl, e312⟩ := hQ312
    try rw [List.append_nil] at X312
    refine Gl.up (B := T312.setTop (mkF m 124 #[.val (.int cnt), .val (.int bits), .val (.int (8 : Int32)), .val (.ref b268), .unset, .unset] [(.int (f4 bits (7 : Int32))), (.ref b268)])) (fun t kt => st312 _ kt) ?_
    have hp314 : own_pres (f4 bits (7 : Int32)) u309 u310 := by rw [hsh311, hsa311]; exact own_pre7 _ (own_cons (f4_b bits (6 : Int32)) (own_cons (f4_b bits (5 : Int32)) (own_cons (f4_b bits (4 : Int32)) (own_cons (f4_b bits (3 : Int32)) (own_cons (f4_b bits (2 : Int32)) (own_cons (f4_b bits (1 : Int32)) (own_cons (f4_b bits (0 : Int32)) own_nil))))))) _ (own_b01 (f4_b bits (7 : Int32)))
    obtain ⟨cq313, kq313, q313a, q313b, q313c⟩ := isOf hZ e312 E_b268_307
    obtain ⟨_, _, ⟨T313, L313, k313, n313⟩, -, X313, ⟨Lc313, hQ313, l313, y313, z313⟩, st313⟩ := X312.virtualBack hx (y := (⟨"com/example/gallant_courier/gallantcourier/core/LossRate", "sample", "(Z)V"⟩ : MethodName)) (z := (⟨"com/example/gallant_courier/gallantcourier/core/LossRate", "sample", "(Z)V"⟩ : MethodName)) hown (mvT hZ (hw _ (List.mem_of_getElem? (i := 13) rfl))) (mvT hZ (hw _ (List.mem_of_getElem? (i := 14) rfl))) (notFace_of_selects (args := #[]) (mvT hZ (hw _ (List.mem_of_getElem? (i := 16) rfl)))) (mvT hZ (hw _ (List.mem_of_getElem? (i := 16) rfl))) (mvT hZ (hw _ (List.mem_of_getElem? (i := 15) rfl))) (by decide) (backOf (W := 0) (rm2 l Z aa hw [] b268 (f4 bits (7 : Int32)) u309 u310 T307.heap n0 O307 E_b268_307 F_b268_share_307 F_b268_samples_307 g_b268 hp314.1 hp314.2.1 hp314.2.2) hZ (hw _ (List.mem_of_getElem? (i := 17) rfl)) (hw _ (List.mem_of_getElem? (i := 2) rfl)) (by decide) (by decide)) q313a q313c (g := (mkF m 124 #[.val (.int cnt), .val (.int bits), .val (.int (8 : Int32)), .val (.ref b268), .unset, .unset] [(.int (f4 bits (7 : Int32))), (.ref b268)])) rfl (by rw [hml]; rfl) (Steps.refl _) (argsL := [(.int (f4 bits (7 : Int32)))]) (rest := []) (lenOf pd_oZcV rfl) rfl (by show 2 * 0 + _ ≤ _; exact Nat.le_of_eq rfl) (hb hby at_124) (fun _ _ => ⟨rfl, e312, (by decide : 1 + 0 ≤ _), (by decide : 2 + 0 ≤ _)⟩)
    dsimp only [Pt.U, Pt.locs, Pt.cells, Pt.slots] at X313 l313 y313 z313 st313 hQ313
    subst l313 y313 z313
    obtain ⟨rfl, M313, K313, F_b268_share_313, F_b268_samples_313⟩ := hQ313
    have N313 := Fr.app N307 M313
    have O313 := O307.keep K313 (allS g_b268 all0)
    have E_b268_313 := E_b268_307.keep K313
    obtain ⟨u315, hu315⟩ : ∃ q : UInt64, q = (f2_share (f4 bits (7 : Int32)) u309 u310) := ⟨_, rfl⟩
    rw [← hu315] at F_b268_share_313
    obtain ⟨u316, hu316⟩ : ∃ q : Int32, q = (f2_samples (f4 bits (7 : Int32)) u309 u310) := ⟨_, rfl⟩
    rw [← hu316] at F_b268_samples_313
    refine Gl.up (B := T313.setTop (mkF m 127 #[.val (.int cnt), .val (.int bits), .val (.int (8 : Int32)), .val (.ref b268), .unset, .unset] [])) (fun t kt => st313.trans kt) ?_
    have hsh317 : u315 = (own_st [(f4 bits (7 : Int32)), (f4 bits (6 : Int32)), (f4 bits (5 : Int32)), (f4 bits (4 : Int32)), (f4 bits (3 : Int32)), (f4 bits (2 : Int32)), (f4 bits (1 : Int32)), (f4 bits (0 : Int32))]).1 := by rw [hu315, hsh311, hsa311]; exact (own_st1 _ _).symm
    have hsa317 : u316 = (own_st [(f4 bits (7 : Int32)), (f4 bits (6 : Int32)), (f4 bits (5 : Int32)), (f4 bits (4 : Int32)), (f4 bits (3 : Int32)), (f4 bits (2 : Int32)), (f4 bits (1 : Int32)), (f4 bits (0 : Int32))]).2 := by rw [hu316, hsh311, hsa311]; exact (own_st2 _ _).symm
    refine Gl.up (B := T313.setTop (mkF m 128 #[.val (.int cnt), .val (.int bits), .val (.int (8 : Int32)), .val (.ref b268), .unset, .unset] [(.ref b268)])) (fun t kt => ?_) ?_
    · refine XS.aloadN X313.here hx rfl (hb hby at_127) rfl rfl ?_
      exact kt
    have hw8 : own_prew u315 := by rw [hsh317]; exact own_w8 _ (own_cons (f4_b bits (7 : Int32)) (own_cons (f4_b bits (6 : Int32)) (own_cons (f4_b bits (5 : Int32)) (own_cons (f4_b bits (4 : Int32)) (own_cons (f4_b bits (3 : Int32)) (own_cons (f4_b bits (2 : Int32)) (own_cons (f4_b bits (1 : Int32)) (own_cons (f4_b bits (0 : Int32)) own_nil))))))))
    obtain ⟨cq318, kq318, q318a, q318b, q318c⟩ := isOf hZ rfl E_b268_313
    obtain ⟨_, _, ⟨T318, L318, k318, n318⟩, -, X318, ⟨Lc318, hQ318, l318, y318, z318⟩, st318⟩ := X313.virtualBack hx (y := (⟨"com/example/gallant_courier/gallantcourier/core/LossRate", "waitsPerDoubling", "()I"⟩ : MethodName)) (z := (⟨"com/example/gallant_courier/gallantcourier/core/LossRate", "waitsPerDoubling", "()I"⟩ : MethodName)) hown (mvT hZ (hw _ (List.mem_of_getElem? (i := 22) rfl))) (mvT hZ (hw _ (List.mem_of_getElem? (i := 23) rfl))) (notFace_of_selects (args := #[]) (mvT hZ (hw _ (List.mem_of_getElem? (i := 25) rfl)))) (mvT hZ (hw _ (List.mem_of_getElem? (i := 25) rfl))) (mvT hZ (hw _ (List.mem_of_getElem? (i := 24) rfl))) (by decide) (backOf (W := 0) (rm3 l Z aa hw [] b268 u315 u316 T313.heap n0 O313 E_b268_313 F_b268_share_313 F_b268_samples_313 hw8.1 hw8.2.1 hw8.2.2.1 hw8.2.2.2.1 hw8.2.2.2.2.1 hw8.2.2.2.2.2.1 hw8.2.2.2.2.2.2.1 hw8.2.2.2.2.2.2.2.1 hw8.2.2.2.2.2.2.2.2.1 hw8.2.2.2.2.2.2.2.2.2) hZ (hw _ (List.mem_of_getElem? (i := 26) rfl)) (hw _ (List.mem_of_getElem? (i := 2) rfl)) (by decide) (by decide)) q318a q318c (g := (mkF m 128 #[.val (.int cnt), .val (.int bits), .val (.int (8 : Int32)), .val (.ref b268), .unset, .unset] [(.ref b268)])) rfl (by rw [hml]; rfl) (Steps.refl _) (argsL := []) (rest := []) (lenOf pd_ocI rfl) rfl (by show 2 * 0 + _ ≤ _; exact Nat.le_of_eq rfl) (hb hby at_128) (fun _ _ => ⟨rfl, rfl, (by decide : 1 + 0 ≤ _), (by decide : 2 + 0 ≤ _)⟩)
    dsimp only [Pt.U, Pt.locs, Pt.cells, Pt.slots] at X318 l318 y318 z318 st318 hQ318
    subst l318 y318 z318
    obtain ⟨rfl, rfl, e318⟩ := hQ318
    try rw [List.append_nil] at X318
    refine Gl.up (B := T318.setTop (mkF m 131 #[.val (.int cnt), .val (.int bits), .val (.int (8 : Int32)), .val (.ref b268), .unset, .unset] [(.int (f3 u315 u316))])) (fun t kt => st318.trans kt) ?_
    refine Gl.up (B := T318.setTop (mkF m 136 #[.val (.int cnt), .val (.int bits), .val (.int (8 : Int32)), .val (.ref b268), .val (.int (f3 u315 u316)), .unset] [(.int (8 : Int32)), (.int (0 : Int32)), (.int bits)])) (fun t kt => ?_) ?_
    · refine XS.istore X318.here hx rfl (hb hby at_131) rfl (l' := #[.val (.int cnt), .val (.int bits), .val (.int (8 : Int32)), .val (.ref b268), .val (.int (f3 u315 u316)), .unset]) rfl ?_
      show Steps p.tables e below (T318.setTop (mkF m 133 #[.val (.int cnt), .val (.int bits), .val (.int (8 : Int32)), .val (.ref b268), .val (.int (f3 u315 u316)), .unset] [])) _
      refine XS.iloadN X318.here hx rfl (hb hby at_133) rfl ?_
      show Steps p.tables e below (T318.setTop (mkF m 134 #[.val (.int cnt), .val (.int bits), .val (.int (8 : Int32)), .val (.ref b268), .val (.int (f3 u315 u316)), .unset] [(.int bits)])) _
      refine XS.iconst X318.here hx rfl (hb hby at_134) ?_
      show Steps p.tables e below (T318.setTop (mkF m 135 #[.val (.int cnt), .val (.int bits), .val (.int (8 : Int32)), .val (.ref b268), .val (.int (f3 u315 u316)), .unset] [(.int (0 : Int32)), (.int bits)])) _
      refine XS.iloadN X318.here hx rfl (hb hby at_135) rfl ?_
      exact kt
    obtain ⟨_, _, ⟨T319, L319, k319, n319⟩, -, X319, ⟨Lc319, hQ319, l319, y319, z319⟩, st319⟩ := Jvm.LawKit.callS X318 hx (y := (⟨"com/example/gallant_courier/gallantcourier/core/LossRateWaitsPerDoublingPinLaw", "one", "(III)I"⟩ : MethodName)) hown (mvT hZ (hw _ (List.mem_of_getElem? (i := 28) rfl))) (mvT hZ (hw _ (List.mem_of_getElem? (i := 29) rfl))) (mvT hZ (hw _ (List.mem_of_getElem? (i := 11) rfl))) (mvT hZ (hw _ (List.mem_of_getElem? (i := 30) rfl))) (by decide) (backOf (W := 0) (rm5 l Z aa hw [] bits (0 : Int32) (8 : Int32) T313.heap n0 O313) hZ (hw _ (List.mem_of_getElem? (i := 30) rfl)) (hw _ (List.mem_of_getElem? (i := 11) rfl)) (by decide) (by decide)) (g := (mkF m 136 #[.val (.int cnt), .val (.int bits), .val (.int (8 : Int32)), .val (.ref b268), .val (.int (f3 u315 u316)), .unset] [(.int (8 : Int32)), (.int (0 : Int32)), (.int bits)])) rfl (by rw [hml]; rfl) (argsL := [(.int bits), (.int (0 : Int32)), (.int (8 : Int32))]) (rest := []) (lenOf pd_oIIIcI rfl) rfl (by show 2 * 0 + _ ≤ _; exact Nat.le_of_eq rfl) (hb hby at_136) (fun _ _ => ⟨rfl, e318, (by decide : 1 + 0 ≤ _), (by decide : 2 + 0 ≤ _)⟩)
    dsimp only [Pt.U, Pt.locs, Pt.cells, Pt.slots] at X319 l319 y319 z319 st319 hQ319
    subst l319 y319 z319
    obtain ⟨rfl, rfl, e319⟩ := hQ319
    try rw [List.append_nil] at X319
    refine Gl.up (B := T319.setTop (mkF m 139 #[.val (.int cnt), .val (.int bits), .val (.int (8 : Int32)), .val (.ref b268), .val (.int (f3 u315 u316)), .unset] [(.int (f5 bits (0 : Int32) (8 : Int32)))])) (fun t kt => st319 _ kt) ?_
    refine Gl.up (B := T319.setTop (mkF m 142 #[.val (.int cnt), .val (.int bits), .val (.int (8 : Int32)), .val (.ref b268), .val (.int (f3 u315 u316)), .unset] [(.int (8 : Int32)), (.int (1 : Int32)), (.int bits), (.int (f5 bits (0 : Int32) (8 : Int32)))])) (fun t kt => ?_) ?_
    · refine XS.iloadN X319.here hx rfl (hb hby at_139) rfl ?_
      show Steps p.tables e below (T319.setTop (mkF m 140 #[.val (.int cnt), .val (.int bits), .val (.int (8 : Int32)), .val (.ref b268), .val (.int (f3 u315 u316)), .unset] [(.int bits), (.int (f5 bits (0 : Int32) (8 : Int32)))])) _
      refine XS.iconst X319.here hx rfl (hb hby at_140) ?_
      show Steps p.tables e below (T319.setTop (mkF m 141 #[.val (.int cnt), .val (.int bits), .val (.int (8 : Int32)), .val (.ref b268), .val (.int (f3 u315 u316)), .unset] [(.int (1 : Int32)), (.int bits), (.int (f5 bits (0 : Int32) (8 : Int32)))])) _
      refine XS.iloadN X319.here hx rfl (hb hby at_141) rfl ?_
      exact kt
    obtain ⟨_, _, ⟨T320, L320, k320, n320⟩, -, X320, ⟨Lc320, hQ320, l320, y320, z320⟩, st320⟩ := Jvm.LawKit.callS X319 hx (y := (⟨"com/example/gallant_courier/gallantcourier/core/LossRateWaitsPerDoublingPinLaw", "one", "(III)I"⟩ : MethodName)) hown (mvT hZ (hw _ (List.mem_of_getElem? (i := 28) rfl))) (mvT hZ (hw _ (List.mem_of_getElem? (i := 29) rfl))) (mvT hZ (hw _ (List.mem_of_getElem? (i := 11) rfl))) (mvT hZ (hw _ (List.mem_of_getElem? (i := 30) rfl))) (by decide) (backOf (W := 1) (rm5 l Z aa hw [] bits (1 : Int32) (8 : Int32) T313.heap n0 O313) hZ (hw _ (List.mem_of_getElem? (i := 30) rfl)) (hw _ (List.mem_of_getElem? (i := 11) rfl)) (by decide) (by decide)) (g := (mkF m 142 #[.val (.int cnt), .val (.int bits), .val (.int (8 : Int32)), .val (.ref b268), .val (.int (f3 u315 u316)), .unset] [(.int (8 : Int32)), (.int (1 : Int32)), (.int bits), (.int (f5 bits (0 : Int32) (8 : Int32)))])) rfl (by rw [hml]; rfl) (argsL := [(.int bits), (.int (1 : Int32)), (.int (8 : Int32))]) (rest := [(.int (f5 bits (0 : Int32) (8 : Int32)))]) (lenOf pd_oIIIcI rfl) rfl (by show 2 * 0 + _ ≤ _; exact Nat.le_of_eq rfl) (hb hby at_142) (fun _ _ => ⟨rfl, e319, (by decide : 1 + 0 ≤ _), (by decide : 2 + 0 ≤ _)⟩)
    dsimp only [Pt.U, Pt.locs, Pt.cells, Pt.slots] at X320 l320 y320 z320 st320 hQ320
    subst l320 y320 z320
    obtain ⟨rfl, rfl, e320⟩ := hQ320
    try rw [List.append_nil] at X320
    refine Gl.up (B := T320.setTop (mkF m 145 #[.val (.int cnt), .val (.int bits), .val (.int (8 : Int32)), .val (.ref b268), .val (.int (f3 u315 u316)), .unset] [(.int (f5 bits (1 : Int32) (8 : Int32))), (.int (f5 bits (0 : Int32) (8 : Int32)))])) (fun t kt => st320 _ kt) ?_
    refine Gl.up (B := T320.setTop (mkF m 149 #[.val (.int cnt), .val (.int bits), .val (.int (8 : Int32)), .val (.ref b268), .val (.int (f3 u315 u316)), .unset] [(.int (8 : Int32)), (.int (2 : Int32)), (.int bits), (.int ((f5 bits (0 : Int32) (8 : Int32)) + (f5 bits (1 : Int32) (8 : Int32))))])) (fun t kt => ?_) ?_
    · refine XS.iadd X320.here hx rfl (hb hby at_145) rfl ?_
      show Steps p.tables e below (T320.setTop (mkF m 146 #[.val (.int cnt), .val (.int bits), .val (.int (8 : Int32)), .val (.ref b268), .val (.int (f3 u315 u316)), .unset] [(.int ((f5 bits (0 : Int32) (8 : Int32)) + (f5 bits (1 : Int32) (8 : Int32))))])) _
      refine XS.iloadN X320.here hx rfl (hb hby at_146) rfl ?_
      show Steps p.tables e below (T320.setTop (mkF m 147 #[.val (.int cnt), .val (.int bits), .val (.int (8 : Int32)), .val (.ref b268), .val (.int (f3 u315 u316)), .unset] [(.int bits), (.int ((f5 bits (0 : Int32) (8 : Int32)) + (f5 bits (1 : Int32) (8 : Int32))))])) _
      refine XS.iconst X320.here hx rfl (hb hby at_147) ?_
      show Steps p.tables e below (T320.setTop (mkF m 148 #[.val (.int cnt), .val (.int bits), .val (.int (8 : Int32)), .val (.ref b268), .val (.int (f3 u315 u316)), .unset] [(.int (2 : Int32)), (.int bits), (.int ((f5 bits (0 : Int32) (8 : Int32)) + (f5 bits (1 : Int32) (8 : Int32))))])) _
      refine XS.iloadN X320.here hx rfl (hb hby at_148) rfl ?_
      exact kt
    obtain ⟨_, _, ⟨T321, L321, k321, n321⟩, -, X321, ⟨Lc321, hQ321, l321, y321, z321⟩, st321⟩ := Jvm.LawKit.callS X320 hx (y := (⟨"com/example/gallant_courier/gallantcourier/core/LossRateWaitsPerDoublingPinLaw", "one", "(III)I"⟩ : MethodName)) hown (mvT hZ (hw _ (List.mem_of_getElem? (i := 28) rfl))) (mvT hZ (hw _ (List.mem_of_getElem? (i := 29) rfl))) (mvT hZ (hw _ (List.mem_of_getElem? (i := 11) rfl))) (mvT hZ (hw _ (List.mem_of_getElem? (i := 30) rfl))) (by decide) (backOf (W := 1) (rm5 l Z aa hw [] bits (2 : Int32) (8 : Int32) T313.heap n0 O313) hZ (hw _ (List.mem_of_getElem? (i := 30) rfl)) (hw _ (List.mem_of_getElem? (i := 11) rfl)) (by decide) (by decide)) (g := (mkF m 149 #[.val (.int cnt), .val (.int bits), .val (.int (8 : Int32)), .val (.ref b268), .val (.int (f3 u315 u316)), .unset] [(.int (8 : Int32)), (.int (2 : Int32)), (.int bits), (.int ((f5 bits (0 : Int32) (8 : Int32)) + (f5 bits (1 : Int32) (8 : Int32))))])) rfl (by rw [hml]; rfl) (argsL := [(.int bits), (.int (2 : Int32)), (.int (8 : Int32))]) (rest := [(.int ((f5 bits (0 : Int32) (8 : Int32)) + (f5 bits (1 : Int32) (8 : Int32))))]) (lenOf pd_oIIIcI rfl) rfl (by show 2 * 0 + _ ≤ _; exact Nat.le_of_eq rfl) (hb hby at_149) (fun _ _ => ⟨rfl, e320, (by decide : 1 + 0 ≤ _), (by decide : 2 + 0 ≤ _)⟩)
    dsimp only [Pt.U, Pt.locs, Pt.cells, Pt.slots] at X321 l321 y321 z321 st321 hQ321
    subst l321 y321 z321
    obtain ⟨rfl, rfl, e321⟩ := hQ321
    try rw [List.append_nil] at X321
    refine Gl.up (B := T321.setTop (mkF m 152 #[.val (.int cnt), .val (.int bits), .val (.int (8 : Int32)), .val (.ref b268), .val (.int (f3 u315 u316)), .unset] [(.int (f5 bits (2 : Int32) (8 : Int32))), (.int ((f5 bits (0 : Int32) (8 : Int32)) + (f5 bits (1 : Int32) (8 : Int32))))])) (fun t kt => st321 _ kt) ?_
    refine Gl.up (B := T321.setTop (mkF m 156 #[.val (.int cnt), .val (.int bits), .val (.int (8 : Int32)), .val (.ref b268), .val (.int (f3 u315 u316)), .unset] [(.int (8 : Int32)), (.int (3 : Int32)), (.int bits), (.int (((f5 bits (0 : Int32) (8 : Int32)) + (f5 bits (1 : Int32) (8 : Int32))) + (f5 bits (2 : Int32) (8 : Int32))))])) (fun t kt => ?_) ?_
    · refine XS.iadd X321.here hx rfl (hb hby at_152) rfl ?_
      show Steps p.tables e below (T321.setTop (mkF m 153 #[.val (.int cnt), .val (.int bits), .val (.int (8 : Int32)), .val (.ref b268), .val (.int (f3 u315 u316)), .unset] [(.int (((f5 bits (0 : Int32) (8 : Int32)) + (f5 bits (1 : Int32) (8 : Int32))) + (f5 bits (2 : Int32) (8 : Int32))))])) _
      refine XS.iloadN X321.here hx rfl (hb hby at_153) rfl ?_
      show Steps p.tables e below (T321.setTop (mkF m 154 #[.val (.int cnt), .val (.int bits), .val (.int (8 : Int32)), .val (.ref b268), .val (.int (f3 u315 u316)), .unset] [(.int bits), (.int (((f5 bits (0 : Int32) (8 : Int32)) + (f5 bits (1 : Int32) (8 : Int32))) + (f5 bits (2 : Int32) (8 : Int32))))])) _
      refine XS.iconst X321.here hx rfl (hb hby at_154) ?_
      show Steps p.tables e below (T321.setTop (mkF m 155 #[.val (.int cnt), .val (.int bits), .val (.int (8 : Int32)), .val (.ref b268), .val (.int (f3 u315 u316)), .unset] [(.int (3 : Int32)), (.int bits), (.int (((f5 bits (0 : Int32) (8 : Int32)) + (f5 bits (1 : Int32) (8 : Int32))) + (f5 bits (2 : Int32) (8 : Int32))))])) _
      refine XS.iloadN X321.here hx rfl (hb hby at_155) rfl ?_
      exact kt
    obtain ⟨_, _, ⟨T322, L322, k322, n322⟩, -, X322, ⟨Lc322, hQ322, l322, y322, z322⟩, st322⟩ := Jvm.LawKit.callS X321 hx (y := (⟨"com/example/gallant_courier/gallantcourier/core/LossRateWaitsPerDoublingPinLaw", "one", "(III)I"⟩ : MethodName)) hown (mvT hZ (hw _ (List.mem_of_getElem? (i := 28) rfl))) (mvT hZ (hw _ (List.mem_of_getElem? (i := 29) rfl))) (mvT hZ (hw _ (List.mem_of_getElem? (i := 11) rfl))) (mvT hZ (hw _ (List.mem_of_getElem? (i := 30) rfl))) (by decide) (backOf (W := 1) (rm5 l Z aa hw [] bits (3 : Int32) (8 : Int32) T313.heap n0 O313) hZ (hw _ (List.mem_of_getElem? (i := 30) rfl)) (hw _ (List.mem_of_getElem? (i := 11) rfl)) (by decide) (by decide)) (g := (mkF m 156 #[.val (.int cnt), .val (.int bits), .val (.int (8 : Int32)), .val (.ref b268), .val (.int (f3 u315 u316)), .unset] [(.int (8 : Int32)), (.int (3 : Int32)), (.int bits), (.int (((f5 bits (0 : Int32) (8 : Int32)) + (f5 bits (1 : Int32) (8 : Int32))) + (f5 bits (2 : Int32) (8 : Int32))))])) rfl (by rw [hml]; rfl) (argsL := [(.int bits), (.int (3 : Int32)), (.int (8 : Int32))]) (rest := [(.int (((f5 bits (0 : Int32) (8 : Int32)) + (f5 bits (1 : Int32) (8 : Int32))) + (f5 bits (2 : Int32) (8 : Int32))))]) (lenOf pd_oIIIcI rfl) rfl (by show 2 * 0 + _ ≤ _; exact Nat.le_of_eq rfl) (hb hby at_156) (fun _ _ => ⟨rfl, e321, (by decide : 1 + 0 ≤ _), (by decide : 2 + 0 ≤ _)⟩)
    dsimp only [Pt.U, Pt.locs, Pt.cells, Pt.slots] at X322 l322 y322 z322 st322 hQ322
    subst l322 y322 z322
    obtain ⟨rfl, rfl, e322⟩ := hQ322
    try rw [List.append_nil] at X322
    refine Gl.up (B := T322.setTop (mkF m 159 #[.val (.int cnt), .val (.int bits), .val (.int (8 : Int32)), .val (.ref b268), .val (.int (f3 u315 u316)), .unset] [(.int (f5 bits (3 : Int32) (8 : Int32))), (.int (((f5 bits (0 : Int32) (8 : Int32)) + (f5 bits (1 : Int32) (8 : Int32))) + (f5 bits (2 : Int32) (8 : Int32))))])) (fun t kt => st322 _ kt) ?_
    refine Gl.up (B := T322.setTop (mkF m 163 #[.val (.int cnt), .val (.int bits), .val (.int (8 : Int32)), .val (.ref b268), .val (.int (f3 u315 u316)), .unset] [(.int (8 : Int32)), (.int (4 : Int32)), (.int bits), (.int ((((f5 bits (0 : Int32) (8 : Int32)) + (f5 bits (1 : Int32) (8 : Int32))) + (f5 bits (2 : Int32) (8 : Int32))) + (f5 bits (3 : Int32) (8 : Int32))))])) (fun t kt => ?_) ?_
    · refine XS.iadd X322.here hx rfl (hb hby at_159) rfl ?_
      show Steps p.tables e below (T322.setTop (mkF m 160 #[.val (.int cnt), .val (.int bits), .val (.int (8 : Int32)), .val (.ref b268), .val (.int (f3 u315 u316)), .unset] [(.int ((((f5 bits (0 : Int32) (8 : Int32)) + (f5 bits (1 : Int32) (8 : Int32))) + (f5 bits (2 : Int32) (8 : Int32))) + (f5 bits (3 : Int32) (8 : Int32))))])) _
      refine XS.iloadN X322.here hx rfl (hb hby at_160) rfl ?_
      show Steps p.tables e below (T322.setTop (mkF m 161 #[.val (.int cnt), .val (.int bits), .val (.int (8 : Int32)), .val (.ref b268), .val (.int (f3 u315 u316)), .unset] [(.int bits), (.int ((((f5 bits (0 : Int32) (8 : Int32)) + (f5 bits (1 : Int32) (8 : Int32))) + (f5 bits (2 : Int32) (8 : Int32))) + (f5 bits (3 : Int32) (8 : Int32))))])) _
      refine XS.iconst X322.here hx rfl (hb hby at_161) ?_
      show Steps p.tables e below (T322.setTop (mkF m 162 #[.val (.int cnt), .val (.int bits), .val (.int (8 : Int32)), .val (.ref b268), .val (.int (f3 u315 u316)), .unset] [(.int (4 : Int32)), (.int bits), (.int ((((f5 bits (0 : Int32) (8 : Int32)) + (f5 bits (1 : Int32) (8 : Int32))) + (f5 bits (2 : Int32) (8 : Int32))) + (f5 bits (3 : Int32) (8 : Int32))))])) _
      refine XS.iloadN X322.here hx rfl (hb hby at_162) rfl ?_
      exact kt
    obtain ⟨_, _, ⟨T323, L323, k323, n323⟩, -, X323, ⟨Lc323, hQ323, l323, y323, z323⟩, st323⟩ := Jvm.LawKit.callS X322 hx (y := (⟨"com/example/gallant_courier/gallantcourier/core/LossRateWaitsPerDoublingPinLaw", "one", "(III)I"⟩ : MethodName)) hown (mvT hZ (hw _ (List.mem_of_getElem? (i := 28) rfl))) (mvT hZ (hw _ (List.mem_of_getElem? (i := 29) rfl))) (mvT hZ (hw _ (List.mem_of_getElem? (i := 11) rfl))) (mvT hZ (hw _ (List.mem_of_getElem? (i := 30) rfl))) (by decide) (backOf (W := 1) (rm5 l Z aa hw [] bits (4 : Int32) (8 : Int32) T313.heap n0 O313) hZ (hw _ (List.mem_of_getElem? (i := 30) rfl)) (hw _ (List.mem_of_getElem? (i := 11) rfl)) (by decide) (by decide)) (g := (mkF m 163 #[.val (.int cnt), .val (.int bits), .val (.int (8 : Int32)), .val (.ref b268), .val (.int (f3 u315 u316)), .unset] [(.int (8 : Int32)), (.int (4 : Int32)), (.int bits), (.int ((((f5 bits (0 : Int32) (8 : Int32)) + (f5 bits (1 : Int32) (8 : Int32))) + (f5 bits (2 : Int32) (8 : Int32))) + (f5 bits (3 : Int32) (8 : Int32))))])) rfl (by rw [hml]; rfl) (argsL := [(.int bits), (.int (4 : Int32)), (.int (8 : Int32))]) (rest := [(.int ((((f5 bits (0 : Int32) (8 : Int32)) + (f5 bits (1 : Int32) (8 : Int32))) + (f5 bits (2 : Int32) (8 : Int32))) + (f5 bits (3 : Int32) (8 : Int32))))]) (lenOf pd_oIIIcI rfl) rfl (by show 2 * 0 + _ ≤ _; exact Nat.le_of_eq rfl) (hb hby at_163) (fun _ _ => ⟨rfl, e322, (by decide : 1 + 0 ≤ _), (by decide : 2 + 0 ≤ _)⟩)
    dsimp only [Pt.U, Pt.locs, Pt.cells, Pt.slots] at X323 l323 y323 z323 st323 hQ323
    subst l323 y323 z323
    obtain ⟨rfl, rfl, e323⟩ := hQ323
    try rw [List.append_nil] at X323
    refine Gl.up (B := T323.setTop (mkF m 166 #[.val (.int cnt), .val (.int bits), .val (.int (8 : Int32)), .val (.ref b268), .val (.int (f3 u315 u316)), .unset] [(.int (f5 bits (4 : Int32) (8 : Int32))), (.int ((((f5 bits (0 : Int32) (8 : Int32)) + (f5 bits (1 : Int32) (8 : Int32))) + (f5 bits (2 : Int32) (8 : Int32))) + (f5 bits (3 : Int32) (8 : Int32))))])) (fun t kt => st323 _ kt) ?_
    refine Gl.up (B := T323.setTop (mkF m 170 #[.val (.int cnt), .val (.int bits), .val (.int (8 : Int32)), .val (.ref b268), .val (.int (f3 u315 u316)), .unset] [(.int (8 : Int32)), (.int (5 : Int32)), (.int bits), (.int (((((f5 bits (0 : Int32) (8 : Int32)) + (f5 bits (1 : Int32) (8 : Int32))) + (f5 bits (2 : Int32) (8 : Int32))) + (f5 bits (3 : Int32) (8 : Int32))) + (f5 bits (4 : Int32) (8 : Int32))))])) (fun t kt => ?_) ?_
    · refine XS.iadd X323.here hx rfl (hb hby at_166) rfl ?_
      show Steps p.tables e below (T323.setTop (mkF m 167 #[.val (.int cnt), .val (.int bits), .val (.int (8 : Int32)), .val (.ref b268), .val (.int (f3 u315 u316)), .unset] [(.int (((((f5 bits (0 : Int32) (8 : Int32)) + (f5 bits (1 : Int32) (8 : Int32))) + (f5 bits (2 : Int32) (8 : Int32))) + (f5 bits (3 : Int32) (8 : Int32))) + (f5 bits (4 : Int32) (8 : Int32))))])) _
      refine XS.iloadN X323.here hx rfl (hb hby at_167) rfl ?_
      show Steps p.tables e below (T323.setTop (mkF m 168 #[.val (.int cnt), .val (.int bits), .val (.int (8 : Int32)), .val (.ref b268), .val (.int (f3 u315 u316)), .unset] [(.int bits), (.int (((((f5 bits (0 : Int32) (8 : Int32)) + (f5 bits (1 : Int32) (8 : Int32))) + (f5 bits (2 : Int32) (8 : Int32))) + (f5 bits (3 : Int32) (8 : Int32))) + (f5 bits (4 : Int32) (8 : Int32))))])) _
      refine XS.iconst X323.here hx rfl (hb hby at_168) ?_
      show Steps p.tables e below (T323.setTop (mkF m 169 #[.val (.int cnt), .val (.int bits), .val (.int (8 : Int32)), .val (.ref b268), .val (.int (f3 u315 u316)), .unset] [(.int (5 : Int32)), (.int bits), (.int (((((f5 bits (0 : Int32) (8 : Int32)) + (f5 bits (1 : Int32) (8 : Int32))) + (f5 bits (2 : Int32) (8 : Int32))) + (f5 bits (3 : Int32) (8 : Int32))) + (f5 bits (4 : Int32) (8 : Int32))))])) _
      refine XS.iloadN X323.here hx rfl (hb hby at_169) rfl ?_
      exact kt
    obtain ⟨_, _, ⟨T324, L324, k324, n324⟩, -, X324, ⟨Lc324, hQ324, l324, y324, z324⟩, st324⟩ := Jvm.LawKit.callS X323 hx (y := (⟨"com/example/gallant_courier/gallantcourier/core/LossRateWaitsPerDoublingPinLaw", "one", "(III)I"⟩ : MethodName)) hown (mvT hZ (hw _ (List.mem_of_getElem? (i := 28) rfl))) (mvT hZ (hw _ (List.mem_of_getElem? (i := 29) rfl))) (mvT hZ (hw _ (List.mem_of_getElem? (i := 11) rfl))) (mvT hZ (hw _ (List.mem_of_getElem? (i := 30) rfl))) (by decide) (backOf (W := 1) (rm5 l Z aa hw [] bits (5 : Int32) (8 : Int32) T313.heap n0 O313) hZ (hw _ (List.mem_of_getElem? (i := 30) rfl)) (hw _ (List.mem_of_getElem? (i := 11) rfl)) (by decide) (by decide)) (g := (mkF m 170 #[.val (.int cnt), .val (.int bits), .val (.int (8 : Int32)), .val (.ref b268), .val (.int (f3 u315 u316)), .unset] [(.int (8 : Int32)), (.int (5 : Int32)), (.int bits), (.int (((((f5 bits (0 : Int32) (8 : Int32)) + (f5 bits (1 : Int32) (8 : Int32))) + (f5 bits (2 : Int32) (8 : Int32))) + (f5 bits (3 : Int32) (8 : Int32))) + (f5 bits (4 : Int32) (8 : Int32))))])) rfl (by rw [hml]; rfl) (argsL := [(.int bits), (.int (5 : Int32)), (.int (8 : Int32))]) (rest := [(.int (((((f5 bits (0 : Int32) (8 : Int32)) + (f5 bits (1 : Int32) (8 : Int32))) + (f5 bits (2 : Int32) (8 : Int32))) + (f5 bits (3 : Int32) (8 : Int32))) + (f5 bits (4 : Int32) (8 : Int32))))]) (lenOf pd_oIIIcI rfl) rfl (by show 2 * 0 + _ ≤ _; exact Nat.le_of_eq rfl) (hb hby at_170) (fun _ _ => ⟨rfl, e323, (by decide : 1 + 0 ≤ _), (by decide : 2 + 0 ≤ _)⟩)
    dsimp only [Pt.U, Pt.locs, Pt.cells, Pt.slots] at X324 l324 y324 z324 st324 hQ324
    subst l324 y324 z324
    obtain ⟨rfl, rfl, e324⟩ := hQ324
    try rw [List.append_nil] at X324
    refine Gl.up (B := T324.setTop (mkF m 173 #[.val (.int cnt), .val (.int bits), .val (.int (8 : Int32)), .val (.ref b268), .val (.int (f3 u315 u316)), .unset] [(.int (f5 bits (5 : Int32) (8 : Int32))), (.int (((((f5 bits (0 : Int32) (8 : Int32)) + (f5 bits (1 : Int32) (8 : Int32))) + (f5 bits (2 : Int32) (8 : Int32))) + (f5 bits (3 : Int32) (8 : Int32))) + (f5 bits (4 : Int32) (8 : Int32))))])) (fun t kt => st324 _ kt) ?_
    refine Gl.up (B := T324.setTop (mkF m 178 #[.val (.int cnt), .val (.int bits), .val (.int (8 : Int32)), .val (.ref b268), .val (.int (f3 u315 u316)), .unset] [(.int (8 : Int32)), (.int (6 : Int32)), (.int bits), (.int ((((((f5 bits (0 : Int32) (8 : Int32)) + (f5 bits (1 : Int32) (8 : Int32))) + (f5 bits (2 : Int32) (8 : Int32))) + (f5 bits (3 : Int32) (8 : Int32))) + (f5 bits (4 : Int32) (8 : Int32))) + (f5 bits (5 : Int32) (8 : Int32))))])) (fun t kt => ?_) ?_
    · refine XS.iadd X324.here hx rfl (hb hby at_173) rfl ?_
      show Steps p.tables e below (T324.setTop (mkF m 174 #[.val (.int cnt), .val (.int bits), .val (.int (8 : Int32)), .val (.ref b268), .val (.int (f3 u315 u316)), .unset] [(.int ((((((f5 bits (0 : Int32) (8 : Int32)) + (f5 bits (1 : Int32) (8 : Int32))) + (f5 bits (2 : Int32) (8 : Int32))) + (f5 bits (3 : Int32) (8 : Int32))) + (f5 bits (4 : Int32) (8 : Int32))) + (f5 bits (5 : Int32) (8 : Int32))))])) _
      refine XS.iloadN X324.here hx rfl (hb hby at_174) rfl ?_
      show Steps p.tables e below (T324.setTop (mkF m 175 #[.val (.int cnt), .val (.int bits), .val (.int (8 : Int32)), .val (.ref b268), .val (.int (f3 u315 u316)), .unset] [(.int bits), (.int ((((((f5 bits (0 : Int32) (8 : Int32)) + (f5 bits (1 : Int32) (8 : Int32))) + (f5 bits (2 : Int32) (8 : Int32))) + (f5 bits (3 : Int32) (8 : Int32))) + (f5 bits (4 : Int32) (8 : Int32))) + (f5 bits (5 : Int32) (8 : Int32))))])) _
      refine XS.bipush X324.here hx rfl (hb hby at_175) ?_
      show Steps p.tables e below (T324.setTop (mkF m 177 #[.val (.int cnt), .val (.int bits), .val (.int (8 : Int32)), .val (.ref b268), .val (.int (f3 u315 u316)), .unset] [(.int (6 : Int32)), (.int bits), (.int ((((((f5 bits (0 : Int32) (8 : Int32)) + (f5 bits (1 : Int32) (8 : Int32))) + (f5 bits (2 : Int32) (8 : Int32))) + (f5 bits (3 : Int32) (8 : Int32))) + (f5 bits (4 : Int32) (8 : Int32))) + (f5 bits (5 : Int32) (8 : Int32))))])) _
      refine XS.iloadN X324.here hx rfl (hb hby at_177) rfl ?_
      exact kt
    obtain ⟨_, _, ⟨T325, L325, k325, n325⟩, -, X325, ⟨Lc325, hQ325, l325, y325, z325⟩, st325⟩ := Jvm.LawKit.callS X324 hx (y := (⟨"com/example/gallant_courier/gallantcourier/core/LossRateWaitsPerDoublingPinLaw", "one", "(III)I"⟩ : MethodName)) hown (mvT hZ (hw _ (List.mem_of_getElem? (i := 28) rfl))) (mvT hZ (hw _ (List.mem_of_getElem? (i := 29) rfl))) (mvT hZ (hw _ (List.mem_of_getElem? (i := 11) rfl))) (mvT hZ (hw _ (List.mem_of_getElem? (i := 30) rfl))) (by decide) (backOf (W := 1) (rm5 l Z aa hw [] bits (6 : Int32) (8 : Int32) T313.heap n0 O313) hZ (hw _ (List.mem_of_getElem? (i := 30) rfl)) (hw _ (List.mem_of_getElem? (i := 11) rfl)) (by decide) (by decide)) (g := (mkF m 178 #[.val (.int cnt), .val (.int bits), .val (.int (8 : Int32)), .val (.ref b268), .val (.int (f3 u315 u316)), .unset] [(.int (8 : Int32)), (.int (6 : Int32)), (.int bits), (.int ((((((f5 bits (0 : Int32) (8 : Int32)) + (f5 bits (1 : Int32) (8 : Int32))) + (f5 bits (2 : Int32) (8 : Int32))) + (f5 bits (3 : Int32) (8 : Int32))) + (f5 bits (4 : Int32) (8 : Int32))) + (f5 bits (5 : Int32) (8 : Int32))))])) rfl (by rw [hml]; rfl) (argsL := [(.int bits), (.int (6 : Int32)), (.int (8 : Int32))]) (rest := [(.int ((((((f5 bits (0 : Int32) (8 : Int32)) + (f5 bits (1 : Int32) (8 : Int32))) + (f5 bits (2 : Int32) (8 : Int32))) + (f5 bits (3 : Int32) (8 : Int32))) + (f5 bits (4 : Int32) (8 : Int32))) + (f5 bits (5 : Int32) (8 : Int32))))]) (lenOf pd_oIIIcI rfl) rfl (by show 2 * 0 + _ ≤ _; exact Nat.le_of_eq rfl) (hb hby at_178) (fun _ _ => ⟨rfl, e324, (by decide : 1 + 0 ≤ _), (by decide : 2 + 0 ≤ _)⟩)
    dsimp only [Pt.U, Pt.locs, Pt.cells, Pt.slots] at X325 l325 y325 z325 st325 hQ325
    subst l325 y325 z325
    obtain ⟨rfl, rfl, e325⟩ := hQ325
    try rw [List.append_nil] at X325
    refine Gl.up (B := T325.setTop (mkF m 181 #[.val (.int cnt), .val (.int bits), .val (.int (8 : Int32)), .val (.ref b268), .val (.int (f3 u315 u316)), .unset] [(.int (f5 bits (6 : Int32) (8 : Int32))), (.int ((((((f5 bits (0 : Int32) (8 : Int32)) + (f5 bits (1 : Int32) (8 : Int32))) + (f5 bits (2 : Int32) (8 : Int32))) + (f5 bits (3 : Int32) (8 : Int32))) + (f5 bits (4 : Int32) (8 : Int32))) + (f5 bits (5 : Int32) (8 : Int32))))])) (fun t kt => st325 _ kt) ?_
    refine Gl.up (B := T325.setTop (mkF m 186 #[.val (.int cnt), .val (.int bits), .val (.int (8 : Int32)), .val (.ref b268), .val (.int (f3 u315 u316)), .unset] [(.int (8 : Int32)), (.int (7 : Int32)), (.int bits), (.int (((((((f5 bits (0 : Int32) (8 : Int32)) + (f5 bits (1 : Int32) (8 : Int32))) + (f5 bits (2 : Int32) (8 : Int32))) + (f5 bits (3 : Int32) (8 : Int32))) + (f5 bits (4 : Int32) (8 : Int32))) + (f5 bits (5 : Int32) (8 : Int32))) + (f5 bits (6 : Int32) (8 : Int32))))])) (fun t kt => ?_) ?_
    · refine XS.iadd X325.here hx rfl (hb hby at_181) rfl ?_
      show Steps p.tables e below (T325.setTop (mkF m 182 #[.val (.int cnt), .val (.int bits), .val (.int (8 : Int32)), .val (.ref b268), .val (.int (f3 u315 u316)), .unset] [(.int (((((((f5 bits (0 : Int32) (8 : Int32)) + (f5 bits (1 : Int32) (8 : Int32))) + (f5 bits (2 : Int32) (8 : Int32))) + (f5 bits (3 : Int32) (8 : Int32))) + (f5 bits (4 : Int32) (8 : Int32))) + (f5 bits (5 : Int32) (8 : Int32))) + (f5 bits (6 : Int32) (8 : Int32))))])) _
      refine XS.iloadN X325.here hx rfl (hb hby at_182) rfl ?_
      show Steps p.tables e below (T325.setTop (mkF m 183 #[.val (.int cnt), .val (.int bits), .val (.int (8 : Int32)), .val (.ref b268), .val (.int (f3 u315 u316)), .unset] [(.int bits), (.int (((((((f5 bits (0 : Int32) (8 : Int32)) + (f5 bits (1 : Int32) (8 : Int32))) + (f5 bits (2 : Int32) (8 : Int32))) + (f5 bits (3 : Int32) (8 : Int32))) + (f5 bits (4 : Int32) (8 : Int32))) + (f5 bits (5 : Int32) (8 : Int32))) + (f5 bits (6 : Int32) (8 : Int32))))])) _
      refine XS.bipush X325.here hx rfl (hb hby at_183) ?_
      show Steps p.tables e below (T325.setTop (mkF m 185 #[.val (.int cnt), .val (.int bits), .val (.int (8 : Int32)), .val (.ref b268), .val (.int (f3 u315 u316)), .unset] [(.int (7 : Int32)), (.int bits), (.int (((((((f5 bits (0 : Int32) (8 : Int32)) + (f5 bits (1 : Int32) (8 : Int32))) + (f5 bits (2 : Int32) (8 : Int32))) + (f5 bits (3 : Int32) (8 : Int32))) + (f5 bits (4 : Int32) (8 : Int32))) + (f5 bits (5 : Int32) (8 : Int32))) + (f5 bits (6 : Int32) (8 : Int32))))])) _
      refine XS.iloadN X325.here hx rfl (hb hby at_185) rfl ?_
      exact kt
    obtain ⟨_, _, ⟨T326, L326, k326, n326⟩, -, X326, ⟨Lc326, hQ326, l326, y326, z326⟩, st326⟩ := Jvm.LawKit.callS X325 hx (y := (⟨"com/example/gallant_courier/gallantcourier/core/LossRateWaitsPerDoublingPinLaw", "one", "(III)I"⟩ : MethodName)) hown (mvT hZ (hw _ (List.mem_of_getElem? (i := 28) rfl))) (mvT hZ (hw _ (List.mem_of_getElem? (i := 29) rfl))) (mvT hZ (hw _ (List.mem_of_getElem? (i := 11) rfl))) (mvT hZ (hw _ (List.mem_of_getElem? (i := 30) rfl))) (by decide) (backOf (W := 1) (rm5 l Z aa hw [] bits (7 : Int32) (8 : Int32) T313.heap n0 O313) hZ (hw _ (List.mem_of_getElem? (i := 30) rfl)) (hw _ (List.mem_of_getElem? (i := 11) rfl)) (by decide) (by decide)) (g := (mkF m 186 #[.val (.int cnt), .val (.int bits), .val (.int (8 : Int32)), .val (.ref b268), .val (.int (f3 u315 u316)), .unset] [(.int (8 : Int32)), (.int (7 : Int32)), (.int bits), (.int (((((((f5 bits (0 : Int32) (8 : Int32)) + (f5 bits (1 : Int32) (8 : Int32))) + (f5 bits (2 : Int32) (8 : Int32))) + (f5 bits (3 : Int32) (8 : Int32))) + (f5 bits (4 : Int32) (8 : Int32))) + (f5 bits (5 : Int32) (8 : Int32))) + (f5 bits (6 : Int32) (8 : Int32))))])) rfl (by rw [hml]; rfl) (argsL := [(.int bits), (.int (7 : Int32)), (.int (8 : Int32))]) (rest := [(.int (((((((f5 bits (0 : Int32) (8 : Int32)) + (f5 bits (1 : Int32) (8 : Int32))) + (f5 bits (2 : Int32) (8 : Int32))) + (f5 bits (3 : Int32) (8 : Int32))) + (f5 bits (4 : Int32) (8 : Int32))) + (f5 bits (5 : Int32) (8 : Int32))) + (f5 bits (6 : Int32) (8 : Int32))))]) (lenOf pd_oIIIcI rfl) rfl (by show 2 * 0 + _ ≤ _; exact Nat.le_of_eq rfl) (hb hby at_186) (fun _ _ => ⟨rfl, e325, (by decide : 1 + 0 ≤ _), (by decide : 2 + 0 ≤ _)⟩)
    dsimp only [Pt.U, Pt.locs, Pt.cells, Pt.slots] at X326 l326 y326 z326 st326 hQ326
    subst l326 y326 z326
    obtain ⟨rfl, rfl, e326⟩ := hQ326
    try rw [List.append_nil] at X326
    refine Gl.up (B := T326.setTop (mkF m 189 #[.val (.int cnt), .val (.int bits), .val (.int (8 : Int32)), .val (.ref b268), .val (.int (f3 u315 u316)), .unset] [(.int (f5 bits (7 : Int32) (8 : Int32))), (.int (((((((f5 bits (0 : Int32) (8 : Int32)) + (f5 bits (1 : Int32) (8 : Int32))) + (f5 bits (2 : Int32) (8 : Int32))) + (f5 bits (3 : Int32) (8 : Int32))) + (f5 bits (4 : Int32) (8 : Int32))) + (f5 bits (5 : Int32) (8 : Int32))) + (f5 bits (6 : Int32) (8 : Int32))))])) (fun t kt => st326 _ kt) ?_
    refine Gl.up (B := T326.setTop (mkF m 190 #[.val (.int cnt), .val (.int bits), .val (.int (8 : Int32)), .val (.ref b268), .val (.int (f3 u315 u316)), .unset] [(.int ((((((((f5 bits (0 : Int32) (8 : Int32)) + (f5 bits (1 : Int32) (8 : Int32))) + (f5 bits (2 : Int32) (8 : Int32))) + (f5 bits (3 : Int32) (8 : Int32))) + (f5 bits (4 : Int32) (8 : Int32))) + (f5 bits (5 : Int32) (8 : Int32))) + (f5 bits (6 : Int32) (8 : Int32))) + (f5 bits (7 : Int32) (8 : Int32))))])) (fun t kt => ?_) ?_
    · refine XS.iadd X326.here hx rfl (hb hby at_189) rfl ?_
      exact kt
    obtain ⟨u327, hu327⟩ : ∃ q : Int32, q = ((((((((f5 bits (0 : Int32) (8 : Int32)) + (f5 bits (1 : Int32) (8 : Int32))) + (f5 bits (2 : Int32) (8 : Int32))) + (f5 bits (3 : Int32) (8 : Int32))) + (f5 bits (4 : Int32) (8 : Int32))) + (f5 bits (5 : Int32) (8 : Int32))) + (f5 bits (6 : Int32) (8 : Int32))) + (f5 bits (7 : Int32) (8 : Int32))) := ⟨_, rfl⟩
    rw [← hu327]
    refine Gl.up (B := T326.setTop (mkF m 197 #[.val (.int cnt), .val (.int bits), .val (.int (8 : Int32)), .val (.ref b268), .val (.int (f3 u315 u316)), .val (.int u327)] [(.int (8 : Int32)), (.int u327), (.int (f3 u315 u316))])) (fun t kt => ?_) ?_
    · refine XS.istore X326.here hx rfl (hb hby at_190) rfl (l' := #[.val (.int cnt), .val (.int bits), .val (.int (8 : Int32)), .val (.ref b268), .val (.int (f3 u315 u316)), .val (.int u327)]) rfl ?_
      show Steps p.tables e below (T326.setTop (mkF m 192 #[.val (.int cnt), .val (.int bits), .val (.int (8 : Int32)), .val (.ref b268), .val (.int (f3 u315 u316)), .val (.int u327)] [])) _
      refine XS.iload X326.here hx rfl (hb hby at_192) rfl ?_
      show Steps p.tables e below (T326.setTop (mkF m 194 #[.val (.int cnt), .val (.int bits), .val (.int (8 : Int32)), .val (.ref b268), .val (.int (f3 u315 u316)), .val (.int u327)] [(.int (f3 u315 u316))])) _
      refine XS.iload X326.here hx rfl (hb hby at_194) rfl ?_
      show Steps p.tables e below (T326.setTop (mkF m 196 #[.val (.int cnt), .val (.int bits), .val (.int (8 : Int32)), .val (.ref b268), .val (.int (f3 u315 u316)), .val (.int u327)] [(.int u327), (.int (f3 u315 u316))])) _
      refine XS.iloadN X326.here hx rfl (hb hby at_196) rfl ?_
      exact kt
    obtain ⟨_, _, ⟨T328, L328, k328, n328⟩, -, X328, ⟨Lc328, hQ328, l328, y328, z328⟩, st328⟩ := Jvm.LawKit.callS X326 hx (y := (⟨"com/example/gallant_courier/gallantcourier/core/LossRateWaitsPerDoublingPinLaw", "expected", "(II)I"⟩ : MethodName)) hown (mvT hZ (hw _ (List.mem_of_getElem? (i := 31) rfl))) (mvT hZ (hw _ (List.mem_of_getElem? (i := 32) rfl))) (mvT hZ (hw _ (List.mem_of_getElem? (i := 11) rfl))) (mvT hZ (hw _ (List.mem_of_getElem? (i := 33) rfl))) (by decide) (backOf (W := 1) (rm6 l Z aa hw [] u327 (8 : Int32) T313.heap n0 O313) hZ (hw _ (List.mem_of_getElem? (i := 33) rfl)) (hw _ (List.mem_of_getElem? (i := 11) rfl)) (by decide) (by decide)) (g := (mkF m 197 #[.val (.int cnt), .val (.int bits), .val (.int (8 : Int32)), .val (.ref b268), .val (.int (f3 u315 u316)), .val (.int u327)] [(.int (8 : Int32)), (.int u327), (.int (f3 u315 u316))])) rfl (by rw [hml]; rfl) (argsL := [(.int u327), (.int (8 : Int32))]) (rest := [(.int (f3 u315 u316))]) (lenOf pd_oIIcI rfl) rfl (by show 2 * 0 + _ ≤ _; exact Nat.le_of_eq rfl) (hb hby at_197) (fun _ _ => ⟨rfl, e326, (by decide : 1 + 0 ≤ _), (by decide : 2 + 0 ≤ _)⟩)
    dsimp only [Pt.U, Pt.locs, Pt.cells, Pt.slots] at X328 l328 y328 z328 st328 hQ328
    subst l328 y328 z328
    obtain ⟨rfl, rfl, e328⟩ := hQ328
    try rw [List.append_nil] at X328
    refine Gl.up (B := T328.setTop (mkF m 200 #[.val (.int cnt), .val (.int bits), .val (.int (8 : Int32)), .val (.ref b268), .val (.int (f3 u315 u316)), .val (.int u327)] [(.int (f6 u327 (8 : Int32))), (.int (f3 u315 u316))])) (fun t kt => st328 _ kt) ?_
    have hm329 : u327 = own_sum [(f4 bits (7 : Int32)), (f4 bits (6 : Int32)), (f4 bits (5 : Int32)), (f4 bits (4 : Int32)), (f4 bits (3 : Int32)), (f4 bits (2 : Int32)), (f4 bits (1 : Int32)), (f4 bits (0 : Int32))] := by
      rw [hu327, own_bit _ (0 : Int32) _ (by decide), own_bit _ (1 : Int32) _ (by decide), own_bit _ (2 : Int32) _ (by decide), own_bit _ (3 : Int32) _ (by decide), own_bit _ (4 : Int32) _ (by decide), own_bit _ (5 : Int32) _ (by decide), own_bit _ (6 : Int32) _ (by decide), own_bit _ (7 : Int32) _ (by decide)]
      simp only [own_sum, Int32.add_zero, Int32.zero_add]
    refine Gl.up (B := T328.setTop (mkF m 208 #[.val (.int cnt), .val (.int bits), .val (.int (8 : Int32)), .val (.ref b268), .val (.int (f3 u315 u316)), .val (.int u327)] [(.int (1 : Int32))])) (fun t kt => ?_) ?_
    · refine XS.icmpNo X328.here hx rfl (hb hby at_200) rfl (teq (by rw [hsh317, hsa317, hm329]; exact own_fin8 _ (own_cons (f4_b bits (7 : Int32)) (own_cons (f4_b bits (6 : Int32)) (own_cons (f4_b bits (5 : Int32)) (own_cons (f4_b bits (4 : Int32)) (own_cons (f4_b bits (3 : Int32)) (own_cons (f4_b bits (2 : Int32)) (own_cons (f4_b bits (1 : Int32)) (own_cons (f4_b bits (0 : Int32)) own_nil)))))))))).2 ?_
      show Steps p.tables e below (T328.setTop (mkF m 203 #[.val (.int cnt), .val (.int bits), .val (.int (8 : Int32)), .val (.ref b268), .val (.int (f3 u315 u316)), .val (.int u327)] [])) _
      refine XS.iconst X328.here hx rfl (hb hby at_203) ?_
      show Steps p.tables e below (T328.setTop (mkF m 204 #[.val (.int cnt), .val (.int bits), .val (.int (8 : Int32)), .val (.ref b268), .val (.int (f3 u315 u316)), .val (.int u327)] [(.int (1 : Int32))])) _
      refine XS.goto X328.here hx rfl (pc0 := 204) (pc' := 208) rfl (hb hby at_204) (by decide) (by decide) ?_
      exact kt
    refine Gl.retN X328 hx hlk (t := .boolean) Bd.returns (by simp) (hb hby at_208) (w := (1 : Int32)) rfl ?_ (by decide) (by decide)
    exact ⟨rfl, N313⟩
set_option maxRecDepth 65536 in
set_option maxHeartbeats 40000000 in
theorem comes_1 {Post : Tables → Env → Array Value → State → Outcome → State → Prop} (hpost : ∀ tb e args s v u, (limb_1_1.after args s (.returned v) u = true ∧ limb_1_2.after args s (.returned v) u = true) → FrameEnd s (.returned v) u (Jvm.fieldLocs frame_1_writes args s ++ Jvm.arrayLocs frame_1_arrays args s ++ Jvm.staticLocs frame_1_statics s) 16 128 → Post tb e args s (.returned v) u) :
    ArmFor flags0 classFile x code maxLocals ret World_1 tables_1 room_1 Calls_1 rest_1 Pre_1 Post := by
  intro l hfl _ _ p e ha hc hk s m args below hf hA hF happ hP
  obtain ⟨hcalls, hrest, hpre⟩ := hP
  obtain ⟨-, -, -, hnamed, -, -, -, hat⟩ := (Spec.applies_iff hf).mp happ
  obtain ⟨hg, hn⟩ := and_e (Cond.before_iff.mp (show (Jvm.Cond.and given_1 narrow_1).before args s = true from hpre))
  obtain ⟨hcnt, hg0⟩ := and_e hg
  obtain ⟨ha0, hg1⟩ := and_e hg0
  obtain ⟨w0, w1, rfl⟩ : ∃ w0 w1 : Value, args = #[w0, w1] := by
    have hs : args.size = 2 := by simpa [Cond.value, given_1] using hcnt
    obtain ⟨L⟩ := args
    match L, hs with
    | [w0, w1], _ => exact ⟨w0, w1, rfl⟩
  have hw := fun d (hd : d ∈ tables_1) => atoms_spec (ws := Jvm.Cond.code x code maxLocals ret :: tables_1) hat d (List.mem_cons_of_mem _ hd)
  obtain ⟨i0, ei0⟩ := is_v ha0
  obtain rfl : w0 = (.int i0) := Option.some.inj ei0
  obtain ⟨i1, ei1⟩ := is_v hg1
  obtain rfl : w1 = (.int i1) := Option.some.inj ei1
  obtain ⟨n, o, h1, h2, h3, _, L, rfl, ⟨rfl, N⟩, hq⟩ := rm0 l s _ hw tables_1 i0 i1  s.heap s.heap.size (Old.start s)  p e ha hc hk s m _ below hf ((Spec.applies_iff_loose hf).mp happ).1 ⟨rfl, State.Warmed39.refl s, rfl⟩ trivial
  exact ⟨n, _, h1, h2, h3, hpost _ _ _ _ _ _ ⟨Cond.after_iff.mpr rfl, Cond.after_iff.mpr (eq_i res_at (Term.int_eval (1)) rfl)⟩ ⟨hq.1, hq.2.1, (hq.2.2.sift fun y hy => Or.inr (N y hy)).mono (by decide) (by decide)⟩⟩
theorem main_1_1 : Claimed_1_1 := comes_1 fun _ _ _ _ _ _ h hF => ⟨h.1, hF⟩
theorem main_1_2 : Claimed_1_2 := comes_1 fun _ _ _ _ _ _ h hF => ⟨h.2, hF⟩
end Jvm.Pilot.@@N@@
namespace Jvm.Pilot.@@N@@
open Jvm Jvm.ClassFile Sem Op Lib Jvm.Free Jvm.Stand Jvm.Pilot.@@N@@.Jvm.D
/-! MADE BY PROGRAM (witnessworld.py) out of the Statement's table words and the real class files: 9 classes; the members and pool entries that the words name. The judged class is class 1, her method 1. -/
namespace start1
open Jvm.ClassFile
def u (s : String) : CpInfo := .utf8 (stringToUtf16 s)
/-- a pool by its gaps: so many unusable entries, then the entry; so many at the end -/
def gap : Nat → List CpInfo → List CpInfo
  | 0, r => r
  | n + 1, r => .unusable :: gap n r
def poolList (es : List (Nat × CpInfo)) (last : Nat) : List CpInfo := es.foldr (fun e r => gap e.1 (e.2 :: r)) (gap last [])
def pool (es : List (Nat × CpInfo)) (last : Nat) : Array CpInfo := ⟨poolList es last⟩
def fileOf (pool : Array CpInfo) (this : Nat) (attrs : Array Attribute := #[]) (ms : Array MethodInfo := #[]) (fl : Nat := 33) (sup : Nat := 0) (ifs : Array Nat := #[]) (fds : Array FieldInfo := #[]) : ClassFile where
  minorVersion := 0
  majorVersion := 65
  constantPool := pool
  accessFlags := fl
  thisClass := this
  superClass := sup
  interfaces := ifs
  fields := fds
  methods := ms
  attributes := attrs
def plain (name : String) (sup : Option ClassId) : Class where
  name := name
  kind := .ordinary
  loader := none
  accessFlags := 33
  super := sup
  interfaces := #[]
  cf := none
  fields := #[]
  methods := #[]
  instanceTypes := #[]
  staticTypes := #[]
  resolved := #[]
  callSites := []
  init := .initialized
  statics := none
  mirror := none

def pool0 : Array CpInfo := pool [(5, u "<init>"), (0, u "()V"), (1, .class_ 10), (1, u "java/lang/Object")] 113

def k0c0 : Code := { maxStack := 0, maxLocals := 1, code := object_method_1_code, exceptionTable := #[], attributes := #[] }
def k0m0 : Method := { name := "<init>", desc := "()V", sig := { parameters := [], returnType := none }, accessFlags := 1, code := some k0c0 }
/-- java/lang/Object -/
def k0 : Class := { plain "java/lang/Object" none with
  accessFlags := 33
  interfaces := #[]
  cf := some (fileOf pool0 8 #[] #[{ accessFlags := 1, nameIndex := 5, descriptorIndex := 6, attributes := #[] }] 33 0 #[] #[])
  fields := #[]
  methods := #[k0m0]
  instanceTypes := #[]
  staticTypes := #[]
  resolved := Array.replicate 124 none
  statics := none }

def pool1 : Array CpInfo := pool [(2, .class_ 4), (0, .nameAndType 5 6), (0, u "java/lang/Object"), (0, u "<init>"), (0, u "()V"), (0, .class_ 8), (0, u "com/example/gallant_courier/gallantcourier/core/LossRate"), (0, .methodref 7 3), (0, .methodref 11 12), (0, .class_ 13), (0, .nameAndType 14 15), (0, u "com/example/gallant_courier/gallantcourier/core/LossRateWaitsPerDoublingPinLaw"), (0, u "bit"), (0, u "(II)Z"), (0, .methodref 7 17), (0, .nameAndType 18 19), (0, u "sample"), (0, u "(Z)V"), (0, .methodref 7 21), (0, .nameAndType 22 23), (0, u "waitsPerDoubling"), (0, u "()I"), (0, .methodref 11 25), (0, .nameAndType 26 27), (0, u "one"), (0, u "(III)I"), (0, .methodref 11 29), (0, .nameAndType 30 31), (0, u "expected"), (0, u "(II)I"), (0, .long 2), (1, .long 64), (3, u "law")] 3

def k1m0 : Method := { name := "<init>", desc := "()V", sig := { parameters := [], returnType := none }, accessFlags := 1, code := none }
def k1c1 : Code := { maxStack := 4, maxLocals := 6, code := code, exceptionTable := #[], attributes := #[] }
def k1m1 : Method := { name := "law", desc := "(II)Z", sig := { parameters := [.int, .int], returnType := some .boolean }, accessFlags := 9, code := some k1c1 }
def k1c2 : Code := { maxStack := 2, maxLocals := 2, code := method_3_code, exceptionTable := #[], attributes := #[] }
def k1m2 : Method := { name := "bit", desc := "(II)Z", sig := { parameters := [.int, .int], returnType := some .boolean }, accessFlags := 10, code := some k1c2 }
def k1c3 : Code := { maxStack := 2, maxLocals := 3, code := method_4_code, exceptionTable := #[], attributes := #[] }
def k1m3 : Method := { name := "one", desc := "(III)I", sig := { parameters := [.int, .int, .int], returnType := some .int }, accessFlags := 10, code := some k1c3 }
def k1c4 : Code := { maxStack := 6, maxLocals := 34, code := method_5_code, exceptionTable := #[], attributes := #[] }
def k1m4 : Method := { name := "expected", desc := "(II)I", sig := { parameters := [.int, .int], returnType := some .int }, accessFlags := 10, code := some k1c4 }
/-- com/example/gallant_courier/gallantcourier/core/LossRateWaitsPerDoublingPinLaw -/
def k1 : Class := { plain "com/example/gallant_courier/gallantcourier/core/LossRateWaitsPerDoublingPinLaw" (some 0) with
  accessFlags := 49
  interfaces := #[]
  cf := some (fileOf pool1 11 #[] #[{ accessFlags := 1, nameIndex := 5, descriptorIndex := 6, attributes := #[] }, { accessFlags := 9, nameIndex := 38, descriptorIndex := 15, attributes := #[] }, { accessFlags := 10, nameIndex := 14, descriptorIndex := 15, attributes := #[] }, { accessFlags := 10, nameIndex := 26, descriptorIndex := 27, attributes := #[] }, { accessFlags := 10, nameIndex := 30, descriptorIndex := 31, attributes := #[] }] 49 2 #[] #[])
  fields := #[]
  methods := #[k1m0, k1m1, k1m2, k1m3, k1m4]
  instanceTypes := #[]
  staticTypes := #[]
  resolved := Array.replicate 42 none
  statics := none }

def pool2 : Array CpInfo := pool [(1, .methodref 2 3), (0, .class_ 4), (0, .nameAndType 5 6), (0, u "java/lang/Object"), (0, u "<init>"), (0, u "()V"), (0, .fieldref 8 9), (0, .class_ 10), (0, .nameAndType 11 12), (0, u "com/example/gallant_courier/gallantcourier/core/LossRate"), (0, u "samples"), (0, u "I"), (0, .fieldref 8 14), (0, .nameAndType 15 16), (0, u "share"), (0, u "D"), (0, .double 4580160821035794432), (1, u "SMOOTHED"), (2, u "RARE"), (0, u "MOST_WAITS"), (3, u "sample"), (0, u "(Z)V"), (1, u "waitsPerDoubling"), (0, u "()I")] 2

def k2c0 : Code := { maxStack := 1, maxLocals := 1, code := prog_20_method_1_code, exceptionTable := #[], attributes := #[] }
def k2m0 : Method := { name := "<init>", desc := "()V", sig := { parameters := [], returnType := none }, accessFlags := 0, code := some k2c0 }
def k2c1 : Code := { maxStack := 7, maxLocals := 2, code := prog_20_method_2_code, exceptionTable := #[], attributes := #[] }
def k2m1 : Method := { name := "sample", desc := "(Z)V", sig := { parameters := [.boolean], returnType := none }, accessFlags := 0, code := some k2c1 }
def k2c2 : Code := { maxStack := 8, maxLocals := 6, code := prog_20_method_3_code, exceptionTable := #[], attributes := #[] }
def k2m2 : Method := { name := "waitsPerDoubling", desc := "()I", sig := { parameters := [], returnType := some .int }, accessFlags := 0, code := some k2c2 }
/-- com/example/gallant_courier/gallantcourier/core/LossRate -/
def k2 : Class := { plain "com/example/gallant_courier/gallantcourier/core/LossRate" (some 0) with
  accessFlags := 48
  interfaces := #[]
  cf := some (fileOf pool2 8 #[] #[{ accessFlags := 0, nameIndex := 5, descriptorIndex := 6, attributes := #[] }, { accessFlags := 0, nameIndex := 27, descriptorIndex := 28, attributes := #[] }, { accessFlags := 0, nameIndex := 30, descriptorIndex := 31, attributes := #[] }] 48 2 #[] #[{ accessFlags := 26, nameIndex := 19, descriptorIndex := 12, attributes := #[] }, { accessFlags := 26, nameIndex := 22, descriptorIndex := 16, attributes := #[] }, { accessFlags := 26, nameIndex := 23, descriptorIndex := 12, attributes := #[] }, { accessFlags := 2, nameIndex := 15, descriptorIndex := 16, attributes := #[] }, { accessFlags := 2, nameIndex := 11, descriptorIndex := 12, attributes := #[] }])
  fields := #[{ name := "SMOOTHED", type := .int, accessFlags := 26, slot := 0, constantValue := 0 }, { name := "RARE", type := .double, accessFlags := 26, slot := 1, constantValue := 0 }, { name := "MOST_WAITS", type := .int, accessFlags := 26, slot := 2, constantValue := 0 }, { name := "share", type := .double, accessFlags := 2, slot := 0, constantValue := 0 }, { name := "samples", type := .int, accessFlags := 2, slot := 1, constantValue := 0 }]
  methods := #[k2m0, k2m1, k2m2]
  instanceTypes := #[.double, .int]
  staticTypes := #[.int, .double, .int]
  resolved := Array.replicate 34 none
  statics := none }

def pool3 : Array CpInfo := pool [(1, u "java/lang/Cloneable"), (0, .class_ 1), (0, u "java/lang/Object"), (0, .class_ 3)] 3

/-- java/lang/Cloneable -/
def k3 : Class := { plain "java/lang/Cloneable" (some 0) with
  accessFlags := 1537
  interfaces := #[]
  cf := some (fileOf pool3 2 #[] #[] 1537 4 #[] #[])
  fields := #[]
  methods := #[]
  instanceTypes := #[]
  staticTypes := #[]
  resolved := Array.replicate 8 none
  statics := none }

def pool4 : Array CpInfo := pool [(1, u "java/io/Serializable"), (0, .class_ 1), (0, u "java/lang/Object"), (0, .class_ 3)] 3

/-- java/io/Serializable -/
def k4 : Class := { plain "java/io/Serializable" (some 0) with
  accessFlags := 1537
  interfaces := #[]
  cf := some (fileOf pool4 2 #[] #[] 1537 4 #[] #[])
  fields := #[]
  methods := #[]
  instanceTypes := #[]
  staticTypes := #[]
  resolved := Array.replicate 8 none
  statics := none }

/-- the primitive byte -/
def k5 : Class := { plain "byte" none with kind := .primitive 'B', accessFlags := 0x411 }
/-- [B -/
def k6 : Class := { plain "[B" (some 0) with kind := .array 5 .byte, interfaces := #[3, 4], accessFlags := 1041 }

/-- the primitive int -/
def k7 : Class := { plain "int" none with kind := .primitive 'I', accessFlags := 0x411 }
/-- [I -/
def k8 : Class := { plain "[I" (some 0) with kind := .array 7 .int, interfaces := #[3, 4], accessFlags := 1041 }

def heap : Heap := #[]
def classes : Array Class := #[k0, k1, k2, k3, k4, k5, k6, k7, k8]
def interned : List (Array UInt16 × Addr) := []
def slotsUsed : Nat := 0
def theMethod : MethodId := ⟨1, 1⟩
def args0 : Array Value := #[.int 5, .int 5]
def aboutOver (below : List Frame) : State where
  vm := { classes := classes, interned := interned.toArray }
  heap := heap
  slotsUsed := slotsUsed
  threads := #[{ frames := .invoking theMethod args0 :: below }]
def below0 : List Frame := [.native { method := ⟨0, 0⟩, args := #[] }]
def about1 : State := aboutOver below0
def p0 : Program := .bare "" "" ""
def e0 : Env := launch0.env 0 0 0
theorem w_frames : about1.frames = Frame.invoking theMethod args0 :: below0 := rfl
set_option maxRecDepth 65536 in
theorem w_args : argsFit about1.vm theMethod args0 = true := by decide +kernel
set_option maxRecDepth 65536 in
theorem w_heap : heapFits about1 = true := by decide +kernel
set_option maxRecDepth 65536 in
theorem w_runnable : about1.curStatus? = some .runnable := by decide +kernel
set_option maxRecDepth 65536 in
theorem w_alone : about1.alone = true := by decide +kernel
set_option maxRecDepth 65536 in
theorem w_named : about1.methodNamed? x = some theMethod := by decide +kernel
set_option maxRecDepth 65536 in
theorem w_hears : about1.hears theMethod below0 = true := by decide +kernel
set_option maxRecDepth 65536 in
theorem w_ripe : about1.ripe theMethod args0 below0 = true := by decide +kernel
theorem w_running : about1.status = .running := rfl
set_option maxRecDepth 65536 in
theorem w_room : about1.hasRoom e0.platform room_1 = true :=
  launch0.hasRoom_least _ room_1 (by decide +kernel) (by decide +kernel) (by decide +kernel) (by decide +kernel) (by decide +kernel) (by decide +kernel)
theorem allAtoms_all (ts : List Jvm.Cond) (a : Array Jvm.Value) (st : Jvm.State) : (allAtoms ts).before a st = ts.all (fun c => c.before a st) := by
  induction ts with
  | nil => rfl
  | cons c t ih =>
    show (Jvm.Cond.and c (allAtoms t)).before a st = _
    rw [Jvm.Cond.before_and, ih, List.all_cons]
def words1 : List Jvm.Cond := Jvm.Cond.code x code maxLocals ret :: tables_1
/-- a 'code' word, met by the world's own term for the bytes: nothing is compared byte by byte -/
theorem code_word {y : MethodName} {bytes : ByteArray} {mx : Nat} {rt : Option FieldType} {a : Array Value} {s : State} {m : MethodId} {meth : Method} {c : Code} (h1 : s.methodNamed? y = some m) (h2 : s.vm.method? m = some meth) (h3 : meth.code = some c) (h4 : c.code = bytes)
    (h5 : (c.maxLocals == mx && c.exceptionTable.isEmpty && decide (c.maxStack ≤ mostOperands) && decide (meth.sig.returnType = rt) && !meth.locks && decide (parseMethodDescriptor y.desc = some meth.sig)) = true) : (Jvm.Cond.code y bytes mx rt).before a s = true := by
  simp only [Bool.and_eq_true, beq_iff_eq, Bool.not_eq_true', decide_eq_true_eq] at h5
  obtain ⟨⟨⟨⟨⟨g1, g2⟩, g3⟩, g4⟩, g5⟩, g6⟩ := h5
  simp [Cond.before, Cond.holds, Cond.value, h1, h2, h3, h4, g1, g2, g3, g4, g5, g6]
def isCode : Jvm.Cond → Bool
  | .code _ _ _ _ => true
  | _ => false
theorem all_split {L : List Jvm.Cond} {P : Jvm.Cond → Bool} (h1 : L.all (fun c => isCode c || P c) = true) (h2 : ∀ c ∈ L.filter isCode, P c = true) : L.all P = true := by
  refine List.all_eq_true.mpr fun c hc => ?_
  have h := List.all_eq_true.mp h1 c hc
  rcases Bool.eq_false_or_eq_true (isCode c) with hi | hi
  · exact h2 c (List.mem_filter.mpr ⟨hc, hi⟩)
  · simpa [hi] using h
set_option maxRecDepth 65536 in
theorem w_c0 : (Jvm.Cond.code x code maxLocals ret).before args0 about1 = true := code_word (m := ⟨1, 1⟩) (meth := k1m1) (c := k1c1) (by decide +kernel) rfl rfl rfl (by decide +kernel)
set_option maxRecDepth 65536 in
theorem w_c1 : (Jvm.Cond.code ({ cls := "com/example/gallant_courier/gallantcourier/core/LossRate", name := "<init>", desc := "()V" } : Jvm.MethodName) prog_20_method_1_code (1 : Nat) (Option.none : Option Jvm.ClassFile.FieldType)).before args0 about1 = true := code_word (m := ⟨2, 0⟩) (meth := k2m0) (c := k2c0) (by decide +kernel) rfl rfl rfl (by decide +kernel)
set_option maxRecDepth 65536 in
theorem w_c2 : (Jvm.Cond.code ({ cls := "java/lang/Object", name := "<init>", desc := "()V" } : Jvm.MethodName) object_method_1_code (1 : Nat) (Option.none : Option Jvm.ClassFile.FieldType)).before args0 about1 = true := code_word (m := ⟨0, 0⟩) (meth := k0m0) (c := k0c0) (by decide +kernel) rfl rfl rfl (by decide +kernel)
set_option maxRecDepth 65536 in
theorem w_c3 : (Jvm.Cond.code ({ cls := "com/example/gallant_courier/gallantcourier/core/LossRateWaitsPerDoublingPinLaw", name := "bit", desc := "(II)Z" } : Jvm.MethodName) method_3_code (2 : Nat) (Option.some Jvm.ClassFile.FieldType.boolean)).before args0 about1 = true := code_word (m := ⟨1, 2⟩) (meth := k1m2) (c := k1c2) (by decide +kernel) rfl rfl rfl (by decide +kernel)
set_option maxRecDepth 65536 in
theorem w_c4 : (Jvm.Cond.code ({ cls := "com/example/gallant_courier/gallantcourier/core/LossRate", name := "sample", desc := "(Z)V" } : Jvm.MethodName) prog_20_method_2_code (2 : Nat) (Option.none : Option Jvm.ClassFile.FieldType)).before args0 about1 = true := code_word (m := ⟨2, 1⟩) (meth := k2m1) (c := k2c1) (by decide +kernel) rfl rfl rfl (by decide +kernel)
set_option maxRecDepth 65536 in
theorem w_c5 : (Jvm.Cond.code ({ cls := "com/example/gallant_courier/gallantcourier/core/LossRate", name := "waitsPerDoubling", desc := "()I" } : Jvm.MethodName) prog_20_method_3_code (6 : Nat) (Option.some Jvm.ClassFile.FieldType.int)).before args0 about1 = true := code_word (m := ⟨2, 2⟩) (meth := k2m2) (c := k2c2) (by decide +kernel) rfl rfl rfl (by decide +kernel)
set_option maxRecDepth 65536 in
theorem w_c6 : (Jvm.Cond.code ({ cls := "com/example/gallant_courier/gallantcourier/core/LossRateWaitsPerDoublingPinLaw", name := "one", desc := "(III)I" } : Jvm.MethodName) method_4_code (3 : Nat) (Option.some Jvm.ClassFile.FieldType.int)).before args0 about1 = true := code_word (m := ⟨1, 3⟩) (meth := k1m3) (c := k1c3) (by decide +kernel) rfl rfl rfl (by decide +kernel)
set_option maxRecDepth 65536 in
theorem w_c7 : (Jvm.Cond.code ({ cls := "com/example/gallant_courier/gallantcourier/core/LossRateWaitsPerDoublingPinLaw", name := "expected", desc := "(II)I" } : Jvm.MethodName) method_5_code (34 : Nat) (Option.some Jvm.ClassFile.FieldType.int)).before args0 about1 = true := code_word (m := ⟨1, 4⟩) (meth := k1m4) (c := k1c4) (by decide +kernel) rfl rfl rfl (by decide +kernel)
def codes1 : List Jvm.Cond := [Jvm.Cond.code x code maxLocals ret, Jvm.Cond.code ({ cls := "com/example/gallant_courier/gallantcourier/core/LossRate", name := "<init>", desc := "()V" } : Jvm.MethodName) prog_20_method_1_code (1 : Nat) (Option.none : Option Jvm.ClassFile.FieldType), Jvm.Cond.code ({ cls := "java/lang/Object", name := "<init>", desc := "()V" } : Jvm.MethodName) object_method_1_code (1 : Nat) (Option.none : Option Jvm.ClassFile.FieldType), Jvm.Cond.code ({ cls := "com/example/gallant_courier/gallantcourier/core/LossRateWaitsPerDoublingPinLaw", name := "bit", desc := "(II)Z" } : Jvm.MethodName) method_3_code (2 : Nat) (Option.some Jvm.ClassFile.FieldType.boolean), Jvm.Cond.code ({ cls := "com/example/gallant_courier/gallantcourier/core/LossRate", name := "sample", desc := "(Z)V" } : Jvm.MethodName) prog_20_method_2_code (2 : Nat) (Option.none : Option Jvm.ClassFile.FieldType), Jvm.Cond.code ({ cls := "com/example/gallant_courier/gallantcourier/core/LossRate", name := "waitsPerDoubling", desc := "()I" } : Jvm.MethodName) prog_20_method_3_code (6 : Nat) (Option.some Jvm.ClassFile.FieldType.int), Jvm.Cond.code ({ cls := "com/example/gallant_courier/gallantcourier/core/LossRateWaitsPerDoublingPinLaw", name := "one", desc := "(III)I" } : Jvm.MethodName) method_4_code (3 : Nat) (Option.some Jvm.ClassFile.FieldType.int), Jvm.Cond.code ({ cls := "com/example/gallant_courier/gallantcourier/core/LossRateWaitsPerDoublingPinLaw", name := "expected", desc := "(II)I" } : Jvm.MethodName) method_5_code (34 : Nat) (Option.some Jvm.ClassFile.FieldType.int)]
set_option maxRecDepth 65536 in
theorem codes_eq : words1.filter isCode = codes1 := rfl
theorem w_codes : ∀ c ∈ words1.filter isCode, c.before args0 about1 = true := by
  rw [codes_eq]
  intro c hc
  simp only [codes1, List.mem_cons, List.not_mem_nil, or_false] at hc
  rcases hc with rfl | rfl | rfl | rfl | rfl | rfl | rfl | rfl
  · exact w_c0
  · exact w_c1
  · exact w_c2
  · exact w_c3
  · exact w_c4
  · exact w_c5
  · exact w_c6
  · exact w_c7
set_option maxRecDepth 65536 in
theorem w_t1 : (words1.take 24).all (fun c => isCode c || c.before args0 about1) = true := by decide +kernel
set_option maxRecDepth 65536 in
theorem w_t2 : (words1.drop 24).all (fun c => isCode c || c.before args0 about1) = true := by decide +kernel
theorem w_tables : (allAtoms (Jvm.Cond.code x code maxLocals ret :: tables_1)).before args0 about1 = true := by
  rw [allAtoms_all]
  show words1.all (fun c => c.before args0 about1) = true
  refine all_split ?_ w_codes
  rw [← List.take_append_drop 24 words1, List.all_append, w_t1, w_t2]
  rfl
set_option maxRecDepth 65536 in
theorem w_case : (Jvm.Cond.and given_1 narrow_1).before args0 about1 = true := by decide +kernel
theorem w_applies : (headSpec (Jvm.Cond.code x code maxLocals ret :: tables_1) room_1).applies x e0.platform about1 = true :=
  (Spec.applies_iff w_frames).mpr ⟨w_running, w_runnable, w_alone, w_named, w_hears, w_ripe, w_room, w_tables⟩
theorem atStart : AtStart classFile x code maxLocals ret World_1 tables_1 room_1 Calls_1 rest_1 Pre_1 launch0 p0 e0 about1 theMethod args0 below0 :=
  ⟨lists_1, trivial, launch0.admits_env _ _ _, launch0.least_env, fairChoices_fair.cas, fairChoices_fair.clock, w_frames, w_args, w_heap, w_applies, trivial, trivial, w_case⟩
end start1
theorem witness_1 : WitnessClaimed_1 := ⟨start1.p0, start1.e0, start1.about1, start1.theMethod, start1.args0, start1.below0, start1.atStart⟩
end Jvm.Pilot.@@N@@
