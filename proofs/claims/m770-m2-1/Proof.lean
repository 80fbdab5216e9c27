import JvmDerived
import JvmDerived.Pilot.@@N@@Statement
import JvmDerived.Pilot.@@N@@Code
set_option linter.unusedVariables false
set_option linter.unusedSimpArgs false
namespace Jvm.Pilot.@@N@@
open Jvm Jvm.ClassFile Sem Op Lib Jvm.Free Jvm.Stand Jvm.LawKit Jvm.RoadKit Bundle Jvm.Pilot.@@N@@.Jvm.D
section Own
variable {p : Program} {l : Launch} {e : Env} {R : Room} {s : State} {m : MethodId} {args : Array Value} {below : List Frame} {meth : Method} {c : Code} {T : State} {locs : List Loc} {cells slots : Nat}
/-- the goal of a walk, as seen from a state on its road -/
def Gl (p : Program) (e : Env) (below : List Frame) (K : Outcome → State → Prop) (A : State) : Prop := ∃ s₂ o, Steps p.tables e below A s₂ ∧ s₂.status = .running ∧ Ended s₂ below o ∧ K o s₂
theorem Gl.up {K : Outcome → State → Prop} {A B : State} (h : ∀ t, Steps p.tables e below B t → Steps p.tables e below A t) (k : Gl p e below K B) : Gl p e below K A := by
  obtain ⟨s2, o, h1, r⟩ := k
  exact ⟨s2, o, h _ h1, r⟩
/-- what a body leaves -/
def Ret (s : State) (rc rs : Nat) (Q : Option Value → Heap → List Loc → Prop) (o : Outcome) (U : State) : Prop := ∃ v L, o = .returned v ∧ Q v U.heap L ∧ FrameEnd s o U L rc rs
variable {rc rs : Nat} {Q : Option Value → Heap → List Loc → Prop} {pc : Nat} {Ls : Array Slot} {rest : List Value}
theorem Gl.retI (X : Stand p l e R s m args below meth c T locs cells slots) (hx : p.tables.exec = Jvm.exec) (hlk : meth.locks = false) {z : Int32} (hret : meth.sig.returnType = some .int) (hd : decode c.code pc = .ok (.ireturn, 1)) (hq : Q (some (.int z)) T.heap locs) (hc : cells ≤ rc) (hs : slots ≤ rs) :
    Gl p e below (Ret s rc rs Q) (T.setTop (mkF m pc Ls (.int z :: rest))) := by
  obtain ⟨fs, hr, hrun, hended, hW, hsame⟩ := X.leave (v := some (.int z)) (fun h => by rw [hret] at h; cases h) hlk
  exact ⟨_, _, retOut X hx hret rfl (Or.inl ⟨rfl, Or.inl rfl, z, rfl⟩) hd hr, hrun, hended, _, _, rfl, hq, ⟨_, rfl⟩, hW, hsame.mono hc hs⟩
theorem Gl.retJ (X : Stand p l e R s m args below meth c T locs cells slots) (hx : p.tables.exec = Jvm.exec) (hlk : meth.locks = false) {z : Int64} (hret : meth.sig.returnType = some .long) (hd : decode c.code pc = .ok (.lreturn, 1)) (hq : Q (some (.long z)) T.heap locs) (hc : cells ≤ rc) (hs : slots ≤ rs) :
    Gl p e below (Ret s rc rs Q) (T.setTop (mkF m pc Ls (.long z :: rest))) := by
  obtain ⟨fs, hr, hrun, hended, hW, hsame⟩ := X.leave (v := some (.long z)) (fun h => by rw [hret] at h; cases h) hlk
  exact ⟨_, _, retOut X hx hret rfl (Or.inr (Or.inl ⟨rfl, rfl, z, rfl⟩)) hd hr, hrun, hended, _, _, rfl, hq, ⟨_, rfl⟩, hW, hsame.mono hc hs⟩
theorem Gl.retN (X : Stand p l e R s m args below meth c T locs cells slots) (hx : p.tables.exec = Jvm.exec) (hlk : meth.locks = false) {z w : Int32} {t : FieldType} (hret : meth.sig.returnType = some t) (ht : t = .boolean ∨ t = .byte ∨ t = .char ∨ t = .short) (hd : decode c.code pc = .ok (.ireturn, 1)) (hn : nar t z = w) (hq : Q (some (.int w)) T.heap locs) (hc : cells ≤ rc) (hs : slots ≤ rs) :
    Gl p e below (Ret s rc rs Q) (T.setTop (mkF m pc Ls (.int z :: rest))) := by
  subst hn
  obtain ⟨fs, hr, hrun, hended, hW, hsame⟩ := X.leave (v := some (.int (nar t z))) (fun h => by rw [hret] at h; cases h) hlk
  exact ⟨_, _, Jvm.RoadKit.retN X hx hret ht hd hr, hrun, hended, _, _, rfl, hq, ⟨_, rfl⟩, hW, hsame.mono hc hs⟩
theorem Gl.ret0 (X : Stand p l e R s m args below meth c T locs cells slots) (hx : p.tables.exec = Jvm.exec) (hlk : meth.locks = false) (hret : meth.sig.returnType = none) (hd : decode c.code pc = .ok (.return_, 1)) (hq : Q none T.heap locs) (hc : cells ≤ rc) (hs : slots ≤ rs) :
    Gl p e below (Ret s rc rs Q) (T.setTop (mkF m pc Ls [])) := by
  obtain ⟨fs, hr, hrun, hended, hW, hsame⟩ := X.leave (v := none) (fun _ => rfl) hlk
  exact ⟨_, _, X.returnOut hx hret hd hr, hrun, hended, _, _, rfl, hq, ⟨_, rfl⟩, hW, hsame.mono hc hs⟩
theorem Gl.retR (X : Stand p l e R s m args below meth c T locs cells slots) (hx : p.tables.exec = Jvm.exec) (hlk : meth.locks = false) {v : Value} {t : FieldType} (hret : meth.sig.returnType = some t) (hd : decode c.code pc = .ok (.areturn, 1)) (ht : t.isReference = true) (hv : v.isRef = true) (hq : Q (some v) T.heap locs) (hc : cells ≤ rc) (hs : slots ≤ rs) :
    Gl p e below (Ret s rc rs Q) (T.setTop (mkF m pc Ls (v :: rest))) := by
  have hn : narrow t v = v := by cases t <;> first | rfl | (cases ht; done) | (cases v <;> first | rfl | (cases hv; done))
  obtain ⟨fs, hr, hrun, hended, hW, hsame⟩ := X.leave (v := some v) (fun h => by rw [hret] at h; cases h) hlk
  exact ⟨_, _, retOut X hx hret hn (Or.inr (Or.inr (Or.inr (Or.inr ⟨rfl, ht, hv⟩)))) hd hr, hrun, hended, _, _, rfl, hq, ⟨_, rfl⟩, hW, hsame.mono hc hs⟩
end Own
theorem own_widen {p : Program} {l : Launch} {e : Env} {R : Room} {s : State} {m : MethodId} {args : Array Value} {below : List Frame} {meth : Method} {c : Code} {T : State} {locs : List Loc} {cells slots cells' slots' : Nat} (X : Stand p l e R s m args below meth c T locs cells slots) (hc : cells ≤ cells') (hs : slots ≤ slots') : Stand p l e R s m args below meth c T locs cells' slots' := { X with same := X.same.mono hc hs }
theorem old_le {Z : State} {n0 : Nat} {h : Heap} (O : Old Z n0 h) : n0 ≤ h.size := by rw [← O.1]; exact O.2.1
theorem b01_ite {q : Prop} [Decidable q] {a b : Int32} (ha : a = 0 ∨ a = 1) (hb : b = 0 ∨ b = 1) : (if q then a else b) = 0 ∨ (if q then a else b) = 1 := by split <;> assumption
theorem nar_b01 {a : Int32} (h : a = 0 ∨ a = 1) : nar .boolean a = a := by rcases h with rfl | rfl <;> rfl
theorem fits_b01 {a : Int32} (h : a = 0 ∨ a = 1) : fits .boolean (.int a) = true := by rcases h with rfl | rfl <;> rfl
theorem own_fld {Z : State} {h : Heap} {a : Addr} {C n d : String} {v w : Value} (q : v = w) (F : Fld Z h a C n d v) : Fld Z h a C n d w := q ▸ F
theorem jc_lt_t {x y : Int64} (h : x < y) : ifCond.holds .lt (lcmpW x y) = true := (if0 _ _).trans (tlt ((lw_lt x y).mpr h)).1
theorem jc_lt_f {x y : Int64} (h : ¬ x < y) : ifCond.holds .lt (lcmpW x y) = false := (if0 _ _).trans (flt (fun q => h ((lw_lt x y).mp q))).1
theorem jc_ge_t {x y : Int64} (h : ¬ x < y) : ifCond.holds .ge (lcmpW x y) = true := (if0 _ _).trans (flt (fun q => h ((lw_lt x y).mp q))).2.1
theorem jc_ge_f {x y : Int64} (h : x < y) : ifCond.holds .ge (lcmpW x y) = false := (if0 _ _).trans (tlt ((lw_lt x y).mpr h)).2.1
theorem jc_gt_t {x y : Int64} (h : y < x) : ifCond.holds .gt (lcmpW x y) = true := (if0 _ _).trans (tlt ((lw_gt x y).mpr h)).2.2.1
theorem jc_gt_f {x y : Int64} (h : ¬ y < x) : ifCond.holds .gt (lcmpW x y) = false := (if0 _ _).trans (flt (fun q => h ((lw_gt x y).mp q))).2.2.1
theorem jc_le_t {x y : Int64} (h : ¬ y < x) : ifCond.holds .le (lcmpW x y) = true := (if0 _ _).trans (flt (fun q => h ((lw_gt x y).mp q))).2.2.2
theorem jc_le_f {x y : Int64} (h : y < x) : ifCond.holds .le (lcmpW x y) = false := (if0 _ _).trans (tlt ((lw_gt x y).mpr h)).2.2.2
theorem jc_eq_t {x y : Int64} (h : x = y) : ifCond.holds .eq (lcmpW x y) = true := (if0 _ _).trans (teq ((lw_eq x y).mpr h)).1
theorem jc_eq_f {x y : Int64} (h : ¬ x = y) : ifCond.holds .eq (lcmpW x y) = false := (if0 _ _).trans (feq (fun q => h ((lw_eq x y).mp q))).1
theorem jc_ne_t {x y : Int64} (h : ¬ x = y) : ifCond.holds .ne (lcmpW x y) = true := (if0 _ _).trans (feq (fun q => h ((lw_eq x y).mp q))).2
theorem jc_ne_f {x y : Int64} (h : x = y) : ifCond.holds .ne (lcmpW x y) = false := (if0 _ _).trans (teq ((lw_eq x y).mpr h)).2
theorem own_mapset (cs : List Int32) (i : Nat) (v : Int32) : (cs.map Value.int).set i (.int v) = (cs.set i v).map Value.int := (List.map_set).symm
theorem d2_0 : decode jdk_29_method_66_code 0 = .ok (.lload_n 0, 1) := by decide +kernel
theorem d2_1 : decode jdk_29_method_66_code 1 = .ok (.lload_n 2, 1) := by decide +kernel
theorem d2_2 : decode jdk_29_method_66_code 2 = .ok (.lcmp, 1) := by decide +kernel
theorem d2_3 : decode jdk_29_method_66_code 3 = .ok (.ifCond .lt 7, 3) := by decide +kernel
theorem d2_10 : decode jdk_29_method_66_code 10 = .ok (.lload_n 2, 1) := by decide +kernel
theorem d2_6 : decode jdk_29_method_66_code 6 = .ok (.lload_n 0, 1) := by decide +kernel
theorem d2_7 : decode jdk_29_method_66_code 7 = .ok (.goto 4, 3) := by decide +kernel
theorem d2_11 : decode jdk_29_method_66_code 11 = .ok (.lreturn, 1) := by decide +kernel
theorem d3_0 : decode jdk_117_method_7_code 0 = .ok (.dload_n 0, 1) := by decide +kernel
theorem pd_oDcD : parseMethodDescriptor "(D)D" = some ⟨[.double], some .double⟩ := by decide +kernel
theorem d3_1 : decode jdk_117_method_7_code 1 = .ok (.invokestatic 38, 3) := by decide +kernel
theorem d3_4 : decode jdk_117_method_7_code 4 = .ok (.ldc2_w 111, 3) := by decide +kernel
theorem d3_7 : decode jdk_117_method_7_code 7 = .ok (.dcmp .l, 1) := by decide +kernel
theorem d3_8 : decode jdk_117_method_7_code 8 = .ok (.ifCond .le 7, 3) := by decide +kernel
theorem d3_11 : decode jdk_117_method_7_code 11 = .ok (.iconst 1, 1) := by decide +kernel
theorem d3_12 : decode jdk_117_method_7_code 12 = .ok (.goto 4, 3) := by decide +kernel
theorem d3_15 : decode jdk_117_method_7_code 15 = .ok (.iconst 0, 1) := by decide +kernel
theorem d3_16 : decode jdk_117_method_7_code 16 = .ok (.ireturn, 1) := by decide +kernel
theorem pn_java_lang_Double : plainName "java/lang/Double" = true := by first | (simp [plainName, overriddenIn]; done) | decide +kernel
theorem d1_0 : decode prog_79_method_1_code 0 = .ok (.aload_n 0, 1) := by decide +kernel
theorem d1_1 : decode prog_79_method_1_code 1 = .ok (.invokespecial 1, 3) := by decide +kernel
theorem d1_4 : decode prog_79_method_1_code 4 = .ok (.lload_n 1, 1) := by decide +kernel
theorem d1_5 : decode prog_79_method_1_code 5 = .ok (.lconst 0, 1) := by decide +kernel
theorem d1_6 : decode prog_79_method_1_code 6 = .ok (.lcmp, 1) := by decide +kernel
theorem d1_7 : decode prog_79_method_1_code 7 = .ok (.ifCond .lt 52, 3) := by decide +kernel
theorem d1_10 : decode prog_79_method_1_code 10 = .ok (.lload_n 3, 1) := by decide +kernel
theorem d1_11 : decode prog_79_method_1_code 11 = .ok (.lconst 0, 1) := by decide +kernel
theorem d1_12 : decode prog_79_method_1_code 12 = .ok (.lcmp, 1) := by decide +kernel
theorem d1_13 : decode prog_79_method_1_code 13 = .ok (.ifCond .lt 46, 3) := by decide +kernel
theorem d1_16 : decode prog_79_method_1_code 16 = .ok (.lload 5, 2) := by decide +kernel
theorem d1_18 : decode prog_79_method_1_code 18 = .ok (.lconst 0, 1) := by decide +kernel
theorem d1_19 : decode prog_79_method_1_code 19 = .ok (.lcmp, 1) := by decide +kernel
theorem d1_20 : decode prog_79_method_1_code 20 = .ok (.ifCond .lt 39, 3) := by decide +kernel
theorem d1_23 : decode prog_79_method_1_code 23 = .ok (.lload 7, 2) := by decide +kernel
theorem d1_25 : decode prog_79_method_1_code 25 = .ok (.lconst 0, 1) := by decide +kernel
theorem d1_26 : decode prog_79_method_1_code 26 = .ok (.lcmp, 1) := by decide +kernel
theorem d1_27 : decode prog_79_method_1_code 27 = .ok (.ifCond .lt 32, 3) := by decide +kernel
theorem d1_30 : decode prog_79_method_1_code 30 = .ok (.lload 9, 2) := by decide +kernel
theorem d1_32 : decode prog_79_method_1_code 32 = .ok (.lconst 0, 1) := by decide +kernel
theorem d1_33 : decode prog_79_method_1_code 33 = .ok (.lcmp, 1) := by decide +kernel
theorem d1_34 : decode prog_79_method_1_code 34 = .ok (.ifCond .lt 25, 3) := by decide +kernel
theorem d1_37 : decode prog_79_method_1_code 37 = .ok (.lload 13, 2) := by decide +kernel
theorem d1_39 : decode prog_79_method_1_code 39 = .ok (.lconst 0, 1) := by decide +kernel
theorem d1_40 : decode prog_79_method_1_code 40 = .ok (.lcmp, 1) := by decide +kernel
theorem d1_41 : decode prog_79_method_1_code 41 = .ok (.ifCond .lt 18, 3) := by decide +kernel
theorem d1_44 : decode prog_79_method_1_code 44 = .ok (.dload 11, 2) := by decide +kernel
theorem d1_46 : decode prog_79_method_1_code 46 = .ok (.dconst 0, 1) := by decide +kernel
theorem d1_47 : decode prog_79_method_1_code 47 = .ok (.dcmp .l, 1) := by decide +kernel
theorem d1_48 : decode prog_79_method_1_code 48 = .ok (.ifCond .lt 11, 3) := by decide +kernel
theorem d1_51 : decode prog_79_method_1_code 51 = .ok (.dload 11, 2) := by decide +kernel
theorem pd_oDcZ : parseMethodDescriptor "(D)Z" = some ⟨[.double], some .boolean⟩ := by decide +kernel
theorem d1_53 : decode prog_79_method_1_code 53 = .ok (.invokestatic 7, 3) := by decide +kernel
theorem d1_56 : decode prog_79_method_1_code 56 = .ok (.ifCond .eq 28, 3) := by decide +kernel
theorem d1_84 : decode prog_79_method_1_code 84 = .ok (.aload_n 0, 1) := by decide +kernel
theorem d1_85 : decode prog_79_method_1_code 85 = .ok (.lload_n 1, 1) := by decide +kernel
theorem d1_86 : decode prog_79_method_1_code 86 = .ok (.putfield 22, 3) := by decide +kernel
theorem d1_89 : decode prog_79_method_1_code 89 = .ok (.aload_n 0, 1) := by decide +kernel
theorem d1_90 : decode prog_79_method_1_code 90 = .ok (.lload_n 3, 1) := by decide +kernel
theorem d1_91 : decode prog_79_method_1_code 91 = .ok (.putfield 28, 3) := by decide +kernel
theorem d1_94 : decode prog_79_method_1_code 94 = .ok (.aload_n 0, 1) := by decide +kernel
theorem d1_95 : decode prog_79_method_1_code 95 = .ok (.lload 5, 2) := by decide +kernel
theorem d1_97 : decode prog_79_method_1_code 97 = .ok (.putfield 31, 3) := by decide +kernel
theorem d1_100 : decode prog_79_method_1_code 100 = .ok (.aload_n 0, 1) := by decide +kernel
theorem d1_101 : decode prog_79_method_1_code 101 = .ok (.lload 7, 2) := by decide +kernel
theorem d1_103 : decode prog_79_method_1_code 103 = .ok (.putfield 34, 3) := by decide +kernel
theorem d1_106 : decode prog_79_method_1_code 106 = .ok (.aload_n 0, 1) := by decide +kernel
theorem d1_107 : decode prog_79_method_1_code 107 = .ok (.lconst 0, 1) := by decide +kernel
theorem d1_108 : decode prog_79_method_1_code 108 = .ok (.lload_n 1, 1) := by decide +kernel
theorem d1_109 : decode prog_79_method_1_code 109 = .ok (.lload_n 3, 1) := by decide +kernel
theorem d1_110 : decode prog_79_method_1_code 110 = .ok (.lsub, 1) := by decide +kernel
theorem pd_oJJcJ : parseMethodDescriptor "(JJ)J" = some ⟨[.long, .long], some .long⟩ := by decide +kernel
theorem d1_111 : decode prog_79_method_1_code 111 = .ok (.invokestatic 37, 3) := by decide +kernel
theorem d1_114 : decode prog_79_method_1_code 114 = .ok (.putfield 43, 3) := by decide +kernel
theorem d1_117 : decode prog_79_method_1_code 117 = .ok (.aload_n 0, 1) := by decide +kernel
theorem d1_118 : decode prog_79_method_1_code 118 = .ok (.lload 9, 2) := by decide +kernel
theorem d1_120 : decode prog_79_method_1_code 120 = .ok (.putfield 46, 3) := by decide +kernel
theorem d1_123 : decode prog_79_method_1_code 123 = .ok (.aload_n 0, 1) := by decide +kernel
theorem d1_124 : decode prog_79_method_1_code 124 = .ok (.dload 11, 2) := by decide +kernel
theorem d1_126 : decode prog_79_method_1_code 126 = .ok (.putfield 49, 3) := by decide +kernel
theorem d1_129 : decode prog_79_method_1_code 129 = .ok (.aload_n 0, 1) := by decide +kernel
theorem d1_130 : decode prog_79_method_1_code 130 = .ok (.lload 13, 2) := by decide +kernel
theorem d1_132 : decode prog_79_method_1_code 132 = .ok (.putfield 53, 3) := by decide +kernel
theorem d1_135 : decode prog_79_method_1_code 135 = .ok (.return_, 1) := by decide +kernel
theorem pn_com_example_pooltergeist_pooltergeist_poolmanager_SpaceStatus : plainName "com/example/pooltergeist/pooltergeist/poolmanager/SpaceStatus" = true := by first | (simp [plainName, overriddenIn]; done) | decide +kernel
theorem d7_0 : decode jdk_29_method_70_code 0 = .ok (.lload_n 0, 1) := by decide +kernel
theorem d7_1 : decode jdk_29_method_70_code 1 = .ok (.lload_n 2, 1) := by decide +kernel
theorem d7_2 : decode jdk_29_method_70_code 2 = .ok (.lcmp, 1) := by decide +kernel
theorem d7_3 : decode jdk_29_method_70_code 3 = .ok (.ifCond .gt 7, 3) := by decide +kernel
theorem d7_10 : decode jdk_29_method_70_code 10 = .ok (.lload_n 2, 1) := by decide +kernel
theorem d7_6 : decode jdk_29_method_70_code 6 = .ok (.lload_n 0, 1) := by decide +kernel
theorem d7_7 : decode jdk_29_method_70_code 7 = .ok (.goto 4, 3) := by decide +kernel
theorem d7_11 : decode jdk_29_method_70_code 11 = .ok (.lreturn, 1) := by decide +kernel
theorem d5_0 : decode prog_79_method_5_code 0 = .ok (.lload_n 0, 1) := by decide +kernel
theorem d5_1 : decode prog_79_method_5_code 1 = .ok (.ldc2_w 71, 3) := by decide +kernel
theorem d5_4 : decode prog_79_method_5_code 4 = .ok (.lcmp, 1) := by decide +kernel
theorem d5_5 : decode prog_79_method_5_code 5 = .ok (.ifCond .ne 9, 3) := by decide +kernel
theorem d5_8 : decode prog_79_method_5_code 8 = .ok (.ldc2_w 60, 3) := by decide +kernel
theorem d5_11 : decode prog_79_method_5_code 11 = .ok (.goto 4, 3) := by decide +kernel
theorem d5_14 : decode prog_79_method_5_code 14 = .ok (.lload_n 0, 1) := by decide +kernel
theorem d5_15 : decode prog_79_method_5_code 15 = .ok (.lreturn, 1) := by decide +kernel
theorem d6_0 : decode prog_79_method_3_code 0 = .ok (.lload_n 1, 1) := by decide +kernel
theorem pd_oJcJ : parseMethodDescriptor "(J)J" = some ⟨[.long], some .long⟩ := by decide +kernel
theorem d6_1 : decode prog_79_method_3_code 1 = .ok (.invokestatic 56, 3) := by decide +kernel
theorem d6_4 : decode prog_79_method_3_code 4 = .ok (.lstore_n 3, 1) := by decide +kernel
theorem d6_5 : decode prog_79_method_3_code 5 = .ok (.lload_n 3, 1) := by decide +kernel
theorem d6_6 : decode prog_79_method_3_code 6 = .ok (.lconst 0, 1) := by decide +kernel
theorem d6_7 : decode prog_79_method_3_code 7 = .ok (.lcmp, 1) := by decide +kernel
theorem d6_8 : decode prog_79_method_3_code 8 = .ok (.ifCond .eq 22, 3) := by decide +kernel
theorem d6_30 : decode prog_79_method_3_code 30 = .ok (.iconst 1, 1) := by decide +kernel
theorem d6_31 : decode prog_79_method_3_code 31 = .ok (.goto 4, 3) := by decide +kernel
theorem d6_11 : decode prog_79_method_3_code 11 = .ok (.aload_n 0, 1) := by decide +kernel
theorem d6_12 : decode prog_79_method_3_code 12 = .ok (.getfield 22, 3) := by decide +kernel
theorem d6_15 : decode prog_79_method_3_code 15 = .ok (.aload_n 0, 1) := by decide +kernel
theorem d6_16 : decode prog_79_method_3_code 16 = .ok (.getfield 28, 3) := by decide +kernel
theorem d6_19 : decode prog_79_method_3_code 19 = .ok (.lsub, 1) := by decide +kernel
theorem d6_20 : decode prog_79_method_3_code 20 = .ok (.aload_n 0, 1) := by decide +kernel
theorem d6_21 : decode prog_79_method_3_code 21 = .ok (.getfield 34, 3) := by decide +kernel
theorem d6_24 : decode prog_79_method_3_code 24 = .ok (.ladd, 1) := by decide +kernel
theorem d6_25 : decode prog_79_method_3_code 25 = .ok (.lload_n 3, 1) := by decide +kernel
theorem d6_26 : decode prog_79_method_3_code 26 = .ok (.lcmp, 1) := by decide +kernel
theorem d6_27 : decode prog_79_method_3_code 27 = .ok (.ifCond .lt 7, 3) := by decide +kernel
theorem d6_34 : decode prog_79_method_3_code 34 = .ok (.iconst 0, 1) := by decide +kernel
theorem d6_35 : decode prog_79_method_3_code 35 = .ok (.ireturn, 1) := by decide +kernel
theorem pd_oJJJJJDJcV : parseMethodDescriptor "(JJJJJDJ)V" = some ⟨[.long, .long, .long, .long, .long, .double, .long], none⟩ := by decide +kernel
theorem pd_oJcZ : parseMethodDescriptor "(J)Z" = some ⟨[.long], some .boolean⟩ := by decide +kernel
theorem pn_com_example_pooltergeist_pooltergeist_poolmanager_SpaceStatusHasRoomForPinLaw : plainName "com/example/pooltergeist/pooltergeist/poolmanager/SpaceStatusHasRoomForPinLaw" = true := by first | (simp [plainName, overriddenIn]; done) | decide +kernel
def f2 (q0 : Int64) (q1 : Int64) : Int64 := (if q0 < q1 then q1 else q0)
def Q2 (Z : State) (q0 : Int64) (q1 : Int64) (h0 : Heap) (n0 : Nat) (v : Option Value) (h : Heap) (L : List Loc) : Prop := v = some (.long (f2 q0 q1)) ∧ L = [] ∧ h = h0
theorem ef2 (m : MethodId) (q0 : Int64) (q1 : Int64) : entryFrame m #[(.long q0), (.long q1)] 4 = mkF m 0 #[.val (.long q0), .second, .val (.long q1), .second] [] := by first | (simp [entryFrame, mkF, argsToLocals, Value.category]; done) | rfl
set_option maxRecDepth 65536 in
set_option maxHeartbeats 40000000 in
theorem rm2 (l : Launch) (Z : State) (aa : Array Value) (hw : ∀ d ∈ tables_1, d.before aa Z = true) (ws : List Jvm.Cond) (q0 : Int64) (q1 : Int64) (h0 : Heap) (n0 : Nat) (O0 : Old Z n0 h0)  :
    MetFree l (⟨"java/lang/Math", "max", "(JJ)J"⟩ : MethodName) (head1 (Jvm.Cond.code (⟨"java/lang/Math", "max", "(JJ)J"⟩ : MethodName) jdk_29_method_66_code 4 (some .long) :: ws) ({ frames := 0, cells := 0, slots := 0, locals := 0 } : Room)) (fun a U => a = #[(.long q0), (.long q1)] ∧ Z.Warmed39 U.vm ∧ U.heap = h0) (fun _ _ _ _ _ => True) (fun _ U o U' => ∃ v L, o = .returned v ∧ Q2 Z q0 q1 h0 n0 v U'.heap L ∧ FrameEnd U o U' L ({ frames := 0, cells := 0, slots := 0, locals := 0 } : Room).cells ({ frames := 0, cells := 0, slots := 0, locals := 0 } : Room).slots) := by
  refine MetFree.of_bodySF (Jvm.Free.JP.mathPlain rfl (by decide +kernel)) hisR ?_
  intro p e s m args below meth c s₁ Bd hml0 hP hK
  obtain ⟨rfl, hZ, hh⟩ := hP
  have hx := Bd.exec
  have hby := Bd.bytes
  have hlk := Bd.notSynchronized
  have hml : c.maxLocals = 4 := hml0
  have hown : s.vm.findClass "java/lang/Math" = some m.cls := findClass_of_methodNamed Bd.named
  have hnm := (name_of_methodNamed Bd.named Bd.method).1
  have X0 : Stand p l e ({ frames := 0, cells := 0, slots := 0, locals := 0 } : Room) s m #[(.long q0), (.long q1)] below meth c s₁ [] 0 0 := Stand.of_body Bd
  have e0 : s₁.heap = h0 := by rw [← hh, Bd.state]; rfl
  have N0 := Fr.nil n0
  show Gl p e below (Ret s 0 0 (Q2 Z q0 q1 h0 n0)) (s₁.setTop (entryFrame m #[(.long q0), (.long q1)] 4))
  rw [ef2 m q0 q1]
  obtain ⟨args, hargs⟩ : ∃ z : Array Value, z = #[(.long q0), (.long q1)] := ⟨_, rfl⟩
  rw [← hargs] at X0
  refine Gl.up (B := s₁.setTop (mkF m 3 #[.val (.long q0), .second, .val (.long q1), .second] [(.int (lcmpW q0 q1))])) (fun t kt => ?_) ?_
  · show Steps p.tables e below (s₁.setTop (mkF m 0 #[.val (.long q0), .second, .val (.long q1), .second] [])) _
    refine XS.lloadN X0.here hx rfl (hb hby d2_0) rfl ?_
    show Steps p.tables e below (s₁.setTop (mkF m 1 #[.val (.long q0), .second, .val (.long q1), .second] [(.long q0)])) _
    refine XS.lloadN X0.here hx rfl (hb hby d2_1) rfl ?_
    show Steps p.tables e below (s₁.setTop (mkF m 2 #[.val (.long q0), .second, .val (.long q1), .second] [(.long q1), (.long q0)])) _
    refine XS.lcmp X0.here hx rfl (hb hby d2_2) rfl ?_
    exact kt
  suffices J1 : ∀ (T1 : State) (v1_s0 : Int64), v1_s0 = (if q0 < q1 then q1 else q0) → Stand p l e ({ frames := 0, cells := 0, slots := 0, locals := 0 } : Room) s m args below meth c T1 [] 0 0 → T1.heap = h0 → Gl p e below (Ret s 0 0 (Q2 Z q0 q1 h0 n0)) (T1.setTop (mkF m 11 #[.val (.long q0), .second, .val (.long q1), .second] [(.long v1_s0)])) by
    by_cases c3_2 : q0 < q1
    · refine Gl.up (B := s₁.setTop (mkF m 11 #[.val (.long q0), .second, .val (.long q1), .second] [(.long q1)])) (fun t kt => ?_) ?_
      · show Steps p.tables e below (s₁.setTop (mkF m 3 #[.val (.long q0), .second, .val (.long q1), .second] [(.int (lcmpW q0 q1))])) _
        refine XS.ifYes X0.here hx rfl (pc0 := 3) (pc' := 10) rfl (hb hby d2_3) rfl (jc_lt_t c3_2) (by decide) (by decide) ?_
        show Steps p.tables e below (s₁.setTop (mkF m 10 #[.val (.long q0), .second, .val (.long q1), .second] [])) _
        refine XS.lloadN X0.here hx rfl (hb hby d2_10) rfl ?_
        exact kt
      exact J1 _ q1 (if_pos c3_2).symm X0 e0
    · refine Gl.up (B := s₁.setTop (mkF m 11 #[.val (.long q0), .second, .val (.long q1), .second] [(.long q0)])) (fun t kt => ?_) ?_
      · show Steps p.tables e below (s₁.setTop (mkF m 3 #[.val (.long q0), .second, .val (.long q1), .second] [(.int (lcmpW q0 q1))])) _
        refine XS.ifNo X0.here hx rfl (hb hby d2_3) rfl (jc_lt_f c3_2) ?_
        show Steps p.tables e below (s₁.setTop (mkF m 6 #[.val (.long q0), .second, .val (.long q1), .second] [])) _
        refine XS.lloadN X0.here hx rfl (hb hby d2_6) rfl ?_
        show Steps p.tables e below (s₁.setTop (mkF m 7 #[.val (.long q0), .second, .val (.long q1), .second] [(.long q0)])) _
        refine XS.goto X0.here hx rfl (pc0 := 7) (pc' := 11) rfl (hb hby d2_7) (by decide) (by decide) ?_
        exact kt
      exact J1 _ q0 (if_neg c3_2).symm X0 e0
  intro T1 v1_s0 hv1_s0 X1 e1
  subst hv1_s0
  refine Gl.retJ X1 hx hlk Bd.returns (hb hby d2_11) ?_ (by decide) (by decide)
  exact ⟨congrArg (fun z => some (Value.long z)) (show (if q0 < q1 then q1 else q0) = f2 q0 q1 from rfl), rfl, e1⟩
def f3 (w0 : UInt64) : Int32 := (if (0 : Int32) < (cmpValue (FP.dcmp (w0 &&& 0x7fffffffffffffff) (9218868437227405311 : UInt64)) .l) then (1 : Int32) else (0 : Int32))
theorem f3_b (w0 : UInt64) : f3 w0 = 0 ∨ f3 w0 = 1 := (b01_ite (Or.inr rfl) (Or.inl rfl))
def Q3 (Z : State) (w0 : UInt64) (h0 : Heap) (n0 : Nat) (v : Option Value) (h : Heap) (L : List Loc) : Prop := v = some (.int (f3 w0)) ∧ L = [] ∧ h = h0
theorem ef3 (m : MethodId) (w0 : UInt64) : entryFrame m #[(.double w0)] 2 = mkF m 0 #[.val (.double w0), .second] [] := by first | (simp [entryFrame, mkF, argsToLocals, Value.category]; done) | rfl
set_option maxRecDepth 65536 in
set_option maxHeartbeats 40000000 in
theorem rm3 (l : Launch) (Z : State) (aa : Array Value) (hw : ∀ d ∈ tables_1, d.before aa Z = true) (ws : List Jvm.Cond) (w0 : UInt64) (h0 : Heap) (n0 : Nat) (O0 : Old Z n0 h0) (hnan : Jvm.Free.Fl.NoNaN64 w0) :
    MetFree l (⟨"java/lang/Double", "isInfinite", "(D)Z"⟩ : MethodName) (head1 (Jvm.Cond.code (⟨"java/lang/Double", "isInfinite", "(D)Z"⟩ : MethodName) jdk_117_method_7_code 2 (some .boolean) :: ws) ({ frames := 1, cells := 0, slots := 0, locals := 13 } : Room)) (fun a U => a = #[(.double w0)] ∧ Z.Warmed39 U.vm ∧ U.heap = h0) (fun _ _ _ _ _ => True) (fun _ U o U' => ∃ v L, o = .returned v ∧ Q3 Z w0 h0 n0 v U'.heap L ∧ FrameEnd U o U' L ({ frames := 1, cells := 0, slots := 0, locals := 13 } : Room).cells ({ frames := 1, cells := 0, slots := 0, locals := 13 } : Room).slots) := by
  refine MetFree.of_bodySF (plainFor_of_name pn_java_lang_Double) hisR ?_
  intro p e s m args below meth c s₁ Bd hml0 hP hK
  obtain ⟨rfl, hZ, hh⟩ := hP
  have hx := Bd.exec
  have hby := Bd.bytes
  have hlk := Bd.notSynchronized
  have hml : c.maxLocals = 2 := hml0
  have hown : s.vm.findClass "java/lang/Double" = some m.cls := findClass_of_methodNamed Bd.named
  have hnm := (name_of_methodNamed Bd.named Bd.method).1
  have X0 : Stand p l e ({ frames := 1, cells := 0, slots := 0, locals := 13 } : Room) s m #[(.double w0)] below meth c s₁ [] 0 0 := Stand.of_body Bd
  have e0 : s₁.heap = h0 := by rw [← hh, Bd.state]; rfl
  have N0 := Fr.nil n0
  show Gl p e below (Ret s 0 0 (Q3 Z w0 h0 n0)) (s₁.setTop (entryFrame m #[(.double w0)] 2))
  rw [ef3 m w0]
  obtain ⟨args, hargs⟩ : ∃ z : Array Value, z = #[(.double w0)] := ⟨_, rfl⟩
  rw [← hargs] at X0
  refine Gl.up (B := s₁.setTop (mkF m 1 #[.val (.double w0), .second] [(.double w0)])) (fun t kt => ?_) ?_
  · show Steps p.tables e below (s₁.setTop (mkF m 0 #[.val (.double w0), .second] [])) _
    refine XS.dloadN X0.here hx rfl (hb hby d3_0) rfl ?_
    exact kt
  obtain ⟨T1, X1, e1, st1⟩ := natS X0 hx hZ hown (y := (⟨"java/lang/Math", "abs", "(D)D"⟩ : MethodName)) (hw _ (List.mem_of_getElem? (i := 18) rfl)) (hw _ (List.mem_of_getElem? (i := 19) rfl)) (hw _ (List.mem_of_getElem? (i := 3) rfl)) (hw _ (List.mem_of_getElem? (i := 20) rfl)) (by decide) e0 (W := 0) (F := fun a' => a' = #[.double w0] ∧ Jvm.Free.Fl.NoNaN64 w0) (fun hc => Jvm.Free.Fl.Abs.absD_pays w0 hc (by decide) (by decide)) (g := (mkF m 1 #[.val (.double w0), .second] [(.double w0)])) rfl (by rw [hml]; rfl) (argsL := [(.double w0)]) (rest := []) (lenOf pd_oDcD rfl) rfl (by show 2 * 0 + _ ≤ _; exact Nat.le_of_eq rfl) (hb hby d3_1) (by decide) (by decide) ⟨rfl, hnan⟩ rfl
  refine Gl.up (B := T1.setTop (mkF m 4 #[.val (.double w0), .second] [(.double (w0 &&& 0x7fffffffffffffff))])) (fun t kt => st1 _ kt) ?_
  refine Gl.up (B := T1.setTop (mkF m 8 #[.val (.double w0), .second] [(.int (cmpValue (FP.dcmp (w0 &&& 0x7fffffffffffffff) (9218868437227405311 : UInt64)) .l))])) (fun t kt => ?_) ?_
  · show Steps p.tables e below (T1.setTop (mkF m 4 #[.val (.double w0), .second] [(.double (w0 &&& 0x7fffffffffffffff))])) _
    refine X1.ldc2DoubleC hx hown (mvT hZ (hw _ (List.mem_of_getElem? (i := 21) rfl))) (g := (mkF m 4 #[.val (.double w0), .second] [(.double (w0 &&& 0x7fffffffffffffff))])) rfl (hb hby d3_4) _ ?_
    show Steps p.tables e below (T1.setTop (mkF m 7 #[.val (.double w0), .second] [(.double (9218868437227405311 : UInt64)), (.double (w0 &&& 0x7fffffffffffffff))])) _
    refine XS.dcmpS X1.here hx rfl (hb hby d3_7) rfl rfl ?_
    exact kt
  suffices J2 : ∀ (T2 : State) (v2_s0 : Int32), v2_s0 = (if (0 : Int32) < (cmpValue (FP.dcmp (w0 &&& 0x7fffffffffffffff) (9218868437227405311 : UInt64)) .l) then (1 : Int32) else (0 : Int32)) → Stand p l e ({ frames := 1, cells := 0, slots := 0, locals := 13 } : Room) s m args below meth c T2 [] 0 0 → T2.heap = h0 → Gl p e below (Ret s 0 0 (Q3 Z w0 h0 n0)) (T2.setTop (mkF m 16 #[.val (.double w0), .second] [(.int v2_s0)])) by
    by_cases c8_3 : (0 : Int32) < (cmpValue (FP.dcmp (w0 &&& 0x7fffffffffffffff) (9218868437227405311 : UInt64)) .l)
    · refine Gl.up (B := T1.setTop (mkF m 16 #[.val (.double w0), .second] [(.int (1 : Int32))])) (fun t kt => ?_) ?_
      · show Steps p.tables e below (T1.setTop (mkF m 8 #[.val (.double w0), .second] [(.int (cmpValue (FP.dcmp (w0 &&& 0x7fffffffffffffff) (9218868437227405311 : UInt64)) .l))])) _
        refine XS.ifNo X1.here hx rfl (hb hby d3_8) rfl ((if0 _ _).trans (tlt c8_3).2.2.2) ?_
        show Steps p.tables e below (T1.setTop (mkF m 11 #[.val (.double w0), .second] [])) _
        refine XS.iconst X1.here hx rfl (hb hby d3_11) ?_
        show Steps p.tables e below (T1.setTop (mkF m 12 #[.val (.double w0), .second] [(.int (1 : Int32))])) _
        refine XS.goto X1.here hx rfl (pc0 := 12) (pc' := 16) rfl (hb hby d3_12) (by decide) (by decide) ?_
        exact kt
      exact J2 _ (1 : Int32) (if_pos c8_3).symm X1 e1
    · refine Gl.up (B := T1.setTop (mkF m 16 #[.val (.double w0), .second] [(.int (0 : Int32))])) (fun t kt => ?_) ?_
      · show Steps p.tables e below (T1.setTop (mkF m 8 #[.val (.double w0), .second] [(.int (cmpValue (FP.dcmp (w0 &&& 0x7fffffffffffffff) (9218868437227405311 : UInt64)) .l))])) _
        refine XS.ifYes X1.here hx rfl (pc0 := 8) (pc' := 15) rfl (hb hby d3_8) rfl ((if0 _ _).trans (flt c8_3).2.2.2) (by decide) (by decide) ?_
        show Steps p.tables e below (T1.setTop (mkF m 15 #[.val (.double w0), .second] [])) _
        refine XS.iconst X1.here hx rfl (hb hby d3_15) ?_
        exact kt
      exact J2 _ (0 : Int32) (if_neg c8_3).symm X1 e1
  intro T2 v2_s0 hv2_s0 X2 e2
  subst hv2_s0
  refine Gl.retN X2 hx hlk (t := .boolean) Bd.returns (by simp) (hb hby d3_16) (w := (if (0 : Int32) < (cmpValue (FP.dcmp (w0 &&& 0x7fffffffffffffff) (9218868437227405311 : UInt64)) .l) then (1 : Int32) else (0 : Int32))) (nar_b01 (b01_ite (Or.inr rfl) (Or.inl rfl))) ?_ (by decide) (by decide)
  exact ⟨congrArg (fun z => some (Value.int z)) (show (if (0 : Int32) < (cmpValue (FP.dcmp (w0 &&& 0x7fffffffffffffff) (9218868437227405311 : UInt64)) .l) then (1 : Int32) else (0 : Int32)) = f3 w0 from rfl), rfl, e2⟩
def Q1 (Z : State) (a0 : Addr) (q1 : Int64) (q2 : Int64) (q3 : Int64) (q4 : Int64) (q5 : Int64) (w6 : UInt64) (q7 : Int64) (o0 : Int64) (o1 : Int64) (o2 : Int64) (o3 : Int64) (o4 : Int64) (o5 : Int64) (o6 : Int64) (od : UInt64) (h0 : Heap) (n0 : Nat) (v : Option Value) (h : Heap) (L : List Loc) : Prop := v = none ∧ Fr n0 L ∧ Keep h0 h [a0] ∧ Fld Z h a0 "com/example/pooltergeist/pooltergeist/poolmanager/SpaceStatus" "total" "J" (.long q1) ∧ Fld Z h a0 "com/example/pooltergeist/pooltergeist/poolmanager/SpaceStatus" "used" "J" (.long q2) ∧ Fld Z h a0 "com/example/pooltergeist/pooltergeist/poolmanager/SpaceStatus" "precious" "J" (.long q3) ∧ Fld Z h a0 "com/example/pooltergeist/pooltergeist/poolmanager/SpaceStatus" "cached" "J" (.long q4)
theorem ef1 (m : MethodId) (a0 : Addr) (q1 : Int64) (q2 : Int64) (q3 : Int64) (q4 : Int64) (q5 : Int64) (w6 : UInt64) (q7 : Int64) : entryFrame m #[(.ref a0), (.long q1), (.long q2), (.long q3), (.long q4), (.long q5), (.double w6), (.long q7)] 15 = mkF m 0 #[.val (.ref a0), .val (.long q1), .second, .val (.long q2), .second, .val (.long q3), .second, .val (.long q4), .second, .val (.long q5), .second, .val (.double w6), .second, .val (.long q7), .second] [] := by first | (simp [entryFrame, mkF, argsToLocals, Value.category]; done) | rfl
set_option maxRecDepth 65536 in
set_option maxHeartbeats 40000000 in
theorem rm1 (l : Launch) (Z : State) (aa : Array Value) (hw : ∀ d ∈ tables_1, d.before aa Z = true) (ws : List Jvm.Cond) (a0 : Addr) (q1 : Int64) (q2 : Int64) (q3 : Int64) (q4 : Int64) (q5 : Int64) (w6 : UInt64) (q7 : Int64) (o0 : Int64) (o1 : Int64) (o2 : Int64) (o3 : Int64) (o4 : Int64) (o5 : Int64) (o6 : Int64) (od : UInt64) (h0 : Heap) (n0 : Nat) (O0 : Old Z n0 h0) (E_a0 : Exa Z h0 a0 "com/example/pooltergeist/pooltergeist/poolmanager/SpaceStatus") (F_a0_total : Fld Z h0 a0 "com/example/pooltergeist/pooltergeist/poolmanager/SpaceStatus" "total" "J" (.long o0)) (F_a0_used : Fld Z h0 a0 "com/example/pooltergeist/pooltergeist/poolmanager/SpaceStatus" "used" "J" (.long o1)) (F_a0_precious : Fld Z h0 a0 "com/example/pooltergeist/pooltergeist/poolmanager/SpaceStatus" "precious" "J" (.long o2)) (F_a0_cached : Fld Z h0 a0 "com/example/pooltergeist/pooltergeist/poolmanager/SpaceStatus" "cached" "J" (.long o3)) (F_a0_free : Fld Z h0 a0 "com/example/pooltergeist/pooltergeist/poolmanager/SpaceStatus" "free" "J" (.long o4)) (F_a0_gap : Fld Z h0 a0 "com/example/pooltergeist/pooltergeist/poolmanager/SpaceStatus" "gap" "J" (.long o5)) (F_a0_lruSeconds : Fld Z h0 a0 "com/example/pooltergeist/pooltergeist/poolmanager/SpaceStatus" "lruSeconds" "J" (.long o6)) (F_a0_breakeven : Fld Z h0 a0 "com/example/pooltergeist/pooltergeist/poolmanager/SpaceStatus" "breakeven" "D" (.double od)) (g_a0 : n0 ≤ a0) (h0' : ¬ q1 < (0 : Int64)) (h1 : ¬ q2 < (0 : Int64)) (h2 : ¬ q3 < (0 : Int64)) (h3 : ¬ q4 < (0 : Int64)) (h4 : ¬ q5 < (0 : Int64)) (h5 : ¬ q7 < (0 : Int64)) (hge : ¬ (cmpValue (FP.dcmp w6 (0 : UInt64)) .l) < (0 : Int32)) (hinf : f3 w6 = (0 : Int32)) (hnan : Jvm.Free.Fl.NoNaN64 w6) :
    MetFree l (⟨"com/example/pooltergeist/pooltergeist/poolmanager/SpaceStatus", "<init>", "(JJJJJDJ)V"⟩ : MethodName) (head1 (Jvm.Cond.code (⟨"com/example/pooltergeist/pooltergeist/poolmanager/SpaceStatus", "<init>", "(JJJJJDJ)V"⟩ : MethodName) prog_79_method_1_code 15 none :: ws) ({ frames := 2, cells := 0, slots := 0, locals := 26 } : Room)) (fun a U => a = #[(.ref a0), (.long q1), (.long q2), (.long q3), (.long q4), (.long q5), (.double w6), (.long q7)] ∧ Z.Warmed39 U.vm ∧ U.heap = h0) (fun _ _ _ _ _ => True) (fun _ U o U' => ∃ v L, o = .returned v ∧ Q1 Z a0 q1 q2 q3 q4 q5 w6 q7 o0 o1 o2 o3 o4 o5 o6 od h0 n0 v U'.heap L ∧ FrameEnd U o U' L ({ frames := 2, cells := 0, slots := 0, locals := 26 } : Room).cells ({ frames := 2, cells := 0, slots := 0, locals := 26 } : Room).slots) := by
  refine MetFree.of_bodySF (plainFor_of_name pn_com_example_pooltergeist_pooltergeist_poolmanager_SpaceStatus) hisR ?_
  intro p e s m args below meth c s₁ Bd hml0 hP hK
  obtain ⟨rfl, hZ, hh⟩ := hP
  have hx := Bd.exec
  have hby := Bd.bytes
  have hlk := Bd.notSynchronized
  have hml : c.maxLocals = 15 := hml0
  have hown : s.vm.findClass "com/example/pooltergeist/pooltergeist/poolmanager/SpaceStatus" = some m.cls := findClass_of_methodNamed Bd.named
  have hnm := (name_of_methodNamed Bd.named Bd.method).1
  have X0 : Stand p l e ({ frames := 2, cells := 0, slots := 0, locals := 26 } : Room) s m #[(.ref a0), (.long q1), (.long q2), (.long q3), (.long q4), (.long q5), (.double w6), (.long q7)] below meth c s₁ [] 0 0 := Stand.of_body Bd
  have e0 : s₁.heap = h0 := by rw [← hh, Bd.state]; rfl
  have N0 := Fr.nil n0
  show Gl p e below (Ret s 0 0 (Q1 Z a0 q1 q2 q3 q4 q5 w6 q7 o0 o1 o2 o3 o4 o5 o6 od h0 n0)) (s₁.setTop (entryFrame m #[(.ref a0), (.long q1), (.long q2), (.long q3), (.long q4), (.long q5), (.double w6), (.long q7)] 15))
  rw [ef1 m a0 q1 q2 q3 q4 q5 w6 q7]
  obtain ⟨args, hargs⟩ : ∃ z : Array Value, z = #[(.ref a0), (.long q1), (.long q2), (.long q3), (.long q4), (.long q5), (.double w6), (.long q7)] := ⟨_, rfl⟩
  rw [← hargs] at X0
  have K0 := Keep.refl h0 [a0]
  refine Gl.up (B := s₁.setTop (mkF m 1 #[.val (.ref a0), .val (.long q1), .second, .val (.long q2), .second, .val (.long q3), .second, .val (.long q4), .second, .val (.long q5), .second, .val (.double w6), .second, .val (.long q7), .second] [(.ref a0)])) (fun t kt => ?_) ?_
  · show Steps p.tables e below (s₁.setTop (mkF m 0 #[.val (.ref a0), .val (.long q1), .second, .val (.long q2), .second, .val (.long q3), .second, .val (.long q4), .second, .val (.long q5), .second, .val (.double w6), .second, .val (.long q7), .second] [])) _
    refine XS.aloadN X0.here hx rfl (hb hby d1_0) rfl rfl ?_
    exact kt
  obtain ⟨T1, X1, e1, st1⟩ := initO X0 hx hZ hown (hw _ (List.mem_of_getElem? (i := 11) rfl)) (hw _ (List.mem_of_getElem? (i := 12) rfl)) (hw _ (List.mem_of_getElem? (i := 13) rfl)) e0 (g := (mkF m 1 #[.val (.ref a0), .val (.long q1), .second, .val (.long q2), .second, .val (.long q3), .second, .val (.long q4), .second, .val (.long q5), .second, .val (.double w6), .second, .val (.long q7), .second] [(.ref a0)])) rfl (by rw [hml]; rfl) rfl (hb hby d1_1) (by decide) (W := 0) (by show 2 * 0 + _ ≤ _; exact Nat.le_of_eq rfl) (by decide)
  refine Gl.up (B := T1.setTop (mkF m 4 #[.val (.ref a0), .val (.long q1), .second, .val (.long q2), .second, .val (.long q3), .second, .val (.long q4), .second, .val (.long q5), .second, .val (.double w6), .second, .val (.long q7), .second] [])) (fun t kt => st1 _ kt) ?_
  refine Gl.up (B := T1.setTop (mkF m 53 #[.val (.ref a0), .val (.long q1), .second, .val (.long q2), .second, .val (.long q3), .second, .val (.long q4), .second, .val (.long q5), .second, .val (.double w6), .second, .val (.long q7), .second] [(.double w6)])) (fun t kt => ?_) ?_
  · show Steps p.tables e below (T1.setTop (mkF m 4 #[.val (.ref a0), .val (.long q1), .second, .val (.long q2), .second, .val (.long q3), .second, .val (.long q4), .second, .val (.long q5), .second, .val (.double w6), .second, .val (.long q7), .second] [])) _
    refine XS.lloadN X1.here hx rfl (hb hby d1_4) rfl ?_
    show Steps p.tables e below (T1.setTop (mkF m 5 #[.val (.ref a0), .val (.long q1), .second, .val (.long q2), .second, .val (.long q3), .second, .val (.long q4), .second, .val (.long q5), .second, .val (.double w6), .second, .val (.long q7), .second] [(.long q1)])) _
    refine XS.lconst X1.here hx rfl (hb hby d1_5) ?_
    show Steps p.tables e below (T1.setTop (mkF m 6 #[.val (.ref a0), .val (.long q1), .second, .val (.long q2), .second, .val (.long q3), .second, .val (.long q4), .second, .val (.long q5), .second, .val (.double w6), .second, .val (.long q7), .second] [(.long (0 : Int64)), (.long q1)])) _
    refine XS.lcmp X1.here hx rfl (hb hby d1_6) rfl ?_
    show Steps p.tables e below (T1.setTop (mkF m 7 #[.val (.ref a0), .val (.long q1), .second, .val (.long q2), .second, .val (.long q3), .second, .val (.long q4), .second, .val (.long q5), .second, .val (.double w6), .second, .val (.long q7), .second] [(.int (lcmpW q1 (0 : Int64)))])) _
    refine XS.ifNo X1.here hx rfl (hb hby d1_7) rfl (jc_lt_f h0') ?_
    show Steps p.tables e below (T1.setTop (mkF m 10 #[.val (.ref a0), .val (.long q1), .second, .val (.long q2), .second, .val (.long q3), .second, .val (.long q4), .second, .val (.long q5), .second, .val (.double w6), .second, .val (.long q7), .second] [])) _
    refine XS.lloadN X1.here hx rfl (hb hby d1_10) rfl ?_
    show Steps p.tables e below (T1.setTop (mkF m 11 #[.val (.ref a0), .val (.long q1), .second, .val (.long q2), .second, .val (.long q3), .second, .val (.long q4), .second, .val (.long q5), .second, .val (.double w6), .second, .val (.long q7), .second] [(.long q2)])) _
    refine XS.lconst X1.here hx rfl (hb hby d1_11) ?_
    show Steps p.tables e below (T1.setTop (mkF m 12 #[.val (.ref a0), .val (.long q1), .second, .val (.long q2), .second, .val (.long q3), .second, .val (.long q4), .second, .val (.long q5), .second, .val (.double w6), .second, .val (.long q7), .second] [(.long (0 : Int64)), (.long q2)])) _
    refine XS.lcmp X1.here hx rfl (hb hby d1_12) rfl ?_
    show Steps p.tables e below (T1.setTop (mkF m 13 #[.val (.ref a0), .val (.long q1), .second, .val (.long q2), .second, .val (.long q3), .second, .val (.long q4), .second, .val (.long q5), .second, .val (.double w6), .second, .val (.long q7), .second] [(.int (lcmpW q2 (0 : Int64)))])) _
    refine XS.ifNo X1.here hx rfl (hb hby d1_13) rfl (jc_lt_f h1) ?_
    show Steps p.tables e below (T1.setTop (mkF m 16 #[.val (.ref a0), .val (.long q1), .second, .val (.long q2), .second, .val (.long q3), .second, .val (.long q4), .second, .val (.long q5), .second, .val (.double w6), .second, .val (.long q7), .second] [])) _
    refine XS.lload X1.here hx rfl (hb hby d1_16) rfl ?_
    show Steps p.tables e below (T1.setTop (mkF m 18 #[.val (.ref a0), .val (.long q1), .second, .val (.long q2), .second, .val (.long q3), .second, .val (.long q4), .second, .val (.long q5), .second, .val (.double w6), .second, .val (.long q7), .second] [(.long q3)])) _
    refine XS.lconst X1.here hx rfl (hb hby d1_18) ?_
    show Steps p.tables e below (T1.setTop (mkF m 19 #[.val (.ref a0), .val (.long q1), .second, .val (.long q2), .second, .val (.long q3), .second, .val (.long q4), .second, .val (.long q5), .second, .val (.double w6), .second, .val (.long q7), .second] [(.long (0 : Int64)), (.long q3)])) _
    refine XS.lcmp X1.here hx rfl (hb hby d1_19) rfl ?_
    show Steps p.tables e below (T1.setTop (mkF m 20 #[.val (.ref a0), .val (.long q1), .second, .val (.long q2), .second, .val (.long q3), .second, .val (.long q4), .second, .val (.long q5), .second, .val (.double w6), .second, .val (.long q7), .second] [(.int (lcmpW q3 (0 : Int64)))])) _
    refine XS.ifNo X1.here hx rfl (hb hby d1_20) rfl (jc_lt_f h2) ?_
    show Steps p.tables e below (T1.setTop (mkF m 23 #[.val (.ref a0), .val (.long q1), .second, .val (.long q2), .second, .val (.long q3), .second, .val (.long q4), .second, .val (.long q5), .second, .val (.double w6), .second, .val (.long q7), .second] [])) _
    refine XS.lload X1.here hx rfl (hb hby d1_23) rfl ?_
    show Steps p.tables e below (T1.setTop (mkF m 25 #[.val (.ref a0), .val (.long q1), .second, .val (.long q2), .second, .val (.long q3), .second, .val (.long q4), .second, .val (.long q5), .second, .val (.double w6), .second, .val (.long q7), .second] [(.long q4)])) _
    refine XS.lconst X1.here hx rfl (hb hby d1_25) ?_
    show Steps p.tables e below (T1.setTop (mkF m 26 #[.val (.ref a0), .val (.long q1), .second, .val (.long q2), .second, .val (.long q3), .second, .val (.long q4), .second, .val (.long q5), .second, .val (.double w6), .second, .val (.long q7), .second] [(.long (0 : Int64)), (.long q4)])) _
    refine XS.lcmp X1.here hx rfl (hb hby d1_26) rfl ?_
    show Steps p.tables e below (T1.setTop (mkF m 27 #[.val (.ref a0), .val (.long q1), .second, .val (.long q2), .second, .val (.long q3), .second, .val (.long q4), .second, .val (.long q5), .second, .val (.double w6), .second, .val (.long q7), .second] [(.int (lcmpW q4 (0 : Int64)))])) _
    refine XS.ifNo X1.here hx rfl (hb hby d1_27) rfl (jc_lt_f h3) ?_
    show Steps p.tables e below (T1.setTop (mkF m 30 #[.val (.ref a0), .val (.long q1), .second, .val (.long q2), .second, .val (.long q3), .second, .val (.long q4), .second, .val (.long q5), .second, .val (.double w6), .second, .val (.long q7), .second] [])) _
    refine XS.lload X1.here hx rfl (hb hby d1_30) rfl ?_
    show Steps p.tables e below (T1.setTop (mkF m 32 #[.val (.ref a0), .val (.long q1), .second, .val (.long q2), .second, .val (.long q3), .second, .val (.long q4), .second, .val (.long q5), .second, .val (.double w6), .second, .val (.long q7), .second] [(.long q5)])) _
    refine XS.lconst X1.here hx rfl (hb hby d1_32) ?_
    show Steps p.tables e below (T1.setTop (mkF m 33 #[.val (.ref a0), .val (.long q1), .second, .val (.long q2), .second, .val (.long q3), .second, .val (.long q4), .second, .val (.long q5), .second, .val (.double w6), .second, .val (.long q7), .second] [(.long (0 : Int64)), (.long q5)])) _
    refine XS.lcmp X1.here hx rfl (hb hby d1_33) rfl ?_
    show Steps p.tables e below (T1.setTop (mkF m 34 #[.val (.ref a0), .val (.long q1), .second, .val (.long q2), .second, .val (.long q3), .second, .val (.long q4), .second, .val (.long q5), .second, .val (.double w6), .second, .val (.long q7), .second] [(.int (lcmpW q5 (0 : Int64)))])) _
    refine XS.ifNo X1.here hx rfl (hb hby d1_34) rfl (jc_lt_f h4) ?_
    show Steps p.tables e below (T1.setTop (mkF m 37 #[.val (.ref a0), .val (.long q1), .second, .val (.long q2), .second, .val (.long q3), .second, .val (.long q4), .second, .val (.long q5), .second, .val (.double w6), .second, .val (.long q7), .second] [])) _
    refine XS.lload X1.here hx rfl (hb hby d1_37) rfl ?_
    show Steps p.tables e below (T1.setTop (mkF m 39 #[.val (.ref a0), .val (.long q1), .second, .val (.long q2), .second, .val (.long q3), .second, .val (.long q4), .second, .val (.long q5), .second, .val (.double w6), .second, .val (.long q7), .second] [(.long q7)])) _
    refine XS.lconst X1.here hx rfl (hb hby d1_39) ?_
    show Steps p.tables e below (T1.setTop (mkF m 40 #[.val (.ref a0), .val (.long q1), .second, .val (.long q2), .second, .val (.long q3), .second, .val (.long q4), .second, .val (.long q5), .second, .val (.double w6), .second, .val (.long q7), .second] [(.long (0 : Int64)), (.long q7)])) _
    refine XS.lcmp X1.here hx rfl (hb hby d1_40) rfl ?_
    show Steps p.tables e below (T1.setTop (mkF m 41 #[.val (.ref a0), .val (.long q1), .second, .val (.long q2), .second, .val (.long q3), .second, .val (.long q4), .second, .val (.long q5), .second, .val (.double w6), .second, .val (.long q7), .second] [(.int (lcmpW q7 (0 : Int64)))])) _
    refine XS.ifNo X1.here hx rfl (hb hby d1_41) rfl (jc_lt_f h5) ?_
    show Steps p.tables e below (T1.setTop (mkF m 44 #[.val (.ref a0), .val (.long q1), .second, .val (.long q2), .second, .val (.long q3), .second, .val (.long q4), .second, .val (.long q5), .second, .val (.double w6), .second, .val (.long q7), .second] [])) _
    refine XS.dload X1.here hx rfl (hb hby d1_44) rfl ?_
    show Steps p.tables e below (T1.setTop (mkF m 46 #[.val (.ref a0), .val (.long q1), .second, .val (.long q2), .second, .val (.long q3), .second, .val (.long q4), .second, .val (.long q5), .second, .val (.double w6), .second, .val (.long q7), .second] [(.double w6)])) _
    refine XS.dconst0 X1.here hx rfl (hb hby d1_46) (v := (0 : UInt64)) (by decide +kernel) ?_
    show Steps p.tables e below (T1.setTop (mkF m 47 #[.val (.ref a0), .val (.long q1), .second, .val (.long q2), .second, .val (.long q3), .second, .val (.long q4), .second, .val (.long q5), .second, .val (.double w6), .second, .val (.long q7), .second] [(.double (0 : UInt64)), (.double w6)])) _
    refine XS.dcmpS X1.here hx rfl (hb hby d1_47) rfl rfl ?_
    show Steps p.tables e below (T1.setTop (mkF m 48 #[.val (.ref a0), .val (.long q1), .second, .val (.long q2), .second, .val (.long q3), .second, .val (.long q4), .second, .val (.long q5), .second, .val (.double w6), .second, .val (.long q7), .second] [(.int (cmpValue (FP.dcmp w6 (0 : UInt64)) .l))])) _
    refine XS.ifNo X1.here hx rfl (hb hby d1_48) rfl ((if0 _ _).trans (flt hge).1) ?_
    show Steps p.tables e below (T1.setTop (mkF m 51 #[.val (.ref a0), .val (.long q1), .second, .val (.long q2), .second, .val (.long q3), .second, .val (.long q4), .second, .val (.long q5), .second, .val (.double w6), .second, .val (.long q7), .second] [])) _
    refine XS.dload X1.here hx rfl (hb hby d1_51) rfl ?_
    exact kt
  obtain ⟨_, _, ⟨T2, L2, k2, n2⟩, -, X2, ⟨Lc2, hQ2, l2, y2, z2⟩, st2⟩ := Jvm.LawKit.callS X1 hx (y := (⟨"java/lang/Double", "isInfinite", "(D)Z"⟩ : MethodName)) hown (mvT hZ (hw _ (List.mem_of_getElem? (i := 14) rfl))) (mvT hZ (hw _ (List.mem_of_getElem? (i := 15) rfl))) (mvT hZ (hw _ (List.mem_of_getElem? (i := 16) rfl))) (mvT hZ (hw _ (List.mem_of_getElem? (i := 17) rfl))) (by decide) (backOf (W := 0) (rm3 l Z aa hw [] w6 h0 n0 O0 hnan) hZ (hw _ (List.mem_of_getElem? (i := 17) rfl)) (hw _ (List.mem_of_getElem? (i := 16) rfl)) (by decide) (by decide)) (g := (mkF m 53 #[.val (.ref a0), .val (.long q1), .second, .val (.long q2), .second, .val (.long q3), .second, .val (.long q4), .second, .val (.long q5), .second, .val (.double w6), .second, .val (.long q7), .second] [(.double w6)])) rfl (by rw [hml]; rfl) (argsL := [(.double w6)]) (rest := []) (lenOf pd_oDcZ rfl) rfl (by show 2 * 0 + _ ≤ _; exact Nat.le_of_eq rfl) (hb hby d1_53) (fun _ _ => ⟨rfl, e1, (by decide : 0 + 0 ≤ _), (by decide : 0 + 0 ≤ _)⟩)
  dsimp only [Pt.U, Pt.locs, Pt.cells, Pt.slots] at X2 l2 y2 z2 st2 hQ2
  subst l2 y2 z2
  obtain ⟨rfl, rfl, e2⟩ := hQ2
  try rw [List.append_nil] at X2
  refine Gl.up (B := T2.setTop (mkF m 56 #[.val (.ref a0), .val (.long q1), .second, .val (.long q2), .second, .val (.long q3), .second, .val (.long q4), .second, .val (.long q5), .second, .val (.double w6), .second, .val (.long q7), .second] [(.int (f3 w6))])) (fun t kt => st2 _ kt) ?_
  refine Gl.up (B := T2.setTop (mkF m 86 #[.val (.ref a0), .val (.long q1), .second, .val (.long q2), .second, .val (.long q3), .second, .val (.long q4), .second, .val (.long q5), .second, .val (.double w6), .second, .val (.long q7), .second] [(.long q1), (.ref a0)])) (fun t kt => ?_) ?_
  · show Steps p.tables e below (T2.setTop (mkF m 56 #[.val (.ref a0), .val (.long q1), .second, .val (.long q2), .second, .val (.long q3), .second, .val (.long q4), .second, .val (.long q5), .second, .val (.double w6), .second, .val (.long q7), .second] [(.int (f3 w6))])) _
    refine XS.ifYes X2.here hx rfl (pc0 := 56) (pc' := 84) rfl (hb hby d1_56) rfl ((if0 _ _).trans (teq hinf).1) (by decide) (by decide) ?_
    show Steps p.tables e below (T2.setTop (mkF m 84 #[.val (.ref a0), .val (.long q1), .second, .val (.long q2), .second, .val (.long q3), .second, .val (.long q4), .second, .val (.long q5), .second, .val (.double w6), .second, .val (.long q7), .second] [])) _
    refine XS.aloadN X2.here hx rfl (hb hby d1_84) rfl rfl ?_
    show Steps p.tables e below (T2.setTop (mkF m 85 #[.val (.ref a0), .val (.long q1), .second, .val (.long q2), .second, .val (.long q3), .second, .val (.long q4), .second, .val (.long q5), .second, .val (.double w6), .second, .val (.long q7), .second] [(.ref a0)])) _
    refine XS.lloadN X2.here hx rfl (hb hby d1_85) rfl ?_
    exact kt
  obtain ⟨T3, h3, X3, e3, W3, st3⟩ := putF X2 hx hZ hown (host := "") (Or.inl (hw _ (List.mem_of_getElem? (i := 22) rfl))) Via.refl e2 F_a0_total E_a0 (Or.inr ⟨(hw _ (List.mem_of_getElem? (i := 23) rfl)), rfl, hnm⟩) (hw _ (List.mem_of_getElem? (i := 6) rfl)) (ty := .long) (by decide) rfl rfl (g := (mkF m 86 #[.val (.ref a0), .val (.long q1), .second, .val (.long q2), .second, .val (.long q3), .second, .val (.long q4), .second, .val (.long q5), .second, .val (.double w6), .second, .val (.long q7), .second] [(.long q1), (.ref a0)])) rfl rfl (hb hby d1_86)
  have N3 := Fr.snoc X3 N0 g_a0
  have O3 := O0.wr W3 g_a0
  have K3 : Keep h0 h3 [a0] := K0.wr W3 (Or.inl (List.mem_of_getElem? (i := 0) rfl))
  have E_a0_3 := E_a0.wr W3
  have F_a0_used_3 := F_a0_used.other W3 (Or.inr (slot_ne (Or.inr (hw _ (List.mem_of_getElem? (i := 25) rfl))) (Or.inr (hw _ (List.mem_of_getElem? (i := 23) rfl))) (by decide) (t := .long) (t' := .long) (by decide) (by decide)))
  have F_a0_precious_3 := F_a0_precious.other W3 (Or.inr (slot_ne (Or.inr (hw _ (List.mem_of_getElem? (i := 27) rfl))) (Or.inr (hw _ (List.mem_of_getElem? (i := 23) rfl))) (by decide) (t := .long) (t' := .long) (by decide) (by decide)))
  have F_a0_cached_3 := F_a0_cached.other W3 (Or.inr (slot_ne (Or.inr (hw _ (List.mem_of_getElem? (i := 29) rfl))) (Or.inr (hw _ (List.mem_of_getElem? (i := 23) rfl))) (by decide) (t := .long) (t' := .long) (by decide) (by decide)))
  have F_a0_free_3 := F_a0_free.other W3 (Or.inr (slot_ne (Or.inr (hw _ (List.mem_of_getElem? (i := 34) rfl))) (Or.inr (hw _ (List.mem_of_getElem? (i := 23) rfl))) (by decide) (t := .long) (t' := .long) (by decide) (by decide)))
  have F_a0_gap_3 := F_a0_gap.other W3 (Or.inr (slot_ne (Or.inr (hw _ (List.mem_of_getElem? (i := 36) rfl))) (Or.inr (hw _ (List.mem_of_getElem? (i := 23) rfl))) (by decide) (t := .long) (t' := .long) (by decide) (by decide)))
  have F_a0_lruSeconds_3 := F_a0_lruSeconds.other W3 (Or.inr (slot_ne (Or.inr (hw _ (List.mem_of_getElem? (i := 40) rfl))) (Or.inr (hw _ (List.mem_of_getElem? (i := 23) rfl))) (by decide) (t := .long) (t' := .long) (by decide) (by decide)))
  have F_a0_breakeven_3 := F_a0_breakeven.other W3 (Or.inr (slot_ne (Or.inr (hw _ (List.mem_of_getElem? (i := 38) rfl))) (Or.inr (hw _ (List.mem_of_getElem? (i := 23) rfl))) (by decide) (t := .double) (t' := .long) (by decide) (by decide)))
  have F_a0_total_3 := F_a0_total.same W3
  refine Gl.up (B := T3.setTop (mkF m 89 #[.val (.ref a0), .val (.long q1), .second, .val (.long q2), .second, .val (.long q3), .second, .val (.long q4), .second, .val (.long q5), .second, .val (.double w6), .second, .val (.long q7), .second] [])) (fun t kt => st3 _ kt) ?_
  refine Gl.up (B := T3.setTop (mkF m 91 #[.val (.ref a0), .val (.long q1), .second, .val (.long q2), .second, .val (.long q3), .second, .val (.long q4), .second, .val (.long q5), .second, .val (.double w6), .second, .val (.long q7), .second] [(.long q2), (.ref a0)])) (fun t kt => ?_) ?_
  · show Steps p.tables e below (T3.setTop (mkF m 89 #[.val (.ref a0), .val (.long q1), .second, .val (.long q2), .second, .val (.long q3), .second, .val (.long q4), .second, .val (.long q5), .second, .val (.double w6), .second, .val (.long q7), .second] [])) _
    refine XS.aloadN X3.here hx rfl (hb hby d1_89) rfl rfl ?_
    show Steps p.tables e below (T3.setTop (mkF m 90 #[.val (.ref a0), .val (.long q1), .second, .val (.long q2), .second, .val (.long q3), .second, .val (.long q4), .second, .val (.long q5), .second, .val (.double w6), .second, .val (.long q7), .second] [(.ref a0)])) _
    refine XS.lloadN X3.here hx rfl (hb hby d1_90) rfl ?_
    exact kt
  obtain ⟨T4, h4, X4, e4, W4, st4⟩ := putF X3 hx hZ hown (host := "") (Or.inl (hw _ (List.mem_of_getElem? (i := 24) rfl))) Via.refl e3 F_a0_used_3 E_a0_3 (Or.inr ⟨(hw _ (List.mem_of_getElem? (i := 25) rfl)), rfl, hnm⟩) (hw _ (List.mem_of_getElem? (i := 6) rfl)) (ty := .long) (by decide) rfl rfl (g := (mkF m 91 #[.val (.ref a0), .val (.long q1), .second, .val (.long q2), .second, .val (.long q3), .second, .val (.long q4), .second, .val (.long q5), .second, .val (.double w6), .second, .val (.long q7), .second] [(.long q2), (.ref a0)])) rfl rfl (hb hby d1_91)
  have N4 := Fr.snoc X4 N3 g_a0
  have O4 := O3.wr W4 g_a0
  have K4 : Keep h0 h4 [a0] := K3.wr W4 (Or.inl (List.mem_of_getElem? (i := 0) rfl))
  have E_a0_4 := E_a0_3.wr W4
  have F_a0_total_4 := F_a0_total_3.other W4 (Or.inr (slot_ne (Or.inr (hw _ (List.mem_of_getElem? (i := 23) rfl))) (Or.inr (hw _ (List.mem_of_getElem? (i := 25) rfl))) (by decide) (t := .long) (t' := .long) (by decide) (by decide)))
  have F_a0_precious_4 := F_a0_precious_3.other W4 (Or.inr (slot_ne (Or.inr (hw _ (List.mem_of_getElem? (i := 27) rfl))) (Or.inr (hw _ (List.mem_of_getElem? (i := 25) rfl))) (by decide) (t := .long) (t' := .long) (by decide) (by decide)))
  have F_a0_cached_4 := F_a0_cached_3.other W4 (Or.inr (slot_ne (Or.inr (hw _ (List.mem_of_getElem? (i := 29) rfl))) (Or.inr (hw _ (List.mem_of_getElem? (i := 25) rfl))) (by decide) (t := .long) (t' := .long) (by decide) (by decide)))
  have F_a0_free_4 := F_a0_free_3.other W4 (Or.inr (slot_ne (Or.inr (hw _ (List.mem_of_getElem? (i := 34) rfl))) (Or.inr (hw _ (List.mem_of_getElem? (i := 25) rfl))) (by decide) (t := .long) (t' := .long) (by decide) (by decide)))
  have F_a0_gap_4 := F_a0_gap_3.other W4 (Or.inr (slot_ne (Or.inr (hw _ (List.mem_of_getElem? (i := 36) rfl))) (Or.inr (hw _ (List.mem_of_getElem? (i := 25) rfl))) (by decide) (t := .long) (t' := .long) (by decide) (by decide)))
  have F_a0_lruSeconds_4 := F_a0_lruSeconds_3.other W4 (Or.inr (slot_ne (Or.inr (hw _ (List.mem_of_getElem? (i := 40) rfl))) (Or.inr (hw _ (List.mem_of_getElem? (i := 25) rfl))) (by decide) (t := .long) (t' := .long) (by decide) (by decide)))
  have F_a0_breakeven_4 := F_a0_breakeven_3.other W4 (Or.inr (slot_ne (Or.inr (hw _ (List.mem_of_getElem? (i := 38) rfl))) (Or.inr (hw _ (List.mem_of_getElem? (i := 25) rfl))) (by decide) (t := .double) (t' := .long) (by decide) (by decide)))
  have F_a0_used_4 := F_a0_used_3.same W4
  refine Gl.up (B := T4.setTop (mkF m 94 #[.val (.ref a0), .val (.long q1), .second, .val (.long q2), .second, .val (.long q3), .second, .val (.long q4), .second, .val (.long q5), .second, .val (.double w6), .second, .val (.long q7), .second] [])) (fun t kt => st4 _ kt) ?_
  refine Gl.up (B := T4.setTop (mkF m 97 #[.val (.ref a0), .val (.long q1), .second, .val (.long q2), .second, .val (.long q3), .second, .val (.long q4), .second, .val (.long q5), .second, .val (.double w6), .second, .val (.long q7), .second] [(.long q3), (.ref a0)])) (fun t kt => ?_) ?_
  · show Steps p.tables e below (T4.setTop (mkF m 94 #[.val (.ref a0), .val (.long q1), .second, .val (.long q2), .second, .val (.long q3), .second, .val (.long q4), .second, .val (.long q5), .second, .val (.double w6), .second, .val (.long q7), .second] [])) _
    refine XS.aloadN X4.here hx rfl (hb hby d1_94) rfl rfl ?_
    show Steps p.tables e below (T4.setTop (mkF m 95 #[.val (.ref a0), .val (.long q1), .second, .val (.long q2), .second, .val (.long q3), .second, .val (.long q4), .second, .val (.long q5), .second, .val (.double w6), .second, .val (.long q7), .second] [(.ref a0)])) _
    refine XS.lload X4.here hx rfl (hb hby d1_95) rfl ?_
    exact kt
  obtain ⟨T5, h5, X5, e5, W5, st5⟩ := putF X4 hx hZ hown (host := "") (Or.inl (hw _ (List.mem_of_getElem? (i := 26) rfl))) Via.refl e4 F_a0_precious_4 E_a0_4 (Or.inr ⟨(hw _ (List.mem_of_getElem? (i := 27) rfl)), rfl, hnm⟩) (hw _ (List.mem_of_getElem? (i := 6) rfl)) (ty := .long) (by decide) rfl rfl (g := (mkF m 97 #[.val (.ref a0), .val (.long q1), .second, .val (.long q2), .second, .val (.long q3), .second, .val (.long q4), .second, .val (.long q5), .second, .val (.double w6), .second, .val (.long q7), .second] [(.long q3), (.ref a0)])) rfl rfl (hb hby d1_97)
  have N5 := Fr.snoc X5 N4 g_a0
  have O5 := O4.wr W5 g_a0
  have K5 : Keep h0 h5 [a0] := K4.wr W5 (Or.inl (List.mem_of_getElem? (i := 0) rfl))
  have E_a0_5 := E_a0_4.wr W5
  have F_a0_total_5 := F_a0_total_4.other W5 (Or.inr (slot_ne (Or.inr (hw _ (List.mem_of_getElem? (i := 23) rfl))) (Or.inr (hw _ (List.mem_of_getElem? (i := 27) rfl))) (by decide) (t := .long) (t' := .long) (by decide) (by decide)))
  have F_a0_used_5 := F_a0_used_4.other W5 (Or.inr (slot_ne (Or.inr (hw _ (List.mem_of_getElem? (i := 25) rfl))) (Or.inr (hw _ (List.mem_of_getElem? (i := 27) rfl))) (by decide) (t := .long) (t' := .long) (by decide) (by decide)))
  have F_a0_cached_5 := F_a0_cached_4.other W5 (Or.inr (slot_ne (Or.inr (hw _ (List.mem_of_getElem? (i := 29) rfl))) (Or.inr (hw _ (List.mem_of_getElem? (i := 27) rfl))) (by decide) (t := .long) (t' := .long) (by decide) (by decide)))
  have F_a0_free_5 := F_a0_free_4.other W5 (Or.inr (slot_ne (Or.inr (hw _ (List.mem_of_getElem? (i := 34) rfl))) (Or.inr (hw _ (List.mem_of_getElem? (i := 27) rfl))) (by decide) (t := .long) (t' := .long) (by decide) (by decide)))
  have F_a0_gap_5 := F_a0_gap_4.other W5 (Or.inr (slot_ne (Or.inr (hw _ (List.mem_of_getElem? (i := 36) rfl))) (Or.inr (hw _ (List.mem_of_getElem? (i := 27) rfl))) (by decide) (t := .long) (t' := .long) (by decide) (by decide)))
  have F_a0_lruSeconds_5 := F_a0_lruSeconds_4.other W5 (Or.inr (slot_ne (Or.inr (hw _ (List.mem_of_getElem? (i := 40) rfl))) (Or.inr (hw _ (List.mem_of_getElem? (i := 27) rfl))) (by decide) (t := .long) (t' := .long) (by decide) (by decide)))
  have F_a0_breakeven_5 := F_a0_breakeven_4.other W5 (Or.inr (slot_ne (Or.inr (hw _ (List.mem_of_getElem? (i := 38) rfl))) (Or.inr (hw _ (List.mem_of_getElem? (i := 27) rfl))) (by decide) (t := .double) (t' := .long) (by decide) (by decide)))
  have F_a0_precious_5 := F_a0_precious_4.same W5
  refine Gl.up (B := T5.setTop (mkF m 100 #[.val (.ref a0), .val (.long q1), .second, .val (.long q2), .second, .val (.long q3), .second, .val (.long q4), .second, .val (.long q5), .second, .val (.double w6), .second, .val (.long q7), .second] [])) (fun t kt => st5 _ kt) ?_
  refine Gl.up (B := T5.setTop (mkF m 103 #[.val (.ref a0), .val (.long q1), .second, .val (.long q2), .second, .val (.long q3), .second, .val (.long q4), .second, .val (.long q5), .second, .val (.double w6), .second, .val (.long q7), .second] [(.long q4), (.ref a0)])) (fun t kt => ?_) ?_
  · show Steps p.tables e below (T5.setTop (mkF m 100 #[.val (.ref a0), .val (.long q1), .second, .val (.long q2), .second, .val (.long q3), .second, .val (.long q4), .second, .val (.long q5), .second, .val (.double w6), .second, .val (.long q7), .second] [])) _
    refine XS.aloadN X5.here hx rfl (hb hby d1_100) rfl rfl ?_
    show Steps p.tables e below (T5.setTop (mkF m 101 #[.val (.ref a0), .val (.long q1), .second, .val (.long q2), .second, .val (.long q3), .second, .val (.long q4), .second, .val (.long q5), .second, .val (.double w6), .second, .val (.long q7), .second] [(.ref a0)])) _
    refine XS.lload X5.here hx rfl (hb hby d1_101) rfl ?_
    exact kt
  obtain ⟨T6, h6, X6, e6, W6, st6⟩ := putF X5 hx hZ hown (host := "") (Or.inl (hw _ (List.mem_of_getElem? (i := 28) rfl))) Via.refl e5 F_a0_cached_5 E_a0_5 (Or.inr ⟨(hw _ (List.mem_of_getElem? (i := 29) rfl)), rfl, hnm⟩) (hw _ (List.mem_of_getElem? (i := 6) rfl)) (ty := .long) (by decide) rfl rfl (g := (mkF m 103 #[.val (.ref a0), .val (.long q1), .second, .val (.long q2), .second, .val (.long q3), .second, .val (.long q4), .second, .val (.long q5), .second, .val (.double w6), .second, .val (.long q7), .second] [(.long q4), (.ref a0)])) rfl rfl (hb hby d1_103)
  have N6 := Fr.snoc X6 N5 g_a0
  have O6 := O5.wr W6 g_a0
  have K6 : Keep h0 h6 [a0] := K5.wr W6 (Or.inl (List.mem_of_getElem? (i := 0) rfl))
  have E_a0_6 := E_a0_5.wr W6
  have F_a0_total_6 := F_a0_total_5.other W6 (Or.inr (slot_ne (Or.inr (hw _ (List.mem_of_getElem? (i := 23) rfl))) (Or.inr (hw _ (List.mem_of_getElem? (i := 29) rfl))) (by decide) (t := .long) (t' := .long) (by decide) (by decide)))
  have F_a0_used_6 := F_a0_used_5.other W6 (Or.inr (slot_ne (Or.inr (hw _ (List.mem_of_getElem? (i := 25) rfl))) (Or.inr (hw _ (List.mem_of_getElem? (i := 29) rfl))) (by decide) (t := .long) (t' := .long) (by decide) (by decide)))
  have F_a0_precious_6 := F_a0_precious_5.other W6 (Or.inr (slot_ne (Or.inr (hw _ (List.mem_of_getElem? (i := 27) rfl))) (Or.inr (hw _ (List.mem_of_getElem? (i := 29) rfl))) (by decide) (t := .long) (t' := .long) (by decide) (by decide)))
  have F_a0_free_6 := F_a0_free_5.other W6 (Or.inr (slot_ne (Or.inr (hw _ (List.mem_of_getElem? (i := 34) rfl))) (Or.inr (hw _ (List.mem_of_getElem? (i := 29) rfl))) (by decide) (t := .long) (t' := .long) (by decide) (by decide)))
  have F_a0_gap_6 := F_a0_gap_5.other W6 (Or.inr (slot_ne (Or.inr (hw _ (List.mem_of_getElem? (i := 36) rfl))) (Or.inr (hw _ (List.mem_of_getElem? (i := 29) rfl))) (by decide) (t := .long) (t' := .long) (by decide) (by decide)))
  have F_a0_lruSeconds_6 := F_a0_lruSeconds_5.other W6 (Or.inr (slot_ne (Or.inr (hw _ (List.mem_of_getElem? (i := 40) rfl))) (Or.inr (hw _ (List.mem_of_getElem? (i := 29) rfl))) (by decide) (t := .long) (t' := .long) (by decide) (by decide)))
  have F_a0_breakeven_6 := F_a0_breakeven_5.other W6 (Or.inr (slot_ne (Or.inr (hw _ (List.mem_of_getElem? (i := 38) rfl))) (Or.inr (hw _ (List.mem_of_getElem? (i := 29) rfl))) (by decide) (t := .double) (t' := .long) (by decide) (by decide)))
  have F_a0_cached_6 := F_a0_cached_5.same W6
  refine Gl.up (B := T6.setTop (mkF m 106 #[.val (.ref a0), .val (.long q1), .second, .val (.long q2), .second, .val (.long q3), .second, .val (.long q4), .second, .val (.long q5), .second, .val (.double w6), .second, .val (.long q7), .second] [])) (fun t kt => st6 _ kt) ?_
  refine Gl.up (B := T6.setTop (mkF m 111 #[.val (.ref a0), .val (.long q1), .second, .val (.long q2), .second, .val (.long q3), .second, .val (.long q4), .second, .val (.long q5), .second, .val (.double w6), .second, .val (.long q7), .second] [(.long (q1 - q2)), (.long (0 : Int64)), (.ref a0)])) (fun t kt => ?_) ?_
  · show Steps p.tables e below (T6.setTop (mkF m 106 #[.val (.ref a0), .val (.long q1), .second, .val (.long q2), .second, .val (.long q3), .second, .val (.long q4), .second, .val (.long q5), .second, .val (.double w6), .second, .val (.long q7), .second] [])) _
    refine XS.aloadN X6.here hx rfl (hb hby d1_106) rfl rfl ?_
    show Steps p.tables e below (T6.setTop (mkF m 107 #[.val (.ref a0), .val (.long q1), .second, .val (.long q2), .second, .val (.long q3), .second, .val (.long q4), .second, .val (.long q5), .second, .val (.double w6), .second, .val (.long q7), .second] [(.ref a0)])) _
    refine XS.lconst X6.here hx rfl (hb hby d1_107) ?_
    show Steps p.tables e below (T6.setTop (mkF m 108 #[.val (.ref a0), .val (.long q1), .second, .val (.long q2), .second, .val (.long q3), .second, .val (.long q4), .second, .val (.long q5), .second, .val (.double w6), .second, .val (.long q7), .second] [(.long (0 : Int64)), (.ref a0)])) _
    refine XS.lloadN X6.here hx rfl (hb hby d1_108) rfl ?_
    show Steps p.tables e below (T6.setTop (mkF m 109 #[.val (.ref a0), .val (.long q1), .second, .val (.long q2), .second, .val (.long q3), .second, .val (.long q4), .second, .val (.long q5), .second, .val (.double w6), .second, .val (.long q7), .second] [(.long q1), (.long (0 : Int64)), (.ref a0)])) _
    refine XS.lloadN X6.here hx rfl (hb hby d1_109) rfl ?_
    show Steps p.tables e below (T6.setTop (mkF m 110 #[.val (.ref a0), .val (.long q1), .second, .val (.long q2), .second, .val (.long q3), .second, .val (.long q4), .second, .val (.long q5), .second, .val (.double w6), .second, .val (.long q7), .second] [(.long q2), (.long q1), (.long (0 : Int64)), (.ref a0)])) _
    refine XS.lsub X6.here hx rfl (hb hby d1_110) rfl ?_
    exact kt
  obtain ⟨_, _, ⟨T7, L7, k7, n7⟩, -, X7, ⟨Lc7, hQ7, l7, y7, z7⟩, st7⟩ := Jvm.LawKit.callS X6 hx (y := (⟨"java/lang/Math", "max", "(JJ)J"⟩ : MethodName)) hown (mvT hZ (hw _ (List.mem_of_getElem? (i := 30) rfl))) (mvT hZ (hw _ (List.mem_of_getElem? (i := 31) rfl))) (mvT hZ (hw _ (List.mem_of_getElem? (i := 3) rfl))) (mvT hZ (hw _ (List.mem_of_getElem? (i := 32) rfl))) (by decide) (backOf (W := 1) (rm2 l Z aa hw [] (0 : Int64) (q1 - q2) h6 n0 O6) hZ (hw _ (List.mem_of_getElem? (i := 32) rfl)) (hw _ (List.mem_of_getElem? (i := 3) rfl)) (by decide) (by decide)) (g := (mkF m 111 #[.val (.ref a0), .val (.long q1), .second, .val (.long q2), .second, .val (.long q3), .second, .val (.long q4), .second, .val (.long q5), .second, .val (.double w6), .second, .val (.long q7), .second] [(.long (q1 - q2)), (.long (0 : Int64)), (.ref a0)])) rfl (by rw [hml]; rfl) (argsL := [(.long (0 : Int64)), (.long (q1 - q2))]) (rest := [(.ref a0)]) (lenOf pd_oJJcJ rfl) rfl (by show 2 * 0 + _ ≤ _; exact Nat.le_of_eq rfl) (hb hby d1_111) (fun _ _ => ⟨rfl, e6, (by decide : 0 + 0 ≤ _), (by decide : 0 + 0 ≤ _)⟩)
  dsimp only [Pt.U, Pt.locs, Pt.cells, Pt.slots] at X7 l7 y7 z7 st7 hQ7
  subst l7 y7 z7
  obtain ⟨rfl, rfl, e7⟩ := hQ7
  try rw [List.append_nil] at X7
  refine Gl.up (B := T7.setTop (mkF m 114 #[.val (.ref a0), .val (.long q1), .second, .val (.long q2), .second, .val (.long q3), .second, .val (.long q4), .second, .val (.long q5), .second, .val (.double w6), .second, .val (.long q7), .second] [(.long (f2 (0 : Int64) (q1 - q2))), (.ref a0)])) (fun t kt => st7 _ kt) ?_
  obtain ⟨T8, h8, X8, e8, W8, st8⟩ := putF X7 hx hZ hown (host := "") (Or.inl (hw _ (List.mem_of_getElem? (i := 33) rfl))) Via.refl e7 F_a0_free_6 E_a0_6 (Or.inr ⟨(hw _ (List.mem_of_getElem? (i := 34) rfl)), rfl, hnm⟩) (hw _ (List.mem_of_getElem? (i := 6) rfl)) (ty := .long) (by decide) rfl rfl (g := (mkF m 114 #[.val (.ref a0), .val (.long q1), .second, .val (.long q2), .second, .val (.long q3), .second, .val (.long q4), .second, .val (.long q5), .second, .val (.double w6), .second, .val (.long q7), .second] [(.long (f2 (0 : Int64) (q1 - q2))), (.ref a0)])) rfl rfl (hb hby d1_114)
  have N8 := Fr.snoc X8 N6 g_a0
  have O8 := O6.wr W8 g_a0
  have K8 : Keep h0 h8 [a0] := K6.wr W8 (Or.inl (List.mem_of_getElem? (i := 0) rfl))
  have E_a0_8 := E_a0_6.wr W8
  have F_a0_total_8 := F_a0_total_6.other W8 (Or.inr (slot_ne (Or.inr (hw _ (List.mem_of_getElem? (i := 23) rfl))) (Or.inr (hw _ (List.mem_of_getElem? (i := 34) rfl))) (by decide) (t := .long) (t' := .long) (by decide) (by decide)))
  have F_a0_used_8 := F_a0_used_6.other W8 (Or.inr (slot_ne (Or.inr (hw _ (List.mem_of_getElem? (i := 25) rfl))) (Or.inr (hw _ (List.mem_of_getElem? (i := 34) rfl))) (by decide) (t := .long) (t' := .long) (by decide) (by decide)))
  have F_a0_precious_8 := F_a0_precious_6.other W8 (Or.inr (slot_ne (Or.inr (hw _ (List.mem_of_getElem? (i := 27) rfl))) (Or.inr (hw _ (List.mem_of_getElem? (i := 34) rfl))) (by decide) (t := .long) (t' := .long) (by decide) (by decide)))
  have F_a0_cached_8 := F_a0_cached_6.other W8 (Or.inr (slot_ne (Or.inr (hw _ (List.mem_of_getElem? (i := 29) rfl))) (Or.inr (hw _ (List.mem_of_getElem? (i := 34) rfl))) (by decide) (t := .long) (t' := .long) (by decide) (by decide)))
  have F_a0_gap_8 := F_a0_gap_6.other W8 (Or.inr (slot_ne (Or.inr (hw _ (List.mem_of_getElem? (i := 36) rfl))) (Or.inr (hw _ (List.mem_of_getElem? (i := 34) rfl))) (by decide) (t := .long) (t' := .long) (by decide) (by decide)))
  have F_a0_lruSeconds_8 := F_a0_lruSeconds_6.other W8 (Or.inr (slot_ne (Or.inr (hw _ (List.mem_of_getElem? (i := 40) rfl))) (Or.inr (hw _ (List.mem_of_getElem? (i := 34) rfl))) (by decide) (t := .long) (t' := .long) (by decide) (by decide)))
  have F_a0_breakeven_8 := F_a0_breakeven_6.other W8 (Or.inr (slot_ne (Or.inr (hw _ (List.mem_of_getElem? (i := 38) rfl))) (Or.inr (hw _ (List.mem_of_getElem? (i := 34) rfl))) (by decide) (t := .double) (t' := .long) (by decide) (by decide)))
  have F_a0_free_8 := F_a0_free_6.same W8
  refine Gl.up (B := T8.setTop (mkF m 117 #[.val (.ref a0), .val (.long q1), .second, .val (.long q2), .second, .val (.long q3), .second, .val (.long q4), .second, .val (.long q5), .second, .val (.double w6), .second, .val (.long q7), .second] [])) (fun t kt => st8 _ kt) ?_
  refine Gl.up (B := T8.setTop (mkF m 120 #[.val (.ref a0), .val (.long q1), .second, .val (.long q2), .second, .val (.long q3), .second, .val (.long q4), .second, .val (.long q5), .second, .val (.double w6), .second, .val (.long q7), .second] [(.long q5), (.ref a0)])) (fun t kt => ?_) ?_
  · show Steps p.tables e below (T8.setTop (mkF m 117 #[.val (.ref a0), .val (.long q1), .second, .val (.long q2), .second, .val (.long q3), .second, .val (.long q4), .second, .val (.long q5), .second, .val (.double w6), .second, .val (.long q7), .second] [])) _
    refine XS.aloadN X8.here hx rfl (hb hby d1_117) rfl rfl ?_
    show Steps p.tables e below (T8.setTop (mkF m 118 #[.val (.ref a0), .val (.long q1), .second, .val (.long q2), .second, .val (.long q3), .second, .val (.long q4), .second, .val (.long q5), .second, .val (.double w6), .second, .val (.long q7), .second] [(.ref a0)])) _
    refine XS.lload X8.here hx rfl (hb hby d1_118) rfl ?_
    exact kt
  obtain ⟨T9, h9, X9, e9, W9, st9⟩ := putF X8 hx hZ hown (host := "") (Or.inl (hw _ (List.mem_of_getElem? (i := 35) rfl))) Via.refl e8 F_a0_gap_8 E_a0_8 (Or.inr ⟨(hw _ (List.mem_of_getElem? (i := 36) rfl)), rfl, hnm⟩) (hw _ (List.mem_of_getElem? (i := 6) rfl)) (ty := .long) (by decide) rfl rfl (g := (mkF m 120 #[.val (.ref a0), .val (.long q1), .second, .val (.long q2), .second, .val (.long q3), .second, .val (.long q4), .second, .val (.long q5), .second, .val (.double w6), .second, .val (.long q7), .second] [(.long q5), (.ref a0)])) rfl rfl (hb hby d1_120)
  have N9 := Fr.snoc X9 N8 g_a0
  have O9 := O8.wr W9 g_a0
  have K9 : Keep h0 h9 [a0] := K8.wr W9 (Or.inl (List.mem_of_getElem? (i := 0) rfl))
  have E_a0_9 := E_a0_8.wr W9
  have F_a0_total_9 := F_a0_total_8.other W9 (Or.inr (slot_ne (Or.inr (hw _ (List.mem_of_getElem? (i := 23) rfl))) (Or.inr (hw _ (List.mem_of_getElem? (i := 36) rfl))) (by decide) (t := .long) (t' := .long) (by decide) (by decide)))
  have F_a0_used_9 := F_a0_used_8.other W9 (Or.inr (slot_ne (Or.inr (hw _ (List.mem_of_getElem? (i := 25) rfl))) (Or.inr (hw _ (List.mem_of_getElem? (i := 36) rfl))) (by decide) (t := .long) (t' := .long) (by decide) (by decide)))
  have F_a0_precious_9 := F_a0_precious_8.other W9 (Or.inr (slot_ne (Or.inr (hw _ (List.mem_of_getElem? (i := 27) rfl))) (Or.inr (hw _ (List.mem_of_getElem? (i := 36) rfl))) (by decide) (t := .long) (t' := .long) (by decide) (by decide)))
  have F_a0_cached_9 := F_a0_cached_8.other W9 (Or.inr (slot_ne (Or.inr (hw _ (List.mem_of_getElem? (i := 29) rfl))) (Or.inr (hw _ (List.mem_of_getElem? (i := 36) rfl))) (by decide) (t := .long) (t' := .long) (by decide) (by decide)))
  have F_a0_free_9 := F_a0_free_8.other W9 (Or.inr (slot_ne (Or.inr (hw _ (List.mem_of_getElem? (i := 34) rfl))) (Or.inr (hw _ (List.mem_of_getElem? (i := 36) rfl))) (by decide) (t := .long) (t' := .long) (by decide) (by decide)))
  have F_a0_lruSeconds_9 := F_a0_lruSeconds_8.other W9 (Or.inr (slot_ne (Or.inr (hw _ (List.mem_of_getElem? (i := 40) rfl))) (Or.inr (hw _ (List.mem_of_getElem? (i := 36) rfl))) (by decide) (t := .long) (t' := .long) (by decide) (by decide)))
  have F_a0_breakeven_9 := F_a0_breakeven_8.other W9 (Or.inr (slot_ne (Or.inr (hw _ (List.mem_of_getElem? (i := 38) rfl))) (Or.inr (hw _ (List.mem_of_getElem? (i := 36) rfl))) (by decide) (t := .double) (t' := .long) (by decide) (by decide)))
  have F_a0_gap_9 := F_a0_gap_8.same W9
  refine Gl.up (B := T9.setTop (mkF m 123 #[.val (.ref a0), .val (.long q1), .second, .val (.long q2), .second, .val (.long q3), .second, .val (.long q4), .second, .val (.long q5), .second, .val (.double w6), .second, .val (.long q7), .second] [])) (fun t kt => st9 _ kt) ?_
  refine Gl.up (B := T9.setTop (mkF m 126 #[.val (.ref a0), .val (.long q1), .second, .val (.long q2), .second, .val (.long q3), .second, .val (.long q4), .second, .val (.long q5), .second, .val (.double w6), .second, .val (.long q7), .second] [(.double w6), (.ref a0)])) (fun t kt => ?_) ?_
  · show Steps p.tables e below (T9.setTop (mkF m 123 #[.val (.ref a0), .val (.long q1), .second, .val (.long q2), .second, .val (.long q3), .second, .val (.long q4), .second, .val (.long q5), .second, .val (.double w6), .second, .val (.long q7), .second] [])) _
    refine XS.aloadN X9.here hx rfl (hb hby d1_123) rfl rfl ?_
    show Steps p.tables e below (T9.setTop (mkF m 124 #[.val (.ref a0), .val (.long q1), .second, .val (.long q2), .second, .val (.long q3), .second, .val (.long q4), .second, .val (.long q5), .second, .val (.double w6), .second, .val (.long q7), .second] [(.ref a0)])) _
    refine XS.dload X9.here hx rfl (hb hby d1_124) rfl ?_
    exact kt
  obtain ⟨T10, h10, X10, e10, W10, st10⟩ := putF X9 hx hZ hown (host := "") (Or.inl (hw _ (List.mem_of_getElem? (i := 37) rfl))) Via.refl e9 F_a0_breakeven_9 E_a0_9 (Or.inr ⟨(hw _ (List.mem_of_getElem? (i := 38) rfl)), rfl, hnm⟩) (hw _ (List.mem_of_getElem? (i := 6) rfl)) (ty := .double) (by decide) rfl rfl (g := (mkF m 126 #[.val (.ref a0), .val (.long q1), .second, .val (.long q2), .second, .val (.long q3), .second, .val (.long q4), .second, .val (.long q5), .second, .val (.double w6), .second, .val (.long q7), .second] [(.double w6), (.ref a0)])) rfl rfl (hb hby d1_126)
  have N10 := Fr.snoc X10 N9 g_a0
  have O10 := O9.wr W10 g_a0
  have K10 : Keep h0 h10 [a0] := K9.wr W10 (Or.inl (List.mem_of_getElem? (i := 0) rfl))
  have E_a0_10 := E_a0_9.wr W10
  have F_a0_total_10 := F_a0_total_9.other W10 (Or.inr (slot_ne (Or.inr (hw _ (List.mem_of_getElem? (i := 23) rfl))) (Or.inr (hw _ (List.mem_of_getElem? (i := 38) rfl))) (by decide) (t := .long) (t' := .double) (by decide) (by decide)))
  have F_a0_used_10 := F_a0_used_9.other W10 (Or.inr (slot_ne (Or.inr (hw _ (List.mem_of_getElem? (i := 25) rfl))) (Or.inr (hw _ (List.mem_of_getElem? (i := 38) rfl))) (by decide) (t := .long) (t' := .double) (by decide) (by decide)))
  have F_a0_precious_10 := F_a0_precious_9.other W10 (Or.inr (slot_ne (Or.inr (hw _ (List.mem_of_getElem? (i := 27) rfl))) (Or.inr (hw _ (List.mem_of_getElem? (i := 38) rfl))) (by decide) (t := .long) (t' := .double) (by decide) (by decide)))
  have F_a0_cached_10 := F_a0_cached_9.other W10 (Or.inr (slot_ne (Or.inr (hw _ (List.mem_of_getElem? (i := 29) rfl))) (Or.inr (hw _ (List.mem_of_getElem? (i := 38) rfl))) (by decide) (t := .long) (t' := .double) (by decide) (by decide)))
  have F_a0_free_10 := F_a0_free_9.other W10 (Or.inr (slot_ne (Or.inr (hw _ (List.mem_of_getElem? (i := 34) rfl))) (Or.inr (hw _ (List.mem_of_getElem? (i := 38) rfl))) (by decide) (t := .long) (t' := .double) (by decide) (by decide)))
  have F_a0_gap_10 := F_a0_gap_9.other W10 (Or.inr (slot_ne (Or.inr (hw _ (List.mem_of_getElem? (i := 36) rfl))) (Or.inr (hw _ (List.mem_of_getElem? (i := 38) rfl))) (by decide) (t := .long) (t' := .double) (by decide) (by decide)))
  have F_a0_lruSeconds_10 := F_a0_lruSeconds_9.other W10 (Or.inr (slot_ne (Or.inr (hw _ (List.mem_of_getElem? (i := 40) rfl))) (Or.inr (hw _ (List.mem_of_getElem? (i := 38) rfl))) (by decide) (t := .long) (t' := .double) (by decide) (by decide)))
  have F_a0_breakeven_10 := F_a0_breakeven_9.same W10
  refine Gl.up (B := T10.setTop (mkF m 129 #[.val (.ref a0), .val (.long q1), .second, .val (.long q2), .second, .val (.long q3), .second, .val (.long q4), .second, .val (.long q5), .second, .val (.double w6), .second, .val (.long q7), .second] [])) (fun t kt => st10 _ kt) ?_
  refine Gl.up (B := T10.setTop (mkF m 132 #[.val (.ref a0), .val (.long q1), .second, .val (.long q2), .second, .val (.long q3), .second, .val (.long q4), .second, .val (.long q5), .second, .val (.double w6), .second, .val (.long q7), .second] [(.long q7), (.ref a0)])) (fun t kt => ?_) ?_
  · show Steps p.tables e below (T10.setTop (mkF m 129 #[.val (.ref a0), .val (.long q1), .second, .val (.long q2), .second, .val (.long q3), .second, .val (.long q4), .second, .val (.long q5), .second, .val (.double w6), .second, .val (.long q7), .second] [])) _
    refine XS.aloadN X10.here hx rfl (hb hby d1_129) rfl rfl ?_
    show Steps p.tables e below (T10.setTop (mkF m 130 #[.val (.ref a0), .val (.long q1), .second, .val (.long q2), .second, .val (.long q3), .second, .val (.long q4), .second, .val (.long q5), .second, .val (.double w6), .second, .val (.long q7), .second] [(.ref a0)])) _
    refine XS.lload X10.here hx rfl (hb hby d1_130) rfl ?_
    exact kt
  obtain ⟨T11, h11, X11, e11, W11, st11⟩ := putF X10 hx hZ hown (host := "") (Or.inl (hw _ (List.mem_of_getElem? (i := 39) rfl))) Via.refl e10 F_a0_lruSeconds_10 E_a0_10 (Or.inr ⟨(hw _ (List.mem_of_getElem? (i := 40) rfl)), rfl, hnm⟩) (hw _ (List.mem_of_getElem? (i := 6) rfl)) (ty := .long) (by decide) rfl rfl (g := (mkF m 132 #[.val (.ref a0), .val (.long q1), .second, .val (.long q2), .second, .val (.long q3), .second, .val (.long q4), .second, .val (.long q5), .second, .val (.double w6), .second, .val (.long q7), .second] [(.long q7), (.ref a0)])) rfl rfl (hb hby d1_132)
  have N11 := Fr.snoc X11 N10 g_a0
  have O11 := O10.wr W11 g_a0
  have K11 : Keep h0 h11 [a0] := K10.wr W11 (Or.inl (List.mem_of_getElem? (i := 0) rfl))
  have E_a0_11 := E_a0_10.wr W11
  have F_a0_total_11 := F_a0_total_10.other W11 (Or.inr (slot_ne (Or.inr (hw _ (List.mem_of_getElem? (i := 23) rfl))) (Or.inr (hw _ (List.mem_of_getElem? (i := 40) rfl))) (by decide) (t := .long) (t' := .long) (by decide) (by decide)))
  have F_a0_used_11 := F_a0_used_10.other W11 (Or.inr (slot_ne (Or.inr (hw _ (List.mem_of_getElem? (i := 25) rfl))) (Or.inr (hw _ (List.mem_of_getElem? (i := 40) rfl))) (by decide) (t := .long) (t' := .long) (by decide) (by decide)))
  have F_a0_precious_11 := F_a0_precious_10.other W11 (Or.inr (slot_ne (Or.inr (hw _ (List.mem_of_getElem? (i := 27) rfl))) (Or.inr (hw _ (List.mem_of_getElem? (i := 40) rfl))) (by decide) (t := .long) (t' := .long) (by decide) (by decide)))
  have F_a0_cached_11 := F_a0_cached_10.other W11 (Or.inr (slot_ne (Or.inr (hw _ (List.mem_of_getElem? (i := 29) rfl))) (Or.inr (hw _ (List.mem_of_getElem? (i := 40) rfl))) (by decide) (t := .long) (t' := .long) (by decide) (by decide)))
  have F_a0_free_11 := F_a0_free_10.other W11 (Or.inr (slot_ne (Or.inr (hw _ (List.mem_of_getElem? (i := 34) rfl))) (Or.inr (hw _ (List.mem_of_getElem? (i := 40) rfl))) (by decide) (t := .long) (t' := .long) (by decide) (by decide)))
  have F_a0_gap_11 := F_a0_gap_10.other W11 (Or.inr (slot_ne (Or.inr (hw _ (List.mem_of_getElem? (i := 36) rfl))) (Or.inr (hw _ (List.mem_of_getElem? (i := 40) rfl))) (by decide) (t := .long) (t' := .long) (by decide) (by decide)))
  have F_a0_breakeven_11 := F_a0_breakeven_10.other W11 (Or.inr (slot_ne (Or.inr (hw _ (List.mem_of_getElem? (i := 38) rfl))) (Or.inr (hw _ (List.mem_of_getElem? (i := 40) rfl))) (by decide) (t := .double) (t' := .long) (by decide) (by decide)))
  have F_a0_lruSeconds_11 := F_a0_lruSeconds_10.same W11
  refine Gl.up (B := T11.setTop (mkF m 135 #[.val (.ref a0), .val (.long q1), .second, .val (.long q2), .second, .val (.long q3), .second, .val (.long q4), .second, .val (.long q5), .second, .val (.double w6), .second, .val (.long q7), .second] [])) (fun t kt => st11 _ kt) ?_
  refine Gl.ret0 X11 hx hlk Bd.returns (hb hby d1_135) ?_ (by decide) (by decide)
  show Q1 Z a0 q1 q2 q3 q4 q5 w6 q7 o0 o1 o2 o3 o4 o5 o6 od h0 n0 _ T11.heap _; rw [e11]; exact ⟨rfl, N11, K11, F_a0_total_11, F_a0_used_11, F_a0_precious_11, F_a0_cached_11⟩
def f7 (q0 : Int64) (q1 : Int64) : Int64 := (if q1 < q0 then q1 else q0)
def Q7 (Z : State) (q0 : Int64) (q1 : Int64) (h0 : Heap) (n0 : Nat) (v : Option Value) (h : Heap) (L : List Loc) : Prop := v = some (.long (f7 q0 q1)) ∧ L = [] ∧ h = h0
theorem ef7 (m : MethodId) (q0 : Int64) (q1 : Int64) : entryFrame m #[(.long q0), (.long q1)] 4 = mkF m 0 #[.val (.long q0), .second, .val (.long q1), .second] [] := by first | (simp [entryFrame, mkF, argsToLocals, Value.category]; done) | rfl
set_option maxRecDepth 65536 in
set_option maxHeartbeats 40000000 in
theorem rm7 (l : Launch) (Z : State) (aa : Array Value) (hw : ∀ d ∈ tables_1, d.before aa Z = true) (ws : List Jvm.Cond) (q0 : Int64) (q1 : Int64) (h0 : Heap) (n0 : Nat) (O0 : Old Z n0 h0)  :
    MetFree l (⟨"java/lang/Math", "min", "(JJ)J"⟩ : MethodName) (head1 (Jvm.Cond.code (⟨"java/lang/Math", "min", "(JJ)J"⟩ : MethodName) jdk_29_method_70_code 4 (some .long) :: ws) ({ frames := 0, cells := 0, slots := 0, locals := 0 } : Room)) (fun a U => a = #[(.long q0), (.long q1)] ∧ Z.Warmed39 U.vm ∧ U.heap = h0) (fun _ _ _ _ _ => True) (fun _ U o U' => ∃ v L, o = .returned v ∧ Q7 Z q0 q1 h0 n0 v U'.heap L ∧ FrameEnd U o U' L ({ frames := 0, cells := 0, slots := 0, locals := 0 } : Room).cells ({ frames := 0, cells := 0, slots := 0, locals := 0 } : Room).slots) := by
  refine MetFree.of_bodySF (Jvm.Free.JP.mathPlain rfl (by decide +kernel)) hisR ?_
  intro p e s m args below meth c s₁ Bd hml0 hP hK
  obtain ⟨rfl, hZ, hh⟩ := hP
  have hx := Bd.exec
  have hby := Bd.bytes
  have hlk := Bd.notSynchronized
  have hml : c.maxLocals = 4 := hml0
  have hown : s.vm.findClass "java/lang/Math" = some m.cls := findClass_of_methodNamed Bd.named
  have hnm := (name_of_methodNamed Bd.named Bd.method).1
  have X0 : Stand p l e ({ frames := 0, cells := 0, slots := 0, locals := 0 } : Room) s m #[(.long q0), (.long q1)] below meth c s₁ [] 0 0 := Stand.of_body Bd
  have e0 : s₁.heap = h0 := by rw [← hh, Bd.state]; rfl
  have N0 := Fr.nil n0
  show Gl p e below (Ret s 0 0 (Q7 Z q0 q1 h0 n0)) (s₁.setTop (entryFrame m #[(.long q0), (.long q1)] 4))
  rw [ef7 m q0 q1]
  obtain ⟨args, hargs⟩ : ∃ z : Array Value, z = #[(.long q0), (.long q1)] := ⟨_, rfl⟩
  rw [← hargs] at X0
  refine Gl.up (B := s₁.setTop (mkF m 3 #[.val (.long q0), .second, .val (.long q1), .second] [(.int (lcmpW q0 q1))])) (fun t kt => ?_) ?_
  · show Steps p.tables e below (s₁.setTop (mkF m 0 #[.val (.long q0), .second, .val (.long q1), .second] [])) _
    refine XS.lloadN X0.here hx rfl (hb hby d7_0) rfl ?_
    show Steps p.tables e below (s₁.setTop (mkF m 1 #[.val (.long q0), .second, .val (.long q1), .second] [(.long q0)])) _
    refine XS.lloadN X0.here hx rfl (hb hby d7_1) rfl ?_
    show Steps p.tables e below (s₁.setTop (mkF m 2 #[.val (.long q0), .second, .val (.long q1), .second] [(.long q1), (.long q0)])) _
    refine XS.lcmp X0.here hx rfl (hb hby d7_2) rfl ?_
    exact kt
  suffices J1 : ∀ (T1 : State) (v1_s0 : Int64), v1_s0 = (if q1 < q0 then q1 else q0) → Stand p l e ({ frames := 0, cells := 0, slots := 0, locals := 0 } : Room) s m args below meth c T1 [] 0 0 → T1.heap = h0 → Gl p e below (Ret s 0 0 (Q7 Z q0 q1 h0 n0)) (T1.setTop (mkF m 11 #[.val (.long q0), .second, .val (.long q1), .second] [(.long v1_s0)])) by
    by_cases c3_2 : q1 < q0
    · refine Gl.up (B := s₁.setTop (mkF m 11 #[.val (.long q0), .second, .val (.long q1), .second] [(.long q1)])) (fun t kt => ?_) ?_
      · show Steps p.tables e below (s₁.setTop (mkF m 3 #[.val (.long q0), .second, .val (.long q1), .second] [(.int (lcmpW q0 q1))])) _
        refine XS.ifYes X0.here hx rfl (pc0 := 3) (pc' := 10) rfl (hb hby d7_3) rfl (jc_gt_t c3_2) (by decide) (by decide) ?_
        show Steps p.tables e below (s₁.setTop (mkF m 10 #[.val (.long q0), .second, .val (.long q1), .second] [])) _
        refine XS.lloadN X0.here hx rfl (hb hby d7_10) rfl ?_
        exact kt
      exact J1 _ q1 (if_pos c3_2).symm X0 e0
    · refine Gl.up (B := s₁.setTop (mkF m 11 #[.val (.long q0), .second, .val (.long q1), .second] [(.long q0)])) (fun t kt => ?_) ?_
      · show Steps p.tables e below (s₁.setTop (mkF m 3 #[.val (.long q0), .second, .val (.long q1), .second] [(.int (lcmpW q0 q1))])) _
        refine XS.ifNo X0.here hx rfl (hb hby d7_3) rfl (jc_gt_f c3_2) ?_
        show Steps p.tables e below (s₁.setTop (mkF m 6 #[.val (.long q0), .second, .val (.long q1), .second] [])) _
        refine XS.lloadN X0.here hx rfl (hb hby d7_6) rfl ?_
        show Steps p.tables e below (s₁.setTop (mkF m 7 #[.val (.long q0), .second, .val (.long q1), .second] [(.long q0)])) _
        refine XS.goto X0.here hx rfl (pc0 := 7) (pc' := 11) rfl (hb hby d7_7) (by decide) (by decide) ?_
        exact kt
      exact J1 _ q0 (if_neg c3_2).symm X0 e0
  intro T1 v1_s0 hv1_s0 X1 e1
  subst hv1_s0
  refine Gl.retJ X1 hx hlk Bd.returns (hb hby d7_11) ?_ (by decide) (by decide)
  exact ⟨congrArg (fun z => some (Value.long z)) (show (if q1 < q0 then q1 else q0) = f7 q0 q1 from rfl), rfl, e1⟩
def f5 (q0 : Int64) : Int64 := (if q0 = (-1 : Int64) then (50000000 : Int64) else q0)
def Q5 (Z : State) (q0 : Int64) (h0 : Heap) (n0 : Nat) (v : Option Value) (h : Heap) (L : List Loc) : Prop := v = some (.long (f5 q0)) ∧ L = [] ∧ h = h0
theorem ef5 (m : MethodId) (q0 : Int64) : entryFrame m #[(.long q0)] 2 = mkF m 0 #[.val (.long q0), .second] [] := by first | (simp [entryFrame, mkF, argsToLocals, Value.category]; done) | rfl
set_option maxRecDepth 65536 in
set_option maxHeartbeats 40000000 in
theorem rm5 (l : Launch) (Z : State) (aa : Array Value) (hw : ∀ d ∈ tables_1, d.before aa Z = true) (ws : List Jvm.Cond) (q0 : Int64) (h0 : Heap) (n0 : Nat) (O0 : Old Z n0 h0)  :
    MetFree l (⟨"com/example/pooltergeist/pooltergeist/poolmanager/SpaceStatus", "neededBytes", "(J)J"⟩ : MethodName) (head1 (Jvm.Cond.code (⟨"com/example/pooltergeist/pooltergeist/poolmanager/SpaceStatus", "neededBytes", "(J)J"⟩ : MethodName) prog_79_method_5_code 2 (some .long) :: ws) ({ frames := 0, cells := 0, slots := 0, locals := 0 } : Room)) (fun a U => a = #[(.long q0)] ∧ Z.Warmed39 U.vm ∧ U.heap = h0) (fun _ _ _ _ _ => True) (fun _ U o U' => ∃ v L, o = .returned v ∧ Q5 Z q0 h0 n0 v U'.heap L ∧ FrameEnd U o U' L ({ frames := 0, cells := 0, slots := 0, locals := 0 } : Room).cells ({ frames := 0, cells := 0, slots := 0, locals := 0 } : Room).slots) := by
  refine MetFree.of_bodySF (plainFor_of_name pn_com_example_pooltergeist_pooltergeist_poolmanager_SpaceStatus) hisR ?_
  intro p e s m args below meth c s₁ Bd hml0 hP hK
  obtain ⟨rfl, hZ, hh⟩ := hP
  have hx := Bd.exec
  have hby := Bd.bytes
  have hlk := Bd.notSynchronized
  have hml : c.maxLocals = 2 := hml0
  have hown : s.vm.findClass "com/example/pooltergeist/pooltergeist/poolmanager/SpaceStatus" = some m.cls := findClass_of_methodNamed Bd.named
  have hnm := (name_of_methodNamed Bd.named Bd.method).1
  have X0 : Stand p l e ({ frames := 0, cells := 0, slots := 0, locals := 0 } : Room) s m #[(.long q0)] below meth c s₁ [] 0 0 := Stand.of_body Bd
  have e0 : s₁.heap = h0 := by rw [← hh, Bd.state]; rfl
  have N0 := Fr.nil n0
  show Gl p e below (Ret s 0 0 (Q5 Z q0 h0 n0)) (s₁.setTop (entryFrame m #[(.long q0)] 2))
  rw [ef5 m q0]
  obtain ⟨args, hargs⟩ : ∃ z : Array Value, z = #[(.long q0)] := ⟨_, rfl⟩
  rw [← hargs] at X0
  refine Gl.up (B := s₁.setTop (mkF m 5 #[.val (.long q0), .second] [(.int (lcmpW q0 (-1 : Int64)))])) (fun t kt => ?_) ?_
  · show Steps p.tables e below (s₁.setTop (mkF m 0 #[.val (.long q0), .second] [])) _
    refine XS.lloadN X0.here hx rfl (hb hby d5_0) rfl ?_
    show Steps p.tables e below (s₁.setTop (mkF m 1 #[.val (.long q0), .second] [(.long q0)])) _
    refine X0.ldc2Long hx hown (mvT hZ (hw _ (List.mem_of_getElem? (i := 49) rfl))) (g := (mkF m 1 #[.val (.long q0), .second] [(.long q0)])) rfl (hb hby d5_1) _ ?_
    show Steps p.tables e below (s₁.setTop (mkF m 4 #[.val (.long q0), .second] [(.long (-1 : Int64)), (.long q0)])) _
    refine XS.lcmp X0.here hx rfl (hb hby d5_4) rfl ?_
    exact kt
  suffices J1 : ∀ (T1 : State) (v1_s0 : Int64), v1_s0 = (if q0 = (-1 : Int64) then (50000000 : Int64) else q0) → Stand p l e ({ frames := 0, cells := 0, slots := 0, locals := 0 } : Room) s m args below meth c T1 [] 0 0 → T1.heap = h0 → Gl p e below (Ret s 0 0 (Q5 Z q0 h0 n0)) (T1.setTop (mkF m 15 #[.val (.long q0), .second] [(.long v1_s0)])) by
    by_cases c5_2 : q0 = (-1 : Int64)
    · refine Gl.up (B := s₁.setTop (mkF m 15 #[.val (.long q0), .second] [(.long (50000000 : Int64))])) (fun t kt => ?_) ?_
      · show Steps p.tables e below (s₁.setTop (mkF m 5 #[.val (.long q0), .second] [(.int (lcmpW q0 (-1 : Int64)))])) _
        refine XS.ifNo X0.here hx rfl (hb hby d5_5) rfl (jc_ne_f c5_2) ?_
        show Steps p.tables e below (s₁.setTop (mkF m 8 #[.val (.long q0), .second] [])) _
        refine X0.ldc2Long hx hown (mvT hZ (hw _ (List.mem_of_getElem? (i := 52) rfl))) (g := (mkF m 8 #[.val (.long q0), .second] [])) rfl (hb hby d5_8) _ ?_
        show Steps p.tables e below (s₁.setTop (mkF m 11 #[.val (.long q0), .second] [(.long (50000000 : Int64))])) _
        refine XS.goto X0.here hx rfl (pc0 := 11) (pc' := 15) rfl (hb hby d5_11) (by decide) (by decide) ?_
        exact kt
      exact J1 _ (50000000 : Int64) (if_pos c5_2).symm X0 e0
    · refine Gl.up (B := s₁.setTop (mkF m 15 #[.val (.long q0), .second] [(.long q0)])) (fun t kt => ?_) ?_
      · show Steps p.tables e below (s₁.setTop (mkF m 5 #[.val (.long q0), .second] [(.int (lcmpW q0 (-1 : Int64)))])) _
        refine XS.ifYes X0.here hx rfl (pc0 := 5) (pc' := 14) rfl (hb hby d5_5) rfl (jc_ne_t c5_2) (by decide) (by decide) ?_
        show Steps p.tables e below (s₁.setTop (mkF m 14 #[.val (.long q0), .second] [])) _
        refine XS.lloadN X0.here hx rfl (hb hby d5_14) rfl ?_
        exact kt
      exact J1 _ q0 (if_neg c5_2).symm X0 e0
  intro T1 v1_s0 hv1_s0 X1 e1
  subst hv1_s0
  refine Gl.retJ X1 hx hlk Bd.returns (hb hby d5_15) ?_ (by decide) (by decide)
  exact ⟨congrArg (fun z => some (Value.long z)) (show (if q0 = (-1 : Int64) then (50000000 : Int64) else q0) = f5 q0 from rfl), rfl, e1⟩
def f6 (q1 : Int64) (o0 : Int64) (o1 : Int64) (o2 : Int64) : Int32 := (if (f5 q1) = (0 : Int64) then (1 : Int32) else (if ((o0 - o1) + o2) < (f5 q1) then (0 : Int32) else (1 : Int32)))
theorem f6_b (q1 : Int64) (o0 : Int64) (o1 : Int64) (o2 : Int64) : f6 q1 o0 o1 o2 = 0 ∨ f6 q1 o0 o1 o2 = 1 := (b01_ite (Or.inr rfl) (b01_ite (Or.inl rfl) (Or.inr rfl)))
def Q6 (Z : State) (a0 : Addr) (q1 : Int64) (o0 : Int64) (o1 : Int64) (o2 : Int64) (h0 : Heap) (n0 : Nat) (v : Option Value) (h : Heap) (L : List Loc) : Prop := v = some (.int (f6 q1 o0 o1 o2)) ∧ L = [] ∧ h = h0
theorem ef6 (m : MethodId) (a0 : Addr) (q1 : Int64) : entryFrame m #[(.ref a0), (.long q1)] 5 = mkF m 0 #[.val (.ref a0), .val (.long q1), .second, .unset, .unset] [] := by first | (simp [entryFrame, mkF, argsToLocals, Value.category]; done) | rfl
set_option maxRecDepth 65536 in
set_option maxHeartbeats 40000000 in
theorem rm6 (l : Launch) (Z : State) (aa : Array Value) (hw : ∀ d ∈ tables_1, d.before aa Z = true) (ws : List Jvm.Cond) (a0 : Addr) (q1 : Int64) (o0 : Int64) (o1 : Int64) (o2 : Int64) (h0 : Heap) (n0 : Nat) (O0 : Old Z n0 h0) (E_a0 : Exa Z h0 a0 "com/example/pooltergeist/pooltergeist/poolmanager/SpaceStatus") (F_a0_total : Fld Z h0 a0 "com/example/pooltergeist/pooltergeist/poolmanager/SpaceStatus" "total" "J" (.long o0)) (F_a0_used : Fld Z h0 a0 "com/example/pooltergeist/pooltergeist/poolmanager/SpaceStatus" "used" "J" (.long o1)) (F_a0_cached : Fld Z h0 a0 "com/example/pooltergeist/pooltergeist/poolmanager/SpaceStatus" "cached" "J" (.long o2)) :
    MetFree l (⟨"com/example/pooltergeist/pooltergeist/poolmanager/SpaceStatus", "hasRoomFor", "(J)Z"⟩ : MethodName) (head1 (Jvm.Cond.code (⟨"com/example/pooltergeist/pooltergeist/poolmanager/SpaceStatus", "hasRoomFor", "(J)Z"⟩ : MethodName) prog_79_method_3_code 5 (some .boolean) :: ws) ({ frames := 1, cells := 0, slots := 0, locals := 13 } : Room)) (fun a U => a = #[(.ref a0), (.long q1)] ∧ Z.Warmed39 U.vm ∧ U.heap = h0) (fun _ _ _ _ _ => True) (fun _ U o U' => ∃ v L, o = .returned v ∧ Q6 Z a0 q1 o0 o1 o2 h0 n0 v U'.heap L ∧ FrameEnd U o U' L ({ frames := 1, cells := 0, slots := 0, locals := 13 } : Room).cells ({ frames := 1, cells := 0, slots := 0, locals := 13 } : Room).slots) := by
  refine MetFree.of_bodySF (plainFor_of_name pn_com_example_pooltergeist_pooltergeist_poolmanager_SpaceStatus) hisR ?_
  intro p e s m args below meth c s₁ Bd hml0 hP hK
  obtain ⟨rfl, hZ, hh⟩ := hP
  have hx := Bd.exec
  have hby := Bd.bytes
  have hlk := Bd.notSynchronized
  have hml : c.maxLocals = 5 := hml0
  have hown : s.vm.findClass "com/example/pooltergeist/pooltergeist/poolmanager/SpaceStatus" = some m.cls := findClass_of_methodNamed Bd.named
  have hnm := (name_of_methodNamed Bd.named Bd.method).1
  have X0 : Stand p l e ({ frames := 1, cells := 0, slots := 0, locals := 13 } : Room) s m #[(.ref a0), (.long q1)] below meth c s₁ [] 0 0 := Stand.of_body Bd
  have e0 : s₁.heap = h0 := by rw [← hh, Bd.state]; rfl
  have N0 := Fr.nil n0
  show Gl p e below (Ret s 0 0 (Q6 Z a0 q1 o0 o1 o2 h0 n0)) (s₁.setTop (entryFrame m #[(.ref a0), (.long q1)] 5))
  rw [ef6 m a0 q1]
  obtain ⟨args, hargs⟩ : ∃ z : Array Value, z = #[(.ref a0), (.long q1)] := ⟨_, rfl⟩
  rw [← hargs] at X0
  refine Gl.up (B := s₁.setTop (mkF m 1 #[.val (.ref a0), .val (.long q1), .second, .unset, .unset] [(.long q1)])) (fun t kt => ?_) ?_
  · show Steps p.tables e below (s₁.setTop (mkF m 0 #[.val (.ref a0), .val (.long q1), .second, .unset, .unset] [])) _
    refine XS.lloadN X0.here hx rfl (hb hby d6_0) rfl ?_
    exact kt
  obtain ⟨_, _, ⟨T1, L1, k1, n1⟩, -, X1, ⟨Lc1, hQ1, l1, y1, z1⟩, st1⟩ := Jvm.LawKit.callS X0 hx (y := (⟨"com/example/pooltergeist/pooltergeist/poolmanager/SpaceStatus", "neededBytes", "(J)J"⟩ : MethodName)) hown (mvT hZ (hw _ (List.mem_of_getElem? (i := 46) rfl))) (mvT hZ (hw _ (List.mem_of_getElem? (i := 47) rfl))) (mvT hZ (hw _ (List.mem_of_getElem? (i := 7) rfl))) (mvT hZ (hw _ (List.mem_of_getElem? (i := 48) rfl))) (by decide) (backOf (W := 0) (rm5 l Z aa hw [] q1 h0 n0 O0) hZ (hw _ (List.mem_of_getElem? (i := 48) rfl)) (hw _ (List.mem_of_getElem? (i := 7) rfl)) (by decide) (by decide)) (g := (mkF m 1 #[.val (.ref a0), .val (.long q1), .second, .unset, .unset] [(.long q1)])) rfl (by rw [hml]; rfl) (argsL := [(.long q1)]) (rest := []) (lenOf pd_oJcJ rfl) rfl (by show 2 * 0 + _ ≤ _; exact Nat.le_of_eq rfl) (hb hby d6_1) (fun _ _ => ⟨rfl, e0, (by decide : 0 + 0 ≤ _), (by decide : 0 + 0 ≤ _)⟩)
  dsimp only [Pt.U, Pt.locs, Pt.cells, Pt.slots] at X1 l1 y1 z1 st1 hQ1
  subst l1 y1 z1
  obtain ⟨rfl, rfl, e1⟩ := hQ1
  try rw [List.append_nil] at X1
  refine Gl.up (B := T1.setTop (mkF m 4 #[.val (.ref a0), .val (.long q1), .second, .unset, .unset] [(.long (f5 q1))])) (fun t kt => st1 _ kt) ?_
  refine Gl.up (B := T1.setTop (mkF m 8 #[.val (.ref a0), .val (.long q1), .second, .val (.long (f5 q1)), .second] [(.int (lcmpW (f5 q1) (0 : Int64)))])) (fun t kt => ?_) ?_
  · show Steps p.tables e below (T1.setTop (mkF m 4 #[.val (.ref a0), .val (.long q1), .second, .unset, .unset] [(.long (f5 q1))])) _
    refine XS.lstoreN X1.here hx rfl (hb hby d6_4) rfl (l' := #[.val (.ref a0), .val (.long q1), .second, .val (.long (f5 q1)), .second]) rfl ?_
    show Steps p.tables e below (T1.setTop (mkF m 5 #[.val (.ref a0), .val (.long q1), .second, .val (.long (f5 q1)), .second] [])) _
    refine XS.lloadN X1.here hx rfl (hb hby d6_5) rfl ?_
    show Steps p.tables e below (T1.setTop (mkF m 6 #[.val (.ref a0), .val (.long q1), .second, .val (.long (f5 q1)), .second] [(.long (f5 q1))])) _
    refine XS.lconst X1.here hx rfl (hb hby d6_6) ?_
    show Steps p.tables e below (T1.setTop (mkF m 7 #[.val (.ref a0), .val (.long q1), .second, .val (.long (f5 q1)), .second] [(.long (0 : Int64)), (.long (f5 q1))])) _
    refine XS.lcmp X1.here hx rfl (hb hby d6_7) rfl ?_
    exact kt
  suffices J2 : ∀ (T2 : State) (v2_s0 : Int32), v2_s0 = (if (f5 q1) = (0 : Int64) then (1 : Int32) else (if ((o0 - o1) + o2) < (f5 q1) then (0 : Int32) else (1 : Int32))) → Stand p l e ({ frames := 1, cells := 0, slots := 0, locals := 13 } : Room) s m args below meth c T2 [] 0 0 → T2.heap = h0 → Gl p e below (Ret s 0 0 (Q6 Z a0 q1 o0 o1 o2 h0 n0)) (T2.setTop (mkF m 35 #[.val (.ref a0), .val (.long q1), .second, .val (.long (f5 q1)), .second] [(.int v2_s0)])) by
    by_cases c8_3 : (f5 q1) = (0 : Int64)
    · refine Gl.up (B := T1.setTop (mkF m 35 #[.val (.ref a0), .val (.long q1), .second, .val (.long (f5 q1)), .second] [(.int (1 : Int32))])) (fun t kt => ?_) ?_
      · show Steps p.tables e below (T1.setTop (mkF m 8 #[.val (.ref a0), .val (.long q1), .second, .val (.long (f5 q1)), .second] [(.int (lcmpW (f5 q1) (0 : Int64)))])) _
        refine XS.ifYes X1.here hx rfl (pc0 := 8) (pc' := 30) rfl (hb hby d6_8) rfl (jc_eq_t c8_3) (by decide) (by decide) ?_
        show Steps p.tables e below (T1.setTop (mkF m 30 #[.val (.ref a0), .val (.long q1), .second, .val (.long (f5 q1)), .second] [])) _
        refine XS.iconst X1.here hx rfl (hb hby d6_30) ?_
        show Steps p.tables e below (T1.setTop (mkF m 31 #[.val (.ref a0), .val (.long q1), .second, .val (.long (f5 q1)), .second] [(.int (1 : Int32))])) _
        refine XS.goto X1.here hx rfl (pc0 := 31) (pc' := 35) rfl (hb hby d6_31) (by decide) (by decide) ?_
        exact kt
      exact J2 _ (1 : Int32) (if_pos c8_3).symm X1 e1
    · refine Gl.up (B := T1.setTop (mkF m 12 #[.val (.ref a0), .val (.long q1), .second, .val (.long (f5 q1)), .second] [(.ref a0)])) (fun t kt => ?_) ?_
      · show Steps p.tables e below (T1.setTop (mkF m 8 #[.val (.ref a0), .val (.long q1), .second, .val (.long (f5 q1)), .second] [(.int (lcmpW (f5 q1) (0 : Int64)))])) _
        refine XS.ifNo X1.here hx rfl (hb hby d6_8) rfl (jc_eq_f c8_3) ?_
        show Steps p.tables e below (T1.setTop (mkF m 11 #[.val (.ref a0), .val (.long q1), .second, .val (.long (f5 q1)), .second] [])) _
        refine XS.aloadN X1.here hx rfl (hb hby d6_11) rfl rfl ?_
        exact kt
      obtain ⟨T4, X4, e4, st4⟩ := getF X1 hx hZ hown (host := "") (Or.inl (hw _ (List.mem_of_getElem? (i := 22) rfl))) Via.refl e1 F_a0_total (g := (mkF m 12 #[.val (.ref a0), .val (.long q1), .second, .val (.long (f5 q1)), .second] [(.ref a0)])) rfl rfl (hb hby d6_12)
      refine Gl.up (B := T4.setTop (mkF m 15 #[.val (.ref a0), .val (.long q1), .second, .val (.long (f5 q1)), .second] [(.long o0)])) (fun t kt => st4 _ kt) ?_
      refine Gl.up (B := T4.setTop (mkF m 16 #[.val (.ref a0), .val (.long q1), .second, .val (.long (f5 q1)), .second] [(.ref a0), (.long o0)])) (fun t kt => ?_) ?_
      · show Steps p.tables e below (T4.setTop (mkF m 15 #[.val (.ref a0), .val (.long q1), .second, .val (.long (f5 q1)), .second] [(.long o0)])) _
        refine XS.aloadN X4.here hx rfl (hb hby d6_15) rfl rfl ?_
        exact kt
      obtain ⟨T5, X5, e5, st5⟩ := getF X4 hx hZ hown (host := "") (Or.inl (hw _ (List.mem_of_getElem? (i := 24) rfl))) Via.refl e4 F_a0_used (g := (mkF m 16 #[.val (.ref a0), .val (.long q1), .second, .val (.long (f5 q1)), .second] [(.ref a0), (.long o0)])) rfl rfl (hb hby d6_16)
      refine Gl.up (B := T5.setTop (mkF m 19 #[.val (.ref a0), .val (.long q1), .second, .val (.long (f5 q1)), .second] [(.long o1), (.long o0)])) (fun t kt => st5 _ kt) ?_
      refine Gl.up (B := T5.setTop (mkF m 21 #[.val (.ref a0), .val (.long q1), .second, .val (.long (f5 q1)), .second] [(.ref a0), (.long (o0 - o1))])) (fun t kt => ?_) ?_
      · show Steps p.tables e below (T5.setTop (mkF m 19 #[.val (.ref a0), .val (.long q1), .second, .val (.long (f5 q1)), .second] [(.long o1), (.long o0)])) _
        refine XS.lsub X5.here hx rfl (hb hby d6_19) rfl ?_
        show Steps p.tables e below (T5.setTop (mkF m 20 #[.val (.ref a0), .val (.long q1), .second, .val (.long (f5 q1)), .second] [(.long (o0 - o1))])) _
        refine XS.aloadN X5.here hx rfl (hb hby d6_20) rfl rfl ?_
        exact kt
      obtain ⟨T6, X6, e6, st6⟩ := getF X5 hx hZ hown (host := "") (Or.inl (hw _ (List.mem_of_getElem? (i := 28) rfl))) Via.refl e5 F_a0_cached (g := (mkF m 21 #[.val (.ref a0), .val (.long q1), .second, .val (.long (f5 q1)), .second] [(.ref a0), (.long (o0 - o1))])) rfl rfl (hb hby d6_21)
      refine Gl.up (B := T6.setTop (mkF m 24 #[.val (.ref a0), .val (.long q1), .second, .val (.long (f5 q1)), .second] [(.long o2), (.long (o0 - o1))])) (fun t kt => st6 _ kt) ?_
      refine Gl.up (B := T6.setTop (mkF m 27 #[.val (.ref a0), .val (.long q1), .second, .val (.long (f5 q1)), .second] [(.int (lcmpW ((o0 - o1) + o2) (f5 q1)))])) (fun t kt => ?_) ?_
      · show Steps p.tables e below (T6.setTop (mkF m 24 #[.val (.ref a0), .val (.long q1), .second, .val (.long (f5 q1)), .second] [(.long o2), (.long (o0 - o1))])) _
        refine XS.ladd X6.here hx rfl (hb hby d6_24) rfl ?_
        show Steps p.tables e below (T6.setTop (mkF m 25 #[.val (.ref a0), .val (.long q1), .second, .val (.long (f5 q1)), .second] [(.long ((o0 - o1) + o2))])) _
        refine XS.lloadN X6.here hx rfl (hb hby d6_25) rfl ?_
        show Steps p.tables e below (T6.setTop (mkF m 26 #[.val (.ref a0), .val (.long q1), .second, .val (.long (f5 q1)), .second] [(.long (f5 q1)), (.long ((o0 - o1) + o2))])) _
        refine XS.lcmp X6.here hx rfl (hb hby d6_26) rfl ?_
        exact kt
      by_cases c27_7 : ((o0 - o1) + o2) < (f5 q1)
      · refine Gl.up (B := T6.setTop (mkF m 35 #[.val (.ref a0), .val (.long q1), .second, .val (.long (f5 q1)), .second] [(.int (0 : Int32))])) (fun t kt => ?_) ?_
        · show Steps p.tables e below (T6.setTop (mkF m 27 #[.val (.ref a0), .val (.long q1), .second, .val (.long (f5 q1)), .second] [(.int (lcmpW ((o0 - o1) + o2) (f5 q1)))])) _
          refine XS.ifYes X6.here hx rfl (pc0 := 27) (pc' := 34) rfl (hb hby d6_27) rfl (jc_lt_t c27_7) (by decide) (by decide) ?_
          show Steps p.tables e below (T6.setTop (mkF m 34 #[.val (.ref a0), .val (.long q1), .second, .val (.long (f5 q1)), .second] [])) _
          refine XS.iconst X6.here hx rfl (hb hby d6_34) ?_
          exact kt
        exact J2 _ (0 : Int32) ((if_neg c8_3).trans (if_pos c27_7)).symm X6 e6
      · refine Gl.up (B := T6.setTop (mkF m 35 #[.val (.ref a0), .val (.long q1), .second, .val (.long (f5 q1)), .second] [(.int (1 : Int32))])) (fun t kt => ?_) ?_
        · show Steps p.tables e below (T6.setTop (mkF m 27 #[.val (.ref a0), .val (.long q1), .second, .val (.long (f5 q1)), .second] [(.int (lcmpW ((o0 - o1) + o2) (f5 q1)))])) _
          refine XS.ifNo X6.here hx rfl (hb hby d6_27) rfl (jc_lt_f c27_7) ?_
          show Steps p.tables e below (T6.setTop (mkF m 30 #[.val (.ref a0), .val (.long q1), .second, .val (.long (f5 q1)), .second] [])) _
          refine XS.iconst X6.here hx rfl (hb hby d6_30) ?_
          show Steps p.tables e below (T6.setTop (mkF m 31 #[.val (.ref a0), .val (.long q1), .second, .val (.long (f5 q1)), .second] [(.int (1 : Int32))])) _
          refine XS.goto X6.here hx rfl (pc0 := 31) (pc' := 35) rfl (hb hby d6_31) (by decide) (by decide) ?_
          exact kt
        exact J2 _ (1 : Int32) ((if_neg c8_3).trans (if_neg c27_7)).symm X6 e6
  intro T2 v2_s0 hv2_s0 X2 e2
  subst hv2_s0
  refine Gl.retN X2 hx hlk (t := .boolean) Bd.returns (by simp) (hb hby d6_35) (w := (if (f5 q1) = (0 : Int64) then (1 : Int32) else (if ((o0 - o1) + o2) < (f5 q1) then (0 : Int32) else (1 : Int32)))) (nar_b01 (b01_ite (Or.inr rfl) (b01_ite (Or.inl rfl) (Or.inr rfl)))) ?_ (by decide) (by decide)
  exact ⟨congrArg (fun z => some (Value.int z)) (show (if (f5 q1) = (0 : Int64) then (1 : Int32) else (if ((o0 - o1) + o2) < (f5 q1) then (0 : Int32) else (1 : Int32))) = f6 q1 o0 o1 o2 from rfl), rfl, e2⟩
theorem own_nl {x : Int64} (h : 0 ≤ x.toInt) : ¬ x < (0 : Int64) := by rw [Int64.lt_iff_toInt_lt, show (0 : Int64).toInt = 0 from rfl]; omega
theorem own_and63 (x : Int64) : 0 ≤ (x &&& (9223372036854775807 : Int64)).toInt := by
  rw [c_maskL x _ 63 (by decide) (by decide)]; omega
theorem own_min {a b : Int64} (ha : 0 ≤ a.toInt) (hb : 0 ≤ b.toInt) : 0 ≤ (f7 a b).toInt ∧ (f7 a b).toInt ≤ b.toInt := by
  unfold f7; split <;> rename_i h <;> rw [Int64.lt_iff_toInt_lt] at h <;> omega
theorem own_sub {a b : Int64} (ha : 0 ≤ a.toInt) (hb : 0 ≤ b.toInt ∧ b.toInt ≤ a.toInt) : 0 ≤ (a - b).toInt := by
  have h1 := c_lsub a b; have h2 := rng64 (a - b); have h3 := rng64 a; omega
theorem own_lru (x : Int32) : 0 ≤ (((x.toUInt32 >>> ((4 : Int32) &&& 31).toUInt32).toInt32).toInt64).toInt := by
  rw [c_i2l, c_iushr x (4 : Int32) 4 (by decide) (by decide)]; omega
theorem own_x3 (x : Int32) : x &&& (3 : Int32) = 0 ∨ x &&& (3 : Int32) = 1 ∨ x &&& (3 : Int32) = 2 ∨ x &&& (3 : Int32) = 3 := by
  have h := c_and x (3 : Int32) (by decide)
  rw [show (3 : Int32).toInt = 3 from rfl] at h
  have h3 : (x &&& (3 : Int32)).toInt = 0 ∨ (x &&& (3 : Int32)).toInt = 1 ∨ (x &&& (3 : Int32)).toInt = 2 ∨ (x &&& (3 : Int32)).toInt = 3 := by omega
  rcases h3 with h | h | h | h
  · exact Or.inl (Int32.toInt_inj.mp h)
  · exact Or.inr (Or.inl (Int32.toInt_inj.mp h))
  · exact Or.inr (Or.inr (Or.inl (Int32.toInt_inj.mp h)))
  · exact Or.inr (Or.inr (Or.inr (Int32.toInt_inj.mp h)))
theorem own_be (x : Int32) : ¬ (cmpValue (FP.dcmp (FP.i2d (x &&& (3 : Int32))) (0 : UInt64)) .l) < (0 : Int32) ∧ f3 (FP.i2d (x &&& (3 : Int32))) = (0 : Int32) ∧ Jvm.Free.Fl.NoNaN64 (FP.i2d (x &&& (3 : Int32))) := by
  rcases own_x3 x with h | h | h | h <;> rw [h] <;> decide +kernel
theorem own_main {tot us ca fs nd : Int64} {ex : Int32} {k : Int32} {f : Int64} (ht : 0 ≤ tot.toInt) (hu : 0 ≤ us.toInt) (hc : 0 ≤ ca.toInt ∧ ca.toInt ≤ us.toInt) (hf : 0 ≤ f.toInt)
    (hfs : fs = if k = (0 : Int32) then (-1 : Int64) else f) (hnd : nd = if k = (0 : Int32) then (50000000 : Int64) else f)
    (hex : ex = if nd = (0 : Int64) then (1 : Int32) else (if tot < (us - ca) then (0 : Int32) else (if (tot - (us - ca)) < nd then (0 : Int32) else (1 : Int32)))) : f6 fs tot us ca = ex := by
  have hn : f5 fs = nd := by
    unfold f5; rw [hfs, hnd]
    by_cases q : k = (0 : Int32)
    · rw [if_pos q, if_pos q, if_pos rfl]
    · rw [if_neg q, if_neg q, if_neg]
      intro r; rw [r] at hf; revert hf; decide
  have hn0 : 0 ≤ nd.toInt := by rw [hnd]; split <;> first | decide | exact hf
  have h1 := c_lsub tot us
  have h2 := rng64 (tot - us)
  have h3 := c_ladd (tot - us) ca
  have h4 := rng64 (tot - us + ca)
  have h5 := c_lsub us ca
  have h6 := rng64 (us - ca)
  have h7 := c_lsub tot (us - ca)
  have h8 := rng64 (tot - (us - ca))
  have h9 := rng64 tot
  have h10 := rng64 us
  unfold f6; rw [hn, hex]
  by_cases q : nd = (0 : Int64)
  · rw [if_pos q, if_pos q]
  · rw [if_neg q, if_neg q]
    have hq : nd.toInt ≠ 0 := fun r => q (Int64.toInt_inj.mp r)
    simp only [Int64.lt_iff_toInt_lt]
    by_cases r : tot.toInt < (us - ca).toInt
    · rw [if_pos r, if_pos (by omega)]
    · rw [if_neg r]
      by_cases z : (tot - (us - ca)).toInt < nd.toInt
      · rw [if_pos z, if_pos (by omega)]
      · rw [if_neg z, if_neg (by omega)]
def Q0 (n0 : Nat) (v : Option Value) (h : Heap) (L : List Loc) : Prop := v = some (.int 1) ∧ Fr n0 L
theorem ef0 (m : MethodId) (tt : Int64) (us : Int64) (ca : Int64) (fz : Int64) (pr : Int64) (mo : Int32) : entryFrame m #[(.long tt), (.long us), (.long ca), (.long fz), (.long pr), (.int mo)] maxLocals = mkF m 0 #[.val (.long tt), .second, .val (.long us), .second, .val (.long ca), .second, .val (.long fz), .second, .val (.long pr), .second, .val (.int mo), .unset, .unset, .unset, .unset, .unset, .unset, .unset, .unset, .unset, .unset, .unset, .unset, .unset, .unset, .unset, .unset, .unset, .unset, .unset, .unset, .unset, .unset, .unset] [] := by first | (simp [entryFrame, mkF, argsToLocals, Value.category, maxLocals]; done) | rfl
set_option maxRecDepth 65536 in
set_option maxHeartbeats 40000000 in
theorem rm0 (l : Launch) (Z : State) (aa : Array Value) (hw : ∀ d ∈ tables_1, d.before aa Z = true) (ws : List Jvm.Cond) (tt : Int64) (us : Int64) (ca : Int64) (fz : Int64) (pr : Int64) (mo : Int32) (h0 : Heap) (n0 : Nat) (O0 : Old Z n0 h0)  :
    MetFree l x (head1 (Jvm.Cond.code x code maxLocals ret :: ws) room_1) (fun a U => a = #[(.long tt), (.long us), (.long ca), (.long fz), (.long pr), (.int mo)] ∧ Z.Warmed39 U.vm ∧ U.heap = h0) (fun _ _ _ _ _ => True) (fun _ U o U' => ∃ v L, o = .returned v ∧ Q0 n0 v U'.heap L ∧ FrameEnd U o U' L 1 8) := by
  refine MetFree.of_bodySF (plainFor_of_name pn_com_example_pooltergeist_pooltergeist_poolmanager_SpaceStatusHasRoomForPinLaw) hisR ?_
  intro p e s m args below meth c s₁ Bd hml0 hP hK
  obtain ⟨rfl, hZ, hh⟩ := hP
  have hx := Bd.exec
  have hby := Bd.bytes
  have hlk := Bd.notSynchronized
  have hml : c.maxLocals = 34 := hml0
  have hown : s.vm.findClass "com/example/pooltergeist/pooltergeist/poolmanager/SpaceStatusHasRoomForPinLaw" = some m.cls := findClass_of_methodNamed Bd.named
  have hnm := (name_of_methodNamed Bd.named Bd.method).1
  have X0 : Stand p l e room_1 s m #[(.long tt), (.long us), (.long ca), (.long fz), (.long pr), (.int mo)] below meth c s₁ [] 0 0 := Stand.of_body Bd
  have e0 : s₁.heap = h0 := by rw [← hh, Bd.state]; rfl
  have N0 := Fr.nil n0
  show Gl p e below (Ret s 1 8 (Q0 n0)) (s₁.setTop (entryFrame m #[(.long tt), (.long us), (.long ca), (.long fz), (.long pr), (.int mo)] maxLocals))
  rw [ef0 m tt us ca fz pr mo]
  obtain ⟨args, hargs⟩ : ∃ z : Array Value, z = #[(.long tt), (.long us), (.long ca), (.long fz), (.long pr), (.int mo)] := ⟨_, rfl⟩
  rw [← hargs] at X0
  refine Gl.up (B := s₁.setTop (mkF m 5 #[.val (.long tt), .second, .val (.long us), .second, .val (.long ca), .second, .val (.long fz), .second, .val (.long pr), .second, .val (.int mo), .unset, .unset, .unset, .unset, .unset, .unset, .unset, .unset, .unset, .unset, .unset, .unset, .unset, .unset, .unset, .unset, .unset, .unset, .unset, .unset, .unset, .unset, .unset] [(.long (tt &&& (9223372036854775807 : Int64)))])) (fun t kt => ?_) ?_
  · show Steps p.tables e below (s₁.setTop (mkF m 0 #[.val (.long tt), .second, .val (.long us), .second, .val (.long ca), .second, .val (.long fz), .second, .val (.long pr), .second, .val (.int mo), .unset, .unset, .unset, .unset, .unset, .unset, .unset, .unset, .unset, .unset, .unset, .unset, .unset, .unset, .unset, .unset, .unset, .unset, .unset, .unset, .unset, .unset, .unset] [])) _
    refine XS.lloadN X0.here hx rfl (hb hby at_0) rfl ?_
    show Steps p.tables e below (s₁.setTop (mkF m 1 #[.val (.long tt), .second, .val (.long us), .second, .val (.long ca), .second, .val (.long fz), .second, .val (.long pr), .second, .val (.int mo), .unset, .unset, .unset, .unset, .unset, .unset, .unset, .unset, .unset, .unset, .unset, .unset, .unset, .unset, .unset, .unset, .unset, .unset, .unset, .unset, .unset, .unset, .unset] [(.long tt)])) _
    refine X0.ldc2Long hx hown (mvT hZ (hw _ (List.mem_of_getElem? (i := 0) rfl))) (g := (mkF m 1 #[.val (.long tt), .second, .val (.long us), .second, .val (.long ca), .second, .val (.long fz), .second, .val (.long pr), .second, .val (.int mo), .unset, .unset, .unset, .unset, .unset, .unset, .unset, .unset, .unset, .unset, .unset, .unset, .unset, .unset, .unset, .unset, .unset, .unset, .unset, .unset, .unset, .unset, .unset] [(.long tt)])) rfl (hb hby at_1) _ ?_
    show Steps p.tables e below (s₁.setTop (mkF m 4 #[.val (.long tt), .second, .val (.long us), .second, .val (.long ca), .second, .val (.long fz), .second, .val (.long pr), .second, .val (.int mo), .unset, .unset, .unset, .unset, .unset, .unset, .unset, .unset, .unset, .unset, .unset, .unset, .unset, .unset, .unset, .unset, .unset, .unset, .unset, .unset, .unset, .unset, .unset] [(.long (9223372036854775807 : Int64)), (.long tt)])) _
    refine XS.land X0.here hx rfl (hb hby at_4) rfl ?_
    exact kt
  obtain ⟨u1, hu1⟩ : ∃ q : Int64, q = (tt &&& (9223372036854775807 : Int64)) := ⟨_, rfl⟩
  rw [← hu1]
  refine Gl.up (B := s₁.setTop (mkF m 12 #[.val (.long tt), .second, .val (.long us), .second, .val (.long ca), .second, .val (.long fz), .second, .val (.long pr), .second, .val (.int mo), .val (.long u1), .second, .unset, .unset, .unset, .unset, .unset, .unset, .unset, .unset, .unset, .unset, .unset, .unset, .unset, .unset, .unset, .unset, .unset, .unset, .unset, .unset, .unset] [(.long (us &&& (9223372036854775807 : Int64)))])) (fun t kt => ?_) ?_
  · show Steps p.tables e below (s₁.setTop (mkF m 5 #[.val (.long tt), .second, .val (.long us), .second, .val (.long ca), .second, .val (.long fz), .second, .val (.long pr), .second, .val (.int mo), .unset, .unset, .unset, .unset, .unset, .unset, .unset, .unset, .unset, .unset, .unset, .unset, .unset, .unset, .unset, .unset, .unset, .unset, .unset, .unset, .unset, .unset, .unset] [(.long u1)])) _
    refine XS.lstore X0.here hx rfl (hb hby at_5) rfl (l' := #[.val (.long tt), .second, .val (.long us), .second, .val (.long ca), .second, .val (.long fz), .second, .val (.long pr), .second, .val (.int mo), .val (.long u1), .second, .unset, .unset, .unset, .unset, .unset, .unset, .unset, .unset, .unset, .unset, .unset, .unset, .unset, .unset, .unset, .unset, .unset, .unset, .unset, .unset, .unset]) rfl ?_
    show Steps p.tables e below (s₁.setTop (mkF m 7 #[.val (.long tt), .second, .val (.long us), .second, .val (.long ca), .second, .val (.long fz), .second, .val (.long pr), .second, .val (.int mo), .val (.long u1), .second, .unset, .unset, .unset, .unset, .unset, .unset, .unset, .unset, .unset, .unset, .unset, .unset, .unset, .unset, .unset, .unset, .unset, .unset, .unset, .unset, .unset] [])) _
    refine XS.lloadN X0.here hx rfl (hb hby at_7) rfl ?_
    show Steps p.tables e below (s₁.setTop (mkF m 8 #[.val (.long tt), .second, .val (.long us), .second, .val (.long ca), .second, .val (.long fz), .second, .val (.long pr), .second, .val (.int mo), .val (.long u1), .second, .unset, .unset, .unset, .unset, .unset, .unset, .unset, .unset, .unset, .unset, .unset, .unset, .unset, .unset, .unset, .unset, .unset, .unset, .unset, .unset, .unset] [(.long us)])) _
    refine X0.ldc2Long hx hown (mvT hZ (hw _ (List.mem_of_getElem? (i := 0) rfl))) (g := (mkF m 8 #[.val (.long tt), .second, .val (.long us), .second, .val (.long ca), .second, .val (.long fz), .second, .val (.long pr), .second, .val (.int mo), .val (.long u1), .second, .unset, .unset, .unset, .unset, .unset, .unset, .unset, .unset, .unset, .unset, .unset, .unset, .unset, .unset, .unset, .unset, .unset, .unset, .unset, .unset, .unset] [(.long us)])) rfl (hb hby at_8) _ ?_
    show Steps p.tables e below (s₁.setTop (mkF m 11 #[.val (.long tt), .second, .val (.long us), .second, .val (.long ca), .second, .val (.long fz), .second, .val (.long pr), .second, .val (.int mo), .val (.long u1), .second, .unset, .unset, .unset, .unset, .unset, .unset, .unset, .unset, .unset, .unset, .unset, .unset, .unset, .unset, .unset, .unset, .unset, .unset, .unset, .unset, .unset] [(.long (9223372036854775807 : Int64)), (.long us)])) _
    refine XS.land X0.here hx rfl (hb hby at_11) rfl ?_
    exact kt
  obtain ⟨u2, hu2⟩ : ∃ q : Int64, q = (us &&& (9223372036854775807 : Int64)) := ⟨_, rfl⟩
  rw [← hu2]
  refine Gl.up (B := s₁.setTop (mkF m 22 #[.val (.long tt), .second, .val (.long us), .second, .val (.long ca), .second, .val (.long fz), .second, .val (.long pr), .second, .val (.int mo), .val (.long u1), .second, .val (.long u2), .second, .unset, .unset, .unset, .unset, .unset, .unset, .unset, .unset, .unset, .unset, .unset, .unset, .unset, .unset, .unset, .unset, .unset, .unset, .unset] [(.long u2), (.long (ca &&& (9223372036854775807 : Int64)))])) (fun t kt => ?_) ?_
  · show Steps p.tables e below (s₁.setTop (mkF m 12 #[.val (.long tt), .second, .val (.long us), .second, .val (.long ca), .second, .val (.long fz), .second, .val (.long pr), .second, .val (.int mo), .val (.long u1), .second, .unset, .unset, .unset, .unset, .unset, .unset, .unset, .unset, .unset, .unset, .unset, .unset, .unset, .unset, .unset, .unset, .unset, .unset, .unset, .unset, .unset] [(.long u2)])) _
    refine XS.lstore X0.here hx rfl (hb hby at_12) rfl (l' := #[.val (.long tt), .second, .val (.long us), .second, .val (.long ca), .second, .val (.long fz), .second, .val (.long pr), .second, .val (.int mo), .val (.long u1), .second, .val (.long u2), .second, .unset, .unset, .unset, .unset, .unset, .unset, .unset, .unset, .unset, .unset, .unset, .unset, .unset, .unset, .unset, .unset, .unset, .unset, .unset]) rfl ?_
    show Steps p.tables e below (s₁.setTop (mkF m 14 #[.val (.long tt), .second, .val (.long us), .second, .val (.long ca), .second, .val (.long fz), .second, .val (.long pr), .second, .val (.int mo), .val (.long u1), .second, .val (.long u2), .second, .unset, .unset, .unset, .unset, .unset, .unset, .unset, .unset, .unset, .unset, .unset, .unset, .unset, .unset, .unset, .unset, .unset, .unset, .unset] [])) _
    refine XS.lload X0.here hx rfl (hb hby at_14) rfl ?_
    show Steps p.tables e below (s₁.setTop (mkF m 16 #[.val (.long tt), .second, .val (.long us), .second, .val (.long ca), .second, .val (.long fz), .second, .val (.long pr), .second, .val (.int mo), .val (.long u1), .second, .val (.long u2), .second, .unset, .unset, .unset, .unset, .unset, .unset, .unset, .unset, .unset, .unset, .unset, .unset, .unset, .unset, .unset, .unset, .unset, .unset, .unset] [(.long ca)])) _
    refine X0.ldc2Long hx hown (mvT hZ (hw _ (List.mem_of_getElem? (i := 0) rfl))) (g := (mkF m 16 #[.val (.long tt), .second, .val (.long us), .second, .val (.long ca), .second, .val (.long fz), .second, .val (.long pr), .second, .val (.int mo), .val (.long u1), .second, .val (.long u2), .second, .unset, .unset, .unset, .unset, .unset, .unset, .unset, .unset, .unset, .unset, .unset, .unset, .unset, .unset, .unset, .unset, .unset, .unset, .unset] [(.long ca)])) rfl (hb hby at_16) _ ?_
    show Steps p.tables e below (s₁.setTop (mkF m 19 #[.val (.long tt), .second, .val (.long us), .second, .val (.long ca), .second, .val (.long fz), .second, .val (.long pr), .second, .val (.int mo), .val (.long u1), .second, .val (.long u2), .second, .unset, .unset, .unset, .unset, .unset, .unset, .unset, .unset, .unset, .unset, .unset, .unset, .unset, .unset, .unset, .unset, .unset, .unset, .unset] [(.long (9223372036854775807 : Int64)), (.long ca)])) _
    refine XS.land X0.here hx rfl (hb hby at_19) rfl ?_
    show Steps p.tables e below (s₁.setTop (mkF m 20 #[.val (.long tt), .second, .val (.long us), .second, .val (.long ca), .second, .val (.long fz), .second, .val (.long pr), .second, .val (.int mo), .val (.long u1), .second, .val (.long u2), .second, .unset, .unset, .unset, .unset, .unset, .unset, .unset, .unset, .unset, .unset, .unset, .unset, .unset, .unset, .unset, .unset, .unset, .unset, .unset] [(.long (ca &&& (9223372036854775807 : Int64)))])) _
    refine XS.lload X0.here hx rfl (hb hby at_20) rfl ?_
    exact kt
  obtain ⟨_, _, ⟨T3, L3, k3, n3⟩, -, X3, ⟨Lc3, hQ3, l3, y3, z3⟩, st3⟩ := Jvm.LawKit.callS X0 hx (y := (⟨"java/lang/Math", "min", "(JJ)J"⟩ : MethodName)) hown (mvT hZ (hw _ (List.mem_of_getElem? (i := 1) rfl))) (mvT hZ (hw _ (List.mem_of_getElem? (i := 2) rfl))) (mvT hZ (hw _ (List.mem_of_getElem? (i := 3) rfl))) (mvT hZ (hw _ (List.mem_of_getElem? (i := 4) rfl))) (by decide) (backOf (W := 0) (rm7 l Z aa hw [] (ca &&& (9223372036854775807 : Int64)) u2 h0 n0 O0) hZ (hw _ (List.mem_of_getElem? (i := 4) rfl)) (hw _ (List.mem_of_getElem? (i := 3) rfl)) (by decide) (by decide)) (g := (mkF m 22 #[.val (.long tt), .second, .val (.long us), .second, .val (.long ca), .second, .val (.long fz), .second, .val (.long pr), .second, .val (.int mo), .val (.long u1), .second, .val (.long u2), .second, .unset, .unset, .unset, .unset, .unset, .unset, .unset, .unset, .unset, .unset, .unset, .unset, .unset, .unset, .unset, .unset, .unset, .unset, .unset] [(.long u2), (.long (ca &&& (9223372036854775807 : Int64)))])) rfl (by rw [hml]; rfl) (argsL := [(.long (ca &&& (9223372036854775807 : Int64))), (.long u2)]) (rest := []) (lenOf pd_oJJcJ rfl) rfl (by show 2 * 0 + _ ≤ _; exact Nat.le_of_eq rfl) (hb hby at_22) (fun _ _ => ⟨rfl, e0, (by decide : 0 + 0 ≤ _), (by decide : 0 + 0 ≤ _)⟩)
  dsimp only [Pt.U, Pt.locs, Pt.cells, Pt.slots] at X3 l3 y3 z3 st3 hQ3
  subst l3 y3 z3
  obtain ⟨rfl, rfl, e3⟩ := hQ3
  try rw [List.append_nil] at X3
  refine Gl.up (B := T3.setTop (mkF m 25 #[.val (.long tt), .second, .val (.long us), .second, .val (.long ca), .second, .val (.long fz), .second, .val (.long pr), .second, .val (.int mo), .val (.long u1), .second, .val (.long u2), .second, .unset, .unset, .unset, .unset, .unset, .unset, .unset, .unset, .unset, .unset, .unset, .unset, .unset, .unset, .unset, .unset, .unset, .unset, .unset] [(.long (f7 (ca &&& (9223372036854775807 : Int64)) u2))])) (fun t kt => st3 _ kt) ?_
  obtain ⟨u4, hu4⟩ : ∃ q : Int64, q = (f7 (ca &&& (9223372036854775807 : Int64)) u2) := ⟨_, rfl⟩
  rw [← hu4]
  refine Gl.up (B := T3.setTop (mkF m 38 #[.val (.long tt), .second, .val (.long us), .second, .val (.long ca), .second, .val (.long fz), .second, .val (.long pr), .second, .val (.int mo), .val (.long u1), .second, .val (.long u2), .second, .val (.long u4), .second, .unset, .unset, .unset, .unset, .unset, .unset, .unset, .unset, .unset, .unset, .unset, .unset, .unset, .unset, .unset, .unset, .unset] [(.long (u2 - u4)), (.long (pr &&& (9223372036854775807 : Int64)))])) (fun t kt => ?_) ?_
  · show Steps p.tables e below (T3.setTop (mkF m 25 #[.val (.long tt), .second, .val (.long us), .second, .val (.long ca), .second, .val (.long fz), .second, .val (.long pr), .second, .val (.int mo), .val (.long u1), .second, .val (.long u2), .second, .unset, .unset, .unset, .unset, .unset, .unset, .unset, .unset, .unset, .unset, .unset, .unset, .unset, .unset, .unset, .unset, .unset, .unset, .unset] [(.long u4)])) _
    refine XS.lstore X3.here hx rfl (hb hby at_25) rfl (l' := #[.val (.long tt), .second, .val (.long us), .second, .val (.long ca), .second, .val (.long fz), .second, .val (.long pr), .second, .val (.int mo), .val (.long u1), .second, .val (.long u2), .second, .val (.long u4), .second, .unset, .unset, .unset, .unset, .unset, .unset, .unset, .unset, .unset, .unset, .unset, .unset, .unset, .unset, .unset, .unset, .unset]) rfl ?_
    show Steps p.tables e below (T3.setTop (mkF m 27 #[.val (.long tt), .second, .val (.long us), .second, .val (.long ca), .second, .val (.long fz), .second, .val (.long pr), .second, .val (.int mo), .val (.long u1), .second, .val (.long u2), .second, .val (.long u4), .second, .unset, .unset, .unset, .unset, .unset, .unset, .unset, .unset, .unset, .unset, .unset, .unset, .unset, .unset, .unset, .unset, .unset] [])) _
    refine XS.lload X3.here hx rfl (hb hby at_27) rfl ?_
    show Steps p.tables e below (T3.setTop (mkF m 29 #[.val (.long tt), .second, .val (.long us), .second, .val (.long ca), .second, .val (.long fz), .second, .val (.long pr), .second, .val (.int mo), .val (.long u1), .second, .val (.long u2), .second, .val (.long u4), .second, .unset, .unset, .unset, .unset, .unset, .unset, .unset, .unset, .unset, .unset, .unset, .unset, .unset, .unset, .unset, .unset, .unset] [(.long pr)])) _
    refine X3.ldc2Long hx hown (mvT hZ (hw _ (List.mem_of_getElem? (i := 0) rfl))) (g := (mkF m 29 #[.val (.long tt), .second, .val (.long us), .second, .val (.long ca), .second, .val (.long fz), .second, .val (.long pr), .second, .val (.int mo), .val (.long u1), .second, .val (.long u2), .second, .val (.long u4), .second, .unset, .unset, .unset, .unset, .unset, .unset, .unset, .unset, .unset, .unset, .unset, .unset, .unset, .unset, .unset, .unset, .unset] [(.long pr)])) rfl (hb hby at_29) _ ?_
    show Steps p.tables e below (T3.setTop (mkF m 32 #[.val (.long tt), .second, .val (.long us), .second, .val (.long ca), .second, .val (.long fz), .second, .val (.long pr), .second, .val (.int mo), .val (.long u1), .second, .val (.long u2), .second, .val (.long u4), .second, .unset, .unset, .unset, .unset, .unset, .unset, .unset, .unset, .unset, .unset, .unset, .unset, .unset, .unset, .unset, .unset, .unset] [(.long (9223372036854775807 : Int64)), (.long pr)])) _
    refine XS.land X3.here hx rfl (hb hby at_32) rfl ?_
    show Steps p.tables e below (T3.setTop (mkF m 33 #[.val (.long tt), .second, .val (.long us), .second, .val (.long ca), .second, .val (.long fz), .second, .val (.long pr), .second, .val (.int mo), .val (.long u1), .second, .val (.long u2), .second, .val (.long u4), .second, .unset, .unset, .unset, .unset, .unset, .unset, .unset, .unset, .unset, .unset, .unset, .unset, .unset, .unset, .unset, .unset, .unset] [(.long (pr &&& (9223372036854775807 : Int64)))])) _
    refine XS.lload X3.here hx rfl (hb hby at_33) rfl ?_
    show Steps p.tables e below (T3.setTop (mkF m 35 #[.val (.long tt), .second, .val (.long us), .second, .val (.long ca), .second, .val (.long fz), .second, .val (.long pr), .second, .val (.int mo), .val (.long u1), .second, .val (.long u2), .second, .val (.long u4), .second, .unset, .unset, .unset, .unset, .unset, .unset, .unset, .unset, .unset, .unset, .unset, .unset, .unset, .unset, .unset, .unset, .unset] [(.long u2), (.long (pr &&& (9223372036854775807 : Int64)))])) _
    refine XS.lload X3.here hx rfl (hb hby at_35) rfl ?_
    show Steps p.tables e below (T3.setTop (mkF m 37 #[.val (.long tt), .second, .val (.long us), .second, .val (.long ca), .second, .val (.long fz), .second, .val (.long pr), .second, .val (.int mo), .val (.long u1), .second, .val (.long u2), .second, .val (.long u4), .second, .unset, .unset, .unset, .unset, .unset, .unset, .unset, .unset, .unset, .unset, .unset, .unset, .unset, .unset, .unset, .unset, .unset] [(.long u4), (.long u2), (.long (pr &&& (9223372036854775807 : Int64)))])) _
    refine XS.lsub X3.here hx rfl (hb hby at_37) rfl ?_
    exact kt
  obtain ⟨_, _, ⟨T5, L5, k5, n5⟩, -, X5, ⟨Lc5, hQ5, l5, y5, z5⟩, st5⟩ := Jvm.LawKit.callS X3 hx (y := (⟨"java/lang/Math", "min", "(JJ)J"⟩ : MethodName)) hown (mvT hZ (hw _ (List.mem_of_getElem? (i := 1) rfl))) (mvT hZ (hw _ (List.mem_of_getElem? (i := 2) rfl))) (mvT hZ (hw _ (List.mem_of_getElem? (i := 3) rfl))) (mvT hZ (hw _ (List.mem_of_getElem? (i := 4) rfl))) (by decide) (backOf (W := 0) (rm7 l Z aa hw [] (pr &&& (9223372036854775807 : Int64)) (u2 - u4) h0 n0 O0) hZ (hw _ (List.mem_of_getElem? (i := 4) rfl)) (hw _ (List.mem_of_getElem? (i := 3) rfl)) (by decide) (by decide)) (g := (mkF m 38 #[.val (.long tt), .second, .val (.long us), .second, .val (.long ca), .second, .val (.long fz), .second, .val (.long pr), .second, .val (.int mo), .val (.long u1), .second, .val (.long u2), .second, .val (.long u4), .second, .unset, .unset, .unset, .unset, .unset, .unset, .unset, .unset, .unset, .unset, .unset, .unset, .unset, .unset, .unset, .unset, .unset] [(.long (u2 - u4)), (.long (pr &&& (9223372036854775807 : Int64)))])) rfl (by rw [hml]; rfl) (argsL := [(.long (pr &&& (9223372036854775807 : Int64))), (.long (u2 - u4))]) (rest := []) (lenOf pd_oJJcJ rfl) rfl (by show 2 * 0 + _ ≤ _; exact Nat.le_of_eq rfl) (hb hby at_38) (fun _ _ => ⟨rfl, e3, (by decide : 0 + 0 ≤ _), (by decide : 0 + 0 ≤ _)⟩)
  dsimp only [Pt.U, Pt.locs, Pt.cells, Pt.slots] at X5 l5 y5 z5 st5 hQ5
  subst l5 y5 z5
  obtain ⟨rfl, rfl, e5⟩ := hQ5
  try rw [List.append_nil] at X5
  refine Gl.up (B := T5.setTop (mkF m 41 #[.val (.long tt), .second, .val (.long us), .second, .val (.long ca), .second, .val (.long fz), .second, .val (.long pr), .second, .val (.int mo), .val (.long u1), .second, .val (.long u2), .second, .val (.long u4), .second, .unset, .unset, .unset, .unset, .unset, .unset, .unset, .unset, .unset, .unset, .unset, .unset, .unset, .unset, .unset, .unset, .unset] [(.long (f7 (pr &&& (9223372036854775807 : Int64)) (u2 - u4)))])) (fun t kt => st5 _ kt) ?_
  obtain ⟨u6, hu6⟩ : ∃ q : Int64, q = (f7 (pr &&& (9223372036854775807 : Int64)) (u2 - u4)) := ⟨_, rfl⟩
  rw [← hu6]
  refine Gl.up (B := T5.setTop (mkF m 51 #[.val (.long tt), .second, .val (.long us), .second, .val (.long ca), .second, .val (.long fz), .second, .val (.long pr), .second, .val (.int mo), .val (.long u1), .second, .val (.long u2), .second, .val (.long u4), .second, .val (.long u6), .second, .unset, .unset, .unset, .unset, .unset, .unset, .unset, .unset, .unset, .unset, .unset, .unset, .unset, .unset, .unset] [(.long (((pr.toUInt64 >>> ((1 : Int32) &&& 0x3f).toInt64.toUInt64).toInt64) &&& (9223372036854775807 : Int64)))])) (fun t kt => ?_) ?_
  · show Steps p.tables e below (T5.setTop (mkF m 41 #[.val (.long tt), .second, .val (.long us), .second, .val (.long ca), .second, .val (.long fz), .second, .val (.long pr), .second, .val (.int mo), .val (.long u1), .second, .val (.long u2), .second, .val (.long u4), .second, .unset, .unset, .unset, .unset, .unset, .unset, .unset, .unset, .unset, .unset, .unset, .unset, .unset, .unset, .unset, .unset, .unset] [(.long u6)])) _
    refine XS.lstore X5.here hx rfl (hb hby at_41) rfl (l' := #[.val (.long tt), .second, .val (.long us), .second, .val (.long ca), .second, .val (.long fz), .second, .val (.long pr), .second, .val (.int mo), .val (.long u1), .second, .val (.long u2), .second, .val (.long u4), .second, .val (.long u6), .second, .unset, .unset, .unset, .unset, .unset, .unset, .unset, .unset, .unset, .unset, .unset, .unset, .unset, .unset, .unset]) rfl ?_
    show Steps p.tables e below (T5.setTop (mkF m 43 #[.val (.long tt), .second, .val (.long us), .second, .val (.long ca), .second, .val (.long fz), .second, .val (.long pr), .second, .val (.int mo), .val (.long u1), .second, .val (.long u2), .second, .val (.long u4), .second, .val (.long u6), .second, .unset, .unset, .unset, .unset, .unset, .unset, .unset, .unset, .unset, .unset, .unset, .unset, .unset, .unset, .unset] [])) _
    refine XS.lload X5.here hx rfl (hb hby at_43) rfl ?_
    show Steps p.tables e below (T5.setTop (mkF m 45 #[.val (.long tt), .second, .val (.long us), .second, .val (.long ca), .second, .val (.long fz), .second, .val (.long pr), .second, .val (.int mo), .val (.long u1), .second, .val (.long u2), .second, .val (.long u4), .second, .val (.long u6), .second, .unset, .unset, .unset, .unset, .unset, .unset, .unset, .unset, .unset, .unset, .unset, .unset, .unset, .unset, .unset] [(.long pr)])) _
    refine XS.iconst X5.here hx rfl (hb hby at_45) ?_
    show Steps p.tables e below (T5.setTop (mkF m 46 #[.val (.long tt), .second, .val (.long us), .second, .val (.long ca), .second, .val (.long fz), .second, .val (.long pr), .second, .val (.int mo), .val (.long u1), .second, .val (.long u2), .second, .val (.long u4), .second, .val (.long u6), .second, .unset, .unset, .unset, .unset, .unset, .unset, .unset, .unset, .unset, .unset, .unset, .unset, .unset, .unset, .unset] [(.int (1 : Int32)), (.long pr)])) _
    refine XS.lushr X5.here hx rfl (hb hby at_46) rfl ?_
    show Steps p.tables e below (T5.setTop (mkF m 47 #[.val (.long tt), .second, .val (.long us), .second, .val (.long ca), .second, .val (.long fz), .second, .val (.long pr), .second, .val (.int mo), .val (.long u1), .second, .val (.long u2), .second, .val (.long u4), .second, .val (.long u6), .second, .unset, .unset, .unset, .unset, .unset, .unset, .unset, .unset, .unset, .unset, .unset, .unset, .unset, .unset, .unset] [(.long ((pr.toUInt64 >>> ((1 : Int32) &&& 0x3f).toInt64.toUInt64).toInt64))])) _
    refine X5.ldc2Long hx hown (mvT hZ (hw _ (List.mem_of_getElem? (i := 0) rfl))) (g := (mkF m 47 #[.val (.long tt), .second, .val (.long us), .second, .val (.long ca), .second, .val (.long fz), .second, .val (.long pr), .second, .val (.int mo), .val (.long u1), .second, .val (.long u2), .second, .val (.long u4), .second, .val (.long u6), .second, .unset, .unset, .unset, .unset, .unset, .unset, .unset, .unset, .unset, .unset, .unset, .unset, .unset, .unset, .unset] [(.long ((pr.toUInt64 >>> ((1 : Int32) &&& 0x3f).toInt64.toUInt64).toInt64))])) rfl (hb hby at_47) _ ?_
    show Steps p.tables e below (T5.setTop (mkF m 50 #[.val (.long tt), .second, .val (.long us), .second, .val (.long ca), .second, .val (.long fz), .second, .val (.long pr), .second, .val (.int mo), .val (.long u1), .second, .val (.long u2), .second, .val (.long u4), .second, .val (.long u6), .second, .unset, .unset, .unset, .unset, .unset, .unset, .unset, .unset, .unset, .unset, .unset, .unset, .unset, .unset, .unset] [(.long (9223372036854775807 : Int64)), (.long ((pr.toUInt64 >>> ((1 : Int32) &&& 0x3f).toInt64.toUInt64).toInt64))])) _
    refine XS.land X5.here hx rfl (hb hby at_50) rfl ?_
    exact kt
  obtain ⟨u7, hu7⟩ : ∃ q : Int64, q = (((pr.toUInt64 >>> ((1 : Int32) &&& 0x3f).toInt64.toUInt64).toInt64) &&& (9223372036854775807 : Int64)) := ⟨_, rfl⟩
  rw [← hu7]
  refine Gl.up (B := T5.setTop (mkF m 60 #[.val (.long tt), .second, .val (.long us), .second, .val (.long ca), .second, .val (.long fz), .second, .val (.long pr), .second, .val (.int mo), .val (.long u1), .second, .val (.long u2), .second, .val (.long u4), .second, .val (.long u6), .second, .val (.long u7), .second, .unset, .unset, .unset, .unset, .unset, .unset, .unset, .unset, .unset, .unset, .unset, .unset, .unset] [(.double (FP.i2d (((mo.toUInt32 >>> ((2 : Int32) &&& 31).toUInt32).toInt32) &&& (3 : Int32))))])) (fun t kt => ?_) ?_
  · show Steps p.tables e below (T5.setTop (mkF m 51 #[.val (.long tt), .second, .val (.long us), .second, .val (.long ca), .second, .val (.long fz), .second, .val (.long pr), .second, .val (.int mo), .val (.long u1), .second, .val (.long u2), .second, .val (.long u4), .second, .val (.long u6), .second, .unset, .unset, .unset, .unset, .unset, .unset, .unset, .unset, .unset, .unset, .unset, .unset, .unset, .unset, .unset] [(.long u7)])) _
    refine XS.lstore X5.here hx rfl (hb hby at_51) rfl (l' := #[.val (.long tt), .second, .val (.long us), .second, .val (.long ca), .second, .val (.long fz), .second, .val (.long pr), .second, .val (.int mo), .val (.long u1), .second, .val (.long u2), .second, .val (.long u4), .second, .val (.long u6), .second, .val (.long u7), .second, .unset, .unset, .unset, .unset, .unset, .unset, .unset, .unset, .unset, .unset, .unset, .unset, .unset]) rfl ?_
    show Steps p.tables e below (T5.setTop (mkF m 53 #[.val (.long tt), .second, .val (.long us), .second, .val (.long ca), .second, .val (.long fz), .second, .val (.long pr), .second, .val (.int mo), .val (.long u1), .second, .val (.long u2), .second, .val (.long u4), .second, .val (.long u6), .second, .val (.long u7), .second, .unset, .unset, .unset, .unset, .unset, .unset, .unset, .unset, .unset, .unset, .unset, .unset, .unset] [])) _
    refine XS.iload X5.here hx rfl (hb hby at_53) rfl ?_
    show Steps p.tables e below (T5.setTop (mkF m 55 #[.val (.long tt), .second, .val (.long us), .second, .val (.long ca), .second, .val (.long fz), .second, .val (.long pr), .second, .val (.int mo), .val (.long u1), .second, .val (.long u2), .second, .val (.long u4), .second, .val (.long u6), .second, .val (.long u7), .second, .unset, .unset, .unset, .unset, .unset, .unset, .unset, .unset, .unset, .unset, .unset, .unset, .unset] [(.int mo)])) _
    refine XS.iconst X5.here hx rfl (hb hby at_55) ?_
    show Steps p.tables e below (T5.setTop (mkF m 56 #[.val (.long tt), .second, .val (.long us), .second, .val (.long ca), .second, .val (.long fz), .second, .val (.long pr), .second, .val (.int mo), .val (.long u1), .second, .val (.long u2), .second, .val (.long u4), .second, .val (.long u6), .second, .val (.long u7), .second, .unset, .unset, .unset, .unset, .unset, .unset, .unset, .unset, .unset, .unset, .unset, .unset, .unset] [(.int (2 : Int32)), (.int mo)])) _
    refine XS.iushr X5.here hx rfl (hb hby at_56) rfl ?_
    show Steps p.tables e below (T5.setTop (mkF m 57 #[.val (.long tt), .second, .val (.long us), .second, .val (.long ca), .second, .val (.long fz), .second, .val (.long pr), .second, .val (.int mo), .val (.long u1), .second, .val (.long u2), .second, .val (.long u4), .second, .val (.long u6), .second, .val (.long u7), .second, .unset, .unset, .unset, .unset, .unset, .unset, .unset, .unset, .unset, .unset, .unset, .unset, .unset] [(.int ((mo.toUInt32 >>> ((2 : Int32) &&& 31).toUInt32).toInt32))])) _
    refine XS.iconst X5.here hx rfl (hb hby at_57) ?_
    show Steps p.tables e below (T5.setTop (mkF m 58 #[.val (.long tt), .second, .val (.long us), .second, .val (.long ca), .second, .val (.long fz), .second, .val (.long pr), .second, .val (.int mo), .val (.long u1), .second, .val (.long u2), .second, .val (.long u4), .second, .val (.long u6), .second, .val (.long u7), .second, .unset, .unset, .unset, .unset, .unset, .unset, .unset, .unset, .unset, .unset, .unset, .unset, .unset] [(.int (3 : Int32)), (.int ((mo.toUInt32 >>> ((2 : Int32) &&& 31).toUInt32).toInt32))])) _
    refine XS.iand X5.here hx rfl (hb hby at_58) rfl ?_
    show Steps p.tables e below (T5.setTop (mkF m 59 #[.val (.long tt), .second, .val (.long us), .second, .val (.long ca), .second, .val (.long fz), .second, .val (.long pr), .second, .val (.int mo), .val (.long u1), .second, .val (.long u2), .second, .val (.long u4), .second, .val (.long u6), .second, .val (.long u7), .second, .unset, .unset, .unset, .unset, .unset, .unset, .unset, .unset, .unset, .unset, .unset, .unset, .unset] [(.int (((mo.toUInt32 >>> ((2 : Int32) &&& 31).toUInt32).toInt32) &&& (3 : Int32)))])) _
    refine XS.i2dS X5.here hx rfl (hb hby at_59) rfl rfl ?_
    exact kt
  obtain ⟨u8, hu8⟩ : ∃ q : UInt64, q = (FP.i2d (((mo.toUInt32 >>> ((2 : Int32) &&& 31).toUInt32).toInt32) &&& (3 : Int32))) := ⟨_, rfl⟩
  rw [← hu8]
  refine Gl.up (B := T5.setTop (mkF m 67 #[.val (.long tt), .second, .val (.long us), .second, .val (.long ca), .second, .val (.long fz), .second, .val (.long pr), .second, .val (.int mo), .val (.long u1), .second, .val (.long u2), .second, .val (.long u4), .second, .val (.long u6), .second, .val (.long u7), .second, .val (.double u8), .second, .unset, .unset, .unset, .unset, .unset, .unset, .unset, .unset, .unset, .unset, .unset] [(.long (((mo.toUInt32 >>> ((4 : Int32) &&& 31).toUInt32).toInt32).toInt64))])) (fun t kt => ?_) ?_
  · show Steps p.tables e below (T5.setTop (mkF m 60 #[.val (.long tt), .second, .val (.long us), .second, .val (.long ca), .second, .val (.long fz), .second, .val (.long pr), .second, .val (.int mo), .val (.long u1), .second, .val (.long u2), .second, .val (.long u4), .second, .val (.long u6), .second, .val (.long u7), .second, .unset, .unset, .unset, .unset, .unset, .unset, .unset, .unset, .unset, .unset, .unset, .unset, .unset] [(.double u8)])) _
    refine XS.dstore X5.here hx rfl (hb hby at_60) rfl (l' := #[.val (.long tt), .second, .val (.long us), .second, .val (.long ca), .second, .val (.long fz), .second, .val (.long pr), .second, .val (.int mo), .val (.long u1), .second, .val (.long u2), .second, .val (.long u4), .second, .val (.long u6), .second, .val (.long u7), .second, .val (.double u8), .second, .unset, .unset, .unset, .unset, .unset, .unset, .unset, .unset, .unset, .unset, .unset]) rfl ?_
    show Steps p.tables e below (T5.setTop (mkF m 62 #[.val (.long tt), .second, .val (.long us), .second, .val (.long ca), .second, .val (.long fz), .second, .val (.long pr), .second, .val (.int mo), .val (.long u1), .second, .val (.long u2), .second, .val (.long u4), .second, .val (.long u6), .second, .val (.long u7), .second, .val (.double u8), .second, .unset, .unset, .unset, .unset, .unset, .unset, .unset, .unset, .unset, .unset, .unset] [])) _
    refine XS.iload X5.here hx rfl (hb hby at_62) rfl ?_
    show Steps p.tables e below (T5.setTop (mkF m 64 #[.val (.long tt), .second, .val (.long us), .second, .val (.long ca), .second, .val (.long fz), .second, .val (.long pr), .second, .val (.int mo), .val (.long u1), .second, .val (.long u2), .second, .val (.long u4), .second, .val (.long u6), .second, .val (.long u7), .second, .val (.double u8), .second, .unset, .unset, .unset, .unset, .unset, .unset, .unset, .unset, .unset, .unset, .unset] [(.int mo)])) _
    refine XS.iconst X5.here hx rfl (hb hby at_64) ?_
    show Steps p.tables e below (T5.setTop (mkF m 65 #[.val (.long tt), .second, .val (.long us), .second, .val (.long ca), .second, .val (.long fz), .second, .val (.long pr), .second, .val (.int mo), .val (.long u1), .second, .val (.long u2), .second, .val (.long u4), .second, .val (.long u6), .second, .val (.long u7), .second, .val (.double u8), .second, .unset, .unset, .unset, .unset, .unset, .unset, .unset, .unset, .unset, .unset, .unset] [(.int (4 : Int32)), (.int mo)])) _
    refine XS.iushr X5.here hx rfl (hb hby at_65) rfl ?_
    show Steps p.tables e below (T5.setTop (mkF m 66 #[.val (.long tt), .second, .val (.long us), .second, .val (.long ca), .second, .val (.long fz), .second, .val (.long pr), .second, .val (.int mo), .val (.long u1), .second, .val (.long u2), .second, .val (.long u4), .second, .val (.long u6), .second, .val (.long u7), .second, .val (.double u8), .second, .unset, .unset, .unset, .unset, .unset, .unset, .unset, .unset, .unset, .unset, .unset] [(.int ((mo.toUInt32 >>> ((4 : Int32) &&& 31).toUInt32).toInt32))])) _
    refine XS.i2l X5.here hx rfl (hb hby at_66) rfl ?_
    exact kt
  obtain ⟨u9, hu9⟩ : ∃ q : Int64, q = (((mo.toUInt32 >>> ((4 : Int32) &&& 31).toUInt32).toInt32).toInt64) := ⟨_, rfl⟩
  rw [← hu9]
  refine Gl.up (B := T5.setTop (mkF m 73 #[.val (.long tt), .second, .val (.long us), .second, .val (.long ca), .second, .val (.long fz), .second, .val (.long pr), .second, .val (.int mo), .val (.long u1), .second, .val (.long u2), .second, .val (.long u4), .second, .val (.long u6), .second, .val (.long u7), .second, .val (.double u8), .second, .val (.long u9), .second, .unset, .unset, .unset, .unset, .unset, .unset, .unset, .unset, .unset] [(.int (mo &&& (3 : Int32)))])) (fun t kt => ?_) ?_
  · show Steps p.tables e below (T5.setTop (mkF m 67 #[.val (.long tt), .second, .val (.long us), .second, .val (.long ca), .second, .val (.long fz), .second, .val (.long pr), .second, .val (.int mo), .val (.long u1), .second, .val (.long u2), .second, .val (.long u4), .second, .val (.long u6), .second, .val (.long u7), .second, .val (.double u8), .second, .unset, .unset, .unset, .unset, .unset, .unset, .unset, .unset, .unset, .unset, .unset] [(.long u9)])) _
    refine XS.lstore X5.here hx rfl (hb hby at_67) rfl (l' := #[.val (.long tt), .second, .val (.long us), .second, .val (.long ca), .second, .val (.long fz), .second, .val (.long pr), .second, .val (.int mo), .val (.long u1), .second, .val (.long u2), .second, .val (.long u4), .second, .val (.long u6), .second, .val (.long u7), .second, .val (.double u8), .second, .val (.long u9), .second, .unset, .unset, .unset, .unset, .unset, .unset, .unset, .unset, .unset]) rfl ?_
    show Steps p.tables e below (T5.setTop (mkF m 69 #[.val (.long tt), .second, .val (.long us), .second, .val (.long ca), .second, .val (.long fz), .second, .val (.long pr), .second, .val (.int mo), .val (.long u1), .second, .val (.long u2), .second, .val (.long u4), .second, .val (.long u6), .second, .val (.long u7), .second, .val (.double u8), .second, .val (.long u9), .second, .unset, .unset, .unset, .unset, .unset, .unset, .unset, .unset, .unset] [])) _
    refine XS.iload X5.here hx rfl (hb hby at_69) rfl ?_
    show Steps p.tables e below (T5.setTop (mkF m 71 #[.val (.long tt), .second, .val (.long us), .second, .val (.long ca), .second, .val (.long fz), .second, .val (.long pr), .second, .val (.int mo), .val (.long u1), .second, .val (.long u2), .second, .val (.long u4), .second, .val (.long u6), .second, .val (.long u7), .second, .val (.double u8), .second, .val (.long u9), .second, .unset, .unset, .unset, .unset, .unset, .unset, .unset, .unset, .unset] [(.int mo)])) _
    refine XS.iconst X5.here hx rfl (hb hby at_71) ?_
    show Steps p.tables e below (T5.setTop (mkF m 72 #[.val (.long tt), .second, .val (.long us), .second, .val (.long ca), .second, .val (.long fz), .second, .val (.long pr), .second, .val (.int mo), .val (.long u1), .second, .val (.long u2), .second, .val (.long u4), .second, .val (.long u6), .second, .val (.long u7), .second, .val (.double u8), .second, .val (.long u9), .second, .unset, .unset, .unset, .unset, .unset, .unset, .unset, .unset, .unset] [(.int (3 : Int32)), (.int mo)])) _
    refine XS.iand X5.here hx rfl (hb hby at_72) rfl ?_
    exact kt
  suffices J10 : ∀ (T10 : State) (v10_l25 : Int64) (v10_l27 : Int64), v10_l25 = (if (mo &&& (3 : Int32)) = (0 : Int32) then (-1 : Int64) else (fz &&& (9223372036854775807 : Int64))) → v10_l27 = (if (mo &&& (3 : Int32)) = (0 : Int32) then (50000000 : Int64) else (fz &&& (9223372036854775807 : Int64))) → Stand p l e room_1 s m args below meth c T10 [] 0 0 → T10.heap = h0 → Gl p e below (Ret s 1 8 (Q0 n0)) (T10.setTop (mkF m 101 #[.val (.long tt), .second, .val (.long us), .second, .val (.long ca), .second, .val (.long fz), .second, .val (.long pr), .second, .val (.int mo), .val (.long u1), .second, .val (.long u2), .second, .val (.long u4), .second, .val (.long u6), .second, .val (.long u7), .second, .val (.double u8), .second, .val (.long u9), .second, .val (.long v10_l25), .second, .val (.long v10_l27), .second, .unset, .unset, .unset, .unset, .unset] [])) by
    by_cases c73_11 : (mo &&& (3 : Int32)) = (0 : Int32)
    · refine Gl.up (B := T5.setTop (mkF m 101 #[.val (.long tt), .second, .val (.long us), .second, .val (.long ca), .second, .val (.long fz), .second, .val (.long pr), .second, .val (.int mo), .val (.long u1), .second, .val (.long u2), .second, .val (.long u4), .second, .val (.long u6), .second, .val (.long u7), .second, .val (.double u8), .second, .val (.long u9), .second, .val (.long (-1 : Int64)), .second, .val (.long (50000000 : Int64)), .second, .unset, .unset, .unset, .unset, .unset] [])) (fun t kt => ?_) ?_
      · show Steps p.tables e below (T5.setTop (mkF m 73 #[.val (.long tt), .second, .val (.long us), .second, .val (.long ca), .second, .val (.long fz), .second, .val (.long pr), .second, .val (.int mo), .val (.long u1), .second, .val (.long u2), .second, .val (.long u4), .second, .val (.long u6), .second, .val (.long u7), .second, .val (.double u8), .second, .val (.long u9), .second, .unset, .unset, .unset, .unset, .unset, .unset, .unset, .unset, .unset] [(.int (mo &&& (3 : Int32)))])) _
        refine XS.ifNo X5.here hx rfl (hb hby at_73) rfl ((if0 _ _).trans (teq c73_11).2) ?_
        show Steps p.tables e below (T5.setTop (mkF m 76 #[.val (.long tt), .second, .val (.long us), .second, .val (.long ca), .second, .val (.long fz), .second, .val (.long pr), .second, .val (.int mo), .val (.long u1), .second, .val (.long u2), .second, .val (.long u4), .second, .val (.long u6), .second, .val (.long u7), .second, .val (.double u8), .second, .val (.long u9), .second, .unset, .unset, .unset, .unset, .unset, .unset, .unset, .unset, .unset] [])) _
        refine X5.ldc2Long hx hown (mvT hZ (hw _ (List.mem_of_getElem? (i := 50) rfl))) (g := (mkF m 76 #[.val (.long tt), .second, .val (.long us), .second, .val (.long ca), .second, .val (.long fz), .second, .val (.long pr), .second, .val (.int mo), .val (.long u1), .second, .val (.long u2), .second, .val (.long u4), .second, .val (.long u6), .second, .val (.long u7), .second, .val (.double u8), .second, .val (.long u9), .second, .unset, .unset, .unset, .unset, .unset, .unset, .unset, .unset, .unset] [])) rfl (hb hby at_76) _ ?_
        show Steps p.tables e below (T5.setTop (mkF m 79 #[.val (.long tt), .second, .val (.long us), .second, .val (.long ca), .second, .val (.long fz), .second, .val (.long pr), .second, .val (.int mo), .val (.long u1), .second, .val (.long u2), .second, .val (.long u4), .second, .val (.long u6), .second, .val (.long u7), .second, .val (.double u8), .second, .val (.long u9), .second, .unset, .unset, .unset, .unset, .unset, .unset, .unset, .unset, .unset] [(.long (-1 : Int64))])) _
        refine XS.lstore X5.here hx rfl (hb hby at_79) rfl (l' := #[.val (.long tt), .second, .val (.long us), .second, .val (.long ca), .second, .val (.long fz), .second, .val (.long pr), .second, .val (.int mo), .val (.long u1), .second, .val (.long u2), .second, .val (.long u4), .second, .val (.long u6), .second, .val (.long u7), .second, .val (.double u8), .second, .val (.long u9), .second, .val (.long (-1 : Int64)), .second, .unset, .unset, .unset, .unset, .unset, .unset, .unset]) rfl ?_
        show Steps p.tables e below (T5.setTop (mkF m 81 #[.val (.long tt), .second, .val (.long us), .second, .val (.long ca), .second, .val (.long fz), .second, .val (.long pr), .second, .val (.int mo), .val (.long u1), .second, .val (.long u2), .second, .val (.long u4), .second, .val (.long u6), .second, .val (.long u7), .second, .val (.double u8), .second, .val (.long u9), .second, .val (.long (-1 : Int64)), .second, .unset, .unset, .unset, .unset, .unset, .unset, .unset] [])) _
        refine X5.ldc2Long hx hown (mvT hZ (hw _ (List.mem_of_getElem? (i := 51) rfl))) (g := (mkF m 81 #[.val (.long tt), .second, .val (.long us), .second, .val (.long ca), .second, .val (.long fz), .second, .val (.long pr), .second, .val (.int mo), .val (.long u1), .second, .val (.long u2), .second, .val (.long u4), .second, .val (.long u6), .second, .val (.long u7), .second, .val (.double u8), .second, .val (.long u9), .second, .val (.long (-1 : Int64)), .second, .unset, .unset, .unset, .unset, .unset, .unset, .unset] [])) rfl (hb hby at_81) _ ?_
        show Steps p.tables e below (T5.setTop (mkF m 84 #[.val (.long tt), .second, .val (.long us), .second, .val (.long ca), .second, .val (.long fz), .second, .val (.long pr), .second, .val (.int mo), .val (.long u1), .second, .val (.long u2), .second, .val (.long u4), .second, .val (.long u6), .second, .val (.long u7), .second, .val (.double u8), .second, .val (.long u9), .second, .val (.long (-1 : Int64)), .second, .unset, .unset, .unset, .unset, .unset, .unset, .unset] [(.long (50000000 : Int64))])) _
        refine XS.lstore X5.here hx rfl (hb hby at_84) rfl (l' := #[.val (.long tt), .second, .val (.long us), .second, .val (.long ca), .second, .val (.long fz), .second, .val (.long pr), .second, .val (.int mo), .val (.long u1), .second, .val (.long u2), .second, .val (.long u4), .second, .val (.long u6), .second, .val (.long u7), .second, .val (.double u8), .second, .val (.long u9), .second, .val (.long (-1 : Int64)), .second, .val (.long (50000000 : Int64)), .second, .unset, .unset, .unset, .unset, .unset]) rfl ?_
        show Steps p.tables e below (T5.setTop (mkF m 86 #[.val (.long tt), .second, .val (.long us), .second, .val (.long ca), .second, .val (.long fz), .second, .val (.long pr), .second, .val (.int mo), .val (.long u1), .second, .val (.long u2), .second, .val (.long u4), .second, .val (.long u6), .second, .val (.long u7), .second, .val (.double u8), .second, .val (.long u9), .second, .val (.long (-1 : Int64)), .second, .val (.long (50000000 : Int64)), .second, .unset, .unset, .unset, .unset, .unset] [])) _
        refine XS.goto X5.here hx rfl (pc0 := 86) (pc' := 101) rfl (hb hby at_86) (by decide) (by decide) ?_
        exact kt
      exact J10 _ (-1 : Int64) (50000000 : Int64) (if_pos c73_11).symm (if_pos c73_11).symm X5 e5
    · refine Gl.up (B := T5.setTop (mkF m 101 #[.val (.long tt), .second, .val (.long us), .second, .val (.long ca), .second, .val (.long fz), .second, .val (.long pr), .second, .val (.int mo), .val (.long u1), .second, .val (.long u2), .second, .val (.long u4), .second, .val (.long u6), .second, .val (.long u7), .second, .val (.double u8), .second, .val (.long u9), .second, .val (.long (fz &&& (9223372036854775807 : Int64))), .second, .val (.long (fz &&& (9223372036854775807 : Int64))), .second, .unset, .unset, .unset, .unset, .unset] [])) (fun t kt => ?_) ?_
      · show Steps p.tables e below (T5.setTop (mkF m 73 #[.val (.long tt), .second, .val (.long us), .second, .val (.long ca), .second, .val (.long fz), .second, .val (.long pr), .second, .val (.int mo), .val (.long u1), .second, .val (.long u2), .second, .val (.long u4), .second, .val (.long u6), .second, .val (.long u7), .second, .val (.double u8), .second, .val (.long u9), .second, .unset, .unset, .unset, .unset, .unset, .unset, .unset, .unset, .unset] [(.int (mo &&& (3 : Int32)))])) _
        refine XS.ifYes X5.here hx rfl (pc0 := 73) (pc' := 89) rfl (hb hby at_73) rfl ((if0 _ _).trans (feq c73_11).2) (by decide) (by decide) ?_
        show Steps p.tables e below (T5.setTop (mkF m 89 #[.val (.long tt), .second, .val (.long us), .second, .val (.long ca), .second, .val (.long fz), .second, .val (.long pr), .second, .val (.int mo), .val (.long u1), .second, .val (.long u2), .second, .val (.long u4), .second, .val (.long u6), .second, .val (.long u7), .second, .val (.double u8), .second, .val (.long u9), .second, .unset, .unset, .unset, .unset, .unset, .unset, .unset, .unset, .unset] [])) _
        refine XS.lload X5.here hx rfl (hb hby at_89) rfl ?_
        show Steps p.tables e below (T5.setTop (mkF m 91 #[.val (.long tt), .second, .val (.long us), .second, .val (.long ca), .second, .val (.long fz), .second, .val (.long pr), .second, .val (.int mo), .val (.long u1), .second, .val (.long u2), .second, .val (.long u4), .second, .val (.long u6), .second, .val (.long u7), .second, .val (.double u8), .second, .val (.long u9), .second, .unset, .unset, .unset, .unset, .unset, .unset, .unset, .unset, .unset] [(.long fz)])) _
        refine X5.ldc2Long hx hown (mvT hZ (hw _ (List.mem_of_getElem? (i := 0) rfl))) (g := (mkF m 91 #[.val (.long tt), .second, .val (.long us), .second, .val (.long ca), .second, .val (.long fz), .second, .val (.long pr), .second, .val (.int mo), .val (.long u1), .second, .val (.long u2), .second, .val (.long u4), .second, .val (.long u6), .second, .val (.long u7), .second, .val (.double u8), .second, .val (.long u9), .second, .unset, .unset, .unset, .unset, .unset, .unset, .unset, .unset, .unset] [(.long fz)])) rfl (hb hby at_91) _ ?_
        show Steps p.tables e below (T5.setTop (mkF m 94 #[.val (.long tt), .second, .val (.long us), .second, .val (.long ca), .second, .val (.long fz), .second, .val (.long pr), .second, .val (.int mo), .val (.long u1), .second, .val (.long u2), .second, .val (.long u4), .second, .val (.long u6), .second, .val (.long u7), .second, .val (.double u8), .second, .val (.long u9), .second, .unset, .unset, .unset, .unset, .unset, .unset, .unset, .unset, .unset] [(.long (9223372036854775807 : Int64)), (.long fz)])) _
        refine XS.land X5.here hx rfl (hb hby at_94) rfl ?_
        show Steps p.tables e below (T5.setTop (mkF m 95 #[.val (.long tt), .second, .val (.long us), .second, .val (.long ca), .second, .val (.long fz), .second, .val (.long pr), .second, .val (.int mo), .val (.long u1), .second, .val (.long u2), .second, .val (.long u4), .second, .val (.long u6), .second, .val (.long u7), .second, .val (.double u8), .second, .val (.long u9), .second, .unset, .unset, .unset, .unset, .unset, .unset, .unset, .unset, .unset] [(.long (fz &&& (9223372036854775807 : Int64)))])) _
        refine XS.lstore X5.here hx rfl (hb hby at_95) rfl (l' := #[.val (.long tt), .second, .val (.long us), .second, .val (.long ca), .second, .val (.long fz), .second, .val (.long pr), .second, .val (.int mo), .val (.long u1), .second, .val (.long u2), .second, .val (.long u4), .second, .val (.long u6), .second, .val (.long u7), .second, .val (.double u8), .second, .val (.long u9), .second, .val (.long (fz &&& (9223372036854775807 : Int64))), .second, .unset, .unset, .unset, .unset, .unset, .unset, .unset]) rfl ?_
        show Steps p.tables e below (T5.setTop (mkF m 97 #[.val (.long tt), .second, .val (.long us), .second, .val (.long ca), .second, .val (.long fz), .second, .val (.long pr), .second, .val (.int mo), .val (.long u1), .second, .val (.long u2), .second, .val (.long u4), .second, .val (.long u6), .second, .val (.long u7), .second, .val (.double u8), .second, .val (.long u9), .second, .val (.long (fz &&& (9223372036854775807 : Int64))), .second, .unset, .unset, .unset, .unset, .unset, .unset, .unset] [])) _
        refine XS.lload X5.here hx rfl (hb hby at_97) rfl ?_
        show Steps p.tables e below (T5.setTop (mkF m 99 #[.val (.long tt), .second, .val (.long us), .second, .val (.long ca), .second, .val (.long fz), .second, .val (.long pr), .second, .val (.int mo), .val (.long u1), .second, .val (.long u2), .second, .val (.long u4), .second, .val (.long u6), .second, .val (.long u7), .second, .val (.double u8), .second, .val (.long u9), .second, .val (.long (fz &&& (9223372036854775807 : Int64))), .second, .unset, .unset, .unset, .unset, .unset, .unset, .unset] [(.long (fz &&& (9223372036854775807 : Int64)))])) _
        refine XS.lstore X5.here hx rfl (hb hby at_99) rfl (l' := #[.val (.long tt), .second, .val (.long us), .second, .val (.long ca), .second, .val (.long fz), .second, .val (.long pr), .second, .val (.int mo), .val (.long u1), .second, .val (.long u2), .second, .val (.long u4), .second, .val (.long u6), .second, .val (.long u7), .second, .val (.double u8), .second, .val (.long u9), .second, .val (.long (fz &&& (9223372036854775807 : Int64))), .second, .val (.long (fz &&& (9223372036854775807 : Int64))), .second, .unset, .unset, .unset, .unset, .unset]) rfl ?_
        exact kt
      exact J10 _ (fz &&& (9223372036854775807 : Int64)) (fz &&& (9223372036854775807 : Int64)) (if_neg c73_11).symm (if_neg c73_11).symm X5 e5
  intro T10 v10_l25 v10_l27 hv10_l25 hv10_l27 X10 e10
  obtain ⟨T12, h12, X12, e12, E12, A12, D12, -, st12⟩ := newO X10 hx hZ hown (hw _ (List.mem_of_getElem? (i := 5) rfl)) (hw _ (List.mem_of_getElem? (i := 6) rfl)) (hw _ (List.mem_of_getElem? (i := 7) rfl)) e10 (g := (mkF m 101 #[.val (.long tt), .second, .val (.long us), .second, .val (.long ca), .second, .val (.long fz), .second, .val (.long pr), .second, .val (.int mo), .val (.long u1), .second, .val (.long u2), .second, .val (.long u4), .second, .val (.long u6), .second, .val (.long u7), .second, .val (.double u8), .second, .val (.long u9), .second, .val (.long v10_l25), .second, .val (.long v10_l27), .second, .unset, .unset, .unset, .unset, .unset] [])) rfl (hb hby at_101) (by decide) (by decide)
  obtain ⟨b12, gq12⟩ : ∃ z, z = h0.size := ⟨_, rfl⟩
  rw [← gq12] at A12 D12 st12
  have g_b12 : n0 ≤ b12 := Nat.le_trans (old_le O0) (Nat.le_of_eq gq12.symm)
  have O12 := O0.ext E12
  have F_b12_total_12 : Fld Z h12 b12 "com/example/pooltergeist/pooltergeist/poolmanager/SpaceStatus" "total" "J" (.long (0 : Int64)) := D12 (Or.inr (hw _ (List.mem_of_getElem? (i := 23) rfl))) (ty := .long) (by decide)
  have F_b12_used_12 : Fld Z h12 b12 "com/example/pooltergeist/pooltergeist/poolmanager/SpaceStatus" "used" "J" (.long (0 : Int64)) := D12 (Or.inr (hw _ (List.mem_of_getElem? (i := 25) rfl))) (ty := .long) (by decide)
  have F_b12_precious_12 : Fld Z h12 b12 "com/example/pooltergeist/pooltergeist/poolmanager/SpaceStatus" "precious" "J" (.long (0 : Int64)) := D12 (Or.inr (hw _ (List.mem_of_getElem? (i := 27) rfl))) (ty := .long) (by decide)
  have F_b12_cached_12 : Fld Z h12 b12 "com/example/pooltergeist/pooltergeist/poolmanager/SpaceStatus" "cached" "J" (.long (0 : Int64)) := D12 (Or.inr (hw _ (List.mem_of_getElem? (i := 29) rfl))) (ty := .long) (by decide)
  have F_b12_free_12 : Fld Z h12 b12 "com/example/pooltergeist/pooltergeist/poolmanager/SpaceStatus" "free" "J" (.long (0 : Int64)) := D12 (Or.inr (hw _ (List.mem_of_getElem? (i := 34) rfl))) (ty := .long) (by decide)
  have F_b12_gap_12 : Fld Z h12 b12 "com/example/pooltergeist/pooltergeist/poolmanager/SpaceStatus" "gap" "J" (.long (0 : Int64)) := D12 (Or.inr (hw _ (List.mem_of_getElem? (i := 36) rfl))) (ty := .long) (by decide)
  have F_b12_breakeven_12 : Fld Z h12 b12 "com/example/pooltergeist/pooltergeist/poolmanager/SpaceStatus" "breakeven" "D" (.double (0 : UInt64)) := D12 (Or.inr (hw _ (List.mem_of_getElem? (i := 38) rfl))) (ty := .double) (by decide)
  have F_b12_lruSeconds_12 : Fld Z h12 b12 "com/example/pooltergeist/pooltergeist/poolmanager/SpaceStatus" "lruSeconds" "J" (.long (0 : Int64)) := D12 (Or.inr (hw _ (List.mem_of_getElem? (i := 40) rfl))) (ty := .long) (by decide)
  refine Gl.up (B := T12.setTop (mkF m 104 #[.val (.long tt), .second, .val (.long us), .second, .val (.long ca), .second, .val (.long fz), .second, .val (.long pr), .second, .val (.int mo), .val (.long u1), .second, .val (.long u2), .second, .val (.long u4), .second, .val (.long u6), .second, .val (.long u7), .second, .val (.double u8), .second, .val (.long u9), .second, .val (.long v10_l25), .second, .val (.long v10_l27), .second, .unset, .unset, .unset, .unset, .unset] [(.ref b12)])) (fun t kt => st12 _ kt) ?_
  refine Gl.up (B := T12.setTop (mkF m 119 #[.val (.long tt), .second, .val (.long us), .second, .val (.long ca), .second, .val (.long fz), .second, .val (.long pr), .second, .val (.int mo), .val (.long u1), .second, .val (.long u2), .second, .val (.long u4), .second, .val (.long u6), .second, .val (.long u7), .second, .val (.double u8), .second, .val (.long u9), .second, .val (.long v10_l25), .second, .val (.long v10_l27), .second, .unset, .unset, .unset, .unset, .unset] [(.long u9), (.double u8), (.long u7), (.long u4), (.long u6), (.long u2), (.long u1), (.ref b12), (.ref b12)])) (fun t kt => ?_) ?_
  · show Steps p.tables e below (T12.setTop (mkF m 104 #[.val (.long tt), .second, .val (.long us), .second, .val (.long ca), .second, .val (.long fz), .second, .val (.long pr), .second, .val (.int mo), .val (.long u1), .second, .val (.long u2), .second, .val (.long u4), .second, .val (.long u6), .second, .val (.long u7), .second, .val (.double u8), .second, .val (.long u9), .second, .val (.long v10_l25), .second, .val (.long v10_l27), .second, .unset, .unset, .unset, .unset, .unset] [(.ref b12)])) _
    refine XS.dup X12.here hx rfl (hb hby at_104) rfl rfl ?_
    show Steps p.tables e below (T12.setTop (mkF m 105 #[.val (.long tt), .second, .val (.long us), .second, .val (.long ca), .second, .val (.long fz), .second, .val (.long pr), .second, .val (.int mo), .val (.long u1), .second, .val (.long u2), .second, .val (.long u4), .second, .val (.long u6), .second, .val (.long u7), .second, .val (.double u8), .second, .val (.long u9), .second, .val (.long v10_l25), .second, .val (.long v10_l27), .second, .unset, .unset, .unset, .unset, .unset] [(.ref b12), (.ref b12)])) _
    refine XS.lload X12.here hx rfl (hb hby at_105) rfl ?_
    show Steps p.tables e below (T12.setTop (mkF m 107 #[.val (.long tt), .second, .val (.long us), .second, .val (.long ca), .second, .val (.long fz), .second, .val (.long pr), .second, .val (.int mo), .val (.long u1), .second, .val (.long u2), .second, .val (.long u4), .second, .val (.long u6), .second, .val (.long u7), .second, .val (.double u8), .second, .val (.long u9), .second, .val (.long v10_l25), .second, .val (.long v10_l27), .second, .unset, .unset, .unset, .unset, .unset] [(.long u1), (.ref b12), (.ref b12)])) _
    refine XS.lload X12.here hx rfl (hb hby at_107) rfl ?_
    show Steps p.tables e below (T12.setTop (mkF m 109 #[.val (.long tt), .second, .val (.long us), .second, .val (.long ca), .second, .val (.long fz), .second, .val (.long pr), .second, .val (.int mo), .val (.long u1), .second, .val (.long u2), .second, .val (.long u4), .second, .val (.long u6), .second, .val (.long u7), .second, .val (.double u8), .second, .val (.long u9), .second, .val (.long v10_l25), .second, .val (.long v10_l27), .second, .unset, .unset, .unset, .unset, .unset] [(.long u2), (.long u1), (.ref b12), (.ref b12)])) _
    refine XS.lload X12.here hx rfl (hb hby at_109) rfl ?_
    show Steps p.tables e below (T12.setTop (mkF m 111 #[.val (.long tt), .second, .val (.long us), .second, .val (.long ca), .second, .val (.long fz), .second, .val (.long pr), .second, .val (.int mo), .val (.long u1), .second, .val (.long u2), .second, .val (.long u4), .second, .val (.long u6), .second, .val (.long u7), .second, .val (.double u8), .second, .val (.long u9), .second, .val (.long v10_l25), .second, .val (.long v10_l27), .second, .unset, .unset, .unset, .unset, .unset] [(.long u6), (.long u2), (.long u1), (.ref b12), (.ref b12)])) _
    refine XS.lload X12.here hx rfl (hb hby at_111) rfl ?_
    show Steps p.tables e below (T12.setTop (mkF m 113 #[.val (.long tt), .second, .val (.long us), .second, .val (.long ca), .second, .val (.long fz), .second, .val (.long pr), .second, .val (.int mo), .val (.long u1), .second, .val (.long u2), .second, .val (.long u4), .second, .val (.long u6), .second, .val (.long u7), .second, .val (.double u8), .second, .val (.long u9), .second, .val (.long v10_l25), .second, .val (.long v10_l27), .second, .unset, .unset, .unset, .unset, .unset] [(.long u4), (.long u6), (.long u2), (.long u1), (.ref b12), (.ref b12)])) _
    refine XS.lload X12.here hx rfl (hb hby at_113) rfl ?_
    show Steps p.tables e below (T12.setTop (mkF m 115 #[.val (.long tt), .second, .val (.long us), .second, .val (.long ca), .second, .val (.long fz), .second, .val (.long pr), .second, .val (.int mo), .val (.long u1), .second, .val (.long u2), .second, .val (.long u4), .second, .val (.long u6), .second, .val (.long u7), .second, .val (.double u8), .second, .val (.long u9), .second, .val (.long v10_l25), .second, .val (.long v10_l27), .second, .unset, .unset, .unset, .unset, .unset] [(.long u7), (.long u4), (.long u6), (.long u2), (.long u1), (.ref b12), (.ref b12)])) _
    refine XS.dload X12.here hx rfl (hb hby at_115) rfl ?_
    show Steps p.tables e below (T12.setTop (mkF m 117 #[.val (.long tt), .second, .val (.long us), .second, .val (.long ca), .second, .val (.long fz), .second, .val (.long pr), .second, .val (.int mo), .val (.long u1), .second, .val (.long u2), .second, .val (.long u4), .second, .val (.long u6), .second, .val (.long u7), .second, .val (.double u8), .second, .val (.long u9), .second, .val (.long v10_l25), .second, .val (.long v10_l27), .second, .unset, .unset, .unset, .unset, .unset] [(.double u8), (.long u7), (.long u4), (.long u6), (.long u2), (.long u1), (.ref b12), (.ref b12)])) _
    refine XS.lload X12.here hx rfl (hb hby at_117) rfl ?_
    exact kt
  have hT : 0 ≤ u1.toInt := by rw [hu1]; exact own_and63 _
  have hU : 0 ≤ u2.toInt := by rw [hu2]; exact own_and63 _
  have hCA : 0 ≤ u4.toInt ∧ u4.toInt ≤ u2.toInt := by rw [hu4]; exact own_min (own_and63 _) hU
  have hPR : 0 ≤ u6.toInt := by rw [hu6]; exact (own_min (own_and63 _) (own_sub hU hCA)).1
  have hGA : 0 ≤ u7.toInt := by rw [hu7]; exact own_and63 _
  have hLR : 0 ≤ u9.toInt := by rw [hu9]; exact own_lru _
  have hBE : ¬ (cmpValue (FP.dcmp u8 (0 : UInt64)) .l) < (0 : Int32) ∧ f3 u8 = (0 : Int32) ∧ Jvm.Free.Fl.NoNaN64 u8 := by rw [hu8]; exact own_be _
  obtain ⟨_, _, ⟨T13, L13, k13, n13⟩, -, X13, ⟨Lc13, hQ13, l13, y13, z13⟩, st13⟩ := X12.specialBack hx (y := (⟨"com/example/pooltergeist/pooltergeist/poolmanager/SpaceStatus", "<init>", "(JJJJJDJ)V"⟩ : MethodName)) rfl hown (mvT hZ (hw _ (List.mem_of_getElem? (i := 8) rfl))) (mvT hZ (hw _ (List.mem_of_getElem? (i := 9) rfl))) (mvT hZ (hw _ (List.mem_of_getElem? (i := 10) rfl))) (by decide) (backOf (W := 1) (rm1 l Z aa hw [] b12 u1 u2 u6 u4 u7 u8 u9 (0 : Int64) (0 : Int64) (0 : Int64) (0 : Int64) (0 : Int64) (0 : Int64) (0 : Int64) (0 : UInt64) h12 n0 O12 A12 F_b12_total_12 F_b12_used_12 F_b12_precious_12 F_b12_cached_12 F_b12_free_12 F_b12_gap_12 F_b12_lruSeconds_12 F_b12_breakeven_12 g_b12 (own_nl hT) (own_nl hU) (own_nl hPR) (own_nl hCA.1) (own_nl hGA) (own_nl hLR) hBE.1 hBE.2.1 hBE.2.2) hZ (hw _ (List.mem_of_getElem? (i := 10) rfl)) (hw _ (List.mem_of_getElem? (i := 7) rfl)) (by decide) (by decide)) (g := (mkF m 119 #[.val (.long tt), .second, .val (.long us), .second, .val (.long ca), .second, .val (.long fz), .second, .val (.long pr), .second, .val (.int mo), .val (.long u1), .second, .val (.long u2), .second, .val (.long u4), .second, .val (.long u6), .second, .val (.long u7), .second, .val (.double u8), .second, .val (.long u9), .second, .val (.long v10_l25), .second, .val (.long v10_l27), .second, .unset, .unset, .unset, .unset, .unset] [(.long u9), (.double u8), (.long u7), (.long u4), (.long u6), (.long u2), (.long u1), (.ref b12), (.ref b12)])) rfl (by rw [hml]; rfl) (Steps.refl _) (a := b12) (argsL := [(.long u1), (.long u2), (.long u6), (.long u4), (.long u7), (.double u8), (.long u9)]) (rest := [(.ref b12)]) (lenOf pd_oJJJJJDJcV rfl) rfl (by show 2 * 0 + _ ≤ _; exact Nat.le_of_eq rfl) (hb hby at_119) (fun _ _ => ⟨rfl, e12, (by decide : 1 + 0 ≤ _), (by decide : 8 + 0 ≤ _)⟩)
  dsimp only [Pt.U, Pt.locs, Pt.cells, Pt.slots] at X13 l13 y13 z13 st13 hQ13
  subst l13 y13 z13
  obtain ⟨rfl, M13, K13, F_b12_total_13, F_b12_used_13, F_b12_precious_13, F_b12_cached_13⟩ := hQ13
  have N13 := Fr.app N0 M13
  have O13 := O12.keep K13 (allS g_b12 all0)
  have E_b12_13 := A12.keep K13
  refine Gl.up (B := T13.setTop (mkF m 122 #[.val (.long tt), .second, .val (.long us), .second, .val (.long ca), .second, .val (.long fz), .second, .val (.long pr), .second, .val (.int mo), .val (.long u1), .second, .val (.long u2), .second, .val (.long u4), .second, .val (.long u6), .second, .val (.long u7), .second, .val (.double u8), .second, .val (.long u9), .second, .val (.long v10_l25), .second, .val (.long v10_l27), .second, .unset, .unset, .unset, .unset, .unset] [(.ref b12)])) (fun t kt => st13.trans kt) ?_
  refine Gl.up (B := T13.setTop (mkF m 128 #[.val (.long tt), .second, .val (.long us), .second, .val (.long ca), .second, .val (.long fz), .second, .val (.long pr), .second, .val (.int mo), .val (.long u1), .second, .val (.long u2), .second, .val (.long u4), .second, .val (.long u6), .second, .val (.long u7), .second, .val (.double u8), .second, .val (.long u9), .second, .val (.long v10_l25), .second, .val (.long v10_l27), .second, .val (.ref b12), .unset, .unset, .unset, .unset] [(.long v10_l25), (.ref b12)])) (fun t kt => ?_) ?_
  · show Steps p.tables e below (T13.setTop (mkF m 122 #[.val (.long tt), .second, .val (.long us), .second, .val (.long ca), .second, .val (.long fz), .second, .val (.long pr), .second, .val (.int mo), .val (.long u1), .second, .val (.long u2), .second, .val (.long u4), .second, .val (.long u6), .second, .val (.long u7), .second, .val (.double u8), .second, .val (.long u9), .second, .val (.long v10_l25), .second, .val (.long v10_l27), .second, .unset, .unset, .unset, .unset, .unset] [(.ref b12)])) _
    refine XS.astore X13.here hx rfl (hb hby at_122) rfl rfl (l' := #[.val (.long tt), .second, .val (.long us), .second, .val (.long ca), .second, .val (.long fz), .second, .val (.long pr), .second, .val (.int mo), .val (.long u1), .second, .val (.long u2), .second, .val (.long u4), .second, .val (.long u6), .second, .val (.long u7), .second, .val (.double u8), .second, .val (.long u9), .second, .val (.long v10_l25), .second, .val (.long v10_l27), .second, .val (.ref b12), .unset, .unset, .unset, .unset]) rfl ?_
    show Steps p.tables e below (T13.setTop (mkF m 124 #[.val (.long tt), .second, .val (.long us), .second, .val (.long ca), .second, .val (.long fz), .second, .val (.long pr), .second, .val (.int mo), .val (.long u1), .second, .val (.long u2), .second, .val (.long u4), .second, .val (.long u6), .second, .val (.long u7), .second, .val (.double u8), .second, .val (.long u9), .second, .val (.long v10_l25), .second, .val (.long v10_l27), .second, .val (.ref b12), .unset, .unset, .unset, .unset] [])) _
    refine XS.aload X13.here hx rfl (hb hby at_124) rfl rfl ?_
    show Steps p.tables e below (T13.setTop (mkF m 126 #[.val (.long tt), .second, .val (.long us), .second, .val (.long ca), .second, .val (.long fz), .second, .val (.long pr), .second, .val (.int mo), .val (.long u1), .second, .val (.long u2), .second, .val (.long u4), .second, .val (.long u6), .second, .val (.long u7), .second, .val (.double u8), .second, .val (.long u9), .second, .val (.long v10_l25), .second, .val (.long v10_l27), .second, .val (.ref b12), .unset, .unset, .unset, .unset] [(.ref b12)])) _
    refine XS.lload X13.here hx rfl (hb hby at_126) rfl ?_
    exact kt
  obtain ⟨cq14, kq14, q14a, q14b, q14c⟩ := isOf hZ rfl E_b12_13
  obtain ⟨_, _, ⟨T14, L14, k14, n14⟩, -, X14, ⟨Lc14, hQ14, l14, y14, z14⟩, st14⟩ := X13.virtualBack hx (y := (⟨"com/example/pooltergeist/pooltergeist/poolmanager/SpaceStatus", "hasRoomFor", "(J)Z"⟩ : MethodName)) (z := (⟨"com/example/pooltergeist/pooltergeist/poolmanager/SpaceStatus", "hasRoomFor", "(J)Z"⟩ : MethodName)) hown (mvT hZ (hw _ (List.mem_of_getElem? (i := 41) rfl))) (mvT hZ (hw _ (List.mem_of_getElem? (i := 42) rfl))) (notFace_of_selects (args := #[]) (mvT hZ (hw _ (List.mem_of_getElem? (i := 44) rfl)))) (mvT hZ (hw _ (List.mem_of_getElem? (i := 44) rfl))) (mvT hZ (hw _ (List.mem_of_getElem? (i := 43) rfl))) (by decide) (backOf (W := 0) (rm6 l Z aa hw [] b12 v10_l25 u1 u2 u4 T13.heap n0 O13 E_b12_13 F_b12_total_13 F_b12_used_13 F_b12_cached_13) hZ (hw _ (List.mem_of_getElem? (i := 45) rfl)) (hw _ (List.mem_of_getElem? (i := 7) rfl)) (by decide) (by decide)) q14a q14c (g := (mkF m 128 #[.val (.long tt), .second, .val (.long us), .second, .val (.long ca), .second, .val (.long fz), .second, .val (.long pr), .second, .val (.int mo), .val (.long u1), .second, .val (.long u2), .second, .val (.long u4), .second, .val (.long u6), .second, .val (.long u7), .second, .val (.double u8), .second, .val (.long u9), .second, .val (.long v10_l25), .second, .val (.long v10_l27), .second, .val (.ref b12), .unset, .unset, .unset, .unset] [(.long v10_l25), (.ref b12)])) rfl (by rw [hml]; rfl) (Steps.refl _) (argsL := [(.long v10_l25)]) (rest := []) (lenOf pd_oJcZ rfl) rfl (by show 2 * 0 + _ ≤ _; exact Nat.le_of_eq rfl) (hb hby at_128) (fun _ _ => ⟨rfl, rfl, (by decide : 1 + 0 ≤ _), (by decide : 8 + 0 ≤ _)⟩)
  dsimp only [Pt.U, Pt.locs, Pt.cells, Pt.slots] at X14 l14 y14 z14 st14 hQ14
  subst l14 y14 z14
  obtain ⟨rfl, rfl, e14⟩ := hQ14
  try rw [List.append_nil] at X14
  refine Gl.up (B := T14.setTop (mkF m 131 #[.val (.long tt), .second, .val (.long us), .second, .val (.long ca), .second, .val (.long fz), .second, .val (.long pr), .second, .val (.int mo), .val (.long u1), .second, .val (.long u2), .second, .val (.long u4), .second, .val (.long u6), .second, .val (.long u7), .second, .val (.double u8), .second, .val (.long u9), .second, .val (.long v10_l25), .second, .val (.long v10_l27), .second, .val (.ref b12), .unset, .unset, .unset, .unset] [(.int (f6 v10_l25 u1 u2 u4))])) (fun t kt => st14.trans kt) ?_
  refine Gl.up (B := T14.setTop (mkF m 144 #[.val (.long tt), .second, .val (.long us), .second, .val (.long ca), .second, .val (.long fz), .second, .val (.long pr), .second, .val (.int mo), .val (.long u1), .second, .val (.long u2), .second, .val (.long u4), .second, .val (.long u6), .second, .val (.long u7), .second, .val (.double u8), .second, .val (.long u9), .second, .val (.long v10_l25), .second, .val (.long v10_l27), .second, .val (.ref b12), .val (.int (f6 v10_l25 u1 u2 u4)), .val (.long (u2 - u4)), .second, .unset] [(.int (lcmpW v10_l27 (0 : Int64)))])) (fun t kt => ?_) ?_
  · show Steps p.tables e below (T14.setTop (mkF m 131 #[.val (.long tt), .second, .val (.long us), .second, .val (.long ca), .second, .val (.long fz), .second, .val (.long pr), .second, .val (.int mo), .val (.long u1), .second, .val (.long u2), .second, .val (.long u4), .second, .val (.long u6), .second, .val (.long u7), .second, .val (.double u8), .second, .val (.long u9), .second, .val (.long v10_l25), .second, .val (.long v10_l27), .second, .val (.ref b12), .unset, .unset, .unset, .unset] [(.int (f6 v10_l25 u1 u2 u4))])) _
    refine XS.istore X14.here hx rfl (hb hby at_131) rfl (l' := #[.val (.long tt), .second, .val (.long us), .second, .val (.long ca), .second, .val (.long fz), .second, .val (.long pr), .second, .val (.int mo), .val (.long u1), .second, .val (.long u2), .second, .val (.long u4), .second, .val (.long u6), .second, .val (.long u7), .second, .val (.double u8), .second, .val (.long u9), .second, .val (.long v10_l25), .second, .val (.long v10_l27), .second, .val (.ref b12), .val (.int (f6 v10_l25 u1 u2 u4)), .unset, .unset, .unset]) rfl ?_
    show Steps p.tables e below (T14.setTop (mkF m 133 #[.val (.long tt), .second, .val (.long us), .second, .val (.long ca), .second, .val (.long fz), .second, .val (.long pr), .second, .val (.int mo), .val (.long u1), .second, .val (.long u2), .second, .val (.long u4), .second, .val (.long u6), .second, .val (.long u7), .second, .val (.double u8), .second, .val (.long u9), .second, .val (.long v10_l25), .second, .val (.long v10_l27), .second, .val (.ref b12), .val (.int (f6 v10_l25 u1 u2 u4)), .unset, .unset, .unset] [])) _
    refine XS.lload X14.here hx rfl (hb hby at_133) rfl ?_
    show Steps p.tables e below (T14.setTop (mkF m 135 #[.val (.long tt), .second, .val (.long us), .second, .val (.long ca), .second, .val (.long fz), .second, .val (.long pr), .second, .val (.int mo), .val (.long u1), .second, .val (.long u2), .second, .val (.long u4), .second, .val (.long u6), .second, .val (.long u7), .second, .val (.double u8), .second, .val (.long u9), .second, .val (.long v10_l25), .second, .val (.long v10_l27), .second, .val (.ref b12), .val (.int (f6 v10_l25 u1 u2 u4)), .unset, .unset, .unset] [(.long u2)])) _
    refine XS.lload X14.here hx rfl (hb hby at_135) rfl ?_
    show Steps p.tables e below (T14.setTop (mkF m 137 #[.val (.long tt), .second, .val (.long us), .second, .val (.long ca), .second, .val (.long fz), .second, .val (.long pr), .second, .val (.int mo), .val (.long u1), .second, .val (.long u2), .second, .val (.long u4), .second, .val (.long u6), .second, .val (.long u7), .second, .val (.double u8), .second, .val (.long u9), .second, .val (.long v10_l25), .second, .val (.long v10_l27), .second, .val (.ref b12), .val (.int (f6 v10_l25 u1 u2 u4)), .unset, .unset, .unset] [(.long u4), (.long u2)])) _
    refine XS.lsub X14.here hx rfl (hb hby at_137) rfl ?_
    show Steps p.tables e below (T14.setTop (mkF m 138 #[.val (.long tt), .second, .val (.long us), .second, .val (.long ca), .second, .val (.long fz), .second, .val (.long pr), .second, .val (.int mo), .val (.long u1), .second, .val (.long u2), .second, .val (.long u4), .second, .val (.long u6), .second, .val (.long u7), .second, .val (.double u8), .second, .val (.long u9), .second, .val (.long v10_l25), .second, .val (.long v10_l27), .second, .val (.ref b12), .val (.int (f6 v10_l25 u1 u2 u4)), .unset, .unset, .unset] [(.long (u2 - u4))])) _
    refine XS.lstore X14.here hx rfl (hb hby at_138) rfl (l' := #[.val (.long tt), .second, .val (.long us), .second, .val (.long ca), .second, .val (.long fz), .second, .val (.long pr), .second, .val (.int mo), .val (.long u1), .second, .val (.long u2), .second, .val (.long u4), .second, .val (.long u6), .second, .val (.long u7), .second, .val (.double u8), .second, .val (.long u9), .second, .val (.long v10_l25), .second, .val (.long v10_l27), .second, .val (.ref b12), .val (.int (f6 v10_l25 u1 u2 u4)), .val (.long (u2 - u4)), .second, .unset]) rfl ?_
    show Steps p.tables e below (T14.setTop (mkF m 140 #[.val (.long tt), .second, .val (.long us), .second, .val (.long ca), .second, .val (.long fz), .second, .val (.long pr), .second, .val (.int mo), .val (.long u1), .second, .val (.long u2), .second, .val (.long u4), .second, .val (.long u6), .second, .val (.long u7), .second, .val (.double u8), .second, .val (.long u9), .second, .val (.long v10_l25), .second, .val (.long v10_l27), .second, .val (.ref b12), .val (.int (f6 v10_l25 u1 u2 u4)), .val (.long (u2 - u4)), .second, .unset] [])) _
    refine XS.lload X14.here hx rfl (hb hby at_140) rfl ?_
    show Steps p.tables e below (T14.setTop (mkF m 142 #[.val (.long tt), .second, .val (.long us), .second, .val (.long ca), .second, .val (.long fz), .second, .val (.long pr), .second, .val (.int mo), .val (.long u1), .second, .val (.long u2), .second, .val (.long u4), .second, .val (.long u6), .second, .val (.long u7), .second, .val (.double u8), .second, .val (.long u9), .second, .val (.long v10_l25), .second, .val (.long v10_l27), .second, .val (.ref b12), .val (.int (f6 v10_l25 u1 u2 u4)), .val (.long (u2 - u4)), .second, .unset] [(.long v10_l27)])) _
    refine XS.lconst X14.here hx rfl (hb hby at_142) ?_
    show Steps p.tables e below (T14.setTop (mkF m 143 #[.val (.long tt), .second, .val (.long us), .second, .val (.long ca), .second, .val (.long fz), .second, .val (.long pr), .second, .val (.int mo), .val (.long u1), .second, .val (.long u2), .second, .val (.long u4), .second, .val (.long u6), .second, .val (.long u7), .second, .val (.double u8), .second, .val (.long u9), .second, .val (.long v10_l25), .second, .val (.long v10_l27), .second, .val (.ref b12), .val (.int (f6 v10_l25 u1 u2 u4)), .val (.long (u2 - u4)), .second, .unset] [(.long (0 : Int64)), (.long v10_l27)])) _
    refine XS.lcmp X14.here hx rfl (hb hby at_143) rfl ?_
    exact kt
  suffices J15 : ∀ (T15 : State) (lc15 : List Loc) (v15_l33 : Int32), v15_l33 = (if v10_l27 = (0 : Int64) then (1 : Int32) else (if u1 < (u2 - u4) then (0 : Int32) else (if (u1 - (u2 - u4)) < v10_l27 then (0 : Int32) else (1 : Int32)))) → Stand p l e room_1 s m args below meth c T15 lc15 1 8 → T15.heap = T13.heap → Fr n0 lc15 → Gl p e below (Ret s 1 8 (Q0 n0)) (T15.setTop (mkF m 185 #[.val (.long tt), .second, .val (.long us), .second, .val (.long ca), .second, .val (.long fz), .second, .val (.long pr), .second, .val (.int mo), .val (.long u1), .second, .val (.long u2), .second, .val (.long u4), .second, .val (.long u6), .second, .val (.long u7), .second, .val (.double u8), .second, .val (.long u9), .second, .val (.long v10_l25), .second, .val (.long v10_l27), .second, .val (.ref b12), .val (.int (f6 v10_l25 u1 u2 u4)), .val (.long (u2 - u4)), .second, .val (.int v15_l33)] [])) by
    by_cases c144_16 : v10_l27 = (0 : Int64)
    · refine Gl.up (B := T14.setTop (mkF m 185 #[.val (.long tt), .second, .val (.long us), .second, .val (.long ca), .second, .val (.long fz), .second, .val (.long pr), .second, .val (.int mo), .val (.long u1), .second, .val (.long u2), .second, .val (.long u4), .second, .val (.long u6), .second, .val (.long u7), .second, .val (.double u8), .second, .val (.long u9), .second, .val (.long v10_l25), .second, .val (.long v10_l27), .second, .val (.ref b12), .val (.int (f6 v10_l25 u1 u2 u4)), .val (.long (u2 - u4)), .second, .val (.int (1 : Int32))] [])) (fun t kt => ?_) ?_
      · show Steps p.tables e below (T14.setTop (mkF m 144 #[.val (.long tt), .second, .val (.long us), .second, .val (.long ca), .second, .val (.long fz), .second, .val (.long pr), .second, .val (.int mo), .val (.long u1), .second, .val (.long u2), .second, .val (.long u4), .second, .val (.long u6), .second, .val (.long u7), .second, .val (.double u8), .second, .val (.long u9), .second, .val (.long v10_l25), .second, .val (.long v10_l27), .second, .val (.ref b12), .val (.int (f6 v10_l25 u1 u2 u4)), .val (.long (u2 - u4)), .second, .unset] [(.int (lcmpW v10_l27 (0 : Int64)))])) _
        refine XS.ifNo X14.here hx rfl (hb hby at_144) rfl (jc_ne_f c144_16) ?_
        show Steps p.tables e below (T14.setTop (mkF m 147 #[.val (.long tt), .second, .val (.long us), .second, .val (.long ca), .second, .val (.long fz), .second, .val (.long pr), .second, .val (.int mo), .val (.long u1), .second, .val (.long u2), .second, .val (.long u4), .second, .val (.long u6), .second, .val (.long u7), .second, .val (.double u8), .second, .val (.long u9), .second, .val (.long v10_l25), .second, .val (.long v10_l27), .second, .val (.ref b12), .val (.int (f6 v10_l25 u1 u2 u4)), .val (.long (u2 - u4)), .second, .unset] [])) _
        refine XS.iconst X14.here hx rfl (hb hby at_147) ?_
        show Steps p.tables e below (T14.setTop (mkF m 148 #[.val (.long tt), .second, .val (.long us), .second, .val (.long ca), .second, .val (.long fz), .second, .val (.long pr), .second, .val (.int mo), .val (.long u1), .second, .val (.long u2), .second, .val (.long u4), .second, .val (.long u6), .second, .val (.long u7), .second, .val (.double u8), .second, .val (.long u9), .second, .val (.long v10_l25), .second, .val (.long v10_l27), .second, .val (.ref b12), .val (.int (f6 v10_l25 u1 u2 u4)), .val (.long (u2 - u4)), .second, .unset] [(.int (1 : Int32))])) _
        refine XS.istore X14.here hx rfl (hb hby at_148) rfl (l' := #[.val (.long tt), .second, .val (.long us), .second, .val (.long ca), .second, .val (.long fz), .second, .val (.long pr), .second, .val (.int mo), .val (.long u1), .second, .val (.long u2), .second, .val (.long u4), .second, .val (.long u6), .second, .val (.long u7), .second, .val (.double u8), .second, .val (.long u9), .second, .val (.long v10_l25), .second, .val (.long v10_l27), .second, .val (.ref b12), .val (.int (f6 v10_l25 u1 u2 u4)), .val (.long (u2 - u4)), .second, .val (.int (1 : Int32))]) rfl ?_
        show Steps p.tables e below (T14.setTop (mkF m 150 #[.val (.long tt), .second, .val (.long us), .second, .val (.long ca), .second, .val (.long fz), .second, .val (.long pr), .second, .val (.int mo), .val (.long u1), .second, .val (.long u2), .second, .val (.long u4), .second, .val (.long u6), .second, .val (.long u7), .second, .val (.double u8), .second, .val (.long u9), .second, .val (.long v10_l25), .second, .val (.long v10_l27), .second, .val (.ref b12), .val (.int (f6 v10_l25 u1 u2 u4)), .val (.long (u2 - u4)), .second, .val (.int (1 : Int32))] [])) _
        refine XS.goto X14.here hx rfl (pc0 := 150) (pc' := 185) rfl (hb hby at_150) (by decide) (by decide) ?_
        exact kt
      exact J15 _ _ (1 : Int32) (if_pos c144_16).symm X14 e14 N13
    · refine Gl.up (B := T14.setTop (mkF m 158 #[.val (.long tt), .second, .val (.long us), .second, .val (.long ca), .second, .val (.long fz), .second, .val (.long pr), .second, .val (.int mo), .val (.long u1), .second, .val (.long u2), .second, .val (.long u4), .second, .val (.long u6), .second, .val (.long u7), .second, .val (.double u8), .second, .val (.long u9), .second, .val (.long v10_l25), .second, .val (.long v10_l27), .second, .val (.ref b12), .val (.int (f6 v10_l25 u1 u2 u4)), .val (.long (u2 - u4)), .second, .unset] [(.int (lcmpW (u2 - u4) u1))])) (fun t kt => ?_) ?_
      · show Steps p.tables e below (T14.setTop (mkF m 144 #[.val (.long tt), .second, .val (.long us), .second, .val (.long ca), .second, .val (.long fz), .second, .val (.long pr), .second, .val (.int mo), .val (.long u1), .second, .val (.long u2), .second, .val (.long u4), .second, .val (.long u6), .second, .val (.long u7), .second, .val (.double u8), .second, .val (.long u9), .second, .val (.long v10_l25), .second, .val (.long v10_l27), .second, .val (.ref b12), .val (.int (f6 v10_l25 u1 u2 u4)), .val (.long (u2 - u4)), .second, .unset] [(.int (lcmpW v10_l27 (0 : Int64)))])) _
        refine XS.ifYes X14.here hx rfl (pc0 := 144) (pc' := 153) rfl (hb hby at_144) rfl (jc_ne_t c144_16) (by decide) (by decide) ?_
        show Steps p.tables e below (T14.setTop (mkF m 153 #[.val (.long tt), .second, .val (.long us), .second, .val (.long ca), .second, .val (.long fz), .second, .val (.long pr), .second, .val (.int mo), .val (.long u1), .second, .val (.long u2), .second, .val (.long u4), .second, .val (.long u6), .second, .val (.long u7), .second, .val (.double u8), .second, .val (.long u9), .second, .val (.long v10_l25), .second, .val (.long v10_l27), .second, .val (.ref b12), .val (.int (f6 v10_l25 u1 u2 u4)), .val (.long (u2 - u4)), .second, .unset] [])) _
        refine XS.lload X14.here hx rfl (hb hby at_153) rfl ?_
        show Steps p.tables e below (T14.setTop (mkF m 155 #[.val (.long tt), .second, .val (.long us), .second, .val (.long ca), .second, .val (.long fz), .second, .val (.long pr), .second, .val (.int mo), .val (.long u1), .second, .val (.long u2), .second, .val (.long u4), .second, .val (.long u6), .second, .val (.long u7), .second, .val (.double u8), .second, .val (.long u9), .second, .val (.long v10_l25), .second, .val (.long v10_l27), .second, .val (.ref b12), .val (.int (f6 v10_l25 u1 u2 u4)), .val (.long (u2 - u4)), .second, .unset] [(.long (u2 - u4))])) _
        refine XS.lload X14.here hx rfl (hb hby at_155) rfl ?_
        show Steps p.tables e below (T14.setTop (mkF m 157 #[.val (.long tt), .second, .val (.long us), .second, .val (.long ca), .second, .val (.long fz), .second, .val (.long pr), .second, .val (.int mo), .val (.long u1), .second, .val (.long u2), .second, .val (.long u4), .second, .val (.long u6), .second, .val (.long u7), .second, .val (.double u8), .second, .val (.long u9), .second, .val (.long v10_l25), .second, .val (.long v10_l27), .second, .val (.ref b12), .val (.int (f6 v10_l25 u1 u2 u4)), .val (.long (u2 - u4)), .second, .unset] [(.long u1), (.long (u2 - u4))])) _
        refine XS.lcmp X14.here hx rfl (hb hby at_157) rfl ?_
        exact kt
      by_cases c158_17 : u1 < (u2 - u4)
      · refine Gl.up (B := T14.setTop (mkF m 185 #[.val (.long tt), .second, .val (.long us), .second, .val (.long ca), .second, .val (.long fz), .second, .val (.long pr), .second, .val (.int mo), .val (.long u1), .second, .val (.long u2), .second, .val (.long u4), .second, .val (.long u6), .second, .val (.long u7), .second, .val (.double u8), .second, .val (.long u9), .second, .val (.long v10_l25), .second, .val (.long v10_l27), .second, .val (.ref b12), .val (.int (f6 v10_l25 u1 u2 u4)), .val (.long (u2 - u4)), .second, .val (.int (0 : Int32))] [])) (fun t kt => ?_) ?_
        · show Steps p.tables e below (T14.setTop (mkF m 158 #[.val (.long tt), .second, .val (.long us), .second, .val (.long ca), .second, .val (.long fz), .second, .val (.long pr), .second, .val (.int mo), .val (.long u1), .second, .val (.long u2), .second, .val (.long u4), .second, .val (.long u6), .second, .val (.long u7), .second, .val (.double u8), .second, .val (.long u9), .second, .val (.long v10_l25), .second, .val (.long v10_l27), .second, .val (.ref b12), .val (.int (f6 v10_l25 u1 u2 u4)), .val (.long (u2 - u4)), .second, .unset] [(.int (lcmpW (u2 - u4) u1))])) _
          refine XS.ifNo X14.here hx rfl (hb hby at_158) rfl (jc_le_f c158_17) ?_
          show Steps p.tables e below (T14.setTop (mkF m 161 #[.val (.long tt), .second, .val (.long us), .second, .val (.long ca), .second, .val (.long fz), .second, .val (.long pr), .second, .val (.int mo), .val (.long u1), .second, .val (.long u2), .second, .val (.long u4), .second, .val (.long u6), .second, .val (.long u7), .second, .val (.double u8), .second, .val (.long u9), .second, .val (.long v10_l25), .second, .val (.long v10_l27), .second, .val (.ref b12), .val (.int (f6 v10_l25 u1 u2 u4)), .val (.long (u2 - u4)), .second, .unset] [])) _
          refine XS.iconst X14.here hx rfl (hb hby at_161) ?_
          show Steps p.tables e below (T14.setTop (mkF m 162 #[.val (.long tt), .second, .val (.long us), .second, .val (.long ca), .second, .val (.long fz), .second, .val (.long pr), .second, .val (.int mo), .val (.long u1), .second, .val (.long u2), .second, .val (.long u4), .second, .val (.long u6), .second, .val (.long u7), .second, .val (.double u8), .second, .val (.long u9), .second, .val (.long v10_l25), .second, .val (.long v10_l27), .second, .val (.ref b12), .val (.int (f6 v10_l25 u1 u2 u4)), .val (.long (u2 - u4)), .second, .unset] [(.int (0 : Int32))])) _
          refine XS.istore X14.here hx rfl (hb hby at_162) rfl (l' := #[.val (.long tt), .second, .val (.long us), .second, .val (.long ca), .second, .val (.long fz), .second, .val (.long pr), .second, .val (.int mo), .val (.long u1), .second, .val (.long u2), .second, .val (.long u4), .second, .val (.long u6), .second, .val (.long u7), .second, .val (.double u8), .second, .val (.long u9), .second, .val (.long v10_l25), .second, .val (.long v10_l27), .second, .val (.ref b12), .val (.int (f6 v10_l25 u1 u2 u4)), .val (.long (u2 - u4)), .second, .val (.int (0 : Int32))]) rfl ?_
          show Steps p.tables e below (T14.setTop (mkF m 164 #[.val (.long tt), .second, .val (.long us), .second, .val (.long ca), .second, .val (.long fz), .second, .val (.long pr), .second, .val (.int mo), .val (.long u1), .second, .val (.long u2), .second, .val (.long u4), .second, .val (.long u6), .second, .val (.long u7), .second, .val (.double u8), .second, .val (.long u9), .second, .val (.long v10_l25), .second, .val (.long v10_l27), .second, .val (.ref b12), .val (.int (f6 v10_l25 u1 u2 u4)), .val (.long (u2 - u4)), .second, .val (.int (0 : Int32))] [])) _
          refine XS.goto X14.here hx rfl (pc0 := 164) (pc' := 185) rfl (hb hby at_164) (by decide) (by decide) ?_
          exact kt
        exact J15 _ _ (0 : Int32) ((if_neg c144_16).trans (if_pos c158_17)).symm X14 e14 N13
      · refine Gl.up (B := T14.setTop (mkF m 175 #[.val (.long tt), .second, .val (.long us), .second, .val (.long ca), .second, .val (.long fz), .second, .val (.long pr), .second, .val (.int mo), .val (.long u1), .second, .val (.long u2), .second, .val (.long u4), .second, .val (.long u6), .second, .val (.long u7), .second, .val (.double u8), .second, .val (.long u9), .second, .val (.long v10_l25), .second, .val (.long v10_l27), .second, .val (.ref b12), .val (.int (f6 v10_l25 u1 u2 u4)), .val (.long (u2 - u4)), .second, .unset] [(.int (lcmpW (u1 - (u2 - u4)) v10_l27))])) (fun t kt => ?_) ?_
        · show Steps p.tables e below (T14.setTop (mkF m 158 #[.val (.long tt), .second, .val (.long us), .second, .val (.long ca), .second, .val (.long fz), .second, .val (.long pr), .second, .val (.int mo), .val (.long u1), .second, .val (.long u2), .second, .val (.long u4), .second, .val (.long u6), .second, .val (.long u7), .second, .val (.double u8), .second, .val (.long u9), .second, .val (.long v10_l25), .second, .val (.long v10_l27), .second, .val (.ref b12), .val (.int (f6 v10_l25 u1 u2 u4)), .val (.long (u2 - u4)), .second, .unset] [(.int (lcmpW (u2 - u4) u1))])) _
          refine XS.ifYes X14.here hx rfl (pc0 := 158) (pc' := 167) rfl (hb hby at_158) rfl (jc_le_t c158_17) (by decide) (by decide) ?_
          show Steps p.tables e below (T14.setTop (mkF m 167 #[.val (.long tt), .second, .val (.long us), .second, .val (.long ca), .second, .val (.long fz), .second, .val (.long pr), .second, .val (.int mo), .val (.long u1), .second, .val (.long u2), .second, .val (.long u4), .second, .val (.long u6), .second, .val (.long u7), .second, .val (.double u8), .second, .val (.long u9), .second, .val (.long v10_l25), .second, .val (.long v10_l27), .second, .val (.ref b12), .val (.int (f6 v10_l25 u1 u2 u4)), .val (.long (u2 - u4)), .second, .unset] [])) _
          refine XS.lload X14.here hx rfl (hb hby at_167) rfl ?_
          show Steps p.tables e below (T14.setTop (mkF m 169 #[.val (.long tt), .second, .val (.long us), .second, .val (.long ca), .second, .val (.long fz), .second, .val (.long pr), .second, .val (.int mo), .val (.long u1), .second, .val (.long u2), .second, .val (.long u4), .second, .val (.long u6), .second, .val (.long u7), .second, .val (.double u8), .second, .val (.long u9), .second, .val (.long v10_l25), .second, .val (.long v10_l27), .second, .val (.ref b12), .val (.int (f6 v10_l25 u1 u2 u4)), .val (.long (u2 - u4)), .second, .unset] [(.long u1)])) _
          refine XS.lload X14.here hx rfl (hb hby at_169) rfl ?_
          show Steps p.tables e below (T14.setTop (mkF m 171 #[.val (.long tt), .second, .val (.long us), .second, .val (.long ca), .second, .val (.long fz), .second, .val (.long pr), .second, .val (.int mo), .val (.long u1), .second, .val (.long u2), .second, .val (.long u4), .second, .val (.long u6), .second, .val (.long u7), .second, .val (.double u8), .second, .val (.long u9), .second, .val (.long v10_l25), .second, .val (.long v10_l27), .second, .val (.ref b12), .val (.int (f6 v10_l25 u1 u2 u4)), .val (.long (u2 - u4)), .second, .unset] [(.long (u2 - u4)), (.long u1)])) _
          refine XS.lsub X14.here hx rfl (hb hby at_171) rfl ?_
          show Steps p.tables e below (T14.setTop (mkF m 172 #[.val (.long tt), .second, .val (.long us), .second, .val (.long ca), .second, .val (.long fz), .second, .val (.long pr), .second, .val (.int mo), .val (.long u1), .second, .val (.long u2), .second, .val (.long u4), .second, .val (.long u6), .second, .val (.long u7), .second, .val (.double u8), .second, .val (.long u9), .second, .val (.long v10_l25), .second, .val (.long v10_l27), .second, .val (.ref b12), .val (.int (f6 v10_l25 u1 u2 u4)), .val (.long (u2 - u4)), .second, .unset] [(.long (u1 - (u2 - u4)))])) _
          refine XS.lload X14.here hx rfl (hb hby at_172) rfl ?_
          show Steps p.tables e below (T14.setTop (mkF m 174 #[.val (.long tt), .second, .val (.long us), .second, .val (.long ca), .second, .val (.long fz), .second, .val (.long pr), .second, .val (.int mo), .val (.long u1), .second, .val (.long u2), .second, .val (.long u4), .second, .val (.long u6), .second, .val (.long u7), .second, .val (.double u8), .second, .val (.long u9), .second, .val (.long v10_l25), .second, .val (.long v10_l27), .second, .val (.ref b12), .val (.int (f6 v10_l25 u1 u2 u4)), .val (.long (u2 - u4)), .second, .unset] [(.long v10_l27), (.long (u1 - (u2 - u4)))])) _
          refine XS.lcmp X14.here hx rfl (hb hby at_174) rfl ?_
          exact kt
        suffices J18 : ∀ (T18 : State) (lc18 : List Loc) (v18_s0 : Int32), v18_s0 = (if (u1 - (u2 - u4)) < v10_l27 then (0 : Int32) else (1 : Int32)) → Stand p l e room_1 s m args below meth c T18 lc18 1 8 → T18.heap = T13.heap → Fr n0 lc18 → Gl p e below (Ret s 1 8 (Q0 n0)) (T18.setTop (mkF m 183 #[.val (.long tt), .second, .val (.long us), .second, .val (.long ca), .second, .val (.long fz), .second, .val (.long pr), .second, .val (.int mo), .val (.long u1), .second, .val (.long u2), .second, .val (.long u4), .second, .val (.long u6), .second, .val (.long u7), .second, .val (.double u8), .second, .val (.long u9), .second, .val (.long v10_l25), .second, .val (.long v10_l27), .second, .val (.ref b12), .val (.int (f6 v10_l25 u1 u2 u4)), .val (.long (u2 - u4)), .second, .unset] [(.int v18_s0)])) by
          by_cases c175_19 : (u1 - (u2 - u4)) < v10_l27
          · refine Gl.up (B := T14.setTop (mkF m 183 #[.val (.long tt), .second, .val (.long us), .second, .val (.long ca), .second, .val (.long fz), .second, .val (.long pr), .second, .val (.int mo), .val (.long u1), .second, .val (.long u2), .second, .val (.long u4), .second, .val (.long u6), .second, .val (.long u7), .second, .val (.double u8), .second, .val (.long u9), .second, .val (.long v10_l25), .second, .val (.long v10_l27), .second, .val (.ref b12), .val (.int (f6 v10_l25 u1 u2 u4)), .val (.long (u2 - u4)), .second, .unset] [(.int (0 : Int32))])) (fun t kt => ?_) ?_
            · show Steps p.tables e below (T14.setTop (mkF m 175 #[.val (.long tt), .second, .val (.long us), .second, .val (.long ca), .second, .val (.long fz), .second, .val (.long pr), .second, .val (.int mo), .val (.long u1), .second, .val (.long u2), .second, .val (.long u4), .second, .val (.long u6), .second, .val (.long u7), .second, .val (.double u8), .second, .val (.long u9), .second, .val (.long v10_l25), .second, .val (.long v10_l27), .second, .val (.ref b12), .val (.int (f6 v10_l25 u1 u2 u4)), .val (.long (u2 - u4)), .second, .unset] [(.int (lcmpW (u1 - (u2 - u4)) v10_l27))])) _
              refine XS.ifYes X14.here hx rfl (pc0 := 175) (pc' := 182) rfl (hb hby at_175) rfl (jc_lt_t c175_19) (by decide) (by decide) ?_
              show Steps p.tables e below (T14.setTop (mkF m 182 #[.val (.long tt), .second, .val (.long us), .second, .val (.long ca), .second, .val (.long fz), .second, .val (.long pr), .second, .val (.int mo), .val (.long u1), .second, .val (.long u2), .second, .val (.long u4), .second, .val (.long u6), .second, .val (.long u7), .second, .val (.double u8), .second, .val (.long u9), .second, .val (.long v10_l25), .second, .val (.long v10_l27), .second, .val (.ref b12), .val (.int (f6 v10_l25 u1 u2 u4)), .val (.long (u2 - u4)), .second, .unset] [])) _
              refine XS.iconst X14.here hx rfl (hb hby at_182) ?_
              exact kt
            exact J18 _ _ (0 : Int32) (if_pos c175_19).symm X14 e14 N13
          · refine Gl.up (B := T14.setTop (mkF m 183 #[.val (.long tt), .second, .val (.long us), .second, .val (.long ca), .second, .val (.long fz), .second, .val (.long pr), .second, .val (.int mo), .val (.long u1), .second, .val (.long u2), .second, .val (.long u4), .second, .val (.long u6), .second, .val (.long u7), .second, .val (.double u8), .second, .val (.long u9), .second, .val (.long v10_l25), .second, .val (.long v10_l27), .second, .val (.ref b12), .val (.int (f6 v10_l25 u1 u2 u4)), .val (.long (u2 - u4)), .second, .unset] [(.int (1 : Int32))])) (fun t kt => ?_) ?_
            · show Steps p.tables e below (T14.setTop (mkF m 175 #[.val (.long tt), .second, .val (.long us), .second, .val (.long ca), .second, .val (.long fz), .second, .val (.long pr), .second, .val (.int mo), .val (.long u1), .second, .val (.long u2), .second, .val (.long u4), .second, .val (.long u6), .second, .val (.long u7), .second, .val (.double u8), .second, .val (.long u9), .second, .val (.long v10_l25), .second, .val (.long v10_l27), .second, .val (.ref b12), .val (.int (f6 v10_l25 u1 u2 u4)), .val (.long (u2 - u4)), .second, .unset] [(.int (lcmpW (u1 - (u2 - u4)) v10_l27))])) _
              refine XS.ifNo X14.here hx rfl (hb hby at_175) rfl (jc_lt_f c175_19) ?_
              show Steps p.tables e below (T14.setTop (mkF m 178 #[.val (.long tt), .second, .val (.long us), .second, .val (.long ca), .second, .val (.long fz), .second, .val (.long pr), .second, .val (.int mo), .val (.long u1), .second, .val (.long u2), .second, .val (.long u4), .second, .val (.long u6), .second, .val (.long u7), .second, .val (.double u8), .second, .val (.long u9), .second, .val (.long v10_l25), .second, .val (.long v10_l27), .second, .val (.ref b12), .val (.int (f6 v10_l25 u1 u2 u4)), .val (.long (u2 - u4)), .second, .unset] [])) _
              refine XS.iconst X14.here hx rfl (hb hby at_178) ?_
              show Steps p.tables e below (T14.setTop (mkF m 179 #[.val (.long tt), .second, .val (.long us), .second, .val (.long ca), .second, .val (.long fz), .second, .val (.long pr), .second, .val (.int mo), .val (.long u1), .second, .val (.long u2), .second, .val (.long u4), .second, .val (.long u6), .second, .val (.long u7), .second, .val (.double u8), .second, .val (.long u9), .second, .val (.long v10_l25), .second, .val (.long v10_l27), .second, .val (.ref b12), .val (.int (f6 v10_l25 u1 u2 u4)), .val (.long (u2 - u4)), .second, .unset] [(.int (1 : Int32))])) _
              refine XS.goto X14.here hx rfl (pc0 := 179) (pc' := 183) rfl (hb hby at_179) (by decide) (by decide) ?_
              exact kt
            exact J18 _ _ (1 : Int32) (if_neg c175_19).symm X14 e14 N13
        intro T18 lc18 v18_s0 hv18_s0 X18 e18 N18
        subst hv18_s0
        refine Gl.up (B := T18.setTop (mkF m 185 #[.val (.long tt), .second, .val (.long us), .second, .val (.long ca), .second, .val (.long fz), .second, .val (.long pr), .second, .val (.int mo), .val (.long u1), .second, .val (.long u2), .second, .val (.long u4), .second, .val (.long u6), .second, .val (.long u7), .second, .val (.double u8), .second, .val (.long u9), .second, .val (.long v10_l25), .second, .val (.long v10_l27), .second, .val (.ref b12), .val (.int (f6 v10_l25 u1 u2 u4)), .val (.long (u2 - u4)), .second, .val (.int (if (u1 - (u2 - u4)) < v10_l27 then (0 : Int32) else (1 : Int32)))] [])) (fun t kt => ?_) ?_
        · show Steps p.tables e below (T18.setTop (mkF m 183 #[.val (.long tt), .second, .val (.long us), .second, .val (.long ca), .second, .val (.long fz), .second, .val (.long pr), .second, .val (.int mo), .val (.long u1), .second, .val (.long u2), .second, .val (.long u4), .second, .val (.long u6), .second, .val (.long u7), .second, .val (.double u8), .second, .val (.long u9), .second, .val (.long v10_l25), .second, .val (.long v10_l27), .second, .val (.ref b12), .val (.int (f6 v10_l25 u1 u2 u4)), .val (.long (u2 - u4)), .second, .unset] [(.int (if (u1 - (u2 - u4)) < v10_l27 then (0 : Int32) else (1 : Int32)))])) _
          refine XS.istore X18.here hx rfl (hb hby at_183) rfl (l' := #[.val (.long tt), .second, .val (.long us), .second, .val (.long ca), .second, .val (.long fz), .second, .val (.long pr), .second, .val (.int mo), .val (.long u1), .second, .val (.long u2), .second, .val (.long u4), .second, .val (.long u6), .second, .val (.long u7), .second, .val (.double u8), .second, .val (.long u9), .second, .val (.long v10_l25), .second, .val (.long v10_l27), .second, .val (.ref b12), .val (.int (f6 v10_l25 u1 u2 u4)), .val (.long (u2 - u4)), .second, .val (.int (if (u1 - (u2 - u4)) < v10_l27 then (0 : Int32) else (1 : Int32)))]) rfl ?_
          exact kt
        exact J15 _ _ (if (u1 - (u2 - u4)) < v10_l27 then (0 : Int32) else (1 : Int32)) ((if_neg c144_16).trans (if_neg c158_17)).symm X18 e18 N18
  intro T15 lc15 v15_l33 hv15_l33 X15 e15 N15
  have hv15_l33b : v15_l33 = 0 ∨ v15_l33 = 1 := by rw [hv15_l33]; exact (b01_ite (Or.inr rfl) (b01_ite (Or.inl rfl) (b01_ite (Or.inl rfl) (Or.inr rfl))))
  refine Gl.up (B := T15.setTop (mkF m 197 #[.val (.long tt), .second, .val (.long us), .second, .val (.long ca), .second, .val (.long fz), .second, .val (.long pr), .second, .val (.int mo), .val (.long u1), .second, .val (.long u2), .second, .val (.long u4), .second, .val (.long u6), .second, .val (.long u7), .second, .val (.double u8), .second, .val (.long u9), .second, .val (.long v10_l25), .second, .val (.long v10_l27), .second, .val (.ref b12), .val (.int (f6 v10_l25 u1 u2 u4)), .val (.long (u2 - u4)), .second, .val (.int v15_l33)] [(.int (1 : Int32))])) (fun t kt => ?_) ?_
  · show Steps p.tables e below (T15.setTop (mkF m 185 #[.val (.long tt), .second, .val (.long us), .second, .val (.long ca), .second, .val (.long fz), .second, .val (.long pr), .second, .val (.int mo), .val (.long u1), .second, .val (.long u2), .second, .val (.long u4), .second, .val (.long u6), .second, .val (.long u7), .second, .val (.double u8), .second, .val (.long u9), .second, .val (.long v10_l25), .second, .val (.long v10_l27), .second, .val (.ref b12), .val (.int (f6 v10_l25 u1 u2 u4)), .val (.long (u2 - u4)), .second, .val (.int v15_l33)] [])) _
    refine XS.iload X15.here hx rfl (hb hby at_185) rfl ?_
    show Steps p.tables e below (T15.setTop (mkF m 187 #[.val (.long tt), .second, .val (.long us), .second, .val (.long ca), .second, .val (.long fz), .second, .val (.long pr), .second, .val (.int mo), .val (.long u1), .second, .val (.long u2), .second, .val (.long u4), .second, .val (.long u6), .second, .val (.long u7), .second, .val (.double u8), .second, .val (.long u9), .second, .val (.long v10_l25), .second, .val (.long v10_l27), .second, .val (.ref b12), .val (.int (f6 v10_l25 u1 u2 u4)), .val (.long (u2 - u4)), .second, .val (.int v15_l33)] [(.int (f6 v10_l25 u1 u2 u4))])) _
    refine XS.iload X15.here hx rfl (hb hby at_187) rfl ?_
    show Steps p.tables e below (T15.setTop (mkF m 189 #[.val (.long tt), .second, .val (.long us), .second, .val (.long ca), .second, .val (.long fz), .second, .val (.long pr), .second, .val (.int mo), .val (.long u1), .second, .val (.long u2), .second, .val (.long u4), .second, .val (.long u6), .second, .val (.long u7), .second, .val (.double u8), .second, .val (.long u9), .second, .val (.long v10_l25), .second, .val (.long v10_l27), .second, .val (.ref b12), .val (.int (f6 v10_l25 u1 u2 u4)), .val (.long (u2 - u4)), .second, .val (.int v15_l33)] [(.int v15_l33), (.int (f6 v10_l25 u1 u2 u4))])) _
    refine XS.icmpNo X15.here hx rfl (hb hby at_189) rfl (teq (by exact own_main hT hU hCA (own_and63 _) hv10_l25 hv10_l27 hv15_l33)).2 ?_
    show Steps p.tables e below (T15.setTop (mkF m 192 #[.val (.long tt), .second, .val (.long us), .second, .val (.long ca), .second, .val (.long fz), .second, .val (.long pr), .second, .val (.int mo), .val (.long u1), .second, .val (.long u2), .second, .val (.long u4), .second, .val (.long u6), .second, .val (.long u7), .second, .val (.double u8), .second, .val (.long u9), .second, .val (.long v10_l25), .second, .val (.long v10_l27), .second, .val (.ref b12), .val (.int (f6 v10_l25 u1 u2 u4)), .val (.long (u2 - u4)), .second, .val (.int v15_l33)] [])) _
    refine XS.iconst X15.here hx rfl (hb hby at_192) ?_
    show Steps p.tables e below (T15.setTop (mkF m 193 #[.val (.long tt), .second, .val (.long us), .second, .val (.long ca), .second, .val (.long fz), .second, .val (.long pr), .second, .val (.int mo), .val (.long u1), .second, .val (.long u2), .second, .val (.long u4), .second, .val (.long u6), .second, .val (.long u7), .second, .val (.double u8), .second, .val (.long u9), .second, .val (.long v10_l25), .second, .val (.long v10_l27), .second, .val (.ref b12), .val (.int (f6 v10_l25 u1 u2 u4)), .val (.long (u2 - u4)), .second, .val (.int v15_l33)] [(.int (1 : Int32))])) _
    refine XS.goto X15.here hx rfl (pc0 := 193) (pc' := 197) rfl (hb hby at_193) (by decide) (by decide) ?_
    exact kt
  refine Gl.retN X15 hx hlk (t := .boolean) Bd.returns (by simp) (hb hby at_197) (w := (1 : Int32)) rfl ?_ (by decide) (by decide)
  exact ⟨rfl, N15⟩
set_option maxRecDepth 65536 in
set_option maxHeartbeats 40000000 in
theorem comes_1 {Post : Tables → Env → Array Value → State → Outcome → State → Prop} (hpost : ∀ tb e args s v u, (limb_1_1.after args s (.returned v) u = true ∧ limb_1_2.after args s (.returned v) u = true) → FrameEnd s (.returned v) u (Jvm.fieldLocs frame_1_writes args s ++ Jvm.arrayLocs frame_1_arrays args s ++ Jvm.staticLocs frame_1_statics s) 16 128 → Post tb e args s (.returned v) u) :
    ArmFor flags0 classFile x code maxLocals ret World_1 tables_1 room_1 Calls_1 rest_1 Pre_1 Post := by
  intro l hfl _ _ p e ha hc hk s m args below hf hA hF happ hP
  obtain ⟨hcalls, hrest, hpre⟩ := hP
  obtain ⟨-, -, -, hnamed, -, -, -, hat⟩ := (Spec.applies_iff hf).mp happ
  obtain ⟨hg, hn⟩ := and_e (Cond.before_iff.mp (show (Jvm.Cond.and given_1 narrow_1).before args s = true from hpre))
  obtain ⟨hcnt, hg0⟩ := and_e hg
  obtain ⟨ha0, hg1⟩ := and_e hg0
  obtain ⟨ha1, hg2⟩ := and_e hg1
  obtain ⟨ha2, hg3⟩ := and_e hg2
  obtain ⟨ha3, hg4⟩ := and_e hg3
  obtain ⟨ha4, hg5⟩ := and_e hg4
  obtain ⟨w0, w1, w2, w3, w4, w5, rfl⟩ : ∃ w0 w1 w2 w3 w4 w5 : Value, args = #[w0, w1, w2, w3, w4, w5] := by
    have hs : args.size = 6 := by simpa [Cond.value, given_1] using hcnt
    obtain ⟨L⟩ := args
    match L, hs with
    | [w0, w1, w2, w3, w4, w5], _ => exact ⟨w0, w1, w2, w3, w4, w5, rfl⟩
  have hw := fun d (hd : d ∈ tables_1) => atoms_spec (ws := Jvm.Cond.code x code maxLocals ret :: tables_1) hat d (List.mem_cons_of_mem _ hd)
  obtain ⟨i0, ei0⟩ := isL_v ha0
  obtain rfl : w0 = (.long i0) := Option.some.inj ei0
  obtain ⟨i1, ei1⟩ := isL_v ha1
  obtain rfl : w1 = (.long i1) := Option.some.inj ei1
  obtain ⟨i2, ei2⟩ := isL_v ha2
  obtain rfl : w2 = (.long i2) := Option.some.inj ei2
  obtain ⟨i3, ei3⟩ := isL_v ha3
  obtain rfl : w3 = (.long i3) := Option.some.inj ei3
  obtain ⟨i4, ei4⟩ := isL_v ha4
  obtain rfl : w4 = (.long i4) := Option.some.inj ei4
  obtain ⟨i5, ei5⟩ := is_v hg5
  obtain rfl : w5 = (.int i5) := Option.some.inj ei5
  obtain ⟨n, o, h1, h2, h3, _, L, rfl, ⟨rfl, N⟩, hq⟩ := rm0 l s _ hw tables_1 i0 i1 i2 i3 i4 i5  s.heap s.heap.size (Old.start s)  p e ha hc hk s m _ below hf ((Spec.applies_iff_loose hf).mp happ).1 ⟨rfl, State.Warmed39.refl s, rfl⟩ trivial
  exact ⟨n, _, h1, h2, h3, hpost _ _ _ _ _ _ ⟨Cond.after_iff.mpr rfl, Cond.after_iff.mpr (eq_i res_at (Term.int_eval (1)) rfl)⟩ ⟨hq.1, hq.2.1, (hq.2.2.sift fun y hy => Or.inr (N y hy)).mono (by decide) (by decide)⟩⟩
theorem main_1_1 : Claimed_1_1 := comes_1 fun _ _ _ _ _ _ h hF => ⟨h.1, hF⟩
theorem main_1_2 : Claimed_1_2 := comes_1 fun _ _ _ _ _ _ h hF => ⟨h.2, hF⟩
end Jvm.Pilot.@@N@@
namespace Jvm.Pilot.@@N@@
open Jvm Jvm.ClassFile Sem Op Lib Jvm.Free Jvm.Stand Jvm.Pilot.@@N@@.Jvm.D
/-! MADE BY PROGRAM (witnessworld.py) out of the Statement's table words and the real class files: 15 classes; the members and pool entries that the words name. The judged class is class 1, her method 1. -/
namespace start1
open Jvm.ClassFile
def u (s : String) : CpInfo := .utf8 (stringToUtf16 s)
/-- a pool by its gaps: so many unusable entries, then the entry; so many at the end -/
def gap : Nat → List CpInfo → List CpInfo
  | 0, r => r
  | n + 1, r => .unusable :: gap n r
def poolList (es : List (Nat × CpInfo)) (last : Nat) : List CpInfo := es.foldr (fun e r => gap e.1 (e.2 :: r)) (gap last [])
def pool (es : List (Nat × CpInfo)) (last : Nat) : Array CpInfo := ⟨poolList es last⟩
def fileOf (pool : Array CpInfo) (this : Nat) (attrs : Array Attribute := #[]) (ms : Array MethodInfo := #[]) (fl : Nat := 33) (sup : Nat := 0) (ifs : Array Nat := #[]) (fds : Array FieldInfo := #[]) : ClassFile where
  minorVersion := 0
  majorVersion := 65
  constantPool := pool
  accessFlags := fl
  thisClass := this
  superClass := sup
  interfaces := ifs
  fields := fds
  methods := ms
  attributes := attrs
def plain (name : String) (sup : Option ClassId) : Class where
  name := name
  kind := .ordinary
  loader := none
  accessFlags := 33
  super := sup
  interfaces := #[]
  cf := none
  fields := #[]
  methods := #[]
  instanceTypes := #[]
  staticTypes := #[]
  resolved := #[]
  callSites := []
  init := .initialized
  statics := none
  mirror := none

def pool0 : Array CpInfo := pool [(5, u "<init>"), (0, u "()V"), (1, .class_ 10), (1, u "java/lang/Object")] 113

def k0c0 : Code := { maxStack := 0, maxLocals := 1, code := object_method_1_code, exceptionTable := #[], attributes := #[] }
def k0m0 : Method := { name := "<init>", desc := "()V", sig := { parameters := [], returnType := none }, accessFlags := 1, code := some k0c0 }
/-- java/lang/Object -/
def k0 : Class := { plain "java/lang/Object" none with
  accessFlags := 33
  interfaces := #[]
  cf := some (fileOf pool0 8 #[] #[{ accessFlags := 1, nameIndex := 5, descriptorIndex := 6, attributes := #[] }] 33 0 #[] #[])
  fields := #[]
  methods := #[k0m0]
  instanceTypes := #[]
  staticTypes := #[]
  resolved := Array.replicate 124 none
  statics := none }

def pool1 : Array CpInfo := pool [(2, .class_ 4), (1, u "java/lang/Object"), (0, u "<init>"), (0, u "()V"), (2, .long 9223372036854775807), (1, .methodref 12 13), (0, .class_ 14), (0, .nameAndType 15 16), (0, u "java/lang/Math"), (0, u "min"), (0, u "(JJ)J"), (0, .class_ 18), (0, u "com/example/pooltergeist/pooltergeist/poolmanager/SpaceStatus"), (0, .long 18446744073709551615), (1, .long 50000000), (1, .methodref 17 24), (0, .nameAndType 5 25), (0, u "(JJJJJDJ)V"), (0, .methodref 17 27), (0, .nameAndType 28 29), (0, u "hasRoomFor"), (0, u "(J)Z"), (0, .class_ 31), (0, u "com/example/pooltergeist/pooltergeist/poolmanager/SpaceStatusHasRoomForPinLaw"), (2, u "law"), (0, u "(JJJJJI)Z")] 3

def k1m0 : Method := { name := "<init>", desc := "()V", sig := { parameters := [], returnType := none }, accessFlags := 1, code := none }
def k1c1 : Code := { maxStack := 16, maxLocals := 34, code := code, exceptionTable := #[], attributes := #[] }
def k1m1 : Method := { name := "law", desc := "(JJJJJI)Z", sig := { parameters := [.long, .long, .long, .long, .long, .int], returnType := some .boolean }, accessFlags := 9, code := some k1c1 }
/-- com/example/pooltergeist/pooltergeist/poolmanager/SpaceStatusHasRoomForPinLaw -/
def k1 : Class := { plain "com/example/pooltergeist/pooltergeist/poolmanager/SpaceStatusHasRoomForPinLaw" (some 0) with
  accessFlags := 49
  interfaces := #[]
  cf := some (fileOf pool1 30 #[] #[{ accessFlags := 1, nameIndex := 5, descriptorIndex := 6, attributes := #[] }, { accessFlags := 9, nameIndex := 34, descriptorIndex := 35, attributes := #[] }] 49 2 #[] #[])
  fields := #[]
  methods := #[k1m0, k1m1]
  instanceTypes := #[]
  staticTypes := #[]
  resolved := Array.replicate 39 none
  statics := none }

def pool2 : Array CpInfo := pool [(1, .class_ 2), (0, u "java/lang/Math"), (1, .class_ 6), (1, u "java/lang/Object"), (0, u "<init>"), (0, u "()V"), (5, u "(D)D"), (83, .class_ 100), (1, u "java/lang/Math$RandomNumberGeneratorHolder"), (20, u "(JJ)J"), (2, u "abs"), (47, u "negativeZeroFloatBits"), (0, u "J"), (2, u "negativeZeroDoubleBits"), (21, u "max"), (2, u "min"), (43, u "$assertionsDisabled"), (0, u "Z"), (91, u "twoToTheDoubleScaleDown"), (0, u "D"), (4, u "twoToTheDoubleScaleUp"), (9, u "E"), (3, u "PI"), (2, u "TAU"), (2, u "DEGREES_TO_RADIANS"), (0, u "RADIANS_TO_DEGREES")] 94

def k2m0 : Method := { name := "<init>", desc := "()V", sig := { parameters := [], returnType := none }, accessFlags := 2, code := none }
def k2c1 : Code := { maxStack := 4, maxLocals := 2, code := jdk_29_method_64_code, exceptionTable := #[], attributes := #[] }
def k2m1 : Method := { name := "abs", desc := "(D)D", sig := { parameters := [.double], returnType := some .double }, accessFlags := 9, code := some k2c1 }
def k2c2 : Code := { maxStack := 4, maxLocals := 4, code := jdk_29_method_66_code, exceptionTable := #[], attributes := #[] }
def k2m2 : Method := { name := "max", desc := "(JJ)J", sig := { parameters := [.long, .long], returnType := some .long }, accessFlags := 9, code := some k2c2 }
def k2c3 : Code := { maxStack := 4, maxLocals := 4, code := jdk_29_method_70_code, exceptionTable := #[], attributes := #[] }
def k2m3 : Method := { name := "min", desc := "(JJ)J", sig := { parameters := [.long, .long], returnType := some .long }, accessFlags := 9, code := some k2c3 }
/-- java/lang/Math -/
def k2 : Class := { plain "java/lang/Math" (some 0) with
  accessFlags := 49
  interfaces := #[]
  cf := some (fileOf pool2 1 #[.nestMembers #[98]] #[{ accessFlags := 2, nameIndex := 7, descriptorIndex := 8, attributes := #[] }, { accessFlags := 9, nameIndex := 124, descriptorIndex := 14, attributes := #[] }, { accessFlags := 9, nameIndex := 198, descriptorIndex := 121, attributes := #[] }, { accessFlags := 9, nameIndex := 201, descriptorIndex := 121, attributes := #[] }] 49 4 #[] #[{ accessFlags := 25, nameIndex := 354, descriptorIndex := 339, attributes := #[] }, { accessFlags := 25, nameIndex := 358, descriptorIndex := 339, attributes := #[] }, { accessFlags := 25, nameIndex := 361, descriptorIndex := 339, attributes := #[] }, { accessFlags := 26, nameIndex := 364, descriptorIndex := 339, attributes := #[] }, { accessFlags := 26, nameIndex := 365, descriptorIndex := 339, attributes := #[] }, { accessFlags := 26, nameIndex := 172, descriptorIndex := 173, attributes := #[] }, { accessFlags := 26, nameIndex := 176, descriptorIndex := 173, attributes := #[] }, { accessFlags := 8, nameIndex := 344, descriptorIndex := 339, attributes := #[] }, { accessFlags := 8, nameIndex := 338, descriptorIndex := 339, attributes := #[] }, { accessFlags := 4120, nameIndex := 245, descriptorIndex := 246, attributes := #[] }])
  fields := #[{ name := "E", type := .double, accessFlags := 25, slot := 0, constantValue := 0 }, { name := "PI", type := .double, accessFlags := 25, slot := 1, constantValue := 0 }, { name := "TAU", type := .double, accessFlags := 25, slot := 2, constantValue := 0 }, { name := "DEGREES_TO_RADIANS", type := .double, accessFlags := 26, slot := 3, constantValue := 0 }, { name := "RADIANS_TO_DEGREES", type := .double, accessFlags := 26, slot := 4, constantValue := 0 }, { name := "negativeZeroFloatBits", type := .long, accessFlags := 26, slot := 5, constantValue := 0 }, { name := "negativeZeroDoubleBits", type := .long, accessFlags := 26, slot := 6, constantValue := 0 }, { name := "twoToTheDoubleScaleUp", type := .double, accessFlags := 8, slot := 7, constantValue := 0 }, { name := "twoToTheDoubleScaleDown", type := .double, accessFlags := 8, slot := 8, constantValue := 0 }, { name := "$assertionsDisabled", type := .boolean, accessFlags := 4120, slot := 9, constantValue := 0 }]
  methods := #[k2m0, k2m1, k2m2, k2m3]
  instanceTypes := #[]
  staticTypes := #[.double, .double, .double, .double, .double, .long, .long, .double, .double, .boolean]
  resolved := Array.replicate 460 none
  statics := none }

def pool3 : Array CpInfo := pool [(1, .methodref 2 3), (0, .class_ 4), (0, .nameAndType 5 6), (0, u "java/lang/Object"), (0, u "<init>"), (0, u "()V"), (0, .methodref 8 9), (0, .class_ 10), (0, .nameAndType 11 12), (0, u "java/lang/Double"), (0, u "isInfinite"), (0, u "(D)Z"), (9, .fieldref 23 24), (0, .class_ 25), (0, .nameAndType 26 27), (0, u "com/example/pooltergeist/pooltergeist/poolmanager/SpaceStatus"), (0, u "total"), (0, u "J"), (0, .fieldref 23 29), (0, .nameAndType 30 27), (0, u "used"), (0, .fieldref 23 32), (0, .nameAndType 33 27), (0, u "precious"), (0, .fieldref 23 35), (0, .nameAndType 36 27), (0, u "cached"), (0, .methodref 38 39), (0, .class_ 40), (0, .nameAndType 41 42), (0, u "java/lang/Math"), (0, u "max"), (0, u "(JJ)J"), (0, .fieldref 23 44), (0, .nameAndType 45 27), (0, u "free"), (0, .fieldref 23 47), (0, .nameAndType 48 27), (0, u "gap"), (0, .fieldref 23 50), (0, .nameAndType 51 52), (0, u "breakeven"), (0, u "D"), (0, .fieldref 23 54), (0, .nameAndType 55 27), (0, u "lruSeconds"), (0, .methodref 23 57), (0, .nameAndType 58 59), (0, u "neededBytes"), (0, u "(J)J"), (0, .long 50000000), (10, .long 18446744073709551615), (26, u "(JJJJJDJ)V"), (16, u "CODEC"), (0, u "Lcom/example/pooltergeist/pooltergeist/cells/Codec;"), (0, u "UNKNOWN_SIZE"), (3, u "SMALLEST_COSTED_SIZE"), (0, u "WEEK_SECONDS"), (0, u "LEAST_COSTED_AGE_SECONDS"), (5, u "hasRoomFor"), (0, u "(J)Z")] 56

def k3c0 : Code := { maxStack := 16, maxLocals := 15, code := prog_79_method_1_code, exceptionTable := #[], attributes := #[] }
def k3m0 : Method := { name := "<init>", desc := "(JJJJJDJ)V", sig := { parameters := [.long, .long, .long, .long, .long, .double, .long], returnType := none }, accessFlags := 1, code := some k3c0 }
def k3c1 : Code := { maxStack := 4, maxLocals := 5, code := prog_79_method_3_code, exceptionTable := #[], attributes := #[] }
def k3m1 : Method := { name := "hasRoomFor", desc := "(J)Z", sig := { parameters := [.long], returnType := some .boolean }, accessFlags := 0, code := some k3c1 }
def k3c2 : Code := { maxStack := 4, maxLocals := 2, code := prog_79_method_5_code, exceptionTable := #[], attributes := #[] }
def k3m2 : Method := { name := "neededBytes", desc := "(J)J", sig := { parameters := [.long], returnType := some .long }, accessFlags := 10, code := some k3c2 }
/-- com/example/pooltergeist/pooltergeist/poolmanager/SpaceStatus -/
def k3 : Class := { plain "com/example/pooltergeist/pooltergeist/poolmanager/SpaceStatus" (some 0) with
  accessFlags := 33
  interfaces := #[]
  cf := some (fileOf pool3 23 #[] #[{ accessFlags := 1, nameIndex := 5, descriptorIndex := 98, attributes := #[] }, { accessFlags := 0, nameIndex := 129, descriptorIndex := 130, attributes := #[] }, { accessFlags := 10, nameIndex := 58, descriptorIndex := 59, attributes := #[] }] 33 2 #[] #[{ accessFlags := 25, nameIndex := 117, descriptorIndex := 27, attributes := #[] }, { accessFlags := 24, nameIndex := 115, descriptorIndex := 116, attributes := #[] }, { accessFlags := 26, nameIndex := 121, descriptorIndex := 27, attributes := #[] }, { accessFlags := 26, nameIndex := 122, descriptorIndex := 52, attributes := #[] }, { accessFlags := 26, nameIndex := 123, descriptorIndex := 27, attributes := #[] }, { accessFlags := 18, nameIndex := 26, descriptorIndex := 27, attributes := #[] }, { accessFlags := 18, nameIndex := 30, descriptorIndex := 27, attributes := #[] }, { accessFlags := 18, nameIndex := 33, descriptorIndex := 27, attributes := #[] }, { accessFlags := 18, nameIndex := 36, descriptorIndex := 27, attributes := #[] }, { accessFlags := 18, nameIndex := 45, descriptorIndex := 27, attributes := #[] }, { accessFlags := 18, nameIndex := 48, descriptorIndex := 27, attributes := #[] }, { accessFlags := 18, nameIndex := 51, descriptorIndex := 52, attributes := #[] }, { accessFlags := 18, nameIndex := 55, descriptorIndex := 27, attributes := #[] }])
  fields := #[{ name := "UNKNOWN_SIZE", type := .long, accessFlags := 25, slot := 0, constantValue := 0 }, { name := "CODEC", type := (.object "com/example/pooltergeist/pooltergeist/cells/Codec"), accessFlags := 24, slot := 1, constantValue := 0 }, { name := "SMALLEST_COSTED_SIZE", type := .long, accessFlags := 26, slot := 2, constantValue := 0 }, { name := "WEEK_SECONDS", type := .double, accessFlags := 26, slot := 3, constantValue := 0 }, { name := "LEAST_COSTED_AGE_SECONDS", type := .long, accessFlags := 26, slot := 4, constantValue := 0 }, { name := "total", type := .long, accessFlags := 18, slot := 0, constantValue := 0 }, { name := "used", type := .long, accessFlags := 18, slot := 1, constantValue := 0 }, { name := "precious", type := .long, accessFlags := 18, slot := 2, constantValue := 0 }, { name := "cached", type := .long, accessFlags := 18, slot := 3, constantValue := 0 }, { name := "free", type := .long, accessFlags := 18, slot := 4, constantValue := 0 }, { name := "gap", type := .long, accessFlags := 18, slot := 5, constantValue := 0 }, { name := "breakeven", type := .double, accessFlags := 18, slot := 6, constantValue := 0 }, { name := "lruSeconds", type := .long, accessFlags := 18, slot := 7, constantValue := 0 }]
  methods := #[k3m0, k3m1, k3m2]
  instanceTypes := #[.long, .long, .long, .long, .long, .long, .double, .long]
  staticTypes := #[.long, (.object "com/example/pooltergeist/pooltergeist/cells/Codec"), .long, .double, .long]
  resolved := Array.replicate 187 none
  statics := none }

def pool4 : Array CpInfo := pool [(1, .class_ 2), (0, u "java/io/Serializable"), (0, .class_ 4), (0, u "java/lang/Object")] 2

/-- java/io/Serializable -/
def k4 : Class := { plain "java/io/Serializable" (some 0) with
  accessFlags := 1537
  interfaces := #[]
  cf := some (fileOf pool4 1 #[] #[] 1537 3 #[] #[])
  fields := #[]
  methods := #[]
  instanceTypes := #[]
  staticTypes := #[]
  resolved := Array.replicate 7 none
  statics := none }

def pool5 : Array CpInfo := pool [(2, .class_ 4), (1, u "java/lang/Object"), (0, u "<init>"), (0, u "()V"), (1, .class_ 10), (1, u "java/lang/Number"), (2, .class_ 14), (0, u "java/io/Serializable"), (0, u "serialVersionUID"), (0, u "J")] 20

def k5m0 : Method := { name := "<init>", desc := "()V", sig := { parameters := [], returnType := none }, accessFlags := 1, code := none }
/-- java/lang/Number -/
def k5 : Class := { plain "java/lang/Number" (some 0) with
  accessFlags := 1057
  interfaces := #[4]
  cf := some (fileOf pool5 8 #[] #[{ accessFlags := 1, nameIndex := 5, descriptorIndex := 6, attributes := #[] }] 1057 2 #[13] #[{ accessFlags := 26, nameIndex := 15, descriptorIndex := 16, attributes := #[] }])
  fields := #[{ name := "serialVersionUID", type := .long, accessFlags := 26, slot := 0, constantValue := 0 }]
  methods := #[k5m0]
  instanceTypes := #[]
  staticTypes := #[.long]
  resolved := Array.replicate 37 none
  statics := none }

def pool6 : Array CpInfo := pool [(1, .class_ 2), (0, u "java/lang/Comparable"), (0, .class_ 4), (0, u "java/lang/Object")] 7

/-- java/lang/Comparable -/
def k6 : Class := { plain "java/lang/Comparable" (some 0) with
  accessFlags := 1537
  interfaces := #[]
  cf := some (fileOf pool6 1 #[] #[] 1537 3 #[] #[])
  fields := #[]
  methods := #[]
  instanceTypes := #[]
  staticTypes := #[]
  resolved := Array.replicate 12 none
  statics := none }

def pool7 : Array CpInfo := pool [(1, .class_ 2), (0, u "java/lang/constant/Constable"), (0, .class_ 4), (0, u "java/lang/Object")] 6

/-- java/lang/constant/Constable -/
def k7 : Class := { plain "java/lang/constant/Constable" (some 0) with
  accessFlags := 1537
  interfaces := #[]
  cf := some (fileOf pool7 1 #[] #[] 1537 3 #[] #[])
  fields := #[]
  methods := #[]
  instanceTypes := #[]
  staticTypes := #[]
  resolved := Array.replicate 11 none
  statics := none }

def pool8 : Array CpInfo := pool [(1, .class_ 2), (0, u "java/lang/constant/ConstantDesc"), (0, .class_ 4), (0, u "java/lang/Object")] 32

/-- java/lang/constant/ConstantDesc -/
def k8 : Class := { plain "java/lang/constant/ConstantDesc" (some 0) with
  accessFlags := 1537
  interfaces := #[]
  cf := some (fileOf pool8 1 #[] #[] 1537 3 #[] #[])
  fields := #[]
  methods := #[]
  instanceTypes := #[]
  staticTypes := #[]
  resolved := Array.replicate 37 none
  statics := none }

def pool9 : Array CpInfo := pool [(1, .class_ 2), (0, u "java/lang/Double"), (11, u "(D)Z"), (8, .class_ 25), (1, u "java/lang/Math"), (12, .methodref 23 39), (0, .nameAndType 40 41), (0, u "abs"), (0, u "(D)D"), (69, .double 9218868437227405311), (2, .class_ 116), (1, u "java/lang/Number"), (3, u "value"), (0, u "D"), (5, u "isInfinite"), (45, u "TYPE"), (0, u "Ljava/lang/Class;"), (0, .class_ 176), (0, u "java/lang/Comparable"), (0, .class_ 178), (0, u "java/lang/constant/Constable"), (0, .class_ 180), (0, u "java/lang/constant/ConstantDesc"), (0, u "POSITIVE_INFINITY"), (3, u "NEGATIVE_INFINITY"), (2, u "NaN"), (2, u "MAX_VALUE"), (0, u "MIN_NORMAL"), (0, u "MIN_VALUE"), (2, u "SIZE"), (0, u "I"), (1, u "PRECISION"), (1, u "MAX_EXPONENT"), (1, u "MIN_EXPONENT"), (1, u "BYTES"), (3, u "serialVersionUID"), (0, u "J")] 79

def k9c0 : Code := { maxStack := 4, maxLocals := 2, code := jdk_117_method_7_code, exceptionTable := #[], attributes := #[] }
def k9m0 : Method := { name := "isInfinite", desc := "(D)Z", sig := { parameters := [.double], returnType := some .boolean }, accessFlags := 9, code := some k9c0 }
/-- java/lang/Double -/
def k9 : Class := { plain "java/lang/Double" (some 5) with
  accessFlags := 49
  interfaces := #[6, 7, 8]
  cf := some (fileOf pool9 1 #[] #[{ accessFlags := 9, nameIndex := 127, descriptorIndex := 14, attributes := #[] }] 49 114 #[175, 177, 179] #[{ accessFlags := 25, nameIndex := 181, descriptorIndex := 121, attributes := #[] }, { accessFlags := 25, nameIndex := 185, descriptorIndex := 121, attributes := #[] }, { accessFlags := 25, nameIndex := 188, descriptorIndex := 121, attributes := #[] }, { accessFlags := 25, nameIndex := 191, descriptorIndex := 121, attributes := #[] }, { accessFlags := 25, nameIndex := 192, descriptorIndex := 121, attributes := #[] }, { accessFlags := 25, nameIndex := 193, descriptorIndex := 121, attributes := #[] }, { accessFlags := 25, nameIndex := 196, descriptorIndex := 197, attributes := #[] }, { accessFlags := 25, nameIndex := 199, descriptorIndex := 197, attributes := #[] }, { accessFlags := 25, nameIndex := 201, descriptorIndex := 197, attributes := #[] }, { accessFlags := 25, nameIndex := 203, descriptorIndex := 197, attributes := #[] }, { accessFlags := 25, nameIndex := 205, descriptorIndex := 197, attributes := #[] }, { accessFlags := 25, nameIndex := 173, descriptorIndex := 174, attributes := #[] }, { accessFlags := 18, nameIndex := 120, descriptorIndex := 121, attributes := #[] }, { accessFlags := 26, nameIndex := 209, descriptorIndex := 210, attributes := #[] }])
  fields := #[{ name := "POSITIVE_INFINITY", type := .double, accessFlags := 25, slot := 0, constantValue := 0 }, { name := "NEGATIVE_INFINITY", type := .double, accessFlags := 25, slot := 1, constantValue := 0 }, { name := "NaN", type := .double, accessFlags := 25, slot := 2, constantValue := 0 }, { name := "MAX_VALUE", type := .double, accessFlags := 25, slot := 3, constantValue := 0 }, { name := "MIN_NORMAL", type := .double, accessFlags := 25, slot := 4, constantValue := 0 }, { name := "MIN_VALUE", type := .double, accessFlags := 25, slot := 5, constantValue := 0 }, { name := "SIZE", type := .int, accessFlags := 25, slot := 6, constantValue := 0 }, { name := "PRECISION", type := .int, accessFlags := 25, slot := 7, constantValue := 0 }, { name := "MAX_EXPONENT", type := .int, accessFlags := 25, slot := 8, constantValue := 0 }, { name := "MIN_EXPONENT", type := .int, accessFlags := 25, slot := 9, constantValue := 0 }, { name := "BYTES", type := .int, accessFlags := 25, slot := 10, constantValue := 0 }, { name := "TYPE", type := (.object "java/lang/Class"), accessFlags := 25, slot := 11, constantValue := 0 }, { name := "value", type := .double, accessFlags := 18, slot := 0, constantValue := 0 }, { name := "serialVersionUID", type := .long, accessFlags := 26, slot := 12, constantValue := 0 }]
  methods := #[k9m0]
  instanceTypes := #[.double]
  staticTypes := #[.double, .double, .double, .double, .double, .double, .int, .int, .int, .int, .int, (.object "java/lang/Class"), .long]
  resolved := Array.replicate 290 none
  statics := none }

def pool10 : Array CpInfo := pool [(1, u "java/lang/Cloneable"), (0, .class_ 1), (0, u "java/lang/Object"), (0, .class_ 3)] 3

/-- java/lang/Cloneable -/
def k10 : Class := { plain "java/lang/Cloneable" (some 0) with
  accessFlags := 1537
  interfaces := #[]
  cf := some (fileOf pool10 2 #[] #[] 1537 4 #[] #[])
  fields := #[]
  methods := #[]
  instanceTypes := #[]
  staticTypes := #[]
  resolved := Array.replicate 8 none
  statics := none }

/-- the primitive byte -/
def k11 : Class := { plain "byte" none with kind := .primitive 'B', accessFlags := 0x411 }
/-- [B -/
def k12 : Class := { plain "[B" (some 0) with kind := .array 11 .byte, interfaces := #[10, 4], accessFlags := 1041 }

/-- the primitive int -/
def k13 : Class := { plain "int" none with kind := .primitive 'I', accessFlags := 0x411 }
/-- [I -/
def k14 : Class := { plain "[I" (some 0) with kind := .array 13 .int, interfaces := #[10, 4], accessFlags := 1041 }

def heap : Heap := #[]
def classes : Array Class := #[k0, k1, k2, k3, k4, k5, k6, k7, k8, k9, k10, k11, k12, k13, k14]
def interned : List (Array UInt16 × Addr) := []
def slotsUsed : Nat := 0
def theMethod : MethodId := ⟨1, 1⟩
def args0 : Array Value := #[.long 5, .long 5, .long 5, .long 5, .long 5, .int 5]
def aboutOver (below : List Frame) : State where
  vm := { classes := classes, interned := interned.toArray }
  heap := heap
  slotsUsed := slotsUsed
  threads := #[{ frames := .invoking theMethod args0 :: below }]
def below0 : List Frame := [.native { method := ⟨0, 0⟩, args := #[] }]
def about1 : State := aboutOver below0
def p0 : Program := .bare "" "" ""
def e0 : Env := launch0.env 0 0 0
theorem w_frames : about1.frames = Frame.invoking theMethod args0 :: below0 := rfl
set_option maxRecDepth 65536 in
theorem w_args : argsFit about1.vm theMethod args0 = true := by decide +kernel
set_option maxRecDepth 65536 in
theorem w_heap : heapFits about1 = true := by decide +kernel
set_option maxRecDepth 65536 in
theorem w_runnable : about1.curStatus? = some .runnable := by decide +kernel
set_option maxRecDepth 65536 in
theorem w_alone : about1.alone = true := by decide +kernel
set_option maxRecDepth 65536 in
theorem w_named : about1.methodNamed? x = some theMethod := by decide +kernel
set_option maxRecDepth 65536 in
theorem w_hears : about1.hears theMethod below0 = true := by decide +kernel
set_option maxRecDepth 65536 in
theorem w_ripe : about1.ripe theMethod args0 below0 = true := by decide +kernel
theorem w_running : about1.status = .running := rfl
set_option maxRecDepth 65536 in
theorem w_room : about1.hasRoom e0.platform room_1 = true :=
  launch0.hasRoom_least _ room_1 (by decide +kernel) (by decide +kernel) (by decide +kernel) (by decide +kernel) (by decide +kernel) (by decide +kernel)
theorem allAtoms_all (ts : List Jvm.Cond) (a : Array Jvm.Value) (st : Jvm.State) : (allAtoms ts).before a st = ts.all (fun c => c.before a st) := by
  induction ts with
  | nil => rfl
  | cons c t ih =>
    show (Jvm.Cond.and c (allAtoms t)).before a st = _
    rw [Jvm.Cond.before_and, ih, List.all_cons]
def words1 : List Jvm.Cond := Jvm.Cond.code x code maxLocals ret :: tables_1
/-- a 'code' word, met by the world's own term for the bytes: nothing is compared byte by byte -/
theorem code_word {y : MethodName} {bytes : ByteArray} {mx : Nat} {rt : Option FieldType} {a : Array Value} {s : State} {m : MethodId} {meth : Method} {c : Code} (h1 : s.methodNamed? y = some m) (h2 : s.vm.method? m = some meth) (h3 : meth.code = some c) (h4 : c.code = bytes)
    (h5 : (c.maxLocals == mx && c.exceptionTable.isEmpty && decide (c.maxStack ≤ mostOperands) && decide (meth.sig.returnType = rt) && !meth.locks && decide (parseMethodDescriptor y.desc = some meth.sig)) = true) : (Jvm.Cond.code y bytes mx rt).before a s = true := by
  simp only [Bool.and_eq_true, beq_iff_eq, Bool.not_eq_true', decide_eq_true_eq] at h5
  obtain ⟨⟨⟨⟨⟨g1, g2⟩, g3⟩, g4⟩, g5⟩, g6⟩ := h5
  simp [Cond.before, Cond.holds, Cond.value, h1, h2, h3, h4, g1, g2, g3, g4, g5, g6]
def isCode : Jvm.Cond → Bool
  | .code _ _ _ _ => true
  | _ => false
theorem all_split {L : List Jvm.Cond} {P : Jvm.Cond → Bool} (h1 : L.all (fun c => isCode c || P c) = true) (h2 : ∀ c ∈ L.filter isCode, P c = true) : L.all P = true := by
  refine List.all_eq_true.mpr fun c hc => ?_
  have h := List.all_eq_true.mp h1 c hc
  rcases Bool.eq_false_or_eq_true (isCode c) with hi | hi
  · exact h2 c (List.mem_filter.mpr ⟨hc, hi⟩)
  · simpa [hi] using h
set_option maxRecDepth 65536 in
theorem w_c0 : (Jvm.Cond.code x code maxLocals ret).before args0 about1 = true := code_word (m := ⟨1, 1⟩) (meth := k1m1) (c := k1c1) (by decide +kernel) rfl rfl rfl (by decide +kernel)
set_option maxRecDepth 65536 in
theorem w_c1 : (Jvm.Cond.code ({ cls := "java/lang/Math", name := "min", desc := "(JJ)J" } : Jvm.MethodName) jdk_29_method_70_code (4 : Nat) (Option.some Jvm.ClassFile.FieldType.long)).before args0 about1 = true := code_word (m := ⟨2, 3⟩) (meth := k2m3) (c := k2c3) (by decide +kernel) rfl rfl rfl (by decide +kernel)
set_option maxRecDepth 65536 in
theorem w_c2 : (Jvm.Cond.code ({ cls := "com/example/pooltergeist/pooltergeist/poolmanager/SpaceStatus", name := "<init>", desc := "(JJJJJDJ)V" } : Jvm.MethodName) prog_79_method_1_code (15 : Nat) (Option.none : Option Jvm.ClassFile.FieldType)).before args0 about1 = true := code_word (m := ⟨3, 0⟩) (meth := k3m0) (c := k3c0) (by decide +kernel) rfl rfl rfl (by decide +kernel)
set_option maxRecDepth 65536 in
theorem w_c3 : (Jvm.Cond.code ({ cls := "java/lang/Object", name := "<init>", desc := "()V" } : Jvm.MethodName) object_method_1_code (1 : Nat) (Option.none : Option Jvm.ClassFile.FieldType)).before args0 about1 = true := code_word (m := ⟨0, 0⟩) (meth := k0m0) (c := k0c0) (by decide +kernel) rfl rfl rfl (by decide +kernel)
set_option maxRecDepth 65536 in
theorem w_c4 : (Jvm.Cond.code ({ cls := "java/lang/Double", name := "isInfinite", desc := "(D)Z" } : Jvm.MethodName) jdk_117_method_7_code (2 : Nat) (Option.some Jvm.ClassFile.FieldType.boolean)).before args0 about1 = true := code_word (m := ⟨9, 0⟩) (meth := k9m0) (c := k9c0) (by decide +kernel) rfl rfl rfl (by decide +kernel)
set_option maxRecDepth 65536 in
theorem w_c5 : (Jvm.Cond.code ({ cls := "java/lang/Math", name := "abs", desc := "(D)D" } : Jvm.MethodName) jdk_29_method_64_code (2 : Nat) (Option.some Jvm.ClassFile.FieldType.double)).before args0 about1 = true := code_word (m := ⟨2, 1⟩) (meth := k2m1) (c := k2c1) (by decide +kernel) rfl rfl rfl (by decide +kernel)
set_option maxRecDepth 65536 in
theorem w_c6 : (Jvm.Cond.code ({ cls := "java/lang/Math", name := "max", desc := "(JJ)J" } : Jvm.MethodName) jdk_29_method_66_code (4 : Nat) (Option.some Jvm.ClassFile.FieldType.long)).before args0 about1 = true := code_word (m := ⟨2, 2⟩) (meth := k2m2) (c := k2c2) (by decide +kernel) rfl rfl rfl (by decide +kernel)
set_option maxRecDepth 65536 in
theorem w_c7 : (Jvm.Cond.code ({ cls := "com/example/pooltergeist/pooltergeist/poolmanager/SpaceStatus", name := "hasRoomFor", desc := "(J)Z" } : Jvm.MethodName) prog_79_method_3_code (5 : Nat) (Option.some Jvm.ClassFile.FieldType.boolean)).before args0 about1 = true := code_word (m := ⟨3, 1⟩) (meth := k3m1) (c := k3c1) (by decide +kernel) rfl rfl rfl (by decide +kernel)
set_option maxRecDepth 65536 in
theorem w_c8 : (Jvm.Cond.code ({ cls := "com/example/pooltergeist/pooltergeist/poolmanager/SpaceStatus", name := "neededBytes", desc := "(J)J" } : Jvm.MethodName) prog_79_method_5_code (2 : Nat) (Option.some Jvm.ClassFile.FieldType.long)).before args0 about1 = true := code_word (m := ⟨3, 2⟩) (meth := k3m2) (c := k3c2) (by decide +kernel) rfl rfl rfl (by decide +kernel)
def codes1 : List Jvm.Cond := [Jvm.Cond.code x code maxLocals ret, Jvm.Cond.code ({ cls := "java/lang/Math", name := "min", desc := "(JJ)J" } : Jvm.MethodName) jdk_29_method_70_code (4 : Nat) (Option.some Jvm.ClassFile.FieldType.long), Jvm.Cond.code ({ cls := "com/example/pooltergeist/pooltergeist/poolmanager/SpaceStatus", name := "<init>", desc := "(JJJJJDJ)V" } : Jvm.MethodName) prog_79_method_1_code (15 : Nat) (Option.none : Option Jvm.ClassFile.FieldType), Jvm.Cond.code ({ cls := "java/lang/Object", name := "<init>", desc := "()V" } : Jvm.MethodName) object_method_1_code (1 : Nat) (Option.none : Option Jvm.ClassFile.FieldType), Jvm.Cond.code ({ cls := "java/lang/Double", name := "isInfinite", desc := "(D)Z" } : Jvm.MethodName) jdk_117_method_7_code (2 : Nat) (Option.some Jvm.ClassFile.FieldType.boolean), Jvm.Cond.code ({ cls := "java/lang/Math", name := "abs", desc := "(D)D" } : Jvm.MethodName) jdk_29_method_64_code (2 : Nat) (Option.some Jvm.ClassFile.FieldType.double), Jvm.Cond.code ({ cls := "java/lang/Math", name := "max", desc := "(JJ)J" } : Jvm.MethodName) jdk_29_method_66_code (4 : Nat) (Option.some Jvm.ClassFile.FieldType.long), Jvm.Cond.code ({ cls := "com/example/pooltergeist/pooltergeist/poolmanager/SpaceStatus", name := "hasRoomFor", desc := "(J)Z" } : Jvm.MethodName) prog_79_method_3_code (5 : Nat) (Option.some Jvm.ClassFile.FieldType.boolean), Jvm.Cond.code ({ cls := "com/example/pooltergeist/pooltergeist/poolmanager/SpaceStatus", name := "neededBytes", desc := "(J)J" } : Jvm.MethodName) prog_79_method_5_code (2 : Nat) (Option.some Jvm.ClassFile.FieldType.long)]
set_option maxRecDepth 65536 in
theorem codes_eq : words1.filter isCode = codes1 := rfl
theorem w_codes : ∀ c ∈ words1.filter isCode, c.before args0 about1 = true := by
  rw [codes_eq]
  intro c hc
  simp only [codes1, List.mem_cons, List.not_mem_nil, or_false] at hc
  rcases hc with rfl | rfl | rfl | rfl | rfl | rfl | rfl | rfl | rfl
  · exact w_c0
  · exact w_c1
  · exact w_c2
  · exact w_c3
  · exact w_c4
  · exact w_c5
  · exact w_c6
  · exact w_c7
  · exact w_c8
set_option maxRecDepth 65536 in
theorem w_t1 : (words1.take 24).all (fun c => isCode c || c.before args0 about1) = true := by decide +kernel
set_option maxRecDepth 65536 in
theorem w_t2 : ((words1.drop 24).take 24).all (fun c => isCode c || c.before args0 about1) = true := by decide +kernel
set_option maxRecDepth 65536 in
theorem w_t3 : ((words1.drop 24).drop 24).all (fun c => isCode c || c.before args0 about1) = true := by decide +kernel
theorem w_tables : (allAtoms (Jvm.Cond.code x code maxLocals ret :: tables_1)).before args0 about1 = true := by
  rw [allAtoms_all]
  show words1.all (fun c => c.before args0 about1) = true
  refine all_split ?_ w_codes
  rw [← List.take_append_drop 24 words1, List.all_append, w_t1, ← List.take_append_drop 24 (words1.drop 24), List.all_append, w_t2, w_t3]
  rfl
set_option maxRecDepth 65536 in
theorem w_case : (Jvm.Cond.and given_1 narrow_1).before args0 about1 = true := by decide +kernel
theorem w_applies : (headSpec (Jvm.Cond.code x code maxLocals ret :: tables_1) room_1).applies x e0.platform about1 = true :=
  (Spec.applies_iff w_frames).mpr ⟨w_running, w_runnable, w_alone, w_named, w_hears, w_ripe, w_room, w_tables⟩
theorem atStart : AtStart classFile x code maxLocals ret World_1 tables_1 room_1 Calls_1 rest_1 Pre_1 launch0 p0 e0 about1 theMethod args0 below0 :=
  ⟨lists_1, trivial, launch0.admits_env _ _ _, launch0.least_env, fairChoices_fair.cas, fairChoices_fair.clock, w_frames, w_args, w_heap, w_applies, trivial, trivial, w_case⟩
end start1
theorem witness_1 : WitnessClaimed_1 := ⟨start1.p0, start1.e0, start1.about1, start1.theMethod, start1.args0, start1.below0, start1.atStart⟩
end Jvm.Pilot.@@N@@
