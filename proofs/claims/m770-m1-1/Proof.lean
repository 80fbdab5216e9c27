import JvmDerived
import JvmDerived.Pilot.@@N@@Statement
import JvmDerived.Pilot.@@N@@Code
set_option linter.unusedVariables false
set_option linter.unusedSimpArgs false
namespace Jvm.Pilot.@@N@@
open Jvm Jvm.ClassFile Sem Op Lib Jvm.Free Jvm.Stand Jvm.LawKit Jvm.RoadKit Bundle Jvm.Pilot.@@N@@.Jvm.D
section Own
variable {p : Program} {l : Launch} {e : Env} {R : Room} {s : State} {m : MethodId} {args : Array Value} {below : List Frame} {meth : Method} {c : Code} {T : State} {locs : List Loc} {cells slots : Nat}
/-- the goal of a walk, as seen from a state on its road -/
def Gl (p : Program) (e : Env) (below : List Frame) (K : Outcome → State → Prop) (A : State) : Prop := ∃ s₂ o, Steps p.tables e below A s₂ ∧ s₂.status = .running ∧ Ended s₂ below o ∧ K o s₂
theorem Gl.up {K : Outcome → State → Prop} {A B : State} (h : ∀ t, Steps p.tables e below B t → Steps p.tables e below A t) (k : Gl p e below K B) : Gl p e below K A := by
  obtain ⟨s2, o, h1, r⟩ := k
  exact ⟨s2, o, h _ h1, r⟩
/-- what a body leaves -/
def Ret (s : State) (rc rs : Nat) (Q : Option Value → Heap → List Loc → Prop) (o : Outcome) (U : State) : Prop := ∃ v L, o = .returned v ∧ Q v U.heap L ∧ FrameEnd s o U L rc rs
variable {rc rs : Nat} {Q : Option Value → Heap → List Loc → Prop} {pc : Nat} {Ls : Array Slot} {rest : List Value}
theorem Gl.retI (X : Stand p l e R s m args below meth c T locs cells slots) (hx : p.tables.exec = Jvm.exec) (hlk : meth.locks = false) {z : Int32} (hret : meth.sig.returnType = some .int) (hd : decode c.code pc = .ok (.ireturn, 1)) (hq : Q (some (.int z)) T.heap locs) (hc : cells ≤ rc) (hs : slots ≤ rs) :
    Gl p e below (Ret s rc rs Q) (T.setTop (mkF m pc Ls (.int z :: rest))) := by
  obtain ⟨fs, hr, hrun, hended, hW, hsame⟩ := X.leave (v := some (.int z)) (fun h => by rw [hret] at h; cases h) hlk
  exact ⟨_, _, retOut X hx hret rfl (Or.inl ⟨rfl, Or.inl rfl, z, rfl⟩) hd hr, hrun, hended, _, _, rfl, hq, ⟨_, rfl⟩, hW, hsame.mono hc hs⟩
theorem Gl.retJ (X : Stand p l e R s m args below meth c T locs cells slots) (hx : p.tables.exec = Jvm.exec) (hlk : meth.locks = false) {z : Int64} (hret : meth.sig.returnType = some .long) (hd : decode c.code pc = .ok (.lreturn, 1)) (hq : Q (some (.long z)) T.heap locs) (hc : cells ≤ rc) (hs : slots ≤ rs) :
    Gl p e below (Ret s rc rs Q) (T.setTop (mkF m pc Ls (.long z :: rest))) := by
  obtain ⟨fs, hr, hrun, hended, hW, hsame⟩ := X.leave (v := some (.long z)) (fun h => by rw [hret] at h; cases h) hlk
  exact ⟨_, _, retOut X hx hret rfl (Or.inr (Or.inl ⟨rfl, rfl, z, rfl⟩)) hd hr, hrun, hended, _, _, rfl, hq, ⟨_, rfl⟩, hW, hsame.mono hc hs⟩
theorem Gl.retN (X : Stand p l e R s m args below meth c T locs cells slots) (hx : p.tables.exec = Jvm.exec) (hlk : meth.locks = false) {z w : Int32} {t : FieldType} (hret : meth.sig.returnType = some t) (ht : t = .boolean ∨ t = .byte ∨ t = .char ∨ t = .short) (hd : decode c.code pc = .ok (.ireturn, 1)) (hn : nar t z = w) (hq : Q (some (.int w)) T.heap locs) (hc : cells ≤ rc) (hs : slots ≤ rs) :
    Gl p e below (Ret s rc rs Q) (T.setTop (mkF m pc Ls (.int z :: rest))) := by
  subst hn
  obtain ⟨fs, hr, hrun, hended, hW, hsame⟩ := X.leave (v := some (.int (nar t z))) (fun h => by rw [hret] at h; cases h) hlk
  exact ⟨_, _, Jvm.RoadKit.retN X hx hret ht hd hr, hrun, hended, _, _, rfl, hq, ⟨_, rfl⟩, hW, hsame.mono hc hs⟩
theorem Gl.ret0 (X : Stand p l e R s m args below meth c T locs cells slots) (hx : p.tables.exec = Jvm.exec) (hlk : meth.locks = false) (hret : meth.sig.returnType = none) (hd : decode c.code pc = .ok (.return_, 1)) (hq : Q none T.heap locs) (hc : cells ≤ rc) (hs : slots ≤ rs) :
    Gl p e below (Ret s rc rs Q) (T.setTop (mkF m pc Ls [])) := by
  obtain ⟨fs, hr, hrun, hended, hW, hsame⟩ := X.leave (v := none) (fun _ => rfl) hlk
  exact ⟨_, _, X.returnOut hx hret hd hr, hrun, hended, _, _, rfl, hq, ⟨_, rfl⟩, hW, hsame.mono hc hs⟩
theorem Gl.retR (X : Stand p l e R s m args below meth c T locs cells slots) (hx : p.tables.exec = Jvm.exec) (hlk : meth.locks = false) {v : Value} {t : FieldType} (hret : meth.sig.returnType = some t) (hd : decode c.code pc = .ok (.areturn, 1)) (ht : t.isReference = true) (hv : v.isRef = true) (hq : Q (some v) T.heap locs) (hc : cells ≤ rc) (hs : slots ≤ rs) :
    Gl p e below (Ret s rc rs Q) (T.setTop (mkF m pc Ls (v :: rest))) := by
  have hn : narrow t v = v := by cases t <;> first | rfl | (cases ht; done) | (cases v <;> first | rfl | (cases hv; done))
  obtain ⟨fs, hr, hrun, hended, hW, hsame⟩ := X.leave (v := some v) (fun h => by rw [hret] at h; cases h) hlk
  exact ⟨_, _, retOut X hx hret hn (Or.inr (Or.inr (Or.inr (Or.inr ⟨rfl, ht, hv⟩)))) hd hr, hrun, hended, _, _, rfl, hq, ⟨_, rfl⟩, hW, hsame.mono hc hs⟩
end Own
theorem own_widen {p : Program} {l : Launch} {e : Env} {R : Room} {s : State} {m : MethodId} {args : Array Value} {below : List Frame} {meth : Method} {c : Code} {T : State} {locs : List Loc} {cells slots cells' slots' : Nat} (X : Stand p l e R s m args below meth c T locs cells slots) (hc : cells ≤ cells') (hs : slots ≤ slots') : Stand p l e R s m args below meth c T locs cells' slots' := { X with same := X.same.mono hc hs }
theorem old_le {Z : State} {n0 : Nat} {h : Heap} (O : Old Z n0 h) : n0 ≤ h.size := by rw [← O.1]; exact O.2.1
theorem b01_ite {q : Prop} [Decidable q] {a b : Int32} (ha : a = 0 ∨ a = 1) (hb : b = 0 ∨ b = 1) : (if q then a else b) = 0 ∨ (if q then a else b) = 1 := by split <;> assumption
theorem nar_b01 {a : Int32} (h : a = 0 ∨ a = 1) : nar .boolean a = a := by rcases h with rfl | rfl <;> rfl
theorem fits_b01 {a : Int32} (h : a = 0 ∨ a = 1) : fits .boolean (.int a) = true := by rcases h with rfl | rfl <;> rfl
theorem own_fld {Z : State} {h : Heap} {a : Addr} {C n d : String} {v w : Value} (q : v = w) (F : Fld Z h a C n d v) : Fld Z h a C n d w := q ▸ F
theorem jc_lt_t {x y : Int64} (h : x < y) : ifCond.holds .lt (lcmpW x y) = true := (if0 _ _).trans (tlt ((lw_lt x y).mpr h)).1
theorem jc_lt_f {x y : Int64} (h : ¬ x < y) : ifCond.holds .lt (lcmpW x y) = false := (if0 _ _).trans (flt (fun q => h ((lw_lt x y).mp q))).1
theorem jc_ge_t {x y : Int64} (h : ¬ x < y) : ifCond.holds .ge (lcmpW x y) = true := (if0 _ _).trans (flt (fun q => h ((lw_lt x y).mp q))).2.1
theorem jc_ge_f {x y : Int64} (h : x < y) : ifCond.holds .ge (lcmpW x y) = false := (if0 _ _).trans (tlt ((lw_lt x y).mpr h)).2.1
theorem jc_gt_t {x y : Int64} (h : y < x) : ifCond.holds .gt (lcmpW x y) = true := (if0 _ _).trans (tlt ((lw_gt x y).mpr h)).2.2.1
theorem jc_gt_f {x y : Int64} (h : ¬ y < x) : ifCond.holds .gt (lcmpW x y) = false := (if0 _ _).trans (flt (fun q => h ((lw_gt x y).mp q))).2.2.1
theorem jc_le_t {x y : Int64} (h : ¬ y < x) : ifCond.holds .le (lcmpW x y) = true := (if0 _ _).trans (flt (fun q => h ((lw_gt x y).mp q))).2.2.2
theorem jc_le_f {x y : Int64} (h : y < x) : ifCond.holds .le (lcmpW x y) = false := (if0 _ _).trans (tlt ((lw_gt x y).mpr h)).2.2.2
theorem jc_eq_t {x y : Int64} (h : x = y) : ifCond.holds .eq (lcmpW x y) = true := (if0 _ _).trans (teq ((lw_eq x y).mpr h)).1
theorem jc_eq_f {x y : Int64} (h : ¬ x = y) : ifCond.holds .eq (lcmpW x y) = false := (if0 _ _).trans (feq (fun q => h ((lw_eq x y).mp q))).1
theorem jc_ne_t {x y : Int64} (h : ¬ x = y) : ifCond.holds .ne (lcmpW x y) = true := (if0 _ _).trans (feq (fun q => h ((lw_eq x y).mp q))).2
theorem jc_ne_f {x y : Int64} (h : x = y) : ifCond.holds .ne (lcmpW x y) = false := (if0 _ _).trans (teq ((lw_eq x y).mpr h)).2
theorem own_mapset (cs : List Int32) (i : Nat) (v : Int32) : (cs.map Value.int).set i (.int v) = (cs.set i v).map Value.int := (List.map_set).symm
theorem d1_0 : decode prog_43_method_1_code 0 = .ok (.aload_n 0, 1) := by decide +kernel
theorem d1_1 : decode prog_43_method_1_code 1 = .ok (.invokespecial 1, 3) := by decide +kernel
theorem d1_4 : decode prog_43_method_1_code 4 = .ok (.aload_n 0, 1) := by decide +kernel
theorem d1_5 : decode prog_43_method_1_code 5 = .ok (.aload_n 1, 1) := by decide +kernel
theorem d1_6 : decode prog_43_method_1_code 6 = .ok (.putfield 7, 3) := by decide +kernel
theorem d1_9 : decode prog_43_method_1_code 9 = .ok (.aload_n 0, 1) := by decide +kernel
theorem d1_10 : decode prog_43_method_1_code 10 = .ok (.aload_n 2, 1) := by decide +kernel
theorem d1_11 : decode prog_43_method_1_code 11 = .ok (.putfield 13, 3) := by decide +kernel
theorem d1_14 : decode prog_43_method_1_code 14 = .ok (.aload_n 0, 1) := by decide +kernel
theorem d1_15 : decode prog_43_method_1_code 15 = .ok (.aload_n 3, 1) := by decide +kernel
theorem d1_16 : decode prog_43_method_1_code 16 = .ok (.putfield 16, 3) := by decide +kernel
theorem d1_19 : decode prog_43_method_1_code 19 = .ok (.aload_n 0, 1) := by decide +kernel
theorem d1_20 : decode prog_43_method_1_code 20 = .ok (.lload 4, 2) := by decide +kernel
theorem d1_22 : decode prog_43_method_1_code 22 = .ok (.putfield 19, 3) := by decide +kernel
theorem d1_25 : decode prog_43_method_1_code 25 = .ok (.aload_n 0, 1) := by decide +kernel
theorem d1_26 : decode prog_43_method_1_code 26 = .ok (.lload 6, 2) := by decide +kernel
theorem d1_28 : decode prog_43_method_1_code 28 = .ok (.putfield 23, 3) := by decide +kernel
theorem d1_31 : decode prog_43_method_1_code 31 = .ok (.aload_n 0, 1) := by decide +kernel
theorem d1_32 : decode prog_43_method_1_code 32 = .ok (.lload 8, 2) := by decide +kernel
theorem d1_34 : decode prog_43_method_1_code 34 = .ok (.putfield 26, 3) := by decide +kernel
theorem d1_37 : decode prog_43_method_1_code 37 = .ok (.return_, 1) := by decide +kernel
theorem pn_com_example_pooltergeist_pooltergeist_pool_ClassDefinition : plainName "com/example/pooltergeist/pooltergeist/pool/ClassDefinition" = true := by first | (simp [plainName, overriddenIn]; done) | decide +kernel
theorem d2_0 : decode prog_43_method_4_code 0 = .ok (.iload_n 1, 1) := by decide +kernel
theorem d2_1 : decode prog_43_method_4_code 1 = .ok (.ifCond .ne 5, 3) := by decide +kernel
theorem d2_4 : decode prog_43_method_4_code 4 = .ok (.iconst 0, 1) := by decide +kernel
theorem d2_5 : decode prog_43_method_4_code 5 = .ok (.ireturn, 1) := by decide +kernel
theorem d2_6 : decode prog_43_method_4_code 6 = .ok (.aload_n 0, 1) := by decide +kernel
theorem d2_7 : decode prog_43_method_4_code 7 = .ok (.getfield 19, 3) := by decide +kernel
theorem d2_10 : decode prog_43_method_4_code 10 = .ok (.lconst 0, 1) := by decide +kernel
theorem d2_11 : decode prog_43_method_4_code 11 = .ok (.lcmp, 1) := by decide +kernel
theorem d2_12 : decode prog_43_method_4_code 12 = .ok (.ifCond .ne 23, 3) := by decide +kernel
theorem d2_15 : decode prog_43_method_4_code 15 = .ok (.aload_n 0, 1) := by decide +kernel
theorem d2_16 : decode prog_43_method_4_code 16 = .ok (.getfield 23, 3) := by decide +kernel
theorem d2_19 : decode prog_43_method_4_code 19 = .ok (.lconst 0, 1) := by decide +kernel
theorem d2_20 : decode prog_43_method_4_code 20 = .ok (.lcmp, 1) := by decide +kernel
theorem d2_21 : decode prog_43_method_4_code 21 = .ok (.ifCond .ne 14, 3) := by decide +kernel
theorem d2_24 : decode prog_43_method_4_code 24 = .ok (.aload_n 0, 1) := by decide +kernel
theorem d2_25 : decode prog_43_method_4_code 25 = .ok (.getfield 26, 3) := by decide +kernel
theorem d2_28 : decode prog_43_method_4_code 28 = .ok (.lconst 0, 1) := by decide +kernel
theorem d2_29 : decode prog_43_method_4_code 29 = .ok (.lcmp, 1) := by decide +kernel
theorem d2_30 : decode prog_43_method_4_code 30 = .ok (.ifCond .ne 5, 3) := by decide +kernel
theorem d2_33 : decode prog_43_method_4_code 33 = .ok (.iconst 1, 1) := by decide +kernel
theorem d2_34 : decode prog_43_method_4_code 34 = .ok (.ireturn, 1) := by decide +kernel
theorem d2_35 : decode prog_43_method_4_code 35 = .ok (.aload_n 0, 1) := by decide +kernel
theorem d2_36 : decode prog_43_method_4_code 36 = .ok (.getfield 19, 3) := by decide +kernel
theorem d2_39 : decode prog_43_method_4_code 39 = .ok (.lconst 0, 1) := by decide +kernel
theorem d2_40 : decode prog_43_method_4_code 40 = .ok (.lcmp, 1) := by decide +kernel
theorem d2_41 : decode prog_43_method_4_code 41 = .ok (.ifCond .le 13, 3) := by decide +kernel
theorem d2_44 : decode prog_43_method_4_code 44 = .ok (.iload_n 1, 1) := by decide +kernel
theorem d2_45 : decode prog_43_method_4_code 45 = .ok (.i2l, 1) := by decide +kernel
theorem d2_46 : decode prog_43_method_4_code 46 = .ok (.aload_n 0, 1) := by decide +kernel
theorem d2_47 : decode prog_43_method_4_code 47 = .ok (.getfield 19, 3) := by decide +kernel
theorem d2_50 : decode prog_43_method_4_code 50 = .ok (.lcmp, 1) := by decide +kernel
theorem d2_51 : decode prog_43_method_4_code 51 = .ok (.ifCond .ge 44, 3) := by decide +kernel
theorem d2_54 : decode prog_43_method_4_code 54 = .ok (.aload_n 0, 1) := by decide +kernel
theorem d2_55 : decode prog_43_method_4_code 55 = .ok (.getfield 23, 3) := by decide +kernel
theorem d2_58 : decode prog_43_method_4_code 58 = .ok (.lconst 0, 1) := by decide +kernel
theorem d2_59 : decode prog_43_method_4_code 59 = .ok (.lcmp, 1) := by decide +kernel
theorem d2_60 : decode prog_43_method_4_code 60 = .ok (.ifCond .le 12, 3) := by decide +kernel
theorem d2_63 : decode prog_43_method_4_code 63 = .ok (.lload_n 2, 1) := by decide +kernel
theorem d2_64 : decode prog_43_method_4_code 64 = .ok (.aload_n 0, 1) := by decide +kernel
theorem d2_65 : decode prog_43_method_4_code 65 = .ok (.getfield 23, 3) := by decide +kernel
theorem d2_68 : decode prog_43_method_4_code 68 = .ok (.lcmp, 1) := by decide +kernel
theorem d2_69 : decode prog_43_method_4_code 69 = .ok (.ifCond .ge 26, 3) := by decide +kernel
theorem d2_72 : decode prog_43_method_4_code 72 = .ok (.aload_n 0, 1) := by decide +kernel
theorem d2_73 : decode prog_43_method_4_code 73 = .ok (.getfield 26, 3) := by decide +kernel
theorem d2_76 : decode prog_43_method_4_code 76 = .ok (.lconst 0, 1) := by decide +kernel
theorem d2_77 : decode prog_43_method_4_code 77 = .ok (.lcmp, 1) := by decide +kernel
theorem d2_78 : decode prog_43_method_4_code 78 = .ok (.ifCond .le 21, 3) := by decide +kernel
theorem d2_81 : decode prog_43_method_4_code 81 = .ok (.lload 4, 2) := by decide +kernel
theorem d2_83 : decode prog_43_method_4_code 83 = .ok (.aload_n 0, 1) := by decide +kernel
theorem d2_84 : decode prog_43_method_4_code 84 = .ok (.getfield 26, 3) := by decide +kernel
theorem d2_87 : decode prog_43_method_4_code 87 = .ok (.ldc2_w 43, 3) := by decide +kernel
theorem d2_90 : decode prog_43_method_4_code 90 = .ok (.lmul, 1) := by decide +kernel
theorem d2_91 : decode prog_43_method_4_code 91 = .ok (.lcmp, 1) := by decide +kernel
theorem d2_92 : decode prog_43_method_4_code 92 = .ok (.ifCond .lt 7, 3) := by decide +kernel
theorem d2_99 : decode prog_43_method_4_code 99 = .ok (.iconst 0, 1) := by decide +kernel
theorem d2_95 : decode prog_43_method_4_code 95 = .ok (.iconst 1, 1) := by decide +kernel
theorem d2_96 : decode prog_43_method_4_code 96 = .ok (.goto 4, 3) := by decide +kernel
theorem d2_100 : decode prog_43_method_4_code 100 = .ok (.ireturn, 1) := by decide +kernel
theorem own_wS {Z : State} {aa : Array Value} (hw : ∀ d ∈ tables_1, d.before aa Z = true) : ∀ a ∈ Bundle.stringAtoms, a.before aa Z = true := by
  intro a ha
  simp only [Bundle.stringAtoms, List.mem_cons, List.not_mem_nil, or_false] at ha
  rcases ha with rfl | rfl | rfl | rfl | rfl | rfl | rfl
  · exact (hw _ (List.mem_of_getElem? (i := 7) rfl))
  · exact (hw _ (List.mem_of_getElem? (i := 8) rfl))
  · exact (hw _ (List.mem_of_getElem? (i := 9) rfl))
  · exact (hw _ (List.mem_of_getElem? (i := 10) rfl))
  · exact (hw _ (List.mem_of_getElem? (i := 11) rfl))
  · exact (hw _ (List.mem_of_getElem? (i := 12) rfl))
  · exact (hw _ (List.mem_of_getElem? (i := 13) rfl))
theorem pd_oLjava_lang_StringLjava_lang_StringLjava_lang_StringJJJcV : parseMethodDescriptor "(Ljava/lang/String;Ljava/lang/String;Ljava/lang/String;JJJ)V" = some ⟨[(.object "java/lang/String"), (.object "java/lang/String"), (.object "java/lang/String"), .long, .long, .long], none⟩ := by decide +kernel
theorem pd_oIJJcZ : parseMethodDescriptor "(IJJ)Z" = some ⟨[.int, .long, .long], some .boolean⟩ := by decide +kernel
theorem pn_com_example_pooltergeist_pooltergeist_pool_ClassDefinitionDuePinLaw : plainName "com/example/pooltergeist/pooltergeist/pool/ClassDefinitionDuePinLaw" = true := by first | (simp [plainName, overriddenIn]; done) | decide +kernel
def RetW (s : State) (rc rs : Nat) (Q : Option Value → Heap → List Loc → Prop) (o : Outcome) (U : State) : Prop := ∃ v L, o = .returned v ∧ Q v U.heap L ∧ Jvm.D.FramedW s o U L rc rs
theorem Gl.retW {p : Program} {l : Launch} {e : Env} {R : Room} {s : State} {m : MethodId} {args : Array Value} {below : List Frame} {meth : Method} {c : Code} {T : State} {locs : List Loc} {cells slots : Nat} {rc rs : Nat} {Q : Option Value → Heap → List Loc → Prop} {pc : Nat} {Ls : Array Slot} {rest : List Value} {vm0 : Vm} {k : Nat}
    (X : Stand p l e R (s.setVm vm0) m args below meth c T locs cells slots) (hx : p.tables.exec = Jvm.exec) (hlk : meth.locks = false) {z w : Int32} {t : FieldType} (hret : meth.sig.returnType = some t) (ht : t = .boolean ∨ t = .byte ∨ t = .char ∨ t = .short) (hd : decode c.code pc = .ok (.ireturn, 1)) (hn : nar t z = w) (hS : s.Since vm0 k) (hk : k ≤ T.heap.size) (hq : Q (some (.int w)) T.heap locs) (hc : cells ≤ rc) (hs : slots ≤ rs) :
    Gl p e below (RetW s rc rs Q) (T.setTop (mkF m pc Ls (.int z :: rest))) := by
  subst hn
  obtain ⟨fs, hr, hrun, hended, hW, hsame⟩ := X.leave (v := some (.int (nar t z))) (fun h => by rw [hret] at h; cases h) hlk
  have q := hS.ended (U := T.setFrames fs) hW hk hsame
  exact ⟨_, _, Jvm.RoadKit.retN X hx hret ht hd hr, hrun, hended, _, _, rfl, hq, ⟨_, rfl⟩, q.1, q.2.1, q.2.2.mono hc hs⟩

def Q1 (Z : State) (a0 : Addr) (a1 : Addr) (a2 : Addr) (a3 : Addr) (q4 : Int64) (q5 : Int64) (q6 : Int64) (pe : Int64) (to : Int64) (ex : Int64) (h0 : Heap) (n0 : Nat) (v : Option Value) (h : Heap) (L : List Loc) : Prop := v = none ∧ Fr n0 L ∧ Keep h0 h [a0] ∧ Fld Z h a0 "com/example/pooltergeist/pooltergeist/pool/ClassDefinition" "pending" "J" (.long q4) ∧ Fld Z h a0 "com/example/pooltergeist/pooltergeist/pool/ClassDefinition" "total" "J" (.long q5) ∧ Fld Z h a0 "com/example/pooltergeist/pooltergeist/pool/ClassDefinition" "expireSeconds" "J" (.long q6)
theorem ef1 (m : MethodId) (a0 : Addr) (a1 : Addr) (a2 : Addr) (a3 : Addr) (q4 : Int64) (q5 : Int64) (q6 : Int64) : entryFrame m #[(.ref a0), (.ref a1), (.ref a2), (.ref a3), (.long q4), (.long q5), (.long q6)] 10 = mkF m 0 #[.val (.ref a0), .val (.ref a1), .val (.ref a2), .val (.ref a3), .val (.long q4), .second, .val (.long q5), .second, .val (.long q6), .second] [] := by first | (simp [entryFrame, mkF, argsToLocals, Value.category]; done) | rfl
set_option maxRecDepth 65536 in
set_option maxHeartbeats 40000000 in
theorem rm1 (l : Launch) (Z : State) (aa : Array Value) (hw : ∀ d ∈ tables_1, d.before aa Z = true) (ws : List Jvm.Cond) (a0 : Addr) (a1 : Addr) (a2 : Addr) (a3 : Addr) (q4 : Int64) (q5 : Int64) (q6 : Int64) (pe : Int64) (to : Int64) (ex : Int64) (h0 : Heap) (n0 : Nat) (O0 : Old Z n0 h0) (E_a0 : Exa Z h0 a0 "com/example/pooltergeist/pooltergeist/pool/ClassDefinition") (F_a0_type : Fld Z h0 a0 "com/example/pooltergeist/pooltergeist/pool/ClassDefinition" "type" "Ljava/lang/String;" .null) (F_a0_store : Fld Z h0 a0 "com/example/pooltergeist/pooltergeist/pool/ClassDefinition" "store" "Ljava/lang/String;" .null) (F_a0_group : Fld Z h0 a0 "com/example/pooltergeist/pooltergeist/pool/ClassDefinition" "group" "Ljava/lang/String;" .null) (F_a0_pending : Fld Z h0 a0 "com/example/pooltergeist/pooltergeist/pool/ClassDefinition" "pending" "J" (.long pe)) (F_a0_total : Fld Z h0 a0 "com/example/pooltergeist/pooltergeist/pool/ClassDefinition" "total" "J" (.long to)) (F_a0_expireSeconds : Fld Z h0 a0 "com/example/pooltergeist/pooltergeist/pool/ClassDefinition" "expireSeconds" "J" (.long ex)) (g_a0 : n0 ≤ a0) :
    MetFree l (⟨"com/example/pooltergeist/pooltergeist/pool/ClassDefinition", "<init>", "(Ljava/lang/String;Ljava/lang/String;Ljava/lang/String;JJJ)V"⟩ : MethodName) (head1 (Jvm.Cond.code (⟨"com/example/pooltergeist/pooltergeist/pool/ClassDefinition", "<init>", "(Ljava/lang/String;Ljava/lang/String;Ljava/lang/String;JJJ)V"⟩ : MethodName) prog_43_method_1_code 10 none :: ws) ({ frames := 1, cells := 0, slots := 0, locals := 12 } : Room)) (fun a U => a = #[(.ref a0), (.ref a1), (.ref a2), (.ref a3), (.long q4), (.long q5), (.long q6)] ∧ Z.Warmed39 U.vm ∧ U.heap = h0) (fun _ _ _ _ _ => True) (fun _ U o U' => ∃ v L, o = .returned v ∧ Q1 Z a0 a1 a2 a3 q4 q5 q6 pe to ex h0 n0 v U'.heap L ∧ FrameEnd U o U' L ({ frames := 1, cells := 0, slots := 0, locals := 12 } : Room).cells ({ frames := 1, cells := 0, slots := 0, locals := 12 } : Room).slots) := by
  refine MetFree.of_bodySF (plainFor_of_name pn_com_example_pooltergeist_pooltergeist_pool_ClassDefinition) hisR ?_
  intro p e s m args below meth c s₁ Bd hml0 hP hK
  obtain ⟨rfl, hZ, hh⟩ := hP
  have hx := Bd.exec
  have hby := Bd.bytes
  have hlk := Bd.notSynchronized
  have hml : c.maxLocals = 10 := hml0
  have hown : s.vm.findClass "com/example/pooltergeist/pooltergeist/pool/ClassDefinition" = some m.cls := findClass_of_methodNamed Bd.named
  have hnm := (name_of_methodNamed Bd.named Bd.method).1
  have X0 : Stand p l e ({ frames := 1, cells := 0, slots := 0, locals := 12 } : Room) s m #[(.ref a0), (.ref a1), (.ref a2), (.ref a3), (.long q4), (.long q5), (.long q6)] below meth c s₁ [] 0 0 := Stand.of_body Bd
  have e0 : s₁.heap = h0 := by rw [← hh, Bd.state]; rfl
  have N0 := Fr.nil n0
  show Gl p e below (Ret s 0 0 (Q1 Z a0 a1 a2 a3 q4 q5 q6 pe to ex h0 n0)) (s₁.setTop (entryFrame m #[(.ref a0), (.ref a1), (.ref a2), (.ref a3), (.long q4), (.long q5), (.long q6)] 10))
  rw [ef1 m a0 a1 a2 a3 q4 q5 q6]
  obtain ⟨args, hargs⟩ : ∃ z : Array Value, z = #[(.ref a0), (.ref a1), (.ref a2), (.ref a3), (.long q4), (.long q5), (.long q6)] := ⟨_, rfl⟩
  rw [← hargs] at X0
  have K0 := Keep.refl h0 [a0]
  refine Gl.up (B := s₁.setTop (mkF m 1 #[.val (.ref a0), .val (.ref a1), .val (.ref a2), .val (.ref a3), .val (.long q4), .second, .val (.long q5), .second, .val (.long q6), .second] [(.ref a0)])) (fun t kt => ?_) ?_
  · show Steps p.tables e below (s₁.setTop (mkF m 0 #[.val (.ref a0), .val (.ref a1), .val (.ref a2), .val (.ref a3), .val (.long q4), .second, .val (.long q5), .second, .val (.long q6), .second] [])) _
    refine XS.aloadN X0.here hx rfl (hb hby d1_0) rfl rfl ?_
    exact kt
  obtain ⟨T1, X1, e1, st1⟩ := initO X0 hx hZ hown (hw _ (List.mem_of_getElem? (i := 19) rfl)) (hw _ (List.mem_of_getElem? (i := 20) rfl)) (hw _ (List.mem_of_getElem? (i := 21) rfl)) e0 (g := (mkF m 1 #[.val (.ref a0), .val (.ref a1), .val (.ref a2), .val (.ref a3), .val (.long q4), .second, .val (.long q5), .second, .val (.long q6), .second] [(.ref a0)])) rfl (by rw [hml]; rfl) rfl (hb hby d1_1) (by decide) (W := 0) (by show 2 * 0 + _ ≤ _; exact Nat.le_of_eq rfl) (by decide)
  refine Gl.up (B := T1.setTop (mkF m 4 #[.val (.ref a0), .val (.ref a1), .val (.ref a2), .val (.ref a3), .val (.long q4), .second, .val (.long q5), .second, .val (.long q6), .second] [])) (fun t kt => st1 _ kt) ?_
  refine Gl.up (B := T1.setTop (mkF m 6 #[.val (.ref a0), .val (.ref a1), .val (.ref a2), .val (.ref a3), .val (.long q4), .second, .val (.long q5), .second, .val (.long q6), .second] [(.ref a1), (.ref a0)])) (fun t kt => ?_) ?_
  · show Steps p.tables e below (T1.setTop (mkF m 4 #[.val (.ref a0), .val (.ref a1), .val (.ref a2), .val (.ref a3), .val (.long q4), .second, .val (.long q5), .second, .val (.long q6), .second] [])) _
    refine XS.aloadN X1.here hx rfl (hb hby d1_4) rfl rfl ?_
    show Steps p.tables e below (T1.setTop (mkF m 5 #[.val (.ref a0), .val (.ref a1), .val (.ref a2), .val (.ref a3), .val (.long q4), .second, .val (.long q5), .second, .val (.long q6), .second] [(.ref a0)])) _
    refine XS.aloadN X1.here hx rfl (hb hby d1_5) rfl rfl ?_
    exact kt
  obtain ⟨T2, h2, X2, e2, W2, st2⟩ := putF X1 hx hZ hown (host := "") (Or.inl (hw _ (List.mem_of_getElem? (i := 22) rfl))) Via.refl e1 F_a0_type E_a0 (Or.inr ⟨(hw _ (List.mem_of_getElem? (i := 23) rfl)), rfl, hnm⟩) (hw _ (List.mem_of_getElem? (i := 4) rfl)) (ty := (.object "java/lang/String")) (by decide) rfl rfl (g := (mkF m 6 #[.val (.ref a0), .val (.ref a1), .val (.ref a2), .val (.ref a3), .val (.long q4), .second, .val (.long q5), .second, .val (.long q6), .second] [(.ref a1), (.ref a0)])) rfl rfl (hb hby d1_6)
  have N2 := Fr.snoc X2 N0 g_a0
  have O2 := O0.wr W2 g_a0
  have K2 : Keep h0 h2 [a0] := K0.wr W2 (Or.inl (List.mem_of_getElem? (i := 0) rfl))
  have E_a0_2 := E_a0.wr W2
  have F_a0_store_2 := F_a0_store.other W2 (Or.inr (slot_ne (Or.inr (hw _ (List.mem_of_getElem? (i := 25) rfl))) (Or.inr (hw _ (List.mem_of_getElem? (i := 23) rfl))) (by decide) (t := (.object "java/lang/String")) (t' := (.object "java/lang/String")) (by decide) (by decide)))
  have F_a0_group_2 := F_a0_group.other W2 (Or.inr (slot_ne (Or.inr (hw _ (List.mem_of_getElem? (i := 27) rfl))) (Or.inr (hw _ (List.mem_of_getElem? (i := 23) rfl))) (by decide) (t := (.object "java/lang/String")) (t' := (.object "java/lang/String")) (by decide) (by decide)))
  have F_a0_pending_2 := F_a0_pending.other W2 (Or.inr (slot_ne (Or.inr (hw _ (List.mem_of_getElem? (i := 29) rfl))) (Or.inr (hw _ (List.mem_of_getElem? (i := 23) rfl))) (by decide) (t := .long) (t' := (.object "java/lang/String")) (by decide) (by decide)))
  have F_a0_total_2 := F_a0_total.other W2 (Or.inr (slot_ne (Or.inr (hw _ (List.mem_of_getElem? (i := 31) rfl))) (Or.inr (hw _ (List.mem_of_getElem? (i := 23) rfl))) (by decide) (t := .long) (t' := (.object "java/lang/String")) (by decide) (by decide)))
  have F_a0_expireSeconds_2 := F_a0_expireSeconds.other W2 (Or.inr (slot_ne (Or.inr (hw _ (List.mem_of_getElem? (i := 33) rfl))) (Or.inr (hw _ (List.mem_of_getElem? (i := 23) rfl))) (by decide) (t := .long) (t' := (.object "java/lang/String")) (by decide) (by decide)))
  have F_a0_type_2 := F_a0_type.same W2
  refine Gl.up (B := T2.setTop (mkF m 9 #[.val (.ref a0), .val (.ref a1), .val (.ref a2), .val (.ref a3), .val (.long q4), .second, .val (.long q5), .second, .val (.long q6), .second] [])) (fun t kt => st2 _ kt) ?_
  refine Gl.up (B := T2.setTop (mkF m 11 #[.val (.ref a0), .val (.ref a1), .val (.ref a2), .val (.ref a3), .val (.long q4), .second, .val (.long q5), .second, .val (.long q6), .second] [(.ref a2), (.ref a0)])) (fun t kt => ?_) ?_
  · show Steps p.tables e below (T2.setTop (mkF m 9 #[.val (.ref a0), .val (.ref a1), .val (.ref a2), .val (.ref a3), .val (.long q4), .second, .val (.long q5), .second, .val (.long q6), .second] [])) _
    refine XS.aloadN X2.here hx rfl (hb hby d1_9) rfl rfl ?_
    show Steps p.tables e below (T2.setTop (mkF m 10 #[.val (.ref a0), .val (.ref a1), .val (.ref a2), .val (.ref a3), .val (.long q4), .second, .val (.long q5), .second, .val (.long q6), .second] [(.ref a0)])) _
    refine XS.aloadN X2.here hx rfl (hb hby d1_10) rfl rfl ?_
    exact kt
  obtain ⟨T3, h3, X3, e3, W3, st3⟩ := putF X2 hx hZ hown (host := "") (Or.inl (hw _ (List.mem_of_getElem? (i := 24) rfl))) Via.refl e2 F_a0_store_2 E_a0_2 (Or.inr ⟨(hw _ (List.mem_of_getElem? (i := 25) rfl)), rfl, hnm⟩) (hw _ (List.mem_of_getElem? (i := 4) rfl)) (ty := (.object "java/lang/String")) (by decide) rfl rfl (g := (mkF m 11 #[.val (.ref a0), .val (.ref a1), .val (.ref a2), .val (.ref a3), .val (.long q4), .second, .val (.long q5), .second, .val (.long q6), .second] [(.ref a2), (.ref a0)])) rfl rfl (hb hby d1_11)
  have N3 := Fr.snoc X3 N2 g_a0
  have O3 := O2.wr W3 g_a0
  have K3 : Keep h0 h3 [a0] := K2.wr W3 (Or.inl (List.mem_of_getElem? (i := 0) rfl))
  have E_a0_3 := E_a0_2.wr W3
  have F_a0_type_3 := F_a0_type_2.other W3 (Or.inr (slot_ne (Or.inr (hw _ (List.mem_of_getElem? (i := 23) rfl))) (Or.inr (hw _ (List.mem_of_getElem? (i := 25) rfl))) (by decide) (t := (.object "java/lang/String")) (t' := (.object "java/lang/String")) (by decide) (by decide)))
  have F_a0_group_3 := F_a0_group_2.other W3 (Or.inr (slot_ne (Or.inr (hw _ (List.mem_of_getElem? (i := 27) rfl))) (Or.inr (hw _ (List.mem_of_getElem? (i := 25) rfl))) (by decide) (t := (.object "java/lang/String")) (t' := (.object "java/lang/String")) (by decide) (by decide)))
  have F_a0_pending_3 := F_a0_pending_2.other W3 (Or.inr (slot_ne (Or.inr (hw _ (List.mem_of_getElem? (i := 29) rfl))) (Or.inr (hw _ (List.mem_of_getElem? (i := 25) rfl))) (by decide) (t := .long) (t' := (.object "java/lang/String")) (by decide) (by decide)))
  have F_a0_total_3 := F_a0_total_2.other W3 (Or.inr (slot_ne (Or.inr (hw _ (List.mem_of_getElem? (i := 31) rfl))) (Or.inr (hw _ (List.mem_of_getElem? (i := 25) rfl))) (by decide) (t := .long) (t' := (.object "java/lang/String")) (by decide) (by decide)))
  have F_a0_expireSeconds_3 := F_a0_expireSeconds_2.other W3 (Or.inr (slot_ne (Or.inr (hw _ (List.mem_of_getElem? (i := 33) rfl))) (Or.inr (hw _ (List.mem_of_getElem? (i := 25) rfl))) (by decide) (t := .long) (t' := (.object "java/lang/String")) (by decide) (by decide)))
  have F_a0_store_3 := F_a0_store_2.same W3
  refine Gl.up (B := T3.setTop (mkF m 14 #[.val (.ref a0), .val (.ref a1), .val (.ref a2), .val (.ref a3), .val (.long q4), .second, .val (.long q5), .second, .val (.long q6), .second] [])) (fun t kt => st3 _ kt) ?_
  refine Gl.up (B := T3.setTop (mkF m 16 #[.val (.ref a0), .val (.ref a1), .val (.ref a2), .val (.ref a3), .val (.long q4), .second, .val (.long q5), .second, .val (.long q6), .second] [(.ref a3), (.ref a0)])) (fun t kt => ?_) ?_
  · show Steps p.tables e below (T3.setTop (mkF m 14 #[.val (.ref a0), .val (.ref a1), .val (.ref a2), .val (.ref a3), .val (.long q4), .second, .val (.long q5), .second, .val (.long q6), .second] [])) _
    refine XS.aloadN X3.here hx rfl (hb hby d1_14) rfl rfl ?_
    show Steps p.tables e below (T3.setTop (mkF m 15 #[.val (.ref a0), .val (.ref a1), .val (.ref a2), .val (.ref a3), .val (.long q4), .second, .val (.long q5), .second, .val (.long q6), .second] [(.ref a0)])) _
    refine XS.aloadN X3.here hx rfl (hb hby d1_15) rfl rfl ?_
    exact kt
  obtain ⟨T4, h4, X4, e4, W4, st4⟩ := putF X3 hx hZ hown (host := "") (Or.inl (hw _ (List.mem_of_getElem? (i := 26) rfl))) Via.refl e3 F_a0_group_3 E_a0_3 (Or.inr ⟨(hw _ (List.mem_of_getElem? (i := 27) rfl)), rfl, hnm⟩) (hw _ (List.mem_of_getElem? (i := 4) rfl)) (ty := (.object "java/lang/String")) (by decide) rfl rfl (g := (mkF m 16 #[.val (.ref a0), .val (.ref a1), .val (.ref a2), .val (.ref a3), .val (.long q4), .second, .val (.long q5), .second, .val (.long q6), .second] [(.ref a3), (.ref a0)])) rfl rfl (hb hby d1_16)
  have N4 := Fr.snoc X4 N3 g_a0
  have O4 := O3.wr W4 g_a0
  have K4 : Keep h0 h4 [a0] := K3.wr W4 (Or.inl (List.mem_of_getElem? (i := 0) rfl))
  have E_a0_4 := E_a0_3.wr W4
  have F_a0_type_4 := F_a0_type_3.other W4 (Or.inr (slot_ne (Or.inr (hw _ (List.mem_of_getElem? (i := 23) rfl))) (Or.inr (hw _ (List.mem_of_getElem? (i := 27) rfl))) (by decide) (t := (.object "java/lang/String")) (t' := (.object "java/lang/String")) (by decide) (by decide)))
  have F_a0_store_4 := F_a0_store_3.other W4 (Or.inr (slot_ne (Or.inr (hw _ (List.mem_of_getElem? (i := 25) rfl))) (Or.inr (hw _ (List.mem_of_getElem? (i := 27) rfl))) (by decide) (t := (.object "java/lang/String")) (t' := (.object "java/lang/String")) (by decide) (by decide)))
  have F_a0_pending_4 := F_a0_pending_3.other W4 (Or.inr (slot_ne (Or.inr (hw _ (List.mem_of_getElem? (i := 29) rfl))) (Or.inr (hw _ (List.mem_of_getElem? (i := 27) rfl))) (by decide) (t := .long) (t' := (.object "java/lang/String")) (by decide) (by decide)))
  have F_a0_total_4 := F_a0_total_3.other W4 (Or.inr (slot_ne (Or.inr (hw _ (List.mem_of_getElem? (i := 31) rfl))) (Or.inr (hw _ (List.mem_of_getElem? (i := 27) rfl))) (by decide) (t := .long) (t' := (.object "java/lang/String")) (by decide) (by decide)))
  have F_a0_expireSeconds_4 := F_a0_expireSeconds_3.other W4 (Or.inr (slot_ne (Or.inr (hw _ (List.mem_of_getElem? (i := 33) rfl))) (Or.inr (hw _ (List.mem_of_getElem? (i := 27) rfl))) (by decide) (t := .long) (t' := (.object "java/lang/String")) (by decide) (by decide)))
  have F_a0_group_4 := F_a0_group_3.same W4
  refine Gl.up (B := T4.setTop (mkF m 19 #[.val (.ref a0), .val (.ref a1), .val (.ref a2), .val (.ref a3), .val (.long q4), .second, .val (.long q5), .second, .val (.long q6), .second] [])) (fun t kt => st4 _ kt) ?_
  refine Gl.up (B := T4.setTop (mkF m 22 #[.val (.ref a0), .val (.ref a1), .val (.ref a2), .val (.ref a3), .val (.long q4), .second, .val (.long q5), .second, .val (.long q6), .second] [(.long q4), (.ref a0)])) (fun t kt => ?_) ?_
  · show Steps p.tables e below (T4.setTop (mkF m 19 #[.val (.ref a0), .val (.ref a1), .val (.ref a2), .val (.ref a3), .val (.long q4), .second, .val (.long q5), .second, .val (.long q6), .second] [])) _
    refine XS.aloadN X4.here hx rfl (hb hby d1_19) rfl rfl ?_
    show Steps p.tables e below (T4.setTop (mkF m 20 #[.val (.ref a0), .val (.ref a1), .val (.ref a2), .val (.ref a3), .val (.long q4), .second, .val (.long q5), .second, .val (.long q6), .second] [(.ref a0)])) _
    refine XS.lload X4.here hx rfl (hb hby d1_20) rfl ?_
    exact kt
  obtain ⟨T5, h5, X5, e5, W5, st5⟩ := putF X4 hx hZ hown (host := "") (Or.inl (hw _ (List.mem_of_getElem? (i := 28) rfl))) Via.refl e4 F_a0_pending_4 E_a0_4 (Or.inr ⟨(hw _ (List.mem_of_getElem? (i := 29) rfl)), rfl, hnm⟩) (hw _ (List.mem_of_getElem? (i := 4) rfl)) (ty := .long) (by decide) rfl rfl (g := (mkF m 22 #[.val (.ref a0), .val (.ref a1), .val (.ref a2), .val (.ref a3), .val (.long q4), .second, .val (.long q5), .second, .val (.long q6), .second] [(.long q4), (.ref a0)])) rfl rfl (hb hby d1_22)
  have N5 := Fr.snoc X5 N4 g_a0
  have O5 := O4.wr W5 g_a0
  have K5 : Keep h0 h5 [a0] := K4.wr W5 (Or.inl (List.mem_of_getElem? (i := 0) rfl))
  have E_a0_5 := E_a0_4.wr W5
  have F_a0_type_5 := F_a0_type_4.other W5 (Or.inr (slot_ne (Or.inr (hw _ (List.mem_of_getElem? (i := 23) rfl))) (Or.inr (hw _ (List.mem_of_getElem? (i := 29) rfl))) (by decide) (t := (.object "java/lang/String")) (t' := .long) (by decide) (by decide)))
  have F_a0_store_5 := F_a0_store_4.other W5 (Or.inr (slot_ne (Or.inr (hw _ (List.mem_of_getElem? (i := 25) rfl))) (Or.inr (hw _ (List.mem_of_getElem? (i := 29) rfl))) (by decide) (t := (.object "java/lang/String")) (t' := .long) (by decide) (by decide)))
  have F_a0_group_5 := F_a0_group_4.other W5 (Or.inr (slot_ne (Or.inr (hw _ (List.mem_of_getElem? (i := 27) rfl))) (Or.inr (hw _ (List.mem_of_getElem? (i := 29) rfl))) (by decide) (t := (.object "java/lang/String")) (t' := .long) (by decide) (by decide)))
  have F_a0_total_5 := F_a0_total_4.other W5 (Or.inr (slot_ne (Or.inr (hw _ (List.mem_of_getElem? (i := 31) rfl))) (Or.inr (hw _ (List.mem_of_getElem? (i := 29) rfl))) (by decide) (t := .long) (t' := .long) (by decide) (by decide)))
  have F_a0_expireSeconds_5 := F_a0_expireSeconds_4.other W5 (Or.inr (slot_ne (Or.inr (hw _ (List.mem_of_getElem? (i := 33) rfl))) (Or.inr (hw _ (List.mem_of_getElem? (i := 29) rfl))) (by decide) (t := .long) (t' := .long) (by decide) (by decide)))
  have F_a0_pending_5 := F_a0_pending_4.same W5
  refine Gl.up (B := T5.setTop (mkF m 25 #[.val (.ref a0), .val (.ref a1), .val (.ref a2), .val (.ref a3), .val (.long q4), .second, .val (.long q5), .second, .val (.long q6), .second] [])) (fun t kt => st5 _ kt) ?_
  refine Gl.up (B := T5.setTop (mkF m 28 #[.val (.ref a0), .val (.ref a1), .val (.ref a2), .val (.ref a3), .val (.long q4), .second, .val (.long q5), .second, .val (.long q6), .second] [(.long q5), (.ref a0)])) (fun t kt => ?_) ?_
  · show Steps p.tables e below (T5.setTop (mkF m 25 #[.val (.ref a0), .val (.ref a1), .val (.ref a2), .val (.ref a3), .val (.long q4), .second, .val (.long q5), .second, .val (.long q6), .second] [])) _
    refine XS.aloadN X5.here hx rfl (hb hby d1_25) rfl rfl ?_
    show Steps p.tables e below (T5.setTop (mkF m 26 #[.val (.ref a0), .val (.ref a1), .val (.ref a2), .val (.ref a3), .val (.long q4), .second, .val (.long q5), .second, .val (.long q6), .second] [(.ref a0)])) _
    refine XS.lload X5.here hx rfl (hb hby d1_26) rfl ?_
    exact kt
  obtain ⟨T6, h6, X6, e6, W6, st6⟩ := putF X5 hx hZ hown (host := "") (Or.inl (hw _ (List.mem_of_getElem? (i := 30) rfl))) Via.refl e5 F_a0_total_5 E_a0_5 (Or.inr ⟨(hw _ (List.mem_of_getElem? (i := 31) rfl)), rfl, hnm⟩) (hw _ (List.mem_of_getElem? (i := 4) rfl)) (ty := .long) (by decide) rfl rfl (g := (mkF m 28 #[.val (.ref a0), .val (.ref a1), .val (.ref a2), .val (.ref a3), .val (.long q4), .second, .val (.long q5), .second, .val (.long q6), .second] [(.long q5), (.ref a0)])) rfl rfl (hb hby d1_28)
  have N6 := Fr.snoc X6 N5 g_a0
  have O6 := O5.wr W6 g_a0
  have K6 : Keep h0 h6 [a0] := K5.wr W6 (Or.inl (List.mem_of_getElem? (i := 0) rfl))
  have E_a0_6 := E_a0_5.wr W6
  have F_a0_type_6 := F_a0_type_5.other W6 (Or.inr (slot_ne (Or.inr (hw _ (List.mem_of_getElem? (i := 23) rfl))) (Or.inr (hw _ (List.mem_of_getElem? (i := 31) rfl))) (by decide) (t := (.object "java/lang/String")) (t' := .long) (by decide) (by decide)))
  have F_a0_store_6 := F_a0_store_5.other W6 (Or.inr (slot_ne (Or.inr (hw _ (List.mem_of_getElem? (i := 25) rfl))) (Or.inr (hw _ (List.mem_of_getElem? (i := 31) rfl))) (by decide) (t := (.object "java/lang/String")) (t' := .long) (by decide) (by decide)))
  have F_a0_group_6 := F_a0_group_5.other W6 (Or.inr (slot_ne (Or.inr (hw _ (List.mem_of_getElem? (i := 27) rfl))) (Or.inr (hw _ (List.mem_of_getElem? (i := 31) rfl))) (by decide) (t := (.object "java/lang/String")) (t' := .long) (by decide) (by decide)))
  have F_a0_pending_6 := F_a0_pending_5.other W6 (Or.inr (slot_ne (Or.inr (hw _ (List.mem_of_getElem? (i := 29) rfl))) (Or.inr (hw _ (List.mem_of_getElem? (i := 31) rfl))) (by decide) (t := .long) (t' := .long) (by decide) (by decide)))
  have F_a0_expireSeconds_6 := F_a0_expireSeconds_5.other W6 (Or.inr (slot_ne (Or.inr (hw _ (List.mem_of_getElem? (i := 33) rfl))) (Or.inr (hw _ (List.mem_of_getElem? (i := 31) rfl))) (by decide) (t := .long) (t' := .long) (by decide) (by decide)))
  have F_a0_total_6 := F_a0_total_5.same W6
  refine Gl.up (B := T6.setTop (mkF m 31 #[.val (.ref a0), .val (.ref a1), .val (.ref a2), .val (.ref a3), .val (.long q4), .second, .val (.long q5), .second, .val (.long q6), .second] [])) (fun t kt => st6 _ kt) ?_
  refine Gl.up (B := T6.setTop (mkF m 34 #[.val (.ref a0), .val (.ref a1), .val (.ref a2), .val (.ref a3), .val (.long q4), .second, .val (.long q5), .second, .val (.long q6), .second] [(.long q6), (.ref a0)])) (fun t kt => ?_) ?_
  · show Steps p.tables e below (T6.setTop (mkF m 31 #[.val (.ref a0), .val (.ref a1), .val (.ref a2), .val (.ref a3), .val (.long q4), .second, .val (.long q5), .second, .val (.long q6), .second] [])) _
    refine XS.aloadN X6.here hx rfl (hb hby d1_31) rfl rfl ?_
    show Steps p.tables e below (T6.setTop (mkF m 32 #[.val (.ref a0), .val (.ref a1), .val (.ref a2), .val (.ref a3), .val (.long q4), .second, .val (.long q5), .second, .val (.long q6), .second] [(.ref a0)])) _
    refine XS.lload X6.here hx rfl (hb hby d1_32) rfl ?_
    exact kt
  obtain ⟨T7, h7, X7, e7, W7, st7⟩ := putF X6 hx hZ hown (host := "") (Or.inl (hw _ (List.mem_of_getElem? (i := 32) rfl))) Via.refl e6 F_a0_expireSeconds_6 E_a0_6 (Or.inr ⟨(hw _ (List.mem_of_getElem? (i := 33) rfl)), rfl, hnm⟩) (hw _ (List.mem_of_getElem? (i := 4) rfl)) (ty := .long) (by decide) rfl rfl (g := (mkF m 34 #[.val (.ref a0), .val (.ref a1), .val (.ref a2), .val (.ref a3), .val (.long q4), .second, .val (.long q5), .second, .val (.long q6), .second] [(.long q6), (.ref a0)])) rfl rfl (hb hby d1_34)
  have N7 := Fr.snoc X7 N6 g_a0
  have O7 := O6.wr W7 g_a0
  have K7 : Keep h0 h7 [a0] := K6.wr W7 (Or.inl (List.mem_of_getElem? (i := 0) rfl))
  have E_a0_7 := E_a0_6.wr W7
  have F_a0_type_7 := F_a0_type_6.other W7 (Or.inr (slot_ne (Or.inr (hw _ (List.mem_of_getElem? (i := 23) rfl))) (Or.inr (hw _ (List.mem_of_getElem? (i := 33) rfl))) (by decide) (t := (.object "java/lang/String")) (t' := .long) (by decide) (by decide)))
  have F_a0_store_7 := F_a0_store_6.other W7 (Or.inr (slot_ne (Or.inr (hw _ (List.mem_of_getElem? (i := 25) rfl))) (Or.inr (hw _ (List.mem_of_getElem? (i := 33) rfl))) (by decide) (t := (.object "java/lang/String")) (t' := .long) (by decide) (by decide)))
  have F_a0_group_7 := F_a0_group_6.other W7 (Or.inr (slot_ne (Or.inr (hw _ (List.mem_of_getElem? (i := 27) rfl))) (Or.inr (hw _ (List.mem_of_getElem? (i := 33) rfl))) (by decide) (t := (.object "java/lang/String")) (t' := .long) (by decide) (by decide)))
  have F_a0_pending_7 := F_a0_pending_6.other W7 (Or.inr (slot_ne (Or.inr (hw _ (List.mem_of_getElem? (i := 29) rfl))) (Or.inr (hw _ (List.mem_of_getElem? (i := 33) rfl))) (by decide) (t := .long) (t' := .long) (by decide) (by decide)))
  have F_a0_total_7 := F_a0_total_6.other W7 (Or.inr (slot_ne (Or.inr (hw _ (List.mem_of_getElem? (i := 31) rfl))) (Or.inr (hw _ (List.mem_of_getElem? (i := 33) rfl))) (by decide) (t := .long) (t' := .long) (by decide) (by decide)))
  have F_a0_expireSeconds_7 := F_a0_expireSeconds_6.same W7
  refine Gl.up (B := T7.setTop (mkF m 37 #[.val (.ref a0), .val (.ref a1), .val (.ref a2), .val (.ref a3), .val (.long q4), .second, .val (.long q5), .second, .val (.long q6), .second] [])) (fun t kt => st7 _ kt) ?_
  refine Gl.ret0 X7 hx hlk Bd.returns (hb hby d1_37) ?_ (by decide) (by decide)
  show Q1 Z a0 a1 a2 a3 q4 q5 q6 pe to ex h0 n0 _ T7.heap _; rw [e7]; exact ⟨rfl, N7, K7, F_a0_pending_7, F_a0_total_7, F_a0_expireSeconds_7⟩
def f2 (p1 : Int32) (q2 : Int64) (q3 : Int64) (pe : Int64) (to : Int64) (ex : Int64) : Int32 := (if p1 = (0 : Int32) then (0 : Int32) else (if pe = (0 : Int64) then (if to = (0 : Int64) then (if ex = (0 : Int64) then (1 : Int32) else (if (0 : Int64) < pe then (if (p1.toInt64) < pe then (if (0 : Int64) < to then (if q2 < to then (if (0 : Int64) < ex then (if q3 < (ex * (1000000000 : Int64)) then (0 : Int32) else (1 : Int32)) else (0 : Int32)) else (1 : Int32)) else (if (0 : Int64) < ex then (if q3 < (ex * (1000000000 : Int64)) then (0 : Int32) else (1 : Int32)) else (0 : Int32))) else (1 : Int32)) else (if (0 : Int64) < to then (if q2 < to then (if (0 : Int64) < ex then (if q3 < (ex * (1000000000 : Int64)) then (0 : Int32) else (1 : Int32)) else (0 : Int32)) else (1 : Int32)) else (if (0 : Int64) < ex then (if q3 < (ex * (1000000000 : Int64)) then (0 : Int32) else (1 : Int32)) else (0 : Int32))))) else (if (0 : Int64) < pe then (if (p1.toInt64) < pe then (if (0 : Int64) < to then (if q2 < to then (if (0 : Int64) < ex then (if q3 < (ex * (1000000000 : Int64)) then (0 : Int32) else (1 : Int32)) else (0 : Int32)) else (1 : Int32)) else (if (0 : Int64) < ex then (if q3 < (ex * (1000000000 : Int64)) then (0 : Int32) else (1 : Int32)) else (0 : Int32))) else (1 : Int32)) else (if (0 : Int64) < to then (if q2 < to then (if (0 : Int64) < ex then (if q3 < (ex * (1000000000 : Int64)) then (0 : Int32) else (1 : Int32)) else (0 : Int32)) else (1 : Int32)) else (if (0 : Int64) < ex then (if q3 < (ex * (1000000000 : Int64)) then (0 : Int32) else (1 : Int32)) else (0 : Int32))))) else (if (0 : Int64) < pe then (if (p1.toInt64) < pe then (if (0 : Int64) < to then (if q2 < to then (if (0 : Int64) < ex then (if q3 < (ex * (1000000000 : Int64)) then (0 : Int32) else (1 : Int32)) else (0 : Int32)) else (1 : Int32)) else (if (0 : Int64) < ex then (if q3 < (ex * (1000000000 : Int64)) then (0 : Int32) else (1 : Int32)) else (0 : Int32))) else (1 : Int32)) else (if (0 : Int64) < to then (if q2 < to then (if (0 : Int64) < ex then (if q3 < (ex * (1000000000 : Int64)) then (0 : Int32) else (1 : Int32)) else (0 : Int32)) else (1 : Int32)) else (if (0 : Int64) < ex then (if q3 < (ex * (1000000000 : Int64)) then (0 : Int32) else (1 : Int32)) else (0 : Int32))))))
theorem f2_b (p1 : Int32) (q2 : Int64) (q3 : Int64) (pe : Int64) (to : Int64) (ex : Int64) : f2 p1 q2 q3 pe to ex = 0 ∨ f2 p1 q2 q3 pe to ex = 1 := (b01_ite (Or.inl rfl) (b01_ite (b01_ite (b01_ite (Or.inr rfl) (b01_ite (b01_ite (b01_ite (b01_ite (b01_ite (b01_ite (Or.inl rfl) (Or.inr rfl)) (Or.inl rfl)) (Or.inr rfl)) (b01_ite (b01_ite (Or.inl rfl) (Or.inr rfl)) (Or.inl rfl))) (Or.inr rfl)) (b01_ite (b01_ite (b01_ite (b01_ite (Or.inl rfl) (Or.inr rfl)) (Or.inl rfl)) (Or.inr rfl)) (b01_ite (b01_ite (Or.inl rfl) (Or.inr rfl)) (Or.inl rfl))))) (b01_ite (b01_ite (b01_ite (b01_ite (b01_ite (b01_ite (Or.inl rfl) (Or.inr rfl)) (Or.inl rfl)) (Or.inr rfl)) (b01_ite (b01_ite (Or.inl rfl) (Or.inr rfl)) (Or.inl rfl))) (Or.inr rfl)) (b01_ite (b01_ite (b01_ite (b01_ite (Or.inl rfl) (Or.inr rfl)) (Or.inl rfl)) (Or.inr rfl)) (b01_ite (b01_ite (Or.inl rfl) (Or.inr rfl)) (Or.inl rfl))))) (b01_ite (b01_ite (b01_ite (b01_ite (b01_ite (b01_ite (Or.inl rfl) (Or.inr rfl)) (Or.inl rfl)) (Or.inr rfl)) (b01_ite (b01_ite (Or.inl rfl) (Or.inr rfl)) (Or.inl rfl))) (Or.inr rfl)) (b01_ite (b01_ite (b01_ite (b01_ite (Or.inl rfl) (Or.inr rfl)) (Or.inl rfl)) (Or.inr rfl)) (b01_ite (b01_ite (Or.inl rfl) (Or.inr rfl)) (Or.inl rfl))))))
def Q2 (Z : State) (a0 : Addr) (p1 : Int32) (q2 : Int64) (q3 : Int64) (pe : Int64) (to : Int64) (ex : Int64) (h0 : Heap) (n0 : Nat) (v : Option Value) (h : Heap) (L : List Loc) : Prop := v = some (.int (f2 p1 q2 q3 pe to ex)) ∧ L = [] ∧ h = h0
theorem ef2 (m : MethodId) (a0 : Addr) (p1 : Int32) (q2 : Int64) (q3 : Int64) : entryFrame m #[(.ref a0), (.int p1), (.long q2), (.long q3)] 6 = mkF m 0 #[.val (.ref a0), .val (.int p1), .val (.long q2), .second, .val (.long q3), .second] [] := by first | (simp [entryFrame, mkF, argsToLocals, Value.category]; done) | rfl
set_option maxRecDepth 65536 in
set_option maxHeartbeats 40000000 in
theorem rm2 (l : Launch) (Z : State) (aa : Array Value) (hw : ∀ d ∈ tables_1, d.before aa Z = true) (ws : List Jvm.Cond) (a0 : Addr) (p1 : Int32) (q2 : Int64) (q3 : Int64) (pe : Int64) (to : Int64) (ex : Int64) (h0 : Heap) (n0 : Nat) (O0 : Old Z n0 h0) (E_a0 : Exa Z h0 a0 "com/example/pooltergeist/pooltergeist/pool/ClassDefinition") (F_a0_pending : Fld Z h0 a0 "com/example/pooltergeist/pooltergeist/pool/ClassDefinition" "pending" "J" (.long pe)) (F_a0_total : Fld Z h0 a0 "com/example/pooltergeist/pooltergeist/pool/ClassDefinition" "total" "J" (.long to)) (F_a0_expireSeconds : Fld Z h0 a0 "com/example/pooltergeist/pooltergeist/pool/ClassDefinition" "expireSeconds" "J" (.long ex)) :
    MetFree l (⟨"com/example/pooltergeist/pooltergeist/pool/ClassDefinition", "due", "(IJJ)Z"⟩ : MethodName) (head1 (Jvm.Cond.code (⟨"com/example/pooltergeist/pooltergeist/pool/ClassDefinition", "due", "(IJJ)Z"⟩ : MethodName) prog_43_method_4_code 6 (some .boolean) :: ws) ({ frames := 0, cells := 0, slots := 0, locals := 0 } : Room)) (fun a U => a = #[(.ref a0), (.int p1), (.long q2), (.long q3)] ∧ Z.Warmed39 U.vm ∧ U.heap = h0) (fun _ _ _ _ _ => True) (fun _ U o U' => ∃ v L, o = .returned v ∧ Q2 Z a0 p1 q2 q3 pe to ex h0 n0 v U'.heap L ∧ FrameEnd U o U' L ({ frames := 0, cells := 0, slots := 0, locals := 0 } : Room).cells ({ frames := 0, cells := 0, slots := 0, locals := 0 } : Room).slots) := by
  refine MetFree.of_bodySF (plainFor_of_name pn_com_example_pooltergeist_pooltergeist_pool_ClassDefinition) hisR ?_
  intro p e s m args below meth c s₁ Bd hml0 hP hK
  obtain ⟨rfl, hZ, hh⟩ := hP
  have hx := Bd.exec
  have hby := Bd.bytes
  have hlk := Bd.notSynchronized
  have hml : c.maxLocals = 6 := hml0
  have hown : s.vm.findClass "com/example/pooltergeist/pooltergeist/pool/ClassDefinition" = some m.cls := findClass_of_methodNamed Bd.named
  have hnm := (name_of_methodNamed Bd.named Bd.method).1
  have X0 : Stand p l e ({ frames := 0, cells := 0, slots := 0, locals := 0 } : Room) s m #[(.ref a0), (.int p1), (.long q2), (.long q3)] below meth c s₁ [] 0 0 := Stand.of_body Bd
  have e0 : s₁.heap = h0 := by rw [← hh, Bd.state]; rfl
  have N0 := Fr.nil n0
  show Gl p e below (Ret s 0 0 (Q2 Z a0 p1 q2 q3 pe to ex h0 n0)) (s₁.setTop (entryFrame m #[(.ref a0), (.int p1), (.long q2), (.long q3)] 6))
  rw [ef2 m a0 p1 q2 q3]
  obtain ⟨args, hargs⟩ : ∃ z : Array Value, z = #[(.ref a0), (.int p1), (.long q2), (.long q3)] := ⟨_, rfl⟩
  rw [← hargs] at X0
  refine Gl.up (B := s₁.setTop (mkF m 1 #[.val (.ref a0), .val (.int p1), .val (.long q2), .second, .val (.long q3), .second] [(.int p1)])) (fun t kt => ?_) ?_
  · show Steps p.tables e below (s₁.setTop (mkF m 0 #[.val (.ref a0), .val (.int p1), .val (.long q2), .second, .val (.long q3), .second] [])) _
    refine XS.iloadN X0.here hx rfl (hb hby d2_0) rfl ?_
    exact kt
  by_cases c1_1 : p1 = (0 : Int32)
  · refine Gl.up (B := s₁.setTop (mkF m 5 #[.val (.ref a0), .val (.int p1), .val (.long q2), .second, .val (.long q3), .second] [(.int (0 : Int32))])) (fun t kt => ?_) ?_
    · show Steps p.tables e below (s₁.setTop (mkF m 1 #[.val (.ref a0), .val (.int p1), .val (.long q2), .second, .val (.long q3), .second] [(.int p1)])) _
      refine XS.ifNo X0.here hx rfl (hb hby d2_1) rfl ((if0 _ _).trans (teq c1_1).2) ?_
      show Steps p.tables e below (s₁.setTop (mkF m 4 #[.val (.ref a0), .val (.int p1), .val (.long q2), .second, .val (.long q3), .second] [])) _
      refine XS.iconst X0.here hx rfl (hb hby d2_4) ?_
      exact kt
    refine Gl.retN X0 hx hlk (t := .boolean) Bd.returns (by simp) (hb hby d2_5) (w := (0 : Int32)) rfl ?_ (by decide) (by decide)
    exact ⟨congrArg (fun z => some (Value.int z)) (show (0 : Int32) = f2 p1 q2 q3 pe to ex from (if_pos c1_1).symm), rfl, e0⟩
  · refine Gl.up (B := s₁.setTop (mkF m 7 #[.val (.ref a0), .val (.int p1), .val (.long q2), .second, .val (.long q3), .second] [(.ref a0)])) (fun t kt => ?_) ?_
    · show Steps p.tables e below (s₁.setTop (mkF m 1 #[.val (.ref a0), .val (.int p1), .val (.long q2), .second, .val (.long q3), .second] [(.int p1)])) _
      refine XS.ifYes X0.here hx rfl (pc0 := 1) (pc' := 6) rfl (hb hby d2_1) rfl ((if0 _ _).trans (feq c1_1).2) (by decide) (by decide) ?_
      show Steps p.tables e below (s₁.setTop (mkF m 6 #[.val (.ref a0), .val (.int p1), .val (.long q2), .second, .val (.long q3), .second] [])) _
      refine XS.aloadN X0.here hx rfl (hb hby d2_6) rfl rfl ?_
      exact kt
    obtain ⟨T2, X2, e2, st2⟩ := getF X0 hx hZ hown (host := "") (Or.inl (hw _ (List.mem_of_getElem? (i := 28) rfl))) Via.refl e0 F_a0_pending (g := (mkF m 7 #[.val (.ref a0), .val (.int p1), .val (.long q2), .second, .val (.long q3), .second] [(.ref a0)])) rfl rfl (hb hby d2_7)
    refine Gl.up (B := T2.setTop (mkF m 10 #[.val (.ref a0), .val (.int p1), .val (.long q2), .second, .val (.long q3), .second] [(.long pe)])) (fun t kt => st2 _ kt) ?_
    refine Gl.up (B := T2.setTop (mkF m 12 #[.val (.ref a0), .val (.int p1), .val (.long q2), .second, .val (.long q3), .second] [(.int (lcmpW pe (0 : Int64)))])) (fun t kt => ?_) ?_
    · show Steps p.tables e below (T2.setTop (mkF m 10 #[.val (.ref a0), .val (.int p1), .val (.long q2), .second, .val (.long q3), .second] [(.long pe)])) _
      refine XS.lconst X2.here hx rfl (hb hby d2_10) ?_
      show Steps p.tables e below (T2.setTop (mkF m 11 #[.val (.ref a0), .val (.int p1), .val (.long q2), .second, .val (.long q3), .second] [(.long (0 : Int64)), (.long pe)])) _
      refine XS.lcmp X2.here hx rfl (hb hby d2_11) rfl ?_
      exact kt
    by_cases c12_3 : pe = (0 : Int64)
    · refine Gl.up (B := T2.setTop (mkF m 16 #[.val (.ref a0), .val (.int p1), .val (.long q2), .second, .val (.long q3), .second] [(.ref a0)])) (fun t kt => ?_) ?_
      · show Steps p.tables e below (T2.setTop (mkF m 12 #[.val (.ref a0), .val (.int p1), .val (.long q2), .second, .val (.long q3), .second] [(.int (lcmpW pe (0 : Int64)))])) _
        refine XS.ifNo X2.here hx rfl (hb hby d2_12) rfl (jc_ne_f c12_3) ?_
        show Steps p.tables e below (T2.setTop (mkF m 15 #[.val (.ref a0), .val (.int p1), .val (.long q2), .second, .val (.long q3), .second] [])) _
        refine XS.aloadN X2.here hx rfl (hb hby d2_15) rfl rfl ?_
        exact kt
      obtain ⟨T4, X4, e4, st4⟩ := getF X2 hx hZ hown (host := "") (Or.inl (hw _ (List.mem_of_getElem? (i := 30) rfl))) Via.refl e2 F_a0_total (g := (mkF m 16 #[.val (.ref a0), .val (.int p1), .val (.long q2), .second, .val (.long q3), .second] [(.ref a0)])) rfl rfl (hb hby d2_16)
      refine Gl.up (B := T4.setTop (mkF m 19 #[.val (.ref a0), .val (.int p1), .val (.long q2), .second, .val (.long q3), .second] [(.long to)])) (fun t kt => st4 _ kt) ?_
      refine Gl.up (B := T4.setTop (mkF m 21 #[.val (.ref a0), .val (.int p1), .val (.long q2), .second, .val (.long q3), .second] [(.int (lcmpW to (0 : Int64)))])) (fun t kt => ?_) ?_
      · show Steps p.tables e below (T4.setTop (mkF m 19 #[.val (.ref a0), .val (.int p1), .val (.long q2), .second, .val (.long q3), .second] [(.long to)])) _
        refine XS.lconst X4.here hx rfl (hb hby d2_19) ?_
        show Steps p.tables e below (T4.setTop (mkF m 20 #[.val (.ref a0), .val (.int p1), .val (.long q2), .second, .val (.long q3), .second] [(.long (0 : Int64)), (.long to)])) _
        refine XS.lcmp X4.here hx rfl (hb hby d2_20) rfl ?_
        exact kt
      by_cases c21_5 : to = (0 : Int64)
      · refine Gl.up (B := T4.setTop (mkF m 25 #[.val (.ref a0), .val (.int p1), .val (.long q2), .second, .val (.long q3), .second] [(.ref a0)])) (fun t kt => ?_) ?_
        · show Steps p.tables e below (T4.setTop (mkF m 21 #[.val (.ref a0), .val (.int p1), .val (.long q2), .second, .val (.long q3), .second] [(.int (lcmpW to (0 : Int64)))])) _
          refine XS.ifNo X4.here hx rfl (hb hby d2_21) rfl (jc_ne_f c21_5) ?_
          show Steps p.tables e below (T4.setTop (mkF m 24 #[.val (.ref a0), .val (.int p1), .val (.long q2), .second, .val (.long q3), .second] [])) _
          refine XS.aloadN X4.here hx rfl (hb hby d2_24) rfl rfl ?_
          exact kt
        obtain ⟨T6, X6, e6, st6⟩ := getF X4 hx hZ hown (host := "") (Or.inl (hw _ (List.mem_of_getElem? (i := 32) rfl))) Via.refl e4 F_a0_expireSeconds (g := (mkF m 25 #[.val (.ref a0), .val (.int p1), .val (.long q2), .second, .val (.long q3), .second] [(.ref a0)])) rfl rfl (hb hby d2_25)
        refine Gl.up (B := T6.setTop (mkF m 28 #[.val (.ref a0), .val (.int p1), .val (.long q2), .second, .val (.long q3), .second] [(.long ex)])) (fun t kt => st6 _ kt) ?_
        refine Gl.up (B := T6.setTop (mkF m 30 #[.val (.ref a0), .val (.int p1), .val (.long q2), .second, .val (.long q3), .second] [(.int (lcmpW ex (0 : Int64)))])) (fun t kt => ?_) ?_
        · show Steps p.tables e below (T6.setTop (mkF m 28 #[.val (.ref a0), .val (.int p1), .val (.long q2), .second, .val (.long q3), .second] [(.long ex)])) _
          refine XS.lconst X6.here hx rfl (hb hby d2_28) ?_
          show Steps p.tables e below (T6.setTop (mkF m 29 #[.val (.ref a0), .val (.int p1), .val (.long q2), .second, .val (.long q3), .second] [(.long (0 : Int64)), (.long ex)])) _
          refine XS.lcmp X6.here hx rfl (hb hby d2_29) rfl ?_
          exact kt
        by_cases c30_7 : ex = (0 : Int64)
        · refine Gl.up (B := T6.setTop (mkF m 34 #[.val (.ref a0), .val (.int p1), .val (.long q2), .second, .val (.long q3), .second] [(.int (1 : Int32))])) (fun t kt => ?_) ?_
          · show Steps p.tables e below (T6.setTop (mkF m 30 #[.val (.ref a0), .val (.int p1), .val (.long q2), .second, .val (.long q3), .second] [(.int (lcmpW ex (0 : Int64)))])) _
            refine XS.ifNo X6.here hx rfl (hb hby d2_30) rfl (jc_ne_f c30_7) ?_
            show Steps p.tables e below (T6.setTop (mkF m 33 #[.val (.ref a0), .val (.int p1), .val (.long q2), .second, .val (.long q3), .second] [])) _
            refine XS.iconst X6.here hx rfl (hb hby d2_33) ?_
            exact kt
          refine Gl.retN X6 hx hlk (t := .boolean) Bd.returns (by simp) (hb hby d2_34) (w := (1 : Int32)) rfl ?_ (by decide) (by decide)
          exact ⟨congrArg (fun z => some (Value.int z)) (show (1 : Int32) = f2 p1 q2 q3 pe to ex from ((((if_neg c1_1).trans (if_pos c12_3)).trans (if_pos c21_5)).trans (if_pos c30_7)).symm), rfl, e6⟩
        · refine Gl.up (B := T6.setTop (mkF m 36 #[.val (.ref a0), .val (.int p1), .val (.long q2), .second, .val (.long q3), .second] [(.ref a0)])) (fun t kt => ?_) ?_
          · show Steps p.tables e below (T6.setTop (mkF m 30 #[.val (.ref a0), .val (.int p1), .val (.long q2), .second, .val (.long q3), .second] [(.int (lcmpW ex (0 : Int64)))])) _
            refine XS.ifYes X6.here hx rfl (pc0 := 30) (pc' := 35) rfl (hb hby d2_30) rfl (jc_ne_t c30_7) (by decide) (by decide) ?_
            show Steps p.tables e below (T6.setTop (mkF m 35 #[.val (.ref a0), .val (.int p1), .val (.long q2), .second, .val (.long q3), .second] [])) _
            refine XS.aloadN X6.here hx rfl (hb hby d2_35) rfl rfl ?_
            exact kt
          obtain ⟨T8, X8, e8, st8⟩ := getF X6 hx hZ hown (host := "") (Or.inl (hw _ (List.mem_of_getElem? (i := 28) rfl))) Via.refl e6 F_a0_pending (g := (mkF m 36 #[.val (.ref a0), .val (.int p1), .val (.long q2), .second, .val (.long q3), .second] [(.ref a0)])) rfl rfl (hb hby d2_36)
          refine Gl.up (B := T8.setTop (mkF m 39 #[.val (.ref a0), .val (.int p1), .val (.long q2), .second, .val (.long q3), .second] [(.long pe)])) (fun t kt => st8 _ kt) ?_
          refine Gl.up (B := T8.setTop (mkF m 41 #[.val (.ref a0), .val (.int p1), .val (.long q2), .second, .val (.long q3), .second] [(.int (lcmpW pe (0 : Int64)))])) (fun t kt => ?_) ?_
          · show Steps p.tables e below (T8.setTop (mkF m 39 #[.val (.ref a0), .val (.int p1), .val (.long q2), .second, .val (.long q3), .second] [(.long pe)])) _
            refine XS.lconst X8.here hx rfl (hb hby d2_39) ?_
            show Steps p.tables e below (T8.setTop (mkF m 40 #[.val (.ref a0), .val (.int p1), .val (.long q2), .second, .val (.long q3), .second] [(.long (0 : Int64)), (.long pe)])) _
            refine XS.lcmp X8.here hx rfl (hb hby d2_40) rfl ?_
            exact kt
          suffices J9 : ∀ (T9 : State) (v9_s0 : Int32), v9_s0 = (if (0 : Int64) < pe then (if (p1.toInt64) < pe then (if (0 : Int64) < to then (if q2 < to then (if (0 : Int64) < ex then (if q3 < (ex * (1000000000 : Int64)) then (0 : Int32) else (1 : Int32)) else (0 : Int32)) else (1 : Int32)) else (if (0 : Int64) < ex then (if q3 < (ex * (1000000000 : Int64)) then (0 : Int32) else (1 : Int32)) else (0 : Int32))) else (1 : Int32)) else (if (0 : Int64) < to then (if q2 < to then (if (0 : Int64) < ex then (if q3 < (ex * (1000000000 : Int64)) then (0 : Int32) else (1 : Int32)) else (0 : Int32)) else (1 : Int32)) else (if (0 : Int64) < ex then (if q3 < (ex * (1000000000 : Int64)) then (0 : Int32) else (1 : Int32)) else (0 : Int32)))) → Stand p l e ({ frames := 0, cells := 0, slots := 0, locals := 0 } : Room) s m args below meth c T9 [] 0 0 → T9.heap = h0 → Gl p e below (Ret s 0 0 (Q2 Z a0 p1 q2 q3 pe to ex h0 n0)) (T9.setTop (mkF m 100 #[.val (.ref a0), .val (.int p1), .val (.long q2), .second, .val (.long q3), .second] [(.int v9_s0)])) by
            by_cases c41_10 : (0 : Int64) < pe
            · refine Gl.up (B := T8.setTop (mkF m 47 #[.val (.ref a0), .val (.int p1), .val (.long q2), .second, .val (.long q3), .second] [(.ref a0), (.long (p1.toInt64))])) (fun t kt => ?_) ?_
              · show Steps p.tables e below (T8.setTop (mkF m 41 #[.val (.ref a0), .val (.int p1), .val (.long q2), .second, .val (.long q3), .second] [(.int (lcmpW pe (0 : Int64)))])) _
                refine XS.ifNo X8.here hx rfl (hb hby d2_41) rfl (jc_le_f c41_10) ?_
                show Steps p.tables e below (T8.setTop (mkF m 44 #[.val (.ref a0), .val (.int p1), .val (.long q2), .second, .val (.long q3), .second] [])) _
                refine XS.iloadN X8.here hx rfl (hb hby d2_44) rfl ?_
                show Steps p.tables e below (T8.setTop (mkF m 45 #[.val (.ref a0), .val (.int p1), .val (.long q2), .second, .val (.long q3), .second] [(.int p1)])) _
                refine XS.i2l X8.here hx rfl (hb hby d2_45) rfl ?_
                show Steps p.tables e below (T8.setTop (mkF m 46 #[.val (.ref a0), .val (.int p1), .val (.long q2), .second, .val (.long q3), .second] [(.long (p1.toInt64))])) _
                refine XS.aloadN X8.here hx rfl (hb hby d2_46) rfl rfl ?_
                exact kt
              obtain ⟨T11, X11, e11, st11⟩ := getF X8 hx hZ hown (host := "") (Or.inl (hw _ (List.mem_of_getElem? (i := 28) rfl))) Via.refl e8 F_a0_pending (g := (mkF m 47 #[.val (.ref a0), .val (.int p1), .val (.long q2), .second, .val (.long q3), .second] [(.ref a0), (.long (p1.toInt64))])) rfl rfl (hb hby d2_47)
              refine Gl.up (B := T11.setTop (mkF m 50 #[.val (.ref a0), .val (.int p1), .val (.long q2), .second, .val (.long q3), .second] [(.long pe), (.long (p1.toInt64))])) (fun t kt => st11 _ kt) ?_
              refine Gl.up (B := T11.setTop (mkF m 51 #[.val (.ref a0), .val (.int p1), .val (.long q2), .second, .val (.long q3), .second] [(.int (lcmpW (p1.toInt64) pe))])) (fun t kt => ?_) ?_
              · show Steps p.tables e below (T11.setTop (mkF m 50 #[.val (.ref a0), .val (.int p1), .val (.long q2), .second, .val (.long q3), .second] [(.long pe), (.long (p1.toInt64))])) _
                refine XS.lcmp X11.here hx rfl (hb hby d2_50) rfl ?_
                exact kt
              by_cases c51_12 : (p1.toInt64) < pe
              · refine Gl.up (B := T11.setTop (mkF m 55 #[.val (.ref a0), .val (.int p1), .val (.long q2), .second, .val (.long q3), .second] [(.ref a0)])) (fun t kt => ?_) ?_
                · show Steps p.tables e below (T11.setTop (mkF m 51 #[.val (.ref a0), .val (.int p1), .val (.long q2), .second, .val (.long q3), .second] [(.int (lcmpW (p1.toInt64) pe))])) _
                  refine XS.ifNo X11.here hx rfl (hb hby d2_51) rfl (jc_ge_f c51_12) ?_
                  show Steps p.tables e below (T11.setTop (mkF m 54 #[.val (.ref a0), .val (.int p1), .val (.long q2), .second, .val (.long q3), .second] [])) _
                  refine XS.aloadN X11.here hx rfl (hb hby d2_54) rfl rfl ?_
                  exact kt
                obtain ⟨T13, X13, e13, st13⟩ := getF X11 hx hZ hown (host := "") (Or.inl (hw _ (List.mem_of_getElem? (i := 30) rfl))) Via.refl e11 F_a0_total (g := (mkF m 55 #[.val (.ref a0), .val (.int p1), .val (.long q2), .second, .val (.long q3), .second] [(.ref a0)])) rfl rfl (hb hby d2_55)
                refine Gl.up (B := T13.setTop (mkF m 58 #[.val (.ref a0), .val (.int p1), .val (.long q2), .second, .val (.long q3), .second] [(.long to)])) (fun t kt => st13 _ kt) ?_
                refine Gl.up (B := T13.setTop (mkF m 60 #[.val (.ref a0), .val (.int p1), .val (.long q2), .second, .val (.long q3), .second] [(.int (lcmpW to (0 : Int64)))])) (fun t kt => ?_) ?_
                · show Steps p.tables e below (T13.setTop (mkF m 58 #[.val (.ref a0), .val (.int p1), .val (.long q2), .second, .val (.long q3), .second] [(.long to)])) _
                  refine XS.lconst X13.here hx rfl (hb hby d2_58) ?_
                  show Steps p.tables e below (T13.setTop (mkF m 59 #[.val (.ref a0), .val (.int p1), .val (.long q2), .second, .val (.long q3), .second] [(.long (0 : Int64)), (.long to)])) _
                  refine XS.lcmp X13.here hx rfl (hb hby d2_59) rfl ?_
                  exact kt
                by_cases c60_14 : (0 : Int64) < to
                · refine Gl.up (B := T13.setTop (mkF m 65 #[.val (.ref a0), .val (.int p1), .val (.long q2), .second, .val (.long q3), .second] [(.ref a0), (.long q2)])) (fun t kt => ?_) ?_
                  · show Steps p.tables e below (T13.setTop (mkF m 60 #[.val (.ref a0), .val (.int p1), .val (.long q2), .second, .val (.long q3), .second] [(.int (lcmpW to (0 : Int64)))])) _
                    refine XS.ifNo X13.here hx rfl (hb hby d2_60) rfl (jc_le_f c60_14) ?_
                    show Steps p.tables e below (T13.setTop (mkF m 63 #[.val (.ref a0), .val (.int p1), .val (.long q2), .second, .val (.long q3), .second] [])) _
                    refine XS.lloadN X13.here hx rfl (hb hby d2_63) rfl ?_
                    show Steps p.tables e below (T13.setTop (mkF m 64 #[.val (.ref a0), .val (.int p1), .val (.long q2), .second, .val (.long q3), .second] [(.long q2)])) _
                    refine XS.aloadN X13.here hx rfl (hb hby d2_64) rfl rfl ?_
                    exact kt
                  obtain ⟨T15, X15, e15, st15⟩ := getF X13 hx hZ hown (host := "") (Or.inl (hw _ (List.mem_of_getElem? (i := 30) rfl))) Via.refl e13 F_a0_total (g := (mkF m 65 #[.val (.ref a0), .val (.int p1), .val (.long q2), .second, .val (.long q3), .second] [(.ref a0), (.long q2)])) rfl rfl (hb hby d2_65)
                  refine Gl.up (B := T15.setTop (mkF m 68 #[.val (.ref a0), .val (.int p1), .val (.long q2), .second, .val (.long q3), .second] [(.long to), (.long q2)])) (fun t kt => st15 _ kt) ?_
                  refine Gl.up (B := T15.setTop (mkF m 69 #[.val (.ref a0), .val (.int p1), .val (.long q2), .second, .val (.long q3), .second] [(.int (lcmpW q2 to))])) (fun t kt => ?_) ?_
                  · show Steps p.tables e below (T15.setTop (mkF m 68 #[.val (.ref a0), .val (.int p1), .val (.long q2), .second, .val (.long q3), .second] [(.long to), (.long q2)])) _
                    refine XS.lcmp X15.here hx rfl (hb hby d2_68) rfl ?_
                    exact kt
                  by_cases c69_16 : q2 < to
                  · refine Gl.up (B := T15.setTop (mkF m 73 #[.val (.ref a0), .val (.int p1), .val (.long q2), .second, .val (.long q3), .second] [(.ref a0)])) (fun t kt => ?_) ?_
                    · show Steps p.tables e below (T15.setTop (mkF m 69 #[.val (.ref a0), .val (.int p1), .val (.long q2), .second, .val (.long q3), .second] [(.int (lcmpW q2 to))])) _
                      refine XS.ifNo X15.here hx rfl (hb hby d2_69) rfl (jc_ge_f c69_16) ?_
                      show Steps p.tables e below (T15.setTop (mkF m 72 #[.val (.ref a0), .val (.int p1), .val (.long q2), .second, .val (.long q3), .second] [])) _
                      refine XS.aloadN X15.here hx rfl (hb hby d2_72) rfl rfl ?_
                      exact kt
                    obtain ⟨T17, X17, e17, st17⟩ := getF X15 hx hZ hown (host := "") (Or.inl (hw _ (List.mem_of_getElem? (i := 32) rfl))) Via.refl e15 F_a0_expireSeconds (g := (mkF m 73 #[.val (.ref a0), .val (.int p1), .val (.long q2), .second, .val (.long q3), .second] [(.ref a0)])) rfl rfl (hb hby d2_73)
                    refine Gl.up (B := T17.setTop (mkF m 76 #[.val (.ref a0), .val (.int p1), .val (.long q2), .second, .val (.long q3), .second] [(.long ex)])) (fun t kt => st17 _ kt) ?_
                    refine Gl.up (B := T17.setTop (mkF m 78 #[.val (.ref a0), .val (.int p1), .val (.long q2), .second, .val (.long q3), .second] [(.int (lcmpW ex (0 : Int64)))])) (fun t kt => ?_) ?_
                    · show Steps p.tables e below (T17.setTop (mkF m 76 #[.val (.ref a0), .val (.int p1), .val (.long q2), .second, .val (.long q3), .second] [(.long ex)])) _
                      refine XS.lconst X17.here hx rfl (hb hby d2_76) ?_
                      show Steps p.tables e below (T17.setTop (mkF m 77 #[.val (.ref a0), .val (.int p1), .val (.long q2), .second, .val (.long q3), .second] [(.long (0 : Int64)), (.long ex)])) _
                      refine XS.lcmp X17.here hx rfl (hb hby d2_77) rfl ?_
                      exact kt
                    by_cases c78_18 : (0 : Int64) < ex
                    · refine Gl.up (B := T17.setTop (mkF m 84 #[.val (.ref a0), .val (.int p1), .val (.long q2), .second, .val (.long q3), .second] [(.ref a0), (.long q3)])) (fun t kt => ?_) ?_
                      · show Steps p.tables e below (T17.setTop (mkF m 78 #[.val (.ref a0), .val (.int p1), .val (.long q2), .second, .val (.long q3), .second] [(.int (lcmpW ex (0 : Int64)))])) _
                        refine XS.ifNo X17.here hx rfl (hb hby d2_78) rfl (jc_le_f c78_18) ?_
                        show Steps p.tables e below (T17.setTop (mkF m 81 #[.val (.ref a0), .val (.int p1), .val (.long q2), .second, .val (.long q3), .second] [])) _
                        refine XS.lload X17.here hx rfl (hb hby d2_81) rfl ?_
                        show Steps p.tables e below (T17.setTop (mkF m 83 #[.val (.ref a0), .val (.int p1), .val (.long q2), .second, .val (.long q3), .second] [(.long q3)])) _
                        refine XS.aloadN X17.here hx rfl (hb hby d2_83) rfl rfl ?_
                        exact kt
                      obtain ⟨T19, X19, e19, st19⟩ := getF X17 hx hZ hown (host := "") (Or.inl (hw _ (List.mem_of_getElem? (i := 32) rfl))) Via.refl e17 F_a0_expireSeconds (g := (mkF m 84 #[.val (.ref a0), .val (.int p1), .val (.long q2), .second, .val (.long q3), .second] [(.ref a0), (.long q3)])) rfl rfl (hb hby d2_84)
                      refine Gl.up (B := T19.setTop (mkF m 87 #[.val (.ref a0), .val (.int p1), .val (.long q2), .second, .val (.long q3), .second] [(.long ex), (.long q3)])) (fun t kt => st19 _ kt) ?_
                      refine Gl.up (B := T19.setTop (mkF m 92 #[.val (.ref a0), .val (.int p1), .val (.long q2), .second, .val (.long q3), .second] [(.int (lcmpW q3 (ex * (1000000000 : Int64))))])) (fun t kt => ?_) ?_
                      · show Steps p.tables e below (T19.setTop (mkF m 87 #[.val (.ref a0), .val (.int p1), .val (.long q2), .second, .val (.long q3), .second] [(.long ex), (.long q3)])) _
                        refine X19.ldc2Long hx hown (mvT hZ (hw _ (List.mem_of_getElem? (i := 40) rfl))) (g := (mkF m 87 #[.val (.ref a0), .val (.int p1), .val (.long q2), .second, .val (.long q3), .second] [(.long ex), (.long q3)])) rfl (hb hby d2_87) _ ?_
                        show Steps p.tables e below (T19.setTop (mkF m 90 #[.val (.ref a0), .val (.int p1), .val (.long q2), .second, .val (.long q3), .second] [(.long (1000000000 : Int64)), (.long ex), (.long q3)])) _
                        refine XS.lmul X19.here hx rfl (hb hby d2_90) rfl ?_
                        show Steps p.tables e below (T19.setTop (mkF m 91 #[.val (.ref a0), .val (.int p1), .val (.long q2), .second, .val (.long q3), .second] [(.long (ex * (1000000000 : Int64))), (.long q3)])) _
                        refine XS.lcmp X19.here hx rfl (hb hby d2_91) rfl ?_
                        exact kt
                      by_cases c92_20 : q3 < (ex * (1000000000 : Int64))
                      · refine Gl.up (B := T19.setTop (mkF m 100 #[.val (.ref a0), .val (.int p1), .val (.long q2), .second, .val (.long q3), .second] [(.int (0 : Int32))])) (fun t kt => ?_) ?_
                        · show Steps p.tables e below (T19.setTop (mkF m 92 #[.val (.ref a0), .val (.int p1), .val (.long q2), .second, .val (.long q3), .second] [(.int (lcmpW q3 (ex * (1000000000 : Int64))))])) _
                          refine XS.ifYes X19.here hx rfl (pc0 := 92) (pc' := 99) rfl (hb hby d2_92) rfl (jc_lt_t c92_20) (by decide) (by decide) ?_
                          show Steps p.tables e below (T19.setTop (mkF m 99 #[.val (.ref a0), .val (.int p1), .val (.long q2), .second, .val (.long q3), .second] [])) _
                          refine XS.iconst X19.here hx rfl (hb hby d2_99) ?_
                          exact kt
                        exact J9 _ (0 : Int32) ((((((if_pos c41_10).trans (if_pos c51_12)).trans (if_pos c60_14)).trans (if_pos c69_16)).trans (if_pos c78_18)).trans (if_pos c92_20)).symm X19 e19
                      · refine Gl.up (B := T19.setTop (mkF m 100 #[.val (.ref a0), .val (.int p1), .val (.long q2), .second, .val (.long q3), .second] [(.int (1 : Int32))])) (fun t kt => ?_) ?_
                        · show Steps p.tables e below (T19.setTop (mkF m 92 #[.val (.ref a0), .val (.int p1), .val (.long q2), .second, .val (.long q3), .second] [(.int (lcmpW q3 (ex * (1000000000 : Int64))))])) _
                          refine XS.ifNo X19.here hx rfl (hb hby d2_92) rfl (jc_lt_f c92_20) ?_
                          show Steps p.tables e below (T19.setTop (mkF m 95 #[.val (.ref a0), .val (.int p1), .val (.long q2), .second, .val (.long q3), .second] [])) _
                          refine XS.iconst X19.here hx rfl (hb hby d2_95) ?_
                          show Steps p.tables e below (T19.setTop (mkF m 96 #[.val (.ref a0), .val (.int p1), .val (.long q2), .second, .val (.long q3), .second] [(.int (1 : Int32))])) _
                          refine XS.goto X19.here hx rfl (pc0 := 96) (pc' := 100) rfl (hb hby d2_96) (by decide) (by decide) ?_
                          exact kt
                        exact J9 _ (1 : Int32) ((((((if_pos c41_10).trans (if_pos c51_12)).trans (if_pos c60_14)).trans (if_pos c69_16)).trans (if_pos c78_18)).trans (if_neg c92_20)).symm X19 e19
                    · refine Gl.up (B := T17.setTop (mkF m 100 #[.val (.ref a0), .val (.int p1), .val (.long q2), .second, .val (.long q3), .second] [(.int (0 : Int32))])) (fun t kt => ?_) ?_
                      · show Steps p.tables e below (T17.setTop (mkF m 78 #[.val (.ref a0), .val (.int p1), .val (.long q2), .second, .val (.long q3), .second] [(.int (lcmpW ex (0 : Int64)))])) _
                        refine XS.ifYes X17.here hx rfl (pc0 := 78) (pc' := 99) rfl (hb hby d2_78) rfl (jc_le_t c78_18) (by decide) (by decide) ?_
                        show Steps p.tables e below (T17.setTop (mkF m 99 #[.val (.ref a0), .val (.int p1), .val (.long q2), .second, .val (.long q3), .second] [])) _
                        refine XS.iconst X17.here hx rfl (hb hby d2_99) ?_
                        exact kt
                      exact J9 _ (0 : Int32) (((((if_pos c41_10).trans (if_pos c51_12)).trans (if_pos c60_14)).trans (if_pos c69_16)).trans (if_neg c78_18)).symm X17 e17
                  · refine Gl.up (B := T15.setTop (mkF m 100 #[.val (.ref a0), .val (.int p1), .val (.long q2), .second, .val (.long q3), .second] [(.int (1 : Int32))])) (fun t kt => ?_) ?_
                    · show Steps p.tables e below (T15.setTop (mkF m 69 #[.val (.ref a0), .val (.int p1), .val (.long q2), .second, .val (.long q3), .second] [(.int (lcmpW q2 to))])) _
                      refine XS.ifYes X15.here hx rfl (pc0 := 69) (pc' := 95) rfl (hb hby d2_69) rfl (jc_ge_t c69_16) (by decide) (by decide) ?_
                      show Steps p.tables e below (T15.setTop (mkF m 95 #[.val (.ref a0), .val (.int p1), .val (.long q2), .second, .val (.long q3), .second] [])) _
                      refine XS.iconst X15.here hx rfl (hb hby d2_95) ?_
                      show Steps p.tables e below (T15.setTop (mkF m 96 #[.val (.ref a0), .val (.int p1), .val (.long q2), .second, .val (.long q3), .second] [(.int (1 : Int32))])) _
                      refine XS.goto X15.here hx rfl (pc0 := 96) (pc' := 100) rfl (hb hby d2_96) (by decide) (by decide) ?_
                      exact kt
                    exact J9 _ (1 : Int32) ((((if_pos c41_10).trans (if_pos c51_12)).trans (if_pos c60_14)).trans (if_neg c69_16)).symm X15 e15
                · refine Gl.up (B := T13.setTop (mkF m 73 #[.val (.ref a0), .val (.int p1), .val (.long q2), .second, .val (.long q3), .second] [(.ref a0)])) (fun t kt => ?_) ?_
                  · show Steps p.tables e below (T13.setTop (mkF m 60 #[.val (.ref a0), .val (.int p1), .val (.long q2), .second, .val (.long q3), .second] [(.int (lcmpW to (0 : Int64)))])) _
                    refine XS.ifYes X13.here hx rfl (pc0 := 60) (pc' := 72) rfl (hb hby d2_60) rfl (jc_le_t c60_14) (by decide) (by decide) ?_
                    show Steps p.tables e below (T13.setTop (mkF m 72 #[.val (.ref a0), .val (.int p1), .val (.long q2), .second, .val (.long q3), .second] [])) _
                    refine XS.aloadN X13.here hx rfl (hb hby d2_72) rfl rfl ?_
                    exact kt
                  obtain ⟨T21, X21, e21, st21⟩ := getF X13 hx hZ hown (host := "") (Or.inl (hw _ (List.mem_of_getElem? (i := 32) rfl))) Via.refl e13 F_a0_expireSeconds (g := (mkF m 73 #[.val (.ref a0), .val (.int p1), .val (.long q2), .second, .val (.long q3), .second] [(.ref a0)])) rfl rfl (hb hby d2_73)
                  refine Gl.up (B := T21.setTop (mkF m 76 #[.val (.ref a0), .val (.int p1), .val (.long q2), .second, .val (.long q3), .second] [(.long ex)])) (fun t kt => st21 _ kt) ?_
                  refine Gl.up (B := T21.setTop (mkF m 78 #[.val (.ref a0), .val (.int p1), .val (.long q2), .second, .val (.long q3), .second] [(.int (lcmpW ex (0 : Int64)))])) (fun t kt => ?_) ?_
                  · show Steps p.tables e below (T21.setTop (mkF m 76 #[.val (.ref a0), .val (.int p1), .val (.long q2), .second, .val (.long q3), .second] [(.long ex)])) _
                    refine XS.lconst X21.here hx rfl (hb hby d2_76) ?_
                    show Steps p.tables e below (T21.setTop (mkF m 77 #[.val (.ref a0), .val (.int p1), .val (.long q2), .second, .val (.long q3), .second] [(.long (0 : Int64)), (.long ex)])) _
                    refine XS.lcmp X21.here hx rfl (hb hby d2_77) rfl ?_
                    exact kt
                  by_cases c78_22 : (0 : Int64) < ex
                  · refine Gl.up (B := T21.setTop (mkF m 84 #[.val (.ref a0), .val (.int p1), .val (.long q2), .second, .val (.long q3), .second] [(.ref a0), (.long q3)])) (fun t kt => ?_) ?_
                    · show Steps p.tables e below (T21.setTop (mkF m 78 #[.val (.ref a0), .val (.int p1), .val (.long q2), .second, .val (.long q3), .second] [(.int (lcmpW ex (0 : Int64)))])) _
                      refine XS.ifNo X21.here hx rfl (hb hby d2_78) rfl (jc_le_f c78_22) ?_
                      show Steps p.tables e below (T21.setTop (mkF m 81 #[.val (.ref a0), .val (.int p1), .val (.long q2), .second, .val (.long q3), .second] [])) _
                      refine XS.lload X21.here hx rfl (hb hby d2_81) rfl ?_
                      show Steps p.tables e below (T21.setTop (mkF m 83 #[.val (.ref a0), .val (.int p1), .val (.long q2), .second, .val (.long q3), .second] [(.long q3)])) _
                      refine XS.aloadN X21.here hx rfl (hb hby d2_83) rfl rfl ?_
                      exact kt
                    obtain ⟨T23, X23, e23, st23⟩ := getF X21 hx hZ hown (host := "") (Or.inl (hw _ (List.mem_of_getElem? (i := 32) rfl))) Via.refl e21 F_a0_expireSeconds (g := (mkF m 84 #[.val (.ref a0), .val (.int p1), .val (.long q2), .second, .val (.long q3), .second] [(.ref a0), (.long q3)])) rfl rfl (hb hby d2_84)
                    refine Gl.up (B := T23.setTop (mkF m 87 #[.val (.ref a0), .val (.int p1), .val (.long q2), .second, .val (.long q3), .second] [(.long ex), (.long q3)])) (fun t kt => st23 _ kt) ?_
                    refine Gl.up (B := T23.setTop (mkF m 92 #[.val (.ref a0), .val (.int p1), .val (.long q2), .second, .val (.long q3), .second] [(.int (lcmpW q3 (ex * (1000000000 : Int64))))])) (fun t kt => ?_) ?_
                    · show Steps p.tables e below (T23.setTop (mkF m 87 #[.val (.ref a0), .val (.int p1), .val (.long q2), .second, .val (.long q3), .second] [(.long ex), (.long q3)])) _
                      refine X23.ldc2Long hx hown (mvT hZ (hw _ (List.mem_of_getElem? (i := 40) rfl))) (g := (mkF m 87 #[.val (.ref a0), .val (.int p1), .val (.long q2), .second, .val (.long q3), .second] [(.long ex), (.long q3)])) rfl (hb hby d2_87) _ ?_
                      show Steps p.tables e below (T23.setTop (mkF m 90 #[.val (.ref a0), .val (.int p1), .val (.long q2), .second, .val (.long q3), .second] [(.long (1000000000 : Int64)), (.long ex), (.long q3)])) _
                      refine XS.lmul X23.here hx rfl (hb hby d2_90) rfl ?_
                      show Steps p.tables e below (T23.setTop (mkF m 91 #[.val (.ref a0), .val (.int p1), .val (.long q2), .second, .val (.long q3), .second] [(.long (ex * (1000000000 : Int64))), (.long q3)])) _
                      refine XS.lcmp X23.here hx rfl (hb hby d2_91) rfl ?_
                      exact kt
                    by_cases c92_24 : q3 < (ex * (1000000000 : Int64))
                    · refine Gl.up (B := T23.setTop (mkF m 100 #[.val (.ref a0), .val (.int p1), .val (.long q2), .second, .val (.long q3), .second] [(.int (0 : Int32))])) (fun t kt => ?_) ?_
                      · show Steps p.tables e below (T23.setTop (mkF m 92 #[.val (.ref a0), .val (.int p1), .val (.long q2), .second, .val (.long q3), .second] [(.int (lcmpW q3 (ex * (1000000000 : Int64))))])) _
                        refine XS.ifYes X23.here hx rfl (pc0 := 92) (pc' := 99) rfl (hb hby d2_92) rfl (jc_lt_t c92_24) (by decide) (by decide) ?_
                        show Steps p.tables e below (T23.setTop (mkF m 99 #[.val (.ref a0), .val (.int p1), .val (.long q2), .second, .val (.long q3), .second] [])) _
                        refine XS.iconst X23.here hx rfl (hb hby d2_99) ?_
                        exact kt
                      exact J9 _ (0 : Int32) (((((if_pos c41_10).trans (if_pos c51_12)).trans (if_neg c60_14)).trans (if_pos c78_22)).trans (if_pos c92_24)).symm X23 e23
                    · refine Gl.up (B := T23.setTop (mkF m 100 #[.val (.ref a0), .val (.int p1), .val (.long q2), .second, .val (.long q3), .second] [(.int (1 : Int32))])) (fun t kt => ?_) ?_
                      · show Steps p.tables e below (T23.setTop (mkF m 92 #[.val (.ref a0), .val (.int p1), .val (.long q2), .second, .val (.long q3), .second] [(.int (lcmpW q3 (ex * (1000000000 : Int64))))])) _
                        refine XS.ifNo X23.here hx rfl (hb hby d2_92) rfl (jc_lt_f c92_24) ?_
                        show Steps p.tables e below (T23.setTop (mkF m 95 #[.val (.ref a0), .val (.int p1), .val (.long q2), .second, .val (.long q3), .second] [])) _
                        refine XS.iconst X23.here hx rfl (hb hby d2_95) ?_
                        show Steps p.tables e below (T23.setTop (mkF m 96 #[.val (.ref a0), .val (.int p1), .val (.long q2), .second, .val (.long q3), .second] [(.int (1 : Int32))])) _
                        refine XS.goto X23.here hx rfl (pc0 := 96) (pc' := 100) rfl (hb hby d2_96) (by decide) (by decide) ?_
                        exact kt
                      exact J9 _ (1 : Int32) (((((if_pos c41_10).trans (if_pos c51_12)).trans (if_neg c60_14)).trans (if_pos c78_22)).trans (if_neg c92_24)).symm X23 e23
                  · refine Gl.up (B := T21.setTop (mkF m 100 #[.val (.ref a0), .val (.int p1), .val (.long q2), .second, .val (.long q3), .second] [(.int (0 : Int32))])) (fun t kt => ?_) ?_
                    · show Steps p.tables e below (T21.setTop (mkF m 78 #[.val (.ref a0), .val (.int p1), .val (.long q2), .second, .val (.long q3), .second] [(.int (lcmpW ex (0 : Int64)))])) _
                      refine XS.ifYes X21.here hx rfl (pc0 := 78) (pc' := 99) rfl (hb hby d2_78) rfl (jc_le_t c78_22) (by decide) (by decide) ?_
                      show Steps p.tables e below (T21.setTop (mkF m 99 #[.val (.ref a0), .val (.int p1), .val (.long q2), .second, .val (.long q3), .second] [])) _
                      refine XS.iconst X21.here hx rfl (hb hby d2_99) ?_
                      exact kt
                    exact J9 _ (0 : Int32) ((((if_pos c41_10).trans (if_pos c51_12)).trans (if_neg c60_14)).trans (if_neg c78_22)).symm X21 e21
              · refine Gl.up (B := T11.setTop (mkF m 100 #[.val (.ref a0), .val (.int p1), .val (.long q2), .second, .val (.long q3), .second] [(.int (1 : Int32))])) (fun t kt => ?_) ?_
                · show Steps p.tables e below (T11.setTop (mkF m 51 #[.val (.ref a0), .val (.int p1), .val (.long q2), .second, .val (.long q3), .second] [(.int (lcmpW (p1.toInt64) pe))])) _
                  refine XS.ifYes X11.here hx rfl (pc0 := 51) (pc' := 95) rfl (hb hby d2_51) rfl (jc_ge_t c51_12) (by decide) (by decide) ?_
                  show Steps p.tables e below (T11.setTop (mkF m 95 #[.val (.ref a0), .val (.int p1), .val (.long q2), .second, .val (.long q3), .second] [])) _
                  refine XS.iconst X11.here hx rfl (hb hby d2_95) ?_
                  show Steps p.tables e below (T11.setTop (mkF m 96 #[.val (.ref a0), .val (.int p1), .val (.long q2), .second, .val (.long q3), .second] [(.int (1 : Int32))])) _
                  refine XS.goto X11.here hx rfl (pc0 := 96) (pc' := 100) rfl (hb hby d2_96) (by decide) (by decide) ?_
                  exact kt
                exact J9 _ (1 : Int32) ((if_pos c41_10).trans (if_neg c51_12)).symm X11 e11
            · refine Gl.up (B := T8.setTop (mkF m 55 #[.val (.ref a0), .val (.int p1), .val (.long q2), .second, .val (.long q3), .second] [(.ref a0)])) (fun t kt => ?_) ?_
              · show Steps p.tables e below (T8.setTop (mkF m 41 #[.val (.ref a0), .val (.int p1), .val (.long q2), .second, .val (.long q3), .second] [(.int (lcmpW pe (0 : Int64)))])) _
                refine XS.ifYes X8.here hx rfl (pc0 := 41) (pc' := 54) rfl (hb hby d2_41) rfl (jc_le_t c41_10) (by decide) (by decide) ?_
                show Steps p.tables e below (T8.setTop (mkF m 54 #[.val (.ref a0), .val (.int p1), .val (.long q2), .second, .val (.long q3), .second] [])) _
                refine XS.aloadN X8.here hx rfl (hb hby d2_54) rfl rfl ?_
                exact kt
              obtain ⟨T25, X25, e25, st25⟩ := getF X8 hx hZ hown (host := "") (Or.inl (hw _ (List.mem_of_getElem? (i := 30) rfl))) Via.refl e8 F_a0_total (g := (mkF m 55 #[.val (.ref a0), .val (.int p1), .val (.long q2), .second, .val (.long q3), .second] [(.ref a0)])) rfl rfl (hb hby d2_55)
              refine Gl.up (B := T25.setTop (mkF m 58 #[.val (.ref a0), .val (.int p1), .val (.long q2), .second, .val (.long q3), .second] [(.long to)])) (fun t kt => st25 _ kt) ?_
              refine Gl.up (B := T25.setTop (mkF m 60 #[.val (.ref a0), .val (.int p1), .val (.long q2), .second, .val (.long q3), .second] [(.int (lcmpW to (0 : Int64)))])) (fun t kt => ?_) ?_
              · show Steps p.tables e below (T25.setTop (mkF m 58 #[.val (.ref a0), .val (.int p1), .val (.long q2), .second, .val (.long q3), .second] [(.long to)])) _
                refine XS.lconst X25.here hx rfl (hb hby d2_58) ?_
                show Steps p.tables e below (T25.setTop (mkF m 59 #[.val (.ref a0), .val (.int p1), .val (.long q2), .second, .val (.long q3), .second] [(.long (0 : Int64)), (.long to)])) _
                refine XS.lcmp X25.here hx rfl (hb hby d2_59) rfl ?_
                exact kt
              by_cases c60_26 : (0 : Int64) < to
              · refine Gl.up (B := T25.setTop (mkF m 65 #[.val (.ref a0), .val (.int p1), .val (.long q2), .second, .val (.long q3), .second] [(.ref a0), (.long q2)])) (fun t kt => ?_) ?_
                · show Steps p.tables e below (T25.setTop (mkF m 60 #[.val (.ref a0), .val (.int p1), .val (.long q2), .second, .val (.long q3), .second] [(.int (lcmpW to (0 : Int64)))])) _
                  refine XS.ifNo X25.here hx rfl (hb hby d2_60) rfl (jc_le_f c60_26) ?_
                  show Steps p.tables e below (T25.setTop (mkF m 63 #[.val (.ref a0), .val (.int p1), .val (.long q2), .second, .val (.long q3), .second] [])) _
                  refine XS.lloadN X25.here hx rfl (hb hby d2_63) rfl ?_
                  show Steps p.tables e below (T25.setTop (mkF m 64 #[.val (.ref a0), .val (.int p1), .val (.long q2), .second, .val (.long q3), .second] [(.long q2)])) _
                  refine XS.aloadN X25.here hx rfl (hb hby d2_64) rfl rfl ?_
                  exact kt
                obtain ⟨T27, X27, e27, st27⟩ := getF X25 hx hZ hown (host := "") (Or.inl (hw _ (List.mem_of_getElem? (i := 30) rfl))) Via.refl e25 F_a0_total (g := (mkF m 65 #[.val (.ref a0), .val (.int p1), .val (.long q2), .second, .val (.long q3), .second] [(.ref a0), (.long q2)])) rfl rfl (hb hby d2_65)
                refine Gl.up (B := T27.setTop (mkF m 68 #[.val (.ref a0), .val (.int p1), .val (.long q2), .second, .val (.long q3), .second] [(.long to), (.long q2)])) (fun t kt => st27 _ kt) ?_
                refine Gl.up (B := T27.setTop (mkF m 69 #[.val (.ref a0), .val (.int p1), .val (.long q2), .second, .val (.long q3), .second] [(.int (lcmpW q2 to))])) (fun t kt => ?_) ?_
                · show Steps p.tables e below (T27.setTop (mkF m 68 #[.val (.ref a0), .val (.int p1), .val (.long q2), .second, .val (.long q3), .second] [(.long to), (.long q2)])) _
                  refine XS.lcmp X27.here hx rfl (hb hby d2_68) rfl ?_
                  exact kt
                by_cases c69_28 : q2 < to
                · refine Gl.up (B := T27.setTop (mkF m 73 #[.val (.ref a0), .val (.int p1), .val (.long q2), .second, .val (.long q3), .second] [(.ref a0)])) (fun t kt => ?_) ?_
                  · show Steps p.tables e below (T27.setTop (mkF m 69 #[.val (.ref a0), .val (.int p1), .val (.long q2), .second, .val (.long q3), .second] [(.int (lcmpW q2 to))])) _
                    refine XS.ifNo X27.here hx rfl (hb hby d2_69) rfl (jc_ge_f c69_28) ?_
                    show Steps p.tables e below (T27.setTop (mkF m 72 #[.val (.ref a0), .val (.int p1), .val (.long q2), .second, .val (.long q3), .second] [])) _
                    refine XS.aloadN X27.here hx rfl (hb hby d2_72) rfl rfl ?_
                    exact kt
                  obtain ⟨T29, X29, e29, st29⟩ := getF X27 hx hZ hown (host := "") (Or.inl (hw _ (List.mem_of_getElem? (i := 32) rfl))) Via.refl e27 F_a0_expireSeconds (g := (mkF m 73 #[.val (.ref a0), .val (.int p1), .val (.long q2), .second, .val (.long q3), .second] [(.ref a0)])) rfl rfl (hb hby d2_73)
                  refine Gl.up (B := T29.setTop (mkF m 76 #[.val (.ref a0), .val (.int p1), .val (.long q2), .second, .val (.long q3), .second] [(.long ex)])) (fun t kt => st29 _ kt) ?_
                  refine Gl.up (B := T29.setTop (mkF m 78 #[.val (.ref a0), .val (.int p1), .val (.long q2), .second, .val (.long q3), .second] [(.int (lcmpW ex (0 : Int64)))])) (fun t kt => ?_) ?_
                  · show Steps p.tables e below (T29.setTop (mkF m 76 #[.val (.ref a0), .val (.int p1), .val (.long q2), .second, .val (.long q3), .second] [(.long ex)])) _
                    refine XS.lconst X29.here hx rfl (hb hby d2_76) ?_
                    show Steps p.tables e below (T29.setTop (mkF m 77 #[.val (.ref a0), .val (.int p1), .val (.long q2), .second, .val (.long q3), .second] [(.long (0 : Int64)), (.long ex)])) _
                    refine XS.lcmp X29.here hx rfl (hb hby d2_77) rfl ?_
                    exact kt
                  by_cases c78_30 : (0 : Int64) < ex
                  · refine Gl.up (B := T29.setTop (mkF m 84 #[.val (.ref a0), .val (.int p1), .val (.long q2), .second, .val (.long q3), .second] [(.ref a0), (.long q3)])) (fun t kt => ?_) ?_
                    · show Steps p.tables e below (T29.setTop (mkF m 78 #[.val (.ref a0), .val (.int p1), .val (.long q2), .second, .val (.long q3), .second] [(.int (lcmpW ex (0 : Int64)))])) _
                      refine XS.ifNo X29.here hx rfl (hb hby d2_78) rfl (jc_le_f c78_30) ?_
                      show Steps p.tables e below (T29.setTop (mkF m 81 #[.val (.ref a0), .val (.int p1), .val (.long q2), .second, .val (.long q3), .second] [])) _
                      refine XS.lload X29.here hx rfl (hb hby d2_81) rfl ?_
                      show Steps p.tables e below (T29.setTop (mkF m 83 #[.val (.ref a0), .val (.int p1), .val (.long q2), .second, .val (.long q3), .second] [(.long q3)])) _
                      refine XS.aloadN X29.here hx rfl (hb hby d2_83) rfl rfl ?_
                      exact kt
                    obtain ⟨T31, X31, e31, st31⟩ := getF X29 hx hZ hown (host := "") (Or.inl (hw _ (List.mem_of_getElem? (i := 32) rfl))) Via.refl e29 F_a0_expireSeconds (g := (mkF m 84 #[.val (.ref a0), .val (.int p1), .val (.long q2), .second, .val (.long q3), .second] [(.ref a0), (.long q3)])) rfl rfl (hb hby d2_84)
                    refine Gl.up (B := T31.setTop (mkF m 87 #[.val (.ref a0), .val (.int p1), .val (.long q2), .second, .val (.long q3), .second] [(.long ex), (.long q3)])) (fun t kt => st31 _ kt) ?_
                    refine Gl.up (B := T31.setTop (mkF m 92 #[.val (.ref a0), .val (.int p1), .val (.long q2), .second, .val (.long q3), .second] [(.int (lcmpW q3 (ex * (1000000000 : Int64))))])) (fun t kt => ?_) ?_
                    · show Steps p.tables e below (T31.setTop (mkF m 87 #[.val (.ref a0), .val (.int p1), .val (.long q2), .second, .val (.long q3), .second] [(.long ex), (.long q3)])) _
                      refine X31.ldc2Long hx hown (mvT hZ (hw _ (List.mem_of_getElem? (i := 40) rfl))) (g := (mkF m 87 #[.val (.ref a0), .val (.int p1), .val (.long q2), .second, .val (.long q3), .second] [(.long ex), (.long q3)])) rfl (hb hby d2_87) _ ?_
                      show Steps p.tables e below (T31.setTop (mkF m 90 #[.val (.ref a0), .val (.int p1), .val (.long q2), .second, .val (.long q3), .second] [(.long (1000000000 : Int64)), (.long ex), (.long q3)])) _
                      refine XS.lmul X31.here hx rfl (hb hby d2_90) rfl ?_
                      show Steps p.tables e below (T31.setTop (mkF m 91 #[.val (.ref a0), .val (.int p1), .val (.long q2), .second, .val (.long q3), .second] [(.long (ex * (1000000000 : Int64))), (.long q3)])) _
                      refine XS.lcmp X31.here hx rfl (hb hby d2_91) rfl ?_
                      exact kt
                    by_cases c92_32 : q3 < (ex * (1000000000 : Int64))
                    · refine Gl.up (B := T31.setTop (mkF m 100 #[.val (.ref a0), .val (.int p1), .val (.long q2), .second, .val (.long q3), .second] [(.int (0 : Int32))])) (fun t kt => ?_) ?_
                      · show Steps p.tables e below (T31.setTop (mkF m 92 #[.val (.ref a0), .val (.int p1), .val (.long q2), .second, .val (.long q3), .second] [(.int (lcmpW q3 (ex * (1000000000 : Int64))))])) _
                        refine XS.ifYes X31.here hx rfl (pc0 := 92) (pc' := 99) rfl (hb hby d2_92) rfl (jc_lt_t c92_32) (by decide) (by decide) ?_
                        show Steps p.tables e below (T31.setTop (mkF m 99 #[.val (.ref a0), .val (.int p1), .val (.long q2), .second, .val (.long q3), .second] [])) _
                        refine XS.iconst X31.here hx rfl (hb hby d2_99) ?_
                        exact kt
                      exact J9 _ (0 : Int32) (((((if_neg c41_10).trans (if_pos c60_26)).trans (if_pos c69_28)).trans (if_pos c78_30)).trans (if_pos c92_32)).symm X31 e31
                    · refine Gl.up (B := T31.setTop (mkF m 100 #[.val (.ref a0), .val (.int p1), .val (.long q2), .second, .val (.long q3), .second] [(.int (1 : Int32))])) (fun t kt => ?_) ?_
                      · show Steps p.tables e below (T31.setTop (mkF m 92 #[.val (.ref a0), .val (.int p1), .val (.long q2), .second, .val (.long q3), .second] [(.int (lcmpW q3 (ex * (1000000000 : Int64))))])) _
                        refine XS.ifNo X31.here hx rfl (hb hby d2_92) rfl (jc_lt_f c92_32) ?_
                        show Steps p.tables e below (T31.setTop (mkF m 95 #[.val (.ref a0), .val (.int p1), .val (.long q2), .second, .val (.long q3), .second] [])) _
                        refine XS.iconst X31.here hx rfl (hb hby d2_95) ?_
                        show Steps p.tables e below (T31.setTop (mkF m 96 #[.val (.ref a0), .val (.int p1), .val (.long q2), .second, .val (.long q3), .second] [(.int (1 : Int32))])) _
                        refine XS.goto X31.here hx rfl (pc0 := 96) (pc' := 100) rfl (hb hby d2_96) (by decide) (by decide) ?_
                        exact kt
                      exact J9 _ (1 : Int32) (((((if_neg c41_10).trans (if_pos c60_26)).trans (if_pos c69_28)).trans (if_pos c78_30)).trans (if_neg c92_32)).symm X31 e31
                  · refine Gl.up (B := T29.setTop (mkF m 100 #[.val (.ref a0), .val (.int p1), .val (.long q2), .second, .val (.long q3), .second] [(.int (0 : Int32))])) (fun t kt => ?_) ?_
                    · show Steps p.tables e below (T29.setTop (mkF m 78 #[.val (.ref a0), .val (.int p1), .val (.long q2), .second, .val (.long q3), .second] [(.int (lcmpW ex (0 : Int64)))])) _
                      refine XS.ifYes X29.here hx rfl (pc0 := 78) (pc' := 99) rfl (hb hby d2_78) rfl (jc_le_t c78_30) (by decide) (by decide) ?_
                      show Steps p.tables e below (T29.setTop (mkF m 99 #[.val (.ref a0), .val (.int p1), .val (.long q2), .second, .val (.long q3), .second] [])) _
                      refine XS.iconst X29.here hx rfl (hb hby d2_99) ?_
                      exact kt
                    exact J9 _ (0 : Int32) ((((if_neg c41_10).trans (if_pos c60_26)).trans (if_pos c69_28)).trans (if_neg c78_30)).symm X29 e29
                · refine Gl.up (B := T27.setTop (mkF m 100 #[.val (.ref a0), .val (.int p1), .val (.long q2), .second, .val (.long q3), .second] [(.int (1 : Int32))])) (fun t kt => ?_) ?_
                  · show Steps p.tables e below (T27.setTop (mkF m 69 #[.val (.ref a0), .val (.int p1), .val (.long q2), .second, .val (.long q3), .second] [(.int (lcmpW q2 to))])) _
                    refine XS.ifYes X27.here hx rfl (pc0 := 69) (pc' := 95) rfl (hb hby d2_69) rfl (jc_ge_t c69_28) (by decide) (by decide) ?_
                    show Steps p.tables e below (T27.setTop (mkF m 95 #[.val (.ref a0), .val (.int p1), .val (.long q2), .second, .val (.long q3), .second] [])) _
                    refine XS.iconst X27.here hx rfl (hb hby d2_95) ?_
                    show Steps p.tables e below (T27.setTop (mkF m 96 #[.val (.ref a0), .val (.int p1), .val (.long q2), .second, .val (.long q3), .second] [(.int (1 : Int32))])) _
                    refine XS.goto X27.here hx rfl (pc0 := 96) (pc' := 100) rfl (hb hby d2_96) (by decide) (by decide) ?_
                    exact kt
                  exact J9 _ (1 : Int32) (((if_neg c41_10).trans (if_pos c60_26)).trans (if_neg c69_28)).symm X27 e27
              · refine Gl.up (B := T25.setTop (mkF m 73 #[.val (.ref a0), .val (.int p1), .val (.long q2), .second, .val (.long q3), .second] [(.ref a0)])) (fun t kt => ?_) ?_
                · show Steps p.tables e below (T25.setTop (mkF m 60 #[.val (.ref a0), .val (.int p1), .val (.long q2), .second, .val (.long q3), .second] [(.int (lcmpW to (0 : Int64)))])) _
                  refine XS.ifYes X25.here hx rfl (pc0 := 60) (pc' := 72) rfl (hb hby d2_60) rfl (jc_le_t c60_26) (by decide) (by decide) ?_
                  show Steps p.tables e below (T25.setTop (mkF m 72 #[.val (.ref a0), .val (.int p1), .val (.long q2), .second, .val (.long q3), .second] [])) _
                  refine XS.aloadN X25.here hx rfl (hb hby d2_72) rfl rfl ?_
                  exact kt
                obtain ⟨T33, X33, e33, st33⟩ := getF X25 hx hZ hown (host := "") (Or.inl (hw _ (List.mem_of_getElem? (i := 32) rfl))) Via.refl e25 F_a0_expireSeconds (g := (mkF m 73 #[.val (.ref a0), .val (.int p1), .val (.long q2), .second, .val (.long q3), .second] [(.ref a0)])) rfl rfl (hb hby d2_73)
                refine Gl.up (B := T33.setTop (mkF m 76 #[.val (.ref a0), .val (.int p1), .val (.long q2), .second, .val (.long q3), .second] [(.long ex)])) (fun t kt => st33 _ kt) ?_
                refine Gl.up (B := T33.setTop (mkF m 78 #[.val (.ref a0), .val (.int p1), .val (.long q2), .second, .val (.long q3), .second] [(.int (lcmpW ex (0 : Int64)))])) (fun t kt => ?_) ?_
                · show Steps p.tables e below (T33.setTop (mkF m 76 #[.val (.ref a0), .val (.int p1), .val (.long q2), .second, .val (.long q3), .second] [(.long ex)])) _
                  refine XS.lconst X33.here hx rfl (hb hby d2_76) ?_
                  show Steps p.tables e below (T33.setTop (mkF m 77 #[.val (.ref a0), .val (.int p1), .val (.long q2), .second, .val (.long q3), .second] [(.long (0 : Int64)), (.long ex)])) _
                  refine XS.lcmp X33.here hx rfl (hb hby d2_77) rfl ?_
                  exact kt
                by_cases c78_34 : (0 : Int64) < ex
                · refine Gl.up (B := T33.setTop (mkF m 84 #[.val (.ref a0), .val (.int p1), .val (.long q2), .second, .val (.long q3), .second] [(.ref a0), (.long q3)])) (fun t kt => ?_) ?_
                  · show Steps p.tables e below (T33.setTop (mkF m 78 #[.val (.ref a0), .val (.int p1), .val (.long q2), .second, .val (.long q3), .second] [(.int (lcmpW ex (0 : Int64)))])) _
                    refine XS.ifNo X33.here hx rfl (hb hby d2_78) rfl (jc_le_f c78_34) ?_
                    show Steps p.tables e below (T33.setTop (mkF m 81 #[.val (.ref a0), .val (.int p1), .val (.long q2), .second, .val (.long q3), .second] [])) _
                    refine XS.lload X33.here hx rfl (hb hby d2_81) rfl ?_
                    show Steps p.tables e below (T33.setTop (mkF m 83 #[.val (.ref a0), .val (.int p1), .val (.long q2), .second, .val (.long q3), .second] [(.long q3)])) _
                    refine XS.aloadN X33.here hx rfl (hb hby d2_83) rfl rfl ?_
                    exact kt
                  obtain ⟨T35, X35, e35, st35⟩ := getF X33 hx hZ hown (host := "") (Or.inl (hw _ (List.mem_of_getElem? (i := 32) rfl))) Via.refl e33 F_a0_expireSeconds (g := (mkF m 84 #[.val (.ref a0), .val (.int p1), .val (.long q2), .second, .val (.long q3), .second] [(.ref a0), (.long q3)])) rfl rfl (hb hby d2_84)
                  refine Gl.up (B := T35.setTop (mkF m 87 #[.val (.ref a0), .val (.int p1), .val (.long q2), .second, .val (.long q3), .second] [(.long ex), (.long q3)])) (fun t kt => st35 _ kt) ?_
                  refine Gl.up (B := T35.setTop (mkF m 92 #[.val (.ref a0), .val (.int p1), .val (.long q2), .second, .val (.long q3), .second] [(.int (lcmpW q3 (ex * (1000000000 : Int64))))])) (fun t kt => ?_) ?_
                  · show Steps p.tables e below (T35.setTop (mkF m 87 #[.val (.ref a0), .val (.int p1), .val (.long q2), .second, .val (.long q3), .second] [(.long ex), (.long q3)])) _
                    refine X35.ldc2Long hx hown (mvT hZ (hw _ (List.mem_of_getElem? (i := 40) rfl))) (g := (mkF m 87 #[.val (.ref a0), .val (.int p1), .val (.long q2), .second, .val (.long q3), .second] [(.long ex), (.long q3)])) rfl (hb hby d2_87) _ ?_
                    show Steps p.tables e below (T35.setTop (mkF m 90 #[.val (.ref a0), .val (.int p1), .val (.long q2), .second, .val (.long q3), .second] [(.long (1000000000 : Int64)), (.long ex), (.long q3)])) _
                    refine XS.lmul X35.here hx rfl (hb hby d2_90) rfl ?_
                    show Steps p.tables e below (T35.setTop (mkF m 91 #[.val (.ref a0), .val (.int p1), .val (.long q2), .second, .val (.long q3), .second] [(.long (ex * (1000000000 : Int64))), (.long q3)])) _
                    refine XS.lcmp X35.here hx rfl (hb hby d2_91) rfl ?_
                    exact kt
                  by_cases c92_36 : q3 < (ex * (1000000000 : Int64))
                  · refine Gl.up (B := T35.setTop (mkF m 100 #[.val (.ref a0), .val (.int p1), .val (.long q2), .second, .val (.long q3), .second] [(.int (0 : Int32))])) (fun t kt => ?_) ?_
                    · show Steps p.tables e below (T35.setTop (mkF m 92 #[.val (.ref a0), .val (.int p1), .val (.long q2), .second, .val (.long q3), .second] [(.int (lcmpW q3 (ex * (1000000000 : Int64))))])) _
                      refine XS.ifYes X35.here hx rfl (pc0 := 92) (pc' := 99) rfl (hb hby d2_92) rfl (jc_lt_t c92_36) (by decide) (by decide) ?_
                      show Steps p.tables e below (T35.setTop (mkF m 99 #[.val (.ref a0), .val (.int p1), .val (.long q2), .second, .val (.long q3), .second] [])) _
                      refine XS.iconst X35.here hx rfl (hb hby d2_99) ?_
                      exact kt
                    exact J9 _ (0 : Int32) ((((if_neg c41_10).trans (if_neg c60_26)).trans (if_pos c78_34)).trans (if_pos c92_36)).symm X35 e35
                  · refine Gl.up (B := T35.setTop (mkF m 100 #[.val (.ref a0), .val (.int p1), .val (.long q2), .second, .val (.long q3), .second] [(.int (1 : Int32))])) (fun t kt => ?_) ?_
                    · show Steps p.tables e below (T35.setTop (mkF m 92 #[.val (.ref a0), .val (.int p1), .val (.long q2), .second, .val (.long q3), .second] [(.int (lcmpW q3 (ex * (1000000000 : Int64))))])) _
                      refine XS.ifNo X35.here hx rfl (hb hby d2_92) rfl (jc_lt_f c92_36) ?_
                      show Steps p.tables e below (T35.setTop (mkF m 95 #[.val (.ref a0), .val (.int p1), .val (.long q2), .second, .val (.long q3), .second] [])) _
                      refine XS.iconst X35.here hx rfl (hb hby d2_95) ?_
                      show Steps p.tables e below (T35.setTop (mkF m 96 #[.val (.ref a0), .val (.int p1), .val (.long q2), .second, .val (.long q3), .second] [(.int (1 : Int32))])) _
                      refine XS.goto X35.here hx rfl (pc0 := 96) (pc' := 100) rfl (hb hby d2_96) (by decide) (by decide) ?_
                      exact kt
                    exact J9 _ (1 : Int32) ((((if_neg c41_10).trans (if_neg c60_26)).trans (if_pos c78_34)).trans (if_neg c92_36)).symm X35 e35
                · refine Gl.up (B := T33.setTop (mkF m 100 #[.val (.ref a0), .val (.int p1), .val (.long q2), .second, .val (.long q3), .second] [(.int (0 : Int32))])) (fun t kt => ?_) ?_
                  · show Steps p.tables e below (T33.setTop (mkF m 78 #[.val (.ref a0), .val (.int p1), .val (.long q2), .second, .val (.long q3), .second] [(.int (lcmpW ex (0 : Int64)))])) _
                    refine XS.ifYes X33.here hx rfl (pc0 := 78) (pc' := 99) rfl (hb hby d2_78) rfl (jc_le_t c78_34) (by decide) (by decide) ?_
                    show Steps p.tables e below (T33.setTop (mkF m 99 #[.val (.ref a0), .val (.int p1), .val (.long q2), .second, .val (.long q3), .second] [])) _
                    refine XS.iconst X33.here hx rfl (hb hby d2_99) ?_
                    exact kt
                  exact J9 _ (0 : Int32) (((if_neg c41_10).trans (if_neg c60_26)).trans (if_neg c78_34)).symm X33 e33
          intro T9 v9_s0 hv9_s0 X9 e9
          subst hv9_s0
          refine Gl.retN X9 hx hlk (t := .boolean) Bd.returns (by simp) (hb hby d2_100) (w := (if (0 : Int64) < pe then (if (p1.toInt64) < pe then (if (0 : Int64) < to then (if q2 < to then (if (0 : Int64) < ex then (if q3 < (ex * (1000000000 : Int64)) then (0 : Int32) else (1 : Int32)) else (0 : Int32)) else (1 : Int32)) else (if (0 : Int64) < ex then (if q3 < (ex * (1000000000 : Int64)) then (0 : Int32) else (1 : Int32)) else (0 : Int32))) else (1 : Int32)) else (if (0 : Int64) < to then (if q2 < to then (if (0 : Int64) < ex then (if q3 < (ex * (1000000000 : Int64)) then (0 : Int32) else (1 : Int32)) else (0 : Int32)) else (1 : Int32)) else (if (0 : Int64) < ex then (if q3 < (ex * (1000000000 : Int64)) then (0 : Int32) else (1 : Int32)) else (0 : Int32))))) (nar_b01 (b01_ite (b01_ite (b01_ite (b01_ite (b01_ite (b01_ite (Or.inl rfl) (Or.inr rfl)) (Or.inl rfl)) (Or.inr rfl)) (b01_ite (b01_ite (Or.inl rfl) (Or.inr rfl)) (Or.inl rfl))) (Or.inr rfl)) (b01_ite (b01_ite (b01_ite (b01_ite (Or.inl rfl) (Or.inr rfl)) (Or.inl rfl)) (Or.inr rfl)) (b01_ite (b01_ite (Or.inl rfl) (Or.inr rfl)) (Or.inl rfl))))) ?_ (by decide) (by decide)
          exact ⟨congrArg (fun z => some (Value.int z)) (show (if (0 : Int64) < pe then (if (p1.toInt64) < pe then (if (0 : Int64) < to then (if q2 < to then (if (0 : Int64) < ex then (if q3 < (ex * (1000000000 : Int64)) then (0 : Int32) else (1 : Int32)) else (0 : Int32)) else (1 : Int32)) else (if (0 : Int64) < ex then (if q3 < (ex * (1000000000 : Int64)) then (0 : Int32) else (1 : Int32)) else (0 : Int32))) else (1 : Int32)) else (if (0 : Int64) < to then (if q2 < to then (if (0 : Int64) < ex then (if q3 < (ex * (1000000000 : Int64)) then (0 : Int32) else (1 : Int32)) else (0 : Int32)) else (1 : Int32)) else (if (0 : Int64) < ex then (if q3 < (ex * (1000000000 : Int64)) then (0 : Int32) else (1 : Int32)) else (0 : Int32)))) = f2 p1 q2 q3 pe to ex from ((((if_neg c1_1).trans (if_pos c12_3)).trans (if_pos c21_5)).trans (if_neg c30_7)).symm), rfl, e9⟩
      · refine Gl.up (B := T4.setTop (mkF m 36 #[.val (.ref a0), .val (.int p1), .val (.long q2), .second, .val (.long q3), .second] [(.ref a0)])) (fun t kt => ?_) ?_
        · show Steps p.tables e below (T4.setTop (mkF m 21 #[.val (.ref a0), .val (.int p1), .val (.long q2), .second, .val (.long q3), .second] [(.int (lcmpW to (0 : Int64)))])) _
          refine XS.ifYes X4.here hx rfl (pc0 := 21) (pc' := 35) rfl (hb hby d2_21) rfl (jc_ne_t c21_5) (by decide) (by decide) ?_
          show Steps p.tables e below (T4.setTop (mkF m 35 #[.val (.ref a0), .val (.int p1), .val (.long q2), .second, .val (.long q3), .second] [])) _
          refine XS.aloadN X4.here hx rfl (hb hby d2_35) rfl rfl ?_
          exact kt
        obtain ⟨T37, X37, e37, st37⟩ := getF X4 hx hZ hown (host := "") (Or.inl (hw _ (List.mem_of_getElem? (i := 28) rfl))) Via.refl e4 F_a0_pending (g := (mkF m 36 #[.val (.ref a0), .val (.int p1), .val (.long q2), .second, .val (.long q3), .second] [(.ref a0)])) rfl rfl (hb hby d2_36)
        refine Gl.up (B := T37.setTop (mkF m 39 #[.val (.ref a0), .val (.int p1), .val (.long q2), .second, .val (.long q3), .second] [(.long pe)])) (fun t kt => st37 _ kt) ?_
        refine Gl.up (B := T37.setTop (mkF m 41 #[.val (.ref a0), .val (.int p1), .val (.long q2), .second, .val (.long q3), .second] [(.int (lcmpW pe (0 : Int64)))])) (fun t kt => ?_) ?_
        · show Steps p.tables e below (T37.setTop (mkF m 39 #[.val (.ref a0), .val (.int p1), .val (.long q2), .second, .val (.long q3), .second] [(.long pe)])) _
          refine XS.lconst X37.here hx rfl (hb hby d2_39) ?_
          show Steps p.tables e below (T37.setTop (mkF m 40 #[.val (.ref a0), .val (.int p1), .val (.long q2), .second, .val (.long q3), .second] [(.long (0 : Int64)), (.long pe)])) _
          refine XS.lcmp X37.here hx rfl (hb hby d2_40) rfl ?_
          exact kt
        suffices J38 : ∀ (T38 : State) (v38_s0 : Int32), v38_s0 = (if (0 : Int64) < pe then (if (p1.toInt64) < pe then (if (0 : Int64) < to then (if q2 < to then (if (0 : Int64) < ex then (if q3 < (ex * (1000000000 : Int64)) then (0 : Int32) else (1 : Int32)) else (0 : Int32)) else (1 : Int32)) else (if (0 : Int64) < ex then (if q3 < (ex * (1000000000 : Int64)) then (0 : Int32) else (1 : Int32)) else (0 : Int32))) else (1 : Int32)) else (if (0 : Int64) < to then (if q2 < to then (if (0 : Int64) < ex then (if q3 < (ex * (1000000000 : Int64)) then (0 : Int32) else (1 : Int32)) else (0 : Int32)) else (1 : Int32)) else (if (0 : Int64) < ex then (if q3 < (ex * (1000000000 : Int64)) then (0 : Int32) else (1 : Int32)) else (0 : Int32)))) → Stand p l e ({ frames := 0, cells := 0, slots := 0, locals := 0 } : Room) s m args below meth c T38 [] 0 0 → T38.heap = h0 → Gl p e below (Ret s 0 0 (Q2 Z a0 p1 q2 q3 pe to ex h0 n0)) (T38.setTop (mkF m 100 #[.val (.ref a0), .val (.int p1), .val (.long q2), .second, .val (.long q3), .second] [(.int v38_s0)])) by
          by_cases c41_39 : (0 : Int64) < pe
          · refine Gl.up (B := T37.setTop (mkF m 47 #[.val (.ref a0), .val (.int p1), .val (.long q2), .second, .val (.long q3), .second] [(.ref a0), (.long (p1.toInt64))])) (fun t kt => ?_) ?_
            · show Steps p.tables e below (T37.setTop (mkF m 41 #[.val (.ref a0), .val (.int p1), .val (.long q2), .second, .val (.long q3), .second] [(.int (lcmpW pe (0 : Int64)))])) _
              refine XS.ifNo X37.here hx rfl (hb hby d2_41) rfl (jc_le_f c41_39) ?_
              show Steps p.tables e below (T37.setTop (mkF m 44 #[.val (.ref a0), .val (.int p1), .val (.long q2), .second, .val (.long q3), .second] [])) _
              refine XS.iloadN X37.here hx rfl (hb hby d2_44) rfl ?_
              show Steps p.tables e below (T37.setTop (mkF m 45 #[.val (.ref a0), .val (.int p1), .val (.long q2), .second, .val (.long q3), .second] [(.int p1)])) _
              refine XS.i2l X37.here hx rfl (hb hby d2_45) rfl ?_
              show Steps p.tables e below (T37.setTop (mkF m 46 #[.val (.ref a0), .val (.int p1), .val (.long q2), .second, .val (.long q3), .second] [(.long (p1.toInt64))])) _
              refine XS.aloadN X37.here hx rfl (hb hby d2_46) rfl rfl ?_
              exact kt
            obtain ⟨T40, X40, e40, st40⟩ := getF X37 hx hZ hown (host := "") (Or.inl (hw _ (List.mem_of_getElem? (i := 28) rfl))) Via.refl e37 F_a0_pending (g := (mkF m 47 #[.val (.ref a0), .val (.int p1), .val (.long q2), .second, .val (.long q3), .second] [(.ref a0), (.long (p1.toInt64))])) rfl rfl (hb hby d2_47)
            refine Gl.up (B := T40.setTop (mkF m 50 #[.val (.ref a0), .val (.int p1), .val (.long q2), .second, .val (.long q3), .second] [(.long pe), (.long (p1.toInt64))])) (fun t kt => st40 _ kt) ?_
            refine Gl.up (B := T40.setTop (mkF m 51 #[.val (.ref a0), .val (.int p1), .val (.long q2), .second, .val (.long q3), .second] [(.int (lcmpW (p1.toInt64) pe))])) (fun t kt => ?_) ?_
            · show Steps p.tables e below (T40.setTop (mkF m 50 #[.val (.ref a0), .val (.int p1), .val (.long q2), .second, .val (.long q3), .second] [(.long pe), (.long (p1.toInt64))])) _
              refine XS.lcmp X40.here hx rfl (hb hby d2_50) rfl ?_
              exact kt
            by_cases c51_41 : (p1.toInt64) < pe
            · refine Gl.up (B := T40.setTop (mkF m 55 #[.val (.ref a0), .val (.int p1), .val (.long q2), .second, .val (.long q3), .second] [(.ref a0)])) (fun t kt => ?_) ?_
              · show Steps p.tables e below (T40.setTop (mkF m 51 #[.val (.ref a0), .val (.int p1), .val (.long q2), .second, .val (.long q3), .second] [(.int (lcmpW (p1.toInt64) pe))])) _
                refine XS.ifNo X40.here hx rfl (hb hby d2_51) rfl (jc_ge_f c51_41) ?_
                show Steps p.tables e below (T40.setTop (mkF m 54 #[.val (.ref a0), .val (.int p1), .val (.long q2), .second, .val (.long q3), .second] [])) _
                refine XS.aloadN X40.here hx rfl (hb hby d2_54) rfl rfl ?_
                exact kt
              obtain ⟨T42, X42, e42, st42⟩ := getF X40 hx hZ hown (host := "") (Or.inl (hw _ (List.mem_of_getElem? (i := 30) rfl))) Via.refl e40 F_a0_total (g := (mkF m 55 #[.val (.ref a0), .val (.int p1), .val (.long q2), .second, .val (.long q3), .second] [(.ref a0)])) rfl rfl (hb hby d2_55)
              refine Gl.up (B := T42.setTop (mkF m 58 #[.val (.ref a0), .val (.int p1), .val (.long q2), .second, .val (.long q3), .second] [(.long to)])) (fun t kt => st42 _ kt) ?_
              refine Gl.up (B := T42.setTop (mkF m 60 #[.val (.ref a0), .val (.int p1), .val (.long q2), .second, .val (.long q3), .second] [(.int (lcmpW to (0 : Int64)))])) (fun t kt => ?_) ?_
              · show Steps p.tables e below (T42.setTop (mkF m 58 #[.val (.ref a0), .val (.int p1), .val (.long q2), .second, .val (.long q3), .second] [(.long to)])) _
                refine XS.lconst X42.here hx rfl (hb hby d2_58) ?_
                show Steps p.tables e below (T42.setTop (mkF m 59 #[.val (.ref a0), .val (.int p1), .val (.long q2), .second, .val (.long q3), .second] [(.long (0 : Int64)), (.long to)])) _
                refine XS.lcmp X42.here hx rfl (hb hby d2_59) rfl ?_
                exact kt
              by_cases c60_43 : (0 : Int64) < to
              · refine Gl.up (B := T42.setTop (mkF m 65 #[.val (.ref a0), .val (.int p1), .val (.long q2), .second, .val (.long q3), .second] [(.ref a0), (.long q2)])) (fun t kt => ?_) ?_
                · show Steps p.tables e below (T42.setTop (mkF m 60 #[.val (.ref a0), .val (.int p1), .val (.long q2), .second, .val (.long q3), .second] [(.int (lcmpW to (0 : Int64)))])) _
                  refine XS.ifNo X42.here hx rfl (hb hby d2_60) rfl (jc_le_f c60_43) ?_
                  show Steps p.tables e below (T42.setTop (mkF m 63 #[.val (.ref a0), .val (.int p1), .val (.long q2), .second, .val (.long q3), .second] [])) _
                  refine XS.lloadN X42.here hx rfl (hb hby d2_63) rfl ?_
                  show Steps p.tables e below (T42.setTop (mkF m 64 #[.val (.ref a0), .val (.int p1), .val (.long q2), .second, .val (.long q3), .second] [(.long q2)])) _
                  refine XS.aloadN X42.here hx rfl (hb hby d2_64) rfl rfl ?_
                  exact kt
                obtain ⟨T44, X44, e44, st44⟩ := getF X42 hx hZ hown (host := "") (Or.inl (hw _ (List.mem_of_getElem? (i := 30) rfl))) Via.refl e42 F_a0_total (g := (mkF m 65 #[.val (.ref a0), .val (.int p1), .val (.long q2), .second, .val (.long q3), .second] [(.ref a0), (.long q2)])) rfl rfl (hb hby d2_65)
                refine Gl.up (B := T44.setTop (mkF m 68 #[.val (.ref a0), .val (.int p1), .val (.long q2), .second, .val (.long q3), .second] [(.long to), (.long q2)])) (fun t kt => st44 _ kt) ?_
                refine Gl.up (B := T44.setTop (mkF m 69 #[.val (.ref a0), .val (.int p1), .val (.long q2), .second, .val (.long q3), .second] [(.int (lcmpW q2 to))])) (fun t kt => ?_) ?_
                · show Steps p.tables e below (T44.setTop (mkF m 68 #[.val (.ref a0), .val (.int p1), .val (.long q2), .second, .val (.long q3), .second] [(.long to), (.long q2)])) _
                  refine XS.lcmp X44.here hx rfl (hb hby d2_68) rfl ?_
                  exact kt
                by_cases c69_45 : q2 < to
                · refine Gl.up (B := T44.setTop (mkF m 73 #[.val (.ref a0), .val (.int p1), .val (.long q2), .second, .val (.long q3), .second] [(.ref a0)])) (fun t kt => ?_) ?_
                  · show Steps p.tables e below (T44.setTop (mkF m 69 #[.val (.ref a0), .val (.int p1), .val (.long q2), .second, .val (.long q3), .second] [(.int (lcmpW q2 to))])) _
                    refine XS.ifNo X44.here hx rfl (hb hby d2_69) rfl (jc_ge_f c69_45) ?_
                    show Steps p.tables e below (T44.setTop (mkF m 72 #[.val (.ref a0), .val (.int p1), .val (.long q2), .second, .val (.long q3), .second] [])) _
                    refine XS.aloadN X44.here hx rfl (hb hby d2_72) rfl rfl ?_
                    exact kt
                  obtain ⟨T46, X46, e46, st46⟩ := getF X44 hx hZ hown (host := "") (Or.inl (hw _ (List.mem_of_getElem? (i := 32) rfl))) Via.refl e44 F_a0_expireSeconds (g := (mkF m 73 #[.val (.ref a0), .val (.int p1), .val (.long q2), .second, .val (.long q3), .second] [(.ref a0)])) rfl rfl (hb hby d2_73)
                  refine Gl.up (B := T46.setTop (mkF m 76 #[.val (.ref a0), .val (.int p1), .val (.long q2), .second, .val (.long q3), .second] [(.long ex)])) (fun t kt => st46 _ kt) ?_
                  refine Gl.up (B := T46.setTop (mkF m 78 #[.val (.ref a0), .val (.int p1), .val (.long q2), .second, .val (.long q3), .second] [(.int (lcmpW ex (0 : Int64)))])) (fun t kt => ?_) ?_
                  · show Steps p.tables e below (T46.setTop (mkF m 76 #[.val (.ref a0), .val (.int p1), .val (.long q2), .second, .val (.long q3), .second] [(.long ex)])) _
                    refine XS.lconst X46.here hx rfl (hb hby d2_76) ?_
                    show Steps p.tables e below (T46.setTop (mkF m 77 #[.val (.ref a0), .val (.int p1), .val (.long q2), .second, .val (.long q3), .second] [(.long (0 : Int64)), (.long ex)])) _
                    refine XS.lcmp X46.here hx rfl (hb hby d2_77) rfl ?_
                    exact kt
                  by_cases c78_47 : (0 : Int64) < ex
                  · refine Gl.up (B := T46.setTop (mkF m 84 #[.val (.ref a0), .val (.int p1), .val (.long q2), .second, .val (.long q3), .second] [(.ref a0), (.long q3)])) (fun t kt => ?_) ?_
                    · show Steps p.tables e below (T46.setTop (mkF m 78 #[.val (.ref a0), .val (.int p1), .val (.long q2), .second, .val (.long q3), .second] [(.int (lcmpW ex (0 : Int64)))])) _
                      refine XS.ifNo X46.here hx rfl (hb hby d2_78) rfl (jc_le_f c78_47) ?_
                      show Steps p.tables e below (T46.setTop (mkF m 81 #[.val (.ref a0), .val (.int p1), .val (.long q2), .second, .val (.long q3), .second] [])) _
                      refine XS.lload X46.here hx rfl (hb hby d2_81) rfl ?_
                      show Steps p.tables e below (T46.setTop (mkF m 83 #[.val (.ref a0), .val (.int p1), .val (.long q2), .second, .val (.long q3), .second] [(.long q3)])) _
                      refine XS.aloadN X46.here hx rfl (hb hby d2_83) rfl rfl ?_
                      exact kt
                    obtain ⟨T48, X48, e48, st48⟩ := getF X46 hx hZ hown (host := "") (Or.inl (hw _ (List.mem_of_getElem? (i := 32) rfl))) Via.refl e46 F_a0_expireSeconds (g := (mkF m 84 #[.val (.ref a0), .val (.int p1), .val (.long q2), .second, .val (.long q3), .second] [(.ref a0), (.long q3)])) rfl rfl (hb hby d2_84)
                    refine Gl.up (B := T48.setTop (mkF m 87 #[.val (.ref a0), .val (.int p1), .val (.long q2), .second, .val (.long q3), .second] [(.long ex), (.long q3)])) (fun t kt => st48 _ kt) ?_
                    refine Gl.up (B := T48.setTop (mkF m 92 #[.val (.ref a0), .val (.int p1), .val (.long q2), .second, .val (.long q3), .second] [(.int (lcmpW q3 (ex * (1000000000 : Int64))))])) (fun t kt => ?_) ?_
                    · show Steps p.tables e below (T48.setTop (mkF m 87 #[.val (.ref a0), .val (.int p1), .val (.long q2), .second, .val (.long q3), .second] [(.long ex), (.long q3)])) _
                      refine X48.ldc2Long hx hown (mvT hZ (hw _ (List.mem_of_getElem? (i := 40) rfl))) (g := (mkF m 87 #[.val (.ref a0), .val (.int p1), .val (.long q2), .second, .val (.long q3), .second] [(.long ex), (.long q3)])) rfl (hb hby d2_87) _ ?_
                      show Steps p.tables e below (T48.setTop (mkF m 90 #[.val (.ref a0), .val (.int p1), .val (.long q2), .second, .val (.long q3), .second] [(.long (1000000000 : Int64)), (.long ex), (.long q3)])) _
                      refine XS.lmul X48.here hx rfl (hb hby d2_90) rfl ?_
                      show Steps p.tables e below (T48.setTop (mkF m 91 #[.val (.ref a0), .val (.int p1), .val (.long q2), .second, .val (.long q3), .second] [(.long (ex * (1000000000 : Int64))), (.long q3)])) _
                      refine XS.lcmp X48.here hx rfl (hb hby d2_91) rfl ?_
                      exact kt
                    by_cases c92_49 : q3 < (ex * (1000000000 : Int64))
                    · refine Gl.up (B := T48.setTop (mkF m 100 #[.val (.ref a0), .val (.int p1), .val (.long q2), .second, .val (.long q3), .second] [(.int (0 : Int32))])) (fun t kt => ?_) ?_
                      · show Steps p.tables e below (T48.setTop (mkF m 92 #[.val (.ref a0), .val (.int p1), .val (.long q2), .second, .val (.long q3), .second] [(.int (lcmpW q3 (ex * (1000000000 : Int64))))])) _
                        refine XS.ifYes X48.here hx rfl (pc0 := 92) (pc' := 99) rfl (hb hby d2_92) rfl (jc_lt_t c92_49) (by decide) (by decide) ?_
                        show Steps p.tables e below (T48.setTop (mkF m 99 #[.val (.ref a0), .val (.int p1), .val (.long q2), .second, .val (.long q3), .second] [])) _
                        refine XS.iconst X48.here hx rfl (hb hby d2_99) ?_
                        exact kt
                      exact J38 _ (0 : Int32) ((((((if_pos c41_39).trans (if_pos c51_41)).trans (if_pos c60_43)).trans (if_pos c69_45)).trans (if_pos c78_47)).trans (if_pos c92_49)).symm X48 e48
                    · refine Gl.up (B := T48.setTop (mkF m 100 #[.val (.ref a0), .val (.int p1), .val (.long q2), .second, .val (.long q3), .second] [(.int (1 : Int32))])) (fun t kt => ?_) ?_
                      · show Steps p.tables e below (T48.setTop (mkF m 92 #[.val (.ref a0), .val (.int p1), .val (.long q2), .second, .val (.long q3), .second] [(.int (lcmpW q3 (ex * (1000000000 : Int64))))])) _
                        refine XS.ifNo X48.here hx rfl (hb hby d2_92) rfl (jc_lt_f c92_49) ?_
                        show Steps p.tables e below (T48.setTop (mkF m 95 #[.val (.ref a0), .val (.int p1), .val (.long q2), .second, .val (.long q3), .second] [])) _
                        refine XS.iconst X48.here hx rfl (hb hby d2_95) ?_
                        show Steps p.tables e below (T48.setTop (mkF m 96 #[.val (.ref a0), .val (.int p1), .val (.long q2), .second, .val (.long q3), .second] [(.int (1 : Int32))])) _
                        refine XS.goto X48.here hx rfl (pc0 := 96) (pc' := 100) rfl (hb hby d2_96) (by decide) (by decide) ?_
                        exact kt
                      exact J38 _ (1 : Int32) ((((((if_pos c41_39).trans (if_pos c51_41)).trans (if_pos c60_43)).trans (if_pos c69_45)).trans (if_pos c78_47)).trans (if_neg c92_49)).symm X48 e48
                  · refine Gl.up (B := T46.setTop (mkF m 100 #[.val (.ref a0), .val (.int p1), .val (.long q2), .second, .val (.long q3), .second] [(.int (0 : Int32))])) (fun t kt => ?_) ?_
                    · show Steps p.tables e below (T46.setTop (mkF m 78 #[.val (.ref a0), .val (.int p1), .val (.long q2), .second, .val (.long q3), .second] [(.int (lcmpW ex (0 : Int64)))])) _
                      refine XS.ifYes X46.here hx rfl (pc0 := 78) (pc' := 99) rfl (hb hby d2_78) rfl (jc_le_t c78_47) (by decide) (by decide) ?_
                      show Steps p.tables e below (T46.setTop (mkF m 99 #[.val (.ref a0), .val (.int p1), .val (.long q2), .second, .val (.long q3), .second] [])) _
                      refine XS.iconst X46.here hx rfl (hb hby d2_99) ?_
                      exact kt
                    exact J38 _ (0 : Int32) (((((if_pos c41_39).trans (if_pos c51_41)).trans (if_pos c60_43)).trans (if_pos c69_45)).trans (if_neg c78_47)).symm X46 e46
                · refine Gl.up (B := T44.setTop (mkF m 100 #[.val (.ref a0), .val (.int p1), .val (.long q2), .second, .val (.long q3), .second] [(.int (1 : Int32))])) (fun t kt => ?_) ?_
                  · show Steps p.tables e below (T44.setTop (mkF m 69 #[.val (.ref a0), .val (.int p1), .val (.long q2), .second, .val (.long q3), .second] [(.int (lcmpW q2 to))])) _
                    refine XS.ifYes X44.here hx rfl (pc0 := 69) (pc' := 95) rfl (hb hby d2_69) rfl (jc_ge_t c69_45) (by decide) (by decide) ?_
                    show Steps p.tables e below (T44.setTop (mkF m 95 #[.val (.ref a0), .val (.int p1), .val (.long q2), .second, .val (.long q3), .second] [])) _
                    refine XS.iconst X44.here hx rfl (hb hby d2_95) ?_
                    show Steps p.tables e below (T44.setTop (mkF m 96 #[.val (.ref a0), .val (.int p1), .val (.long q2), .second, .val (.long q3), .second] [(.int (1 : Int32))])) _
                    refine XS.goto X44.here hx rfl (pc0 := 96) (pc' := 100) rfl (hb hby d2_96) (by decide) (by decide) ?_
                    exact kt
                  exact J38 _ (1 : Int32) ((((if_pos c41_39).trans (if_pos c51_41)).trans (if_pos c60_43)).trans (if_neg c69_45)).symm X44 e44
              · refine Gl.up (B := T42.setTop (mkF m 73 #[.val (.ref a0), .val (.int p1), .val (.long q2), .second, .val (.long q3), .second] [(.ref a0)])) (fun t kt => ?_) ?_
                · show Steps p.tables e below (T42.setTop (mkF m 60 #[.val (.ref a0), .val (.int p1), .val (.long q2), .second, .val (.long q3), .second] [(.int (lcmpW to (0 : Int64)))])) _
                  refine XS.ifYes X42.here hx rfl (pc0 := 60) (pc' := 72) rfl (hb hby d2_60) rfl (jc_le_t c60_43) (by decide) (by decide) ?_
                  show Steps p.tables e below (T42.setTop (mkF m 72 #[.val (.ref a0), .val (.int p1), .val (.long q2), .second, .val (.long q3), .second] [])) _
                  refine XS.aloadN X42.here hx rfl (hb hby d2_72) rfl rfl ?_
                  exact kt
                obtain ⟨T50, X50, e50, st50⟩ := getF X42 hx hZ hown (host := "") (Or.inl (hw _ (List.mem_of_getElem? (i := 32) rfl))) Via.refl e42 F_a0_expireSeconds (g := (mkF m 73 #[.val (.ref a0), .val (.int p1), .val (.long q2), .second, .val (.long q3), .second] [(.ref a0)])) rfl rfl (hb hby d2_73)
                refine Gl.up (B := T50.setTop (mkF m 76 #[.val (.ref a0), .val (.int p1), .val (.long q2), .second, .val (.long q3), .second] [(.long ex)])) (fun t kt => st50 _ kt) ?_
                refine Gl.up (B := T50.setTop (mkF m 78 #[.val (.ref a0), .val (.int p1), .val (.long q2), .second, .val (.long q3), .second] [(.int (lcmpW ex (0 : Int64)))])) (fun t kt => ?_) ?_
                · show Steps p.tables e below (T50.setTop (mkF m 76 #[.val (.ref a0), .val (.int p1), .val (.long q2), .second, .val (.long q3), .second] [(.long ex)])) _
                  refine XS.lconst X50.here hx rfl (hb hby d2_76) ?_
                  show Steps p.tables e below (T50.setTop (mkF m 77 #[.val (.ref a0), .val (.int p1), .val (.long q2), .second, .val (.long q3), .second] [(.long (0 : Int64)), (.long ex)])) _
                  refine XS.lcmp X50.here hx rfl (hb hby d2_77) rfl ?_
                  exact kt
                by_cases c78_51 : (0 : Int64) < ex
                · refine Gl.up (B := T50.setTop (mkF m 84 #[.val (.ref a0), .val (.int p1), .val (.long q2), .second, .val (.long q3), .second] [(.ref a0), (.long q3)])) (fun t kt => ?_) ?_
                  · show Steps p.tables e below (T50.setTop (mkF m 78 #[.val (.ref a0), .val (.int p1), .val (.long q2), .second, .val (.long q3), .second] [(.int (lcmpW ex (0 : Int64)))])) _
                    refine XS.ifNo X50.here hx rfl (hb hby d2_78) rfl (jc_le_f c78_51) ?_
                    show Steps p.tables e below (T50.setTop (mkF m 81 #[.val (.ref a0), .val (.int p1), .val (.long q2), .second, .val (.long q3), .second] [])) _
                    refine XS.lload X50.here hx rfl (hb hby d2_81) rfl ?_
                    show Steps p.tables e below (T50.setTop (mkF m 83 #[.val (.ref a0), .val (.int p1), .val (.long q2), .second, .val (.long q3), .second] [(.long q3)])) _
                    refine XS.aloadN X50.here hx rfl (hb hby d2_83) rfl rfl ?_
                    exact kt
                  obtain ⟨T52, X52, e52, st52⟩ := getF X50 hx hZ hown (host := "") (Or.inl (hw _ (List.mem_of_getElem? (i := 32) rfl))) Via.refl e50 F_a0_expireSeconds (g := (mkF m 84 #[.val (.ref a0), .val (.int p1), .val (.long q2), .second, .val (.long q3), .second] [(.ref a0), (.long q3)])) rfl rfl (hb hby d2_84)
                  refine Gl.up (B := T52.setTop (mkF m 87 #[.val (.ref a0), .val (.int p1), .val (.long q2), .second, .val (.long q3), .second] [(.long ex), (.long q3)])) (fun t kt => st52 _ kt) ?_
                  refine Gl.up (B := T52.setTop (mkF m 92 #[.val (.ref a0), .val (.int p1), .val (.long q2), .second, .val (.long q3), .second] [(.int (lcmpW q3 (ex * (1000000000 : Int64))))])) (fun t kt => ?_) ?_
                  · show Steps p.tables e below (T52.setTop (mkF m 87 #[.val (.ref a0), .val (.int p1), .val (.long q2), .second, .val (.long q3), .second] [(.long ex), (.long q3)])) _
                    refine X52.ldc2Long hx hown (mvT hZ (hw _ (List.mem_of_getElem? (i := 40) rfl))) (g := (mkF m 87 #[.val (.ref a0), .val (.int p1), .val (.long q2), .second, .val (.long q3), .second] [(.long ex), (.long q3)])) rfl (hb hby d2_87) _ ?_
                    show Steps p.tables e below (T52.setTop (mkF m 90 #[.val (.ref a0), .val (.int p1), .val (.long q2), .second, .val (.long q3), .second] [(.long (1000000000 : Int64)), (.long ex), (.long q3)])) _
                    refine XS.lmul X52.here hx rfl (hb hby d2_90) rfl ?_
                    show Steps p.tables e below (T52.setTop (mkF m 91 #[.val (.ref a0), .val (.int p1), .val (.long q2), .second, .val (.long q3), .second] [(.long (ex * (1000000000 : Int64))), (.long q3)])) _
                    refine XS.lcmp X52.here hx rfl (hb hby d2_91) rfl ?_
                    exact kt
                  by_cases c92_53 : q3 < (ex * (1000000000 : Int64))
                  · refine Gl.up (B := T52.setTop (mkF m 100 #[.val (.ref a0), .val (.int p1), .val (.long q2), .second, .val (.long q3), .second] [(.int (0 : Int32))])) (fun t kt => ?_) ?_
                    · show Steps p.tables e below (T52.setTop (mkF m 92 #[.val (.ref a0), .val (.int p1), .val (.long q2), .second, .val (.long q3), .second] [(.int (lcmpW q3 (ex * (1000000000 : Int64))))])) _
                      refine XS.ifYes X52.here hx rfl (pc0 := 92) (pc' := 99) rfl (hb hby d2_92) rfl (jc_lt_t c92_53) (by decide) (by decide) ?_
                      show Steps p.tables e below (T52.setTop (mkF m 99 #[.val (.ref a0), .val (.int p1), .val (.long q2), .second, .val (.long q3), .second] [])) _
                      refine XS.iconst X52.here hx rfl (hb hby d2_99) ?_
                      exact kt
                    exact J38 _ (0 : Int32) (((((if_pos c41_39).trans (if_pos c51_41)).trans (if_neg c60_43)).trans (if_pos c78_51)).trans (if_pos c92_53)).symm X52 e52
                  · refine Gl.up (B := T52.setTop (mkF m 100 #[.val (.ref a0), .val (.int p1), .val (.long q2), .second, .val (.long q3), .second] [(.int (1 : Int32))])) (fun t kt => ?_) ?_
                    · show Steps p.tables e below (T52.setTop (mkF m 92 #[.val (.ref a0), .val (.int p1), .val (.long q2), .second, .val (.long q3), .second] [(.int (lcmpW q3 (ex * (1000000000 : Int64))))])) _
                      refine XS.ifNo X52.here hx rfl (hb hby d2_92) rfl (jc_lt_f c92_53) ?_
                      show Steps p.tables e below (T52.setTop (mkF m 95 #[.val (.ref a0), .val (.int p1), .val (.long q2), .second, .val (.long q3), .second] [])) _
                      refine XS.iconst X52.here hx rfl (hb hby d2_95) ?_
                      show Steps p.tables e below (T52.setTop (mkF m 96 #[.val (.ref a0), .val (.int p1), .val (.long q2), .second, .val (.long q3), .second] [(.int (1 : Int32))])) _
                      refine XS.goto X52.here hx rfl (pc0 := 96) (pc' := 100) rfl (hb hby d2_96) (by decide) (by decide) ?_
                      exact kt
                    exact J38 _ (1 : Int32) (((((if_pos c41_39).trans (if_pos c51_41)).trans (if_neg c60_43)).trans (if_pos c78_51)).trans (if_neg c92_53)).symm X52 e52
                · refine Gl.up (B := T50.setTop (mkF m 100 #[.val (.ref a0), .val (.int p1), .val (.long q2), .second, .val (.long q3), .second] [(.int (0 : Int32))])) (fun t kt => ?_) ?_
                  · show Steps p.tables e below (T50.setTop (mkF m 78 #[.val (.ref a0), .val (.int p1), .val (.long q2), .second, .val (.long q3), .second] [(.int (lcmpW ex (0 : Int64)))])) _
                    refine XS.ifYes X50.here hx rfl (pc0 := 78) (pc' := 99) rfl (hb hby d2_78) rfl (jc_le_t c78_51) (by decide) (by decide) ?_
                    show Steps p.tables e below (T50.setTop (mkF m 99 #[.val (.ref a0), .val (.int p1), .val (.long q2), .second, .val (.long q3), .second] [])) _
                    refine XS.iconst X50.here hx rfl (hb hby d2_99) ?_
                    exact kt
                  exact J38 _ (0 : Int32) ((((if_pos c41_39).trans (if_pos c51_41)).trans (if_neg c60_43)).trans (if_neg c78_51)).symm X50 e50
            · refine Gl.up (B := T40.setTop (mkF m 100 #[.val (.ref a0), .val (.int p1), .val (.long q2), .second, .val (.long q3), .second] [(.int (1 : Int32))])) (fun t kt => ?_) ?_
              · show Steps p.tables e below (T40.setTop (mkF m 51 #[.val (.ref a0), .val (.int p1), .val (.long q2), .second, .val (.long q3), .second] [(.int (lcmpW (p1.toInt64) pe))])) _
                refine XS.ifYes X40.here hx rfl (pc0 := 51) (pc' := 95) rfl (hb hby d2_51) rfl (jc_ge_t c51_41) (by decide) (by decide) ?_
                show Steps p.tables e below (T40.setTop (mkF m 95 #[.val (.ref a0), .val (.int p1), .val (.long q2), .second, .val (.long q3), .second] [])) _
                refine XS.iconst X40.here hx rfl (hb hby d2_95) ?_
                show Steps p.tables e below (T40.setTop (mkF m 96 #[.val (.ref a0), .val (.int p1), .val (.long q2), .second, .val (.long q3), .second] [(.int (1 : Int32))])) _
                refine XS.goto X40.here hx rfl (pc0 := 96) (pc' := 100) rfl (hb hby d2_96) (by decide) (by decide) ?_
                exact kt
              exact J38 _ (1 : Int32) ((if_pos c41_39).trans (if_neg c51_41)).symm X40 e40
          · refine Gl.up (B := T37.setTop (mkF m 55 #[.val (.ref a0), .val (.int p1), .val (.long q2), .second, .val (.long q3), .second] [(.ref a0)])) (fun t kt => ?_) ?_
            · show Steps p.tables e below (T37.setTop (mkF m 41 #[.val (.ref a0), .val (.int p1), .val (.long q2), .second, .val (.long q3), .second] [(.int (lcmpW pe (0 : Int64)))])) _
              refine XS.ifYes X37.here hx rfl (pc0 := 41) (pc' := 54) rfl (hb hby d2_41) rfl (jc_le_t c41_39) (by decide) (by decide) ?_
              show Steps p.tables e below (T37.setTop (mkF m 54 #[.val (.ref a0), .val (.int p1), .val (.long q2), .second, .val (.long q3), .second] [])) _
              refine XS.aloadN X37.here hx rfl (hb hby d2_54) rfl rfl ?_
              exact kt
            obtain ⟨T54, X54, e54, st54⟩ := getF X37 hx hZ hown (host := "") (Or.inl (hw _ (List.mem_of_getElem? (i := 30) rfl))) Via.refl e37 F_a0_total (g := (mkF m 55 #[.val (.ref a0), .val (.int p1), .val (.long q2), .second, .val (.long q3), .second] [(.ref a0)])) rfl rfl (hb hby d2_55)
            refine Gl.up (B := T54.setTop (mkF m 58 #[.val (.ref a0), .val (.int p1), .val (.long q2), .second, .val (.long q3), .second] [(.long to)])) (fun t kt => st54 _ kt) ?_
            refine Gl.up (B := T54.setTop (mkF m 60 #[.val (.ref a0), .val (.int p1), .val (.long q2), .second, .val (.long q3), .second] [(.int (lcmpW to (0 : Int64)))])) (fun t kt => ?_) ?_
            · show Steps p.tables e below (T54.setTop (mkF m 58 #[.val (.ref a0), .val (.int p1), .val (.long q2), .second, .val (.long q3), .second] [(.long to)])) _
              refine XS.lconst X54.here hx rfl (hb hby d2_58) ?_
              show Steps p.tables e below (T54.setTop (mkF m 59 #[.val (.ref a0), .val (.int p1), .val (.long q2), .second, .val (.long q3), .second] [(.long (0 : Int64)), (.long to)])) _
              refine XS.lcmp X54.here hx rfl (hb hby d2_59) rfl ?_
              exact kt
            by_cases c60_55 : (0 : Int64) < to
            · refine Gl.up (B := T54.setTop (mkF m 65 #[.val (.ref a0), .val (.int p1), .val (.long q2), .second, .val (.long q3), .second] [(.ref a0), (.long q2)])) (fun t kt => ?_) ?_
              · show Steps p.tables e below (T54.setTop (mkF m 60 #[.val (.ref a0), .val (.int p1), .val (.long q2), .second, .val (.long q3), .second] [(.int (lcmpW to (0 : Int64)))])) _
                refine XS.ifNo X54.here hx rfl (hb hby d2_60) rfl (jc_le_f c60_55) ?_
                show Steps p.tables e below (T54.setTop (mkF m 63 #[.val (.ref a0), .val (.int p1), .val (.long q2), .second, .val (.long q3), .second] [])) _
                refine XS.lloadN X54.here hx rfl (hb hby d2_63) rfl ?_
                show Steps p.tables e below (T54.setTop (mkF m 64 #[.val (.ref a0), .val (.int p1), .val (.long q2), .second, .val (.long q3), .second] [(.long q2)])) _
                refine XS.aloadN X54.here hx rfl (hb hby d2_64) rfl rfl ?_
                exact kt
              obtain ⟨T56, X56, e56, st56⟩ := getF X54 hx hZ hown (host := "") (Or.inl (hw _ (List.mem_of_getElem? (i := 30) rfl))) Via.refl e54 F_a0_total (g := (mkF m 65 #[.val (.ref a0), .val (.int p1), .val (.long q2), .second, .val (.long q3), .second] [(.ref a0), (.long q2)])) rfl rfl (hb hby d2_65)
              refine Gl.up (B := T56.setTop (mkF m 68 #[.val (.ref a0), .val (.int p1), .val (.long q2), .second, .val (.long q3), .second] [(.long to), (.long q2)])) (fun t kt => st56 _ kt) ?_
              refine Gl.up (B := T56.setTop (mkF m 69 #[.val (.ref a0), .val (.int p1), .val (.long q2), .second, .val (.long q3), .second] [(.int (lcmpW q2 to))])) (fun t kt => ?_) ?_
              · show Steps p.tables e below (T56.setTop (mkF m 68 #[.val (.ref a0), .val (.int p1), .val (.long q2), .second, .val (.long q3), .second] [(.long to), (.long q2)])) _
                refine XS.lcmp X56.here hx rfl (hb hby d2_68) rfl ?_
                exact kt
              by_cases c69_57 : q2 < to
              · refine Gl.up (B := T56.setTop (mkF m 73 #[.val (.ref a0), .val (.int p1), .val (.long q2), .second, .val (.long q3), .second] [(.ref a0)])) (fun t kt => ?_) ?_
                · show Steps p.tables e below (T56.setTop (mkF m 69 #[.val (.ref a0), .val (.int p1), .val (.long q2), .second, .val (.long q3), .second] [(.int (lcmpW q2 to))])) _
                  refine XS.ifNo X56.here hx rfl (hb hby d2_69) rfl (jc_ge_f c69_57) ?_
                  show Steps p.tables e below (T56.setTop (mkF m 72 #[.val (.ref a0), .val (.int p1), .val (.long q2), .second, .val (.long q3), .second] [])) _
                  refine XS.aloadN X56.here hx rfl (hb hby d2_72) rfl rfl ?_
                  exact kt
                obtain ⟨T58, X58, e58, st58⟩ := getF X56 hx hZ hown (host := "") (Or.inl (hw _ (List.mem_of_getElem? (i := 32) rfl))) Via.refl e56 F_a0_expireSeconds (g := (mkF m 73 #[.val (.ref a0), .val (.int p1), .val (.long q2), .second, .val (.long q3), .second] [(.ref a0)])) rfl rfl (hb hby d2_73)
                refine Gl.up (B := T58.setTop (mkF m 76 #[.val (.ref a0), .val (.int p1), .val (.long q2), .second, .val (.long q3), .second] [(.long ex)])) (fun t kt => st58 _ kt) ?_
                refine Gl.up (B := T58.setTop (mkF m 78 #[.val (.ref a0), .val (.int p1), .val (.long q2), .second, .val (.long q3), .second] [(.int (lcmpW ex (0 : Int64)))])) (fun t kt => ?_) ?_
                · show Steps p.tables e below (T58.setTop (mkF m 76 #[.val (.ref a0), .val (.int p1), .val (.long q2), .second, .val (.long q3), .second] [(.long ex)])) _
                  refine XS.lconst X58.here hx rfl (hb hby d2_76) ?_
                  show Steps p.tables e below (T58.setTop (mkF m 77 #[.val (.ref a0), .val (.int p1), .val (.long q2), .second, .val (.long q3), .second] [(.long (0 : Int64)), (.long ex)])) _
                  refine XS.lcmp X58.here hx rfl (hb hby d2_77) rfl ?_
                  exact kt
                by_cases c78_59 : (0 : Int64) < ex
                · refine Gl.up (B := T58.setTop (mkF m 84 #[.val (.ref a0), .val (.int p1), .val (.long q2), .second, .val (.long q3), .second] [(.ref a0), (.long q3)])) (fun t kt => ?_) ?_
                  · show Steps p.tables e below (T58.setTop (mkF m 78 #[.val (.ref a0), .val (.int p1), .val (.long q2), .second, .val (.long q3), .second] [(.int (lcmpW ex (0 : Int64)))])) _
                    refine XS.ifNo X58.here hx rfl (hb hby d2_78) rfl (jc_le_f c78_59) ?_
                    show Steps p.tables e below (T58.setTop (mkF m 81 #[.val (.ref a0), .val (.int p1), .val (.long q2), .second, .val (.long q3), .second] [])) _
                    refine XS.lload X58.here hx rfl (hb hby d2_81) rfl ?_
                    show Steps p.tables e below (T58.setTop (mkF m 83 #[.val (.ref a0), .val (.int p1), .val (.long q2), .second, .val (.long q3), .second] [(.long q3)])) _
                    refine XS.aloadN X58.here hx rfl (hb hby d2_83) rfl rfl ?_
                    exact kt
                  obtain ⟨T60, X60, e60, st60⟩ := getF X58 hx hZ hown (host := "") (Or.inl (hw _ (List.mem_of_getElem? (i := 32) rfl))) Via.refl e58 F_a0_expireSeconds (g := (mkF m 84 #[.val (.ref a0), .val (.int p1), .val (.long q2), .second, .val (.long q3), .second] [(.ref a0), (.long q3)])) rfl rfl (hb hby d2_84)
                  refine Gl.up (B := T60.setTop (mkF m 87 #[.val (.ref a0), .val (.int p1), .val (.long q2), .second, .val (.long q3), .second] [(.long ex), (.long q3)])) (fun t kt => st60 _ kt) ?_
                  refine Gl.up (B := T60.setTop (mkF m 92 #[.val (.ref a0), .val (.int p1), .val (.long q2), .second, .val (.long q3), .second] [(.int (lcmpW q3 (ex * (1000000000 : Int64))))])) (fun t kt => ?_) ?_
                  · show Steps p.tables e below (T60.setTop (mkF m 87 #[.val (.ref a0), .val (.int p1), .val (.long q2), .second, .val (.long q3), .second] [(.long ex), (.long q3)])) _
                    refine X60.ldc2Long hx hown (mvT hZ (hw _ (List.mem_of_getElem? (i := 40) rfl))) (g := (mkF m 87 #[.val (.ref a0), .val (.int p1), .val (.long q2), .second, .val (.long q3), .second] [(.long ex), (.long q3)])) rfl (hb hby d2_87) _ ?_
                    show Steps p.tables e below (T60.setTop (mkF m 90 #[.val (.ref a0), .val (.int p1), .val (.long q2), .second, .val (.long q3), .second] [(.long (1000000000 : Int64)), (.long ex), (.long q3)])) _
                    refine XS.lmul X60.here hx rfl (hb hby d2_90) rfl ?_
                    show Steps p.tables e below (T60.setTop (mkF m 91 #[.val (.ref a0), .val (.int p1), .val (.long q2), .second, .val (.long q3), .second] [(.long (ex * (1000000000 : Int64))), (.long q3)])) _
                    refine XS.lcmp X60.here hx rfl (hb hby d2_91) rfl ?_
                    exact kt
                  by_cases c92_61 : q3 < (ex * (1000000000 : Int64))
                  · refine Gl.up (B := T60.setTop (mkF m 100 #[.val (.ref a0), .val (.int p1), .val (.long q2), .second, .val (.long q3), .second] [(.int (0 : Int32))])) (fun t kt => ?_) ?_
                    · show Steps p.tables e below (T60.setTop (mkF m 92 #[.val (.ref a0), .val (.int p1), .val (.long q2), .second, .val (.long q3), .second] [(.int (lcmpW q3 (ex * (1000000000 : Int64))))])) _
                      refine XS.ifYes X60.here hx rfl (pc0 := 92) (pc' := 99) rfl (hb hby d2_92) rfl (jc_lt_t c92_61) (by decide) (by decide) ?_
                      show Steps p.tables e below (T60.setTop (mkF m 99 #[.val (.ref a0), .val (.int p1), .val (.long q2), .second, .val (.long q3), .second] [])) _
                      refine XS.iconst X60.here hx rfl (hb hby d2_99) ?_
                      exact kt
                    exact J38 _ (0 : Int32) (((((if_neg c41_39).trans (if_pos c60_55)).trans (if_pos c69_57)).trans (if_pos c78_59)).trans (if_pos c92_61)).symm X60 e60
                  · refine Gl.up (B := T60.setTop (mkF m 100 #[.val (.ref a0), .val (.int p1), .val (.long q2), .second, .val (.long q3), .second] [(.int (1 : Int32))])) (fun t kt => ?_) ?_
                    · show Steps p.tables e below (T60.setTop (mkF m 92 #[.val (.ref a0), .val (.int p1), .val (.long q2), .second, .val (.long q3), .second] [(.int (lcmpW q3 (ex * (1000000000 : Int64))))])) _
                      refine XS.ifNo X60.here hx rfl (hb hby d2_92) rfl (jc_lt_f c92_61) ?_
                      show Steps p.tables e below (T60.setTop (mkF m 95 #[.val (.ref a0), .val (.int p1), .val (.long q2), .second, .val (.long q3), .second] [])) _
                      refine XS.iconst X60.here hx rfl (hb hby d2_95) ?_
                      show Steps p.tables e below (T60.setTop (mkF m 96 #[.val (.ref a0), .val (.int p1), .val (.long q2), .second, .val (.long q3), .second] [(.int (1 : Int32))])) _
                      refine XS.goto X60.here hx rfl (pc0 := 96) (pc' := 100) rfl (hb hby d2_96) (by decide) (by decide) ?_
                      exact kt
                    exact J38 _ (1 : Int32) (((((if_neg c41_39).trans (if_pos c60_55)).trans (if_pos c69_57)).trans (if_pos c78_59)).trans (if_neg c92_61)).symm X60 e60
                · refine Gl.up (B := T58.setTop (mkF m 100 #[.val (.ref a0), .val (.int p1), .val (.long q2), .second, .val (.long q3), .second] [(.int (0 : Int32))])) (fun t kt => ?_) ?_
                  · show Steps p.tables e below (T58.setTop (mkF m 78 #[.val (.ref a0), .val (.int p1), .val (.long q2), .second, .val (.long q3), .second] [(.int (lcmpW ex (0 : Int64)))])) _
                    refine XS.ifYes X58.here hx rfl (pc0 := 78) (pc' := 99) rfl (hb hby d2_78) rfl (jc_le_t c78_59) (by decide) (by decide) ?_
                    show Steps p.tables e below (T58.setTop (mkF m 99 #[.val (.ref a0), .val (.int p1), .val (.long q2), .second, .val (.long q3), .second] [])) _
                    refine XS.iconst X58.here hx rfl (hb hby d2_99) ?_
                    exact kt
                  exact J38 _ (0 : Int32) ((((if_neg c41_39).trans (if_pos c60_55)).trans (if_pos c69_57)).trans (if_neg c78_59)).symm X58 e58
              · refine Gl.up (B := T56.setTop (mkF m 100 #[.val (.ref a0), .val (.int p1), .val (.long q2), .second, .val (.long q3), .second] [(.int (1 : Int32))])) (fun t kt => ?_) ?_
                · show Steps p.tables e below (T56.setTop (mkF m 69 #[.val (.ref a0), .val (.int p1), .val (.long q2), .second, .val (.long q3), .second] [(.int (lcmpW q2 to))])) _
                  refine XS.ifYes X56.here hx rfl (pc0 := 69) (pc' := 95) rfl (hb hby d2_69) rfl (jc_ge_t c69_57) (by decide) (by decide) ?_
                  show Steps p.tables e below (T56.setTop (mkF m 95 #[.val (.ref a0), .val (.int p1), .val (.long q2), .second, .val (.long q3), .second] [])) _
                  refine XS.iconst X56.here hx rfl (hb hby d2_95) ?_
                  show Steps p.tables e below (T56.setTop (mkF m 96 #[.val (.ref a0), .val (.int p1), .val (.long q2), .second, .val (.long q3), .second] [(.int (1 : Int32))])) _
                  refine XS.goto X56.here hx rfl (pc0 := 96) (pc' := 100) rfl (hb hby d2_96) (by decide) (by decide) ?_
                  exact kt
                exact J38 _ (1 : Int32) (((if_neg c41_39).trans (if_pos c60_55)).trans (if_neg c69_57)).symm X56 e56
            · refine Gl.up (B := T54.setTop (mkF m 73 #[.val (.ref a0), .val (.int p1), .val (.long q2), .second, .val (.long q3), .second] [(.ref a0)])) (fun t kt => ?_) ?_
              · show Steps p.tables e below (T54.setTop (mkF m 60 #[.val (.ref a0), .val (.int p1), .val (.long q2), .second, .val (.long q3), .second] [(.int (lcmpW to (0 : Int64)))])) _
                refine XS.ifYes X54.here hx rfl (pc0 := 60) (pc' := 72) rfl (hb hby d2_60) rfl (jc_le_t c60_55) (by decide) (by decide) ?_
                show Steps p.tables e below (T54.setTop (mkF m 72 #[.val (.ref a0), .val (.int p1), .val (.long q2), .second, .val (.long q3), .second] [])) _
                refine XS.aloadN X54.here hx rfl (hb hby d2_72) rfl rfl ?_
                exact kt
              obtain ⟨T62, X62, e62, st62⟩ := getF X54 hx hZ hown (host := "") (Or.inl (hw _ (List.mem_of_getElem? (i := 32) rfl))) Via.refl e54 F_a0_expireSeconds (g := (mkF m 73 #[.val (.ref a0), .val (.int p1), .val (.long q2), .second, .val (.long q3), .second] [(.ref a0)])) rfl rfl (hb hby d2_73)
              refine Gl.up (B := T62.setTop (mkF m 76 #[.val (.ref a0), .val (.int p1), .val (.long q2), .second, .val (.long q3), .second] [(.long ex)])) (fun t kt => st62 _ kt) ?_
              refine Gl.up (B := T62.setTop (mkF m 78 #[.val (.ref a0), .val (.int p1), .val (.long q2), .second, .val (.long q3), .second] [(.int (lcmpW ex (0 : Int64)))])) (fun t kt => ?_) ?_
              · show Steps p.tables e below (T62.setTop (mkF m 76 #[.val (.ref a0), .val (.int p1), .val (.long q2), .second, .val (.long q3), .second] [(.long ex)])) _
                refine XS.lconst X62.here hx rfl (hb hby d2_76) ?_
                show Steps p.tables e below (T62.setTop (mkF m 77 #[.val (.ref a0), .val (.int p1), .val (.long q2), .second, .val (.long q3), .second] [(.long (0 : Int64)), (.long ex)])) _
                refine XS.lcmp X62.here hx rfl (hb hby d2_77) rfl ?_
                exact kt
              by_cases c78_63 : (0 : Int64) < ex
              · refine Gl.up (B := T62.setTop (mkF m 84 #[.val (.ref a0), .val (.int p1), .val (.long q2), .second, .val (.long q3), .second] [(.ref a0), (.long q3)])) (fun t kt => ?_) ?_
                · show Steps p.tables e below (T62.setTop (mkF m 78 #[.val (.ref a0), .val (.int p1), .val (.long q2), .second, .val (.long q3), .second] [(.int (lcmpW ex (0 : Int64)))])) _
                  refine XS.ifNo X62.here hx rfl (hb hby d2_78) rfl (jc_le_f c78_63) ?_
                  show Steps p.tables e below (T62.setTop (mkF m 81 #[.val (.ref a0), .val (.int p1), .val (.long q2), .second, .val (.long q3), .second] [])) _
                  refine XS.lload X62.here hx rfl (hb hby d2_81) rfl ?_
                  show Steps p.tables e below (T62.setTop (mkF m 83 #[.val (.ref a0), .val (.int p1), .val (.long q2), .second, .val (.long q3), .second] [(.long q3)])) _
                  refine XS.aloadN X62.here hx rfl (hb hby d2_83) rfl rfl ?_
                  exact kt
                obtain ⟨T64, X64, e64, st64⟩ := getF X62 hx hZ hown (host := "") (Or.inl (hw _ (List.mem_of_getElem? (i := 32) rfl))) Via.refl e62 F_a0_expireSeconds (g := (mkF m 84 #[.val (.ref a0), .val (.int p1), .val (.long q2), .second, .val (.long q3), .second] [(.ref a0), (.long q3)])) rfl rfl (hb hby d2_84)
                refine Gl.up (B := T64.setTop (mkF m 87 #[.val (.ref a0), .val (.int p1), .val (.long q2), .second, .val (.long q3), .second] [(.long ex), (.long q3)])) (fun t kt => st64 _ kt) ?_
                refine Gl.up (B := T64.setTop (mkF m 92 #[.val (.ref a0), .val (.int p1), .val (.long q2), .second, .val (.long q3), .second] [(.int (lcmpW q3 (ex * (1000000000 : Int64))))])) (fun t kt => ?_) ?_
                · show Steps p.tables e below (T64.setTop (mkF m 87 #[.val (.ref a0), .val (.int p1), .val (.long q2), .second, .val (.long q3), .second] [(.long ex), (.long q3)])) _
                  refine X64.ldc2Long hx hown (mvT hZ (hw _ (List.mem_of_getElem? (i := 40) rfl))) (g := (mkF m 87 #[.val (.ref a0), .val (.int p1), .val (.long q2), .second, .val (.long q3), .second] [(.long ex), (.long q3)])) rfl (hb hby d2_87) _ ?_
                  show Steps p.tables e below (T64.setTop (mkF m 90 #[.val (.ref a0), .val (.int p1), .val (.long q2), .second, .val (.long q3), .second] [(.long (1000000000 : Int64)), (.long ex), (.long q3)])) _
                  refine XS.lmul X64.here hx rfl (hb hby d2_90) rfl ?_
                  show Steps p.tables e below (T64.setTop (mkF m 91 #[.val (.ref a0), .val (.int p1), .val (.long q2), .second, .val (.long q3), .second] [(.long (ex * (1000000000 : Int64))), (.long q3)])) _
                  refine XS.lcmp X64.here hx rfl (hb hby d2_91) rfl ?_
                  exact kt
                by_cases c92_65 : q3 < (ex * (1000000000 : Int64))
                · refine Gl.up (B := T64.setTop (mkF m 100 #[.val (.ref a0), .val (.int p1), .val (.long q2), .second, .val (.long q3), .second] [(.int (0 : Int32))])) (fun t kt => ?_) ?_
                  · show Steps p.tables e below (T64.setTop (mkF m 92 #[.val (.ref a0), .val (.int p1), .val (.long q2), .second, .val (.long q3), .second] [(.int (lcmpW q3 (ex * (1000000000 : Int64))))])) _
                    refine XS.ifYes X64.here hx rfl (pc0 := 92) (pc' := 99) rfl (hb hby d2_92) rfl (jc_lt_t c92_65) (by decide) (by decide) ?_
                    show Steps p.tables e below (T64.setTop (mkF m 99 #[.val (.ref a0), .val (.int p1), .val (.long q2), .second, .val (.long q3), .second] [])) _
                    refine XS.iconst X64.here hx rfl (hb hby d2_99) ?_
                    exact kt
                  exact J38 _ (0 : Int32) ((((if_neg c41_39).trans (if_neg c60_55)).trans (if_pos c78_63)).trans (if_pos c92_65)).symm X64 e64
                · refine Gl.up (B := T64.setTop (mkF m 100 #[.val (.ref a0), .val (.int p1), .val (.long q2), .second, .val (.long q3), .second] [(.int (1 : Int32))])) (fun t kt => ?_) ?_
                  · show Steps p.tables e below (T64.setTop (mkF m 92 #[.val (.ref a0), .val (.int p1), .val (.long q2), .second, .val (.long q3), .second] [(.int (lcmpW q3 (ex * (1000000000 : Int64))))])) _
                    refine XS.ifNo X64.here hx rfl (hb hby d2_92) rfl (jc_lt_f c92_65) ?_
                    show Steps p.tables e below (T64.setTop (mkF m 95 #[.val (.ref a0), .val (.int p1), .val (.long q2), .second, .val (.long q3), .second] [])) _
                    refine XS.iconst X64.here hx rfl (hb hby d2_95) ?_
                    show Steps p.tables e below (T64.setTop (mkF m 96 #[.val (.ref a0), .val (.int p1), .val (.long q2), .second, .val (.long q3), .second] [(.int (1 : Int32))])) _
                    refine XS.goto X64.here hx rfl (pc0 := 96) (pc' := 100) rfl (hb hby d2_96) (by decide) (by decide) ?_
                    exact kt
                  exact J38 _ (1 : Int32) ((((if_neg c41_39).trans (if_neg c60_55)).trans (if_pos c78_63)).trans (if_neg c92_65)).symm X64 e64
              · refine Gl.up (B := T62.setTop (mkF m 100 #[.val (.ref a0), .val (.int p1), .val (.long q2), .second, .val (.long q3), .second] [(.int (0 : Int32))])) (fun t kt => ?_) ?_
                · show Steps p.tables e below (T62.setTop (mkF m 78 #[.val (.ref a0), .val (.int p1), .val (.long q2), .second, .val (.long q3), .second] [(.int (lcmpW ex (0 : Int64)))])) _
                  refine XS.ifYes X62.here hx rfl (pc0 := 78) (pc' := 99) rfl (hb hby d2_78) rfl (jc_le_t c78_63) (by decide) (by decide) ?_
                  show Steps p.tables e below (T62.setTop (mkF m 99 #[.val (.ref a0), .val (.int p1), .val (.long q2), .second, .val (.long q3), .second] [])) _
                  refine XS.iconst X62.here hx rfl (hb hby d2_99) ?_
                  exact kt
                exact J38 _ (0 : Int32) (((if_neg c41_39).trans (if_neg c60_55)).trans (if_neg c78_63)).symm X62 e62
        intro T38 v38_s0 hv38_s0 X38 e38
        subst hv38_s0
        refine Gl.retN X38 hx hlk (t := .boolean) Bd.returns (by simp) (hb hby d2_100) (w := (if (0 : Int64) < pe then (if (p1.toInt64) < pe then (if (0 : Int64) < to then (if q2 < to then (if (0 : Int64) < ex then (if q3 < (ex * (1000000000 : Int64)) then (0 : Int32) else (1 : Int32)) else (0 : Int32)) else (1 : Int32)) else (if (0 : Int64) < ex then (if q3 < (ex * (1000000000 : Int64)) then (0 : Int32) else (1 : Int32)) else (0 : Int32))) else (1 : Int32)) else (if (0 : Int64) < to then (if q2 < to then (if (0 : Int64) < ex then (if q3 < (ex * (1000000000 : Int64)) then (0 : Int32) else (1 : Int32)) else (0 : Int32)) else (1 : Int32)) else (if (0 : Int64) < ex then (if q3 < (ex * (1000000000 : Int64)) then (0 : Int32) else (1 : Int32)) else (0 : Int32))))) (nar_b01 (b01_ite (b01_ite (b01_ite (b01_ite (b01_ite (b01_ite (Or.inl rfl) (Or.inr rfl)) (Or.inl rfl)) (Or.inr rfl)) (b01_ite (b01_ite (Or.inl rfl) (Or.inr rfl)) (Or.inl rfl))) (Or.inr rfl)) (b01_ite (b01_ite (b01_ite (b01_ite (Or.inl rfl) (Or.inr rfl)) (Or.inl rfl)) (Or.inr rfl)) (b01_ite (b01_ite (Or.inl rfl) (Or.inr rfl)) (Or.inl rfl))))) ?_ (by decide) (by decide)
        exact ⟨congrArg (fun z => some (Value.int z)) (show (if (0 : Int64) < pe then (if (p1.toInt64) < pe then (if (0 : Int64) < to then (if q2 < to then (if (0 : Int64) < ex then (if q3 < (ex * (1000000000 : Int64)) then (0 : Int32) else (1 : Int32)) else (0 : Int32)) else (1 : Int32)) else (if (0 : Int64) < ex then (if q3 < (ex * (1000000000 : Int64)) then (0 : Int32) else (1 : Int32)) else (0 : Int32))) else (1 : Int32)) else (if (0 : Int64) < to then (if q2 < to then (if (0 : Int64) < ex then (if q3 < (ex * (1000000000 : Int64)) then (0 : Int32) else (1 : Int32)) else (0 : Int32)) else (1 : Int32)) else (if (0 : Int64) < ex then (if q3 < (ex * (1000000000 : Int64)) then (0 : Int32) else (1 : Int32)) else (0 : Int32)))) = f2 p1 q2 q3 pe to ex from (((if_neg c1_1).trans (if_pos c12_3)).trans (if_neg c21_5)).symm), rfl, e38⟩
    · refine Gl.up (B := T2.setTop (mkF m 36 #[.val (.ref a0), .val (.int p1), .val (.long q2), .second, .val (.long q3), .second] [(.ref a0)])) (fun t kt => ?_) ?_
      · show Steps p.tables e below (T2.setTop (mkF m 12 #[.val (.ref a0), .val (.int p1), .val (.long q2), .second, .val (.long q3), .second] [(.int (lcmpW pe (0 : Int64)))])) _
        refine XS.ifYes X2.here hx rfl (pc0 := 12) (pc' := 35) rfl (hb hby d2_12) rfl (jc_ne_t c12_3) (by decide) (by decide) ?_
        show Steps p.tables e below (T2.setTop (mkF m 35 #[.val (.ref a0), .val (.int p1), .val (.long q2), .second, .val (.long q3), .second] [])) _
        refine XS.aloadN X2.here hx rfl (hb hby d2_35) rfl rfl ?_
        exact kt
      obtain ⟨T66, X66, e66, st66⟩ := getF X2 hx hZ hown (host := "") (Or.inl (hw _ (List.mem_of_getElem? (i := 28) rfl))) Via.refl e2 F_a0_pending (g := (mkF m 36 #[.val (.ref a0), .val (.int p1), .val (.long q2), .second, .val (.long q3), .second] [(.ref a0)])) rfl rfl (hb hby d2_36)
      refine Gl.up (B := T66.setTop (mkF m 39 #[.val (.ref a0), .val (.int p1), .val (.long q2), .second, .val (.long q3), .second] [(.long pe)])) (fun t kt => st66 _ kt) ?_
      refine Gl.up (B := T66.setTop (mkF m 41 #[.val (.ref a0), .val (.int p1), .val (.long q2), .second, .val (.long q3), .second] [(.int (lcmpW pe (0 : Int64)))])) (fun t kt => ?_) ?_
      · show Steps p.tables e below (T66.setTop (mkF m 39 #[.val (.ref a0), .val (.int p1), .val (.long q2), .second, .val (.long q3), .second] [(.long pe)])) _
        refine XS.lconst X66.here hx rfl (hb hby d2_39) ?_
        show Steps p.tables e below (T66.setTop (mkF m 40 #[.val (.ref a0), .val (.int p1), .val (.long q2), .second, .val (.long q3), .second] [(.long (0 : Int64)), (.long pe)])) _
        refine XS.lcmp X66.here hx rfl (hb hby d2_40) rfl ?_
        exact kt
      suffices J67 : ∀ (T67 : State) (v67_s0 : Int32), v67_s0 = (if (0 : Int64) < pe then (if (p1.toInt64) < pe then (if (0 : Int64) < to then (if q2 < to then (if (0 : Int64) < ex then (if q3 < (ex * (1000000000 : Int64)) then (0 : Int32) else (1 : Int32)) else (0 : Int32)) else (1 : Int32)) else (if (0 : Int64) < ex then (if q3 < (ex * (1000000000 : Int64)) then (0 : Int32) else (1 : Int32)) else (0 : Int32))) else (1 : Int32)) else (if (0 : Int64) < to then (if q2 < to then (if (0 : Int64) < ex then (if q3 < (ex * (1000000000 : Int64)) then (0 : Int32) else (1 : Int32)) else (0 : Int32)) else (1 : Int32)) else (if (0 : Int64) < ex then (if q3 < (ex * (1000000000 : Int64)) then (0 : Int32) else (1 : Int32)) else (0 : Int32)))) → Stand p l e ({ frames := 0, cells := 0, slots := 0, locals := 0 } : Room) s m args below meth c T67 [] 0 0 → T67.heap = h0 → Gl p e below (Ret s 0 0 (Q2 Z a0 p1 q2 q3 pe to ex h0 n0)) (T67.setTop (mkF m 100 #[.val (.ref a0), .val (.int p1), .val (.long q2), .second, .val (.long q3), .second] [(.int v67_s0)])) by
        by_cases c41_68 : (0 : Int64) < pe
        · refine Gl.up (B := T66.setTop (mkF m 47 #[.val (.ref a0), .val (.int p1), .val (.long q2), .second, .val (.long q3), .second] [(.ref a0), (.long (p1.toInt64))])) (fun t kt => ?_) ?_
          · show Steps p.tables e below (T66.setTop (mkF m 41 #[.val (.ref a0), .val (.int p1), .val (.long q2), .second, .val (.long q3), .second] [(.int (lcmpW pe (0 : Int64)))])) _
            refine XS.ifNo X66.here hx rfl (hb hby d2_41) rfl (jc_le_f c41_68) ?_
            show Steps p.tables e below (T66.setTop (mkF m 44 #[.val (.ref a0), .val (.int p1), .val (.long q2), .second, .val (.long q3), .second] [])) _
            refine XS.iloadN X66.here hx rfl (hb hby d2_44) rfl ?_
            show Steps p.tables e below (T66.setTop (mkF m 45 #[.val (.ref a0), .val (.int p1), .val (.long q2), .second, .val (.long q3), .second] [(.int p1)])) _
            refine XS.i2l X66.here hx rfl (hb hby d2_45) rfl ?_
            show Steps p.tables e below (T66.setTop (mkF m 46 #[.val (.ref a0), .val (.int p1), .val (.long q2), .second, .val (.long q3), .second] [(.long (p1.toInt64))])) _
            refine XS.aloadN X66.here hx rfl (hb hby d2_46) rfl rfl ?_
            exact kt
          obtain ⟨T69, X69, e69, st69⟩ := getF X66 hx hZ hown (host := "") (Or.inl (hw _ (List.mem_of_getElem? (i := 28) rfl))) Via.refl e66 F_a0_pending (g := (mkF m 47 #[.val (.ref a0), .val (.int p1), .val (.long q2), .second, .val (.long q3), .second] [(.ref a0), (.long (p1.toInt64))])) rfl rfl (hb hby d2_47)
          refine Gl.up (B := T69.setTop (mkF m 50 #[.val (.ref a0), .val (.int p1), .val (.long q2), .second, .val (.long q3), .second] [(.long pe), (.long (p1.toInt64))])) (fun t kt => st69 _ kt) ?_
          refine Gl.up (B := T69.setTop (mkF m 51 #[.val (.ref a0), .val (.int p1), .val (.long q2), .second, .val (.long q3), .second] [(.int (lcmpW (p1.toInt64) pe))])) (fun t kt => ?_) ?_
          · show Steps p.tables e below (T69.setTop (mkF m 50 #[.val (.ref a0), .val (.int p1), .val (.long q2), .second, .val (.long q3), .second] [(.long pe), (.long (p1.toInt64))])) _
            refine XS.lcmp X69.here hx rfl (hb hby d2_50) rfl ?_
            exact kt
          by_cases c51_70 : (p1.toInt64) < pe
          · refine Gl.up (B := T69.setTop (mkF m 55 #[.val (.ref a0), .val (.int p1), .val (.long q2), .second, .val (.long q3), .second] [(.ref a0)])) (fun t kt => ?_) ?_
            · show Steps p.tables e below (T69.setTop (mkF m 51 #[.val (.ref a0), .val (.int p1), .val (.long q2), .second, .val (.long q3), .second] [(.int (lcmpW (p1.toInt64) pe))])) _
              refine XS.ifNo X69.here hx rfl (hb hby d2_51) rfl (jc_ge_f c51_70) ?_
              show Steps p.tables e below (T69.setTop (mkF m 54 #[.val (.ref a0), .val (.int p1), .val (.long q2), .second, .val (.long q3), .second] [])) _
              refine XS.aloadN X69.here hx rfl (hb hby d2_54) rfl rfl ?_
              exact kt
            obtain ⟨T71, X71, e71, st71⟩ := getF X69 hx hZ hown (host := "") (Or.inl (hw _ (List.mem_of_getElem? (i := 30) rfl))) Via.refl e69 F_a0_total (g := (mkF m 55 #[.val (.ref a0), .val (.int p1), .val (.long q2), .second, .val (.long q3), .second] [(.ref a0)])) rfl rfl (hb hby d2_55)
            refine Gl.up (B := T71.setTop (mkF m 58 #[.val (.ref a0), .val (.int p1), .val (.long q2), .second, .val (.long q3), .second] [(.long to)])) (fun t kt => st71 _ kt) ?_
            refine Gl.up (B := T71.setTop (mkF m 60 #[.val (.ref a0), .val (.int p1), .val (.long q2), .second, .val (.long q3), .second] [(.int (lcmpW to (0 : Int64)))])) (fun t kt => ?_) ?_
            · show Steps p.tables e below (T71.setTop (mkF m 58 #[.val (.ref a0), .val (.int p1), .val (.long q2), .second, .val (.long q3), .second] [(.long to)])) _
              refine XS.lconst X71.here hx rfl (hb hby d2_58) ?_
              show Steps p.tables e below (T71.setTop (mkF m 59 #[.val (.ref a0), .val (.int p1), .val (.long q2), .second, .val (.long q3), .second] [(.long (0 : Int64)), (.long to)])) _
              refine XS.lcmp X71.here hx rfl (hb hby d2_59) rfl ?_
              exact kt
            by_cases c60_72 : (0 : Int64) < to
            · refine Gl.up (B := T71.setTop (mkF m 65 #[.val (.ref a0), .val (.int p1), .val (.long q2), .second, .val (.long q3), .second] [(.ref a0), (.long q2)])) (fun t kt => ?_) ?_
              · show Steps p.tables e below (T71.setTop (mkF m 60 #[.val (.ref a0), .val (.int p1), .val (.long q2), .second, .val (.long q3), .second] [(.int (lcmpW to (0 : Int64)))])) _
                refine XS.ifNo X71.here hx rfl (hb hby d2_60) rfl (jc_le_f c60_72) ?_
                show Steps p.tables e below (T71.setTop (mkF m 63 #[.val (.ref a0), .val (.int p1), .val (.long q2), .second, .val (.long q3), .second] [])) _
                refine XS.lloadN X71.here hx rfl (hb hby d2_63) rfl ?_
                show Steps p.tables e below (T71.setTop (mkF m 64 #[.val (.ref a0), .val (.int p1), .val (.long q2), .second, .val (.long q3), .second] [(.long q2)])) _
                refine XS.aloadN X71.here hx rfl (hb hby d2_64) rfl rfl ?_
                exact kt
              obtain ⟨T73, X73, e73, st73⟩ := getF X71 hx hZ hown (host := "") (Or.inl (hw _ (List.mem_of_getElem? (i := 30) rfl))) Via.refl e71 F_a0_total (g := (mkF m 65 #[.val (.ref a0), .val (.int p1), .val (.long q2), .second, .val (.long q3), .second] [(.ref a0), (.long q2)])) rfl rfl (hb hby d2_65)
              refine Gl.up (B := T73.setTop (mkF m 68 #[.val (.ref a0), .val (.int p1), .val (.long q2), .second, .val (.long q3), .second] [(.long to), (.long q2)])) (fun t kt => st73 _ kt) ?_
              refine Gl.up (B := T73.setTop (mkF m 69 #[.val (.ref a0), .val (.int p1), .val (.long q2), .second, .val (.long q3), .second] [(.int (lcmpW q2 to))])) (fun t kt => ?_) ?_
              · show Steps p.tables e below (T73.setTop (mkF m 68 #[.val (.ref a0), .val (.int p1), .val (.long q2), .second, .val (.long q3), .second] [(.long to), (.long q2)])) _
                refine XS.lcmp X73.here hx rfl (hb hby d2_68) rfl ?_
                exact kt
              by_cases c69_74 : q2 < to
              · refine Gl.up (B := T73.setTop (mkF m 73 #[.val (.ref a0), .val (.int p1), .val (.long q2), .second, .val (.long q3), .second] [(.ref a0)])) (fun t kt => ?_) ?_
                · show Steps p.tables e below (T73.setTop (mkF m 69 #[.val (.ref a0), .val (.int p1), .val (.long q2), .second, .val (.long q3), .second] [(.int (lcmpW q2 to))])) _
                  refine XS.ifNo X73.here hx rfl (hb hby d2_69) rfl (jc_ge_f c69_74) ?_
                  show Steps p.tables e below (T73.setTop (mkF m 72 #[.val (.ref a0), .val (.int p1), .val (.long q2), .second, .val (.long q3), .second] [])) _
                  refine XS.aloadN X73.here hx rfl (hb hby d2_72) rfl rfl ?_
                  exact kt
                obtain ⟨T75, X75, e75, st75⟩ := getF X73 hx hZ hown (host := "") (Or.inl (hw _ (List.mem_of_getElem? (i := 32) rfl))) Via.refl e73 F_a0_expireSeconds (g := (mkF m 73 #[.val (.ref a0), .val (.int p1), .val (.long q2), .second, .val (.long q3), .second] [(.ref a0)])) rfl rfl (hb hby d2_73)
                refine Gl.up (B := T75.setTop (mkF m 76 #[.val (.ref a0), .val (.int p1), .val (.long q2), .second, .val (.long q3), .second] [(.long ex)])) (fun t kt => st75 _ kt) ?_
                refine Gl.up (B := T75.setTop (mkF m 78 #[.val (.ref a0), .val (.int p1), .val (.long q2), .second, .val (.long q3), .second] [(.int (lcmpW ex (0 : Int64)))])) (fun t kt => ?_) ?_
                · show Steps p.tables e below (T75.setTop (mkF m 76 #[.val (.ref a0), .val (.int p1), .val (.long q2), .second, .val (.long q3), .second] [(.long ex)])) _
                  refine XS.lconst X75.here hx rfl (hb hby d2_76) ?_
                  show Steps p.tables e below (T75.setTop (mkF m 77 #[.val (.ref a0), .val (.int p1), .val (.long q2), .second, .val (.long q3), .second] [(.long (0 : Int64)), (.long ex)])) _
                  refine XS.lcmp X75.here hx rfl (hb hby d2_77) rfl ?_
                  exact kt
                by_cases c78_76 : (0 : Int64) < ex
                · refine Gl.up (B := T75.setTop (mkF m 84 #[.val (.ref a0), .val (.int p1), .val (.long q2), .second, .val (.long q3), .second] [(.ref a0), (.long q3)])) (fun t kt => ?_) ?_
                  · show Steps p.tables e below (T75.setTop (mkF m 78 #[.val (.ref a0), .val (.int p1), .val (.long q2), .second, .val (.long q3), .second] [(.int (lcmpW ex (0 : Int64)))])) _
                    refine XS.ifNo X75.here hx rfl (hb hby d2_78) rfl (jc_le_f c78_76) ?_
                    show Steps p.tables e below (T75.setTop (mkF m 81 #[.val (.ref a0), .val (.int p1), .val (.long q2), .second, .val (.long q3), .second] [])) _
                    refine XS.lload X75.here hx rfl (hb hby d2_81) rfl ?_
                    show Steps p.tables e below (T75.setTop (mkF m 83 #[.val (.ref a0), .val (.int p1), .val (.long q2), .second, .val (.long q3), .second] [(.long q3)])) _
                    refine XS.aloadN X75.here hx rfl (hb hby d2_83) rfl rfl ?_
                    exact kt
                  obtain ⟨T77, X77, e77, st77⟩ := getF X75 hx hZ hown (host := "") (Or.inl (hw _ (List.mem_of_getElem? (i := 32) rfl))) Via.refl e75 F_a0_expireSeconds (g := (mkF m 84 #[.val (.ref a0), .val (.int p1), .val (.long q2), .second, .val (.long q3), .second] [(.ref a0), (.long q3)])) rfl rfl (hb hby d2_84)
                  refine Gl.up (B := T77.setTop (mkF m 87 #[.val (.ref a0), .val (.int p1), .val (.long q2), .second, .val (.long q3), .second] [(.long ex), (.long q3)])) (fun t kt => st77 _ kt) ?_
                  refine Gl.up (B := T77.setTop (mkF m 92 #[.val (.ref a0), .val (.int p1), .val (.long q2), .second, .val (.long q3), .second] [(.int (lcmpW q3 (ex * (1000000000 : Int64))))])) (fun t kt => ?_) ?_
                  · show Steps p.tables e below (T77.setTop (mkF m 87 #[.val (.ref a0), .val (.int p1), .val (.long q2), .second, .val (.long q3), .second] [(.long ex), (.long q3)])) _
                    refine X77.ldc2Long hx hown (mvT hZ (hw _ (List.mem_of_getElem? (i := 40) rfl))) (g := (mkF m 87 #[.val (.ref a0), .val (.int p1), .val (.long q2), .second, .val (.long q3), .second] [(.long ex), (.long q3)])) rfl (hb hby d2_87) _ ?_
                    show Steps p.tables e below (T77.setTop (mkF m 90 #[.val (.ref a0), .val (.int p1), .val (.long q2), .second, .val (.long q3), .second] [(.long (1000000000 : Int64)), (.long ex), (.long q3)])) _
                    refine XS.lmul X77.here hx rfl (hb hby d2_90) rfl ?_
                    show Steps p.tables e below (T77.setTop (mkF m 91 #[.val (.ref a0), .val (.int p1), .val (.long q2), .second, .val (.long q3), .second] [(.long (ex * (1000000000 : Int64))), (.long q3)])) _
                    refine XS.lcmp X77.here hx rfl (hb hby d2_91) rfl ?_
                    exact kt
                  by_cases c92_78 : q3 < (ex * (1000000000 : Int64))
                  · refine Gl.up (B := T77.setTop (mkF m 100 #[.val (.ref a0), .val (.int p1), .val (.long q2), .second, .val (.long q3), .second] [(.int (0 : Int32))])) (fun t kt => ?_) ?_
                    · show Steps p.tables e below (T77.setTop (mkF m 92 #[.val (.ref a0), .val (.int p1), .val (.long q2), .second, .val (.long q3), .second] [(.int (lcmpW q3 (ex * (1000000000 : Int64))))])) _
                      refine XS.ifYes X77.here hx rfl (pc0 := 92) (pc' := 99) rfl (hb hby d2_92) rfl (jc_lt_t c92_78) (by decide) (by decide) ?_
                      show Steps p.tables e below (T77.setTop (mkF m 99 #[.val (.ref a0), .val (.int p1), .val (.long q2), .second, .val (.long q3), .second] [])) _
                      refine XS.iconst X77.here hx rfl (hb hby d2_99) ?_
                      exact kt
                    exact J67 _ (0 : Int32) ((((((if_pos c41_68).trans (if_pos c51_70)).trans (if_pos c60_72)).trans (if_pos c69_74)).trans (if_pos c78_76)).trans (if_pos c92_78)).symm X77 e77
                  · refine Gl.up (B := T77.setTop (mkF m 100 #[.val (.ref a0), .val (.int p1), .val (.long q2), .second, .val (.long q3), .second] [(.int (1 : Int32))])) (fun t kt => ?_) ?_
                    · show Steps p.tables e below (T77.setTop (mkF m 92 #[.val (.ref a0), .val (.int p1), .val (.long q2), .second, .val (.long q3), .second] [(.int (lcmpW q3 (ex * (1000000000 : Int64))))])) _
                      refine XS.ifNo X77.here hx rfl (hb hby d2_92) rfl (jc_lt_f c92_78) ?_
                      show Steps p.tables e below (T77.setTop (mkF m 95 #[.val (.ref a0), .val (.int p1), .val (.long q2), .second, .val (.long q3), .second] [])) _
                      refine XS.iconst X77.here hx rfl (hb hby d2_95) ?_
                      show Steps p.tables e below (T77.setTop (mkF m 96 #[.val (.ref a0), .val (.int p1), .val (.long q2), .second, .val (.long q3), .second] [(.int (1 : Int32))])) _
                      refine XS.goto X77.here hx rfl (pc0 := 96) (pc' := 100) rfl (hb hby d2_96) (by decide) (by decide) ?_
                      exact kt
                    exact J67 _ (1 : Int32) ((((((if_pos c41_68).trans (if_pos c51_70)).trans (if_pos c60_72)).trans (if_pos c69_74)).trans (if_pos c78_76)).trans (if_neg c92_78)).symm X77 e77
                · refine Gl.up (B := T75.setTop (mkF m 100 #[.val (.ref a0), .val (.int p1), .val (.long q2), .second, .val (.long q3), .second] [(.int (0 : Int32))])) (fun t kt => ?_) ?_
                  · show Steps p.tables e below (T75.setTop (mkF m 78 #[.val (.ref a0), .val (.int p1), .val (.long q2), .second, .val (.long q3), .second] [(.int (lcmpW ex (0 : Int64)))])) _
                    refine XS.ifYes X75.here hx rfl (pc0 := 78) (pc' := 99) rfl (hb hby d2_78) rfl (jc_le_t c78_76) (by decide) (by decide) ?_
                    show Steps p.tables e below (T75.setTop (mkF m 99 #[.val (.ref a0), .val (.int p1), .val (.long q2), .second, .val (.long q3), .second] [])) _
                    refine XS.iconst X75.here hx rfl (hb hby d2_99) ?_
                    exact kt
                  exact J67 _ (0 : Int32) (((((if_pos c41_68).trans (if_pos c51_70)).trans (if_pos c60_72)).trans (if_pos c69_74)).trans (if_neg c78_76)).symm X75 e75
              · refine Gl.up (B := T73.setTop (mkF m 100 #[.val (.ref a0), .val (.int p1), .val (.long q2), .second, .val (.long q3), .second] [(.int (1 : Int32))])) (fun t kt => ?_) ?_
                · show Steps p.tables e below (T73.setTop (mkF m 69 #[.val (.ref a0), .val (.int p1), .val (.long q2), .second, .val (.long q3), .second] [(.int (lcmpW q2 to))])) _
                  refine XS.ifYes X73.here hx rfl (pc0 := 69) (pc' := 95) rfl (hb hby d2_69) rfl (jc_ge_t c69_74) (by decide) (by decide) ?_
                  show Steps p.tables e below (T73.setTop (mkF m 95 #[.val (.ref a0), .val (.int p1), .val (.long q2), .second, .val (.long q3), .second] [])) _
                  refine XS.iconst X73.here hx rfl (hb hby d2_95) ?_
                  show Steps p.tables e below (T73.setTop (mkF m 96 #[.val (.ref a0), .val (.int p1), .val (.long q2), .second, .val (.long q3), .second] [(.int (1 : Int32))])) _
                  refine XS.goto X73.here hx rfl (pc0 := 96) (pc' := 100) rfl (hb hby d2_96) (by decide) (by decide) ?_
                  exact kt
                exact J67 _ (1 : Int32) ((((if_pos c41_68).trans (if_pos c51_70)).trans (if_pos c60_72)).trans (if_neg c69_74)).symm X73 e73
            · refine Gl.up (B := T71.setTop (mkF m 73 #[.val (.ref a0), .val (.int p1), .val (.long q2), .second, .val (.long q3), .second] [(.ref a0)])) (fun t kt => ?_) ?_
              · show Steps p.tables e below (T71.setTop (mkF m 60 #[.val (.ref a0), .val (.int p1), .val (.long q2), .second, .val (.long q3), .second] [(.int (lcmpW to (0 : Int64)))])) _
                refine XS.ifYes X71.here hx rfl (pc0 := 60) (pc' := 72) rfl (hb hby d2_60) rfl (jc_le_t c60_72) (by decide) (by decide) ?_
                show Steps p.tables e below (T71.setTop (mkF m 72 #[.val (.ref a0), .val (.int p1), .val (.long q2), .second, .val (.long q3), .second] [])) _
                refine XS.aloadN X71.here hx rfl (hb hby d2_72) rfl rfl ?_
                exact kt
              obtain ⟨T79, X79, e79, st79⟩ := getF X71 hx hZ hown (host := "") (Or.inl (hw _ (List.mem_of_getElem? (i := 32) rfl))) Via.refl e71 F_a0_expireSeconds (g := (mkF m 73 #[.val (.ref a0), .val (.int p1), .val (.long q2), .second, .val (.long q3), .second] [(.ref a0)])) rfl rfl (hb hby d2_73)
              refine Gl.up (B := T79.setTop (mkF m 76 #[.val (.ref a0), .val (.int p1), .val (.long q2), .second, .val (.long q3), .second] [(.long ex)])) (fun t kt => st79 _ kt) ?_
              refine Gl.up (B := T79.setTop (mkF m 78 #[.val (.ref a0), .val (.int p1), .val (.long q2), .second, .val (.long q3), .second] [(.int (lcmpW ex (0 : Int64)))])) (fun t kt => ?_) ?_
              · show Steps p.tables e below (T79.setTop (mkF m 76 #[.val (.ref a0), .val (.int p1), .val (.long q2), .second, .val (.long q3), .second] [(.long ex)])) _
                refine XS.lconst X79.here hx rfl (hb hby d2_76) ?_
                show Steps p.tables e below (T79.setTop (mkF m 77 #[.val (.ref a0), .val (.int p1), .val (.long q2), .second, .val (.long q3), .second] [(.long (0 : Int64)), (.long ex)])) _
                refine XS.lcmp X79.here hx rfl (hb hby d2_77) rfl ?_
                exact kt
              by_cases c78_80 : (0 : Int64) < ex
              · refine Gl.up (B := T79.setTop (mkF m 84 #[.val (.ref a0), .val (.int p1), .val (.long q2), .second, .val (.long q3), .second] [(.ref a0), (.long q3)])) (fun t kt => ?_) ?_
                · show Steps p.tables e below (T79.setTop (mkF m 78 #[.val (.ref a0), .val (.int p1), .val (.long q2), .second, .val (.long q3), .second] [(.int (lcmpW ex (0 : Int64)))])) _
                  refine XS.ifNo X79.here hx rfl (hb hby d2_78) rfl (jc_le_f c78_80) ?_
                  show Steps p.tables e below (T79.setTop (mkF m 81 #[.val (.ref a0), .val (.int p1), .val (.long q2), .second, .val (.long q3), .second] [])) _
                  refine XS.lload X79.here hx rfl (hb hby d2_81) rfl ?_
                  show Steps p.tables e below (T79.setTop (mkF m 83 #[.val (.ref a0), .val (.int p1), .val (.long q2), .second, .val (.long q3), .second] [(.long q3)])) _
                  refine XS.aloadN X79.here hx rfl (hb hby d2_83) rfl rfl ?_
                  exact kt
                obtain ⟨T81, X81, e81, st81⟩ := getF X79 hx hZ hown (host := "") (Or.inl (hw _ (List.mem_of_getElem? (i := 32) rfl))) Via.refl e79 F_a0_expireSeconds (g := (mkF m 84 #[.val (.ref a0), .val (.int p1), .val (.long q2), .second, .val (.long q3), .second] [(.ref a0), (.long q3)])) rfl rfl (hb hby d2_84)
                refine Gl.up (B := T81.setTop (mkF m 87 #[.val (.ref a0), .val (.int p1), .val (.long q2), .second, .val (.long q3), .second] [(.long ex), (.long q3)])) (fun t kt => st81 _ kt) ?_
                refine Gl.up (B := T81.setTop (mkF m 92 #[.val (.ref a0), .val (.int p1), .val (.long q2), .second, .val (.long q3), .second] [(.int (lcmpW q3 (ex * (1000000000 : Int64))))])) (fun t kt => ?_) ?_
                · show Steps p.tables e below (T81.setTop (mkF m 87 #[.val (.ref a0), .val (.int p1), .val (.long q2), .second, .val (.long q3), .second] [(.long ex), (.long q3)])) _
                  refine X81.ldc2Long hx hown (mvT hZ (hw _ (List.mem_of_getElem? (i := 40) rfl))) (g := (mkF m 87 #[.val (.ref a0), .val (.int p1), .val (.long q2), .second, .val (.long q3), .second] [(.long ex), (.long q3)])) rfl (hb hby d2_87) _ ?_
                  show Steps p.tables e below (T81.setTop (mkF m 90 #[.val (.ref a0), .val (.int p1), .val (.long q2), .second, .val (.long q3), .second] [(.long (1000000000 : Int64)), (.long ex), (.long q3)])) _
                  refine XS.lmul X81.here hx rfl (hb hby d2_90) rfl ?_
                  show Steps p.tables e below (T81.setTop (mkF m 91 #[.val (.ref a0), .val (.int p1), .val (.long q2), .second, .val (.long q3), .second] [(.long (ex * (1000000000 : Int64))), (.long q3)])) _
                  refine XS.lcmp X81.here hx rfl (hb hby d2_91) rfl ?_
                  exact kt
                by_cases c92_82 : q3 < (ex * (1000000000 : Int64))
                · refine Gl.up (B := T81.setTop (mkF m 100 #[.val (.ref a0), .val (.int p1), .val (.long q2), .second, .val (.long q3), .second] [(.int (0 : Int32))])) (fun t kt => ?_) ?_
                  · show Steps p.tables e below (T81.setTop (mkF m 92 #[.val (.ref a0), .val (.int p1), .val (.long q2), .second, .val (.long q3), .second] [(.int (lcmpW q3 (ex * (1000000000 : Int64))))])) _
                    refine XS.ifYes X81.here hx rfl (pc0 := 92) (pc' := 99) rfl (hb hby d2_92) rfl (jc_lt_t c92_82) (by decide) (by decide) ?_
                    show Steps p.tables e below (T81.setTop (mkF m 99 #[.val (.ref a0), .val (.int p1), .val (.long q2), .second, .val (.long q3), .second] [])) _
                    refine XS.iconst X81.here hx rfl (hb hby d2_99) ?_
                    exact kt
                  exact J67 _ (0 : Int32) (((((if_pos c41_68).trans (if_pos c51_70)).trans (if_neg c60_72)).trans (if_pos c78_80)).trans (if_pos c92_82)).symm X81 e81
                · refine Gl.up (B := T81.setTop (mkF m 100 #[.val (.ref a0), .val (.int p1), .val (.long q2), .second, .val (.long q3), .second] [(.int (1 : Int32))])) (fun t kt => ?_) ?_
                  · show Steps p.tables e below (T81.setTop (mkF m 92 #[.val (.ref a0), .val (.int p1), .val (.long q2), .second, .val (.long q3), .second] [(.int (lcmpW q3 (ex * (1000000000 : Int64))))])) _
                    refine XS.ifNo X81.here hx rfl (hb hby d2_92) rfl (jc_lt_f c92_82) ?_
                    show Steps p.tables e below (T81.setTop (mkF m 95 #[.val (.ref a0), .val (.int p1), .val (.long q2), .second, .val (.long q3), .second] [])) _
                    refine XS.iconst X81.here hx rfl (hb hby d2_95) ?_
                    show Steps p.tables e below (T81.setTop (mkF m 96 #[.val (.ref a0), .val (.int p1), .val (.long q2), .second, .val (.long q3), .second] [(.int (1 : Int32))])) _
                    refine XS.goto X81.here hx rfl (pc0 := 96) (pc' := 100) rfl (hb hby d2_96) (by decide) (by decide) ?_
                    exact kt
                  exact J67 _ (1 : Int32) (((((if_pos c41_68).trans (if_pos c51_70)).trans (if_neg c60_72)).trans (if_pos c78_80)).trans (if_neg c92_82)).symm X81 e81
              · refine Gl.up (B := T79.setTop (mkF m 100 #[.val (.ref a0), .val (.int p1), .val (.long q2), .second, .val (.long q3), .second] [(.int (0 : Int32))])) (fun t kt => ?_) ?_
                · show Steps p.tables e below (T79.setTop (mkF m 78 #[.val (.ref a0), .val (.int p1), .val (.long q2), .second, .val (.long q3), .second] [(.int (lcmpW ex (0 : Int64)))])) _
                  refine XS.ifYes X79.here hx rfl (pc0 := 78) (pc' := 99) rfl (hb hby d2_78) rfl (jc_le_t c78_80) (by decide) (by decide) ?_
                  show Steps p.tables e below (T79.setTop (mkF m 99 #[.val (.ref a0), .val (.int p1), .val (.long q2), .second, .val (.long q3), .second] [])) _
                  refine XS.iconst X79.here hx rfl (hb hby d2_99) ?_
                  exact kt
                exact J67 _ (0 : Int32) ((((if_pos c41_68).trans (if_pos c51_70)).trans (if_neg c60_72)).trans (if_neg c78_80)).symm X79 e79
          · refine Gl.up (B := T69.setTop (mkF m 100 #[.val (.ref a0), .val (.int p1), .val (.long q2), .second, .val (.long q3), .second] [(.int (1 : Int32))])) (fun t kt => ?_) ?_
            · show Steps p.tables e below (T69.setTop (mkF m 51 #[.val (.ref a0), .val (.int p1), .val (.long q2), .second, .val (.long q3), .second] [(.int (lcmpW (p1.toInt64) pe))])) _
              refine XS.ifYes X69.here hx rfl (pc0 := 51) (pc' := 95) rfl (hb hby d2_51) rfl (jc_ge_t c51_70) (by decide) (by decide) ?_
              show Steps p.tables e below (T69.setTop (mkF m 95 #[.val (.ref a0), .val (.int p1), .val (.long q2), .second, .val (.long q3), .second] [])) _
              refine XS.iconst X69.here hx rfl (hb hby d2_95) ?_
              show Steps p.tables e below (T69.setTop (mkF m 96 #[.val (.ref a0), .val (.int p1), .val (.long q2), .second, .val (.long q3), .second] [(.int (1 : Int32))])) _
              refine XS.goto X69.here hx rfl (pc0 := 96) (pc' := 100) rfl (hb hby d2_96) (by decide) (by decide) ?_
              exact kt
            exact J67 _ (1 : Int32) ((if_pos c41_68).trans (if_neg c51_70)).symm X69 e69
        · refine Gl.up (B := T66.setTop (mkF m 55 #[.val (.ref a0), .val (.int p1), .val (.long q2), .second, .val (.long q3), .second] [(.ref a0)])) (fun t kt => ?_) ?_
          · show Steps p.tables e below (T66.setTop (mkF m 41 #[.val (.ref a0), .val (.int p1), .val (.long q2), .second, .val (.long q3), .second] [(.int (lcmpW pe (0 : Int64)))])) _
            refine XS.ifYes X66.here hx rfl (pc0 := 41) (pc' := 54) rfl (hb hby d2_41) rfl (jc_le_t c41_68) (by decide) (by decide) ?_
            show Steps p.tables e below (T66.setTop (mkF m 54 #[.val (.ref a0), .val (.int p1), .val (.long q2), .second, .val (.long q3), .second] [])) _
            refine XS.aloadN X66.here hx rfl (hb hby d2_54) rfl rfl ?_
            exact kt
          obtain ⟨T83, X83, e83, st83⟩ := getF X66 hx hZ hown (host := "") (Or.inl (hw _ (List.mem_of_getElem? (i := 30) rfl))) Via.refl e66 F_a0_total (g := (mkF m 55 #[.val (.ref a0), .val (.int p1), .val (.long q2), .second, .val (.long q3), .second] [(.ref a0)])) rfl rfl (hb hby d2_55)
          refine Gl.up (B := T83.setTop (mkF m 58 #[.val (.ref a0), .val (.int p1), .val (.long q2), .second, .val (.long q3), .second] [(.long to)])) (fun t kt => st83 _ kt) ?_
          refine Gl.up (B := T83.setTop (mkF m 60 #[.val (.ref a0), .val (.int p1), .val (.long q2), .second, .val (.long q3), .second] [(.int (lcmpW to (0 : Int64)))])) (fun t kt => ?_) ?_
          · show Steps p.tables e below (T83.setTop (mkF m 58 #[.val (.ref a0), .val (.int p1), .val (.long q2), .second, .val (.long q3), .second] [(.long to)])) _
            refine XS.lconst X83.here hx rfl (hb hby d2_58) ?_
            show Steps p.tables e below (T83.setTop (mkF m 59 #[.val (.ref a0), .val (.int p1), .val (.long q2), .second, .val (.long q3), .second] [(.long (0 : Int64)), (.long to)])) _
            refine XS.lcmp X83.here hx rfl (hb hby d2_59) rfl ?_
            exact kt
          by_cases c60_84 : (0 : Int64) < to
          · refine Gl.up (B := T83.setTop (mkF m 65 #[.val (.ref a0), .val (.int p1), .val (.long q2), .second, .val (.long q3), .second] [(.ref a0), (.long q2)])) (fun t kt => ?_) ?_
            · show Steps p.tables e below (T83.setTop (mkF m 60 #[.val (.ref a0), .val (.int p1), .val (.long q2), .second, .val (.long q3), .second] [(.int (lcmpW to (0 : Int64)))])) _
              refine XS.ifNo X83.here hx rfl (hb hby d2_60) rfl (jc_le_f c60_84) ?_
              show Steps p.tables e below (T83.setTop (mkF m 63 #[.val (.ref a0), .val (.int p1), .val (.long q2), .second, .val (.long q3), .second] [])) _
              refine XS.lloadN X83.here hx rfl (hb hby d2_63) rfl ?_
              show Steps p.tables e below (T83.setTop (mkF m 64 #[.val (.ref a0), .val (.int p1), .val (.long q2), .second, .val (.long q3), .second] [(.long q2)])) _
              refine XS.aloadN X83.here hx rfl (hb hby d2_64) rfl rfl ?_
              exact kt
            obtain ⟨T85, X85, e85, st85⟩ := getF X83 hx hZ hown (host := "") (Or.inl (hw _ (List.mem_of_getElem? (i := 30) rfl))) Via.refl e83 F_a0_total (g := (mkF m 65 #[.val (.ref a0), .val (.int p1), .val (.long q2), .second, .val (.long q3), .second] [(.ref a0), (.long q2)])) rfl rfl (hb hby d2_65)
            refine Gl.up (B := T85.setTop (mkF m 68 #[.val (.ref a0), .val (.int p1), .val (.long q2), .second, .val (.long q3), .second] [(.long to), (.long q2)])) (fun t kt => st85 _ kt) ?_
            refine Gl.up (B := T85.setTop (mkF m 69 #[.val (.ref a0), .val (.int p1), .val (.long q2), .second, .val (.long q3), .second] [(.int (lcmpW q2 to))])) (fun t kt => ?_) ?_
            · show Steps p.tables e below (T85.setTop (mkF m 68 #[.val (.ref a0), .val (.int p1), .val (.long q2), .second, .val (.long q3), .second] [(.long to), (.long q2)])) _
              refine XS.lcmp X85.here hx rfl (hb hby d2_68) rfl ?_
              exact kt
            by_cases c69_86 : q2 < to
            · refine Gl.up (B := T85.setTop (mkF m 73 #[.val (.ref a0), .val (.int p1), .val (.long q2), .second, .val (.long q3), .second] [(.ref a0)])) (fun t kt => ?_) ?_
              · show Steps p.tables e below (T85.setTop (mkF m 69 #[.val (.ref a0), .val (.int p1), .val (.long q2), .second, .val (.long q3), .second] [(.int (lcmpW q2 to))])) _
                refine XS.ifNo X85.here hx rfl (hb hby d2_69) rfl (jc_ge_f c69_86) ?_
                show Steps p.tables e below (T85.setTop (mkF m 72 #[.val (.ref a0), .val (.int p1), .val (.long q2), .second, .val (.long q3), .second] [])) _
                refine XS.aloadN X85.here hx rfl (hb hby d2_72) rfl rfl ?_
                exact kt
              obtain ⟨T87, X87, e87, st87⟩ := getF X85 hx hZ hown (host := "") (Or.inl (hw _ (List.mem_of_getElem? (i := 32) rfl))) Via.refl e85 F_a0_expireSeconds (g := (mkF m 73 #[.val (.ref a0), .val (.int p1), .val (.long q2), .second, .val (.long q3), .second] [(.ref a0)])) rfl rfl (hb hby d2_73)
              refine Gl.up (B := T87.setTop (mkF m 76 #[.val (.ref a0), .val (.int p1), .val (.long q2), .second, .val (.long q3), .second] [(.long ex)])) (fun t kt => st87 _ kt) ?_
              refine Gl.up (B := T87.setTop (mkF m 78 #[.val (.ref a0), .val (.int p1), .val (.long q2), .second, .val (.long q3), .second] [(.int (lcmpW ex (0 : Int64)))])) (fun t kt => ?_) ?_
              · show Steps p.tables e below (T87.setTop (mkF m 76 #[.val (.ref a0), .val (.int p1), .val (.long q2), .second, .val (.long q3), .second] [(.long ex)])) _
                refine XS.lconst X87.here hx rfl (hb hby d2_76) ?_
                show Steps p.tables e below (T87.setTop (mkF m 77 #[.val (.ref a0), .val (.int p1), .val (.long q2), .second, .val (.long q3), .second] [(.long (0 : Int64)), (.long ex)])) _
                refine XS.lcmp X87.here hx rfl (hb hby d2_77) rfl ?_
                exact kt
              by_cases c78_88 : (0 : Int64) < ex
              · refine Gl.up (B := T87.setTop (mkF m 84 #[.val (.ref a0), .val (.int p1), .val (.long q2), .second, .val (.long q3), .second] [(.ref a0), (.long q3)])) (fun t kt => ?_) ?_
                · show Steps p.tables e below (T87.setTop (mkF m 78 #[.val (.ref a0), .val (.int p1), .val (.long q2), .second, .val (.long q3), .second] [(.int (lcmpW ex (0 : Int64)))])) _
                  refine XS.ifNo X87.here hx rfl (hb hby d2_78) rfl (jc_le_f c78_88) ?_
                  show Steps p.tables e below (T87.setTop (mkF m 81 #[.val (.ref a0), .val (.int p1), .val (.long q2), .second, .val (.long q3), .second] [])) _
                  refine XS.lload X87.here hx rfl (hb hby d2_81) rfl ?_
                  show Steps p.tables e below (T87.setTop (mkF m 83 #[.val (.ref a0), .val (.int p1), .val (.long q2), .second, .val (.long q3), .second] [(.long q3)])) _
                  refine XS.aloadN X87.here hx rfl (hb hby d2_83) rfl rfl ?_
                  exact kt
                obtain ⟨T89, X89, e89, st89⟩ := getF X87 hx hZ hown (host := "") (Or.inl (hw _ (List.mem_of_getElem? (i := 32) rfl))) Via.refl e87 F_a0_expireSeconds (g := (mkF m 84 #[.val (.ref a0), .val (.int p1), .val (.long q2), .second, .val (.long q3), .second] [(.ref a0), (.long q3)])) rfl rfl (hb hby d2_84)
                refine Gl.up (B := T89.setTop (mkF m 87 #[.val (.ref a0), .val (.int p1), .val (.long q2), .second, .val (.long q3), .second] [(.long ex), (.long q3)])) (fun t kt => st89 _ kt) ?_
                refine Gl.up (B := T89.setTop (mkF m 92 #[.val (.ref a0), .val (.int p1), .val (.long q2), .second, .val (.long q3), .second] [(.int (lcmpW q3 (ex * (1000000000 : Int64))))])) (fun t kt => ?_) ?_
                · show Steps p.tables e below (T89.setTop (mkF m 87 #[.val (.ref a0), .val (.int p1), .val (.long q2), .second, .val (.long q3), .second] [(.long ex), (.long q3)])) _
                  refine X89.ldc2Long hx hown (mvT hZ (hw _ (List.mem_of_getElem? (i := 40) rfl))) (g := (mkF m 87 #[.val (.ref a0), .val (.int p1), .val (.long q2), .second, .val (.long q3), .second] [(.long ex), (.long q3)])) rfl (hb hby d2_87) _ ?_
                  show Steps p.tables e below (T89.setTop (mkF m 90 #[.val (.ref a0), .val (.int p1), .val (.long q2), .second, .val (.long q3), .second] [(.long (1000000000 : Int64)), (.long ex), (.long q3)])) _
                  refine XS.lmul X89.here hx rfl (hb hby d2_90) rfl ?_
                  show Steps p.tables e below (T89.setTop (mkF m 91 #[.val (.ref a0), .val (.int p1), .val (.long q2), .second, .val (.long q3), .second] [(.long (ex * (1000000000 : Int64))), (.long q3)])) _
                  refine XS.lcmp X89.here hx rfl (hb hby d2_91) rfl ?_
                  exact kt
                by_cases c92_90 : q3 < (ex * (1000000000 : Int64))
                · refine Gl.up (B := T89.setTop (mkF m 100 #[.val (.ref a0), .val (.int p1), .val (.long q2), .second, .val (.long q3), .second] [(.int (0 : Int32))])) (fun t kt => ?_) ?_
                  · show Steps p.tables e below (T89.setTop (mkF m 92 #[.val (.ref a0), .val (.int p1), .val (.long q2), .second, .val (.long q3), .second] [(.int (lcmpW q3 (ex * (1000000000 : Int64))))])) _
                    refine XS.ifYes X89.here hx rfl (pc0 := 92) (pc' := 99) rfl (hb hby d2_92) rfl (jc_lt_t c92_90) (by decide) (by decide) ?_
                    show Steps p.tables e below (T89.setTop (mkF m 99 #[.val (.ref a0), .val (.int p1), .val (.long q2), .second, .val (.long q3), .second] [])) _
                    refine XS.iconst X89.here hx rfl (hb hby d2_99) ?_
                    exact kt
                  exact J67 _ (0 : Int32) (((((if_neg c41_68).trans (if_pos c60_84)).trans (if_pos c69_86)).trans (if_pos c78_88)).trans (if_pos c92_90)).symm X89 e89
                · refine Gl.up (B := T89.setTop (mkF m 100 #[.val (.ref a0), .val (.int p1), .val (.long q2), .second, .val (.long q3), .second] [(.int (1 : Int32))])) (fun t kt => ?_) ?_
                  · show Steps p.tables e below (T89.setTop (mkF m 92 #[.val (.ref a0), .val (.int p1), .val (.long q2), .second, .val (.long q3), .second] [(.int (lcmpW q3 (ex * (1000000000 : Int64))))])) _
                    refine XS.ifNo X89.here hx rfl (hb hby d2_92) rfl (jc_lt_f c92_90) ?_
                    show Steps p.tables e below (T89.setTop (mkF m 95 #[.val (.ref a0), .val (.int p1), .val (.long q2), .second, .val (.long q3), .second] [])) _
                    refine XS.iconst X89.here hx rfl (hb hby d2_95) ?_
                    show Steps p.tables e below (T89.setTop (mkF m 96 #[.val (.ref a0), .val (.int p1), .val (.long q2), .second, .val (.long q3), .second] [(.int (1 : Int32))])) _
                    refine XS.goto X89.here hx rfl (pc0 := 96) (pc' := 100) rfl (hb hby d2_96) (by decide) (by decide) ?_
                    exact kt
                  exact J67 _ (1 : Int32) (((((if_neg c41_68).trans (if_pos c60_84)).trans (if_pos c69_86)).trans (if_pos c78_88)).trans (if_neg c92_90)).symm X89 e89
              · refine Gl.up (B := T87.setTop (mkF m 100 #[.val (.ref a0), .val (.int p1), .val (.long q2), .second, .val (.long q3), .second] [(.int (0 : Int32))])) (fun t kt => ?_) ?_
                · show Steps p.tables e below (T87.setTop (mkF m 78 #[.val (.ref a0), .val (.int p1), .val (.long q2), .second, .val (.long q3), .second] [(.int (lcmpW ex (0 : Int64)))])) _
                  refine XS.ifYes X87.here hx rfl (pc0 := 78) (pc' := 99) rfl (hb hby d2_78) rfl (jc_le_t c78_88) (by decide) (by decide) ?_
                  show Steps p.tables e below (T87.setTop (mkF m 99 #[.val (.ref a0), .val (.int p1), .val (.long q2), .second, .val (.long q3), .second] [])) _
                  refine XS.iconst X87.here hx rfl (hb hby d2_99) ?_
                  exact kt
                exact J67 _ (0 : Int32) ((((if_neg c41_68).trans (if_pos c60_84)).trans (if_pos c69_86)).trans (if_neg c78_88)).symm X87 e87
            · refine Gl.up (B := T85.setTop (mkF m 100 #[.val (.ref a0), .val (.int p1), .val (.long q2), .second, .val (.long q3), .second] [(.int (1 : Int32))])) (fun t kt => ?_) ?_
              · show Steps p.tables e below (T85.setTop (mkF m 69 #[.val (.ref a0), .val (.int p1), .val (.long q2), .second, .val (.long q3), .second] [(.int (lcmpW q2 to))])) _
                refine XS.ifYes X85.here hx rfl (pc0 := 69) (pc' := 95) rfl (hb hby d2_69) rfl (jc_ge_t c69_86) (by decide) (by decide) ?_
                show Steps p.tables e below (T85.setTop (mkF m 95 #[.val (.ref a0), .val (.int p1), .val (.long q2), .second, .val (.long q3), .second] [])) _
                refine XS.iconst X85.here hx rfl (hb hby d2_95) ?_
                show Steps p.tables e below (T85.setTop (mkF m 96 #[.val (.ref a0), .val (.int p1), .val (.long q2), .second, .val (.long q3), .second] [(.int (1 : Int32))])) _
                refine XS.goto X85.here hx rfl (pc0 := 96) (pc' := 100) rfl (hb hby d2_96) (by decide) (by decide) ?_
                exact kt
              exact J67 _ (1 : Int32) (((if_neg c41_68).trans (if_pos c60_84)).trans (if_neg c69_86)).symm X85 e85
          · refine Gl.up (B := T83.setTop (mkF m 73 #[.val (.ref a0), .val (.int p1), .val (.long q2), .second, .val (.long q3), .second] [(.ref a0)])) (fun t kt => ?_) ?_
            · show Steps p.tables e below (T83.setTop (mkF m 60 #[.val (.ref a0), .val (.int p1), .val (.long q2), .second, .val (.long q3), .second] [(.int (lcmpW to (0 : Int64)))])) _
              refine XS.ifYes X83.here hx rfl (pc0 := 60) (pc' := 72) rfl (hb hby d2_60) rfl (jc_le_t c60_84) (by decide) (by decide) ?_
              show Steps p.tables e below (T83.setTop (mkF m 72 #[.val (.ref a0), .val (.int p1), .val (.long q2), .second, .val (.long q3), .second] [])) _
              refine XS.aloadN X83.here hx rfl (hb hby d2_72) rfl rfl ?_
              exact kt
            obtain ⟨T91, X91, e91, st91⟩ := getF X83 hx hZ hown (host := "") (Or.inl (hw _ (List.mem_of_getElem? (i := 32) rfl))) Via.refl e83 F_a0_expireSeconds (g := (mkF m 73 #[.val (.ref a0), .val (.int p1), .val (.long q2), .second, .val (.long q3), .second] [(.ref a0)])) rfl rfl (hb hby d2_73)
            refine Gl.up (B := T91.setTop (mkF m 76 #[.val (.ref a0), .val (.int p1), .val (.long q2), .second, .val (.long q3), .second] [(.long ex)])) (fun t kt => st91 _ kt) ?_
            refine Gl.up (B := T91.setTop (mkF m 78 #[.val (.ref a0), .val (.int p1), .val (.long q2), .second, .val (.long q3), .second] [(.int (lcmpW ex (0 : Int64)))])) (fun t kt => ?_) ?_
            · show Steps p.tables e below (T91.setTop (mkF m 76 #[.val (.ref a0), .val (.int p1), .val (.long q2), .second, .val (.long q3), .second] [(.long ex)])) _
              refine XS.lconst X91.here hx rfl (hb hby d2_76) ?_
              show Steps p.tables e below (T91.setTop (mkF m 77 #[.val (.ref a0), .val (.int p1), .val (.long q2), .second, .val (.long q3), .second] [(.long (0 : Int64)), (.long ex)])) _
              refine XS.lcmp X91.here hx rfl (hb hby d2_77) rfl ?_
              exact kt
            by_cases c78_92 : (0 : Int64) < ex
            · refine Gl.up (B := T91.setTop (mkF m 84 #[.val (.ref a0), .val (.int p1), .val (.long q2), .second, .val (.long q3), .second] [(.ref a0), (.long q3)])) (fun t kt => ?_) ?_
              · show Steps p.tables e below (T91.setTop (mkF m 78 #[.val (.ref a0), .val (.int p1), .val (.long q2), .second, .val (.long q3), .second] [(.int (lcmpW ex (0 : Int64)))])) _
                refine XS.ifNo X91.here hx rfl (hb hby d2_78) rfl (jc_le_f c78_92) ?_
                show Steps p.tables e below (T91.setTop (mkF m 81 #[.val (.ref a0), .val (.int p1), .val (.long q2), .second, .val (.long q3), .second] [])) _
                refine XS.lload X91.here hx rfl (hb hby d2_81) rfl ?_
                show Steps p.tables e below (T91.setTop (mkF m 83 #[.val (.ref a0), .val (.int p1), .val (.long q2), .second, .val (.long q3), .second] [(.long q3)])) _
                refine XS.aloadN X91.here hx rfl (hb hby d2_83) rfl rfl ?_
                exact kt
              obtain ⟨T93, X93, e93, st93⟩ := getF X91 hx hZ hown (host := "") (Or.inl (hw _ (List.mem_of_getElem? (i := 32) rfl))) Via.refl e91 F_a0_expireSeconds (g := (mkF m 84 #[.val (.ref a0), .val (.int p1), .val (.long q2), .second, .val (.long q3), .second] [(.ref a0), (.long q3)])) rfl rfl (hb hby d2_84)
              refine Gl.up (B := T93.setTop (mkF m 87 #[.val (.ref a0), .val (.int p1), .val (.long q2), .second, .val (.long q3), .second] [(.long ex), (.long q3)])) (fun t kt => st93 _ kt) ?_
              refine Gl.up (B := T93.setTop (mkF m 92 #[.val (.ref a0), .val (.int p1), .val (.long q2), .second, .val (.long q3), .second] [(.int (lcmpW q3 (ex * (1000000000 : Int64))))])) (fun t kt => ?_) ?_
              · show Steps p.tables e below (T93.setTop (mkF m 87 #[.val (.ref a0), .val (.int p1), .val (.long q2), .second, .val (.long q3), .second] [(.long ex), (.long q3)])) _
                refine X93.ldc2Long hx hown (mvT hZ (hw _ (List.mem_of_getElem? (i := 40) rfl))) (g := (mkF m 87 #[.val (.ref a0), .val (.int p1), .val (.long q2), .second, .val (.long q3), .second] [(.long ex), (.long q3)])) rfl (hb hby d2_87) _ ?_
                show Steps p.tables e below (T93.setTop (mkF m 90 #[.val (.ref a0), .val (.int p1), .val (.long q2), .second, .val (.long q3), .second] [(.long (1000000000 : Int64)), (.long ex), (.long q3)])) _
                refine XS.lmul X93.here hx rfl (hb hby d2_90) rfl ?_
                show Steps p.tables e below (T93.setTop (mkF m 91 #[.val (.ref a0), .val (.int p1), .val (.long q2), .second, .val (.long q3), .second] [(.long (ex * (1000000000 : Int64))), (.long q3)])) _
                refine XS.lcmp X93.here hx rfl (hb hby d2_91) rfl ?_
                exact kt
              by_cases c92_94 : q3 < (ex * (1000000000 : Int64))
              · refine Gl.up (B := T93.setTop (mkF m 100 #[.val (.ref a0), .val (.int p1), .val (.long q2), .second, .val (.long q3), .second] [(.int (0 : Int32))])) (fun t kt => ?_) ?_
                · show Steps p.tables e below (T93.setTop (mkF m 92 #[.val (.ref a0), .val (.int p1), .val (.long q2), .second, .val (.long q3), .second] [(.int (lcmpW q3 (ex * (1000000000 : Int64))))])) _
                  refine XS.ifYes X93.here hx rfl (pc0 := 92) (pc' := 99) rfl (hb hby d2_92) rfl (jc_lt_t c92_94) (by decide) (by decide) ?_
                  show Steps p.tables e below (T93.setTop (mkF m 99 #[.val (.ref a0), .val (.int p1), .val (.long q2), .second, .val (.long q3), .second] [])) _
                  refine XS.iconst X93.here hx rfl (hb hby d2_99) ?_
                  exact kt
                exact J67 _ (0 : Int32) ((((if_neg c41_68).trans (if_neg c60_84)).trans (if_pos c78_92)).trans (if_pos c92_94)).symm X93 e93
              · refine Gl.up (B := T93.setTop (mkF m 100 #[.val (.ref a0), .val (.int p1), .val (.long q2), .second, .val (.long q3), .second] [(.int (1 : Int32))])) (fun t kt => ?_) ?_
                · show Steps p.tables e below (T93.setTop (mkF m 92 #[.val (.ref a0), .val (.int p1), .val (.long q2), .second, .val (.long q3), .second] [(.int (lcmpW q3 (ex * (1000000000 : Int64))))])) _
                  refine XS.ifNo X93.here hx rfl (hb hby d2_92) rfl (jc_lt_f c92_94) ?_
                  show Steps p.tables e below (T93.setTop (mkF m 95 #[.val (.ref a0), .val (.int p1), .val (.long q2), .second, .val (.long q3), .second] [])) _
                  refine XS.iconst X93.here hx rfl (hb hby d2_95) ?_
                  show Steps p.tables e below (T93.setTop (mkF m 96 #[.val (.ref a0), .val (.int p1), .val (.long q2), .second, .val (.long q3), .second] [(.int (1 : Int32))])) _
                  refine XS.goto X93.here hx rfl (pc0 := 96) (pc' := 100) rfl (hb hby d2_96) (by decide) (by decide) ?_
                  exact kt
                exact J67 _ (1 : Int32) ((((if_neg c41_68).trans (if_neg c60_84)).trans (if_pos c78_92)).trans (if_neg c92_94)).symm X93 e93
            · refine Gl.up (B := T91.setTop (mkF m 100 #[.val (.ref a0), .val (.int p1), .val (.long q2), .second, .val (.long q3), .second] [(.int (0 : Int32))])) (fun t kt => ?_) ?_
              · show Steps p.tables e below (T91.setTop (mkF m 78 #[.val (.ref a0), .val (.int p1), .val (.long q2), .second, .val (.long q3), .second] [(.int (lcmpW ex (0 : Int64)))])) _
                refine XS.ifYes X91.here hx rfl (pc0 := 78) (pc' := 99) rfl (hb hby d2_78) rfl (jc_le_t c78_92) (by decide) (by decide) ?_
                show Steps p.tables e below (T91.setTop (mkF m 99 #[.val (.ref a0), .val (.int p1), .val (.long q2), .second, .val (.long q3), .second] [])) _
                refine XS.iconst X91.here hx rfl (hb hby d2_99) ?_
                exact kt
              exact J67 _ (0 : Int32) (((if_neg c41_68).trans (if_neg c60_84)).trans (if_neg c78_92)).symm X91 e91
      intro T67 v67_s0 hv67_s0 X67 e67
      subst hv67_s0
      refine Gl.retN X67 hx hlk (t := .boolean) Bd.returns (by simp) (hb hby d2_100) (w := (if (0 : Int64) < pe then (if (p1.toInt64) < pe then (if (0 : Int64) < to then (if q2 < to then (if (0 : Int64) < ex then (if q3 < (ex * (1000000000 : Int64)) then (0 : Int32) else (1 : Int32)) else (0 : Int32)) else (1 : Int32)) else (if (0 : Int64) < ex then (if q3 < (ex * (1000000000 : Int64)) then (0 : Int32) else (1 : Int32)) else (0 : Int32))) else (1 : Int32)) else (if (0 : Int64) < to then (if q2 < to then (if (0 : Int64) < ex then (if q3 < (ex * (1000000000 : Int64)) then (0 : Int32) else (1 : Int32)) else (0 : Int32)) else (1 : Int32)) else (if (0 : Int64) < ex then (if q3 < (ex * (1000000000 : Int64)) then (0 : Int32) else (1 : Int32)) else (0 : Int32))))) (nar_b01 (b01_ite (b01_ite (b01_ite (b01_ite (b01_ite (b01_ite (Or.inl rfl) (Or.inr rfl)) (Or.inl rfl)) (Or.inr rfl)) (b01_ite (b01_ite (Or.inl rfl) (Or.inr rfl)) (Or.inl rfl))) (Or.inr rfl)) (b01_ite (b01_ite (b01_ite (b01_ite (Or.inl rfl) (Or.inr rfl)) (Or.inl rfl)) (Or.inr rfl)) (b01_ite (b01_ite (Or.inl rfl) (Or.inr rfl)) (Or.inl rfl))))) ?_ (by decide) (by decide)
      exact ⟨congrArg (fun z => some (Value.int z)) (show (if (0 : Int64) < pe then (if (p1.toInt64) < pe then (if (0 : Int64) < to then (if q2 < to then (if (0 : Int64) < ex then (if q3 < (ex * (1000000000 : Int64)) then (0 : Int32) else (1 : Int32)) else (0 : Int32)) else (1 : Int32)) else (if (0 : Int64) < ex then (if q3 < (ex * (1000000000 : Int64)) then (0 : Int32) else (1 : Int32)) else (0 : Int32))) else (1 : Int32)) else (if (0 : Int64) < to then (if q2 < to then (if (0 : Int64) < ex then (if q3 < (ex * (1000000000 : Int64)) then (0 : Int32) else (1 : Int32)) else (0 : Int32)) else (1 : Int32)) else (if (0 : Int64) < ex then (if q3 < (ex * (1000000000 : Int64)) then (0 : Int32) else (1 : Int32)) else (0 : Int32)))) = f2 p1 q2 q3 pe to ex from ((if_neg c1_1).trans (if_neg c12_3)).symm), rfl, e67⟩
theorem own_pos0 {p : Int64} (h : 0 ≤ p.toInt) : (0 : Int64) < p ↔ ¬ p = (0 : Int64) := by
  rw [Int64.lt_iff_toInt_lt, ← Int64.toInt_inj, show (0 : Int64).toInt = 0 from rfl]; omega
theorem own_posI {p : Int32} (h : 0 ≤ p.toInt) : (0 : Int32) < p ↔ ¬ p = (0 : Int32) := by
  rw [Int32.lt_iff_toInt_lt, ← Int32.toInt_inj, show (0 : Int32).toInt = 0 from rfl]; omega
theorem own_bill {w e : Int64} (hw : 0 ≤ w.toInt) (he : 0 ≤ e.toInt ∧ e.toInt ≤ 8589934591) : w < (e * (1000000000 : Int64)) ↔ (w / (1000000000 : Int64)) < e := by
  have h1 := c_lmul e (1000000000 : Int64)
  have h2 := rng64 (e * (1000000000 : Int64))
  have h3 := (c_ldiv w (1000000000 : Int64) 1000000000 rfl (by decide)).1 hw
  rw [show (1000000000 : Int64).toInt = 1000000000 from rfl] at h1
  rw [Int64.lt_iff_toInt_lt, Int64.lt_iff_toInt_lt, h3]
  omega
theorem own_main {p t e b w : Int64} {f any cnt byt tim ex : Int32} (hp : 0 ≤ p.toInt) (ht : 0 ≤ t.toInt) (he : 0 ≤ e.toInt ∧ e.toInt ≤ 8589934591) (hf : 0 ≤ f.toInt) (hw : 0 ≤ w.toInt)
    (hany : any = if p = (0 : Int64) then (if t = (0 : Int64) then (if e = (0 : Int64) then (0 : Int32) else (1 : Int32)) else (1 : Int32)) else (1 : Int32))
    (hcnt : cnt = if p = (0 : Int64) then (0 : Int32) else (if (f.toInt64) < p then (0 : Int32) else (1 : Int32)))
    (hbyt : byt = if t = (0 : Int64) then (0 : Int32) else (if b < t then (0 : Int32) else (1 : Int32)))
    (htim : tim = if e = (0 : Int64) then (0 : Int32) else (if (w / (1000000000 : Int64)) < e then (0 : Int32) else (1 : Int32)))
    (hex : ex = if (0 : Int32) < f then (if any = (0 : Int32) then (1 : Int32) else (if cnt = (0 : Int32) then (if byt = (0 : Int32) then (if tim = (0 : Int32) then (0 : Int32) else (1 : Int32)) else (1 : Int32)) else (1 : Int32))) else (0 : Int32)) :
    f2 f b w p t e = ex := by
  unfold f2
  subst hany hcnt hbyt htim
  rw [hex]
  simp only [own_pos0 hp, own_pos0 ht, own_pos0 he.1, own_posI hf, own_bill hw he]
  by_cases q1 : f = (0 : Int32) <;> by_cases q2 : p = (0 : Int64) <;> by_cases q3 : t = (0 : Int64) <;> by_cases q4 : e = (0 : Int64) <;> by_cases q5 : f.toInt64 < p <;> by_cases q6 : b < t <;> by_cases q7 : (w / (1000000000 : Int64)) < e <;> simp only [q1, q2, q3, q4, q5, q6, q7, if_true, if_false, not_true_eq_false, not_false_eq_true] <;> first | rfl | decide | simp

theorem own_and63 (x : Int64) : 0 ≤ (x &&& (9223372036854775807 : Int64)).toInt := by
  rw [c_maskL x _ 63 (by decide) (by decide)]; omega
theorem own_and33 (x : Int64) : 0 ≤ (x &&& (8589934591 : Int64)).toInt ∧ (x &&& (8589934591 : Int64)).toInt ≤ 8589934591 := by
  rw [c_maskL x _ 33 (by decide) (by decide)]; omega

def Q0 (n0 : Nat) (v : Option Value) (h : Heap) (L : List Loc) : Prop := v = some (.int 1) ∧ Fr n0 L
theorem ef0 (m : MethodId) (a1 : Int64) (a2 : Int64) (a3 : Int64) (a4 : Int32) (a5 : Int64) (a6 : Int64) : entryFrame m #[(.long a1), (.long a2), (.long a3), (.int a4), (.long a5), (.long a6)] maxLocals = mkF m 0 #[.val (.long a1), .second, .val (.long a2), .second, .val (.long a3), .second, .val (.int a4), .val (.long a5), .second, .val (.long a6), .second, .unset, .unset, .unset, .unset, .unset, .unset, .unset, .unset, .unset, .unset, .unset, .unset, .unset, .unset, .unset, .unset, .unset, .unset] [] := by first | (simp [entryFrame, mkF, argsToLocals, Value.category, maxLocals]; done) | rfl
set_option maxRecDepth 65536 in
set_option maxHeartbeats 40000000 in
theorem rm0 (l : Launch) (Z : State) (aa : Array Value) (hw : ∀ d ∈ tables_1, d.before aa Z = true) (ws : List Jvm.Cond) (a1 : Int64) (a2 : Int64) (a3 : Int64) (a4 : Int32) (a5 : Int64) (a6 : Int64) (h0 : Heap) (n0 : Nat) (O0 : Old Z n0 h0)  :
    MetFree l x (head1 (Jvm.Cond.code x code maxLocals ret :: ws) room_1) (fun a U => a = #[(.long a1), (.long a2), (.long a3), (.int a4), (.long a5), (.long a6)] ∧ Z.Warmed39 U.vm ∧ U.heap = h0) (fun _ _ _ _ _ => True) (fun _ U o U' => ∃ v L, o = .returned v ∧ Q0 n0 v U'.heap L ∧ Jvm.D.FramedW U o U' L 7 30) := by
  refine MetFree.of_bodySF (plainFor_of_name pn_com_example_pooltergeist_pooltergeist_pool_ClassDefinitionDuePinLaw) hisR ?_
  intro p e s m args below meth c s₁ Bd hml0 hP hK
  obtain ⟨rfl, hZ, hh⟩ := hP
  have hx := Bd.exec
  have hby := Bd.bytes
  have hlk := Bd.notSynchronized
  have hml : c.maxLocals = 29 := hml0
  have hown : s.vm.findClass "com/example/pooltergeist/pooltergeist/pool/ClassDefinitionDuePinLaw" = some m.cls := findClass_of_methodNamed Bd.named
  have hnm := (name_of_methodNamed Bd.named Bd.method).1
  have X0 : Stand p l e room_1 s m #[(.long a1), (.long a2), (.long a3), (.int a4), (.long a5), (.long a6)] below meth c s₁ [] 0 0 := Stand.of_body Bd
  have e0 : s₁.heap = h0 := by rw [← hh, Bd.state]; rfl
  have N0 := Fr.nil n0
  show Gl p e below (RetW s 7 30 (Q0 n0)) (s₁.setTop (entryFrame m #[(.long a1), (.long a2), (.long a3), (.int a4), (.long a5), (.long a6)] maxLocals))
  rw [ef0 m a1 a2 a3 a4 a5 a6]
  obtain ⟨args, hargs⟩ : ∃ z : Array Value, z = #[(.long a1), (.long a2), (.long a3), (.int a4), (.long a5), (.long a6)] := ⟨_, rfl⟩
  rw [← hargs] at X0
  refine Gl.up (B := s₁.setTop (mkF m 5 #[.val (.long a1), .second, .val (.long a2), .second, .val (.long a3), .second, .val (.int a4), .val (.long a5), .second, .val (.long a6), .second, .unset, .unset, .unset, .unset, .unset, .unset, .unset, .unset, .unset, .unset, .unset, .unset, .unset, .unset, .unset, .unset, .unset, .unset] [(.long (a1 &&& (9223372036854775807 : Int64)))])) (fun t kt => ?_) ?_
  · show Steps p.tables e below (s₁.setTop (mkF m 0 #[.val (.long a1), .second, .val (.long a2), .second, .val (.long a3), .second, .val (.int a4), .val (.long a5), .second, .val (.long a6), .second, .unset, .unset, .unset, .unset, .unset, .unset, .unset, .unset, .unset, .unset, .unset, .unset, .unset, .unset, .unset, .unset, .unset, .unset] [])) _
    refine XS.lloadN X0.here hx rfl (hb hby at_0) rfl ?_
    show Steps p.tables e below (s₁.setTop (mkF m 1 #[.val (.long a1), .second, .val (.long a2), .second, .val (.long a3), .second, .val (.int a4), .val (.long a5), .second, .val (.long a6), .second, .unset, .unset, .unset, .unset, .unset, .unset, .unset, .unset, .unset, .unset, .unset, .unset, .unset, .unset, .unset, .unset, .unset, .unset] [(.long a1)])) _
    refine X0.ldc2Long hx hown (mvT hZ (hw _ (List.mem_of_getElem? (i := 0) rfl))) (g := (mkF m 1 #[.val (.long a1), .second, .val (.long a2), .second, .val (.long a3), .second, .val (.int a4), .val (.long a5), .second, .val (.long a6), .second, .unset, .unset, .unset, .unset, .unset, .unset, .unset, .unset, .unset, .unset, .unset, .unset, .unset, .unset, .unset, .unset, .unset, .unset] [(.long a1)])) rfl (hb hby at_1) _ ?_
    show Steps p.tables e below (s₁.setTop (mkF m 4 #[.val (.long a1), .second, .val (.long a2), .second, .val (.long a3), .second, .val (.int a4), .val (.long a5), .second, .val (.long a6), .second, .unset, .unset, .unset, .unset, .unset, .unset, .unset, .unset, .unset, .unset, .unset, .unset, .unset, .unset, .unset, .unset, .unset, .unset] [(.long (9223372036854775807 : Int64)), (.long a1)])) _
    refine XS.land X0.here hx rfl (hb hby at_4) rfl ?_
    exact kt
  obtain ⟨u1, hu1⟩ : ∃ q : Int64, q = (a1 &&& (9223372036854775807 : Int64)) := ⟨_, rfl⟩
  rw [← hu1]
  refine Gl.up (B := s₁.setTop (mkF m 12 #[.val (.long a1), .second, .val (.long a2), .second, .val (.long a3), .second, .val (.int a4), .val (.long a5), .second, .val (.long a6), .second, .val (.long u1), .second, .unset, .unset, .unset, .unset, .unset, .unset, .unset, .unset, .unset, .unset, .unset, .unset, .unset, .unset, .unset, .unset] [(.long (a2 &&& (9223372036854775807 : Int64)))])) (fun t kt => ?_) ?_
  · show Steps p.tables e below (s₁.setTop (mkF m 5 #[.val (.long a1), .second, .val (.long a2), .second, .val (.long a3), .second, .val (.int a4), .val (.long a5), .second, .val (.long a6), .second, .unset, .unset, .unset, .unset, .unset, .unset, .unset, .unset, .unset, .unset, .unset, .unset, .unset, .unset, .unset, .unset, .unset, .unset] [(.long u1)])) _
    refine XS.lstore X0.here hx rfl (hb hby at_5) rfl (l' := #[.val (.long a1), .second, .val (.long a2), .second, .val (.long a3), .second, .val (.int a4), .val (.long a5), .second, .val (.long a6), .second, .val (.long u1), .second, .unset, .unset, .unset, .unset, .unset, .unset, .unset, .unset, .unset, .unset, .unset, .unset, .unset, .unset, .unset, .unset]) rfl ?_
    show Steps p.tables e below (s₁.setTop (mkF m 7 #[.val (.long a1), .second, .val (.long a2), .second, .val (.long a3), .second, .val (.int a4), .val (.long a5), .second, .val (.long a6), .second, .val (.long u1), .second, .unset, .unset, .unset, .unset, .unset, .unset, .unset, .unset, .unset, .unset, .unset, .unset, .unset, .unset, .unset, .unset] [])) _
    refine XS.lloadN X0.here hx rfl (hb hby at_7) rfl ?_
    show Steps p.tables e below (s₁.setTop (mkF m 8 #[.val (.long a1), .second, .val (.long a2), .second, .val (.long a3), .second, .val (.int a4), .val (.long a5), .second, .val (.long a6), .second, .val (.long u1), .second, .unset, .unset, .unset, .unset, .unset, .unset, .unset, .unset, .unset, .unset, .unset, .unset, .unset, .unset, .unset, .unset] [(.long a2)])) _
    refine X0.ldc2Long hx hown (mvT hZ (hw _ (List.mem_of_getElem? (i := 0) rfl))) (g := (mkF m 8 #[.val (.long a1), .second, .val (.long a2), .second, .val (.long a3), .second, .val (.int a4), .val (.long a5), .second, .val (.long a6), .second, .val (.long u1), .second, .unset, .unset, .unset, .unset, .unset, .unset, .unset, .unset, .unset, .unset, .unset, .unset, .unset, .unset, .unset, .unset] [(.long a2)])) rfl (hb hby at_8) _ ?_
    show Steps p.tables e below (s₁.setTop (mkF m 11 #[.val (.long a1), .second, .val (.long a2), .second, .val (.long a3), .second, .val (.int a4), .val (.long a5), .second, .val (.long a6), .second, .val (.long u1), .second, .unset, .unset, .unset, .unset, .unset, .unset, .unset, .unset, .unset, .unset, .unset, .unset, .unset, .unset, .unset, .unset] [(.long (9223372036854775807 : Int64)), (.long a2)])) _
    refine XS.land X0.here hx rfl (hb hby at_11) rfl ?_
    exact kt
  obtain ⟨u2, hu2⟩ : ∃ q : Int64, q = (a2 &&& (9223372036854775807 : Int64)) := ⟨_, rfl⟩
  rw [← hu2]
  refine Gl.up (B := s₁.setTop (mkF m 20 #[.val (.long a1), .second, .val (.long a2), .second, .val (.long a3), .second, .val (.int a4), .val (.long a5), .second, .val (.long a6), .second, .val (.long u1), .second, .val (.long u2), .second, .unset, .unset, .unset, .unset, .unset, .unset, .unset, .unset, .unset, .unset, .unset, .unset, .unset, .unset] [(.long (a3 &&& (8589934591 : Int64)))])) (fun t kt => ?_) ?_
  · show Steps p.tables e below (s₁.setTop (mkF m 12 #[.val (.long a1), .second, .val (.long a2), .second, .val (.long a3), .second, .val (.int a4), .val (.long a5), .second, .val (.long a6), .second, .val (.long u1), .second, .unset, .unset, .unset, .unset, .unset, .unset, .unset, .unset, .unset, .unset, .unset, .unset, .unset, .unset, .unset, .unset] [(.long u2)])) _
    refine XS.lstore X0.here hx rfl (hb hby at_12) rfl (l' := #[.val (.long a1), .second, .val (.long a2), .second, .val (.long a3), .second, .val (.int a4), .val (.long a5), .second, .val (.long a6), .second, .val (.long u1), .second, .val (.long u2), .second, .unset, .unset, .unset, .unset, .unset, .unset, .unset, .unset, .unset, .unset, .unset, .unset, .unset, .unset]) rfl ?_
    show Steps p.tables e below (s₁.setTop (mkF m 14 #[.val (.long a1), .second, .val (.long a2), .second, .val (.long a3), .second, .val (.int a4), .val (.long a5), .second, .val (.long a6), .second, .val (.long u1), .second, .val (.long u2), .second, .unset, .unset, .unset, .unset, .unset, .unset, .unset, .unset, .unset, .unset, .unset, .unset, .unset, .unset] [])) _
    refine XS.lload X0.here hx rfl (hb hby at_14) rfl ?_
    show Steps p.tables e below (s₁.setTop (mkF m 16 #[.val (.long a1), .second, .val (.long a2), .second, .val (.long a3), .second, .val (.int a4), .val (.long a5), .second, .val (.long a6), .second, .val (.long u1), .second, .val (.long u2), .second, .unset, .unset, .unset, .unset, .unset, .unset, .unset, .unset, .unset, .unset, .unset, .unset, .unset, .unset] [(.long a3)])) _
    refine X0.ldc2Long hx hown (mvT hZ (hw _ (List.mem_of_getElem? (i := 1) rfl))) (g := (mkF m 16 #[.val (.long a1), .second, .val (.long a2), .second, .val (.long a3), .second, .val (.int a4), .val (.long a5), .second, .val (.long a6), .second, .val (.long u1), .second, .val (.long u2), .second, .unset, .unset, .unset, .unset, .unset, .unset, .unset, .unset, .unset, .unset, .unset, .unset, .unset, .unset] [(.long a3)])) rfl (hb hby at_16) _ ?_
    show Steps p.tables e below (s₁.setTop (mkF m 19 #[.val (.long a1), .second, .val (.long a2), .second, .val (.long a3), .second, .val (.int a4), .val (.long a5), .second, .val (.long a6), .second, .val (.long u1), .second, .val (.long u2), .second, .unset, .unset, .unset, .unset, .unset, .unset, .unset, .unset, .unset, .unset, .unset, .unset, .unset, .unset] [(.long (8589934591 : Int64)), (.long a3)])) _
    refine XS.land X0.here hx rfl (hb hby at_19) rfl ?_
    exact kt
  obtain ⟨u3, hu3⟩ : ∃ q : Int64, q = (a3 &&& (8589934591 : Int64)) := ⟨_, rfl⟩
  rw [← hu3]
  refine Gl.up (B := s₁.setTop (mkF m 27 #[.val (.long a1), .second, .val (.long a2), .second, .val (.long a3), .second, .val (.int a4), .val (.long a5), .second, .val (.long a6), .second, .val (.long u1), .second, .val (.long u2), .second, .val (.long u3), .second, .unset, .unset, .unset, .unset, .unset, .unset, .unset, .unset, .unset, .unset, .unset, .unset] [(.int (a4 &&& (2147483647 : Int32)))])) (fun t kt => ?_) ?_
  · show Steps p.tables e below (s₁.setTop (mkF m 20 #[.val (.long a1), .second, .val (.long a2), .second, .val (.long a3), .second, .val (.int a4), .val (.long a5), .second, .val (.long a6), .second, .val (.long u1), .second, .val (.long u2), .second, .unset, .unset, .unset, .unset, .unset, .unset, .unset, .unset, .unset, .unset, .unset, .unset, .unset, .unset] [(.long u3)])) _
    refine XS.lstore X0.here hx rfl (hb hby at_20) rfl (l' := #[.val (.long a1), .second, .val (.long a2), .second, .val (.long a3), .second, .val (.int a4), .val (.long a5), .second, .val (.long a6), .second, .val (.long u1), .second, .val (.long u2), .second, .val (.long u3), .second, .unset, .unset, .unset, .unset, .unset, .unset, .unset, .unset, .unset, .unset, .unset, .unset]) rfl ?_
    show Steps p.tables e below (s₁.setTop (mkF m 22 #[.val (.long a1), .second, .val (.long a2), .second, .val (.long a3), .second, .val (.int a4), .val (.long a5), .second, .val (.long a6), .second, .val (.long u1), .second, .val (.long u2), .second, .val (.long u3), .second, .unset, .unset, .unset, .unset, .unset, .unset, .unset, .unset, .unset, .unset, .unset, .unset] [])) _
    refine XS.iload X0.here hx rfl (hb hby at_22) rfl ?_
    show Steps p.tables e below (s₁.setTop (mkF m 24 #[.val (.long a1), .second, .val (.long a2), .second, .val (.long a3), .second, .val (.int a4), .val (.long a5), .second, .val (.long a6), .second, .val (.long u1), .second, .val (.long u2), .second, .val (.long u3), .second, .unset, .unset, .unset, .unset, .unset, .unset, .unset, .unset, .unset, .unset, .unset, .unset] [(.int a4)])) _
    refine X0.ldcInt hx hown (mvT hZ (hw _ (List.mem_of_getElem? (i := 2) rfl))) (g := (mkF m 24 #[.val (.long a1), .second, .val (.long a2), .second, .val (.long a3), .second, .val (.int a4), .val (.long a5), .second, .val (.long a6), .second, .val (.long u1), .second, .val (.long u2), .second, .val (.long u3), .second, .unset, .unset, .unset, .unset, .unset, .unset, .unset, .unset, .unset, .unset, .unset, .unset] [(.int a4)])) rfl (hb hby at_24) _ ?_
    show Steps p.tables e below (s₁.setTop (mkF m 26 #[.val (.long a1), .second, .val (.long a2), .second, .val (.long a3), .second, .val (.int a4), .val (.long a5), .second, .val (.long a6), .second, .val (.long u1), .second, .val (.long u2), .second, .val (.long u3), .second, .unset, .unset, .unset, .unset, .unset, .unset, .unset, .unset, .unset, .unset, .unset, .unset] [(.int (2147483647 : Int32)), (.int a4)])) _
    refine XS.iand X0.here hx rfl (hb hby at_26) rfl ?_
    exact kt
  obtain ⟨u4, hu4⟩ : ∃ q : Int32, q = (a4 &&& (2147483647 : Int32)) := ⟨_, rfl⟩
  rw [← hu4]
  refine Gl.up (B := s₁.setTop (mkF m 35 #[.val (.long a1), .second, .val (.long a2), .second, .val (.long a3), .second, .val (.int a4), .val (.long a5), .second, .val (.long a6), .second, .val (.long u1), .second, .val (.long u2), .second, .val (.long u3), .second, .val (.int u4), .unset, .unset, .unset, .unset, .unset, .unset, .unset, .unset, .unset, .unset, .unset] [(.long (a5 &&& (9223372036854775807 : Int64)))])) (fun t kt => ?_) ?_
  · show Steps p.tables e below (s₁.setTop (mkF m 27 #[.val (.long a1), .second, .val (.long a2), .second, .val (.long a3), .second, .val (.int a4), .val (.long a5), .second, .val (.long a6), .second, .val (.long u1), .second, .val (.long u2), .second, .val (.long u3), .second, .unset, .unset, .unset, .unset, .unset, .unset, .unset, .unset, .unset, .unset, .unset, .unset] [(.int u4)])) _
    refine XS.istore X0.here hx rfl (hb hby at_27) rfl (l' := #[.val (.long a1), .second, .val (.long a2), .second, .val (.long a3), .second, .val (.int a4), .val (.long a5), .second, .val (.long a6), .second, .val (.long u1), .second, .val (.long u2), .second, .val (.long u3), .second, .val (.int u4), .unset, .unset, .unset, .unset, .unset, .unset, .unset, .unset, .unset, .unset, .unset]) rfl ?_
    show Steps p.tables e below (s₁.setTop (mkF m 29 #[.val (.long a1), .second, .val (.long a2), .second, .val (.long a3), .second, .val (.int a4), .val (.long a5), .second, .val (.long a6), .second, .val (.long u1), .second, .val (.long u2), .second, .val (.long u3), .second, .val (.int u4), .unset, .unset, .unset, .unset, .unset, .unset, .unset, .unset, .unset, .unset, .unset] [])) _
    refine XS.lload X0.here hx rfl (hb hby at_29) rfl ?_
    show Steps p.tables e below (s₁.setTop (mkF m 31 #[.val (.long a1), .second, .val (.long a2), .second, .val (.long a3), .second, .val (.int a4), .val (.long a5), .second, .val (.long a6), .second, .val (.long u1), .second, .val (.long u2), .second, .val (.long u3), .second, .val (.int u4), .unset, .unset, .unset, .unset, .unset, .unset, .unset, .unset, .unset, .unset, .unset] [(.long a5)])) _
    refine X0.ldc2Long hx hown (mvT hZ (hw _ (List.mem_of_getElem? (i := 0) rfl))) (g := (mkF m 31 #[.val (.long a1), .second, .val (.long a2), .second, .val (.long a3), .second, .val (.int a4), .val (.long a5), .second, .val (.long a6), .second, .val (.long u1), .second, .val (.long u2), .second, .val (.long u3), .second, .val (.int u4), .unset, .unset, .unset, .unset, .unset, .unset, .unset, .unset, .unset, .unset, .unset] [(.long a5)])) rfl (hb hby at_31) _ ?_
    show Steps p.tables e below (s₁.setTop (mkF m 34 #[.val (.long a1), .second, .val (.long a2), .second, .val (.long a3), .second, .val (.int a4), .val (.long a5), .second, .val (.long a6), .second, .val (.long u1), .second, .val (.long u2), .second, .val (.long u3), .second, .val (.int u4), .unset, .unset, .unset, .unset, .unset, .unset, .unset, .unset, .unset, .unset, .unset] [(.long (9223372036854775807 : Int64)), (.long a5)])) _
    refine XS.land X0.here hx rfl (hb hby at_34) rfl ?_
    exact kt
  obtain ⟨u5, hu5⟩ : ∃ q : Int64, q = (a5 &&& (9223372036854775807 : Int64)) := ⟨_, rfl⟩
  rw [← hu5]
  refine Gl.up (B := s₁.setTop (mkF m 43 #[.val (.long a1), .second, .val (.long a2), .second, .val (.long a3), .second, .val (.int a4), .val (.long a5), .second, .val (.long a6), .second, .val (.long u1), .second, .val (.long u2), .second, .val (.long u3), .second, .val (.int u4), .val (.long u5), .second, .unset, .unset, .unset, .unset, .unset, .unset, .unset, .unset, .unset] [(.long (a6 &&& (9223372036854775807 : Int64)))])) (fun t kt => ?_) ?_
  · show Steps p.tables e below (s₁.setTop (mkF m 35 #[.val (.long a1), .second, .val (.long a2), .second, .val (.long a3), .second, .val (.int a4), .val (.long a5), .second, .val (.long a6), .second, .val (.long u1), .second, .val (.long u2), .second, .val (.long u3), .second, .val (.int u4), .unset, .unset, .unset, .unset, .unset, .unset, .unset, .unset, .unset, .unset, .unset] [(.long u5)])) _
    refine XS.lstore X0.here hx rfl (hb hby at_35) rfl (l' := #[.val (.long a1), .second, .val (.long a2), .second, .val (.long a3), .second, .val (.int a4), .val (.long a5), .second, .val (.long a6), .second, .val (.long u1), .second, .val (.long u2), .second, .val (.long u3), .second, .val (.int u4), .val (.long u5), .second, .unset, .unset, .unset, .unset, .unset, .unset, .unset, .unset, .unset]) rfl ?_
    show Steps p.tables e below (s₁.setTop (mkF m 37 #[.val (.long a1), .second, .val (.long a2), .second, .val (.long a3), .second, .val (.int a4), .val (.long a5), .second, .val (.long a6), .second, .val (.long u1), .second, .val (.long u2), .second, .val (.long u3), .second, .val (.int u4), .val (.long u5), .second, .unset, .unset, .unset, .unset, .unset, .unset, .unset, .unset, .unset] [])) _
    refine XS.lload X0.here hx rfl (hb hby at_37) rfl ?_
    show Steps p.tables e below (s₁.setTop (mkF m 39 #[.val (.long a1), .second, .val (.long a2), .second, .val (.long a3), .second, .val (.int a4), .val (.long a5), .second, .val (.long a6), .second, .val (.long u1), .second, .val (.long u2), .second, .val (.long u3), .second, .val (.int u4), .val (.long u5), .second, .unset, .unset, .unset, .unset, .unset, .unset, .unset, .unset, .unset] [(.long a6)])) _
    refine X0.ldc2Long hx hown (mvT hZ (hw _ (List.mem_of_getElem? (i := 0) rfl))) (g := (mkF m 39 #[.val (.long a1), .second, .val (.long a2), .second, .val (.long a3), .second, .val (.int a4), .val (.long a5), .second, .val (.long a6), .second, .val (.long u1), .second, .val (.long u2), .second, .val (.long u3), .second, .val (.int u4), .val (.long u5), .second, .unset, .unset, .unset, .unset, .unset, .unset, .unset, .unset, .unset] [(.long a6)])) rfl (hb hby at_39) _ ?_
    show Steps p.tables e below (s₁.setTop (mkF m 42 #[.val (.long a1), .second, .val (.long a2), .second, .val (.long a3), .second, .val (.int a4), .val (.long a5), .second, .val (.long a6), .second, .val (.long u1), .second, .val (.long u2), .second, .val (.long u3), .second, .val (.int u4), .val (.long u5), .second, .unset, .unset, .unset, .unset, .unset, .unset, .unset, .unset, .unset] [(.long (9223372036854775807 : Int64)), (.long a6)])) _
    refine XS.land X0.here hx rfl (hb hby at_42) rfl ?_
    exact kt
  obtain ⟨u6, hu6⟩ : ∃ q : Int64, q = (a6 &&& (9223372036854775807 : Int64)) := ⟨_, rfl⟩
  rw [← hu6]
  refine Gl.up (B := s₁.setTop (mkF m 45 #[.val (.long a1), .second, .val (.long a2), .second, .val (.long a3), .second, .val (.int a4), .val (.long a5), .second, .val (.long a6), .second, .val (.long u1), .second, .val (.long u2), .second, .val (.long u3), .second, .val (.int u4), .val (.long u5), .second, .val (.long u6), .second, .unset, .unset, .unset, .unset, .unset, .unset, .unset] [])) (fun t kt => ?_) ?_
  · show Steps p.tables e below (s₁.setTop (mkF m 43 #[.val (.long a1), .second, .val (.long a2), .second, .val (.long a3), .second, .val (.int a4), .val (.long a5), .second, .val (.long a6), .second, .val (.long u1), .second, .val (.long u2), .second, .val (.long u3), .second, .val (.int u4), .val (.long u5), .second, .unset, .unset, .unset, .unset, .unset, .unset, .unset, .unset, .unset] [(.long u6)])) _
    refine XS.lstore X0.here hx rfl (hb hby at_43) rfl (l' := #[.val (.long a1), .second, .val (.long a2), .second, .val (.long a3), .second, .val (.int a4), .val (.long a5), .second, .val (.long a6), .second, .val (.long u1), .second, .val (.long u2), .second, .val (.long u3), .second, .val (.int u4), .val (.long u5), .second, .val (.long u6), .second, .unset, .unset, .unset, .unset, .unset, .unset, .unset]) rfl ?_
    exact kt
  obtain ⟨T7, h7, X7, e7, E7, A7, D7, -, st7⟩ := newO X0 hx hZ hown (hw _ (List.mem_of_getElem? (i := 3) rfl)) (hw _ (List.mem_of_getElem? (i := 4) rfl)) (hw _ (List.mem_of_getElem? (i := 5) rfl)) e0 (g := (mkF m 45 #[.val (.long a1), .second, .val (.long a2), .second, .val (.long a3), .second, .val (.int a4), .val (.long a5), .second, .val (.long a6), .second, .val (.long u1), .second, .val (.long u2), .second, .val (.long u3), .second, .val (.int u4), .val (.long u5), .second, .val (.long u6), .second, .unset, .unset, .unset, .unset, .unset, .unset, .unset] [])) rfl (hb hby at_45) (by decide) (by decide)
  obtain ⟨b7, gq7⟩ : ∃ z, z = h0.size := ⟨_, rfl⟩
  rw [← gq7] at A7 D7 st7
  have g_b7 : n0 ≤ b7 := Nat.le_trans (old_le O0) (Nat.le_of_eq gq7.symm)
  have O7 := O0.ext E7
  have F_b7_type_7 : Fld Z h7 b7 "com/example/pooltergeist/pooltergeist/pool/ClassDefinition" "type" "Ljava/lang/String;" .null := D7 (Or.inr (hw _ (List.mem_of_getElem? (i := 23) rfl))) (ty := (.object "java/lang/String")) (by decide)
  have F_b7_store_7 : Fld Z h7 b7 "com/example/pooltergeist/pooltergeist/pool/ClassDefinition" "store" "Ljava/lang/String;" .null := D7 (Or.inr (hw _ (List.mem_of_getElem? (i := 25) rfl))) (ty := (.object "java/lang/String")) (by decide)
  have F_b7_group_7 : Fld Z h7 b7 "com/example/pooltergeist/pooltergeist/pool/ClassDefinition" "group" "Ljava/lang/String;" .null := D7 (Or.inr (hw _ (List.mem_of_getElem? (i := 27) rfl))) (ty := (.object "java/lang/String")) (by decide)
  have F_b7_pending_7 : Fld Z h7 b7 "com/example/pooltergeist/pooltergeist/pool/ClassDefinition" "pending" "J" (.long (0 : Int64)) := D7 (Or.inr (hw _ (List.mem_of_getElem? (i := 29) rfl))) (ty := .long) (by decide)
  have F_b7_total_7 : Fld Z h7 b7 "com/example/pooltergeist/pooltergeist/pool/ClassDefinition" "total" "J" (.long (0 : Int64)) := D7 (Or.inr (hw _ (List.mem_of_getElem? (i := 31) rfl))) (ty := .long) (by decide)
  have F_b7_expireSeconds_7 : Fld Z h7 b7 "com/example/pooltergeist/pooltergeist/pool/ClassDefinition" "expireSeconds" "J" (.long (0 : Int64)) := D7 (Or.inr (hw _ (List.mem_of_getElem? (i := 33) rfl))) (ty := .long) (by decide)
  refine Gl.up (B := T7.setTop (mkF m 48 #[.val (.long a1), .second, .val (.long a2), .second, .val (.long a3), .second, .val (.int a4), .val (.long a5), .second, .val (.long a6), .second, .val (.long u1), .second, .val (.long u2), .second, .val (.long u3), .second, .val (.int u4), .val (.long u5), .second, .val (.long u6), .second, .unset, .unset, .unset, .unset, .unset, .unset, .unset] [(.ref b7)])) (fun t kt => st7 _ kt) ?_
  refine Gl.up (B := T7.setTop (mkF m 49 #[.val (.long a1), .second, .val (.long a2), .second, .val (.long a3), .second, .val (.int a4), .val (.long a5), .second, .val (.long a6), .second, .val (.long u1), .second, .val (.long u2), .second, .val (.long u3), .second, .val (.int u4), .val (.long u5), .second, .val (.long u6), .second, .unset, .unset, .unset, .unset, .unset, .unset, .unset] [(.ref b7), (.ref b7)])) (fun t kt => ?_) ?_
  · show Steps p.tables e below (T7.setTop (mkF m 48 #[.val (.long a1), .second, .val (.long a2), .second, .val (.long a3), .second, .val (.int a4), .val (.long a5), .second, .val (.long a6), .second, .val (.long u1), .second, .val (.long u2), .second, .val (.long u3), .second, .val (.int u4), .val (.long u5), .second, .val (.long u6), .second, .unset, .unset, .unset, .unset, .unset, .unset, .unset] [(.ref b7)])) _
    refine XS.dup X7.here hx rfl (hb hby at_48) rfl rfl ?_
    exact kt
  have hS0 : s.Since s.vm 0 := (State.WarmedH.refl s).since 0
  have XS8 : Stand p l e room_1 (s.setVm s.vm) m args below meth c T7 [] 1 6 := X7
  obtain ⟨b8, T8, h8, k8, X8, e8, E8, hS8, hk8, hZ, hown, st8⟩ := ldcS XS8 hx hZ hown (hw _ (List.mem_of_getElem? (i := 6) rfl)) (own_wS hw) e7 hS0 (Nat.zero_le _) (g := (mkF m 49 #[.val (.long a1), .second, .val (.long a2), .second, .val (.long a3), .second, .val (.int a4), .val (.long a5), .second, .val (.long a6), .second, .val (.long u1), .second, .val (.long u2), .second, .val (.long u3), .second, .val (.int u4), .val (.long u5), .second, .val (.long u6), .second, .unset, .unset, .unset, .unset, .unset, .unset, .unset] [(.ref b7), (.ref b7)])) rfl (hb hby at_49) (n := 4) (by decide) (by decide) (by decide) (by decide)
  have O8 := O7.ext E8
  have E_b7_8 := A7.ext E8
  have F_b7_type_8 := F_b7_type_7.ext E8
  have F_b7_store_8 := F_b7_store_7.ext E8
  have F_b7_group_8 := F_b7_group_7.ext E8
  have F_b7_pending_8 := F_b7_pending_7.ext E8
  have F_b7_total_8 := F_b7_total_7.ext E8
  have F_b7_expireSeconds_8 := F_b7_expireSeconds_7.ext E8
  refine Gl.up (B := T8.setTop (mkF m 51 #[.val (.long a1), .second, .val (.long a2), .second, .val (.long a3), .second, .val (.int a4), .val (.long a5), .second, .val (.long a6), .second, .val (.long u1), .second, .val (.long u2), .second, .val (.long u3), .second, .val (.int u4), .val (.long u5), .second, .val (.long u6), .second, .unset, .unset, .unset, .unset, .unset, .unset, .unset] [(.ref b8), (.ref b7), (.ref b7)])) (fun t kt => st8 _ kt) ?_
  obtain ⟨b9, T9, h9, k9, X9, e9, E9, hS9, hk9, hZ, hown, st9⟩ := ldcS X8 hx hZ hown (hw _ (List.mem_of_getElem? (i := 14) rfl)) (own_wS hw) e8 hS8 hk8 (g := (mkF m 51 #[.val (.long a1), .second, .val (.long a2), .second, .val (.long a3), .second, .val (.int a4), .val (.long a5), .second, .val (.long a6), .second, .val (.long u1), .second, .val (.long u2), .second, .val (.long u3), .second, .val (.int u4), .val (.long u5), .second, .val (.long u6), .second, .unset, .unset, .unset, .unset, .unset, .unset, .unset] [(.ref b8), (.ref b7), (.ref b7)])) rfl (hb hby at_51) (n := 4) (by decide) (by decide) (by decide) (by decide)
  have O9 := O8.ext E9
  have E_b7_9 := E_b7_8.ext E9
  have F_b7_type_9 := F_b7_type_8.ext E9
  have F_b7_store_9 := F_b7_store_8.ext E9
  have F_b7_group_9 := F_b7_group_8.ext E9
  have F_b7_pending_9 := F_b7_pending_8.ext E9
  have F_b7_total_9 := F_b7_total_8.ext E9
  have F_b7_expireSeconds_9 := F_b7_expireSeconds_8.ext E9
  refine Gl.up (B := T9.setTop (mkF m 53 #[.val (.long a1), .second, .val (.long a2), .second, .val (.long a3), .second, .val (.int a4), .val (.long a5), .second, .val (.long a6), .second, .val (.long u1), .second, .val (.long u2), .second, .val (.long u3), .second, .val (.int u4), .val (.long u5), .second, .val (.long u6), .second, .unset, .unset, .unset, .unset, .unset, .unset, .unset] [(.ref b9), (.ref b8), (.ref b7), (.ref b7)])) (fun t kt => st9 _ kt) ?_
  obtain ⟨b10, T10, h10, k10, X10, e10, E10, hS10, hk10, hZ, hown, st10⟩ := ldcS X9 hx hZ hown (hw _ (List.mem_of_getElem? (i := 15) rfl)) (own_wS hw) e9 hS9 hk9 (g := (mkF m 53 #[.val (.long a1), .second, .val (.long a2), .second, .val (.long a3), .second, .val (.int a4), .val (.long a5), .second, .val (.long a6), .second, .val (.long u1), .second, .val (.long u2), .second, .val (.long u3), .second, .val (.int u4), .val (.long u5), .second, .val (.long u6), .second, .unset, .unset, .unset, .unset, .unset, .unset, .unset] [(.ref b9), (.ref b8), (.ref b7), (.ref b7)])) rfl (hb hby at_53) (n := 4) (by decide) (by decide) (by decide) (by decide)
  have O10 := O9.ext E10
  have E_b7_10 := E_b7_9.ext E10
  have F_b7_type_10 := F_b7_type_9.ext E10
  have F_b7_store_10 := F_b7_store_9.ext E10
  have F_b7_group_10 := F_b7_group_9.ext E10
  have F_b7_pending_10 := F_b7_pending_9.ext E10
  have F_b7_total_10 := F_b7_total_9.ext E10
  have F_b7_expireSeconds_10 := F_b7_expireSeconds_9.ext E10
  refine Gl.up (B := T10.setTop (mkF m 55 #[.val (.long a1), .second, .val (.long a2), .second, .val (.long a3), .second, .val (.int a4), .val (.long a5), .second, .val (.long a6), .second, .val (.long u1), .second, .val (.long u2), .second, .val (.long u3), .second, .val (.int u4), .val (.long u5), .second, .val (.long u6), .second, .unset, .unset, .unset, .unset, .unset, .unset, .unset] [(.ref b10), (.ref b9), (.ref b8), (.ref b7), (.ref b7)])) (fun t kt => st10 _ kt) ?_
  refine Gl.up (B := T10.setTop (mkF m 61 #[.val (.long a1), .second, .val (.long a2), .second, .val (.long a3), .second, .val (.int a4), .val (.long a5), .second, .val (.long a6), .second, .val (.long u1), .second, .val (.long u2), .second, .val (.long u3), .second, .val (.int u4), .val (.long u5), .second, .val (.long u6), .second, .unset, .unset, .unset, .unset, .unset, .unset, .unset] [(.long u3), (.long u2), (.long u1), (.ref b10), (.ref b9), (.ref b8), (.ref b7), (.ref b7)])) (fun t kt => ?_) ?_
  · show Steps p.tables e below (T10.setTop (mkF m 55 #[.val (.long a1), .second, .val (.long a2), .second, .val (.long a3), .second, .val (.int a4), .val (.long a5), .second, .val (.long a6), .second, .val (.long u1), .second, .val (.long u2), .second, .val (.long u3), .second, .val (.int u4), .val (.long u5), .second, .val (.long u6), .second, .unset, .unset, .unset, .unset, .unset, .unset, .unset] [(.ref b10), (.ref b9), (.ref b8), (.ref b7), (.ref b7)])) _
    refine XS.lload X10.here hx rfl (hb hby at_55) rfl ?_
    show Steps p.tables e below (T10.setTop (mkF m 57 #[.val (.long a1), .second, .val (.long a2), .second, .val (.long a3), .second, .val (.int a4), .val (.long a5), .second, .val (.long a6), .second, .val (.long u1), .second, .val (.long u2), .second, .val (.long u3), .second, .val (.int u4), .val (.long u5), .second, .val (.long u6), .second, .unset, .unset, .unset, .unset, .unset, .unset, .unset] [(.long u1), (.ref b10), (.ref b9), (.ref b8), (.ref b7), (.ref b7)])) _
    refine XS.lload X10.here hx rfl (hb hby at_57) rfl ?_
    show Steps p.tables e below (T10.setTop (mkF m 59 #[.val (.long a1), .second, .val (.long a2), .second, .val (.long a3), .second, .val (.int a4), .val (.long a5), .second, .val (.long a6), .second, .val (.long u1), .second, .val (.long u2), .second, .val (.long u3), .second, .val (.int u4), .val (.long u5), .second, .val (.long u6), .second, .unset, .unset, .unset, .unset, .unset, .unset, .unset] [(.long u2), (.long u1), (.ref b10), (.ref b9), (.ref b8), (.ref b7), (.ref b7)])) _
    refine XS.lload X10.here hx rfl (hb hby at_59) rfl ?_
    exact kt
  obtain ⟨_, _, ⟨T11, L11, k11, n11⟩, -, X11, ⟨Lc11, hQ11, l11, y11, z11⟩, st11⟩ := X10.specialBack hx (y := (⟨"com/example/pooltergeist/pooltergeist/pool/ClassDefinition", "<init>", "(Ljava/lang/String;Ljava/lang/String;Ljava/lang/String;JJJ)V"⟩ : MethodName)) rfl hown (mvT hZ (hw _ (List.mem_of_getElem? (i := 16) rfl))) (mvT hZ (hw _ (List.mem_of_getElem? (i := 17) rfl))) (mvT hZ (hw _ (List.mem_of_getElem? (i := 18) rfl))) (by decide) (backOf (W := 1) (rm1 l Z aa hw [] b7 b8 b9 b10 u1 u2 u3 (0 : Int64) (0 : Int64) (0 : Int64) h10 n0 O10 E_b7_10 F_b7_type_10 F_b7_store_10 F_b7_group_10 F_b7_pending_10 F_b7_total_10 F_b7_expireSeconds_10 g_b7) hZ (hw _ (List.mem_of_getElem? (i := 18) rfl)) (hw _ (List.mem_of_getElem? (i := 5) rfl)) (by decide) (by decide)) (g := (mkF m 61 #[.val (.long a1), .second, .val (.long a2), .second, .val (.long a3), .second, .val (.int a4), .val (.long a5), .second, .val (.long a6), .second, .val (.long u1), .second, .val (.long u2), .second, .val (.long u3), .second, .val (.int u4), .val (.long u5), .second, .val (.long u6), .second, .unset, .unset, .unset, .unset, .unset, .unset, .unset] [(.long u3), (.long u2), (.long u1), (.ref b10), (.ref b9), (.ref b8), (.ref b7), (.ref b7)])) rfl (by rw [hml]; rfl) (Steps.refl _) (a := b7) (argsL := [(.ref b8), (.ref b9), (.ref b10), (.long u1), (.long u2), (.long u3)]) (rest := [(.ref b7)]) (lenOf pd_oLjava_lang_StringLjava_lang_StringLjava_lang_StringJJJcV rfl) rfl (by show 2 * 0 + _ ≤ _; exact Nat.le_of_eq rfl) (hb hby at_61) (fun _ _ => ⟨rfl, e10, (by decide : 7 + 0 ≤ _), (by decide : 30 + 0 ≤ _)⟩)
  dsimp only [Pt.U, Pt.locs, Pt.cells, Pt.slots] at X11 l11 y11 z11 st11 hQ11
  subst l11 y11 z11
  obtain ⟨rfl, M11, K11, F_b7_pending_11, F_b7_total_11, F_b7_expireSeconds_11⟩ := hQ11
  have N11 := Fr.app N0 M11
  have O11 := O10.keep K11 (allS g_b7 all0)
  have E_b7_11 := E_b7_10.keep K11
  refine Gl.up (B := T11.setTop (mkF m 64 #[.val (.long a1), .second, .val (.long a2), .second, .val (.long a3), .second, .val (.int a4), .val (.long a5), .second, .val (.long a6), .second, .val (.long u1), .second, .val (.long u2), .second, .val (.long u3), .second, .val (.int u4), .val (.long u5), .second, .val (.long u6), .second, .unset, .unset, .unset, .unset, .unset, .unset, .unset] [(.ref b7)])) (fun t kt => st11.trans kt) ?_
  refine Gl.up (B := T11.setTop (mkF m 74 #[.val (.long a1), .second, .val (.long a2), .second, .val (.long a3), .second, .val (.int a4), .val (.long a5), .second, .val (.long a6), .second, .val (.long u1), .second, .val (.long u2), .second, .val (.long u3), .second, .val (.int u4), .val (.long u5), .second, .val (.long u6), .second, .val (.ref b7), .unset, .unset, .unset, .unset, .unset, .unset] [(.long u6), (.long u5), (.int u4), (.ref b7)])) (fun t kt => ?_) ?_
  · show Steps p.tables e below (T11.setTop (mkF m 64 #[.val (.long a1), .second, .val (.long a2), .second, .val (.long a3), .second, .val (.int a4), .val (.long a5), .second, .val (.long a6), .second, .val (.long u1), .second, .val (.long u2), .second, .val (.long u3), .second, .val (.int u4), .val (.long u5), .second, .val (.long u6), .second, .unset, .unset, .unset, .unset, .unset, .unset, .unset] [(.ref b7)])) _
    refine XS.astore X11.here hx rfl (hb hby at_64) rfl rfl (l' := #[.val (.long a1), .second, .val (.long a2), .second, .val (.long a3), .second, .val (.int a4), .val (.long a5), .second, .val (.long a6), .second, .val (.long u1), .second, .val (.long u2), .second, .val (.long u3), .second, .val (.int u4), .val (.long u5), .second, .val (.long u6), .second, .val (.ref b7), .unset, .unset, .unset, .unset, .unset, .unset]) rfl ?_
    show Steps p.tables e below (T11.setTop (mkF m 66 #[.val (.long a1), .second, .val (.long a2), .second, .val (.long a3), .second, .val (.int a4), .val (.long a5), .second, .val (.long a6), .second, .val (.long u1), .second, .val (.long u2), .second, .val (.long u3), .second, .val (.int u4), .val (.long u5), .second, .val (.long u6), .second, .val (.ref b7), .unset, .unset, .unset, .unset, .unset, .unset] [])) _
    refine XS.aload X11.here hx rfl (hb hby at_66) rfl rfl ?_
    show Steps p.tables e below (T11.setTop (mkF m 68 #[.val (.long a1), .second, .val (.long a2), .second, .val (.long a3), .second, .val (.int a4), .val (.long a5), .second, .val (.long a6), .second, .val (.long u1), .second, .val (.long u2), .second, .val (.long u3), .second, .val (.int u4), .val (.long u5), .second, .val (.long u6), .second, .val (.ref b7), .unset, .unset, .unset, .unset, .unset, .unset] [(.ref b7)])) _
    refine XS.iload X11.here hx rfl (hb hby at_68) rfl ?_
    show Steps p.tables e below (T11.setTop (mkF m 70 #[.val (.long a1), .second, .val (.long a2), .second, .val (.long a3), .second, .val (.int a4), .val (.long a5), .second, .val (.long a6), .second, .val (.long u1), .second, .val (.long u2), .second, .val (.long u3), .second, .val (.int u4), .val (.long u5), .second, .val (.long u6), .second, .val (.ref b7), .unset, .unset, .unset, .unset, .unset, .unset] [(.int u4), (.ref b7)])) _
    refine XS.lload X11.here hx rfl (hb hby at_70) rfl ?_
    show Steps p.tables e below (T11.setTop (mkF m 72 #[.val (.long a1), .second, .val (.long a2), .second, .val (.long a3), .second, .val (.int a4), .val (.long a5), .second, .val (.long a6), .second, .val (.long u1), .second, .val (.long u2), .second, .val (.long u3), .second, .val (.int u4), .val (.long u5), .second, .val (.long u6), .second, .val (.ref b7), .unset, .unset, .unset, .unset, .unset, .unset] [(.long u5), (.int u4), (.ref b7)])) _
    refine XS.lload X11.here hx rfl (hb hby at_72) rfl ?_
    exact kt
  obtain ⟨cq12, kq12, q12a, q12b, q12c⟩ := isOf hZ rfl E_b7_11
  obtain ⟨_, _, ⟨T12, L12, k12, n12⟩, -, X12, ⟨Lc12, hQ12, l12, y12, z12⟩, st12⟩ := X11.virtualBack hx (y := (⟨"com/example/pooltergeist/pooltergeist/pool/ClassDefinition", "due", "(IJJ)Z"⟩ : MethodName)) (z := (⟨"com/example/pooltergeist/pooltergeist/pool/ClassDefinition", "due", "(IJJ)Z"⟩ : MethodName)) hown (mvT hZ (hw _ (List.mem_of_getElem? (i := 34) rfl))) (mvT hZ (hw _ (List.mem_of_getElem? (i := 35) rfl))) (notFace_of_selects (args := #[]) (mvT hZ (hw _ (List.mem_of_getElem? (i := 37) rfl)))) (mvT hZ (hw _ (List.mem_of_getElem? (i := 37) rfl))) (mvT hZ (hw _ (List.mem_of_getElem? (i := 36) rfl))) (by decide) (backOf (W := 0) (rm2 l Z aa hw [] b7 u4 u5 u6 u1 u2 u3 T11.heap n0 O11 E_b7_11 F_b7_pending_11 F_b7_total_11 F_b7_expireSeconds_11) hZ (hw _ (List.mem_of_getElem? (i := 38) rfl)) (hw _ (List.mem_of_getElem? (i := 5) rfl)) (by decide) (by decide)) q12a q12c (g := (mkF m 74 #[.val (.long a1), .second, .val (.long a2), .second, .val (.long a3), .second, .val (.int a4), .val (.long a5), .second, .val (.long a6), .second, .val (.long u1), .second, .val (.long u2), .second, .val (.long u3), .second, .val (.int u4), .val (.long u5), .second, .val (.long u6), .second, .val (.ref b7), .unset, .unset, .unset, .unset, .unset, .unset] [(.long u6), (.long u5), (.int u4), (.ref b7)])) rfl (by rw [hml]; rfl) (Steps.refl _) (argsL := [(.int u4), (.long u5), (.long u6)]) (rest := []) (lenOf pd_oIJJcZ rfl) rfl (by show 2 * 0 + _ ≤ _; exact Nat.le_of_eq rfl) (hb hby at_74) (fun _ _ => ⟨rfl, rfl, (by decide : 7 + 0 ≤ _), (by decide : 30 + 0 ≤ _)⟩)
  dsimp only [Pt.U, Pt.locs, Pt.cells, Pt.slots] at X12 l12 y12 z12 st12 hQ12
  subst l12 y12 z12
  obtain ⟨rfl, rfl, e12⟩ := hQ12
  try rw [List.append_nil] at X12
  refine Gl.up (B := T12.setTop (mkF m 77 #[.val (.long a1), .second, .val (.long a2), .second, .val (.long a3), .second, .val (.int a4), .val (.long a5), .second, .val (.long a6), .second, .val (.long u1), .second, .val (.long u2), .second, .val (.long u3), .second, .val (.int u4), .val (.long u5), .second, .val (.long u6), .second, .val (.ref b7), .unset, .unset, .unset, .unset, .unset, .unset] [(.int (f2 u4 u5 u6 u1 u2 u3))])) (fun t kt => st12.trans kt) ?_
  refine Gl.up (B := T12.setTop (mkF m 83 #[.val (.long a1), .second, .val (.long a2), .second, .val (.long a3), .second, .val (.int a4), .val (.long a5), .second, .val (.long a6), .second, .val (.long u1), .second, .val (.long u2), .second, .val (.long u3), .second, .val (.int u4), .val (.long u5), .second, .val (.long u6), .second, .val (.ref b7), .val (.int (f2 u4 u5 u6 u1 u2 u3)), .unset, .unset, .unset, .unset, .unset] [(.int (lcmpW u1 (0 : Int64)))])) (fun t kt => ?_) ?_
  · show Steps p.tables e below (T12.setTop (mkF m 77 #[.val (.long a1), .second, .val (.long a2), .second, .val (.long a3), .second, .val (.int a4), .val (.long a5), .second, .val (.long a6), .second, .val (.long u1), .second, .val (.long u2), .second, .val (.long u3), .second, .val (.int u4), .val (.long u5), .second, .val (.long u6), .second, .val (.ref b7), .unset, .unset, .unset, .unset, .unset, .unset] [(.int (f2 u4 u5 u6 u1 u2 u3))])) _
    refine XS.istore X12.here hx rfl (hb hby at_77) rfl (l' := #[.val (.long a1), .second, .val (.long a2), .second, .val (.long a3), .second, .val (.int a4), .val (.long a5), .second, .val (.long a6), .second, .val (.long u1), .second, .val (.long u2), .second, .val (.long u3), .second, .val (.int u4), .val (.long u5), .second, .val (.long u6), .second, .val (.ref b7), .val (.int (f2 u4 u5 u6 u1 u2 u3)), .unset, .unset, .unset, .unset, .unset]) rfl ?_
    show Steps p.tables e below (T12.setTop (mkF m 79 #[.val (.long a1), .second, .val (.long a2), .second, .val (.long a3), .second, .val (.int a4), .val (.long a5), .second, .val (.long a6), .second, .val (.long u1), .second, .val (.long u2), .second, .val (.long u3), .second, .val (.int u4), .val (.long u5), .second, .val (.long u6), .second, .val (.ref b7), .val (.int (f2 u4 u5 u6 u1 u2 u3)), .unset, .unset, .unset, .unset, .unset] [])) _
    refine XS.lload X12.here hx rfl (hb hby at_79) rfl ?_
    show Steps p.tables e below (T12.setTop (mkF m 81 #[.val (.long a1), .second, .val (.long a2), .second, .val (.long a3), .second, .val (.int a4), .val (.long a5), .second, .val (.long a6), .second, .val (.long u1), .second, .val (.long u2), .second, .val (.long u3), .second, .val (.int u4), .val (.long u5), .second, .val (.long u6), .second, .val (.ref b7), .val (.int (f2 u4 u5 u6 u1 u2 u3)), .unset, .unset, .unset, .unset, .unset] [(.long u1)])) _
    refine XS.lconst X12.here hx rfl (hb hby at_81) ?_
    show Steps p.tables e below (T12.setTop (mkF m 82 #[.val (.long a1), .second, .val (.long a2), .second, .val (.long a3), .second, .val (.int a4), .val (.long a5), .second, .val (.long a6), .second, .val (.long u1), .second, .val (.long u2), .second, .val (.long u3), .second, .val (.int u4), .val (.long u5), .second, .val (.long u6), .second, .val (.ref b7), .val (.int (f2 u4 u5 u6 u1 u2 u3)), .unset, .unset, .unset, .unset, .unset] [(.long (0 : Int64)), (.long u1)])) _
    refine XS.lcmp X12.here hx rfl (hb hby at_82) rfl ?_
    exact kt
  suffices J13 : ∀ (T13 : State) (lc13 : List Loc) (v13_s0 : Int32), v13_s0 = (if u1 = (0 : Int64) then (if u2 = (0 : Int64) then (if u3 = (0 : Int64) then (0 : Int32) else (1 : Int32)) else (1 : Int32)) else (1 : Int32)) → Stand p l e room_1 (s.setVm T10.vm) m args below meth c T13 lc13 7 30 → T13.heap = T11.heap → Fr n0 lc13 → Gl p e below (RetW s 7 30 (Q0 n0)) (T13.setTop (mkF m 105 #[.val (.long a1), .second, .val (.long a2), .second, .val (.long a3), .second, .val (.int a4), .val (.long a5), .second, .val (.long a6), .second, .val (.long u1), .second, .val (.long u2), .second, .val (.long u3), .second, .val (.int u4), .val (.long u5), .second, .val (.long u6), .second, .val (.ref b7), .val (.int (f2 u4 u5 u6 u1 u2 u3)), .unset, .unset, .unset, .unset, .unset] [(.int v13_s0)])) by
    by_cases c83_14 : u1 = (0 : Int64)
    · refine Gl.up (B := T12.setTop (mkF m 90 #[.val (.long a1), .second, .val (.long a2), .second, .val (.long a3), .second, .val (.int a4), .val (.long a5), .second, .val (.long a6), .second, .val (.long u1), .second, .val (.long u2), .second, .val (.long u3), .second, .val (.int u4), .val (.long u5), .second, .val (.long u6), .second, .val (.ref b7), .val (.int (f2 u4 u5 u6 u1 u2 u3)), .unset, .unset, .unset, .unset, .unset] [(.int (lcmpW u2 (0 : Int64)))])) (fun t kt => ?_) ?_
      · show Steps p.tables e below (T12.setTop (mkF m 83 #[.val (.long a1), .second, .val (.long a2), .second, .val (.long a3), .second, .val (.int a4), .val (.long a5), .second, .val (.long a6), .second, .val (.long u1), .second, .val (.long u2), .second, .val (.long u3), .second, .val (.int u4), .val (.long u5), .second, .val (.long u6), .second, .val (.ref b7), .val (.int (f2 u4 u5 u6 u1 u2 u3)), .unset, .unset, .unset, .unset, .unset] [(.int (lcmpW u1 (0 : Int64)))])) _
        refine XS.ifNo X12.here hx rfl (hb hby at_83) rfl (jc_ne_f c83_14) ?_
        show Steps p.tables e below (T12.setTop (mkF m 86 #[.val (.long a1), .second, .val (.long a2), .second, .val (.long a3), .second, .val (.int a4), .val (.long a5), .second, .val (.long a6), .second, .val (.long u1), .second, .val (.long u2), .second, .val (.long u3), .second, .val (.int u4), .val (.long u5), .second, .val (.long u6), .second, .val (.ref b7), .val (.int (f2 u4 u5 u6 u1 u2 u3)), .unset, .unset, .unset, .unset, .unset] [])) _
        refine XS.lload X12.here hx rfl (hb hby at_86) rfl ?_
        show Steps p.tables e below (T12.setTop (mkF m 88 #[.val (.long a1), .second, .val (.long a2), .second, .val (.long a3), .second, .val (.int a4), .val (.long a5), .second, .val (.long a6), .second, .val (.long u1), .second, .val (.long u2), .second, .val (.long u3), .second, .val (.int u4), .val (.long u5), .second, .val (.long u6), .second, .val (.ref b7), .val (.int (f2 u4 u5 u6 u1 u2 u3)), .unset, .unset, .unset, .unset, .unset] [(.long u2)])) _
        refine XS.lconst X12.here hx rfl (hb hby at_88) ?_
        show Steps p.tables e below (T12.setTop (mkF m 89 #[.val (.long a1), .second, .val (.long a2), .second, .val (.long a3), .second, .val (.int a4), .val (.long a5), .second, .val (.long a6), .second, .val (.long u1), .second, .val (.long u2), .second, .val (.long u3), .second, .val (.int u4), .val (.long u5), .second, .val (.long u6), .second, .val (.ref b7), .val (.int (f2 u4 u5 u6 u1 u2 u3)), .unset, .unset, .unset, .unset, .unset] [(.long (0 : Int64)), (.long u2)])) _
        refine XS.lcmp X12.here hx rfl (hb hby at_89) rfl ?_
        exact kt
      by_cases c90_15 : u2 = (0 : Int64)
      · refine Gl.up (B := T12.setTop (mkF m 97 #[.val (.long a1), .second, .val (.long a2), .second, .val (.long a3), .second, .val (.int a4), .val (.long a5), .second, .val (.long a6), .second, .val (.long u1), .second, .val (.long u2), .second, .val (.long u3), .second, .val (.int u4), .val (.long u5), .second, .val (.long u6), .second, .val (.ref b7), .val (.int (f2 u4 u5 u6 u1 u2 u3)), .unset, .unset, .unset, .unset, .unset] [(.int (lcmpW u3 (0 : Int64)))])) (fun t kt => ?_) ?_
        · show Steps p.tables e below (T12.setTop (mkF m 90 #[.val (.long a1), .second, .val (.long a2), .second, .val (.long a3), .second, .val (.int a4), .val (.long a5), .second, .val (.long a6), .second, .val (.long u1), .second, .val (.long u2), .second, .val (.long u3), .second, .val (.int u4), .val (.long u5), .second, .val (.long u6), .second, .val (.ref b7), .val (.int (f2 u4 u5 u6 u1 u2 u3)), .unset, .unset, .unset, .unset, .unset] [(.int (lcmpW u2 (0 : Int64)))])) _
          refine XS.ifNo X12.here hx rfl (hb hby at_90) rfl (jc_ne_f c90_15) ?_
          show Steps p.tables e below (T12.setTop (mkF m 93 #[.val (.long a1), .second, .val (.long a2), .second, .val (.long a3), .second, .val (.int a4), .val (.long a5), .second, .val (.long a6), .second, .val (.long u1), .second, .val (.long u2), .second, .val (.long u3), .second, .val (.int u4), .val (.long u5), .second, .val (.long u6), .second, .val (.ref b7), .val (.int (f2 u4 u5 u6 u1 u2 u3)), .unset, .unset, .unset, .unset, .unset] [])) _
          refine XS.lload X12.here hx rfl (hb hby at_93) rfl ?_
          show Steps p.tables e below (T12.setTop (mkF m 95 #[.val (.long a1), .second, .val (.long a2), .second, .val (.long a3), .second, .val (.int a4), .val (.long a5), .second, .val (.long a6), .second, .val (.long u1), .second, .val (.long u2), .second, .val (.long u3), .second, .val (.int u4), .val (.long u5), .second, .val (.long u6), .second, .val (.ref b7), .val (.int (f2 u4 u5 u6 u1 u2 u3)), .unset, .unset, .unset, .unset, .unset] [(.long u3)])) _
          refine XS.lconst X12.here hx rfl (hb hby at_95) ?_
          show Steps p.tables e below (T12.setTop (mkF m 96 #[.val (.long a1), .second, .val (.long a2), .second, .val (.long a3), .second, .val (.int a4), .val (.long a5), .second, .val (.long a6), .second, .val (.long u1), .second, .val (.long u2), .second, .val (.long u3), .second, .val (.int u4), .val (.long u5), .second, .val (.long u6), .second, .val (.ref b7), .val (.int (f2 u4 u5 u6 u1 u2 u3)), .unset, .unset, .unset, .unset, .unset] [(.long (0 : Int64)), (.long u3)])) _
          refine XS.lcmp X12.here hx rfl (hb hby at_96) rfl ?_
          exact kt
        by_cases c97_16 : u3 = (0 : Int64)
        · refine Gl.up (B := T12.setTop (mkF m 105 #[.val (.long a1), .second, .val (.long a2), .second, .val (.long a3), .second, .val (.int a4), .val (.long a5), .second, .val (.long a6), .second, .val (.long u1), .second, .val (.long u2), .second, .val (.long u3), .second, .val (.int u4), .val (.long u5), .second, .val (.long u6), .second, .val (.ref b7), .val (.int (f2 u4 u5 u6 u1 u2 u3)), .unset, .unset, .unset, .unset, .unset] [(.int (0 : Int32))])) (fun t kt => ?_) ?_
          · show Steps p.tables e below (T12.setTop (mkF m 97 #[.val (.long a1), .second, .val (.long a2), .second, .val (.long a3), .second, .val (.int a4), .val (.long a5), .second, .val (.long a6), .second, .val (.long u1), .second, .val (.long u2), .second, .val (.long u3), .second, .val (.int u4), .val (.long u5), .second, .val (.long u6), .second, .val (.ref b7), .val (.int (f2 u4 u5 u6 u1 u2 u3)), .unset, .unset, .unset, .unset, .unset] [(.int (lcmpW u3 (0 : Int64)))])) _
            refine XS.ifYes X12.here hx rfl (pc0 := 97) (pc' := 104) rfl (hb hby at_97) rfl (jc_eq_t c97_16) (by decide) (by decide) ?_
            show Steps p.tables e below (T12.setTop (mkF m 104 #[.val (.long a1), .second, .val (.long a2), .second, .val (.long a3), .second, .val (.int a4), .val (.long a5), .second, .val (.long a6), .second, .val (.long u1), .second, .val (.long u2), .second, .val (.long u3), .second, .val (.int u4), .val (.long u5), .second, .val (.long u6), .second, .val (.ref b7), .val (.int (f2 u4 u5 u6 u1 u2 u3)), .unset, .unset, .unset, .unset, .unset] [])) _
            refine XS.iconst X12.here hx rfl (hb hby at_104) ?_
            exact kt
          exact J13 _ _ (0 : Int32) (((if_pos c83_14).trans (if_pos c90_15)).trans (if_pos c97_16)).symm X12 e12 N11
        · refine Gl.up (B := T12.setTop (mkF m 105 #[.val (.long a1), .second, .val (.long a2), .second, .val (.long a3), .second, .val (.int a4), .val (.long a5), .second, .val (.long a6), .second, .val (.long u1), .second, .val (.long u2), .second, .val (.long u3), .second, .val (.int u4), .val (.long u5), .second, .val (.long u6), .second, .val (.ref b7), .val (.int (f2 u4 u5 u6 u1 u2 u3)), .unset, .unset, .unset, .unset, .unset] [(.int (1 : Int32))])) (fun t kt => ?_) ?_
          · show Steps p.tables e below (T12.setTop (mkF m 97 #[.val (.long a1), .second, .val (.long a2), .second, .val (.long a3), .second, .val (.int a4), .val (.long a5), .second, .val (.long a6), .second, .val (.long u1), .second, .val (.long u2), .second, .val (.long u3), .second, .val (.int u4), .val (.long u5), .second, .val (.long u6), .second, .val (.ref b7), .val (.int (f2 u4 u5 u6 u1 u2 u3)), .unset, .unset, .unset, .unset, .unset] [(.int (lcmpW u3 (0 : Int64)))])) _
            refine XS.ifNo X12.here hx rfl (hb hby at_97) rfl (jc_eq_f c97_16) ?_
            show Steps p.tables e below (T12.setTop (mkF m 100 #[.val (.long a1), .second, .val (.long a2), .second, .val (.long a3), .second, .val (.int a4), .val (.long a5), .second, .val (.long a6), .second, .val (.long u1), .second, .val (.long u2), .second, .val (.long u3), .second, .val (.int u4), .val (.long u5), .second, .val (.long u6), .second, .val (.ref b7), .val (.int (f2 u4 u5 u6 u1 u2 u3)), .unset, .unset, .unset, .unset, .unset] [])) _
            refine XS.iconst X12.here hx rfl (hb hby at_100) ?_
            show Steps p.tables e below (T12.setTop (mkF m 101 #[.val (.long a1), .second, .val (.long a2), .second, .val (.long a3), .second, .val (.int a4), .val (.long a5), .second, .val (.long a6), .second, .val (.long u1), .second, .val (.long u2), .second, .val (.long u3), .second, .val (.int u4), .val (.long u5), .second, .val (.long u6), .second, .val (.ref b7), .val (.int (f2 u4 u5 u6 u1 u2 u3)), .unset, .unset, .unset, .unset, .unset] [(.int (1 : Int32))])) _
            refine XS.goto X12.here hx rfl (pc0 := 101) (pc' := 105) rfl (hb hby at_101) (by decide) (by decide) ?_
            exact kt
          exact J13 _ _ (1 : Int32) (((if_pos c83_14).trans (if_pos c90_15)).trans (if_neg c97_16)).symm X12 e12 N11
      · refine Gl.up (B := T12.setTop (mkF m 105 #[.val (.long a1), .second, .val (.long a2), .second, .val (.long a3), .second, .val (.int a4), .val (.long a5), .second, .val (.long a6), .second, .val (.long u1), .second, .val (.long u2), .second, .val (.long u3), .second, .val (.int u4), .val (.long u5), .second, .val (.long u6), .second, .val (.ref b7), .val (.int (f2 u4 u5 u6 u1 u2 u3)), .unset, .unset, .unset, .unset, .unset] [(.int (1 : Int32))])) (fun t kt => ?_) ?_
        · show Steps p.tables e below (T12.setTop (mkF m 90 #[.val (.long a1), .second, .val (.long a2), .second, .val (.long a3), .second, .val (.int a4), .val (.long a5), .second, .val (.long a6), .second, .val (.long u1), .second, .val (.long u2), .second, .val (.long u3), .second, .val (.int u4), .val (.long u5), .second, .val (.long u6), .second, .val (.ref b7), .val (.int (f2 u4 u5 u6 u1 u2 u3)), .unset, .unset, .unset, .unset, .unset] [(.int (lcmpW u2 (0 : Int64)))])) _
          refine XS.ifYes X12.here hx rfl (pc0 := 90) (pc' := 100) rfl (hb hby at_90) rfl (jc_ne_t c90_15) (by decide) (by decide) ?_
          show Steps p.tables e below (T12.setTop (mkF m 100 #[.val (.long a1), .second, .val (.long a2), .second, .val (.long a3), .second, .val (.int a4), .val (.long a5), .second, .val (.long a6), .second, .val (.long u1), .second, .val (.long u2), .second, .val (.long u3), .second, .val (.int u4), .val (.long u5), .second, .val (.long u6), .second, .val (.ref b7), .val (.int (f2 u4 u5 u6 u1 u2 u3)), .unset, .unset, .unset, .unset, .unset] [])) _
          refine XS.iconst X12.here hx rfl (hb hby at_100) ?_
          show Steps p.tables e below (T12.setTop (mkF m 101 #[.val (.long a1), .second, .val (.long a2), .second, .val (.long a3), .second, .val (.int a4), .val (.long a5), .second, .val (.long a6), .second, .val (.long u1), .second, .val (.long u2), .second, .val (.long u3), .second, .val (.int u4), .val (.long u5), .second, .val (.long u6), .second, .val (.ref b7), .val (.int (f2 u4 u5 u6 u1 u2 u3)), .unset, .unset, .unset, .unset, .unset] [(.int (1 : Int32))])) _
          refine XS.goto X12.here hx rfl (pc0 := 101) (pc' := 105) rfl (hb hby at_101) (by decide) (by decide) ?_
          exact kt
        exact J13 _ _ (1 : Int32) ((if_pos c83_14).trans (if_neg c90_15)).symm X12 e12 N11
    · refine Gl.up (B := T12.setTop (mkF m 105 #[.val (.long a1), .second, .val (.long a2), .second, .val (.long a3), .second, .val (.int a4), .val (.long a5), .second, .val (.long a6), .second, .val (.long u1), .second, .val (.long u2), .second, .val (.long u3), .second, .val (.int u4), .val (.long u5), .second, .val (.long u6), .second, .val (.ref b7), .val (.int (f2 u4 u5 u6 u1 u2 u3)), .unset, .unset, .unset, .unset, .unset] [(.int (1 : Int32))])) (fun t kt => ?_) ?_
      · show Steps p.tables e below (T12.setTop (mkF m 83 #[.val (.long a1), .second, .val (.long a2), .second, .val (.long a3), .second, .val (.int a4), .val (.long a5), .second, .val (.long a6), .second, .val (.long u1), .second, .val (.long u2), .second, .val (.long u3), .second, .val (.int u4), .val (.long u5), .second, .val (.long u6), .second, .val (.ref b7), .val (.int (f2 u4 u5 u6 u1 u2 u3)), .unset, .unset, .unset, .unset, .unset] [(.int (lcmpW u1 (0 : Int64)))])) _
        refine XS.ifYes X12.here hx rfl (pc0 := 83) (pc' := 100) rfl (hb hby at_83) rfl (jc_ne_t c83_14) (by decide) (by decide) ?_
        show Steps p.tables e below (T12.setTop (mkF m 100 #[.val (.long a1), .second, .val (.long a2), .second, .val (.long a3), .second, .val (.int a4), .val (.long a5), .second, .val (.long a6), .second, .val (.long u1), .second, .val (.long u2), .second, .val (.long u3), .second, .val (.int u4), .val (.long u5), .second, .val (.long u6), .second, .val (.ref b7), .val (.int (f2 u4 u5 u6 u1 u2 u3)), .unset, .unset, .unset, .unset, .unset] [])) _
        refine XS.iconst X12.here hx rfl (hb hby at_100) ?_
        show Steps p.tables e below (T12.setTop (mkF m 101 #[.val (.long a1), .second, .val (.long a2), .second, .val (.long a3), .second, .val (.int a4), .val (.long a5), .second, .val (.long a6), .second, .val (.long u1), .second, .val (.long u2), .second, .val (.long u3), .second, .val (.int u4), .val (.long u5), .second, .val (.long u6), .second, .val (.ref b7), .val (.int (f2 u4 u5 u6 u1 u2 u3)), .unset, .unset, .unset, .unset, .unset] [(.int (1 : Int32))])) _
        refine XS.goto X12.here hx rfl (pc0 := 101) (pc' := 105) rfl (hb hby at_101) (by decide) (by decide) ?_
        exact kt
      exact J13 _ _ (1 : Int32) (if_neg c83_14).symm X12 e12 N11
  intro T13 lc13 v13_s0 hv13_s0 X13 e13 N13
  have hv13_s0b : v13_s0 = 0 ∨ v13_s0 = 1 := by rw [hv13_s0]; exact (b01_ite (b01_ite (b01_ite (Or.inl rfl) (Or.inr rfl)) (Or.inr rfl)) (Or.inr rfl))
  refine Gl.up (B := T13.setTop (mkF m 111 #[.val (.long a1), .second, .val (.long a2), .second, .val (.long a3), .second, .val (.int a4), .val (.long a5), .second, .val (.long a6), .second, .val (.long u1), .second, .val (.long u2), .second, .val (.long u3), .second, .val (.int u4), .val (.long u5), .second, .val (.long u6), .second, .val (.ref b7), .val (.int (f2 u4 u5 u6 u1 u2 u3)), .val (.int v13_s0), .unset, .unset, .unset, .unset] [(.int (lcmpW u1 (0 : Int64)))])) (fun t kt => ?_) ?_
  · show Steps p.tables e below (T13.setTop (mkF m 105 #[.val (.long a1), .second, .val (.long a2), .second, .val (.long a3), .second, .val (.int a4), .val (.long a5), .second, .val (.long a6), .second, .val (.long u1), .second, .val (.long u2), .second, .val (.long u3), .second, .val (.int u4), .val (.long u5), .second, .val (.long u6), .second, .val (.ref b7), .val (.int (f2 u4 u5 u6 u1 u2 u3)), .unset, .unset, .unset, .unset, .unset] [(.int v13_s0)])) _
    refine XS.istore X13.here hx rfl (hb hby at_105) rfl (l' := #[.val (.long a1), .second, .val (.long a2), .second, .val (.long a3), .second, .val (.int a4), .val (.long a5), .second, .val (.long a6), .second, .val (.long u1), .second, .val (.long u2), .second, .val (.long u3), .second, .val (.int u4), .val (.long u5), .second, .val (.long u6), .second, .val (.ref b7), .val (.int (f2 u4 u5 u6 u1 u2 u3)), .val (.int v13_s0), .unset, .unset, .unset, .unset]) rfl ?_
    show Steps p.tables e below (T13.setTop (mkF m 107 #[.val (.long a1), .second, .val (.long a2), .second, .val (.long a3), .second, .val (.int a4), .val (.long a5), .second, .val (.long a6), .second, .val (.long u1), .second, .val (.long u2), .second, .val (.long u3), .second, .val (.int u4), .val (.long u5), .second, .val (.long u6), .second, .val (.ref b7), .val (.int (f2 u4 u5 u6 u1 u2 u3)), .val (.int v13_s0), .unset, .unset, .unset, .unset] [])) _
    refine XS.lload X13.here hx rfl (hb hby at_107) rfl ?_
    show Steps p.tables e below (T13.setTop (mkF m 109 #[.val (.long a1), .second, .val (.long a2), .second, .val (.long a3), .second, .val (.int a4), .val (.long a5), .second, .val (.long a6), .second, .val (.long u1), .second, .val (.long u2), .second, .val (.long u3), .second, .val (.int u4), .val (.long u5), .second, .val (.long u6), .second, .val (.ref b7), .val (.int (f2 u4 u5 u6 u1 u2 u3)), .val (.int v13_s0), .unset, .unset, .unset, .unset] [(.long u1)])) _
    refine XS.lconst X13.here hx rfl (hb hby at_109) ?_
    show Steps p.tables e below (T13.setTop (mkF m 110 #[.val (.long a1), .second, .val (.long a2), .second, .val (.long a3), .second, .val (.int a4), .val (.long a5), .second, .val (.long a6), .second, .val (.long u1), .second, .val (.long u2), .second, .val (.long u3), .second, .val (.int u4), .val (.long u5), .second, .val (.long u6), .second, .val (.ref b7), .val (.int (f2 u4 u5 u6 u1 u2 u3)), .val (.int v13_s0), .unset, .unset, .unset, .unset] [(.long (0 : Int64)), (.long u1)])) _
    refine XS.lcmp X13.here hx rfl (hb hby at_110) rfl ?_
    exact kt
  suffices J17 : ∀ (T17 : State) (v17_s0 : Int32), v17_s0 = (if u1 = (0 : Int64) then (0 : Int32) else (if (u4.toInt64) < u1 then (0 : Int32) else (1 : Int32))) → Stand p l e room_1 (s.setVm T10.vm) m args below meth c T17 lc13 7 30 → T17.heap = T11.heap → Gl p e below (RetW s 7 30 (Q0 n0)) (T17.setTop (mkF m 128 #[.val (.long a1), .second, .val (.long a2), .second, .val (.long a3), .second, .val (.int a4), .val (.long a5), .second, .val (.long a6), .second, .val (.long u1), .second, .val (.long u2), .second, .val (.long u3), .second, .val (.int u4), .val (.long u5), .second, .val (.long u6), .second, .val (.ref b7), .val (.int (f2 u4 u5 u6 u1 u2 u3)), .val (.int v13_s0), .unset, .unset, .unset, .unset] [(.int v17_s0)])) by
    by_cases c111_18 : u1 = (0 : Int64)
    · refine Gl.up (B := T13.setTop (mkF m 128 #[.val (.long a1), .second, .val (.long a2), .second, .val (.long a3), .second, .val (.int a4), .val (.long a5), .second, .val (.long a6), .second, .val (.long u1), .second, .val (.long u2), .second, .val (.long u3), .second, .val (.int u4), .val (.long u5), .second, .val (.long u6), .second, .val (.ref b7), .val (.int (f2 u4 u5 u6 u1 u2 u3)), .val (.int v13_s0), .unset, .unset, .unset, .unset] [(.int (0 : Int32))])) (fun t kt => ?_) ?_
      · show Steps p.tables e below (T13.setTop (mkF m 111 #[.val (.long a1), .second, .val (.long a2), .second, .val (.long a3), .second, .val (.int a4), .val (.long a5), .second, .val (.long a6), .second, .val (.long u1), .second, .val (.long u2), .second, .val (.long u3), .second, .val (.int u4), .val (.long u5), .second, .val (.long u6), .second, .val (.ref b7), .val (.int (f2 u4 u5 u6 u1 u2 u3)), .val (.int v13_s0), .unset, .unset, .unset, .unset] [(.int (lcmpW u1 (0 : Int64)))])) _
        refine XS.ifYes X13.here hx rfl (pc0 := 111) (pc' := 127) rfl (hb hby at_111) rfl (jc_eq_t c111_18) (by decide) (by decide) ?_
        show Steps p.tables e below (T13.setTop (mkF m 127 #[.val (.long a1), .second, .val (.long a2), .second, .val (.long a3), .second, .val (.int a4), .val (.long a5), .second, .val (.long a6), .second, .val (.long u1), .second, .val (.long u2), .second, .val (.long u3), .second, .val (.int u4), .val (.long u5), .second, .val (.long u6), .second, .val (.ref b7), .val (.int (f2 u4 u5 u6 u1 u2 u3)), .val (.int v13_s0), .unset, .unset, .unset, .unset] [])) _
        refine XS.iconst X13.here hx rfl (hb hby at_127) ?_
        exact kt
      exact J17 _ (0 : Int32) (if_pos c111_18).symm X13 e13
    · refine Gl.up (B := T13.setTop (mkF m 120 #[.val (.long a1), .second, .val (.long a2), .second, .val (.long a3), .second, .val (.int a4), .val (.long a5), .second, .val (.long a6), .second, .val (.long u1), .second, .val (.long u2), .second, .val (.long u3), .second, .val (.int u4), .val (.long u5), .second, .val (.long u6), .second, .val (.ref b7), .val (.int (f2 u4 u5 u6 u1 u2 u3)), .val (.int v13_s0), .unset, .unset, .unset, .unset] [(.int (lcmpW (u4.toInt64) u1))])) (fun t kt => ?_) ?_
      · show Steps p.tables e below (T13.setTop (mkF m 111 #[.val (.long a1), .second, .val (.long a2), .second, .val (.long a3), .second, .val (.int a4), .val (.long a5), .second, .val (.long a6), .second, .val (.long u1), .second, .val (.long u2), .second, .val (.long u3), .second, .val (.int u4), .val (.long u5), .second, .val (.long u6), .second, .val (.ref b7), .val (.int (f2 u4 u5 u6 u1 u2 u3)), .val (.int v13_s0), .unset, .unset, .unset, .unset] [(.int (lcmpW u1 (0 : Int64)))])) _
        refine XS.ifNo X13.here hx rfl (hb hby at_111) rfl (jc_eq_f c111_18) ?_
        show Steps p.tables e below (T13.setTop (mkF m 114 #[.val (.long a1), .second, .val (.long a2), .second, .val (.long a3), .second, .val (.int a4), .val (.long a5), .second, .val (.long a6), .second, .val (.long u1), .second, .val (.long u2), .second, .val (.long u3), .second, .val (.int u4), .val (.long u5), .second, .val (.long u6), .second, .val (.ref b7), .val (.int (f2 u4 u5 u6 u1 u2 u3)), .val (.int v13_s0), .unset, .unset, .unset, .unset] [])) _
        refine XS.iload X13.here hx rfl (hb hby at_114) rfl ?_
        show Steps p.tables e below (T13.setTop (mkF m 116 #[.val (.long a1), .second, .val (.long a2), .second, .val (.long a3), .second, .val (.int a4), .val (.long a5), .second, .val (.long a6), .second, .val (.long u1), .second, .val (.long u2), .second, .val (.long u3), .second, .val (.int u4), .val (.long u5), .second, .val (.long u6), .second, .val (.ref b7), .val (.int (f2 u4 u5 u6 u1 u2 u3)), .val (.int v13_s0), .unset, .unset, .unset, .unset] [(.int u4)])) _
        refine XS.i2l X13.here hx rfl (hb hby at_116) rfl ?_
        show Steps p.tables e below (T13.setTop (mkF m 117 #[.val (.long a1), .second, .val (.long a2), .second, .val (.long a3), .second, .val (.int a4), .val (.long a5), .second, .val (.long a6), .second, .val (.long u1), .second, .val (.long u2), .second, .val (.long u3), .second, .val (.int u4), .val (.long u5), .second, .val (.long u6), .second, .val (.ref b7), .val (.int (f2 u4 u5 u6 u1 u2 u3)), .val (.int v13_s0), .unset, .unset, .unset, .unset] [(.long (u4.toInt64))])) _
        refine XS.lload X13.here hx rfl (hb hby at_117) rfl ?_
        show Steps p.tables e below (T13.setTop (mkF m 119 #[.val (.long a1), .second, .val (.long a2), .second, .val (.long a3), .second, .val (.int a4), .val (.long a5), .second, .val (.long a6), .second, .val (.long u1), .second, .val (.long u2), .second, .val (.long u3), .second, .val (.int u4), .val (.long u5), .second, .val (.long u6), .second, .val (.ref b7), .val (.int (f2 u4 u5 u6 u1 u2 u3)), .val (.int v13_s0), .unset, .unset, .unset, .unset] [(.long u1), (.long (u4.toInt64))])) _
        refine XS.lcmp X13.here hx rfl (hb hby at_119) rfl ?_
        exact kt
      by_cases c120_19 : (u4.toInt64) < u1
      · refine Gl.up (B := T13.setTop (mkF m 128 #[.val (.long a1), .second, .val (.long a2), .second, .val (.long a3), .second, .val (.int a4), .val (.long a5), .second, .val (.long a6), .second, .val (.long u1), .second, .val (.long u2), .second, .val (.long u3), .second, .val (.int u4), .val (.long u5), .second, .val (.long u6), .second, .val (.ref b7), .val (.int (f2 u4 u5 u6 u1 u2 u3)), .val (.int v13_s0), .unset, .unset, .unset, .unset] [(.int (0 : Int32))])) (fun t kt => ?_) ?_
        · show Steps p.tables e below (T13.setTop (mkF m 120 #[.val (.long a1), .second, .val (.long a2), .second, .val (.long a3), .second, .val (.int a4), .val (.long a5), .second, .val (.long a6), .second, .val (.long u1), .second, .val (.long u2), .second, .val (.long u3), .second, .val (.int u4), .val (.long u5), .second, .val (.long u6), .second, .val (.ref b7), .val (.int (f2 u4 u5 u6 u1 u2 u3)), .val (.int v13_s0), .unset, .unset, .unset, .unset] [(.int (lcmpW (u4.toInt64) u1))])) _
          refine XS.ifYes X13.here hx rfl (pc0 := 120) (pc' := 127) rfl (hb hby at_120) rfl (jc_lt_t c120_19) (by decide) (by decide) ?_
          show Steps p.tables e below (T13.setTop (mkF m 127 #[.val (.long a1), .second, .val (.long a2), .second, .val (.long a3), .second, .val (.int a4), .val (.long a5), .second, .val (.long a6), .second, .val (.long u1), .second, .val (.long u2), .second, .val (.long u3), .second, .val (.int u4), .val (.long u5), .second, .val (.long u6), .second, .val (.ref b7), .val (.int (f2 u4 u5 u6 u1 u2 u3)), .val (.int v13_s0), .unset, .unset, .unset, .unset] [])) _
          refine XS.iconst X13.here hx rfl (hb hby at_127) ?_
          exact kt
        exact J17 _ (0 : Int32) ((if_neg c111_18).trans (if_pos c120_19)).symm X13 e13
      · refine Gl.up (B := T13.setTop (mkF m 128 #[.val (.long a1), .second, .val (.long a2), .second, .val (.long a3), .second, .val (.int a4), .val (.long a5), .second, .val (.long a6), .second, .val (.long u1), .second, .val (.long u2), .second, .val (.long u3), .second, .val (.int u4), .val (.long u5), .second, .val (.long u6), .second, .val (.ref b7), .val (.int (f2 u4 u5 u6 u1 u2 u3)), .val (.int v13_s0), .unset, .unset, .unset, .unset] [(.int (1 : Int32))])) (fun t kt => ?_) ?_
        · show Steps p.tables e below (T13.setTop (mkF m 120 #[.val (.long a1), .second, .val (.long a2), .second, .val (.long a3), .second, .val (.int a4), .val (.long a5), .second, .val (.long a6), .second, .val (.long u1), .second, .val (.long u2), .second, .val (.long u3), .second, .val (.int u4), .val (.long u5), .second, .val (.long u6), .second, .val (.ref b7), .val (.int (f2 u4 u5 u6 u1 u2 u3)), .val (.int v13_s0), .unset, .unset, .unset, .unset] [(.int (lcmpW (u4.toInt64) u1))])) _
          refine XS.ifNo X13.here hx rfl (hb hby at_120) rfl (jc_lt_f c120_19) ?_
          show Steps p.tables e below (T13.setTop (mkF m 123 #[.val (.long a1), .second, .val (.long a2), .second, .val (.long a3), .second, .val (.int a4), .val (.long a5), .second, .val (.long a6), .second, .val (.long u1), .second, .val (.long u2), .second, .val (.long u3), .second, .val (.int u4), .val (.long u5), .second, .val (.long u6), .second, .val (.ref b7), .val (.int (f2 u4 u5 u6 u1 u2 u3)), .val (.int v13_s0), .unset, .unset, .unset, .unset] [])) _
          refine XS.iconst X13.here hx rfl (hb hby at_123) ?_
          show Steps p.tables e below (T13.setTop (mkF m 124 #[.val (.long a1), .second, .val (.long a2), .second, .val (.long a3), .second, .val (.int a4), .val (.long a5), .second, .val (.long a6), .second, .val (.long u1), .second, .val (.long u2), .second, .val (.long u3), .second, .val (.int u4), .val (.long u5), .second, .val (.long u6), .second, .val (.ref b7), .val (.int (f2 u4 u5 u6 u1 u2 u3)), .val (.int v13_s0), .unset, .unset, .unset, .unset] [(.int (1 : Int32))])) _
          refine XS.goto X13.here hx rfl (pc0 := 124) (pc' := 128) rfl (hb hby at_124) (by decide) (by decide) ?_
          exact kt
        exact J17 _ (1 : Int32) ((if_neg c111_18).trans (if_neg c120_19)).symm X13 e13
  intro T17 v17_s0 hv17_s0 X17 e17
  have hv17_s0b : v17_s0 = 0 ∨ v17_s0 = 1 := by rw [hv17_s0]; exact (b01_ite (Or.inl rfl) (b01_ite (Or.inl rfl) (Or.inr rfl)))
  refine Gl.up (B := T17.setTop (mkF m 134 #[.val (.long a1), .second, .val (.long a2), .second, .val (.long a3), .second, .val (.int a4), .val (.long a5), .second, .val (.long a6), .second, .val (.long u1), .second, .val (.long u2), .second, .val (.long u3), .second, .val (.int u4), .val (.long u5), .second, .val (.long u6), .second, .val (.ref b7), .val (.int (f2 u4 u5 u6 u1 u2 u3)), .val (.int v13_s0), .val (.int v17_s0), .unset, .unset, .unset] [(.int (lcmpW u2 (0 : Int64)))])) (fun t kt => ?_) ?_
  · show Steps p.tables e below (T17.setTop (mkF m 128 #[.val (.long a1), .second, .val (.long a2), .second, .val (.long a3), .second, .val (.int a4), .val (.long a5), .second, .val (.long a6), .second, .val (.long u1), .second, .val (.long u2), .second, .val (.long u3), .second, .val (.int u4), .val (.long u5), .second, .val (.long u6), .second, .val (.ref b7), .val (.int (f2 u4 u5 u6 u1 u2 u3)), .val (.int v13_s0), .unset, .unset, .unset, .unset] [(.int v17_s0)])) _
    refine XS.istore X17.here hx rfl (hb hby at_128) rfl (l' := #[.val (.long a1), .second, .val (.long a2), .second, .val (.long a3), .second, .val (.int a4), .val (.long a5), .second, .val (.long a6), .second, .val (.long u1), .second, .val (.long u2), .second, .val (.long u3), .second, .val (.int u4), .val (.long u5), .second, .val (.long u6), .second, .val (.ref b7), .val (.int (f2 u4 u5 u6 u1 u2 u3)), .val (.int v13_s0), .val (.int v17_s0), .unset, .unset, .unset]) rfl ?_
    show Steps p.tables e below (T17.setTop (mkF m 130 #[.val (.long a1), .second, .val (.long a2), .second, .val (.long a3), .second, .val (.int a4), .val (.long a5), .second, .val (.long a6), .second, .val (.long u1), .second, .val (.long u2), .second, .val (.long u3), .second, .val (.int u4), .val (.long u5), .second, .val (.long u6), .second, .val (.ref b7), .val (.int (f2 u4 u5 u6 u1 u2 u3)), .val (.int v13_s0), .val (.int v17_s0), .unset, .unset, .unset] [])) _
    refine XS.lload X17.here hx rfl (hb hby at_130) rfl ?_
    show Steps p.tables e below (T17.setTop (mkF m 132 #[.val (.long a1), .second, .val (.long a2), .second, .val (.long a3), .second, .val (.int a4), .val (.long a5), .second, .val (.long a6), .second, .val (.long u1), .second, .val (.long u2), .second, .val (.long u3), .second, .val (.int u4), .val (.long u5), .second, .val (.long u6), .second, .val (.ref b7), .val (.int (f2 u4 u5 u6 u1 u2 u3)), .val (.int v13_s0), .val (.int v17_s0), .unset, .unset, .unset] [(.long u2)])) _
    refine XS.lconst X17.here hx rfl (hb hby at_132) ?_
    show Steps p.tables e below (T17.setTop (mkF m 133 #[.val (.long a1), .second, .val (.long a2), .second, .val (.long a3), .second, .val (.int a4), .val (.long a5), .second, .val (.long a6), .second, .val (.long u1), .second, .val (.long u2), .second, .val (.long u3), .second, .val (.int u4), .val (.long u5), .second, .val (.long u6), .second, .val (.ref b7), .val (.int (f2 u4 u5 u6 u1 u2 u3)), .val (.int v13_s0), .val (.int v17_s0), .unset, .unset, .unset] [(.long (0 : Int64)), (.long u2)])) _
    refine XS.lcmp X17.here hx rfl (hb hby at_133) rfl ?_
    exact kt
  suffices J20 : ∀ (T20 : State) (v20_s0 : Int32), v20_s0 = (if u2 = (0 : Int64) then (0 : Int32) else (if u5 < u2 then (0 : Int32) else (1 : Int32))) → Stand p l e room_1 (s.setVm T10.vm) m args below meth c T20 lc13 7 30 → T20.heap = T11.heap → Gl p e below (RetW s 7 30 (Q0 n0)) (T20.setTop (mkF m 150 #[.val (.long a1), .second, .val (.long a2), .second, .val (.long a3), .second, .val (.int a4), .val (.long a5), .second, .val (.long a6), .second, .val (.long u1), .second, .val (.long u2), .second, .val (.long u3), .second, .val (.int u4), .val (.long u5), .second, .val (.long u6), .second, .val (.ref b7), .val (.int (f2 u4 u5 u6 u1 u2 u3)), .val (.int v13_s0), .val (.int v17_s0), .unset, .unset, .unset] [(.int v20_s0)])) by
    by_cases c134_21 : u2 = (0 : Int64)
    · refine Gl.up (B := T17.setTop (mkF m 150 #[.val (.long a1), .second, .val (.long a2), .second, .val (.long a3), .second, .val (.int a4), .val (.long a5), .second, .val (.long a6), .second, .val (.long u1), .second, .val (.long u2), .second, .val (.long u3), .second, .val (.int u4), .val (.long u5), .second, .val (.long u6), .second, .val (.ref b7), .val (.int (f2 u4 u5 u6 u1 u2 u3)), .val (.int v13_s0), .val (.int v17_s0), .unset, .unset, .unset] [(.int (0 : Int32))])) (fun t kt => ?_) ?_
      · show Steps p.tables e below (T17.setTop (mkF m 134 #[.val (.long a1), .second, .val (.long a2), .second, .val (.long a3), .second, .val (.int a4), .val (.long a5), .second, .val (.long a6), .second, .val (.long u1), .second, .val (.long u2), .second, .val (.long u3), .second, .val (.int u4), .val (.long u5), .second, .val (.long u6), .second, .val (.ref b7), .val (.int (f2 u4 u5 u6 u1 u2 u3)), .val (.int v13_s0), .val (.int v17_s0), .unset, .unset, .unset] [(.int (lcmpW u2 (0 : Int64)))])) _
        refine XS.ifYes X17.here hx rfl (pc0 := 134) (pc' := 149) rfl (hb hby at_134) rfl (jc_eq_t c134_21) (by decide) (by decide) ?_
        show Steps p.tables e below (T17.setTop (mkF m 149 #[.val (.long a1), .second, .val (.long a2), .second, .val (.long a3), .second, .val (.int a4), .val (.long a5), .second, .val (.long a6), .second, .val (.long u1), .second, .val (.long u2), .second, .val (.long u3), .second, .val (.int u4), .val (.long u5), .second, .val (.long u6), .second, .val (.ref b7), .val (.int (f2 u4 u5 u6 u1 u2 u3)), .val (.int v13_s0), .val (.int v17_s0), .unset, .unset, .unset] [])) _
        refine XS.iconst X17.here hx rfl (hb hby at_149) ?_
        exact kt
      exact J20 _ (0 : Int32) (if_pos c134_21).symm X17 e17
    · refine Gl.up (B := T17.setTop (mkF m 142 #[.val (.long a1), .second, .val (.long a2), .second, .val (.long a3), .second, .val (.int a4), .val (.long a5), .second, .val (.long a6), .second, .val (.long u1), .second, .val (.long u2), .second, .val (.long u3), .second, .val (.int u4), .val (.long u5), .second, .val (.long u6), .second, .val (.ref b7), .val (.int (f2 u4 u5 u6 u1 u2 u3)), .val (.int v13_s0), .val (.int v17_s0), .unset, .unset, .unset] [(.int (lcmpW u5 u2))])) (fun t kt => ?_) ?_
      · show Steps p.tables e below (T17.setTop (mkF m 134 #[.val (.long a1), .second, .val (.long a2), .second, .val (.long a3), .second, .val (.int a4), .val (.long a5), .second, .val (.long a6), .second, .val (.long u1), .second, .val (.long u2), .second, .val (.long u3), .second, .val (.int u4), .val (.long u5), .second, .val (.long u6), .second, .val (.ref b7), .val (.int (f2 u4 u5 u6 u1 u2 u3)), .val (.int v13_s0), .val (.int v17_s0), .unset, .unset, .unset] [(.int (lcmpW u2 (0 : Int64)))])) _
        refine XS.ifNo X17.here hx rfl (hb hby at_134) rfl (jc_eq_f c134_21) ?_
        show Steps p.tables e below (T17.setTop (mkF m 137 #[.val (.long a1), .second, .val (.long a2), .second, .val (.long a3), .second, .val (.int a4), .val (.long a5), .second, .val (.long a6), .second, .val (.long u1), .second, .val (.long u2), .second, .val (.long u3), .second, .val (.int u4), .val (.long u5), .second, .val (.long u6), .second, .val (.ref b7), .val (.int (f2 u4 u5 u6 u1 u2 u3)), .val (.int v13_s0), .val (.int v17_s0), .unset, .unset, .unset] [])) _
        refine XS.lload X17.here hx rfl (hb hby at_137) rfl ?_
        show Steps p.tables e below (T17.setTop (mkF m 139 #[.val (.long a1), .second, .val (.long a2), .second, .val (.long a3), .second, .val (.int a4), .val (.long a5), .second, .val (.long a6), .second, .val (.long u1), .second, .val (.long u2), .second, .val (.long u3), .second, .val (.int u4), .val (.long u5), .second, .val (.long u6), .second, .val (.ref b7), .val (.int (f2 u4 u5 u6 u1 u2 u3)), .val (.int v13_s0), .val (.int v17_s0), .unset, .unset, .unset] [(.long u5)])) _
        refine XS.lload X17.here hx rfl (hb hby at_139) rfl ?_
        show Steps p.tables e below (T17.setTop (mkF m 141 #[.val (.long a1), .second, .val (.long a2), .second, .val (.long a3), .second, .val (.int a4), .val (.long a5), .second, .val (.long a6), .second, .val (.long u1), .second, .val (.long u2), .second, .val (.long u3), .second, .val (.int u4), .val (.long u5), .second, .val (.long u6), .second, .val (.ref b7), .val (.int (f2 u4 u5 u6 u1 u2 u3)), .val (.int v13_s0), .val (.int v17_s0), .unset, .unset, .unset] [(.long u2), (.long u5)])) _
        refine XS.lcmp X17.here hx rfl (hb hby at_141) rfl ?_
        exact kt
      by_cases c142_22 : u5 < u2
      · refine Gl.up (B := T17.setTop (mkF m 150 #[.val (.long a1), .second, .val (.long a2), .second, .val (.long a3), .second, .val (.int a4), .val (.long a5), .second, .val (.long a6), .second, .val (.long u1), .second, .val (.long u2), .second, .val (.long u3), .second, .val (.int u4), .val (.long u5), .second, .val (.long u6), .second, .val (.ref b7), .val (.int (f2 u4 u5 u6 u1 u2 u3)), .val (.int v13_s0), .val (.int v17_s0), .unset, .unset, .unset] [(.int (0 : Int32))])) (fun t kt => ?_) ?_
        · show Steps p.tables e below (T17.setTop (mkF m 142 #[.val (.long a1), .second, .val (.long a2), .second, .val (.long a3), .second, .val (.int a4), .val (.long a5), .second, .val (.long a6), .second, .val (.long u1), .second, .val (.long u2), .second, .val (.long u3), .second, .val (.int u4), .val (.long u5), .second, .val (.long u6), .second, .val (.ref b7), .val (.int (f2 u4 u5 u6 u1 u2 u3)), .val (.int v13_s0), .val (.int v17_s0), .unset, .unset, .unset] [(.int (lcmpW u5 u2))])) _
          refine XS.ifYes X17.here hx rfl (pc0 := 142) (pc' := 149) rfl (hb hby at_142) rfl (jc_lt_t c142_22) (by decide) (by decide) ?_
          show Steps p.tables e below (T17.setTop (mkF m 149 #[.val (.long a1), .second, .val (.long a2), .second, .val (.long a3), .second, .val (.int a4), .val (.long a5), .second, .val (.long a6), .second, .val (.long u1), .second, .val (.long u2), .second, .val (.long u3), .second, .val (.int u4), .val (.long u5), .second, .val (.long u6), .second, .val (.ref b7), .val (.int (f2 u4 u5 u6 u1 u2 u3)), .val (.int v13_s0), .val (.int v17_s0), .unset, .unset, .unset] [])) _
          refine XS.iconst X17.here hx rfl (hb hby at_149) ?_
          exact kt
        exact J20 _ (0 : Int32) ((if_neg c134_21).trans (if_pos c142_22)).symm X17 e17
      · refine Gl.up (B := T17.setTop (mkF m 150 #[.val (.long a1), .second, .val (.long a2), .second, .val (.long a3), .second, .val (.int a4), .val (.long a5), .second, .val (.long a6), .second, .val (.long u1), .second, .val (.long u2), .second, .val (.long u3), .second, .val (.int u4), .val (.long u5), .second, .val (.long u6), .second, .val (.ref b7), .val (.int (f2 u4 u5 u6 u1 u2 u3)), .val (.int v13_s0), .val (.int v17_s0), .unset, .unset, .unset] [(.int (1 : Int32))])) (fun t kt => ?_) ?_
        · show Steps p.tables e below (T17.setTop (mkF m 142 #[.val (.long a1), .second, .val (.long a2), .second, .val (.long a3), .second, .val (.int a4), .val (.long a5), .second, .val (.long a6), .second, .val (.long u1), .second, .val (.long u2), .second, .val (.long u3), .second, .val (.int u4), .val (.long u5), .second, .val (.long u6), .second, .val (.ref b7), .val (.int (f2 u4 u5 u6 u1 u2 u3)), .val (.int v13_s0), .val (.int v17_s0), .unset, .unset, .unset] [(.int (lcmpW u5 u2))])) _
          refine XS.ifNo X17.here hx rfl (hb hby at_142) rfl (jc_lt_f c142_22) ?_
          show Steps p.tables e below (T17.setTop (mkF m 145 #[.val (.long a1), .second, .val (.long a2), .second, .val (.long a3), .second, .val (.int a4), .val (.long a5), .second, .val (.long a6), .second, .val (.long u1), .second, .val (.long u2), .second, .val (.long u3), .second, .val (.int u4), .val (.long u5), .second, .val (.long u6), .second, .val (.ref b7), .val (.int (f2 u4 u5 u6 u1 u2 u3)), .val (.int v13_s0), .val (.int v17_s0), .unset, .unset, .unset] [])) _
          refine XS.iconst X17.here hx rfl (hb hby at_145) ?_
          show Steps p.tables e below (T17.setTop (mkF m 146 #[.val (.long a1), .second, .val (.long a2), .second, .val (.long a3), .second, .val (.int a4), .val (.long a5), .second, .val (.long a6), .second, .val (.long u1), .second, .val (.long u2), .second, .val (.long u3), .second, .val (.int u4), .val (.long u5), .second, .val (.long u6), .second, .val (.ref b7), .val (.int (f2 u4 u5 u6 u1 u2 u3)), .val (.int v13_s0), .val (.int v17_s0), .unset, .unset, .unset] [(.int (1 : Int32))])) _
          refine XS.goto X17.here hx rfl (pc0 := 146) (pc' := 150) rfl (hb hby at_146) (by decide) (by decide) ?_
          exact kt
        exact J20 _ (1 : Int32) ((if_neg c134_21).trans (if_neg c142_22)).symm X17 e17
  intro T20 v20_s0 hv20_s0 X20 e20
  have hv20_s0b : v20_s0 = 0 ∨ v20_s0 = 1 := by rw [hv20_s0]; exact (b01_ite (Or.inl rfl) (b01_ite (Or.inl rfl) (Or.inr rfl)))
  refine Gl.up (B := T20.setTop (mkF m 156 #[.val (.long a1), .second, .val (.long a2), .second, .val (.long a3), .second, .val (.int a4), .val (.long a5), .second, .val (.long a6), .second, .val (.long u1), .second, .val (.long u2), .second, .val (.long u3), .second, .val (.int u4), .val (.long u5), .second, .val (.long u6), .second, .val (.ref b7), .val (.int (f2 u4 u5 u6 u1 u2 u3)), .val (.int v13_s0), .val (.int v17_s0), .val (.int v20_s0), .unset, .unset] [(.int (lcmpW u3 (0 : Int64)))])) (fun t kt => ?_) ?_
  · show Steps p.tables e below (T20.setTop (mkF m 150 #[.val (.long a1), .second, .val (.long a2), .second, .val (.long a3), .second, .val (.int a4), .val (.long a5), .second, .val (.long a6), .second, .val (.long u1), .second, .val (.long u2), .second, .val (.long u3), .second, .val (.int u4), .val (.long u5), .second, .val (.long u6), .second, .val (.ref b7), .val (.int (f2 u4 u5 u6 u1 u2 u3)), .val (.int v13_s0), .val (.int v17_s0), .unset, .unset, .unset] [(.int v20_s0)])) _
    refine XS.istore X20.here hx rfl (hb hby at_150) rfl (l' := #[.val (.long a1), .second, .val (.long a2), .second, .val (.long a3), .second, .val (.int a4), .val (.long a5), .second, .val (.long a6), .second, .val (.long u1), .second, .val (.long u2), .second, .val (.long u3), .second, .val (.int u4), .val (.long u5), .second, .val (.long u6), .second, .val (.ref b7), .val (.int (f2 u4 u5 u6 u1 u2 u3)), .val (.int v13_s0), .val (.int v17_s0), .val (.int v20_s0), .unset, .unset]) rfl ?_
    show Steps p.tables e below (T20.setTop (mkF m 152 #[.val (.long a1), .second, .val (.long a2), .second, .val (.long a3), .second, .val (.int a4), .val (.long a5), .second, .val (.long a6), .second, .val (.long u1), .second, .val (.long u2), .second, .val (.long u3), .second, .val (.int u4), .val (.long u5), .second, .val (.long u6), .second, .val (.ref b7), .val (.int (f2 u4 u5 u6 u1 u2 u3)), .val (.int v13_s0), .val (.int v17_s0), .val (.int v20_s0), .unset, .unset] [])) _
    refine XS.lload X20.here hx rfl (hb hby at_152) rfl ?_
    show Steps p.tables e below (T20.setTop (mkF m 154 #[.val (.long a1), .second, .val (.long a2), .second, .val (.long a3), .second, .val (.int a4), .val (.long a5), .second, .val (.long a6), .second, .val (.long u1), .second, .val (.long u2), .second, .val (.long u3), .second, .val (.int u4), .val (.long u5), .second, .val (.long u6), .second, .val (.ref b7), .val (.int (f2 u4 u5 u6 u1 u2 u3)), .val (.int v13_s0), .val (.int v17_s0), .val (.int v20_s0), .unset, .unset] [(.long u3)])) _
    refine XS.lconst X20.here hx rfl (hb hby at_154) ?_
    show Steps p.tables e below (T20.setTop (mkF m 155 #[.val (.long a1), .second, .val (.long a2), .second, .val (.long a3), .second, .val (.int a4), .val (.long a5), .second, .val (.long a6), .second, .val (.long u1), .second, .val (.long u2), .second, .val (.long u3), .second, .val (.int u4), .val (.long u5), .second, .val (.long u6), .second, .val (.ref b7), .val (.int (f2 u4 u5 u6 u1 u2 u3)), .val (.int v13_s0), .val (.int v17_s0), .val (.int v20_s0), .unset, .unset] [(.long (0 : Int64)), (.long u3)])) _
    refine XS.lcmp X20.here hx rfl (hb hby at_155) rfl ?_
    exact kt
  suffices J23 : ∀ (T23 : State) (v23_s0 : Int32), v23_s0 = (if u3 = (0 : Int64) then (0 : Int32) else (if (u6 / (1000000000 : Int64)) < u3 then (0 : Int32) else (1 : Int32))) → Stand p l e room_1 (s.setVm T10.vm) m args below meth c T23 lc13 7 30 → T23.heap = T11.heap → Gl p e below (RetW s 7 30 (Q0 n0)) (T23.setTop (mkF m 176 #[.val (.long a1), .second, .val (.long a2), .second, .val (.long a3), .second, .val (.int a4), .val (.long a5), .second, .val (.long a6), .second, .val (.long u1), .second, .val (.long u2), .second, .val (.long u3), .second, .val (.int u4), .val (.long u5), .second, .val (.long u6), .second, .val (.ref b7), .val (.int (f2 u4 u5 u6 u1 u2 u3)), .val (.int v13_s0), .val (.int v17_s0), .val (.int v20_s0), .unset, .unset] [(.int v23_s0)])) by
    by_cases c156_24 : u3 = (0 : Int64)
    · refine Gl.up (B := T20.setTop (mkF m 176 #[.val (.long a1), .second, .val (.long a2), .second, .val (.long a3), .second, .val (.int a4), .val (.long a5), .second, .val (.long a6), .second, .val (.long u1), .second, .val (.long u2), .second, .val (.long u3), .second, .val (.int u4), .val (.long u5), .second, .val (.long u6), .second, .val (.ref b7), .val (.int (f2 u4 u5 u6 u1 u2 u3)), .val (.int v13_s0), .val (.int v17_s0), .val (.int v20_s0), .unset, .unset] [(.int (0 : Int32))])) (fun t kt => ?_) ?_
      · show Steps p.tables e below (T20.setTop (mkF m 156 #[.val (.long a1), .second, .val (.long a2), .second, .val (.long a3), .second, .val (.int a4), .val (.long a5), .second, .val (.long a6), .second, .val (.long u1), .second, .val (.long u2), .second, .val (.long u3), .second, .val (.int u4), .val (.long u5), .second, .val (.long u6), .second, .val (.ref b7), .val (.int (f2 u4 u5 u6 u1 u2 u3)), .val (.int v13_s0), .val (.int v17_s0), .val (.int v20_s0), .unset, .unset] [(.int (lcmpW u3 (0 : Int64)))])) _
        refine XS.ifYes X20.here hx rfl (pc0 := 156) (pc' := 175) rfl (hb hby at_156) rfl (jc_eq_t c156_24) (by decide) (by decide) ?_
        show Steps p.tables e below (T20.setTop (mkF m 175 #[.val (.long a1), .second, .val (.long a2), .second, .val (.long a3), .second, .val (.int a4), .val (.long a5), .second, .val (.long a6), .second, .val (.long u1), .second, .val (.long u2), .second, .val (.long u3), .second, .val (.int u4), .val (.long u5), .second, .val (.long u6), .second, .val (.ref b7), .val (.int (f2 u4 u5 u6 u1 u2 u3)), .val (.int v13_s0), .val (.int v17_s0), .val (.int v20_s0), .unset, .unset] [])) _
        refine XS.iconst X20.here hx rfl (hb hby at_175) ?_
        exact kt
      exact J23 _ (0 : Int32) (if_pos c156_24).symm X20 e20
    · refine Gl.up (B := T20.setTop (mkF m 168 #[.val (.long a1), .second, .val (.long a2), .second, .val (.long a3), .second, .val (.int a4), .val (.long a5), .second, .val (.long a6), .second, .val (.long u1), .second, .val (.long u2), .second, .val (.long u3), .second, .val (.int u4), .val (.long u5), .second, .val (.long u6), .second, .val (.ref b7), .val (.int (f2 u4 u5 u6 u1 u2 u3)), .val (.int v13_s0), .val (.int v17_s0), .val (.int v20_s0), .unset, .unset] [(.int (lcmpW (u6 / (1000000000 : Int64)) u3))])) (fun t kt => ?_) ?_
      · show Steps p.tables e below (T20.setTop (mkF m 156 #[.val (.long a1), .second, .val (.long a2), .second, .val (.long a3), .second, .val (.int a4), .val (.long a5), .second, .val (.long a6), .second, .val (.long u1), .second, .val (.long u2), .second, .val (.long u3), .second, .val (.int u4), .val (.long u5), .second, .val (.long u6), .second, .val (.ref b7), .val (.int (f2 u4 u5 u6 u1 u2 u3)), .val (.int v13_s0), .val (.int v17_s0), .val (.int v20_s0), .unset, .unset] [(.int (lcmpW u3 (0 : Int64)))])) _
        refine XS.ifNo X20.here hx rfl (hb hby at_156) rfl (jc_eq_f c156_24) ?_
        show Steps p.tables e below (T20.setTop (mkF m 159 #[.val (.long a1), .second, .val (.long a2), .second, .val (.long a3), .second, .val (.int a4), .val (.long a5), .second, .val (.long a6), .second, .val (.long u1), .second, .val (.long u2), .second, .val (.long u3), .second, .val (.int u4), .val (.long u5), .second, .val (.long u6), .second, .val (.ref b7), .val (.int (f2 u4 u5 u6 u1 u2 u3)), .val (.int v13_s0), .val (.int v17_s0), .val (.int v20_s0), .unset, .unset] [])) _
        refine XS.lload X20.here hx rfl (hb hby at_159) rfl ?_
        show Steps p.tables e below (T20.setTop (mkF m 161 #[.val (.long a1), .second, .val (.long a2), .second, .val (.long a3), .second, .val (.int a4), .val (.long a5), .second, .val (.long a6), .second, .val (.long u1), .second, .val (.long u2), .second, .val (.long u3), .second, .val (.int u4), .val (.long u5), .second, .val (.long u6), .second, .val (.ref b7), .val (.int (f2 u4 u5 u6 u1 u2 u3)), .val (.int v13_s0), .val (.int v17_s0), .val (.int v20_s0), .unset, .unset] [(.long u6)])) _
        refine X20.ldc2Long hx hown (mvT hZ (hw _ (List.mem_of_getElem? (i := 39) rfl))) (g := (mkF m 161 #[.val (.long a1), .second, .val (.long a2), .second, .val (.long a3), .second, .val (.int a4), .val (.long a5), .second, .val (.long a6), .second, .val (.long u1), .second, .val (.long u2), .second, .val (.long u3), .second, .val (.int u4), .val (.long u5), .second, .val (.long u6), .second, .val (.ref b7), .val (.int (f2 u4 u5 u6 u1 u2 u3)), .val (.int v13_s0), .val (.int v17_s0), .val (.int v20_s0), .unset, .unset] [(.long u6)])) rfl (hb hby at_161) _ ?_
        show Steps p.tables e below (T20.setTop (mkF m 164 #[.val (.long a1), .second, .val (.long a2), .second, .val (.long a3), .second, .val (.int a4), .val (.long a5), .second, .val (.long a6), .second, .val (.long u1), .second, .val (.long u2), .second, .val (.long u3), .second, .val (.int u4), .val (.long u5), .second, .val (.long u6), .second, .val (.ref b7), .val (.int (f2 u4 u5 u6 u1 u2 u3)), .val (.int v13_s0), .val (.int v17_s0), .val (.int v20_s0), .unset, .unset] [(.long (1000000000 : Int64)), (.long u6)])) _
        refine XS.ldiv X20.here hx rfl (hb hby at_164) rfl (by decide) ?_
        show Steps p.tables e below (T20.setTop (mkF m 165 #[.val (.long a1), .second, .val (.long a2), .second, .val (.long a3), .second, .val (.int a4), .val (.long a5), .second, .val (.long a6), .second, .val (.long u1), .second, .val (.long u2), .second, .val (.long u3), .second, .val (.int u4), .val (.long u5), .second, .val (.long u6), .second, .val (.ref b7), .val (.int (f2 u4 u5 u6 u1 u2 u3)), .val (.int v13_s0), .val (.int v17_s0), .val (.int v20_s0), .unset, .unset] [(.long (u6 / (1000000000 : Int64)))])) _
        refine XS.lload X20.here hx rfl (hb hby at_165) rfl ?_
        show Steps p.tables e below (T20.setTop (mkF m 167 #[.val (.long a1), .second, .val (.long a2), .second, .val (.long a3), .second, .val (.int a4), .val (.long a5), .second, .val (.long a6), .second, .val (.long u1), .second, .val (.long u2), .second, .val (.long u3), .second, .val (.int u4), .val (.long u5), .second, .val (.long u6), .second, .val (.ref b7), .val (.int (f2 u4 u5 u6 u1 u2 u3)), .val (.int v13_s0), .val (.int v17_s0), .val (.int v20_s0), .unset, .unset] [(.long u3), (.long (u6 / (1000000000 : Int64)))])) _
        refine XS.lcmp X20.here hx rfl (hb hby at_167) rfl ?_
        exact kt
      by_cases c168_25 : (u6 / (1000000000 : Int64)) < u3
      · refine Gl.up (B := T20.setTop (mkF m 176 #[.val (.long a1), .second, .val (.long a2), .second, .val (.long a3), .second, .val (.int a4), .val (.long a5), .second, .val (.long a6), .second, .val (.long u1), .second, .val (.long u2), .second, .val (.long u3), .second, .val (.int u4), .val (.long u5), .second, .val (.long u6), .second, .val (.ref b7), .val (.int (f2 u4 u5 u6 u1 u2 u3)), .val (.int v13_s0), .val (.int v17_s0), .val (.int v20_s0), .unset, .unset] [(.int (0 : Int32))])) (fun t kt => ?_) ?_
        · show Steps p.tables e below (T20.setTop (mkF m 168 #[.val (.long a1), .second, .val (.long a2), .second, .val (.long a3), .second, .val (.int a4), .val (.long a5), .second, .val (.long a6), .second, .val (.long u1), .second, .val (.long u2), .second, .val (.long u3), .second, .val (.int u4), .val (.long u5), .second, .val (.long u6), .second, .val (.ref b7), .val (.int (f2 u4 u5 u6 u1 u2 u3)), .val (.int v13_s0), .val (.int v17_s0), .val (.int v20_s0), .unset, .unset] [(.int (lcmpW (u6 / (1000000000 : Int64)) u3))])) _
          refine XS.ifYes X20.here hx rfl (pc0 := 168) (pc' := 175) rfl (hb hby at_168) rfl (jc_lt_t c168_25) (by decide) (by decide) ?_
          show Steps p.tables e below (T20.setTop (mkF m 175 #[.val (.long a1), .second, .val (.long a2), .second, .val (.long a3), .second, .val (.int a4), .val (.long a5), .second, .val (.long a6), .second, .val (.long u1), .second, .val (.long u2), .second, .val (.long u3), .second, .val (.int u4), .val (.long u5), .second, .val (.long u6), .second, .val (.ref b7), .val (.int (f2 u4 u5 u6 u1 u2 u3)), .val (.int v13_s0), .val (.int v17_s0), .val (.int v20_s0), .unset, .unset] [])) _
          refine XS.iconst X20.here hx rfl (hb hby at_175) ?_
          exact kt
        exact J23 _ (0 : Int32) ((if_neg c156_24).trans (if_pos c168_25)).symm X20 e20
      · refine Gl.up (B := T20.setTop (mkF m 176 #[.val (.long a1), .second, .val (.long a2), .second, .val (.long a3), .second, .val (.int a4), .val (.long a5), .second, .val (.long a6), .second, .val (.long u1), .second, .val (.long u2), .second, .val (.long u3), .second, .val (.int u4), .val (.long u5), .second, .val (.long u6), .second, .val (.ref b7), .val (.int (f2 u4 u5 u6 u1 u2 u3)), .val (.int v13_s0), .val (.int v17_s0), .val (.int v20_s0), .unset, .unset] [(.int (1 : Int32))])) (fun t kt => ?_) ?_
        · show Steps p.tables e below (T20.setTop (mkF m 168 #[.val (.long a1), .second, .val (.long a2), .second, .val (.long a3), .second, .val (.int a4), .val (.long a5), .second, .val (.long a6), .second, .val (.long u1), .second, .val (.long u2), .second, .val (.long u3), .second, .val (.int u4), .val (.long u5), .second, .val (.long u6), .second, .val (.ref b7), .val (.int (f2 u4 u5 u6 u1 u2 u3)), .val (.int v13_s0), .val (.int v17_s0), .val (.int v20_s0), .unset, .unset] [(.int (lcmpW (u6 / (1000000000 : Int64)) u3))])) _
          refine XS.ifNo X20.here hx rfl (hb hby at_168) rfl (jc_lt_f c168_25) ?_
          show Steps p.tables e below (T20.setTop (mkF m 171 #[.val (.long a1), .second, .val (.long a2), .second, .val (.long a3), .second, .val (.int a4), .val (.long a5), .second, .val (.long a6), .second, .val (.long u1), .second, .val (.long u2), .second, .val (.long u3), .second, .val (.int u4), .val (.long u5), .second, .val (.long u6), .second, .val (.ref b7), .val (.int (f2 u4 u5 u6 u1 u2 u3)), .val (.int v13_s0), .val (.int v17_s0), .val (.int v20_s0), .unset, .unset] [])) _
          refine XS.iconst X20.here hx rfl (hb hby at_171) ?_
          show Steps p.tables e below (T20.setTop (mkF m 172 #[.val (.long a1), .second, .val (.long a2), .second, .val (.long a3), .second, .val (.int a4), .val (.long a5), .second, .val (.long a6), .second, .val (.long u1), .second, .val (.long u2), .second, .val (.long u3), .second, .val (.int u4), .val (.long u5), .second, .val (.long u6), .second, .val (.ref b7), .val (.int (f2 u4 u5 u6 u1 u2 u3)), .val (.int v13_s0), .val (.int v17_s0), .val (.int v20_s0), .unset, .unset] [(.int (1 : Int32))])) _
          refine XS.goto X20.here hx rfl (pc0 := 172) (pc' := 176) rfl (hb hby at_172) (by decide) (by decide) ?_
          exact kt
        exact J23 _ (1 : Int32) ((if_neg c156_24).trans (if_neg c168_25)).symm X20 e20
  intro T23 v23_s0 hv23_s0 X23 e23
  have hv23_s0b : v23_s0 = 0 ∨ v23_s0 = 1 := by rw [hv23_s0]; exact (b01_ite (Or.inl rfl) (b01_ite (Or.inl rfl) (Or.inr rfl)))
  refine Gl.up (B := T23.setTop (mkF m 180 #[.val (.long a1), .second, .val (.long a2), .second, .val (.long a3), .second, .val (.int a4), .val (.long a5), .second, .val (.long a6), .second, .val (.long u1), .second, .val (.long u2), .second, .val (.long u3), .second, .val (.int u4), .val (.long u5), .second, .val (.long u6), .second, .val (.ref b7), .val (.int (f2 u4 u5 u6 u1 u2 u3)), .val (.int v13_s0), .val (.int v17_s0), .val (.int v20_s0), .val (.int v23_s0), .unset] [(.int u4)])) (fun t kt => ?_) ?_
  · show Steps p.tables e below (T23.setTop (mkF m 176 #[.val (.long a1), .second, .val (.long a2), .second, .val (.long a3), .second, .val (.int a4), .val (.long a5), .second, .val (.long a6), .second, .val (.long u1), .second, .val (.long u2), .second, .val (.long u3), .second, .val (.int u4), .val (.long u5), .second, .val (.long u6), .second, .val (.ref b7), .val (.int (f2 u4 u5 u6 u1 u2 u3)), .val (.int v13_s0), .val (.int v17_s0), .val (.int v20_s0), .unset, .unset] [(.int v23_s0)])) _
    refine XS.istore X23.here hx rfl (hb hby at_176) rfl (l' := #[.val (.long a1), .second, .val (.long a2), .second, .val (.long a3), .second, .val (.int a4), .val (.long a5), .second, .val (.long a6), .second, .val (.long u1), .second, .val (.long u2), .second, .val (.long u3), .second, .val (.int u4), .val (.long u5), .second, .val (.long u6), .second, .val (.ref b7), .val (.int (f2 u4 u5 u6 u1 u2 u3)), .val (.int v13_s0), .val (.int v17_s0), .val (.int v20_s0), .val (.int v23_s0), .unset]) rfl ?_
    show Steps p.tables e below (T23.setTop (mkF m 178 #[.val (.long a1), .second, .val (.long a2), .second, .val (.long a3), .second, .val (.int a4), .val (.long a5), .second, .val (.long a6), .second, .val (.long u1), .second, .val (.long u2), .second, .val (.long u3), .second, .val (.int u4), .val (.long u5), .second, .val (.long u6), .second, .val (.ref b7), .val (.int (f2 u4 u5 u6 u1 u2 u3)), .val (.int v13_s0), .val (.int v17_s0), .val (.int v20_s0), .val (.int v23_s0), .unset] [])) _
    refine XS.iload X23.here hx rfl (hb hby at_178) rfl ?_
    exact kt
  suffices J26 : ∀ (T26 : State) (v26_s0 : Int32), v26_s0 = (if (0 : Int32) < u4 then (if v13_s0 = (0 : Int32) then (1 : Int32) else (if v17_s0 = (0 : Int32) then (if v20_s0 = (0 : Int32) then (if v23_s0 = (0 : Int32) then (0 : Int32) else (1 : Int32)) else (1 : Int32)) else (1 : Int32))) else (0 : Int32)) → Stand p l e room_1 (s.setVm T10.vm) m args below meth c T26 lc13 7 30 → T26.heap = T11.heap → Gl p e below (RetW s 7 30 (Q0 n0)) (T26.setTop (mkF m 208 #[.val (.long a1), .second, .val (.long a2), .second, .val (.long a3), .second, .val (.int a4), .val (.long a5), .second, .val (.long a6), .second, .val (.long u1), .second, .val (.long u2), .second, .val (.long u3), .second, .val (.int u4), .val (.long u5), .second, .val (.long u6), .second, .val (.ref b7), .val (.int (f2 u4 u5 u6 u1 u2 u3)), .val (.int v13_s0), .val (.int v17_s0), .val (.int v20_s0), .val (.int v23_s0), .unset] [(.int v26_s0)])) by
    by_cases c180_27 : (0 : Int32) < u4
    · refine Gl.up (B := T23.setTop (mkF m 185 #[.val (.long a1), .second, .val (.long a2), .second, .val (.long a3), .second, .val (.int a4), .val (.long a5), .second, .val (.long a6), .second, .val (.long u1), .second, .val (.long u2), .second, .val (.long u3), .second, .val (.int u4), .val (.long u5), .second, .val (.long u6), .second, .val (.ref b7), .val (.int (f2 u4 u5 u6 u1 u2 u3)), .val (.int v13_s0), .val (.int v17_s0), .val (.int v20_s0), .val (.int v23_s0), .unset] [(.int v13_s0)])) (fun t kt => ?_) ?_
      · show Steps p.tables e below (T23.setTop (mkF m 180 #[.val (.long a1), .second, .val (.long a2), .second, .val (.long a3), .second, .val (.int a4), .val (.long a5), .second, .val (.long a6), .second, .val (.long u1), .second, .val (.long u2), .second, .val (.long u3), .second, .val (.int u4), .val (.long u5), .second, .val (.long u6), .second, .val (.ref b7), .val (.int (f2 u4 u5 u6 u1 u2 u3)), .val (.int v13_s0), .val (.int v17_s0), .val (.int v20_s0), .val (.int v23_s0), .unset] [(.int u4)])) _
        refine XS.ifNo X23.here hx rfl (hb hby at_180) rfl ((if0 _ _).trans (tlt c180_27).2.2.2) ?_
        show Steps p.tables e below (T23.setTop (mkF m 183 #[.val (.long a1), .second, .val (.long a2), .second, .val (.long a3), .second, .val (.int a4), .val (.long a5), .second, .val (.long a6), .second, .val (.long u1), .second, .val (.long u2), .second, .val (.long u3), .second, .val (.int u4), .val (.long u5), .second, .val (.long u6), .second, .val (.ref b7), .val (.int (f2 u4 u5 u6 u1 u2 u3)), .val (.int v13_s0), .val (.int v17_s0), .val (.int v20_s0), .val (.int v23_s0), .unset] [])) _
        refine XS.iload X23.here hx rfl (hb hby at_183) rfl ?_
        exact kt
      by_cases c185_28 : v13_s0 = (0 : Int32)
      · refine Gl.up (B := T23.setTop (mkF m 208 #[.val (.long a1), .second, .val (.long a2), .second, .val (.long a3), .second, .val (.int a4), .val (.long a5), .second, .val (.long a6), .second, .val (.long u1), .second, .val (.long u2), .second, .val (.long u3), .second, .val (.int u4), .val (.long u5), .second, .val (.long u6), .second, .val (.ref b7), .val (.int (f2 u4 u5 u6 u1 u2 u3)), .val (.int v13_s0), .val (.int v17_s0), .val (.int v20_s0), .val (.int v23_s0), .unset] [(.int (1 : Int32))])) (fun t kt => ?_) ?_
        · show Steps p.tables e below (T23.setTop (mkF m 185 #[.val (.long a1), .second, .val (.long a2), .second, .val (.long a3), .second, .val (.int a4), .val (.long a5), .second, .val (.long a6), .second, .val (.long u1), .second, .val (.long u2), .second, .val (.long u3), .second, .val (.int u4), .val (.long u5), .second, .val (.long u6), .second, .val (.ref b7), .val (.int (f2 u4 u5 u6 u1 u2 u3)), .val (.int v13_s0), .val (.int v17_s0), .val (.int v20_s0), .val (.int v23_s0), .unset] [(.int v13_s0)])) _
          refine XS.ifYes X23.here hx rfl (pc0 := 185) (pc' := 203) rfl (hb hby at_185) rfl ((if0 _ _).trans (teq c185_28).1) (by decide) (by decide) ?_
          show Steps p.tables e below (T23.setTop (mkF m 203 #[.val (.long a1), .second, .val (.long a2), .second, .val (.long a3), .second, .val (.int a4), .val (.long a5), .second, .val (.long a6), .second, .val (.long u1), .second, .val (.long u2), .second, .val (.long u3), .second, .val (.int u4), .val (.long u5), .second, .val (.long u6), .second, .val (.ref b7), .val (.int (f2 u4 u5 u6 u1 u2 u3)), .val (.int v13_s0), .val (.int v17_s0), .val (.int v20_s0), .val (.int v23_s0), .unset] [])) _
          refine XS.iconst X23.here hx rfl (hb hby at_203) ?_
          show Steps p.tables e below (T23.setTop (mkF m 204 #[.val (.long a1), .second, .val (.long a2), .second, .val (.long a3), .second, .val (.int a4), .val (.long a5), .second, .val (.long a6), .second, .val (.long u1), .second, .val (.long u2), .second, .val (.long u3), .second, .val (.int u4), .val (.long u5), .second, .val (.long u6), .second, .val (.ref b7), .val (.int (f2 u4 u5 u6 u1 u2 u3)), .val (.int v13_s0), .val (.int v17_s0), .val (.int v20_s0), .val (.int v23_s0), .unset] [(.int (1 : Int32))])) _
          refine XS.goto X23.here hx rfl (pc0 := 204) (pc' := 208) rfl (hb hby at_204) (by decide) (by decide) ?_
          exact kt
        exact J26 _ (1 : Int32) ((if_pos c180_27).trans (if_pos c185_28)).symm X23 e23
      · refine Gl.up (B := T23.setTop (mkF m 190 #[.val (.long a1), .second, .val (.long a2), .second, .val (.long a3), .second, .val (.int a4), .val (.long a5), .second, .val (.long a6), .second, .val (.long u1), .second, .val (.long u2), .second, .val (.long u3), .second, .val (.int u4), .val (.long u5), .second, .val (.long u6), .second, .val (.ref b7), .val (.int (f2 u4 u5 u6 u1 u2 u3)), .val (.int v13_s0), .val (.int v17_s0), .val (.int v20_s0), .val (.int v23_s0), .unset] [(.int v17_s0)])) (fun t kt => ?_) ?_
        · show Steps p.tables e below (T23.setTop (mkF m 185 #[.val (.long a1), .second, .val (.long a2), .second, .val (.long a3), .second, .val (.int a4), .val (.long a5), .second, .val (.long a6), .second, .val (.long u1), .second, .val (.long u2), .second, .val (.long u3), .second, .val (.int u4), .val (.long u5), .second, .val (.long u6), .second, .val (.ref b7), .val (.int (f2 u4 u5 u6 u1 u2 u3)), .val (.int v13_s0), .val (.int v17_s0), .val (.int v20_s0), .val (.int v23_s0), .unset] [(.int v13_s0)])) _
          refine XS.ifNo X23.here hx rfl (hb hby at_185) rfl ((if0 _ _).trans (feq c185_28).1) ?_
          show Steps p.tables e below (T23.setTop (mkF m 188 #[.val (.long a1), .second, .val (.long a2), .second, .val (.long a3), .second, .val (.int a4), .val (.long a5), .second, .val (.long a6), .second, .val (.long u1), .second, .val (.long u2), .second, .val (.long u3), .second, .val (.int u4), .val (.long u5), .second, .val (.long u6), .second, .val (.ref b7), .val (.int (f2 u4 u5 u6 u1 u2 u3)), .val (.int v13_s0), .val (.int v17_s0), .val (.int v20_s0), .val (.int v23_s0), .unset] [])) _
          refine XS.iload X23.here hx rfl (hb hby at_188) rfl ?_
          exact kt
        by_cases c190_29 : v17_s0 = (0 : Int32)
        · refine Gl.up (B := T23.setTop (mkF m 195 #[.val (.long a1), .second, .val (.long a2), .second, .val (.long a3), .second, .val (.int a4), .val (.long a5), .second, .val (.long a6), .second, .val (.long u1), .second, .val (.long u2), .second, .val (.long u3), .second, .val (.int u4), .val (.long u5), .second, .val (.long u6), .second, .val (.ref b7), .val (.int (f2 u4 u5 u6 u1 u2 u3)), .val (.int v13_s0), .val (.int v17_s0), .val (.int v20_s0), .val (.int v23_s0), .unset] [(.int v20_s0)])) (fun t kt => ?_) ?_
          · show Steps p.tables e below (T23.setTop (mkF m 190 #[.val (.long a1), .second, .val (.long a2), .second, .val (.long a3), .second, .val (.int a4), .val (.long a5), .second, .val (.long a6), .second, .val (.long u1), .second, .val (.long u2), .second, .val (.long u3), .second, .val (.int u4), .val (.long u5), .second, .val (.long u6), .second, .val (.ref b7), .val (.int (f2 u4 u5 u6 u1 u2 u3)), .val (.int v13_s0), .val (.int v17_s0), .val (.int v20_s0), .val (.int v23_s0), .unset] [(.int v17_s0)])) _
            refine XS.ifNo X23.here hx rfl (hb hby at_190) rfl ((if0 _ _).trans (teq c190_29).2) ?_
            show Steps p.tables e below (T23.setTop (mkF m 193 #[.val (.long a1), .second, .val (.long a2), .second, .val (.long a3), .second, .val (.int a4), .val (.long a5), .second, .val (.long a6), .second, .val (.long u1), .second, .val (.long u2), .second, .val (.long u3), .second, .val (.int u4), .val (.long u5), .second, .val (.long u6), .second, .val (.ref b7), .val (.int (f2 u4 u5 u6 u1 u2 u3)), .val (.int v13_s0), .val (.int v17_s0), .val (.int v20_s0), .val (.int v23_s0), .unset] [])) _
            refine XS.iload X23.here hx rfl (hb hby at_193) rfl ?_
            exact kt
          by_cases c195_30 : v20_s0 = (0 : Int32)
          · refine Gl.up (B := T23.setTop (mkF m 200 #[.val (.long a1), .second, .val (.long a2), .second, .val (.long a3), .second, .val (.int a4), .val (.long a5), .second, .val (.long a6), .second, .val (.long u1), .second, .val (.long u2), .second, .val (.long u3), .second, .val (.int u4), .val (.long u5), .second, .val (.long u6), .second, .val (.ref b7), .val (.int (f2 u4 u5 u6 u1 u2 u3)), .val (.int v13_s0), .val (.int v17_s0), .val (.int v20_s0), .val (.int v23_s0), .unset] [(.int v23_s0)])) (fun t kt => ?_) ?_
            · show Steps p.tables e below (T23.setTop (mkF m 195 #[.val (.long a1), .second, .val (.long a2), .second, .val (.long a3), .second, .val (.int a4), .val (.long a5), .second, .val (.long a6), .second, .val (.long u1), .second, .val (.long u2), .second, .val (.long u3), .second, .val (.int u4), .val (.long u5), .second, .val (.long u6), .second, .val (.ref b7), .val (.int (f2 u4 u5 u6 u1 u2 u3)), .val (.int v13_s0), .val (.int v17_s0), .val (.int v20_s0), .val (.int v23_s0), .unset] [(.int v20_s0)])) _
              refine XS.ifNo X23.here hx rfl (hb hby at_195) rfl ((if0 _ _).trans (teq c195_30).2) ?_
              show Steps p.tables e below (T23.setTop (mkF m 198 #[.val (.long a1), .second, .val (.long a2), .second, .val (.long a3), .second, .val (.int a4), .val (.long a5), .second, .val (.long a6), .second, .val (.long u1), .second, .val (.long u2), .second, .val (.long u3), .second, .val (.int u4), .val (.long u5), .second, .val (.long u6), .second, .val (.ref b7), .val (.int (f2 u4 u5 u6 u1 u2 u3)), .val (.int v13_s0), .val (.int v17_s0), .val (.int v20_s0), .val (.int v23_s0), .unset] [])) _
              refine XS.iload X23.here hx rfl (hb hby at_198) rfl ?_
              exact kt
            by_cases c200_31 : v23_s0 = (0 : Int32)
            · refine Gl.up (B := T23.setTop (mkF m 208 #[.val (.long a1), .second, .val (.long a2), .second, .val (.long a3), .second, .val (.int a4), .val (.long a5), .second, .val (.long a6), .second, .val (.long u1), .second, .val (.long u2), .second, .val (.long u3), .second, .val (.int u4), .val (.long u5), .second, .val (.long u6), .second, .val (.ref b7), .val (.int (f2 u4 u5 u6 u1 u2 u3)), .val (.int v13_s0), .val (.int v17_s0), .val (.int v20_s0), .val (.int v23_s0), .unset] [(.int (0 : Int32))])) (fun t kt => ?_) ?_
              · show Steps p.tables e below (T23.setTop (mkF m 200 #[.val (.long a1), .second, .val (.long a2), .second, .val (.long a3), .second, .val (.int a4), .val (.long a5), .second, .val (.long a6), .second, .val (.long u1), .second, .val (.long u2), .second, .val (.long u3), .second, .val (.int u4), .val (.long u5), .second, .val (.long u6), .second, .val (.ref b7), .val (.int (f2 u4 u5 u6 u1 u2 u3)), .val (.int v13_s0), .val (.int v17_s0), .val (.int v20_s0), .val (.int v23_s0), .unset] [(.int v23_s0)])) _
                refine XS.ifYes X23.here hx rfl (pc0 := 200) (pc' := 207) rfl (hb hby at_200) rfl ((if0 _ _).trans (teq c200_31).1) (by decide) (by decide) ?_
                show Steps p.tables e below (T23.setTop (mkF m 207 #[.val (.long a1), .second, .val (.long a2), .second, .val (.long a3), .second, .val (.int a4), .val (.long a5), .second, .val (.long a6), .second, .val (.long u1), .second, .val (.long u2), .second, .val (.long u3), .second, .val (.int u4), .val (.long u5), .second, .val (.long u6), .second, .val (.ref b7), .val (.int (f2 u4 u5 u6 u1 u2 u3)), .val (.int v13_s0), .val (.int v17_s0), .val (.int v20_s0), .val (.int v23_s0), .unset] [])) _
                refine XS.iconst X23.here hx rfl (hb hby at_207) ?_
                exact kt
              exact J26 _ (0 : Int32) (((((if_pos c180_27).trans (if_neg c185_28)).trans (if_pos c190_29)).trans (if_pos c195_30)).trans (if_pos c200_31)).symm X23 e23
            · refine Gl.up (B := T23.setTop (mkF m 208 #[.val (.long a1), .second, .val (.long a2), .second, .val (.long a3), .second, .val (.int a4), .val (.long a5), .second, .val (.long a6), .second, .val (.long u1), .second, .val (.long u2), .second, .val (.long u3), .second, .val (.int u4), .val (.long u5), .second, .val (.long u6), .second, .val (.ref b7), .val (.int (f2 u4 u5 u6 u1 u2 u3)), .val (.int v13_s0), .val (.int v17_s0), .val (.int v20_s0), .val (.int v23_s0), .unset] [(.int (1 : Int32))])) (fun t kt => ?_) ?_
              · show Steps p.tables e below (T23.setTop (mkF m 200 #[.val (.long a1), .second, .val (.long a2), .second, .val (.long a3), .second, .val (.int a4), .val (.long a5), .second, .val (.long a6), .second, .val (.long u1), .second, .val (.long u2), .second, .val (.long u3), .second, .val (.int u4), .val (.long u5), .second, .val (.long u6), .second, .val (.ref b7), .val (.int (f2 u4 u5 u6 u1 u2 u3)), .val (.int v13_s0), .val (.int v17_s0), .val (.int v20_s0), .val (.int v23_s0), .unset] [(.int v23_s0)])) _
                refine XS.ifNo X23.here hx rfl (hb hby at_200) rfl ((if0 _ _).trans (feq c200_31).1) ?_
                show Steps p.tables e below (T23.setTop (mkF m 203 #[.val (.long a1), .second, .val (.long a2), .second, .val (.long a3), .second, .val (.int a4), .val (.long a5), .second, .val (.long a6), .second, .val (.long u1), .second, .val (.long u2), .second, .val (.long u3), .second, .val (.int u4), .val (.long u5), .second, .val (.long u6), .second, .val (.ref b7), .val (.int (f2 u4 u5 u6 u1 u2 u3)), .val (.int v13_s0), .val (.int v17_s0), .val (.int v20_s0), .val (.int v23_s0), .unset] [])) _
                refine XS.iconst X23.here hx rfl (hb hby at_203) ?_
                show Steps p.tables e below (T23.setTop (mkF m 204 #[.val (.long a1), .second, .val (.long a2), .second, .val (.long a3), .second, .val (.int a4), .val (.long a5), .second, .val (.long a6), .second, .val (.long u1), .second, .val (.long u2), .second, .val (.long u3), .second, .val (.int u4), .val (.long u5), .second, .val (.long u6), .second, .val (.ref b7), .val (.int (f2 u4 u5 u6 u1 u2 u3)), .val (.int v13_s0), .val (.int v17_s0), .val (.int v20_s0), .val (.int v23_s0), .unset] [(.int (1 : Int32))])) _
                refine XS.goto X23.here hx rfl (pc0 := 204) (pc' := 208) rfl (hb hby at_204) (by decide) (by decide) ?_
                exact kt
              exact J26 _ (1 : Int32) (((((if_pos c180_27).trans (if_neg c185_28)).trans (if_pos c190_29)).trans (if_pos c195_30)).trans (if_neg c200_31)).symm X23 e23
          · refine Gl.up (B := T23.setTop (mkF m 208 #[.val (.long a1), .second, .val (.long a2), .second, .val (.long a3), .second, .val (.int a4), .val (.long a5), .second, .val (.long a6), .second, .val (.long u1), .second, .val (.long u2), .second, .val (.long u3), .second, .val (.int u4), .val (.long u5), .second, .val (.long u6), .second, .val (.ref b7), .val (.int (f2 u4 u5 u6 u1 u2 u3)), .val (.int v13_s0), .val (.int v17_s0), .val (.int v20_s0), .val (.int v23_s0), .unset] [(.int (1 : Int32))])) (fun t kt => ?_) ?_
            · show Steps p.tables e below (T23.setTop (mkF m 195 #[.val (.long a1), .second, .val (.long a2), .second, .val (.long a3), .second, .val (.int a4), .val (.long a5), .second, .val (.long a6), .second, .val (.long u1), .second, .val (.long u2), .second, .val (.long u3), .second, .val (.int u4), .val (.long u5), .second, .val (.long u6), .second, .val (.ref b7), .val (.int (f2 u4 u5 u6 u1 u2 u3)), .val (.int v13_s0), .val (.int v17_s0), .val (.int v20_s0), .val (.int v23_s0), .unset] [(.int v20_s0)])) _
              refine XS.ifYes X23.here hx rfl (pc0 := 195) (pc' := 203) rfl (hb hby at_195) rfl ((if0 _ _).trans (feq c195_30).2) (by decide) (by decide) ?_
              show Steps p.tables e below (T23.setTop (mkF m 203 #[.val (.long a1), .second, .val (.long a2), .second, .val (.long a3), .second, .val (.int a4), .val (.long a5), .second, .val (.long a6), .second, .val (.long u1), .second, .val (.long u2), .second, .val (.long u3), .second, .val (.int u4), .val (.long u5), .second, .val (.long u6), .second, .val (.ref b7), .val (.int (f2 u4 u5 u6 u1 u2 u3)), .val (.int v13_s0), .val (.int v17_s0), .val (.int v20_s0), .val (.int v23_s0), .unset] [])) _
              refine XS.iconst X23.here hx rfl (hb hby at_203) ?_
              show Steps p.tables e below (T23.setTop (mkF m 204 #[.val (.long a1), .second, .val (.long a2), .second, .val (.long a3), .second, .val (.int a4), .val (.long a5), .second, .val (.long a6), .second, .val (.long u1), .second, .val (.long u2), .second, .val (.long u3), .second, .val (.int u4), .val (.long u5), .second, .val (.long u6), .second, .val (.ref b7), .val (.int (f2 u4 u5 u6 u1 u2 u3)), .val (.int v13_s0), .val (.int v17_s0), .val (.int v20_s0), .val (.int v23_s0), .unset] [(.int (1 : Int32))])) _
              refine XS.goto X23.here hx rfl (pc0 := 204) (pc' := 208) rfl (hb hby at_204) (by decide) (by decide) ?_
              exact kt
            exact J26 _ (1 : Int32) ((((if_pos c180_27).trans (if_neg c185_28)).trans (if_pos c190_29)).trans (if_neg c195_30)).symm X23 e23
        · refine Gl.up (B := T23.setTop (mkF m 208 #[.val (.long a1), .second, .val (.long a2), .second, .val (.long a3), .second, .val (.int a4), .val (.long a5), .second, .val (.long a6), .second, .val (.long u1), .second, .val (.long u2), .second, .val (.long u3), .second, .val (.int u4), .val (.long u5), .second, .val (.long u6), .second, .val (.ref b7), .val (.int (f2 u4 u5 u6 u1 u2 u3)), .val (.int v13_s0), .val (.int v17_s0), .val (.int v20_s0), .val (.int v23_s0), .unset] [(.int (1 : Int32))])) (fun t kt => ?_) ?_
          · show Steps p.tables e below (T23.setTop (mkF m 190 #[.val (.long a1), .second, .val (.long a2), .second, .val (.long a3), .second, .val (.int a4), .val (.long a5), .second, .val (.long a6), .second, .val (.long u1), .second, .val (.long u2), .second, .val (.long u3), .second, .val (.int u4), .val (.long u5), .second, .val (.long u6), .second, .val (.ref b7), .val (.int (f2 u4 u5 u6 u1 u2 u3)), .val (.int v13_s0), .val (.int v17_s0), .val (.int v20_s0), .val (.int v23_s0), .unset] [(.int v17_s0)])) _
            refine XS.ifYes X23.here hx rfl (pc0 := 190) (pc' := 203) rfl (hb hby at_190) rfl ((if0 _ _).trans (feq c190_29).2) (by decide) (by decide) ?_
            show Steps p.tables e below (T23.setTop (mkF m 203 #[.val (.long a1), .second, .val (.long a2), .second, .val (.long a3), .second, .val (.int a4), .val (.long a5), .second, .val (.long a6), .second, .val (.long u1), .second, .val (.long u2), .second, .val (.long u3), .second, .val (.int u4), .val (.long u5), .second, .val (.long u6), .second, .val (.ref b7), .val (.int (f2 u4 u5 u6 u1 u2 u3)), .val (.int v13_s0), .val (.int v17_s0), .val (.int v20_s0), .val (.int v23_s0), .unset] [])) _
            refine XS.iconst X23.here hx rfl (hb hby at_203) ?_
            show Steps p.tables e below (T23.setTop (mkF m 204 #[.val (.long a1), .second, .val (.long a2), .second, .val (.long a3), .second, .val (.int a4), .val (.long a5), .second, .val (.long a6), .second, .val (.long u1), .second, .val (.long u2), .second, .val (.long u3), .second, .val (.int u4), .val (.long u5), .second, .val (.long u6), .second, .val (.ref b7), .val (.int (f2 u4 u5 u6 u1 u2 u3)), .val (.int v13_s0), .val (.int v17_s0), .val (.int v20_s0), .val (.int v23_s0), .unset] [(.int (1 : Int32))])) _
            refine XS.goto X23.here hx rfl (pc0 := 204) (pc' := 208) rfl (hb hby at_204) (by decide) (by decide) ?_
            exact kt
          exact J26 _ (1 : Int32) (((if_pos c180_27).trans (if_neg c185_28)).trans (if_neg c190_29)).symm X23 e23
    · refine Gl.up (B := T23.setTop (mkF m 208 #[.val (.long a1), .second, .val (.long a2), .second, .val (.long a3), .second, .val (.int a4), .val (.long a5), .second, .val (.long a6), .second, .val (.long u1), .second, .val (.long u2), .second, .val (.long u3), .second, .val (.int u4), .val (.long u5), .second, .val (.long u6), .second, .val (.ref b7), .val (.int (f2 u4 u5 u6 u1 u2 u3)), .val (.int v13_s0), .val (.int v17_s0), .val (.int v20_s0), .val (.int v23_s0), .unset] [(.int (0 : Int32))])) (fun t kt => ?_) ?_
      · show Steps p.tables e below (T23.setTop (mkF m 180 #[.val (.long a1), .second, .val (.long a2), .second, .val (.long a3), .second, .val (.int a4), .val (.long a5), .second, .val (.long a6), .second, .val (.long u1), .second, .val (.long u2), .second, .val (.long u3), .second, .val (.int u4), .val (.long u5), .second, .val (.long u6), .second, .val (.ref b7), .val (.int (f2 u4 u5 u6 u1 u2 u3)), .val (.int v13_s0), .val (.int v17_s0), .val (.int v20_s0), .val (.int v23_s0), .unset] [(.int u4)])) _
        refine XS.ifYes X23.here hx rfl (pc0 := 180) (pc' := 207) rfl (hb hby at_180) rfl ((if0 _ _).trans (flt c180_27).2.2.2) (by decide) (by decide) ?_
        show Steps p.tables e below (T23.setTop (mkF m 207 #[.val (.long a1), .second, .val (.long a2), .second, .val (.long a3), .second, .val (.int a4), .val (.long a5), .second, .val (.long a6), .second, .val (.long u1), .second, .val (.long u2), .second, .val (.long u3), .second, .val (.int u4), .val (.long u5), .second, .val (.long u6), .second, .val (.ref b7), .val (.int (f2 u4 u5 u6 u1 u2 u3)), .val (.int v13_s0), .val (.int v17_s0), .val (.int v20_s0), .val (.int v23_s0), .unset] [])) _
        refine XS.iconst X23.here hx rfl (hb hby at_207) ?_
        exact kt
      exact J26 _ (0 : Int32) (if_neg c180_27).symm X23 e23
  intro T26 v26_s0 hv26_s0 X26 e26
  have hv26_s0b : v26_s0 = 0 ∨ v26_s0 = 1 := by rw [hv26_s0]; exact (b01_ite (b01_ite (Or.inr rfl) (b01_ite (b01_ite (b01_ite (Or.inl rfl) (Or.inr rfl)) (Or.inr rfl)) (Or.inr rfl))) (Or.inl rfl))
  refine Gl.up (B := T26.setTop (mkF m 222 #[.val (.long a1), .second, .val (.long a2), .second, .val (.long a3), .second, .val (.int a4), .val (.long a5), .second, .val (.long a6), .second, .val (.long u1), .second, .val (.long u2), .second, .val (.long u3), .second, .val (.int u4), .val (.long u5), .second, .val (.long u6), .second, .val (.ref b7), .val (.int (f2 u4 u5 u6 u1 u2 u3)), .val (.int v13_s0), .val (.int v17_s0), .val (.int v20_s0), .val (.int v23_s0), .val (.int v26_s0)] [(.int (1 : Int32))])) (fun t kt => ?_) ?_
  · show Steps p.tables e below (T26.setTop (mkF m 208 #[.val (.long a1), .second, .val (.long a2), .second, .val (.long a3), .second, .val (.int a4), .val (.long a5), .second, .val (.long a6), .second, .val (.long u1), .second, .val (.long u2), .second, .val (.long u3), .second, .val (.int u4), .val (.long u5), .second, .val (.long u6), .second, .val (.ref b7), .val (.int (f2 u4 u5 u6 u1 u2 u3)), .val (.int v13_s0), .val (.int v17_s0), .val (.int v20_s0), .val (.int v23_s0), .unset] [(.int v26_s0)])) _
    refine XS.istore X26.here hx rfl (hb hby at_208) rfl (l' := #[.val (.long a1), .second, .val (.long a2), .second, .val (.long a3), .second, .val (.int a4), .val (.long a5), .second, .val (.long a6), .second, .val (.long u1), .second, .val (.long u2), .second, .val (.long u3), .second, .val (.int u4), .val (.long u5), .second, .val (.long u6), .second, .val (.ref b7), .val (.int (f2 u4 u5 u6 u1 u2 u3)), .val (.int v13_s0), .val (.int v17_s0), .val (.int v20_s0), .val (.int v23_s0), .val (.int v26_s0)]) rfl ?_
    show Steps p.tables e below (T26.setTop (mkF m 210 #[.val (.long a1), .second, .val (.long a2), .second, .val (.long a3), .second, .val (.int a4), .val (.long a5), .second, .val (.long a6), .second, .val (.long u1), .second, .val (.long u2), .second, .val (.long u3), .second, .val (.int u4), .val (.long u5), .second, .val (.long u6), .second, .val (.ref b7), .val (.int (f2 u4 u5 u6 u1 u2 u3)), .val (.int v13_s0), .val (.int v17_s0), .val (.int v20_s0), .val (.int v23_s0), .val (.int v26_s0)] [])) _
    refine XS.iload X26.here hx rfl (hb hby at_210) rfl ?_
    show Steps p.tables e below (T26.setTop (mkF m 212 #[.val (.long a1), .second, .val (.long a2), .second, .val (.long a3), .second, .val (.int a4), .val (.long a5), .second, .val (.long a6), .second, .val (.long u1), .second, .val (.long u2), .second, .val (.long u3), .second, .val (.int u4), .val (.long u5), .second, .val (.long u6), .second, .val (.ref b7), .val (.int (f2 u4 u5 u6 u1 u2 u3)), .val (.int v13_s0), .val (.int v17_s0), .val (.int v20_s0), .val (.int v23_s0), .val (.int v26_s0)] [(.int (f2 u4 u5 u6 u1 u2 u3))])) _
    refine XS.iload X26.here hx rfl (hb hby at_212) rfl ?_
    show Steps p.tables e below (T26.setTop (mkF m 214 #[.val (.long a1), .second, .val (.long a2), .second, .val (.long a3), .second, .val (.int a4), .val (.long a5), .second, .val (.long a6), .second, .val (.long u1), .second, .val (.long u2), .second, .val (.long u3), .second, .val (.int u4), .val (.long u5), .second, .val (.long u6), .second, .val (.ref b7), .val (.int (f2 u4 u5 u6 u1 u2 u3)), .val (.int v13_s0), .val (.int v17_s0), .val (.int v20_s0), .val (.int v23_s0), .val (.int v26_s0)] [(.int v26_s0), (.int (f2 u4 u5 u6 u1 u2 u3))])) _
    refine XS.icmpNo X26.here hx rfl (hb hby at_214) rfl (teq (by exact own_main (by rw [hu1]; exact own_and63 _) (by rw [hu2]; exact own_and63 _) (by rw [hu3]; exact own_and33 _) (by rw [hu4]; exact (c_and _ _ (by decide)).1) (by rw [hu6]; exact own_and63 _) hv13_s0 hv17_s0 hv20_s0 hv23_s0 hv26_s0)).2 ?_
    show Steps p.tables e below (T26.setTop (mkF m 217 #[.val (.long a1), .second, .val (.long a2), .second, .val (.long a3), .second, .val (.int a4), .val (.long a5), .second, .val (.long a6), .second, .val (.long u1), .second, .val (.long u2), .second, .val (.long u3), .second, .val (.int u4), .val (.long u5), .second, .val (.long u6), .second, .val (.ref b7), .val (.int (f2 u4 u5 u6 u1 u2 u3)), .val (.int v13_s0), .val (.int v17_s0), .val (.int v20_s0), .val (.int v23_s0), .val (.int v26_s0)] [])) _
    refine XS.iconst X26.here hx rfl (hb hby at_217) ?_
    show Steps p.tables e below (T26.setTop (mkF m 218 #[.val (.long a1), .second, .val (.long a2), .second, .val (.long a3), .second, .val (.int a4), .val (.long a5), .second, .val (.long a6), .second, .val (.long u1), .second, .val (.long u2), .second, .val (.long u3), .second, .val (.int u4), .val (.long u5), .second, .val (.long u6), .second, .val (.ref b7), .val (.int (f2 u4 u5 u6 u1 u2 u3)), .val (.int v13_s0), .val (.int v17_s0), .val (.int v20_s0), .val (.int v23_s0), .val (.int v26_s0)] [(.int (1 : Int32))])) _
    refine XS.goto X26.here hx rfl (pc0 := 218) (pc' := 222) rfl (hb hby at_218) (by decide) (by decide) ?_
    exact kt
  refine Gl.retW X26 hx hlk (t := .boolean) Bd.returns (by simp) (hb hby at_222) (w := (1 : Int32)) rfl hS10 (Nat.le_trans hk10 ((by rw [e26]; exact K11.1))) ?_ (by decide) (by decide)
  exact ⟨rfl, N13⟩
set_option maxRecDepth 65536 in
set_option maxHeartbeats 40000000 in
theorem comes_1 {Post : Tables → Env → Array Value → State → Outcome → State → Prop} (hpost : ∀ tb e args s v u, (limb_1_1.after args s (.returned v) u = true ∧ limb_1_2.after args s (.returned v) u = true) → Jvm.D.FramedW s (.returned v) u (Jvm.fieldLocs frame_1_writes args s ++ Jvm.arrayLocs frame_1_arrays args s ++ Jvm.staticLocs frame_1_statics s) 16 3200 → Post tb e args s (.returned v) u) :
    ArmFor flags0 classFile x code maxLocals ret World_1 tables_1 room_1 Calls_1 rest_1 Pre_1 Post := by
  intro l hfl _ _ p e ha hc hk s m args below hf hA hF happ hP
  obtain ⟨hcalls, hrest, hpre⟩ := hP
  obtain ⟨-, -, -, hnamed, -, -, -, hat⟩ := (Spec.applies_iff hf).mp happ
  obtain ⟨hg, hn⟩ := and_e (Cond.before_iff.mp (show (Jvm.Cond.and given_1 narrow_1).before args s = true from hpre))
  obtain ⟨hcnt, hg0⟩ := and_e hg
  obtain ⟨ha0, hg1⟩ := and_e hg0
  obtain ⟨ha1, hg2⟩ := and_e hg1
  obtain ⟨ha2, hg3⟩ := and_e hg2
  obtain ⟨ha3, hg4⟩ := and_e hg3
  obtain ⟨ha4, hg5⟩ := and_e hg4
  obtain ⟨w0, w1, w2, w3, w4, w5, rfl⟩ : ∃ w0 w1 w2 w3 w4 w5 : Value, args = #[w0, w1, w2, w3, w4, w5] := by
    have hs : args.size = 6 := by simpa [Cond.value, given_1] using hcnt
    obtain ⟨L⟩ := args
    match L, hs with
    | [w0, w1, w2, w3, w4, w5], _ => exact ⟨w0, w1, w2, w3, w4, w5, rfl⟩
  have hw := fun d (hd : d ∈ tables_1) => atoms_spec (ws := Jvm.Cond.code x code maxLocals ret :: tables_1) hat d (List.mem_cons_of_mem _ hd)
  obtain ⟨i0, ei0⟩ := isL_v ha0
  obtain rfl : w0 = (.long i0) := Option.some.inj ei0
  obtain ⟨i1, ei1⟩ := isL_v ha1
  obtain rfl : w1 = (.long i1) := Option.some.inj ei1
  obtain ⟨i2, ei2⟩ := isL_v ha2
  obtain rfl : w2 = (.long i2) := Option.some.inj ei2
  obtain ⟨i3, ei3⟩ := is_v ha3
  obtain rfl : w3 = (.int i3) := Option.some.inj ei3
  obtain ⟨i4, ei4⟩ := isL_v ha4
  obtain rfl : w4 = (.long i4) := Option.some.inj ei4
  obtain ⟨i5, ei5⟩ := isL_v hg5
  obtain rfl : w5 = (.long i5) := Option.some.inj ei5
  obtain ⟨n, o, h1, h2, h3, _, L, rfl, ⟨rfl, N⟩, hq⟩ := rm0 l s _ hw tables_1 i0 i1 i2 i3 i4 i5  s.heap s.heap.size (Old.start s)  p e ha hc hk s m _ below hf ((Spec.applies_iff_loose hf).mp happ).1 ⟨rfl, State.Warmed39.refl s, rfl⟩ trivial
  exact ⟨n, _, h1, h2, h3, hpost _ _ _ _ _ _ ⟨Cond.after_iff.mpr rfl, Cond.after_iff.mpr (eq_i res_at (Term.int_eval (1)) rfl)⟩ ⟨hq.1, hq.2.1, hq.2.2.1, (hq.2.2.2.sift fun y hy => Or.inr (N y hy)).mono (by decide) (by decide)⟩⟩
theorem main_1_1 : Claimed_1_1 := comes_1 fun _ _ _ _ _ _ h hF => ⟨h.1, hF⟩
theorem main_1_2 : Claimed_1_2 := comes_1 fun _ _ _ _ _ _ h hF => ⟨h.2, hF⟩
end Jvm.Pilot.@@N@@
namespace Jvm.Pilot.@@N@@
open Jvm Jvm.ClassFile Sem Op Lib Jvm.Free Jvm.Stand Jvm.Pilot.@@N@@.Jvm.D
/-! MADE BY PROGRAM (witnessworld.py) out of the Statement's table words and the real class files: 14 classes; the members and pool entries that the words name. The judged class is class 1, her method 1. -/
namespace start1
open Jvm.ClassFile
def u (s : String) : CpInfo := .utf8 (stringToUtf16 s)
/-- a pool by its gaps: so many unusable entries, then the entry; so many at the end -/
def gap : Nat → List CpInfo → List CpInfo
  | 0, r => r
  | n + 1, r => .unusable :: gap n r
def poolList (es : List (Nat × CpInfo)) (last : Nat) : List CpInfo := es.foldr (fun e r => gap e.1 (e.2 :: r)) (gap last [])
def pool (es : List (Nat × CpInfo)) (last : Nat) : Array CpInfo := ⟨poolList es last⟩
def fileOf (pool : Array CpInfo) (this : Nat) (attrs : Array Attribute := #[]) (ms : Array MethodInfo := #[]) (fl : Nat := 33) (sup : Nat := 0) (ifs : Array Nat := #[]) (fds : Array FieldInfo := #[]) : ClassFile where
  minorVersion := 0
  majorVersion := 65
  constantPool := pool
  accessFlags := fl
  thisClass := this
  superClass := sup
  interfaces := ifs
  fields := fds
  methods := ms
  attributes := attrs
def plain (name : String) (sup : Option ClassId) : Class where
  name := name
  kind := .ordinary
  loader := none
  accessFlags := 33
  super := sup
  interfaces := #[]
  cf := none
  fields := #[]
  methods := #[]
  instanceTypes := #[]
  staticTypes := #[]
  resolved := #[]
  callSites := []
  init := .initialized
  statics := none
  mirror := none

def pool0 : Array CpInfo := pool [(5, u "<init>"), (0, u "()V"), (1, .class_ 10), (1, u "java/lang/Object")] 113

def k0c0 : Code := { maxStack := 0, maxLocals := 1, code := object_method_1_code, exceptionTable := #[], attributes := #[] }
def k0m0 : Method := { name := "<init>", desc := "()V", sig := { parameters := [], returnType := none }, accessFlags := 1, code := some k0c0 }
/-- java/lang/Object -/
def k0 : Class := { plain "java/lang/Object" none with
  accessFlags := 33
  interfaces := #[]
  cf := some (fileOf pool0 8 #[] #[{ accessFlags := 1, nameIndex := 5, descriptorIndex := 6, attributes := #[] }] 33 0 #[] #[])
  fields := #[]
  methods := #[k0m0]
  instanceTypes := #[]
  staticTypes := #[]
  resolved := Array.replicate 124 none
  statics := none }

def pool1 : Array CpInfo := pool [(2, .class_ 4), (1, u "java/lang/Object"), (0, u "<init>"), (0, u "()V"), (2, .long 9223372036854775807), (1, .long 8589934591), (1, .integer 2147483647), (0, .class_ 15), (0, u "com/example/pooltergeist/pooltergeist/pool/ClassDefinition"), (0, .string 17), (0, u "t"), (0, .string 19), (0, u "s"), (0, .string 21), (0, u "g"), (0, .methodref 14 23), (0, .nameAndType 5 24), (0, u "(Ljava/lang/String;Ljava/lang/String;Ljava/lang/String;JJJ)V"), (0, .methodref 14 26), (0, .nameAndType 27 28), (0, u "due"), (0, u "(IJJ)Z"), (0, .long 1000000000), (1, .class_ 32), (0, u "com/example/pooltergeist/pooltergeist/pool/ClassDefinitionDuePinLaw"), (2, u "law"), (0, u "(JJJIJJ)Z")] 3

def k1m0 : Method := { name := "<init>", desc := "()V", sig := { parameters := [], returnType := none }, accessFlags := 1, code := none }
def k1c1 : Code := { maxStack := 11, maxLocals := 29, code := code, exceptionTable := #[], attributes := #[] }
def k1m1 : Method := { name := "law", desc := "(JJJIJJ)Z", sig := { parameters := [.long, .long, .long, .int, .long, .long], returnType := some .boolean }, accessFlags := 9, code := some k1c1 }
/-- com/example/pooltergeist/pooltergeist/pool/ClassDefinitionDuePinLaw -/
def k1 : Class := { plain "com/example/pooltergeist/pooltergeist/pool/ClassDefinitionDuePinLaw" (some 0) with
  accessFlags := 49
  interfaces := #[]
  cf := some (fileOf pool1 31 #[] #[{ accessFlags := 1, nameIndex := 5, descriptorIndex := 6, attributes := #[] }, { accessFlags := 9, nameIndex := 35, descriptorIndex := 36, attributes := #[] }] 49 2 #[] #[])
  fields := #[]
  methods := #[k1m0, k1m1]
  instanceTypes := #[]
  staticTypes := #[]
  resolved := Array.replicate 40 none
  statics := none }

def pool2 : Array CpInfo := pool [(1, .methodref 2 3), (0, .class_ 4), (0, .nameAndType 5 6), (0, u "java/lang/Object"), (0, u "<init>"), (0, u "()V"), (0, .fieldref 8 9), (0, .class_ 10), (0, .nameAndType 11 12), (0, u "com/example/pooltergeist/pooltergeist/pool/ClassDefinition"), (0, u "type"), (0, u "Ljava/lang/String;"), (0, .fieldref 8 14), (0, .nameAndType 15 12), (0, u "store"), (0, .fieldref 8 17), (0, .nameAndType 18 12), (0, u "group"), (0, .fieldref 8 20), (0, .nameAndType 21 22), (0, u "pending"), (0, u "J"), (0, .fieldref 8 24), (0, .nameAndType 25 22), (0, u "total"), (0, .fieldref 8 27), (0, .nameAndType 28 22), (0, u "expireSeconds"), (14, .long 1000000000), (7, u "(Ljava/lang/String;Ljava/lang/String;Ljava/lang/String;JJJ)V"), (4, u "due"), (0, u "(IJJ)Z")] 21

def k2c0 : Code := { maxStack := 3, maxLocals := 10, code := prog_43_method_1_code, exceptionTable := #[], attributes := #[] }
def k2m0 : Method := { name := "<init>", desc := "(Ljava/lang/String;Ljava/lang/String;Ljava/lang/String;JJJ)V", sig := { parameters := [(.object "java/lang/String"), (.object "java/lang/String"), (.object "java/lang/String"), .long, .long, .long], returnType := none }, accessFlags := 0, code := some k2c0 }
def k2c1 : Code := { maxStack := 6, maxLocals := 6, code := prog_43_method_4_code, exceptionTable := #[], attributes := #[] }
def k2m1 : Method := { name := "due", desc := "(IJJ)Z", sig := { parameters := [.int, .long, .long], returnType := some .boolean }, accessFlags := 0, code := some k2c1 }
/-- com/example/pooltergeist/pooltergeist/pool/ClassDefinition -/
def k2 : Class := { plain "com/example/pooltergeist/pooltergeist/pool/ClassDefinition" (some 0) with
  accessFlags := 32
  interfaces := #[]
  cf := some (fileOf pool2 8 #[] #[{ accessFlags := 0, nameIndex := 5, descriptorIndex := 51, attributes := #[] }, { accessFlags := 0, nameIndex := 56, descriptorIndex := 57, attributes := #[] }] 32 2 #[] #[{ accessFlags := 18, nameIndex := 11, descriptorIndex := 12, attributes := #[] }, { accessFlags := 18, nameIndex := 15, descriptorIndex := 12, attributes := #[] }, { accessFlags := 18, nameIndex := 18, descriptorIndex := 12, attributes := #[] }, { accessFlags := 18, nameIndex := 21, descriptorIndex := 22, attributes := #[] }, { accessFlags := 18, nameIndex := 25, descriptorIndex := 22, attributes := #[] }, { accessFlags := 18, nameIndex := 28, descriptorIndex := 22, attributes := #[] }])
  fields := #[{ name := "type", type := (.object "java/lang/String"), accessFlags := 18, slot := 0, constantValue := 0 }, { name := "store", type := (.object "java/lang/String"), accessFlags := 18, slot := 1, constantValue := 0 }, { name := "group", type := (.object "java/lang/String"), accessFlags := 18, slot := 2, constantValue := 0 }, { name := "pending", type := .long, accessFlags := 18, slot := 3, constantValue := 0 }, { name := "total", type := .long, accessFlags := 18, slot := 4, constantValue := 0 }, { name := "expireSeconds", type := .long, accessFlags := 18, slot := 5, constantValue := 0 }]
  methods := #[k2m0, k2m1]
  instanceTypes := #[(.object "java/lang/String"), (.object "java/lang/String"), (.object "java/lang/String"), .long, .long, .long]
  staticTypes := #[]
  resolved := Array.replicate 79 none
  statics := none }

def pool3 : Array CpInfo := pool [(1, .class_ 2), (0, u "java/io/Serializable"), (0, .class_ 4), (0, u "java/lang/Object")] 2

/-- java/io/Serializable -/
def k3 : Class := { plain "java/io/Serializable" (some 0) with
  accessFlags := 1537
  interfaces := #[]
  cf := some (fileOf pool3 1 #[] #[] 1537 3 #[] #[])
  fields := #[]
  methods := #[]
  instanceTypes := #[]
  staticTypes := #[]
  resolved := Array.replicate 7 none
  statics := none }

def pool4 : Array CpInfo := pool [(1, .class_ 2), (0, u "java/lang/Comparable"), (0, .class_ 4), (0, u "java/lang/Object")] 7

/-- java/lang/Comparable -/
def k4 : Class := { plain "java/lang/Comparable" (some 0) with
  accessFlags := 1537
  interfaces := #[]
  cf := some (fileOf pool4 1 #[] #[] 1537 3 #[] #[])
  fields := #[]
  methods := #[]
  instanceTypes := #[]
  staticTypes := #[]
  resolved := Array.replicate 12 none
  statics := none }

def pool5 : Array CpInfo := pool [(2, .class_ 4), (1, u "java/lang/CharSequence"), (42, .class_ 48), (0, u "java/lang/CharSequence$1CodePointIterator"), (10, .class_ 60), (0, u "java/lang/CharSequence$1CharIterator"), (5, .class_ 67), (0, u "java/lang/Object")] 63

/-- java/lang/CharSequence -/
def k5 : Class := { plain "java/lang/CharSequence" (some 0) with
  accessFlags := 1537
  interfaces := #[]
  cf := some (fileOf pool5 2 #[.nestMembers #[47, 59]] #[] 1537 66 #[] #[])
  fields := #[]
  methods := #[]
  instanceTypes := #[]
  staticTypes := #[]
  resolved := Array.replicate 131 none
  statics := none }

def pool6 : Array CpInfo := pool [(1, .class_ 2), (0, u "java/lang/constant/Constable"), (0, .class_ 4), (0, u "java/lang/Object")] 6

/-- java/lang/constant/Constable -/
def k6 : Class := { plain "java/lang/constant/Constable" (some 0) with
  accessFlags := 1537
  interfaces := #[]
  cf := some (fileOf pool6 1 #[] #[] 1537 3 #[] #[])
  fields := #[]
  methods := #[]
  instanceTypes := #[]
  staticTypes := #[]
  resolved := Array.replicate 11 none
  statics := none }

def pool7 : Array CpInfo := pool [(1, .class_ 2), (0, u "java/lang/constant/ConstantDesc"), (0, .class_ 4), (0, u "java/lang/Object")] 32

/-- java/lang/constant/ConstantDesc -/
def k7 : Class := { plain "java/lang/constant/ConstantDesc" (some 0) with
  accessFlags := 1537
  interfaces := #[]
  cf := some (fileOf pool7 1 #[] #[] 1537 3 #[] #[])
  fields := #[]
  methods := #[]
  instanceTypes := #[]
  staticTypes := #[]
  resolved := Array.replicate 37 none
  statics := none }

def pool8 : Array CpInfo := pool [(2, .class_ 4), (1, u "java/lang/Object"), (0, u "<init>"), (0, u "()V"), (3, .class_ 12), (1, u "java/lang/String"), (0, u "value"), (0, u "[B"), (2, u "coder"), (0, u "B"), (2, u "hash"), (0, u "I"), (2, u "hashIsZero"), (0, u "Z"), (13, u "COMPACT_STRINGS"), (534, .class_ 576), (0, u "java/lang/CharSequence"), (22, u "CASE_INSENSITIVE_ORDER"), (0, u "Ljava/util/Comparator;"), (500, u "serialPersistentFields"), (0, u "[Ljava/io/ObjectStreamField;"), (0, .class_ 1104), (0, u "java/lang/String$CaseInsensitiveComparator"), (1, .class_ 1107), (0, u "java/io/Serializable"), (0, .class_ 1109), (0, u "java/lang/Comparable"), (0, .class_ 1111), (0, u "java/lang/constant/Constable"), (0, .class_ 1113), (0, u "java/lang/constant/ConstantDesc"), (2, u "serialVersionUID"), (0, u "J"), (3, u "REPL"), (0, u "C"), (2, u "LATIN1"), (1, u "UTF16")] 323

def k8m0 : Method := { name := "<init>", desc := "()V", sig := { parameters := [], returnType := none }, accessFlags := 1, code := none }
/-- java/lang/String -/
def k8 : Class := { plain "java/lang/String" (some 0) with
  accessFlags := 49
  interfaces := #[3, 4, 5, 6, 7]
  cf := some (fileOf pool8 10 #[.nestMembers #[1103]] #[{ accessFlags := 1, nameIndex := 5, descriptorIndex := 6, attributes := #[] }] 49 2 #[1106, 1108, 575, 1110, 1112] #[{ accessFlags := 18, nameIndex := 13, descriptorIndex := 14, attributes := #[] }, { accessFlags := 18, nameIndex := 17, descriptorIndex := 18, attributes := #[] }, { accessFlags := 2, nameIndex := 21, descriptorIndex := 22, attributes := #[] }, { accessFlags := 2, nameIndex := 25, descriptorIndex := 26, attributes := #[] }, { accessFlags := 26, nameIndex := 1116, descriptorIndex := 1117, attributes := #[] }, { accessFlags := 24, nameIndex := 40, descriptorIndex := 26, attributes := #[] }, { accessFlags := 26, nameIndex := 1101, descriptorIndex := 1102, attributes := #[] }, { accessFlags := 26, nameIndex := 1121, descriptorIndex := 1122, attributes := #[] }, { accessFlags := 25, nameIndex := 599, descriptorIndex := 600, attributes := #[] }, { accessFlags := 24, nameIndex := 1125, descriptorIndex := 18, attributes := #[] }, { accessFlags := 24, nameIndex := 1127, descriptorIndex := 18, attributes := #[] }])
  fields := #[{ name := "value", type := (.array .byte), accessFlags := 18, slot := 0, constantValue := 0 }, { name := "coder", type := .byte, accessFlags := 18, slot := 1, constantValue := 0 }, { name := "hash", type := .int, accessFlags := 2, slot := 2, constantValue := 0 }, { name := "hashIsZero", type := .boolean, accessFlags := 2, slot := 3, constantValue := 0 }, { name := "serialVersionUID", type := .long, accessFlags := 26, slot := 0, constantValue := 0 }, { name := "COMPACT_STRINGS", type := .boolean, accessFlags := 24, slot := 1, constantValue := 0 }, { name := "serialPersistentFields", type := (.array (.object "java/io/ObjectStreamField")), accessFlags := 26, slot := 2, constantValue := 0 }, { name := "REPL", type := .char, accessFlags := 26, slot := 3, constantValue := 0 }, { name := "CASE_INSENSITIVE_ORDER", type := (.object "java/util/Comparator"), accessFlags := 25, slot := 4, constantValue := 0 }, { name := "LATIN1", type := .byte, accessFlags := 24, slot := 5, constantValue := 0 }, { name := "UTF16", type := .byte, accessFlags := 24, slot := 6, constantValue := 0 }]
  methods := #[k8m0]
  instanceTypes := #[(.array .byte), .byte, .int, .boolean]
  staticTypes := #[.long, .boolean, (.array (.object "java/io/ObjectStreamField")), .char, (.object "java/util/Comparator"), .byte, .byte]
  resolved := Array.replicate 1451 none
  statics := none }

def pool9 : Array CpInfo := pool [(1, u "java/lang/Cloneable"), (0, .class_ 1), (0, u "java/lang/Object"), (0, .class_ 3)] 3

/-- java/lang/Cloneable -/
def k9 : Class := { plain "java/lang/Cloneable" (some 0) with
  accessFlags := 1537
  interfaces := #[]
  cf := some (fileOf pool9 2 #[] #[] 1537 4 #[] #[])
  fields := #[]
  methods := #[]
  instanceTypes := #[]
  staticTypes := #[]
  resolved := Array.replicate 8 none
  statics := none }

/-- the primitive byte -/
def k10 : Class := { plain "byte" none with kind := .primitive 'B', accessFlags := 0x411 }
/-- [B -/
def k11 : Class := { plain "[B" (some 0) with kind := .array 10 .byte, interfaces := #[9, 3], accessFlags := 1041 }

/-- the primitive int -/
def k12 : Class := { plain "int" none with kind := .primitive 'I', accessFlags := 0x411 }
/-- [I -/
def k13 : Class := { plain "[I" (some 0) with kind := .array 12 .int, interfaces := #[9, 3], accessFlags := 1041 }

def heap : Heap := #[]
def classes : Array Class := #[k0, k1, k2, k3, k4, k5, k6, k7, k8, k9, k10, k11, k12, k13]
def interned : List (Array UInt16 × Addr) := []
def slotsUsed : Nat := 0
def theMethod : MethodId := ⟨1, 1⟩
def args0 : Array Value := #[.long 5, .long 5, .long 5, .int 5, .long 5, .long 5]
def aboutOver (below : List Frame) : State where
  vm := { classes := classes, interned := interned.toArray }
  heap := heap
  slotsUsed := slotsUsed
  threads := #[{ frames := .invoking theMethod args0 :: below }]
def below0 : List Frame := [.native { method := ⟨0, 0⟩, args := #[] }]
def about1 : State := aboutOver below0
def p0 : Program := .bare "" "" ""
def e0 : Env := launch0.env 0 0 0
theorem w_frames : about1.frames = Frame.invoking theMethod args0 :: below0 := rfl
set_option maxRecDepth 65536 in
theorem w_args : argsFit about1.vm theMethod args0 = true := by decide +kernel
set_option maxRecDepth 65536 in
theorem w_heap : heapFits about1 = true := by decide +kernel
set_option maxRecDepth 65536 in
theorem w_runnable : about1.curStatus? = some .runnable := by decide +kernel
set_option maxRecDepth 65536 in
theorem w_alone : about1.alone = true := by decide +kernel
set_option maxRecDepth 65536 in
theorem w_named : about1.methodNamed? x = some theMethod := by decide +kernel
set_option maxRecDepth 65536 in
theorem w_hears : about1.hears theMethod below0 = true := by decide +kernel
set_option maxRecDepth 65536 in
theorem w_ripe : about1.ripe theMethod args0 below0 = true := by decide +kernel
theorem w_running : about1.status = .running := rfl
set_option maxRecDepth 65536 in
theorem w_room : about1.hasRoom e0.platform room_1 = true :=
  launch0.hasRoom_least _ room_1 (by decide +kernel) (by decide +kernel) (by decide +kernel) (by decide +kernel) (by decide +kernel) (by decide +kernel)
theorem allAtoms_all (ts : List Jvm.Cond) (a : Array Jvm.Value) (st : Jvm.State) : (allAtoms ts).before a st = ts.all (fun c => c.before a st) := by
  induction ts with
  | nil => rfl
  | cons c t ih =>
    show (Jvm.Cond.and c (allAtoms t)).before a st = _
    rw [Jvm.Cond.before_and, ih, List.all_cons]
def words1 : List Jvm.Cond := Jvm.Cond.code x code maxLocals ret :: tables_1
/-- a 'code' word, met by the world's own term for the bytes: nothing is compared byte by byte -/
theorem code_word {y : MethodName} {bytes : ByteArray} {mx : Nat} {rt : Option FieldType} {a : Array Value} {s : State} {m : MethodId} {meth : Method} {c : Code} (h1 : s.methodNamed? y = some m) (h2 : s.vm.method? m = some meth) (h3 : meth.code = some c) (h4 : c.code = bytes)
    (h5 : (c.maxLocals == mx && c.exceptionTable.isEmpty && decide (c.maxStack ≤ mostOperands) && decide (meth.sig.returnType = rt) && !meth.locks && decide (parseMethodDescriptor y.desc = some meth.sig)) = true) : (Jvm.Cond.code y bytes mx rt).before a s = true := by
  simp only [Bool.and_eq_true, beq_iff_eq, Bool.not_eq_true', decide_eq_true_eq] at h5
  obtain ⟨⟨⟨⟨⟨g1, g2⟩, g3⟩, g4⟩, g5⟩, g6⟩ := h5
  simp [Cond.before, Cond.holds, Cond.value, h1, h2, h3, h4, g1, g2, g3, g4, g5, g6]
def isCode : Jvm.Cond → Bool
  | .code _ _ _ _ => true
  | _ => false
theorem all_split {L : List Jvm.Cond} {P : Jvm.Cond → Bool} (h1 : L.all (fun c => isCode c || P c) = true) (h2 : ∀ c ∈ L.filter isCode, P c = true) : L.all P = true := by
  refine List.all_eq_true.mpr fun c hc => ?_
  have h := List.all_eq_true.mp h1 c hc
  rcases Bool.eq_false_or_eq_true (isCode c) with hi | hi
  · exact h2 c (List.mem_filter.mpr ⟨hc, hi⟩)
  · simpa [hi] using h
set_option maxRecDepth 65536 in
theorem w_c0 : (Jvm.Cond.code x code maxLocals ret).before args0 about1 = true := code_word (m := ⟨1, 1⟩) (meth := k1m1) (c := k1c1) (by decide +kernel) rfl rfl rfl (by decide +kernel)
set_option maxRecDepth 65536 in
theorem w_c1 : (Jvm.Cond.code ({ cls := "com/example/pooltergeist/pooltergeist/pool/ClassDefinition", name := "<init>", desc := "(Ljava/lang/String;Ljava/lang/String;Ljava/lang/String;JJJ)V" } : Jvm.MethodName) prog_43_method_1_code (10 : Nat) (Option.none : Option Jvm.ClassFile.FieldType)).before args0 about1 = true := code_word (m := ⟨2, 0⟩) (meth := k2m0) (c := k2c0) (by decide +kernel) rfl rfl rfl (by decide +kernel)
set_option maxRecDepth 65536 in
theorem w_c2 : (Jvm.Cond.code ({ cls := "java/lang/Object", name := "<init>", desc := "()V" } : Jvm.MethodName) object_method_1_code (1 : Nat) (Option.none : Option Jvm.ClassFile.FieldType)).before args0 about1 = true := code_word (m := ⟨0, 0⟩) (meth := k0m0) (c := k0c0) (by decide +kernel) rfl rfl rfl (by decide +kernel)
set_option maxRecDepth 65536 in
theorem w_c3 : (Jvm.Cond.code ({ cls := "com/example/pooltergeist/pooltergeist/pool/ClassDefinition", name := "due", desc := "(IJJ)Z" } : Jvm.MethodName) prog_43_method_4_code (6 : Nat) (Option.some Jvm.ClassFile.FieldType.boolean)).before args0 about1 = true := code_word (m := ⟨2, 1⟩) (meth := k2m1) (c := k2c1) (by decide +kernel) rfl rfl rfl (by decide +kernel)
def codes1 : List Jvm.Cond := [Jvm.Cond.code x code maxLocals ret, Jvm.Cond.code ({ cls := "com/example/pooltergeist/pooltergeist/pool/ClassDefinition", name := "<init>", desc := "(Ljava/lang/String;Ljava/lang/String;Ljava/lang/String;JJJ)V" } : Jvm.MethodName) prog_43_method_1_code (10 : Nat) (Option.none : Option Jvm.ClassFile.FieldType), Jvm.Cond.code ({ cls := "java/lang/Object", name := "<init>", desc := "()V" } : Jvm.MethodName) object_method_1_code (1 : Nat) (Option.none : Option Jvm.ClassFile.FieldType), Jvm.Cond.code ({ cls := "com/example/pooltergeist/pooltergeist/pool/ClassDefinition", name := "due", desc := "(IJJ)Z" } : Jvm.MethodName) prog_43_method_4_code (6 : Nat) (Option.some Jvm.ClassFile.FieldType.boolean)]
set_option maxRecDepth 65536 in
theorem codes_eq : words1.filter isCode = codes1 := rfl
theorem w_codes : ∀ c ∈ words1.filter isCode, c.before args0 about1 = true := by
  rw [codes_eq]
  intro c hc
  simp only [codes1, List.mem_cons, List.not_mem_nil, or_false] at hc
  rcases hc with rfl | rfl | rfl | rfl
  · exact w_c0
  · exact w_c1
  · exact w_c2
  · exact w_c3
set_option maxRecDepth 65536 in
theorem w_t1 : (words1.take 24).all (fun c => isCode c || c.before args0 about1) = true := by decide +kernel
set_option maxRecDepth 65536 in
theorem w_t2 : (words1.drop 24).all (fun c => isCode c || c.before args0 about1) = true := by decide +kernel
theorem w_tables : (allAtoms (Jvm.Cond.code x code maxLocals ret :: tables_1)).before args0 about1 = true := by
  rw [allAtoms_all]
  show words1.all (fun c => c.before args0 about1) = true
  refine all_split ?_ w_codes
  rw [← List.take_append_drop 24 words1, List.all_append, w_t1, w_t2]
  rfl
set_option maxRecDepth 65536 in
theorem w_case : (Jvm.Cond.and given_1 narrow_1).before args0 about1 = true := by decide +kernel
theorem w_applies : (headSpec (Jvm.Cond.code x code maxLocals ret :: tables_1) room_1).applies x e0.platform about1 = true :=
  (Spec.applies_iff w_frames).mpr ⟨w_running, w_runnable, w_alone, w_named, w_hears, w_ripe, w_room, w_tables⟩
theorem atStart : AtStart classFile x code maxLocals ret World_1 tables_1 room_1 Calls_1 rest_1 Pre_1 launch0 p0 e0 about1 theMethod args0 below0 :=
  ⟨lists_1, trivial, launch0.admits_env _ _ _, launch0.least_env, fairChoices_fair.cas, fairChoices_fair.clock, w_frames, w_args, w_heap, w_applies, trivial, trivial, w_case⟩
end start1
theorem witness_1 : WitnessClaimed_1 := ⟨start1.p0, start1.e0, start1.about1, start1.theMethod, start1.args0, start1.below0, start1.atStart⟩
end Jvm.Pilot.@@N@@
