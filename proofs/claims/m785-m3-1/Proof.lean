import JvmDerived
import JvmDerived.Pilot.@@N@@Statement
import JvmDerived.Pilot.@@N@@Code
set_option linter.unusedVariables false
set_option linter.unusedSimpArgs false
namespace Jvm.Pilot.@@N@@
open Jvm Jvm.ClassFile Sem Op Lib Jvm.Free Jvm.Stand Jvm.LawKit Jvm.RoadKit Bundle Jvm.Pilot.@@N@@.Jvm.D
section Own
variable {p : Program} {l : Launch} {e : Env} {R : Room} {s : State} {m : MethodId} {args : Array Value} {below : List Frame} {meth : Method} {c : Code} {T : State} {locs : List Loc} {cells slots : Nat}
/-- the goal of a walk, as seen from a state on its road -/
def Gl (p : Program) (e : Env) (below : List Frame) (K : Outcome → State → Prop) (A : State) : Prop := ∃ s₂ o, Steps p.tables e below A s₂ ∧ s₂.status = .running ∧ Ended s₂ below o ∧ K o s₂
theorem Gl.up {K : Outcome → State → Prop} {A B : State} (h : ∀ t, Steps p.tables e below B t → Steps p.tables e below A t) (k : Gl p e below K B) : Gl p e below K A := by
  obtain ⟨s2, o, h1, r⟩ := k
  exact ⟨s2, o, h _ h1, r⟩
/-- what a body leaves -/
def Ret (s : State) (rc rs : Nat) (Q : Option Value → Heap → List Loc → Prop) (o : Outcome) (U : State) : Prop := ∃ v L, o = .returned v ∧ Q v U.heap L ∧ FrameEnd s o U L rc rs
variable {rc rs : Nat} {Q : Option Value → Heap → List Loc → Prop} {pc : Nat} {Ls : Array Slot} {rest : List Value}
theorem Gl.retI (X : Stand p l e R s m args below meth c T locs cells slots) (hx : p.tables.exec = Jvm.exec) (hlk : meth.locks = false) {z : Int32} (hret : meth.sig.returnType = some .int) (hd : decode c.code pc = .ok (.ireturn, 1)) (hq : Q (some (.int z)) T.heap locs) (hc : cells ≤ rc) (hs : slots ≤ rs) :
    Gl p e below (Ret s rc rs Q) (T.setTop (mkF m pc Ls (.int z :: rest))) := by
  obtain ⟨fs, hr, hrun, hended, hW, hsame⟩ := X.leave (v := some (.int z)) (fun h => by rw [hret] at h; cases h) hlk
  exact ⟨_, _, retOut X hx hret rfl (Or.inl ⟨rfl, Or.inl rfl, z, rfl⟩) hd hr, hrun, hended, _, _, rfl, hq, ⟨_, rfl⟩, hW, hsame.mono hc hs⟩
theorem Gl.retJ (X : Stand p l e R s m args below meth c T locs cells slots) (hx : p.tables.exec = Jvm.exec) (hlk : meth.locks = false) {z : Int64} (hret : meth.sig.returnType = some .long) (hd : decode c.code pc = .ok (.lreturn, 1)) (hq : Q (some (.long z)) T.heap locs) (hc : cells ≤ rc) (hs : slots ≤ rs) :
    Gl p e below (Ret s rc rs Q) (T.setTop (mkF m pc Ls (.long z :: rest))) := by
  obtain ⟨fs, hr, hrun, hended, hW, hsame⟩ := X.leave (v := some (.long z)) (fun h => by rw [hret] at h; cases h) hlk
  exact ⟨_, _, retOut X hx hret rfl (Or.inr (Or.inl ⟨rfl, rfl, z, rfl⟩)) hd hr, hrun, hended, _, _, rfl, hq, ⟨_, rfl⟩, hW, hsame.mono hc hs⟩
theorem Gl.retN (X : Stand p l e R s m args below meth c T locs cells slots) (hx : p.tables.exec = Jvm.exec) (hlk : meth.locks = false) {z w : Int32} {t : FieldType} (hret : meth.sig.returnType = some t) (ht : t = .boolean ∨ t = .byte ∨ t = .char ∨ t = .short) (hd : decode c.code pc = .ok (.ireturn, 1)) (hn : nar t z = w) (hq : Q (some (.int w)) T.heap locs) (hc : cells ≤ rc) (hs : slots ≤ rs) :
    Gl p e below (Ret s rc rs Q) (T.setTop (mkF m pc Ls (.int z :: rest))) := by
  subst hn
  obtain ⟨fs, hr, hrun, hended, hW, hsame⟩ := X.leave (v := some (.int (nar t z))) (fun h => by rw [hret] at h; cases h) hlk
  exact ⟨_, _, Jvm.RoadKit.retN X hx hret ht hd hr, hrun, hended, _, _, rfl, hq, ⟨_, rfl⟩, hW, hsame.mono hc hs⟩
theorem Gl.ret0 (X : Stand p l e R s m args below meth c T locs cells slots) (hx : p.tables.exec = Jvm.exec) (hlk : meth.locks = false) (hret : meth.sig.returnType = none) (hd : decode c.code pc = .ok (.return_, 1)) (hq : Q none T.heap locs) (hc : cells ≤ rc) (hs : slots ≤ rs) :
    Gl p e below (Ret s rc rs Q) (T.setTop (mkF m pc Ls [])) := by
  obtain ⟨fs, hr, hrun, hended, hW, hsame⟩ := X.leave (v := none) (fun _ => rfl) hlk
  exact ⟨_, _, X.returnOut hx hret hd hr, hrun, hended, _, _, rfl, hq, ⟨_, rfl⟩, hW, hsame.mono hc hs⟩
theorem Gl.retR (X : Stand p l e R s m args below meth c T locs cells slots) (hx : p.tables.exec = Jvm.exec) (hlk : meth.locks = false) {v : Value} {t : FieldType} (hret : meth.sig.returnType = some t) (hd : decode c.code pc = .ok (.areturn, 1)) (ht : t.isReference = true) (hv : v.isRef = true) (hq : Q (some v) T.heap locs) (hc : cells ≤ rc) (hs : slots ≤ rs) :
    Gl p e below (Ret s rc rs Q) (T.setTop (mkF m pc Ls (v :: rest))) := by
  have hn : narrow t v = v := by cases t <;> first | rfl | (cases ht; done) | (cases v <;> first | rfl | (cases hv; done))
  obtain ⟨fs, hr, hrun, hended, hW, hsame⟩ := X.leave (v := some v) (fun h => by rw [hret] at h; cases h) hlk
  exact ⟨_, _, retOut X hx hret hn (Or.inr (Or.inr (Or.inr (Or.inr ⟨rfl, ht, hv⟩)))) hd hr, hrun, hended, _, _, rfl, hq, ⟨_, rfl⟩, hW, hsame.mono hc hs⟩
end Own
theorem own_widen {p : Program} {l : Launch} {e : Env} {R : Room} {s : State} {m : MethodId} {args : Array Value} {below : List Frame} {meth : Method} {c : Code} {T : State} {locs : List Loc} {cells slots cells' slots' : Nat} (X : Stand p l e R s m args below meth c T locs cells slots) (hc : cells ≤ cells') (hs : slots ≤ slots') : Stand p l e R s m args below meth c T locs cells' slots' := { X with same := X.same.mono hc hs }
theorem old_le {Z : State} {n0 : Nat} {h : Heap} (O : Old Z n0 h) : n0 ≤ h.size := by rw [← O.1]; exact O.2.1
theorem b01_ite {q : Prop} [Decidable q] {a b : Int32} (ha : a = 0 ∨ a = 1) (hb : b = 0 ∨ b = 1) : (if q then a else b) = 0 ∨ (if q then a else b) = 1 := by split <;> assumption
theorem nar_b01 {a : Int32} (h : a = 0 ∨ a = 1) : nar .boolean a = a := by rcases h with rfl | rfl <;> rfl
theorem fits_b01 {a : Int32} (h : a = 0 ∨ a = 1) : fits .boolean (.int a) = true := by rcases h with rfl | rfl <;> rfl
theorem own_fld {Z : State} {h : Heap} {a : Addr} {C n d : String} {v w : Value} (q : v = w) (F : Fld Z h a C n d v) : Fld Z h a C n d w := q ▸ F
theorem jc_lt_t {x y : Int64} (h : x < y) : ifCond.holds .lt (lcmpW x y) = true := (if0 _ _).trans (tlt ((lw_lt x y).mpr h)).1
theorem jc_lt_f {x y : Int64} (h : ¬ x < y) : ifCond.holds .lt (lcmpW x y) = false := (if0 _ _).trans (flt (fun q => h ((lw_lt x y).mp q))).1
theorem jc_ge_t {x y : Int64} (h : ¬ x < y) : ifCond.holds .ge (lcmpW x y) = true := (if0 _ _).trans (flt (fun q => h ((lw_lt x y).mp q))).2.1
theorem jc_ge_f {x y : Int64} (h : x < y) : ifCond.holds .ge (lcmpW x y) = false := (if0 _ _).trans (tlt ((lw_lt x y).mpr h)).2.1
theorem jc_gt_t {x y : Int64} (h : y < x) : ifCond.holds .gt (lcmpW x y) = true := (if0 _ _).trans (tlt ((lw_gt x y).mpr h)).2.2.1
theorem jc_gt_f {x y : Int64} (h : ¬ y < x) : ifCond.holds .gt (lcmpW x y) = false := (if0 _ _).trans (flt (fun q => h ((lw_gt x y).mp q))).2.2.1
theorem jc_le_t {x y : Int64} (h : ¬ y < x) : ifCond.holds .le (lcmpW x y) = true := (if0 _ _).trans (flt (fun q => h ((lw_gt x y).mp q))).2.2.2
theorem jc_le_f {x y : Int64} (h : y < x) : ifCond.holds .le (lcmpW x y) = false := (if0 _ _).trans (tlt ((lw_gt x y).mpr h)).2.2.2
theorem jc_eq_t {x y : Int64} (h : x = y) : ifCond.holds .eq (lcmpW x y) = true := (if0 _ _).trans (teq ((lw_eq x y).mpr h)).1
theorem jc_eq_f {x y : Int64} (h : ¬ x = y) : ifCond.holds .eq (lcmpW x y) = false := (if0 _ _).trans (feq (fun q => h ((lw_eq x y).mp q))).1
theorem jc_ne_t {x y : Int64} (h : ¬ x = y) : ifCond.holds .ne (lcmpW x y) = true := (if0 _ _).trans (feq (fun q => h ((lw_eq x y).mp q))).2
theorem jc_ne_f {x y : Int64} (h : x = y) : ifCond.holds .ne (lcmpW x y) = false := (if0 _ _).trans (teq ((lw_eq x y).mpr h)).2
theorem own_mapset (cs : List Int32) (i : Nat) (v : Int32) : (cs.map Value.int).set i (.int v) = (cs.set i v).map Value.int := (List.map_set).symm
theorem d2_0 : decode jdk_89_method_16_code 0 = .ok (.iload_n 0, 1) := by decide +kernel
theorem d2_1 : decode jdk_89_method_16_code 1 = .ok (.ldc 75, 2) := by decide +kernel
theorem d2_3 : decode jdk_89_method_16_code 3 = .ok (.if_icmp .lt 13, 3) := by decide +kernel
theorem d2_16 : decode jdk_89_method_16_code 16 = .ok (.iconst 0, 1) := by decide +kernel
theorem d2_6 : decode jdk_89_method_16_code 6 = .ok (.iload_n 0, 1) := by decide +kernel
theorem d2_7 : decode jdk_89_method_16_code 7 = .ok (.ldc 77, 2) := by decide +kernel
theorem d2_9 : decode jdk_89_method_16_code 9 = .ok (.if_icmp .ge 7, 3) := by decide +kernel
theorem d2_12 : decode jdk_89_method_16_code 12 = .ok (.iconst 1, 1) := by decide +kernel
theorem d2_13 : decode jdk_89_method_16_code 13 = .ok (.goto 4, 3) := by decide +kernel
theorem d2_17 : decode jdk_89_method_16_code 17 = .ok (.ireturn, 1) := by decide +kernel
theorem pn_java_lang_Character : plainName "java/lang/Character" = true := by first | (simp [plainName, overriddenIn]; done) | decide +kernel
theorem d1_0 : decode prog_6_method_3_code 0 = .ok (.iload_n 0, 1) := by decide +kernel
theorem d1_1 : decode prog_6_method_3_code 1 = .ok (.sipush 128, 3) := by decide +kernel
theorem d1_4 : decode prog_6_method_3_code 4 = .ok (.if_icmp .ge 5, 3) := by decide +kernel
theorem d1_7 : decode prog_6_method_3_code 7 = .ok (.iconst 1, 1) := by decide +kernel
theorem d1_8 : decode prog_6_method_3_code 8 = .ok (.ireturn, 1) := by decide +kernel
theorem d1_9 : decode prog_6_method_3_code 9 = .ok (.iload_n 0, 1) := by decide +kernel
theorem d1_10 : decode prog_6_method_3_code 10 = .ok (.sipush 2048, 3) := by decide +kernel
theorem d1_13 : decode prog_6_method_3_code 13 = .ok (.if_icmp .lt 10, 3) := by decide +kernel
theorem d1_23 : decode prog_6_method_3_code 23 = .ok (.iconst 2, 1) := by decide +kernel
theorem d1_24 : decode prog_6_method_3_code 24 = .ok (.ireturn, 1) := by decide +kernel
theorem d1_16 : decode prog_6_method_3_code 16 = .ok (.iload_n 0, 1) := by decide +kernel
theorem pd_oCcZ : parseMethodDescriptor "(C)Z" = some ⟨[.char], some .boolean⟩ := by decide +kernel
theorem d1_17 : decode prog_6_method_3_code 17 = .ok (.invokestatic 32, 3) := by decide +kernel
theorem d1_20 : decode prog_6_method_3_code 20 = .ok (.ifCond .eq 5, 3) := by decide +kernel
theorem d1_25 : decode prog_6_method_3_code 25 = .ok (.iconst 3, 1) := by decide +kernel
theorem d1_26 : decode prog_6_method_3_code 26 = .ok (.ireturn, 1) := by decide +kernel
theorem pn_com_example_relation_check_relationcheck_model_Notation : plainName "com/example/relation_check/relationcheck/model/Notation" = true := by first | (simp [plainName, overriddenIn]; done) | decide +kernel
theorem pd_oCcI : parseMethodDescriptor "(C)I" = some ⟨[.char], some .int⟩ := by decide +kernel
theorem pn_com_example_relation_check_relationcheck_model_NotationUtf8BytesPinLaw : plainName "com/example/relation_check/relationcheck/model/NotationUtf8BytesPinLaw" = true := by first | (simp [plainName, overriddenIn]; done) | decide +kernel
def f2 (p0 : Int32) : Int32 := (if p0 < (55296 : Int32) then (0 : Int32) else (if p0 < (57344 : Int32) then (1 : Int32) else (0 : Int32)))
theorem f2_b (p0 : Int32) : f2 p0 = 0 ∨ f2 p0 = 1 := (b01_ite (Or.inl rfl) (b01_ite (Or.inr rfl) (Or.inl rfl)))
def Q2 (Z : State) (p0 : Int32) (h0 : Heap) (n0 : Nat) (v : Option Value) (h : Heap) (L : List Loc) : Prop := v = some (.int (f2 p0)) ∧ L = [] ∧ h = h0
theorem ef2 (m : MethodId) (p0 : Int32) : entryFrame m #[(.int p0)] 1 = mkF m 0 #[.val (.int p0)] [] := by first | (simp [entryFrame, mkF, argsToLocals, Value.category]; done) | rfl
set_option maxRecDepth 65536 in
set_option maxHeartbeats 40000000 in
theorem rm2 (l : Launch) (Z : State) (aa : Array Value) (hw : ∀ d ∈ tables_1, d.before aa Z = true) (ws : List Jvm.Cond) (p0 : Int32) (h0 : Heap) (n0 : Nat) (O0 : Old Z n0 h0)  :
    MetFree l (⟨"java/lang/Character", "isSurrogate", "(C)Z"⟩ : MethodName) (head1 (Jvm.Cond.code (⟨"java/lang/Character", "isSurrogate", "(C)Z"⟩ : MethodName) jdk_89_method_16_code 1 (some .boolean) :: ws) ({ frames := 0, cells := 0, slots := 0, locals := 0 } : Room)) (fun a U => a = #[(.int p0)] ∧ Z.Warmed39 U.vm ∧ U.heap = h0) (fun _ _ _ _ _ => True) (fun _ U o U' => ∃ v L, o = .returned v ∧ Q2 Z p0 h0 n0 v U'.heap L ∧ FrameEnd U o U' L ({ frames := 0, cells := 0, slots := 0, locals := 0 } : Room).cells ({ frames := 0, cells := 0, slots := 0, locals := 0 } : Room).slots) := by
  refine MetFree.of_bodySF (plainFor_of_name pn_java_lang_Character) hisR ?_
  intro p e s m args below meth c s₁ Bd hml0 hP hK
  obtain ⟨rfl, hZ, hh⟩ := hP
  have hx := Bd.exec
  have hby := Bd.bytes
  have hlk := Bd.notSynchronized
  have hml : c.maxLocals = 1 := hml0
  have hown : s.vm.findClass "java/lang/Character" = some m.cls := findClass_of_methodNamed Bd.named
  have hnm := (name_of_methodNamed Bd.named Bd.method).1
  have X0 : Stand p l e ({ frames := 0, cells := 0, slots := 0, locals := 0 } : Room) s m #[(.int p0)] below meth c s₁ [] 0 0 := Stand.of_body Bd
  have e0 : s₁.heap = h0 := by rw [← hh, Bd.state]; rfl
  have N0 := Fr.nil n0
  show Gl p e below (Ret s 0 0 (Q2 Z p0 h0 n0)) (s₁.setTop (entryFrame m #[(.int p0)] 1))
  rw [ef2 m p0]
  obtain ⟨args, hargs⟩ : ∃ z : Array Value, z = #[(.int p0)] := ⟨_, rfl⟩
  rw [← hargs] at X0
  refine Gl.up (B := s₁.setTop (mkF m 3 #[.val (.int p0)] [(.int (55296 : Int32)), (.int p0)])) (fun t kt => ?_) ?_
  · show Steps p.tables e below (s₁.setTop (mkF m 0 #[.val (.int p0)] [])) _
    refine XS.iloadN X0.here hx rfl (hb hby d2_0) rfl ?_
    show Steps p.tables e below (s₁.setTop (mkF m 1 #[.val (.int p0)] [(.int p0)])) _
    refine X0.ldcInt hx hown (mvT hZ (hw _ (List.mem_of_getElem? (i := 8) rfl))) (g := (mkF m 1 #[.val (.int p0)] [(.int p0)])) rfl (hb hby d2_1) _ ?_
    exact kt
  suffices J1 : ∀ (T1 : State) (v1_s0 : Int32), v1_s0 = (if p0 < (55296 : Int32) then (0 : Int32) else (if p0 < (57344 : Int32) then (1 : Int32) else (0 : Int32))) → Stand p l e ({ frames := 0, cells := 0, slots := 0, locals := 0 } : Room) s m args below meth c T1 [] 0 0 → T1.heap = h0 → Gl p e below (Ret s 0 0 (Q2 Z p0 h0 n0)) (T1.setTop (mkF m 17 #[.val (.int p0)] [(.int v1_s0)])) by
    by_cases c3_2 : p0 < (55296 : Int32)
    · refine Gl.up (B := s₁.setTop (mkF m 17 #[.val (.int p0)] [(.int (0 : Int32))])) (fun t kt => ?_) ?_
      · show Steps p.tables e below (s₁.setTop (mkF m 3 #[.val (.int p0)] [(.int (55296 : Int32)), (.int p0)])) _
        refine XS.icmpYes X0.here hx rfl (pc0 := 3) (pc' := 16) rfl (hb hby d2_3) rfl (tlt c3_2).1 (by decide) (by decide) ?_
        show Steps p.tables e below (s₁.setTop (mkF m 16 #[.val (.int p0)] [])) _
        refine XS.iconst X0.here hx rfl (hb hby d2_16) ?_
        exact kt
      exact J1 _ (0 : Int32) (if_pos c3_2).symm X0 e0
    · refine Gl.up (B := s₁.setTop (mkF m 9 #[.val (.int p0)] [(.int (57344 : Int32)), (.int p0)])) (fun t kt => ?_) ?_
      · show Steps p.tables e below (s₁.setTop (mkF m 3 #[.val (.int p0)] [(.int (55296 : Int32)), (.int p0)])) _
        refine XS.icmpNo X0.here hx rfl (hb hby d2_3) rfl (flt c3_2).1 ?_
        show Steps p.tables e below (s₁.setTop (mkF m 6 #[.val (.int p0)] [])) _
        refine XS.iloadN X0.here hx rfl (hb hby d2_6) rfl ?_
        show Steps p.tables e below (s₁.setTop (mkF m 7 #[.val (.int p0)] [(.int p0)])) _
        refine X0.ldcInt hx hown (mvT hZ (hw _ (List.mem_of_getElem? (i := 11) rfl))) (g := (mkF m 7 #[.val (.int p0)] [(.int p0)])) rfl (hb hby d2_7) _ ?_
        exact kt
      by_cases c9_3 : p0 < (57344 : Int32)
      · refine Gl.up (B := s₁.setTop (mkF m 17 #[.val (.int p0)] [(.int (1 : Int32))])) (fun t kt => ?_) ?_
        · show Steps p.tables e below (s₁.setTop (mkF m 9 #[.val (.int p0)] [(.int (57344 : Int32)), (.int p0)])) _
          refine XS.icmpNo X0.here hx rfl (hb hby d2_9) rfl (tlt c9_3).2.1 ?_
          show Steps p.tables e below (s₁.setTop (mkF m 12 #[.val (.int p0)] [])) _
          refine XS.iconst X0.here hx rfl (hb hby d2_12) ?_
          show Steps p.tables e below (s₁.setTop (mkF m 13 #[.val (.int p0)] [(.int (1 : Int32))])) _
          refine XS.goto X0.here hx rfl (pc0 := 13) (pc' := 17) rfl (hb hby d2_13) (by decide) (by decide) ?_
          exact kt
        exact J1 _ (1 : Int32) ((if_neg c3_2).trans (if_pos c9_3)).symm X0 e0
      · refine Gl.up (B := s₁.setTop (mkF m 17 #[.val (.int p0)] [(.int (0 : Int32))])) (fun t kt => ?_) ?_
        · show Steps p.tables e below (s₁.setTop (mkF m 9 #[.val (.int p0)] [(.int (57344 : Int32)), (.int p0)])) _
          refine XS.icmpYes X0.here hx rfl (pc0 := 9) (pc' := 16) rfl (hb hby d2_9) rfl (flt c9_3).2.1 (by decide) (by decide) ?_
          show Steps p.tables e below (s₁.setTop (mkF m 16 #[.val (.int p0)] [])) _
          refine XS.iconst X0.here hx rfl (hb hby d2_16) ?_
          exact kt
        exact J1 _ (0 : Int32) ((if_neg c3_2).trans (if_neg c9_3)).symm X0 e0
  intro T1 v1_s0 hv1_s0 X1 e1
  subst hv1_s0
  refine Gl.retN X1 hx hlk (t := .boolean) Bd.returns (by simp) (hb hby d2_17) (w := (if p0 < (55296 : Int32) then (0 : Int32) else (if p0 < (57344 : Int32) then (1 : Int32) else (0 : Int32)))) (nar_b01 (b01_ite (Or.inl rfl) (b01_ite (Or.inr rfl) (Or.inl rfl)))) ?_ (by decide) (by decide)
  exact ⟨congrArg (fun z => some (Value.int z)) (show (if p0 < (55296 : Int32) then (0 : Int32) else (if p0 < (57344 : Int32) then (1 : Int32) else (0 : Int32))) = f2 p0 from rfl), rfl, e1⟩
def f1 (p0 : Int32) : Int32 := (if p0 < (128 : Int32) then (1 : Int32) else (if p0 < (2048 : Int32) then (2 : Int32) else (if (f2 p0) = (0 : Int32) then (3 : Int32) else (2 : Int32))))
def Q1 (Z : State) (p0 : Int32) (h0 : Heap) (n0 : Nat) (v : Option Value) (h : Heap) (L : List Loc) : Prop := v = some (.int (f1 p0)) ∧ L = [] ∧ h = h0
theorem ef1 (m : MethodId) (p0 : Int32) : entryFrame m #[(.int p0)] 1 = mkF m 0 #[.val (.int p0)] [] := by first | (simp [entryFrame, mkF, argsToLocals, Value.category]; done) | rfl
set_option maxRecDepth 65536 in
set_option maxHeartbeats 40000000 in
theorem rm1 (l : Launch) (Z : State) (aa : Array Value) (hw : ∀ d ∈ tables_1, d.before aa Z = true) (ws : List Jvm.Cond) (p0 : Int32) (h0 : Heap) (n0 : Nat) (O0 : Old Z n0 h0)  :
    MetFree l (⟨"com/example/relation_check/relationcheck/model/Notation", "utf8Bytes", "(C)I"⟩ : MethodName) (head1 (Jvm.Cond.code (⟨"com/example/relation_check/relationcheck/model/Notation", "utf8Bytes", "(C)I"⟩ : MethodName) prog_6_method_3_code 1 (some .int) :: ws) ({ frames := 1, cells := 0, slots := 0, locals := 12 } : Room)) (fun a U => a = #[(.int p0)] ∧ Z.Warmed39 U.vm ∧ U.heap = h0) (fun _ _ _ _ _ => True) (fun _ U o U' => ∃ v L, o = .returned v ∧ Q1 Z p0 h0 n0 v U'.heap L ∧ FrameEnd U o U' L ({ frames := 1, cells := 0, slots := 0, locals := 12 } : Room).cells ({ frames := 1, cells := 0, slots := 0, locals := 12 } : Room).slots) := by
  refine MetFree.of_bodySF (plainFor_of_name pn_com_example_relation_check_relationcheck_model_Notation) hisR ?_
  intro p e s m args below meth c s₁ Bd hml0 hP hK
  obtain ⟨rfl, hZ, hh⟩ := hP
  have hx := Bd.exec
  have hby := Bd.bytes
  have hlk := Bd.notSynchronized
  have hml : c.maxLocals = 1 := hml0
  have hown : s.vm.findClass "com/example/relation_check/relationcheck/model/Notation" = some m.cls := findClass_of_methodNamed Bd.named
  have hnm := (name_of_methodNamed Bd.named Bd.method).1
  have X0 : Stand p l e ({ frames := 1, cells := 0, slots := 0, locals := 12 } : Room) s m #[(.int p0)] below meth c s₁ [] 0 0 := Stand.of_body Bd
  have e0 : s₁.heap = h0 := by rw [← hh, Bd.state]; rfl
  have N0 := Fr.nil n0
  show Gl p e below (Ret s 0 0 (Q1 Z p0 h0 n0)) (s₁.setTop (entryFrame m #[(.int p0)] 1))
  rw [ef1 m p0]
  obtain ⟨args, hargs⟩ : ∃ z : Array Value, z = #[(.int p0)] := ⟨_, rfl⟩
  rw [← hargs] at X0
  refine Gl.up (B := s₁.setTop (mkF m 4 #[.val (.int p0)] [(.int (128 : Int32)), (.int p0)])) (fun t kt => ?_) ?_
  · show Steps p.tables e below (s₁.setTop (mkF m 0 #[.val (.int p0)] [])) _
    refine XS.iloadN X0.here hx rfl (hb hby d1_0) rfl ?_
    show Steps p.tables e below (s₁.setTop (mkF m 1 #[.val (.int p0)] [(.int p0)])) _
    refine XS.sipush X0.here hx rfl (hb hby d1_1) ?_
    exact kt
  by_cases c4_1 : p0 < (128 : Int32)
  · refine Gl.up (B := s₁.setTop (mkF m 8 #[.val (.int p0)] [(.int (1 : Int32))])) (fun t kt => ?_) ?_
    · show Steps p.tables e below (s₁.setTop (mkF m 4 #[.val (.int p0)] [(.int (128 : Int32)), (.int p0)])) _
      refine XS.icmpNo X0.here hx rfl (hb hby d1_4) rfl (tlt c4_1).2.1 ?_
      show Steps p.tables e below (s₁.setTop (mkF m 7 #[.val (.int p0)] [])) _
      refine XS.iconst X0.here hx rfl (hb hby d1_7) ?_
      exact kt
    refine Gl.retI X0 hx hlk Bd.returns (hb hby d1_8) ?_ (by decide) (by decide)
    exact ⟨congrArg (fun z => some (Value.int z)) (show (1 : Int32) = f1 p0 from (if_pos c4_1).symm), rfl, e0⟩
  · refine Gl.up (B := s₁.setTop (mkF m 13 #[.val (.int p0)] [(.int (2048 : Int32)), (.int p0)])) (fun t kt => ?_) ?_
    · show Steps p.tables e below (s₁.setTop (mkF m 4 #[.val (.int p0)] [(.int (128 : Int32)), (.int p0)])) _
      refine XS.icmpYes X0.here hx rfl (pc0 := 4) (pc' := 9) rfl (hb hby d1_4) rfl (flt c4_1).2.1 (by decide) (by decide) ?_
      show Steps p.tables e below (s₁.setTop (mkF m 9 #[.val (.int p0)] [])) _
      refine XS.iloadN X0.here hx rfl (hb hby d1_9) rfl ?_
      show Steps p.tables e below (s₁.setTop (mkF m 10 #[.val (.int p0)] [(.int p0)])) _
      refine XS.sipush X0.here hx rfl (hb hby d1_10) ?_
      exact kt
    by_cases c13_2 : p0 < (2048 : Int32)
    · refine Gl.up (B := s₁.setTop (mkF m 24 #[.val (.int p0)] [(.int (2 : Int32))])) (fun t kt => ?_) ?_
      · show Steps p.tables e below (s₁.setTop (mkF m 13 #[.val (.int p0)] [(.int (2048 : Int32)), (.int p0)])) _
        refine XS.icmpYes X0.here hx rfl (pc0 := 13) (pc' := 23) rfl (hb hby d1_13) rfl (tlt c13_2).1 (by decide) (by decide) ?_
        show Steps p.tables e below (s₁.setTop (mkF m 23 #[.val (.int p0)] [])) _
        refine XS.iconst X0.here hx rfl (hb hby d1_23) ?_
        exact kt
      refine Gl.retI X0 hx hlk Bd.returns (hb hby d1_24) ?_ (by decide) (by decide)
      exact ⟨congrArg (fun z => some (Value.int z)) (show (2 : Int32) = f1 p0 from ((if_neg c4_1).trans (if_pos c13_2)).symm), rfl, e0⟩
    · refine Gl.up (B := s₁.setTop (mkF m 17 #[.val (.int p0)] [(.int p0)])) (fun t kt => ?_) ?_
      · show Steps p.tables e below (s₁.setTop (mkF m 13 #[.val (.int p0)] [(.int (2048 : Int32)), (.int p0)])) _
        refine XS.icmpNo X0.here hx rfl (hb hby d1_13) rfl (flt c13_2).1 ?_
        show Steps p.tables e below (s₁.setTop (mkF m 16 #[.val (.int p0)] [])) _
        refine XS.iloadN X0.here hx rfl (hb hby d1_16) rfl ?_
        exact kt
      obtain ⟨_, _, ⟨T3, L3, k3, n3⟩, -, X3, ⟨Lc3, hQ3, l3, y3, z3⟩, st3⟩ := Jvm.LawKit.callS X0 hx (y := (⟨"java/lang/Character", "isSurrogate", "(C)Z"⟩ : MethodName)) hown (mvT hZ (hw _ (List.mem_of_getElem? (i := 4) rfl))) (mvT hZ (hw _ (List.mem_of_getElem? (i := 5) rfl))) (mvT hZ (hw _ (List.mem_of_getElem? (i := 6) rfl))) (mvT hZ (hw _ (List.mem_of_getElem? (i := 7) rfl))) (by decide) (backOf (W := 0) (rm2 l Z aa hw [] p0 h0 n0 O0) hZ (hw _ (List.mem_of_getElem? (i := 7) rfl)) (hw _ (List.mem_of_getElem? (i := 6) rfl)) (by decide) (by decide)) (g := (mkF m 17 #[.val (.int p0)] [(.int p0)])) rfl (by rw [hml]; rfl) (argsL := [(.int p0)]) (rest := []) (lenOf pd_oCcZ rfl) rfl (by show 2 * 0 + _ ≤ _; exact Nat.le_of_eq rfl) (hb hby d1_17) (fun _ _ => ⟨rfl, e0, (by decide : 0 + 0 ≤ _), (by decide : 0 + 0 ≤ _)⟩)
      dsimp only [Pt.U, Pt.locs, Pt.cells, Pt.slots] at X3 l3 y3 z3 st3 hQ3
      subst l3 y3 z3
      obtain ⟨rfl, rfl, e3⟩ := hQ3
      try rw [List.append_nil] at X3
      refine Gl.up (B := T3.setTop (mkF m 20 #[.val (.int p0)] [(.int (f2 p0))])) (fun t kt => st3 _ kt) ?_
      by_cases c20_4 : (f2 p0) = (0 : Int32)
      · refine Gl.up (B := T3.setTop (mkF m 26 #[.val (.int p0)] [(.int (3 : Int32))])) (fun t kt => ?_) ?_
        · show Steps p.tables e below (T3.setTop (mkF m 20 #[.val (.int p0)] [(.int (f2 p0))])) _
          refine XS.ifYes X3.here hx rfl (pc0 := 20) (pc' := 25) rfl (hb hby d1_20) rfl ((if0 _ _).trans (teq c20_4).1) (by decide) (by decide) ?_
          show Steps p.tables e below (T3.setTop (mkF m 25 #[.val (.int p0)] [])) _
          refine XS.iconst X3.here hx rfl (hb hby d1_25) ?_
          exact kt
        refine Gl.retI X3 hx hlk Bd.returns (hb hby d1_26) ?_ (by decide) (by decide)
        exact ⟨congrArg (fun z => some (Value.int z)) (show (3 : Int32) = f1 p0 from (((if_neg c4_1).trans (if_neg c13_2)).trans (if_pos c20_4)).symm), rfl, e3⟩
      · refine Gl.up (B := T3.setTop (mkF m 24 #[.val (.int p0)] [(.int (2 : Int32))])) (fun t kt => ?_) ?_
        · show Steps p.tables e below (T3.setTop (mkF m 20 #[.val (.int p0)] [(.int (f2 p0))])) _
          refine XS.ifNo X3.here hx rfl (hb hby d1_20) rfl ((if0 _ _).trans (feq c20_4).1) ?_
          show Steps p.tables e below (T3.setTop (mkF m 23 #[.val (.int p0)] [])) _
          refine XS.iconst X3.here hx rfl (hb hby d1_23) ?_
          exact kt
        refine Gl.retI X3 hx hlk Bd.returns (hb hby d1_24) ?_ (by decide) (by decide)
        exact ⟨congrArg (fun z => some (Value.int z)) (show (2 : Int32) = f1 p0 from (((if_neg c4_1).trans (if_neg c13_2)).trans (if_neg c20_4)).symm), rfl, e3⟩
theorem own_and (n : Nat) : n &&& 63488 = 2048 * (n / 2048 % 32) := by
  apply Nat.eq_of_testBit_eq
  intro i
  rw [Nat.testBit_and, show (63488 : Nat) = 2 ^ 11 * (2 ^ 5 - 1) from rfl, Nat.testBit_two_pow_mul, Nat.testBit_two_pow_sub_one, show (2048 : Nat) = 2 ^ 11 from rfl, show (32 : Nat) = 2 ^ 5 from rfl, Nat.testBit_two_pow_mul, Nat.testBit_mod_two_pow, Nat.testBit_div_two_pow]
  by_cases h : 11 ≤ i
  · rw [show i - 11 + 11 = i by omega]
    simp [h, Bool.and_comm]
  · simp [h]
theorem own_mask (c : Int32) (h : 0 ≤ c.toInt ∧ c.toInt < 65536) : ((c &&& (63488 : Int32)) = (55296 : Int32)) ↔ (55296 ≤ c.toInt ∧ c.toInt < 57344) := by
  have h1 : c.toInt = (c.toBitVec.toNat : Int) := by
    have e : c.toInt = c.toBitVec.toInt := rfl
    rw [e] at h ⊢
    rw [BitVec.toInt_eq_toNat_cond] at h ⊢
    have := c.toBitVec.isLt
    split at h <;> split <;> omega
  have h2 : ((c &&& (63488 : Int32)) = (55296 : Int32)) ↔ (c.toBitVec.toNat &&& 63488 = 55296) := by
    rw [← Int32.toBitVec_inj, Int32.toBitVec_and, ← BitVec.toNat_inj, BitVec.toNat_and]
    exact Iff.rfl
  rw [h2, own_and]
  omega
theorem own_main (c : Int32) (h : 0 ≤ c.toInt ∧ c.toInt < 65536) : f1 c = (if (c >>> ((7 : Int32) &&& 31)) = (0 : Int32) then (1 : Int32) else (if (c >>> ((11 : Int32) &&& 31)) = (0 : Int32) then (2 : Int32) else (if (c &&& (63488 : Int32)) = (55296 : Int32) then (2 : Int32) else (3 : Int32)))) := by
  have a7 := c_ishr c (7 : Int32) 7 (by decide)
  have a11 := c_ishr c (11 : Int32) 11 (by decide)
  have am := own_mask c h
  have e7 : ((c >>> ((7 : Int32) &&& 31)) = (0 : Int32)) ↔ c.toInt < 128 := by rw [← Int32.toInt_inj, a7, show (0 : Int32).toInt = 0 from rfl]; omega
  have e11 : ((c >>> ((11 : Int32) &&& 31)) = (0 : Int32)) ↔ c.toInt < 2048 := by rw [← Int32.toInt_inj, a11, show (0 : Int32).toInt = 0 from rfl]; omega
  have l1 : c < (128 : Int32) ↔ c.toInt < 128 := Int32.lt_iff_toInt_lt
  have l2 : c < (2048 : Int32) ↔ c.toInt < 2048 := Int32.lt_iff_toInt_lt
  have l3 : c < (55296 : Int32) ↔ c.toInt < 55296 := Int32.lt_iff_toInt_lt
  have l4 : c < (57344 : Int32) ↔ c.toInt < 57344 := Int32.lt_iff_toInt_lt
  unfold f1 f2
  simp only [e7, e11, am, l1, l2, l3, l4]
  by_cases q1 : c.toInt < 128
  · rw [if_pos q1, if_pos q1]
  · rw [if_neg q1, if_neg q1]
    by_cases q2 : c.toInt < 2048
    · rw [if_pos q2, if_pos q2]
    · rw [if_neg q2, if_neg q2]
      by_cases q3 : c.toInt < 55296
      · rw [if_pos q3, if_pos rfl, if_neg (by omega)]
      · rw [if_neg q3]
        by_cases q4 : c.toInt < 57344
        · rw [if_pos q4, if_neg (by decide), if_pos (by omega)]
        · rw [if_neg q4, if_pos rfl, if_neg (by omega)]
def Q0 (n0 : Nat) (v : Option Value) (h : Heap) (L : List Loc) : Prop := v = some (.int 1) ∧ Fr n0 L
theorem ef0 (m : MethodId) (x0 : Int32) : entryFrame m #[(.int x0)] maxLocals = mkF m 0 #[.val (.int x0), .unset, .unset, .unset, .unset] [] := by first | (simp [entryFrame, mkF, argsToLocals, Value.category, maxLocals]; done) | rfl
set_option maxRecDepth 65536 in
set_option maxHeartbeats 40000000 in
theorem rm0 (l : Launch) (Z : State) (aa : Array Value) (hw : ∀ d ∈ tables_1, d.before aa Z = true) (ws : List Jvm.Cond) (x0 : Int32) (h0 : Heap) (n0 : Nat) (O0 : Old Z n0 h0)  :
    MetFree l x (head1 (Jvm.Cond.code x code maxLocals ret :: ws) room_1) (fun a U => a = #[(.int x0)] ∧ Z.Warmed39 U.vm ∧ U.heap = h0) (fun _ _ _ _ _ => True) (fun _ U o U' => ∃ v L, o = .returned v ∧ Q0 n0 v U'.heap L ∧ FrameEnd U o U' L 0 0) := by
  refine MetFree.of_bodySF (plainFor_of_name pn_com_example_relation_check_relationcheck_model_NotationUtf8BytesPinLaw) hisR ?_
  intro p e s m args below meth c s₁ Bd hml0 hP hK
  obtain ⟨rfl, hZ, hh⟩ := hP
  have hx := Bd.exec
  have hby := Bd.bytes
  have hlk := Bd.notSynchronized
  have hml : c.maxLocals = 5 := hml0
  have hown : s.vm.findClass "com/example/relation_check/relationcheck/model/NotationUtf8BytesPinLaw" = some m.cls := findClass_of_methodNamed Bd.named
  have hnm := (name_of_methodNamed Bd.named Bd.method).1
  have X0 : Stand p l e room_1 s m #[(.int x0)] below meth c s₁ [] 0 0 := Stand.of_body Bd
  have e0 : s₁.heap = h0 := by rw [← hh, Bd.state]; rfl
  have N0 := Fr.nil n0
  show Gl p e below (Ret s 0 0 (Q0 n0)) (s₁.setTop (entryFrame m #[(.int x0)] maxLocals))
  rw [ef0 m x0]
  obtain ⟨args, hargs⟩ : ∃ z : Array Value, z = #[(.int x0)] := ⟨_, rfl⟩
  rw [← hargs] at X0
  refine Gl.up (B := s₁.setTop (mkF m 2 #[.val (.int x0), .unset, .unset, .unset, .unset] [(.int (x0.toUInt32.toUInt16.toUInt32.toInt32))])) (fun t kt => ?_) ?_
  · show Steps p.tables e below (s₁.setTop (mkF m 0 #[.val (.int x0), .unset, .unset, .unset, .unset] [])) _
    refine XS.iloadN X0.here hx rfl (hb hby at_0) rfl ?_
    show Steps p.tables e below (s₁.setTop (mkF m 1 #[.val (.int x0), .unset, .unset, .unset, .unset] [(.int x0)])) _
    refine XS.i2c X0.here hx rfl (hb hby at_1) rfl ?_
    exact kt
  obtain ⟨u1, hu1⟩ : ∃ q : Int32, q = (x0.toUInt32.toUInt16.toUInt32.toInt32) := ⟨_, rfl⟩
  rw [← hu1]
  refine Gl.up (B := s₁.setTop (mkF m 4 #[.val (.int x0), .val (.int u1), .unset, .unset, .unset] [(.int u1)])) (fun t kt => ?_) ?_
  · show Steps p.tables e below (s₁.setTop (mkF m 2 #[.val (.int x0), .unset, .unset, .unset, .unset] [(.int u1)])) _
    refine XS.istoreN X0.here hx rfl (hb hby at_2) rfl (l' := #[.val (.int x0), .val (.int u1), .unset, .unset, .unset]) rfl ?_
    show Steps p.tables e below (s₁.setTop (mkF m 3 #[.val (.int x0), .val (.int u1), .unset, .unset, .unset] [])) _
    refine XS.iloadN X0.here hx rfl (hb hby at_3) rfl ?_
    exact kt
  obtain ⟨_, _, ⟨T2, L2, k2, n2⟩, -, X2, ⟨Lc2, hQ2, l2, y2, z2⟩, st2⟩ := Jvm.LawKit.callS X0 hx (y := (⟨"com/example/relation_check/relationcheck/model/Notation", "utf8Bytes", "(C)I"⟩ : MethodName)) hown (mvT hZ (hw _ (List.mem_of_getElem? (i := 0) rfl))) (mvT hZ (hw _ (List.mem_of_getElem? (i := 1) rfl))) (mvT hZ (hw _ (List.mem_of_getElem? (i := 2) rfl))) (mvT hZ (hw _ (List.mem_of_getElem? (i := 3) rfl))) (by decide) (backOf (W := 0) (rm1 l Z aa hw [] u1 h0 n0 O0) hZ (hw _ (List.mem_of_getElem? (i := 3) rfl)) (hw _ (List.mem_of_getElem? (i := 2) rfl)) (by decide) (by decide)) (g := (mkF m 4 #[.val (.int x0), .val (.int u1), .unset, .unset, .unset] [(.int u1)])) rfl (by rw [hml]; rfl) (argsL := [(.int u1)]) (rest := []) (lenOf pd_oCcI rfl) rfl (by show 2 * 0 + _ ≤ _; exact Nat.le_of_eq rfl) (hb hby at_4) (fun _ _ => ⟨rfl, e0, (by decide : 0 + 0 ≤ _), (by decide : 0 + 0 ≤ _)⟩)
  dsimp only [Pt.U, Pt.locs, Pt.cells, Pt.slots] at X2 l2 y2 z2 st2 hQ2
  subst l2 y2 z2
  obtain ⟨rfl, rfl, e2⟩ := hQ2
  try rw [List.append_nil] at X2
  refine Gl.up (B := T2.setTop (mkF m 7 #[.val (.int x0), .val (.int u1), .unset, .unset, .unset] [(.int (f1 u1))])) (fun t kt => st2 _ kt) ?_
  refine Gl.up (B := T2.setTop (mkF m 14 #[.val (.int x0), .val (.int u1), .val (.int (f1 u1)), .val (.int u1), .unset] [(.int (u1 >>> ((7 : Int32) &&& 31)))])) (fun t kt => ?_) ?_
  · show Steps p.tables e below (T2.setTop (mkF m 7 #[.val (.int x0), .val (.int u1), .unset, .unset, .unset] [(.int (f1 u1))])) _
    refine XS.istoreN X2.here hx rfl (hb hby at_7) rfl (l' := #[.val (.int x0), .val (.int u1), .val (.int (f1 u1)), .unset, .unset]) rfl ?_
    show Steps p.tables e below (T2.setTop (mkF m 8 #[.val (.int x0), .val (.int u1), .val (.int (f1 u1)), .unset, .unset] [])) _
    refine XS.iloadN X2.here hx rfl (hb hby at_8) rfl ?_
    show Steps p.tables e below (T2.setTop (mkF m 9 #[.val (.int x0), .val (.int u1), .val (.int (f1 u1)), .unset, .unset] [(.int u1)])) _
    refine XS.istoreN X2.here hx rfl (hb hby at_9) rfl (l' := #[.val (.int x0), .val (.int u1), .val (.int (f1 u1)), .val (.int u1), .unset]) rfl ?_
    show Steps p.tables e below (T2.setTop (mkF m 10 #[.val (.int x0), .val (.int u1), .val (.int (f1 u1)), .val (.int u1), .unset] [])) _
    refine XS.iloadN X2.here hx rfl (hb hby at_10) rfl ?_
    show Steps p.tables e below (T2.setTop (mkF m 11 #[.val (.int x0), .val (.int u1), .val (.int (f1 u1)), .val (.int u1), .unset] [(.int u1)])) _
    refine XS.bipush X2.here hx rfl (hb hby at_11) ?_
    show Steps p.tables e below (T2.setTop (mkF m 13 #[.val (.int x0), .val (.int u1), .val (.int (f1 u1)), .val (.int u1), .unset] [(.int (7 : Int32)), (.int u1)])) _
    refine XS.ishr X2.here hx rfl (hb hby at_13) rfl ?_
    exact kt
  suffices J3 : ∀ (T3 : State) (v3_l4 : Int32), v3_l4 = (if (u1 >>> ((7 : Int32) &&& 31)) = (0 : Int32) then (1 : Int32) else (if (u1 >>> ((11 : Int32) &&& 31)) = (0 : Int32) then (2 : Int32) else (if (u1 &&& (63488 : Int32)) = (55296 : Int32) then (2 : Int32) else (3 : Int32)))) → Stand p l e room_1 s m args below meth c T3 [] 0 0 → T3.heap = h0 → Gl p e below (Ret s 0 0 (Q0 n0)) (T3.setTop (mkF m 54 #[.val (.int x0), .val (.int u1), .val (.int (f1 u1)), .val (.int u1), .val (.int v3_l4)] [])) by
    by_cases c14_4 : (u1 >>> ((7 : Int32) &&& 31)) = (0 : Int32)
    · refine Gl.up (B := T2.setTop (mkF m 54 #[.val (.int x0), .val (.int u1), .val (.int (f1 u1)), .val (.int u1), .val (.int (1 : Int32))] [])) (fun t kt => ?_) ?_
      · show Steps p.tables e below (T2.setTop (mkF m 14 #[.val (.int x0), .val (.int u1), .val (.int (f1 u1)), .val (.int u1), .unset] [(.int (u1 >>> ((7 : Int32) &&& 31)))])) _
        refine XS.ifNo X2.here hx rfl (hb hby at_14) rfl ((if0 _ _).trans (teq c14_4).2) ?_
        show Steps p.tables e below (T2.setTop (mkF m 17 #[.val (.int x0), .val (.int u1), .val (.int (f1 u1)), .val (.int u1), .unset] [])) _
        refine XS.iconst X2.here hx rfl (hb hby at_17) ?_
        show Steps p.tables e below (T2.setTop (mkF m 18 #[.val (.int x0), .val (.int u1), .val (.int (f1 u1)), .val (.int u1), .unset] [(.int (1 : Int32))])) _
        refine XS.istore X2.here hx rfl (hb hby at_18) rfl (l' := #[.val (.int x0), .val (.int u1), .val (.int (f1 u1)), .val (.int u1), .val (.int (1 : Int32))]) rfl ?_
        show Steps p.tables e below (T2.setTop (mkF m 20 #[.val (.int x0), .val (.int u1), .val (.int (f1 u1)), .val (.int u1), .val (.int (1 : Int32))] [])) _
        refine XS.goto X2.here hx rfl (pc0 := 20) (pc' := 54) rfl (hb hby at_20) (by decide) (by decide) ?_
        exact kt
      exact J3 _ (1 : Int32) (if_pos c14_4).symm X2 e2
    · refine Gl.up (B := T2.setTop (mkF m 27 #[.val (.int x0), .val (.int u1), .val (.int (f1 u1)), .val (.int u1), .unset] [(.int (u1 >>> ((11 : Int32) &&& 31)))])) (fun t kt => ?_) ?_
      · show Steps p.tables e below (T2.setTop (mkF m 14 #[.val (.int x0), .val (.int u1), .val (.int (f1 u1)), .val (.int u1), .unset] [(.int (u1 >>> ((7 : Int32) &&& 31)))])) _
        refine XS.ifYes X2.here hx rfl (pc0 := 14) (pc' := 23) rfl (hb hby at_14) rfl ((if0 _ _).trans (feq c14_4).2) (by decide) (by decide) ?_
        show Steps p.tables e below (T2.setTop (mkF m 23 #[.val (.int x0), .val (.int u1), .val (.int (f1 u1)), .val (.int u1), .unset] [])) _
        refine XS.iloadN X2.here hx rfl (hb hby at_23) rfl ?_
        show Steps p.tables e below (T2.setTop (mkF m 24 #[.val (.int x0), .val (.int u1), .val (.int (f1 u1)), .val (.int u1), .unset] [(.int u1)])) _
        refine XS.bipush X2.here hx rfl (hb hby at_24) ?_
        show Steps p.tables e below (T2.setTop (mkF m 26 #[.val (.int x0), .val (.int u1), .val (.int (f1 u1)), .val (.int u1), .unset] [(.int (11 : Int32)), (.int u1)])) _
        refine XS.ishr X2.here hx rfl (hb hby at_26) rfl ?_
        exact kt
      by_cases c27_5 : (u1 >>> ((11 : Int32) &&& 31)) = (0 : Int32)
      · refine Gl.up (B := T2.setTop (mkF m 54 #[.val (.int x0), .val (.int u1), .val (.int (f1 u1)), .val (.int u1), .val (.int (2 : Int32))] [])) (fun t kt => ?_) ?_
        · show Steps p.tables e below (T2.setTop (mkF m 27 #[.val (.int x0), .val (.int u1), .val (.int (f1 u1)), .val (.int u1), .unset] [(.int (u1 >>> ((11 : Int32) &&& 31)))])) _
          refine XS.ifNo X2.here hx rfl (hb hby at_27) rfl ((if0 _ _).trans (teq c27_5).2) ?_
          show Steps p.tables e below (T2.setTop (mkF m 30 #[.val (.int x0), .val (.int u1), .val (.int (f1 u1)), .val (.int u1), .unset] [])) _
          refine XS.iconst X2.here hx rfl (hb hby at_30) ?_
          show Steps p.tables e below (T2.setTop (mkF m 31 #[.val (.int x0), .val (.int u1), .val (.int (f1 u1)), .val (.int u1), .unset] [(.int (2 : Int32))])) _
          refine XS.istore X2.here hx rfl (hb hby at_31) rfl (l' := #[.val (.int x0), .val (.int u1), .val (.int (f1 u1)), .val (.int u1), .val (.int (2 : Int32))]) rfl ?_
          show Steps p.tables e below (T2.setTop (mkF m 33 #[.val (.int x0), .val (.int u1), .val (.int (f1 u1)), .val (.int u1), .val (.int (2 : Int32))] [])) _
          refine XS.goto X2.here hx rfl (pc0 := 33) (pc' := 54) rfl (hb hby at_33) (by decide) (by decide) ?_
          exact kt
        exact J3 _ (2 : Int32) ((if_neg c14_4).trans (if_pos c27_5)).symm X2 e2
      · refine Gl.up (B := T2.setTop (mkF m 42 #[.val (.int x0), .val (.int u1), .val (.int (f1 u1)), .val (.int u1), .unset] [(.int (55296 : Int32)), (.int (u1 &&& (63488 : Int32)))])) (fun t kt => ?_) ?_
        · show Steps p.tables e below (T2.setTop (mkF m 27 #[.val (.int x0), .val (.int u1), .val (.int (f1 u1)), .val (.int u1), .unset] [(.int (u1 >>> ((11 : Int32) &&& 31)))])) _
          refine XS.ifYes X2.here hx rfl (pc0 := 27) (pc' := 36) rfl (hb hby at_27) rfl ((if0 _ _).trans (feq c27_5).2) (by decide) (by decide) ?_
          show Steps p.tables e below (T2.setTop (mkF m 36 #[.val (.int x0), .val (.int u1), .val (.int (f1 u1)), .val (.int u1), .unset] [])) _
          refine XS.iloadN X2.here hx rfl (hb hby at_36) rfl ?_
          show Steps p.tables e below (T2.setTop (mkF m 37 #[.val (.int x0), .val (.int u1), .val (.int (f1 u1)), .val (.int u1), .unset] [(.int u1)])) _
          refine X2.ldcInt hx hown (mvT hZ (hw _ (List.mem_of_getElem? (i := 9) rfl))) (g := (mkF m 37 #[.val (.int x0), .val (.int u1), .val (.int (f1 u1)), .val (.int u1), .unset] [(.int u1)])) rfl (hb hby at_37) _ ?_
          show Steps p.tables e below (T2.setTop (mkF m 39 #[.val (.int x0), .val (.int u1), .val (.int (f1 u1)), .val (.int u1), .unset] [(.int (63488 : Int32)), (.int u1)])) _
          refine XS.iand X2.here hx rfl (hb hby at_39) rfl ?_
          show Steps p.tables e below (T2.setTop (mkF m 40 #[.val (.int x0), .val (.int u1), .val (.int (f1 u1)), .val (.int u1), .unset] [(.int (u1 &&& (63488 : Int32)))])) _
          refine X2.ldcInt hx hown (mvT hZ (hw _ (List.mem_of_getElem? (i := 10) rfl))) (g := (mkF m 40 #[.val (.int x0), .val (.int u1), .val (.int (f1 u1)), .val (.int u1), .unset] [(.int (u1 &&& (63488 : Int32)))])) rfl (hb hby at_40) _ ?_
          exact kt
        by_cases c42_6 : (u1 &&& (63488 : Int32)) = (55296 : Int32)
        · refine Gl.up (B := T2.setTop (mkF m 54 #[.val (.int x0), .val (.int u1), .val (.int (f1 u1)), .val (.int u1), .val (.int (2 : Int32))] [])) (fun t kt => ?_) ?_
          · show Steps p.tables e below (T2.setTop (mkF m 42 #[.val (.int x0), .val (.int u1), .val (.int (f1 u1)), .val (.int u1), .unset] [(.int (55296 : Int32)), (.int (u1 &&& (63488 : Int32)))])) _
            refine XS.icmpNo X2.here hx rfl (hb hby at_42) rfl (teq c42_6).2 ?_
            show Steps p.tables e below (T2.setTop (mkF m 45 #[.val (.int x0), .val (.int u1), .val (.int (f1 u1)), .val (.int u1), .unset] [])) _
            refine XS.iconst X2.here hx rfl (hb hby at_45) ?_
            show Steps p.tables e below (T2.setTop (mkF m 46 #[.val (.int x0), .val (.int u1), .val (.int (f1 u1)), .val (.int u1), .unset] [(.int (2 : Int32))])) _
            refine XS.istore X2.here hx rfl (hb hby at_46) rfl (l' := #[.val (.int x0), .val (.int u1), .val (.int (f1 u1)), .val (.int u1), .val (.int (2 : Int32))]) rfl ?_
            show Steps p.tables e below (T2.setTop (mkF m 48 #[.val (.int x0), .val (.int u1), .val (.int (f1 u1)), .val (.int u1), .val (.int (2 : Int32))] [])) _
            refine XS.goto X2.here hx rfl (pc0 := 48) (pc' := 54) rfl (hb hby at_48) (by decide) (by decide) ?_
            exact kt
          exact J3 _ (2 : Int32) (((if_neg c14_4).trans (if_neg c27_5)).trans (if_pos c42_6)).symm X2 e2
        · refine Gl.up (B := T2.setTop (mkF m 54 #[.val (.int x0), .val (.int u1), .val (.int (f1 u1)), .val (.int u1), .val (.int (3 : Int32))] [])) (fun t kt => ?_) ?_
          · show Steps p.tables e below (T2.setTop (mkF m 42 #[.val (.int x0), .val (.int u1), .val (.int (f1 u1)), .val (.int u1), .unset] [(.int (55296 : Int32)), (.int (u1 &&& (63488 : Int32)))])) _
            refine XS.icmpYes X2.here hx rfl (pc0 := 42) (pc' := 51) rfl (hb hby at_42) rfl (feq c42_6).2 (by decide) (by decide) ?_
            show Steps p.tables e below (T2.setTop (mkF m 51 #[.val (.int x0), .val (.int u1), .val (.int (f1 u1)), .val (.int u1), .unset] [])) _
            refine XS.iconst X2.here hx rfl (hb hby at_51) ?_
            show Steps p.tables e below (T2.setTop (mkF m 52 #[.val (.int x0), .val (.int u1), .val (.int (f1 u1)), .val (.int u1), .unset] [(.int (3 : Int32))])) _
            refine XS.istore X2.here hx rfl (hb hby at_52) rfl (l' := #[.val (.int x0), .val (.int u1), .val (.int (f1 u1)), .val (.int u1), .val (.int (3 : Int32))]) rfl ?_
            exact kt
          exact J3 _ (3 : Int32) (((if_neg c14_4).trans (if_neg c27_5)).trans (if_neg c42_6)).symm X2 e2
  intro T3 v3_l4 hv3_l4 X3 e3
  refine Gl.up (B := T3.setTop (mkF m 65 #[.val (.int x0), .val (.int u1), .val (.int (f1 u1)), .val (.int u1), .val (.int v3_l4)] [(.int (1 : Int32))])) (fun t kt => ?_) ?_
  · show Steps p.tables e below (T3.setTop (mkF m 54 #[.val (.int x0), .val (.int u1), .val (.int (f1 u1)), .val (.int u1), .val (.int v3_l4)] [])) _
    refine XS.iloadN X3.here hx rfl (hb hby at_54) rfl ?_
    show Steps p.tables e below (T3.setTop (mkF m 55 #[.val (.int x0), .val (.int u1), .val (.int (f1 u1)), .val (.int u1), .val (.int v3_l4)] [(.int (f1 u1))])) _
    refine XS.iload X3.here hx rfl (hb hby at_55) rfl ?_
    show Steps p.tables e below (T3.setTop (mkF m 57 #[.val (.int x0), .val (.int u1), .val (.int (f1 u1)), .val (.int u1), .val (.int v3_l4)] [(.int v3_l4), (.int (f1 u1))])) _
    refine XS.icmpNo X3.here hx rfl (hb hby at_57) rfl (teq ((own_main _ (by rw [hu1]; exact (c_i2c x0).2)).trans hv3_l4.symm)).2 ?_
    show Steps p.tables e below (T3.setTop (mkF m 60 #[.val (.int x0), .val (.int u1), .val (.int (f1 u1)), .val (.int u1), .val (.int v3_l4)] [])) _
    refine XS.iconst X3.here hx rfl (hb hby at_60) ?_
    show Steps p.tables e below (T3.setTop (mkF m 61 #[.val (.int x0), .val (.int u1), .val (.int (f1 u1)), .val (.int u1), .val (.int v3_l4)] [(.int (1 : Int32))])) _
    refine XS.goto X3.here hx rfl (pc0 := 61) (pc' := 65) rfl (hb hby at_61) (by decide) (by decide) ?_
    exact kt
  refine Gl.retN X3 hx hlk (t := .boolean) Bd.returns (by simp) (hb hby at_65) (w := (1 : Int32)) rfl ?_ (by decide) (by decide)
  exact ⟨rfl, N0⟩
set_option maxRecDepth 65536 in
set_option maxHeartbeats 40000000 in
theorem comes_1 {Post : Tables → Env → Array Value → State → Outcome → State → Prop} (hpost : ∀ tb e args s v u, (limb_1_1.after args s (.returned v) u = true ∧ limb_1_2.after args s (.returned v) u = true) → FrameEnd s (.returned v) u (Jvm.fieldLocs frame_1_writes args s ++ Jvm.arrayLocs frame_1_arrays args s ++ Jvm.staticLocs frame_1_statics s) 0 0 → Post tb e args s (.returned v) u) :
    ArmFor flags0 classFile x code maxLocals ret World_1 tables_1 room_1 Calls_1 rest_1 Pre_1 Post := by
  intro l hfl _ _ p e ha hc hk s m args below hf hA hF happ hP
  obtain ⟨hcalls, hrest, hpre⟩ := hP
  obtain ⟨-, -, -, hnamed, -, -, -, hat⟩ := (Spec.applies_iff hf).mp happ
  obtain ⟨hg, hn⟩ := and_e (Cond.before_iff.mp (show (Jvm.Cond.and given_1 narrow_1).before args s = true from hpre))
  obtain ⟨hcnt, hg0⟩ := and_e hg
  obtain ⟨w0, rfl⟩ : ∃ w0 : Value, args = #[w0] := by
    have hs : args.size = 1 := by simpa [Cond.value, given_1] using hcnt
    obtain ⟨L⟩ := args
    match L, hs with
    | [w0], _ => exact ⟨w0, rfl⟩
  have hw := fun d (hd : d ∈ tables_1) => atoms_spec (ws := Jvm.Cond.code x code maxLocals ret :: tables_1) hat d (List.mem_cons_of_mem _ hd)
  obtain ⟨i0, ei0⟩ := is_v hg0
  obtain rfl : w0 = (.int i0) := Option.some.inj ei0
  obtain ⟨n, o, h1, h2, h3, _, L, rfl, ⟨rfl, N⟩, hq⟩ := rm0 l s _ hw tables_1 i0  s.heap s.heap.size (Old.start s)  p e ha hc hk s m _ below hf ((Spec.applies_iff_loose hf).mp happ).1 ⟨rfl, State.Warmed39.refl s, rfl⟩ trivial
  exact ⟨n, _, h1, h2, h3, hpost _ _ _ _ _ _ ⟨Cond.after_iff.mpr rfl, Cond.after_iff.mpr (eq_i res_at (Term.int_eval (1)) rfl)⟩ ⟨hq.1, hq.2.1, (hq.2.2.sift fun y hy => Or.inr (N y hy)).mono (by decide) (by decide)⟩⟩
theorem main_1_1 : Claimed_1_1 := comes_1 fun _ _ _ _ _ _ h hF => ⟨h.1, hF⟩
theorem main_1_2 : Claimed_1_2 := comes_1 fun _ _ _ _ _ _ h hF => ⟨h.2, hF⟩
end Jvm.Pilot.@@N@@
namespace Jvm.Pilot.@@N@@
open Jvm Jvm.ClassFile Sem Op Lib Jvm.Free Jvm.Stand Jvm.Pilot.@@N@@.Jvm.D
/-! MADE BY PROGRAM (witnessworld.py) out of the Statement's table words and the real class files: 12 classes; the members and pool entries that the words name. The judged class is class 1, her method 1. -/
namespace start1
open Jvm.ClassFile
def u (s : String) : CpInfo := .utf8 (stringToUtf16 s)
/-- a pool by its gaps: so many unusable entries, then the entry; so many at the end -/
def gap : Nat → List CpInfo → List CpInfo
  | 0, r => r
  | n + 1, r => .unusable :: gap n r
def poolList (es : List (Nat × CpInfo)) (last : Nat) : List CpInfo := es.foldr (fun e r => gap e.1 (e.2 :: r)) (gap last [])
def pool (es : List (Nat × CpInfo)) (last : Nat) : Array CpInfo := ⟨poolList es last⟩
def fileOf (pool : Array CpInfo) (this : Nat) (attrs : Array Attribute := #[]) (ms : Array MethodInfo := #[]) (fl : Nat := 33) (sup : Nat := 0) (ifs : Array Nat := #[]) (fds : Array FieldInfo := #[]) : ClassFile where
  minorVersion := 0
  majorVersion := 65
  constantPool := pool
  accessFlags := fl
  thisClass := this
  superClass := sup
  interfaces := ifs
  fields := fds
  methods := ms
  attributes := attrs
def plain (name : String) (sup : Option ClassId) : Class where
  name := name
  kind := .ordinary
  loader := none
  accessFlags := 33
  super := sup
  interfaces := #[]
  cf := none
  fields := #[]
  methods := #[]
  instanceTypes := #[]
  staticTypes := #[]
  resolved := #[]
  callSites := []
  init := .initialized
  statics := none
  mirror := none

def pool0 : Array CpInfo := pool [(5, u "<init>"), (0, u "()V"), (1, .class_ 10), (1, u "java/lang/Object")] 113

def k0m0 : Method := { name := "<init>", desc := "()V", sig := { parameters := [], returnType := none }, accessFlags := 1, code := none }
/-- java/lang/Object -/
def k0 : Class := { plain "java/lang/Object" none with
  accessFlags := 33
  interfaces := #[]
  cf := some (fileOf pool0 8 #[] #[{ accessFlags := 1, nameIndex := 5, descriptorIndex := 6, attributes := #[] }] 33 0 #[] #[])
  fields := #[]
  methods := #[k0m0]
  instanceTypes := #[]
  staticTypes := #[]
  resolved := Array.replicate 124 none
  statics := none }

def pool1 : Array CpInfo := pool [(2, .class_ 4), (1, u "java/lang/Object"), (0, u "<init>"), (0, u "()V"), (0, .methodref 8 9), (0, .class_ 10), (0, .nameAndType 11 12), (0, u "com/example/relation_check/relationcheck/model/Notation"), (0, u "utf8Bytes"), (0, u "(C)I"), (0, .integer 63488), (0, .integer 55296), (0, .class_ 16), (0, u "com/example/relation_check/relationcheck/model/NotationUtf8BytesPinLaw"), (2, u "law"), (0, u "(I)Z")] 3

def k1m0 : Method := { name := "<init>", desc := "()V", sig := { parameters := [], returnType := none }, accessFlags := 2, code := none }
def k1c1 : Code := { maxStack := 2, maxLocals := 5, code := code, exceptionTable := #[], attributes := #[] }
def k1m1 : Method := { name := "law", desc := "(I)Z", sig := { parameters := [.int], returnType := some .boolean }, accessFlags := 9, code := some k1c1 }
/-- com/example/relation_check/relationcheck/model/NotationUtf8BytesPinLaw -/
def k1 : Class := { plain "com/example/relation_check/relationcheck/model/NotationUtf8BytesPinLaw" (some 0) with
  accessFlags := 49
  interfaces := #[]
  cf := some (fileOf pool1 15 #[] #[{ accessFlags := 2, nameIndex := 5, descriptorIndex := 6, attributes := #[] }, { accessFlags := 9, nameIndex := 19, descriptorIndex := 20, attributes := #[] }] 49 2 #[] #[])
  fields := #[]
  methods := #[k1m0, k1m1]
  instanceTypes := #[]
  staticTypes := #[]
  resolved := Array.replicate 24 none
  statics := none }

def pool2 : Array CpInfo := pool [(2, .class_ 4), (1, u "java/lang/Object"), (0, u "<init>"), (0, u "()V"), (25, .methodref 33 34), (0, .class_ 35), (0, .nameAndType 36 37), (0, u "java/lang/Character"), (0, u "isSurrogate"), (0, u "(C)Z"), (1, .class_ 41), (1, u "com/example/relation_check/relationcheck/model/Notation"), (120, u "BYTE_ORDER"), (0, u "Ljava/util/Comparator;"), (0, u "SEPARATORS"), (0, u "Ljava/lang/String;"), (10, u "utf8Bytes"), (0, u "(C)I")] 47

def k2m0 : Method := { name := "<init>", desc := "()V", sig := { parameters := [], returnType := none }, accessFlags := 2, code := none }
def k2c1 : Code := { maxStack := 2, maxLocals := 1, code := prog_6_method_3_code, exceptionTable := #[], attributes := #[] }
def k2m1 : Method := { name := "utf8Bytes", desc := "(C)I", sig := { parameters := [.char], returnType := some .int }, accessFlags := 9, code := some k2c1 }
/-- com/example/relation_check/relationcheck/model/Notation -/
def k2 : Class := { plain "com/example/relation_check/relationcheck/model/Notation" (some 0) with
  accessFlags := 49
  interfaces := #[]
  cf := some (fileOf pool2 39 #[] #[{ accessFlags := 2, nameIndex := 5, descriptorIndex := 6, attributes := #[] }, { accessFlags := 9, nameIndex := 176, descriptorIndex := 177, attributes := #[] }] 49 2 #[] #[{ accessFlags := 25, nameIndex := 164, descriptorIndex := 165, attributes := #[] }, { accessFlags := 25, nameIndex := 162, descriptorIndex := 163, attributes := #[] }])
  fields := #[{ name := "SEPARATORS", type := (.object "java/lang/String"), accessFlags := 25, slot := 0, constantValue := 0 }, { name := "BYTE_ORDER", type := (.object "java/util/Comparator"), accessFlags := 25, slot := 1, constantValue := 0 }]
  methods := #[k2m0, k2m1]
  instanceTypes := #[]
  staticTypes := #[(.object "java/lang/String"), (.object "java/util/Comparator")]
  resolved := Array.replicate 225 none
  statics := none }

def pool3 : Array CpInfo := pool [(1, .class_ 2), (0, u "java/io/Serializable"), (0, .class_ 4), (0, u "java/lang/Object")] 2

/-- java/io/Serializable -/
def k3 : Class := { plain "java/io/Serializable" (some 0) with
  accessFlags := 1537
  interfaces := #[]
  cf := some (fileOf pool3 1 #[] #[] 1537 3 #[] #[])
  fields := #[]
  methods := #[]
  instanceTypes := #[]
  staticTypes := #[]
  resolved := Array.replicate 7 none
  statics := none }

def pool4 : Array CpInfo := pool [(1, .class_ 2), (0, u "java/lang/Comparable"), (0, .class_ 4), (0, u "java/lang/Object")] 7

/-- java/lang/Comparable -/
def k4 : Class := { plain "java/lang/Comparable" (some 0) with
  accessFlags := 1537
  interfaces := #[]
  cf := some (fileOf pool4 1 #[] #[] 1537 3 #[] #[])
  fields := #[]
  methods := #[]
  instanceTypes := #[]
  staticTypes := #[]
  resolved := Array.replicate 12 none
  statics := none }

def pool5 : Array CpInfo := pool [(1, .class_ 2), (0, u "java/lang/constant/Constable"), (0, .class_ 4), (0, u "java/lang/Object")] 6

/-- java/lang/constant/Constable -/
def k5 : Class := { plain "java/lang/constant/Constable" (some 0) with
  accessFlags := 1537
  interfaces := #[]
  cf := some (fileOf pool5 1 #[] #[] 1537 3 #[] #[])
  fields := #[]
  methods := #[]
  instanceTypes := #[]
  staticTypes := #[]
  resolved := Array.replicate 11 none
  statics := none }

def pool6 : Array CpInfo := pool [(1, .class_ 2), (0, u "java/lang/Character"), (18, u "value"), (0, u "C"), (19, .class_ 44), (1, u "java/lang/Object"), (3, .class_ 50), (1, u "java/lang/Character$CharacterCache"), (24, .integer 55296), (1, .integer 57344), (3, u "(C)Z"), (202, u "$assertionsDisabled"), (0, u "Z"), (21, .class_ 309), (1, u "java/lang/Character$UnicodeBlock"), (73, u "TYPE"), (0, u "Ljava/lang/Class;"), (0, .class_ 386), (0, u "java/io/Serializable"), (0, .class_ 388), (0, u "java/lang/Comparable"), (0, .class_ 390), (0, u "java/lang/constant/Constable"), (0, u "MIN_RADIX"), (0, u "I"), (2, u "MAX_RADIX"), (1, u "MIN_VALUE"), (1, u "MAX_VALUE"), (3, u "UNASSIGNED"), (0, u "B"), (0, u "UPPERCASE_LETTER"), (1, u "LOWERCASE_LETTER"), (0, u "TITLECASE_LETTER"), (1, u "MODIFIER_LETTER"), (1, u "OTHER_LETTER"), (1, u "NON_SPACING_MARK"), (1, u "ENCLOSING_MARK"), (1, u "COMBINING_SPACING_MARK"), (1, u "DECIMAL_DIGIT_NUMBER"), (1, u "LETTER_NUMBER"), (1, u "OTHER_NUMBER"), (1, u "SPACE_SEPARATOR"), (1, u "LINE_SEPARATOR"), (1, u "PARAGRAPH_SEPARATOR"), (1, u "CONTROL"), (1, u "FORMAT"), (1, u "PRIVATE_USE"), (1, u "SURROGATE"), (1, u "DASH_PUNCTUATION"), (1, u "START_PUNCTUATION"), (1, u "END_PUNCTUATION"), (1, u "CONNECTOR_PUNCTUATION"), (1, u "OTHER_PUNCTUATION"), (1, u "MATH_SYMBOL"), (1, u "CURRENCY_SYMBOL"), (1, u "MODIFIER_SYMBOL"), (1, u "OTHER_SYMBOL"), (1, u "INITIAL_QUOTE_PUNCTUATION"), (1, u "FINAL_QUOTE_PUNCTUATION"), (1, u "ERROR"), (1, u "DIRECTIONALITY_UNDEFINED"), (0, u "DIRECTIONALITY_LEFT_TO_RIGHT"), (0, u "DIRECTIONALITY_RIGHT_TO_LEFT"), (0, u "DIRECTIONALITY_RIGHT_TO_LEFT_ARABIC"), (0, u "DIRECTIONALITY_EUROPEAN_NUMBER"), (0, u "DIRECTIONALITY_EUROPEAN_NUMBER_SEPARATOR"), (0, u "DIRECTIONALITY_EUROPEAN_NUMBER_TERMINATOR"), (0, u "DIRECTIONALITY_ARABIC_NUMBER"), (0, u "DIRECTIONALITY_COMMON_NUMBER_SEPARATOR"), (0, u "DIRECTIONALITY_NONSPACING_MARK"), (0, u "DIRECTIONALITY_BOUNDARY_NEUTRAL"), (0, u "DIRECTIONALITY_PARAGRAPH_SEPARATOR"), (0, u "DIRECTIONALITY_SEGMENT_SEPARATOR"), (0, u "DIRECTIONALITY_WHITESPACE"), (0, u "DIRECTIONALITY_OTHER_NEUTRALS"), (0, u "DIRECTIONALITY_LEFT_TO_RIGHT_EMBEDDING"), (0, u "DIRECTIONALITY_LEFT_TO_RIGHT_OVERRIDE"), (0, u "DIRECTIONALITY_RIGHT_TO_LEFT_EMBEDDING"), (0, u "DIRECTIONALITY_RIGHT_TO_LEFT_OVERRIDE"), (1, u "DIRECTIONALITY_POP_DIRECTIONAL_FORMAT"), (0, u "DIRECTIONALITY_LEFT_TO_RIGHT_ISOLATE"), (0, u "DIRECTIONALITY_RIGHT_TO_LEFT_ISOLATE"), (0, u "DIRECTIONALITY_FIRST_STRONG_ISOLATE"), (0, u "DIRECTIONALITY_POP_DIRECTIONAL_ISOLATE"), (0, u "MIN_HIGH_SURROGATE"), (0, u "MAX_HIGH_SURROGATE"), (1, u "MIN_LOW_SURROGATE"), (0, u "MAX_LOW_SURROGATE"), (1, u "MIN_SURROGATE"), (0, u "MAX_SURROGATE"), (0, u "MIN_SUPPLEMENTARY_CODE_POINT"), (0, u "MIN_CODE_POINT"), (0, u "MAX_CODE_POINT"), (1, u "serialVersionUID"), (0, u "J"), (2, u "SIZE"), (0, u "BYTES"), (24, u "isSurrogate"), (63, .class_ 596), (0, u "java/lang/Character$UnicodeScript"), (0, .class_ 598), (0, u "java/lang/Character$Subset")] 5

def k6c0 : Code := { maxStack := 2, maxLocals := 1, code := jdk_89_method_16_code, exceptionTable := #[], attributes := #[] }
def k6m0 : Method := { name := "isSurrogate", desc := "(C)Z", sig := { parameters := [.char], returnType := some .boolean }, accessFlags := 9, code := some k6c0 }
/-- java/lang/Character -/
def k6 : Class := { plain "java/lang/Character" (some 0) with
  accessFlags := 49
  interfaces := #[3, 4, 5]
  cf := some (fileOf pool6 1 #[.nestMembers #[48, 595, 307, 597]] #[{ accessFlags := 9, nameIndex := 531, descriptorIndex := 81, attributes := #[] }] 49 42 #[385, 387, 389] #[{ accessFlags := 25, nameIndex := 391, descriptorIndex := 392, attributes := #[] }, { accessFlags := 25, nameIndex := 395, descriptorIndex := 392, attributes := #[] }, { accessFlags := 25, nameIndex := 397, descriptorIndex := 22, attributes := #[] }, { accessFlags := 25, nameIndex := 399, descriptorIndex := 22, attributes := #[] }, { accessFlags := 25, nameIndex := 383, descriptorIndex := 384, attributes := #[] }, { accessFlags := 25, nameIndex := 403, descriptorIndex := 404, attributes := #[] }, { accessFlags := 25, nameIndex := 405, descriptorIndex := 404, attributes := #[] }, { accessFlags := 25, nameIndex := 407, descriptorIndex := 404, attributes := #[] }, { accessFlags := 25, nameIndex := 408, descriptorIndex := 404, attributes := #[] }, { accessFlags := 25, nameIndex := 410, descriptorIndex := 404, attributes := #[] }, { accessFlags := 25, nameIndex := 412, descriptorIndex := 404, attributes := #[] }, { accessFlags := 25, nameIndex := 414, descriptorIndex := 404, attributes := #[] }, { accessFlags := 25, nameIndex := 416, descriptorIndex := 404, attributes := #[] }, { accessFlags := 25, nameIndex := 418, descriptorIndex := 404, attributes := #[] }, { accessFlags := 25, nameIndex := 420, descriptorIndex := 404, attributes := #[] }, { accessFlags := 25, nameIndex := 422, descriptorIndex := 404, attributes := #[] }, { accessFlags := 25, nameIndex := 424, descriptorIndex := 404, attributes := #[] }, { accessFlags := 25, nameIndex := 426, descriptorIndex := 404, attributes := #[] }, { accessFlags := 25, nameIndex := 428, descriptorIndex := 404, attributes := #[] }, { accessFlags := 25, nameIndex := 430, descriptorIndex := 404, attributes := #[] }, { accessFlags := 25, nameIndex := 432, descriptorIndex := 404, attributes := #[] }, { accessFlags := 25, nameIndex := 434, descriptorIndex := 404, attributes := #[] }, { accessFlags := 25, nameIndex := 436, descriptorIndex := 404, attributes := #[] }, { accessFlags := 25, nameIndex := 438, descriptorIndex := 404, attributes := #[] }, { accessFlags := 25, nameIndex := 440, descriptorIndex := 404, attributes := #[] }, { accessFlags := 25, nameIndex := 442, descriptorIndex := 404, attributes := #[] }, { accessFlags := 25, nameIndex := 444, descriptorIndex := 404, attributes := #[] }, { accessFlags := 25, nameIndex := 446, descriptorIndex := 404, attributes := #[] }, { accessFlags := 25, nameIndex := 448, descriptorIndex := 404, attributes := #[] }, { accessFlags := 25, nameIndex := 450, descriptorIndex := 404, attributes := #[] }, { accessFlags := 25, nameIndex := 452, descriptorIndex := 404, attributes := #[] }, { accessFlags := 25, nameIndex := 454, descriptorIndex := 404, attributes := #[] }, { accessFlags := 25, nameIndex := 456, descriptorIndex := 404, attributes := #[] }, { accessFlags := 25, nameIndex := 458, descriptorIndex := 404, attributes := #[] }, { accessFlags := 25, nameIndex := 460, descriptorIndex := 404, attributes := #[] }, { accessFlags := 24, nameIndex := 462, descriptorIndex := 392, attributes := #[] }, { accessFlags := 25, nameIndex := 464, descriptorIndex := 404, attributes := #[] }, { accessFlags := 25, nameIndex := 465, descriptorIndex := 404, attributes := #[] }, { accessFlags := 25, nameIndex := 466, descriptorIndex := 404, attributes := #[] }, { accessFlags := 25, nameIndex := 467, descriptorIndex := 404, attributes := #[] }, { accessFlags := 25, nameIndex := 468, descriptorIndex := 404, attributes := #[] }, { accessFlags := 25, nameIndex := 469, descriptorIndex := 404, attributes := #[] }, { accessFlags := 25, nameIndex := 470, descriptorIndex := 404, attributes := #[] }, { accessFlags := 25, nameIndex := 471, descriptorIndex := 404, attributes := #[] }, { accessFlags := 25, nameIndex := 472, descriptorIndex := 404, attributes := #[] }, { accessFlags := 25, nameIndex := 473, descriptorIndex := 404, attributes := #[] }, { accessFlags := 25, nameIndex := 474, descriptorIndex := 404, attributes := #[] }, { accessFlags := 25, nameIndex := 475, descriptorIndex := 404, attributes := #[] }, { accessFlags := 25, nameIndex := 476, descriptorIndex := 404, attributes := #[] }, { accessFlags := 25, nameIndex := 477, descriptorIndex := 404, attributes := #[] }, { accessFlags := 25, nameIndex := 478, descriptorIndex := 404, attributes := #[] }, { accessFlags := 25, nameIndex := 479, descriptorIndex := 404, attributes := #[] }, { accessFlags := 25, nameIndex := 480, descriptorIndex := 404, attributes := #[] }, { accessFlags := 25, nameIndex := 481, descriptorIndex := 404, attributes := #[] }, { accessFlags := 25, nameIndex := 482, descriptorIndex := 404, attributes := #[] }, { accessFlags := 25, nameIndex := 484, descriptorIndex := 404, attributes := #[] }, { accessFlags := 25, nameIndex := 485, descriptorIndex := 404, attributes := #[] }, { accessFlags := 25, nameIndex := 486, descriptorIndex := 404, attributes := #[] }, { accessFlags := 25, nameIndex := 487, descriptorIndex := 404, attributes := #[] }, { accessFlags := 25, nameIndex := 488, descriptorIndex := 404, attributes := #[] }, { accessFlags := 25, nameIndex := 489, descriptorIndex := 22, attributes := #[] }, { accessFlags := 25, nameIndex := 490, descriptorIndex := 22, attributes := #[] }, { accessFlags := 25, nameIndex := 492, descriptorIndex := 22, attributes := #[] }, { accessFlags := 25, nameIndex := 493, descriptorIndex := 22, attributes := #[] }, { accessFlags := 25, nameIndex := 495, descriptorIndex := 22, attributes := #[] }, { accessFlags := 25, nameIndex := 496, descriptorIndex := 22, attributes := #[] }, { accessFlags := 25, nameIndex := 497, descriptorIndex := 392, attributes := #[] }, { accessFlags := 25, nameIndex := 498, descriptorIndex := 392, attributes := #[] }, { accessFlags := 25, nameIndex := 499, descriptorIndex := 392, attributes := #[] }, { accessFlags := 18, nameIndex := 21, descriptorIndex := 22, attributes := #[] }, { accessFlags := 26, nameIndex := 501, descriptorIndex := 502, attributes := #[] }, { accessFlags := 25, nameIndex := 505, descriptorIndex := 392, attributes := #[] }, { accessFlags := 25, nameIndex := 506, descriptorIndex := 392, attributes := #[] }, { accessFlags := 4120, nameIndex := 284, descriptorIndex := 285, attributes := #[] }])
  fields := #[{ name := "MIN_RADIX", type := .int, accessFlags := 25, slot := 0, constantValue := 0 }, { name := "MAX_RADIX", type := .int, accessFlags := 25, slot := 1, constantValue := 0 }, { name := "MIN_VALUE", type := .char, accessFlags := 25, slot := 2, constantValue := 0 }, { name := "MAX_VALUE", type := .char, accessFlags := 25, slot := 3, constantValue := 0 }, { name := "TYPE", type := (.object "java/lang/Class"), accessFlags := 25, slot := 4, constantValue := 0 }, { name := "UNASSIGNED", type := .byte, accessFlags := 25, slot := 5, constantValue := 0 }, { name := "UPPERCASE_LETTER", type := .byte, accessFlags := 25, slot := 6, constantValue := 0 }, { name := "LOWERCASE_LETTER", type := .byte, accessFlags := 25, slot := 7, constantValue := 0 }, { name := "TITLECASE_LETTER", type := .byte, accessFlags := 25, slot := 8, constantValue := 0 }, { name := "MODIFIER_LETTER", type := .byte, accessFlags := 25, slot := 9, constantValue := 0 }, { name := "OTHER_LETTER", type := .byte, accessFlags := 25, slot := 10, constantValue := 0 }, { name := "NON_SPACING_MARK", type := .byte, accessFlags := 25, slot := 11, constantValue := 0 }, { name := "ENCLOSING_MARK", type := .byte, accessFlags := 25, slot := 12, constantValue := 0 }, { name := "COMBINING_SPACING_MARK", type := .byte, accessFlags := 25, slot := 13, constantValue := 0 }, { name := "DECIMAL_DIGIT_NUMBER", type := .byte, accessFlags := 25, slot := 14, constantValue := 0 }, { name := "LETTER_NUMBER", type := .byte, accessFlags := 25, slot := 15, constantValue := 0 }, { name := "OTHER_NUMBER", type := .byte, accessFlags := 25, slot := 16, constantValue := 0 }, { name := "SPACE_SEPARATOR", type := .byte, accessFlags := 25, slot := 17, constantValue := 0 }, { name := "LINE_SEPARATOR", type := .byte, accessFlags := 25, slot := 18, constantValue := 0 }, { name := "PARAGRAPH_SEPARATOR", type := .byte, accessFlags := 25, slot := 19, constantValue := 0 }, { name := "CONTROL", type := .byte, accessFlags := 25, slot := 20, constantValue := 0 }, { name := "FORMAT", type := .byte, accessFlags := 25, slot := 21, constantValue := 0 }, { name := "PRIVATE_USE", type := .byte, accessFlags := 25, slot := 22, constantValue := 0 }, { name := "SURROGATE", type := .byte, accessFlags := 25, slot := 23, constantValue := 0 }, { name := "DASH_PUNCTUATION", type := .byte, accessFlags := 25, slot := 24, constantValue := 0 }, { name := "START_PUNCTUATION", type := .byte, accessFlags := 25, slot := 25, constantValue := 0 }, { name := "END_PUNCTUATION", type := .byte, accessFlags := 25, slot := 26, constantValue := 0 }, { name := "CONNECTOR_PUNCTUATION", type := .byte, accessFlags := 25, slot := 27, constantValue := 0 }, { name := "OTHER_PUNCTUATION", type := .byte, accessFlags := 25, slot := 28, constantValue := 0 }, { name := "MATH_SYMBOL", type := .byte, accessFlags := 25, slot := 29, constantValue := 0 }, { name := "CURRENCY_SYMBOL", type := .byte, accessFlags := 25, slot := 30, constantValue := 0 }, { name := "MODIFIER_SYMBOL", type := .byte, accessFlags := 25, slot := 31, constantValue := 0 }, { name := "OTHER_SYMBOL", type := .byte, accessFlags := 25, slot := 32, constantValue := 0 }, { name := "INITIAL_QUOTE_PUNCTUATION", type := .byte, accessFlags := 25, slot := 33, constantValue := 0 }, { name := "FINAL_QUOTE_PUNCTUATION", type := .byte, accessFlags := 25, slot := 34, constantValue := 0 }, { name := "ERROR", type := .int, accessFlags := 24, slot := 35, constantValue := 0 }, { name := "DIRECTIONALITY_UNDEFINED", type := .byte, accessFlags := 25, slot := 36, constantValue := 0 }, { name := "DIRECTIONALITY_LEFT_TO_RIGHT", type := .byte, accessFlags := 25, slot := 37, constantValue := 0 }, { name := "DIRECTIONALITY_RIGHT_TO_LEFT", type := .byte, accessFlags := 25, slot := 38, constantValue := 0 }, { name := "DIRECTIONALITY_RIGHT_TO_LEFT_ARABIC", type := .byte, accessFlags := 25, slot := 39, constantValue := 0 }, { name := "DIRECTIONALITY_EUROPEAN_NUMBER", type := .byte, accessFlags := 25, slot := 40, constantValue := 0 }, { name := "DIRECTIONALITY_EUROPEAN_NUMBER_SEPARATOR", type := .byte, accessFlags := 25, slot := 41, constantValue := 0 }, { name := "DIRECTIONALITY_EUROPEAN_NUMBER_TERMINATOR", type := .byte, accessFlags := 25, slot := 42, constantValue := 0 }, { name := "DIRECTIONALITY_ARABIC_NUMBER", type := .byte, accessFlags := 25, slot := 43, constantValue := 0 }, { name := "DIRECTIONALITY_COMMON_NUMBER_SEPARATOR", type := .byte, accessFlags := 25, slot := 44, constantValue := 0 }, { name := "DIRECTIONALITY_NONSPACING_MARK", type := .byte, accessFlags := 25, slot := 45, constantValue := 0 }, { name := "DIRECTIONALITY_BOUNDARY_NEUTRAL", type := .byte, accessFlags := 25, slot := 46, constantValue := 0 }, { name := "DIRECTIONALITY_PARAGRAPH_SEPARATOR", type := .byte, accessFlags := 25, slot := 47, constantValue := 0 }, { name := "DIRECTIONALITY_SEGMENT_SEPARATOR", type := .byte, accessFlags := 25, slot := 48, constantValue := 0 }, { name := "DIRECTIONALITY_WHITESPACE", type := .byte, accessFlags := 25, slot := 49, constantValue := 0 }, { name := "DIRECTIONALITY_OTHER_NEUTRALS", type := .byte, accessFlags := 25, slot := 50, constantValue := 0 }, { name := "DIRECTIONALITY_LEFT_TO_RIGHT_EMBEDDING", type := .byte, accessFlags := 25, slot := 51, constantValue := 0 }, { name := "DIRECTIONALITY_LEFT_TO_RIGHT_OVERRIDE", type := .byte, accessFlags := 25, slot := 52, constantValue := 0 }, { name := "DIRECTIONALITY_RIGHT_TO_LEFT_EMBEDDING", type := .byte, accessFlags := 25, slot := 53, constantValue := 0 }, { name := "DIRECTIONALITY_RIGHT_TO_LEFT_OVERRIDE", type := .byte, accessFlags := 25, slot := 54, constantValue := 0 }, { name := "DIRECTIONALITY_POP_DIRECTIONAL_FORMAT", type := .byte, accessFlags := 25, slot := 55, constantValue := 0 }, { name := "DIRECTIONALITY_LEFT_TO_RIGHT_ISOLATE", type := .byte, accessFlags := 25, slot := 56, constantValue := 0 }, { name := "DIRECTIONALITY_RIGHT_TO_LEFT_ISOLATE", type := .byte, accessFlags := 25, slot := 57, constantValue := 0 }, { name := "DIRECTIONALITY_FIRST_STRONG_ISOLATE", type := .byte, accessFlags := 25, slot := 58, constantValue := 0 }, { name := "DIRECTIONALITY_POP_DIRECTIONAL_ISOLATE", type := .byte, accessFlags := 25, slot := 59, constantValue := 0 }, { name := "MIN_HIGH_SURROGATE", type := .char, accessFlags := 25, slot := 60, constantValue := 0 }, { name := "MAX_HIGH_SURROGATE", type := .char, accessFlags := 25, slot := 61, constantValue := 0 }, { name := "MIN_LOW_SURROGATE", type := .char, accessFlags := 25, slot := 62, constantValue := 0 }, { name := "MAX_LOW_SURROGATE", type := .char, accessFlags := 25, slot := 63, constantValue := 0 }, { name := "MIN_SURROGATE", type := .char, accessFlags := 25, slot := 64, constantValue := 0 }, { name := "MAX_SURROGATE", type := .char, accessFlags := 25, slot := 65, constantValue := 0 }, { name := "MIN_SUPPLEMENTARY_CODE_POINT", type := .int, accessFlags := 25, slot := 66, constantValue := 0 }, { name := "MIN_CODE_POINT", type := .int, accessFlags := 25, slot := 67, constantValue := 0 }, { name := "MAX_CODE_POINT", type := .int, accessFlags := 25, slot := 68, constantValue := 0 }, { name := "value", type := .char, accessFlags := 18, slot := 0, constantValue := 0 }, { name := "serialVersionUID", type := .long, accessFlags := 26, slot := 69, constantValue := 0 }, { name := "SIZE", type := .int, accessFlags := 25, slot := 70, constantValue := 0 }, { name := "BYTES", type := .int, accessFlags := 25, slot := 71, constantValue := 0 }, { name := "$assertionsDisabled", type := .boolean, accessFlags := 4120, slot := 72, constantValue := 0 }]
  methods := #[k6m0]
  instanceTypes := #[.char]
  staticTypes := #[.int, .int, .char, .char, (.object "java/lang/Class"), .byte, .byte, .byte, .byte, .byte, .byte, .byte, .byte, .byte, .byte, .byte, .byte, .byte, .byte, .byte, .byte, .byte, .byte, .byte, .byte, .byte, .byte, .byte, .byte, .byte, .byte, .byte, .byte, .byte, .byte, .int, .byte, .byte, .byte, .byte, .byte, .byte, .byte, .byte, .byte, .byte, .byte, .byte, .byte, .byte, .byte, .byte, .byte, .byte, .byte, .byte, .byte, .byte, .byte, .byte, .char, .char, .char, .char, .char, .char, .int, .int, .int, .long, .int, .int, .boolean]
  resolved := Array.replicate 604 none
  statics := none }

def pool7 : Array CpInfo := pool [(1, u "java/lang/Cloneable"), (0, .class_ 1), (0, u "java/lang/Object"), (0, .class_ 3)] 3

/-- java/lang/Cloneable -/
def k7 : Class := { plain "java/lang/Cloneable" (some 0) with
  accessFlags := 1537
  interfaces := #[]
  cf := some (fileOf pool7 2 #[] #[] 1537 4 #[] #[])
  fields := #[]
  methods := #[]
  instanceTypes := #[]
  staticTypes := #[]
  resolved := Array.replicate 8 none
  statics := none }

/-- the primitive byte -/
def k8 : Class := { plain "byte" none with kind := .primitive 'B', accessFlags := 0x411 }
/-- [B -/
def k9 : Class := { plain "[B" (some 0) with kind := .array 8 .byte, interfaces := #[7, 3], accessFlags := 1041 }

/-- the primitive int -/
def k10 : Class := { plain "int" none with kind := .primitive 'I', accessFlags := 0x411 }
/-- [I -/
def k11 : Class := { plain "[I" (some 0) with kind := .array 10 .int, interfaces := #[7, 3], accessFlags := 1041 }

def heap : Heap := #[]
def classes : Array Class := #[k0, k1, k2, k3, k4, k5, k6, k7, k8, k9, k10, k11]
def interned : List (Array UInt16 × Addr) := []
def slotsUsed : Nat := 0
def theMethod : MethodId := ⟨1, 1⟩
def args0 : Array Value := #[.int 5]
def aboutOver (below : List Frame) : State where
  vm := { classes := classes, interned := interned.toArray }
  heap := heap
  slotsUsed := slotsUsed
  threads := #[{ frames := .invoking theMethod args0 :: below }]
def below0 : List Frame := [.native { method := ⟨0, 0⟩, args := #[] }]
def about1 : State := aboutOver below0
def p0 : Program := .bare "" "" ""
def e0 : Env := launch0.env 0 0 0
theorem w_frames : about1.frames = Frame.invoking theMethod args0 :: below0 := rfl
set_option maxRecDepth 65536 in
theorem w_args : argsFit about1.vm theMethod args0 = true := by decide +kernel
set_option maxRecDepth 65536 in
theorem w_heap : heapFits about1 = true := by decide +kernel
set_option maxRecDepth 65536 in
theorem w_runnable : about1.curStatus? = some .runnable := by decide +kernel
set_option maxRecDepth 65536 in
theorem w_alone : about1.alone = true := by decide +kernel
set_option maxRecDepth 65536 in
theorem w_named : about1.methodNamed? x = some theMethod := by decide +kernel
set_option maxRecDepth 65536 in
theorem w_hears : about1.hears theMethod below0 = true := by decide +kernel
set_option maxRecDepth 65536 in
theorem w_ripe : about1.ripe theMethod args0 below0 = true := by decide +kernel
theorem w_running : about1.status = .running := rfl
set_option maxRecDepth 65536 in
theorem w_room : about1.hasRoom e0.platform room_1 = true :=
  launch0.hasRoom_least _ room_1 (by decide +kernel) (by decide +kernel) (by decide +kernel) (by decide +kernel) (by decide +kernel) (by decide +kernel)
theorem allAtoms_all (ts : List Jvm.Cond) (a : Array Jvm.Value) (st : Jvm.State) : (allAtoms ts).before a st = ts.all (fun c => c.before a st) := by
  induction ts with
  | nil => rfl
  | cons c t ih =>
    show (Jvm.Cond.and c (allAtoms t)).before a st = _
    rw [Jvm.Cond.before_and, ih, List.all_cons]
def words1 : List Jvm.Cond := Jvm.Cond.code x code maxLocals ret :: tables_1
/-- a 'code' word, met by the world's own term for the bytes: nothing is compared byte by byte -/
theorem code_word {y : MethodName} {bytes : ByteArray} {mx : Nat} {rt : Option FieldType} {a : Array Value} {s : State} {m : MethodId} {meth : Method} {c : Code} (h1 : s.methodNamed? y = some m) (h2 : s.vm.method? m = some meth) (h3 : meth.code = some c) (h4 : c.code = bytes)
    (h5 : (c.maxLocals == mx && c.exceptionTable.isEmpty && decide (c.maxStack ≤ mostOperands) && decide (meth.sig.returnType = rt) && !meth.locks && decide (parseMethodDescriptor y.desc = some meth.sig)) = true) : (Jvm.Cond.code y bytes mx rt).before a s = true := by
  simp only [Bool.and_eq_true, beq_iff_eq, Bool.not_eq_true', decide_eq_true_eq] at h5
  obtain ⟨⟨⟨⟨⟨g1, g2⟩, g3⟩, g4⟩, g5⟩, g6⟩ := h5
  simp [Cond.before, Cond.holds, Cond.value, h1, h2, h3, h4, g1, g2, g3, g4, g5, g6]
def isCode : Jvm.Cond → Bool
  | .code _ _ _ _ => true
  | _ => false
theorem all_split {L : List Jvm.Cond} {P : Jvm.Cond → Bool} (h1 : L.all (fun c => isCode c || P c) = true) (h2 : ∀ c ∈ L.filter isCode, P c = true) : L.all P = true := by
  refine List.all_eq_true.mpr fun c hc => ?_
  have h := List.all_eq_true.mp h1 c hc
  rcases Bool.eq_false_or_eq_true (isCode c) with hi | hi
  · exact h2 c (List.mem_filter.mpr ⟨hc, hi⟩)
  · simpa [hi] using h
set_option maxRecDepth 65536 in
theorem w_c0 : (Jvm.Cond.code x code maxLocals ret).before args0 about1 = true := code_word (m := ⟨1, 1⟩) (meth := k1m1) (c := k1c1) (by decide +kernel) rfl rfl rfl (by decide +kernel)
set_option maxRecDepth 65536 in
theorem w_c1 : (Jvm.Cond.code ({ cls := "com/example/relation_check/relationcheck/model/Notation", name := "utf8Bytes", desc := "(C)I" } : Jvm.MethodName) prog_6_method_3_code (1 : Nat) (Option.some Jvm.ClassFile.FieldType.int)).before args0 about1 = true := code_word (m := ⟨2, 1⟩) (meth := k2m1) (c := k2c1) (by decide +kernel) rfl rfl rfl (by decide +kernel)
set_option maxRecDepth 65536 in
theorem w_c2 : (Jvm.Cond.code ({ cls := "java/lang/Character", name := "isSurrogate", desc := "(C)Z" } : Jvm.MethodName) jdk_89_method_16_code (1 : Nat) (Option.some Jvm.ClassFile.FieldType.boolean)).before args0 about1 = true := code_word (m := ⟨6, 0⟩) (meth := k6m0) (c := k6c0) (by decide +kernel) rfl rfl rfl (by decide +kernel)
def codes1 : List Jvm.Cond := [Jvm.Cond.code x code maxLocals ret, Jvm.Cond.code ({ cls := "com/example/relation_check/relationcheck/model/Notation", name := "utf8Bytes", desc := "(C)I" } : Jvm.MethodName) prog_6_method_3_code (1 : Nat) (Option.some Jvm.ClassFile.FieldType.int), Jvm.Cond.code ({ cls := "java/lang/Character", name := "isSurrogate", desc := "(C)Z" } : Jvm.MethodName) jdk_89_method_16_code (1 : Nat) (Option.some Jvm.ClassFile.FieldType.boolean)]
set_option maxRecDepth 65536 in
theorem codes_eq : words1.filter isCode = codes1 := rfl
theorem w_codes : ∀ c ∈ words1.filter isCode, c.before args0 about1 = true := by
  rw [codes_eq]
  intro c hc
  simp only [codes1, List.mem_cons, List.not_mem_nil, or_false] at hc
  rcases hc with rfl | rfl | rfl
  · exact w_c0
  · exact w_c1
  · exact w_c2
set_option maxRecDepth 65536 in
theorem w_t1 : words1.all (fun c => isCode c || c.before args0 about1) = true := by decide +kernel
theorem w_tables : (allAtoms (Jvm.Cond.code x code maxLocals ret :: tables_1)).before args0 about1 = true := by
  rw [allAtoms_all]
  show words1.all (fun c => c.before args0 about1) = true
  refine all_split ?_ w_codes
  rw [w_t1]
set_option maxRecDepth 65536 in
theorem w_case : (Jvm.Cond.and given_1 narrow_1).before args0 about1 = true := by decide +kernel
theorem w_applies : (headSpec (Jvm.Cond.code x code maxLocals ret :: tables_1) room_1).applies x e0.platform about1 = true :=
  (Spec.applies_iff w_frames).mpr ⟨w_running, w_runnable, w_alone, w_named, w_hears, w_ripe, w_room, w_tables⟩
theorem atStart : AtStart classFile x code maxLocals ret World_1 tables_1 room_1 Calls_1 rest_1 Pre_1 launch0 p0 e0 about1 theMethod args0 below0 :=
  ⟨lists_1, trivial, launch0.admits_env _ _ _, launch0.least_env, fairChoices_fair.cas, fairChoices_fair.clock, w_frames, w_args, w_heap, w_applies, trivial, trivial, w_case⟩
end start1
theorem witness_1 : WitnessClaimed_1 := ⟨start1.p0, start1.e0, start1.about1, start1.theMethod, start1.args0, start1.below0, start1.atStart⟩
end Jvm.Pilot.@@N@@
