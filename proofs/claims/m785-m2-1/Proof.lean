import JvmDerived
import JvmDerived.Pilot.@@N@@Statement
import JvmDerived.Pilot.@@N@@Code
set_option linter.unusedVariables false
set_option linter.unusedSimpArgs false
namespace Jvm.Pilot.@@N@@
open Jvm Jvm.ClassFile Sem Op Lib Jvm.Free Jvm.Stand Jvm.LawKit Jvm.RoadKit Bundle Jvm.Pilot.@@N@@.Jvm.D
section Own
variable {p : Program} {l : Launch} {e : Env} {R : Room} {s : State} {m : MethodId} {args : Array Value} {below : List Frame} {meth : Method} {c : Code} {T : State} {locs : List Loc} {cells slots : Nat}
/-- the goal of a walk, as seen from a state on its road -/
def Gl (p : Program) (e : Env) (below : List Frame) (K : Outcome → State → Prop) (A : State) : Prop := ∃ s₂ o, Steps p.tables e below A s₂ ∧ s₂.status = .running ∧ Ended s₂ below o ∧ K o s₂
theorem Gl.up {K : Outcome → State → Prop} {A B : State} (h : ∀ t, Steps p.tables e below B t → Steps p.tables e below A t) (k : Gl p e below K B) : Gl p e below K A := by
  obtain ⟨s2, o, h1, r⟩ := k
  exact ⟨s2, o, h _ h1, r⟩
/-- what a body leaves -/
def Ret (s : State) (rc rs : Nat) (Q : Option Value → Heap → List Loc → Prop) (o : Outcome) (U : State) : Prop := ∃ v L, o = .returned v ∧ Q v U.heap L ∧ FrameEnd s o U L rc rs
variable {rc rs : Nat} {Q : Option Value → Heap → List Loc → Prop} {pc : Nat} {Ls : Array Slot} {rest : List Value}
theorem Gl.retI (X : Stand p l e R s m args below meth c T locs cells slots) (hx : p.tables.exec = Jvm.exec) (hlk : meth.locks = false) {z : Int32} (hret : meth.sig.returnType = some .int) (hd : decode c.code pc = .ok (.ireturn, 1)) (hq : Q (some (.int z)) T.heap locs) (hc : cells ≤ rc) (hs : slots ≤ rs) :
    Gl p e below (Ret s rc rs Q) (T.setTop (mkF m pc Ls (.int z :: rest))) := by
  obtain ⟨fs, hr, hrun, hended, hW, hsame⟩ := X.leave (v := some (.int z)) (fun h => by rw [hret] at h; cases h) hlk
  exact ⟨_, _, retOut X hx hret rfl (Or.inl ⟨rfl, Or.inl rfl, z, rfl⟩) hd hr, hrun, hended, _, _, rfl, hq, ⟨_, rfl⟩, hW, hsame.mono hc hs⟩
theorem Gl.retJ (X : Stand p l e R s m args below meth c T locs cells slots) (hx : p.tables.exec = Jvm.exec) (hlk : meth.locks = false) {z : Int64} (hret : meth.sig.returnType = some .long) (hd : decode c.code pc = .ok (.lreturn, 1)) (hq : Q (some (.long z)) T.heap locs) (hc : cells ≤ rc) (hs : slots ≤ rs) :
    Gl p e below (Ret s rc rs Q) (T.setTop (mkF m pc Ls (.long z :: rest))) := by
  obtain ⟨fs, hr, hrun, hended, hW, hsame⟩ := X.leave (v := some (.long z)) (fun h => by rw [hret] at h; cases h) hlk
  exact ⟨_, _, retOut X hx hret rfl (Or.inr (Or.inl ⟨rfl, rfl, z, rfl⟩)) hd hr, hrun, hended, _, _, rfl, hq, ⟨_, rfl⟩, hW, hsame.mono hc hs⟩
theorem Gl.retN (X : Stand p l e R s m args below meth c T locs cells slots) (hx : p.tables.exec = Jvm.exec) (hlk : meth.locks = false) {z w : Int32} {t : FieldType} (hret : meth.sig.returnType = some t) (ht : t = .boolean ∨ t = .byte ∨ t = .char ∨ t = .short) (hd : decode c.code pc = .ok (.ireturn, 1)) (hn : nar t z = w) (hq : Q (some (.int w)) T.heap locs) (hc : cells ≤ rc) (hs : slots ≤ rs) :
    Gl p e below (Ret s rc rs Q) (T.setTop (mkF m pc Ls (.int z :: rest))) := by
  subst hn
  obtain ⟨fs, hr, hrun, hended, hW, hsame⟩ := X.leave (v := some (.int (nar t z))) (fun h => by rw [hret] at h; cases h) hlk
  exact ⟨_, _, Jvm.RoadKit.retN X hx hret ht hd hr, hrun, hended, _, _, rfl, hq, ⟨_, rfl⟩, hW, hsame.mono hc hs⟩
theorem Gl.ret0 (X : Stand p l e R s m args below meth c T locs cells slots) (hx : p.tables.exec = Jvm.exec) (hlk : meth.locks = false) (hret : meth.sig.returnType = none) (hd : decode c.code pc = .ok (.return_, 1)) (hq : Q none T.heap locs) (hc : cells ≤ rc) (hs : slots ≤ rs) :
    Gl p e below (Ret s rc rs Q) (T.setTop (mkF m pc Ls [])) := by
  obtain ⟨fs, hr, hrun, hended, hW, hsame⟩ := X.leave (v := none) (fun _ => rfl) hlk
  exact ⟨_, _, X.returnOut hx hret hd hr, hrun, hended, _, _, rfl, hq, ⟨_, rfl⟩, hW, hsame.mono hc hs⟩
theorem Gl.retR (X : Stand p l e R s m args below meth c T locs cells slots) (hx : p.tables.exec = Jvm.exec) (hlk : meth.locks = false) {v : Value} {t : FieldType} (hret : meth.sig.returnType = some t) (hd : decode c.code pc = .ok (.areturn, 1)) (ht : t.isReference = true) (hv : v.isRef = true) (hq : Q (some v) T.heap locs) (hc : cells ≤ rc) (hs : slots ≤ rs) :
    Gl p e below (Ret s rc rs Q) (T.setTop (mkF m pc Ls (v :: rest))) := by
  have hn : narrow t v = v := by cases t <;> first | rfl | (cases ht; done) | (cases v <;> first | rfl | (cases hv; done))
  obtain ⟨fs, hr, hrun, hended, hW, hsame⟩ := X.leave (v := some v) (fun h => by rw [hret] at h; cases h) hlk
  exact ⟨_, _, retOut X hx hret hn (Or.inr (Or.inr (Or.inr (Or.inr ⟨rfl, ht, hv⟩)))) hd hr, hrun, hended, _, _, rfl, hq, ⟨_, rfl⟩, hW, hsame.mono hc hs⟩
end Own
theorem own_widen {p : Program} {l : Launch} {e : Env} {R : Room} {s : State} {m : MethodId} {args : Array Value} {below : List Frame} {meth : Method} {c : Code} {T : State} {locs : List Loc} {cells slots cells' slots' : Nat} (X : Stand p l e R s m args below meth c T locs cells slots) (hc : cells ≤ cells') (hs : slots ≤ slots') : Stand p l e R s m args below meth c T locs cells' slots' := { X with same := X.same.mono hc hs }
theorem old_le {Z : State} {n0 : Nat} {h : Heap} (O : Old Z n0 h) : n0 ≤ h.size := by rw [← O.1]; exact O.2.1
theorem b01_ite {q : Prop} [Decidable q] {a b : Int32} (ha : a = 0 ∨ a = 1) (hb : b = 0 ∨ b = 1) : (if q then a else b) = 0 ∨ (if q then a else b) = 1 := by split <;> assumption
theorem nar_b01 {a : Int32} (h : a = 0 ∨ a = 1) : nar .boolean a = a := by rcases h with rfl | rfl <;> rfl
theorem fits_b01 {a : Int32} (h : a = 0 ∨ a = 1) : fits .boolean (.int a) = true := by rcases h with rfl | rfl <;> rfl
theorem own_fld {Z : State} {h : Heap} {a : Addr} {C n d : String} {v w : Value} (q : v = w) (F : Fld Z h a C n d v) : Fld Z h a C n d w := q ▸ F
theorem jc_lt_t {x y : Int64} (h : x < y) : ifCond.holds .lt (lcmpW x y) = true := (if0 _ _).trans (tlt ((lw_lt x y).mpr h)).1
theorem jc_lt_f {x y : Int64} (h : ¬ x < y) : ifCond.holds .lt (lcmpW x y) = false := (if0 _ _).trans (flt (fun q => h ((lw_lt x y).mp q))).1
theorem jc_ge_t {x y : Int64} (h : ¬ x < y) : ifCond.holds .ge (lcmpW x y) = true := (if0 _ _).trans (flt (fun q => h ((lw_lt x y).mp q))).2.1
theorem jc_ge_f {x y : Int64} (h : x < y) : ifCond.holds .ge (lcmpW x y) = false := (if0 _ _).trans (tlt ((lw_lt x y).mpr h)).2.1
theorem jc_gt_t {x y : Int64} (h : y < x) : ifCond.holds .gt (lcmpW x y) = true := (if0 _ _).trans (tlt ((lw_gt x y).mpr h)).2.2.1
theorem jc_gt_f {x y : Int64} (h : ¬ y < x) : ifCond.holds .gt (lcmpW x y) = false := (if0 _ _).trans (flt (fun q => h ((lw_gt x y).mp q))).2.2.1
theorem jc_le_t {x y : Int64} (h : ¬ y < x) : ifCond.holds .le (lcmpW x y) = true := (if0 _ _).trans (flt (fun q => h ((lw_gt x y).mp q))).2.2.2
theorem jc_le_f {x y : Int64} (h : y < x) : ifCond.holds .le (lcmpW x y) = false := (if0 _ _).trans (tlt ((lw_gt x y).mpr h)).2.2.2
theorem jc_eq_t {x y : Int64} (h : x = y) : ifCond.holds .eq (lcmpW x y) = true := (if0 _ _).trans (teq ((lw_eq x y).mpr h)).1
theorem jc_eq_f {x y : Int64} (h : ¬ x = y) : ifCond.holds .eq (lcmpW x y) = false := (if0 _ _).trans (feq (fun q => h ((lw_eq x y).mp q))).1
theorem jc_ne_t {x y : Int64} (h : ¬ x = y) : ifCond.holds .ne (lcmpW x y) = true := (if0 _ _).trans (feq (fun q => h ((lw_eq x y).mp q))).2
theorem jc_ne_f {x y : Int64} (h : x = y) : ifCond.holds .ne (lcmpW x y) = false := (if0 _ _).trans (teq ((lw_eq x y).mpr h)).2
theorem own_mapset (cs : List Int32) (i : Nat) (v : Int32) : (cs.map Value.int).set i (.int v) = (cs.set i v).map Value.int := (List.map_set).symm
theorem d1_0 : decode prog_19_method_5_code 0 = .ok (.aload_n 0, 1) := by decide +kernel
theorem d1_1 : decode prog_19_method_5_code 1 = .ok (.getstatic 10, 3) := by decide +kernel
theorem d1_4 : decode prog_19_method_5_code 4 = .ok (.if_acmp .ne 12, 3) := by decide +kernel
theorem d1_7 : decode prog_19_method_5_code 7 = .ok (.iload_n 1, 1) := by decide +kernel
theorem d1_8 : decode prog_19_method_5_code 8 = .ok (.iconst 1, 1) := by decide +kernel
theorem d1_9 : decode prog_19_method_5_code 9 = .ok (.if_icmp .ne 7, 3) := by decide +kernel
theorem d1_12 : decode prog_19_method_5_code 12 = .ok (.iconst 1, 1) := by decide +kernel
theorem d1_13 : decode prog_19_method_5_code 13 = .ok (.goto 4, 3) := by decide +kernel
theorem d1_16 : decode prog_19_method_5_code 16 = .ok (.iconst 0, 1) := by decide +kernel
theorem d1_17 : decode prog_19_method_5_code 17 = .ok (.ireturn, 1) := by decide +kernel
theorem pn_com_example_relation_check_relationcheck_rules_Rewrite_Join : plainName "com/example/relation_check/relationcheck/rules/Rewrite$Join" = true := by first | (simp [plainName, overriddenIn]; done) | decide +kernel
theorem d2_0 : decode prog_19_method_4_code 0 = .ok (.aload_n 0, 1) := by decide +kernel
theorem d2_1 : decode prog_19_method_4_code 1 = .ok (.getstatic 3, 3) := by decide +kernel
theorem d2_4 : decode prog_19_method_4_code 4 = .ok (.if_acmp .eq 7, 3) := by decide +kernel
theorem d2_11 : decode prog_19_method_4_code 11 = .ok (.iconst 0, 1) := by decide +kernel
theorem d2_7 : decode prog_19_method_4_code 7 = .ok (.iconst 1, 1) := by decide +kernel
theorem d2_8 : decode prog_19_method_4_code 8 = .ok (.goto 4, 3) := by decide +kernel
theorem d2_12 : decode prog_19_method_4_code 12 = .ok (.ireturn, 1) := by decide +kernel
theorem pd_oIcZ : parseMethodDescriptor "(I)Z" = some ⟨[.int], some .boolean⟩ := by decide +kernel
theorem pd_ocZ : parseMethodDescriptor "()Z" = some ⟨[], some .boolean⟩ := by decide +kernel
theorem pn_com_example_relation_check_relationcheck_rules_JoinNeedsAllPinLaw : plainName "com/example/relation_check/relationcheck/rules/JoinNeedsAllPinLaw" = true := by first | (simp [plainName, overriddenIn]; done) | decide +kernel
def f1 (a0 : Addr) (p1 : Int32) (wF : Addr) : Int32 := (if a0 = wF then (if p1 = (1 : Int32) then (1 : Int32) else (0 : Int32)) else (0 : Int32))
theorem f1_b (a0 : Addr) (p1 : Int32) (wF : Addr) : f1 a0 p1 wF = 0 ∨ f1 a0 p1 wF = 1 := (b01_ite (b01_ite (Or.inr rfl) (Or.inl rfl)) (Or.inl rfl))
def Q1 (Z : State) (a0 : Addr) (p1 : Int32) (wF : Addr) (h0 : Heap) (n0 : Nat) (v : Option Value) (h : Heap) (L : List Loc) : Prop := v = some (.int (f1 a0 p1 wF)) ∧ L = [] ∧ h = h0
theorem ef1 (m : MethodId) (a0 : Addr) (p1 : Int32) : entryFrame m #[(.ref a0), (.int p1)] 2 = mkF m 0 #[.val (.ref a0), .val (.int p1)] [] := by first | (simp [entryFrame, mkF, argsToLocals, Value.category]; done) | rfl
set_option maxRecDepth 65536 in
set_option maxHeartbeats 40000000 in
theorem rm1 (l : Launch) (Z : State) (aa : Array Value) (hw : ∀ d ∈ tables_1, d.before aa Z = true) (ws : List Jvm.Cond) (a0 : Addr) (p1 : Int32) (wF : Addr) (h0 : Heap) (n0 : Nat) (O0 : Old Z n0 h0) (S_wF : Sta Z Z.heap "com/example/relation_check/relationcheck/rules/Rewrite$Join" "FIRST_BUT_NOT_SECOND" "Lcom/example/relation_check/relationcheck/rules/Rewrite$Join;" (.ref wF)) :
    MetFree l (⟨"com/example/relation_check/relationcheck/rules/Rewrite$Join", "subtracts", "(I)Z"⟩ : MethodName) (head1 (Jvm.Cond.code (⟨"com/example/relation_check/relationcheck/rules/Rewrite$Join", "subtracts", "(I)Z"⟩ : MethodName) prog_19_method_5_code 2 (some .boolean) :: ws) ({ frames := 0, cells := 0, slots := 0, locals := 0 } : Room)) (fun a U => a = #[(.ref a0), (.int p1)] ∧ Z.Warmed39 U.vm ∧ U.heap = h0) (fun _ _ _ _ _ => True) (fun _ U o U' => ∃ v L, o = .returned v ∧ Q1 Z a0 p1 wF h0 n0 v U'.heap L ∧ FrameEnd U o U' L ({ frames := 0, cells := 0, slots := 0, locals := 0 } : Room).cells ({ frames := 0, cells := 0, slots := 0, locals := 0 } : Room).slots) := by
  refine MetFree.of_bodySF (plainFor_of_name pn_com_example_relation_check_relationcheck_rules_Rewrite_Join) hisR ?_
  intro p e s m args below meth c s₁ Bd hml0 hP hK
  obtain ⟨rfl, hZ, hh⟩ := hP
  have hx := Bd.exec
  have hby := Bd.bytes
  have hlk := Bd.notSynchronized
  have hml : c.maxLocals = 2 := hml0
  have hown : s.vm.findClass "com/example/relation_check/relationcheck/rules/Rewrite$Join" = some m.cls := findClass_of_methodNamed Bd.named
  have hnm := (name_of_methodNamed Bd.named Bd.method).1
  have X0 : Stand p l e ({ frames := 0, cells := 0, slots := 0, locals := 0 } : Room) s m #[(.ref a0), (.int p1)] below meth c s₁ [] 0 0 := Stand.of_body Bd
  have e0 : s₁.heap = h0 := by rw [← hh, Bd.state]; rfl
  have N0 := Fr.nil n0
  show Gl p e below (Ret s 0 0 (Q1 Z a0 p1 wF h0 n0)) (s₁.setTop (entryFrame m #[(.ref a0), (.int p1)] 2))
  rw [ef1 m a0 p1]
  obtain ⟨args, hargs⟩ : ∃ z : Array Value, z = #[(.ref a0), (.int p1)] := ⟨_, rfl⟩
  rw [← hargs] at X0
  refine Gl.up (B := s₁.setTop (mkF m 1 #[.val (.ref a0), .val (.int p1)] [(.ref a0)])) (fun t kt => ?_) ?_
  · show Steps p.tables e below (s₁.setTop (mkF m 0 #[.val (.ref a0), .val (.int p1)] [])) _
    refine XS.aloadN X0.here hx rfl (hb hby d1_0) rfl rfl ?_
    exact kt
  obtain ⟨T1, X1, e1, st1⟩ := getS2 X0 hx hZ hown (host := "") (Or.inl (hw _ (List.mem_of_getElem? (i := 9) rfl))) Via.refl e0 (S_wF.ext O0.2) (g := (mkF m 1 #[.val (.ref a0), .val (.int p1)] [(.ref a0)])) rfl (hb hby d1_1)
  refine Gl.up (B := T1.setTop (mkF m 4 #[.val (.ref a0), .val (.int p1)] [(.ref wF), (.ref a0)])) (fun t kt => st1 _ kt) ?_
  suffices J2 : ∀ (T2 : State) (v2_s0 : Int32), v2_s0 = (if a0 = wF then (if p1 = (1 : Int32) then (1 : Int32) else (0 : Int32)) else (0 : Int32)) → Stand p l e ({ frames := 0, cells := 0, slots := 0, locals := 0 } : Room) s m args below meth c T2 [] 0 0 → T2.heap = h0 → Gl p e below (Ret s 0 0 (Q1 Z a0 p1 wF h0 n0)) (T2.setTop (mkF m 17 #[.val (.ref a0), .val (.int p1)] [(.int v2_s0)])) by
    by_cases c4_3 : a0 = wF
    · refine Gl.up (B := T1.setTop (mkF m 9 #[.val (.ref a0), .val (.int p1)] [(.int (1 : Int32)), (.int p1)])) (fun t kt => ?_) ?_
      · show Steps p.tables e below (T1.setTop (mkF m 4 #[.val (.ref a0), .val (.int p1)] [(.ref wF), (.ref a0)])) _
        refine Jvm.RoadKit.acmp (g := (mkF m 4 #[.val (.ref a0), .val (.int p1)] [(.ref wF), (.ref a0)])) X1 hx rfl rfl rfl (pc0 := 4) (pc' := 7) (same := true) rfl (hb hby d1_4) rfl (decide_eq_true (congrArg Value.ref c4_3)) (by decide) (by decide) ?_
        show Steps p.tables e below (T1.setTop (mkF m 7 #[.val (.ref a0), .val (.int p1)] [])) _
        refine XS.iloadN X1.here hx rfl (hb hby d1_7) rfl ?_
        show Steps p.tables e below (T1.setTop (mkF m 8 #[.val (.ref a0), .val (.int p1)] [(.int p1)])) _
        refine XS.iconst X1.here hx rfl (hb hby d1_8) ?_
        exact kt
      by_cases c9_4 : p1 = (1 : Int32)
      · refine Gl.up (B := T1.setTop (mkF m 17 #[.val (.ref a0), .val (.int p1)] [(.int (1 : Int32))])) (fun t kt => ?_) ?_
        · show Steps p.tables e below (T1.setTop (mkF m 9 #[.val (.ref a0), .val (.int p1)] [(.int (1 : Int32)), (.int p1)])) _
          refine XS.icmpNo X1.here hx rfl (hb hby d1_9) rfl (teq c9_4).2 ?_
          show Steps p.tables e below (T1.setTop (mkF m 12 #[.val (.ref a0), .val (.int p1)] [])) _
          refine XS.iconst X1.here hx rfl (hb hby d1_12) ?_
          show Steps p.tables e below (T1.setTop (mkF m 13 #[.val (.ref a0), .val (.int p1)] [(.int (1 : Int32))])) _
          refine XS.goto X1.here hx rfl (pc0 := 13) (pc' := 17) rfl (hb hby d1_13) (by decide) (by decide) ?_
          exact kt
        exact J2 _ (1 : Int32) ((if_pos c4_3).trans (if_pos c9_4)).symm X1 e1
      · refine Gl.up (B := T1.setTop (mkF m 17 #[.val (.ref a0), .val (.int p1)] [(.int (0 : Int32))])) (fun t kt => ?_) ?_
        · show Steps p.tables e below (T1.setTop (mkF m 9 #[.val (.ref a0), .val (.int p1)] [(.int (1 : Int32)), (.int p1)])) _
          refine XS.icmpYes X1.here hx rfl (pc0 := 9) (pc' := 16) rfl (hb hby d1_9) rfl (feq c9_4).2 (by decide) (by decide) ?_
          show Steps p.tables e below (T1.setTop (mkF m 16 #[.val (.ref a0), .val (.int p1)] [])) _
          refine XS.iconst X1.here hx rfl (hb hby d1_16) ?_
          exact kt
        exact J2 _ (0 : Int32) ((if_pos c4_3).trans (if_neg c9_4)).symm X1 e1
    · refine Gl.up (B := T1.setTop (mkF m 17 #[.val (.ref a0), .val (.int p1)] [(.int (0 : Int32))])) (fun t kt => ?_) ?_
      · show Steps p.tables e below (T1.setTop (mkF m 4 #[.val (.ref a0), .val (.int p1)] [(.ref wF), (.ref a0)])) _
        refine Jvm.RoadKit.acmp (g := (mkF m 4 #[.val (.ref a0), .val (.int p1)] [(.ref wF), (.ref a0)])) X1 hx rfl rfl rfl (pc0 := 4) (pc' := 16) (same := false) rfl (hb hby d1_4) rfl (decide_eq_false fun q => c4_3 (Value.ref.inj q)) (by decide) (by decide) ?_
        show Steps p.tables e below (T1.setTop (mkF m 16 #[.val (.ref a0), .val (.int p1)] [])) _
        refine XS.iconst X1.here hx rfl (hb hby d1_16) ?_
        exact kt
      exact J2 _ (0 : Int32) (if_neg c4_3).symm X1 e1
  intro T2 v2_s0 hv2_s0 X2 e2
  subst hv2_s0
  refine Gl.retN X2 hx hlk (t := .boolean) Bd.returns (by simp) (hb hby d1_17) (w := (if a0 = wF then (if p1 = (1 : Int32) then (1 : Int32) else (0 : Int32)) else (0 : Int32))) (nar_b01 (b01_ite (b01_ite (Or.inr rfl) (Or.inl rfl)) (Or.inl rfl))) ?_ (by decide) (by decide)
  exact ⟨congrArg (fun z => some (Value.int z)) (show (if a0 = wF then (if p1 = (1 : Int32) then (1 : Int32) else (0 : Int32)) else (0 : Int32)) = f1 a0 p1 wF from rfl), rfl, e2⟩
def f2 (a0 : Addr) (wA : Addr) : Int32 := (if a0 = wA then (0 : Int32) else (1 : Int32))
theorem f2_b (a0 : Addr) (wA : Addr) : f2 a0 wA = 0 ∨ f2 a0 wA = 1 := (b01_ite (Or.inl rfl) (Or.inr rfl))
def Q2 (Z : State) (a0 : Addr) (wA : Addr) (h0 : Heap) (n0 : Nat) (v : Option Value) (h : Heap) (L : List Loc) : Prop := v = some (.int (f2 a0 wA)) ∧ L = [] ∧ h = h0
theorem ef2 (m : MethodId) (a0 : Addr) : entryFrame m #[(.ref a0)] 1 = mkF m 0 #[.val (.ref a0)] [] := by first | (simp [entryFrame, mkF, argsToLocals, Value.category]; done) | rfl
set_option maxRecDepth 65536 in
set_option maxHeartbeats 40000000 in
theorem rm2 (l : Launch) (Z : State) (aa : Array Value) (hw : ∀ d ∈ tables_1, d.before aa Z = true) (ws : List Jvm.Cond) (a0 : Addr) (wA : Addr) (h0 : Heap) (n0 : Nat) (O0 : Old Z n0 h0) (S_wA : Sta Z Z.heap "com/example/relation_check/relationcheck/rules/Rewrite$Join" "ANY" "Lcom/example/relation_check/relationcheck/rules/Rewrite$Join;" (.ref wA)) :
    MetFree l (⟨"com/example/relation_check/relationcheck/rules/Rewrite$Join", "needsAll", "()Z"⟩ : MethodName) (head1 (Jvm.Cond.code (⟨"com/example/relation_check/relationcheck/rules/Rewrite$Join", "needsAll", "()Z"⟩ : MethodName) prog_19_method_4_code 1 (some .boolean) :: ws) ({ frames := 0, cells := 0, slots := 0, locals := 0 } : Room)) (fun a U => a = #[(.ref a0)] ∧ Z.Warmed39 U.vm ∧ U.heap = h0) (fun _ _ _ _ _ => True) (fun _ U o U' => ∃ v L, o = .returned v ∧ Q2 Z a0 wA h0 n0 v U'.heap L ∧ FrameEnd U o U' L ({ frames := 0, cells := 0, slots := 0, locals := 0 } : Room).cells ({ frames := 0, cells := 0, slots := 0, locals := 0 } : Room).slots) := by
  refine MetFree.of_bodySF (plainFor_of_name pn_com_example_relation_check_relationcheck_rules_Rewrite_Join) hisR ?_
  intro p e s m args below meth c s₁ Bd hml0 hP hK
  obtain ⟨rfl, hZ, hh⟩ := hP
  have hx := Bd.exec
  have hby := Bd.bytes
  have hlk := Bd.notSynchronized
  have hml : c.maxLocals = 1 := hml0
  have hown : s.vm.findClass "com/example/relation_check/relationcheck/rules/Rewrite$Join" = some m.cls := findClass_of_methodNamed Bd.named
  have hnm := (name_of_methodNamed Bd.named Bd.method).1
  have X0 : Stand p l e ({ frames := 0, cells := 0, slots := 0, locals := 0 } : Room) s m #[(.ref a0)] below meth c s₁ [] 0 0 := Stand.of_body Bd
  have e0 : s₁.heap = h0 := by rw [← hh, Bd.state]; rfl
  have N0 := Fr.nil n0
  show Gl p e below (Ret s 0 0 (Q2 Z a0 wA h0 n0)) (s₁.setTop (entryFrame m #[(.ref a0)] 1))
  rw [ef2 m a0]
  obtain ⟨args, hargs⟩ : ∃ z : Array Value, z = #[(.ref a0)] := ⟨_, rfl⟩
  rw [← hargs] at X0
  refine Gl.up (B := s₁.setTop (mkF m 1 #[.val (.ref a0)] [(.ref a0)])) (fun t kt => ?_) ?_
  · show Steps p.tables e below (s₁.setTop (mkF m 0 #[.val (.ref a0)] [])) _
    refine XS.aloadN X0.here hx rfl (hb hby d2_0) rfl rfl ?_
    exact kt
  obtain ⟨T1, X1, e1, st1⟩ := getS2 X0 hx hZ hown (host := "") (Or.inl (hw _ (List.mem_of_getElem? (i := 16) rfl))) Via.refl e0 (S_wA.ext O0.2) (g := (mkF m 1 #[.val (.ref a0)] [(.ref a0)])) rfl (hb hby d2_1)
  refine Gl.up (B := T1.setTop (mkF m 4 #[.val (.ref a0)] [(.ref wA), (.ref a0)])) (fun t kt => st1 _ kt) ?_
  suffices J2 : ∀ (T2 : State) (v2_s0 : Int32), v2_s0 = (if a0 = wA then (0 : Int32) else (1 : Int32)) → Stand p l e ({ frames := 0, cells := 0, slots := 0, locals := 0 } : Room) s m args below meth c T2 [] 0 0 → T2.heap = h0 → Gl p e below (Ret s 0 0 (Q2 Z a0 wA h0 n0)) (T2.setTop (mkF m 12 #[.val (.ref a0)] [(.int v2_s0)])) by
    by_cases c4_3 : a0 = wA
    · refine Gl.up (B := T1.setTop (mkF m 12 #[.val (.ref a0)] [(.int (0 : Int32))])) (fun t kt => ?_) ?_
      · show Steps p.tables e below (T1.setTop (mkF m 4 #[.val (.ref a0)] [(.ref wA), (.ref a0)])) _
        refine Jvm.RoadKit.acmp (g := (mkF m 4 #[.val (.ref a0)] [(.ref wA), (.ref a0)])) X1 hx rfl rfl rfl (pc0 := 4) (pc' := 11) (same := true) rfl (hb hby d2_4) rfl (decide_eq_true (congrArg Value.ref c4_3)) (by decide) (by decide) ?_
        show Steps p.tables e below (T1.setTop (mkF m 11 #[.val (.ref a0)] [])) _
        refine XS.iconst X1.here hx rfl (hb hby d2_11) ?_
        exact kt
      exact J2 _ (0 : Int32) (if_pos c4_3).symm X1 e1
    · refine Gl.up (B := T1.setTop (mkF m 12 #[.val (.ref a0)] [(.int (1 : Int32))])) (fun t kt => ?_) ?_
      · show Steps p.tables e below (T1.setTop (mkF m 4 #[.val (.ref a0)] [(.ref wA), (.ref a0)])) _
        refine Jvm.RoadKit.acmp (g := (mkF m 4 #[.val (.ref a0)] [(.ref wA), (.ref a0)])) X1 hx rfl rfl rfl (pc0 := 4) (pc' := 7) (same := false) rfl (hb hby d2_4) rfl (decide_eq_false fun q => c4_3 (Value.ref.inj q)) (by decide) (by decide) ?_
        show Steps p.tables e below (T1.setTop (mkF m 7 #[.val (.ref a0)] [])) _
        refine XS.iconst X1.here hx rfl (hb hby d2_7) ?_
        show Steps p.tables e below (T1.setTop (mkF m 8 #[.val (.ref a0)] [(.int (1 : Int32))])) _
        refine XS.goto X1.here hx rfl (pc0 := 8) (pc' := 12) rfl (hb hby d2_8) (by decide) (by decide) ?_
        exact kt
      exact J2 _ (1 : Int32) (if_neg c4_3).symm X1 e1
  intro T2 v2_s0 hv2_s0 X2 e2
  subst hv2_s0
  refine Gl.retN X2 hx hlk (t := .boolean) Bd.returns (by simp) (hb hby d2_12) (w := (if a0 = wA then (0 : Int32) else (1 : Int32))) (nar_b01 (b01_ite (Or.inl rfl) (Or.inr rfl))) ?_ (by decide) (by decide)
  exact ⟨congrArg (fun z => some (Value.int z)) (show (if a0 = wA then (0 : Int32) else (1 : Int32)) = f2 a0 wA from rfl), rfl, e2⟩
theorem own_eqI {args : Array Value} {s : State} {idx : List Nat} {t : Term} {k : Int32} (h : (Cond.eq t (.int k)).value args s none s idx = some true) : t.eval args s none idx s = some (.int k) := by
  obtain ⟨x, y, h1, h2, h3, -⟩ := cmp_v (Or.inl h)
  cases (show (Term.int k).eval args s none idx s = some (.int k) from rfl).symm.trans h2
  cases x <;> simp [Kin, Value.isRef] at h3
  rename_i z
  have e : (Cond.eq t (.int k)).value args s none s idx = some (decide (z = k)) := by simp [Cond.value, h1, h2]
  rw [e] at h
  have q : z = k := by simpa using h
  rw [h1, q]
theorem own_eqF {args : Array Value} {s : State} {t : Term} {k : Int32} {a : Addr} {C n d : String} (ev : t.eval args s none [] s = some (.ref a)) (h : (Cond.eq (.field t C n d) (.int k)).value args s none s [] = some true) : s.fieldOf? a C n d = some (.int k) := by
  have e := own_eqI h
  rwa [fld_at ev] at e
theorem own_pick {P : Addr → Prop} {c1 c2 : Prop} [Decidable c1] [Decidable c2] {a b d v : Addr} (hv : v = if c1 then a else (if c2 then b else d)) (ha : P a) (hb : P b) (hd : P d) : P v := by
  subst hv; split
  · exact ha
  · split <;> assumption
theorem own_k3 (x : Int32) : (x &&& (2147483647 : Int32)) % (3 : Int32) = 0 ∨ (x &&& (2147483647 : Int32)) % (3 : Int32) = 1 ∨ (x &&& (2147483647 : Int32)) % (3 : Int32) = 2 := by
  have h1 := c_and x (2147483647 : Int32) (by decide)
  have h2 := (c_irem (x &&& (2147483647 : Int32)) (3 : Int32) 3 rfl).1 h1.1
  have h3 : ((x &&& (2147483647 : Int32)) % (3 : Int32)).toInt = 0 ∨ ((x &&& (2147483647 : Int32)) % (3 : Int32)).toInt = 1 ∨ ((x &&& (2147483647 : Int32)) % (3 : Int32)).toInt = 2 := by omega
  rcases h3 with h | h | h
  · exact Or.inl (Int32.toInt_inj.mp h)
  · exact Or.inr (Or.inl (Int32.toInt_inj.mp h))
  · exact Or.inr (Or.inr (Int32.toInt_inj.mp h))

theorem own_main {K a b e ca cb g : Int32} {wA wL wF v : Addr} (hk : K = 0 ∨ K = 1 ∨ K = 2) (nAF : wA ≠ wF) (nLF : wL ≠ wF) (nLA : wL ≠ wA) (nFA : wF ≠ wA)
    (hv : v = if K = (0 : Int32) then wA else (if K = (1 : Int32) then wL else wF)) (ha : a = 0 ∨ a = 1) (hb : b = 0 ∨ b = 1)
    (he : e = if K = (0 : Int32) then (if a = (0 : Int32) then (if b = (0 : Int32) then (0 : Int32) else (1 : Int32)) else (1 : Int32)) else (if K = (1 : Int32) then (if a = (0 : Int32) then (0 : Int32) else (if b = (0 : Int32) then (0 : Int32) else (1 : Int32))) else (if a = (0 : Int32) then (0 : Int32) else (if b = (0 : Int32) then (1 : Int32) else (0 : Int32)))))
    (hca : ca = if (f1 v (0 : Int32) wF) = (0 : Int32) then a else (if a = (0 : Int32) then (1 : Int32) else (0 : Int32)))
    (hcb : cb = if (f1 v (1 : Int32) wF) = (0 : Int32) then b else (if b = (0 : Int32) then (1 : Int32) else (0 : Int32)))
    (hg : g = if (f2 v wA) = (0 : Int32) then (if ca = (0 : Int32) then (if cb = (0 : Int32) then (0 : Int32) else (1 : Int32)) else (1 : Int32)) else (if ca = (0 : Int32) then (0 : Int32) else (if cb = (0 : Int32) then (0 : Int32) else (1 : Int32)))) : g = e := by
  unfold f1 at hca hcb
  unfold f2 at hg
  rcases hk with rfl | rfl | rfl
  · have hv' : v = wA := by simpa using hv
    subst hv'
    rcases ha with rfl | rfl <;> rcases hb with rfl | rfl <;> simp [nAF] at * <;> simp [*]
  · have hv' : v = wL := by simpa using hv
    subst hv'
    rcases ha with rfl | rfl <;> rcases hb with rfl | rfl <;> simp [nLF, nLA] at * <;> simp [*]
  · have hv' : v = wF := by simpa using hv
    subst hv'
    rcases ha with rfl | rfl <;> rcases hb with rfl | rfl <;> simp [nFA] at * <;> simp [*]
def Q0 (n0 : Nat) (v : Option Value) (h : Heap) (L : List Loc) : Prop := v = some (.int 1) ∧ Fr n0 L
theorem ef0 (m : MethodId) (kk : Int32) (xx : Int32) : entryFrame m #[(.int kk), (.int xx)] maxLocals = mkF m 0 #[.val (.int kk), .val (.int xx), .unset, .unset, .unset, .unset, .unset, .unset, .unset, .unset] [] := by first | (simp [entryFrame, mkF, argsToLocals, Value.category, maxLocals]; done) | rfl
set_option maxRecDepth 65536 in
set_option maxHeartbeats 40000000 in
theorem rm0 (l : Launch) (Z : State) (aa : Array Value) (hw : ∀ d ∈ tables_1, d.before aa Z = true) (ws : List Jvm.Cond) (kk : Int32) (xx : Int32) (wA : Addr) (wL : Addr) (wF : Addr) (h0 : Heap) (n0 : Nat) (O0 : Old Z n0 h0) (S_wA : Sta Z Z.heap "com/example/relation_check/relationcheck/rules/Rewrite$Join" "ANY" "Lcom/example/relation_check/relationcheck/rules/Rewrite$Join;" (.ref wA)) (S_wL : Sta Z Z.heap "com/example/relation_check/relationcheck/rules/Rewrite$Join" "ALL" "Lcom/example/relation_check/relationcheck/rules/Rewrite$Join;" (.ref wL)) (S_wF : Sta Z Z.heap "com/example/relation_check/relationcheck/rules/Rewrite$Join" "FIRST_BUT_NOT_SECOND" "Lcom/example/relation_check/relationcheck/rules/Rewrite$Join;" (.ref wF)) (E_wA : Exa Z h0 wA "com/example/relation_check/relationcheck/rules/Rewrite$Join") (E_wL : Exa Z h0 wL "com/example/relation_check/relationcheck/rules/Rewrite$Join") (E_wF : Exa Z h0 wF "com/example/relation_check/relationcheck/rules/Rewrite$Join") (nAF : wA ≠ wF) (nLF : wL ≠ wF) (nLA : wL ≠ wA) (nFA : wF ≠ wA) :
    MetFree l x (head1 (Jvm.Cond.code x code maxLocals ret :: ws) room_1) (fun a U => a = #[(.int kk), (.int xx)] ∧ Z.Warmed39 U.vm ∧ U.heap = h0) (fun _ _ _ _ _ => True) (fun _ U o U' => ∃ v L, o = .returned v ∧ Q0 n0 v U'.heap L ∧ FrameEnd U o U' L 0 0) := by
  refine MetFree.of_bodySF (plainFor_of_name pn_com_example_relation_check_relationcheck_rules_JoinNeedsAllPinLaw) hisR ?_
  intro p e s m args below meth c s₁ Bd hml0 hP hK
  obtain ⟨rfl, hZ, hh⟩ := hP
  have hx := Bd.exec
  have hby := Bd.bytes
  have hlk := Bd.notSynchronized
  have hml : c.maxLocals = 10 := hml0
  have hown : s.vm.findClass "com/example/relation_check/relationcheck/rules/JoinNeedsAllPinLaw" = some m.cls := findClass_of_methodNamed Bd.named
  have hnm := (name_of_methodNamed Bd.named Bd.method).1
  have X0 : Stand p l e room_1 s m #[(.int kk), (.int xx)] below meth c s₁ [] 0 0 := Stand.of_body Bd
  have e0 : s₁.heap = h0 := by rw [← hh, Bd.state]; rfl
  have N0 := Fr.nil n0
  show Gl p e below (Ret s 0 0 (Q0 n0)) (s₁.setTop (entryFrame m #[(.int kk), (.int xx)] maxLocals))
  rw [ef0 m kk xx]
  obtain ⟨args, hargs⟩ : ∃ z : Array Value, z = #[(.int kk), (.int xx)] := ⟨_, rfl⟩
  rw [← hargs] at X0
  refine Gl.up (B := s₁.setTop (mkF m 6 #[.val (.int kk), .val (.int xx), .unset, .unset, .unset, .unset, .unset, .unset, .unset, .unset] [(.int ((kk &&& (2147483647 : Int32)) % (3 : Int32)))])) (fun t kt => ?_) ?_
  · show Steps p.tables e below (s₁.setTop (mkF m 0 #[.val (.int kk), .val (.int xx), .unset, .unset, .unset, .unset, .unset, .unset, .unset, .unset] [])) _
    refine XS.iloadN X0.here hx rfl (hb hby at_0) rfl ?_
    show Steps p.tables e below (s₁.setTop (mkF m 1 #[.val (.int kk), .val (.int xx), .unset, .unset, .unset, .unset, .unset, .unset, .unset, .unset] [(.int kk)])) _
    refine X0.ldcInt hx hown (mvT hZ (hw _ (List.mem_of_getElem? (i := 0) rfl))) (g := (mkF m 1 #[.val (.int kk), .val (.int xx), .unset, .unset, .unset, .unset, .unset, .unset, .unset, .unset] [(.int kk)])) rfl (hb hby at_1) _ ?_
    show Steps p.tables e below (s₁.setTop (mkF m 3 #[.val (.int kk), .val (.int xx), .unset, .unset, .unset, .unset, .unset, .unset, .unset, .unset] [(.int (2147483647 : Int32)), (.int kk)])) _
    refine XS.iand X0.here hx rfl (hb hby at_3) rfl ?_
    show Steps p.tables e below (s₁.setTop (mkF m 4 #[.val (.int kk), .val (.int xx), .unset, .unset, .unset, .unset, .unset, .unset, .unset, .unset] [(.int (kk &&& (2147483647 : Int32)))])) _
    refine XS.iconst X0.here hx rfl (hb hby at_4) ?_
    show Steps p.tables e below (s₁.setTop (mkF m 5 #[.val (.int kk), .val (.int xx), .unset, .unset, .unset, .unset, .unset, .unset, .unset, .unset] [(.int (3 : Int32)), (.int (kk &&& (2147483647 : Int32)))])) _
    refine iremM X0 hx rfl (hb hby at_5) rfl (by decide) ?_
    exact kt
  obtain ⟨u1, hu1⟩ : ∃ q : Int32, q = ((kk &&& (2147483647 : Int32)) % (3 : Int32)) := ⟨_, rfl⟩
  rw [← hu1]
  refine Gl.up (B := s₁.setTop (mkF m 8 #[.val (.int kk), .val (.int xx), .val (.int u1), .unset, .unset, .unset, .unset, .unset, .unset, .unset] [(.int u1)])) (fun t kt => ?_) ?_
  · show Steps p.tables e below (s₁.setTop (mkF m 6 #[.val (.int kk), .val (.int xx), .unset, .unset, .unset, .unset, .unset, .unset, .unset, .unset] [(.int u1)])) _
    refine XS.istoreN X0.here hx rfl (hb hby at_6) rfl (l' := #[.val (.int kk), .val (.int xx), .val (.int u1), .unset, .unset, .unset, .unset, .unset, .unset, .unset]) rfl ?_
    show Steps p.tables e below (s₁.setTop (mkF m 7 #[.val (.int kk), .val (.int xx), .val (.int u1), .unset, .unset, .unset, .unset, .unset, .unset, .unset] [])) _
    refine XS.iloadN X0.here hx rfl (hb hby at_7) rfl ?_
    exact kt
  suffices J2 : ∀ (T2 : State) (v2_l3 : Addr), v2_l3 = (if u1 = (0 : Int32) then wA else (if u1 = (1 : Int32) then wL else wF)) → Stand p l e room_1 s m args below meth c T2 [] 0 0 → T2.heap = h0 → Gl p e below (Ret s 0 0 (Q0 n0)) (T2.setTop (mkF m 34 #[.val (.int kk), .val (.int xx), .val (.int u1), .val (.ref v2_l3), .unset, .unset, .unset, .unset, .unset, .unset] [])) by
    by_cases c8_3 : u1 = (0 : Int32)
    · refine Gl.up (B := s₁.setTop (mkF m 11 #[.val (.int kk), .val (.int xx), .val (.int u1), .unset, .unset, .unset, .unset, .unset, .unset, .unset] [])) (fun t kt => ?_) ?_
      · show Steps p.tables e below (s₁.setTop (mkF m 8 #[.val (.int kk), .val (.int xx), .val (.int u1), .unset, .unset, .unset, .unset, .unset, .unset, .unset] [(.int u1)])) _
        refine XS.ifNo X0.here hx rfl (hb hby at_8) rfl ((if0 _ _).trans (teq c8_3).2) ?_
        exact kt
      obtain ⟨T4, X4, e4, st4⟩ := getS2 X0 hx hZ hown (host := "") (Or.inl (hw _ (List.mem_of_getElem? (i := 1) rfl))) Via.refl e0 (S_wA.ext O0.2) (g := (mkF m 11 #[.val (.int kk), .val (.int xx), .val (.int u1), .unset, .unset, .unset, .unset, .unset, .unset, .unset] [])) rfl (hb hby at_11)
      refine Gl.up (B := T4.setTop (mkF m 14 #[.val (.int kk), .val (.int xx), .val (.int u1), .unset, .unset, .unset, .unset, .unset, .unset, .unset] [(.ref wA)])) (fun t kt => st4 _ kt) ?_
      refine Gl.up (B := T4.setTop (mkF m 34 #[.val (.int kk), .val (.int xx), .val (.int u1), .val (.ref wA), .unset, .unset, .unset, .unset, .unset, .unset] [])) (fun t kt => ?_) ?_
      · show Steps p.tables e below (T4.setTop (mkF m 14 #[.val (.int kk), .val (.int xx), .val (.int u1), .unset, .unset, .unset, .unset, .unset, .unset, .unset] [(.ref wA)])) _
        refine XS.astoreN X4.here hx rfl (hb hby at_14) rfl rfl (l' := #[.val (.int kk), .val (.int xx), .val (.int u1), .val (.ref wA), .unset, .unset, .unset, .unset, .unset, .unset]) rfl ?_
        show Steps p.tables e below (T4.setTop (mkF m 15 #[.val (.int kk), .val (.int xx), .val (.int u1), .val (.ref wA), .unset, .unset, .unset, .unset, .unset, .unset] [])) _
        refine XS.goto X4.here hx rfl (pc0 := 15) (pc' := 34) rfl (hb hby at_15) (by decide) (by decide) ?_
        exact kt
      exact J2 _ wA (if_pos c8_3).symm X4 e4
    · refine Gl.up (B := s₁.setTop (mkF m 20 #[.val (.int kk), .val (.int xx), .val (.int u1), .unset, .unset, .unset, .unset, .unset, .unset, .unset] [(.int (1 : Int32)), (.int u1)])) (fun t kt => ?_) ?_
      · show Steps p.tables e below (s₁.setTop (mkF m 8 #[.val (.int kk), .val (.int xx), .val (.int u1), .unset, .unset, .unset, .unset, .unset, .unset, .unset] [(.int u1)])) _
        refine XS.ifYes X0.here hx rfl (pc0 := 8) (pc' := 18) rfl (hb hby at_8) rfl ((if0 _ _).trans (feq c8_3).2) (by decide) (by decide) ?_
        show Steps p.tables e below (s₁.setTop (mkF m 18 #[.val (.int kk), .val (.int xx), .val (.int u1), .unset, .unset, .unset, .unset, .unset, .unset, .unset] [])) _
        refine XS.iloadN X0.here hx rfl (hb hby at_18) rfl ?_
        show Steps p.tables e below (s₁.setTop (mkF m 19 #[.val (.int kk), .val (.int xx), .val (.int u1), .unset, .unset, .unset, .unset, .unset, .unset, .unset] [(.int u1)])) _
        refine XS.iconst X0.here hx rfl (hb hby at_19) ?_
        exact kt
      by_cases c20_5 : u1 = (1 : Int32)
      · refine Gl.up (B := s₁.setTop (mkF m 23 #[.val (.int kk), .val (.int xx), .val (.int u1), .unset, .unset, .unset, .unset, .unset, .unset, .unset] [])) (fun t kt => ?_) ?_
        · show Steps p.tables e below (s₁.setTop (mkF m 20 #[.val (.int kk), .val (.int xx), .val (.int u1), .unset, .unset, .unset, .unset, .unset, .unset, .unset] [(.int (1 : Int32)), (.int u1)])) _
          refine XS.icmpNo X0.here hx rfl (hb hby at_20) rfl (teq c20_5).2 ?_
          exact kt
        obtain ⟨T6, X6, e6, st6⟩ := getS2 X0 hx hZ hown (host := "") (Or.inl (hw _ (List.mem_of_getElem? (i := 18) rfl))) Via.refl e0 (S_wL.ext O0.2) (g := (mkF m 23 #[.val (.int kk), .val (.int xx), .val (.int u1), .unset, .unset, .unset, .unset, .unset, .unset, .unset] [])) rfl (hb hby at_23)
        refine Gl.up (B := T6.setTop (mkF m 26 #[.val (.int kk), .val (.int xx), .val (.int u1), .unset, .unset, .unset, .unset, .unset, .unset, .unset] [(.ref wL)])) (fun t kt => st6 _ kt) ?_
        refine Gl.up (B := T6.setTop (mkF m 34 #[.val (.int kk), .val (.int xx), .val (.int u1), .val (.ref wL), .unset, .unset, .unset, .unset, .unset, .unset] [])) (fun t kt => ?_) ?_
        · show Steps p.tables e below (T6.setTop (mkF m 26 #[.val (.int kk), .val (.int xx), .val (.int u1), .unset, .unset, .unset, .unset, .unset, .unset, .unset] [(.ref wL)])) _
          refine XS.astoreN X6.here hx rfl (hb hby at_26) rfl rfl (l' := #[.val (.int kk), .val (.int xx), .val (.int u1), .val (.ref wL), .unset, .unset, .unset, .unset, .unset, .unset]) rfl ?_
          show Steps p.tables e below (T6.setTop (mkF m 27 #[.val (.int kk), .val (.int xx), .val (.int u1), .val (.ref wL), .unset, .unset, .unset, .unset, .unset, .unset] [])) _
          refine XS.goto X6.here hx rfl (pc0 := 27) (pc' := 34) rfl (hb hby at_27) (by decide) (by decide) ?_
          exact kt
        exact J2 _ wL ((if_neg c8_3).trans (if_pos c20_5)).symm X6 e6
      · refine Gl.up (B := s₁.setTop (mkF m 30 #[.val (.int kk), .val (.int xx), .val (.int u1), .unset, .unset, .unset, .unset, .unset, .unset, .unset] [])) (fun t kt => ?_) ?_
        · show Steps p.tables e below (s₁.setTop (mkF m 20 #[.val (.int kk), .val (.int xx), .val (.int u1), .unset, .unset, .unset, .unset, .unset, .unset, .unset] [(.int (1 : Int32)), (.int u1)])) _
          refine XS.icmpYes X0.here hx rfl (pc0 := 20) (pc' := 30) rfl (hb hby at_20) rfl (feq c20_5).2 (by decide) (by decide) ?_
          exact kt
        obtain ⟨T7, X7, e7, st7⟩ := getS2 X0 hx hZ hown (host := "") (Or.inl (hw _ (List.mem_of_getElem? (i := 17) rfl))) Via.refl e0 (S_wF.ext O0.2) (g := (mkF m 30 #[.val (.int kk), .val (.int xx), .val (.int u1), .unset, .unset, .unset, .unset, .unset, .unset, .unset] [])) rfl (hb hby at_30)
        refine Gl.up (B := T7.setTop (mkF m 33 #[.val (.int kk), .val (.int xx), .val (.int u1), .unset, .unset, .unset, .unset, .unset, .unset, .unset] [(.ref wF)])) (fun t kt => st7 _ kt) ?_
        refine Gl.up (B := T7.setTop (mkF m 34 #[.val (.int kk), .val (.int xx), .val (.int u1), .val (.ref wF), .unset, .unset, .unset, .unset, .unset, .unset] [])) (fun t kt => ?_) ?_
        · show Steps p.tables e below (T7.setTop (mkF m 33 #[.val (.int kk), .val (.int xx), .val (.int u1), .unset, .unset, .unset, .unset, .unset, .unset, .unset] [(.ref wF)])) _
          refine XS.astoreN X7.here hx rfl (hb hby at_33) rfl rfl (l' := #[.val (.int kk), .val (.int xx), .val (.int u1), .val (.ref wF), .unset, .unset, .unset, .unset, .unset, .unset]) rfl ?_
          exact kt
        exact J2 _ wF ((if_neg c8_3).trans (if_neg c20_5)).symm X7 e7
  intro T2 v2_l3 hv2_l3 X2 e2
  have E_v : Exa Z h0 v2_l3 "com/example/relation_check/relationcheck/rules/Rewrite$Join" := own_pick (P := fun q => Exa Z h0 q "com/example/relation_check/relationcheck/rules/Rewrite$Join") hv2_l3 E_wA E_wL E_wF
  refine Gl.up (B := T2.setTop (mkF m 37 #[.val (.int kk), .val (.int xx), .val (.int u1), .val (.ref v2_l3), .unset, .unset, .unset, .unset, .unset, .unset] [(.int (xx &&& (1 : Int32)))])) (fun t kt => ?_) ?_
  · show Steps p.tables e below (T2.setTop (mkF m 34 #[.val (.int kk), .val (.int xx), .val (.int u1), .val (.ref v2_l3), .unset, .unset, .unset, .unset, .unset, .unset] [])) _
    refine XS.iloadN X2.here hx rfl (hb hby at_34) rfl ?_
    show Steps p.tables e below (T2.setTop (mkF m 35 #[.val (.int kk), .val (.int xx), .val (.int u1), .val (.ref v2_l3), .unset, .unset, .unset, .unset, .unset, .unset] [(.int xx)])) _
    refine XS.iconst X2.here hx rfl (hb hby at_35) ?_
    show Steps p.tables e below (T2.setTop (mkF m 36 #[.val (.int kk), .val (.int xx), .val (.int u1), .val (.ref v2_l3), .unset, .unset, .unset, .unset, .unset, .unset] [(.int (1 : Int32)), (.int xx)])) _
    refine XS.iand X2.here hx rfl (hb hby at_36) rfl ?_
    exact kt
  suffices J8 : ∀ (T8 : State) (v8_s0 : Int32), v8_s0 = (if (xx &&& (1 : Int32)) = (0 : Int32) then (0 : Int32) else (1 : Int32)) → Stand p l e room_1 s m args below meth c T8 [] 0 0 → T8.heap = h0 → Gl p e below (Ret s 0 0 (Q0 n0)) (T8.setTop (mkF m 45 #[.val (.int kk), .val (.int xx), .val (.int u1), .val (.ref v2_l3), .unset, .unset, .unset, .unset, .unset, .unset] [(.int v8_s0)])) by
    by_cases c37_9 : (xx &&& (1 : Int32)) = (0 : Int32)
    · refine Gl.up (B := T2.setTop (mkF m 45 #[.val (.int kk), .val (.int xx), .val (.int u1), .val (.ref v2_l3), .unset, .unset, .unset, .unset, .unset, .unset] [(.int (0 : Int32))])) (fun t kt => ?_) ?_
      · show Steps p.tables e below (T2.setTop (mkF m 37 #[.val (.int kk), .val (.int xx), .val (.int u1), .val (.ref v2_l3), .unset, .unset, .unset, .unset, .unset, .unset] [(.int (xx &&& (1 : Int32)))])) _
        refine XS.ifYes X2.here hx rfl (pc0 := 37) (pc' := 44) rfl (hb hby at_37) rfl ((if0 _ _).trans (teq c37_9).1) (by decide) (by decide) ?_
        show Steps p.tables e below (T2.setTop (mkF m 44 #[.val (.int kk), .val (.int xx), .val (.int u1), .val (.ref v2_l3), .unset, .unset, .unset, .unset, .unset, .unset] [])) _
        refine XS.iconst X2.here hx rfl (hb hby at_44) ?_
        exact kt
      exact J8 _ (0 : Int32) (if_pos c37_9).symm X2 e2
    · refine Gl.up (B := T2.setTop (mkF m 45 #[.val (.int kk), .val (.int xx), .val (.int u1), .val (.ref v2_l3), .unset, .unset, .unset, .unset, .unset, .unset] [(.int (1 : Int32))])) (fun t kt => ?_) ?_
      · show Steps p.tables e below (T2.setTop (mkF m 37 #[.val (.int kk), .val (.int xx), .val (.int u1), .val (.ref v2_l3), .unset, .unset, .unset, .unset, .unset, .unset] [(.int (xx &&& (1 : Int32)))])) _
        refine XS.ifNo X2.here hx rfl (hb hby at_37) rfl ((if0 _ _).trans (feq c37_9).1) ?_
        show Steps p.tables e below (T2.setTop (mkF m 40 #[.val (.int kk), .val (.int xx), .val (.int u1), .val (.ref v2_l3), .unset, .unset, .unset, .unset, .unset, .unset] [])) _
        refine XS.iconst X2.here hx rfl (hb hby at_40) ?_
        show Steps p.tables e below (T2.setTop (mkF m 41 #[.val (.int kk), .val (.int xx), .val (.int u1), .val (.ref v2_l3), .unset, .unset, .unset, .unset, .unset, .unset] [(.int (1 : Int32))])) _
        refine XS.goto X2.here hx rfl (pc0 := 41) (pc' := 45) rfl (hb hby at_41) (by decide) (by decide) ?_
        exact kt
      exact J8 _ (1 : Int32) (if_neg c37_9).symm X2 e2
  intro T8 v8_s0 hv8_s0 X8 e8
  have hv8_s0b : v8_s0 = 0 ∨ v8_s0 = 1 := by rw [hv8_s0]; exact (b01_ite (Or.inl rfl) (Or.inr rfl))
  refine Gl.up (B := T8.setTop (mkF m 50 #[.val (.int kk), .val (.int xx), .val (.int u1), .val (.ref v2_l3), .val (.int v8_s0), .unset, .unset, .unset, .unset, .unset] [(.int (xx &&& (2 : Int32)))])) (fun t kt => ?_) ?_
  · show Steps p.tables e below (T8.setTop (mkF m 45 #[.val (.int kk), .val (.int xx), .val (.int u1), .val (.ref v2_l3), .unset, .unset, .unset, .unset, .unset, .unset] [(.int v8_s0)])) _
    refine XS.istore X8.here hx rfl (hb hby at_45) rfl (l' := #[.val (.int kk), .val (.int xx), .val (.int u1), .val (.ref v2_l3), .val (.int v8_s0), .unset, .unset, .unset, .unset, .unset]) rfl ?_
    show Steps p.tables e below (T8.setTop (mkF m 47 #[.val (.int kk), .val (.int xx), .val (.int u1), .val (.ref v2_l3), .val (.int v8_s0), .unset, .unset, .unset, .unset, .unset] [])) _
    refine XS.iloadN X8.here hx rfl (hb hby at_47) rfl ?_
    show Steps p.tables e below (T8.setTop (mkF m 48 #[.val (.int kk), .val (.int xx), .val (.int u1), .val (.ref v2_l3), .val (.int v8_s0), .unset, .unset, .unset, .unset, .unset] [(.int xx)])) _
    refine XS.iconst X8.here hx rfl (hb hby at_48) ?_
    show Steps p.tables e below (T8.setTop (mkF m 49 #[.val (.int kk), .val (.int xx), .val (.int u1), .val (.ref v2_l3), .val (.int v8_s0), .unset, .unset, .unset, .unset, .unset] [(.int (2 : Int32)), (.int xx)])) _
    refine XS.iand X8.here hx rfl (hb hby at_49) rfl ?_
    exact kt
  suffices J10 : ∀ (T10 : State) (v10_s0 : Int32), v10_s0 = (if (xx &&& (2 : Int32)) = (0 : Int32) then (0 : Int32) else (1 : Int32)) → Stand p l e room_1 s m args below meth c T10 [] 0 0 → T10.heap = h0 → Gl p e below (Ret s 0 0 (Q0 n0)) (T10.setTop (mkF m 58 #[.val (.int kk), .val (.int xx), .val (.int u1), .val (.ref v2_l3), .val (.int v8_s0), .unset, .unset, .unset, .unset, .unset] [(.int v10_s0)])) by
    by_cases c50_11 : (xx &&& (2 : Int32)) = (0 : Int32)
    · refine Gl.up (B := T8.setTop (mkF m 58 #[.val (.int kk), .val (.int xx), .val (.int u1), .val (.ref v2_l3), .val (.int v8_s0), .unset, .unset, .unset, .unset, .unset] [(.int (0 : Int32))])) (fun t kt => ?_) ?_
      · show Steps p.tables e below (T8.setTop (mkF m 50 #[.val (.int kk), .val (.int xx), .val (.int u1), .val (.ref v2_l3), .val (.int v8_s0), .unset, .unset, .unset, .unset, .unset] [(.int (xx &&& (2 : Int32)))])) _
        refine XS.ifYes X8.here hx rfl (pc0 := 50) (pc' := 57) rfl (hb hby at_50) rfl ((if0 _ _).trans (teq c50_11).1) (by decide) (by decide) ?_
        show Steps p.tables e below (T8.setTop (mkF m 57 #[.val (.int kk), .val (.int xx), .val (.int u1), .val (.ref v2_l3), .val (.int v8_s0), .unset, .unset, .unset, .unset, .unset] [])) _
        refine XS.iconst X8.here hx rfl (hb hby at_57) ?_
        exact kt
      exact J10 _ (0 : Int32) (if_pos c50_11).symm X8 e8
    · refine Gl.up (B := T8.setTop (mkF m 58 #[.val (.int kk), .val (.int xx), .val (.int u1), .val (.ref v2_l3), .val (.int v8_s0), .unset, .unset, .unset, .unset, .unset] [(.int (1 : Int32))])) (fun t kt => ?_) ?_
      · show Steps p.tables e below (T8.setTop (mkF m 50 #[.val (.int kk), .val (.int xx), .val (.int u1), .val (.ref v2_l3), .val (.int v8_s0), .unset, .unset, .unset, .unset, .unset] [(.int (xx &&& (2 : Int32)))])) _
        refine XS.ifNo X8.here hx rfl (hb hby at_50) rfl ((if0 _ _).trans (feq c50_11).1) ?_
        show Steps p.tables e below (T8.setTop (mkF m 53 #[.val (.int kk), .val (.int xx), .val (.int u1), .val (.ref v2_l3), .val (.int v8_s0), .unset, .unset, .unset, .unset, .unset] [])) _
        refine XS.iconst X8.here hx rfl (hb hby at_53) ?_
        show Steps p.tables e below (T8.setTop (mkF m 54 #[.val (.int kk), .val (.int xx), .val (.int u1), .val (.ref v2_l3), .val (.int v8_s0), .unset, .unset, .unset, .unset, .unset] [(.int (1 : Int32))])) _
        refine XS.goto X8.here hx rfl (pc0 := 54) (pc' := 58) rfl (hb hby at_54) (by decide) (by decide) ?_
        exact kt
      exact J10 _ (1 : Int32) (if_neg c50_11).symm X8 e8
  intro T10 v10_s0 hv10_s0 X10 e10
  have hv10_s0b : v10_s0 = 0 ∨ v10_s0 = 1 := by rw [hv10_s0]; exact (b01_ite (Or.inl rfl) (Or.inr rfl))
  refine Gl.up (B := T10.setTop (mkF m 61 #[.val (.int kk), .val (.int xx), .val (.int u1), .val (.ref v2_l3), .val (.int v8_s0), .val (.int v10_s0), .unset, .unset, .unset, .unset] [(.int u1)])) (fun t kt => ?_) ?_
  · show Steps p.tables e below (T10.setTop (mkF m 58 #[.val (.int kk), .val (.int xx), .val (.int u1), .val (.ref v2_l3), .val (.int v8_s0), .unset, .unset, .unset, .unset, .unset] [(.int v10_s0)])) _
    refine XS.istore X10.here hx rfl (hb hby at_58) rfl (l' := #[.val (.int kk), .val (.int xx), .val (.int u1), .val (.ref v2_l3), .val (.int v8_s0), .val (.int v10_s0), .unset, .unset, .unset, .unset]) rfl ?_
    show Steps p.tables e below (T10.setTop (mkF m 60 #[.val (.int kk), .val (.int xx), .val (.int u1), .val (.ref v2_l3), .val (.int v8_s0), .val (.int v10_s0), .unset, .unset, .unset, .unset] [])) _
    refine XS.iloadN X10.here hx rfl (hb hby at_60) rfl ?_
    exact kt
  suffices J12 : ∀ (T12 : State) (v12_l6 : Int32), v12_l6 = (if u1 = (0 : Int32) then (if v8_s0 = (0 : Int32) then (if v10_s0 = (0 : Int32) then (0 : Int32) else (1 : Int32)) else (1 : Int32)) else (if u1 = (1 : Int32) then (if v8_s0 = (0 : Int32) then (0 : Int32) else (if v10_s0 = (0 : Int32) then (0 : Int32) else (1 : Int32))) else (if v8_s0 = (0 : Int32) then (0 : Int32) else (if v10_s0 = (0 : Int32) then (1 : Int32) else (0 : Int32))))) → Stand p l e room_1 s m args below meth c T12 [] 0 0 → T12.heap = h0 → Gl p e below (Ret s 0 0 (Q0 n0)) (T12.setTop (mkF m 126 #[.val (.int kk), .val (.int xx), .val (.int u1), .val (.ref v2_l3), .val (.int v8_s0), .val (.int v10_s0), .val (.int v12_l6), .unset, .unset, .unset] [])) by
    by_cases c61_13 : u1 = (0 : Int32)
    · refine Gl.up (B := T10.setTop (mkF m 66 #[.val (.int kk), .val (.int xx), .val (.int u1), .val (.ref v2_l3), .val (.int v8_s0), .val (.int v10_s0), .unset, .unset, .unset, .unset] [(.int v8_s0)])) (fun t kt => ?_) ?_
      · show Steps p.tables e below (T10.setTop (mkF m 61 #[.val (.int kk), .val (.int xx), .val (.int u1), .val (.ref v2_l3), .val (.int v8_s0), .val (.int v10_s0), .unset, .unset, .unset, .unset] [(.int u1)])) _
        refine XS.ifNo X10.here hx rfl (hb hby at_61) rfl ((if0 _ _).trans (teq c61_13).2) ?_
        show Steps p.tables e below (T10.setTop (mkF m 64 #[.val (.int kk), .val (.int xx), .val (.int u1), .val (.ref v2_l3), .val (.int v8_s0), .val (.int v10_s0), .unset, .unset, .unset, .unset] [])) _
        refine XS.iload X10.here hx rfl (hb hby at_64) rfl ?_
        exact kt
      suffices J14 : ∀ (T14 : State) (v14_s0 : Int32), v14_s0 = (if v8_s0 = (0 : Int32) then (if v10_s0 = (0 : Int32) then (0 : Int32) else (1 : Int32)) else (1 : Int32)) → Stand p l e room_1 s m args below meth c T14 [] 0 0 → T14.heap = h0 → Gl p e below (Ret s 0 0 (Q0 n0)) (T14.setTop (mkF m 79 #[.val (.int kk), .val (.int xx), .val (.int u1), .val (.ref v2_l3), .val (.int v8_s0), .val (.int v10_s0), .unset, .unset, .unset, .unset] [(.int v14_s0)])) by
        by_cases c66_15 : v8_s0 = (0 : Int32)
        · refine Gl.up (B := T10.setTop (mkF m 71 #[.val (.int kk), .val (.int xx), .val (.int u1), .val (.ref v2_l3), .val (.int v8_s0), .val (.int v10_s0), .unset, .unset, .unset, .unset] [(.int v10_s0)])) (fun t kt => ?_) ?_
          · show Steps p.tables e below (T10.setTop (mkF m 66 #[.val (.int kk), .val (.int xx), .val (.int u1), .val (.ref v2_l3), .val (.int v8_s0), .val (.int v10_s0), .unset, .unset, .unset, .unset] [(.int v8_s0)])) _
            refine XS.ifNo X10.here hx rfl (hb hby at_66) rfl ((if0 _ _).trans (teq c66_15).2) ?_
            show Steps p.tables e below (T10.setTop (mkF m 69 #[.val (.int kk), .val (.int xx), .val (.int u1), .val (.ref v2_l3), .val (.int v8_s0), .val (.int v10_s0), .unset, .unset, .unset, .unset] [])) _
            refine XS.iload X10.here hx rfl (hb hby at_69) rfl ?_
            exact kt
          by_cases c71_16 : v10_s0 = (0 : Int32)
          · refine Gl.up (B := T10.setTop (mkF m 79 #[.val (.int kk), .val (.int xx), .val (.int u1), .val (.ref v2_l3), .val (.int v8_s0), .val (.int v10_s0), .unset, .unset, .unset, .unset] [(.int (0 : Int32))])) (fun t kt => ?_) ?_
            · show Steps p.tables e below (T10.setTop (mkF m 71 #[.val (.int kk), .val (.int xx), .val (.int u1), .val (.ref v2_l3), .val (.int v8_s0), .val (.int v10_s0), .unset, .unset, .unset, .unset] [(.int v10_s0)])) _
              refine XS.ifYes X10.here hx rfl (pc0 := 71) (pc' := 78) rfl (hb hby at_71) rfl ((if0 _ _).trans (teq c71_16).1) (by decide) (by decide) ?_
              show Steps p.tables e below (T10.setTop (mkF m 78 #[.val (.int kk), .val (.int xx), .val (.int u1), .val (.ref v2_l3), .val (.int v8_s0), .val (.int v10_s0), .unset, .unset, .unset, .unset] [])) _
              refine XS.iconst X10.here hx rfl (hb hby at_78) ?_
              exact kt
            exact J14 _ (0 : Int32) ((if_pos c66_15).trans (if_pos c71_16)).symm X10 e10
          · refine Gl.up (B := T10.setTop (mkF m 79 #[.val (.int kk), .val (.int xx), .val (.int u1), .val (.ref v2_l3), .val (.int v8_s0), .val (.int v10_s0), .unset, .unset, .unset, .unset] [(.int (1 : Int32))])) (fun t kt => ?_) ?_
            · show Steps p.tables e below (T10.setTop (mkF m 71 #[.val (.int kk), .val (.int xx), .val (.int u1), .val (.ref v2_l3), .val (.int v8_s0), .val (.int v10_s0), .unset, .unset, .unset, .unset] [(.int v10_s0)])) _
              refine XS.ifNo X10.here hx rfl (hb hby at_71) rfl ((if0 _ _).trans (feq c71_16).1) ?_
              show Steps p.tables e below (T10.setTop (mkF m 74 #[.val (.int kk), .val (.int xx), .val (.int u1), .val (.ref v2_l3), .val (.int v8_s0), .val (.int v10_s0), .unset, .unset, .unset, .unset] [])) _
              refine XS.iconst X10.here hx rfl (hb hby at_74) ?_
              show Steps p.tables e below (T10.setTop (mkF m 75 #[.val (.int kk), .val (.int xx), .val (.int u1), .val (.ref v2_l3), .val (.int v8_s0), .val (.int v10_s0), .unset, .unset, .unset, .unset] [(.int (1 : Int32))])) _
              refine XS.goto X10.here hx rfl (pc0 := 75) (pc' := 79) rfl (hb hby at_75) (by decide) (by decide) ?_
              exact kt
            exact J14 _ (1 : Int32) ((if_pos c66_15).trans (if_neg c71_16)).symm X10 e10
        · refine Gl.up (B := T10.setTop (mkF m 79 #[.val (.int kk), .val (.int xx), .val (.int u1), .val (.ref v2_l3), .val (.int v8_s0), .val (.int v10_s0), .unset, .unset, .unset, .unset] [(.int (1 : Int32))])) (fun t kt => ?_) ?_
          · show Steps p.tables e below (T10.setTop (mkF m 66 #[.val (.int kk), .val (.int xx), .val (.int u1), .val (.ref v2_l3), .val (.int v8_s0), .val (.int v10_s0), .unset, .unset, .unset, .unset] [(.int v8_s0)])) _
            refine XS.ifYes X10.here hx rfl (pc0 := 66) (pc' := 74) rfl (hb hby at_66) rfl ((if0 _ _).trans (feq c66_15).2) (by decide) (by decide) ?_
            show Steps p.tables e below (T10.setTop (mkF m 74 #[.val (.int kk), .val (.int xx), .val (.int u1), .val (.ref v2_l3), .val (.int v8_s0), .val (.int v10_s0), .unset, .unset, .unset, .unset] [])) _
            refine XS.iconst X10.here hx rfl (hb hby at_74) ?_
            show Steps p.tables e below (T10.setTop (mkF m 75 #[.val (.int kk), .val (.int xx), .val (.int u1), .val (.ref v2_l3), .val (.int v8_s0), .val (.int v10_s0), .unset, .unset, .unset, .unset] [(.int (1 : Int32))])) _
            refine XS.goto X10.here hx rfl (pc0 := 75) (pc' := 79) rfl (hb hby at_75) (by decide) (by decide) ?_
            exact kt
          exact J14 _ (1 : Int32) (if_neg c66_15).symm X10 e10
      intro T14 v14_s0 hv14_s0 X14 e14
      subst hv14_s0
      refine Gl.up (B := T14.setTop (mkF m 126 #[.val (.int kk), .val (.int xx), .val (.int u1), .val (.ref v2_l3), .val (.int v8_s0), .val (.int v10_s0), .val (.int (if v8_s0 = (0 : Int32) then (if v10_s0 = (0 : Int32) then (0 : Int32) else (1 : Int32)) else (1 : Int32))), .unset, .unset, .unset] [])) (fun t kt => ?_) ?_
      · show Steps p.tables e below (T14.setTop (mkF m 79 #[.val (.int kk), .val (.int xx), .val (.int u1), .val (.ref v2_l3), .val (.int v8_s0), .val (.int v10_s0), .unset, .unset, .unset, .unset] [(.int (if v8_s0 = (0 : Int32) then (if v10_s0 = (0 : Int32) then (0 : Int32) else (1 : Int32)) else (1 : Int32)))])) _
        refine XS.istore X14.here hx rfl (hb hby at_79) rfl (l' := #[.val (.int kk), .val (.int xx), .val (.int u1), .val (.ref v2_l3), .val (.int v8_s0), .val (.int v10_s0), .val (.int (if v8_s0 = (0 : Int32) then (if v10_s0 = (0 : Int32) then (0 : Int32) else (1 : Int32)) else (1 : Int32))), .unset, .unset, .unset]) rfl ?_
        show Steps p.tables e below (T14.setTop (mkF m 81 #[.val (.int kk), .val (.int xx), .val (.int u1), .val (.ref v2_l3), .val (.int v8_s0), .val (.int v10_s0), .val (.int (if v8_s0 = (0 : Int32) then (if v10_s0 = (0 : Int32) then (0 : Int32) else (1 : Int32)) else (1 : Int32))), .unset, .unset, .unset] [])) _
        refine XS.goto X14.here hx rfl (pc0 := 81) (pc' := 126) rfl (hb hby at_81) (by decide) (by decide) ?_
        exact kt
      exact J12 _ (if v8_s0 = (0 : Int32) then (if v10_s0 = (0 : Int32) then (0 : Int32) else (1 : Int32)) else (1 : Int32)) (if_pos c61_13).symm X14 e14
    · refine Gl.up (B := T10.setTop (mkF m 86 #[.val (.int kk), .val (.int xx), .val (.int u1), .val (.ref v2_l3), .val (.int v8_s0), .val (.int v10_s0), .unset, .unset, .unset, .unset] [(.int (1 : Int32)), (.int u1)])) (fun t kt => ?_) ?_
      · show Steps p.tables e below (T10.setTop (mkF m 61 #[.val (.int kk), .val (.int xx), .val (.int u1), .val (.ref v2_l3), .val (.int v8_s0), .val (.int v10_s0), .unset, .unset, .unset, .unset] [(.int u1)])) _
        refine XS.ifYes X10.here hx rfl (pc0 := 61) (pc' := 84) rfl (hb hby at_61) rfl ((if0 _ _).trans (feq c61_13).2) (by decide) (by decide) ?_
        show Steps p.tables e below (T10.setTop (mkF m 84 #[.val (.int kk), .val (.int xx), .val (.int u1), .val (.ref v2_l3), .val (.int v8_s0), .val (.int v10_s0), .unset, .unset, .unset, .unset] [])) _
        refine XS.iloadN X10.here hx rfl (hb hby at_84) rfl ?_
        show Steps p.tables e below (T10.setTop (mkF m 85 #[.val (.int kk), .val (.int xx), .val (.int u1), .val (.ref v2_l3), .val (.int v8_s0), .val (.int v10_s0), .unset, .unset, .unset, .unset] [(.int u1)])) _
        refine XS.iconst X10.here hx rfl (hb hby at_85) ?_
        exact kt
      by_cases c86_17 : u1 = (1 : Int32)
      · refine Gl.up (B := T10.setTop (mkF m 91 #[.val (.int kk), .val (.int xx), .val (.int u1), .val (.ref v2_l3), .val (.int v8_s0), .val (.int v10_s0), .unset, .unset, .unset, .unset] [(.int v8_s0)])) (fun t kt => ?_) ?_
        · show Steps p.tables e below (T10.setTop (mkF m 86 #[.val (.int kk), .val (.int xx), .val (.int u1), .val (.ref v2_l3), .val (.int v8_s0), .val (.int v10_s0), .unset, .unset, .unset, .unset] [(.int (1 : Int32)), (.int u1)])) _
          refine XS.icmpNo X10.here hx rfl (hb hby at_86) rfl (teq c86_17).2 ?_
          show Steps p.tables e below (T10.setTop (mkF m 89 #[.val (.int kk), .val (.int xx), .val (.int u1), .val (.ref v2_l3), .val (.int v8_s0), .val (.int v10_s0), .unset, .unset, .unset, .unset] [])) _
          refine XS.iload X10.here hx rfl (hb hby at_89) rfl ?_
          exact kt
        suffices J18 : ∀ (T18 : State) (v18_s0 : Int32), v18_s0 = (if v8_s0 = (0 : Int32) then (0 : Int32) else (if v10_s0 = (0 : Int32) then (0 : Int32) else (1 : Int32))) → Stand p l e room_1 s m args below meth c T18 [] 0 0 → T18.heap = h0 → Gl p e below (Ret s 0 0 (Q0 n0)) (T18.setTop (mkF m 104 #[.val (.int kk), .val (.int xx), .val (.int u1), .val (.ref v2_l3), .val (.int v8_s0), .val (.int v10_s0), .unset, .unset, .unset, .unset] [(.int v18_s0)])) by
          by_cases c91_19 : v8_s0 = (0 : Int32)
          · refine Gl.up (B := T10.setTop (mkF m 104 #[.val (.int kk), .val (.int xx), .val (.int u1), .val (.ref v2_l3), .val (.int v8_s0), .val (.int v10_s0), .unset, .unset, .unset, .unset] [(.int (0 : Int32))])) (fun t kt => ?_) ?_
            · show Steps p.tables e below (T10.setTop (mkF m 91 #[.val (.int kk), .val (.int xx), .val (.int u1), .val (.ref v2_l3), .val (.int v8_s0), .val (.int v10_s0), .unset, .unset, .unset, .unset] [(.int v8_s0)])) _
              refine XS.ifYes X10.here hx rfl (pc0 := 91) (pc' := 103) rfl (hb hby at_91) rfl ((if0 _ _).trans (teq c91_19).1) (by decide) (by decide) ?_
              show Steps p.tables e below (T10.setTop (mkF m 103 #[.val (.int kk), .val (.int xx), .val (.int u1), .val (.ref v2_l3), .val (.int v8_s0), .val (.int v10_s0), .unset, .unset, .unset, .unset] [])) _
              refine XS.iconst X10.here hx rfl (hb hby at_103) ?_
              exact kt
            exact J18 _ (0 : Int32) (if_pos c91_19).symm X10 e10
          · refine Gl.up (B := T10.setTop (mkF m 96 #[.val (.int kk), .val (.int xx), .val (.int u1), .val (.ref v2_l3), .val (.int v8_s0), .val (.int v10_s0), .unset, .unset, .unset, .unset] [(.int v10_s0)])) (fun t kt => ?_) ?_
            · show Steps p.tables e below (T10.setTop (mkF m 91 #[.val (.int kk), .val (.int xx), .val (.int u1), .val (.ref v2_l3), .val (.int v8_s0), .val (.int v10_s0), .unset, .unset, .unset, .unset] [(.int v8_s0)])) _
              refine XS.ifNo X10.here hx rfl (hb hby at_91) rfl ((if0 _ _).trans (feq c91_19).1) ?_
              show Steps p.tables e below (T10.setTop (mkF m 94 #[.val (.int kk), .val (.int xx), .val (.int u1), .val (.ref v2_l3), .val (.int v8_s0), .val (.int v10_s0), .unset, .unset, .unset, .unset] [])) _
              refine XS.iload X10.here hx rfl (hb hby at_94) rfl ?_
              exact kt
            by_cases c96_20 : v10_s0 = (0 : Int32)
            · refine Gl.up (B := T10.setTop (mkF m 104 #[.val (.int kk), .val (.int xx), .val (.int u1), .val (.ref v2_l3), .val (.int v8_s0), .val (.int v10_s0), .unset, .unset, .unset, .unset] [(.int (0 : Int32))])) (fun t kt => ?_) ?_
              · show Steps p.tables e below (T10.setTop (mkF m 96 #[.val (.int kk), .val (.int xx), .val (.int u1), .val (.ref v2_l3), .val (.int v8_s0), .val (.int v10_s0), .unset, .unset, .unset, .unset] [(.int v10_s0)])) _
                refine XS.ifYes X10.here hx rfl (pc0 := 96) (pc' := 103) rfl (hb hby at_96) rfl ((if0 _ _).trans (teq c96_20).1) (by decide) (by decide) ?_
                show Steps p.tables e below (T10.setTop (mkF m 103 #[.val (.int kk), .val (.int xx), .val (.int u1), .val (.ref v2_l3), .val (.int v8_s0), .val (.int v10_s0), .unset, .unset, .unset, .unset] [])) _
                refine XS.iconst X10.here hx rfl (hb hby at_103) ?_
                exact kt
              exact J18 _ (0 : Int32) ((if_neg c91_19).trans (if_pos c96_20)).symm X10 e10
            · refine Gl.up (B := T10.setTop (mkF m 104 #[.val (.int kk), .val (.int xx), .val (.int u1), .val (.ref v2_l3), .val (.int v8_s0), .val (.int v10_s0), .unset, .unset, .unset, .unset] [(.int (1 : Int32))])) (fun t kt => ?_) ?_
              · show Steps p.tables e below (T10.setTop (mkF m 96 #[.val (.int kk), .val (.int xx), .val (.int u1), .val (.ref v2_l3), .val (.int v8_s0), .val (.int v10_s0), .unset, .unset, .unset, .unset] [(.int v10_s0)])) _
                refine XS.ifNo X10.here hx rfl (hb hby at_96) rfl ((if0 _ _).trans (feq c96_20).1) ?_
                show Steps p.tables e below (T10.setTop (mkF m 99 #[.val (.int kk), .val (.int xx), .val (.int u1), .val (.ref v2_l3), .val (.int v8_s0), .val (.int v10_s0), .unset, .unset, .unset, .unset] [])) _
                refine XS.iconst X10.here hx rfl (hb hby at_99) ?_
                show Steps p.tables e below (T10.setTop (mkF m 100 #[.val (.int kk), .val (.int xx), .val (.int u1), .val (.ref v2_l3), .val (.int v8_s0), .val (.int v10_s0), .unset, .unset, .unset, .unset] [(.int (1 : Int32))])) _
                refine XS.goto X10.here hx rfl (pc0 := 100) (pc' := 104) rfl (hb hby at_100) (by decide) (by decide) ?_
                exact kt
              exact J18 _ (1 : Int32) ((if_neg c91_19).trans (if_neg c96_20)).symm X10 e10
        intro T18 v18_s0 hv18_s0 X18 e18
        subst hv18_s0
        refine Gl.up (B := T18.setTop (mkF m 126 #[.val (.int kk), .val (.int xx), .val (.int u1), .val (.ref v2_l3), .val (.int v8_s0), .val (.int v10_s0), .val (.int (if v8_s0 = (0 : Int32) then (0 : Int32) else (if v10_s0 = (0 : Int32) then (0 : Int32) else (1 : Int32)))), .unset, .unset, .unset] [])) (fun t kt => ?_) ?_
        · show Steps p.tables e below (T18.setTop (mkF m 104 #[.val (.int kk), .val (.int xx), .val (.int u1), .val (.ref v2_l3), .val (.int v8_s0), .val (.int v10_s0), .unset, .unset, .unset, .unset] [(.int (if v8_s0 = (0 : Int32) then (0 : Int32) else (if v10_s0 = (0 : Int32) then (0 : Int32) else (1 : Int32))))])) _
          refine XS.istore X18.here hx rfl (hb hby at_104) rfl (l' := #[.val (.int kk), .val (.int xx), .val (.int u1), .val (.ref v2_l3), .val (.int v8_s0), .val (.int v10_s0), .val (.int (if v8_s0 = (0 : Int32) then (0 : Int32) else (if v10_s0 = (0 : Int32) then (0 : Int32) else (1 : Int32)))), .unset, .unset, .unset]) rfl ?_
          show Steps p.tables e below (T18.setTop (mkF m 106 #[.val (.int kk), .val (.int xx), .val (.int u1), .val (.ref v2_l3), .val (.int v8_s0), .val (.int v10_s0), .val (.int (if v8_s0 = (0 : Int32) then (0 : Int32) else (if v10_s0 = (0 : Int32) then (0 : Int32) else (1 : Int32)))), .unset, .unset, .unset] [])) _
          refine XS.goto X18.here hx rfl (pc0 := 106) (pc' := 126) rfl (hb hby at_106) (by decide) (by decide) ?_
          exact kt
        exact J12 _ (if v8_s0 = (0 : Int32) then (0 : Int32) else (if v10_s0 = (0 : Int32) then (0 : Int32) else (1 : Int32))) ((if_neg c61_13).trans (if_pos c86_17)).symm X18 e18
      · refine Gl.up (B := T10.setTop (mkF m 111 #[.val (.int kk), .val (.int xx), .val (.int u1), .val (.ref v2_l3), .val (.int v8_s0), .val (.int v10_s0), .unset, .unset, .unset, .unset] [(.int v8_s0)])) (fun t kt => ?_) ?_
        · show Steps p.tables e below (T10.setTop (mkF m 86 #[.val (.int kk), .val (.int xx), .val (.int u1), .val (.ref v2_l3), .val (.int v8_s0), .val (.int v10_s0), .unset, .unset, .unset, .unset] [(.int (1 : Int32)), (.int u1)])) _
          refine XS.icmpYes X10.here hx rfl (pc0 := 86) (pc' := 109) rfl (hb hby at_86) rfl (feq c86_17).2 (by decide) (by decide) ?_
          show Steps p.tables e below (T10.setTop (mkF m 109 #[.val (.int kk), .val (.int xx), .val (.int u1), .val (.ref v2_l3), .val (.int v8_s0), .val (.int v10_s0), .unset, .unset, .unset, .unset] [])) _
          refine XS.iload X10.here hx rfl (hb hby at_109) rfl ?_
          exact kt
        suffices J21 : ∀ (T21 : State) (v21_s0 : Int32), v21_s0 = (if v8_s0 = (0 : Int32) then (0 : Int32) else (if v10_s0 = (0 : Int32) then (1 : Int32) else (0 : Int32))) → Stand p l e room_1 s m args below meth c T21 [] 0 0 → T21.heap = h0 → Gl p e below (Ret s 0 0 (Q0 n0)) (T21.setTop (mkF m 124 #[.val (.int kk), .val (.int xx), .val (.int u1), .val (.ref v2_l3), .val (.int v8_s0), .val (.int v10_s0), .unset, .unset, .unset, .unset] [(.int v21_s0)])) by
          by_cases c111_22 : v8_s0 = (0 : Int32)
          · refine Gl.up (B := T10.setTop (mkF m 124 #[.val (.int kk), .val (.int xx), .val (.int u1), .val (.ref v2_l3), .val (.int v8_s0), .val (.int v10_s0), .unset, .unset, .unset, .unset] [(.int (0 : Int32))])) (fun t kt => ?_) ?_
            · show Steps p.tables e below (T10.setTop (mkF m 111 #[.val (.int kk), .val (.int xx), .val (.int u1), .val (.ref v2_l3), .val (.int v8_s0), .val (.int v10_s0), .unset, .unset, .unset, .unset] [(.int v8_s0)])) _
              refine XS.ifYes X10.here hx rfl (pc0 := 111) (pc' := 123) rfl (hb hby at_111) rfl ((if0 _ _).trans (teq c111_22).1) (by decide) (by decide) ?_
              show Steps p.tables e below (T10.setTop (mkF m 123 #[.val (.int kk), .val (.int xx), .val (.int u1), .val (.ref v2_l3), .val (.int v8_s0), .val (.int v10_s0), .unset, .unset, .unset, .unset] [])) _
              refine XS.iconst X10.here hx rfl (hb hby at_123) ?_
              exact kt
            exact J21 _ (0 : Int32) (if_pos c111_22).symm X10 e10
          · refine Gl.up (B := T10.setTop (mkF m 116 #[.val (.int kk), .val (.int xx), .val (.int u1), .val (.ref v2_l3), .val (.int v8_s0), .val (.int v10_s0), .unset, .unset, .unset, .unset] [(.int v10_s0)])) (fun t kt => ?_) ?_
            · show Steps p.tables e below (T10.setTop (mkF m 111 #[.val (.int kk), .val (.int xx), .val (.int u1), .val (.ref v2_l3), .val (.int v8_s0), .val (.int v10_s0), .unset, .unset, .unset, .unset] [(.int v8_s0)])) _
              refine XS.ifNo X10.here hx rfl (hb hby at_111) rfl ((if0 _ _).trans (feq c111_22).1) ?_
              show Steps p.tables e below (T10.setTop (mkF m 114 #[.val (.int kk), .val (.int xx), .val (.int u1), .val (.ref v2_l3), .val (.int v8_s0), .val (.int v10_s0), .unset, .unset, .unset, .unset] [])) _
              refine XS.iload X10.here hx rfl (hb hby at_114) rfl ?_
              exact kt
            by_cases c116_23 : v10_s0 = (0 : Int32)
            · refine Gl.up (B := T10.setTop (mkF m 124 #[.val (.int kk), .val (.int xx), .val (.int u1), .val (.ref v2_l3), .val (.int v8_s0), .val (.int v10_s0), .unset, .unset, .unset, .unset] [(.int (1 : Int32))])) (fun t kt => ?_) ?_
              · show Steps p.tables e below (T10.setTop (mkF m 116 #[.val (.int kk), .val (.int xx), .val (.int u1), .val (.ref v2_l3), .val (.int v8_s0), .val (.int v10_s0), .unset, .unset, .unset, .unset] [(.int v10_s0)])) _
                refine XS.ifNo X10.here hx rfl (hb hby at_116) rfl ((if0 _ _).trans (teq c116_23).2) ?_
                show Steps p.tables e below (T10.setTop (mkF m 119 #[.val (.int kk), .val (.int xx), .val (.int u1), .val (.ref v2_l3), .val (.int v8_s0), .val (.int v10_s0), .unset, .unset, .unset, .unset] [])) _
                refine XS.iconst X10.here hx rfl (hb hby at_119) ?_
                show Steps p.tables e below (T10.setTop (mkF m 120 #[.val (.int kk), .val (.int xx), .val (.int u1), .val (.ref v2_l3), .val (.int v8_s0), .val (.int v10_s0), .unset, .unset, .unset, .unset] [(.int (1 : Int32))])) _
                refine XS.goto X10.here hx rfl (pc0 := 120) (pc' := 124) rfl (hb hby at_120) (by decide) (by decide) ?_
                exact kt
              exact J21 _ (1 : Int32) ((if_neg c111_22).trans (if_pos c116_23)).symm X10 e10
            · refine Gl.up (B := T10.setTop (mkF m 124 #[.val (.int kk), .val (.int xx), .val (.int u1), .val (.ref v2_l3), .val (.int v8_s0), .val (.int v10_s0), .unset, .unset, .unset, .unset] [(.int (0 : Int32))])) (fun t kt => ?_) ?_
              · show Steps p.tables e below (T10.setTop (mkF m 116 #[.val (.int kk), .val (.int xx), .val (.int u1), .val (.ref v2_l3), .val (.int v8_s0), .val (.int v10_s0), .unset, .unset, .unset, .unset] [(.int v10_s0)])) _
                refine XS.ifYes X10.here hx rfl (pc0 := 116) (pc' := 123) rfl (hb hby at_116) rfl ((if0 _ _).trans (feq c116_23).2) (by decide) (by decide) ?_
                show Steps p.tables e below (T10.setTop (mkF m 123 #[.val (.int kk), .val (.int xx), .val (.int u1), .val (.ref v2_l3), .val (.int v8_s0), .val (.int v10_s0), .unset, .unset, .unset, .unset] [])) _
                refine XS.iconst X10.here hx rfl (hb hby at_123) ?_
                exact kt
              exact J21 _ (0 : Int32) ((if_neg c111_22).trans (if_neg c116_23)).symm X10 e10
        intro T21 v21_s0 hv21_s0 X21 e21
        subst hv21_s0
        refine Gl.up (B := T21.setTop (mkF m 126 #[.val (.int kk), .val (.int xx), .val (.int u1), .val (.ref v2_l3), .val (.int v8_s0), .val (.int v10_s0), .val (.int (if v8_s0 = (0 : Int32) then (0 : Int32) else (if v10_s0 = (0 : Int32) then (1 : Int32) else (0 : Int32)))), .unset, .unset, .unset] [])) (fun t kt => ?_) ?_
        · show Steps p.tables e below (T21.setTop (mkF m 124 #[.val (.int kk), .val (.int xx), .val (.int u1), .val (.ref v2_l3), .val (.int v8_s0), .val (.int v10_s0), .unset, .unset, .unset, .unset] [(.int (if v8_s0 = (0 : Int32) then (0 : Int32) else (if v10_s0 = (0 : Int32) then (1 : Int32) else (0 : Int32))))])) _
          refine XS.istore X21.here hx rfl (hb hby at_124) rfl (l' := #[.val (.int kk), .val (.int xx), .val (.int u1), .val (.ref v2_l3), .val (.int v8_s0), .val (.int v10_s0), .val (.int (if v8_s0 = (0 : Int32) then (0 : Int32) else (if v10_s0 = (0 : Int32) then (1 : Int32) else (0 : Int32)))), .unset, .unset, .unset]) rfl ?_
          exact kt
        exact J12 _ (if v8_s0 = (0 : Int32) then (0 : Int32) else (if v10_s0 = (0 : Int32) then (1 : Int32) else (0 : Int32))) ((if_neg c61_13).trans (if_neg c86_17)).symm X21 e21
  intro T12 v12_l6 hv12_l6 X12 e12
  have hv12_l6b : v12_l6 = 0 ∨ v12_l6 = 1 := by rw [hv12_l6]; exact (b01_ite (b01_ite (b01_ite (Or.inl rfl) (Or.inr rfl)) (Or.inr rfl)) (b01_ite (b01_ite (Or.inl rfl) (b01_ite (Or.inl rfl) (Or.inr rfl))) (b01_ite (Or.inl rfl) (b01_ite (Or.inr rfl) (Or.inl rfl)))))
  refine Gl.up (B := T12.setTop (mkF m 128 #[.val (.int kk), .val (.int xx), .val (.int u1), .val (.ref v2_l3), .val (.int v8_s0), .val (.int v10_s0), .val (.int v12_l6), .unset, .unset, .unset] [(.int (0 : Int32)), (.ref v2_l3)])) (fun t kt => ?_) ?_
  · show Steps p.tables e below (T12.setTop (mkF m 126 #[.val (.int kk), .val (.int xx), .val (.int u1), .val (.ref v2_l3), .val (.int v8_s0), .val (.int v10_s0), .val (.int v12_l6), .unset, .unset, .unset] [])) _
    refine XS.aloadN X12.here hx rfl (hb hby at_126) rfl rfl ?_
    show Steps p.tables e below (T12.setTop (mkF m 127 #[.val (.int kk), .val (.int xx), .val (.int u1), .val (.ref v2_l3), .val (.int v8_s0), .val (.int v10_s0), .val (.int v12_l6), .unset, .unset, .unset] [(.ref v2_l3)])) _
    refine XS.iconst X12.here hx rfl (hb hby at_127) ?_
    exact kt
  obtain ⟨cq24, kq24, q24a, q24b, q24c⟩ := isOf hZ e12 E_v
  obtain ⟨_, _, ⟨T24, L24, k24, n24⟩, -, X24, ⟨Lc24, hQ24, l24, y24, z24⟩, st24⟩ := X12.virtualBack hx (y := (⟨"com/example/relation_check/relationcheck/rules/Rewrite$Join", "subtracts", "(I)Z"⟩ : MethodName)) (z := (⟨"com/example/relation_check/relationcheck/rules/Rewrite$Join", "subtracts", "(I)Z"⟩ : MethodName)) hown (mvT hZ (hw _ (List.mem_of_getElem? (i := 4) rfl))) (mvT hZ (hw _ (List.mem_of_getElem? (i := 5) rfl))) (notFace_of_selects (args := #[]) (mvT hZ (hw _ (List.mem_of_getElem? (i := 7) rfl)))) (mvT hZ (hw _ (List.mem_of_getElem? (i := 7) rfl))) (mvT hZ (hw _ (List.mem_of_getElem? (i := 6) rfl))) (by decide) (backOf (W := 0) (rm1 l Z aa hw [] v2_l3 (0 : Int32) wF h0 n0 O0 S_wF) hZ (hw _ (List.mem_of_getElem? (i := 8) rfl)) (hw _ (List.mem_of_getElem? (i := 2) rfl)) (by decide) (by decide)) q24a q24c (g := (mkF m 128 #[.val (.int kk), .val (.int xx), .val (.int u1), .val (.ref v2_l3), .val (.int v8_s0), .val (.int v10_s0), .val (.int v12_l6), .unset, .unset, .unset] [(.int (0 : Int32)), (.ref v2_l3)])) rfl (by rw [hml]; rfl) (Steps.refl _) (argsL := [(.int (0 : Int32))]) (rest := []) (lenOf pd_oIcZ rfl) rfl (by show 2 * 0 + _ ≤ _; exact Nat.le_of_eq rfl) (hb hby at_128) (fun _ _ => ⟨rfl, e12, (by decide : 0 + 0 ≤ _), (by decide : 0 + 0 ≤ _)⟩)
  dsimp only [Pt.U, Pt.locs, Pt.cells, Pt.slots] at X24 l24 y24 z24 st24 hQ24
  subst l24 y24 z24
  obtain ⟨rfl, rfl, e24⟩ := hQ24
  try rw [List.append_nil] at X24
  refine Gl.up (B := T24.setTop (mkF m 131 #[.val (.int kk), .val (.int xx), .val (.int u1), .val (.ref v2_l3), .val (.int v8_s0), .val (.int v10_s0), .val (.int v12_l6), .unset, .unset, .unset] [(.int (f1 v2_l3 (0 : Int32) wF))])) (fun t kt => st24.trans kt) ?_
  suffices J25 : ∀ (T25 : State) (v25_s0 : Int32), v25_s0 = (if (f1 v2_l3 (0 : Int32) wF) = (0 : Int32) then v8_s0 else (if v8_s0 = (0 : Int32) then (1 : Int32) else (0 : Int32))) → Stand p l e room_1 s m args below meth c T25 [] 0 0 → T25.heap = h0 → Gl p e below (Ret s 0 0 (Q0 n0)) (T25.setTop (mkF m 149 #[.val (.int kk), .val (.int xx), .val (.int u1), .val (.ref v2_l3), .val (.int v8_s0), .val (.int v10_s0), .val (.int v12_l6), .unset, .unset, .unset] [(.int v25_s0)])) by
    by_cases c131_26 : (f1 v2_l3 (0 : Int32) wF) = (0 : Int32)
    · refine Gl.up (B := T24.setTop (mkF m 149 #[.val (.int kk), .val (.int xx), .val (.int u1), .val (.ref v2_l3), .val (.int v8_s0), .val (.int v10_s0), .val (.int v12_l6), .unset, .unset, .unset] [(.int v8_s0)])) (fun t kt => ?_) ?_
      · show Steps p.tables e below (T24.setTop (mkF m 131 #[.val (.int kk), .val (.int xx), .val (.int u1), .val (.ref v2_l3), .val (.int v8_s0), .val (.int v10_s0), .val (.int v12_l6), .unset, .unset, .unset] [(.int (f1 v2_l3 (0 : Int32) wF))])) _
        refine XS.ifYes X24.here hx rfl (pc0 := 131) (pc' := 147) rfl (hb hby at_131) rfl ((if0 _ _).trans (teq c131_26).1) (by decide) (by decide) ?_
        show Steps p.tables e below (T24.setTop (mkF m 147 #[.val (.int kk), .val (.int xx), .val (.int u1), .val (.ref v2_l3), .val (.int v8_s0), .val (.int v10_s0), .val (.int v12_l6), .unset, .unset, .unset] [])) _
        refine XS.iload X24.here hx rfl (hb hby at_147) rfl ?_
        exact kt
      exact J25 _ v8_s0 (if_pos c131_26).symm X24 e24
    · refine Gl.up (B := T24.setTop (mkF m 136 #[.val (.int kk), .val (.int xx), .val (.int u1), .val (.ref v2_l3), .val (.int v8_s0), .val (.int v10_s0), .val (.int v12_l6), .unset, .unset, .unset] [(.int v8_s0)])) (fun t kt => ?_) ?_
      · show Steps p.tables e below (T24.setTop (mkF m 131 #[.val (.int kk), .val (.int xx), .val (.int u1), .val (.ref v2_l3), .val (.int v8_s0), .val (.int v10_s0), .val (.int v12_l6), .unset, .unset, .unset] [(.int (f1 v2_l3 (0 : Int32) wF))])) _
        refine XS.ifNo X24.here hx rfl (hb hby at_131) rfl ((if0 _ _).trans (feq c131_26).1) ?_
        show Steps p.tables e below (T24.setTop (mkF m 134 #[.val (.int kk), .val (.int xx), .val (.int u1), .val (.ref v2_l3), .val (.int v8_s0), .val (.int v10_s0), .val (.int v12_l6), .unset, .unset, .unset] [])) _
        refine XS.iload X24.here hx rfl (hb hby at_134) rfl ?_
        exact kt
      by_cases c136_27 : v8_s0 = (0 : Int32)
      · refine Gl.up (B := T24.setTop (mkF m 149 #[.val (.int kk), .val (.int xx), .val (.int u1), .val (.ref v2_l3), .val (.int v8_s0), .val (.int v10_s0), .val (.int v12_l6), .unset, .unset, .unset] [(.int (1 : Int32))])) (fun t kt => ?_) ?_
        · show Steps p.tables e below (T24.setTop (mkF m 136 #[.val (.int kk), .val (.int xx), .val (.int u1), .val (.ref v2_l3), .val (.int v8_s0), .val (.int v10_s0), .val (.int v12_l6), .unset, .unset, .unset] [(.int v8_s0)])) _
          refine XS.ifNo X24.here hx rfl (hb hby at_136) rfl ((if0 _ _).trans (teq c136_27).2) ?_
          show Steps p.tables e below (T24.setTop (mkF m 139 #[.val (.int kk), .val (.int xx), .val (.int u1), .val (.ref v2_l3), .val (.int v8_s0), .val (.int v10_s0), .val (.int v12_l6), .unset, .unset, .unset] [])) _
          refine XS.iconst X24.here hx rfl (hb hby at_139) ?_
          show Steps p.tables e below (T24.setTop (mkF m 140 #[.val (.int kk), .val (.int xx), .val (.int u1), .val (.ref v2_l3), .val (.int v8_s0), .val (.int v10_s0), .val (.int v12_l6), .unset, .unset, .unset] [(.int (1 : Int32))])) _
          refine XS.goto X24.here hx rfl (pc0 := 140) (pc' := 149) rfl (hb hby at_140) (by decide) (by decide) ?_
          exact kt
        exact J25 _ (1 : Int32) ((if_neg c131_26).trans (if_pos c136_27)).symm X24 e24
      · refine Gl.up (B := T24.setTop (mkF m 149 #[.val (.int kk), .val (.int xx), .val (.int u1), .val (.ref v2_l3), .val (.int v8_s0), .val (.int v10_s0), .val (.int v12_l6), .unset, .unset, .unset] [(.int (0 : Int32))])) (fun t kt => ?_) ?_
        · show Steps p.tables e below (T24.setTop (mkF m 136 #[.val (.int kk), .val (.int xx), .val (.int u1), .val (.ref v2_l3), .val (.int v8_s0), .val (.int v10_s0), .val (.int v12_l6), .unset, .unset, .unset] [(.int v8_s0)])) _
          refine XS.ifYes X24.here hx rfl (pc0 := 136) (pc' := 143) rfl (hb hby at_136) rfl ((if0 _ _).trans (feq c136_27).2) (by decide) (by decide) ?_
          show Steps p.tables e below (T24.setTop (mkF m 143 #[.val (.int kk), .val (.int xx), .val (.int u1), .val (.ref v2_l3), .val (.int v8_s0), .val (.int v10_s0), .val (.int v12_l6), .unset, .unset, .unset] [])) _
          refine XS.iconst X24.here hx rfl (hb hby at_143) ?_
          show Steps p.tables e below (T24.setTop (mkF m 144 #[.val (.int kk), .val (.int xx), .val (.int u1), .val (.ref v2_l3), .val (.int v8_s0), .val (.int v10_s0), .val (.int v12_l6), .unset, .unset, .unset] [(.int (0 : Int32))])) _
          refine XS.goto X24.here hx rfl (pc0 := 144) (pc' := 149) rfl (hb hby at_144) (by decide) (by decide) ?_
          exact kt
        exact J25 _ (0 : Int32) ((if_neg c131_26).trans (if_neg c136_27)).symm X24 e24
  intro T25 v25_s0 hv25_s0 X25 e25
  have hv25_s0b : v25_s0 = 0 ∨ v25_s0 = 1 := by rw [hv25_s0]; exact (b01_ite hv8_s0b (b01_ite (Or.inr rfl) (Or.inl rfl)))
  refine Gl.up (B := T25.setTop (mkF m 153 #[.val (.int kk), .val (.int xx), .val (.int u1), .val (.ref v2_l3), .val (.int v8_s0), .val (.int v10_s0), .val (.int v12_l6), .val (.int v25_s0), .unset, .unset] [(.int (1 : Int32)), (.ref v2_l3)])) (fun t kt => ?_) ?_
  · show Steps p.tables e below (T25.setTop (mkF m 149 #[.val (.int kk), .val (.int xx), .val (.int u1), .val (.ref v2_l3), .val (.int v8_s0), .val (.int v10_s0), .val (.int v12_l6), .unset, .unset, .unset] [(.int v25_s0)])) _
    refine XS.istore X25.here hx rfl (hb hby at_149) rfl (l' := #[.val (.int kk), .val (.int xx), .val (.int u1), .val (.ref v2_l3), .val (.int v8_s0), .val (.int v10_s0), .val (.int v12_l6), .val (.int v25_s0), .unset, .unset]) rfl ?_
    show Steps p.tables e below (T25.setTop (mkF m 151 #[.val (.int kk), .val (.int xx), .val (.int u1), .val (.ref v2_l3), .val (.int v8_s0), .val (.int v10_s0), .val (.int v12_l6), .val (.int v25_s0), .unset, .unset] [])) _
    refine XS.aloadN X25.here hx rfl (hb hby at_151) rfl rfl ?_
    show Steps p.tables e below (T25.setTop (mkF m 152 #[.val (.int kk), .val (.int xx), .val (.int u1), .val (.ref v2_l3), .val (.int v8_s0), .val (.int v10_s0), .val (.int v12_l6), .val (.int v25_s0), .unset, .unset] [(.ref v2_l3)])) _
    refine XS.iconst X25.here hx rfl (hb hby at_152) ?_
    exact kt
  obtain ⟨cq28, kq28, q28a, q28b, q28c⟩ := isOf hZ e25 E_v
  obtain ⟨_, _, ⟨T28, L28, k28, n28⟩, -, X28, ⟨Lc28, hQ28, l28, y28, z28⟩, st28⟩ := X25.virtualBack hx (y := (⟨"com/example/relation_check/relationcheck/rules/Rewrite$Join", "subtracts", "(I)Z"⟩ : MethodName)) (z := (⟨"com/example/relation_check/relationcheck/rules/Rewrite$Join", "subtracts", "(I)Z"⟩ : MethodName)) hown (mvT hZ (hw _ (List.mem_of_getElem? (i := 4) rfl))) (mvT hZ (hw _ (List.mem_of_getElem? (i := 5) rfl))) (notFace_of_selects (args := #[]) (mvT hZ (hw _ (List.mem_of_getElem? (i := 7) rfl)))) (mvT hZ (hw _ (List.mem_of_getElem? (i := 7) rfl))) (mvT hZ (hw _ (List.mem_of_getElem? (i := 6) rfl))) (by decide) (backOf (W := 0) (rm1 l Z aa hw [] v2_l3 (1 : Int32) wF h0 n0 O0 S_wF) hZ (hw _ (List.mem_of_getElem? (i := 8) rfl)) (hw _ (List.mem_of_getElem? (i := 2) rfl)) (by decide) (by decide)) q28a q28c (g := (mkF m 153 #[.val (.int kk), .val (.int xx), .val (.int u1), .val (.ref v2_l3), .val (.int v8_s0), .val (.int v10_s0), .val (.int v12_l6), .val (.int v25_s0), .unset, .unset] [(.int (1 : Int32)), (.ref v2_l3)])) rfl (by rw [hml]; rfl) (Steps.refl _) (argsL := [(.int (1 : Int32))]) (rest := []) (lenOf pd_oIcZ rfl) rfl (by show 2 * 0 + _ ≤ _; exact Nat.le_of_eq rfl) (hb hby at_153) (fun _ _ => ⟨rfl, e25, (by decide : 0 + 0 ≤ _), (by decide : 0 + 0 ≤ _)⟩)
  dsimp only [Pt.U, Pt.locs, Pt.cells, Pt.slots] at X28 l28 y28 z28 st28 hQ28
  subst l28 y28 z28
  obtain ⟨rfl, rfl, e28⟩ := hQ28
  try rw [List.append_nil] at X28
  refine Gl.up (B := T28.setTop (mkF m 156 #[.val (.int kk), .val (.int xx), .val (.int u1), .val (.ref v2_l3), .val (.int v8_s0), .val (.int v10_s0), .val (.int v12_l6), .val (.int v25_s0), .unset, .unset] [(.int (f1 v2_l3 (1 : Int32) wF))])) (fun t kt => st28.trans kt) ?_
  suffices J29 : ∀ (T29 : State) (v29_s0 : Int32), v29_s0 = (if (f1 v2_l3 (1 : Int32) wF) = (0 : Int32) then v10_s0 else (if v10_s0 = (0 : Int32) then (1 : Int32) else (0 : Int32))) → Stand p l e room_1 s m args below meth c T29 [] 0 0 → T29.heap = h0 → Gl p e below (Ret s 0 0 (Q0 n0)) (T29.setTop (mkF m 174 #[.val (.int kk), .val (.int xx), .val (.int u1), .val (.ref v2_l3), .val (.int v8_s0), .val (.int v10_s0), .val (.int v12_l6), .val (.int v25_s0), .unset, .unset] [(.int v29_s0)])) by
    by_cases c156_30 : (f1 v2_l3 (1 : Int32) wF) = (0 : Int32)
    · refine Gl.up (B := T28.setTop (mkF m 174 #[.val (.int kk), .val (.int xx), .val (.int u1), .val (.ref v2_l3), .val (.int v8_s0), .val (.int v10_s0), .val (.int v12_l6), .val (.int v25_s0), .unset, .unset] [(.int v10_s0)])) (fun t kt => ?_) ?_
      · show Steps p.tables e below (T28.setTop (mkF m 156 #[.val (.int kk), .val (.int xx), .val (.int u1), .val (.ref v2_l3), .val (.int v8_s0), .val (.int v10_s0), .val (.int v12_l6), .val (.int v25_s0), .unset, .unset] [(.int (f1 v2_l3 (1 : Int32) wF))])) _
        refine XS.ifYes X28.here hx rfl (pc0 := 156) (pc' := 172) rfl (hb hby at_156) rfl ((if0 _ _).trans (teq c156_30).1) (by decide) (by decide) ?_
        show Steps p.tables e below (T28.setTop (mkF m 172 #[.val (.int kk), .val (.int xx), .val (.int u1), .val (.ref v2_l3), .val (.int v8_s0), .val (.int v10_s0), .val (.int v12_l6), .val (.int v25_s0), .unset, .unset] [])) _
        refine XS.iload X28.here hx rfl (hb hby at_172) rfl ?_
        exact kt
      exact J29 _ v10_s0 (if_pos c156_30).symm X28 e28
    · refine Gl.up (B := T28.setTop (mkF m 161 #[.val (.int kk), .val (.int xx), .val (.int u1), .val (.ref v2_l3), .val (.int v8_s0), .val (.int v10_s0), .val (.int v12_l6), .val (.int v25_s0), .unset, .unset] [(.int v10_s0)])) (fun t kt => ?_) ?_
      · show Steps p.tables e below (T28.setTop (mkF m 156 #[.val (.int kk), .val (.int xx), .val (.int u1), .val (.ref v2_l3), .val (.int v8_s0), .val (.int v10_s0), .val (.int v12_l6), .val (.int v25_s0), .unset, .unset] [(.int (f1 v2_l3 (1 : Int32) wF))])) _
        refine XS.ifNo X28.here hx rfl (hb hby at_156) rfl ((if0 _ _).trans (feq c156_30).1) ?_
        show Steps p.tables e below (T28.setTop (mkF m 159 #[.val (.int kk), .val (.int xx), .val (.int u1), .val (.ref v2_l3), .val (.int v8_s0), .val (.int v10_s0), .val (.int v12_l6), .val (.int v25_s0), .unset, .unset] [])) _
        refine XS.iload X28.here hx rfl (hb hby at_159) rfl ?_
        exact kt
      by_cases c161_31 : v10_s0 = (0 : Int32)
      · refine Gl.up (B := T28.setTop (mkF m 174 #[.val (.int kk), .val (.int xx), .val (.int u1), .val (.ref v2_l3), .val (.int v8_s0), .val (.int v10_s0), .val (.int v12_l6), .val (.int v25_s0), .unset, .unset] [(.int (1 : Int32))])) (fun t kt => ?_) ?_
        · show Steps p.tables e below (T28.setTop (mkF m 161 #[.val (.int kk), .val (.int xx), .val (.int u1), .val (.ref v2_l3), .val (.int v8_s0), .val (.int v10_s0), .val (.int v12_l6), .val (.int v25_s0), .unset, .unset] [(.int v10_s0)])) _
          refine XS.ifNo X28.here hx rfl (hb hby at_161) rfl ((if0 _ _).trans (teq c161_31).2) ?_
          show Steps p.tables e below (T28.setTop (mkF m 164 #[.val (.int kk), .val (.int xx), .val (.int u1), .val (.ref v2_l3), .val (.int v8_s0), .val (.int v10_s0), .val (.int v12_l6), .val (.int v25_s0), .unset, .unset] [])) _
          refine XS.iconst X28.here hx rfl (hb hby at_164) ?_
          show Steps p.tables e below (T28.setTop (mkF m 165 #[.val (.int kk), .val (.int xx), .val (.int u1), .val (.ref v2_l3), .val (.int v8_s0), .val (.int v10_s0), .val (.int v12_l6), .val (.int v25_s0), .unset, .unset] [(.int (1 : Int32))])) _
          refine XS.goto X28.here hx rfl (pc0 := 165) (pc' := 174) rfl (hb hby at_165) (by decide) (by decide) ?_
          exact kt
        exact J29 _ (1 : Int32) ((if_neg c156_30).trans (if_pos c161_31)).symm X28 e28
      · refine Gl.up (B := T28.setTop (mkF m 174 #[.val (.int kk), .val (.int xx), .val (.int u1), .val (.ref v2_l3), .val (.int v8_s0), .val (.int v10_s0), .val (.int v12_l6), .val (.int v25_s0), .unset, .unset] [(.int (0 : Int32))])) (fun t kt => ?_) ?_
        · show Steps p.tables e below (T28.setTop (mkF m 161 #[.val (.int kk), .val (.int xx), .val (.int u1), .val (.ref v2_l3), .val (.int v8_s0), .val (.int v10_s0), .val (.int v12_l6), .val (.int v25_s0), .unset, .unset] [(.int v10_s0)])) _
          refine XS.ifYes X28.here hx rfl (pc0 := 161) (pc' := 168) rfl (hb hby at_161) rfl ((if0 _ _).trans (feq c161_31).2) (by decide) (by decide) ?_
          show Steps p.tables e below (T28.setTop (mkF m 168 #[.val (.int kk), .val (.int xx), .val (.int u1), .val (.ref v2_l3), .val (.int v8_s0), .val (.int v10_s0), .val (.int v12_l6), .val (.int v25_s0), .unset, .unset] [])) _
          refine XS.iconst X28.here hx rfl (hb hby at_168) ?_
          show Steps p.tables e below (T28.setTop (mkF m 169 #[.val (.int kk), .val (.int xx), .val (.int u1), .val (.ref v2_l3), .val (.int v8_s0), .val (.int v10_s0), .val (.int v12_l6), .val (.int v25_s0), .unset, .unset] [(.int (0 : Int32))])) _
          refine XS.goto X28.here hx rfl (pc0 := 169) (pc' := 174) rfl (hb hby at_169) (by decide) (by decide) ?_
          exact kt
        exact J29 _ (0 : Int32) ((if_neg c156_30).trans (if_neg c161_31)).symm X28 e28
  intro T29 v29_s0 hv29_s0 X29 e29
  have hv29_s0b : v29_s0 = 0 ∨ v29_s0 = 1 := by rw [hv29_s0]; exact (b01_ite hv10_s0b (b01_ite (Or.inr rfl) (Or.inl rfl)))
  refine Gl.up (B := T29.setTop (mkF m 177 #[.val (.int kk), .val (.int xx), .val (.int u1), .val (.ref v2_l3), .val (.int v8_s0), .val (.int v10_s0), .val (.int v12_l6), .val (.int v25_s0), .val (.int v29_s0), .unset] [(.ref v2_l3)])) (fun t kt => ?_) ?_
  · show Steps p.tables e below (T29.setTop (mkF m 174 #[.val (.int kk), .val (.int xx), .val (.int u1), .val (.ref v2_l3), .val (.int v8_s0), .val (.int v10_s0), .val (.int v12_l6), .val (.int v25_s0), .unset, .unset] [(.int v29_s0)])) _
    refine XS.istore X29.here hx rfl (hb hby at_174) rfl (l' := #[.val (.int kk), .val (.int xx), .val (.int u1), .val (.ref v2_l3), .val (.int v8_s0), .val (.int v10_s0), .val (.int v12_l6), .val (.int v25_s0), .val (.int v29_s0), .unset]) rfl ?_
    show Steps p.tables e below (T29.setTop (mkF m 176 #[.val (.int kk), .val (.int xx), .val (.int u1), .val (.ref v2_l3), .val (.int v8_s0), .val (.int v10_s0), .val (.int v12_l6), .val (.int v25_s0), .val (.int v29_s0), .unset] [])) _
    refine XS.aloadN X29.here hx rfl (hb hby at_176) rfl rfl ?_
    exact kt
  obtain ⟨cq32, kq32, q32a, q32b, q32c⟩ := isOf hZ e29 E_v
  obtain ⟨_, _, ⟨T32, L32, k32, n32⟩, -, X32, ⟨Lc32, hQ32, l32, y32, z32⟩, st32⟩ := X29.virtualBack hx (y := (⟨"com/example/relation_check/relationcheck/rules/Rewrite$Join", "needsAll", "()Z"⟩ : MethodName)) (z := (⟨"com/example/relation_check/relationcheck/rules/Rewrite$Join", "needsAll", "()Z"⟩ : MethodName)) hown (mvT hZ (hw _ (List.mem_of_getElem? (i := 11) rfl))) (mvT hZ (hw _ (List.mem_of_getElem? (i := 12) rfl))) (notFace_of_selects (args := #[]) (mvT hZ (hw _ (List.mem_of_getElem? (i := 14) rfl)))) (mvT hZ (hw _ (List.mem_of_getElem? (i := 14) rfl))) (mvT hZ (hw _ (List.mem_of_getElem? (i := 13) rfl))) (by decide) (backOf (W := 0) (rm2 l Z aa hw [] v2_l3 wA h0 n0 O0 S_wA) hZ (hw _ (List.mem_of_getElem? (i := 15) rfl)) (hw _ (List.mem_of_getElem? (i := 2) rfl)) (by decide) (by decide)) q32a q32c (g := (mkF m 177 #[.val (.int kk), .val (.int xx), .val (.int u1), .val (.ref v2_l3), .val (.int v8_s0), .val (.int v10_s0), .val (.int v12_l6), .val (.int v25_s0), .val (.int v29_s0), .unset] [(.ref v2_l3)])) rfl (by rw [hml]; rfl) (Steps.refl _) (argsL := []) (rest := []) (lenOf pd_ocZ rfl) rfl (by show 2 * 0 + _ ≤ _; exact Nat.le_of_eq rfl) (hb hby at_177) (fun _ _ => ⟨rfl, e29, (by decide : 0 + 0 ≤ _), (by decide : 0 + 0 ≤ _)⟩)
  dsimp only [Pt.U, Pt.locs, Pt.cells, Pt.slots] at X32 l32 y32 z32 st32 hQ32
  subst l32 y32 z32
  obtain ⟨rfl, rfl, e32⟩ := hQ32
  try rw [List.append_nil] at X32
  refine Gl.up (B := T32.setTop (mkF m 180 #[.val (.int kk), .val (.int xx), .val (.int u1), .val (.ref v2_l3), .val (.int v8_s0), .val (.int v10_s0), .val (.int v12_l6), .val (.int v25_s0), .val (.int v29_s0), .unset] [(.int (f2 v2_l3 wA))])) (fun t kt => st32.trans kt) ?_
  suffices J33 : ∀ (T33 : State) (v33_s0 : Int32), v33_s0 = (if (f2 v2_l3 wA) = (0 : Int32) then (if v25_s0 = (0 : Int32) then (if v29_s0 = (0 : Int32) then (0 : Int32) else (1 : Int32)) else (1 : Int32)) else (if v25_s0 = (0 : Int32) then (0 : Int32) else (if v29_s0 = (0 : Int32) then (0 : Int32) else (1 : Int32)))) → Stand p l e room_1 s m args below meth c T33 [] 0 0 → T33.heap = h0 → Gl p e below (Ret s 0 0 (Q0 n0)) (T33.setTop (mkF m 216 #[.val (.int kk), .val (.int xx), .val (.int u1), .val (.ref v2_l3), .val (.int v8_s0), .val (.int v10_s0), .val (.int v12_l6), .val (.int v25_s0), .val (.int v29_s0), .unset] [(.int v33_s0)])) by
    by_cases c180_34 : (f2 v2_l3 wA) = (0 : Int32)
    · refine Gl.up (B := T32.setTop (mkF m 203 #[.val (.int kk), .val (.int xx), .val (.int u1), .val (.ref v2_l3), .val (.int v8_s0), .val (.int v10_s0), .val (.int v12_l6), .val (.int v25_s0), .val (.int v29_s0), .unset] [(.int v25_s0)])) (fun t kt => ?_) ?_
      · show Steps p.tables e below (T32.setTop (mkF m 180 #[.val (.int kk), .val (.int xx), .val (.int u1), .val (.ref v2_l3), .val (.int v8_s0), .val (.int v10_s0), .val (.int v12_l6), .val (.int v25_s0), .val (.int v29_s0), .unset] [(.int (f2 v2_l3 wA))])) _
        refine XS.ifYes X32.here hx rfl (pc0 := 180) (pc' := 201) rfl (hb hby at_180) rfl ((if0 _ _).trans (teq c180_34).1) (by decide) (by decide) ?_
        show Steps p.tables e below (T32.setTop (mkF m 201 #[.val (.int kk), .val (.int xx), .val (.int u1), .val (.ref v2_l3), .val (.int v8_s0), .val (.int v10_s0), .val (.int v12_l6), .val (.int v25_s0), .val (.int v29_s0), .unset] [])) _
        refine XS.iload X32.here hx rfl (hb hby at_201) rfl ?_
        exact kt
      by_cases c203_35 : v25_s0 = (0 : Int32)
      · refine Gl.up (B := T32.setTop (mkF m 208 #[.val (.int kk), .val (.int xx), .val (.int u1), .val (.ref v2_l3), .val (.int v8_s0), .val (.int v10_s0), .val (.int v12_l6), .val (.int v25_s0), .val (.int v29_s0), .unset] [(.int v29_s0)])) (fun t kt => ?_) ?_
        · show Steps p.tables e below (T32.setTop (mkF m 203 #[.val (.int kk), .val (.int xx), .val (.int u1), .val (.ref v2_l3), .val (.int v8_s0), .val (.int v10_s0), .val (.int v12_l6), .val (.int v25_s0), .val (.int v29_s0), .unset] [(.int v25_s0)])) _
          refine XS.ifNo X32.here hx rfl (hb hby at_203) rfl ((if0 _ _).trans (teq c203_35).2) ?_
          show Steps p.tables e below (T32.setTop (mkF m 206 #[.val (.int kk), .val (.int xx), .val (.int u1), .val (.ref v2_l3), .val (.int v8_s0), .val (.int v10_s0), .val (.int v12_l6), .val (.int v25_s0), .val (.int v29_s0), .unset] [])) _
          refine XS.iload X32.here hx rfl (hb hby at_206) rfl ?_
          exact kt
        by_cases c208_36 : v29_s0 = (0 : Int32)
        · refine Gl.up (B := T32.setTop (mkF m 216 #[.val (.int kk), .val (.int xx), .val (.int u1), .val (.ref v2_l3), .val (.int v8_s0), .val (.int v10_s0), .val (.int v12_l6), .val (.int v25_s0), .val (.int v29_s0), .unset] [(.int (0 : Int32))])) (fun t kt => ?_) ?_
          · show Steps p.tables e below (T32.setTop (mkF m 208 #[.val (.int kk), .val (.int xx), .val (.int u1), .val (.ref v2_l3), .val (.int v8_s0), .val (.int v10_s0), .val (.int v12_l6), .val (.int v25_s0), .val (.int v29_s0), .unset] [(.int v29_s0)])) _
            refine XS.ifYes X32.here hx rfl (pc0 := 208) (pc' := 215) rfl (hb hby at_208) rfl ((if0 _ _).trans (teq c208_36).1) (by decide) (by decide) ?_
            show Steps p.tables e below (T32.setTop (mkF m 215 #[.val (.int kk), .val (.int xx), .val (.int u1), .val (.ref v2_l3), .val (.int v8_s0), .val (.int v10_s0), .val (.int v12_l6), .val (.int v25_s0), .val (.int v29_s0), .unset] [])) _
            refine XS.iconst X32.here hx rfl (hb hby at_215) ?_
            exact kt
          exact J33 _ (0 : Int32) (((if_pos c180_34).trans (if_pos c203_35)).trans (if_pos c208_36)).symm X32 e32
        · refine Gl.up (B := T32.setTop (mkF m 216 #[.val (.int kk), .val (.int xx), .val (.int u1), .val (.ref v2_l3), .val (.int v8_s0), .val (.int v10_s0), .val (.int v12_l6), .val (.int v25_s0), .val (.int v29_s0), .unset] [(.int (1 : Int32))])) (fun t kt => ?_) ?_
          · show Steps p.tables e below (T32.setTop (mkF m 208 #[.val (.int kk), .val (.int xx), .val (.int u1), .val (.ref v2_l3), .val (.int v8_s0), .val (.int v10_s0), .val (.int v12_l6), .val (.int v25_s0), .val (.int v29_s0), .unset] [(.int v29_s0)])) _
            refine XS.ifNo X32.here hx rfl (hb hby at_208) rfl ((if0 _ _).trans (feq c208_36).1) ?_
            show Steps p.tables e below (T32.setTop (mkF m 211 #[.val (.int kk), .val (.int xx), .val (.int u1), .val (.ref v2_l3), .val (.int v8_s0), .val (.int v10_s0), .val (.int v12_l6), .val (.int v25_s0), .val (.int v29_s0), .unset] [])) _
            refine XS.iconst X32.here hx rfl (hb hby at_211) ?_
            show Steps p.tables e below (T32.setTop (mkF m 212 #[.val (.int kk), .val (.int xx), .val (.int u1), .val (.ref v2_l3), .val (.int v8_s0), .val (.int v10_s0), .val (.int v12_l6), .val (.int v25_s0), .val (.int v29_s0), .unset] [(.int (1 : Int32))])) _
            refine XS.goto X32.here hx rfl (pc0 := 212) (pc' := 216) rfl (hb hby at_212) (by decide) (by decide) ?_
            exact kt
          exact J33 _ (1 : Int32) (((if_pos c180_34).trans (if_pos c203_35)).trans (if_neg c208_36)).symm X32 e32
      · refine Gl.up (B := T32.setTop (mkF m 216 #[.val (.int kk), .val (.int xx), .val (.int u1), .val (.ref v2_l3), .val (.int v8_s0), .val (.int v10_s0), .val (.int v12_l6), .val (.int v25_s0), .val (.int v29_s0), .unset] [(.int (1 : Int32))])) (fun t kt => ?_) ?_
        · show Steps p.tables e below (T32.setTop (mkF m 203 #[.val (.int kk), .val (.int xx), .val (.int u1), .val (.ref v2_l3), .val (.int v8_s0), .val (.int v10_s0), .val (.int v12_l6), .val (.int v25_s0), .val (.int v29_s0), .unset] [(.int v25_s0)])) _
          refine XS.ifYes X32.here hx rfl (pc0 := 203) (pc' := 211) rfl (hb hby at_203) rfl ((if0 _ _).trans (feq c203_35).2) (by decide) (by decide) ?_
          show Steps p.tables e below (T32.setTop (mkF m 211 #[.val (.int kk), .val (.int xx), .val (.int u1), .val (.ref v2_l3), .val (.int v8_s0), .val (.int v10_s0), .val (.int v12_l6), .val (.int v25_s0), .val (.int v29_s0), .unset] [])) _
          refine XS.iconst X32.here hx rfl (hb hby at_211) ?_
          show Steps p.tables e below (T32.setTop (mkF m 212 #[.val (.int kk), .val (.int xx), .val (.int u1), .val (.ref v2_l3), .val (.int v8_s0), .val (.int v10_s0), .val (.int v12_l6), .val (.int v25_s0), .val (.int v29_s0), .unset] [(.int (1 : Int32))])) _
          refine XS.goto X32.here hx rfl (pc0 := 212) (pc' := 216) rfl (hb hby at_212) (by decide) (by decide) ?_
          exact kt
        exact J33 _ (1 : Int32) ((if_pos c180_34).trans (if_neg c203_35)).symm X32 e32
    · refine Gl.up (B := T32.setTop (mkF m 185 #[.val (.int kk), .val (.int xx), .val (.int u1), .val (.ref v2_l3), .val (.int v8_s0), .val (.int v10_s0), .val (.int v12_l6), .val (.int v25_s0), .val (.int v29_s0), .unset] [(.int v25_s0)])) (fun t kt => ?_) ?_
      · show Steps p.tables e below (T32.setTop (mkF m 180 #[.val (.int kk), .val (.int xx), .val (.int u1), .val (.ref v2_l3), .val (.int v8_s0), .val (.int v10_s0), .val (.int v12_l6), .val (.int v25_s0), .val (.int v29_s0), .unset] [(.int (f2 v2_l3 wA))])) _
        refine XS.ifNo X32.here hx rfl (hb hby at_180) rfl ((if0 _ _).trans (feq c180_34).1) ?_
        show Steps p.tables e below (T32.setTop (mkF m 183 #[.val (.int kk), .val (.int xx), .val (.int u1), .val (.ref v2_l3), .val (.int v8_s0), .val (.int v10_s0), .val (.int v12_l6), .val (.int v25_s0), .val (.int v29_s0), .unset] [])) _
        refine XS.iload X32.here hx rfl (hb hby at_183) rfl ?_
        exact kt
      by_cases c185_37 : v25_s0 = (0 : Int32)
      · refine Gl.up (B := T32.setTop (mkF m 216 #[.val (.int kk), .val (.int xx), .val (.int u1), .val (.ref v2_l3), .val (.int v8_s0), .val (.int v10_s0), .val (.int v12_l6), .val (.int v25_s0), .val (.int v29_s0), .unset] [(.int (0 : Int32))])) (fun t kt => ?_) ?_
        · show Steps p.tables e below (T32.setTop (mkF m 185 #[.val (.int kk), .val (.int xx), .val (.int u1), .val (.ref v2_l3), .val (.int v8_s0), .val (.int v10_s0), .val (.int v12_l6), .val (.int v25_s0), .val (.int v29_s0), .unset] [(.int v25_s0)])) _
          refine XS.ifYes X32.here hx rfl (pc0 := 185) (pc' := 197) rfl (hb hby at_185) rfl ((if0 _ _).trans (teq c185_37).1) (by decide) (by decide) ?_
          show Steps p.tables e below (T32.setTop (mkF m 197 #[.val (.int kk), .val (.int xx), .val (.int u1), .val (.ref v2_l3), .val (.int v8_s0), .val (.int v10_s0), .val (.int v12_l6), .val (.int v25_s0), .val (.int v29_s0), .unset] [])) _
          refine XS.iconst X32.here hx rfl (hb hby at_197) ?_
          show Steps p.tables e below (T32.setTop (mkF m 198 #[.val (.int kk), .val (.int xx), .val (.int u1), .val (.ref v2_l3), .val (.int v8_s0), .val (.int v10_s0), .val (.int v12_l6), .val (.int v25_s0), .val (.int v29_s0), .unset] [(.int (0 : Int32))])) _
          refine XS.goto X32.here hx rfl (pc0 := 198) (pc' := 216) rfl (hb hby at_198) (by decide) (by decide) ?_
          exact kt
        exact J33 _ (0 : Int32) ((if_neg c180_34).trans (if_pos c185_37)).symm X32 e32
      · refine Gl.up (B := T32.setTop (mkF m 190 #[.val (.int kk), .val (.int xx), .val (.int u1), .val (.ref v2_l3), .val (.int v8_s0), .val (.int v10_s0), .val (.int v12_l6), .val (.int v25_s0), .val (.int v29_s0), .unset] [(.int v29_s0)])) (fun t kt => ?_) ?_
        · show Steps p.tables e below (T32.setTop (mkF m 185 #[.val (.int kk), .val (.int xx), .val (.int u1), .val (.ref v2_l3), .val (.int v8_s0), .val (.int v10_s0), .val (.int v12_l6), .val (.int v25_s0), .val (.int v29_s0), .unset] [(.int v25_s0)])) _
          refine XS.ifNo X32.here hx rfl (hb hby at_185) rfl ((if0 _ _).trans (feq c185_37).1) ?_
          show Steps p.tables e below (T32.setTop (mkF m 188 #[.val (.int kk), .val (.int xx), .val (.int u1), .val (.ref v2_l3), .val (.int v8_s0), .val (.int v10_s0), .val (.int v12_l6), .val (.int v25_s0), .val (.int v29_s0), .unset] [])) _
          refine XS.iload X32.here hx rfl (hb hby at_188) rfl ?_
          exact kt
        by_cases c190_38 : v29_s0 = (0 : Int32)
        · refine Gl.up (B := T32.setTop (mkF m 216 #[.val (.int kk), .val (.int xx), .val (.int u1), .val (.ref v2_l3), .val (.int v8_s0), .val (.int v10_s0), .val (.int v12_l6), .val (.int v25_s0), .val (.int v29_s0), .unset] [(.int (0 : Int32))])) (fun t kt => ?_) ?_
          · show Steps p.tables e below (T32.setTop (mkF m 190 #[.val (.int kk), .val (.int xx), .val (.int u1), .val (.ref v2_l3), .val (.int v8_s0), .val (.int v10_s0), .val (.int v12_l6), .val (.int v25_s0), .val (.int v29_s0), .unset] [(.int v29_s0)])) _
            refine XS.ifYes X32.here hx rfl (pc0 := 190) (pc' := 197) rfl (hb hby at_190) rfl ((if0 _ _).trans (teq c190_38).1) (by decide) (by decide) ?_
            show Steps p.tables e below (T32.setTop (mkF m 197 #[.val (.int kk), .val (.int xx), .val (.int u1), .val (.ref v2_l3), .val (.int v8_s0), .val (.int v10_s0), .val (.int v12_l6), .val (.int v25_s0), .val (.int v29_s0), .unset] [])) _
            refine XS.iconst X32.here hx rfl (hb hby at_197) ?_
            show Steps p.tables e below (T32.setTop (mkF m 198 #[.val (.int kk), .val (.int xx), .val (.int u1), .val (.ref v2_l3), .val (.int v8_s0), .val (.int v10_s0), .val (.int v12_l6), .val (.int v25_s0), .val (.int v29_s0), .unset] [(.int (0 : Int32))])) _
            refine XS.goto X32.here hx rfl (pc0 := 198) (pc' := 216) rfl (hb hby at_198) (by decide) (by decide) ?_
            exact kt
          exact J33 _ (0 : Int32) (((if_neg c180_34).trans (if_neg c185_37)).trans (if_pos c190_38)).symm X32 e32
        · refine Gl.up (B := T32.setTop (mkF m 216 #[.val (.int kk), .val (.int xx), .val (.int u1), .val (.ref v2_l3), .val (.int v8_s0), .val (.int v10_s0), .val (.int v12_l6), .val (.int v25_s0), .val (.int v29_s0), .unset] [(.int (1 : Int32))])) (fun t kt => ?_) ?_
          · show Steps p.tables e below (T32.setTop (mkF m 190 #[.val (.int kk), .val (.int xx), .val (.int u1), .val (.ref v2_l3), .val (.int v8_s0), .val (.int v10_s0), .val (.int v12_l6), .val (.int v25_s0), .val (.int v29_s0), .unset] [(.int v29_s0)])) _
            refine XS.ifNo X32.here hx rfl (hb hby at_190) rfl ((if0 _ _).trans (feq c190_38).1) ?_
            show Steps p.tables e below (T32.setTop (mkF m 193 #[.val (.int kk), .val (.int xx), .val (.int u1), .val (.ref v2_l3), .val (.int v8_s0), .val (.int v10_s0), .val (.int v12_l6), .val (.int v25_s0), .val (.int v29_s0), .unset] [])) _
            refine XS.iconst X32.here hx rfl (hb hby at_193) ?_
            show Steps p.tables e below (T32.setTop (mkF m 194 #[.val (.int kk), .val (.int xx), .val (.int u1), .val (.ref v2_l3), .val (.int v8_s0), .val (.int v10_s0), .val (.int v12_l6), .val (.int v25_s0), .val (.int v29_s0), .unset] [(.int (1 : Int32))])) _
            refine XS.goto X32.here hx rfl (pc0 := 194) (pc' := 216) rfl (hb hby at_194) (by decide) (by decide) ?_
            exact kt
          exact J33 _ (1 : Int32) (((if_neg c180_34).trans (if_neg c185_37)).trans (if_neg c190_38)).symm X32 e32
  intro T33 v33_s0 hv33_s0 X33 e33
  have hv33_s0b : v33_s0 = 0 ∨ v33_s0 = 1 := by rw [hv33_s0]; exact (b01_ite (b01_ite (b01_ite (Or.inl rfl) (Or.inr rfl)) (Or.inr rfl)) (b01_ite (Or.inl rfl) (b01_ite (Or.inl rfl) (Or.inr rfl))))
  refine Gl.up (B := T33.setTop (mkF m 230 #[.val (.int kk), .val (.int xx), .val (.int u1), .val (.ref v2_l3), .val (.int v8_s0), .val (.int v10_s0), .val (.int v12_l6), .val (.int v25_s0), .val (.int v29_s0), .val (.int v33_s0)] [(.int (1 : Int32))])) (fun t kt => ?_) ?_
  · show Steps p.tables e below (T33.setTop (mkF m 216 #[.val (.int kk), .val (.int xx), .val (.int u1), .val (.ref v2_l3), .val (.int v8_s0), .val (.int v10_s0), .val (.int v12_l6), .val (.int v25_s0), .val (.int v29_s0), .unset] [(.int v33_s0)])) _
    refine XS.istore X33.here hx rfl (hb hby at_216) rfl (l' := #[.val (.int kk), .val (.int xx), .val (.int u1), .val (.ref v2_l3), .val (.int v8_s0), .val (.int v10_s0), .val (.int v12_l6), .val (.int v25_s0), .val (.int v29_s0), .val (.int v33_s0)]) rfl ?_
    show Steps p.tables e below (T33.setTop (mkF m 218 #[.val (.int kk), .val (.int xx), .val (.int u1), .val (.ref v2_l3), .val (.int v8_s0), .val (.int v10_s0), .val (.int v12_l6), .val (.int v25_s0), .val (.int v29_s0), .val (.int v33_s0)] [])) _
    refine XS.iload X33.here hx rfl (hb hby at_218) rfl ?_
    show Steps p.tables e below (T33.setTop (mkF m 220 #[.val (.int kk), .val (.int xx), .val (.int u1), .val (.ref v2_l3), .val (.int v8_s0), .val (.int v10_s0), .val (.int v12_l6), .val (.int v25_s0), .val (.int v29_s0), .val (.int v33_s0)] [(.int v33_s0)])) _
    refine XS.iload X33.here hx rfl (hb hby at_220) rfl ?_
    show Steps p.tables e below (T33.setTop (mkF m 222 #[.val (.int kk), .val (.int xx), .val (.int u1), .val (.ref v2_l3), .val (.int v8_s0), .val (.int v10_s0), .val (.int v12_l6), .val (.int v25_s0), .val (.int v29_s0), .val (.int v33_s0)] [(.int v12_l6), (.int v33_s0)])) _
    refine XS.icmpNo X33.here hx rfl (hb hby at_222) rfl (teq (own_main (by rw [hu1]; exact own_k3 kk) nAF nLF nLA nFA hv2_l3 hv8_s0b hv10_s0b hv12_l6 hv25_s0 hv29_s0 hv33_s0)).2 ?_
    show Steps p.tables e below (T33.setTop (mkF m 225 #[.val (.int kk), .val (.int xx), .val (.int u1), .val (.ref v2_l3), .val (.int v8_s0), .val (.int v10_s0), .val (.int v12_l6), .val (.int v25_s0), .val (.int v29_s0), .val (.int v33_s0)] [])) _
    refine XS.iconst X33.here hx rfl (hb hby at_225) ?_
    show Steps p.tables e below (T33.setTop (mkF m 226 #[.val (.int kk), .val (.int xx), .val (.int u1), .val (.ref v2_l3), .val (.int v8_s0), .val (.int v10_s0), .val (.int v12_l6), .val (.int v25_s0), .val (.int v29_s0), .val (.int v33_s0)] [(.int (1 : Int32))])) _
    refine XS.goto X33.here hx rfl (pc0 := 226) (pc' := 230) rfl (hb hby at_226) (by decide) (by decide) ?_
    exact kt
  refine Gl.retN X33 hx hlk (t := .boolean) Bd.returns (by simp) (hb hby at_230) (w := (1 : Int32)) rfl ?_ (by decide) (by decide)
  exact ⟨rfl, N0⟩
set_option maxRecDepth 65536 in
set_option maxHeartbeats 40000000 in
theorem comes_1 {Post : Tables → Env → Array Value → State → Outcome → State → Prop} (hpost : ∀ tb e args s v u, (limb_1_1.after args s (.returned v) u = true ∧ limb_1_2.after args s (.returned v) u = true) → FrameEnd s (.returned v) u (Jvm.fieldLocs frame_1_writes args s ++ Jvm.arrayLocs frame_1_arrays args s ++ Jvm.staticLocs frame_1_statics s) 0 0 → Post tb e args s (.returned v) u) :
    ArmFor flags0 classFile x code maxLocals ret World_1 tables_1 room_1 Calls_1 rest_1 Pre_1 Post := by
  intro l hfl _ _ p e ha hc hk s m args below hf hA hF happ hP
  obtain ⟨hcalls, hrest, hpre⟩ := hP
  obtain ⟨-, -, -, hnamed, -, -, -, hat⟩ := (Spec.applies_iff hf).mp happ
  obtain ⟨hg, hn⟩ := and_e (Cond.before_iff.mp (show (Jvm.Cond.and given_1 narrow_1).before args s = true from hpre))
  obtain ⟨hcnt, hg0⟩ := and_e hg
  obtain ⟨ha0, hg1⟩ := and_e hg0
  obtain ⟨w0, w1, rfl⟩ : ∃ w0 w1 : Value, args = #[w0, w1] := by
    have hs : args.size = 2 := by simpa [Cond.value, given_1] using hcnt
    obtain ⟨L⟩ := args
    match L, hs with
    | [w0, w1], _ => exact ⟨w0, w1, rfl⟩
  have hw := fun d (hd : d ∈ tables_1) => atoms_spec (ws := Jvm.Cond.code x code maxLocals ret :: tables_1) hat d (List.mem_cons_of_mem _ hd)
  obtain ⟨i0, ei0⟩ := is_v ha0
  obtain rfl : w0 = (.int i0) := Option.some.inj ei0
  obtain ⟨i1, ei1⟩ := is_v hg1
  obtain rfl : w1 = (.int i1) := Option.some.inj ei1
  obtain ⟨hn0, hm0⟩ := and_e hn
  obtain ⟨hn1, hm1⟩ := and_e hm0
  obtain ⟨hn2, hm2⟩ := and_e hm1
  obtain ⟨hn3, hm3⟩ := and_e hm2
  obtain ⟨hn4, hm4⟩ := and_e hm3
  have hn5 := hm4
  obtain ⟨wA, ev_wA⟩ := exa_v hn0
  have E_wA : Exa s s.heap wA "com/example/relation_check/relationcheck/rules/Rewrite$Join" := Exa.start ev_wA hn0
  have S_wA : Sta s s.heap "com/example/relation_check/relationcheck/rules/Rewrite$Join" "ANY" "Lcom/example/relation_check/relationcheck/rules/Rewrite$Join;" (.ref wA) := Sta.start ev_wA (Or.inr ⟨(hw _ (List.mem_of_getElem? (i := 2) rfl)), (hw _ (List.mem_of_getElem? (i := 3) rfl))⟩)
  obtain ⟨wF, ev_wF⟩ := exa_v hn1
  have E_wF : Exa s s.heap wF "com/example/relation_check/relationcheck/rules/Rewrite$Join" := Exa.start ev_wF hn1
  have S_wF : Sta s s.heap "com/example/relation_check/relationcheck/rules/Rewrite$Join" "FIRST_BUT_NOT_SECOND" "Lcom/example/relation_check/relationcheck/rules/Rewrite$Join;" (.ref wF) := Sta.start ev_wF (Or.inr ⟨(hw _ (List.mem_of_getElem? (i := 2) rfl)), (hw _ (List.mem_of_getElem? (i := 10) rfl))⟩)
  obtain ⟨wL, ev_wL⟩ := exa_v hn4
  have E_wL : Exa s s.heap wL "com/example/relation_check/relationcheck/rules/Rewrite$Join" := Exa.start ev_wL hn4
  have S_wL : Sta s s.heap "com/example/relation_check/relationcheck/rules/Rewrite$Join" "ALL" "Lcom/example/relation_check/relationcheck/rules/Rewrite$Join;" (.ref wL) := Sta.start ev_wL (Or.inr ⟨(hw _ (List.mem_of_getElem? (i := 2) rfl)), (hw _ (List.mem_of_getElem? (i := 19) rfl))⟩)
  have F_wA : Fld s s.heap wA "java/lang/Enum" "ordinal" "I" (.int (0 : Int32)) := Fld.start (own_eqF ev_wA hn2)
  have F_wF : Fld s s.heap wF "java/lang/Enum" "ordinal" "I" (.int (2 : Int32)) := Fld.start (own_eqF ev_wF hn3)
  have F_wL : Fld s s.heap wL "java/lang/Enum" "ordinal" "I" (.int (1 : Int32)) := Fld.start (own_eqF ev_wL hn5)
  have nAF : wA ≠ wF := F_wA.ne F_wF (by decide)
  have nLF : wL ≠ wF := F_wL.ne F_wF (by decide)
  have nLA : wL ≠ wA := F_wL.ne F_wA (by decide)
  have nFA : wF ≠ wA := F_wF.ne F_wA (by decide)
  obtain ⟨n, o, h1, h2, h3, _, L, rfl, ⟨rfl, N⟩, hq⟩ := rm0 l s _ hw tables_1 i0 i1 wA wL wF s.heap s.heap.size (Old.start s) S_wA S_wL S_wF E_wA E_wL E_wF nAF nLF nLA nFA p e ha hc hk s m _ below hf ((Spec.applies_iff_loose hf).mp happ).1 ⟨rfl, State.Warmed39.refl s, rfl⟩ trivial
  exact ⟨n, _, h1, h2, h3, hpost _ _ _ _ _ _ ⟨Cond.after_iff.mpr rfl, Cond.after_iff.mpr (eq_i res_at (Term.int_eval (1)) rfl)⟩ ⟨hq.1, hq.2.1, (hq.2.2.sift fun y hy => Or.inr (N y hy)).mono (by decide) (by decide)⟩⟩
theorem main_1_1 : Claimed_1_1 := comes_1 fun _ _ _ _ _ _ h hF => ⟨h.1, hF⟩
theorem main_1_2 : Claimed_1_2 := comes_1 fun _ _ _ _ _ _ h hF => ⟨h.2, hF⟩
end Jvm.Pilot.@@N@@
namespace Jvm.Pilot.@@N@@
open Jvm Jvm.ClassFile Sem Op Lib Jvm.Free Jvm.Stand Jvm.Pilot.@@N@@.Jvm.D
/-! MADE BY PROGRAM (witnessworld.py) out of the Statement's table words and the real class files: 12 classes; the members and pool entries that the words name. The judged class is class 1, her method 1. -/
namespace start1
open Jvm.ClassFile
def u (s : String) : CpInfo := .utf8 (stringToUtf16 s)
/-- a pool by its gaps: so many unusable entries, then the entry; so many at the end -/
def gap : Nat → List CpInfo → List CpInfo
  | 0, r => r
  | n + 1, r => .unusable :: gap n r
def poolList (es : List (Nat × CpInfo)) (last : Nat) : List CpInfo := es.foldr (fun e r => gap e.1 (e.2 :: r)) (gap last [])
def pool (es : List (Nat × CpInfo)) (last : Nat) : Array CpInfo := ⟨poolList es last⟩
def fileOf (pool : Array CpInfo) (this : Nat) (attrs : Array Attribute := #[]) (ms : Array MethodInfo := #[]) (fl : Nat := 33) (sup : Nat := 0) (ifs : Array Nat := #[]) (fds : Array FieldInfo := #[]) : ClassFile where
  minorVersion := 0
  majorVersion := 65
  constantPool := pool
  accessFlags := fl
  thisClass := this
  superClass := sup
  interfaces := ifs
  fields := fds
  methods := ms
  attributes := attrs
def plain (name : String) (sup : Option ClassId) : Class where
  name := name
  kind := .ordinary
  loader := none
  accessFlags := 33
  super := sup
  interfaces := #[]
  cf := none
  fields := #[]
  methods := #[]
  instanceTypes := #[]
  staticTypes := #[]
  resolved := #[]
  callSites := []
  init := .initialized
  statics := none
  mirror := none

def pool0 : Array CpInfo := pool [(5, u "<init>"), (0, u "()V"), (1, .class_ 10), (1, u "java/lang/Object")] 113

def k0m0 : Method := { name := "<init>", desc := "()V", sig := { parameters := [], returnType := none }, accessFlags := 1, code := none }
/-- java/lang/Object -/
def k0 : Class := { plain "java/lang/Object" none with
  accessFlags := 33
  interfaces := #[]
  cf := some (fileOf pool0 8 #[] #[{ accessFlags := 1, nameIndex := 5, descriptorIndex := 6, attributes := #[] }] 33 0 #[] #[])
  fields := #[]
  methods := #[k0m0]
  instanceTypes := #[]
  staticTypes := #[]
  resolved := Array.replicate 124 none
  statics := none }

def pool1 : Array CpInfo := pool [(2, .class_ 4), (1, u "java/lang/Object"), (0, u "<init>"), (0, u "()V"), (0, .integer 2147483647), (0, .fieldref 9 10), (0, .class_ 11), (0, .nameAndType 12 13), (0, u "com/example/relation_check/relationcheck/rules/Rewrite$Join"), (0, u "ANY"), (0, u "Lcom/example/relation_check/relationcheck/rules/Rewrite$Join;"), (0, .fieldref 9 15), (0, .nameAndType 16 13), (0, u "ALL"), (0, .fieldref 9 18), (0, .nameAndType 19 13), (0, u "FIRST_BUT_NOT_SECOND"), (0, .methodref 9 21), (0, .nameAndType 22 23), (0, u "subtracts"), (0, u "(I)Z"), (0, .methodref 9 25), (0, .nameAndType 26 27), (0, u "needsAll"), (0, u "()Z"), (0, .class_ 29), (0, u "com/example/relation_check/relationcheck/rules/JoinNeedsAllPinLaw"), (2, u "law"), (0, u "(II)Z")] 7

def k1m0 : Method := { name := "<init>", desc := "()V", sig := { parameters := [], returnType := none }, accessFlags := 1, code := none }
def k1c1 : Code := { maxStack := 2, maxLocals := 10, code := code, exceptionTable := #[], attributes := #[] }
def k1m1 : Method := { name := "law", desc := "(II)Z", sig := { parameters := [.int, .int], returnType := some .boolean }, accessFlags := 9, code := some k1c1 }
/-- com/example/relation_check/relationcheck/rules/JoinNeedsAllPinLaw -/
def k1 : Class := { plain "com/example/relation_check/relationcheck/rules/JoinNeedsAllPinLaw" (some 0) with
  accessFlags := 49
  interfaces := #[]
  cf := some (fileOf pool1 28 #[] #[{ accessFlags := 1, nameIndex := 5, descriptorIndex := 6, attributes := #[] }, { accessFlags := 9, nameIndex := 32, descriptorIndex := 33, attributes := #[] }] 49 2 #[] #[])
  fields := #[]
  methods := #[k1m0, k1m1]
  instanceTypes := #[]
  staticTypes := #[]
  resolved := Array.replicate 41 none
  statics := none }

def pool2 : Array CpInfo := pool [(1, .class_ 2), (0, u "java/lang/constant/Constable"), (0, .class_ 4), (0, u "java/lang/Object")] 6

/-- java/lang/constant/Constable -/
def k2 : Class := { plain "java/lang/constant/Constable" (some 0) with
  accessFlags := 1537
  interfaces := #[]
  cf := some (fileOf pool2 1 #[] #[] 1537 3 #[] #[])
  fields := #[]
  methods := #[]
  instanceTypes := #[]
  staticTypes := #[]
  resolved := Array.replicate 11 none
  statics := none }

def pool3 : Array CpInfo := pool [(1, .class_ 2), (0, u "java/lang/Comparable"), (0, .class_ 4), (0, u "java/lang/Object")] 7

/-- java/lang/Comparable -/
def k3 : Class := { plain "java/lang/Comparable" (some 0) with
  accessFlags := 1537
  interfaces := #[]
  cf := some (fileOf pool3 1 #[] #[] 1537 3 #[] #[])
  fields := #[]
  methods := #[]
  instanceTypes := #[]
  staticTypes := #[]
  resolved := Array.replicate 12 none
  statics := none }

def pool4 : Array CpInfo := pool [(1, .class_ 2), (0, u "java/io/Serializable"), (0, .class_ 4), (0, u "java/lang/Object")] 2

/-- java/io/Serializable -/
def k4 : Class := { plain "java/io/Serializable" (some 0) with
  accessFlags := 1537
  interfaces := #[]
  cf := some (fileOf pool4 1 #[] #[] 1537 3 #[] #[])
  fields := #[]
  methods := #[]
  instanceTypes := #[]
  staticTypes := #[]
  resolved := Array.replicate 7 none
  statics := none }

def pool5 : Array CpInfo := pool [(2, .class_ 4), (1, u "java/lang/Enum"), (0, u "name"), (0, u "Ljava/lang/String;"), (2, u "ordinal"), (0, u "I"), (1, .class_ 14), (1, u "java/lang/Object"), (4, u "hash"), (86, .class_ 108), (1, u "java/lang/Enum$EnumDesc"), (2, .class_ 112), (0, u "java/lang/constant/Constable"), (0, .class_ 114), (0, u "java/lang/Comparable"), (0, .class_ 116), (0, u "java/io/Serializable")] 87

/-- java/lang/Enum -/
def k5 : Class := { plain "java/lang/Enum" (some 0) with
  accessFlags := 1057
  interfaces := #[2, 3, 4]
  cf := some (fileOf pool5 2 #[.nestMembers #[106]] #[] 1057 12 #[111, 113, 115] #[{ accessFlags := 18, nameIndex := 5, descriptorIndex := 6, attributes := #[] }, { accessFlags := 18, nameIndex := 9, descriptorIndex := 10, attributes := #[] }, { accessFlags := 2, nameIndex := 19, descriptorIndex := 10, attributes := #[] }])
  fields := #[{ name := "name", type := (.object "java/lang/String"), accessFlags := 18, slot := 0, constantValue := 0 }, { name := "ordinal", type := .int, accessFlags := 18, slot := 1, constantValue := 0 }, { name := "hash", type := .int, accessFlags := 2, slot := 2, constantValue := 0 }]
  methods := #[]
  instanceTypes := #[(.object "java/lang/String"), .int, .int]
  staticTypes := #[]
  resolved := Array.replicate 204 none
  statics := none }

def pool6 : Array CpInfo := pool [(1, .class_ 2), (0, u "com/example/relation_check/relationcheck/rules/Rewrite$Join"), (0, .fieldref 1 4), (0, .nameAndType 5 6), (0, u "ANY"), (0, u "Lcom/example/relation_check/relationcheck/rules/Rewrite$Join;"), (2, u "ALL"), (0, .fieldref 1 11), (0, .nameAndType 12 6), (0, u "FIRST_BUT_NOT_SECOND"), (2, u "$VALUES"), (0, u "[Lcom/example/relation_check/relationcheck/rules/Rewrite$Join;"), (6, .class_ 25), (1, u "java/lang/Enum"), (21, u "needsAll"), (0, u "()Z"), (1, u "subtracts"), (0, u "(I)Z"), (5, .class_ 58), (0, u "com/example/relation_check/relationcheck/rules/Rewrite")] 2

def k6c0 : Code := { maxStack := 2, maxLocals := 1, code := prog_19_method_4_code, exceptionTable := #[], attributes := #[] }
def k6m0 : Method := { name := "needsAll", desc := "()Z", sig := { parameters := [], returnType := some .boolean }, accessFlags := 1, code := some k6c0 }
def k6c1 : Code := { maxStack := 2, maxLocals := 2, code := prog_19_method_5_code, exceptionTable := #[], attributes := #[] }
def k6m1 : Method := { name := "subtracts", desc := "(I)Z", sig := { parameters := [.int], returnType := some .boolean }, accessFlags := 1, code := some k6c1 }
/-- com/example/relation_check/relationcheck/rules/Rewrite$Join -/
def k6 : Class := { plain "com/example/relation_check/relationcheck/rules/Rewrite$Join" (some 5) with
  accessFlags := 16433
  interfaces := #[]
  cf := some (fileOf pool6 1 #[.nestHost 57] #[{ accessFlags := 1, nameIndex := 47, descriptorIndex := 48, attributes := #[] }, { accessFlags := 1, nameIndex := 50, descriptorIndex := 51, attributes := #[] }] 16433 23 #[] #[{ accessFlags := 16409, nameIndex := 5, descriptorIndex := 6, attributes := #[] }, { accessFlags := 16409, nameIndex := 9, descriptorIndex := 6, attributes := #[] }, { accessFlags := 16409, nameIndex := 12, descriptorIndex := 6, attributes := #[] }, { accessFlags := 4122, nameIndex := 15, descriptorIndex := 16, attributes := #[] }])
  fields := #[{ name := "ANY", type := (.object "com/example/relation_check/relationcheck/rules/Rewrite$Join"), accessFlags := 16409, slot := 0, constantValue := 0 }, { name := "ALL", type := (.object "com/example/relation_check/relationcheck/rules/Rewrite$Join"), accessFlags := 16409, slot := 1, constantValue := 0 }, { name := "FIRST_BUT_NOT_SECOND", type := (.object "com/example/relation_check/relationcheck/rules/Rewrite$Join"), accessFlags := 16409, slot := 2, constantValue := 0 }, { name := "$VALUES", type := (.array (.object "com/example/relation_check/relationcheck/rules/Rewrite$Join")), accessFlags := 4122, slot := 3, constantValue := 0 }]
  methods := #[k6m0, k6m1]
  instanceTypes := #[(.object "java/lang/String"), .int, .int]
  staticTypes := #[(.object "com/example/relation_check/relationcheck/rules/Rewrite$Join"), (.object "com/example/relation_check/relationcheck/rules/Rewrite$Join"), (.object "com/example/relation_check/relationcheck/rules/Rewrite$Join"), (.array (.object "com/example/relation_check/relationcheck/rules/Rewrite$Join"))]
  resolved := Array.replicate 61 none
  statics := some 0 }

def pool7 : Array CpInfo := pool [(1, u "java/lang/Cloneable"), (0, .class_ 1), (0, u "java/lang/Object"), (0, .class_ 3)] 3

/-- java/lang/Cloneable -/
def k7 : Class := { plain "java/lang/Cloneable" (some 0) with
  accessFlags := 1537
  interfaces := #[]
  cf := some (fileOf pool7 2 #[] #[] 1537 4 #[] #[])
  fields := #[]
  methods := #[]
  instanceTypes := #[]
  staticTypes := #[]
  resolved := Array.replicate 8 none
  statics := none }

/-- the primitive byte -/
def k8 : Class := { plain "byte" none with kind := .primitive 'B', accessFlags := 0x411 }
/-- [B -/
def k9 : Class := { plain "[B" (some 0) with kind := .array 8 .byte, interfaces := #[7, 4], accessFlags := 1041 }

/-- the primitive int -/
def k10 : Class := { plain "int" none with kind := .primitive 'I', accessFlags := 0x411 }
/-- [I -/
def k11 : Class := { plain "[I" (some 0) with kind := .array 10 .int, interfaces := #[7, 4], accessFlags := 1041 }

def heap : Heap := #[{ cls := 6, slots := #[.ref 1, .ref 2, .ref 3, .null], vm := .statics 6 },
  { cls := 6, slots := #[.null, .int 0, .int 0], vm := .none },
  { cls := 6, slots := #[.null, .int 1, .int 0], vm := .none },
  { cls := 6, slots := #[.null, .int 2, .int 0], vm := .none }]
def classes : Array Class := #[k0, k1, k2, k3, k4, k5, k6, k7, k8, k9, k10, k11]
def interned : List (Array UInt16 × Addr) := []
def slotsUsed : Nat := 13
def theMethod : MethodId := ⟨1, 1⟩
def args0 : Array Value := #[.int 5, .int 1]
def aboutOver (below : List Frame) : State where
  vm := { classes := classes, interned := interned.toArray }
  heap := heap
  slotsUsed := slotsUsed
  threads := #[{ frames := .invoking theMethod args0 :: below }]
def below0 : List Frame := [.native { method := ⟨0, 0⟩, args := #[] }]
def about1 : State := aboutOver below0
def p0 : Program := .bare "" "" ""
def e0 : Env := launch0.env 0 0 0
theorem w_frames : about1.frames = Frame.invoking theMethod args0 :: below0 := rfl
set_option maxRecDepth 65536 in
theorem w_args : argsFit about1.vm theMethod args0 = true := by decide +kernel
set_option maxRecDepth 65536 in
theorem w_heap : heapFits about1 = true := by decide +kernel
set_option maxRecDepth 65536 in
theorem w_runnable : about1.curStatus? = some .runnable := by decide +kernel
set_option maxRecDepth 65536 in
theorem w_alone : about1.alone = true := by decide +kernel
set_option maxRecDepth 65536 in
theorem w_named : about1.methodNamed? x = some theMethod := by decide +kernel
set_option maxRecDepth 65536 in
theorem w_hears : about1.hears theMethod below0 = true := by decide +kernel
set_option maxRecDepth 65536 in
theorem w_ripe : about1.ripe theMethod args0 below0 = true := by decide +kernel
theorem w_running : about1.status = .running := rfl
set_option maxRecDepth 65536 in
theorem w_room : about1.hasRoom e0.platform room_1 = true :=
  launch0.hasRoom_least _ room_1 (by decide +kernel) (by decide +kernel) (by decide +kernel) (by decide +kernel) (by decide +kernel) (by decide +kernel)
theorem allAtoms_all (ts : List Jvm.Cond) (a : Array Jvm.Value) (st : Jvm.State) : (allAtoms ts).before a st = ts.all (fun c => c.before a st) := by
  induction ts with
  | nil => rfl
  | cons c t ih =>
    show (Jvm.Cond.and c (allAtoms t)).before a st = _
    rw [Jvm.Cond.before_and, ih, List.all_cons]
def words1 : List Jvm.Cond := Jvm.Cond.code x code maxLocals ret :: tables_1
/-- a 'code' word, met by the world's own term for the bytes: nothing is compared byte by byte -/
theorem code_word {y : MethodName} {bytes : ByteArray} {mx : Nat} {rt : Option FieldType} {a : Array Value} {s : State} {m : MethodId} {meth : Method} {c : Code} (h1 : s.methodNamed? y = some m) (h2 : s.vm.method? m = some meth) (h3 : meth.code = some c) (h4 : c.code = bytes)
    (h5 : (c.maxLocals == mx && c.exceptionTable.isEmpty && decide (c.maxStack ≤ mostOperands) && decide (meth.sig.returnType = rt) && !meth.locks && decide (parseMethodDescriptor y.desc = some meth.sig)) = true) : (Jvm.Cond.code y bytes mx rt).before a s = true := by
  simp only [Bool.and_eq_true, beq_iff_eq, Bool.not_eq_true', decide_eq_true_eq] at h5
  obtain ⟨⟨⟨⟨⟨g1, g2⟩, g3⟩, g4⟩, g5⟩, g6⟩ := h5
  simp [Cond.before, Cond.holds, Cond.value, h1, h2, h3, h4, g1, g2, g3, g4, g5, g6]
def isCode : Jvm.Cond → Bool
  | .code _ _ _ _ => true
  | _ => false
theorem all_split {L : List Jvm.Cond} {P : Jvm.Cond → Bool} (h1 : L.all (fun c => isCode c || P c) = true) (h2 : ∀ c ∈ L.filter isCode, P c = true) : L.all P = true := by
  refine List.all_eq_true.mpr fun c hc => ?_
  have h := List.all_eq_true.mp h1 c hc
  rcases Bool.eq_false_or_eq_true (isCode c) with hi | hi
  · exact h2 c (List.mem_filter.mpr ⟨hc, hi⟩)
  · simpa [hi] using h
set_option maxRecDepth 65536 in
theorem w_c0 : (Jvm.Cond.code x code maxLocals ret).before args0 about1 = true := code_word (m := ⟨1, 1⟩) (meth := k1m1) (c := k1c1) (by decide +kernel) rfl rfl rfl (by decide +kernel)
set_option maxRecDepth 65536 in
theorem w_c1 : (Jvm.Cond.code ({ cls := "com/example/relation_check/relationcheck/rules/Rewrite$Join", name := "subtracts", desc := "(I)Z" } : Jvm.MethodName) prog_19_method_5_code (2 : Nat) (Option.some Jvm.ClassFile.FieldType.boolean)).before args0 about1 = true := code_word (m := ⟨6, 1⟩) (meth := k6m1) (c := k6c1) (by decide +kernel) rfl rfl rfl (by decide +kernel)
set_option maxRecDepth 65536 in
theorem w_c2 : (Jvm.Cond.code ({ cls := "com/example/relation_check/relationcheck/rules/Rewrite$Join", name := "needsAll", desc := "()Z" } : Jvm.MethodName) prog_19_method_4_code (1 : Nat) (Option.some Jvm.ClassFile.FieldType.boolean)).before args0 about1 = true := code_word (m := ⟨6, 0⟩) (meth := k6m0) (c := k6c0) (by decide +kernel) rfl rfl rfl (by decide +kernel)
def codes1 : List Jvm.Cond := [Jvm.Cond.code x code maxLocals ret, Jvm.Cond.code ({ cls := "com/example/relation_check/relationcheck/rules/Rewrite$Join", name := "subtracts", desc := "(I)Z" } : Jvm.MethodName) prog_19_method_5_code (2 : Nat) (Option.some Jvm.ClassFile.FieldType.boolean), Jvm.Cond.code ({ cls := "com/example/relation_check/relationcheck/rules/Rewrite$Join", name := "needsAll", desc := "()Z" } : Jvm.MethodName) prog_19_method_4_code (1 : Nat) (Option.some Jvm.ClassFile.FieldType.boolean)]
set_option maxRecDepth 65536 in
theorem codes_eq : words1.filter isCode = codes1 := rfl
theorem w_codes : ∀ c ∈ words1.filter isCode, c.before args0 about1 = true := by
  rw [codes_eq]
  intro c hc
  simp only [codes1, List.mem_cons, List.not_mem_nil, or_false] at hc
  rcases hc with rfl | rfl | rfl
  · exact w_c0
  · exact w_c1
  · exact w_c2
set_option maxRecDepth 65536 in
theorem w_t1 : words1.all (fun c => isCode c || c.before args0 about1) = true := by decide +kernel
theorem w_tables : (allAtoms (Jvm.Cond.code x code maxLocals ret :: tables_1)).before args0 about1 = true := by
  rw [allAtoms_all]
  show words1.all (fun c => c.before args0 about1) = true
  refine all_split ?_ w_codes
  rw [w_t1]
set_option maxRecDepth 65536 in
theorem w_case : (Jvm.Cond.and given_1 narrow_1).before args0 about1 = true := by decide +kernel
theorem w_applies : (headSpec (Jvm.Cond.code x code maxLocals ret :: tables_1) room_1).applies x e0.platform about1 = true :=
  (Spec.applies_iff w_frames).mpr ⟨w_running, w_runnable, w_alone, w_named, w_hears, w_ripe, w_room, w_tables⟩
theorem atStart : AtStart classFile x code maxLocals ret World_1 tables_1 room_1 Calls_1 rest_1 Pre_1 launch0 p0 e0 about1 theMethod args0 below0 :=
  ⟨lists_1, trivial, launch0.admits_env _ _ _, launch0.least_env, fairChoices_fair.cas, fairChoices_fair.clock, w_frames, w_args, w_heap, w_applies, trivial, trivial, w_case⟩
end start1
theorem witness_1 : WitnessClaimed_1 := ⟨start1.p0, start1.e0, start1.about1, start1.theMethod, start1.args0, start1.below0, start1.atStart⟩
end Jvm.Pilot.@@N@@
