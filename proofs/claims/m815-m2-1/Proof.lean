import JvmDerived
import JvmDerived.Pilot.@@N@@Statement
import JvmDerived.Pilot.@@N@@Code
set_option linter.unusedVariables false
set_option linter.unusedSimpArgs false
namespace Jvm.Pilot.@@N@@
open Jvm Jvm.ClassFile Sem Op Lib Jvm.Free Jvm.Stand Jvm.LawKit Jvm.RoadKit Bundle Jvm.Pilot.@@N@@.Jvm.D
section Own
variable {p : Program} {l : Launch} {e : Env} {R : Room} {s : State} {m : MethodId} {args : Array Value} {below : List Frame} {meth : Method} {c : Code} {T : State} {locs : List Loc} {cells slots : Nat}
/-- the goal of a walk, as seen from a state on its road -/
def Gl (p : Program) (e : Env) (below : List Frame) (K : Outcome → State → Prop) (A : State) : Prop := ∃ s₂ o, Steps p.tables e below A s₂ ∧ s₂.status = .running ∧ Ended s₂ below o ∧ K o s₂
theorem Gl.up {K : Outcome → State → Prop} {A B : State} (h : ∀ t, Steps p.tables e below B t → Steps p.tables e below A t) (k : Gl p e below K B) : Gl p e below K A := by
  obtain ⟨s2, o, h1, r⟩ := k
  exact ⟨s2, o, h _ h1, r⟩
/-- what a body leaves -/
def Ret (s : State) (rc rs : Nat) (Q : Option Value → Heap → List Loc → Prop) (o : Outcome) (U : State) : Prop := ∃ v L, o = .returned v ∧ Q v U.heap L ∧ FrameEnd s o U L rc rs
variable {rc rs : Nat} {Q : Option Value → Heap → List Loc → Prop} {pc : Nat} {Ls : Array Slot} {rest : List Value}
theorem Gl.retI (X : Stand p l e R s m args below meth c T locs cells slots) (hx : p.tables.exec = Jvm.exec) (hlk : meth.locks = false) {z : Int32} (hret : meth.sig.returnType = some .int) (hd : decode c.code pc = .ok (.ireturn, 1)) (hq : Q (some (.int z)) T.heap locs) (hc : cells ≤ rc) (hs : slots ≤ rs) :
    Gl p e below (Ret s rc rs Q) (T.setTop (mkF m pc Ls (.int z :: rest))) := by
  obtain ⟨fs, hr, hrun, hended, hW, hsame⟩ := X.leave (v := some (.int z)) (fun h => by rw [hret] at h; cases h) hlk
  exact ⟨_, _, retOut X hx hret rfl (Or.inl ⟨rfl, Or.inl rfl, z, rfl⟩) hd hr, hrun, hended, _, _, rfl, hq, ⟨_, rfl⟩, hW, hsame.mono hc hs⟩
theorem Gl.retJ (X : Stand p l e R s m args below meth c T locs cells slots) (hx : p.tables.exec = Jvm.exec) (hlk : meth.locks = false) {z : Int64} (hret : meth.sig.returnType = some .long) (hd : decode c.code pc = .ok (.lreturn, 1)) (hq : Q (some (.long z)) T.heap locs) (hc : cells ≤ rc) (hs : slots ≤ rs) :
    Gl p e below (Ret s rc rs Q) (T.setTop (mkF m pc Ls (.long z :: rest))) := by
  obtain ⟨fs, hr, hrun, hended, hW, hsame⟩ := X.leave (v := some (.long z)) (fun h => by rw [hret] at h; cases h) hlk
  exact ⟨_, _, retOut X hx hret rfl (Or.inr (Or.inl ⟨rfl, rfl, z, rfl⟩)) hd hr, hrun, hended, _, _, rfl, hq, ⟨_, rfl⟩, hW, hsame.mono hc hs⟩
theorem Gl.retN (X : Stand p l e R s m args below meth c T locs cells slots) (hx : p.tables.exec = Jvm.exec) (hlk : meth.locks = false) {z w : Int32} {t : FieldType} (hret : meth.sig.returnType = some t) (ht : t = .boolean ∨ t = .byte ∨ t = .char ∨ t = .short) (hd : decode c.code pc = .ok (.ireturn, 1)) (hn : nar t z = w) (hq : Q (some (.int w)) T.heap locs) (hc : cells ≤ rc) (hs : slots ≤ rs) :
    Gl p e below (Ret s rc rs Q) (T.setTop (mkF m pc Ls (.int z :: rest))) := by
  subst hn
  obtain ⟨fs, hr, hrun, hended, hW, hsame⟩ := X.leave (v := some (.int (nar t z))) (fun h => by rw [hret] at h; cases h) hlk
  exact ⟨_, _, Jvm.RoadKit.retN X hx hret ht hd hr, hrun, hended, _, _, rfl, hq, ⟨_, rfl⟩, hW, hsame.mono hc hs⟩
theorem Gl.ret0 (X : Stand p l e R s m args below meth c T locs cells slots) (hx : p.tables.exec = Jvm.exec) (hlk : meth.locks = false) (hret : meth.sig.returnType = none) (hd : decode c.code pc = .ok (.return_, 1)) (hq : Q none T.heap locs) (hc : cells ≤ rc) (hs : slots ≤ rs) :
    Gl p e below (Ret s rc rs Q) (T.setTop (mkF m pc Ls [])) := by
  obtain ⟨fs, hr, hrun, hended, hW, hsame⟩ := X.leave (v := none) (fun _ => rfl) hlk
  exact ⟨_, _, X.returnOut hx hret hd hr, hrun, hended, _, _, rfl, hq, ⟨_, rfl⟩, hW, hsame.mono hc hs⟩
theorem Gl.retR (X : Stand p l e R s m args below meth c T locs cells slots) (hx : p.tables.exec = Jvm.exec) (hlk : meth.locks = false) {v : Value} {t : FieldType} (hret : meth.sig.returnType = some t) (hd : decode c.code pc = .ok (.areturn, 1)) (ht : t.isReference = true) (hv : v.isRef = true) (hq : Q (some v) T.heap locs) (hc : cells ≤ rc) (hs : slots ≤ rs) :
    Gl p e below (Ret s rc rs Q) (T.setTop (mkF m pc Ls (v :: rest))) := by
  have hn : narrow t v = v := by cases t <;> first | rfl | (cases ht; done) | (cases v <;> first | rfl | (cases hv; done))
  obtain ⟨fs, hr, hrun, hended, hW, hsame⟩ := X.leave (v := some v) (fun h => by rw [hret] at h; cases h) hlk
  exact ⟨_, _, retOut X hx hret hn (Or.inr (Or.inr (Or.inr (Or.inr ⟨rfl, ht, hv⟩)))) hd hr, hrun, hended, _, _, rfl, hq, ⟨_, rfl⟩, hW, hsame.mono hc hs⟩
end Own
theorem own_widen {p : Program} {l : Launch} {e : Env} {R : Room} {s : State} {m : MethodId} {args : Array Value} {below : List Frame} {meth : Method} {c : Code} {T : State} {locs : List Loc} {cells slots cells' slots' : Nat} (X : Stand p l e R s m args below meth c T locs cells slots) (hc : cells ≤ cells') (hs : slots ≤ slots') : Stand p l e R s m args below meth c T locs cells' slots' := { X with same := X.same.mono hc hs }
theorem old_le {Z : State} {n0 : Nat} {h : Heap} (O : Old Z n0 h) : n0 ≤ h.size := by rw [← O.1]; exact O.2.1
theorem b01_ite {q : Prop} [Decidable q] {a b : Int32} (ha : a = 0 ∨ a = 1) (hb : b = 0 ∨ b = 1) : (if q then a else b) = 0 ∨ (if q then a else b) = 1 := by split <;> assumption
theorem nar_b01 {a : Int32} (h : a = 0 ∨ a = 1) : nar .boolean a = a := by rcases h with rfl | rfl <;> rfl
theorem fits_b01 {a : Int32} (h : a = 0 ∨ a = 1) : fits .boolean (.int a) = true := by rcases h with rfl | rfl <;> rfl
theorem own_fld {Z : State} {h : Heap} {a : Addr} {C n d : String} {v w : Value} (q : v = w) (F : Fld Z h a C n d v) : Fld Z h a C n d w := q ▸ F
theorem jc_lt_t {x y : Int64} (h : x < y) : ifCond.holds .lt (lcmpW x y) = true := (if0 _ _).trans (tlt ((lw_lt x y).mpr h)).1
theorem jc_lt_f {x y : Int64} (h : ¬ x < y) : ifCond.holds .lt (lcmpW x y) = false := (if0 _ _).trans (flt (fun q => h ((lw_lt x y).mp q))).1
theorem jc_ge_t {x y : Int64} (h : ¬ x < y) : ifCond.holds .ge (lcmpW x y) = true := (if0 _ _).trans (flt (fun q => h ((lw_lt x y).mp q))).2.1
theorem jc_ge_f {x y : Int64} (h : x < y) : ifCond.holds .ge (lcmpW x y) = false := (if0 _ _).trans (tlt ((lw_lt x y).mpr h)).2.1
theorem jc_gt_t {x y : Int64} (h : y < x) : ifCond.holds .gt (lcmpW x y) = true := (if0 _ _).trans (tlt ((lw_gt x y).mpr h)).2.2.1
theorem jc_gt_f {x y : Int64} (h : ¬ y < x) : ifCond.holds .gt (lcmpW x y) = false := (if0 _ _).trans (flt (fun q => h ((lw_gt x y).mp q))).2.2.1
theorem jc_le_t {x y : Int64} (h : ¬ y < x) : ifCond.holds .le (lcmpW x y) = true := (if0 _ _).trans (flt (fun q => h ((lw_gt x y).mp q))).2.2.2
theorem jc_le_f {x y : Int64} (h : y < x) : ifCond.holds .le (lcmpW x y) = false := (if0 _ _).trans (tlt ((lw_gt x y).mpr h)).2.2.2
theorem jc_eq_t {x y : Int64} (h : x = y) : ifCond.holds .eq (lcmpW x y) = true := (if0 _ _).trans (teq ((lw_eq x y).mpr h)).1
theorem jc_eq_f {x y : Int64} (h : ¬ x = y) : ifCond.holds .eq (lcmpW x y) = false := (if0 _ _).trans (feq (fun q => h ((lw_eq x y).mp q))).1
theorem jc_ne_t {x y : Int64} (h : ¬ x = y) : ifCond.holds .ne (lcmpW x y) = true := (if0 _ _).trans (feq (fun q => h ((lw_eq x y).mp q))).2
theorem jc_ne_f {x y : Int64} (h : x = y) : ifCond.holds .ne (lcmpW x y) = false := (if0 _ _).trans (teq ((lw_eq x y).mpr h)).2
theorem own_mapset (cs : List Int32) (i : Nat) (v : Int32) : (cs.map Value.int).set i (.int v) = (cs.set i v).map Value.int := (List.map_set).symm
theorem d1_0 : decode method_3_code 0 = .ok (.lload_n 0, 1) := by decide +kernel
theorem d1_1 : decode method_3_code 1 = .ok (.lload_n 2, 1) := by decide +kernel
theorem d1_2 : decode method_3_code 2 = .ok (.lcmp, 1) := by decide +kernel
theorem d1_3 : decode method_3_code 3 = .ok (.ifCond .lt 7, 3) := by decide +kernel
theorem d1_10 : decode method_3_code 10 = .ok (.iconst 0, 1) := by decide +kernel
theorem d1_6 : decode method_3_code 6 = .ok (.iconst 1, 1) := by decide +kernel
theorem d1_7 : decode method_3_code 7 = .ok (.goto 4, 3) := by decide +kernel
theorem d1_11 : decode method_3_code 11 = .ok (.ireturn, 1) := by decide +kernel
theorem pn_com_example_khamsin_khamsin_daily_CombatLineColumnPinLaw : plainName "com/example/khamsin/khamsin/daily/CombatLineColumnPinLaw" = true := by first | (simp [plainName, overriddenIn]; done) | decide +kernel
theorem d2_0 : decode jdk_29_method_65_code 0 = .ok (.iload_n 0, 1) := by decide +kernel
theorem d2_1 : decode jdk_29_method_65_code 1 = .ok (.iload_n 1, 1) := by decide +kernel
theorem d2_2 : decode jdk_29_method_65_code 2 = .ok (.if_icmp .lt 7, 3) := by decide +kernel
theorem d2_9 : decode jdk_29_method_65_code 9 = .ok (.iload_n 1, 1) := by decide +kernel
theorem d2_5 : decode jdk_29_method_65_code 5 = .ok (.iload_n 0, 1) := by decide +kernel
theorem d2_6 : decode jdk_29_method_65_code 6 = .ok (.goto 4, 3) := by decide +kernel
theorem d2_10 : decode jdk_29_method_65_code 10 = .ok (.ireturn, 1) := by decide +kernel
theorem d3_0 : decode prog_10_method_9_code 0 = .ok (.iconst 0, 1) := by decide +kernel
theorem d3_1 : decode prog_10_method_9_code 1 = .ok (.istore_n 3, 1) := by decide +kernel
theorem d3_2 : decode prog_10_method_9_code 2 = .ok (.iload_n 3, 1) := by decide +kernel
theorem d3_3 : decode prog_10_method_9_code 3 = .ok (.iconst 1, 1) := by decide +kernel
theorem d3_4 : decode prog_10_method_9_code 4 = .ok (.iadd, 1) := by decide +kernel
theorem d3_5 : decode prog_10_method_9_code 5 = .ok (.aload_n 0, 1) := by decide +kernel
theorem d3_6 : decode prog_10_method_9_code 6 = .ok (.getfield 45, 3) := by decide +kernel
theorem d3_9 : decode prog_10_method_9_code 9 = .ok (.arraylength, 1) := by decide +kernel
theorem d3_10 : decode prog_10_method_9_code 10 = .ok (.if_icmp .ge 23, 3) := by decide +kernel
theorem d3_33 : decode prog_10_method_9_code 33 = .ok (.iload_n 3, 1) := by decide +kernel
theorem d3_34 : decode prog_10_method_9_code 34 = .ok (.ireturn, 1) := by decide +kernel
theorem d3_13 : decode prog_10_method_9_code 13 = .ok (.aload_n 0, 1) := by decide +kernel
theorem d3_14 : decode prog_10_method_9_code 14 = .ok (.getfield 45, 3) := by decide +kernel
theorem d3_17 : decode prog_10_method_9_code 17 = .ok (.iload_n 3, 1) := by decide +kernel
theorem d3_18 : decode prog_10_method_9_code 18 = .ok (.iconst 1, 1) := by decide +kernel
theorem d3_19 : decode prog_10_method_9_code 19 = .ok (.iadd, 1) := by decide +kernel
theorem d3_20 : decode prog_10_method_9_code 20 = .ok (.iaload, 1) := by decide +kernel
theorem d3_21 : decode prog_10_method_9_code 21 = .ok (.i2l, 1) := by decide +kernel
theorem d3_22 : decode prog_10_method_9_code 22 = .ok (.lload_n 1, 1) := by decide +kernel
theorem d3_23 : decode prog_10_method_9_code 23 = .ok (.lcmp, 1) := by decide +kernel
theorem d3_24 : decode prog_10_method_9_code 24 = .ok (.ifCond .gt 9, 3) := by decide +kernel
theorem d3_27 : decode prog_10_method_9_code 27 = .ok (.iinc 3 1, 3) := by decide +kernel
theorem d3_30 : decode prog_10_method_9_code 30 = .ok (.goto (-28), 3) := by decide +kernel
theorem pn_com_example_khamsin_khamsin_daily_CombatLine : plainName "com/example/khamsin/khamsin/daily/CombatLine" = true := by first | (simp [plainName, overriddenIn]; done) | decide +kernel
theorem pd_oJJcI : parseMethodDescriptor "(JJ)I" = some ⟨[.long, .long], some .int⟩ := by decide +kernel
theorem pd_oIIcI : parseMethodDescriptor "(II)I" = some ⟨[.int, .int], some .int⟩ := by decide +kernel
theorem pd_oJcI : parseMethodDescriptor "(J)I" = some ⟨[.long], some .int⟩ := by decide +kernel
def f1 (q0 : Int64) (q1 : Int64) : Int32 := (if q0 < q1 then (0 : Int32) else (1 : Int32))
theorem f1_b (q0 : Int64) (q1 : Int64) : f1 q0 q1 = 0 ∨ f1 q0 q1 = 1 := (b01_ite (Or.inl rfl) (Or.inr rfl))
def Q1 (Z : State) (q0 : Int64) (q1 : Int64) (h0 : Heap) (n0 : Nat) (v : Option Value) (h : Heap) (L : List Loc) : Prop := v = some (.int (f1 q0 q1)) ∧ L = [] ∧ h = h0
theorem ef1 (m : MethodId) (q0 : Int64) (q1 : Int64) : entryFrame m #[(.long q0), (.long q1)] 4 = mkF m 0 #[.val (.long q0), .second, .val (.long q1), .second] [] := by first | (simp [entryFrame, mkF, argsToLocals, Value.category]; done) | rfl
set_option maxRecDepth 65536 in
set_option maxHeartbeats 40000000 in
theorem rm1 (l : Launch) (Z : State) (aa : Array Value) (hw : ∀ d ∈ tables_1, d.before aa Z = true) (ws : List Jvm.Cond) (q0 : Int64) (q1 : Int64) (h0 : Heap) (n0 : Nat) (O0 : Old Z n0 h0)  :
    MetFree l (⟨"com/example/khamsin/khamsin/daily/CombatLineColumnPinLaw", "ge", "(JJ)I"⟩ : MethodName) (head1 (Jvm.Cond.code (⟨"com/example/khamsin/khamsin/daily/CombatLineColumnPinLaw", "ge", "(JJ)I"⟩ : MethodName) method_3_code 4 (some .int) :: ws) ({ frames := 0, cells := 0, slots := 0, locals := 0 } : Room)) (fun a U => a = #[(.long q0), (.long q1)] ∧ Z.Warmed39 U.vm ∧ U.heap = h0) (fun _ _ _ _ _ => True) (fun _ U o U' => ∃ v L, o = .returned v ∧ Q1 Z q0 q1 h0 n0 v U'.heap L ∧ FrameEnd U o U' L ({ frames := 0, cells := 0, slots := 0, locals := 0 } : Room).cells ({ frames := 0, cells := 0, slots := 0, locals := 0 } : Room).slots) := by
  refine MetFree.of_bodySF (plainFor_of_name pn_com_example_khamsin_khamsin_daily_CombatLineColumnPinLaw) hisR ?_
  intro p e s m args below meth c s₁ Bd hml0 hP hK
  obtain ⟨rfl, hZ, hh⟩ := hP
  have hx := Bd.exec
  have hby := Bd.bytes
  have hlk := Bd.notSynchronized
  have hml : c.maxLocals = 4 := hml0
  have hown : s.vm.findClass "com/example/khamsin/khamsin/daily/CombatLineColumnPinLaw" = some m.cls := findClass_of_methodNamed Bd.named
  have hnm := (name_of_methodNamed Bd.named Bd.method).1
  have X0 : Stand p l e ({ frames := 0, cells := 0, slots := 0, locals := 0 } : Room) s m #[(.long q0), (.long q1)] below meth c s₁ [] 0 0 := Stand.of_body Bd
  have e0 : s₁.heap = h0 := by rw [← hh, Bd.state]; rfl
  have N0 := Fr.nil n0
  show Gl p e below (Ret s 0 0 (Q1 Z q0 q1 h0 n0)) (s₁.setTop (entryFrame m #[(.long q0), (.long q1)] 4))
  rw [ef1 m q0 q1]
  obtain ⟨args, hargs⟩ : ∃ z : Array Value, z = #[(.long q0), (.long q1)] := ⟨_, rfl⟩
  rw [← hargs] at X0
  refine Gl.up (B := s₁.setTop (mkF m 3 #[.val (.long q0), .second, .val (.long q1), .second] [(.int (lcmpW q0 q1))])) (fun t kt => ?_) ?_
  · show Steps p.tables e below (s₁.setTop (mkF m 0 #[.val (.long q0), .second, .val (.long q1), .second] [])) _
    refine XS.lloadN X0.here hx rfl (hb hby d1_0) rfl ?_
    show Steps p.tables e below (s₁.setTop (mkF m 1 #[.val (.long q0), .second, .val (.long q1), .second] [(.long q0)])) _
    refine XS.lloadN X0.here hx rfl (hb hby d1_1) rfl ?_
    show Steps p.tables e below (s₁.setTop (mkF m 2 #[.val (.long q0), .second, .val (.long q1), .second] [(.long q1), (.long q0)])) _
    refine XS.lcmp X0.here hx rfl (hb hby d1_2) rfl ?_
    exact kt
  suffices J1 : ∀ (T1 : State) (v1_s0 : Int32), v1_s0 = (if q0 < q1 then (0 : Int32) else (1 : Int32)) → Stand p l e ({ frames := 0, cells := 0, slots := 0, locals := 0 } : Room) s m args below meth c T1 [] 0 0 → T1.heap = h0 → Gl p e below (Ret s 0 0 (Q1 Z q0 q1 h0 n0)) (T1.setTop (mkF m 11 #[.val (.long q0), .second, .val (.long q1), .second] [(.int v1_s0)])) by
    by_cases c3_2 : q0 < q1
    · refine Gl.up (B := s₁.setTop (mkF m 11 #[.val (.long q0), .second, .val (.long q1), .second] [(.int (0 : Int32))])) (fun t kt => ?_) ?_
      · show Steps p.tables e below (s₁.setTop (mkF m 3 #[.val (.long q0), .second, .val (.long q1), .second] [(.int (lcmpW q0 q1))])) _
        refine XS.ifYes X0.here hx rfl (pc0 := 3) (pc' := 10) rfl (hb hby d1_3) rfl (jc_lt_t c3_2) (by decide) (by decide) ?_
        show Steps p.tables e below (s₁.setTop (mkF m 10 #[.val (.long q0), .second, .val (.long q1), .second] [])) _
        refine XS.iconst X0.here hx rfl (hb hby d1_10) ?_
        exact kt
      exact J1 _ (0 : Int32) (if_pos c3_2).symm X0 e0
    · refine Gl.up (B := s₁.setTop (mkF m 11 #[.val (.long q0), .second, .val (.long q1), .second] [(.int (1 : Int32))])) (fun t kt => ?_) ?_
      · show Steps p.tables e below (s₁.setTop (mkF m 3 #[.val (.long q0), .second, .val (.long q1), .second] [(.int (lcmpW q0 q1))])) _
        refine XS.ifNo X0.here hx rfl (hb hby d1_3) rfl (jc_lt_f c3_2) ?_
        show Steps p.tables e below (s₁.setTop (mkF m 6 #[.val (.long q0), .second, .val (.long q1), .second] [])) _
        refine XS.iconst X0.here hx rfl (hb hby d1_6) ?_
        show Steps p.tables e below (s₁.setTop (mkF m 7 #[.val (.long q0), .second, .val (.long q1), .second] [(.int (1 : Int32))])) _
        refine XS.goto X0.here hx rfl (pc0 := 7) (pc' := 11) rfl (hb hby d1_7) (by decide) (by decide) ?_
        exact kt
      exact J1 _ (1 : Int32) (if_neg c3_2).symm X0 e0
  intro T1 v1_s0 hv1_s0 X1 e1
  subst hv1_s0
  refine Gl.retI X1 hx hlk Bd.returns (hb hby d1_11) ?_ (by decide) (by decide)
  exact ⟨congrArg (fun z => some (Value.int z)) (show (if q0 < q1 then (0 : Int32) else (1 : Int32)) = f1 q0 q1 from rfl), rfl, e1⟩
def f2 (p0 : Int32) (p1 : Int32) : Int32 := (if p0 < p1 then p1 else p0)
def Q2 (Z : State) (p0 : Int32) (p1 : Int32) (h0 : Heap) (n0 : Nat) (v : Option Value) (h : Heap) (L : List Loc) : Prop := v = some (.int (f2 p0 p1)) ∧ L = [] ∧ h = h0
theorem ef2 (m : MethodId) (p0 : Int32) (p1 : Int32) : entryFrame m #[(.int p0), (.int p1)] 2 = mkF m 0 #[.val (.int p0), .val (.int p1)] [] := by first | (simp [entryFrame, mkF, argsToLocals, Value.category]; done) | rfl
set_option maxRecDepth 65536 in
set_option maxHeartbeats 40000000 in
theorem rm2 (l : Launch) (Z : State) (aa : Array Value) (hw : ∀ d ∈ tables_1, d.before aa Z = true) (ws : List Jvm.Cond) (p0 : Int32) (p1 : Int32) (h0 : Heap) (n0 : Nat) (O0 : Old Z n0 h0)  :
    MetFree l (⟨"java/lang/Math", "max", "(II)I"⟩ : MethodName) (head1 (Jvm.Cond.code (⟨"java/lang/Math", "max", "(II)I"⟩ : MethodName) jdk_29_method_65_code 2 (some .int) :: ws) ({ frames := 0, cells := 0, slots := 0, locals := 0 } : Room)) (fun a U => a = #[(.int p0), (.int p1)] ∧ Z.Warmed39 U.vm ∧ U.heap = h0) (fun _ _ _ _ _ => True) (fun _ U o U' => ∃ v L, o = .returned v ∧ Q2 Z p0 p1 h0 n0 v U'.heap L ∧ FrameEnd U o U' L ({ frames := 0, cells := 0, slots := 0, locals := 0 } : Room).cells ({ frames := 0, cells := 0, slots := 0, locals := 0 } : Room).slots) := by
  refine MetFree.of_bodySF (Jvm.Free.JP.mathPlain rfl (by decide +kernel)) hisR ?_
  intro p e s m args below meth c s₁ Bd hml0 hP hK
  obtain ⟨rfl, hZ, hh⟩ := hP
  have hx := Bd.exec
  have hby := Bd.bytes
  have hlk := Bd.notSynchronized
  have hml : c.maxLocals = 2 := hml0
  have hown : s.vm.findClass "java/lang/Math" = some m.cls := findClass_of_methodNamed Bd.named
  have hnm := (name_of_methodNamed Bd.named Bd.method).1
  have X0 : Stand p l e ({ frames := 0, cells := 0, slots := 0, locals := 0 } : Room) s m #[(.int p0), (.int p1)] below meth c s₁ [] 0 0 := Stand.of_body Bd
  have e0 : s₁.heap = h0 := by rw [← hh, Bd.state]; rfl
  have N0 := Fr.nil n0
  show Gl p e below (Ret s 0 0 (Q2 Z p0 p1 h0 n0)) (s₁.setTop (entryFrame m #[(.int p0), (.int p1)] 2))
  rw [ef2 m p0 p1]
  obtain ⟨args, hargs⟩ : ∃ z : Array Value, z = #[(.int p0), (.int p1)] := ⟨_, rfl⟩
  rw [← hargs] at X0
  refine Gl.up (B := s₁.setTop (mkF m 2 #[.val (.int p0), .val (.int p1)] [(.int p1), (.int p0)])) (fun t kt => ?_) ?_
  · show Steps p.tables e below (s₁.setTop (mkF m 0 #[.val (.int p0), .val (.int p1)] [])) _
    refine XS.iloadN X0.here hx rfl (hb hby d2_0) rfl ?_
    show Steps p.tables e below (s₁.setTop (mkF m 1 #[.val (.int p0), .val (.int p1)] [(.int p0)])) _
    refine XS.iloadN X0.here hx rfl (hb hby d2_1) rfl ?_
    exact kt
  suffices J1 : ∀ (T1 : State) (v1_s0 : Int32), v1_s0 = (if p0 < p1 then p1 else p0) → Stand p l e ({ frames := 0, cells := 0, slots := 0, locals := 0 } : Room) s m args below meth c T1 [] 0 0 → T1.heap = h0 → Gl p e below (Ret s 0 0 (Q2 Z p0 p1 h0 n0)) (T1.setTop (mkF m 10 #[.val (.int p0), .val (.int p1)] [(.int v1_s0)])) by
    by_cases c2_2 : p0 < p1
    · refine Gl.up (B := s₁.setTop (mkF m 10 #[.val (.int p0), .val (.int p1)] [(.int p1)])) (fun t kt => ?_) ?_
      · show Steps p.tables e below (s₁.setTop (mkF m 2 #[.val (.int p0), .val (.int p1)] [(.int p1), (.int p0)])) _
        refine XS.icmpYes X0.here hx rfl (pc0 := 2) (pc' := 9) rfl (hb hby d2_2) rfl (tlt c2_2).1 (by decide) (by decide) ?_
        show Steps p.tables e below (s₁.setTop (mkF m 9 #[.val (.int p0), .val (.int p1)] [])) _
        refine XS.iloadN X0.here hx rfl (hb hby d2_9) rfl ?_
        exact kt
      exact J1 _ p1 (if_pos c2_2).symm X0 e0
    · refine Gl.up (B := s₁.setTop (mkF m 10 #[.val (.int p0), .val (.int p1)] [(.int p0)])) (fun t kt => ?_) ?_
      · show Steps p.tables e below (s₁.setTop (mkF m 2 #[.val (.int p0), .val (.int p1)] [(.int p1), (.int p0)])) _
        refine XS.icmpNo X0.here hx rfl (hb hby d2_2) rfl (flt c2_2).1 ?_
        show Steps p.tables e below (s₁.setTop (mkF m 5 #[.val (.int p0), .val (.int p1)] [])) _
        refine XS.iloadN X0.here hx rfl (hb hby d2_5) rfl ?_
        show Steps p.tables e below (s₁.setTop (mkF m 6 #[.val (.int p0), .val (.int p1)] [(.int p0)])) _
        refine XS.goto X0.here hx rfl (pc0 := 6) (pc' := 10) rfl (hb hby d2_6) (by decide) (by decide) ?_
        exact kt
      exact J1 _ p0 (if_neg c2_2).symm X0 e0
  intro T1 v1_s0 hv1_s0 X1 e1
  subst hv1_s0
  refine Gl.retI X1 hx hlk Bd.returns (hb hby d2_10) ?_ (by decide) (by decide)
  exact ⟨congrArg (fun z => some (Value.int z)) (show (if p0 < p1 then p1 else p0) = f2 p0 p1 from rfl), rfl, e1⟩
theorem own_lt {i n : Nat} (h : i < n) (hn : n ≤ 255) : Int32.ofNat i < Int32.ofNat n := by
  rw [Int32.lt_iff_toInt_lt, Int32.toInt_ofNat_of_lt (by omega), Int32.toInt_ofNat_of_lt (by omega)]
  omega
theorem own_nn {n : Nat} (hn : n ≤ 255) : ¬ Int32.ofNat n < 0 := by
  rw [Int32.lt_iff_toInt_lt, Int32.toInt_ofNat_of_lt (by omega), show (0 : Int32).toInt = 0 from rfl]
  omega
theorem own_n32 {n : Nat} (hn : n ≤ 255) : (Int32.ofNat n).toNatClampNeg = n := by
  rw [Int32.toNatClampNeg, Int32.toInt_ofNat_of_lt (by omega)]; rfl
theorem own_one (i : Nat) : Int32.ofNat i + (1 : Int32) = Int32.ofNat (i + 1) := (Int32.ofNat_add i 1).symm
theorem own_nlt (i : Nat) : ¬ Int32.ofNat i < Int32.ofNat i := by rw [Int32.lt_iff_toInt_lt]; omega
theorem own_in {cl : Cell} {vs : List Int32} {i : Nat} (hn : vs.length ≤ 255) (hi : i + 1 < vs.length) (S : cl.slots.size = vs.length) (hat : ∀ j, j < vs.length → cl.slots[j]? = some (.int (vs.getD j 0))) :
    ¬ ((Int32.ofNat i + (1 : Int32)) < 0 ∨ cl.slots.size ≤ (Int32.ofNat i + (1 : Int32)).toNatClampNeg) ∧ cl.slots[(Int32.ofNat i + (1 : Int32)).toNatClampNeg]? = some (.int (vs.getD (i + 1) 0)) := by
  rw [own_one, S, own_n32 (by omega)]
  exact ⟨fun q => q.elim (own_nn (by omega)) (fun q => by omega), hat _ hi⟩
/-- how far the search comes: k places left behind place i -/
def own_cnt (vs : List Int32) (d : Int64) : Nat → Nat → Nat
  | 0, i => i
  | k + 1, i => if d < (vs.getD (i + 1) 0).toInt64 then i else own_cnt vs d k (i + 1)
/-- a line of the table: its bounds stand in an array -/
def Line (Z : State) (h : Heap) (v ar : Addr) (cl : Cell) (vs : List Int32) : Prop := Exa Z h v "com/example/khamsin/khamsin/daily/CombatLine" ∧ Fld Z h v "com/example/khamsin/khamsin/daily/CombatLine" "lows" "[I" (.ref ar) ∧ Arr Z Z.heap ar cl .int ∧ cl.slots.size = vs.length ∧ ∀ j, j < vs.length → cl.slots[j]? = some (.int (vs.getD j 0))

def Q3 (Z : State) (a0 : Addr) (q1 : Int64) (ar : Addr) (cl : Cell) (vs : List Int32) (h0 : Heap) (n0 : Nat) (v : Option Value) (h : Heap) (L : List Loc) : Prop := v = some (.int (Int32.ofNat (own_cnt vs q1 (vs.length - 1) 0))) ∧ L = [] ∧ h = h0
theorem ef3 (m : MethodId) (a0 : Addr) (q1 : Int64) : entryFrame m #[(.ref a0), (.long q1)] 4 = mkF m 0 #[.val (.ref a0), .val (.long q1), .second, .unset] [] := by first | (simp [entryFrame, mkF, argsToLocals, Value.category]; done) | rfl
set_option maxRecDepth 65536 in
set_option maxHeartbeats 40000000 in
theorem rm3 (l : Launch) (Z : State) (aa : Array Value) (hw : ∀ d ∈ tables_1, d.before aa Z = true) (ws : List Jvm.Cond) (a0 : Addr) (q1 : Int64) (ar : Addr) (cl : Cell) (vs : List Int32) (h0 : Heap) (n0 : Nat) (O0 : Old Z n0 h0) (E_a0 : Exa Z h0 a0 "com/example/khamsin/khamsin/daily/CombatLine") (F_a0_lows : Fld Z h0 a0 "com/example/khamsin/khamsin/daily/CombatLine" "lows" "[I" (.ref ar)) (hA : Arr Z Z.heap ar cl .int) (hS : cl.slots.size = vs.length) (hat : ∀ j, j < vs.length → cl.slots[j]? = some (.int (vs.getD j 0))) (hn : vs.length ≤ 255) (hl1 : 1 ≤ vs.length) (hS' : cl.slots.size = (Int32.ofNat vs.length).toNatClampNeg) :
    MetFree l (⟨"com/example/khamsin/khamsin/daily/CombatLine", "column", "(J)I"⟩ : MethodName) (head1 (Jvm.Cond.code (⟨"com/example/khamsin/khamsin/daily/CombatLine", "column", "(J)I"⟩ : MethodName) prog_10_method_9_code 4 (some .int) :: ws) ({ frames := 0, cells := 0, slots := 0, locals := 0 } : Room)) (fun a U => a = #[(.ref a0), (.long q1)] ∧ Z.Warmed39 U.vm ∧ U.heap = h0) (fun _ _ _ _ _ => True) (fun _ U o U' => ∃ v L, o = .returned v ∧ Q3 Z a0 q1 ar cl vs h0 n0 v U'.heap L ∧ FrameEnd U o U' L ({ frames := 0, cells := 0, slots := 0, locals := 0 } : Room).cells ({ frames := 0, cells := 0, slots := 0, locals := 0 } : Room).slots) := by
  refine MetFree.of_bodySF (plainFor_of_name pn_com_example_khamsin_khamsin_daily_CombatLine) hisR ?_
  intro p e s m args below meth c s₁ Bd hml0 hP hK
  obtain ⟨rfl, hZ, hh⟩ := hP
  have hx := Bd.exec
  have hby := Bd.bytes
  have hlk := Bd.notSynchronized
  have hml : c.maxLocals = 4 := hml0
  have hown : s.vm.findClass "com/example/khamsin/khamsin/daily/CombatLine" = some m.cls := findClass_of_methodNamed Bd.named
  have hnm := (name_of_methodNamed Bd.named Bd.method).1
  have X0 : Stand p l e ({ frames := 0, cells := 0, slots := 0, locals := 0 } : Room) s m #[(.ref a0), (.long q1)] below meth c s₁ [] 0 0 := Stand.of_body Bd
  have e0 : s₁.heap = h0 := by rw [← hh, Bd.state]; rfl
  have N0 := Fr.nil n0
  show Gl p e below (Ret s 0 0 (Q3 Z a0 q1 ar cl vs h0 n0)) (s₁.setTop (entryFrame m #[(.ref a0), (.long q1)] 4))
  rw [ef3 m a0 q1]
  obtain ⟨args, hargs⟩ : ∃ z : Array Value, z = #[(.ref a0), (.long q1)] := ⟨_, rfl⟩
  rw [← hargs] at X0
  refine Gl.up (B := s₁.setTop (mkF m 2 #[.val (.ref a0), .val (.long q1), .second, .val (.int (0 : Int32))] [])) (fun t kt => ?_) ?_
  · show Steps p.tables e below (s₁.setTop (mkF m 0 #[.val (.ref a0), .val (.long q1), .second, .unset] [])) _
    refine XS.iconst X0.here hx rfl (hb hby d3_0) ?_
    show Steps p.tables e below (s₁.setTop (mkF m 1 #[.val (.ref a0), .val (.long q1), .second, .unset] [(.int (0 : Int32))])) _
    refine XS.istoreN X0.here hx rfl (hb hby d3_1) rfl (l' := #[.val (.ref a0), .val (.long q1), .second, .val (.int (0 : Int32))]) rfl ?_
    exact kt
  suffices Lp : ∀ (k i : Nat) (T : State), i + 1 + k = vs.length → own_cnt vs q1 k i = own_cnt vs q1 (vs.length - 1) 0 → Stand p l e ({ frames := 0, cells := 0, slots := 0, locals := 0 } : Room) s m args below meth c T [] 0 0 → T.heap = h0 → Gl p e below (Ret s 0 0 (Q3 Z a0 q1 ar cl vs h0 n0)) (T.setTop (mkF m 2 #[.val (.ref a0), .val (.long q1), .second, .val (.int (Int32.ofNat i))] [])) by
    exact Lp (vs.length - 1) 0 _ (by omega) rfl X0 e0
  intro k
  induction k with
  | zero => 
      intro i T1 hi hc X1 e1
      have hL : vs.length = i + 1 := by omega
      refine Gl.up (B := T1.setTop (mkF m 6 #[.val (.ref a0), .val (.long q1), .second, .val (.int (Int32.ofNat i))] [(.ref a0), (.int ((Int32.ofNat i) + (1 : Int32)))])) (fun t kt => ?_) ?_
      · show Steps p.tables e below (T1.setTop (mkF m 2 #[.val (.ref a0), .val (.long q1), .second, .val (.int (Int32.ofNat i))] [])) _
        refine XS.iloadN X1.here hx rfl (hb hby d3_2) rfl ?_
        show Steps p.tables e below (T1.setTop (mkF m 3 #[.val (.ref a0), .val (.long q1), .second, .val (.int (Int32.ofNat i))] [(.int (Int32.ofNat i))])) _
        refine XS.iconst X1.here hx rfl (hb hby d3_3) ?_
        show Steps p.tables e below (T1.setTop (mkF m 4 #[.val (.ref a0), .val (.long q1), .second, .val (.int (Int32.ofNat i))] [(.int (1 : Int32)), (.int (Int32.ofNat i))])) _
        refine XS.iadd X1.here hx rfl (hb hby d3_4) rfl ?_
        show Steps p.tables e below (T1.setTop (mkF m 5 #[.val (.ref a0), .val (.long q1), .second, .val (.int (Int32.ofNat i))] [(.int ((Int32.ofNat i) + (1 : Int32)))])) _
        refine XS.aloadN X1.here hx rfl (hb hby d3_5) rfl rfl ?_
        exact kt
      obtain ⟨T2, X2, e2, st2⟩ := getF X1 hx hZ hown (host := "") (Or.inl (hw _ (List.mem_of_getElem? (i := 26) rfl))) Via.refl e1 F_a0_lows (g := (mkF m 6 #[.val (.ref a0), .val (.long q1), .second, .val (.int (Int32.ofNat i))] [(.ref a0), (.int ((Int32.ofNat i) + (1 : Int32)))])) rfl rfl (hb hby d3_6)
      refine Gl.up (B := T2.setTop (mkF m 9 #[.val (.ref a0), .val (.long q1), .second, .val (.int (Int32.ofNat i))] [(.ref ar), (.int ((Int32.ofNat i) + (1 : Int32)))])) (fun t kt => st2 _ kt) ?_
      refine Gl.up (B := T2.setTop (mkF m 34 #[.val (.ref a0), .val (.long q1), .second, .val (.int (Int32.ofNat i))] [(.int (Int32.ofNat i))])) (fun t kt => ?_) ?_
      · show Steps p.tables e below (T2.setTop (mkF m 9 #[.val (.ref a0), .val (.long q1), .second, .val (.int (Int32.ofNat i))] [(.ref ar), (.int ((Int32.ofNat i) + (1 : Int32)))])) _
        refine X2.arraylength hx (cell := cl) (by rw [e2]; exact (hA.ext O0.2).1) (State.isArrayOf_alike hZ.alike (hA.ext O0.2).2.1) (g := (mkF m 9 #[.val (.ref a0), .val (.long q1), .second, .val (.int (Int32.ofNat i))] [(.ref ar), (.int ((Int32.ofNat i) + (1 : Int32)))])) rfl (rest := [(.int ((Int32.ofNat i) + (1 : Int32)))]) rfl (hb hby d3_9) _ ?_
        rw [len_of hS' (own_nn hn)]
        show Steps p.tables e below (T2.setTop (mkF m 10 #[.val (.ref a0), .val (.long q1), .second, .val (.int (Int32.ofNat i))] [(.int (Int32.ofNat vs.length)), (.int ((Int32.ofNat i) + (1 : Int32)))])) _
        refine XS.icmpYes X2.here hx rfl (pc0 := 10) (pc' := 33) rfl (hb hby d3_10) rfl (flt (by rw [own_one, ← hL]; exact own_nlt _)).2.1 (by decide) (by decide) ?_
        show Steps p.tables e below (T2.setTop (mkF m 33 #[.val (.ref a0), .val (.long q1), .second, .val (.int (Int32.ofNat i))] [])) _
        refine XS.iloadN X2.here hx rfl (hb hby d3_33) rfl ?_
        exact kt
      refine Gl.retI X2 hx hlk Bd.returns (hb hby d3_34) ?_ (by decide) (by decide)
      exact ⟨congrArg (fun z => some (Value.int (Int32.ofNat z))) hc, rfl, e2⟩
  | succ k ih => 
      intro i T3 hi hc X3 e3
      have hL : i + 1 < vs.length := by omega
      obtain ⟨hin, hat'⟩ := own_in hn hL hS hat
      refine Gl.up (B := T3.setTop (mkF m 6 #[.val (.ref a0), .val (.long q1), .second, .val (.int (Int32.ofNat i))] [(.ref a0), (.int ((Int32.ofNat i) + (1 : Int32)))])) (fun t kt => ?_) ?_
      · show Steps p.tables e below (T3.setTop (mkF m 2 #[.val (.ref a0), .val (.long q1), .second, .val (.int (Int32.ofNat i))] [])) _
        refine XS.iloadN X3.here hx rfl (hb hby d3_2) rfl ?_
        show Steps p.tables e below (T3.setTop (mkF m 3 #[.val (.ref a0), .val (.long q1), .second, .val (.int (Int32.ofNat i))] [(.int (Int32.ofNat i))])) _
        refine XS.iconst X3.here hx rfl (hb hby d3_3) ?_
        show Steps p.tables e below (T3.setTop (mkF m 4 #[.val (.ref a0), .val (.long q1), .second, .val (.int (Int32.ofNat i))] [(.int (1 : Int32)), (.int (Int32.ofNat i))])) _
        refine XS.iadd X3.here hx rfl (hb hby d3_4) rfl ?_
        show Steps p.tables e below (T3.setTop (mkF m 5 #[.val (.ref a0), .val (.long q1), .second, .val (.int (Int32.ofNat i))] [(.int ((Int32.ofNat i) + (1 : Int32)))])) _
        refine XS.aloadN X3.here hx rfl (hb hby d3_5) rfl rfl ?_
        exact kt
      obtain ⟨T4, X4, e4, st4⟩ := getF X3 hx hZ hown (host := "") (Or.inl (hw _ (List.mem_of_getElem? (i := 26) rfl))) Via.refl e3 F_a0_lows (g := (mkF m 6 #[.val (.ref a0), .val (.long q1), .second, .val (.int (Int32.ofNat i))] [(.ref a0), (.int ((Int32.ofNat i) + (1 : Int32)))])) rfl rfl (hb hby d3_6)
      refine Gl.up (B := T4.setTop (mkF m 9 #[.val (.ref a0), .val (.long q1), .second, .val (.int (Int32.ofNat i))] [(.ref ar), (.int ((Int32.ofNat i) + (1 : Int32)))])) (fun t kt => st4 _ kt) ?_
      refine Gl.up (B := T4.setTop (mkF m 14 #[.val (.ref a0), .val (.long q1), .second, .val (.int (Int32.ofNat i))] [(.ref a0)])) (fun t kt => ?_) ?_
      · show Steps p.tables e below (T4.setTop (mkF m 9 #[.val (.ref a0), .val (.long q1), .second, .val (.int (Int32.ofNat i))] [(.ref ar), (.int ((Int32.ofNat i) + (1 : Int32)))])) _
        refine X4.arraylength hx (cell := cl) (by rw [e4]; exact (hA.ext O0.2).1) (State.isArrayOf_alike hZ.alike (hA.ext O0.2).2.1) (g := (mkF m 9 #[.val (.ref a0), .val (.long q1), .second, .val (.int (Int32.ofNat i))] [(.ref ar), (.int ((Int32.ofNat i) + (1 : Int32)))])) rfl (rest := [(.int ((Int32.ofNat i) + (1 : Int32)))]) rfl (hb hby d3_9) _ ?_
        rw [len_of hS' (own_nn hn)]
        show Steps p.tables e below (T4.setTop (mkF m 10 #[.val (.ref a0), .val (.long q1), .second, .val (.int (Int32.ofNat i))] [(.int (Int32.ofNat vs.length)), (.int ((Int32.ofNat i) + (1 : Int32)))])) _
        refine XS.icmpNo X4.here hx rfl (hb hby d3_10) rfl (tlt (by rw [own_one]; exact own_lt hL hn)).2.1 ?_
        show Steps p.tables e below (T4.setTop (mkF m 13 #[.val (.ref a0), .val (.long q1), .second, .val (.int (Int32.ofNat i))] [])) _
        refine XS.aloadN X4.here hx rfl (hb hby d3_13) rfl rfl ?_
        exact kt
      obtain ⟨T5, X5, e5, st5⟩ := getF X4 hx hZ hown (host := "") (Or.inl (hw _ (List.mem_of_getElem? (i := 26) rfl))) Via.refl e4 F_a0_lows (g := (mkF m 14 #[.val (.ref a0), .val (.long q1), .second, .val (.int (Int32.ofNat i))] [(.ref a0)])) rfl rfl (hb hby d3_14)
      refine Gl.up (B := T5.setTop (mkF m 17 #[.val (.ref a0), .val (.long q1), .second, .val (.int (Int32.ofNat i))] [(.ref ar)])) (fun t kt => st5 _ kt) ?_
      refine Gl.up (B := T5.setTop (mkF m 20 #[.val (.ref a0), .val (.long q1), .second, .val (.int (Int32.ofNat i))] [(.int ((Int32.ofNat i) + (1 : Int32))), (.ref ar)])) (fun t kt => ?_) ?_
      · show Steps p.tables e below (T5.setTop (mkF m 17 #[.val (.ref a0), .val (.long q1), .second, .val (.int (Int32.ofNat i))] [(.ref ar)])) _
        refine XS.iloadN X5.here hx rfl (hb hby d3_17) rfl ?_
        show Steps p.tables e below (T5.setTop (mkF m 18 #[.val (.ref a0), .val (.long q1), .second, .val (.int (Int32.ofNat i))] [(.int (Int32.ofNat i)), (.ref ar)])) _
        refine XS.iconst X5.here hx rfl (hb hby d3_18) ?_
        show Steps p.tables e below (T5.setTop (mkF m 19 #[.val (.ref a0), .val (.long q1), .second, .val (.int (Int32.ofNat i))] [(.int (1 : Int32)), (.int (Int32.ofNat i)), (.ref ar)])) _
        refine XS.iadd X5.here hx rfl (hb hby d3_19) rfl ?_
        exact kt
      refine Gl.up (B := T5.setTop (mkF m 24 #[.val (.ref a0), .val (.long q1), .second, .val (.int (Int32.ofNat i))] [(.int (lcmpW ((vs.getD (i + 1) 0).toInt64) q1))])) (fun t kt => ?_) ?_
      · show Steps p.tables e below (T5.setTop (mkF m 20 #[.val (.ref a0), .val (.long q1), .second, .val (.int (Int32.ofNat i))] [(.int ((Int32.ofNat i) + (1 : Int32))), (.ref ar)])) _
        refine X5.iaload hx (j := ((Int32.ofNat i) + (1 : Int32))) (v := (.int (vs.getD (i + 1) 0))) (by rw [e5]; exact (hA.ext O0.2).1) (State.isArrayOf_alike hZ.alike (hA.ext O0.2).2.1) (hA.ext O0.2).2.2 hin hat' (g := (mkF m 20 #[.val (.ref a0), .val (.long q1), .second, .val (.int (Int32.ofNat i))] [(.int ((Int32.ofNat i) + (1 : Int32))), (.ref ar)])) rfl rfl (hb hby d3_20) _ ?_
        show Steps p.tables e below (T5.setTop (mkF m 21 #[.val (.ref a0), .val (.long q1), .second, .val (.int (Int32.ofNat i))] [(.int (vs.getD (i + 1) 0))])) _
        refine XS.i2l X5.here hx rfl (hb hby d3_21) rfl ?_
        show Steps p.tables e below (T5.setTop (mkF m 22 #[.val (.ref a0), .val (.long q1), .second, .val (.int (Int32.ofNat i))] [(.long ((vs.getD (i + 1) 0).toInt64))])) _
        refine XS.lloadN X5.here hx rfl (hb hby d3_22) rfl ?_
        show Steps p.tables e below (T5.setTop (mkF m 23 #[.val (.ref a0), .val (.long q1), .second, .val (.int (Int32.ofNat i))] [(.long q1), (.long ((vs.getD (i + 1) 0).toInt64))])) _
        refine XS.lcmp X5.here hx rfl (hb hby d3_23) rfl ?_
        exact kt
      by_cases c24_6 : q1 < ((vs.getD (i + 1) 0).toInt64)
      · refine Gl.up (B := T5.setTop (mkF m 34 #[.val (.ref a0), .val (.long q1), .second, .val (.int (Int32.ofNat i))] [(.int (Int32.ofNat i))])) (fun t kt => ?_) ?_
        · show Steps p.tables e below (T5.setTop (mkF m 24 #[.val (.ref a0), .val (.long q1), .second, .val (.int (Int32.ofNat i))] [(.int (lcmpW ((vs.getD (i + 1) 0).toInt64) q1))])) _
          refine XS.ifYes X5.here hx rfl (pc0 := 24) (pc' := 33) rfl (hb hby d3_24) rfl (jc_gt_t c24_6) (by decide) (by decide) ?_
          show Steps p.tables e below (T5.setTop (mkF m 33 #[.val (.ref a0), .val (.long q1), .second, .val (.int (Int32.ofNat i))] [])) _
          refine XS.iloadN X5.here hx rfl (hb hby d3_33) rfl ?_
          exact kt
        refine Gl.retI X5 hx hlk Bd.returns (hb hby d3_34) ?_ (by decide) (by decide)
        exact ⟨congrArg (fun z => some (Value.int (Int32.ofNat z))) ((if_pos c24_6).symm.trans hc), rfl, e5⟩
      · refine Gl.up (B := T5.setTop (mkF m 2 #[.val (.ref a0), .val (.long q1), .second, .val (.int ((Int32.ofNat i) + (1 : Int32)))] [])) (fun t kt => ?_) ?_
        · show Steps p.tables e below (T5.setTop (mkF m 24 #[.val (.ref a0), .val (.long q1), .second, .val (.int (Int32.ofNat i))] [(.int (lcmpW ((vs.getD (i + 1) 0).toInt64) q1))])) _
          refine XS.ifNo X5.here hx rfl (hb hby d3_24) rfl (jc_gt_f c24_6) ?_
          show Steps p.tables e below (T5.setTop (mkF m 27 #[.val (.ref a0), .val (.long q1), .second, .val (.int (Int32.ofNat i))] [])) _
          refine XS.iinc X5.here hx rfl (hb hby d3_27) rfl (l' := #[.val (.ref a0), .val (.long q1), .second, .val (.int ((Int32.ofNat i) + (1 : Int32)))]) rfl ?_
          show Steps p.tables e below (T5.setTop (mkF m 30 #[.val (.ref a0), .val (.long q1), .second, .val (.int ((Int32.ofNat i) + (1 : Int32)))] [])) _
          refine XS.goto X5.here hx rfl (pc0 := 30) (pc' := 2) rfl (hb hby d3_30) (by decide) (by decide) ?_
          exact kt
        rw [own_one]
        exact ih (i + 1) _ (by omega) ((if_neg c24_6).symm.trans hc) X5 e5
theorem own_eqI {args : Array Value} {s : State} {idx : List Nat} {t : Term} {k : Int32} (h : (Cond.eq t (.int k)).value args s none s idx = some true) : t.eval args s none idx s = some (.int k) := by
  obtain ⟨x, y, h1, h2, h3, -⟩ := cmp_v (Or.inl h)
  cases (show (Term.int k).eval args s none idx s = some (.int k) from rfl).symm.trans h2
  cases x <;> simp [Kin, Value.isRef] at h3
  rename_i z
  have e : (Cond.eq t (.int k)).value args s none s idx = some (decide (z = k)) := by simp [Cond.value, h1, h2]
  rw [e] at h
  have q : z = k := by simpa using h
  rw [h1, q]
theorem own_eqF {args : Array Value} {s : State} {t : Term} {k : Int32} {a : Addr} {C n d : String} (ev : t.eval args s none [] s = some (.ref a)) (h : (Cond.eq (.field t C n d) (.int k)).value args s none s [] = some true) : s.fieldOf? a C n d = some (.int k) := by
  have e := own_eqI h
  rwa [fld_at ev] at e
theorem own_arrat {s : State} {a : Addr} {c : Cell} {ty : FieldType} (A : Arr s s.heap a c ty) : s.arrayAt? a = some c := IntBox.arrayAt_of A.1 A.2.1 A.2.2
theorem own_len {args : Array Value} {s : State} {t : Term} {a : Addr} {c : Cell} {k : Int32} {n : Nat} (ev : t.eval args s none [] s = some (.ref a)) (A : Arr s s.heap a c .int) (h : (Cond.eq (.length t) (.int k)).value args s none s [] = some true) (hk : k.toInt = (n : Int)) : c.slots.size = n := by
  have e := own_eqI h
  by_cases hl : c.slots.size < 2 ^ 31
  · rw [len_f ev (own_arrat A) hl] at e
    have q := congrArg Int32.toInt (Value.int.inj (Option.some.inj e))
    rw [len_toInt hl, hk] at q
    omega
  · simp [Term.eval, ev, own_arrat A, hl] at e
theorem own_el {args : Array Value} {s : State} {t : Term} {a : Addr} {c : Cell} {j k : Int32} {n : Nat} (ev : t.eval args s none [] s = some (.ref a)) (A : Arr s s.heap a c .int) (h : (Cond.eq (.elem t (.int j)) (.int k)).value args s none s [] = some true) (hj : ¬ j < 0) (hn : j.toNatClampNeg = n) : c.slots[n]? = some (.int k) := by
  have e := own_eqI h
  rw [elem_f ev rfl (own_arrat A) hj, hn] at e
  exact e
theorem own_eqs {args : Array Value} {s : State} {idx : List Nat} {t u : Term} {k : Int32} (h : (Cond.eq t u).value args s none s idx = some true) (hu : u.eval args s none idx s = some (.int k)) : t.eval args s none idx s = some (.int k) := by
  obtain ⟨x, y, h1, h2, h3, -⟩ := cmp_v (Or.inl h)
  cases hu.symm.trans h2
  cases x <;> simp [Kin, Value.isRef] at h3
  rename_i z
  have e : (Cond.eq t u).value args s none s idx = some (decide (z = k)) := by simp [Cond.value, h1, h2]
  rw [e] at h
  have q : z = k := by simpa using h
  rw [h1, q]
theorem own_or {args : Array Value} {s : State} {idx : List Nat} {c d : Cond} (hc : c.value args s none s idx = some false) (h : (Cond.or c d).value args s none s idx = some true) : d.value args s none s idx = some true := by
  simpa [Cond.value, hc] using h
theorem own_at {args : Array Value} {s : State} {t u : Term} {a : Addr} {c : Cell} {n : Nat} {k : Int32} (ev : t.eval args s none [n] s = some (.ref a)) (A : Arr s s.heap a c .int) (hn : n < 256) (h : (Cond.eq (.elem t (.index 0)) u).value args s none s [n] = some true) (hu : u.eval args s none [n] s = some (.int k)) : c.slots[n]? = some (.int k) := by
  have e := own_eqs h hu
  have hn' : n.toInt32 = Int32.ofNat n := rfl
  rw [elem_f ev (Term.index_eval n) (own_arrat A) (by rw [hn']; exact own_nn (by omega)), hn', own_n32 (by omega)] at e
  exact e
def own_has (c : Cell) : Nat → List Int32 → Prop
  | _, [] => True
  | i, v :: vs => c.slots[i]? = some (.int v) ∧ own_has c (i + 1) vs
theorem own_hasat {c : Cell} : ∀ (vs : List Int32) (i : Nat), own_has c i vs → ∀ j, j < vs.length → c.slots[i + j]? = some (.int (vs.getD j 0)) := by
  intro vs
  induction vs with
  | nil => intro i _ j hj; exact absurd hj (Nat.not_lt_zero _)
  | cons v vs ih =>
    intro i h j hj
    cases j with
    | zero => exact h.1
    | succ j => rw [show i + (j + 1) = i + 1 + j by omega]; exact ih (i + 1) h.2 j (by simpa using hj)
theorem own_hat {c : Cell} {vs : List Int32} (h : own_has c 0 vs) : ∀ j, j < vs.length → c.slots[j]? = some (.int (vs.getD j 0)) := fun j hj => by
  have e := own_hasat vs 0 h j hj
  rwa [Nat.zero_add] at e
/-- which line goes with which number of columns -/
def own_tab (n : Int32) (vs : List Int32) : Prop := (n = (8 : Int32) ∧ vs = [(-1 : Int32), (0 : Int32), (1 : Int32), (2 : Int32), (4 : Int32), (6 : Int32), (9 : Int32), (12 : Int32)]) ∨ (n = (9 : Int32) ∧ vs = [(-2 : Int32), (-1 : Int32), (0 : Int32), (1 : Int32), (2 : Int32), (4 : Int32), (6 : Int32), (9 : Int32), (12 : Int32)]) ∨ (n = (10 : Int32) ∧ vs = [(-3 : Int32), (-2 : Int32), (-1 : Int32), (0 : Int32), (1 : Int32), (2 : Int32), (4 : Int32), (6 : Int32), (9 : Int32), (12 : Int32)]) ∨ (n = (11 : Int32) ∧ vs = [(-5 : Int32), (-4 : Int32), (-2 : Int32), (-1 : Int32), (0 : Int32), (1 : Int32), (2 : Int32), (4 : Int32), (6 : Int32), (9 : Int32), (12 : Int32)]) ∨ (n = (12 : Int32) ∧ vs = [(-7 : Int32), (-6 : Int32), (-4 : Int32), (-2 : Int32), (-1 : Int32), (0 : Int32), (1 : Int32), (2 : Int32), (4 : Int32), (6 : Int32), (9 : Int32), (12 : Int32)])
theorem own_sel {Z : State} {h : Heap} {k n : Int32} {v wM wR wT wK wB wX : Addr} {ar_wM : Addr} {cl_wM : Cell} (L_wM : Line Z h wM ar_wM cl_wM [(-1 : Int32), (0 : Int32), (1 : Int32), (2 : Int32), (4 : Int32), (6 : Int32), (9 : Int32), (12 : Int32)]) {ar_wR : Addr} {cl_wR : Cell} (L_wR : Line Z h wR ar_wR cl_wR [(-2 : Int32), (-1 : Int32), (0 : Int32), (1 : Int32), (2 : Int32), (4 : Int32), (6 : Int32), (9 : Int32), (12 : Int32)]) {ar_wT : Addr} {cl_wT : Cell} (L_wT : Line Z h wT ar_wT cl_wT [(-3 : Int32), (-2 : Int32), (-1 : Int32), (0 : Int32), (1 : Int32), (2 : Int32), (4 : Int32), (6 : Int32), (9 : Int32), (12 : Int32)]) {ar_wK : Addr} {cl_wK : Cell} (L_wK : Line Z h wK ar_wK cl_wK [(-3 : Int32), (-2 : Int32), (-1 : Int32), (0 : Int32), (1 : Int32), (2 : Int32), (4 : Int32), (6 : Int32), (9 : Int32), (12 : Int32)]) {ar_wB : Addr} {cl_wB : Cell} (L_wB : Line Z h wB ar_wB cl_wB [(-5 : Int32), (-4 : Int32), (-2 : Int32), (-1 : Int32), (0 : Int32), (1 : Int32), (2 : Int32), (4 : Int32), (6 : Int32), (9 : Int32), (12 : Int32)]) {ar_wX : Addr} {cl_wX : Cell} (L_wX : Line Z h wX ar_wX cl_wX [(-7 : Int32), (-6 : Int32), (-4 : Int32), (-2 : Int32), (-1 : Int32), (0 : Int32), (1 : Int32), (2 : Int32), (4 : Int32), (6 : Int32), (9 : Int32), (12 : Int32)])  (hv : v = if k = (0 : Int32) then wM else (if k = (1 : Int32) then wR else (if k = (2 : Int32) then wT else (if k = (3 : Int32) then wK else (if k = (4 : Int32) then wB else (wX)))))) (hn : n = if k = (0 : Int32) then (8 : Int32) else (if k = (1 : Int32) then (9 : Int32) else (if k = (2 : Int32) then (10 : Int32) else (if k = (3 : Int32) then (10 : Int32) else (if k = (4 : Int32) then (11 : Int32) else ((12 : Int32))))))) : ∃ ar cl vs, own_tab n vs ∧ Line Z h v ar cl vs := by
  unfold own_tab
  by_cases h0 : k = (0 : Int32)
  · exact ⟨_, _, [(-1 : Int32), (0 : Int32), (1 : Int32), (2 : Int32), (4 : Int32), (6 : Int32), (9 : Int32), (12 : Int32)], by rw [hn, if_pos h0]; exact Or.inl ⟨rfl, rfl⟩, by rw [hv, if_pos h0]; exact L_wM⟩
  by_cases h1 : k = (1 : Int32)
  · exact ⟨_, _, [(-2 : Int32), (-1 : Int32), (0 : Int32), (1 : Int32), (2 : Int32), (4 : Int32), (6 : Int32), (9 : Int32), (12 : Int32)], by rw [hn, if_neg h0, if_pos h1]; exact Or.inr (Or.inl ⟨rfl, rfl⟩), by rw [hv, if_neg h0, if_pos h1]; exact L_wR⟩
  by_cases h2 : k = (2 : Int32)
  · exact ⟨_, _, [(-3 : Int32), (-2 : Int32), (-1 : Int32), (0 : Int32), (1 : Int32), (2 : Int32), (4 : Int32), (6 : Int32), (9 : Int32), (12 : Int32)], by rw [hn, if_neg h0, if_neg h1, if_pos h2]; exact Or.inr (Or.inr (Or.inl ⟨rfl, rfl⟩)), by rw [hv, if_neg h0, if_neg h1, if_pos h2]; exact L_wT⟩
  by_cases h3 : k = (3 : Int32)
  · exact ⟨_, _, [(-3 : Int32), (-2 : Int32), (-1 : Int32), (0 : Int32), (1 : Int32), (2 : Int32), (4 : Int32), (6 : Int32), (9 : Int32), (12 : Int32)], by rw [hn, if_neg h0, if_neg h1, if_neg h2, if_pos h3]; exact Or.inr (Or.inr (Or.inl ⟨rfl, rfl⟩)), by rw [hv, if_neg h0, if_neg h1, if_neg h2, if_pos h3]; exact L_wK⟩
  by_cases h4 : k = (4 : Int32)
  · exact ⟨_, _, [(-5 : Int32), (-4 : Int32), (-2 : Int32), (-1 : Int32), (0 : Int32), (1 : Int32), (2 : Int32), (4 : Int32), (6 : Int32), (9 : Int32), (12 : Int32)], by rw [hn, if_neg h0, if_neg h1, if_neg h2, if_neg h3, if_pos h4]; exact Or.inr (Or.inr (Or.inr (Or.inl ⟨rfl, rfl⟩))), by rw [hv, if_neg h0, if_neg h1, if_neg h2, if_neg h3, if_pos h4]; exact L_wB⟩
  exact ⟨_, _, [(-7 : Int32), (-6 : Int32), (-4 : Int32), (-2 : Int32), (-1 : Int32), (0 : Int32), (1 : Int32), (2 : Int32), (4 : Int32), (6 : Int32), (9 : Int32), (12 : Int32)], by rw [hn, if_neg h0, if_neg h1, if_neg h2, if_neg h3, if_neg h4]; exact Or.inr (Or.inr (Or.inr (Or.inr (⟨rfl, rfl⟩)))), by rw [hv, if_neg h0, if_neg h1, if_neg h2, if_neg h3, if_neg h4]; exact L_wX⟩
theorem own_tablen {n : Int32} {vs : List Int32} (h : own_tab n vs) : vs.length ≤ 255 ∧ 1 ≤ vs.length := by
  rcases h with ⟨-, rfl⟩ | ⟨-, rfl⟩ | ⟨-, rfl⟩ | ⟨-, rfl⟩ | ⟨-, rfl⟩ <;> decide
set_option maxHeartbeats 8000000 in
theorem own_main {n : Int32} {vs : List Int32} (h : own_tab n vs) (d : Int64) : Int32.ofNat (own_cnt vs d (vs.length - 1) 0) = f2 (0 : Int32) ((((((((((((f1 d (-6 : Int64)) + (f1 d (-4 : Int64))) + (f1 d (-2 : Int64))) + (f1 d (-1 : Int64))) + (f1 d (0 : Int64))) + (f1 d (1 : Int64))) + (f1 d (2 : Int64))) + (f1 d (4 : Int64))) + (f1 d (6 : Int64))) + (f1 d (9 : Int64))) + (f1 d (12 : Int64))) - ((12 : Int32) - n)) := by
  unfold f2 f1
  by_cases h0 : d < (-6 : Int64)
  · have h1 : d < (-4 : Int64) := Int64.lt_trans h0 (by decide)
    have h2 : d < (-2 : Int64) := Int64.lt_trans h0 (by decide)
    have h3 : d < (-1 : Int64) := Int64.lt_trans h0 (by decide)
    have h4 : d < (0 : Int64) := Int64.lt_trans h0 (by decide)
    have h5 : d < (1 : Int64) := Int64.lt_trans h0 (by decide)
    have h6 : d < (2 : Int64) := Int64.lt_trans h0 (by decide)
    have h7 : d < (4 : Int64) := Int64.lt_trans h0 (by decide)
    have h8 : d < (6 : Int64) := Int64.lt_trans h0 (by decide)
    have h9 : d < (9 : Int64) := Int64.lt_trans h0 (by decide)
    have h10 : d < (12 : Int64) := Int64.lt_trans h0 (by decide)
    rcases h with ⟨rfl, rfl⟩ | ⟨rfl, rfl⟩ | ⟨rfl, rfl⟩ | ⟨rfl, rfl⟩ | ⟨rfl, rfl⟩ <;> simp only [own_cnt, List.length, List.getD_cons_succ, List.getD_cons_zero, Nat.reduceAdd, Nat.reduceSub, show (-6 : Int32).toInt64 = (-6 : Int64) from rfl, show (-4 : Int32).toInt64 = (-4 : Int64) from rfl, show (-2 : Int32).toInt64 = (-2 : Int64) from rfl, show (-1 : Int32).toInt64 = (-1 : Int64) from rfl, show (0 : Int32).toInt64 = (0 : Int64) from rfl, show (1 : Int32).toInt64 = (1 : Int64) from rfl, show (2 : Int32).toInt64 = (2 : Int64) from rfl, show (4 : Int32).toInt64 = (4 : Int64) from rfl, show (6 : Int32).toInt64 = (6 : Int64) from rfl, show (9 : Int32).toInt64 = (9 : Int64) from rfl, show (12 : Int32).toInt64 = (12 : Int64) from rfl, h0, h1, h2, h3, h4, h5, h6, h7, h8, h9, h10, if_true, if_false] <;> decide
  by_cases h1 : d < (-4 : Int64)
  · have h2 : d < (-2 : Int64) := Int64.lt_trans h1 (by decide)
    have h3 : d < (-1 : Int64) := Int64.lt_trans h1 (by decide)
    have h4 : d < (0 : Int64) := Int64.lt_trans h1 (by decide)
    have h5 : d < (1 : Int64) := Int64.lt_trans h1 (by decide)
    have h6 : d < (2 : Int64) := Int64.lt_trans h1 (by decide)
    have h7 : d < (4 : Int64) := Int64.lt_trans h1 (by decide)
    have h8 : d < (6 : Int64) := Int64.lt_trans h1 (by decide)
    have h9 : d < (9 : Int64) := Int64.lt_trans h1 (by decide)
    have h10 : d < (12 : Int64) := Int64.lt_trans h1 (by decide)
    rcases h with ⟨rfl, rfl⟩ | ⟨rfl, rfl⟩ | ⟨rfl, rfl⟩ | ⟨rfl, rfl⟩ | ⟨rfl, rfl⟩ <;> simp only [own_cnt, List.length, List.getD_cons_succ, List.getD_cons_zero, Nat.reduceAdd, Nat.reduceSub, show (-6 : Int32).toInt64 = (-6 : Int64) from rfl, show (-4 : Int32).toInt64 = (-4 : Int64) from rfl, show (-2 : Int32).toInt64 = (-2 : Int64) from rfl, show (-1 : Int32).toInt64 = (-1 : Int64) from rfl, show (0 : Int32).toInt64 = (0 : Int64) from rfl, show (1 : Int32).toInt64 = (1 : Int64) from rfl, show (2 : Int32).toInt64 = (2 : Int64) from rfl, show (4 : Int32).toInt64 = (4 : Int64) from rfl, show (6 : Int32).toInt64 = (6 : Int64) from rfl, show (9 : Int32).toInt64 = (9 : Int64) from rfl, show (12 : Int32).toInt64 = (12 : Int64) from rfl, h0, h1, h2, h3, h4, h5, h6, h7, h8, h9, h10, if_true, if_false] <;> decide
  by_cases h2 : d < (-2 : Int64)
  · have h3 : d < (-1 : Int64) := Int64.lt_trans h2 (by decide)
    have h4 : d < (0 : Int64) := Int64.lt_trans h2 (by decide)
    have h5 : d < (1 : Int64) := Int64.lt_trans h2 (by decide)
    have h6 : d < (2 : Int64) := Int64.lt_trans h2 (by decide)
    have h7 : d < (4 : Int64) := Int64.lt_trans h2 (by decide)
    have h8 : d < (6 : Int64) := Int64.lt_trans h2 (by decide)
    have h9 : d < (9 : Int64) := Int64.lt_trans h2 (by decide)
    have h10 : d < (12 : Int64) := Int64.lt_trans h2 (by decide)
    rcases h with ⟨rfl, rfl⟩ | ⟨rfl, rfl⟩ | ⟨rfl, rfl⟩ | ⟨rfl, rfl⟩ | ⟨rfl, rfl⟩ <;> simp only [own_cnt, List.length, List.getD_cons_succ, List.getD_cons_zero, Nat.reduceAdd, Nat.reduceSub, show (-6 : Int32).toInt64 = (-6 : Int64) from rfl, show (-4 : Int32).toInt64 = (-4 : Int64) from rfl, show (-2 : Int32).toInt64 = (-2 : Int64) from rfl, show (-1 : Int32).toInt64 = (-1 : Int64) from rfl, show (0 : Int32).toInt64 = (0 : Int64) from rfl, show (1 : Int32).toInt64 = (1 : Int64) from rfl, show (2 : Int32).toInt64 = (2 : Int64) from rfl, show (4 : Int32).toInt64 = (4 : Int64) from rfl, show (6 : Int32).toInt64 = (6 : Int64) from rfl, show (9 : Int32).toInt64 = (9 : Int64) from rfl, show (12 : Int32).toInt64 = (12 : Int64) from rfl, h0, h1, h2, h3, h4, h5, h6, h7, h8, h9, h10, if_true, if_false] <;> decide
  by_cases h3 : d < (-1 : Int64)
  · have h4 : d < (0 : Int64) := Int64.lt_trans h3 (by decide)
    have h5 : d < (1 : Int64) := Int64.lt_trans h3 (by decide)
    have h6 : d < (2 : Int64) := Int64.lt_trans h3 (by decide)
    have h7 : d < (4 : Int64) := Int64.lt_trans h3 (by decide)
    have h8 : d < (6 : Int64) := Int64.lt_trans h3 (by decide)
    have h9 : d < (9 : Int64) := Int64.lt_trans h3 (by decide)
    have h10 : d < (12 : Int64) := Int64.lt_trans h3 (by decide)
    rcases h with ⟨rfl, rfl⟩ | ⟨rfl, rfl⟩ | ⟨rfl, rfl⟩ | ⟨rfl, rfl⟩ | ⟨rfl, rfl⟩ <;> simp only [own_cnt, List.length, List.getD_cons_succ, List.getD_cons_zero, Nat.reduceAdd, Nat.reduceSub, show (-6 : Int32).toInt64 = (-6 : Int64) from rfl, show (-4 : Int32).toInt64 = (-4 : Int64) from rfl, show (-2 : Int32).toInt64 = (-2 : Int64) from rfl, show (-1 : Int32).toInt64 = (-1 : Int64) from rfl, show (0 : Int32).toInt64 = (0 : Int64) from rfl, show (1 : Int32).toInt64 = (1 : Int64) from rfl, show (2 : Int32).toInt64 = (2 : Int64) from rfl, show (4 : Int32).toInt64 = (4 : Int64) from rfl, show (6 : Int32).toInt64 = (6 : Int64) from rfl, show (9 : Int32).toInt64 = (9 : Int64) from rfl, show (12 : Int32).toInt64 = (12 : Int64) from rfl, h0, h1, h2, h3, h4, h5, h6, h7, h8, h9, h10, if_true, if_false] <;> decide
  by_cases h4 : d < (0 : Int64)
  · have h5 : d < (1 : Int64) := Int64.lt_trans h4 (by decide)
    have h6 : d < (2 : Int64) := Int64.lt_trans h4 (by decide)
    have h7 : d < (4 : Int64) := Int64.lt_trans h4 (by decide)
    have h8 : d < (6 : Int64) := Int64.lt_trans h4 (by decide)
    have h9 : d < (9 : Int64) := Int64.lt_trans h4 (by decide)
    have h10 : d < (12 : Int64) := Int64.lt_trans h4 (by decide)
    rcases h with ⟨rfl, rfl⟩ | ⟨rfl, rfl⟩ | ⟨rfl, rfl⟩ | ⟨rfl, rfl⟩ | ⟨rfl, rfl⟩ <;> simp only [own_cnt, List.length, List.getD_cons_succ, List.getD_cons_zero, Nat.reduceAdd, Nat.reduceSub, show (-6 : Int32).toInt64 = (-6 : Int64) from rfl, show (-4 : Int32).toInt64 = (-4 : Int64) from rfl, show (-2 : Int32).toInt64 = (-2 : Int64) from rfl, show (-1 : Int32).toInt64 = (-1 : Int64) from rfl, show (0 : Int32).toInt64 = (0 : Int64) from rfl, show (1 : Int32).toInt64 = (1 : Int64) from rfl, show (2 : Int32).toInt64 = (2 : Int64) from rfl, show (4 : Int32).toInt64 = (4 : Int64) from rfl, show (6 : Int32).toInt64 = (6 : Int64) from rfl, show (9 : Int32).toInt64 = (9 : Int64) from rfl, show (12 : Int32).toInt64 = (12 : Int64) from rfl, h0, h1, h2, h3, h4, h5, h6, h7, h8, h9, h10, if_true, if_false] <;> decide
  by_cases h5 : d < (1 : Int64)
  · have h6 : d < (2 : Int64) := Int64.lt_trans h5 (by decide)
    have h7 : d < (4 : Int64) := Int64.lt_trans h5 (by decide)
    have h8 : d < (6 : Int64) := Int64.lt_trans h5 (by decide)
    have h9 : d < (9 : Int64) := Int64.lt_trans h5 (by decide)
    have h10 : d < (12 : Int64) := Int64.lt_trans h5 (by decide)
    rcases h with ⟨rfl, rfl⟩ | ⟨rfl, rfl⟩ | ⟨rfl, rfl⟩ | ⟨rfl, rfl⟩ | ⟨rfl, rfl⟩ <;> simp only [own_cnt, List.length, List.getD_cons_succ, List.getD_cons_zero, Nat.reduceAdd, Nat.reduceSub, show (-6 : Int32).toInt64 = (-6 : Int64) from rfl, show (-4 : Int32).toInt64 = (-4 : Int64) from rfl, show (-2 : Int32).toInt64 = (-2 : Int64) from rfl, show (-1 : Int32).toInt64 = (-1 : Int64) from rfl, show (0 : Int32).toInt64 = (0 : Int64) from rfl, show (1 : Int32).toInt64 = (1 : Int64) from rfl, show (2 : Int32).toInt64 = (2 : Int64) from rfl, show (4 : Int32).toInt64 = (4 : Int64) from rfl, show (6 : Int32).toInt64 = (6 : Int64) from rfl, show (9 : Int32).toInt64 = (9 : Int64) from rfl, show (12 : Int32).toInt64 = (12 : Int64) from rfl, h0, h1, h2, h3, h4, h5, h6, h7, h8, h9, h10, if_true, if_false] <;> decide
  by_cases h6 : d < (2 : Int64)
  · have h7 : d < (4 : Int64) := Int64.lt_trans h6 (by decide)
    have h8 : d < (6 : Int64) := Int64.lt_trans h6 (by decide)
    have h9 : d < (9 : Int64) := Int64.lt_trans h6 (by decide)
    have h10 : d < (12 : Int64) := Int64.lt_trans h6 (by decide)
    rcases h with ⟨rfl, rfl⟩ | ⟨rfl, rfl⟩ | ⟨rfl, rfl⟩ | ⟨rfl, rfl⟩ | ⟨rfl, rfl⟩ <;> simp only [own_cnt, List.length, List.getD_cons_succ, List.getD_cons_zero, Nat.reduceAdd, Nat.reduceSub, show (-6 : Int32).toInt64 = (-6 : Int64) from rfl, show (-4 : Int32).toInt64 = (-4 : Int64) from rfl, show (-2 : Int32).toInt64 = (-2 : Int64) from rfl, show (-1 : Int32).toInt64 = (-1 : Int64) from rfl, show (0 : Int32).toInt64 = (0 : Int64) from rfl, show (1 : Int32).toInt64 = (1 : Int64) from rfl, show (2 : Int32).toInt64 = (2 : Int64) from rfl, show (4 : Int32).toInt64 = (4 : Int64) from rfl, show (6 : Int32).toInt64 = (6 : Int64) from rfl, show (9 : Int32).toInt64 = (9 : Int64) from rfl, show (12 : Int32).toInt64 = (12 : Int64) from rfl, h0, h1, h2, h3, h4, h5, h6, h7, h8, h9, h10, if_true, if_false] <;> decide
  by_cases h7 : d < (4 : Int64)
  · have h8 : d < (6 : Int64) := Int64.lt_trans h7 (by decide)
    have h9 : d < (9 : Int64) := Int64.lt_trans h7 (by decide)
    have h10 : d < (12 : Int64) := Int64.lt_trans h7 (by decide)
    rcases h with ⟨rfl, rfl⟩ | ⟨rfl, rfl⟩ | ⟨rfl, rfl⟩ | ⟨rfl, rfl⟩ | ⟨rfl, rfl⟩ <;> simp only [own_cnt, List.length, List.getD_cons_succ, List.getD_cons_zero, Nat.reduceAdd, Nat.reduceSub, show (-6 : Int32).toInt64 = (-6 : Int64) from rfl, show (-4 : Int32).toInt64 = (-4 : Int64) from rfl, show (-2 : Int32).toInt64 = (-2 : Int64) from rfl, show (-1 : Int32).toInt64 = (-1 : Int64) from rfl, show (0 : Int32).toInt64 = (0 : Int64) from rfl, show (1 : Int32).toInt64 = (1 : Int64) from rfl, show (2 : Int32).toInt64 = (2 : Int64) from rfl, show (4 : Int32).toInt64 = (4 : Int64) from rfl, show (6 : Int32).toInt64 = (6 : Int64) from rfl, show (9 : Int32).toInt64 = (9 : Int64) from rfl, show (12 : Int32).toInt64 = (12 : Int64) from rfl, h0, h1, h2, h3, h4, h5, h6, h7, h8, h9, h10, if_true, if_false] <;> decide
  by_cases h8 : d < (6 : Int64)
  · have h9 : d < (9 : Int64) := Int64.lt_trans h8 (by decide)
    have h10 : d < (12 : Int64) := Int64.lt_trans h8 (by decide)
    rcases h with ⟨rfl, rfl⟩ | ⟨rfl, rfl⟩ | ⟨rfl, rfl⟩ | ⟨rfl, rfl⟩ | ⟨rfl, rfl⟩ <;> simp only [own_cnt, List.length, List.getD_cons_succ, List.getD_cons_zero, Nat.reduceAdd, Nat.reduceSub, show (-6 : Int32).toInt64 = (-6 : Int64) from rfl, show (-4 : Int32).toInt64 = (-4 : Int64) from rfl, show (-2 : Int32).toInt64 = (-2 : Int64) from rfl, show (-1 : Int32).toInt64 = (-1 : Int64) from rfl, show (0 : Int32).toInt64 = (0 : Int64) from rfl, show (1 : Int32).toInt64 = (1 : Int64) from rfl, show (2 : Int32).toInt64 = (2 : Int64) from rfl, show (4 : Int32).toInt64 = (4 : Int64) from rfl, show (6 : Int32).toInt64 = (6 : Int64) from rfl, show (9 : Int32).toInt64 = (9 : Int64) from rfl, show (12 : Int32).toInt64 = (12 : Int64) from rfl, h0, h1, h2, h3, h4, h5, h6, h7, h8, h9, h10, if_true, if_false] <;> decide
  by_cases h9 : d < (9 : Int64)
  · have h10 : d < (12 : Int64) := Int64.lt_trans h9 (by decide)
    rcases h with ⟨rfl, rfl⟩ | ⟨rfl, rfl⟩ | ⟨rfl, rfl⟩ | ⟨rfl, rfl⟩ | ⟨rfl, rfl⟩ <;> simp only [own_cnt, List.length, List.getD_cons_succ, List.getD_cons_zero, Nat.reduceAdd, Nat.reduceSub, show (-6 : Int32).toInt64 = (-6 : Int64) from rfl, show (-4 : Int32).toInt64 = (-4 : Int64) from rfl, show (-2 : Int32).toInt64 = (-2 : Int64) from rfl, show (-1 : Int32).toInt64 = (-1 : Int64) from rfl, show (0 : Int32).toInt64 = (0 : Int64) from rfl, show (1 : Int32).toInt64 = (1 : Int64) from rfl, show (2 : Int32).toInt64 = (2 : Int64) from rfl, show (4 : Int32).toInt64 = (4 : Int64) from rfl, show (6 : Int32).toInt64 = (6 : Int64) from rfl, show (9 : Int32).toInt64 = (9 : Int64) from rfl, show (12 : Int32).toInt64 = (12 : Int64) from rfl, h0, h1, h2, h3, h4, h5, h6, h7, h8, h9, h10, if_true, if_false] <;> decide
  by_cases h10 : d < (12 : Int64)
  · rcases h with ⟨rfl, rfl⟩ | ⟨rfl, rfl⟩ | ⟨rfl, rfl⟩ | ⟨rfl, rfl⟩ | ⟨rfl, rfl⟩ <;> simp only [own_cnt, List.length, List.getD_cons_succ, List.getD_cons_zero, Nat.reduceAdd, Nat.reduceSub, show (-6 : Int32).toInt64 = (-6 : Int64) from rfl, show (-4 : Int32).toInt64 = (-4 : Int64) from rfl, show (-2 : Int32).toInt64 = (-2 : Int64) from rfl, show (-1 : Int32).toInt64 = (-1 : Int64) from rfl, show (0 : Int32).toInt64 = (0 : Int64) from rfl, show (1 : Int32).toInt64 = (1 : Int64) from rfl, show (2 : Int32).toInt64 = (2 : Int64) from rfl, show (4 : Int32).toInt64 = (4 : Int64) from rfl, show (6 : Int32).toInt64 = (6 : Int64) from rfl, show (9 : Int32).toInt64 = (9 : Int64) from rfl, show (12 : Int32).toInt64 = (12 : Int64) from rfl, h0, h1, h2, h3, h4, h5, h6, h7, h8, h9, h10, if_true, if_false] <;> decide
  rcases h with ⟨rfl, rfl⟩ | ⟨rfl, rfl⟩ | ⟨rfl, rfl⟩ | ⟨rfl, rfl⟩ | ⟨rfl, rfl⟩ <;> simp only [own_cnt, List.length, List.getD_cons_succ, List.getD_cons_zero, Nat.reduceAdd, Nat.reduceSub, show (-6 : Int32).toInt64 = (-6 : Int64) from rfl, show (-4 : Int32).toInt64 = (-4 : Int64) from rfl, show (-2 : Int32).toInt64 = (-2 : Int64) from rfl, show (-1 : Int32).toInt64 = (-1 : Int64) from rfl, show (0 : Int32).toInt64 = (0 : Int64) from rfl, show (1 : Int32).toInt64 = (1 : Int64) from rfl, show (2 : Int32).toInt64 = (2 : Int64) from rfl, show (4 : Int32).toInt64 = (4 : Int64) from rfl, show (6 : Int32).toInt64 = (6 : Int64) from rfl, show (9 : Int32).toInt64 = (9 : Int64) from rfl, show (12 : Int32).toInt64 = (12 : Int64) from rfl, h0, h1, h2, h3, h4, h5, h6, h7, h8, h9, h10, if_true, if_false] <;> decide

def Q0 (n0 : Nat) (v : Option Value) (h : Heap) (L : List Loc) : Prop := v = some (.int 1) ∧ Fr n0 L
theorem ef0 (m : MethodId) (sel : Int32) (raw : Int64) (mode : Int32) : entryFrame m #[(.int sel), (.long raw), (.int mode)] maxLocals = mkF m 0 #[.val (.int sel), .val (.long raw), .second, .val (.int mode), .unset, .unset, .unset, .unset, .unset, .unset, .unset] [] := by first | (simp [entryFrame, mkF, argsToLocals, Value.category, maxLocals]; done) | rfl
set_option maxRecDepth 65536 in
set_option maxHeartbeats 40000000 in
theorem rm0 (l : Launch) (Z : State) (aa : Array Value) (hw : ∀ d ∈ tables_1, d.before aa Z = true) (ws : List Jvm.Cond) (sel : Int32) (raw : Int64) (mode : Int32) (wM : Addr) (wR : Addr) (wT : Addr) (wK : Addr) (wB : Addr) (wX : Addr) (ar_wM : Addr) (cl_wM : Cell) (ar_wR : Addr) (cl_wR : Cell) (ar_wT : Addr) (cl_wT : Cell) (ar_wK : Addr) (cl_wK : Cell) (ar_wB : Addr) (cl_wB : Cell) (ar_wX : Addr) (cl_wX : Cell) (h0 : Heap) (n0 : Nat) (O0 : Old Z n0 h0) (S_wM : Sta Z Z.heap "com/example/khamsin/khamsin/daily/CombatLine" "MINEFIELD" "Lcom/example/khamsin/khamsin/daily/CombatLine;" (.ref wM)) (S_wR : Sta Z Z.heap "com/example/khamsin/khamsin/daily/CombatLine" "ROUGH" "Lcom/example/khamsin/khamsin/daily/CombatLine;" (.ref wR)) (S_wT : Sta Z Z.heap "com/example/khamsin/khamsin/daily/CombatLine" "ANTITANK" "Lcom/example/khamsin/khamsin/daily/CombatLine;" (.ref wT)) (S_wK : Sta Z Z.heap "com/example/khamsin/khamsin/daily/CombatLine" "BROKEN" "Lcom/example/khamsin/khamsin/daily/CombatLine;" (.ref wK)) (S_wB : Sta Z Z.heap "com/example/khamsin/khamsin/daily/CombatLine" "BRIDGE" "Lcom/example/khamsin/khamsin/daily/CombatLine;" (.ref wB)) (S_wX : Sta Z Z.heap "com/example/khamsin/khamsin/daily/CombatLine" "MIXED" "Lcom/example/khamsin/khamsin/daily/CombatLine;" (.ref wX)) (L_wM : Line Z h0 wM ar_wM cl_wM [(-1 : Int32), (0 : Int32), (1 : Int32), (2 : Int32), (4 : Int32), (6 : Int32), (9 : Int32), (12 : Int32)]) (L_wR : Line Z h0 wR ar_wR cl_wR [(-2 : Int32), (-1 : Int32), (0 : Int32), (1 : Int32), (2 : Int32), (4 : Int32), (6 : Int32), (9 : Int32), (12 : Int32)]) (L_wT : Line Z h0 wT ar_wT cl_wT [(-3 : Int32), (-2 : Int32), (-1 : Int32), (0 : Int32), (1 : Int32), (2 : Int32), (4 : Int32), (6 : Int32), (9 : Int32), (12 : Int32)]) (L_wK : Line Z h0 wK ar_wK cl_wK [(-3 : Int32), (-2 : Int32), (-1 : Int32), (0 : Int32), (1 : Int32), (2 : Int32), (4 : Int32), (6 : Int32), (9 : Int32), (12 : Int32)]) (L_wB : Line Z h0 wB ar_wB cl_wB [(-5 : Int32), (-4 : Int32), (-2 : Int32), (-1 : Int32), (0 : Int32), (1 : Int32), (2 : Int32), (4 : Int32), (6 : Int32), (9 : Int32), (12 : Int32)]) (L_wX : Line Z h0 wX ar_wX cl_wX [(-7 : Int32), (-6 : Int32), (-4 : Int32), (-2 : Int32), (-1 : Int32), (0 : Int32), (1 : Int32), (2 : Int32), (4 : Int32), (6 : Int32), (9 : Int32), (12 : Int32)]) :
    MetFree l x (head1 (Jvm.Cond.code x code maxLocals ret :: ws) room_1) (fun a U => a = #[(.int sel), (.long raw), (.int mode)] ∧ Z.Warmed39 U.vm ∧ U.heap = h0) (fun _ _ _ _ _ => True) (fun _ U o U' => ∃ v L, o = .returned v ∧ Q0 n0 v U'.heap L ∧ FrameEnd U o U' L 0 0) := by
  refine MetFree.of_bodySF (plainFor_of_name pn_com_example_khamsin_khamsin_daily_CombatLineColumnPinLaw) hisR ?_
  intro p e s m args below meth c s₁ Bd hml0 hP hK
  obtain ⟨rfl, hZ, hh⟩ := hP
  have hx := Bd.exec
  have hby := Bd.bytes
  have hlk := Bd.notSynchronized
  have hml : c.maxLocals = 11 := hml0
  have hown : s.vm.findClass "com/example/khamsin/khamsin/daily/CombatLineColumnPinLaw" = some m.cls := findClass_of_methodNamed Bd.named
  have hnm := (name_of_methodNamed Bd.named Bd.method).1
  have X0 : Stand p l e room_1 s m #[(.int sel), (.long raw), (.int mode)] below meth c s₁ [] 0 0 := Stand.of_body Bd
  have e0 : s₁.heap = h0 := by rw [← hh, Bd.state]; rfl
  have N0 := Fr.nil n0
  show Gl p e below (Ret s 0 0 (Q0 n0)) (s₁.setTop (entryFrame m #[(.int sel), (.long raw), (.int mode)] maxLocals))
  rw [ef0 m sel raw mode]
  obtain ⟨args, hargs⟩ : ∃ z : Array Value, z = #[(.int sel), (.long raw), (.int mode)] := ⟨_, rfl⟩
  rw [← hargs] at X0
  refine Gl.up (B := s₁.setTop (mkF m 7 #[.val (.int sel), .val (.long raw), .second, .val (.int mode), .unset, .unset, .unset, .unset, .unset, .unset, .unset] [(.int ((sel &&& (2147483647 : Int32)) % (6 : Int32)))])) (fun t kt => ?_) ?_
  · show Steps p.tables e below (s₁.setTop (mkF m 0 #[.val (.int sel), .val (.long raw), .second, .val (.int mode), .unset, .unset, .unset, .unset, .unset, .unset, .unset] [])) _
    refine XS.iloadN X0.here hx rfl (hb hby at_0) rfl ?_
    show Steps p.tables e below (s₁.setTop (mkF m 1 #[.val (.int sel), .val (.long raw), .second, .val (.int mode), .unset, .unset, .unset, .unset, .unset, .unset, .unset] [(.int sel)])) _
    refine X0.ldcInt hx hown (mvT hZ (hw _ (List.mem_of_getElem? (i := 0) rfl))) (g := (mkF m 1 #[.val (.int sel), .val (.long raw), .second, .val (.int mode), .unset, .unset, .unset, .unset, .unset, .unset, .unset] [(.int sel)])) rfl (hb hby at_1) _ ?_
    show Steps p.tables e below (s₁.setTop (mkF m 3 #[.val (.int sel), .val (.long raw), .second, .val (.int mode), .unset, .unset, .unset, .unset, .unset, .unset, .unset] [(.int (2147483647 : Int32)), (.int sel)])) _
    refine XS.iand X0.here hx rfl (hb hby at_3) rfl ?_
    show Steps p.tables e below (s₁.setTop (mkF m 4 #[.val (.int sel), .val (.long raw), .second, .val (.int mode), .unset, .unset, .unset, .unset, .unset, .unset, .unset] [(.int (sel &&& (2147483647 : Int32)))])) _
    refine XS.bipush X0.here hx rfl (hb hby at_4) ?_
    show Steps p.tables e below (s₁.setTop (mkF m 6 #[.val (.int sel), .val (.long raw), .second, .val (.int mode), .unset, .unset, .unset, .unset, .unset, .unset, .unset] [(.int (6 : Int32)), (.int (sel &&& (2147483647 : Int32)))])) _
    refine iremM X0 hx rfl (hb hby at_6) rfl (by decide) ?_
    exact kt
  obtain ⟨u1, hu1⟩ : ∃ q : Int32, q = ((sel &&& (2147483647 : Int32)) % (6 : Int32)) := ⟨_, rfl⟩
  rw [← hu1]
  refine Gl.up (B := s₁.setTop (mkF m 11 #[.val (.int sel), .val (.long raw), .second, .val (.int mode), .val (.int u1), .unset, .unset, .unset, .unset, .unset, .unset] [(.int u1)])) (fun t kt => ?_) ?_
  · show Steps p.tables e below (s₁.setTop (mkF m 7 #[.val (.int sel), .val (.long raw), .second, .val (.int mode), .unset, .unset, .unset, .unset, .unset, .unset, .unset] [(.int u1)])) _
    refine XS.istore X0.here hx rfl (hb hby at_7) rfl (l' := #[.val (.int sel), .val (.long raw), .second, .val (.int mode), .val (.int u1), .unset, .unset, .unset, .unset, .unset, .unset]) rfl ?_
    show Steps p.tables e below (s₁.setTop (mkF m 9 #[.val (.int sel), .val (.long raw), .second, .val (.int mode), .val (.int u1), .unset, .unset, .unset, .unset, .unset, .unset] [])) _
    refine XS.iload X0.here hx rfl (hb hby at_9) rfl ?_
    exact kt
  suffices J2 : ∀ (T2 : State) (v2_l5 : Addr) (v2_l6 : Int32), v2_l5 = (if u1 = (0 : Int32) then wM else (if u1 = (1 : Int32) then wR else (if u1 = (2 : Int32) then wT else (if u1 = (3 : Int32) then wK else (if u1 = (4 : Int32) then wB else wX))))) → v2_l6 = (if u1 = (0 : Int32) then (8 : Int32) else (if u1 = (1 : Int32) then (9 : Int32) else (if u1 = (2 : Int32) then (10 : Int32) else (if u1 = (3 : Int32) then (10 : Int32) else (if u1 = (4 : Int32) then (11 : Int32) else (12 : Int32)))))) → Stand p l e room_1 s m args below meth c T2 [] 0 0 → T2.heap = h0 → Gl p e below (Ret s 0 0 (Q0 n0)) (T2.setTop (mkF m 107 #[.val (.int sel), .val (.long raw), .second, .val (.int mode), .val (.int u1), .val (.ref v2_l5), .val (.int v2_l6), .unset, .unset, .unset, .unset] [])) by
    by_cases c11_3 : u1 = (0 : Int32)
    · refine Gl.up (B := s₁.setTop (mkF m 14 #[.val (.int sel), .val (.long raw), .second, .val (.int mode), .val (.int u1), .unset, .unset, .unset, .unset, .unset, .unset] [])) (fun t kt => ?_) ?_
      · show Steps p.tables e below (s₁.setTop (mkF m 11 #[.val (.int sel), .val (.long raw), .second, .val (.int mode), .val (.int u1), .unset, .unset, .unset, .unset, .unset, .unset] [(.int u1)])) _
        refine XS.ifNo X0.here hx rfl (hb hby at_11) rfl ((if0 _ _).trans (teq c11_3).2) ?_
        exact kt
      obtain ⟨T4, X4, e4, st4⟩ := getS2 X0 hx hZ hown (host := "") (Or.inl (hw _ (List.mem_of_getElem? (i := 1) rfl))) Via.refl e0 (S_wM.ext O0.2) (g := (mkF m 14 #[.val (.int sel), .val (.long raw), .second, .val (.int mode), .val (.int u1), .unset, .unset, .unset, .unset, .unset, .unset] [])) rfl (hb hby at_14)
      refine Gl.up (B := T4.setTop (mkF m 17 #[.val (.int sel), .val (.long raw), .second, .val (.int mode), .val (.int u1), .unset, .unset, .unset, .unset, .unset, .unset] [(.ref wM)])) (fun t kt => st4 _ kt) ?_
      refine Gl.up (B := T4.setTop (mkF m 107 #[.val (.int sel), .val (.long raw), .second, .val (.int mode), .val (.int u1), .val (.ref wM), .val (.int (8 : Int32)), .unset, .unset, .unset, .unset] [])) (fun t kt => ?_) ?_
      · show Steps p.tables e below (T4.setTop (mkF m 17 #[.val (.int sel), .val (.long raw), .second, .val (.int mode), .val (.int u1), .unset, .unset, .unset, .unset, .unset, .unset] [(.ref wM)])) _
        refine XS.astore X4.here hx rfl (hb hby at_17) rfl rfl (l' := #[.val (.int sel), .val (.long raw), .second, .val (.int mode), .val (.int u1), .val (.ref wM), .unset, .unset, .unset, .unset, .unset]) rfl ?_
        show Steps p.tables e below (T4.setTop (mkF m 19 #[.val (.int sel), .val (.long raw), .second, .val (.int mode), .val (.int u1), .val (.ref wM), .unset, .unset, .unset, .unset, .unset] [])) _
        refine XS.bipush X4.here hx rfl (hb hby at_19) ?_
        show Steps p.tables e below (T4.setTop (mkF m 21 #[.val (.int sel), .val (.long raw), .second, .val (.int mode), .val (.int u1), .val (.ref wM), .unset, .unset, .unset, .unset, .unset] [(.int (8 : Int32))])) _
        refine XS.istore X4.here hx rfl (hb hby at_21) rfl (l' := #[.val (.int sel), .val (.long raw), .second, .val (.int mode), .val (.int u1), .val (.ref wM), .val (.int (8 : Int32)), .unset, .unset, .unset, .unset]) rfl ?_
        show Steps p.tables e below (T4.setTop (mkF m 23 #[.val (.int sel), .val (.long raw), .second, .val (.int mode), .val (.int u1), .val (.ref wM), .val (.int (8 : Int32)), .unset, .unset, .unset, .unset] [])) _
        refine XS.goto X4.here hx rfl (pc0 := 23) (pc' := 107) rfl (hb hby at_23) (by decide) (by decide) ?_
        exact kt
      exact J2 _ wM (8 : Int32) (if_pos c11_3).symm (if_pos c11_3).symm X4 e4
    · refine Gl.up (B := s₁.setTop (mkF m 29 #[.val (.int sel), .val (.long raw), .second, .val (.int mode), .val (.int u1), .unset, .unset, .unset, .unset, .unset, .unset] [(.int (1 : Int32)), (.int u1)])) (fun t kt => ?_) ?_
      · show Steps p.tables e below (s₁.setTop (mkF m 11 #[.val (.int sel), .val (.long raw), .second, .val (.int mode), .val (.int u1), .unset, .unset, .unset, .unset, .unset, .unset] [(.int u1)])) _
        refine XS.ifYes X0.here hx rfl (pc0 := 11) (pc' := 26) rfl (hb hby at_11) rfl ((if0 _ _).trans (feq c11_3).2) (by decide) (by decide) ?_
        show Steps p.tables e below (s₁.setTop (mkF m 26 #[.val (.int sel), .val (.long raw), .second, .val (.int mode), .val (.int u1), .unset, .unset, .unset, .unset, .unset, .unset] [])) _
        refine XS.iload X0.here hx rfl (hb hby at_26) rfl ?_
        show Steps p.tables e below (s₁.setTop (mkF m 28 #[.val (.int sel), .val (.long raw), .second, .val (.int mode), .val (.int u1), .unset, .unset, .unset, .unset, .unset, .unset] [(.int u1)])) _
        refine XS.iconst X0.here hx rfl (hb hby at_28) ?_
        exact kt
      by_cases c29_5 : u1 = (1 : Int32)
      · refine Gl.up (B := s₁.setTop (mkF m 32 #[.val (.int sel), .val (.long raw), .second, .val (.int mode), .val (.int u1), .unset, .unset, .unset, .unset, .unset, .unset] [])) (fun t kt => ?_) ?_
        · show Steps p.tables e below (s₁.setTop (mkF m 29 #[.val (.int sel), .val (.long raw), .second, .val (.int mode), .val (.int u1), .unset, .unset, .unset, .unset, .unset, .unset] [(.int (1 : Int32)), (.int u1)])) _
          refine XS.icmpNo X0.here hx rfl (hb hby at_29) rfl (teq c29_5).2 ?_
          exact kt
        obtain ⟨T6, X6, e6, st6⟩ := getS2 X0 hx hZ hown (host := "") (Or.inl (hw _ (List.mem_of_getElem? (i := 29) rfl))) Via.refl e0 (S_wR.ext O0.2) (g := (mkF m 32 #[.val (.int sel), .val (.long raw), .second, .val (.int mode), .val (.int u1), .unset, .unset, .unset, .unset, .unset, .unset] [])) rfl (hb hby at_32)
        refine Gl.up (B := T6.setTop (mkF m 35 #[.val (.int sel), .val (.long raw), .second, .val (.int mode), .val (.int u1), .unset, .unset, .unset, .unset, .unset, .unset] [(.ref wR)])) (fun t kt => st6 _ kt) ?_
        refine Gl.up (B := T6.setTop (mkF m 107 #[.val (.int sel), .val (.long raw), .second, .val (.int mode), .val (.int u1), .val (.ref wR), .val (.int (9 : Int32)), .unset, .unset, .unset, .unset] [])) (fun t kt => ?_) ?_
        · show Steps p.tables e below (T6.setTop (mkF m 35 #[.val (.int sel), .val (.long raw), .second, .val (.int mode), .val (.int u1), .unset, .unset, .unset, .unset, .unset, .unset] [(.ref wR)])) _
          refine XS.astore X6.here hx rfl (hb hby at_35) rfl rfl (l' := #[.val (.int sel), .val (.long raw), .second, .val (.int mode), .val (.int u1), .val (.ref wR), .unset, .unset, .unset, .unset, .unset]) rfl ?_
          show Steps p.tables e below (T6.setTop (mkF m 37 #[.val (.int sel), .val (.long raw), .second, .val (.int mode), .val (.int u1), .val (.ref wR), .unset, .unset, .unset, .unset, .unset] [])) _
          refine XS.bipush X6.here hx rfl (hb hby at_37) ?_
          show Steps p.tables e below (T6.setTop (mkF m 39 #[.val (.int sel), .val (.long raw), .second, .val (.int mode), .val (.int u1), .val (.ref wR), .unset, .unset, .unset, .unset, .unset] [(.int (9 : Int32))])) _
          refine XS.istore X6.here hx rfl (hb hby at_39) rfl (l' := #[.val (.int sel), .val (.long raw), .second, .val (.int mode), .val (.int u1), .val (.ref wR), .val (.int (9 : Int32)), .unset, .unset, .unset, .unset]) rfl ?_
          show Steps p.tables e below (T6.setTop (mkF m 41 #[.val (.int sel), .val (.long raw), .second, .val (.int mode), .val (.int u1), .val (.ref wR), .val (.int (9 : Int32)), .unset, .unset, .unset, .unset] [])) _
          refine XS.goto X6.here hx rfl (pc0 := 41) (pc' := 107) rfl (hb hby at_41) (by decide) (by decide) ?_
          exact kt
        exact J2 _ wR (9 : Int32) ((if_neg c11_3).trans (if_pos c29_5)).symm ((if_neg c11_3).trans (if_pos c29_5)).symm X6 e6
      · refine Gl.up (B := s₁.setTop (mkF m 47 #[.val (.int sel), .val (.long raw), .second, .val (.int mode), .val (.int u1), .unset, .unset, .unset, .unset, .unset, .unset] [(.int (2 : Int32)), (.int u1)])) (fun t kt => ?_) ?_
        · show Steps p.tables e below (s₁.setTop (mkF m 29 #[.val (.int sel), .val (.long raw), .second, .val (.int mode), .val (.int u1), .unset, .unset, .unset, .unset, .unset, .unset] [(.int (1 : Int32)), (.int u1)])) _
          refine XS.icmpYes X0.here hx rfl (pc0 := 29) (pc' := 44) rfl (hb hby at_29) rfl (feq c29_5).2 (by decide) (by decide) ?_
          show Steps p.tables e below (s₁.setTop (mkF m 44 #[.val (.int sel), .val (.long raw), .second, .val (.int mode), .val (.int u1), .unset, .unset, .unset, .unset, .unset, .unset] [])) _
          refine XS.iload X0.here hx rfl (hb hby at_44) rfl ?_
          show Steps p.tables e below (s₁.setTop (mkF m 46 #[.val (.int sel), .val (.long raw), .second, .val (.int mode), .val (.int u1), .unset, .unset, .unset, .unset, .unset, .unset] [(.int u1)])) _
          refine XS.iconst X0.here hx rfl (hb hby at_46) ?_
          exact kt
        by_cases c47_7 : u1 = (2 : Int32)
        · refine Gl.up (B := s₁.setTop (mkF m 50 #[.val (.int sel), .val (.long raw), .second, .val (.int mode), .val (.int u1), .unset, .unset, .unset, .unset, .unset, .unset] [])) (fun t kt => ?_) ?_
          · show Steps p.tables e below (s₁.setTop (mkF m 47 #[.val (.int sel), .val (.long raw), .second, .val (.int mode), .val (.int u1), .unset, .unset, .unset, .unset, .unset, .unset] [(.int (2 : Int32)), (.int u1)])) _
            refine XS.icmpNo X0.here hx rfl (hb hby at_47) rfl (teq c47_7).2 ?_
            exact kt
          obtain ⟨T8, X8, e8, st8⟩ := getS2 X0 hx hZ hown (host := "") (Or.inl (hw _ (List.mem_of_getElem? (i := 35) rfl))) Via.refl e0 (S_wT.ext O0.2) (g := (mkF m 50 #[.val (.int sel), .val (.long raw), .second, .val (.int mode), .val (.int u1), .unset, .unset, .unset, .unset, .unset, .unset] [])) rfl (hb hby at_50)
          refine Gl.up (B := T8.setTop (mkF m 53 #[.val (.int sel), .val (.long raw), .second, .val (.int mode), .val (.int u1), .unset, .unset, .unset, .unset, .unset, .unset] [(.ref wT)])) (fun t kt => st8 _ kt) ?_
          refine Gl.up (B := T8.setTop (mkF m 107 #[.val (.int sel), .val (.long raw), .second, .val (.int mode), .val (.int u1), .val (.ref wT), .val (.int (10 : Int32)), .unset, .unset, .unset, .unset] [])) (fun t kt => ?_) ?_
          · show Steps p.tables e below (T8.setTop (mkF m 53 #[.val (.int sel), .val (.long raw), .second, .val (.int mode), .val (.int u1), .unset, .unset, .unset, .unset, .unset, .unset] [(.ref wT)])) _
            refine XS.astore X8.here hx rfl (hb hby at_53) rfl rfl (l' := #[.val (.int sel), .val (.long raw), .second, .val (.int mode), .val (.int u1), .val (.ref wT), .unset, .unset, .unset, .unset, .unset]) rfl ?_
            show Steps p.tables e below (T8.setTop (mkF m 55 #[.val (.int sel), .val (.long raw), .second, .val (.int mode), .val (.int u1), .val (.ref wT), .unset, .unset, .unset, .unset, .unset] [])) _
            refine XS.bipush X8.here hx rfl (hb hby at_55) ?_
            show Steps p.tables e below (T8.setTop (mkF m 57 #[.val (.int sel), .val (.long raw), .second, .val (.int mode), .val (.int u1), .val (.ref wT), .unset, .unset, .unset, .unset, .unset] [(.int (10 : Int32))])) _
            refine XS.istore X8.here hx rfl (hb hby at_57) rfl (l' := #[.val (.int sel), .val (.long raw), .second, .val (.int mode), .val (.int u1), .val (.ref wT), .val (.int (10 : Int32)), .unset, .unset, .unset, .unset]) rfl ?_
            show Steps p.tables e below (T8.setTop (mkF m 59 #[.val (.int sel), .val (.long raw), .second, .val (.int mode), .val (.int u1), .val (.ref wT), .val (.int (10 : Int32)), .unset, .unset, .unset, .unset] [])) _
            refine XS.goto X8.here hx rfl (pc0 := 59) (pc' := 107) rfl (hb hby at_59) (by decide) (by decide) ?_
            exact kt
          exact J2 _ wT (10 : Int32) (((if_neg c11_3).trans (if_neg c29_5)).trans (if_pos c47_7)).symm (((if_neg c11_3).trans (if_neg c29_5)).trans (if_pos c47_7)).symm X8 e8
        · refine Gl.up (B := s₁.setTop (mkF m 65 #[.val (.int sel), .val (.long raw), .second, .val (.int mode), .val (.int u1), .unset, .unset, .unset, .unset, .unset, .unset] [(.int (3 : Int32)), (.int u1)])) (fun t kt => ?_) ?_
          · show Steps p.tables e below (s₁.setTop (mkF m 47 #[.val (.int sel), .val (.long raw), .second, .val (.int mode), .val (.int u1), .unset, .unset, .unset, .unset, .unset, .unset] [(.int (2 : Int32)), (.int u1)])) _
            refine XS.icmpYes X0.here hx rfl (pc0 := 47) (pc' := 62) rfl (hb hby at_47) rfl (feq c47_7).2 (by decide) (by decide) ?_
            show Steps p.tables e below (s₁.setTop (mkF m 62 #[.val (.int sel), .val (.long raw), .second, .val (.int mode), .val (.int u1), .unset, .unset, .unset, .unset, .unset, .unset] [])) _
            refine XS.iload X0.here hx rfl (hb hby at_62) rfl ?_
            show Steps p.tables e below (s₁.setTop (mkF m 64 #[.val (.int sel), .val (.long raw), .second, .val (.int mode), .val (.int u1), .unset, .unset, .unset, .unset, .unset, .unset] [(.int u1)])) _
            refine XS.iconst X0.here hx rfl (hb hby at_64) ?_
            exact kt
          by_cases c65_9 : u1 = (3 : Int32)
          · refine Gl.up (B := s₁.setTop (mkF m 68 #[.val (.int sel), .val (.long raw), .second, .val (.int mode), .val (.int u1), .unset, .unset, .unset, .unset, .unset, .unset] [])) (fun t kt => ?_) ?_
            · show Steps p.tables e below (s₁.setTop (mkF m 65 #[.val (.int sel), .val (.long raw), .second, .val (.int mode), .val (.int u1), .unset, .unset, .unset, .unset, .unset, .unset] [(.int (3 : Int32)), (.int u1)])) _
              refine XS.icmpNo X0.here hx rfl (hb hby at_65) rfl (teq c65_9).2 ?_
              exact kt
            obtain ⟨T10, X10, e10, st10⟩ := getS2 X0 hx hZ hown (host := "") (Or.inl (hw _ (List.mem_of_getElem? (i := 33) rfl))) Via.refl e0 (S_wK.ext O0.2) (g := (mkF m 68 #[.val (.int sel), .val (.long raw), .second, .val (.int mode), .val (.int u1), .unset, .unset, .unset, .unset, .unset, .unset] [])) rfl (hb hby at_68)
            refine Gl.up (B := T10.setTop (mkF m 71 #[.val (.int sel), .val (.long raw), .second, .val (.int mode), .val (.int u1), .unset, .unset, .unset, .unset, .unset, .unset] [(.ref wK)])) (fun t kt => st10 _ kt) ?_
            refine Gl.up (B := T10.setTop (mkF m 107 #[.val (.int sel), .val (.long raw), .second, .val (.int mode), .val (.int u1), .val (.ref wK), .val (.int (10 : Int32)), .unset, .unset, .unset, .unset] [])) (fun t kt => ?_) ?_
            · show Steps p.tables e below (T10.setTop (mkF m 71 #[.val (.int sel), .val (.long raw), .second, .val (.int mode), .val (.int u1), .unset, .unset, .unset, .unset, .unset, .unset] [(.ref wK)])) _
              refine XS.astore X10.here hx rfl (hb hby at_71) rfl rfl (l' := #[.val (.int sel), .val (.long raw), .second, .val (.int mode), .val (.int u1), .val (.ref wK), .unset, .unset, .unset, .unset, .unset]) rfl ?_
              show Steps p.tables e below (T10.setTop (mkF m 73 #[.val (.int sel), .val (.long raw), .second, .val (.int mode), .val (.int u1), .val (.ref wK), .unset, .unset, .unset, .unset, .unset] [])) _
              refine XS.bipush X10.here hx rfl (hb hby at_73) ?_
              show Steps p.tables e below (T10.setTop (mkF m 75 #[.val (.int sel), .val (.long raw), .second, .val (.int mode), .val (.int u1), .val (.ref wK), .unset, .unset, .unset, .unset, .unset] [(.int (10 : Int32))])) _
              refine XS.istore X10.here hx rfl (hb hby at_75) rfl (l' := #[.val (.int sel), .val (.long raw), .second, .val (.int mode), .val (.int u1), .val (.ref wK), .val (.int (10 : Int32)), .unset, .unset, .unset, .unset]) rfl ?_
              show Steps p.tables e below (T10.setTop (mkF m 77 #[.val (.int sel), .val (.long raw), .second, .val (.int mode), .val (.int u1), .val (.ref wK), .val (.int (10 : Int32)), .unset, .unset, .unset, .unset] [])) _
              refine XS.goto X10.here hx rfl (pc0 := 77) (pc' := 107) rfl (hb hby at_77) (by decide) (by decide) ?_
              exact kt
            exact J2 _ wK (10 : Int32) ((((if_neg c11_3).trans (if_neg c29_5)).trans (if_neg c47_7)).trans (if_pos c65_9)).symm ((((if_neg c11_3).trans (if_neg c29_5)).trans (if_neg c47_7)).trans (if_pos c65_9)).symm X10 e10
          · refine Gl.up (B := s₁.setTop (mkF m 83 #[.val (.int sel), .val (.long raw), .second, .val (.int mode), .val (.int u1), .unset, .unset, .unset, .unset, .unset, .unset] [(.int (4 : Int32)), (.int u1)])) (fun t kt => ?_) ?_
            · show Steps p.tables e below (s₁.setTop (mkF m 65 #[.val (.int sel), .val (.long raw), .second, .val (.int mode), .val (.int u1), .unset, .unset, .unset, .unset, .unset, .unset] [(.int (3 : Int32)), (.int u1)])) _
              refine XS.icmpYes X0.here hx rfl (pc0 := 65) (pc' := 80) rfl (hb hby at_65) rfl (feq c65_9).2 (by decide) (by decide) ?_
              show Steps p.tables e below (s₁.setTop (mkF m 80 #[.val (.int sel), .val (.long raw), .second, .val (.int mode), .val (.int u1), .unset, .unset, .unset, .unset, .unset, .unset] [])) _
              refine XS.iload X0.here hx rfl (hb hby at_80) rfl ?_
              show Steps p.tables e below (s₁.setTop (mkF m 82 #[.val (.int sel), .val (.long raw), .second, .val (.int mode), .val (.int u1), .unset, .unset, .unset, .unset, .unset, .unset] [(.int u1)])) _
              refine XS.iconst X0.here hx rfl (hb hby at_82) ?_
              exact kt
            by_cases c83_11 : u1 = (4 : Int32)
            · refine Gl.up (B := s₁.setTop (mkF m 86 #[.val (.int sel), .val (.long raw), .second, .val (.int mode), .val (.int u1), .unset, .unset, .unset, .unset, .unset, .unset] [])) (fun t kt => ?_) ?_
              · show Steps p.tables e below (s₁.setTop (mkF m 83 #[.val (.int sel), .val (.long raw), .second, .val (.int mode), .val (.int u1), .unset, .unset, .unset, .unset, .unset, .unset] [(.int (4 : Int32)), (.int u1)])) _
                refine XS.icmpNo X0.here hx rfl (hb hby at_83) rfl (teq c83_11).2 ?_
                exact kt
              obtain ⟨T12, X12, e12, st12⟩ := getS2 X0 hx hZ hown (host := "") (Or.inl (hw _ (List.mem_of_getElem? (i := 31) rfl))) Via.refl e0 (S_wB.ext O0.2) (g := (mkF m 86 #[.val (.int sel), .val (.long raw), .second, .val (.int mode), .val (.int u1), .unset, .unset, .unset, .unset, .unset, .unset] [])) rfl (hb hby at_86)
              refine Gl.up (B := T12.setTop (mkF m 89 #[.val (.int sel), .val (.long raw), .second, .val (.int mode), .val (.int u1), .unset, .unset, .unset, .unset, .unset, .unset] [(.ref wB)])) (fun t kt => st12 _ kt) ?_
              refine Gl.up (B := T12.setTop (mkF m 107 #[.val (.int sel), .val (.long raw), .second, .val (.int mode), .val (.int u1), .val (.ref wB), .val (.int (11 : Int32)), .unset, .unset, .unset, .unset] [])) (fun t kt => ?_) ?_
              · show Steps p.tables e below (T12.setTop (mkF m 89 #[.val (.int sel), .val (.long raw), .second, .val (.int mode), .val (.int u1), .unset, .unset, .unset, .unset, .unset, .unset] [(.ref wB)])) _
                refine XS.astore X12.here hx rfl (hb hby at_89) rfl rfl (l' := #[.val (.int sel), .val (.long raw), .second, .val (.int mode), .val (.int u1), .val (.ref wB), .unset, .unset, .unset, .unset, .unset]) rfl ?_
                show Steps p.tables e below (T12.setTop (mkF m 91 #[.val (.int sel), .val (.long raw), .second, .val (.int mode), .val (.int u1), .val (.ref wB), .unset, .unset, .unset, .unset, .unset] [])) _
                refine XS.bipush X12.here hx rfl (hb hby at_91) ?_
                show Steps p.tables e below (T12.setTop (mkF m 93 #[.val (.int sel), .val (.long raw), .second, .val (.int mode), .val (.int u1), .val (.ref wB), .unset, .unset, .unset, .unset, .unset] [(.int (11 : Int32))])) _
                refine XS.istore X12.here hx rfl (hb hby at_93) rfl (l' := #[.val (.int sel), .val (.long raw), .second, .val (.int mode), .val (.int u1), .val (.ref wB), .val (.int (11 : Int32)), .unset, .unset, .unset, .unset]) rfl ?_
                show Steps p.tables e below (T12.setTop (mkF m 95 #[.val (.int sel), .val (.long raw), .second, .val (.int mode), .val (.int u1), .val (.ref wB), .val (.int (11 : Int32)), .unset, .unset, .unset, .unset] [])) _
                refine XS.goto X12.here hx rfl (pc0 := 95) (pc' := 107) rfl (hb hby at_95) (by decide) (by decide) ?_
                exact kt
              exact J2 _ wB (11 : Int32) (((((if_neg c11_3).trans (if_neg c29_5)).trans (if_neg c47_7)).trans (if_neg c65_9)).trans (if_pos c83_11)).symm (((((if_neg c11_3).trans (if_neg c29_5)).trans (if_neg c47_7)).trans (if_neg c65_9)).trans (if_pos c83_11)).symm X12 e12
            · refine Gl.up (B := s₁.setTop (mkF m 98 #[.val (.int sel), .val (.long raw), .second, .val (.int mode), .val (.int u1), .unset, .unset, .unset, .unset, .unset, .unset] [])) (fun t kt => ?_) ?_
              · show Steps p.tables e below (s₁.setTop (mkF m 83 #[.val (.int sel), .val (.long raw), .second, .val (.int mode), .val (.int u1), .unset, .unset, .unset, .unset, .unset, .unset] [(.int (4 : Int32)), (.int u1)])) _
                refine XS.icmpYes X0.here hx rfl (pc0 := 83) (pc' := 98) rfl (hb hby at_83) rfl (feq c83_11).2 (by decide) (by decide) ?_
                exact kt
              obtain ⟨T13, X13, e13, st13⟩ := getS2 X0 hx hZ hown (host := "") (Or.inl (hw _ (List.mem_of_getElem? (i := 37) rfl))) Via.refl e0 (S_wX.ext O0.2) (g := (mkF m 98 #[.val (.int sel), .val (.long raw), .second, .val (.int mode), .val (.int u1), .unset, .unset, .unset, .unset, .unset, .unset] [])) rfl (hb hby at_98)
              refine Gl.up (B := T13.setTop (mkF m 101 #[.val (.int sel), .val (.long raw), .second, .val (.int mode), .val (.int u1), .unset, .unset, .unset, .unset, .unset, .unset] [(.ref wX)])) (fun t kt => st13 _ kt) ?_
              refine Gl.up (B := T13.setTop (mkF m 107 #[.val (.int sel), .val (.long raw), .second, .val (.int mode), .val (.int u1), .val (.ref wX), .val (.int (12 : Int32)), .unset, .unset, .unset, .unset] [])) (fun t kt => ?_) ?_
              · show Steps p.tables e below (T13.setTop (mkF m 101 #[.val (.int sel), .val (.long raw), .second, .val (.int mode), .val (.int u1), .unset, .unset, .unset, .unset, .unset, .unset] [(.ref wX)])) _
                refine XS.astore X13.here hx rfl (hb hby at_101) rfl rfl (l' := #[.val (.int sel), .val (.long raw), .second, .val (.int mode), .val (.int u1), .val (.ref wX), .unset, .unset, .unset, .unset, .unset]) rfl ?_
                show Steps p.tables e below (T13.setTop (mkF m 103 #[.val (.int sel), .val (.long raw), .second, .val (.int mode), .val (.int u1), .val (.ref wX), .unset, .unset, .unset, .unset, .unset] [])) _
                refine XS.bipush X13.here hx rfl (hb hby at_103) ?_
                show Steps p.tables e below (T13.setTop (mkF m 105 #[.val (.int sel), .val (.long raw), .second, .val (.int mode), .val (.int u1), .val (.ref wX), .unset, .unset, .unset, .unset, .unset] [(.int (12 : Int32))])) _
                refine XS.istore X13.here hx rfl (hb hby at_105) rfl (l' := #[.val (.int sel), .val (.long raw), .second, .val (.int mode), .val (.int u1), .val (.ref wX), .val (.int (12 : Int32)), .unset, .unset, .unset, .unset]) rfl ?_
                exact kt
              exact J2 _ wX (12 : Int32) (((((if_neg c11_3).trans (if_neg c29_5)).trans (if_neg c47_7)).trans (if_neg c65_9)).trans (if_neg c83_11)).symm (((((if_neg c11_3).trans (if_neg c29_5)).trans (if_neg c47_7)).trans (if_neg c65_9)).trans (if_neg c83_11)).symm X13 e13
  intro T2 v2_l5 v2_l6 hv2_l5 hv2_l6 X2 e2
  obtain ⟨ar, cl, vs, ht, hE, hF, hA, hS, hat⟩ := own_sel L_wM L_wR L_wT L_wK L_wB L_wX hv2_l5 hv2_l6
  have hS' : cl.slots.size = (Int32.ofNat vs.length).toNatClampNeg := by rw [own_n32 (own_tablen ht).1]; exact hS
  refine Gl.up (B := T2.setTop (mkF m 110 #[.val (.int sel), .val (.long raw), .second, .val (.int mode), .val (.int u1), .val (.ref v2_l5), .val (.int v2_l6), .unset, .unset, .unset, .unset] [(.int (mode &&& (1 : Int32)))])) (fun t kt => ?_) ?_
  · show Steps p.tables e below (T2.setTop (mkF m 107 #[.val (.int sel), .val (.long raw), .second, .val (.int mode), .val (.int u1), .val (.ref v2_l5), .val (.int v2_l6), .unset, .unset, .unset, .unset] [])) _
    refine XS.iloadN X2.here hx rfl (hb hby at_107) rfl ?_
    show Steps p.tables e below (T2.setTop (mkF m 108 #[.val (.int sel), .val (.long raw), .second, .val (.int mode), .val (.int u1), .val (.ref v2_l5), .val (.int v2_l6), .unset, .unset, .unset, .unset] [(.int mode)])) _
    refine XS.iconst X2.here hx rfl (hb hby at_108) ?_
    show Steps p.tables e below (T2.setTop (mkF m 109 #[.val (.int sel), .val (.long raw), .second, .val (.int mode), .val (.int u1), .val (.ref v2_l5), .val (.int v2_l6), .unset, .unset, .unset, .unset] [(.int (1 : Int32)), (.int mode)])) _
    refine XS.iand X2.here hx rfl (hb hby at_109) rfl ?_
    exact kt
  suffices J14 : ∀ (T14 : State) (v14_s0 : Int64), v14_s0 = (if (mode &&& (1 : Int32)) = (0 : Int32) then ((((raw &&& (31 : Int64)).toInt32) - (12 : Int32)).toInt64) else raw) → Stand p l e room_1 s m args below meth c T14 [] 0 0 → T14.heap = h0 → Gl p e below (Ret s 0 0 (Q0 n0)) (T14.setTop (mkF m 127 #[.val (.int sel), .val (.long raw), .second, .val (.int mode), .val (.int u1), .val (.ref v2_l5), .val (.int v2_l6), .unset, .unset, .unset, .unset] [(.long v14_s0)])) by
    by_cases c110_15 : (mode &&& (1 : Int32)) = (0 : Int32)
    · refine Gl.up (B := T2.setTop (mkF m 127 #[.val (.int sel), .val (.long raw), .second, .val (.int mode), .val (.int u1), .val (.ref v2_l5), .val (.int v2_l6), .unset, .unset, .unset, .unset] [(.long ((((raw &&& (31 : Int64)).toInt32) - (12 : Int32)).toInt64))])) (fun t kt => ?_) ?_
      · show Steps p.tables e below (T2.setTop (mkF m 110 #[.val (.int sel), .val (.long raw), .second, .val (.int mode), .val (.int u1), .val (.ref v2_l5), .val (.int v2_l6), .unset, .unset, .unset, .unset] [(.int (mode &&& (1 : Int32)))])) _
        refine XS.ifYes X2.here hx rfl (pc0 := 110) (pc' := 117) rfl (hb hby at_110) rfl ((if0 _ _).trans (teq c110_15).1) (by decide) (by decide) ?_
        show Steps p.tables e below (T2.setTop (mkF m 117 #[.val (.int sel), .val (.long raw), .second, .val (.int mode), .val (.int u1), .val (.ref v2_l5), .val (.int v2_l6), .unset, .unset, .unset, .unset] [])) _
        refine XS.lloadN X2.here hx rfl (hb hby at_117) rfl ?_
        show Steps p.tables e below (T2.setTop (mkF m 118 #[.val (.int sel), .val (.long raw), .second, .val (.int mode), .val (.int u1), .val (.ref v2_l5), .val (.int v2_l6), .unset, .unset, .unset, .unset] [(.long raw)])) _
        refine X2.ldc2Long hx hown (mvT hZ (hw _ (List.mem_of_getElem? (i := 28) rfl))) (g := (mkF m 118 #[.val (.int sel), .val (.long raw), .second, .val (.int mode), .val (.int u1), .val (.ref v2_l5), .val (.int v2_l6), .unset, .unset, .unset, .unset] [(.long raw)])) rfl (hb hby at_118) _ ?_
        show Steps p.tables e below (T2.setTop (mkF m 121 #[.val (.int sel), .val (.long raw), .second, .val (.int mode), .val (.int u1), .val (.ref v2_l5), .val (.int v2_l6), .unset, .unset, .unset, .unset] [(.long (31 : Int64)), (.long raw)])) _
        refine XS.land X2.here hx rfl (hb hby at_121) rfl ?_
        show Steps p.tables e below (T2.setTop (mkF m 122 #[.val (.int sel), .val (.long raw), .second, .val (.int mode), .val (.int u1), .val (.ref v2_l5), .val (.int v2_l6), .unset, .unset, .unset, .unset] [(.long (raw &&& (31 : Int64)))])) _
        refine XS.l2i X2.here hx rfl (hb hby at_122) rfl ?_
        show Steps p.tables e below (T2.setTop (mkF m 123 #[.val (.int sel), .val (.long raw), .second, .val (.int mode), .val (.int u1), .val (.ref v2_l5), .val (.int v2_l6), .unset, .unset, .unset, .unset] [(.int ((raw &&& (31 : Int64)).toInt32))])) _
        refine XS.bipush X2.here hx rfl (hb hby at_123) ?_
        show Steps p.tables e below (T2.setTop (mkF m 125 #[.val (.int sel), .val (.long raw), .second, .val (.int mode), .val (.int u1), .val (.ref v2_l5), .val (.int v2_l6), .unset, .unset, .unset, .unset] [(.int (12 : Int32)), (.int ((raw &&& (31 : Int64)).toInt32))])) _
        refine XS.isub X2.here hx rfl (hb hby at_125) rfl ?_
        show Steps p.tables e below (T2.setTop (mkF m 126 #[.val (.int sel), .val (.long raw), .second, .val (.int mode), .val (.int u1), .val (.ref v2_l5), .val (.int v2_l6), .unset, .unset, .unset, .unset] [(.int (((raw &&& (31 : Int64)).toInt32) - (12 : Int32)))])) _
        refine XS.i2l X2.here hx rfl (hb hby at_126) rfl ?_
        exact kt
      exact J14 _ ((((raw &&& (31 : Int64)).toInt32) - (12 : Int32)).toInt64) (if_pos c110_15).symm X2 e2
    · refine Gl.up (B := T2.setTop (mkF m 127 #[.val (.int sel), .val (.long raw), .second, .val (.int mode), .val (.int u1), .val (.ref v2_l5), .val (.int v2_l6), .unset, .unset, .unset, .unset] [(.long raw)])) (fun t kt => ?_) ?_
      · show Steps p.tables e below (T2.setTop (mkF m 110 #[.val (.int sel), .val (.long raw), .second, .val (.int mode), .val (.int u1), .val (.ref v2_l5), .val (.int v2_l6), .unset, .unset, .unset, .unset] [(.int (mode &&& (1 : Int32)))])) _
        refine XS.ifNo X2.here hx rfl (hb hby at_110) rfl ((if0 _ _).trans (feq c110_15).1) ?_
        show Steps p.tables e below (T2.setTop (mkF m 113 #[.val (.int sel), .val (.long raw), .second, .val (.int mode), .val (.int u1), .val (.ref v2_l5), .val (.int v2_l6), .unset, .unset, .unset, .unset] [])) _
        refine XS.lloadN X2.here hx rfl (hb hby at_113) rfl ?_
        show Steps p.tables e below (T2.setTop (mkF m 114 #[.val (.int sel), .val (.long raw), .second, .val (.int mode), .val (.int u1), .val (.ref v2_l5), .val (.int v2_l6), .unset, .unset, .unset, .unset] [(.long raw)])) _
        refine XS.goto X2.here hx rfl (pc0 := 114) (pc' := 127) rfl (hb hby at_114) (by decide) (by decide) ?_
        exact kt
      exact J14 _ raw (if_neg c110_15).symm X2 e2
  intro T14 v14_s0 hv14_s0 X14 e14
  refine Gl.up (B := T14.setTop (mkF m 134 #[.val (.int sel), .val (.long raw), .second, .val (.int mode), .val (.int u1), .val (.ref v2_l5), .val (.int v2_l6), .val (.long v14_s0), .second, .unset, .unset] [(.long (-6 : Int64)), (.long v14_s0)])) (fun t kt => ?_) ?_
  · show Steps p.tables e below (T14.setTop (mkF m 127 #[.val (.int sel), .val (.long raw), .second, .val (.int mode), .val (.int u1), .val (.ref v2_l5), .val (.int v2_l6), .unset, .unset, .unset, .unset] [(.long v14_s0)])) _
    refine XS.lstore X14.here hx rfl (hb hby at_127) rfl (l' := #[.val (.int sel), .val (.long raw), .second, .val (.int mode), .val (.int u1), .val (.ref v2_l5), .val (.int v2_l6), .val (.long v14_s0), .second, .unset, .unset]) rfl ?_
    show Steps p.tables e below (T14.setTop (mkF m 129 #[.val (.int sel), .val (.long raw), .second, .val (.int mode), .val (.int u1), .val (.ref v2_l5), .val (.int v2_l6), .val (.long v14_s0), .second, .unset, .unset] [])) _
    refine XS.lload X14.here hx rfl (hb hby at_129) rfl ?_
    show Steps p.tables e below (T14.setTop (mkF m 131 #[.val (.int sel), .val (.long raw), .second, .val (.int mode), .val (.int u1), .val (.ref v2_l5), .val (.int v2_l6), .val (.long v14_s0), .second, .unset, .unset] [(.long v14_s0)])) _
    refine X14.ldc2Long hx hown (mvT hZ (hw _ (List.mem_of_getElem? (i := 4) rfl))) (g := (mkF m 131 #[.val (.int sel), .val (.long raw), .second, .val (.int mode), .val (.int u1), .val (.ref v2_l5), .val (.int v2_l6), .val (.long v14_s0), .second, .unset, .unset] [(.long v14_s0)])) rfl (hb hby at_131) _ ?_
    exact kt
  obtain ⟨_, _, ⟨T16, L16, k16, n16⟩, -, X16, ⟨Lc16, hQ16, l16, y16, z16⟩, st16⟩ := Jvm.LawKit.callS X14 hx (y := (⟨"com/example/khamsin/khamsin/daily/CombatLineColumnPinLaw", "ge", "(JJ)I"⟩ : MethodName)) hown (mvT hZ (hw _ (List.mem_of_getElem? (i := 5) rfl))) (mvT hZ (hw _ (List.mem_of_getElem? (i := 6) rfl))) (mvT hZ (hw _ (List.mem_of_getElem? (i := 7) rfl))) (mvT hZ (hw _ (List.mem_of_getElem? (i := 8) rfl))) (by decide) (backOf (W := 0) (rm1 l Z aa hw [] v14_s0 (-6 : Int64) h0 n0 O0) hZ (hw _ (List.mem_of_getElem? (i := 8) rfl)) (hw _ (List.mem_of_getElem? (i := 7) rfl)) (by decide) (by decide)) (g := (mkF m 134 #[.val (.int sel), .val (.long raw), .second, .val (.int mode), .val (.int u1), .val (.ref v2_l5), .val (.int v2_l6), .val (.long v14_s0), .second, .unset, .unset] [(.long (-6 : Int64)), (.long v14_s0)])) rfl (by rw [hml]; rfl) (argsL := [(.long v14_s0), (.long (-6 : Int64))]) (rest := []) (lenOf pd_oJJcI rfl) rfl (by show 2 * 0 + _ ≤ _; exact Nat.le_of_eq rfl) (hb hby at_134) (fun _ _ => ⟨rfl, e14, (by decide : 0 + 0 ≤ _), (by decide : 0 + 0 ≤ _)⟩)
  dsimp only [Pt.U, Pt.locs, Pt.cells, Pt.slots] at X16 l16 y16 z16 st16 hQ16
  subst l16 y16 z16
  obtain ⟨rfl, rfl, e16⟩ := hQ16
  try rw [List.append_nil] at X16
  refine Gl.up (B := T16.setTop (mkF m 137 #[.val (.int sel), .val (.long raw), .second, .val (.int mode), .val (.int u1), .val (.ref v2_l5), .val (.int v2_l6), .val (.long v14_s0), .second, .unset, .unset] [(.int (f1 v14_s0 (-6 : Int64)))])) (fun t kt => st16 _ kt) ?_
  refine Gl.up (B := T16.setTop (mkF m 142 #[.val (.int sel), .val (.long raw), .second, .val (.int mode), .val (.int u1), .val (.ref v2_l5), .val (.int v2_l6), .val (.long v14_s0), .second, .unset, .unset] [(.long (-4 : Int64)), (.long v14_s0), (.int (f1 v14_s0 (-6 : Int64)))])) (fun t kt => ?_) ?_
  · show Steps p.tables e below (T16.setTop (mkF m 137 #[.val (.int sel), .val (.long raw), .second, .val (.int mode), .val (.int u1), .val (.ref v2_l5), .val (.int v2_l6), .val (.long v14_s0), .second, .unset, .unset] [(.int (f1 v14_s0 (-6 : Int64)))])) _
    refine XS.lload X16.here hx rfl (hb hby at_137) rfl ?_
    show Steps p.tables e below (T16.setTop (mkF m 139 #[.val (.int sel), .val (.long raw), .second, .val (.int mode), .val (.int u1), .val (.ref v2_l5), .val (.int v2_l6), .val (.long v14_s0), .second, .unset, .unset] [(.long v14_s0), (.int (f1 v14_s0 (-6 : Int64)))])) _
    refine X16.ldc2Long hx hown (mvT hZ (hw _ (List.mem_of_getElem? (i := 9) rfl))) (g := (mkF m 139 #[.val (.int sel), .val (.long raw), .second, .val (.int mode), .val (.int u1), .val (.ref v2_l5), .val (.int v2_l6), .val (.long v14_s0), .second, .unset, .unset] [(.long v14_s0), (.int (f1 v14_s0 (-6 : Int64)))])) rfl (hb hby at_139) _ ?_
    exact kt
  obtain ⟨_, _, ⟨T17, L17, k17, n17⟩, -, X17, ⟨Lc17, hQ17, l17, y17, z17⟩, st17⟩ := Jvm.LawKit.callS X16 hx (y := (⟨"com/example/khamsin/khamsin/daily/CombatLineColumnPinLaw", "ge", "(JJ)I"⟩ : MethodName)) hown (mvT hZ (hw _ (List.mem_of_getElem? (i := 5) rfl))) (mvT hZ (hw _ (List.mem_of_getElem? (i := 6) rfl))) (mvT hZ (hw _ (List.mem_of_getElem? (i := 7) rfl))) (mvT hZ (hw _ (List.mem_of_getElem? (i := 8) rfl))) (by decide) (backOf (W := 1) (rm1 l Z aa hw [] v14_s0 (-4 : Int64) h0 n0 O0) hZ (hw _ (List.mem_of_getElem? (i := 8) rfl)) (hw _ (List.mem_of_getElem? (i := 7) rfl)) (by decide) (by decide)) (g := (mkF m 142 #[.val (.int sel), .val (.long raw), .second, .val (.int mode), .val (.int u1), .val (.ref v2_l5), .val (.int v2_l6), .val (.long v14_s0), .second, .unset, .unset] [(.long (-4 : Int64)), (.long v14_s0), (.int (f1 v14_s0 (-6 : Int64)))])) rfl (by rw [hml]; rfl) (argsL := [(.long v14_s0), (.long (-4 : Int64))]) (rest := [(.int (f1 v14_s0 (-6 : Int64)))]) (lenOf pd_oJJcI rfl) rfl (by show 2 * 0 + _ ≤ _; exact Nat.le_of_eq rfl) (hb hby at_142) (fun _ _ => ⟨rfl, e16, (by decide : 0 + 0 ≤ _), (by decide : 0 + 0 ≤ _)⟩)
  dsimp only [Pt.U, Pt.locs, Pt.cells, Pt.slots] at X17 l17 y17 z17 st17 hQ17
  subst l17 y17 z17
  obtain ⟨rfl, rfl, e17⟩ := hQ17
  try rw [List.append_nil] at X17
  refine Gl.up (B := T17.setTop (mkF m 145 #[.val (.int sel), .val (.long raw), .second, .val (.int mode), .val (.int u1), .val (.ref v2_l5), .val (.int v2_l6), .val (.long v14_s0), .second, .unset, .unset] [(.int (f1 v14_s0 (-4 : Int64))), (.int (f1 v14_s0 (-6 : Int64)))])) (fun t kt => st17 _ kt) ?_
  refine Gl.up (B := T17.setTop (mkF m 151 #[.val (.int sel), .val (.long raw), .second, .val (.int mode), .val (.int u1), .val (.ref v2_l5), .val (.int v2_l6), .val (.long v14_s0), .second, .unset, .unset] [(.long (-2 : Int64)), (.long v14_s0), (.int ((f1 v14_s0 (-6 : Int64)) + (f1 v14_s0 (-4 : Int64))))])) (fun t kt => ?_) ?_
  · show Steps p.tables e below (T17.setTop (mkF m 145 #[.val (.int sel), .val (.long raw), .second, .val (.int mode), .val (.int u1), .val (.ref v2_l5), .val (.int v2_l6), .val (.long v14_s0), .second, .unset, .unset] [(.int (f1 v14_s0 (-4 : Int64))), (.int (f1 v14_s0 (-6 : Int64)))])) _
    refine XS.iadd X17.here hx rfl (hb hby at_145) rfl ?_
    show Steps p.tables e below (T17.setTop (mkF m 146 #[.val (.int sel), .val (.long raw), .second, .val (.int mode), .val (.int u1), .val (.ref v2_l5), .val (.int v2_l6), .val (.long v14_s0), .second, .unset, .unset] [(.int ((f1 v14_s0 (-6 : Int64)) + (f1 v14_s0 (-4 : Int64))))])) _
    refine XS.lload X17.here hx rfl (hb hby at_146) rfl ?_
    show Steps p.tables e below (T17.setTop (mkF m 148 #[.val (.int sel), .val (.long raw), .second, .val (.int mode), .val (.int u1), .val (.ref v2_l5), .val (.int v2_l6), .val (.long v14_s0), .second, .unset, .unset] [(.long v14_s0), (.int ((f1 v14_s0 (-6 : Int64)) + (f1 v14_s0 (-4 : Int64))))])) _
    refine X17.ldc2Long hx hown (mvT hZ (hw _ (List.mem_of_getElem? (i := 10) rfl))) (g := (mkF m 148 #[.val (.int sel), .val (.long raw), .second, .val (.int mode), .val (.int u1), .val (.ref v2_l5), .val (.int v2_l6), .val (.long v14_s0), .second, .unset, .unset] [(.long v14_s0), (.int ((f1 v14_s0 (-6 : Int64)) + (f1 v14_s0 (-4 : Int64))))])) rfl (hb hby at_148) _ ?_
    exact kt
  obtain ⟨_, _, ⟨T18, L18, k18, n18⟩, -, X18, ⟨Lc18, hQ18, l18, y18, z18⟩, st18⟩ := Jvm.LawKit.callS X17 hx (y := (⟨"com/example/khamsin/khamsin/daily/CombatLineColumnPinLaw", "ge", "(JJ)I"⟩ : MethodName)) hown (mvT hZ (hw _ (List.mem_of_getElem? (i := 5) rfl))) (mvT hZ (hw _ (List.mem_of_getElem? (i := 6) rfl))) (mvT hZ (hw _ (List.mem_of_getElem? (i := 7) rfl))) (mvT hZ (hw _ (List.mem_of_getElem? (i := 8) rfl))) (by decide) (backOf (W := 1) (rm1 l Z aa hw [] v14_s0 (-2 : Int64) h0 n0 O0) hZ (hw _ (List.mem_of_getElem? (i := 8) rfl)) (hw _ (List.mem_of_getElem? (i := 7) rfl)) (by decide) (by decide)) (g := (mkF m 151 #[.val (.int sel), .val (.long raw), .second, .val (.int mode), .val (.int u1), .val (.ref v2_l5), .val (.int v2_l6), .val (.long v14_s0), .second, .unset, .unset] [(.long (-2 : Int64)), (.long v14_s0), (.int ((f1 v14_s0 (-6 : Int64)) + (f1 v14_s0 (-4 : Int64))))])) rfl (by rw [hml]; rfl) (argsL := [(.long v14_s0), (.long (-2 : Int64))]) (rest := [(.int ((f1 v14_s0 (-6 : Int64)) + (f1 v14_s0 (-4 : Int64))))]) (lenOf pd_oJJcI rfl) rfl (by show 2 * 0 + _ ≤ _; exact Nat.le_of_eq rfl) (hb hby at_151) (fun _ _ => ⟨rfl, e17, (by decide : 0 + 0 ≤ _), (by decide : 0 + 0 ≤ _)⟩)
  dsimp only [Pt.U, Pt.locs, Pt.cells, Pt.slots] at X18 l18 y18 z18 st18 hQ18
  subst l18 y18 z18
  obtain ⟨rfl, rfl, e18⟩ := hQ18
  try rw [List.append_nil] at X18
  refine Gl.up (B := T18.setTop (mkF m 154 #[.val (.int sel), .val (.long raw), .second, .val (.int mode), .val (.int u1), .val (.ref v2_l5), .val (.int v2_l6), .val (.long v14_s0), .second, .unset, .unset] [(.int (f1 v14_s0 (-2 : Int64))), (.int ((f1 v14_s0 (-6 : Int64)) + (f1 v14_s0 (-4 : Int64))))])) (fun t kt => st18 _ kt) ?_
  refine Gl.up (B := T18.setTop (mkF m 160 #[.val (.int sel), .val (.long raw), .second, .val (.int mode), .val (.int u1), .val (.ref v2_l5), .val (.int v2_l6), .val (.long v14_s0), .second, .unset, .unset] [(.long (-1 : Int64)), (.long v14_s0), (.int (((f1 v14_s0 (-6 : Int64)) + (f1 v14_s0 (-4 : Int64))) + (f1 v14_s0 (-2 : Int64))))])) (fun t kt => ?_) ?_
  · show Steps p.tables e below (T18.setTop (mkF m 154 #[.val (.int sel), .val (.long raw), .second, .val (.int mode), .val (.int u1), .val (.ref v2_l5), .val (.int v2_l6), .val (.long v14_s0), .second, .unset, .unset] [(.int (f1 v14_s0 (-2 : Int64))), (.int ((f1 v14_s0 (-6 : Int64)) + (f1 v14_s0 (-4 : Int64))))])) _
    refine XS.iadd X18.here hx rfl (hb hby at_154) rfl ?_
    show Steps p.tables e below (T18.setTop (mkF m 155 #[.val (.int sel), .val (.long raw), .second, .val (.int mode), .val (.int u1), .val (.ref v2_l5), .val (.int v2_l6), .val (.long v14_s0), .second, .unset, .unset] [(.int (((f1 v14_s0 (-6 : Int64)) + (f1 v14_s0 (-4 : Int64))) + (f1 v14_s0 (-2 : Int64))))])) _
    refine XS.lload X18.here hx rfl (hb hby at_155) rfl ?_
    show Steps p.tables e below (T18.setTop (mkF m 157 #[.val (.int sel), .val (.long raw), .second, .val (.int mode), .val (.int u1), .val (.ref v2_l5), .val (.int v2_l6), .val (.long v14_s0), .second, .unset, .unset] [(.long v14_s0), (.int (((f1 v14_s0 (-6 : Int64)) + (f1 v14_s0 (-4 : Int64))) + (f1 v14_s0 (-2 : Int64))))])) _
    refine X18.ldc2Long hx hown (mvT hZ (hw _ (List.mem_of_getElem? (i := 11) rfl))) (g := (mkF m 157 #[.val (.int sel), .val (.long raw), .second, .val (.int mode), .val (.int u1), .val (.ref v2_l5), .val (.int v2_l6), .val (.long v14_s0), .second, .unset, .unset] [(.long v14_s0), (.int (((f1 v14_s0 (-6 : Int64)) + (f1 v14_s0 (-4 : Int64))) + (f1 v14_s0 (-2 : Int64))))])) rfl (hb hby at_157) _ ?_
    exact kt
  obtain ⟨_, _, ⟨T19, L19, k19, n19⟩, -, X19, ⟨Lc19, hQ19, l19, y19, z19⟩, st19⟩ := Jvm.LawKit.callS X18 hx (y := (⟨"com/example/khamsin/khamsin/daily/CombatLineColumnPinLaw", "ge", "(JJ)I"⟩ : MethodName)) hown (mvT hZ (hw _ (List.mem_of_getElem? (i := 5) rfl))) (mvT hZ (hw _ (List.mem_of_getElem? (i := 6) rfl))) (mvT hZ (hw _ (List.mem_of_getElem? (i := 7) rfl))) (mvT hZ (hw _ (List.mem_of_getElem? (i := 8) rfl))) (by decide) (backOf (W := 1) (rm1 l Z aa hw [] v14_s0 (-1 : Int64) h0 n0 O0) hZ (hw _ (List.mem_of_getElem? (i := 8) rfl)) (hw _ (List.mem_of_getElem? (i := 7) rfl)) (by decide) (by decide)) (g := (mkF m 160 #[.val (.int sel), .val (.long raw), .second, .val (.int mode), .val (.int u1), .val (.ref v2_l5), .val (.int v2_l6), .val (.long v14_s0), .second, .unset, .unset] [(.long (-1 : Int64)), (.long v14_s0), (.int (((f1 v14_s0 (-6 : Int64)) + (f1 v14_s0 (-4 : Int64))) + (f1 v14_s0 (-2 : Int64))))])) rfl (by rw [hml]; rfl) (argsL := [(.long v14_s0), (.long (-1 : Int64))]) (rest := [(.int (((f1 v14_s0 (-6 : Int64)) + (f1 v14_s0 (-4 : Int64))) + (f1 v14_s0 (-2 : Int64))))]) (lenOf pd_oJJcI rfl) rfl (by show 2 * 0 + _ ≤ _; exact Nat.le_of_eq rfl) (hb hby at_160) (fun _ _ => ⟨rfl, e18, (by decide : 0 + 0 ≤ _), (by decide : 0 + 0 ≤ _)⟩)
  dsimp only [Pt.U, Pt.locs, Pt.cells, Pt.slots] at X19 l19 y19 z19 st19 hQ19
  subst l19 y19 z19
  obtain ⟨rfl, rfl, e19⟩ := hQ19
  try rw [List.append_nil] at X19
  refine Gl.up (B := T19.setTop (mkF m 163 #[.val (.int sel), .val (.long raw), .second, .val (.int mode), .val (.int u1), .val (.ref v2_l5), .val (.int v2_l6), .val (.long v14_s0), .second, .unset, .unset] [(.int (f1 v14_s0 (-1 : Int64))), (.int (((f1 v14_s0 (-6 : Int64)) + (f1 v14_s0 (-4 : Int64))) + (f1 v14_s0 (-2 : Int64))))])) (fun t kt => st19 _ kt) ?_
  refine Gl.up (B := T19.setTop (mkF m 167 #[.val (.int sel), .val (.long raw), .second, .val (.int mode), .val (.int u1), .val (.ref v2_l5), .val (.int v2_l6), .val (.long v14_s0), .second, .unset, .unset] [(.long (0 : Int64)), (.long v14_s0), (.int ((((f1 v14_s0 (-6 : Int64)) + (f1 v14_s0 (-4 : Int64))) + (f1 v14_s0 (-2 : Int64))) + (f1 v14_s0 (-1 : Int64))))])) (fun t kt => ?_) ?_
  · show Steps p.tables e below (T19.setTop (mkF m 163 #[.val (.int sel), .val (.long raw), .second, .val (.int mode), .val (.int u1), .val (.ref v2_l5), .val (.int v2_l6), .val (.long v14_s0), .second, .unset, .unset] [(.int (f1 v14_s0 (-1 : Int64))), (.int (((f1 v14_s0 (-6 : Int64)) + (f1 v14_s0 (-4 : Int64))) + (f1 v14_s0 (-2 : Int64))))])) _
    refine XS.iadd X19.here hx rfl (hb hby at_163) rfl ?_
    show Steps p.tables e below (T19.setTop (mkF m 164 #[.val (.int sel), .val (.long raw), .second, .val (.int mode), .val (.int u1), .val (.ref v2_l5), .val (.int v2_l6), .val (.long v14_s0), .second, .unset, .unset] [(.int ((((f1 v14_s0 (-6 : Int64)) + (f1 v14_s0 (-4 : Int64))) + (f1 v14_s0 (-2 : Int64))) + (f1 v14_s0 (-1 : Int64))))])) _
    refine XS.lload X19.here hx rfl (hb hby at_164) rfl ?_
    show Steps p.tables e below (T19.setTop (mkF m 166 #[.val (.int sel), .val (.long raw), .second, .val (.int mode), .val (.int u1), .val (.ref v2_l5), .val (.int v2_l6), .val (.long v14_s0), .second, .unset, .unset] [(.long v14_s0), (.int ((((f1 v14_s0 (-6 : Int64)) + (f1 v14_s0 (-4 : Int64))) + (f1 v14_s0 (-2 : Int64))) + (f1 v14_s0 (-1 : Int64))))])) _
    refine XS.lconst X19.here hx rfl (hb hby at_166) ?_
    exact kt
  obtain ⟨_, _, ⟨T20, L20, k20, n20⟩, -, X20, ⟨Lc20, hQ20, l20, y20, z20⟩, st20⟩ := Jvm.LawKit.callS X19 hx (y := (⟨"com/example/khamsin/khamsin/daily/CombatLineColumnPinLaw", "ge", "(JJ)I"⟩ : MethodName)) hown (mvT hZ (hw _ (List.mem_of_getElem? (i := 5) rfl))) (mvT hZ (hw _ (List.mem_of_getElem? (i := 6) rfl))) (mvT hZ (hw _ (List.mem_of_getElem? (i := 7) rfl))) (mvT hZ (hw _ (List.mem_of_getElem? (i := 8) rfl))) (by decide) (backOf (W := 1) (rm1 l Z aa hw [] v14_s0 (0 : Int64) h0 n0 O0) hZ (hw _ (List.mem_of_getElem? (i := 8) rfl)) (hw _ (List.mem_of_getElem? (i := 7) rfl)) (by decide) (by decide)) (g := (mkF m 167 #[.val (.int sel), .val (.long raw), .second, .val (.int mode), .val (.int u1), .val (.ref v2_l5), .val (.int v2_l6), .val (.long v14_s0), .second, .unset, .unset] [(.long (0 : Int64)), (.long v14_s0), (.int ((((f1 v14_s0 (-6 : Int64)) + (f1 v14_s0 (-4 : Int64))) + (f1 v14_s0 (-2 : Int64))) + (f1 v14_s0 (-1 : Int64))))])) rfl (by rw [hml]; rfl) (argsL := [(.long v14_s0), (.long (0 : Int64))]) (rest := [(.int ((((f1 v14_s0 (-6 : Int64)) + (f1 v14_s0 (-4 : Int64))) + (f1 v14_s0 (-2 : Int64))) + (f1 v14_s0 (-1 : Int64))))]) (lenOf pd_oJJcI rfl) rfl (by show 2 * 0 + _ ≤ _; exact Nat.le_of_eq rfl) (hb hby at_167) (fun _ _ => ⟨rfl, e19, (by decide : 0 + 0 ≤ _), (by decide : 0 + 0 ≤ _)⟩)
  dsimp only [Pt.U, Pt.locs, Pt.cells, Pt.slots] at X20 l20 y20 z20 st20 hQ20
  subst l20 y20 z20
  obtain ⟨rfl, rfl, e20⟩ := hQ20
  try rw [List.append_nil] at X20
  refine Gl.up (B := T20.setTop (mkF m 170 #[.val (.int sel), .val (.long raw), .second, .val (.int mode), .val (.int u1), .val (.ref v2_l5), .val (.int v2_l6), .val (.long v14_s0), .second, .unset, .unset] [(.int (f1 v14_s0 (0 : Int64))), (.int ((((f1 v14_s0 (-6 : Int64)) + (f1 v14_s0 (-4 : Int64))) + (f1 v14_s0 (-2 : Int64))) + (f1 v14_s0 (-1 : Int64))))])) (fun t kt => st20 _ kt) ?_
  refine Gl.up (B := T20.setTop (mkF m 174 #[.val (.int sel), .val (.long raw), .second, .val (.int mode), .val (.int u1), .val (.ref v2_l5), .val (.int v2_l6), .val (.long v14_s0), .second, .unset, .unset] [(.long (1 : Int64)), (.long v14_s0), (.int (((((f1 v14_s0 (-6 : Int64)) + (f1 v14_s0 (-4 : Int64))) + (f1 v14_s0 (-2 : Int64))) + (f1 v14_s0 (-1 : Int64))) + (f1 v14_s0 (0 : Int64))))])) (fun t kt => ?_) ?_
  · show Steps p.tables e below (T20.setTop (mkF m 170 #[.val (.int sel), .val (.long raw), .second, .val (.int mode), .val (.int u1), .val (.ref v2_l5), .val (.int v2_l6), .val (.long v14_s0), .second, .unset, .unset] [(.int (f1 v14_s0 (0 : Int64))), (.int ((((f1 v14_s0 (-6 : Int64)) + (f1 v14_s0 (-4 : Int64))) + (f1 v14_s0 (-2 : Int64))) + (f1 v14_s0 (-1 : Int64))))])) _
    refine XS.iadd X20.here hx rfl (hb hby at_170) rfl ?_
    show Steps p.tables e below (T20.setTop (mkF m 171 #[.val (.int sel), .val (.long raw), .second, .val (.int mode), .val (.int u1), .val (.ref v2_l5), .val (.int v2_l6), .val (.long v14_s0), .second, .unset, .unset] [(.int (((((f1 v14_s0 (-6 : Int64)) + (f1 v14_s0 (-4 : Int64))) + (f1 v14_s0 (-2 : Int64))) + (f1 v14_s0 (-1 : Int64))) + (f1 v14_s0 (0 : Int64))))])) _
    refine XS.lload X20.here hx rfl (hb hby at_171) rfl ?_
    show Steps p.tables e below (T20.setTop (mkF m 173 #[.val (.int sel), .val (.long raw), .second, .val (.int mode), .val (.int u1), .val (.ref v2_l5), .val (.int v2_l6), .val (.long v14_s0), .second, .unset, .unset] [(.long v14_s0), (.int (((((f1 v14_s0 (-6 : Int64)) + (f1 v14_s0 (-4 : Int64))) + (f1 v14_s0 (-2 : Int64))) + (f1 v14_s0 (-1 : Int64))) + (f1 v14_s0 (0 : Int64))))])) _
    refine XS.lconst X20.here hx rfl (hb hby at_173) ?_
    exact kt
  obtain ⟨_, _, ⟨T21, L21, k21, n21⟩, -, X21, ⟨Lc21, hQ21, l21, y21, z21⟩, st21⟩ := Jvm.LawKit.callS X20 hx (y := (⟨"com/example/khamsin/khamsin/daily/CombatLineColumnPinLaw", "ge", "(JJ)I"⟩ : MethodName)) hown (mvT hZ (hw _ (List.mem_of_getElem? (i := 5) rfl))) (mvT hZ (hw _ (List.mem_of_getElem? (i := 6) rfl))) (mvT hZ (hw _ (List.mem_of_getElem? (i := 7) rfl))) (mvT hZ (hw _ (List.mem_of_getElem? (i := 8) rfl))) (by decide) (backOf (W := 1) (rm1 l Z aa hw [] v14_s0 (1 : Int64) h0 n0 O0) hZ (hw _ (List.mem_of_getElem? (i := 8) rfl)) (hw _ (List.mem_of_getElem? (i := 7) rfl)) (by decide) (by decide)) (g := (mkF m 174 #[.val (.int sel), .val (.long raw), .second, .val (.int mode), .val (.int u1), .val (.ref v2_l5), .val (.int v2_l6), .val (.long v14_s0), .second, .unset, .unset] [(.long (1 : Int64)), (.long v14_s0), (.int (((((f1 v14_s0 (-6 : Int64)) + (f1 v14_s0 (-4 : Int64))) + (f1 v14_s0 (-2 : Int64))) + (f1 v14_s0 (-1 : Int64))) + (f1 v14_s0 (0 : Int64))))])) rfl (by rw [hml]; rfl) (argsL := [(.long v14_s0), (.long (1 : Int64))]) (rest := [(.int (((((f1 v14_s0 (-6 : Int64)) + (f1 v14_s0 (-4 : Int64))) + (f1 v14_s0 (-2 : Int64))) + (f1 v14_s0 (-1 : Int64))) + (f1 v14_s0 (0 : Int64))))]) (lenOf pd_oJJcI rfl) rfl (by show 2 * 0 + _ ≤ _; exact Nat.le_of_eq rfl) (hb hby at_174) (fun _ _ => ⟨rfl, e20, (by decide : 0 + 0 ≤ _), (by decide : 0 + 0 ≤ _)⟩)
  dsimp only [Pt.U, Pt.locs, Pt.cells, Pt.slots] at X21 l21 y21 z21 st21 hQ21
  subst l21 y21 z21
  obtain ⟨rfl, rfl, e21⟩ := hQ21
  try rw [List.append_nil] at X21
  refine Gl.up (B := T21.setTop (mkF m 177 #[.val (.int sel), .val (.long raw), .second, .val (.int mode), .val (.int u1), .val (.ref v2_l5), .val (.int v2_l6), .val (.long v14_s0), .second, .unset, .unset] [(.int (f1 v14_s0 (1 : Int64))), (.int (((((f1 v14_s0 (-6 : Int64)) + (f1 v14_s0 (-4 : Int64))) + (f1 v14_s0 (-2 : Int64))) + (f1 v14_s0 (-1 : Int64))) + (f1 v14_s0 (0 : Int64))))])) (fun t kt => st21 _ kt) ?_
  refine Gl.up (B := T21.setTop (mkF m 183 #[.val (.int sel), .val (.long raw), .second, .val (.int mode), .val (.int u1), .val (.ref v2_l5), .val (.int v2_l6), .val (.long v14_s0), .second, .unset, .unset] [(.long (2 : Int64)), (.long v14_s0), (.int ((((((f1 v14_s0 (-6 : Int64)) + (f1 v14_s0 (-4 : Int64))) + (f1 v14_s0 (-2 : Int64))) + (f1 v14_s0 (-1 : Int64))) + (f1 v14_s0 (0 : Int64))) + (f1 v14_s0 (1 : Int64))))])) (fun t kt => ?_) ?_
  · show Steps p.tables e below (T21.setTop (mkF m 177 #[.val (.int sel), .val (.long raw), .second, .val (.int mode), .val (.int u1), .val (.ref v2_l5), .val (.int v2_l6), .val (.long v14_s0), .second, .unset, .unset] [(.int (f1 v14_s0 (1 : Int64))), (.int (((((f1 v14_s0 (-6 : Int64)) + (f1 v14_s0 (-4 : Int64))) + (f1 v14_s0 (-2 : Int64))) + (f1 v14_s0 (-1 : Int64))) + (f1 v14_s0 (0 : Int64))))])) _
    refine XS.iadd X21.here hx rfl (hb hby at_177) rfl ?_
    show Steps p.tables e below (T21.setTop (mkF m 178 #[.val (.int sel), .val (.long raw), .second, .val (.int mode), .val (.int u1), .val (.ref v2_l5), .val (.int v2_l6), .val (.long v14_s0), .second, .unset, .unset] [(.int ((((((f1 v14_s0 (-6 : Int64)) + (f1 v14_s0 (-4 : Int64))) + (f1 v14_s0 (-2 : Int64))) + (f1 v14_s0 (-1 : Int64))) + (f1 v14_s0 (0 : Int64))) + (f1 v14_s0 (1 : Int64))))])) _
    refine XS.lload X21.here hx rfl (hb hby at_178) rfl ?_
    show Steps p.tables e below (T21.setTop (mkF m 180 #[.val (.int sel), .val (.long raw), .second, .val (.int mode), .val (.int u1), .val (.ref v2_l5), .val (.int v2_l6), .val (.long v14_s0), .second, .unset, .unset] [(.long v14_s0), (.int ((((((f1 v14_s0 (-6 : Int64)) + (f1 v14_s0 (-4 : Int64))) + (f1 v14_s0 (-2 : Int64))) + (f1 v14_s0 (-1 : Int64))) + (f1 v14_s0 (0 : Int64))) + (f1 v14_s0 (1 : Int64))))])) _
    refine X21.ldc2Long hx hown (mvT hZ (hw _ (List.mem_of_getElem? (i := 12) rfl))) (g := (mkF m 180 #[.val (.int sel), .val (.long raw), .second, .val (.int mode), .val (.int u1), .val (.ref v2_l5), .val (.int v2_l6), .val (.long v14_s0), .second, .unset, .unset] [(.long v14_s0), (.int ((((((f1 v14_s0 (-6 : Int64)) + (f1 v14_s0 (-4 : Int64))) + (f1 v14_s0 (-2 : Int64))) + (f1 v14_s0 (-1 : Int64))) + (f1 v14_s0 (0 : Int64))) + (f1 v14_s0 (1 : Int64))))])) rfl (hb hby at_180) _ ?_
    exact kt
  obtain ⟨_, _, ⟨T22, L22, k22, n22⟩, -, X22, ⟨Lc22, hQ22, l22, y22, z22⟩, st22⟩ := Jvm.LawKit.callS X21 hx (y := (⟨"com/example/khamsin/khamsin/daily/CombatLineColumnPinLaw", "ge", "(JJ)I"⟩ : MethodName)) hown (mvT hZ (hw _ (List.mem_of_getElem? (i := 5) rfl))) (mvT hZ (hw _ (List.mem_of_getElem? (i := 6) rfl))) (mvT hZ (hw _ (List.mem_of_getElem? (i := 7) rfl))) (mvT hZ (hw _ (List.mem_of_getElem? (i := 8) rfl))) (by decide) (backOf (W := 1) (rm1 l Z aa hw [] v14_s0 (2 : Int64) h0 n0 O0) hZ (hw _ (List.mem_of_getElem? (i := 8) rfl)) (hw _ (List.mem_of_getElem? (i := 7) rfl)) (by decide) (by decide)) (g := (mkF m 183 #[.val (.int sel), .val (.long raw), .second, .val (.int mode), .val (.int u1), .val (.ref v2_l5), .val (.int v2_l6), .val (.long v14_s0), .second, .unset, .unset] [(.long (2 : Int64)), (.long v14_s0), (.int ((((((f1 v14_s0 (-6 : Int64)) + (f1 v14_s0 (-4 : Int64))) + (f1 v14_s0 (-2 : Int64))) + (f1 v14_s0 (-1 : Int64))) + (f1 v14_s0 (0 : Int64))) + (f1 v14_s0 (1 : Int64))))])) rfl (by rw [hml]; rfl) (argsL := [(.long v14_s0), (.long (2 : Int64))]) (rest := [(.int ((((((f1 v14_s0 (-6 : Int64)) + (f1 v14_s0 (-4 : Int64))) + (f1 v14_s0 (-2 : Int64))) + (f1 v14_s0 (-1 : Int64))) + (f1 v14_s0 (0 : Int64))) + (f1 v14_s0 (1 : Int64))))]) (lenOf pd_oJJcI rfl) rfl (by show 2 * 0 + _ ≤ _; exact Nat.le_of_eq rfl) (hb hby at_183) (fun _ _ => ⟨rfl, e21, (by decide : 0 + 0 ≤ _), (by decide : 0 + 0 ≤ _)⟩)
  dsimp only [Pt.U, Pt.locs, Pt.cells, Pt.slots] at X22 l22 y22 z22 st22 hQ22
  subst l22 y22 z22
  obtain ⟨rfl, rfl, e22⟩ := hQ22
  try rw [List.append_nil] at X22
  refine Gl.up (B := T22.setTop (mkF m 186 #[.val (.int sel), .val (.long raw), .second, .val (.int mode), .val (.int u1), .val (.ref v2_l5), .val (.int v2_l6), .val (.long v14_s0), .second, .unset, .unset] [(.int (f1 v14_s0 (2 : Int64))), (.int ((((((f1 v14_s0 (-6 : Int64)) + (f1 v14_s0 (-4 : Int64))) + (f1 v14_s0 (-2 : Int64))) + (f1 v14_s0 (-1 : Int64))) + (f1 v14_s0 (0 : Int64))) + (f1 v14_s0 (1 : Int64))))])) (fun t kt => st22 _ kt) ?_
  refine Gl.up (B := T22.setTop (mkF m 192 #[.val (.int sel), .val (.long raw), .second, .val (.int mode), .val (.int u1), .val (.ref v2_l5), .val (.int v2_l6), .val (.long v14_s0), .second, .unset, .unset] [(.long (4 : Int64)), (.long v14_s0), (.int (((((((f1 v14_s0 (-6 : Int64)) + (f1 v14_s0 (-4 : Int64))) + (f1 v14_s0 (-2 : Int64))) + (f1 v14_s0 (-1 : Int64))) + (f1 v14_s0 (0 : Int64))) + (f1 v14_s0 (1 : Int64))) + (f1 v14_s0 (2 : Int64))))])) (fun t kt => ?_) ?_
  · show Steps p.tables e below (T22.setTop (mkF m 186 #[.val (.int sel), .val (.long raw), .second, .val (.int mode), .val (.int u1), .val (.ref v2_l5), .val (.int v2_l6), .val (.long v14_s0), .second, .unset, .unset] [(.int (f1 v14_s0 (2 : Int64))), (.int ((((((f1 v14_s0 (-6 : Int64)) + (f1 v14_s0 (-4 : Int64))) + (f1 v14_s0 (-2 : Int64))) + (f1 v14_s0 (-1 : Int64))) + (f1 v14_s0 (0 : Int64))) + (f1 v14_s0 (1 : Int64))))])) _
    refine XS.iadd X22.here hx rfl (hb hby at_186) rfl ?_
    show Steps p.tables e below (T22.setTop (mkF m 187 #[.val (.int sel), .val (.long raw), .second, .val (.int mode), .val (.int u1), .val (.ref v2_l5), .val (.int v2_l6), .val (.long v14_s0), .second, .unset, .unset] [(.int (((((((f1 v14_s0 (-6 : Int64)) + (f1 v14_s0 (-4 : Int64))) + (f1 v14_s0 (-2 : Int64))) + (f1 v14_s0 (-1 : Int64))) + (f1 v14_s0 (0 : Int64))) + (f1 v14_s0 (1 : Int64))) + (f1 v14_s0 (2 : Int64))))])) _
    refine XS.lload X22.here hx rfl (hb hby at_187) rfl ?_
    show Steps p.tables e below (T22.setTop (mkF m 189 #[.val (.int sel), .val (.long raw), .second, .val (.int mode), .val (.int u1), .val (.ref v2_l5), .val (.int v2_l6), .val (.long v14_s0), .second, .unset, .unset] [(.long v14_s0), (.int (((((((f1 v14_s0 (-6 : Int64)) + (f1 v14_s0 (-4 : Int64))) + (f1 v14_s0 (-2 : Int64))) + (f1 v14_s0 (-1 : Int64))) + (f1 v14_s0 (0 : Int64))) + (f1 v14_s0 (1 : Int64))) + (f1 v14_s0 (2 : Int64))))])) _
    refine X22.ldc2Long hx hown (mvT hZ (hw _ (List.mem_of_getElem? (i := 13) rfl))) (g := (mkF m 189 #[.val (.int sel), .val (.long raw), .second, .val (.int mode), .val (.int u1), .val (.ref v2_l5), .val (.int v2_l6), .val (.long v14_s0), .second, .unset, .unset] [(.long v14_s0), (.int (((((((f1 v14_s0 (-6 : Int64)) + (f1 v14_s0 (-4 : Int64))) + (f1 v14_s0 (-2 : Int64))) + (f1 v14_s0 (-1 : Int64))) + (f1 v14_s0 (0 : Int64))) + (f1 v14_s0 (1 : Int64))) + (f1 v14_s0 (2 : Int64))))])) rfl (hb hby at_189) _ ?_
    exact kt
  obtain ⟨_, _, ⟨T23, L23, k23, n23⟩, -, X23, ⟨Lc23, hQ23, l23, y23, z23⟩, st23⟩ := Jvm.LawKit.callS X22 hx (y := (⟨"com/example/khamsin/khamsin/daily/CombatLineColumnPinLaw", "ge", "(JJ)I"⟩ : MethodName)) hown (mvT hZ (hw _ (List.mem_of_getElem? (i := 5) rfl))) (mvT hZ (hw _ (List.mem_of_getElem? (i := 6) rfl))) (mvT hZ (hw _ (List.mem_of_getElem? (i := 7) rfl))) (mvT hZ (hw _ (List.mem_of_getElem? (i := 8) rfl))) (by decide) (backOf (W := 1) (rm1 l Z aa hw [] v14_s0 (4 : Int64) h0 n0 O0) hZ (hw _ (List.mem_of_getElem? (i := 8) rfl)) (hw _ (List.mem_of_getElem? (i := 7) rfl)) (by decide) (by decide)) (g := (mkF m 192 #[.val (.int sel), .val (.long raw), .second, .val (.int mode), .val (.int u1), .val (.ref v2_l5), .val (.int v2_l6), .val (.long v14_s0), .second, .unset, .unset] [(.long (4 : Int64)), (.long v14_s0), (.int (((((((f1 v14_s0 (-6 : Int64)) + (f1 v14_s0 (-4 : Int64))) + (f1 v14_s0 (-2 : Int64))) + (f1 v14_s0 (-1 : Int64))) + (f1 v14_s0 (0 : Int64))) + (f1 v14_s0 (1 : Int64))) + (f1 v14_s0 (2 : Int64))))])) rfl (by rw [hml]; rfl) (argsL := [(.long v14_s0), (.long (4 : Int64))]) (rest := [(.int (((((((f1 v14_s0 (-6 : Int64)) + (f1 v14_s0 (-4 : Int64))) + (f1 v14_s0 (-2 : Int64))) + (f1 v14_s0 (-1 : Int64))) + (f1 v14_s0 (0 : Int64))) + (f1 v14_s0 (1 : Int64))) + (f1 v14_s0 (2 : Int64))))]) (lenOf pd_oJJcI rfl) rfl (by show 2 * 0 + _ ≤ _; exact Nat.le_of_eq rfl) (hb hby at_192) (fun _ _ => ⟨rfl, e22, (by decide : 0 + 0 ≤ _), (by decide : 0 + 0 ≤ _)⟩)
  dsimp only [Pt.U, Pt.locs, Pt.cells, Pt.slots] at X23 l23 y23 z23 st23 hQ23
  subst l23 y23 z23
  obtain ⟨rfl, rfl, e23⟩ := hQ23
  try rw [List.append_nil] at X23
  refine Gl.up (B := T23.setTop (mkF m 195 #[.val (.int sel), .val (.long raw), .second, .val (.int mode), .val (.int u1), .val (.ref v2_l5), .val (.int v2_l6), .val (.long v14_s0), .second, .unset, .unset] [(.int (f1 v14_s0 (4 : Int64))), (.int (((((((f1 v14_s0 (-6 : Int64)) + (f1 v14_s0 (-4 : Int64))) + (f1 v14_s0 (-2 : Int64))) + (f1 v14_s0 (-1 : Int64))) + (f1 v14_s0 (0 : Int64))) + (f1 v14_s0 (1 : Int64))) + (f1 v14_s0 (2 : Int64))))])) (fun t kt => st23 _ kt) ?_
  refine Gl.up (B := T23.setTop (mkF m 201 #[.val (.int sel), .val (.long raw), .second, .val (.int mode), .val (.int u1), .val (.ref v2_l5), .val (.int v2_l6), .val (.long v14_s0), .second, .unset, .unset] [(.long (6 : Int64)), (.long v14_s0), (.int ((((((((f1 v14_s0 (-6 : Int64)) + (f1 v14_s0 (-4 : Int64))) + (f1 v14_s0 (-2 : Int64))) + (f1 v14_s0 (-1 : Int64))) + (f1 v14_s0 (0 : Int64))) + (f1 v14_s0 (1 : Int64))) + (f1 v14_s0 (2 : Int64))) + (f1 v14_s0 (4 : Int64))))])) (fun t kt => ?_) ?_
  · show Steps p.tables e below (T23.setTop (mkF m 195 #[.val (.int sel), .val (.long raw), .second, .val (.int mode), .val (.int u1), .val (.ref v2_l5), .val (.int v2_l6), .val (.long v14_s0), .second, .unset, .unset] [(.int (f1 v14_s0 (4 : Int64))), (.int (((((((f1 v14_s0 (-6 : Int64)) + (f1 v14_s0 (-4 : Int64))) + (f1 v14_s0 (-2 : Int64))) + (f1 v14_s0 (-1 : Int64))) + (f1 v14_s0 (0 : Int64))) + (f1 v14_s0 (1 : Int64))) + (f1 v14_s0 (2 : Int64))))])) _
    refine XS.iadd X23.here hx rfl (hb hby at_195) rfl ?_
    show Steps p.tables e below (T23.setTop (mkF m 196 #[.val (.int sel), .val (.long raw), .second, .val (.int mode), .val (.int u1), .val (.ref v2_l5), .val (.int v2_l6), .val (.long v14_s0), .second, .unset, .unset] [(.int ((((((((f1 v14_s0 (-6 : Int64)) + (f1 v14_s0 (-4 : Int64))) + (f1 v14_s0 (-2 : Int64))) + (f1 v14_s0 (-1 : Int64))) + (f1 v14_s0 (0 : Int64))) + (f1 v14_s0 (1 : Int64))) + (f1 v14_s0 (2 : Int64))) + (f1 v14_s0 (4 : Int64))))])) _
    refine XS.lload X23.here hx rfl (hb hby at_196) rfl ?_
    show Steps p.tables e below (T23.setTop (mkF m 198 #[.val (.int sel), .val (.long raw), .second, .val (.int mode), .val (.int u1), .val (.ref v2_l5), .val (.int v2_l6), .val (.long v14_s0), .second, .unset, .unset] [(.long v14_s0), (.int ((((((((f1 v14_s0 (-6 : Int64)) + (f1 v14_s0 (-4 : Int64))) + (f1 v14_s0 (-2 : Int64))) + (f1 v14_s0 (-1 : Int64))) + (f1 v14_s0 (0 : Int64))) + (f1 v14_s0 (1 : Int64))) + (f1 v14_s0 (2 : Int64))) + (f1 v14_s0 (4 : Int64))))])) _
    refine X23.ldc2Long hx hown (mvT hZ (hw _ (List.mem_of_getElem? (i := 14) rfl))) (g := (mkF m 198 #[.val (.int sel), .val (.long raw), .second, .val (.int mode), .val (.int u1), .val (.ref v2_l5), .val (.int v2_l6), .val (.long v14_s0), .second, .unset, .unset] [(.long v14_s0), (.int ((((((((f1 v14_s0 (-6 : Int64)) + (f1 v14_s0 (-4 : Int64))) + (f1 v14_s0 (-2 : Int64))) + (f1 v14_s0 (-1 : Int64))) + (f1 v14_s0 (0 : Int64))) + (f1 v14_s0 (1 : Int64))) + (f1 v14_s0 (2 : Int64))) + (f1 v14_s0 (4 : Int64))))])) rfl (hb hby at_198) _ ?_
    exact kt
  obtain ⟨_, _, ⟨T24, L24, k24, n24⟩, -, X24, ⟨Lc24, hQ24, l24, y24, z24⟩, st24⟩ := Jvm.LawKit.callS X23 hx (y := (⟨"com/example/khamsin/khamsin/daily/CombatLineColumnPinLaw", "ge", "(JJ)I"⟩ : MethodName)) hown (mvT hZ (hw _ (List.mem_of_getElem? (i := 5) rfl))) (mvT hZ (hw _ (List.mem_of_getElem? (i := 6) rfl))) (mvT hZ (hw _ (List.mem_of_getElem? (i := 7) rfl))) (mvT hZ (hw _ (List.mem_of_getElem? (i := 8) rfl))) (by decide) (backOf (W := 1) (rm1 l Z aa hw [] v14_s0 (6 : Int64) h0 n0 O0) hZ (hw _ (List.mem_of_getElem? (i := 8) rfl)) (hw _ (List.mem_of_getElem? (i := 7) rfl)) (by decide) (by decide)) (g := (mkF m 201 #[.val (.int sel), .val (.long raw), .second, .val (.int mode), .val (.int u1), .val (.ref v2_l5), .val (.int v2_l6), .val (.long v14_s0), .second, .unset, .unset] [(.long (6 : Int64)), (.long v14_s0), (.int ((((((((f1 v14_s0 (-6 : Int64)) + (f1 v14_s0 (-4 : Int64))) + (f1 v14_s0 (-2 : Int64))) + (f1 v14_s0 (-1 : Int64))) + (f1 v14_s0 (0 : Int64))) + (f1 v14_s0 (1 : Int64))) + (f1 v14_s0 (2 : Int64))) + (f1 v14_s0 (4 : Int64))))])) rfl (by rw [hml]; rfl) (argsL := [(.long v14_s0), (.long (6 : Int64))]) (rest := [(.int ((((((((f1 v14_s0 (-6 : Int64)) + (f1 v14_s0 (-4 : Int64))) + (f1 v14_s0 (-2 : Int64))) + (f1 v14_s0 (-1 : Int64))) + (f1 v14_s0 (0 : Int64))) + (f1 v14_s0 (1 : Int64))) + (f1 v14_s0 (2 : Int64))) + (f1 v14_s0 (4 : Int64))))]) (lenOf pd_oJJcI rfl) rfl (by show 2 * 0 + _ ≤ _; exact Nat.le_of_eq rfl) (hb hby at_201) (fun _ _ => ⟨rfl, e23, (by decide : 0 + 0 ≤ _), (by decide : 0 + 0 ≤ _)⟩)
  dsimp only [Pt.U, Pt.locs, Pt.cells, Pt.slots] at X24 l24 y24 z24 st24 hQ24
  subst l24 y24 z24
  obtain ⟨rfl, rfl, e24⟩ := hQ24
  try rw [List.append_nil] at X24
  refine Gl.up (B := T24.setTop (mkF m 204 #[.val (.int sel), .val (.long raw), .second, .val (.int mode), .val (.int u1), .val (.ref v2_l5), .val (.int v2_l6), .val (.long v14_s0), .second, .unset, .unset] [(.int (f1 v14_s0 (6 : Int64))), (.int ((((((((f1 v14_s0 (-6 : Int64)) + (f1 v14_s0 (-4 : Int64))) + (f1 v14_s0 (-2 : Int64))) + (f1 v14_s0 (-1 : Int64))) + (f1 v14_s0 (0 : Int64))) + (f1 v14_s0 (1 : Int64))) + (f1 v14_s0 (2 : Int64))) + (f1 v14_s0 (4 : Int64))))])) (fun t kt => st24 _ kt) ?_
  refine Gl.up (B := T24.setTop (mkF m 210 #[.val (.int sel), .val (.long raw), .second, .val (.int mode), .val (.int u1), .val (.ref v2_l5), .val (.int v2_l6), .val (.long v14_s0), .second, .unset, .unset] [(.long (9 : Int64)), (.long v14_s0), (.int (((((((((f1 v14_s0 (-6 : Int64)) + (f1 v14_s0 (-4 : Int64))) + (f1 v14_s0 (-2 : Int64))) + (f1 v14_s0 (-1 : Int64))) + (f1 v14_s0 (0 : Int64))) + (f1 v14_s0 (1 : Int64))) + (f1 v14_s0 (2 : Int64))) + (f1 v14_s0 (4 : Int64))) + (f1 v14_s0 (6 : Int64))))])) (fun t kt => ?_) ?_
  · show Steps p.tables e below (T24.setTop (mkF m 204 #[.val (.int sel), .val (.long raw), .second, .val (.int mode), .val (.int u1), .val (.ref v2_l5), .val (.int v2_l6), .val (.long v14_s0), .second, .unset, .unset] [(.int (f1 v14_s0 (6 : Int64))), (.int ((((((((f1 v14_s0 (-6 : Int64)) + (f1 v14_s0 (-4 : Int64))) + (f1 v14_s0 (-2 : Int64))) + (f1 v14_s0 (-1 : Int64))) + (f1 v14_s0 (0 : Int64))) + (f1 v14_s0 (1 : Int64))) + (f1 v14_s0 (2 : Int64))) + (f1 v14_s0 (4 : Int64))))])) _
    refine XS.iadd X24.here hx rfl (hb hby at_204) rfl ?_
    show Steps p.tables e below (T24.setTop (mkF m 205 #[.val (.int sel), .val (.long raw), .second, .val (.int mode), .val (.int u1), .val (.ref v2_l5), .val (.int v2_l6), .val (.long v14_s0), .second, .unset, .unset] [(.int (((((((((f1 v14_s0 (-6 : Int64)) + (f1 v14_s0 (-4 : Int64))) + (f1 v14_s0 (-2 : Int64))) + (f1 v14_s0 (-1 : Int64))) + (f1 v14_s0 (0 : Int64))) + (f1 v14_s0 (1 : Int64))) + (f1 v14_s0 (2 : Int64))) + (f1 v14_s0 (4 : Int64))) + (f1 v14_s0 (6 : Int64))))])) _
    refine XS.lload X24.here hx rfl (hb hby at_205) rfl ?_
    show Steps p.tables e below (T24.setTop (mkF m 207 #[.val (.int sel), .val (.long raw), .second, .val (.int mode), .val (.int u1), .val (.ref v2_l5), .val (.int v2_l6), .val (.long v14_s0), .second, .unset, .unset] [(.long v14_s0), (.int (((((((((f1 v14_s0 (-6 : Int64)) + (f1 v14_s0 (-4 : Int64))) + (f1 v14_s0 (-2 : Int64))) + (f1 v14_s0 (-1 : Int64))) + (f1 v14_s0 (0 : Int64))) + (f1 v14_s0 (1 : Int64))) + (f1 v14_s0 (2 : Int64))) + (f1 v14_s0 (4 : Int64))) + (f1 v14_s0 (6 : Int64))))])) _
    refine X24.ldc2Long hx hown (mvT hZ (hw _ (List.mem_of_getElem? (i := 15) rfl))) (g := (mkF m 207 #[.val (.int sel), .val (.long raw), .second, .val (.int mode), .val (.int u1), .val (.ref v2_l5), .val (.int v2_l6), .val (.long v14_s0), .second, .unset, .unset] [(.long v14_s0), (.int (((((((((f1 v14_s0 (-6 : Int64)) + (f1 v14_s0 (-4 : Int64))) + (f1 v14_s0 (-2 : Int64))) + (f1 v14_s0 (-1 : Int64))) + (f1 v14_s0 (0 : Int64))) + (f1 v14_s0 (1 : Int64))) + (f1 v14_s0 (2 : Int64))) + (f1 v14_s0 (4 : Int64))) + (f1 v14_s0 (6 : Int64))))])) rfl (hb hby at_207) _ ?_
    exact kt
  obtain ⟨_, _, ⟨T25, L25, k25, n25⟩, -, X25, ⟨Lc25, hQ25, l25, y25, z25⟩, st25⟩ := Jvm.LawKit.callS X24 hx (y := (⟨"com/example/khamsin/khamsin/daily/CombatLineColumnPinLaw", "ge", "(JJ)I"⟩ : MethodName)) hown (mvT hZ (hw _ (List.mem_of_getElem? (i := 5) rfl))) (mvT hZ (hw _ (List.mem_of_getElem? (i := 6) rfl))) (mvT hZ (hw _ (List.mem_of_getElem? (i := 7) rfl))) (mvT hZ (hw _ (List.mem_of_getElem? (i := 8) rfl))) (by decide) (backOf (W := 1) (rm1 l Z aa hw [] v14_s0 (9 : Int64) h0 n0 O0) hZ (hw _ (List.mem_of_getElem? (i := 8) rfl)) (hw _ (List.mem_of_getElem? (i := 7) rfl)) (by decide) (by decide)) (g := (mkF m 210 #[.val (.int sel), .val (.long raw), .second, .val (.int mode), .val (.int u1), .val (.ref v2_l5), .val (.int v2_l6), .val (.long v14_s0), .second, .unset, .unset] [(.long (9 : Int64)), (.long v14_s0), (.int (((((((((f1 v14_s0 (-6 : Int64)) + (f1 v14_s0 (-4 : Int64))) + (f1 v14_s0 (-2 : Int64))) + (f1 v14_s0 (-1 : Int64))) + (f1 v14_s0 (0 : Int64))) + (f1 v14_s0 (1 : Int64))) + (f1 v14_s0 (2 : Int64))) + (f1 v14_s0 (4 : Int64))) + (f1 v14_s0 (6 : Int64))))])) rfl (by rw [hml]; rfl) (argsL := [(.long v14_s0), (.long (9 : Int64))]) (rest := [(.int (((((((((f1 v14_s0 (-6 : Int64)) + (f1 v14_s0 (-4 : Int64))) + (f1 v14_s0 (-2 : Int64))) + (f1 v14_s0 (-1 : Int64))) + (f1 v14_s0 (0 : Int64))) + (f1 v14_s0 (1 : Int64))) + (f1 v14_s0 (2 : Int64))) + (f1 v14_s0 (4 : Int64))) + (f1 v14_s0 (6 : Int64))))]) (lenOf pd_oJJcI rfl) rfl (by show 2 * 0 + _ ≤ _; exact Nat.le_of_eq rfl) (hb hby at_210) (fun _ _ => ⟨rfl, e24, (by decide : 0 + 0 ≤ _), (by decide : 0 + 0 ≤ _)⟩)
  dsimp only [Pt.U, Pt.locs, Pt.cells, Pt.slots] at X25 l25 y25 z25 st25 hQ25
  subst l25 y25 z25
  obtain ⟨rfl, rfl, e25⟩ := hQ25
  try rw [List.append_nil] at X25
  refine Gl.up (B := T25.setTop (mkF m 213 #[.val (.int sel), .val (.long raw), .second, .val (.int mode), .val (.int u1), .val (.ref v2_l5), .val (.int v2_l6), .val (.long v14_s0), .second, .unset, .unset] [(.int (f1 v14_s0 (9 : Int64))), (.int (((((((((f1 v14_s0 (-6 : Int64)) + (f1 v14_s0 (-4 : Int64))) + (f1 v14_s0 (-2 : Int64))) + (f1 v14_s0 (-1 : Int64))) + (f1 v14_s0 (0 : Int64))) + (f1 v14_s0 (1 : Int64))) + (f1 v14_s0 (2 : Int64))) + (f1 v14_s0 (4 : Int64))) + (f1 v14_s0 (6 : Int64))))])) (fun t kt => st25 _ kt) ?_
  refine Gl.up (B := T25.setTop (mkF m 219 #[.val (.int sel), .val (.long raw), .second, .val (.int mode), .val (.int u1), .val (.ref v2_l5), .val (.int v2_l6), .val (.long v14_s0), .second, .unset, .unset] [(.long (12 : Int64)), (.long v14_s0), (.int ((((((((((f1 v14_s0 (-6 : Int64)) + (f1 v14_s0 (-4 : Int64))) + (f1 v14_s0 (-2 : Int64))) + (f1 v14_s0 (-1 : Int64))) + (f1 v14_s0 (0 : Int64))) + (f1 v14_s0 (1 : Int64))) + (f1 v14_s0 (2 : Int64))) + (f1 v14_s0 (4 : Int64))) + (f1 v14_s0 (6 : Int64))) + (f1 v14_s0 (9 : Int64))))])) (fun t kt => ?_) ?_
  · show Steps p.tables e below (T25.setTop (mkF m 213 #[.val (.int sel), .val (.long raw), .second, .val (.int mode), .val (.int u1), .val (.ref v2_l5), .val (.int v2_l6), .val (.long v14_s0), .second, .unset, .unset] [(.int (f1 v14_s0 (9 : Int64))), (.int (((((((((f1 v14_s0 (-6 : Int64)) + (f1 v14_s0 (-4 : Int64))) + (f1 v14_s0 (-2 : Int64))) + (f1 v14_s0 (-1 : Int64))) + (f1 v14_s0 (0 : Int64))) + (f1 v14_s0 (1 : Int64))) + (f1 v14_s0 (2 : Int64))) + (f1 v14_s0 (4 : Int64))) + (f1 v14_s0 (6 : Int64))))])) _
    refine XS.iadd X25.here hx rfl (hb hby at_213) rfl ?_
    show Steps p.tables e below (T25.setTop (mkF m 214 #[.val (.int sel), .val (.long raw), .second, .val (.int mode), .val (.int u1), .val (.ref v2_l5), .val (.int v2_l6), .val (.long v14_s0), .second, .unset, .unset] [(.int ((((((((((f1 v14_s0 (-6 : Int64)) + (f1 v14_s0 (-4 : Int64))) + (f1 v14_s0 (-2 : Int64))) + (f1 v14_s0 (-1 : Int64))) + (f1 v14_s0 (0 : Int64))) + (f1 v14_s0 (1 : Int64))) + (f1 v14_s0 (2 : Int64))) + (f1 v14_s0 (4 : Int64))) + (f1 v14_s0 (6 : Int64))) + (f1 v14_s0 (9 : Int64))))])) _
    refine XS.lload X25.here hx rfl (hb hby at_214) rfl ?_
    show Steps p.tables e below (T25.setTop (mkF m 216 #[.val (.int sel), .val (.long raw), .second, .val (.int mode), .val (.int u1), .val (.ref v2_l5), .val (.int v2_l6), .val (.long v14_s0), .second, .unset, .unset] [(.long v14_s0), (.int ((((((((((f1 v14_s0 (-6 : Int64)) + (f1 v14_s0 (-4 : Int64))) + (f1 v14_s0 (-2 : Int64))) + (f1 v14_s0 (-1 : Int64))) + (f1 v14_s0 (0 : Int64))) + (f1 v14_s0 (1 : Int64))) + (f1 v14_s0 (2 : Int64))) + (f1 v14_s0 (4 : Int64))) + (f1 v14_s0 (6 : Int64))) + (f1 v14_s0 (9 : Int64))))])) _
    refine X25.ldc2Long hx hown (mvT hZ (hw _ (List.mem_of_getElem? (i := 16) rfl))) (g := (mkF m 216 #[.val (.int sel), .val (.long raw), .second, .val (.int mode), .val (.int u1), .val (.ref v2_l5), .val (.int v2_l6), .val (.long v14_s0), .second, .unset, .unset] [(.long v14_s0), (.int ((((((((((f1 v14_s0 (-6 : Int64)) + (f1 v14_s0 (-4 : Int64))) + (f1 v14_s0 (-2 : Int64))) + (f1 v14_s0 (-1 : Int64))) + (f1 v14_s0 (0 : Int64))) + (f1 v14_s0 (1 : Int64))) + (f1 v14_s0 (2 : Int64))) + (f1 v14_s0 (4 : Int64))) + (f1 v14_s0 (6 : Int64))) + (f1 v14_s0 (9 : Int64))))])) rfl (hb hby at_216) _ ?_
    exact kt
  obtain ⟨_, _, ⟨T26, L26, k26, n26⟩, -, X26, ⟨Lc26, hQ26, l26, y26, z26⟩, st26⟩ := Jvm.LawKit.callS X25 hx (y := (⟨"com/example/khamsin/khamsin/daily/CombatLineColumnPinLaw", "ge", "(JJ)I"⟩ : MethodName)) hown (mvT hZ (hw _ (List.mem_of_getElem? (i := 5) rfl))) (mvT hZ (hw _ (List.mem_of_getElem? (i := 6) rfl))) (mvT hZ (hw _ (List.mem_of_getElem? (i := 7) rfl))) (mvT hZ (hw _ (List.mem_of_getElem? (i := 8) rfl))) (by decide) (backOf (W := 1) (rm1 l Z aa hw [] v14_s0 (12 : Int64) h0 n0 O0) hZ (hw _ (List.mem_of_getElem? (i := 8) rfl)) (hw _ (List.mem_of_getElem? (i := 7) rfl)) (by decide) (by decide)) (g := (mkF m 219 #[.val (.int sel), .val (.long raw), .second, .val (.int mode), .val (.int u1), .val (.ref v2_l5), .val (.int v2_l6), .val (.long v14_s0), .second, .unset, .unset] [(.long (12 : Int64)), (.long v14_s0), (.int ((((((((((f1 v14_s0 (-6 : Int64)) + (f1 v14_s0 (-4 : Int64))) + (f1 v14_s0 (-2 : Int64))) + (f1 v14_s0 (-1 : Int64))) + (f1 v14_s0 (0 : Int64))) + (f1 v14_s0 (1 : Int64))) + (f1 v14_s0 (2 : Int64))) + (f1 v14_s0 (4 : Int64))) + (f1 v14_s0 (6 : Int64))) + (f1 v14_s0 (9 : Int64))))])) rfl (by rw [hml]; rfl) (argsL := [(.long v14_s0), (.long (12 : Int64))]) (rest := [(.int ((((((((((f1 v14_s0 (-6 : Int64)) + (f1 v14_s0 (-4 : Int64))) + (f1 v14_s0 (-2 : Int64))) + (f1 v14_s0 (-1 : Int64))) + (f1 v14_s0 (0 : Int64))) + (f1 v14_s0 (1 : Int64))) + (f1 v14_s0 (2 : Int64))) + (f1 v14_s0 (4 : Int64))) + (f1 v14_s0 (6 : Int64))) + (f1 v14_s0 (9 : Int64))))]) (lenOf pd_oJJcI rfl) rfl (by show 2 * 0 + _ ≤ _; exact Nat.le_of_eq rfl) (hb hby at_219) (fun _ _ => ⟨rfl, e25, (by decide : 0 + 0 ≤ _), (by decide : 0 + 0 ≤ _)⟩)
  dsimp only [Pt.U, Pt.locs, Pt.cells, Pt.slots] at X26 l26 y26 z26 st26 hQ26
  subst l26 y26 z26
  obtain ⟨rfl, rfl, e26⟩ := hQ26
  try rw [List.append_nil] at X26
  refine Gl.up (B := T26.setTop (mkF m 222 #[.val (.int sel), .val (.long raw), .second, .val (.int mode), .val (.int u1), .val (.ref v2_l5), .val (.int v2_l6), .val (.long v14_s0), .second, .unset, .unset] [(.int (f1 v14_s0 (12 : Int64))), (.int ((((((((((f1 v14_s0 (-6 : Int64)) + (f1 v14_s0 (-4 : Int64))) + (f1 v14_s0 (-2 : Int64))) + (f1 v14_s0 (-1 : Int64))) + (f1 v14_s0 (0 : Int64))) + (f1 v14_s0 (1 : Int64))) + (f1 v14_s0 (2 : Int64))) + (f1 v14_s0 (4 : Int64))) + (f1 v14_s0 (6 : Int64))) + (f1 v14_s0 (9 : Int64))))])) (fun t kt => st26 _ kt) ?_
  refine Gl.up (B := T26.setTop (mkF m 223 #[.val (.int sel), .val (.long raw), .second, .val (.int mode), .val (.int u1), .val (.ref v2_l5), .val (.int v2_l6), .val (.long v14_s0), .second, .unset, .unset] [(.int (((((((((((f1 v14_s0 (-6 : Int64)) + (f1 v14_s0 (-4 : Int64))) + (f1 v14_s0 (-2 : Int64))) + (f1 v14_s0 (-1 : Int64))) + (f1 v14_s0 (0 : Int64))) + (f1 v14_s0 (1 : Int64))) + (f1 v14_s0 (2 : Int64))) + (f1 v14_s0 (4 : Int64))) + (f1 v14_s0 (6 : Int64))) + (f1 v14_s0 (9 : Int64))) + (f1 v14_s0 (12 : Int64))))])) (fun t kt => ?_) ?_
  · show Steps p.tables e below (T26.setTop (mkF m 222 #[.val (.int sel), .val (.long raw), .second, .val (.int mode), .val (.int u1), .val (.ref v2_l5), .val (.int v2_l6), .val (.long v14_s0), .second, .unset, .unset] [(.int (f1 v14_s0 (12 : Int64))), (.int ((((((((((f1 v14_s0 (-6 : Int64)) + (f1 v14_s0 (-4 : Int64))) + (f1 v14_s0 (-2 : Int64))) + (f1 v14_s0 (-1 : Int64))) + (f1 v14_s0 (0 : Int64))) + (f1 v14_s0 (1 : Int64))) + (f1 v14_s0 (2 : Int64))) + (f1 v14_s0 (4 : Int64))) + (f1 v14_s0 (6 : Int64))) + (f1 v14_s0 (9 : Int64))))])) _
    refine XS.iadd X26.here hx rfl (hb hby at_222) rfl ?_
    exact kt
  obtain ⟨u27, hu27⟩ : ∃ q : Int32, q = (((((((((((f1 v14_s0 (-6 : Int64)) + (f1 v14_s0 (-4 : Int64))) + (f1 v14_s0 (-2 : Int64))) + (f1 v14_s0 (-1 : Int64))) + (f1 v14_s0 (0 : Int64))) + (f1 v14_s0 (1 : Int64))) + (f1 v14_s0 (2 : Int64))) + (f1 v14_s0 (4 : Int64))) + (f1 v14_s0 (6 : Int64))) + (f1 v14_s0 (9 : Int64))) + (f1 v14_s0 (12 : Int64))) := ⟨_, rfl⟩
  rw [← hu27]
  refine Gl.up (B := T26.setTop (mkF m 234 #[.val (.int sel), .val (.long raw), .second, .val (.int mode), .val (.int u1), .val (.ref v2_l5), .val (.int v2_l6), .val (.long v14_s0), .second, .val (.int u27), .unset] [(.int (u27 - ((12 : Int32) - v2_l6))), (.int (0 : Int32))])) (fun t kt => ?_) ?_
  · show Steps p.tables e below (T26.setTop (mkF m 223 #[.val (.int sel), .val (.long raw), .second, .val (.int mode), .val (.int u1), .val (.ref v2_l5), .val (.int v2_l6), .val (.long v14_s0), .second, .unset, .unset] [(.int u27)])) _
    refine XS.istore X26.here hx rfl (hb hby at_223) rfl (l' := #[.val (.int sel), .val (.long raw), .second, .val (.int mode), .val (.int u1), .val (.ref v2_l5), .val (.int v2_l6), .val (.long v14_s0), .second, .val (.int u27), .unset]) rfl ?_
    show Steps p.tables e below (T26.setTop (mkF m 225 #[.val (.int sel), .val (.long raw), .second, .val (.int mode), .val (.int u1), .val (.ref v2_l5), .val (.int v2_l6), .val (.long v14_s0), .second, .val (.int u27), .unset] [])) _
    refine XS.iconst X26.here hx rfl (hb hby at_225) ?_
    show Steps p.tables e below (T26.setTop (mkF m 226 #[.val (.int sel), .val (.long raw), .second, .val (.int mode), .val (.int u1), .val (.ref v2_l5), .val (.int v2_l6), .val (.long v14_s0), .second, .val (.int u27), .unset] [(.int (0 : Int32))])) _
    refine XS.iload X26.here hx rfl (hb hby at_226) rfl ?_
    show Steps p.tables e below (T26.setTop (mkF m 228 #[.val (.int sel), .val (.long raw), .second, .val (.int mode), .val (.int u1), .val (.ref v2_l5), .val (.int v2_l6), .val (.long v14_s0), .second, .val (.int u27), .unset] [(.int u27), (.int (0 : Int32))])) _
    refine XS.bipush X26.here hx rfl (hb hby at_228) ?_
    show Steps p.tables e below (T26.setTop (mkF m 230 #[.val (.int sel), .val (.long raw), .second, .val (.int mode), .val (.int u1), .val (.ref v2_l5), .val (.int v2_l6), .val (.long v14_s0), .second, .val (.int u27), .unset] [(.int (12 : Int32)), (.int u27), (.int (0 : Int32))])) _
    refine XS.iload X26.here hx rfl (hb hby at_230) rfl ?_
    show Steps p.tables e below (T26.setTop (mkF m 232 #[.val (.int sel), .val (.long raw), .second, .val (.int mode), .val (.int u1), .val (.ref v2_l5), .val (.int v2_l6), .val (.long v14_s0), .second, .val (.int u27), .unset] [(.int v2_l6), (.int (12 : Int32)), (.int u27), (.int (0 : Int32))])) _
    refine XS.isub X26.here hx rfl (hb hby at_232) rfl ?_
    show Steps p.tables e below (T26.setTop (mkF m 233 #[.val (.int sel), .val (.long raw), .second, .val (.int mode), .val (.int u1), .val (.ref v2_l5), .val (.int v2_l6), .val (.long v14_s0), .second, .val (.int u27), .unset] [(.int ((12 : Int32) - v2_l6)), (.int u27), (.int (0 : Int32))])) _
    refine XS.isub X26.here hx rfl (hb hby at_233) rfl ?_
    exact kt
  obtain ⟨_, _, ⟨T28, L28, k28, n28⟩, -, X28, ⟨Lc28, hQ28, l28, y28, z28⟩, st28⟩ := Jvm.LawKit.callS X26 hx (y := (⟨"java/lang/Math", "max", "(II)I"⟩ : MethodName)) hown (mvT hZ (hw _ (List.mem_of_getElem? (i := 17) rfl))) (mvT hZ (hw _ (List.mem_of_getElem? (i := 18) rfl))) (mvT hZ (hw _ (List.mem_of_getElem? (i := 19) rfl))) (mvT hZ (hw _ (List.mem_of_getElem? (i := 20) rfl))) (by decide) (backOf (W := 0) (rm2 l Z aa hw [] (0 : Int32) (u27 - ((12 : Int32) - v2_l6)) h0 n0 O0) hZ (hw _ (List.mem_of_getElem? (i := 20) rfl)) (hw _ (List.mem_of_getElem? (i := 19) rfl)) (by decide) (by decide)) (g := (mkF m 234 #[.val (.int sel), .val (.long raw), .second, .val (.int mode), .val (.int u1), .val (.ref v2_l5), .val (.int v2_l6), .val (.long v14_s0), .second, .val (.int u27), .unset] [(.int (u27 - ((12 : Int32) - v2_l6))), (.int (0 : Int32))])) rfl (by rw [hml]; rfl) (argsL := [(.int (0 : Int32)), (.int (u27 - ((12 : Int32) - v2_l6)))]) (rest := []) (lenOf pd_oIIcI rfl) rfl (by show 2 * 0 + _ ≤ _; exact Nat.le_of_eq rfl) (hb hby at_234) (fun _ _ => ⟨rfl, e26, (by decide : 0 + 0 ≤ _), (by decide : 0 + 0 ≤ _)⟩)
  dsimp only [Pt.U, Pt.locs, Pt.cells, Pt.slots] at X28 l28 y28 z28 st28 hQ28
  subst l28 y28 z28
  obtain ⟨rfl, rfl, e28⟩ := hQ28
  try rw [List.append_nil] at X28
  refine Gl.up (B := T28.setTop (mkF m 237 #[.val (.int sel), .val (.long raw), .second, .val (.int mode), .val (.int u1), .val (.ref v2_l5), .val (.int v2_l6), .val (.long v14_s0), .second, .val (.int u27), .unset] [(.int (f2 (0 : Int32) (u27 - ((12 : Int32) - v2_l6))))])) (fun t kt => st28 _ kt) ?_
  obtain ⟨u29, hu29⟩ : ∃ q : Int32, q = (f2 (0 : Int32) (u27 - ((12 : Int32) - v2_l6))) := ⟨_, rfl⟩
  rw [← hu29]
  refine Gl.up (B := T28.setTop (mkF m 243 #[.val (.int sel), .val (.long raw), .second, .val (.int mode), .val (.int u1), .val (.ref v2_l5), .val (.int v2_l6), .val (.long v14_s0), .second, .val (.int u27), .val (.int u29)] [(.long v14_s0), (.ref v2_l5)])) (fun t kt => ?_) ?_
  · show Steps p.tables e below (T28.setTop (mkF m 237 #[.val (.int sel), .val (.long raw), .second, .val (.int mode), .val (.int u1), .val (.ref v2_l5), .val (.int v2_l6), .val (.long v14_s0), .second, .val (.int u27), .unset] [(.int u29)])) _
    refine XS.istore X28.here hx rfl (hb hby at_237) rfl (l' := #[.val (.int sel), .val (.long raw), .second, .val (.int mode), .val (.int u1), .val (.ref v2_l5), .val (.int v2_l6), .val (.long v14_s0), .second, .val (.int u27), .val (.int u29)]) rfl ?_
    show Steps p.tables e below (T28.setTop (mkF m 239 #[.val (.int sel), .val (.long raw), .second, .val (.int mode), .val (.int u1), .val (.ref v2_l5), .val (.int v2_l6), .val (.long v14_s0), .second, .val (.int u27), .val (.int u29)] [])) _
    refine XS.aload X28.here hx rfl (hb hby at_239) rfl rfl ?_
    show Steps p.tables e below (T28.setTop (mkF m 241 #[.val (.int sel), .val (.long raw), .second, .val (.int mode), .val (.int u1), .val (.ref v2_l5), .val (.int v2_l6), .val (.long v14_s0), .second, .val (.int u27), .val (.int u29)] [(.ref v2_l5)])) _
    refine XS.lload X28.here hx rfl (hb hby at_241) rfl ?_
    exact kt
  obtain ⟨cq30, kq30, q30a, q30b, q30c⟩ := isOf hZ e28 hE
  obtain ⟨_, _, ⟨T30, L30, k30, n30⟩, -, X30, ⟨Lc30, hQ30, l30, y30, z30⟩, st30⟩ := X28.virtualBack hx (y := (⟨"com/example/khamsin/khamsin/daily/CombatLine", "column", "(J)I"⟩ : MethodName)) (z := (⟨"com/example/khamsin/khamsin/daily/CombatLine", "column", "(J)I"⟩ : MethodName)) hown (mvT hZ (hw _ (List.mem_of_getElem? (i := 21) rfl))) (mvT hZ (hw _ (List.mem_of_getElem? (i := 22) rfl))) (notFace_of_selects (args := #[]) (mvT hZ (hw _ (List.mem_of_getElem? (i := 24) rfl)))) (mvT hZ (hw _ (List.mem_of_getElem? (i := 24) rfl))) (mvT hZ (hw _ (List.mem_of_getElem? (i := 23) rfl))) (by decide) (backOf (W := 0) (rm3 l Z aa hw [] v2_l5 v14_s0 ar cl vs h0 n0 O0 hE hF hA hS hat (own_tablen ht).1 (own_tablen ht).2 hS') hZ (hw _ (List.mem_of_getElem? (i := 25) rfl)) (hw _ (List.mem_of_getElem? (i := 2) rfl)) (by decide) (by decide)) q30a q30c (g := (mkF m 243 #[.val (.int sel), .val (.long raw), .second, .val (.int mode), .val (.int u1), .val (.ref v2_l5), .val (.int v2_l6), .val (.long v14_s0), .second, .val (.int u27), .val (.int u29)] [(.long v14_s0), (.ref v2_l5)])) rfl (by rw [hml]; rfl) (Steps.refl _) (argsL := [(.long v14_s0)]) (rest := []) (lenOf pd_oJcI rfl) rfl (by show 2 * 0 + _ ≤ _; exact Nat.le_of_eq rfl) (hb hby at_243) (fun _ _ => ⟨rfl, e28, (by decide : 0 + 0 ≤ _), (by decide : 0 + 0 ≤ _)⟩)
  dsimp only [Pt.U, Pt.locs, Pt.cells, Pt.slots] at X30 l30 y30 z30 st30 hQ30
  subst l30 y30 z30
  obtain ⟨rfl, rfl, e30⟩ := hQ30
  try rw [List.append_nil] at X30
  refine Gl.up (B := T30.setTop (mkF m 246 #[.val (.int sel), .val (.long raw), .second, .val (.int mode), .val (.int u1), .val (.ref v2_l5), .val (.int v2_l6), .val (.long v14_s0), .second, .val (.int u27), .val (.int u29)] [(.int (Int32.ofNat (own_cnt vs v14_s0 (vs.length - 1) 0)))])) (fun t kt => st30.trans kt) ?_
  refine Gl.up (B := T30.setTop (mkF m 256 #[.val (.int sel), .val (.long raw), .second, .val (.int mode), .val (.int u1), .val (.ref v2_l5), .val (.int v2_l6), .val (.long v14_s0), .second, .val (.int u27), .val (.int u29)] [(.int (1 : Int32))])) (fun t kt => ?_) ?_
  · show Steps p.tables e below (T30.setTop (mkF m 246 #[.val (.int sel), .val (.long raw), .second, .val (.int mode), .val (.int u1), .val (.ref v2_l5), .val (.int v2_l6), .val (.long v14_s0), .second, .val (.int u27), .val (.int u29)] [(.int (Int32.ofNat (own_cnt vs v14_s0 (vs.length - 1) 0)))])) _
    refine XS.iload X30.here hx rfl (hb hby at_246) rfl ?_
    show Steps p.tables e below (T30.setTop (mkF m 248 #[.val (.int sel), .val (.long raw), .second, .val (.int mode), .val (.int u1), .val (.ref v2_l5), .val (.int v2_l6), .val (.long v14_s0), .second, .val (.int u27), .val (.int u29)] [(.int u29), (.int (Int32.ofNat (own_cnt vs v14_s0 (vs.length - 1) 0)))])) _
    refine XS.icmpNo X30.here hx rfl (hb hby at_248) rfl (teq (by rw [hu29, hu27]; exact own_main ht _)).2 ?_
    show Steps p.tables e below (T30.setTop (mkF m 251 #[.val (.int sel), .val (.long raw), .second, .val (.int mode), .val (.int u1), .val (.ref v2_l5), .val (.int v2_l6), .val (.long v14_s0), .second, .val (.int u27), .val (.int u29)] [])) _
    refine XS.iconst X30.here hx rfl (hb hby at_251) ?_
    show Steps p.tables e below (T30.setTop (mkF m 252 #[.val (.int sel), .val (.long raw), .second, .val (.int mode), .val (.int u1), .val (.ref v2_l5), .val (.int v2_l6), .val (.long v14_s0), .second, .val (.int u27), .val (.int u29)] [(.int (1 : Int32))])) _
    refine XS.goto X30.here hx rfl (pc0 := 252) (pc' := 256) rfl (hb hby at_252) (by decide) (by decide) ?_
    exact kt
  refine Gl.retN X30 hx hlk (t := .boolean) Bd.returns (by simp) (hb hby at_256) (w := (1 : Int32)) rfl ?_ (by decide) (by decide)
  exact ⟨rfl, N0⟩
set_option maxRecDepth 65536 in
set_option maxHeartbeats 40000000 in
theorem comes_1 {Post : Tables → Env → Array Value → State → Outcome → State → Prop} (hpost : ∀ tb e args s v u, (limb_1_1.after args s (.returned v) u = true ∧ limb_1_2.after args s (.returned v) u = true) → FrameEnd s (.returned v) u (Jvm.fieldLocs frame_1_writes args s ++ Jvm.arrayLocs frame_1_arrays args s ++ Jvm.staticLocs frame_1_statics s) 0 0 → Post tb e args s (.returned v) u) :
    ArmFor flags0 classFile x code maxLocals ret World_1 tables_1 room_1 Calls_1 rest_1 Pre_1 Post := by
  intro l hfl _ _ p e ha hc hk s m args below hf hA hF happ hP
  obtain ⟨hcalls, hrest, hpre⟩ := hP
  obtain ⟨-, -, -, hnamed, -, -, -, hat⟩ := (Spec.applies_iff hf).mp happ
  obtain ⟨hg, hn⟩ := and_e (Cond.before_iff.mp (show (Jvm.Cond.and given_1 narrow_1).before args s = true from hpre))
  obtain ⟨hcnt, hg0⟩ := and_e hg
  obtain ⟨ha0, hg1⟩ := and_e hg0
  obtain ⟨ha1, hg2⟩ := and_e hg1
  obtain ⟨w0, w1, w2, rfl⟩ : ∃ w0 w1 w2 : Value, args = #[w0, w1, w2] := by
    have hs : args.size = 3 := by simpa [Cond.value, given_1] using hcnt
    obtain ⟨L⟩ := args
    match L, hs with
    | [w0, w1, w2], _ => exact ⟨w0, w1, w2, rfl⟩
  have hw := fun d (hd : d ∈ tables_1) => atoms_spec (ws := Jvm.Cond.code x code maxLocals ret :: tables_1) hat d (List.mem_cons_of_mem _ hd)
  obtain ⟨i0, ei0⟩ := is_v ha0
  obtain rfl : w0 = (.int i0) := Option.some.inj ei0
  obtain ⟨i1, ei1⟩ := isL_v ha1
  obtain rfl : w1 = (.long i1) := Option.some.inj ei1
  obtain ⟨i2, ei2⟩ := is_v hg2
  obtain rfl : w2 = (.int i2) := Option.some.inj ei2
  obtain ⟨hn0, hm0⟩ := and_e hn
  obtain ⟨hn1, hm1⟩ := and_e hm0
  obtain ⟨hn2, hm2⟩ := and_e hm1
  obtain ⟨hn3, hm3⟩ := and_e hm2
  obtain ⟨hn4, hm4⟩ := and_e hm3
  obtain ⟨hn5, hm5⟩ := and_e hm4
  obtain ⟨hn6, hm6⟩ := and_e hm5
  obtain ⟨hn7, hm7⟩ := and_e hm6
  obtain ⟨hn8, hm8⟩ := and_e hm7
  obtain ⟨hn9, hm9⟩ := and_e hm8
  obtain ⟨hn10, hm10⟩ := and_e hm9
  obtain ⟨hn11, hm11⟩ := and_e hm10
  obtain ⟨hn12, hm12⟩ := and_e hm11
  obtain ⟨hn13, hm13⟩ := and_e hm12
  obtain ⟨hn14, hm14⟩ := and_e hm13
  obtain ⟨hn15, hm15⟩ := and_e hm14
  obtain ⟨hn16, hm16⟩ := and_e hm15
  obtain ⟨hn17, hm17⟩ := and_e hm16
  obtain ⟨hn18, hm18⟩ := and_e hm17
  obtain ⟨hn19, hm19⟩ := and_e hm18
  obtain ⟨hn20, hm20⟩ := and_e hm19
  obtain ⟨hn21, hm21⟩ := and_e hm20
  obtain ⟨hn22, hm22⟩ := and_e hm21
  obtain ⟨hn23, hm23⟩ := and_e hm22
  obtain ⟨hn24, hm24⟩ := and_e hm23
  obtain ⟨hn25, hm25⟩ := and_e hm24
  obtain ⟨hn26, hm26⟩ := and_e hm25
  obtain ⟨hn27, hm27⟩ := and_e hm26
  obtain ⟨hn28, hm28⟩ := and_e hm27
  obtain ⟨hn29, hm29⟩ := and_e hm28
  obtain ⟨hn30, hm30⟩ := and_e hm29
  obtain ⟨hn31, hm31⟩ := and_e hm30
  obtain ⟨hn32, hm32⟩ := and_e hm31
  obtain ⟨hn33, hm33⟩ := and_e hm32
  obtain ⟨hn34, hm34⟩ := and_e hm33
  obtain ⟨hn35, hm35⟩ := and_e hm34
  obtain ⟨hn36, hm36⟩ := and_e hm35
  obtain ⟨hn37, hm37⟩ := and_e hm36
  obtain ⟨hn38, hm38⟩ := and_e hm37
  obtain ⟨hn39, hm39⟩ := and_e hm38
  obtain ⟨hn40, hm40⟩ := and_e hm39
  obtain ⟨hn41, hm41⟩ := and_e hm40
  obtain ⟨hn42, hm42⟩ := and_e hm41
  obtain ⟨hn43, hm43⟩ := and_e hm42
  obtain ⟨hn44, hm44⟩ := and_e hm43
  obtain ⟨hn45, hm45⟩ := and_e hm44
  obtain ⟨hn46, hm46⟩ := and_e hm45
  obtain ⟨hn47, hm47⟩ := and_e hm46
  obtain ⟨hn48, hm48⟩ := and_e hm47
  obtain ⟨hn49, hm49⟩ := and_e hm48
  obtain ⟨hn50, hm50⟩ := and_e hm49
  obtain ⟨hn51, hm51⟩ := and_e hm50
  have hn52 := hm51
  obtain ⟨wM, ev_wM⟩ := exa_v hn0
  have E_wM : Exa s s.heap wM "com/example/khamsin/khamsin/daily/CombatLine" := Exa.start ev_wM hn0
  have S_wM : Sta s s.heap "com/example/khamsin/khamsin/daily/CombatLine" "MINEFIELD" "Lcom/example/khamsin/khamsin/daily/CombatLine;" (.ref wM) := Sta.start ev_wM (Or.inr ⟨(hw _ (List.mem_of_getElem? (i := 2) rfl)), (hw _ (List.mem_of_getElem? (i := 3) rfl))⟩)
  obtain ⟨wR, ev_wR⟩ := exa_v hn3
  have E_wR : Exa s s.heap wR "com/example/khamsin/khamsin/daily/CombatLine" := Exa.start ev_wR hn3
  have S_wR : Sta s s.heap "com/example/khamsin/khamsin/daily/CombatLine" "ROUGH" "Lcom/example/khamsin/khamsin/daily/CombatLine;" (.ref wR) := Sta.start ev_wR (Or.inr ⟨(hw _ (List.mem_of_getElem? (i := 2) rfl)), (hw _ (List.mem_of_getElem? (i := 30) rfl))⟩)
  obtain ⟨wB, ev_wB⟩ := exa_v hn6
  have E_wB : Exa s s.heap wB "com/example/khamsin/khamsin/daily/CombatLine" := Exa.start ev_wB hn6
  have S_wB : Sta s s.heap "com/example/khamsin/khamsin/daily/CombatLine" "BRIDGE" "Lcom/example/khamsin/khamsin/daily/CombatLine;" (.ref wB) := Sta.start ev_wB (Or.inr ⟨(hw _ (List.mem_of_getElem? (i := 2) rfl)), (hw _ (List.mem_of_getElem? (i := 32) rfl))⟩)
  obtain ⟨wK, ev_wK⟩ := exa_v hn9
  have E_wK : Exa s s.heap wK "com/example/khamsin/khamsin/daily/CombatLine" := Exa.start ev_wK hn9
  have S_wK : Sta s s.heap "com/example/khamsin/khamsin/daily/CombatLine" "BROKEN" "Lcom/example/khamsin/khamsin/daily/CombatLine;" (.ref wK) := Sta.start ev_wK (Or.inr ⟨(hw _ (List.mem_of_getElem? (i := 2) rfl)), (hw _ (List.mem_of_getElem? (i := 34) rfl))⟩)
  obtain ⟨wT, ev_wT⟩ := exa_v hn12
  have E_wT : Exa s s.heap wT "com/example/khamsin/khamsin/daily/CombatLine" := Exa.start ev_wT hn12
  have S_wT : Sta s s.heap "com/example/khamsin/khamsin/daily/CombatLine" "ANTITANK" "Lcom/example/khamsin/khamsin/daily/CombatLine;" (.ref wT) := Sta.start ev_wT (Or.inr ⟨(hw _ (List.mem_of_getElem? (i := 2) rfl)), (hw _ (List.mem_of_getElem? (i := 36) rfl))⟩)
  obtain ⟨wX, ev_wX⟩ := exa_v hn15
  have E_wX : Exa s s.heap wX "com/example/khamsin/khamsin/daily/CombatLine" := Exa.start ev_wX hn15
  have S_wX : Sta s s.heap "com/example/khamsin/khamsin/daily/CombatLine" "MIXED" "Lcom/example/khamsin/khamsin/daily/CombatLine;" (.ref wX) := Sta.start ev_wX (Or.inr ⟨(hw _ (List.mem_of_getElem? (i := 2) rfl)), (hw _ (List.mem_of_getElem? (i := 38) rfl))⟩)
  obtain ⟨ar_wM, eA_wM⟩ := arr_v hn1
  obtain ⟨cl_wM, A_wM⟩ := Arr.start eA_wM hn1
  have F_wM : Fld s s.heap wM "com/example/khamsin/khamsin/daily/CombatLine" "lows" "[I" (.ref ar_wM) := Fld.start ((fld_at ev_wM).symm.trans eA_wM)
  obtain ⟨ar_wR, eA_wR⟩ := arr_v hn4
  obtain ⟨cl_wR, A_wR⟩ := Arr.start eA_wR hn4
  have F_wR : Fld s s.heap wR "com/example/khamsin/khamsin/daily/CombatLine" "lows" "[I" (.ref ar_wR) := Fld.start ((fld_at ev_wR).symm.trans eA_wR)
  obtain ⟨ar_wB, eA_wB⟩ := arr_v hn7
  obtain ⟨cl_wB, A_wB⟩ := Arr.start eA_wB hn7
  have F_wB : Fld s s.heap wB "com/example/khamsin/khamsin/daily/CombatLine" "lows" "[I" (.ref ar_wB) := Fld.start ((fld_at ev_wB).symm.trans eA_wB)
  obtain ⟨ar_wK, eA_wK⟩ := arr_v hn10
  obtain ⟨cl_wK, A_wK⟩ := Arr.start eA_wK hn10
  have F_wK : Fld s s.heap wK "com/example/khamsin/khamsin/daily/CombatLine" "lows" "[I" (.ref ar_wK) := Fld.start ((fld_at ev_wK).symm.trans eA_wK)
  obtain ⟨ar_wT, eA_wT⟩ := arr_v hn13
  obtain ⟨cl_wT, A_wT⟩ := Arr.start eA_wT hn13
  have F_wT : Fld s s.heap wT "com/example/khamsin/khamsin/daily/CombatLine" "lows" "[I" (.ref ar_wT) := Fld.start ((fld_at ev_wT).symm.trans eA_wT)
  obtain ⟨ar_wX, eA_wX⟩ := arr_v hn16
  obtain ⟨cl_wX, A_wX⟩ := Arr.start eA_wX hn16
  have F_wX : Fld s s.heap wX "com/example/khamsin/khamsin/daily/CombatLine" "lows" "[I" (.ref ar_wX) := Fld.start ((fld_at ev_wX).symm.trans eA_wX)
  have l_wM : cl_wM.slots.size = 8 := own_len eA_wM A_wM hn2 rfl
  have l_wR : cl_wR.slots.size = 9 := own_len eA_wR A_wR hn5 rfl
  have l_wB : cl_wB.slots.size = 11 := own_len eA_wB A_wB hn8 rfl
  have l_wK : cl_wK.slots.size = 10 := own_len eA_wK A_wK hn11 rfl
  have l_wT : cl_wT.slots.size = 10 := own_len eA_wT A_wT hn14 rfl
  have l_wX : cl_wX.slots.size = 12 := own_len eA_wX A_wX hn17 rfl
  have al_wM := Cond.all_elim eA_wM (own_arrat A_wM) hn18
  have x_wM_4 : cl_wM.slots[4]? = some (.int (4 : Int32)) := own_el eA_wM A_wM hn19 (by decide) (by decide)
  have x_wM_5 : cl_wM.slots[5]? = some (.int (6 : Int32)) := own_el eA_wM A_wM hn20 (by decide) (by decide)
  have x_wM_6 : cl_wM.slots[6]? = some (.int (9 : Int32)) := own_el eA_wM A_wM hn21 (by decide) (by decide)
  have x_wM_7 : cl_wM.slots[7]? = some (.int (12 : Int32)) := own_el eA_wM A_wM hn22 (by decide) (by decide)
  have al_wR := Cond.all_elim eA_wR (own_arrat A_wR) hn23
  have x_wR_5 : cl_wR.slots[5]? = some (.int (4 : Int32)) := own_el eA_wR A_wR hn24 (by decide) (by decide)
  have x_wR_6 : cl_wR.slots[6]? = some (.int (6 : Int32)) := own_el eA_wR A_wR hn25 (by decide) (by decide)
  have x_wR_7 : cl_wR.slots[7]? = some (.int (9 : Int32)) := own_el eA_wR A_wR hn26 (by decide) (by decide)
  have x_wR_8 : cl_wR.slots[8]? = some (.int (12 : Int32)) := own_el eA_wR A_wR hn27 (by decide) (by decide)
  have x_wB_0 : cl_wB.slots[0]? = some (.int (-5 : Int32)) := own_el eA_wB A_wB hn28 (by decide) (by decide)
  have x_wB_1 : cl_wB.slots[1]? = some (.int (-4 : Int32)) := own_el eA_wB A_wB hn29 (by decide) (by decide)
  have al_wB := Cond.all_elim eA_wB (own_arrat A_wB) hn30
  have x_wB_7 : cl_wB.slots[7]? = some (.int (4 : Int32)) := own_el eA_wB A_wB hn31 (by decide) (by decide)
  have x_wB_8 : cl_wB.slots[8]? = some (.int (6 : Int32)) := own_el eA_wB A_wB hn32 (by decide) (by decide)
  have x_wB_9 : cl_wB.slots[9]? = some (.int (9 : Int32)) := own_el eA_wB A_wB hn33 (by decide) (by decide)
  have x_wB_10 : cl_wB.slots[10]? = some (.int (12 : Int32)) := own_el eA_wB A_wB hn34 (by decide) (by decide)
  have al_wK := Cond.all_elim eA_wK (own_arrat A_wK) hn35
  have x_wK_6 : cl_wK.slots[6]? = some (.int (4 : Int32)) := own_el eA_wK A_wK hn36 (by decide) (by decide)
  have x_wK_7 : cl_wK.slots[7]? = some (.int (6 : Int32)) := own_el eA_wK A_wK hn37 (by decide) (by decide)
  have x_wK_8 : cl_wK.slots[8]? = some (.int (9 : Int32)) := own_el eA_wK A_wK hn38 (by decide) (by decide)
  have x_wK_9 : cl_wK.slots[9]? = some (.int (12 : Int32)) := own_el eA_wK A_wK hn39 (by decide) (by decide)
  have al_wT := Cond.all_elim eA_wT (own_arrat A_wT) hn40
  have x_wT_6 : cl_wT.slots[6]? = some (.int (4 : Int32)) := own_el eA_wT A_wT hn41 (by decide) (by decide)
  have x_wT_7 : cl_wT.slots[7]? = some (.int (6 : Int32)) := own_el eA_wT A_wT hn42 (by decide) (by decide)
  have x_wT_8 : cl_wT.slots[8]? = some (.int (9 : Int32)) := own_el eA_wT A_wT hn43 (by decide) (by decide)
  have x_wT_9 : cl_wT.slots[9]? = some (.int (12 : Int32)) := own_el eA_wT A_wT hn44 (by decide) (by decide)
  have x_wX_0 : cl_wX.slots[0]? = some (.int (-7 : Int32)) := own_el eA_wX A_wX hn45 (by decide) (by decide)
  have x_wX_1 : cl_wX.slots[1]? = some (.int (-6 : Int32)) := own_el eA_wX A_wX hn46 (by decide) (by decide)
  have x_wX_2 : cl_wX.slots[2]? = some (.int (-4 : Int32)) := own_el eA_wX A_wX hn47 (by decide) (by decide)
  have al_wX := Cond.all_elim eA_wX (own_arrat A_wX) hn48
  have x_wX_8 : cl_wX.slots[8]? = some (.int (4 : Int32)) := own_el eA_wX A_wX hn49 (by decide) (by decide)
  have x_wX_9 : cl_wX.slots[9]? = some (.int (6 : Int32)) := own_el eA_wX A_wX hn50 (by decide) (by decide)
  have x_wX_10 : cl_wX.slots[10]? = some (.int (9 : Int32)) := own_el eA_wX A_wX hn51 (by decide) (by decide)
  have x_wX_11 : cl_wX.slots[11]? = some (.int (12 : Int32)) := own_el eA_wX A_wX hn52 (by decide) (by decide)
  have x_wM_0 : cl_wM.slots[0]? = some (.int (-1 : Int32)) := own_at eA_wM A_wM (by decide) (own_or rfl (al_wM 0 (by rw [l_wM]; decide))) rfl
  have x_wM_1 : cl_wM.slots[1]? = some (.int (0 : Int32)) := own_at eA_wM A_wM (by decide) (own_or rfl (al_wM 1 (by rw [l_wM]; decide))) rfl
  have x_wM_2 : cl_wM.slots[2]? = some (.int (1 : Int32)) := own_at eA_wM A_wM (by decide) (own_or rfl (al_wM 2 (by rw [l_wM]; decide))) rfl
  have x_wM_3 : cl_wM.slots[3]? = some (.int (2 : Int32)) := own_at eA_wM A_wM (by decide) (own_or rfl (al_wM 3 (by rw [l_wM]; decide))) rfl
  have x_wR_0 : cl_wR.slots[0]? = some (.int (-2 : Int32)) := own_at eA_wR A_wR (by decide) (own_or rfl (al_wR 0 (by rw [l_wR]; decide))) rfl
  have x_wR_1 : cl_wR.slots[1]? = some (.int (-1 : Int32)) := own_at eA_wR A_wR (by decide) (own_or rfl (al_wR 1 (by rw [l_wR]; decide))) rfl
  have x_wR_2 : cl_wR.slots[2]? = some (.int (0 : Int32)) := own_at eA_wR A_wR (by decide) (own_or rfl (al_wR 2 (by rw [l_wR]; decide))) rfl
  have x_wR_3 : cl_wR.slots[3]? = some (.int (1 : Int32)) := own_at eA_wR A_wR (by decide) (own_or rfl (al_wR 3 (by rw [l_wR]; decide))) rfl
  have x_wR_4 : cl_wR.slots[4]? = some (.int (2 : Int32)) := own_at eA_wR A_wR (by decide) (own_or rfl (al_wR 4 (by rw [l_wR]; decide))) rfl
  have x_wB_2 : cl_wB.slots[2]? = some (.int (-2 : Int32)) := own_at eA_wB A_wB (by decide) (own_or rfl (own_or rfl (al_wB 2 (by rw [l_wB]; decide)))) rfl
  have x_wB_3 : cl_wB.slots[3]? = some (.int (-1 : Int32)) := own_at eA_wB A_wB (by decide) (own_or rfl (own_or rfl (al_wB 3 (by rw [l_wB]; decide)))) rfl
  have x_wB_4 : cl_wB.slots[4]? = some (.int (0 : Int32)) := own_at eA_wB A_wB (by decide) (own_or rfl (own_or rfl (al_wB 4 (by rw [l_wB]; decide)))) rfl
  have x_wB_5 : cl_wB.slots[5]? = some (.int (1 : Int32)) := own_at eA_wB A_wB (by decide) (own_or rfl (own_or rfl (al_wB 5 (by rw [l_wB]; decide)))) rfl
  have x_wB_6 : cl_wB.slots[6]? = some (.int (2 : Int32)) := own_at eA_wB A_wB (by decide) (own_or rfl (own_or rfl (al_wB 6 (by rw [l_wB]; decide)))) rfl
  have x_wK_0 : cl_wK.slots[0]? = some (.int (-3 : Int32)) := own_at eA_wK A_wK (by decide) (own_or rfl (al_wK 0 (by rw [l_wK]; decide))) rfl
  have x_wK_1 : cl_wK.slots[1]? = some (.int (-2 : Int32)) := own_at eA_wK A_wK (by decide) (own_or rfl (al_wK 1 (by rw [l_wK]; decide))) rfl
  have x_wK_2 : cl_wK.slots[2]? = some (.int (-1 : Int32)) := own_at eA_wK A_wK (by decide) (own_or rfl (al_wK 2 (by rw [l_wK]; decide))) rfl
  have x_wK_3 : cl_wK.slots[3]? = some (.int (0 : Int32)) := own_at eA_wK A_wK (by decide) (own_or rfl (al_wK 3 (by rw [l_wK]; decide))) rfl
  have x_wK_4 : cl_wK.slots[4]? = some (.int (1 : Int32)) := own_at eA_wK A_wK (by decide) (own_or rfl (al_wK 4 (by rw [l_wK]; decide))) rfl
  have x_wK_5 : cl_wK.slots[5]? = some (.int (2 : Int32)) := own_at eA_wK A_wK (by decide) (own_or rfl (al_wK 5 (by rw [l_wK]; decide))) rfl
  have x_wT_0 : cl_wT.slots[0]? = some (.int (-3 : Int32)) := own_at eA_wT A_wT (by decide) (own_or rfl (al_wT 0 (by rw [l_wT]; decide))) rfl
  have x_wT_1 : cl_wT.slots[1]? = some (.int (-2 : Int32)) := own_at eA_wT A_wT (by decide) (own_or rfl (al_wT 1 (by rw [l_wT]; decide))) rfl
  have x_wT_2 : cl_wT.slots[2]? = some (.int (-1 : Int32)) := own_at eA_wT A_wT (by decide) (own_or rfl (al_wT 2 (by rw [l_wT]; decide))) rfl
  have x_wT_3 : cl_wT.slots[3]? = some (.int (0 : Int32)) := own_at eA_wT A_wT (by decide) (own_or rfl (al_wT 3 (by rw [l_wT]; decide))) rfl
  have x_wT_4 : cl_wT.slots[4]? = some (.int (1 : Int32)) := own_at eA_wT A_wT (by decide) (own_or rfl (al_wT 4 (by rw [l_wT]; decide))) rfl
  have x_wT_5 : cl_wT.slots[5]? = some (.int (2 : Int32)) := own_at eA_wT A_wT (by decide) (own_or rfl (al_wT 5 (by rw [l_wT]; decide))) rfl
  have x_wX_3 : cl_wX.slots[3]? = some (.int (-2 : Int32)) := own_at eA_wX A_wX (by decide) (own_or rfl (own_or rfl (al_wX 3 (by rw [l_wX]; decide)))) rfl
  have x_wX_4 : cl_wX.slots[4]? = some (.int (-1 : Int32)) := own_at eA_wX A_wX (by decide) (own_or rfl (own_or rfl (al_wX 4 (by rw [l_wX]; decide)))) rfl
  have x_wX_5 : cl_wX.slots[5]? = some (.int (0 : Int32)) := own_at eA_wX A_wX (by decide) (own_or rfl (own_or rfl (al_wX 5 (by rw [l_wX]; decide)))) rfl
  have x_wX_6 : cl_wX.slots[6]? = some (.int (1 : Int32)) := own_at eA_wX A_wX (by decide) (own_or rfl (own_or rfl (al_wX 6 (by rw [l_wX]; decide)))) rfl
  have x_wX_7 : cl_wX.slots[7]? = some (.int (2 : Int32)) := own_at eA_wX A_wX (by decide) (own_or rfl (own_or rfl (al_wX 7 (by rw [l_wX]; decide)))) rfl
  have L_wM : Line s s.heap wM ar_wM cl_wM [(-1 : Int32), (0 : Int32), (1 : Int32), (2 : Int32), (4 : Int32), (6 : Int32), (9 : Int32), (12 : Int32)] := ⟨E_wM, F_wM, A_wM, l_wM, own_hat ⟨x_wM_0, x_wM_1, x_wM_2, x_wM_3, x_wM_4, x_wM_5, x_wM_6, x_wM_7, trivial⟩⟩
  have L_wR : Line s s.heap wR ar_wR cl_wR [(-2 : Int32), (-1 : Int32), (0 : Int32), (1 : Int32), (2 : Int32), (4 : Int32), (6 : Int32), (9 : Int32), (12 : Int32)] := ⟨E_wR, F_wR, A_wR, l_wR, own_hat ⟨x_wR_0, x_wR_1, x_wR_2, x_wR_3, x_wR_4, x_wR_5, x_wR_6, x_wR_7, x_wR_8, trivial⟩⟩
  have L_wT : Line s s.heap wT ar_wT cl_wT [(-3 : Int32), (-2 : Int32), (-1 : Int32), (0 : Int32), (1 : Int32), (2 : Int32), (4 : Int32), (6 : Int32), (9 : Int32), (12 : Int32)] := ⟨E_wT, F_wT, A_wT, l_wT, own_hat ⟨x_wT_0, x_wT_1, x_wT_2, x_wT_3, x_wT_4, x_wT_5, x_wT_6, x_wT_7, x_wT_8, x_wT_9, trivial⟩⟩
  have L_wK : Line s s.heap wK ar_wK cl_wK [(-3 : Int32), (-2 : Int32), (-1 : Int32), (0 : Int32), (1 : Int32), (2 : Int32), (4 : Int32), (6 : Int32), (9 : Int32), (12 : Int32)] := ⟨E_wK, F_wK, A_wK, l_wK, own_hat ⟨x_wK_0, x_wK_1, x_wK_2, x_wK_3, x_wK_4, x_wK_5, x_wK_6, x_wK_7, x_wK_8, x_wK_9, trivial⟩⟩
  have L_wB : Line s s.heap wB ar_wB cl_wB [(-5 : Int32), (-4 : Int32), (-2 : Int32), (-1 : Int32), (0 : Int32), (1 : Int32), (2 : Int32), (4 : Int32), (6 : Int32), (9 : Int32), (12 : Int32)] := ⟨E_wB, F_wB, A_wB, l_wB, own_hat ⟨x_wB_0, x_wB_1, x_wB_2, x_wB_3, x_wB_4, x_wB_5, x_wB_6, x_wB_7, x_wB_8, x_wB_9, x_wB_10, trivial⟩⟩
  have L_wX : Line s s.heap wX ar_wX cl_wX [(-7 : Int32), (-6 : Int32), (-4 : Int32), (-2 : Int32), (-1 : Int32), (0 : Int32), (1 : Int32), (2 : Int32), (4 : Int32), (6 : Int32), (9 : Int32), (12 : Int32)] := ⟨E_wX, F_wX, A_wX, l_wX, own_hat ⟨x_wX_0, x_wX_1, x_wX_2, x_wX_3, x_wX_4, x_wX_5, x_wX_6, x_wX_7, x_wX_8, x_wX_9, x_wX_10, x_wX_11, trivial⟩⟩
  obtain ⟨n, o, h1, h2, h3, _, L, rfl, ⟨rfl, N⟩, hq⟩ := rm0 l s _ hw tables_1 i0 i1 i2 wM wR wT wK wB wX ar_wM cl_wM ar_wR cl_wR ar_wT cl_wT ar_wK cl_wK ar_wB cl_wB ar_wX cl_wX s.heap s.heap.size (Old.start s) S_wM S_wR S_wT S_wK S_wB S_wX L_wM L_wR L_wT L_wK L_wB L_wX p e ha hc hk s m _ below hf ((Spec.applies_iff_loose hf).mp happ).1 ⟨rfl, State.Warmed39.refl s, rfl⟩ trivial
  exact ⟨n, _, h1, h2, h3, hpost _ _ _ _ _ _ ⟨Cond.after_iff.mpr rfl, Cond.after_iff.mpr (eq_i res_at (Term.int_eval (1)) rfl)⟩ ⟨hq.1, hq.2.1, (hq.2.2.sift fun y hy => Or.inr (N y hy)).mono (by decide) (by decide)⟩⟩
theorem main_1_1 : Claimed_1_1 := comes_1 fun _ _ _ _ _ _ h hF => ⟨h.1, hF⟩
theorem main_1_2 : Claimed_1_2 := comes_1 fun _ _ _ _ _ _ h hF => ⟨h.2, hF⟩
end Jvm.Pilot.@@N@@
namespace Jvm.Pilot.@@N@@
open Jvm Jvm.ClassFile Sem Op Lib Jvm.Free Jvm.Stand Jvm.Pilot.@@N@@.Jvm.D
/-! MADE BY PROGRAM (witnessworld.py) out of the Statement's table words and the real class files: 13 classes; the members and pool entries that the words name. The judged class is class 1, her method 1. -/
namespace start1
open Jvm.ClassFile
def u (s : String) : CpInfo := .utf8 (stringToUtf16 s)
/-- a pool by its gaps: so many unusable entries, then the entry; so many at the end -/
def gap : Nat → List CpInfo → List CpInfo
  | 0, r => r
  | n + 1, r => .unusable :: gap n r
def poolList (es : List (Nat × CpInfo)) (last : Nat) : List CpInfo := es.foldr (fun e r => gap e.1 (e.2 :: r)) (gap last [])
def pool (es : List (Nat × CpInfo)) (last : Nat) : Array CpInfo := ⟨poolList es last⟩
def fileOf (pool : Array CpInfo) (this : Nat) (attrs : Array Attribute := #[]) (ms : Array MethodInfo := #[]) (fl : Nat := 33) (sup : Nat := 0) (ifs : Array Nat := #[]) (fds : Array FieldInfo := #[]) : ClassFile where
  minorVersion := 0
  majorVersion := 65
  constantPool := pool
  accessFlags := fl
  thisClass := this
  superClass := sup
  interfaces := ifs
  fields := fds
  methods := ms
  attributes := attrs
def plain (name : String) (sup : Option ClassId) : Class where
  name := name
  kind := .ordinary
  loader := none
  accessFlags := 33
  super := sup
  interfaces := #[]
  cf := none
  fields := #[]
  methods := #[]
  instanceTypes := #[]
  staticTypes := #[]
  resolved := #[]
  callSites := []
  init := .initialized
  statics := none
  mirror := none

def pool0 : Array CpInfo := pool [(5, u "<init>"), (0, u "()V"), (1, .class_ 10), (1, u "java/lang/Object")] 113

def k0m0 : Method := { name := "<init>", desc := "()V", sig := { parameters := [], returnType := none }, accessFlags := 1, code := none }
/-- java/lang/Object -/
def k0 : Class := { plain "java/lang/Object" none with
  accessFlags := 33
  interfaces := #[]
  cf := some (fileOf pool0 8 #[] #[{ accessFlags := 1, nameIndex := 5, descriptorIndex := 6, attributes := #[] }] 33 0 #[] #[])
  fields := #[]
  methods := #[k0m0]
  instanceTypes := #[]
  staticTypes := #[]
  resolved := Array.replicate 124 none
  statics := none }

def pool1 : Array CpInfo := pool [(2, .class_ 4), (1, u "java/lang/Object"), (0, u "<init>"), (0, u "()V"), (0, .integer 2147483647), (0, .fieldref 9 10), (0, .class_ 11), (0, .nameAndType 12 13), (0, u "com/example/khamsin/khamsin/daily/CombatLine"), (0, u "MINEFIELD"), (0, u "Lcom/example/khamsin/khamsin/daily/CombatLine;"), (0, .fieldref 9 15), (0, .nameAndType 16 13), (0, u "ROUGH"), (0, .fieldref 9 18), (0, .nameAndType 19 13), (0, u "ANTITANK"), (0, .fieldref 9 21), (0, .nameAndType 22 13), (0, u "BROKEN"), (0, .fieldref 9 24), (0, .nameAndType 25 13), (0, u "BRIDGE"), (0, .fieldref 9 27), (0, .nameAndType 28 13), (0, u "MIXED"), (0, .long 31), (1, .long 18446744073709551610), (1, .methodref 34 35), (0, .class_ 36), (0, .nameAndType 37 38), (0, u "com/example/khamsin/khamsin/daily/CombatLineColumnPinLaw"), (0, u "ge"), (0, u "(JJ)I"), (0, .long 18446744073709551612), (1, .long 18446744073709551614), (1, .long 18446744073709551615), (1, .long 2), (1, .long 4), (1, .long 6), (1, .long 9), (1, .long 12), (1, .methodref 56 57), (0, .class_ 58), (0, .nameAndType 59 60), (0, u "java/lang/Math"), (0, u "max"), (0, u "(II)I"), (0, .methodref 9 62), (0, .nameAndType 63 64), (0, u "column"), (0, u "(J)I"), (2, u "law"), (0, u "(IJI)Z")] 3

def k1m0 : Method := { name := "<init>", desc := "()V", sig := { parameters := [], returnType := none }, accessFlags := 1, code := none }
def k1c1 : Code := { maxStack := 5, maxLocals := 11, code := code, exceptionTable := #[], attributes := #[] }
def k1m1 : Method := { name := "law", desc := "(IJI)Z", sig := { parameters := [.int, .long, .int], returnType := some .boolean }, accessFlags := 9, code := some k1c1 }
def k1c2 : Code := { maxStack := 4, maxLocals := 4, code := method_3_code, exceptionTable := #[], attributes := #[] }
def k1m2 : Method := { name := "ge", desc := "(JJ)I", sig := { parameters := [.long, .long], returnType := some .int }, accessFlags := 10, code := some k1c2 }
/-- com/example/khamsin/khamsin/daily/CombatLineColumnPinLaw -/
def k1 : Class := { plain "com/example/khamsin/khamsin/daily/CombatLineColumnPinLaw" (some 0) with
  accessFlags := 49
  interfaces := #[]
  cf := some (fileOf pool1 34 #[] #[{ accessFlags := 1, nameIndex := 5, descriptorIndex := 6, attributes := #[] }, { accessFlags := 9, nameIndex := 67, descriptorIndex := 68, attributes := #[] }, { accessFlags := 10, nameIndex := 37, descriptorIndex := 38, attributes := #[] }] 49 2 #[] #[])
  fields := #[]
  methods := #[k1m0, k1m1, k1m2]
  instanceTypes := #[]
  staticTypes := #[]
  resolved := Array.replicate 72 none
  statics := none }

def pool2 : Array CpInfo := pool [(1, .class_ 2), (0, u "java/lang/constant/Constable"), (0, .class_ 4), (0, u "java/lang/Object")] 6

/-- java/lang/constant/Constable -/
def k2 : Class := { plain "java/lang/constant/Constable" (some 0) with
  accessFlags := 1537
  interfaces := #[]
  cf := some (fileOf pool2 1 #[] #[] 1537 3 #[] #[])
  fields := #[]
  methods := #[]
  instanceTypes := #[]
  staticTypes := #[]
  resolved := Array.replicate 11 none
  statics := none }

def pool3 : Array CpInfo := pool [(1, .class_ 2), (0, u "java/lang/Comparable"), (0, .class_ 4), (0, u "java/lang/Object")] 7

/-- java/lang/Comparable -/
def k3 : Class := { plain "java/lang/Comparable" (some 0) with
  accessFlags := 1537
  interfaces := #[]
  cf := some (fileOf pool3 1 #[] #[] 1537 3 #[] #[])
  fields := #[]
  methods := #[]
  instanceTypes := #[]
  staticTypes := #[]
  resolved := Array.replicate 12 none
  statics := none }

def pool4 : Array CpInfo := pool [(1, .class_ 2), (0, u "java/io/Serializable"), (0, .class_ 4), (0, u "java/lang/Object")] 2

/-- java/io/Serializable -/
def k4 : Class := { plain "java/io/Serializable" (some 0) with
  accessFlags := 1537
  interfaces := #[]
  cf := some (fileOf pool4 1 #[] #[] 1537 3 #[] #[])
  fields := #[]
  methods := #[]
  instanceTypes := #[]
  staticTypes := #[]
  resolved := Array.replicate 7 none
  statics := none }

def pool5 : Array CpInfo := pool [(2, .class_ 4), (1, u "java/lang/Enum"), (0, u "name"), (0, u "Ljava/lang/String;"), (2, u "ordinal"), (0, u "I"), (1, .class_ 14), (1, u "java/lang/Object"), (4, u "hash"), (86, .class_ 108), (1, u "java/lang/Enum$EnumDesc"), (2, .class_ 112), (0, u "java/lang/constant/Constable"), (0, .class_ 114), (0, u "java/lang/Comparable"), (0, .class_ 116), (0, u "java/io/Serializable")] 87

/-- java/lang/Enum -/
def k5 : Class := { plain "java/lang/Enum" (some 0) with
  accessFlags := 1057
  interfaces := #[2, 3, 4]
  cf := some (fileOf pool5 2 #[.nestMembers #[106]] #[] 1057 12 #[111, 113, 115] #[{ accessFlags := 18, nameIndex := 5, descriptorIndex := 6, attributes := #[] }, { accessFlags := 18, nameIndex := 9, descriptorIndex := 10, attributes := #[] }, { accessFlags := 2, nameIndex := 19, descriptorIndex := 10, attributes := #[] }])
  fields := #[{ name := "name", type := (.object "java/lang/String"), accessFlags := 18, slot := 0, constantValue := 0 }, { name := "ordinal", type := .int, accessFlags := 18, slot := 1, constantValue := 0 }, { name := "hash", type := .int, accessFlags := 2, slot := 2, constantValue := 0 }]
  methods := #[]
  instanceTypes := #[(.object "java/lang/String"), .int, .int]
  staticTypes := #[]
  resolved := Array.replicate 204 none
  statics := none }

def pool6 : Array CpInfo := pool [(1, .class_ 2), (0, u "com/example/khamsin/khamsin/daily/CombatLine"), (2, u "MINEFIELD"), (0, u "Lcom/example/khamsin/khamsin/daily/CombatLine;"), (2, u "ROUGH"), (2, u "ANTITANK"), (2, u "BROKEN"), (2, u "BRIDGE"), (2, u "MIXED"), (2, u "$VALUES"), (0, u "[Lcom/example/khamsin/khamsin/daily/CombatLine;"), (6, .class_ 34), (1, u "java/lang/Enum"), (8, u "word"), (0, u "Ljava/lang/String;"), (0, .fieldref 1 46), (0, .nameAndType 47 48), (0, u "lows"), (0, u "[I"), (2, u "column"), (0, u "(J)I")] 253

def k6c0 : Code := { maxStack := 4, maxLocals := 4, code := prog_10_method_9_code, exceptionTable := #[], attributes := #[] }
def k6m0 : Method := { name := "column", desc := "(J)I", sig := { parameters := [.long], returnType := some .int }, accessFlags := 0, code := some k6c0 }
/-- com/example/khamsin/khamsin/daily/CombatLine -/
def k6 : Class := { plain "com/example/khamsin/khamsin/daily/CombatLine" (some 5) with
  accessFlags := 16433
  interfaces := #[]
  cf := some (fileOf pool6 1 #[] #[{ accessFlags := 0, nameIndex := 51, descriptorIndex := 52, attributes := #[] }] 16433 32 #[] #[{ accessFlags := 16409, nameIndex := 5, descriptorIndex := 6, attributes := #[] }, { accessFlags := 16409, nameIndex := 9, descriptorIndex := 6, attributes := #[] }, { accessFlags := 16409, nameIndex := 12, descriptorIndex := 6, attributes := #[] }, { accessFlags := 16409, nameIndex := 15, descriptorIndex := 6, attributes := #[] }, { accessFlags := 16409, nameIndex := 18, descriptorIndex := 6, attributes := #[] }, { accessFlags := 16409, nameIndex := 21, descriptorIndex := 6, attributes := #[] }, { accessFlags := 18, nameIndex := 43, descriptorIndex := 44, attributes := #[] }, { accessFlags := 18, nameIndex := 47, descriptorIndex := 48, attributes := #[] }, { accessFlags := 4122, nameIndex := 24, descriptorIndex := 25, attributes := #[] }])
  fields := #[{ name := "MINEFIELD", type := (.object "com/example/khamsin/khamsin/daily/CombatLine"), accessFlags := 16409, slot := 0, constantValue := 0 }, { name := "ROUGH", type := (.object "com/example/khamsin/khamsin/daily/CombatLine"), accessFlags := 16409, slot := 1, constantValue := 0 }, { name := "ANTITANK", type := (.object "com/example/khamsin/khamsin/daily/CombatLine"), accessFlags := 16409, slot := 2, constantValue := 0 }, { name := "BROKEN", type := (.object "com/example/khamsin/khamsin/daily/CombatLine"), accessFlags := 16409, slot := 3, constantValue := 0 }, { name := "BRIDGE", type := (.object "com/example/khamsin/khamsin/daily/CombatLine"), accessFlags := 16409, slot := 4, constantValue := 0 }, { name := "MIXED", type := (.object "com/example/khamsin/khamsin/daily/CombatLine"), accessFlags := 16409, slot := 5, constantValue := 0 }, { name := "word", type := (.object "java/lang/String"), accessFlags := 18, slot := 3, constantValue := 0 }, { name := "lows", type := (.array .int), accessFlags := 18, slot := 4, constantValue := 0 }, { name := "$VALUES", type := (.array (.object "com/example/khamsin/khamsin/daily/CombatLine")), accessFlags := 4122, slot := 6, constantValue := 0 }]
  methods := #[k6m0]
  instanceTypes := #[(.object "java/lang/String"), .int, .int, (.object "java/lang/String"), (.array .int)]
  staticTypes := #[(.object "com/example/khamsin/khamsin/daily/CombatLine"), (.object "com/example/khamsin/khamsin/daily/CombatLine"), (.object "com/example/khamsin/khamsin/daily/CombatLine"), (.object "com/example/khamsin/khamsin/daily/CombatLine"), (.object "com/example/khamsin/khamsin/daily/CombatLine"), (.object "com/example/khamsin/khamsin/daily/CombatLine"), (.array (.object "com/example/khamsin/khamsin/daily/CombatLine"))]
  resolved := Array.replicate 306 none
  statics := some 0 }

def pool7 : Array CpInfo := pool [(1, .class_ 2), (0, u "java/lang/Math"), (1, .class_ 6), (1, u "java/lang/Object"), (0, u "<init>"), (0, u "()V"), (89, .class_ 100), (1, u "java/lang/Math$RandomNumberGeneratorHolder"), (71, u "negativeZeroFloatBits"), (0, u "J"), (2, u "negativeZeroDoubleBits"), (21, u "max"), (46, u "$assertionsDisabled"), (0, u "Z"), (88, u "(II)I"), (2, u "twoToTheDoubleScaleDown"), (0, u "D"), (4, u "twoToTheDoubleScaleUp"), (9, u "E"), (3, u "PI"), (2, u "TAU"), (2, u "DEGREES_TO_RADIANS"), (0, u "RADIANS_TO_DEGREES")] 94

def k7m0 : Method := { name := "<init>", desc := "()V", sig := { parameters := [], returnType := none }, accessFlags := 2, code := none }
def k7c1 : Code := { maxStack := 2, maxLocals := 2, code := jdk_29_method_65_code, exceptionTable := #[], attributes := #[] }
def k7m1 : Method := { name := "max", desc := "(II)I", sig := { parameters := [.int, .int], returnType := some .int }, accessFlags := 9, code := some k7c1 }
/-- java/lang/Math -/
def k7 : Class := { plain "java/lang/Math" (some 0) with
  accessFlags := 49
  interfaces := #[]
  cf := some (fileOf pool7 1 #[.nestMembers #[98]] #[{ accessFlags := 2, nameIndex := 7, descriptorIndex := 8, attributes := #[] }, { accessFlags := 9, nameIndex := 198, descriptorIndex := 335, attributes := #[] }] 49 4 #[] #[{ accessFlags := 25, nameIndex := 354, descriptorIndex := 339, attributes := #[] }, { accessFlags := 25, nameIndex := 358, descriptorIndex := 339, attributes := #[] }, { accessFlags := 25, nameIndex := 361, descriptorIndex := 339, attributes := #[] }, { accessFlags := 26, nameIndex := 364, descriptorIndex := 339, attributes := #[] }, { accessFlags := 26, nameIndex := 365, descriptorIndex := 339, attributes := #[] }, { accessFlags := 26, nameIndex := 172, descriptorIndex := 173, attributes := #[] }, { accessFlags := 26, nameIndex := 176, descriptorIndex := 173, attributes := #[] }, { accessFlags := 8, nameIndex := 344, descriptorIndex := 339, attributes := #[] }, { accessFlags := 8, nameIndex := 338, descriptorIndex := 339, attributes := #[] }, { accessFlags := 4120, nameIndex := 245, descriptorIndex := 246, attributes := #[] }])
  fields := #[{ name := "E", type := .double, accessFlags := 25, slot := 0, constantValue := 0 }, { name := "PI", type := .double, accessFlags := 25, slot := 1, constantValue := 0 }, { name := "TAU", type := .double, accessFlags := 25, slot := 2, constantValue := 0 }, { name := "DEGREES_TO_RADIANS", type := .double, accessFlags := 26, slot := 3, constantValue := 0 }, { name := "RADIANS_TO_DEGREES", type := .double, accessFlags := 26, slot := 4, constantValue := 0 }, { name := "negativeZeroFloatBits", type := .long, accessFlags := 26, slot := 5, constantValue := 0 }, { name := "negativeZeroDoubleBits", type := .long, accessFlags := 26, slot := 6, constantValue := 0 }, { name := "twoToTheDoubleScaleUp", type := .double, accessFlags := 8, slot := 7, constantValue := 0 }, { name := "twoToTheDoubleScaleDown", type := .double, accessFlags := 8, slot := 8, constantValue := 0 }, { name := "$assertionsDisabled", type := .boolean, accessFlags := 4120, slot := 9, constantValue := 0 }]
  methods := #[k7m0, k7m1]
  instanceTypes := #[]
  staticTypes := #[.double, .double, .double, .double, .double, .long, .long, .double, .double, .boolean]
  resolved := Array.replicate 460 none
  statics := none }

def pool8 : Array CpInfo := pool [(1, u "java/lang/Cloneable"), (0, .class_ 1), (0, u "java/lang/Object"), (0, .class_ 3)] 3

/-- java/lang/Cloneable -/
def k8 : Class := { plain "java/lang/Cloneable" (some 0) with
  accessFlags := 1537
  interfaces := #[]
  cf := some (fileOf pool8 2 #[] #[] 1537 4 #[] #[])
  fields := #[]
  methods := #[]
  instanceTypes := #[]
  staticTypes := #[]
  resolved := Array.replicate 8 none
  statics := none }

/-- the primitive byte -/
def k9 : Class := { plain "byte" none with kind := .primitive 'B', accessFlags := 0x411 }
/-- [B -/
def k10 : Class := { plain "[B" (some 0) with kind := .array 9 .byte, interfaces := #[8, 4], accessFlags := 1041 }

/-- the primitive int -/
def k11 : Class := { plain "int" none with kind := .primitive 'I', accessFlags := 0x411 }
/-- [I -/
def k12 : Class := { plain "[I" (some 0) with kind := .array 11 .int, interfaces := #[8, 4], accessFlags := 1041 }

def heap : Heap := #[{ cls := 6, slots := #[.ref 7, .ref 8, .ref 9, .ref 10, .ref 11, .ref 12, .null], vm := .statics 6 },
  { cls := 12, slots := #[.int (-1), .int (0), .int (1), .int (2), .int (4), .int (6), .int (9), .int (12)], vm := .none },
  { cls := 12, slots := #[.int (-2), .int (-1), .int (0), .int (1), .int (2), .int (4), .int (6), .int (9), .int (12)], vm := .none },
  { cls := 12, slots := #[.int (-3), .int (-2), .int (-1), .int (0), .int (1), .int (2), .int (4), .int (6), .int (9), .int (12)], vm := .none },
  { cls := 12, slots := #[.int (-3), .int (-2), .int (-1), .int (0), .int (1), .int (2), .int (4), .int (6), .int (9), .int (12)], vm := .none },
  { cls := 12, slots := #[.int (-5), .int (-4), .int (-2), .int (-1), .int (0), .int (1), .int (2), .int (4), .int (6), .int (9), .int (12)], vm := .none },
  { cls := 12, slots := #[.int (-7), .int (-6), .int (-4), .int (-2), .int (-1), .int (0), .int (1), .int (2), .int (4), .int (6), .int (9), .int (12)], vm := .none },
  { cls := 6, slots := #[.null, .int 0, .int 0, .null, .ref 1], vm := .none },
  { cls := 6, slots := #[.null, .int 1, .int 0, .null, .ref 2], vm := .none },
  { cls := 6, slots := #[.null, .int 2, .int 0, .null, .ref 3], vm := .none },
  { cls := 6, slots := #[.null, .int 3, .int 0, .null, .ref 4], vm := .none },
  { cls := 6, slots := #[.null, .int 4, .int 0, .null, .ref 5], vm := .none },
  { cls := 6, slots := #[.null, .int 5, .int 0, .null, .ref 6], vm := .none }]
def classes : Array Class := #[k0, k1, k2, k3, k4, k5, k6, k7, k8, k9, k10, k11, k12]
def interned : List (Array UInt16 × Addr) := []
def slotsUsed : Nat := 97
def theMethod : MethodId := ⟨1, 1⟩
def args0 : Array Value := #[.int 5, .long 5, .int 5]
def aboutOver (below : List Frame) : State where
  vm := { classes := classes, interned := interned.toArray }
  heap := heap
  slotsUsed := slotsUsed
  threads := #[{ frames := .invoking theMethod args0 :: below }]
def below0 : List Frame := [.native { method := ⟨0, 0⟩, args := #[] }]
def about1 : State := aboutOver below0
def p0 : Program := .bare "" "" ""
def e0 : Env := launch0.env 0 0 0
theorem w_frames : about1.frames = Frame.invoking theMethod args0 :: below0 := rfl
set_option maxRecDepth 65536 in
theorem w_args : argsFit about1.vm theMethod args0 = true := by decide +kernel
set_option maxRecDepth 65536 in
theorem w_heap : heapFits about1 = true := by decide +kernel
set_option maxRecDepth 65536 in
theorem w_runnable : about1.curStatus? = some .runnable := by decide +kernel
set_option maxRecDepth 65536 in
theorem w_alone : about1.alone = true := by decide +kernel
set_option maxRecDepth 65536 in
theorem w_named : about1.methodNamed? x = some theMethod := by decide +kernel
set_option maxRecDepth 65536 in
theorem w_hears : about1.hears theMethod below0 = true := by decide +kernel
set_option maxRecDepth 65536 in
theorem w_ripe : about1.ripe theMethod args0 below0 = true := by decide +kernel
theorem w_running : about1.status = .running := rfl
set_option maxRecDepth 65536 in
theorem w_room : about1.hasRoom e0.platform room_1 = true :=
  launch0.hasRoom_least _ room_1 (by decide +kernel) (by decide +kernel) (by decide +kernel) (by decide +kernel) (by decide +kernel) (by decide +kernel)
theorem allAtoms_all (ts : List Jvm.Cond) (a : Array Jvm.Value) (st : Jvm.State) : (allAtoms ts).before a st = ts.all (fun c => c.before a st) := by
  induction ts with
  | nil => rfl
  | cons c t ih =>
    show (Jvm.Cond.and c (allAtoms t)).before a st = _
    rw [Jvm.Cond.before_and, ih, List.all_cons]
def words1 : List Jvm.Cond := Jvm.Cond.code x code maxLocals ret :: tables_1
/-- a 'code' word, met by the world's own term for the bytes: nothing is compared byte by byte -/
theorem code_word {y : MethodName} {bytes : ByteArray} {mx : Nat} {rt : Option FieldType} {a : Array Value} {s : State} {m : MethodId} {meth : Method} {c : Code} (h1 : s.methodNamed? y = some m) (h2 : s.vm.method? m = some meth) (h3 : meth.code = some c) (h4 : c.code = bytes)
    (h5 : (c.maxLocals == mx && c.exceptionTable.isEmpty && decide (c.maxStack ≤ mostOperands) && decide (meth.sig.returnType = rt) && !meth.locks && decide (parseMethodDescriptor y.desc = some meth.sig)) = true) : (Jvm.Cond.code y bytes mx rt).before a s = true := by
  simp only [Bool.and_eq_true, beq_iff_eq, Bool.not_eq_true', decide_eq_true_eq] at h5
  obtain ⟨⟨⟨⟨⟨g1, g2⟩, g3⟩, g4⟩, g5⟩, g6⟩ := h5
  simp [Cond.before, Cond.holds, Cond.value, h1, h2, h3, h4, g1, g2, g3, g4, g5, g6]
def isCode : Jvm.Cond → Bool
  | .code _ _ _ _ => true
  | _ => false
theorem all_split {L : List Jvm.Cond} {P : Jvm.Cond → Bool} (h1 : L.all (fun c => isCode c || P c) = true) (h2 : ∀ c ∈ L.filter isCode, P c = true) : L.all P = true := by
  refine List.all_eq_true.mpr fun c hc => ?_
  have h := List.all_eq_true.mp h1 c hc
  rcases Bool.eq_false_or_eq_true (isCode c) with hi | hi
  · exact h2 c (List.mem_filter.mpr ⟨hc, hi⟩)
  · simpa [hi] using h
set_option maxRecDepth 65536 in
theorem w_c0 : (Jvm.Cond.code x code maxLocals ret).before args0 about1 = true := code_word (m := ⟨1, 1⟩) (meth := k1m1) (c := k1c1) (by decide +kernel) rfl rfl rfl (by decide +kernel)
set_option maxRecDepth 65536 in
theorem w_c1 : (Jvm.Cond.code ({ cls := "com/example/khamsin/khamsin/daily/CombatLineColumnPinLaw", name := "ge", desc := "(JJ)I" } : Jvm.MethodName) method_3_code (4 : Nat) (Option.some Jvm.ClassFile.FieldType.int)).before args0 about1 = true := code_word (m := ⟨1, 2⟩) (meth := k1m2) (c := k1c2) (by decide +kernel) rfl rfl rfl (by decide +kernel)
set_option maxRecDepth 65536 in
theorem w_c2 : (Jvm.Cond.code ({ cls := "java/lang/Math", name := "max", desc := "(II)I" } : Jvm.MethodName) jdk_29_method_65_code (2 : Nat) (Option.some Jvm.ClassFile.FieldType.int)).before args0 about1 = true := code_word (m := ⟨7, 1⟩) (meth := k7m1) (c := k7c1) (by decide +kernel) rfl rfl rfl (by decide +kernel)
set_option maxRecDepth 65536 in
theorem w_c3 : (Jvm.Cond.code ({ cls := "com/example/khamsin/khamsin/daily/CombatLine", name := "column", desc := "(J)I" } : Jvm.MethodName) prog_10_method_9_code (4 : Nat) (Option.some Jvm.ClassFile.FieldType.int)).before args0 about1 = true := code_word (m := ⟨6, 0⟩) (meth := k6m0) (c := k6c0) (by decide +kernel) rfl rfl rfl (by decide +kernel)
def codes1 : List Jvm.Cond := [Jvm.Cond.code x code maxLocals ret, Jvm.Cond.code ({ cls := "com/example/khamsin/khamsin/daily/CombatLineColumnPinLaw", name := "ge", desc := "(JJ)I" } : Jvm.MethodName) method_3_code (4 : Nat) (Option.some Jvm.ClassFile.FieldType.int), Jvm.Cond.code ({ cls := "java/lang/Math", name := "max", desc := "(II)I" } : Jvm.MethodName) jdk_29_method_65_code (2 : Nat) (Option.some Jvm.ClassFile.FieldType.int), Jvm.Cond.code ({ cls := "com/example/khamsin/khamsin/daily/CombatLine", name := "column", desc := "(J)I" } : Jvm.MethodName) prog_10_method_9_code (4 : Nat) (Option.some Jvm.ClassFile.FieldType.int)]
set_option maxRecDepth 65536 in
theorem codes_eq : words1.filter isCode = codes1 := rfl
theorem w_codes : ∀ c ∈ words1.filter isCode, c.before args0 about1 = true := by
  rw [codes_eq]
  intro c hc
  simp only [codes1, List.mem_cons, List.not_mem_nil, or_false] at hc
  rcases hc with rfl | rfl | rfl | rfl
  · exact w_c0
  · exact w_c1
  · exact w_c2
  · exact w_c3
set_option maxRecDepth 65536 in
theorem w_t1 : (words1.take 24).all (fun c => isCode c || c.before args0 about1) = true := by decide +kernel
set_option maxRecDepth 65536 in
theorem w_t2 : (words1.drop 24).all (fun c => isCode c || c.before args0 about1) = true := by decide +kernel
theorem w_tables : (allAtoms (Jvm.Cond.code x code maxLocals ret :: tables_1)).before args0 about1 = true := by
  rw [allAtoms_all]
  show words1.all (fun c => c.before args0 about1) = true
  refine all_split ?_ w_codes
  rw [← List.take_append_drop 24 words1, List.all_append, w_t1, w_t2]
  rfl
set_option maxRecDepth 65536 in
theorem w_case : (Jvm.Cond.and given_1 narrow_1).before args0 about1 = true := by decide +kernel
theorem w_applies : (headSpec (Jvm.Cond.code x code maxLocals ret :: tables_1) room_1).applies x e0.platform about1 = true :=
  (Spec.applies_iff w_frames).mpr ⟨w_running, w_runnable, w_alone, w_named, w_hears, w_ripe, w_room, w_tables⟩
theorem atStart : AtStart classFile x code maxLocals ret World_1 tables_1 room_1 Calls_1 rest_1 Pre_1 launch0 p0 e0 about1 theMethod args0 below0 :=
  ⟨lists_1, trivial, launch0.admits_env _ _ _, launch0.least_env, fairChoices_fair.cas, fairChoices_fair.clock, w_frames, w_args, w_heap, w_applies, trivial, trivial, w_case⟩
end start1
theorem witness_1 : WitnessClaimed_1 := ⟨start1.p0, start1.e0, start1.about1, start1.theMethod, start1.args0, start1.below0, start1.atStart⟩
end Jvm.Pilot.@@N@@
