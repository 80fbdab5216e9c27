import JvmDerived
import JvmDerived.Pilot.@@N@@Statement
import JvmDerived.Pilot.@@N@@Code
set_option linter.unusedVariables false
set_option linter.unusedSimpArgs false
@@BLOCK:LamKit.lean.txt@@
namespace Jvm.Stand
open Jvm Jvm.ClassFile Sem Op Jvm.Op Jvm.Free
variable {p : Program} {l : Launch} {e : Env} {R : Room} {s : State} {m : MethodId} {args : Array Value} {below : List Frame} {meth : Method} {c : Code} {T : State} {locs : List Loc} {cells slots : Nat}
/-- a constructor whose reference has been used before (the word methodRef) -/
theorem own_specialRef (X : Stand p l e R s m args below meth c T locs cells slots) (hexec : p.tables.exec = Jvm.exec) {own : String} {index : Nat} {y : MethodName} (hy1 : y.name = "<init>")
    (hown : s.vm.findClass own = some m.cls) (hlink : (Cond.methodRef own index y).before args s = true) (hinst : (Cond.instanceMethod y).before args s = true)
    {bytes : ByteArray} {maxL : Nat} (hcode : (Cond.code y bytes maxL none).before args s = true)
    (hy : y.cls ≠ "java/lang/invoke/MethodHandle" ∧ y.cls ≠ "java/lang/invoke/VarHandle")
    {W : Nat} {Pre : Pt → Array Value → Prop} {Post : Pt → Array Value → Option Value → Pt → Prop} (hK : Back l R p e below s args y 3 W Pre Post)
    {g : JFrame} (hg : g.method = m) (hsize : g.locals.size = c.maxLocals) {s₀ : State} (hcome : Steps p.tables e below s₀ (T.setTop g)) {a : Addr} {argsL rest : List Value}
    (hlen : ∀ sig, parseMethodDescriptor y.desc = some sig → argsL.length = sig.parameters.length) (hstack : g.stack = argsL.reverse ++ .ref a :: rest) (hW : 2 * g.monitorRoom + (rest.map fun v => v.category).sum ≤ W)
    (hdg : decode c.code g.pc = .ok (.invokespecial index, 3)) (hpre : ∀ vm₁, s.WarmedH vm₁ → Pre ⟨T.setVm vm₁, locs, cells, slots⟩ (.ref a :: argsL).toArray) :
    ∃ (v : Option Value) (vm₁ : Vm) (B : Pt), s.WarmedH vm₁ ∧ Stand p l e R s m args below meth c B.U B.locs B.cells B.slots ∧ Post ⟨T.setVm vm₁, locs, cells, slots⟩ (.ref a :: argsL).toArray v B ∧
      Steps p.tables e below s₀ (B.U.setTop { g with pc := g.pc + 3, stack := v.toList ++ rest }) := by
  obtain ⟨mk, mt, hnk, hmk, hst, hab⟩ := Cond.instanceMethod_spec hinst
  obtain ⟨mt', cd, hmk', -, -, -, -, -, -, hsig⟩ := Cond.code_spec hnk hcode
  cases hmk.symm.trans hmk'
  obtain ⟨hnm, hds⟩ := name_of_methodNamed hnk hmk
  obtain ⟨kO, hkO, -⟩ := className_of_methodNamed hnk
  have A := X.warmed.alike
  have hT := Cond.methodRef_warmed X.warmed hnk hy hlink
  have hownT : (s.setVm T.vm).vm.findClass own = some m.cls := by show T.vm.findClass own = _; rw [A.findClass]; exact hown
  obtain ⟨mf, cf, hmf, hready, hfc, hnr⟩ := Cond.methodRef_named e hownT hT
  have hnkT : (s.setVm T.vm).methodNamed? y = some mk := X.named hnk
  have e1 : mf = mk := Option.some.inj (hmf.symm.trans (State.methodFound?_of_named hnkT hy))
  have e2 : cf = mk.cls := Option.some.inj (hfc.symm.trans (findClass_of_methodNamed hnkT))
  subst e1 e2
  obtain ⟨kT, hkT, -⟩ := A.2.2 _ _ hkO
  have hmT : T.vm.method? mf = some mt := by rw [A.method?]; exact hmk
  have hlook : lookupSpecial T.vm mf.cls "<init>" mt.desc = .method mf := by
    rw [A.lookupSpecial, hds, ← hy1]; exact lookupSpecial_of_named hnk hmk hst
  have hp : Pre ⟨T, locs, cells, slots⟩ (.ref a :: argsL).toArray := by simpa using hpre T.vm X.warmed
  obtain ⟨v, B, X', hpost, hsteps⟩ := hK m meth c ⟨T, locs, cells, slots⟩ { g with stack := rest } (.invokespecial index) mf (.ref a :: argsL).toArray X hg hsize hdg hW (X.named hnk) hp
  refine ⟨v, T.vm, B, X.warmed, X', by simpa using hpost, hcome.trans ?_⟩
  have go : ∀ target, (∀ acts, Steps p.tables e below (doInvoke e (T.setTop { g with stack := rest }) acts mf (.ref a :: argsL).toArray).1 target) → Steps p.tables e below (T.setTop g) target := by
    intro target hrest
    subst hg
    jvm_step X.here [hexec, hdg, invokespecial.wp_init (e := e) (s := T) (k := kT) (meth := mt) (m := mf) (a := a) (args := argsL) (rest := rest) (f := g)
      X.here.top hnr hready hkT hmT (by rw [hnm]; exact hy1) hst hab hlook (hlen _ hsig) hstack]
    exact hrest
  exact (go _ fun acts => by rw [doInvoke_state]; exact Steps.refl _).trans hsteps
end Jvm.Stand
namespace Jvm.Stand
open Jvm Jvm.ClassFile Sem Op Jvm.Op Jvm.Free
variable {p : Program} {l : Launch} {e : Env} {R : Room} {s : State} {m : MethodId} {args : Array Value} {below : List Frame} {meth : Method} {c : Code} {T : State} {locs : List Loc} {cells slots : Nat}
/-- the link word of an interface's method that a superinterface declares: it links by plain access, whatever the method's flags are -/
theorem own_linkPlain {own : String} {x : MethodName} {index d i : Nat} {ki ko : Class} {mt : Method} {mf : MethodId}
    (hd : s.vm.findClass own = some d) (hi : s.vm.findClass x.cls = some i) (hki : s.vm.classes[i]? = some ki) (hface : ki.isInterface = true) (hpoly : ∀ y, signaturePolymorphic ki y = false)
    (hnone : ki.findMethod x.name x.desc = none) (hf : s.methodFound? x.cls x.name x.desc = some mf) (hko : s.vm.classes[mf.cls]? = some ko) (hmt : ko.methods[mf.idx]? = some mt) (hn : x.name ≠ "clone")
    (h : (Cond.methodLink own index x).before args s = true) (pl : Platform) (hpl : pl.magicAccessors = ({} : Platform).magicAccessors) :
    ∃ ci, s.vm.MethodLinksFF pl d index ci i mf ∧ s.rightAt d index (.method mf) = true := by
  have hmeth : s.vm.method? mf = some mt := by simp [Vm.method?, hko, hmt]
  have hface2 := State.faceFind_of_found hi hki hface hpoly hnone hf
  have h' := h
  simp only [Cond.before, Cond.holds, Cond.value, hd, hi, hf] at h'
  rcases hme : s.memberEntry? own index with _ | ⟨ci, via⟩
  · simp [hme] at h'
  rcases hcl : s.classLinks own ci x.cls with _ | lk
  · simp [hme, hcl] at h'
  rcases hdk : s.vm.classes[d]? with _ | dk
  · simp [hme, hcl, hdk] at h'
  simp only [hme, hcl, hdk, hki, hko, hmeth, Option.bind_eq_bind, Option.bind_some, Option.pure_def, beq_iff_eq, bne_iff_ne, ne_eq, Option.some.injEq, Bool.and_eq_true, Option.isNone_iff_eq_none, Bool.or_eq_true] at h'
  obtain ⟨⟨⟨⟨⟨⟨⟨hlk, hnames⟩, hopen⟩, hvia⟩, -⟩, -⟩, hloader⟩, hacc⟩ := h'
  have hplain : s.vm.Plain mt.accessFlags mf.cls ko i d dk := by
    rcases hacc with q | ⟨⟨-, q⟩, -⟩
    · simpa [Vm.Plain, plainAccess, or_assoc, and_assoc] using q
    · exact absurd q hn
  subst hlk
  obtain ⟨i', hi', hlinks⟩ := State.classLinks_spec hd hcl pl hpl
  obtain rfl : i = i' := Option.some.inj (hi.symm.trans hi')
  obtain ⟨pool, hpool, hnm⟩ := State.names_spec hnames
  obtain ⟨dk2, file, hdk2, hfile, rfl⟩ := State.poolOf?_spec hd hpool
  obtain rfl : dk = dk2 := Option.some.inj (hdk.symm.trans hdk2)
  obtain ⟨cj, nt, hent, hnt, -⟩ := namesOf?_method hnm
  have hcj : file.constantPool[index]? = some (.interfaceMethodref ci nt) := by
    rw [hface] at hvia
    rcases hent with q | q <;> simp only [State.memberEntry?, hpool, Option.bind_eq_bind, Option.bind_some, q, Option.some.injEq, Prod.mk.injEq] at hme
    · exact absurd (hme.2.trans hvia.symm) (by simp)
    · rw [q, hme.1]
  obtain ⟨dk3, file3, nm3, -, hdk3, hfile3, hld, hnm3, -⟩ := hlinks.here
  obtain rfl : dk = dk3 := Option.some.inj (hdk.symm.trans hdk3)
  obtain rfl : file = file3 := Option.some.inj (hfile.symm.trans hfile3)
  have hne : ci ≠ index := by
    rintro rfl
    simp [ConstantPool.className?, hcj] at hnm3
  exact ⟨ci, ⟨dk, file, nt, x.name, x.desc, ki, ko, mt, hdk, hfile, hcj, hnt, hlinks, hne, hki, hface, hpoly, hnone, hface2, hko, hmt, hld.trans hloader.symm, hplain, State.openOr_spec hd hdk hopen⟩,
    by simp [State.rightAt, hdk, hfile, hnm, hf]⟩
/-- an interface call on an object of class C whose reference names I, where another interface J declares the method; the call goes to y -/
theorem own_faceUp (X : Stand p l e R s m args below meth c T locs cells slots) (hexec : p.tables.exec = Jvm.exec) {own C J : String} {index count : Nat} {xi y : MethodName}
    (hown : s.vm.findClass own = some m.cls) (hlink : (Cond.methodLink own index xi).before args s = true) (hdecl : (Cond.declares ⟨J, xi.name, xi.desc⟩).before args s = true)
    (hface : (Cond.interfaceMethod xi.cls J xi.name xi.desc).before args s = true) (hxo : xi.cls ≠ J) (hsel : (Cond.selects C xi y).before args s = true) (hinst : (Cond.instanceMethod y).before args s = true)
    (hpub : (Cond.publicMethod y).before args s = true) (hunh : (Cond.unhidden C xi.name xi.desc).before args s = true) (hcast : (Cond.castable C xi.cls).before args s = true)
    (hx : xi.cls ≠ "java/lang/invoke/MethodHandle" ∧ xi.cls ≠ "java/lang/invoke/VarHandle") (hnc : xi.name ≠ "clone")
    {W : Nat} {Pre : Pt → Array Value → Prop} {Post : Pt → Array Value → Option Value → Pt → Prop} (hK : Back l R p e below s args y 5 W Pre Post)
    {b : Addr} {cB : ClassId} {kB : Class} (hcB : s.vm.findClass C = some cB) (hkB : s.vm.classes[cB]? = some kB) (hrecv : IsOf cB T b)
    {g : JFrame} (hg : g.method = m) (hsize : g.locals.size = c.maxLocals) {s₀ : State} (hcome : Steps p.tables e below s₀ (T.setTop g)) {argsL rest : List Value}
    (hlen : ∀ sig, parseMethodDescriptor xi.desc = some sig → argsL.length = sig.parameters.length) (hstack : g.stack = argsL.reverse ++ .ref b :: rest) (hW : 2 * g.monitorRoom + (rest.map fun v => v.category).sum ≤ W)
    (hdg : decode c.code g.pc = .ok (.invokeinterface index count, 5)) (hpre : ∀ vm₁, s.WarmedH vm₁ → Pre ⟨T.setVm vm₁, locs, cells, slots⟩ (.ref b :: argsL).toArray) :
    ∃ (v : Option Value) (vm₁ : Vm) (B : Pt), s.WarmedH vm₁ ∧ Stand p l e R s m args below meth c B.U B.locs B.cells B.slots ∧ Post ⟨T.setVm vm₁, locs, cells, slots⟩ (.ref b :: argsL).toArray v B ∧
      Steps p.tables e below s₀ (B.U.setTop { g with pc := g.pc + 5, stack := v.toList ++ rest }) := by
  obtain ⟨cell, hcell, hccls, hcst⟩ := hrecv
  obtain ⟨r0, r, hr0, hr, hrst, hrsig⟩ := Cond.declares_spec hdecl
  obtain ⟨i, ki, r1, hi, hki, hkif, hfound, hr1⟩ := Cond.interfaceMethod_spec hface
  obtain rfl : r0 = r1 := Option.some.inj (hr0.symm.trans hr1)
  obtain ⟨hrn, hrd⟩ := name_of_methodNamed hr0 hr
  obtain ⟨mk, mt, hmk, hmt, -, hmab⟩ := Cond.instanceMethod_spec hinst
  obtain ⟨c2, r2, m2, u1, u2, u3, u4, -⟩ := Cond.selects_spec hsel
  obtain rfl : cB = c2 := Option.some.inj (hcB.symm.trans u1)
  obtain rfl : r0 = r2 := Option.some.inj (hfound.symm.trans u2)
  obtain rfl : mk = m2 := Option.some.inj (hmk.symm.trans u3)
  obtain ⟨c3, i3, w1, w2, w3⟩ := Cond.castable_spec hcast
  obtain rfl : cB = c3 := Option.some.inj (hcB.symm.trans w1)
  obtain rfl : i = i3 := Option.some.inj (hi.symm.trans w2)
  have hmpub : hasFlag mt.accessFlags Acc.public_ = true := Cond.publicMethod_spec hmk hmt hpub
  obtain ⟨ko, hko, hkoname⟩ := className_of_methodNamed hr0
  obtain ⟨ki', hki', hkiname⟩ := Vm.findClass_spec hi
  obtain rfl : ki = ki' := Option.some.inj (hki.symm.trans hki')
  have hpoly : ∀ z, signaturePolymorphic ki z = false := fun z => by simp [signaturePolymorphic, hkiname, hx.1, hx.2]
  have hnone : ki.findMethod xi.name xi.desc = none := by
    rcases hj : ki.findMethod xi.name xi.desc with _ | j
    · rfl
    · have hsome : (ki.methods[j]?).isSome := by
        have := (Array.findIdx?_eq_some_iff_getElem.mp hj).1
        simp [this]
      have q := hfound.symm.trans (State.methodFound?_declared hi hki hpoly hj hsome)
      have q2 : r0.cls = i := by rw [Option.some.inj q]
      rw [q2] at hko
      exact absurd (hkiname.symm.trans ((congrArg Class.name (Option.some.inj (hki.symm.trans hko))).trans hkoname)) hxo
  have hpl : e.platform.magicAccessors = ({} : Platform).magicAccessors := by rw [X.admits.platform]
  obtain ⟨ci, hl, hright⟩ := own_linkPlain hown hi hki hkif hpoly hnone hfound hko (by simpa [Vm.method?, hko] using hr) hnc hlink e.platform hpl
  have E : s.MethodEntryUp e T.vm m.cls index i r0 ci := State.methodEntryFF X.warmed hl hright
  obtain ⟨dk, file, nt, -, -, ki2, -, -, hdk, hfile, hcp, -, -, -, hki2, -⟩ := hl.here
  obtain rfl : ki = ki2 := Option.some.inj (hki.symm.trans hki2)
  have A := E.warmed.alike
  obtain ⟨dk', hdk', hready⟩ := E.classReady
  obtain ⟨dk2, hdk2, hdkeq⟩ := A.2.2 _ _ hdk
  obtain rfl : dk' = dk2 := Option.some.inj (hdk'.symm.trans hdk2)
  obtain ⟨kiT, hkiT, hkieq⟩ := A.2.2 _ _ hki
  obtain ⟨kBT, hkBT, -⟩ := A.2.2 _ _ hkB
  have X1 := X.noted E.warmed
  obtain ⟨v, B, X', hpost, hsteps⟩ := hK m meth c ⟨T.setVm (T.vm.calledUp m.cls ci index i r0), locs, cells, slots⟩ { g with stack := rest } (.invokeinterface index count) mk (.ref b :: argsL).toArray X1 hg hsize hdg hW (X1.named hmk) (hpre _ E.warmed)
  refine ⟨v, _, B, E.warmed, X', hpost, hcome.trans ?_⟩
  have go : ∀ target, (∀ acts, Steps p.tables e below (doInvoke e ((T.setVm (T.vm.calledUp m.cls ci index i r0)).setTop { g with stack := rest }) acts mk (.ref b :: argsL).toArray).1 target) → Steps p.tables e below (T.setTop g) target := by
    intro target hrest
    subst hg
    subst hccls
    jvm_step X.here [hexec, hdg, invokeinterface.wp_coldFace (e := e) (s := T) (s₀ := s) (f := g) (count := count) X.here.top X.warmed E hdk hfile (Or.inr hcp) hki hkif,
      invokeinterface.wp_ready (e := e) (s := T.setVm (T.vm.calledUp g.method.cls ci index i r0)) (f := g) (count := count) (r := r) (meth := mt) (m := mk) (args := argsL) (rest := rest) (cell := cell) (kcell := kBT) (ck := dk') (nk := kiT) (cf := file) (ci := ci) (nt := nt) (named := i)
        X.here.top E.ready ((A.method? r0).trans hr) hrst (hlen _ hrsig) hstack hcell (fun z q => by rw [q] at hcst; cases hcst) hkBT hdk' (by rw [hdkeq]; exact hfile) hcp hready hkiT (by rw [hkieq]; exact hkif)
        (by rw [State.vm_setVm, A.assignable]; exact w3)
        (by rw [State.vm_setVm, A.selectMethod, Launch.admits_selectMethod X.admits]; exact u4)
        ((A.method? mk).trans hmt)
        (Or.inr (Or.inr (by show (List.any _ _) = false; simp only [State.vm_setVm, A.superclasses, A.declaredIn, hrn, hrd]; exact Cond.unhidden_spec hcB hunh))) (Or.inl hmpub) hmab]
    exact hrest
  exact (go _ fun acts => by rw [doInvoke_state]; exact Steps.refl _).trans hsteps
end Jvm.Stand
namespace Jvm.Stand
open Jvm Jvm.ClassFile Sem Op Jvm.Op Jvm.Free Jvm.Lambda Jvm.LamKit Jvm.RoadKit
variable {p : Program} {l : Launch} {e : Env} {R : Room} {s : State} {m : MethodId} {args : Array Value} {below : List Frame} {meth : Method} {c : Code} {T : State} {locs : List Loc} {cells slots : Nat}
/-- a lambda that captures: the site is linked at Z, the tables since then are warmer -/
theorem own_site (X : Stand p l e R s m args below meth c T locs cells slots) (hexec : p.tables.exec = Jvm.exec) {Z : State} {a0 : Array Value} (hZ : Z.Warmed39 s.vm) {x : MethodName} {pc index fi : Nat} {σ : Lambda.Shape} (hnamed : s.methodNamed? x = some m)
    (hsite : (Cond.lambdaSite x pc index σ).before a0 Z = true) (hcap : σ.captured ≠ []) (hok : capOK σ x.cls fi 0 = true) (hO : (Cond.instantiable "java/lang/Object" 0).before a0 Z = true) {h : Heap} (eT : T.heap = h)
    {g : JFrame} (hg : g.method = m) (hpc : g.pc = pc) (hsize : g.locals.size = c.maxLocals) (hdg : decode c.code g.pc = .ok (.invokedynamic index, 5))
    {vals rest : List Value} (hlen : vals.length = σ.captured.length) (hstack : g.stack = vals.reverse ++ rest) (hfit : ∀ (i : Nat) t v, σ.captured[i]? = some t → vals[i]? = some v → narrow t v = v ∧ fits t v = true)
    (hwords : 2 * g.monitorRoom + (g.stack.map fun v => v.category).sum + 3072 ≤ R.locals) (hcells : cells + 1 ≤ R.cells) (hslots : slots + vals.length ≤ R.slots) :
    ∃ T' h', Stand p l e R s m args below meth c T' locs (cells + 1) (slots + vals.length) ∧ T'.heap = h' ∧ Ext h h' ∧
      ∀ target, Steps p.tables e below (T'.setTop { g with pc := g.pc + 5, stack := .ref h.size :: rest }) target → Steps p.tables e below (T.setTop g) target := by
  have A := hZ.alike
  obtain ⟨cK, one, hat⟩ := Cond.lambdaSite_spec hsite
  obtain ⟨mD, kD, cfD, i0, p0, lk, hmD, hkD, hcfD, hsh, -, hfind, hmade, -, hl⟩ := State.lambdaAt?_spec hat
  have hmZ : Z.methodNamed? x = some m := by
    have q := State.methodNamed?_setVm (s := Z) A x
    rw [← q]; exact hnamed
  obtain rfl : mD = m := Option.some.inj (hmD.symm.trans hmZ)
  obtain ⟨kD2, hkD2, hname⟩ := className_of_methodNamed hmD
  obtain rfl : kD = kD2 := Option.some.inj (hkD.symm.trans hkD2)
  rcases hl with ⟨a, cell, -, -, hc0, -⟩ | ⟨rfl, -, -⟩
  · exact absurd hc0 hcap
  obtain ⟨b, nt, desc, site, h1, h2, h3, h4⟩ := shapeOf?_site hsh
  obtain ⟨kc, f, hkc, hkind, hty, -⟩ := made_cap hok hkD hname hmade (noFields hO (State.WarmedH.refl Z))
  obtain ⟨kS, hkS, heS⟩ := A.2.2 _ _ hkD
  obtain ⟨kcS, hkcS, hecS⟩ := A.2.2 _ _ hkc
  have htyS : kcS.instanceTypes = σ.captured.toArray := by rw [hecS]; exact hty
  have hkindS : kcS.kind = .ordinary := by rw [hecS]; exact hkind
  have hz : ((kcS.instanceTypes.toList.zip vals).map fun (t, v) => narrow t v) = vals := by rw [htyS]; exact zip_narrow _ _ hlen fun i t v a b => (hfit i t v a b).1
  have hw : e.platform.lambdaLinkWords = 3072 := by rw [X.admits.platform]
  have q := X.lambdaMakes hexec hg hsize hdg (vals := vals) (rest := rest) hkS (by rw [hpc, heS]; exact hfind) (by rw [heS]; exact hcfD) h1 h2 (parseLong_of_parse h3) (by rw [h4]; exact hlen) hstack hkcS (by rw [hw]; exact hwords) hcells (by rw [hz]; exact hslots)
    (fun i v hv => by
      rw [hz] at hv
      have hv' : vals[i]? = some v := by simpa using hv
      have hi : i < σ.captured.length := by rw [← hlen]; exact (List.getElem?_eq_some_iff.mp hv').1
      have := (hfit i _ v (List.getElem?_eq_getElem hi) hv').2
      simp [State.fitsSlot, State.slotType?, hkcS, hkindS, htyS, List.getElem?_eq_getElem hi, this])
  rw [hz] at q
  subst eT
  exact ⟨_, _, by simpa using q.1, rfl, ext_of fun a q => Array.getElem?_push_lt q |>.trans (Array.getElem?_eq_getElem q).symm, q.2⟩
end Jvm.Stand
namespace Jvm.Pilot.@@N@@
open Jvm Jvm.ClassFile Sem Op Lib Jvm.Free Jvm.Stand Jvm.LawKit Jvm.RoadKit Bundle Jvm.Pilot.@@N@@.Jvm.D
theorem ix {A : Type} {l : List A} {a : A} (i : Nat) (h : l[i]? = some a) : a ∈ l := List.mem_of_getElem? h
abbrev mn0 : MethodName := ⟨"com/example/openvenue/openvenue/core/PriceLevel", "price", "()J"⟩
abbrev mn1 : MethodName := ⟨"com/example/openvenue/openvenue/core/QuantityTotal", "<init>", "()V"⟩
abbrev mn2 : MethodName := ⟨"com/example/openvenue/openvenue/core/PriceLevel", "<init>", "(Lcom/example/openvenue/openvenue/core/Side;J)V"⟩
abbrev mn3 : MethodName := ⟨"java/util/AbstractCollection", "<init>", "()V"⟩
abbrev mn4 : MethodName := ⟨"java/util/AbstractMap", "<init>", "()V"⟩
abbrev mn5 : MethodName := ⟨"com/example/openvenue/openvenue/core/BookSide$BestFirst", "<init>", "(Lcom/example/openvenue/openvenue/core/BookSide;)V"⟩
abbrev mn6 : MethodName := ⟨"java/util/Comparator", "naturalOrder", "()Ljava/util/Comparator;"⟩
abbrev mn7 : MethodName := ⟨"java/util/Collections", "reverseOrder", "()Ljava/util/Comparator;"⟩
abbrev mn8 : MethodName := ⟨"java/util/Comparator", "reverseOrder", "()Ljava/util/Comparator;"⟩
abbrev mn9 : MethodName := ⟨"java/util/TreeMap", "<init>", "(Ljava/util/Comparator;)V"⟩
abbrev mn10 : MethodName := ⟨"java/util/TreeMap", "size", "()I"⟩
abbrev mn11 : MethodName := ⟨"java/util/AbstractMap", "isEmpty", "()Z"⟩
abbrev mn12 : MethodName := ⟨"java/util/AbstractMap", "size", "()I"⟩
abbrev mn13 : MethodName := ⟨"com/example/openvenue/openvenue/core/BookSide", "isDeeper", "(J)Z"⟩
abbrev mn14 : MethodName := ⟨"java/util/NavigableMap", "isEmpty", "()Z"⟩
abbrev mn15 : MethodName := ⟨"com/example/openvenue/openvenue/core/BookSide", "isWorse", "(JJ)Z"⟩
abbrev mn16 : MethodName := ⟨"com/example/openvenue/openvenue/core/BookSideBestPinLaw", "better", "(Lcom/example/openvenue/openvenue/core/Side;JJ)Z"⟩
abbrev mn17 : MethodName := ⟨"com/example/openvenue/openvenue/core/BookSide", "indexOf", "(J)I"⟩
abbrev mn18 : MethodName := ⟨"com/example/openvenue/openvenue/core/BookSide", "insert", "(IJ)Lcom/example/openvenue/openvenue/core/PriceLevel;"⟩
abbrev mn19 : MethodName := ⟨"com/example/openvenue/openvenue/core/BookSide", "levelAt", "(J)Lcom/example/openvenue/openvenue/core/PriceLevel;"⟩
abbrev mn20 : MethodName := ⟨"com/example/openvenue/openvenue/core/BookSide", "best", "()Lcom/example/openvenue/openvenue/core/PriceLevel;"⟩
abbrev mn21 : MethodName := ⟨"com/example/openvenue/openvenue/core/BookSide", "remove", "(Lcom/example/openvenue/openvenue/core/PriceLevel;)V"⟩
abbrev mn22 : MethodName := ⟨"com/example/openvenue/openvenue/core/BookSide", "<init>", "(Lcom/example/openvenue/openvenue/core/Side;)V"⟩
abbrev oPL : Jvm.ClassFile.FieldType := .object "com/example/openvenue/openvenue/core/PriceLevel"
section Own
variable {p : Program} {l : Launch} {e : Env} {R : Room} {s : State} {m : MethodId} {args : Array Value} {below : List Frame} {meth : Method} {c : Code} {T : State} {locs : List Loc} {cells slots : Nat}
/-- the goal of a walk, as seen from a state on its road -/
def Gl (p : Program) (e : Env) (below : List Frame) (K : Outcome → State → Prop) (A : State) : Prop := ∃ s₂ o, Steps p.tables e below A s₂ ∧ s₂.status = .running ∧ Ended s₂ below o ∧ K o s₂
theorem Gl.up {K : Outcome → State → Prop} {A B : State} (h : ∀ t, Steps p.tables e below B t → Steps p.tables e below A t) (k : Gl p e below K B) : Gl p e below K A := by
 obtain ⟨s2, o, h1, r⟩ := k
 exact ⟨s2, o, h _ h1, r⟩
/-- what a body leaves -/
def Ret (s : State) (rc rs : Nat) (Q : Option Value → Heap → List Loc → Prop) (o : Outcome) (U : State) : Prop := ∃ v L, o = .returned v ∧ Q v U.heap L ∧ FrameEnd s o U L rc rs
variable {rc rs : Nat} {Q : Option Value → Heap → List Loc → Prop} {pc : Nat} {Ls : Array Slot} {rest : List Value}
theorem Gl.retI (X : Stand p l e R s m args below meth c T locs cells slots) (hx : p.tables.exec = Jvm.exec) (hlk : meth.locks = false) {z : Int32} (hret : meth.sig.returnType = some .int) (hd : decode c.code pc = .ok (.ireturn, 1)) (hq : Q (some (.int z)) T.heap locs) (hc : cells ≤ rc) (hs : slots ≤ rs) :
  Gl p e below (Ret s rc rs Q) (T.setTop (mkF m pc Ls (.int z :: rest))) := by
 obtain ⟨fs, hr, hrun, hended, hW, hsame⟩ := X.leave (v := some (.int z)) (fun h => by rw [hret] at h; cases h) hlk
 exact ⟨_, _, retOut X hx hret rfl (Or.inl ⟨rfl, Or.inl rfl, z, rfl⟩) hd hr, hrun, hended, _, _, rfl, hq, ⟨_, rfl⟩, hW, hsame.mono hc hs⟩
theorem Gl.retJ (X : Stand p l e R s m args below meth c T locs cells slots) (hx : p.tables.exec = Jvm.exec) (hlk : meth.locks = false) {z : Int64} (hret : meth.sig.returnType = some .long) (hd : decode c.code pc = .ok (.lreturn, 1)) (hq : Q (some (.long z)) T.heap locs) (hc : cells ≤ rc) (hs : slots ≤ rs) :
  Gl p e below (Ret s rc rs Q) (T.setTop (mkF m pc Ls (.long z :: rest))) := by
 obtain ⟨fs, hr, hrun, hended, hW, hsame⟩ := X.leave (v := some (.long z)) (fun h => by rw [hret] at h; cases h) hlk
 exact ⟨_, _, retOut X hx hret rfl (Or.inr (Or.inl ⟨rfl, rfl, z, rfl⟩)) hd hr, hrun, hended, _, _, rfl, hq, ⟨_, rfl⟩, hW, hsame.mono hc hs⟩
theorem Gl.retN (X : Stand p l e R s m args below meth c T locs cells slots) (hx : p.tables.exec = Jvm.exec) (hlk : meth.locks = false) {z w : Int32} {t : FieldType} (hret : meth.sig.returnType = some t) (ht : t = .boolean ∨ t = .byte ∨ t = .char ∨ t = .short) (hd : decode c.code pc = .ok (.ireturn, 1)) (hn : nar t z = w) (hq : Q (some (.int w)) T.heap locs) (hc : cells ≤ rc) (hs : slots ≤ rs) :
  Gl p e below (Ret s rc rs Q) (T.setTop (mkF m pc Ls (.int z :: rest))) := by
 subst hn
 obtain ⟨fs, hr, hrun, hended, hW, hsame⟩ := X.leave (v := some (.int (nar t z))) (fun h => by rw [hret] at h; cases h) hlk
 exact ⟨_, _, Jvm.RoadKit.retN X hx hret ht hd hr, hrun, hended, _, _, rfl, hq, ⟨_, rfl⟩, hW, hsame.mono hc hs⟩
theorem Gl.ret0 (X : Stand p l e R s m args below meth c T locs cells slots) (hx : p.tables.exec = Jvm.exec) (hlk : meth.locks = false) (hret : meth.sig.returnType = none) (hd : decode c.code pc = .ok (.return_, 1)) (hq : Q none T.heap locs) (hc : cells ≤ rc) (hs : slots ≤ rs) :
  Gl p e below (Ret s rc rs Q) (T.setTop (mkF m pc Ls [])) := by
 obtain ⟨fs, hr, hrun, hended, hW, hsame⟩ := X.leave (v := none) (fun _ => rfl) hlk
 exact ⟨_, _, X.returnOut hx hret hd hr, hrun, hended, _, _, rfl, hq, ⟨_, rfl⟩, hW, hsame.mono hc hs⟩
theorem Gl.retR (X : Stand p l e R s m args below meth c T locs cells slots) (hx : p.tables.exec = Jvm.exec) (hlk : meth.locks = false) {v : Value} {t : FieldType} (hret : meth.sig.returnType = some t) (hd : decode c.code pc = .ok (.areturn, 1)) (ht : t.isReference = true) (hv : v.isRef = true) (hq : Q (some v) T.heap locs) (hc : cells ≤ rc) (hs : slots ≤ rs) :
  Gl p e below (Ret s rc rs Q) (T.setTop (mkF m pc Ls (v :: rest))) := by
 have hn : narrow t v = v := by cases t <;> first | rfl | (cases ht; done) | (cases v <;> first | rfl | (cases hv; done))
 obtain ⟨fs, hr, hrun, hended, hW, hsame⟩ := X.leave (v := some v) (fun h => by rw [hret] at h; cases h) hlk
 exact ⟨_, _, retOut X hx hret hn (Or.inr (Or.inr (Or.inr (Or.inr ⟨rfl, ht, hv⟩)))) hd hr, hrun, hended, _, _, rfl, hq, ⟨_, rfl⟩, hW, hsame.mono hc hs⟩
end Own
abbrev sR (a : Addr) : Slot := .val (.ref a)
abbrev sI (x : Int32) : Slot := .val (.int x)
abbrev sJ (x : Int64) : Slot := .val (.long x)
theorem gu {p : Program} {e : Env} {below : List Frame} {K : Outcome → State → Prop} {A : State} (B : State) (h : ∀ t, Steps p.tables e below B t → Steps p.tables e below A t) (k : Gl p e below K B) : Gl p e below K A := Gl.up h k
theorem le0 {x : Nat} : 2 * 0 + x ≤ x := by omega
theorem sz {a b n : Nat} (h : a = n) (q : b = n := by rfl) : b = a := q.trans h.symm
theorem own_widen {p : Program} {l : Launch} {e : Env} {R : Room} {s : State} {m : MethodId} {args : Array Value} {below : List Frame} {meth : Method} {c : Code} {T : State} {locs : List Loc} {cells slots cells' slots' : Nat} (X : Stand p l e R s m args below meth c T locs cells slots) (hc : cells ≤ cells') (hs : slots ≤ slots') : Stand p l e R s m args below meth c T locs cells' slots' := { X with same := X.same.mono hc hs }
theorem old_le {Z : State} {n0 : Nat} {h : Heap} (O : Old Z n0 h) : n0 ≤ h.size := by rw [← O.1]; exact O.2.1
theorem b01_ite {q : Prop} [Decidable q] {a b : Int32} (ha : a = 0 ∨ a = 1) (hb : b = 0 ∨ b = 1) : (if q then a else b) = 0 ∨ (if q then a else b) = 1 := by split <;> assumption
theorem nar_b01 {a : Int32} (h : a = 0 ∨ a = 1) : nar .boolean a = a := by rcases h with rfl | rfl <;> rfl
theorem fits_b01 {a : Int32} (h : a = 0 ∨ a = 1) : fits .boolean (.int a) = true := by rcases h with rfl | rfl <;> rfl
theorem own_fld {Z : State} {h : Heap} {a : Addr} {C n d : String} {v w : Value} (q : v = w) (F : Fld Z h a C n d v) : Fld Z h a C n d w := q ▸ F
theorem jc_lt_t {x y : Int64} (h : x < y) : ifCond.holds .lt (lcmpW x y) = true := (if0 _ _).trans (tlt ((lw_lt x y).mpr h)).1
theorem jc_lt_f {x y : Int64} (h : ¬ x < y) : ifCond.holds .lt (lcmpW x y) = false := (if0 _ _).trans (flt (fun q => h ((lw_lt x y).mp q))).1
theorem jc_ge_t {x y : Int64} (h : ¬ x < y) : ifCond.holds .ge (lcmpW x y) = true := (if0 _ _).trans (flt (fun q => h ((lw_lt x y).mp q))).2.1
theorem jc_ge_f {x y : Int64} (h : x < y) : ifCond.holds .ge (lcmpW x y) = false := (if0 _ _).trans (tlt ((lw_lt x y).mpr h)).2.1
theorem jc_gt_t {x y : Int64} (h : y < x) : ifCond.holds .gt (lcmpW x y) = true := (if0 _ _).trans (tlt ((lw_gt x y).mpr h)).2.2.1
theorem jc_gt_f {x y : Int64} (h : ¬ y < x) : ifCond.holds .gt (lcmpW x y) = false := (if0 _ _).trans (flt (fun q => h ((lw_gt x y).mp q))).2.2.1
theorem jc_le_t {x y : Int64} (h : ¬ y < x) : ifCond.holds .le (lcmpW x y) = true := (if0 _ _).trans (flt (fun q => h ((lw_gt x y).mp q))).2.2.2
theorem jc_le_f {x y : Int64} (h : y < x) : ifCond.holds .le (lcmpW x y) = false := (if0 _ _).trans (tlt ((lw_gt x y).mpr h)).2.2.2
theorem jc_eq_t {x y : Int64} (h : x = y) : ifCond.holds .eq (lcmpW x y) = true := (if0 _ _).trans (teq ((lw_eq x y).mpr h)).1
theorem jc_eq_f {x y : Int64} (h : ¬ x = y) : ifCond.holds .eq (lcmpW x y) = false := (if0 _ _).trans (feq (fun q => h ((lw_eq x y).mp q))).1
theorem jc_ne_t {x y : Int64} (h : ¬ x = y) : ifCond.holds .ne (lcmpW x y) = true := (if0 _ _).trans (feq (fun q => h ((lw_eq x y).mp q))).2
theorem jc_ne_f {x y : Int64} (h : x = y) : ifCond.holds .ne (lcmpW x y) = false := (if0 _ _).trans (teq ((lw_eq x y).mpr h)).2
theorem own_mapset (cs : List Int32) (i : Nat) (v : Int32) : (cs.map Value.int).set i (.int v) = (cs.set i v).map Value.int := (List.map_set).symm
theorem d1_0 : decode prog_90_method_3_code 0 = .ok (.aload_n 0, 1) := by decide +kernel
theorem d1_1 : decode prog_90_method_3_code 1 = .ok (.getfield 20, 3) := by decide +kernel
theorem d1_4 : decode prog_90_method_3_code 4 = .ok (.lreturn, 1) := by decide +kernel
theorem pn_com_example_openvenue_openvenue_core_PriceLevel : plainName "com/example/openvenue/openvenue/core/PriceLevel" = true := by first | (simp [plainName, overriddenIn]; done) | decide +kernel
theorem d2_0 : decode prog_92_method_1_code 0 = .ok (.aload_n 0, 1) := by decide +kernel
theorem d2_1 : decode prog_92_method_1_code 1 = .ok (.invokespecial 1, 3) := by decide +kernel
theorem d2_4 : decode prog_92_method_1_code 4 = .ok (.return_, 1) := by decide +kernel
theorem pn_com_example_openvenue_openvenue_core_QuantityTotal : plainName "com/example/openvenue/openvenue/core/QuantityTotal" = true := by first | (simp [plainName, overriddenIn]; done) | decide +kernel
theorem d3_0 : decode prog_90_method_1_code 0 = .ok (.aload_n 0, 1) := by decide +kernel
theorem d3_1 : decode prog_90_method_1_code 1 = .ok (.invokespecial 1, 3) := by decide +kernel
theorem d3_4 : decode prog_90_method_1_code 4 = .ok (.aload_n 0, 1) := by decide +kernel
theorem d3_5 : decode prog_90_method_1_code 5 = .ok (.new 7, 3) := by decide +kernel
theorem d3_8 : decode prog_90_method_1_code 8 = .ok (.dup, 1) := by decide +kernel
theorem pd_ocV : parseMethodDescriptor "()V" = some ⟨[], none⟩ := by decide +kernel
theorem d3_9 : decode prog_90_method_1_code 9 = .ok (.invokespecial 9, 3) := by decide +kernel
theorem d3_12 : decode prog_90_method_1_code 12 = .ok (.putfield 10, 3) := by decide +kernel
theorem d3_15 : decode prog_90_method_1_code 15 = .ok (.aload_n 0, 1) := by decide +kernel
theorem d3_16 : decode prog_90_method_1_code 16 = .ok (.aload_n 1, 1) := by decide +kernel
theorem d3_17 : decode prog_90_method_1_code 17 = .ok (.putfield 16, 3) := by decide +kernel
theorem d3_20 : decode prog_90_method_1_code 20 = .ok (.aload_n 0, 1) := by decide +kernel
theorem d3_21 : decode prog_90_method_1_code 21 = .ok (.lload_n 2, 1) := by decide +kernel
theorem d3_22 : decode prog_90_method_1_code 22 = .ok (.putfield 20, 3) := by decide +kernel
theorem d3_25 : decode prog_90_method_1_code 25 = .ok (.return_, 1) := by decide +kernel
theorem d4_0 : decode jdk_22_method_1_code 0 = .ok (.aload_n 0, 1) := by decide +kernel
theorem d4_1 : decode jdk_22_method_1_code 1 = .ok (.invokespecial 1, 3) := by decide +kernel
theorem d4_4 : decode jdk_22_method_1_code 4 = .ok (.return_, 1) := by decide +kernel
theorem pn_java_util_AbstractCollection : plainName "java/util/AbstractCollection" = true := by first | (simp [plainName, overriddenIn]; done) | decide +kernel
theorem d5_0 : decode jdk_71_method_1_code 0 = .ok (.aload_n 0, 1) := by decide +kernel
theorem d5_1 : decode jdk_71_method_1_code 1 = .ok (.invokespecial 1, 3) := by decide +kernel
theorem d5_4 : decode jdk_71_method_1_code 4 = .ok (.return_, 1) := by decide +kernel
theorem pn_java_util_AbstractMap : plainName "java/util/AbstractMap" = true := by first | (simp [plainName, overriddenIn]; done) | decide +kernel
theorem d6_0 : decode prog_45_method_1_code 0 = .ok (.aload_n 0, 1) := by decide +kernel
theorem d6_1 : decode prog_45_method_1_code 1 = .ok (.aload_n 1, 1) := by decide +kernel
theorem d6_2 : decode prog_45_method_1_code 2 = .ok (.putfield 1, 3) := by decide +kernel
theorem d6_5 : decode prog_45_method_1_code 5 = .ok (.aload_n 0, 1) := by decide +kernel
theorem d6_6 : decode prog_45_method_1_code 6 = .ok (.invokespecial 7, 3) := by decide +kernel
theorem d6_9 : decode prog_45_method_1_code 9 = .ok (.return_, 1) := by decide +kernel
theorem pn_com_example_openvenue_openvenue_core_BookSide_BestFirst : plainName "com/example/openvenue/openvenue/core/BookSide$BestFirst" = true := by first | (simp [plainName, overriddenIn]; done) | decide +kernel
theorem d7_0 : decode jdk_2515_method_11_code 0 = .ok (.getstatic 46, 3) := by decide +kernel
theorem d7_3 : decode jdk_2515_method_11_code 3 = .ok (.areturn, 1) := by decide +kernel
theorem pn_java_util_Comparator : plainName "java/util/Comparator" = true := by first | (simp [plainName, overriddenIn]; done) | decide +kernel
theorem d8_0 : decode jdk_79_method_77_code 0 = .ok (.getstatic 422, 3) := by decide +kernel
theorem d8_3 : decode jdk_79_method_77_code 3 = .ok (.areturn, 1) := by decide +kernel
theorem pn_java_util_Collections : plainName "java/util/Collections" = true := by first | (simp [plainName, overriddenIn]; done) | decide +kernel
theorem pd_ocLjava_util_Comparator : parseMethodDescriptor "()Ljava/util/Comparator;" = some ⟨[], some (.object "java/util/Comparator")⟩ := by decide +kernel
theorem d9_0 : decode jdk_2515_method_10_code 0 = .ok (.invokestatic 43, 3) := by decide +kernel
theorem d9_3 : decode jdk_2515_method_10_code 3 = .ok (.areturn, 1) := by decide +kernel
theorem d10_0 : decode jdk_2729_method_2_code 0 = .ok (.aload_n 0, 1) := by decide +kernel
theorem d10_1 : decode jdk_2729_method_2_code 1 = .ok (.invokespecial 1, 3) := by decide +kernel
theorem d10_4 : decode jdk_2729_method_2_code 4 = .ok (.aload_n 0, 1) := by decide +kernel
theorem d10_5 : decode jdk_2729_method_2_code 5 = .ok (.iconst 0, 1) := by decide +kernel
theorem d10_6 : decode jdk_2729_method_2_code 6 = .ok (.putfield 7, 3) := by decide +kernel
theorem d10_9 : decode jdk_2729_method_2_code 9 = .ok (.aload_n 0, 1) := by decide +kernel
theorem d10_10 : decode jdk_2729_method_2_code 10 = .ok (.iconst 0, 1) := by decide +kernel
theorem d10_11 : decode jdk_2729_method_2_code 11 = .ok (.putfield 13, 3) := by decide +kernel
theorem d10_14 : decode jdk_2729_method_2_code 14 = .ok (.aload_n 0, 1) := by decide +kernel
theorem d10_15 : decode jdk_2729_method_2_code 15 = .ok (.aload_n 1, 1) := by decide +kernel
theorem d10_16 : decode jdk_2729_method_2_code 16 = .ok (.putfield 16, 3) := by decide +kernel
theorem d10_19 : decode jdk_2729_method_2_code 19 = .ok (.return_, 1) := by decide +kernel
theorem pn_java_util_TreeMap : plainName "java/util/TreeMap" = true := by first | (simp [plainName, overriddenIn]; done) | decide +kernel
theorem d11_0 : decode jdk_2729_method_5_code 0 = .ok (.aload_n 0, 1) := by decide +kernel
theorem d11_1 : decode jdk_2729_method_5_code 1 = .ok (.getfield 7, 3) := by decide +kernel
theorem d11_4 : decode jdk_2729_method_5_code 4 = .ok (.ireturn, 1) := by decide +kernel
theorem d12_0 : decode jdk_71_method_3_code 0 = .ok (.aload_n 0, 1) := by decide +kernel
theorem pd_ocI : parseMethodDescriptor "()I" = some ⟨[], some .int⟩ := by decide +kernel
theorem d12_1 : decode jdk_71_method_3_code 1 = .ok (.invokevirtual 19, 3) := by decide +kernel
theorem d12_4 : decode jdk_71_method_3_code 4 = .ok (.ifCond .ne 7, 3) := by decide +kernel
theorem d12_7 : decode jdk_71_method_3_code 7 = .ok (.iconst 1, 1) := by decide +kernel
theorem d12_8 : decode jdk_71_method_3_code 8 = .ok (.goto 4, 3) := by decide +kernel
theorem d12_12 : decode jdk_71_method_3_code 12 = .ok (.ireturn, 1) := by decide +kernel
theorem d13_0 : decode prog_44_method_6_code 0 = .ok (.aload_n 0, 1) := by decide +kernel
theorem d13_1 : decode prog_44_method_6_code 1 = .ok (.getfield 51, 3) := by decide +kernel
theorem pd_ocZ : parseMethodDescriptor "()Z" = some ⟨[], some .boolean⟩ := by decide +kernel
theorem d13_4 : decode prog_44_method_6_code 4 = .ok (.invokeinterface 108 1, 5) := by decide +kernel
theorem d13_9 : decode prog_44_method_6_code 9 = .ok (.ifCond .ne 21, 3) := by decide +kernel
theorem d13_30 : decode prog_44_method_6_code 30 = .ok (.iconst 0, 1) := by decide +kernel
theorem d13_31 : decode prog_44_method_6_code 31 = .ok (.ireturn, 1) := by decide +kernel
theorem pn_com_example_openvenue_openvenue_core_BookSide : plainName "com/example/openvenue/openvenue/core/BookSide" = true := by first | (simp [plainName, overriddenIn]; done) | decide +kernel
theorem d14_0 : decode prog_44_method_11_code 0 = .ok (.aload_n 0, 1) := by decide +kernel
theorem d14_1 : decode prog_44_method_11_code 1 = .ok (.getfield 28, 3) := by decide +kernel
theorem d14_4 : decode prog_44_method_11_code 4 = .ok (.getstatic 32, 3) := by decide +kernel
theorem d14_7 : decode prog_44_method_11_code 7 = .ok (.if_acmp .ne 17, 3) := by decide +kernel
theorem d14_10 : decode prog_44_method_11_code 10 = .ok (.lload_n 1, 1) := by decide +kernel
theorem d14_11 : decode prog_44_method_11_code 11 = .ok (.lload_n 3, 1) := by decide +kernel
theorem d14_12 : decode prog_44_method_11_code 12 = .ok (.lcmp, 1) := by decide +kernel
theorem d14_13 : decode prog_44_method_11_code 13 = .ok (.ifCond .ge 7, 3) := by decide +kernel
theorem d14_16 : decode prog_44_method_11_code 16 = .ok (.iconst 1, 1) := by decide +kernel
theorem d14_17 : decode prog_44_method_11_code 17 = .ok (.goto 18, 3) := by decide +kernel
theorem d14_20 : decode prog_44_method_11_code 20 = .ok (.iconst 0, 1) := by decide +kernel
theorem d14_21 : decode prog_44_method_11_code 21 = .ok (.goto 14, 3) := by decide +kernel
theorem d14_24 : decode prog_44_method_11_code 24 = .ok (.lload_n 1, 1) := by decide +kernel
theorem d14_25 : decode prog_44_method_11_code 25 = .ok (.lload_n 3, 1) := by decide +kernel
theorem d14_26 : decode prog_44_method_11_code 26 = .ok (.lcmp, 1) := by decide +kernel
theorem d14_27 : decode prog_44_method_11_code 27 = .ok (.ifCond .le 7, 3) := by decide +kernel
theorem d14_30 : decode prog_44_method_11_code 30 = .ok (.iconst 1, 1) := by decide +kernel
theorem d14_31 : decode prog_44_method_11_code 31 = .ok (.goto 4, 3) := by decide +kernel
theorem d14_34 : decode prog_44_method_11_code 34 = .ok (.iconst 0, 1) := by decide +kernel
theorem d14_35 : decode prog_44_method_11_code 35 = .ok (.ireturn, 1) := by decide +kernel
theorem d15_0 : decode method_3_code 0 = .ok (.aload_n 0, 1) := by decide +kernel
theorem d15_1 : decode method_3_code 1 = .ok (.getstatic 7, 3) := by decide +kernel
theorem d15_4 : decode method_3_code 4 = .ok (.if_acmp .ne 17, 3) := by decide +kernel
theorem d15_7 : decode method_3_code 7 = .ok (.lload_n 1, 1) := by decide +kernel
theorem d15_8 : decode method_3_code 8 = .ok (.lload_n 3, 1) := by decide +kernel
theorem d15_9 : decode method_3_code 9 = .ok (.lcmp, 1) := by decide +kernel
theorem d15_10 : decode method_3_code 10 = .ok (.ifCond .le 7, 3) := by decide +kernel
theorem d15_13 : decode method_3_code 13 = .ok (.iconst 1, 1) := by decide +kernel
theorem d15_14 : decode method_3_code 14 = .ok (.goto 18, 3) := by decide +kernel
theorem d15_17 : decode method_3_code 17 = .ok (.iconst 0, 1) := by decide +kernel
theorem d15_18 : decode method_3_code 18 = .ok (.goto 14, 3) := by decide +kernel
theorem d15_21 : decode method_3_code 21 = .ok (.lload_n 1, 1) := by decide +kernel
theorem d15_22 : decode method_3_code 22 = .ok (.lload_n 3, 1) := by decide +kernel
theorem d15_23 : decode method_3_code 23 = .ok (.lcmp, 1) := by decide +kernel
theorem d15_24 : decode method_3_code 24 = .ok (.ifCond .ge 7, 3) := by decide +kernel
theorem d15_27 : decode method_3_code 27 = .ok (.iconst 1, 1) := by decide +kernel
theorem d15_28 : decode method_3_code 28 = .ok (.goto 4, 3) := by decide +kernel
theorem d15_31 : decode method_3_code 31 = .ok (.iconst 0, 1) := by decide +kernel
theorem d15_32 : decode method_3_code 32 = .ok (.ireturn, 1) := by decide +kernel
theorem pn_com_example_openvenue_openvenue_core_BookSideBestPinLaw : plainName "com/example/openvenue/openvenue/core/BookSideBestPinLaw" = true := by first | (simp [plainName, overriddenIn]; done) | decide +kernel
theorem d16_0_0 : decode prog_44_method_10_code 0 = .ok (.aload_n 0, 1) := by decide +kernel
theorem d16_0_1 : decode prog_44_method_10_code 1 = .ok (.getfield 63, 3) := by decide +kernel
theorem d16_0_4 : decode prog_44_method_10_code 4 = .ok (.istore_n 3, 1) := by decide +kernel
theorem d16_0_5 : decode prog_44_method_10_code 5 = .ok (.iconst 0, 1) := by decide +kernel
theorem d16_0_6 : decode prog_44_method_10_code 6 = .ok (.istore 4, 2) := by decide +kernel
theorem d16_0_8 : decode prog_44_method_10_code 8 = .ok (.iconst 1, 1) := by decide +kernel
theorem d16_0_9 : decode prog_44_method_10_code 9 = .ok (.istore 5, 2) := by decide +kernel
theorem d16_0_11 : decode prog_44_method_10_code 11 = .ok (.iload_n 3, 1) := by decide +kernel
theorem d16_0_12 : decode prog_44_method_10_code 12 = .ok (.iload 5, 2) := by decide +kernel
theorem d16_0_14 : decode prog_44_method_10_code 14 = .ok (.isub, 1) := by decide +kernel
theorem d16_0_15 : decode prog_44_method_10_code 15 = .ok (.ifCond .lt 45, 3) := by decide +kernel
theorem d16_0_60 : decode prog_44_method_10_code 60 = .ok (.iload 4, 2) := by decide +kernel
theorem d16_0_62 : decode prog_44_method_10_code 62 = .ok (.iload_n 3, 1) := by decide +kernel
theorem d16_0_63 : decode prog_44_method_10_code 63 = .ok (.if_icmp .ge 41, 3) := by decide +kernel
theorem d16_0_104 : decode prog_44_method_10_code 104 = .ok (.iload 4, 2) := by decide +kernel
theorem d16_0_106 : decode prog_44_method_10_code 106 = .ok (.aload_n 0, 1) := by decide +kernel
theorem d16_0_107 : decode prog_44_method_10_code 107 = .ok (.getfield 63, 3) := by decide +kernel
theorem d16_0_110 : decode prog_44_method_10_code 110 = .ok (.if_icmp .ge 20, 3) := by decide +kernel
theorem d16_0_130 : decode prog_44_method_10_code 130 = .ok (.iload 4, 2) := by decide +kernel
theorem d16_0_132 : decode prog_44_method_10_code 132 = .ok (.ineg, 1) := by decide +kernel
theorem d16_0_133 : decode prog_44_method_10_code 133 = .ok (.iconst 1, 1) := by decide +kernel
theorem d16_0_134 : decode prog_44_method_10_code 134 = .ok (.isub, 1) := by decide +kernel
theorem d16_0_135 : decode prog_44_method_10_code 135 = .ok (.ireturn, 1) := by decide +kernel
theorem d16_1_0 : decode prog_44_method_10_code 0 = .ok (.aload_n 0, 1) := by decide +kernel
theorem d16_1_1 : decode prog_44_method_10_code 1 = .ok (.getfield 63, 3) := by decide +kernel
theorem d16_1_4 : decode prog_44_method_10_code 4 = .ok (.istore_n 3, 1) := by decide +kernel
theorem d16_1_5 : decode prog_44_method_10_code 5 = .ok (.iconst 0, 1) := by decide +kernel
theorem d16_1_6 : decode prog_44_method_10_code 6 = .ok (.istore 4, 2) := by decide +kernel
theorem d16_1_8 : decode prog_44_method_10_code 8 = .ok (.iconst 1, 1) := by decide +kernel
theorem d16_1_9 : decode prog_44_method_10_code 9 = .ok (.istore 5, 2) := by decide +kernel
theorem d16_1_11 : decode prog_44_method_10_code 11 = .ok (.iload_n 3, 1) := by decide +kernel
theorem d16_1_12 : decode prog_44_method_10_code 12 = .ok (.iload 5, 2) := by decide +kernel
theorem d16_1_14 : decode prog_44_method_10_code 14 = .ok (.isub, 1) := by decide +kernel
theorem d16_1_15 : decode prog_44_method_10_code 15 = .ok (.ifCond .lt 45, 3) := by decide +kernel
theorem d16_1_18 : decode prog_44_method_10_code 18 = .ok (.iload_n 3, 1) := by decide +kernel
theorem d16_1_19 : decode prog_44_method_10_code 19 = .ok (.iload 5, 2) := by decide +kernel
theorem d16_1_21 : decode prog_44_method_10_code 21 = .ok (.isub, 1) := by decide +kernel
theorem d16_1_22 : decode prog_44_method_10_code 22 = .ok (.istore 6, 2) := by decide +kernel
theorem d16_1_24 : decode prog_44_method_10_code 24 = .ok (.aload_n 0, 1) := by decide +kernel
theorem d16_1_25 : decode prog_44_method_10_code 25 = .ok (.aload_n 0, 1) := by decide +kernel
theorem d16_1_26 : decode prog_44_method_10_code 26 = .ok (.getfield 15, 3) := by decide +kernel
theorem d16_1_29 : decode prog_44_method_10_code 29 = .ok (.iload 6, 2) := by decide +kernel
theorem d16_1_31 : decode prog_44_method_10_code 31 = .ok (.laload, 1) := by decide +kernel
theorem d16_1_32 : decode prog_44_method_10_code 32 = .ok (.lload_n 1, 1) := by decide +kernel
theorem pd_oJJcZ : parseMethodDescriptor "(JJ)Z" = some ⟨[.long, .long], some .boolean⟩ := by decide +kernel
theorem d16_1_33 : decode prog_44_method_10_code 33 = .ok (.invokevirtual 115, 3) := by decide +kernel
theorem d16_1_36 : decode prog_44_method_10_code 36 = .ok (.ifCond .eq 12, 3) := by decide +kernel
theorem d16_1_48 : decode prog_44_method_10_code 48 = .ok (.iload 6, 2) := by decide +kernel
theorem d16_1_50 : decode prog_44_method_10_code 50 = .ok (.istore_n 3, 1) := by decide +kernel
theorem d16_1_51 : decode prog_44_method_10_code 51 = .ok (.iload 5, 2) := by decide +kernel
theorem d16_1_53 : decode prog_44_method_10_code 53 = .ok (.iconst 1, 1) := by decide +kernel
theorem d16_1_54 : decode prog_44_method_10_code 54 = .ok (.ishl, 1) := by decide +kernel
theorem d16_1_55 : decode prog_44_method_10_code 55 = .ok (.istore 5, 2) := by decide +kernel
theorem d16_1_57 : decode prog_44_method_10_code 57 = .ok (.goto (-46), 3) := by decide +kernel
theorem d16_1_60 : decode prog_44_method_10_code 60 = .ok (.iload 4, 2) := by decide +kernel
theorem d16_1_62 : decode prog_44_method_10_code 62 = .ok (.iload_n 3, 1) := by decide +kernel
theorem d16_1_63 : decode prog_44_method_10_code 63 = .ok (.if_icmp .ge 41, 3) := by decide +kernel
theorem d16_1_104 : decode prog_44_method_10_code 104 = .ok (.iload 4, 2) := by decide +kernel
theorem d16_1_106 : decode prog_44_method_10_code 106 = .ok (.aload_n 0, 1) := by decide +kernel
theorem d16_1_107 : decode prog_44_method_10_code 107 = .ok (.getfield 63, 3) := by decide +kernel
theorem d16_1_110 : decode prog_44_method_10_code 110 = .ok (.if_icmp .ge 20, 3) := by decide +kernel
theorem d16_1_113 : decode prog_44_method_10_code 113 = .ok (.aload_n 0, 1) := by decide +kernel
theorem d16_1_114 : decode prog_44_method_10_code 114 = .ok (.getfield 15, 3) := by decide +kernel
theorem d16_1_117 : decode prog_44_method_10_code 117 = .ok (.iload 4, 2) := by decide +kernel
theorem d16_1_119 : decode prog_44_method_10_code 119 = .ok (.laload, 1) := by decide +kernel
theorem d16_1_120 : decode prog_44_method_10_code 120 = .ok (.lload_n 1, 1) := by decide +kernel
theorem d16_1_121 : decode prog_44_method_10_code 121 = .ok (.lcmp, 1) := by decide +kernel
theorem d16_1_122 : decode prog_44_method_10_code 122 = .ok (.ifCond .ne 8, 3) := by decide +kernel
theorem d16_1_125 : decode prog_44_method_10_code 125 = .ok (.iload 4, 2) := by decide +kernel
theorem d16_1_127 : decode prog_44_method_10_code 127 = .ok (.goto 8, 3) := by decide +kernel
theorem d16_1_135 : decode prog_44_method_10_code 135 = .ok (.ireturn, 1) := by decide +kernel
theorem d16_1_130 : decode prog_44_method_10_code 130 = .ok (.iload 4, 2) := by decide +kernel
theorem d16_1_132 : decode prog_44_method_10_code 132 = .ok (.ineg, 1) := by decide +kernel
theorem d16_1_133 : decode prog_44_method_10_code 133 = .ok (.iconst 1, 1) := by decide +kernel
theorem d16_1_134 : decode prog_44_method_10_code 134 = .ok (.isub, 1) := by decide +kernel
theorem d16_1_39 : decode prog_44_method_10_code 39 = .ok (.iload 6, 2) := by decide +kernel
theorem d16_1_41 : decode prog_44_method_10_code 41 = .ok (.iconst 1, 1) := by decide +kernel
theorem d16_1_42 : decode prog_44_method_10_code 42 = .ok (.iadd, 1) := by decide +kernel
theorem d16_1_43 : decode prog_44_method_10_code 43 = .ok (.istore 4, 2) := by decide +kernel
theorem d16_1_45 : decode prog_44_method_10_code 45 = .ok (.goto 15, 3) := by decide +kernel
theorem d16_2_0 : decode prog_44_method_10_code 0 = .ok (.aload_n 0, 1) := by decide +kernel
theorem d16_2_1 : decode prog_44_method_10_code 1 = .ok (.getfield 63, 3) := by decide +kernel
theorem d16_2_4 : decode prog_44_method_10_code 4 = .ok (.istore_n 3, 1) := by decide +kernel
theorem d16_2_5 : decode prog_44_method_10_code 5 = .ok (.iconst 0, 1) := by decide +kernel
theorem d16_2_6 : decode prog_44_method_10_code 6 = .ok (.istore 4, 2) := by decide +kernel
theorem d16_2_8 : decode prog_44_method_10_code 8 = .ok (.iconst 1, 1) := by decide +kernel
theorem d16_2_9 : decode prog_44_method_10_code 9 = .ok (.istore 5, 2) := by decide +kernel
theorem d16_2_11 : decode prog_44_method_10_code 11 = .ok (.iload_n 3, 1) := by decide +kernel
theorem d16_2_12 : decode prog_44_method_10_code 12 = .ok (.iload 5, 2) := by decide +kernel
theorem d16_2_14 : decode prog_44_method_10_code 14 = .ok (.isub, 1) := by decide +kernel
theorem d16_2_15 : decode prog_44_method_10_code 15 = .ok (.ifCond .lt 45, 3) := by decide +kernel
theorem d16_2_18 : decode prog_44_method_10_code 18 = .ok (.iload_n 3, 1) := by decide +kernel
theorem d16_2_19 : decode prog_44_method_10_code 19 = .ok (.iload 5, 2) := by decide +kernel
theorem d16_2_21 : decode prog_44_method_10_code 21 = .ok (.isub, 1) := by decide +kernel
theorem d16_2_22 : decode prog_44_method_10_code 22 = .ok (.istore 6, 2) := by decide +kernel
theorem d16_2_24 : decode prog_44_method_10_code 24 = .ok (.aload_n 0, 1) := by decide +kernel
theorem d16_2_25 : decode prog_44_method_10_code 25 = .ok (.aload_n 0, 1) := by decide +kernel
theorem d16_2_26 : decode prog_44_method_10_code 26 = .ok (.getfield 15, 3) := by decide +kernel
theorem d16_2_29 : decode prog_44_method_10_code 29 = .ok (.iload 6, 2) := by decide +kernel
theorem d16_2_31 : decode prog_44_method_10_code 31 = .ok (.laload, 1) := by decide +kernel
theorem d16_2_32 : decode prog_44_method_10_code 32 = .ok (.lload_n 1, 1) := by decide +kernel
theorem d16_2_33 : decode prog_44_method_10_code 33 = .ok (.invokevirtual 115, 3) := by decide +kernel
theorem d16_2_36 : decode prog_44_method_10_code 36 = .ok (.ifCond .eq 12, 3) := by decide +kernel
theorem d16_2_48 : decode prog_44_method_10_code 48 = .ok (.iload 6, 2) := by decide +kernel
theorem d16_2_50 : decode prog_44_method_10_code 50 = .ok (.istore_n 3, 1) := by decide +kernel
theorem d16_2_51 : decode prog_44_method_10_code 51 = .ok (.iload 5, 2) := by decide +kernel
theorem d16_2_53 : decode prog_44_method_10_code 53 = .ok (.iconst 1, 1) := by decide +kernel
theorem d16_2_54 : decode prog_44_method_10_code 54 = .ok (.ishl, 1) := by decide +kernel
theorem d16_2_55 : decode prog_44_method_10_code 55 = .ok (.istore 5, 2) := by decide +kernel
theorem d16_2_57 : decode prog_44_method_10_code 57 = .ok (.goto (-46), 3) := by decide +kernel
theorem d16_2_60 : decode prog_44_method_10_code 60 = .ok (.iload 4, 2) := by decide +kernel
theorem d16_2_62 : decode prog_44_method_10_code 62 = .ok (.iload_n 3, 1) := by decide +kernel
theorem d16_2_63 : decode prog_44_method_10_code 63 = .ok (.if_icmp .ge 41, 3) := by decide +kernel
theorem d16_2_66 : decode prog_44_method_10_code 66 = .ok (.iload 4, 2) := by decide +kernel
theorem d16_2_68 : decode prog_44_method_10_code 68 = .ok (.iload_n 3, 1) := by decide +kernel
theorem d16_2_69 : decode prog_44_method_10_code 69 = .ok (.iadd, 1) := by decide +kernel
theorem d16_2_70 : decode prog_44_method_10_code 70 = .ok (.iconst 1, 1) := by decide +kernel
theorem d16_2_71 : decode prog_44_method_10_code 71 = .ok (.iushr, 1) := by decide +kernel
theorem d16_2_72 : decode prog_44_method_10_code 72 = .ok (.istore 5, 2) := by decide +kernel
theorem d16_2_74 : decode prog_44_method_10_code 74 = .ok (.aload_n 0, 1) := by decide +kernel
theorem d16_2_75 : decode prog_44_method_10_code 75 = .ok (.aload_n 0, 1) := by decide +kernel
theorem d16_2_76 : decode prog_44_method_10_code 76 = .ok (.getfield 15, 3) := by decide +kernel
theorem d16_2_79 : decode prog_44_method_10_code 79 = .ok (.iload 5, 2) := by decide +kernel
theorem d16_2_81 : decode prog_44_method_10_code 81 = .ok (.laload, 1) := by decide +kernel
theorem d16_2_82 : decode prog_44_method_10_code 82 = .ok (.lload_n 1, 1) := by decide +kernel
theorem d16_2_83 : decode prog_44_method_10_code 83 = .ok (.invokevirtual 115, 3) := by decide +kernel
theorem d16_2_86 : decode prog_44_method_10_code 86 = .ok (.ifCond .eq 12, 3) := by decide +kernel
theorem d16_2_98 : decode prog_44_method_10_code 98 = .ok (.iload 5, 2) := by decide +kernel
theorem d16_2_100 : decode prog_44_method_10_code 100 = .ok (.istore_n 3, 1) := by decide +kernel
theorem d16_2_101 : decode prog_44_method_10_code 101 = .ok (.goto (-41), 3) := by decide +kernel
theorem d16_2_104 : decode prog_44_method_10_code 104 = .ok (.iload 4, 2) := by decide +kernel
theorem d16_2_106 : decode prog_44_method_10_code 106 = .ok (.aload_n 0, 1) := by decide +kernel
theorem d16_2_107 : decode prog_44_method_10_code 107 = .ok (.getfield 63, 3) := by decide +kernel
theorem d16_2_110 : decode prog_44_method_10_code 110 = .ok (.if_icmp .ge 20, 3) := by decide +kernel
theorem d16_2_113 : decode prog_44_method_10_code 113 = .ok (.aload_n 0, 1) := by decide +kernel
theorem d16_2_114 : decode prog_44_method_10_code 114 = .ok (.getfield 15, 3) := by decide +kernel
theorem d16_2_117 : decode prog_44_method_10_code 117 = .ok (.iload 4, 2) := by decide +kernel
theorem d16_2_119 : decode prog_44_method_10_code 119 = .ok (.laload, 1) := by decide +kernel
theorem d16_2_120 : decode prog_44_method_10_code 120 = .ok (.lload_n 1, 1) := by decide +kernel
theorem d16_2_121 : decode prog_44_method_10_code 121 = .ok (.lcmp, 1) := by decide +kernel
theorem d16_2_122 : decode prog_44_method_10_code 122 = .ok (.ifCond .ne 8, 3) := by decide +kernel
theorem d16_2_125 : decode prog_44_method_10_code 125 = .ok (.iload 4, 2) := by decide +kernel
theorem d16_2_127 : decode prog_44_method_10_code 127 = .ok (.goto 8, 3) := by decide +kernel
theorem d16_2_135 : decode prog_44_method_10_code 135 = .ok (.ireturn, 1) := by decide +kernel
theorem d16_2_130 : decode prog_44_method_10_code 130 = .ok (.iload 4, 2) := by decide +kernel
theorem d16_2_132 : decode prog_44_method_10_code 132 = .ok (.ineg, 1) := by decide +kernel
theorem d16_2_133 : decode prog_44_method_10_code 133 = .ok (.iconst 1, 1) := by decide +kernel
theorem d16_2_134 : decode prog_44_method_10_code 134 = .ok (.isub, 1) := by decide +kernel
theorem d16_2_89 : decode prog_44_method_10_code 89 = .ok (.iload 5, 2) := by decide +kernel
theorem d16_2_91 : decode prog_44_method_10_code 91 = .ok (.iconst 1, 1) := by decide +kernel
theorem d16_2_92 : decode prog_44_method_10_code 92 = .ok (.iadd, 1) := by decide +kernel
theorem d16_2_93 : decode prog_44_method_10_code 93 = .ok (.istore 4, 2) := by decide +kernel
theorem d16_2_95 : decode prog_44_method_10_code 95 = .ok (.goto 6, 3) := by decide +kernel
theorem d16_2_39 : decode prog_44_method_10_code 39 = .ok (.iload 6, 2) := by decide +kernel
theorem d16_2_41 : decode prog_44_method_10_code 41 = .ok (.iconst 1, 1) := by decide +kernel
theorem d16_2_42 : decode prog_44_method_10_code 42 = .ok (.iadd, 1) := by decide +kernel
theorem d16_2_43 : decode prog_44_method_10_code 43 = .ok (.istore 4, 2) := by decide +kernel
theorem d16_2_45 : decode prog_44_method_10_code 45 = .ok (.goto 15, 3) := by decide +kernel
theorem d16_3_0 : decode prog_44_method_10_code 0 = .ok (.aload_n 0, 1) := by decide +kernel
theorem d16_3_1 : decode prog_44_method_10_code 1 = .ok (.getfield 63, 3) := by decide +kernel
theorem d16_3_4 : decode prog_44_method_10_code 4 = .ok (.istore_n 3, 1) := by decide +kernel
theorem d16_3_5 : decode prog_44_method_10_code 5 = .ok (.iconst 0, 1) := by decide +kernel
theorem d16_3_6 : decode prog_44_method_10_code 6 = .ok (.istore 4, 2) := by decide +kernel
theorem d16_3_8 : decode prog_44_method_10_code 8 = .ok (.iconst 1, 1) := by decide +kernel
theorem d16_3_9 : decode prog_44_method_10_code 9 = .ok (.istore 5, 2) := by decide +kernel
theorem d16_3_11 : decode prog_44_method_10_code 11 = .ok (.iload_n 3, 1) := by decide +kernel
theorem d16_3_12 : decode prog_44_method_10_code 12 = .ok (.iload 5, 2) := by decide +kernel
theorem d16_3_14 : decode prog_44_method_10_code 14 = .ok (.isub, 1) := by decide +kernel
theorem d16_3_15 : decode prog_44_method_10_code 15 = .ok (.ifCond .lt 45, 3) := by decide +kernel
theorem d16_3_18 : decode prog_44_method_10_code 18 = .ok (.iload_n 3, 1) := by decide +kernel
theorem d16_3_19 : decode prog_44_method_10_code 19 = .ok (.iload 5, 2) := by decide +kernel
theorem d16_3_21 : decode prog_44_method_10_code 21 = .ok (.isub, 1) := by decide +kernel
theorem d16_3_22 : decode prog_44_method_10_code 22 = .ok (.istore 6, 2) := by decide +kernel
theorem d16_3_24 : decode prog_44_method_10_code 24 = .ok (.aload_n 0, 1) := by decide +kernel
theorem d16_3_25 : decode prog_44_method_10_code 25 = .ok (.aload_n 0, 1) := by decide +kernel
theorem d16_3_26 : decode prog_44_method_10_code 26 = .ok (.getfield 15, 3) := by decide +kernel
theorem d16_3_29 : decode prog_44_method_10_code 29 = .ok (.iload 6, 2) := by decide +kernel
theorem d16_3_31 : decode prog_44_method_10_code 31 = .ok (.laload, 1) := by decide +kernel
theorem d16_3_32 : decode prog_44_method_10_code 32 = .ok (.lload_n 1, 1) := by decide +kernel
theorem d16_3_33 : decode prog_44_method_10_code 33 = .ok (.invokevirtual 115, 3) := by decide +kernel
theorem d16_3_36 : decode prog_44_method_10_code 36 = .ok (.ifCond .eq 12, 3) := by decide +kernel
theorem d16_3_48 : decode prog_44_method_10_code 48 = .ok (.iload 6, 2) := by decide +kernel
theorem d16_3_50 : decode prog_44_method_10_code 50 = .ok (.istore_n 3, 1) := by decide +kernel
theorem d16_3_51 : decode prog_44_method_10_code 51 = .ok (.iload 5, 2) := by decide +kernel
theorem d16_3_53 : decode prog_44_method_10_code 53 = .ok (.iconst 1, 1) := by decide +kernel
theorem d16_3_54 : decode prog_44_method_10_code 54 = .ok (.ishl, 1) := by decide +kernel
theorem d16_3_55 : decode prog_44_method_10_code 55 = .ok (.istore 5, 2) := by decide +kernel
theorem d16_3_57 : decode prog_44_method_10_code 57 = .ok (.goto (-46), 3) := by decide +kernel
theorem d16_3_60 : decode prog_44_method_10_code 60 = .ok (.iload 4, 2) := by decide +kernel
theorem d16_3_62 : decode prog_44_method_10_code 62 = .ok (.iload_n 3, 1) := by decide +kernel
theorem d16_3_63 : decode prog_44_method_10_code 63 = .ok (.if_icmp .ge 41, 3) := by decide +kernel
theorem d16_3_104 : decode prog_44_method_10_code 104 = .ok (.iload 4, 2) := by decide +kernel
theorem d16_3_106 : decode prog_44_method_10_code 106 = .ok (.aload_n 0, 1) := by decide +kernel
theorem d16_3_107 : decode prog_44_method_10_code 107 = .ok (.getfield 63, 3) := by decide +kernel
theorem d16_3_110 : decode prog_44_method_10_code 110 = .ok (.if_icmp .ge 20, 3) := by decide +kernel
theorem d16_3_113 : decode prog_44_method_10_code 113 = .ok (.aload_n 0, 1) := by decide +kernel
theorem d16_3_114 : decode prog_44_method_10_code 114 = .ok (.getfield 15, 3) := by decide +kernel
theorem d16_3_117 : decode prog_44_method_10_code 117 = .ok (.iload 4, 2) := by decide +kernel
theorem d16_3_119 : decode prog_44_method_10_code 119 = .ok (.laload, 1) := by decide +kernel
theorem d16_3_120 : decode prog_44_method_10_code 120 = .ok (.lload_n 1, 1) := by decide +kernel
theorem d16_3_121 : decode prog_44_method_10_code 121 = .ok (.lcmp, 1) := by decide +kernel
theorem d16_3_122 : decode prog_44_method_10_code 122 = .ok (.ifCond .ne 8, 3) := by decide +kernel
theorem d16_3_125 : decode prog_44_method_10_code 125 = .ok (.iload 4, 2) := by decide +kernel
theorem d16_3_127 : decode prog_44_method_10_code 127 = .ok (.goto 8, 3) := by decide +kernel
theorem d16_3_135 : decode prog_44_method_10_code 135 = .ok (.ireturn, 1) := by decide +kernel
theorem d16_3_130 : decode prog_44_method_10_code 130 = .ok (.iload 4, 2) := by decide +kernel
theorem d16_3_132 : decode prog_44_method_10_code 132 = .ok (.ineg, 1) := by decide +kernel
theorem d16_3_133 : decode prog_44_method_10_code 133 = .ok (.iconst 1, 1) := by decide +kernel
theorem d16_3_134 : decode prog_44_method_10_code 134 = .ok (.isub, 1) := by decide +kernel
theorem d16_3_39 : decode prog_44_method_10_code 39 = .ok (.iload 6, 2) := by decide +kernel
theorem d16_3_41 : decode prog_44_method_10_code 41 = .ok (.iconst 1, 1) := by decide +kernel
theorem d16_3_42 : decode prog_44_method_10_code 42 = .ok (.iadd, 1) := by decide +kernel
theorem d16_3_43 : decode prog_44_method_10_code 43 = .ok (.istore 4, 2) := by decide +kernel
theorem d16_3_45 : decode prog_44_method_10_code 45 = .ok (.goto 15, 3) := by decide +kernel
theorem d16_3_66 : decode prog_44_method_10_code 66 = .ok (.iload 4, 2) := by decide +kernel
theorem d16_3_68 : decode prog_44_method_10_code 68 = .ok (.iload_n 3, 1) := by decide +kernel
theorem d16_3_69 : decode prog_44_method_10_code 69 = .ok (.iadd, 1) := by decide +kernel
theorem d16_3_70 : decode prog_44_method_10_code 70 = .ok (.iconst 1, 1) := by decide +kernel
theorem d16_3_71 : decode prog_44_method_10_code 71 = .ok (.iushr, 1) := by decide +kernel
theorem d16_3_72 : decode prog_44_method_10_code 72 = .ok (.istore 5, 2) := by decide +kernel
theorem d16_3_74 : decode prog_44_method_10_code 74 = .ok (.aload_n 0, 1) := by decide +kernel
theorem d16_3_75 : decode prog_44_method_10_code 75 = .ok (.aload_n 0, 1) := by decide +kernel
theorem d16_3_76 : decode prog_44_method_10_code 76 = .ok (.getfield 15, 3) := by decide +kernel
theorem d16_3_79 : decode prog_44_method_10_code 79 = .ok (.iload 5, 2) := by decide +kernel
theorem d16_3_81 : decode prog_44_method_10_code 81 = .ok (.laload, 1) := by decide +kernel
theorem d16_3_82 : decode prog_44_method_10_code 82 = .ok (.lload_n 1, 1) := by decide +kernel
theorem d16_3_83 : decode prog_44_method_10_code 83 = .ok (.invokevirtual 115, 3) := by decide +kernel
theorem d16_3_86 : decode prog_44_method_10_code 86 = .ok (.ifCond .eq 12, 3) := by decide +kernel
theorem d16_3_98 : decode prog_44_method_10_code 98 = .ok (.iload 5, 2) := by decide +kernel
theorem d16_3_100 : decode prog_44_method_10_code 100 = .ok (.istore_n 3, 1) := by decide +kernel
theorem d16_3_101 : decode prog_44_method_10_code 101 = .ok (.goto (-41), 3) := by decide +kernel
theorem d16_3_89 : decode prog_44_method_10_code 89 = .ok (.iload 5, 2) := by decide +kernel
theorem d16_3_91 : decode prog_44_method_10_code 91 = .ok (.iconst 1, 1) := by decide +kernel
theorem d16_3_92 : decode prog_44_method_10_code 92 = .ok (.iadd, 1) := by decide +kernel
theorem d16_3_93 : decode prog_44_method_10_code 93 = .ok (.istore 4, 2) := by decide +kernel
theorem d16_3_95 : decode prog_44_method_10_code 95 = .ok (.goto 6, 3) := by decide +kernel
theorem d17_0 : decode prog_44_method_7_code 0 = .ok (.aload_n 0, 1) := by decide +kernel
theorem d17_1 : decode prog_44_method_7_code 1 = .ok (.getfield 11, 3) := by decide +kernel
theorem d17_4 : decode prog_44_method_7_code 4 = .ok (.iload_n 1, 1) := by decide +kernel
theorem d17_5 : decode prog_44_method_7_code 5 = .ok (.aload_n 0, 1) := by decide +kernel
theorem d17_6 : decode prog_44_method_7_code 6 = .ok (.getfield 11, 3) := by decide +kernel
theorem d17_9 : decode prog_44_method_7_code 9 = .ok (.iload_n 1, 1) := by decide +kernel
theorem d17_10 : decode prog_44_method_7_code 10 = .ok (.iconst 1, 1) := by decide +kernel
theorem d17_11 : decode prog_44_method_7_code 11 = .ok (.iadd, 1) := by decide +kernel
theorem d17_12 : decode prog_44_method_7_code 12 = .ok (.aload_n 0, 1) := by decide +kernel
theorem d17_13 : decode prog_44_method_7_code 13 = .ok (.getfield 63, 3) := by decide +kernel
theorem d17_16 : decode prog_44_method_7_code 16 = .ok (.iload_n 1, 1) := by decide +kernel
theorem d17_17 : decode prog_44_method_7_code 17 = .ok (.isub, 1) := by decide +kernel
theorem d17_18 : decode prog_44_method_7_code 18 = .ok (.invokestatic 102, 3) := by decide +kernel
theorem d17_21 : decode prog_44_method_7_code 21 = .ok (.aload_n 0, 1) := by decide +kernel
theorem d17_22 : decode prog_44_method_7_code 22 = .ok (.getfield 15, 3) := by decide +kernel
theorem d17_25 : decode prog_44_method_7_code 25 = .ok (.iload_n 1, 1) := by decide +kernel
theorem d17_26 : decode prog_44_method_7_code 26 = .ok (.aload_n 0, 1) := by decide +kernel
theorem d17_27 : decode prog_44_method_7_code 27 = .ok (.getfield 15, 3) := by decide +kernel
theorem d17_30 : decode prog_44_method_7_code 30 = .ok (.iload_n 1, 1) := by decide +kernel
theorem d17_31 : decode prog_44_method_7_code 31 = .ok (.iconst 1, 1) := by decide +kernel
theorem d17_32 : decode prog_44_method_7_code 32 = .ok (.iadd, 1) := by decide +kernel
theorem d17_33 : decode prog_44_method_7_code 33 = .ok (.aload_n 0, 1) := by decide +kernel
theorem d17_34 : decode prog_44_method_7_code 34 = .ok (.getfield 63, 3) := by decide +kernel
theorem d17_37 : decode prog_44_method_7_code 37 = .ok (.iload_n 1, 1) := by decide +kernel
theorem d17_38 : decode prog_44_method_7_code 38 = .ok (.isub, 1) := by decide +kernel
theorem d17_39 : decode prog_44_method_7_code 39 = .ok (.invokestatic 102, 3) := by decide +kernel
theorem d17_42 : decode prog_44_method_7_code 42 = .ok (.new 9, 3) := by decide +kernel
theorem d17_45 : decode prog_44_method_7_code 45 = .ok (.dup, 1) := by decide +kernel
theorem d17_46 : decode prog_44_method_7_code 46 = .ok (.aload_n 0, 1) := by decide +kernel
theorem d17_47 : decode prog_44_method_7_code 47 = .ok (.getfield 28, 3) := by decide +kernel
theorem d17_50 : decode prog_44_method_7_code 50 = .ok (.lload_n 2, 1) := by decide +kernel
theorem pd_oLcom_example_openvenue_openvenue_core_SideJcV : parseMethodDescriptor "(Lcom/example/openvenue/openvenue/core/Side;J)V" = some ⟨[(.object "com/example/openvenue/openvenue/core/Side"), .long], none⟩ := by decide +kernel
theorem d17_51 : decode prog_44_method_7_code 51 = .ok (.invokespecial 119, 3) := by decide +kernel
theorem d17_54 : decode prog_44_method_7_code 54 = .ok (.astore 4, 2) := by decide +kernel
theorem d17_56 : decode prog_44_method_7_code 56 = .ok (.aload_n 0, 1) := by decide +kernel
theorem d17_57 : decode prog_44_method_7_code 57 = .ok (.getfield 11, 3) := by decide +kernel
theorem d17_60 : decode prog_44_method_7_code 60 = .ok (.iload_n 1, 1) := by decide +kernel
theorem d17_61 : decode prog_44_method_7_code 61 = .ok (.aload 4, 2) := by decide +kernel
theorem d17_63 : decode prog_44_method_7_code 63 = .ok (.aastore, 1) := by decide +kernel
theorem d17_64 : decode prog_44_method_7_code 64 = .ok (.aload_n 0, 1) := by decide +kernel
theorem d17_65 : decode prog_44_method_7_code 65 = .ok (.getfield 15, 3) := by decide +kernel
theorem d17_68 : decode prog_44_method_7_code 68 = .ok (.iload_n 1, 1) := by decide +kernel
theorem d17_69 : decode prog_44_method_7_code 69 = .ok (.lload_n 2, 1) := by decide +kernel
theorem d17_70 : decode prog_44_method_7_code 70 = .ok (.lastore, 1) := by decide +kernel
theorem d17_71 : decode prog_44_method_7_code 71 = .ok (.aload_n 0, 1) := by decide +kernel
theorem d17_72 : decode prog_44_method_7_code 72 = .ok (.dup, 1) := by decide +kernel
theorem d17_73 : decode prog_44_method_7_code 73 = .ok (.getfield 63, 3) := by decide +kernel
theorem d17_76 : decode prog_44_method_7_code 76 = .ok (.iconst 1, 1) := by decide +kernel
theorem d17_77 : decode prog_44_method_7_code 77 = .ok (.iadd, 1) := by decide +kernel
theorem d17_78 : decode prog_44_method_7_code 78 = .ok (.putfield 63, 3) := by decide +kernel
theorem d17_81 : decode prog_44_method_7_code 81 = .ok (.aload 4, 2) := by decide +kernel
theorem d17_83 : decode prog_44_method_7_code 83 = .ok (.areturn, 1) := by decide +kernel
theorem d18_0 : decode prog_44_method_4_code 0 = .ok (.aload_n 0, 1) := by decide +kernel
theorem d18_1 : decode prog_44_method_4_code 1 = .ok (.lload_n 1, 1) := by decide +kernel
theorem pd_oJcZ : parseMethodDescriptor "(J)Z" = some ⟨[.long], some .boolean⟩ := by decide +kernel
theorem d18_2 : decode prog_44_method_4_code 2 = .ok (.invokevirtual 67, 3) := by decide +kernel
theorem d18_5 : decode prog_44_method_4_code 5 = .ok (.ifCond .ne 68, 3) := by decide +kernel
theorem d18_8 : decode prog_44_method_4_code 8 = .ok (.aload_n 0, 1) := by decide +kernel
theorem d18_9 : decode prog_44_method_4_code 9 = .ok (.lload_n 1, 1) := by decide +kernel
theorem pd_oJcI : parseMethodDescriptor "(J)I" = some ⟨[.long], some .int⟩ := by decide +kernel
theorem d18_10 : decode prog_44_method_4_code 10 = .ok (.invokevirtual 71, 3) := by decide +kernel
theorem d18_13 : decode prog_44_method_4_code 13 = .ok (.istore_n 3, 1) := by decide +kernel
theorem d18_14 : decode prog_44_method_4_code 14 = .ok (.iload_n 3, 1) := by decide +kernel
theorem d18_15 : decode prog_44_method_4_code 15 = .ok (.ifCond .lt 10, 3) := by decide +kernel
theorem d18_25 : decode prog_44_method_4_code 25 = .ok (.aload_n 0, 1) := by decide +kernel
theorem d18_26 : decode prog_44_method_4_code 26 = .ok (.getfield 63, 3) := by decide +kernel
theorem d18_29 : decode prog_44_method_4_code 29 = .ok (.aload_n 0, 1) := by decide +kernel
theorem d18_30 : decode prog_44_method_4_code 30 = .ok (.getfield 11, 3) := by decide +kernel
theorem d18_33 : decode prog_44_method_4_code 33 = .ok (.arraylength, 1) := by decide +kernel
theorem d18_34 : decode prog_44_method_4_code 34 = .ok (.if_icmp .ge 13, 3) := by decide +kernel
theorem d18_37 : decode prog_44_method_4_code 37 = .ok (.aload_n 0, 1) := by decide +kernel
theorem d18_38 : decode prog_44_method_4_code 38 = .ok (.iload_n 3, 1) := by decide +kernel
theorem d18_39 : decode prog_44_method_4_code 39 = .ok (.ineg, 1) := by decide +kernel
theorem d18_40 : decode prog_44_method_4_code 40 = .ok (.iconst 1, 1) := by decide +kernel
theorem d18_41 : decode prog_44_method_4_code 41 = .ok (.isub, 1) := by decide +kernel
theorem d18_42 : decode prog_44_method_4_code 42 = .ok (.lload_n 1, 1) := by decide +kernel
theorem pd_oIJcLcom_example_openvenue_openvenue_core_PriceLevel : parseMethodDescriptor "(IJ)Lcom/example/openvenue/openvenue/core/PriceLevel;" = some ⟨[.int, .long], some (.object "com/example/openvenue/openvenue/core/PriceLevel")⟩ := by decide +kernel
theorem d18_43 : decode prog_44_method_4_code 43 = .ok (.invokevirtual 75, 3) := by decide +kernel
theorem d18_46 : decode prog_44_method_4_code 46 = .ok (.areturn, 1) := by decide +kernel
theorem d18_18 : decode prog_44_method_4_code 18 = .ok (.aload_n 0, 1) := by decide +kernel
theorem d18_19 : decode prog_44_method_4_code 19 = .ok (.getfield 11, 3) := by decide +kernel
theorem d18_22 : decode prog_44_method_4_code 22 = .ok (.iload_n 3, 1) := by decide +kernel
theorem d18_23 : decode prog_44_method_4_code 23 = .ok (.aaload, 1) := by decide +kernel
theorem d18_24 : decode prog_44_method_4_code 24 = .ok (.areturn, 1) := by decide +kernel
theorem d19_0 : decode prog_44_method_2_code 0 = .ok (.aload_n 0, 1) := by decide +kernel
theorem d19_1 : decode prog_44_method_2_code 1 = .ok (.getfield 63, 3) := by decide +kernel
theorem d19_4 : decode prog_44_method_2_code 4 = .ok (.ifCond .ne 7, 3) := by decide +kernel
theorem d19_7 : decode prog_44_method_2_code 7 = .ok (.aconst_null, 1) := by decide +kernel
theorem d19_8 : decode prog_44_method_2_code 8 = .ok (.goto 14, 3) := by decide +kernel
theorem d19_22 : decode prog_44_method_2_code 22 = .ok (.areturn, 1) := by decide +kernel
theorem d19_11 : decode prog_44_method_2_code 11 = .ok (.aload_n 0, 1) := by decide +kernel
theorem d19_12 : decode prog_44_method_2_code 12 = .ok (.getfield 11, 3) := by decide +kernel
theorem d19_15 : decode prog_44_method_2_code 15 = .ok (.aload_n 0, 1) := by decide +kernel
theorem d19_16 : decode prog_44_method_2_code 16 = .ok (.getfield 63, 3) := by decide +kernel
theorem d19_19 : decode prog_44_method_2_code 19 = .ok (.iconst 1, 1) := by decide +kernel
theorem d19_20 : decode prog_44_method_2_code 20 = .ok (.isub, 1) := by decide +kernel
theorem d19_21 : decode prog_44_method_2_code 21 = .ok (.aaload, 1) := by decide +kernel
theorem d20_0 : decode prog_44_method_5_code 0 = .ok (.aload_n 0, 1) := by decide +kernel
theorem d20_1 : decode prog_44_method_5_code 1 = .ok (.aload_n 1, 1) := by decide +kernel
theorem pd_ocJ : parseMethodDescriptor "()J" = some ⟨[], some .long⟩ := by decide +kernel
theorem d20_2 : decode prog_44_method_5_code 2 = .ok (.invokevirtual 94, 3) := by decide +kernel
theorem d20_5 : decode prog_44_method_5_code 5 = .ok (.invokevirtual 67, 3) := by decide +kernel
theorem d20_8 : decode prog_44_method_5_code 8 = .ok (.ifCond .eq 21, 3) := by decide +kernel
theorem d20_29 : decode prog_44_method_5_code 29 = .ok (.aload_n 0, 1) := by decide +kernel
theorem d20_30 : decode prog_44_method_5_code 30 = .ok (.getfield 11, 3) := by decide +kernel
theorem d20_33 : decode prog_44_method_5_code 33 = .ok (.aload_n 0, 1) := by decide +kernel
theorem d20_34 : decode prog_44_method_5_code 34 = .ok (.getfield 63, 3) := by decide +kernel
theorem d20_37 : decode prog_44_method_5_code 37 = .ok (.iconst 1, 1) := by decide +kernel
theorem d20_38 : decode prog_44_method_5_code 38 = .ok (.isub, 1) := by decide +kernel
theorem d20_39 : decode prog_44_method_5_code 39 = .ok (.aaload, 1) := by decide +kernel
theorem d20_40 : decode prog_44_method_5_code 40 = .ok (.aload_n 1, 1) := by decide +kernel
theorem d20_41 : decode prog_44_method_5_code 41 = .ok (.if_acmp .ne 12, 3) := by decide +kernel
theorem d20_44 : decode prog_44_method_5_code 44 = .ok (.aload_n 0, 1) := by decide +kernel
theorem d20_45 : decode prog_44_method_5_code 45 = .ok (.getfield 63, 3) := by decide +kernel
theorem d20_48 : decode prog_44_method_5_code 48 = .ok (.iconst 1, 1) := by decide +kernel
theorem d20_49 : decode prog_44_method_5_code 49 = .ok (.isub, 1) := by decide +kernel
theorem d20_50 : decode prog_44_method_5_code 50 = .ok (.goto 11, 3) := by decide +kernel
theorem d20_61 : decode prog_44_method_5_code 61 = .ok (.istore_n 2, 1) := by decide +kernel
theorem d20_62 : decode prog_44_method_5_code 62 = .ok (.aload_n 0, 1) := by decide +kernel
theorem d20_63 : decode prog_44_method_5_code 63 = .ok (.getfield 11, 3) := by decide +kernel
theorem d20_66 : decode prog_44_method_5_code 66 = .ok (.iload_n 2, 1) := by decide +kernel
theorem d20_67 : decode prog_44_method_5_code 67 = .ok (.iconst 1, 1) := by decide +kernel
theorem d20_68 : decode prog_44_method_5_code 68 = .ok (.iadd, 1) := by decide +kernel
theorem d20_69 : decode prog_44_method_5_code 69 = .ok (.aload_n 0, 1) := by decide +kernel
theorem d20_70 : decode prog_44_method_5_code 70 = .ok (.getfield 11, 3) := by decide +kernel
theorem d20_73 : decode prog_44_method_5_code 73 = .ok (.iload_n 2, 1) := by decide +kernel
theorem d20_74 : decode prog_44_method_5_code 74 = .ok (.aload_n 0, 1) := by decide +kernel
theorem d20_75 : decode prog_44_method_5_code 75 = .ok (.getfield 63, 3) := by decide +kernel
theorem d20_78 : decode prog_44_method_5_code 78 = .ok (.iload_n 2, 1) := by decide +kernel
theorem d20_79 : decode prog_44_method_5_code 79 = .ok (.isub, 1) := by decide +kernel
theorem d20_80 : decode prog_44_method_5_code 80 = .ok (.iconst 1, 1) := by decide +kernel
theorem d20_81 : decode prog_44_method_5_code 81 = .ok (.isub, 1) := by decide +kernel
theorem d20_82 : decode prog_44_method_5_code 82 = .ok (.invokestatic 102, 3) := by decide +kernel
theorem d20_85 : decode prog_44_method_5_code 85 = .ok (.aload_n 0, 1) := by decide +kernel
theorem d20_86 : decode prog_44_method_5_code 86 = .ok (.getfield 15, 3) := by decide +kernel
theorem d20_89 : decode prog_44_method_5_code 89 = .ok (.iload_n 2, 1) := by decide +kernel
theorem d20_90 : decode prog_44_method_5_code 90 = .ok (.iconst 1, 1) := by decide +kernel
theorem d20_91 : decode prog_44_method_5_code 91 = .ok (.iadd, 1) := by decide +kernel
theorem d20_92 : decode prog_44_method_5_code 92 = .ok (.aload_n 0, 1) := by decide +kernel
theorem d20_93 : decode prog_44_method_5_code 93 = .ok (.getfield 15, 3) := by decide +kernel
theorem d20_96 : decode prog_44_method_5_code 96 = .ok (.iload_n 2, 1) := by decide +kernel
theorem d20_97 : decode prog_44_method_5_code 97 = .ok (.aload_n 0, 1) := by decide +kernel
theorem d20_98 : decode prog_44_method_5_code 98 = .ok (.getfield 63, 3) := by decide +kernel
theorem d20_101 : decode prog_44_method_5_code 101 = .ok (.iload_n 2, 1) := by decide +kernel
theorem d20_102 : decode prog_44_method_5_code 102 = .ok (.isub, 1) := by decide +kernel
theorem d20_103 : decode prog_44_method_5_code 103 = .ok (.iconst 1, 1) := by decide +kernel
theorem d20_104 : decode prog_44_method_5_code 104 = .ok (.isub, 1) := by decide +kernel
theorem d20_105 : decode prog_44_method_5_code 105 = .ok (.invokestatic 102, 3) := by decide +kernel
theorem d20_108 : decode prog_44_method_5_code 108 = .ok (.aload_n 0, 1) := by decide +kernel
theorem d20_109 : decode prog_44_method_5_code 109 = .ok (.getfield 11, 3) := by decide +kernel
theorem d20_112 : decode prog_44_method_5_code 112 = .ok (.aload_n 0, 1) := by decide +kernel
theorem d20_113 : decode prog_44_method_5_code 113 = .ok (.dup, 1) := by decide +kernel
theorem d20_114 : decode prog_44_method_5_code 114 = .ok (.getfield 63, 3) := by decide +kernel
theorem d20_117 : decode prog_44_method_5_code 117 = .ok (.iconst 1, 1) := by decide +kernel
theorem d20_118 : decode prog_44_method_5_code 118 = .ok (.isub, 1) := by decide +kernel
theorem d20_119 : decode prog_44_method_5_code 119 = .ok (.dup_x1, 1) := by decide +kernel
theorem d20_120 : decode prog_44_method_5_code 120 = .ok (.putfield 63, 3) := by decide +kernel
theorem d20_123 : decode prog_44_method_5_code 123 = .ok (.aconst_null, 1) := by decide +kernel
theorem d20_124 : decode prog_44_method_5_code 124 = .ok (.aastore, 1) := by decide +kernel
theorem d20_125 : decode prog_44_method_5_code 125 = .ok (.aload_n 0, 1) := by decide +kernel
theorem d20_126 : decode prog_44_method_5_code 126 = .ok (.getfield 63, 3) := by decide +kernel
theorem d20_129 : decode prog_44_method_5_code 129 = .ok (.ifCond .ne 19, 3) := by decide +kernel
theorem d20_132 : decode prog_44_method_5_code 132 = .ok (.aload_n 0, 1) := by decide +kernel
theorem d20_133 : decode prog_44_method_5_code 133 = .ok (.getfield 51, 3) := by decide +kernel
theorem d20_136 : decode prog_44_method_5_code 136 = .ok (.invokeinterface 108 1, 5) := by decide +kernel
theorem d20_141 : decode prog_44_method_5_code 141 = .ok (.ifCond .ne 7, 3) := by decide +kernel
theorem d20_148 : decode prog_44_method_5_code 148 = .ok (.return_, 1) := by decide +kernel
theorem d20_53 : decode prog_44_method_5_code 53 = .ok (.aload_n 0, 1) := by decide +kernel
theorem d20_54 : decode prog_44_method_5_code 54 = .ok (.aload_n 1, 1) := by decide +kernel
theorem d20_55 : decode prog_44_method_5_code 55 = .ok (.invokevirtual 94, 3) := by decide +kernel
theorem d20_58 : decode prog_44_method_5_code 58 = .ok (.invokevirtual 71, 3) := by decide +kernel
theorem d21_0 : decode prog_44_method_1_code 0 = .ok (.aload_n 0, 1) := by decide +kernel
theorem d21_1 : decode prog_44_method_1_code 1 = .ok (.invokespecial 1, 3) := by decide +kernel
theorem d21_4 : decode prog_44_method_1_code 4 = .ok (.aload_n 0, 1) := by decide +kernel
theorem d21_5 : decode prog_44_method_1_code 5 = .ok (.sipush 256, 3) := by decide +kernel
theorem d21_8 : decode prog_44_method_1_code 8 = .ok (.anewarray 9, 3) := by decide +kernel
theorem d21_11 : decode prog_44_method_1_code 11 = .ok (.putfield 11, 3) := by decide +kernel
theorem d21_14 : decode prog_44_method_1_code 14 = .ok (.aload_n 0, 1) := by decide +kernel
theorem d21_15 : decode prog_44_method_1_code 15 = .ok (.sipush 256, 3) := by decide +kernel
theorem d21_18 : decode prog_44_method_1_code 18 = .ok (.newarray .long, 2) := by decide +kernel
theorem d21_20 : decode prog_44_method_1_code 20 = .ok (.putfield 15, 3) := by decide +kernel
theorem d21_23 : decode prog_44_method_1_code 23 = .ok (.aload_n 0, 1) := by decide +kernel
theorem d21_24 : decode prog_44_method_1_code 24 = .ok (.new 19, 3) := by decide +kernel
theorem d21_27 : decode prog_44_method_1_code 27 = .ok (.dup, 1) := by decide +kernel
theorem d21_28 : decode prog_44_method_1_code 28 = .ok (.aload_n 0, 1) := by decide +kernel
theorem pd_oLcom_example_openvenue_openvenue_core_BookSidecV : parseMethodDescriptor "(Lcom/example/openvenue/openvenue/core/BookSide;)V" = some ⟨[(.object "com/example/openvenue/openvenue/core/BookSide")], none⟩ := by decide +kernel
theorem d21_29 : decode prog_44_method_1_code 29 = .ok (.invokespecial 21, 3) := by decide +kernel
theorem d21_32 : decode prog_44_method_1_code 32 = .ok (.putfield 24, 3) := by decide +kernel
theorem d21_35 : decode prog_44_method_1_code 35 = .ok (.aload_n 0, 1) := by decide +kernel
theorem d21_36 : decode prog_44_method_1_code 36 = .ok (.aload_n 1, 1) := by decide +kernel
theorem d21_37 : decode prog_44_method_1_code 37 = .ok (.putfield 28, 3) := by decide +kernel
theorem d21_40 : decode prog_44_method_1_code 40 = .ok (.aload_n 1, 1) := by decide +kernel
theorem d21_41 : decode prog_44_method_1_code 41 = .ok (.getstatic 32, 3) := by decide +kernel
theorem d21_44 : decode prog_44_method_1_code 44 = .ok (.if_acmp .ne 9, 3) := by decide +kernel
theorem d21_47 : decode prog_44_method_1_code 47 = .ok (.invokestatic 37, 3) := by decide +kernel
theorem d21_50 : decode prog_44_method_1_code 50 = .ok (.goto 6, 3) := by decide +kernel
theorem d21_56 : decode prog_44_method_1_code 56 = .ok (.astore_n 2, 1) := by decide +kernel
theorem d21_57 : decode prog_44_method_1_code 57 = .ok (.aload_n 0, 1) := by decide +kernel
theorem d21_58 : decode prog_44_method_1_code 58 = .ok (.new 46, 3) := by decide +kernel
theorem d21_61 : decode prog_44_method_1_code 61 = .ok (.dup, 1) := by decide +kernel
theorem d21_62 : decode prog_44_method_1_code 62 = .ok (.aload_n 2, 1) := by decide +kernel
theorem pd_oLjava_util_ComparatorcV : parseMethodDescriptor "(Ljava/util/Comparator;)V" = some ⟨[(.object "java/util/Comparator")], none⟩ := by decide +kernel
theorem d21_63 : decode prog_44_method_1_code 63 = .ok (.invokespecial 48, 3) := by decide +kernel
theorem d21_66 : decode prog_44_method_1_code 66 = .ok (.putfield 51, 3) := by decide +kernel
theorem d21_69 : decode prog_44_method_1_code 69 = .ok (.aload_n 0, 1) := by decide +kernel
theorem d21_70 : decode prog_44_method_1_code 70 = .ok (.aload_n 1, 1) := by decide +kernel
theorem d21_71 : decode prog_44_method_1_code 71 = .ok (.invokedynamic 55, 5) := by decide +kernel
theorem own_cap : Jvm.LamKit.capOK (Jvm.Lambda.Shape.mk "java/util/function/Function" "apply" (Jvm.ClassFile.MethodDescriptor.mk ([(Jvm.ClassFile.FieldType.object "java/lang/Object")] : List Jvm.ClassFile.FieldType) (Option.some (Jvm.ClassFile.FieldType.object "java/lang/Object"))) ([(Jvm.ClassFile.FieldType.object "com/example/openvenue/openvenue/core/Side")] : List Jvm.ClassFile.FieldType) (6 : Nat) "com/example/openvenue/openvenue/core/BookSide" "lambda$new$0" (Jvm.ClassFile.MethodDescriptor.mk ([(Jvm.ClassFile.FieldType.object "com/example/openvenue/openvenue/core/Side"), (Jvm.ClassFile.FieldType.object "java/lang/Long")] : List Jvm.ClassFile.FieldType) (Option.some (Jvm.ClassFile.FieldType.object "com/example/openvenue/openvenue/core/PriceLevel"))) false (Jvm.ClassFile.MethodDescriptor.mk ([(Jvm.ClassFile.FieldType.object "java/lang/Long")] : List Jvm.ClassFile.FieldType) (Option.some (Jvm.ClassFile.FieldType.object "com/example/openvenue/openvenue/core/PriceLevel")))) "com/example/openvenue/openvenue/core/BookSide" 15 0 = true := by decide +kernel
theorem d21_76 : decode prog_44_method_1_code 76 = .ok (.putfield 59, 3) := by decide +kernel
theorem d21_79 : decode prog_44_method_1_code 79 = .ok (.return_, 1) := by decide +kernel
theorem d21_53 : decode prog_44_method_1_code 53 = .ok (.invokestatic 43, 3) := by decide +kernel
theorem pd_oLcom_example_openvenue_openvenue_core_SidecV : parseMethodDescriptor "(Lcom/example/openvenue/openvenue/core/Side;)V" = some ⟨[(.object "com/example/openvenue/openvenue/core/Side")], none⟩ := by decide +kernel
theorem pd_oJcLcom_example_openvenue_openvenue_core_PriceLevel : parseMethodDescriptor "(J)Lcom/example/openvenue/openvenue/core/PriceLevel;" = some ⟨[.long], some (.object "com/example/openvenue/openvenue/core/PriceLevel")⟩ := by decide +kernel
theorem pd_oLcom_example_openvenue_openvenue_core_PriceLevelcV : parseMethodDescriptor "(Lcom/example/openvenue/openvenue/core/PriceLevel;)V" = some ⟨[(.object "com/example/openvenue/openvenue/core/PriceLevel")], none⟩ := by decide +kernel
theorem pd_oLcom_example_openvenue_openvenue_core_SideJJcZ : parseMethodDescriptor "(Lcom/example/openvenue/openvenue/core/Side;JJ)Z" = some ⟨[(.object "com/example/openvenue/openvenue/core/Side"), .long, .long], some .boolean⟩ := by decide +kernel
theorem pd_ocLcom_example_openvenue_openvenue_core_PriceLevel : parseMethodDescriptor "()Lcom/example/openvenue/openvenue/core/PriceLevel;" = some ⟨[], some (.object "com/example/openvenue/openvenue/core/PriceLevel")⟩ := by decide +kernel
theorem own_selp {s : State} {args : Array Value} {y : MethodName} {n : Nat} (hi : (Cond.instantiable y.cls n).before args s = true) (hp : (Cond.privateMethod y).before args s = true) (hinst : (Cond.instanceMethod y).before args s = true) (hy : y.cls ≠ "java/lang/invoke/MethodHandle" ∧ y.cls ≠ "java/lang/invoke/VarHandle") :
  (Cond.selects y.cls y y).before args s = true := by
 obtain ⟨c, k, h1, h2, -⟩ := Cond.instantiable_spec hi
 have h3 : k.isInterface = false := by
  have q := hi
  simp only [Cond.before, Cond.holds, Cond.value, h1, h2, Option.bind_some, Option.map_some, beq_iff_eq, Option.some.injEq, Bool.and_eq_true, Bool.not_eq_true', Bool.or_eq_false_iff] at q
  exact q.1.1.2.1
 exact selects_self_of_private h1 h2 h3 (Cond.privateMethod_at hp) hinst hy
theorem own_notFace {s : State} {args : Array Value} {C : String} {x y z : MethodName} (hsel : (Cond.selects C x z).before args s = true) (hz : z.cls = y.cls) : NotFace s y := fun r0 h0 => by
 obtain ⟨c2, r2, m2, -, -, q3, -, kP, hkP, hkPi⟩ := Cond.selects_spec hsel
 have e1 := findClass_of_methodNamed q3
 rw [hz, findClass_of_methodNamed h0] at e1
 rw [Option.some.inj e1]
 exact ⟨kP, hkP, hkPi⟩
theorem own_arvne {Z : State} {h : Heap} {a b : Addr} {k1 k2 : ClassId} {C : String} {z1 z2 : Int32} {v1 v2 : List Value} {d1 d2 : Value} (A : Arv Z h a k1 (.object C) z1 v1 d1) (B : Arv Z h b k2 .long z2 v2 d2) : a ≠ b := fun q => by
 subst q
 obtain ⟨c1, A1, -⟩ := A
 obtain ⟨c2, B1, -⟩ := B
 cases A1.1.symm.trans B1.1
 obtain ⟨-, k, hk, comp, hkind⟩ := A1.2.1
 obtain ⟨-, k', hk', comp', hkind'⟩ := B1.2.1
 cases hk.symm.trans hk'
 rw [hkind] at hkind'
 cases hkind'
def ky (sd wB : Addr) (x : Int64) : Int := if sd = wB then x.toInt else - x.toInt
def Srt (sd wB : Addr) (xs : List Int64) : Prop := xs.Pairwise (fun u v => ky sd wB u < ky sd wB v)
theorem ky_inj {sd wB : Addr} {x y : Int64} (h : ky sd wB x = ky sd wB y) : x = y := by
 unfold ky at h
 split at h
 ·exact Int64.toInt_inj.mp h
 ·exact Int64.toInt_inj.mp (by omega)
theorem ky_ne {sd wB : Addr} {x y : Int64} (h : ky sd wB x < ky sd wB y) : Value.long x ≠ Value.long y := fun q => by
 cases q; omega
theorem srt0 {sd wB : Addr} : Srt sd wB [] := List.Pairwise.nil
theorem srt1 {sd wB : Addr} {x : Int64} : Srt sd wB [x] := by simp [Srt]
theorem srt2 {sd wB : Addr} {x y : Int64} (h : ky sd wB x < ky sd wB y) : Srt sd wB [x, y] := by simp [Srt, h]
theorem srt3 {sd wB : Addr} {x y z : Int64} (h : ky sd wB x < ky sd wB y) (h' : ky sd wB y < ky sd wB z) : Srt sd wB [x, y, z] := by simp [Srt, h, h']; omega
theorem srt2' {sd wB : Addr} {x y : Int64} (h : Srt sd wB [x, y]) : ky sd wB x < ky sd wB y := by simpa [Srt] using h
theorem srt3' {sd wB : Addr} {x y z : Int64} (h : Srt sd wB [x, y, z]) : ky sd wB x < ky sd wB y ∧ ky sd wB y < ky sd wB z := by
 simp [Srt] at h; exact ⟨h.1.1, h.2⟩
def bst (L : List (Addr × Int64)) : Value := match L.getLast? with | none => .null | some q => .ref q.1
theorem bst_isRef (L : List (Addr × Int64)) : (bst L).isRef = true := by unfold bst; split <;> rfl
theorem own_nil {L : List (Addr × Int64)} (h : ∀ q, q ∉ L) : bst L = .null := by
 cases L with
 | nil => rfl
 | cons a r => exact absurd (List.mem_cons_self) (h a)
theorem own_last {sd wB : Addr} : ∀ {L : List (Addr × Int64)} {q : Addr × Int64}, Srt sd wB (L.map Prod.snd) → q ∈ L → (∀ r ∈ L, ¬ ky sd wB q.2 < ky sd wB r.2) → bst L = .ref q.1
 | [], _, _, h, _ => nomatch h
 | [a], q, _, h, _ => by cases List.mem_singleton.mp h; rfl
 | a :: b :: r, q, hs, h, hb => by
  have hs' : Srt sd wB ((b :: r).map Prod.snd) := by unfold Srt at hs ⊢; exact (List.pairwise_cons.mp hs).2
  have hab : ky sd wB a.2 < ky sd wB b.2 := by unfold Srt at hs; exact (List.pairwise_cons.mp hs).1 b.2 (by simp)
  have e : bst (a :: b :: r) = bst (b :: r) := by simp [bst, List.getLast?_cons_cons]
  rw [e]
  rcases List.mem_cons.mp h with rfl | h'
  ·exact absurd hab (hb b (by simp))
  ·exact own_last hs' h' (fun z hz => hb z (List.mem_cons_of_mem _ hz))
theorem own_and3 (x : Int32) : x &&& 3 = 0 ∨ x &&& 3 = 1 ∨ x &&& 3 = 2 ∨ x &&& 3 = 3 := by
 have h : (x &&& 3).toBitVec.toNat < 4 := by
  have : (x &&& 3).toBitVec = x.toBitVec &&& 3#32 := rfl
  rw [this, BitVec.toNat_and]
  exact Nat.lt_succ_of_le (Nat.and_le_right)
 have key : ∀ k : Nat, k < 4 → (x &&& 3).toBitVec.toNat = k → (x &&& 3) = Int32.ofNat k := fun k hk e => by
  apply Int32.toBitVec_inj.mp
  apply BitVec.eq_of_toNat_eq
  rw [e]
  have : (Int32.ofNat k).toBitVec = BitVec.ofNat 32 k := rfl
  rw [this, BitVec.toNat_ofNat]; omega
 generalize e : (x &&& 3).toBitVec.toNat = k at h
 have q := key k h e
 rcases k with _ | _ | _ | _ | k
 ·exact Or.inl q
 ·exact Or.inr (Or.inl q)
 ·exact Or.inr (Or.inr (Or.inl q))
 ·exact Or.inr (Or.inr (Or.inr q))
 ·omega
theorem own_mvFace {Z s : State} {a0 args : Array Value} {r o n d : String} (hZ : Z.Warmed39 s.vm) (h : (Cond.interfaceMethod r o n d).before a0 Z = true) : (Cond.interfaceMethod r o n d).before args s = true := by
 obtain ⟨c, k, m, h1, h2, h3, h4, h5⟩ := Cond.interfaceMethod_spec h
 have A := hZ.alike
 obtain ⟨k', h2', he⟩ := A.2.2 _ _ h2
 have q1 : s.vm.findClass r = some c := by rw [A.findClass]; exact h1
 have q4 : s.methodFound? r n d = some m := by
  have q : (Z.setVm s.vm).methodFound? r n d = some m := by rw [State.methodFound?_setVm A]; exact h4
  exact q
 have q5 : s.methodNamed? ⟨o, n, d⟩ = some m := by
  have q : (Z.setVm s.vm).methodNamed? ⟨o, n, d⟩ = some m := by rw [State.methodNamed?_setVm A]; exact h5
  exact q
 have q6 : k'.isInterface = true := by rw [he]; exact h3
 simp [Cond.before, Cond.holds, Cond.value, q1, q4, q5, h2', q6]
theorem own_mvRef {Z s : State} {a0 args : Array Value} {cls : String} {i : Nat} {y : MethodName} (hZ : Z.Warmed39 s.vm) (hinst : (Cond.instanceMethod y).before a0 Z = true) (hy : y.cls ≠ "java/lang/invoke/MethodHandle" ∧ y.cls ≠ "java/lang/invoke/VarHandle") (h : (Cond.methodRef cls i y).before a0 Z = true) : (Cond.methodRef cls i y).before args s = true := by
 obtain ⟨mk, _, hn, _⟩ := Cond.instanceMethod_spec hinst
 have q := Cond.methodRef_warmed39 hZ hn hy h
 simp only [Cond.before, Cond.holds, Cond.value] at q ⊢
 exact q
theorem lv0 {P : Addr × Int64 → Prop} : ∀ q ∈ ([] : List (Addr × Int64)), P q := fun _ h => nomatch h
theorem lvS {P : Addr × Int64 → Prop} {a : Addr × Int64} {r : List (Addr × Int64)} (h : P a) (t : ∀ q ∈ r, P q) : ∀ q ∈ a :: r, P q := fun q hq => (List.mem_cons.mp hq).elim (fun e => e ▸ h) (t q)
theorem own_in {v rm : Int32} {x gn : Int64} (h : v = (if rm = (0 : Int32) then (1 : Int32) else (if x = gn then (0 : Int32) else (1 : Int32)))) : v = 0 ↔ (rm ≠ 0 ∧ x = gn) := by
 rw [h]
 by_cases h1 : rm = 0
 ·simp [h1]
 ·by_cases h2 : x = gn <;> simp [h1, h2]

def Q1 (Z : State) (a0 : Addr) (xv : Int64) (h0 : Heap) (n0 : Nat) (v : Option Value) (h : Heap) (L : List Loc) : Prop := v = some (.long xv) ∧ L = [] ∧ h = h0
theorem ef1 (m : MethodId) (a0 : Addr) : entryFrame m #[(.ref a0)] 1 = mkF m 0 #[(sR a0)] [] := by first | (simp [entryFrame, mkF, argsToLocals, Value.category]; done) | rfl
set_option maxRecDepth 65536 in
set_option maxHeartbeats 40000000 in
theorem rm1 (l : Launch) (Z : State) (aa : Array Value) (hw : ∀ d ∈ tables_1, d.before aa Z = true) (ws : List Jvm.Cond) (a0 : Addr) (xv : Int64) (h0 : Heap) (n0 : Nat) (O0 : Old Z n0 h0) (E_a0 : Exa Z h0 a0 "com/example/openvenue/openvenue/core/PriceLevel") (F_a0_price : Fld Z h0 a0 "com/example/openvenue/openvenue/core/PriceLevel" "price" "J" (.long xv)) :
  MetFree l mn0 (head1 (Jvm.Cond.code mn0 prog_90_method_3_code 1 (some .long) :: ws) ({ frames := 0, cells := 0, slots := 0, locals := 0 } : Room)) (fun a U => a = #[(.ref a0)] ∧ Z.Warmed39 U.vm ∧ U.heap = h0) (fun _ _ _ _ _ => True) (fun _ U o U' => ∃ v L, o = .returned v ∧ Q1 Z a0 xv h0 n0 v U'.heap L ∧ FrameEnd U o U' L ({ frames := 0, cells := 0, slots := 0, locals := 0 } : Room).cells ({ frames := 0, cells := 0, slots := 0, locals := 0 } : Room).slots) := by
 refine MetFree.of_bodySF (plainFor_of_name pn_com_example_openvenue_openvenue_core_PriceLevel) hisR ?_
 intro p e s m args below meth c s₁ Bd hml0 hP hK
 obtain ⟨rfl, hZ, hh⟩ := hP
 have hx := Bd.exec
 have hby := Bd.bytes
 have hlk := Bd.notSynchronized
 have hml : c.maxLocals = 1 := hml0
 have hown : s.vm.findClass "com/example/openvenue/openvenue/core/PriceLevel" = some m.cls := findClass_of_methodNamed Bd.named
 have hnm := (name_of_methodNamed Bd.named Bd.method).1
 have X0 : Stand p l e ({ frames := 0, cells := 0, slots := 0, locals := 0 } : Room) s m #[(.ref a0)] below meth c s₁ [] 0 0 := Stand.of_body Bd
 have e0 : s₁.heap = h0 := by rw [← hh, Bd.state]; rfl
 have N0 := Fr.nil n0
 show Gl p e below (Ret s 0 0 (Q1 Z a0 xv h0 n0)) (s₁.setTop (entryFrame m #[(.ref a0)] 1))
 rw [ef1 m a0]
 obtain ⟨args, hargs⟩ : ∃ z : Array Value, z = #[(.ref a0)] := ⟨_, rfl⟩
 rw [← hargs] at X0
 refine gu (s₁.setTop (mkF m 1 #[(sR a0)] [(.ref a0)])) (fun t kt => ?_) ?_
 ·refine XS.aloadN X0.here hx rfl (hb hby d1_0) rfl rfl ?_
  exact kt
 obtain ⟨T1, X1, e1, st1⟩ := getF X0 hx hZ hown (host := "") (Or.inl (hw _ (ix 142 rfl))) Via.refl e0 F_a0_price (g := (mkF m 1 #[(sR a0)] [(.ref a0)])) rfl rfl (hb hby d1_1)
 refine gu (T1.setTop (mkF m 4 #[(sR a0)] [(.long xv)])) (fun t kt => st1 _ kt) ?_
 refine Gl.retJ X1 hx hlk Bd.returns (hb hby d1_4) ?_ (by decide) (by decide)
 exact ⟨rfl, rfl, e1⟩
def Q2 (Z : State) (a0 : Addr) (h0 : Heap) (n0 : Nat) (v : Option Value) (h : Heap) (L : List Loc) : Prop := v = none ∧ L = [] ∧ h = h0
theorem ef2 (m : MethodId) (a0 : Addr) : entryFrame m #[(.ref a0)] 1 = mkF m 0 #[(sR a0)] [] := by first | (simp [entryFrame, mkF, argsToLocals, Value.category]; done) | rfl
set_option maxRecDepth 65536 in
set_option maxHeartbeats 40000000 in
theorem rm2 (l : Launch) (Z : State) (aa : Array Value) (hw : ∀ d ∈ tables_1, d.before aa Z = true) (ws : List Jvm.Cond) (a0 : Addr) (h0 : Heap) (n0 : Nat) (O0 : Old Z n0 h0)  :
  MetFree l mn1 (head1 (Jvm.Cond.code mn1 prog_92_method_1_code 1 none :: ws) ({ frames := 1, cells := 0, slots := 0, locals := 12 } : Room)) (fun a U => a = #[(.ref a0)] ∧ Z.Warmed39 U.vm ∧ U.heap = h0) (fun _ _ _ _ _ => True) (fun _ U o U' => ∃ v L, o = .returned v ∧ Q2 Z a0 h0 n0 v U'.heap L ∧ FrameEnd U o U' L ({ frames := 1, cells := 0, slots := 0, locals := 12 } : Room).cells ({ frames := 1, cells := 0, slots := 0, locals := 12 } : Room).slots) := by
 refine MetFree.of_bodySF (plainFor_of_name pn_com_example_openvenue_openvenue_core_QuantityTotal) hisR ?_
 intro p e s m args below meth c s₁ Bd hml0 hP hK
 obtain ⟨rfl, hZ, hh⟩ := hP
 have hx := Bd.exec
 have hby := Bd.bytes
 have hlk := Bd.notSynchronized
 have hml : c.maxLocals = 1 := hml0
 have hown : s.vm.findClass "com/example/openvenue/openvenue/core/QuantityTotal" = some m.cls := findClass_of_methodNamed Bd.named
 have hnm := (name_of_methodNamed Bd.named Bd.method).1
 have X0 : Stand p l e ({ frames := 1, cells := 0, slots := 0, locals := 12 } : Room) s m #[(.ref a0)] below meth c s₁ [] 0 0 := Stand.of_body Bd
 have e0 : s₁.heap = h0 := by rw [← hh, Bd.state]; rfl
 have N0 := Fr.nil n0
 show Gl p e below (Ret s 0 0 (Q2 Z a0 h0 n0)) (s₁.setTop (entryFrame m #[(.ref a0)] 1))
 rw [ef2 m a0]
 obtain ⟨args, hargs⟩ : ∃ z : Array Value, z = #[(.ref a0)] := ⟨_, rfl⟩
 rw [← hargs] at X0
 refine gu (s₁.setTop (mkF m 1 #[(sR a0)] [(.ref a0)])) (fun t kt => ?_) ?_
 ·refine XS.aloadN X0.here hx rfl (hb hby d2_0) rfl rfl ?_
  exact kt
 obtain ⟨T1, X1, e1, st1⟩ := initO X0 hx hZ hown (hw _ (ix 137 rfl)) (hw _ (ix 10 rfl)) (hw _ (ix 11 rfl)) e0 (g := (mkF m 1 #[(sR a0)] [(.ref a0)])) rfl (sz hml) rfl (hb hby d2_1) (by decide) (W := 0) le0 (by decide)
 refine gu (T1.setTop (mkF m 4 #[(sR a0)] [])) (fun t kt => st1 _ kt) ?_
 refine Gl.ret0 X1 hx hlk Bd.returns (hb hby d2_4) ?_ (by decide) (by decide)
 exact ⟨rfl, rfl, e1⟩
def Q3 (Z : State) (a0 : Addr) (a1 : Addr) (q2 : Int64) (o1 : Int64) (h0 : Heap) (n0 : Nat) (v : Option Value) (h : Heap) (L : List Loc) : Prop := v = none ∧ Fr n0 L ∧ Keep h0 h [a0] ∧ Fld Z h a0 "com/example/openvenue/openvenue/core/PriceLevel" "price" "J" (.long q2)
theorem ef3 (m : MethodId) (a0 : Addr) (a1 : Addr) (q2 : Int64) : entryFrame m #[(.ref a0), (.ref a1), (.long q2)] 4 = mkF m 0 #[(sR a0), (sR a1), (sJ q2), .second] [] := by first | (simp [entryFrame, mkF, argsToLocals, Value.category]; done) | rfl
set_option maxRecDepth 65536 in
set_option maxHeartbeats 40000000 in
theorem rm3 (l : Launch) (Z : State) (aa : Array Value) (hw : ∀ d ∈ tables_1, d.before aa Z = true) (ws : List Jvm.Cond) (a0 : Addr) (a1 : Addr) (q2 : Int64) (o1 : Int64) (h0 : Heap) (n0 : Nat) (O0 : Old Z n0 h0) (E_a0 : Exa Z h0 a0 "com/example/openvenue/openvenue/core/PriceLevel") (F_a0_quantity : Fld Z h0 a0 "com/example/openvenue/openvenue/core/PriceLevel" "quantity" "Lcom/example/openvenue/openvenue/core/QuantityTotal;" .null) (F_a0_side : Fld Z h0 a0 "com/example/openvenue/openvenue/core/PriceLevel" "side" "Lcom/example/openvenue/openvenue/core/Side;" .null) (F_a0_price : Fld Z h0 a0 "com/example/openvenue/openvenue/core/PriceLevel" "price" "J" (.long o1)) (g_a0 : n0 ≤ a0) :
  MetFree l mn2 (head1 (Jvm.Cond.code mn2 prog_90_method_1_code 4 none :: ws) ({ frames := 2, cells := 1, slots := 2, locals := 26 } : Room)) (fun a U => a = #[(.ref a0), (.ref a1), (.long q2)] ∧ Z.Warmed39 U.vm ∧ U.heap = h0) (fun _ _ _ _ _ => True) (fun _ U o U' => ∃ v L, o = .returned v ∧ Q3 Z a0 a1 q2 o1 h0 n0 v U'.heap L ∧ FrameEnd U o U' L ({ frames := 2, cells := 1, slots := 2, locals := 26 } : Room).cells ({ frames := 2, cells := 1, slots := 2, locals := 26 } : Room).slots) := by
 refine MetFree.of_bodySF (plainFor_of_name pn_com_example_openvenue_openvenue_core_PriceLevel) hisR ?_
 intro p e s m args below meth c s₁ Bd hml0 hP hK
 obtain ⟨rfl, hZ, hh⟩ := hP
 have hx := Bd.exec
 have hby := Bd.bytes
 have hlk := Bd.notSynchronized
 have hml : c.maxLocals = 4 := hml0
 have hown : s.vm.findClass "com/example/openvenue/openvenue/core/PriceLevel" = some m.cls := findClass_of_methodNamed Bd.named
 have hnm := (name_of_methodNamed Bd.named Bd.method).1
 have X0 : Stand p l e ({ frames := 2, cells := 1, slots := 2, locals := 26 } : Room) s m #[(.ref a0), (.ref a1), (.long q2)] below meth c s₁ [] 0 0 := Stand.of_body Bd
 have e0 : s₁.heap = h0 := by rw [← hh, Bd.state]; rfl
 have N0 := Fr.nil n0
 show Gl p e below (Ret s 1 2 (Q3 Z a0 a1 q2 o1 h0 n0)) (s₁.setTop (entryFrame m #[(.ref a0), (.ref a1), (.long q2)] 4))
 rw [ef3 m a0 a1 q2]
 obtain ⟨args, hargs⟩ : ∃ z : Array Value, z = #[(.ref a0), (.ref a1), (.long q2)] := ⟨_, rfl⟩
 rw [← hargs] at X0
 have K0 := Keep.refl h0 [a0]
 refine gu (s₁.setTop (mkF m 1 #[(sR a0), (sR a1), (sJ q2), .second] [(.ref a0)])) (fun t kt => ?_) ?_
 ·refine XS.aloadN X0.here hx rfl (hb hby d3_0) rfl rfl ?_
  exact kt
 obtain ⟨T1, X1, e1, st1⟩ := initO X0 hx hZ hown (hw _ (ix 130 rfl)) (hw _ (ix 10 rfl)) (hw _ (ix 11 rfl)) e0 (g := (mkF m 1 #[(sR a0), (sR a1), (sJ q2), .second] [(.ref a0)])) rfl (sz hml) rfl (hb hby d3_1) (by decide) (W := 0) le0 (by decide)
 refine gu (T1.setTop (mkF m 4 #[(sR a0), (sR a1), (sJ q2), .second] [])) (fun t kt => st1 _ kt) ?_
 refine gu (T1.setTop (mkF m 5 #[(sR a0), (sR a1), (sJ q2), .second] [(.ref a0)])) (fun t kt => ?_) ?_
 ·refine XS.aloadN X1.here hx rfl (hb hby d3_4) rfl rfl ?_
  exact kt
 obtain ⟨T2, h2, X2, e2, E2, A2, D2, -, st2⟩ := newO X1 hx hZ hown (hw _ (ix 131 rfl)) (hw _ (ix 132 rfl)) (hw _ (ix 133 rfl)) e1 (g := (mkF m 5 #[(sR a0), (sR a1), (sJ q2), .second] [(.ref a0)])) rfl (hb hby d3_5) (by decide) (by decide)
 obtain ⟨b2, gq2⟩ : ∃ z, z = h0.size := ⟨_, rfl⟩
 rw [← gq2] at A2 D2 st2
 have ne_a0_b2 : a0 ≠ b2 := Nat.ne_of_lt (Nat.lt_of_lt_of_le E_a0.lt (Nat.le_of_eq gq2.symm))
 have g_b2 : n0 ≤ b2 := Nat.le_trans (old_le O0) (Nat.le_of_eq gq2.symm)
 have z_b2 : h0.size ≤ b2 := Nat.le_trans K0.1 (Nat.le_of_eq gq2.symm)
 have O2 := O0.ext E2
 have K2 : Keep h0 h2 [a0] := K0.ext E2
 have E_a0_2 := E_a0.ext E2
 have F_a0_quantity_2 := F_a0_quantity.ext E2
 have F_a0_side_2 := F_a0_side.ext E2
 have F_a0_p_2 := F_a0_price.ext E2
 refine gu (T2.setTop (mkF m 8 #[(sR a0), (sR a1), (sJ q2), .second] [(.ref b2), (.ref a0)])) (fun t kt => st2 _ kt) ?_
 refine gu (T2.setTop (mkF m 9 #[(sR a0), (sR a1), (sJ q2), .second] [(.ref b2), (.ref b2), (.ref a0)])) (fun t kt => ?_) ?_
 ·refine XS.dup X2.here hx rfl (hb hby d3_8) rfl rfl ?_
  exact kt
 obtain ⟨_, _, ⟨T3, L3, k3, n3⟩, -, X3, ⟨Lc3, hQ3, l3, y3, z3⟩, st3⟩ := X2.specialBack hx (y := mn1) rfl hown (mvT hZ (hw _ (ix 134 rfl))) (mvT hZ (hw _ (ix 135 rfl))) (mvT hZ (hw _ (ix 136 rfl))) (by decide) (backOf (W := 2) (rm2 l Z aa hw [] b2 h2 n0 O2) hZ (hw _ (ix 136 rfl)) (hw _ (ix 133 rfl)) (by decide) (by decide)) (g := (mkF m 9 #[(sR a0), (sR a1), (sJ q2), .second] [(.ref b2), (.ref b2), (.ref a0)])) rfl (sz hml) (Steps.refl _) (a := b2) (argsL := []) (rest := [(.ref b2), (.ref a0)]) (lenOf pd_ocV rfl) rfl le0 (hb hby d3_9) (fun _ _ => ⟨rfl, e2, (by decide : 1 + 0 ≤ _), (by decide : 2 + 0 ≤ _)⟩)
 dsimp only [Pt.U, Pt.locs, Pt.cells, Pt.slots] at X3 l3 y3 z3 st3 hQ3
 subst l3 y3 z3
 obtain ⟨rfl, rfl, e3⟩ := hQ3
 try rw [List.append_nil] at X3
 refine gu (T3.setTop (mkF m 12 #[(sR a0), (sR a1), (sJ q2), .second] [(.ref b2), (.ref a0)])) (fun t kt => st3.trans kt) ?_
 obtain ⟨T4, h4, X4, e4, W4, st4⟩ := putF X3 hx hZ hown (host := "") (Or.inl (hw _ (ix 138 rfl))) Via.refl e3 F_a0_quantity_2 E_a0_2 (Or.inr ⟨(hw _ (ix 139 rfl)), rfl, hnm⟩) (hw _ (ix 125 rfl)) (ty := (.object "com/example/openvenue/openvenue/core/QuantityTotal")) (by decide) rfl rfl (g := (mkF m 12 #[(sR a0), (sR a1), (sJ q2), .second] [(.ref b2), (.ref a0)])) rfl rfl (hb hby d3_12)
 have N4 := Fr.snoc X4 N0 g_a0
 have O4 := O2.wr W4 g_a0
 have K4 : Keep h0 h4 [a0] := K2.wr W4 (Or.inl (ix 0 rfl))
 have E_a0_4 := E_a0_2.wr W4
 have F_a0_side_4 := F_a0_side_2.other W4 (Or.inr (slot_ne (Or.inr (hw _ (ix 141 rfl))) (Or.inr (hw _ (ix 139 rfl))) (by decide) (t := (.object "com/example/openvenue/openvenue/core/Side")) (t' := (.object "com/example/openvenue/openvenue/core/QuantityTotal")) (by decide) (by decide)))
 have F_a0_p_4 := F_a0_p_2.other W4 (Or.inr (slot_ne (Or.inr (hw _ (ix 143 rfl))) (Or.inr (hw _ (ix 139 rfl))) (by decide) (t := .long) (t' := (.object "com/example/openvenue/openvenue/core/QuantityTotal")) (by decide) (by decide)))
 have E_b2_4 := A2.wr W4
 have F_a0_quantity_4 := F_a0_quantity_2.same W4
 refine gu (T4.setTop (mkF m 15 #[(sR a0), (sR a1), (sJ q2), .second] [])) (fun t kt => st4 _ kt) ?_
 refine gu (T4.setTop (mkF m 17 #[(sR a0), (sR a1), (sJ q2), .second] [(.ref a1), (.ref a0)])) (fun t kt => ?_) ?_
 ·refine XS.aloadN X4.here hx rfl (hb hby d3_15) rfl rfl ?_
  show Steps _ _ _ (T4.setTop (mkF m 16 #[(sR a0), (sR a1), (sJ q2), .second] [(.ref a0)])) _
  refine XS.aloadN X4.here hx rfl (hb hby d3_16) rfl rfl ?_
  exact kt
 obtain ⟨T5, h5, X5, e5, W5, st5⟩ := putF X4 hx hZ hown (host := "") (Or.inl (hw _ (ix 140 rfl))) Via.refl e4 F_a0_side_4 E_a0_4 (Or.inr ⟨(hw _ (ix 141 rfl)), rfl, hnm⟩) (hw _ (ix 125 rfl)) (ty := (.object "com/example/openvenue/openvenue/core/Side")) (by decide) rfl rfl (g := (mkF m 17 #[(sR a0), (sR a1), (sJ q2), .second] [(.ref a1), (.ref a0)])) rfl rfl (hb hby d3_17)
 have N5 := Fr.snoc X5 N4 g_a0
 have O5 := O4.wr W5 g_a0
 have K5 : Keep h0 h5 [a0] := K4.wr W5 (Or.inl (ix 0 rfl))
 have E_a0_5 := E_a0_4.wr W5
 have F_a0_quantity_5 := F_a0_quantity_4.other W5 (Or.inr (slot_ne (Or.inr (hw _ (ix 139 rfl))) (Or.inr (hw _ (ix 141 rfl))) (by decide) (t := (.object "com/example/openvenue/openvenue/core/QuantityTotal")) (t' := (.object "com/example/openvenue/openvenue/core/Side")) (by decide) (by decide)))
 have F_a0_p_5 := F_a0_p_4.other W5 (Or.inr (slot_ne (Or.inr (hw _ (ix 143 rfl))) (Or.inr (hw _ (ix 141 rfl))) (by decide) (t := .long) (t' := (.object "com/example/openvenue/openvenue/core/Side")) (by decide) (by decide)))
 have E_b2_5 := E_b2_4.wr W5
 have F_a0_side_5 := F_a0_side_4.same W5
 refine gu (T5.setTop (mkF m 20 #[(sR a0), (sR a1), (sJ q2), .second] [])) (fun t kt => st5 _ kt) ?_
 refine gu (T5.setTop (mkF m 22 #[(sR a0), (sR a1), (sJ q2), .second] [(.long q2), (.ref a0)])) (fun t kt => ?_) ?_
 ·refine XS.aloadN X5.here hx rfl (hb hby d3_20) rfl rfl ?_
  show Steps _ _ _ (T5.setTop (mkF m 21 #[(sR a0), (sR a1), (sJ q2), .second] [(.ref a0)])) _
  refine XS.lloadN X5.here hx rfl (hb hby d3_21) rfl ?_
  exact kt
 obtain ⟨T6, h6, X6, e6, W6, st6⟩ := putF X5 hx hZ hown (host := "") (Or.inl (hw _ (ix 142 rfl))) Via.refl e5 F_a0_p_5 E_a0_5 (Or.inr ⟨(hw _ (ix 143 rfl)), rfl, hnm⟩) (hw _ (ix 125 rfl)) (ty := .long) (by decide) rfl rfl (g := (mkF m 22 #[(sR a0), (sR a1), (sJ q2), .second] [(.long q2), (.ref a0)])) rfl rfl (hb hby d3_22)
 have N6 := Fr.snoc X6 N5 g_a0
 have O6 := O5.wr W6 g_a0
 have K6 : Keep h0 h6 [a0] := K5.wr W6 (Or.inl (ix 0 rfl))
 have E_a0_6 := E_a0_5.wr W6
 have F_a0_quantity_6 := F_a0_quantity_5.other W6 (Or.inr (slot_ne (Or.inr (hw _ (ix 139 rfl))) (Or.inr (hw _ (ix 143 rfl))) (by decide) (t := (.object "com/example/openvenue/openvenue/core/QuantityTotal")) (t' := .long) (by decide) (by decide)))
 have F_a0_side_6 := F_a0_side_5.other W6 (Or.inr (slot_ne (Or.inr (hw _ (ix 141 rfl))) (Or.inr (hw _ (ix 143 rfl))) (by decide) (t := (.object "com/example/openvenue/openvenue/core/Side")) (t' := .long) (by decide) (by decide)))
 have E_b2_6 := E_b2_5.wr W6
 have F_a0_p_6 := F_a0_p_5.same W6
 refine gu (T6.setTop (mkF m 25 #[(sR a0), (sR a1), (sJ q2), .second] [])) (fun t kt => st6 _ kt) ?_
 refine Gl.ret0 X6 hx hlk Bd.returns (hb hby d3_25) ?_ (by decide) (by decide)
 show Q3 Z a0 a1 q2 o1 h0 n0 _ T6.heap _; rw [e6]; exact ⟨rfl, N6, K6, F_a0_p_6⟩
def Q4 (Z : State) (a0 : Addr) (h0 : Heap) (n0 : Nat) (v : Option Value) (h : Heap) (L : List Loc) : Prop := v = none ∧ L = [] ∧ h = h0
theorem ef4 (m : MethodId) (a0 : Addr) : entryFrame m #[(.ref a0)] 1 = mkF m 0 #[(sR a0)] [] := by first | (simp [entryFrame, mkF, argsToLocals, Value.category]; done) | rfl
set_option maxRecDepth 65536 in
set_option maxHeartbeats 40000000 in
theorem rm4 (l : Launch) (Z : State) (aa : Array Value) (hw : ∀ d ∈ tables_1, d.before aa Z = true) (ws : List Jvm.Cond) (a0 : Addr) (h0 : Heap) (n0 : Nat) (O0 : Old Z n0 h0)  :
  MetFree l mn3 (head1 (Jvm.Cond.code mn3 jdk_22_method_1_code 1 none :: ws) ({ frames := 1, cells := 0, slots := 0, locals := 12 } : Room)) (fun a U => a = #[(.ref a0)] ∧ Z.Warmed39 U.vm ∧ U.heap = h0) (fun _ _ _ _ _ => True) (fun _ U o U' => ∃ v L, o = .returned v ∧ Q4 Z a0 h0 n0 v U'.heap L ∧ FrameEnd U o U' L ({ frames := 1, cells := 0, slots := 0, locals := 12 } : Room).cells ({ frames := 1, cells := 0, slots := 0, locals := 12 } : Room).slots) := by
 refine MetFree.of_bodySF (plainFor_of_name pn_java_util_AbstractCollection) hisR ?_
 intro p e s m args below meth c s₁ Bd hml0 hP hK
 obtain ⟨rfl, hZ, hh⟩ := hP
 have hx := Bd.exec
 have hby := Bd.bytes
 have hlk := Bd.notSynchronized
 have hml : c.maxLocals = 1 := hml0
 have hown : s.vm.findClass "java/util/AbstractCollection" = some m.cls := findClass_of_methodNamed Bd.named
 have hnm := (name_of_methodNamed Bd.named Bd.method).1
 have X0 : Stand p l e ({ frames := 1, cells := 0, slots := 0, locals := 12 } : Room) s m #[(.ref a0)] below meth c s₁ [] 0 0 := Stand.of_body Bd
 have e0 : s₁.heap = h0 := by rw [← hh, Bd.state]; rfl
 have N0 := Fr.nil n0
 show Gl p e below (Ret s 0 0 (Q4 Z a0 h0 n0)) (s₁.setTop (entryFrame m #[(.ref a0)] 1))
 rw [ef4 m a0]
 obtain ⟨args, hargs⟩ : ∃ z : Array Value, z = #[(.ref a0)] := ⟨_, rfl⟩
 rw [← hargs] at X0
 refine gu (s₁.setTop (mkF m 1 #[(sR a0)] [(.ref a0)])) (fun t kt => ?_) ?_
 ·refine XS.aloadN X0.here hx rfl (hb hby d4_0) rfl rfl ?_
  exact kt
 obtain ⟨T1, X1, e1, st1⟩ := initO X0 hx hZ hown (hw _ (ix 32 rfl)) (hw _ (ix 10 rfl)) (hw _ (ix 11 rfl)) e0 (g := (mkF m 1 #[(sR a0)] [(.ref a0)])) rfl (sz hml) rfl (hb hby d4_1) (by decide) (W := 0) le0 (by decide)
 refine gu (T1.setTop (mkF m 4 #[(sR a0)] [])) (fun t kt => st1 _ kt) ?_
 refine Gl.ret0 X1 hx hlk Bd.returns (hb hby d4_4) ?_ (by decide) (by decide)
 exact ⟨rfl, rfl, e1⟩
def Q5 (Z : State) (a0 : Addr) (h0 : Heap) (n0 : Nat) (v : Option Value) (h : Heap) (L : List Loc) : Prop := v = none ∧ L = [] ∧ h = h0
theorem ef5 (m : MethodId) (a0 : Addr) : entryFrame m #[(.ref a0)] 1 = mkF m 0 #[(sR a0)] [] := by first | (simp [entryFrame, mkF, argsToLocals, Value.category]; done) | rfl
set_option maxRecDepth 65536 in
set_option maxHeartbeats 40000000 in
theorem rm5 (l : Launch) (Z : State) (aa : Array Value) (hw : ∀ d ∈ tables_1, d.before aa Z = true) (ws : List Jvm.Cond) (a0 : Addr) (h0 : Heap) (n0 : Nat) (O0 : Old Z n0 h0)  :
  MetFree l mn4 (head1 (Jvm.Cond.code mn4 jdk_71_method_1_code 1 none :: ws) ({ frames := 1, cells := 0, slots := 0, locals := 12 } : Room)) (fun a U => a = #[(.ref a0)] ∧ Z.Warmed39 U.vm ∧ U.heap = h0) (fun _ _ _ _ _ => True) (fun _ U o U' => ∃ v L, o = .returned v ∧ Q5 Z a0 h0 n0 v U'.heap L ∧ FrameEnd U o U' L ({ frames := 1, cells := 0, slots := 0, locals := 12 } : Room).cells ({ frames := 1, cells := 0, slots := 0, locals := 12 } : Room).slots) := by
 refine MetFree.of_bodySF (plainFor_of_name pn_java_util_AbstractMap) hisR ?_
 intro p e s m args below meth c s₁ Bd hml0 hP hK
 obtain ⟨rfl, hZ, hh⟩ := hP
 have hx := Bd.exec
 have hby := Bd.bytes
 have hlk := Bd.notSynchronized
 have hml : c.maxLocals = 1 := hml0
 have hown : s.vm.findClass "java/util/AbstractMap" = some m.cls := findClass_of_methodNamed Bd.named
 have hnm := (name_of_methodNamed Bd.named Bd.method).1
 have X0 : Stand p l e ({ frames := 1, cells := 0, slots := 0, locals := 12 } : Room) s m #[(.ref a0)] below meth c s₁ [] 0 0 := Stand.of_body Bd
 have e0 : s₁.heap = h0 := by rw [← hh, Bd.state]; rfl
 have N0 := Fr.nil n0
 show Gl p e below (Ret s 0 0 (Q5 Z a0 h0 n0)) (s₁.setTop (entryFrame m #[(.ref a0)] 1))
 rw [ef5 m a0]
 obtain ⟨args, hargs⟩ : ∃ z : Array Value, z = #[(.ref a0)] := ⟨_, rfl⟩
 rw [← hargs] at X0
 refine gu (s₁.setTop (mkF m 1 #[(sR a0)] [(.ref a0)])) (fun t kt => ?_) ?_
 ·refine XS.aloadN X0.here hx rfl (hb hby d5_0) rfl rfl ?_
  exact kt
 obtain ⟨T1, X1, e1, st1⟩ := initO X0 hx hZ hown (hw _ (ix 57 rfl)) (hw _ (ix 10 rfl)) (hw _ (ix 11 rfl)) e0 (g := (mkF m 1 #[(sR a0)] [(.ref a0)])) rfl (sz hml) rfl (hb hby d5_1) (by decide) (W := 0) le0 (by decide)
 refine gu (T1.setTop (mkF m 4 #[(sR a0)] [])) (fun t kt => st1 _ kt) ?_
 refine Gl.ret0 X1 hx hlk Bd.returns (hb hby d5_4) ?_ (by decide) (by decide)
 exact ⟨rfl, rfl, e1⟩
def Q6 (Z : State) (a0 : Addr) (a1 : Addr) (h0 : Heap) (n0 : Nat) (v : Option Value) (h : Heap) (L : List Loc) : Prop := v = none ∧ Fr n0 L ∧ Keep h0 h [a0]
theorem ef6 (m : MethodId) (a0 : Addr) (a1 : Addr) : entryFrame m #[(.ref a0), (.ref a1)] 2 = mkF m 0 #[(sR a0), (sR a1)] [] := by first | (simp [entryFrame, mkF, argsToLocals, Value.category]; done) | rfl
set_option maxRecDepth 65536 in
set_option maxHeartbeats 40000000 in
theorem rm6 (l : Launch) (Z : State) (aa : Array Value) (hw : ∀ d ∈ tables_1, d.before aa Z = true) (ws : List Jvm.Cond) (a0 : Addr) (a1 : Addr) (h0 : Heap) (n0 : Nat) (O0 : Old Z n0 h0) (E_a0 : Exa Z h0 a0 "com/example/openvenue/openvenue/core/BookSide$BestFirst") (F_a0_this_0 : Fld Z h0 a0 "com/example/openvenue/openvenue/core/BookSide$BestFirst" "this$0" "Lcom/example/openvenue/openvenue/core/BookSide;" .null) (g_a0 : n0 ≤ a0) :
  MetFree l mn5 (head1 (Jvm.Cond.code mn5 prog_45_method_1_code 2 none :: ws) ({ frames := 2, cells := 0, slots := 0, locals := 24 } : Room)) (fun a U => a = #[(.ref a0), (.ref a1)] ∧ Z.Warmed39 U.vm ∧ U.heap = h0) (fun _ _ _ _ _ => True) (fun _ U o U' => ∃ v L, o = .returned v ∧ Q6 Z a0 a1 h0 n0 v U'.heap L ∧ FrameEnd U o U' L ({ frames := 2, cells := 0, slots := 0, locals := 24 } : Room).cells ({ frames := 2, cells := 0, slots := 0, locals := 24 } : Room).slots) := by
 refine MetFree.of_bodySF (plainFor_of_name pn_com_example_openvenue_openvenue_core_BookSide_BestFirst) hisR ?_
 intro p e s m args below meth c s₁ Bd hml0 hP hK
 obtain ⟨rfl, hZ, hh⟩ := hP
 have hx := Bd.exec
 have hby := Bd.bytes
 have hlk := Bd.notSynchronized
 have hml : c.maxLocals = 2 := hml0
 have hown : s.vm.findClass "com/example/openvenue/openvenue/core/BookSide$BestFirst" = some m.cls := findClass_of_methodNamed Bd.named
 have hnm := (name_of_methodNamed Bd.named Bd.method).1
 have X0 : Stand p l e ({ frames := 2, cells := 0, slots := 0, locals := 24 } : Room) s m #[(.ref a0), (.ref a1)] below meth c s₁ [] 0 0 := Stand.of_body Bd
 have e0 : s₁.heap = h0 := by rw [← hh, Bd.state]; rfl
 have N0 := Fr.nil n0
 show Gl p e below (Ret s 0 0 (Q6 Z a0 a1 h0 n0)) (s₁.setTop (entryFrame m #[(.ref a0), (.ref a1)] 2))
 rw [ef6 m a0 a1]
 obtain ⟨args, hargs⟩ : ∃ z : Array Value, z = #[(.ref a0), (.ref a1)] := ⟨_, rfl⟩
 rw [← hargs] at X0
 have K0 := Keep.refl h0 [a0]
 refine gu (s₁.setTop (mkF m 2 #[(sR a0), (sR a1)] [(.ref a1), (.ref a0)])) (fun t kt => ?_) ?_
 ·refine XS.aloadN X0.here hx rfl (hb hby d6_0) rfl rfl ?_
  show Steps _ _ _ (s₁.setTop (mkF m 1 #[(sR a0), (sR a1)] [(.ref a0)])) _
  refine XS.aloadN X0.here hx rfl (hb hby d6_1) rfl rfl ?_
  exact kt
 obtain ⟨T1, h1, X1, e1, W1, st1⟩ := putF X0 hx hZ hown (host := "") (Or.inl (hw _ (ix 25 rfl))) Via.refl e0 F_a0_this_0 E_a0 (Or.inr ⟨(hw _ (ix 26 rfl)), rfl, hnm⟩) (hw _ (ix 20 rfl)) (ty := (.object "com/example/openvenue/openvenue/core/BookSide")) (by decide) rfl rfl (g := (mkF m 2 #[(sR a0), (sR a1)] [(.ref a1), (.ref a0)])) rfl rfl (hb hby d6_2)
 have N1 := Fr.snoc X1 N0 g_a0
 have O1 := O0.wr W1 g_a0
 have K1 : Keep h0 h1 [a0] := K0.wr W1 (Or.inl (ix 0 rfl))
 have E_a0_1 := E_a0.wr W1
 have F_a0_this_0_1 := F_a0_this_0.same W1
 refine gu (T1.setTop (mkF m 5 #[(sR a0), (sR a1)] [])) (fun t kt => st1 _ kt) ?_
 refine gu (T1.setTop (mkF m 6 #[(sR a0), (sR a1)] [(.ref a0)])) (fun t kt => ?_) ?_
 ·refine XS.aloadN X1.here hx rfl (hb hby d6_5) rfl rfl ?_
  exact kt
 obtain ⟨_, _, ⟨T2, L2, k2, n2⟩, -, X2, ⟨Lc2, hQ2, l2, y2, z2⟩, st2⟩ := X1.specialBack hx (y := mn3) rfl hown (mvT hZ (hw _ (ix 27 rfl))) (mvT hZ (hw _ (ix 28 rfl))) (mvT hZ (hw _ (ix 31 rfl))) (by decide) (backOf (W := 0) (rm4 l Z aa hw [] a0 h1 n0 O1) hZ (hw _ (ix 31 rfl)) (hw _ (ix 30 rfl)) (by decide) (by decide)) (g := (mkF m 6 #[(sR a0), (sR a1)] [(.ref a0)])) rfl (sz hml) (Steps.refl _) (a := a0) (argsL := []) (rest := []) (lenOf pd_ocV rfl) rfl le0 (hb hby d6_6) (fun _ _ => ⟨rfl, e1, (by decide : 0 + 0 ≤ _), (by decide : 0 + 0 ≤ _)⟩)
 dsimp only [Pt.U, Pt.locs, Pt.cells, Pt.slots] at X2 l2 y2 z2 st2 hQ2
 subst l2 y2 z2
 obtain ⟨rfl, rfl, e2⟩ := hQ2
 try rw [List.append_nil] at X2
 refine gu (T2.setTop (mkF m 9 #[(sR a0), (sR a1)] [])) (fun t kt => st2.trans kt) ?_
 refine Gl.ret0 X2 hx hlk Bd.returns (hb hby d6_9) ?_ (by decide) (by decide)
 show Q6 Z a0 a1 h0 n0 _ T2.heap _; rw [e2]; exact ⟨rfl, N1, K1⟩
def Q7 (Z : State) (wN : Addr) (h0 : Heap) (n0 : Nat) (v : Option Value) (h : Heap) (L : List Loc) : Prop := v = some (.ref wN) ∧ L = [] ∧ h = h0
theorem ef7 (m : MethodId)  : entryFrame m #[] 0 = mkF m 0 #[] [] := by first | (simp [entryFrame, mkF, argsToLocals, Value.category]; done) | rfl
set_option maxRecDepth 65536 in
set_option maxHeartbeats 40000000 in
theorem rm7 (l : Launch) (Z : State) (aa : Array Value) (hw : ∀ d ∈ tables_1, d.before aa Z = true) (ws : List Jvm.Cond) (wN : Addr) (h0 : Heap) (n0 : Nat) (O0 : Old Z n0 h0) (S_wN : Sta Z Z.heap "java/util/Comparators$NaturalOrderComparator" "INSTANCE" "Ljava/util/Comparators$NaturalOrderComparator;" (.ref wN)) :
  MetFree l mn6 (head1 (Jvm.Cond.code mn6 jdk_2515_method_11_code 0 (some (.object "java/util/Comparator")) :: ws) ({ frames := 0, cells := 0, slots := 0, locals := 0 } : Room)) (fun a U => a = #[] ∧ Z.Warmed39 U.vm ∧ U.heap = h0) (fun _ _ _ _ _ => True) (fun _ U o U' => ∃ v L, o = .returned v ∧ Q7 Z wN h0 n0 v U'.heap L ∧ FrameEnd U o U' L ({ frames := 0, cells := 0, slots := 0, locals := 0 } : Room).cells ({ frames := 0, cells := 0, slots := 0, locals := 0 } : Room).slots) := by
 refine MetFree.of_bodySF (plainFor_of_name pn_java_util_Comparator) hisR ?_
 intro p e s m args below meth c s₁ Bd hml0 hP hK
 obtain ⟨rfl, hZ, hh⟩ := hP
 have hx := Bd.exec
 have hby := Bd.bytes
 have hlk := Bd.notSynchronized
 have hml : c.maxLocals = 0 := hml0
 have hown : s.vm.findClass "java/util/Comparator" = some m.cls := findClass_of_methodNamed Bd.named
 have hnm := (name_of_methodNamed Bd.named Bd.method).1
 have X0 : Stand p l e ({ frames := 0, cells := 0, slots := 0, locals := 0 } : Room) s m #[] below meth c s₁ [] 0 0 := Stand.of_body Bd
 have e0 : s₁.heap = h0 := by rw [← hh, Bd.state]; rfl
 have N0 := Fr.nil n0
 show Gl p e below (Ret s 0 0 (Q7 Z wN h0 n0)) (s₁.setTop (entryFrame m #[] 0))
 rw [ef7 m ]
 obtain ⟨args, hargs⟩ : ∃ z : Array Value, z = #[] := ⟨_, rfl⟩
 rw [← hargs] at X0
 obtain ⟨T1, X1, e1, st1⟩ := getS2 X0 hx hZ hown (host := "") (Or.inl (hw _ (ix 43 rfl))) Via.refl e0 (S_wN.ext O0.2) (g := (mkF m 0 #[] [])) rfl (hb hby d7_0)
 refine gu (T1.setTop (mkF m 3 #[] [(.ref wN)])) (fun t kt => st1 _ kt) ?_
 refine Gl.retR X1 hx hlk Bd.returns (hb hby d7_3) rfl rfl ?_ (by decide) (by decide)
 exact ⟨rfl, rfl, e1⟩
def Q8 (Z : State) (wR : Addr) (h0 : Heap) (n0 : Nat) (v : Option Value) (h : Heap) (L : List Loc) : Prop := v = some (.ref wR) ∧ L = [] ∧ h = h0
theorem ef8 (m : MethodId)  : entryFrame m #[] 0 = mkF m 0 #[] [] := by first | (simp [entryFrame, mkF, argsToLocals, Value.category]; done) | rfl
set_option maxRecDepth 65536 in
set_option maxHeartbeats 40000000 in
theorem rm8 (l : Launch) (Z : State) (aa : Array Value) (hw : ∀ d ∈ tables_1, d.before aa Z = true) (ws : List Jvm.Cond) (wR : Addr) (h0 : Heap) (n0 : Nat) (O0 : Old Z n0 h0) (S_wR : Sta Z Z.heap "java/util/Collections$ReverseComparator" "REVERSE_ORDER" "Ljava/util/Collections$ReverseComparator;" (.ref wR)) :
  MetFree l mn7 (head1 (Jvm.Cond.code mn7 jdk_79_method_77_code 0 (some (.object "java/util/Comparator")) :: ws) ({ frames := 0, cells := 0, slots := 0, locals := 0 } : Room)) (fun a U => a = #[] ∧ Z.Warmed39 U.vm ∧ U.heap = h0) (fun _ _ _ _ _ => True) (fun _ U o U' => ∃ v L, o = .returned v ∧ Q8 Z wR h0 n0 v U'.heap L ∧ FrameEnd U o U' L ({ frames := 0, cells := 0, slots := 0, locals := 0 } : Room).cells ({ frames := 0, cells := 0, slots := 0, locals := 0 } : Room).slots) := by
 refine MetFree.of_bodySF (plainFor_of_name pn_java_util_Collections) hisR ?_
 intro p e s m args below meth c s₁ Bd hml0 hP hK
 obtain ⟨rfl, hZ, hh⟩ := hP
 have hx := Bd.exec
 have hby := Bd.bytes
 have hlk := Bd.notSynchronized
 have hml : c.maxLocals = 0 := hml0
 have hown : s.vm.findClass "java/util/Collections" = some m.cls := findClass_of_methodNamed Bd.named
 have hnm := (name_of_methodNamed Bd.named Bd.method).1
 have X0 : Stand p l e ({ frames := 0, cells := 0, slots := 0, locals := 0 } : Room) s m #[] below meth c s₁ [] 0 0 := Stand.of_body Bd
 have e0 : s₁.heap = h0 := by rw [← hh, Bd.state]; rfl
 have N0 := Fr.nil n0
 show Gl p e below (Ret s 0 0 (Q8 Z wR h0 n0)) (s₁.setTop (entryFrame m #[] 0))
 rw [ef8 m ]
 obtain ⟨args, hargs⟩ : ∃ z : Array Value, z = #[] := ⟨_, rfl⟩
 rw [← hargs] at X0
 obtain ⟨T1, X1, e1, st1⟩ := getS2 X0 hx hZ hown (host := "") (Or.inl (hw _ (ix 87 rfl))) Via.refl e0 (S_wR.ext O0.2) (g := (mkF m 0 #[] [])) rfl (hb hby d8_0)
 refine gu (T1.setTop (mkF m 3 #[] [(.ref wR)])) (fun t kt => st1 _ kt) ?_
 refine Gl.retR X1 hx hlk Bd.returns (hb hby d8_3) rfl rfl ?_ (by decide) (by decide)
 exact ⟨rfl, rfl, e1⟩
def Q9 (Z : State) (wR : Addr) (h0 : Heap) (n0 : Nat) (v : Option Value) (h : Heap) (L : List Loc) : Prop := v = some (.ref wR) ∧ L = [] ∧ h = h0
theorem ef9 (m : MethodId)  : entryFrame m #[] 0 = mkF m 0 #[] [] := by first | (simp [entryFrame, mkF, argsToLocals, Value.category]; done) | rfl
set_option maxRecDepth 65536 in
set_option maxHeartbeats 40000000 in
theorem rm9 (l : Launch) (Z : State) (aa : Array Value) (hw : ∀ d ∈ tables_1, d.before aa Z = true) (ws : List Jvm.Cond) (wR : Addr) (h0 : Heap) (n0 : Nat) (O0 : Old Z n0 h0) (S_wR : Sta Z Z.heap "java/util/Collections$ReverseComparator" "REVERSE_ORDER" "Ljava/util/Collections$ReverseComparator;" (.ref wR)) :
  MetFree l mn8 (head1 (Jvm.Cond.code mn8 jdk_2515_method_10_code 0 (some (.object "java/util/Comparator")) :: ws) ({ frames := 1, cells := 0, slots := 0, locals := 11 } : Room)) (fun a U => a = #[] ∧ Z.Warmed39 U.vm ∧ U.heap = h0) (fun _ _ _ _ _ => True) (fun _ U o U' => ∃ v L, o = .returned v ∧ Q9 Z wR h0 n0 v U'.heap L ∧ FrameEnd U o U' L ({ frames := 1, cells := 0, slots := 0, locals := 11 } : Room).cells ({ frames := 1, cells := 0, slots := 0, locals := 11 } : Room).slots) := by
 refine MetFree.of_bodySF (plainFor_of_name pn_java_util_Comparator) hisR ?_
 intro p e s m args below meth c s₁ Bd hml0 hP hK
 obtain ⟨rfl, hZ, hh⟩ := hP
 have hx := Bd.exec
 have hby := Bd.bytes
 have hlk := Bd.notSynchronized
 have hml : c.maxLocals = 0 := hml0
 have hown : s.vm.findClass "java/util/Comparator" = some m.cls := findClass_of_methodNamed Bd.named
 have hnm := (name_of_methodNamed Bd.named Bd.method).1
 have X0 : Stand p l e ({ frames := 1, cells := 0, slots := 0, locals := 11 } : Room) s m #[] below meth c s₁ [] 0 0 := Stand.of_body Bd
 have e0 : s₁.heap = h0 := by rw [← hh, Bd.state]; rfl
 have N0 := Fr.nil n0
 show Gl p e below (Ret s 0 0 (Q9 Z wR h0 n0)) (s₁.setTop (entryFrame m #[] 0))
 rw [ef9 m ]
 obtain ⟨args, hargs⟩ : ∃ z : Array Value, z = #[] := ⟨_, rfl⟩
 rw [← hargs] at X0
 obtain ⟨_, _, ⟨T1, L1, k1, n1⟩, -, X1, ⟨Lc1, hQ1, l1, y1, z1⟩, st1⟩ := Jvm.LawKit.callS X0 hx (y := mn7) hown (mvT hZ (hw _ (ix 83 rfl))) (mvT hZ (hw _ (ix 84 rfl))) (mvT hZ (hw _ (ix 85 rfl))) (mvT hZ (hw _ (ix 86 rfl))) (by decide) (backOf (W := 0) (rm8 l Z aa hw [] wR h0 n0 O0 S_wR) hZ (hw _ (ix 86 rfl)) (hw _ (ix 85 rfl)) (by decide) (by decide)) (g := (mkF m 0 #[] [])) rfl (sz hml) (argsL := []) (rest := []) (lenOf pd_ocLjava_util_Comparator rfl) rfl le0 (hb hby d9_0) (fun _ _ => ⟨rfl, e0, (by decide : 0 + 0 ≤ _), (by decide : 0 + 0 ≤ _)⟩)
 dsimp only [Pt.U, Pt.locs, Pt.cells, Pt.slots] at X1 l1 y1 z1 st1 hQ1
 subst l1 y1 z1
 obtain ⟨rfl, rfl, e1⟩ := hQ1
 try rw [List.append_nil] at X1
 refine gu (T1.setTop (mkF m 3 #[] [(.ref wR)])) (fun t kt => st1 _ kt) ?_
 refine Gl.retR X1 hx hlk Bd.returns (hb hby d9_3) rfl rfl ?_ (by decide) (by decide)
 exact ⟨rfl, rfl, e1⟩
def f10_size (a1 : Addr) (o1 : Int32) (o2 : Int32) : Int32 := (0 : Int32)
def Q10 (Z : State) (a0 : Addr) (a1 : Addr) (o1 : Int32) (o2 : Int32) (h0 : Heap) (n0 : Nat) (v : Option Value) (h : Heap) (L : List Loc) : Prop := v = none ∧ Fr n0 L ∧ Keep h0 h [a0] ∧ Fld Z h a0 "java/util/TreeMap" "size" "I" (.int (f10_size a1 o1 o2))
theorem ef10 (m : MethodId) (a0 : Addr) (a1 : Addr) : entryFrame m #[(.ref a0), (.ref a1)] 2 = mkF m 0 #[(sR a0), (sR a1)] [] := by first | (simp [entryFrame, mkF, argsToLocals, Value.category]; done) | rfl
set_option maxRecDepth 65536 in
set_option maxHeartbeats 40000000 in
theorem rm10 (l : Launch) (Z : State) (aa : Array Value) (hw : ∀ d ∈ tables_1, d.before aa Z = true) (ws : List Jvm.Cond) (a0 : Addr) (a1 : Addr) (o1 : Int32) (o2 : Int32) (h0 : Heap) (n0 : Nat) (O0 : Old Z n0 h0) (E_a0 : Exa Z h0 a0 "java/util/TreeMap") (F_a0_size : Fld Z h0 a0 "java/util/TreeMap" "size" "I" (.int o1)) (F_a0_modCount : Fld Z h0 a0 "java/util/TreeMap" "modCount" "I" (.int o2)) (F_a0_comparator : Fld Z h0 a0 "java/util/TreeMap" "comparator" "Ljava/util/Comparator;" .null) (g_a0 : n0 ≤ a0) :
  MetFree l mn9 (head1 (Jvm.Cond.code mn9 jdk_2729_method_2_code 2 none :: ws) ({ frames := 2, cells := 0, slots := 0, locals := 24 } : Room)) (fun a U => a = #[(.ref a0), (.ref a1)] ∧ Z.Warmed39 U.vm ∧ U.heap = h0) (fun _ _ _ _ _ => True) (fun _ U o U' => ∃ v L, o = .returned v ∧ Q10 Z a0 a1 o1 o2 h0 n0 v U'.heap L ∧ FrameEnd U o U' L ({ frames := 2, cells := 0, slots := 0, locals := 24 } : Room).cells ({ frames := 2, cells := 0, slots := 0, locals := 24 } : Room).slots) := by
 refine MetFree.of_bodySF (plainFor_of_name pn_java_util_TreeMap) hisR ?_
 intro p e s m args below meth c s₁ Bd hml0 hP hK
 obtain ⟨rfl, hZ, hh⟩ := hP
 have hx := Bd.exec
 have hby := Bd.bytes
 have hlk := Bd.notSynchronized
 have hml : c.maxLocals = 2 := hml0
 have hown : s.vm.findClass "java/util/TreeMap" = some m.cls := findClass_of_methodNamed Bd.named
 have hnm := (name_of_methodNamed Bd.named Bd.method).1
 have X0 : Stand p l e ({ frames := 2, cells := 0, slots := 0, locals := 24 } : Room) s m #[(.ref a0), (.ref a1)] below meth c s₁ [] 0 0 := Stand.of_body Bd
 have e0 : s₁.heap = h0 := by rw [← hh, Bd.state]; rfl
 have N0 := Fr.nil n0
 show Gl p e below (Ret s 0 0 (Q10 Z a0 a1 o1 o2 h0 n0)) (s₁.setTop (entryFrame m #[(.ref a0), (.ref a1)] 2))
 rw [ef10 m a0 a1]
 obtain ⟨args, hargs⟩ : ∃ z : Array Value, z = #[(.ref a0), (.ref a1)] := ⟨_, rfl⟩
 rw [← hargs] at X0
 have K0 := Keep.refl h0 [a0]
 refine gu (s₁.setTop (mkF m 1 #[(sR a0), (sR a1)] [(.ref a0)])) (fun t kt => ?_) ?_
 ·refine XS.aloadN X0.here hx rfl (hb hby d10_0) rfl rfl ?_
  exact kt
 obtain ⟨_, _, ⟨T1, L1, k1, n1⟩, -, X1, ⟨Lc1, hQ1, l1, y1, z1⟩, st1⟩ := X0.specialBack hx (y := mn4) rfl hown (mvT hZ (hw _ (ix 51 rfl))) (mvT hZ (hw _ (ix 52 rfl))) (mvT hZ (hw _ (ix 56 rfl))) (by decide) (backOf (W := 0) (rm5 l Z aa hw [] a0 h0 n0 O0) hZ (hw _ (ix 56 rfl)) (hw _ (ix 55 rfl)) (by decide) (by decide)) (g := (mkF m 1 #[(sR a0), (sR a1)] [(.ref a0)])) rfl (sz hml) (Steps.refl _) (a := a0) (argsL := []) (rest := []) (lenOf pd_ocV rfl) rfl le0 (hb hby d10_1) (fun _ _ => ⟨rfl, e0, (by decide : 0 + 0 ≤ _), (by decide : 0 + 0 ≤ _)⟩)
 dsimp only [Pt.U, Pt.locs, Pt.cells, Pt.slots] at X1 l1 y1 z1 st1 hQ1
 subst l1 y1 z1
 obtain ⟨rfl, rfl, e1⟩ := hQ1
 try rw [List.append_nil] at X1
 refine gu (T1.setTop (mkF m 4 #[(sR a0), (sR a1)] [])) (fun t kt => st1.trans kt) ?_
 refine gu (T1.setTop (mkF m 6 #[(sR a0), (sR a1)] [(.int (0 : Int32)), (.ref a0)])) (fun t kt => ?_) ?_
 ·refine XS.aloadN X1.here hx rfl (hb hby d10_4) rfl rfl ?_
  show Steps _ _ _ (T1.setTop (mkF m 5 #[(sR a0), (sR a1)] [(.ref a0)])) _
  refine XS.iconst X1.here hx rfl (hb hby d10_5) ?_
  exact kt
 obtain ⟨T2, h2, X2, e2, W2, st2⟩ := putF X1 hx hZ hown (host := "") (Or.inl (hw _ (ix 58 rfl))) Via.refl e1 F_a0_size E_a0 (Or.inl (hw _ (ix 59 rfl))) (hw _ (ix 46 rfl)) (ty := .int) (by decide) rfl rfl (g := (mkF m 6 #[(sR a0), (sR a1)] [(.int (0 : Int32)), (.ref a0)])) rfl rfl (hb hby d10_6)
 have N2 := Fr.snoc X2 N0 g_a0
 have O2 := O0.wr W2 g_a0
 have K2 : Keep h0 h2 [a0] := K0.wr W2 (Or.inl (ix 0 rfl))
 have E_a0_2 := E_a0.wr W2
 have F_a0_modCount_2 := F_a0_modCount.other W2 (Or.inr (slot_ne (Or.inl (hw _ (ix 61 rfl))) (Or.inl (hw _ (ix 59 rfl))) (by decide) (t := .int) (t' := .int) (by decide) (by decide)))
 have F_a0_comparator_2 := F_a0_comparator.other W2 (Or.inr (slot_ne (Or.inr (hw _ (ix 63 rfl))) (Or.inl (hw _ (ix 59 rfl))) (by decide) (t := (.object "java/util/Comparator")) (t' := .int) (by decide) (by decide)))
 have F_a0_size_2 := F_a0_size.same W2
 refine gu (T2.setTop (mkF m 9 #[(sR a0), (sR a1)] [])) (fun t kt => st2 _ kt) ?_
 refine gu (T2.setTop (mkF m 11 #[(sR a0), (sR a1)] [(.int (0 : Int32)), (.ref a0)])) (fun t kt => ?_) ?_
 ·refine XS.aloadN X2.here hx rfl (hb hby d10_9) rfl rfl ?_
  show Steps _ _ _ (T2.setTop (mkF m 10 #[(sR a0), (sR a1)] [(.ref a0)])) _
  refine XS.iconst X2.here hx rfl (hb hby d10_10) ?_
  exact kt
 obtain ⟨T3, h3, X3, e3, W3, st3⟩ := putF X2 hx hZ hown (host := "") (Or.inl (hw _ (ix 60 rfl))) Via.refl e2 F_a0_modCount_2 E_a0_2 (Or.inl (hw _ (ix 61 rfl))) (hw _ (ix 46 rfl)) (ty := .int) (by decide) rfl rfl (g := (mkF m 11 #[(sR a0), (sR a1)] [(.int (0 : Int32)), (.ref a0)])) rfl rfl (hb hby d10_11)
 have N3 := Fr.snoc X3 N2 g_a0
 have O3 := O2.wr W3 g_a0
 have K3 : Keep h0 h3 [a0] := K2.wr W3 (Or.inl (ix 0 rfl))
 have E_a0_3 := E_a0_2.wr W3
 have F_a0_size_3 := F_a0_size_2.other W3 (Or.inr (slot_ne (Or.inl (hw _ (ix 59 rfl))) (Or.inl (hw _ (ix 61 rfl))) (by decide) (t := .int) (t' := .int) (by decide) (by decide)))
 have F_a0_comparator_3 := F_a0_comparator_2.other W3 (Or.inr (slot_ne (Or.inr (hw _ (ix 63 rfl))) (Or.inl (hw _ (ix 61 rfl))) (by decide) (t := (.object "java/util/Comparator")) (t' := .int) (by decide) (by decide)))
 have F_a0_modCount_3 := F_a0_modCount_2.same W3
 refine gu (T3.setTop (mkF m 14 #[(sR a0), (sR a1)] [])) (fun t kt => st3 _ kt) ?_
 refine gu (T3.setTop (mkF m 16 #[(sR a0), (sR a1)] [(.ref a1), (.ref a0)])) (fun t kt => ?_) ?_
 ·refine XS.aloadN X3.here hx rfl (hb hby d10_14) rfl rfl ?_
  show Steps _ _ _ (T3.setTop (mkF m 15 #[(sR a0), (sR a1)] [(.ref a0)])) _
  refine XS.aloadN X3.here hx rfl (hb hby d10_15) rfl rfl ?_
  exact kt
 obtain ⟨T4, h4, X4, e4, W4, st4⟩ := putF X3 hx hZ hown (host := "") (Or.inl (hw _ (ix 62 rfl))) Via.refl e3 F_a0_comparator_3 E_a0_3 (Or.inr ⟨(hw _ (ix 63 rfl)), rfl, hnm⟩) (hw _ (ix 46 rfl)) (ty := (.object "java/util/Comparator")) (by decide) rfl rfl (g := (mkF m 16 #[(sR a0), (sR a1)] [(.ref a1), (.ref a0)])) rfl rfl (hb hby d10_16)
 have N4 := Fr.snoc X4 N3 g_a0
 have O4 := O3.wr W4 g_a0
 have K4 : Keep h0 h4 [a0] := K3.wr W4 (Or.inl (ix 0 rfl))
 have E_a0_4 := E_a0_3.wr W4
 have F_a0_size_4 := F_a0_size_3.other W4 (Or.inr (slot_ne (Or.inl (hw _ (ix 59 rfl))) (Or.inr (hw _ (ix 63 rfl))) (by decide) (t := .int) (t' := (.object "java/util/Comparator")) (by decide) (by decide)))
 have F_a0_modCount_4 := F_a0_modCount_3.other W4 (Or.inr (slot_ne (Or.inl (hw _ (ix 61 rfl))) (Or.inr (hw _ (ix 63 rfl))) (by decide) (t := .int) (t' := (.object "java/util/Comparator")) (by decide) (by decide)))
 have F_a0_comparator_4 := F_a0_comparator_3.same W4
 refine gu (T4.setTop (mkF m 19 #[(sR a0), (sR a1)] [])) (fun t kt => st4 _ kt) ?_
 refine Gl.ret0 X4 hx hlk Bd.returns (hb hby d10_19) ?_ (by decide) (by decide)
 show Q10 Z a0 a1 o1 o2 h0 n0 _ T4.heap _; rw [e4]; exact ⟨rfl, N4, K4, own_fld (congrArg Value.int (show (0 : Int32) = (f10_size a1 o1 o2) from rfl)) F_a0_size_4⟩
def f11  : Int32 := (0 : Int32)
theorem f11_b  : f11  = 0 ∨ f11  = 1 := (Or.inl rfl)
def Q11 (Z : State) (a0 : Addr) (h0 : Heap) (n0 : Nat) (v : Option Value) (h : Heap) (L : List Loc) : Prop := v = some (.int f11) ∧ L = [] ∧ h = h0
theorem ef11 (m : MethodId) (a0 : Addr) : entryFrame m #[(.ref a0)] 1 = mkF m 0 #[(sR a0)] [] := by first | (simp [entryFrame, mkF, argsToLocals, Value.category]; done) | rfl
set_option maxRecDepth 65536 in
set_option maxHeartbeats 40000000 in
theorem rm11 (l : Launch) (Z : State) (aa : Array Value) (hw : ∀ d ∈ tables_1, d.before aa Z = true) (ws : List Jvm.Cond) (a0 : Addr) (h0 : Heap) (n0 : Nat) (O0 : Old Z n0 h0) (E_a0 : Exa Z h0 a0 "java/util/TreeMap") (F_a0_size : Fld Z h0 a0 "java/util/TreeMap" "size" "I" (.int (0 : Int32))) :
  MetFree l mn10 (head1 (Jvm.Cond.code mn10 jdk_2729_method_5_code 1 (some .int) :: ws) ({ frames := 0, cells := 0, slots := 0, locals := 0 } : Room)) (fun a U => a = #[(.ref a0)] ∧ Z.Warmed39 U.vm ∧ U.heap = h0) (fun _ _ _ _ _ => True) (fun _ U o U' => ∃ v L, o = .returned v ∧ Q11 Z a0 h0 n0 v U'.heap L ∧ FrameEnd U o U' L ({ frames := 0, cells := 0, slots := 0, locals := 0 } : Room).cells ({ frames := 0, cells := 0, slots := 0, locals := 0 } : Room).slots) := by
 refine MetFree.of_bodySF (plainFor_of_name pn_java_util_TreeMap) hisR ?_
 intro p e s m args below meth c s₁ Bd hml0 hP hK
 obtain ⟨rfl, hZ, hh⟩ := hP
 have hx := Bd.exec
 have hby := Bd.bytes
 have hlk := Bd.notSynchronized
 have hml : c.maxLocals = 1 := hml0
 have hown : s.vm.findClass "java/util/TreeMap" = some m.cls := findClass_of_methodNamed Bd.named
 have hnm := (name_of_methodNamed Bd.named Bd.method).1
 have X0 : Stand p l e ({ frames := 0, cells := 0, slots := 0, locals := 0 } : Room) s m #[(.ref a0)] below meth c s₁ [] 0 0 := Stand.of_body Bd
 have e0 : s₁.heap = h0 := by rw [← hh, Bd.state]; rfl
 have N0 := Fr.nil n0
 show Gl p e below (Ret s 0 0 (Q11 Z a0 h0 n0)) (s₁.setTop (entryFrame m #[(.ref a0)] 1))
 rw [ef11 m a0]
 obtain ⟨args, hargs⟩ : ∃ z : Array Value, z = #[(.ref a0)] := ⟨_, rfl⟩
 rw [← hargs] at X0
 refine gu (s₁.setTop (mkF m 1 #[(sR a0)] [(.ref a0)])) (fun t kt => ?_) ?_
 ·refine XS.aloadN X0.here hx rfl (hb hby d11_0) rfl rfl ?_
  exact kt
 obtain ⟨T1, X1, e1, st1⟩ := getF X0 hx hZ hown (host := "") (Or.inl (hw _ (ix 58 rfl))) Via.refl e0 F_a0_size (g := (mkF m 1 #[(sR a0)] [(.ref a0)])) rfl rfl (hb hby d11_1)
 refine gu (T1.setTop (mkF m 4 #[(sR a0)] [(.int (0 : Int32))])) (fun t kt => st1 _ kt) ?_
 refine Gl.retI X1 hx hlk Bd.returns (hb hby d11_4) ?_ (by decide) (by decide)
 exact ⟨congrArg (fun z => some (Value.int z)) (show (0 : Int32) = f11  from rfl), rfl, e1⟩
def f12  : Int32 := (1 : Int32)
theorem f12_b  : f12  = 0 ∨ f12  = 1 := (Or.inr rfl)
def Q12 (Z : State) (a0 : Addr) (h0 : Heap) (n0 : Nat) (v : Option Value) (h : Heap) (L : List Loc) : Prop := v = some (.int f12) ∧ L = [] ∧ h = h0
theorem ef12 (m : MethodId) (a0 : Addr) : entryFrame m #[(.ref a0)] 1 = mkF m 0 #[(sR a0)] [] := by first | (simp [entryFrame, mkF, argsToLocals, Value.category]; done) | rfl
set_option maxRecDepth 65536 in
set_option maxHeartbeats 40000000 in
theorem rm12 (l : Launch) (Z : State) (aa : Array Value) (hw : ∀ d ∈ tables_1, d.before aa Z = true) (ws : List Jvm.Cond) (a0 : Addr) (h0 : Heap) (n0 : Nat) (O0 : Old Z n0 h0) (E_a0 : Exa Z h0 a0 "java/util/TreeMap") (F_a0_size : Fld Z h0 a0 "java/util/TreeMap" "size" "I" (.int (0 : Int32))) :
  MetFree l mn11 (head1 (Jvm.Cond.code mn11 jdk_71_method_3_code 1 (some .boolean) :: ws) ({ frames := 1, cells := 0, slots := 0, locals := 12 } : Room)) (fun a U => a = #[(.ref a0)] ∧ Z.Warmed39 U.vm ∧ U.heap = h0) (fun _ _ _ _ _ => True) (fun _ U o U' => ∃ v L, o = .returned v ∧ Q12 Z a0 h0 n0 v U'.heap L ∧ FrameEnd U o U' L ({ frames := 1, cells := 0, slots := 0, locals := 12 } : Room).cells ({ frames := 1, cells := 0, slots := 0, locals := 12 } : Room).slots) := by
 refine MetFree.of_bodySF (plainFor_of_name pn_java_util_AbstractMap) hisR ?_
 intro p e s m args below meth c s₁ Bd hml0 hP hK
 obtain ⟨rfl, hZ, hh⟩ := hP
 have hx := Bd.exec
 have hby := Bd.bytes
 have hlk := Bd.notSynchronized
 have hml : c.maxLocals = 1 := hml0
 have hown : s.vm.findClass "java/util/AbstractMap" = some m.cls := findClass_of_methodNamed Bd.named
 have hnm := (name_of_methodNamed Bd.named Bd.method).1
 have X0 : Stand p l e ({ frames := 1, cells := 0, slots := 0, locals := 12 } : Room) s m #[(.ref a0)] below meth c s₁ [] 0 0 := Stand.of_body Bd
 have e0 : s₁.heap = h0 := by rw [← hh, Bd.state]; rfl
 have N0 := Fr.nil n0
 show Gl p e below (Ret s 0 0 (Q12 Z a0 h0 n0)) (s₁.setTop (entryFrame m #[(.ref a0)] 1))
 rw [ef12 m a0]
 obtain ⟨args, hargs⟩ : ∃ z : Array Value, z = #[(.ref a0)] := ⟨_, rfl⟩
 rw [← hargs] at X0
 refine gu (s₁.setTop (mkF m 1 #[(sR a0)] [(.ref a0)])) (fun t kt => ?_) ?_
 ·refine XS.aloadN X0.here hx rfl (hb hby d12_0) rfl rfl ?_
  exact kt
 obtain ⟨cq1, kq1, q1a, q1b, q1c⟩ := isOf hZ e0 E_a0
 obtain ⟨_, _, ⟨T1, L1, k1, n1⟩, -, X1, ⟨Lc1, hQ1, l1, y1, z1⟩, st1⟩ := X0.virtualBack hx (y := mn12) (z := mn10) hown (mvT hZ (hw _ (ix 107 rfl))) (mvT hZ (hw _ (ix 108 rfl))) (own_notFace (args := #[]) (mvT hZ (hw _ (ix 101 rfl))) rfl) (mvT hZ (hw _ (ix 110 rfl))) (mvT hZ (hw _ (ix 111 rfl))) (by decide) (backOf (W := 0) (rm11 l Z aa hw [] a0 h0 n0 O0 E_a0 F_a0_size) hZ (hw _ (ix 112 rfl)) (hw _ (ix 47 rfl)) (by decide) (by decide)) q1a q1c (g := (mkF m 1 #[(sR a0)] [(.ref a0)])) rfl (sz hml) (Steps.refl _) (argsL := []) (rest := []) (lenOf pd_ocI rfl) rfl le0 (hb hby d12_1) (fun _ _ => ⟨rfl, e0, (by decide : 0 + 0 ≤ _), (by decide : 0 + 0 ≤ _)⟩)
 dsimp only [Pt.U, Pt.locs, Pt.cells, Pt.slots] at X1 l1 y1 z1 st1 hQ1
 subst l1 y1 z1
 obtain ⟨rfl, rfl, e1⟩ := hQ1
 try rw [List.append_nil] at X1
 refine gu (T1.setTop (mkF m 4 #[(sR a0)] [(.int (0 : Int32))])) (fun t kt => st1.trans kt) ?_
 refine gu (T1.setTop (mkF m 12 #[(sR a0)] [(.int (1 : Int32))])) (fun t kt => ?_) ?_
 ·refine XS.ifNo X1.here hx rfl (hb hby d12_4) rfl ((if0 _ _).trans (teq (rfl : (0 : Int32) = (0 : Int32))).2) ?_
  show Steps _ _ _ (T1.setTop (mkF m 7 #[(sR a0)] [])) _
  refine XS.iconst X1.here hx rfl (hb hby d12_7) ?_
  show Steps _ _ _ (T1.setTop (mkF m 8 #[(sR a0)] [(.int (1 : Int32))])) _
  refine XS.goto X1.here hx rfl (pc0 := 8) (pc' := 12) rfl (hb hby d12_8) (by decide) (by decide) ?_
  exact kt
 refine Gl.retN X1 hx hlk (t := .boolean) Bd.returns (by simp) (hb hby d12_12) (w := (1 : Int32)) rfl ?_ (by decide) (by decide)
 exact ⟨congrArg (fun z => some (Value.int z)) (show (1 : Int32) = f12  from rfl), rfl, e1⟩
def f13 (q1 : Int64) : Int32 := (0 : Int32)
theorem f13_b (q1 : Int64) : f13 q1 = 0 ∨ f13 q1 = 1 := (Or.inl rfl)
def Q13 (Z : State) (a0 : Addr) (q1 : Int64) (tm : Addr) (h0 : Heap) (n0 : Nat) (v : Option Value) (h : Heap) (L : List Loc) : Prop := v = some (.int (f13 q1)) ∧ L = [] ∧ h = h0
theorem ef13 (m : MethodId) (a0 : Addr) (q1 : Int64) : entryFrame m #[(.ref a0), (.long q1)] 3 = mkF m 0 #[(sR a0), (sJ q1), .second] [] := by first | (simp [entryFrame, mkF, argsToLocals, Value.category]; done) | rfl
set_option maxRecDepth 65536 in
set_option maxHeartbeats 40000000 in
theorem rm13 (l : Launch) (Z : State) (aa : Array Value) (hw : ∀ d ∈ tables_1, d.before aa Z = true) (ws : List Jvm.Cond) (a0 : Addr) (q1 : Int64) (tm : Addr) (h0 : Heap) (n0 : Nat) (O0 : Old Z n0 h0) (E_a0 : Exa Z h0 a0 "com/example/openvenue/openvenue/core/BookSide") (F_a0_deeper : Fld Z h0 a0 "com/example/openvenue/openvenue/core/BookSide" "deeper" "Ljava/util/NavigableMap;" (.ref tm)) (E_tm : Exa Z h0 tm "java/util/TreeMap") (Fs : Fld Z h0 tm "java/util/TreeMap" "size" "I" (.int (0 : Int32))) :
  MetFree l mn13 (head1 (Jvm.Cond.code mn13 prog_44_method_6_code 3 (some .boolean) :: ws) ({ frames := 2, cells := 0, slots := 0, locals := 24 } : Room)) (fun a U => a = #[(.ref a0), (.long q1)] ∧ Z.Warmed39 U.vm ∧ U.heap = h0) (fun _ _ _ _ _ => True) (fun _ U o U' => ∃ v L, o = .returned v ∧ Q13 Z a0 q1 tm h0 n0 v U'.heap L ∧ FrameEnd U o U' L ({ frames := 2, cells := 0, slots := 0, locals := 24 } : Room).cells ({ frames := 2, cells := 0, slots := 0, locals := 24 } : Room).slots) := by
 refine MetFree.of_bodySF (plainFor_of_name pn_com_example_openvenue_openvenue_core_BookSide) hisR ?_
 intro p e s m args below meth c s₁ Bd hml0 hP hK
 obtain ⟨rfl, hZ, hh⟩ := hP
 have hx := Bd.exec
 have hby := Bd.bytes
 have hlk := Bd.notSynchronized
 have hml : c.maxLocals = 3 := hml0
 have hown : s.vm.findClass "com/example/openvenue/openvenue/core/BookSide" = some m.cls := findClass_of_methodNamed Bd.named
 have hnm := (name_of_methodNamed Bd.named Bd.method).1
 have X0 : Stand p l e ({ frames := 2, cells := 0, slots := 0, locals := 24 } : Room) s m #[(.ref a0), (.long q1)] below meth c s₁ [] 0 0 := Stand.of_body Bd
 have e0 : s₁.heap = h0 := by rw [← hh, Bd.state]; rfl
 have N0 := Fr.nil n0
 show Gl p e below (Ret s 0 0 (Q13 Z a0 q1 tm h0 n0)) (s₁.setTop (entryFrame m #[(.ref a0), (.long q1)] 3))
 rw [ef13 m a0 q1]
 obtain ⟨args, hargs⟩ : ∃ z : Array Value, z = #[(.ref a0), (.long q1)] := ⟨_, rfl⟩
 rw [← hargs] at X0
 refine gu (s₁.setTop (mkF m 1 #[(sR a0), (sJ q1), .second] [(.ref a0)])) (fun t kt => ?_) ?_
 ·refine XS.aloadN X0.here hx rfl (hb hby d13_0) rfl rfl ?_
  exact kt
 obtain ⟨T1, X1, e1, st1⟩ := getF X0 hx hZ hown (host := "") (Or.inl (hw _ (ix 64 rfl))) Via.refl e0 F_a0_deeper (g := (mkF m 1 #[(sR a0), (sJ q1), .second] [(.ref a0)])) rfl rfl (hb hby d13_1)
 refine gu (T1.setTop (mkF m 4 #[(sR a0), (sJ q1), .second] [(.ref tm)])) (fun t kt => st1 _ kt) ?_
 obtain ⟨cq2, kq2, q2a, q2b, q2c⟩ := isOf hZ e1 E_tm
 obtain ⟨_, _, ⟨T2, L2, k2, n2⟩, -, X2, ⟨Lc2, hQ2, l2, y2, z2⟩, st2⟩ := X1.own_faceUp hx (C := "java/util/TreeMap") (J := "java/util/Map") (xi := mn14) (y := mn11) hown (mvT hZ (hw _ (ix 98 rfl))) (mvT hZ (hw _ (ix 99 rfl))) (own_mvFace hZ (hw _ (ix 100 rfl))) (by decide) (mvT hZ (hw _ (ix 101 rfl))) (mvT hZ (hw _ (ix 102 rfl))) (mvT hZ (hw _ (ix 103 rfl))) (mvT hZ (hw _ (ix 104 rfl))) (mvT hZ (hw _ (ix 105 rfl))) (by decide) (by decide) (backOf (W := 0) (rm12 l Z aa hw [] tm h0 n0 O0 E_tm Fs) hZ (hw _ (ix 106 rfl)) (hw _ (ix 55 rfl)) (by decide) (by decide)) q2a q2b q2c (g := (mkF m 4 #[(sR a0), (sJ q1), .second] [(.ref tm)])) rfl (sz hml) (Steps.refl _) (argsL := []) (rest := []) (lenOf pd_ocZ rfl) rfl le0 (hb hby d13_4) (fun _ _ => ⟨rfl, e1, (by decide : 0 + 0 ≤ _), (by decide : 0 + 0 ≤ _)⟩)
 dsimp only [Pt.U, Pt.locs, Pt.cells, Pt.slots] at X2 l2 y2 z2 st2 hQ2
 subst l2 y2 z2
 obtain ⟨rfl, rfl, e2⟩ := hQ2
 try rw [List.append_nil] at X2
 refine gu (T2.setTop (mkF m 9 #[(sR a0), (sJ q1), .second] [(.int (1 : Int32))])) (fun t kt => st2.trans kt) ?_
 refine gu (T2.setTop (mkF m 31 #[(sR a0), (sJ q1), .second] [(.int (0 : Int32))])) (fun t kt => ?_) ?_
 ·refine XS.ifYes X2.here hx rfl (pc0 := 9) (pc' := 30) rfl (hb hby d13_9) rfl ((if0 _ _).trans (feq (by decide : ¬ ((1 : Int32) = (0 : Int32)))).2) (by decide) (by decide) ?_
  show Steps _ _ _ (T2.setTop (mkF m 30 #[(sR a0), (sJ q1), .second] [])) _
  refine XS.iconst X2.here hx rfl (hb hby d13_30) ?_
  exact kt
 refine Gl.retN X2 hx hlk (t := .boolean) Bd.returns (by simp) (hb hby d13_31) (w := (0 : Int32)) rfl ?_ (by decide) (by decide)
 exact ⟨congrArg (fun z => some (Value.int z)) (show (0 : Int32) = f13 q1 from rfl), rfl, e2⟩
def f14 (q1 : Int64) (q2 : Int64) (sd : Addr) (wB : Addr) : Int32 := (if sd = wB then (if q1 < q2 then (1 : Int32) else (0 : Int32)) else (if q2 < q1 then (1 : Int32) else (0 : Int32)))
theorem f14_b (q1 : Int64) (q2 : Int64) (sd : Addr) (wB : Addr) : f14 q1 q2 sd wB = 0 ∨ f14 q1 q2 sd wB = 1 := (b01_ite (b01_ite (Or.inr rfl) (Or.inl rfl)) (b01_ite (Or.inr rfl) (Or.inl rfl)))
def Q14 (Z : State) (a0 : Addr) (q1 : Int64) (q2 : Int64) (sd : Addr) (wB : Addr) (h0 : Heap) (n0 : Nat) (v : Option Value) (h : Heap) (L : List Loc) : Prop := v = some (.int (f14 q1 q2 sd wB)) ∧ L = [] ∧ h = h0
theorem ef14 (m : MethodId) (a0 : Addr) (q1 : Int64) (q2 : Int64) : entryFrame m #[(.ref a0), (.long q1), (.long q2)] 5 = mkF m 0 #[(sR a0), (sJ q1), .second, (sJ q2), .second] [] := by first | (simp [entryFrame, mkF, argsToLocals, Value.category]; done) | rfl
set_option maxRecDepth 65536 in
set_option maxHeartbeats 40000000 in
theorem rm14 (l : Launch) (Z : State) (aa : Array Value) (hw : ∀ d ∈ tables_1, d.before aa Z = true) (ws : List Jvm.Cond) (a0 : Addr) (q1 : Int64) (q2 : Int64) (sd : Addr) (wB : Addr) (h0 : Heap) (n0 : Nat) (O0 : Old Z n0 h0) (E_a0 : Exa Z h0 a0 "com/example/openvenue/openvenue/core/BookSide") (F_a0_side : Fld Z h0 a0 "com/example/openvenue/openvenue/core/BookSide" "side" "Lcom/example/openvenue/openvenue/core/Side;" (.ref sd)) (S_wB : Sta Z Z.heap "com/example/openvenue/openvenue/core/Side" "BUY" "Lcom/example/openvenue/openvenue/core/Side;" (.ref wB)) :
  MetFree l mn15 (head1 (Jvm.Cond.code mn15 prog_44_method_11_code 5 (some .boolean) :: ws) ({ frames := 0, cells := 0, slots := 0, locals := 0 } : Room)) (fun a U => a = #[(.ref a0), (.long q1), (.long q2)] ∧ Z.Warmed39 U.vm ∧ U.heap = h0) (fun _ _ _ _ _ => True) (fun _ U o U' => ∃ v L, o = .returned v ∧ Q14 Z a0 q1 q2 sd wB h0 n0 v U'.heap L ∧ FrameEnd U o U' L ({ frames := 0, cells := 0, slots := 0, locals := 0 } : Room).cells ({ frames := 0, cells := 0, slots := 0, locals := 0 } : Room).slots) := by
 refine MetFree.of_bodySF (plainFor_of_name pn_com_example_openvenue_openvenue_core_BookSide) hisR ?_
 intro p e s m args below meth c s₁ Bd hml0 hP hK
 obtain ⟨rfl, hZ, hh⟩ := hP
 have hx := Bd.exec
 have hby := Bd.bytes
 have hlk := Bd.notSynchronized
 have hml : c.maxLocals = 5 := hml0
 have hown : s.vm.findClass "com/example/openvenue/openvenue/core/BookSide" = some m.cls := findClass_of_methodNamed Bd.named
 have hnm := (name_of_methodNamed Bd.named Bd.method).1
 have X0 : Stand p l e ({ frames := 0, cells := 0, slots := 0, locals := 0 } : Room) s m #[(.ref a0), (.long q1), (.long q2)] below meth c s₁ [] 0 0 := Stand.of_body Bd
 have e0 : s₁.heap = h0 := by rw [← hh, Bd.state]; rfl
 have N0 := Fr.nil n0
 show Gl p e below (Ret s 0 0 (Q14 Z a0 q1 q2 sd wB h0 n0)) (s₁.setTop (entryFrame m #[(.ref a0), (.long q1), (.long q2)] 5))
 rw [ef14 m a0 q1 q2]
 obtain ⟨args, hargs⟩ : ∃ z : Array Value, z = #[(.ref a0), (.long q1), (.long q2)] := ⟨_, rfl⟩
 rw [← hargs] at X0
 refine gu (s₁.setTop (mkF m 1 #[(sR a0), (sJ q1), .second, (sJ q2), .second] [(.ref a0)])) (fun t kt => ?_) ?_
 ·refine XS.aloadN X0.here hx rfl (hb hby d14_0) rfl rfl ?_
  exact kt
 obtain ⟨T1, X1, e1, st1⟩ := getF X0 hx hZ hown (host := "") (Or.inl (hw _ (ix 35 rfl))) Via.refl e0 F_a0_side (g := (mkF m 1 #[(sR a0), (sJ q1), .second, (sJ q2), .second] [(.ref a0)])) rfl rfl (hb hby d14_1)
 refine gu (T1.setTop (mkF m 4 #[(sR a0), (sJ q1), .second, (sJ q2), .second] [(.ref sd)])) (fun t kt => st1 _ kt) ?_
 obtain ⟨T2, X2, e2, st2⟩ := getS2 X1 hx hZ hown (host := "") (Or.inl (hw _ (ix 37 rfl))) Via.refl e1 (S_wB.ext O0.2) (g := (mkF m 4 #[(sR a0), (sJ q1), .second, (sJ q2), .second] [(.ref sd)])) rfl (hb hby d14_4)
 refine gu (T2.setTop (mkF m 7 #[(sR a0), (sJ q1), .second, (sJ q2), .second] [(.ref wB), (.ref sd)])) (fun t kt => st2 _ kt) ?_
 suffices J3 : ∀ (T3 : State) (v3_s0 : Int32), v3_s0 = (if sd = wB then (if q1 < q2 then (1 : Int32) else (0 : Int32)) else (if q2 < q1 then (1 : Int32) else (0 : Int32))) → Stand p l e ({ frames := 0, cells := 0, slots := 0, locals := 0 } : Room) s m args below meth c T3 [] 0 0 → T3.heap = h0 → Gl p e below (Ret s 0 0 (Q14 Z a0 q1 q2 sd wB h0 n0)) (T3.setTop (mkF m 35 #[(sR a0), (sJ q1), .second, (sJ q2), .second] [(.int v3_s0)])) by
  by_cases c7_4 : sd = wB
  ·refine gu (T2.setTop (mkF m 13 #[(sR a0), (sJ q1), .second, (sJ q2), .second] [(.int (lcmpW q1 q2))])) (fun t kt => ?_) ?_
   ·refine Jvm.RoadKit.acmp (g := (mkF m 7 #[(sR a0), (sJ q1), .second, (sJ q2), .second] [(.ref wB), (.ref sd)])) X2 hx rfl rfl rfl (pc0 := 7) (pc' := 10) (same := true) rfl (hb hby d14_7) rfl (decide_eq_true (congrArg Value.ref c7_4)) (by decide) (by decide) ?_
    show Steps _ _ _ (T2.setTop (mkF m 10 #[(sR a0), (sJ q1), .second, (sJ q2), .second] [])) _
    refine XS.lloadN X2.here hx rfl (hb hby d14_10) rfl ?_
    show Steps _ _ _ (T2.setTop (mkF m 11 #[(sR a0), (sJ q1), .second, (sJ q2), .second] [(.long q1)])) _
    refine XS.lloadN X2.here hx rfl (hb hby d14_11) rfl ?_
    show Steps _ _ _ (T2.setTop (mkF m 12 #[(sR a0), (sJ q1), .second, (sJ q2), .second] [(.long q2), (.long q1)])) _
    refine XS.lcmp X2.here hx rfl (hb hby d14_12) rfl ?_
    exact kt
   by_cases c13_5 : q1 < q2
   ·refine gu (T2.setTop (mkF m 35 #[(sR a0), (sJ q1), .second, (sJ q2), .second] [(.int (1 : Int32))])) (fun t kt => ?_) ?_
    ·refine XS.ifNo X2.here hx rfl (hb hby d14_13) rfl (jc_ge_f c13_5) ?_
     show Steps _ _ _ (T2.setTop (mkF m 16 #[(sR a0), (sJ q1), .second, (sJ q2), .second] [])) _
     refine XS.iconst X2.here hx rfl (hb hby d14_16) ?_
     show Steps _ _ _ (T2.setTop (mkF m 17 #[(sR a0), (sJ q1), .second, (sJ q2), .second] [(.int (1 : Int32))])) _
     refine XS.goto X2.here hx rfl (pc0 := 17) (pc' := 35) rfl (hb hby d14_17) (by decide) (by decide) ?_
     exact kt
    exact J3 _ (1 : Int32) ((if_pos c7_4).trans (if_pos c13_5)).symm X2 e2
   ·refine gu (T2.setTop (mkF m 35 #[(sR a0), (sJ q1), .second, (sJ q2), .second] [(.int (0 : Int32))])) (fun t kt => ?_) ?_
    ·refine XS.ifYes X2.here hx rfl (pc0 := 13) (pc' := 20) rfl (hb hby d14_13) rfl (jc_ge_t c13_5) (by decide) (by decide) ?_
     show Steps _ _ _ (T2.setTop (mkF m 20 #[(sR a0), (sJ q1), .second, (sJ q2), .second] [])) _
     refine XS.iconst X2.here hx rfl (hb hby d14_20) ?_
     show Steps _ _ _ (T2.setTop (mkF m 21 #[(sR a0), (sJ q1), .second, (sJ q2), .second] [(.int (0 : Int32))])) _
     refine XS.goto X2.here hx rfl (pc0 := 21) (pc' := 35) rfl (hb hby d14_21) (by decide) (by decide) ?_
     exact kt
    exact J3 _ (0 : Int32) ((if_pos c7_4).trans (if_neg c13_5)).symm X2 e2
  ·refine gu (T2.setTop (mkF m 27 #[(sR a0), (sJ q1), .second, (sJ q2), .second] [(.int (lcmpW q1 q2))])) (fun t kt => ?_) ?_
   ·refine Jvm.RoadKit.acmp (g := (mkF m 7 #[(sR a0), (sJ q1), .second, (sJ q2), .second] [(.ref wB), (.ref sd)])) X2 hx rfl rfl rfl (pc0 := 7) (pc' := 24) (same := false) rfl (hb hby d14_7) rfl (decide_eq_false fun q => c7_4 (Value.ref.inj q)) (by decide) (by decide) ?_
    show Steps _ _ _ (T2.setTop (mkF m 24 #[(sR a0), (sJ q1), .second, (sJ q2), .second] [])) _
    refine XS.lloadN X2.here hx rfl (hb hby d14_24) rfl ?_
    show Steps _ _ _ (T2.setTop (mkF m 25 #[(sR a0), (sJ q1), .second, (sJ q2), .second] [(.long q1)])) _
    refine XS.lloadN X2.here hx rfl (hb hby d14_25) rfl ?_
    show Steps _ _ _ (T2.setTop (mkF m 26 #[(sR a0), (sJ q1), .second, (sJ q2), .second] [(.long q2), (.long q1)])) _
    refine XS.lcmp X2.here hx rfl (hb hby d14_26) rfl ?_
    exact kt
   by_cases c27_6 : q2 < q1
   ·refine gu (T2.setTop (mkF m 35 #[(sR a0), (sJ q1), .second, (sJ q2), .second] [(.int (1 : Int32))])) (fun t kt => ?_) ?_
    ·refine XS.ifNo X2.here hx rfl (hb hby d14_27) rfl (jc_le_f c27_6) ?_
     show Steps _ _ _ (T2.setTop (mkF m 30 #[(sR a0), (sJ q1), .second, (sJ q2), .second] [])) _
     refine XS.iconst X2.here hx rfl (hb hby d14_30) ?_
     show Steps _ _ _ (T2.setTop (mkF m 31 #[(sR a0), (sJ q1), .second, (sJ q2), .second] [(.int (1 : Int32))])) _
     refine XS.goto X2.here hx rfl (pc0 := 31) (pc' := 35) rfl (hb hby d14_31) (by decide) (by decide) ?_
     exact kt
    exact J3 _ (1 : Int32) ((if_neg c7_4).trans (if_pos c27_6)).symm X2 e2
   ·refine gu (T2.setTop (mkF m 35 #[(sR a0), (sJ q1), .second, (sJ q2), .second] [(.int (0 : Int32))])) (fun t kt => ?_) ?_
    ·refine XS.ifYes X2.here hx rfl (pc0 := 27) (pc' := 34) rfl (hb hby d14_27) rfl (jc_le_t c27_6) (by decide) (by decide) ?_
     show Steps _ _ _ (T2.setTop (mkF m 34 #[(sR a0), (sJ q1), .second, (sJ q2), .second] [])) _
     refine XS.iconst X2.here hx rfl (hb hby d14_34) ?_
     exact kt
    exact J3 _ (0 : Int32) ((if_neg c7_4).trans (if_neg c27_6)).symm X2 e2
 intro T3 v3_s0 hv3_s0 X3 e3
 subst hv3_s0
 refine Gl.retN X3 hx hlk (t := .boolean) Bd.returns (by simp) (hb hby d14_35) (w := (if sd = wB then (if q1 < q2 then (1 : Int32) else (0 : Int32)) else (if q2 < q1 then (1 : Int32) else (0 : Int32)))) (nar_b01 (b01_ite (b01_ite (Or.inr rfl) (Or.inl rfl)) (b01_ite (Or.inr rfl) (Or.inl rfl)))) ?_ (by decide) (by decide)
 exact ⟨congrArg (fun z => some (Value.int z)) (show (if sd = wB then (if q1 < q2 then (1 : Int32) else (0 : Int32)) else (if q2 < q1 then (1 : Int32) else (0 : Int32))) = f14 q1 q2 sd wB from rfl), rfl, e3⟩
def f15 (a0 : Addr) (q1 : Int64) (q2 : Int64) (wB : Addr) : Int32 := (if a0 = wB then (if q2 < q1 then (1 : Int32) else (0 : Int32)) else (if q1 < q2 then (1 : Int32) else (0 : Int32)))
theorem f15_b (a0 : Addr) (q1 : Int64) (q2 : Int64) (wB : Addr) : f15 a0 q1 q2 wB = 0 ∨ f15 a0 q1 q2 wB = 1 := (b01_ite (b01_ite (Or.inr rfl) (Or.inl rfl)) (b01_ite (Or.inr rfl) (Or.inl rfl)))
def Q15 (Z : State) (a0 : Addr) (q1 : Int64) (q2 : Int64) (wB : Addr) (h0 : Heap) (n0 : Nat) (v : Option Value) (h : Heap) (L : List Loc) : Prop := v = some (.int (f15 a0 q1 q2 wB)) ∧ L = [] ∧ h = h0
theorem ef15 (m : MethodId) (a0 : Addr) (q1 : Int64) (q2 : Int64) : entryFrame m #[(.ref a0), (.long q1), (.long q2)] 5 = mkF m 0 #[(sR a0), (sJ q1), .second, (sJ q2), .second] [] := by first | (simp [entryFrame, mkF, argsToLocals, Value.category]; done) | rfl
set_option maxRecDepth 65536 in
set_option maxHeartbeats 40000000 in
theorem rm15 (l : Launch) (Z : State) (aa : Array Value) (hw : ∀ d ∈ tables_1, d.before aa Z = true) (ws : List Jvm.Cond) (a0 : Addr) (q1 : Int64) (q2 : Int64) (wB : Addr) (h0 : Heap) (n0 : Nat) (O0 : Old Z n0 h0) (S_wB : Sta Z Z.heap "com/example/openvenue/openvenue/core/Side" "BUY" "Lcom/example/openvenue/openvenue/core/Side;" (.ref wB)) :
  MetFree l mn16 (head1 (Jvm.Cond.code mn16 method_3_code 5 (some .boolean) :: ws) ({ frames := 0, cells := 0, slots := 0, locals := 0 } : Room)) (fun a U => a = #[(.ref a0), (.long q1), (.long q2)] ∧ Z.Warmed39 U.vm ∧ U.heap = h0) (fun _ _ _ _ _ => True) (fun _ U o U' => ∃ v L, o = .returned v ∧ Q15 Z a0 q1 q2 wB h0 n0 v U'.heap L ∧ FrameEnd U o U' L ({ frames := 0, cells := 0, slots := 0, locals := 0 } : Room).cells ({ frames := 0, cells := 0, slots := 0, locals := 0 } : Room).slots) := by
 refine MetFree.of_bodySF (plainFor_of_name pn_com_example_openvenue_openvenue_core_BookSideBestPinLaw) hisR ?_
 intro p e s m args below meth c s₁ Bd hml0 hP hK
 obtain ⟨rfl, hZ, hh⟩ := hP
 have hx := Bd.exec
 have hby := Bd.bytes
 have hlk := Bd.notSynchronized
 have hml : c.maxLocals = 5 := hml0
 have hown : s.vm.findClass "com/example/openvenue/openvenue/core/BookSideBestPinLaw" = some m.cls := findClass_of_methodNamed Bd.named
 have hnm := (name_of_methodNamed Bd.named Bd.method).1
 have X0 : Stand p l e ({ frames := 0, cells := 0, slots := 0, locals := 0 } : Room) s m #[(.ref a0), (.long q1), (.long q2)] below meth c s₁ [] 0 0 := Stand.of_body Bd
 have e0 : s₁.heap = h0 := by rw [← hh, Bd.state]; rfl
 have N0 := Fr.nil n0
 show Gl p e below (Ret s 0 0 (Q15 Z a0 q1 q2 wB h0 n0)) (s₁.setTop (entryFrame m #[(.ref a0), (.long q1), (.long q2)] 5))
 rw [ef15 m a0 q1 q2]
 obtain ⟨args, hargs⟩ : ∃ z : Array Value, z = #[(.ref a0), (.long q1), (.long q2)] := ⟨_, rfl⟩
 rw [← hargs] at X0
 refine gu (s₁.setTop (mkF m 1 #[(sR a0), (sJ q1), .second, (sJ q2), .second] [(.ref a0)])) (fun t kt => ?_) ?_
 ·refine XS.aloadN X0.here hx rfl (hb hby d15_0) rfl rfl ?_
  exact kt
 obtain ⟨T1, X1, e1, st1⟩ := getS2 X0 hx hZ hown (host := "") (Or.inl (hw _ (ix 79 rfl))) Via.refl e0 (S_wB.ext O0.2) (g := (mkF m 1 #[(sR a0), (sJ q1), .second, (sJ q2), .second] [(.ref a0)])) rfl (hb hby d15_1)
 refine gu (T1.setTop (mkF m 4 #[(sR a0), (sJ q1), .second, (sJ q2), .second] [(.ref wB), (.ref a0)])) (fun t kt => st1 _ kt) ?_
 suffices J2 : ∀ (T2 : State) (v2_s0 : Int32), v2_s0 = (if a0 = wB then (if q2 < q1 then (1 : Int32) else (0 : Int32)) else (if q1 < q2 then (1 : Int32) else (0 : Int32))) → Stand p l e ({ frames := 0, cells := 0, slots := 0, locals := 0 } : Room) s m args below meth c T2 [] 0 0 → T2.heap = h0 → Gl p e below (Ret s 0 0 (Q15 Z a0 q1 q2 wB h0 n0)) (T2.setTop (mkF m 32 #[(sR a0), (sJ q1), .second, (sJ q2), .second] [(.int v2_s0)])) by
  by_cases c4_3 : a0 = wB
  ·refine gu (T1.setTop (mkF m 10 #[(sR a0), (sJ q1), .second, (sJ q2), .second] [(.int (lcmpW q1 q2))])) (fun t kt => ?_) ?_
   ·refine Jvm.RoadKit.acmp (g := (mkF m 4 #[(sR a0), (sJ q1), .second, (sJ q2), .second] [(.ref wB), (.ref a0)])) X1 hx rfl rfl rfl (pc0 := 4) (pc' := 7) (same := true) rfl (hb hby d15_4) rfl (decide_eq_true (congrArg Value.ref c4_3)) (by decide) (by decide) ?_
    show Steps _ _ _ (T1.setTop (mkF m 7 #[(sR a0), (sJ q1), .second, (sJ q2), .second] [])) _
    refine XS.lloadN X1.here hx rfl (hb hby d15_7) rfl ?_
    show Steps _ _ _ (T1.setTop (mkF m 8 #[(sR a0), (sJ q1), .second, (sJ q2), .second] [(.long q1)])) _
    refine XS.lloadN X1.here hx rfl (hb hby d15_8) rfl ?_
    show Steps _ _ _ (T1.setTop (mkF m 9 #[(sR a0), (sJ q1), .second, (sJ q2), .second] [(.long q2), (.long q1)])) _
    refine XS.lcmp X1.here hx rfl (hb hby d15_9) rfl ?_
    exact kt
   by_cases c10_4 : q2 < q1
   ·refine gu (T1.setTop (mkF m 32 #[(sR a0), (sJ q1), .second, (sJ q2), .second] [(.int (1 : Int32))])) (fun t kt => ?_) ?_
    ·refine XS.ifNo X1.here hx rfl (hb hby d15_10) rfl (jc_le_f c10_4) ?_
     show Steps _ _ _ (T1.setTop (mkF m 13 #[(sR a0), (sJ q1), .second, (sJ q2), .second] [])) _
     refine XS.iconst X1.here hx rfl (hb hby d15_13) ?_
     show Steps _ _ _ (T1.setTop (mkF m 14 #[(sR a0), (sJ q1), .second, (sJ q2), .second] [(.int (1 : Int32))])) _
     refine XS.goto X1.here hx rfl (pc0 := 14) (pc' := 32) rfl (hb hby d15_14) (by decide) (by decide) ?_
     exact kt
    exact J2 _ (1 : Int32) ((if_pos c4_3).trans (if_pos c10_4)).symm X1 e1
   ·refine gu (T1.setTop (mkF m 32 #[(sR a0), (sJ q1), .second, (sJ q2), .second] [(.int (0 : Int32))])) (fun t kt => ?_) ?_
    ·refine XS.ifYes X1.here hx rfl (pc0 := 10) (pc' := 17) rfl (hb hby d15_10) rfl (jc_le_t c10_4) (by decide) (by decide) ?_
     show Steps _ _ _ (T1.setTop (mkF m 17 #[(sR a0), (sJ q1), .second, (sJ q2), .second] [])) _
     refine XS.iconst X1.here hx rfl (hb hby d15_17) ?_
     show Steps _ _ _ (T1.setTop (mkF m 18 #[(sR a0), (sJ q1), .second, (sJ q2), .second] [(.int (0 : Int32))])) _
     refine XS.goto X1.here hx rfl (pc0 := 18) (pc' := 32) rfl (hb hby d15_18) (by decide) (by decide) ?_
     exact kt
    exact J2 _ (0 : Int32) ((if_pos c4_3).trans (if_neg c10_4)).symm X1 e1
  ·refine gu (T1.setTop (mkF m 24 #[(sR a0), (sJ q1), .second, (sJ q2), .second] [(.int (lcmpW q1 q2))])) (fun t kt => ?_) ?_
   ·refine Jvm.RoadKit.acmp (g := (mkF m 4 #[(sR a0), (sJ q1), .second, (sJ q2), .second] [(.ref wB), (.ref a0)])) X1 hx rfl rfl rfl (pc0 := 4) (pc' := 21) (same := false) rfl (hb hby d15_4) rfl (decide_eq_false fun q => c4_3 (Value.ref.inj q)) (by decide) (by decide) ?_
    show Steps _ _ _ (T1.setTop (mkF m 21 #[(sR a0), (sJ q1), .second, (sJ q2), .second] [])) _
    refine XS.lloadN X1.here hx rfl (hb hby d15_21) rfl ?_
    show Steps _ _ _ (T1.setTop (mkF m 22 #[(sR a0), (sJ q1), .second, (sJ q2), .second] [(.long q1)])) _
    refine XS.lloadN X1.here hx rfl (hb hby d15_22) rfl ?_
    show Steps _ _ _ (T1.setTop (mkF m 23 #[(sR a0), (sJ q1), .second, (sJ q2), .second] [(.long q2), (.long q1)])) _
    refine XS.lcmp X1.here hx rfl (hb hby d15_23) rfl ?_
    exact kt
   by_cases c24_5 : q1 < q2
   ·refine gu (T1.setTop (mkF m 32 #[(sR a0), (sJ q1), .second, (sJ q2), .second] [(.int (1 : Int32))])) (fun t kt => ?_) ?_
    ·refine XS.ifNo X1.here hx rfl (hb hby d15_24) rfl (jc_ge_f c24_5) ?_
     show Steps _ _ _ (T1.setTop (mkF m 27 #[(sR a0), (sJ q1), .second, (sJ q2), .second] [])) _
     refine XS.iconst X1.here hx rfl (hb hby d15_27) ?_
     show Steps _ _ _ (T1.setTop (mkF m 28 #[(sR a0), (sJ q1), .second, (sJ q2), .second] [(.int (1 : Int32))])) _
     refine XS.goto X1.here hx rfl (pc0 := 28) (pc' := 32) rfl (hb hby d15_28) (by decide) (by decide) ?_
     exact kt
    exact J2 _ (1 : Int32) ((if_neg c4_3).trans (if_pos c24_5)).symm X1 e1
   ·refine gu (T1.setTop (mkF m 32 #[(sR a0), (sJ q1), .second, (sJ q2), .second] [(.int (0 : Int32))])) (fun t kt => ?_) ?_
    ·refine XS.ifYes X1.here hx rfl (pc0 := 24) (pc' := 31) rfl (hb hby d15_24) rfl (jc_ge_t c24_5) (by decide) (by decide) ?_
     show Steps _ _ _ (T1.setTop (mkF m 31 #[(sR a0), (sJ q1), .second, (sJ q2), .second] [])) _
     refine XS.iconst X1.here hx rfl (hb hby d15_31) ?_
     exact kt
    exact J2 _ (0 : Int32) ((if_neg c4_3).trans (if_neg c24_5)).symm X1 e1
 intro T2 v2_s0 hv2_s0 X2 e2
 subst hv2_s0
 refine Gl.retN X2 hx hlk (t := .boolean) Bd.returns (by simp) (hb hby d15_32) (w := (if a0 = wB then (if q2 < q1 then (1 : Int32) else (0 : Int32)) else (if q1 < q2 then (1 : Int32) else (0 : Int32)))) (nar_b01 (b01_ite (b01_ite (Or.inr rfl) (Or.inl rfl)) (b01_ite (Or.inr rfl) (Or.inl rfl)))) ?_ (by decide) (by decide)
 exact ⟨congrArg (fun z => some (Value.int z)) (show (if a0 = wB then (if q2 < q1 then (1 : Int32) else (0 : Int32)) else (if q1 < q2 then (1 : Int32) else (0 : Int32))) = f15 a0 q1 q2 wB from rfl), rfl, e2⟩
def f16_0 (q1 : Int64) : Int32 := (-1 : Int32)
def Q16_0 (Z : State) (a0 : Addr) (q1 : Int64) (pa : Addr) (sd : Addr) (kp : ClassId) (wB : Addr) (h0 : Heap) (n0 : Nat) (v : Option Value) (h : Heap) (L : List Loc) : Prop := v = some (.int (f16_0 q1)) ∧ L = [] ∧ h = h0
theorem ef16_0 (m : MethodId) (a0 : Addr) (q1 : Int64) : entryFrame m #[(.ref a0), (.long q1)] 7 = mkF m 0 #[(sR a0), (sJ q1), .second, .unset, .unset, .unset, .unset] [] := by first | (simp [entryFrame, mkF, argsToLocals, Value.category]; done) | rfl
set_option maxRecDepth 65536 in
set_option maxHeartbeats 40000000 in
theorem rm16_0 (l : Launch) (Z : State) (aa : Array Value) (hw : ∀ d ∈ tables_1, d.before aa Z = true) (ws : List Jvm.Cond) (a0 : Addr) (q1 : Int64) (pa : Addr) (sd : Addr) (kp : ClassId) (wB : Addr) (h0 : Heap) (n0 : Nat) (O0 : Old Z n0 h0) (E_a0 : Exa Z h0 a0 "com/example/openvenue/openvenue/core/BookSide") (F_a0_count : Fld Z h0 a0 "com/example/openvenue/openvenue/core/BookSide" "count" "I" (.int (0 : Int32))) (F_a0_prices : Fld Z h0 a0 "com/example/openvenue/openvenue/core/BookSide" "prices" "[J" (.ref pa)) (F_a0_side : Fld Z h0 a0 "com/example/openvenue/openvenue/core/BookSide" "side" "Lcom/example/openvenue/openvenue/core/Side;" (.ref sd)) (V_pa : Arv Z h0 pa kp .long (256 : Int32) [] (.long (0 : Int64))) (S_wB : Sta Z Z.heap "com/example/openvenue/openvenue/core/Side" "BUY" "Lcom/example/openvenue/openvenue/core/Side;" (.ref wB)) :
  MetFree l mn17 (head1 (Jvm.Cond.code mn17 prog_44_method_10_code 7 (some .int) :: ws) ({ frames := 0, cells := 0, slots := 0, locals := 0 } : Room)) (fun a U => a = #[(.ref a0), (.long q1)] ∧ Z.Warmed39 U.vm ∧ U.heap = h0) (fun _ _ _ _ _ => True) (fun _ U o U' => ∃ v L, o = .returned v ∧ Q16_0 Z a0 q1 pa sd kp wB h0 n0 v U'.heap L ∧ FrameEnd U o U' L ({ frames := 0, cells := 0, slots := 0, locals := 0 } : Room).cells ({ frames := 0, cells := 0, slots := 0, locals := 0 } : Room).slots) := by
 refine MetFree.of_bodySF (plainFor_of_name pn_com_example_openvenue_openvenue_core_BookSide) hisR ?_
 intro p e s m args below meth c s₁ Bd hml0 hP hK
 obtain ⟨rfl, hZ, hh⟩ := hP
 have hx := Bd.exec
 have hby := Bd.bytes
 have hlk := Bd.notSynchronized
 have hml : c.maxLocals = 7 := hml0
 have hown : s.vm.findClass "com/example/openvenue/openvenue/core/BookSide" = some m.cls := findClass_of_methodNamed Bd.named
 have hnm := (name_of_methodNamed Bd.named Bd.method).1
 have X0 : Stand p l e ({ frames := 0, cells := 0, slots := 0, locals := 0 } : Room) s m #[(.ref a0), (.long q1)] below meth c s₁ [] 0 0 := Stand.of_body Bd
 have e0 : s₁.heap = h0 := by rw [← hh, Bd.state]; rfl
 have N0 := Fr.nil n0
 show Gl p e below (Ret s 0 0 (Q16_0 Z a0 q1 pa sd kp wB h0 n0)) (s₁.setTop (entryFrame m #[(.ref a0), (.long q1)] 7))
 rw [ef16_0 m a0 q1]
 obtain ⟨args, hargs⟩ : ∃ z : Array Value, z = #[(.ref a0), (.long q1)] := ⟨_, rfl⟩
 rw [← hargs] at X0
 refine gu (s₁.setTop (mkF m 1 #[(sR a0), (sJ q1), .second, .unset, .unset, .unset, .unset] [(.ref a0)])) (fun t kt => ?_) ?_
 ·refine XS.aloadN X0.here hx rfl (hb hby d16_0_0) rfl rfl ?_
  exact kt
 obtain ⟨T1, X1, e1, st1⟩ := getF X0 hx hZ hown (host := "") (Or.inl (hw _ (ix 77 rfl))) Via.refl e0 F_a0_count (g := (mkF m 1 #[(sR a0), (sJ q1), .second, .unset, .unset, .unset, .unset] [(.ref a0)])) rfl rfl (hb hby d16_0_1)
 refine gu (T1.setTop (mkF m 4 #[(sR a0), (sJ q1), .second, .unset, .unset, .unset, .unset] [(.int (0 : Int32))])) (fun t kt => st1 _ kt) ?_
 refine gu (T1.setTop (mkF m 107 #[(sR a0), (sJ q1), .second, (sI (0 : Int32)), (sI (0 : Int32)), (sI (1 : Int32)), .unset] [(.ref a0), (.int (0 : Int32))])) (fun t kt => ?_) ?_
 ·refine XS.istoreN X1.here hx rfl (hb hby d16_0_4) rfl (l' := #[(sR a0), (sJ q1), .second, (sI (0 : Int32)), .unset, .unset, .unset]) rfl ?_
  show Steps _ _ _ (T1.setTop (mkF m 5 #[(sR a0), (sJ q1), .second, (sI (0 : Int32)), .unset, .unset, .unset] [])) _
  refine XS.iconst X1.here hx rfl (hb hby d16_0_5) ?_
  show Steps _ _ _ (T1.setTop (mkF m 6 #[(sR a0), (sJ q1), .second, (sI (0 : Int32)), .unset, .unset, .unset] [(.int (0 : Int32))])) _
  refine XS.istore X1.here hx rfl (hb hby d16_0_6) rfl (l' := #[(sR a0), (sJ q1), .second, (sI (0 : Int32)), (sI (0 : Int32)), .unset, .unset]) rfl ?_
  show Steps _ _ _ (T1.setTop (mkF m 8 #[(sR a0), (sJ q1), .second, (sI (0 : Int32)), (sI (0 : Int32)), .unset, .unset] [])) _
  refine XS.iconst X1.here hx rfl (hb hby d16_0_8) ?_
  show Steps _ _ _ (T1.setTop (mkF m 9 #[(sR a0), (sJ q1), .second, (sI (0 : Int32)), (sI (0 : Int32)), .unset, .unset] [(.int (1 : Int32))])) _
  refine XS.istore X1.here hx rfl (hb hby d16_0_9) rfl (l' := #[(sR a0), (sJ q1), .second, (sI (0 : Int32)), (sI (0 : Int32)), (sI (1 : Int32)), .unset]) rfl ?_
  show Steps _ _ _ (T1.setTop (mkF m 11 #[(sR a0), (sJ q1), .second, (sI (0 : Int32)), (sI (0 : Int32)), (sI (1 : Int32)), .unset] [])) _
  refine XS.iloadN X1.here hx rfl (hb hby d16_0_11) rfl ?_
  show Steps _ _ _ (T1.setTop (mkF m 12 #[(sR a0), (sJ q1), .second, (sI (0 : Int32)), (sI (0 : Int32)), (sI (1 : Int32)), .unset] [(.int (0 : Int32))])) _
  refine XS.iload X1.here hx rfl (hb hby d16_0_12) rfl ?_
  show Steps _ _ _ (T1.setTop (mkF m 14 #[(sR a0), (sJ q1), .second, (sI (0 : Int32)), (sI (0 : Int32)), (sI (1 : Int32)), .unset] [(.int (1 : Int32)), (.int (0 : Int32))])) _
  refine XS.isub X1.here hx rfl (hb hby d16_0_14) rfl ?_
  show Steps _ _ _ (T1.setTop (mkF m 15 #[(sR a0), (sJ q1), .second, (sI (0 : Int32)), (sI (0 : Int32)), (sI (1 : Int32)), .unset] [(.int (-1 : Int32))])) _
  refine XS.ifYes X1.here hx rfl (pc0 := 15) (pc' := 60) rfl (hb hby d16_0_15) rfl ((if0 _ _).trans (tlt (by decide : (-1 : Int32) < (0 : Int32))).1) (by decide) (by decide) ?_
  show Steps _ _ _ (T1.setTop (mkF m 60 #[(sR a0), (sJ q1), .second, (sI (0 : Int32)), (sI (0 : Int32)), (sI (1 : Int32)), .unset] [])) _
  refine XS.iload X1.here hx rfl (hb hby d16_0_60) rfl ?_
  show Steps _ _ _ (T1.setTop (mkF m 62 #[(sR a0), (sJ q1), .second, (sI (0 : Int32)), (sI (0 : Int32)), (sI (1 : Int32)), .unset] [(.int (0 : Int32))])) _
  refine XS.iloadN X1.here hx rfl (hb hby d16_0_62) rfl ?_
  show Steps _ _ _ (T1.setTop (mkF m 63 #[(sR a0), (sJ q1), .second, (sI (0 : Int32)), (sI (0 : Int32)), (sI (1 : Int32)), .unset] [(.int (0 : Int32)), (.int (0 : Int32))])) _
  refine XS.icmpYes X1.here hx rfl (pc0 := 63) (pc' := 104) rfl (hb hby d16_0_63) rfl (flt (by decide : ¬ ((0 : Int32) < (0 : Int32)))).2.1 (by decide) (by decide) ?_
  show Steps _ _ _ (T1.setTop (mkF m 104 #[(sR a0), (sJ q1), .second, (sI (0 : Int32)), (sI (0 : Int32)), (sI (1 : Int32)), .unset] [])) _
  refine XS.iload X1.here hx rfl (hb hby d16_0_104) rfl ?_
  show Steps _ _ _ (T1.setTop (mkF m 106 #[(sR a0), (sJ q1), .second, (sI (0 : Int32)), (sI (0 : Int32)), (sI (1 : Int32)), .unset] [(.int (0 : Int32))])) _
  refine XS.aloadN X1.here hx rfl (hb hby d16_0_106) rfl rfl ?_
  exact kt
 obtain ⟨T2, X2, e2, st2⟩ := getF X1 hx hZ hown (host := "") (Or.inl (hw _ (ix 77 rfl))) Via.refl e1 F_a0_count (g := (mkF m 107 #[(sR a0), (sJ q1), .second, (sI (0 : Int32)), (sI (0 : Int32)), (sI (1 : Int32)), .unset] [(.ref a0), (.int (0 : Int32))])) rfl rfl (hb hby d16_0_107)
 refine gu (T2.setTop (mkF m 110 #[(sR a0), (sJ q1), .second, (sI (0 : Int32)), (sI (0 : Int32)), (sI (1 : Int32)), .unset] [(.int (0 : Int32)), (.int (0 : Int32))])) (fun t kt => st2 _ kt) ?_
 refine gu (T2.setTop (mkF m 135 #[(sR a0), (sJ q1), .second, (sI (0 : Int32)), (sI (0 : Int32)), (sI (1 : Int32)), .unset] [(.int (-1 : Int32))])) (fun t kt => ?_) ?_
 ·refine XS.icmpYes X2.here hx rfl (pc0 := 110) (pc' := 130) rfl (hb hby d16_0_110) rfl (flt (by decide : ¬ ((0 : Int32) < (0 : Int32)))).2.1 (by decide) (by decide) ?_
  show Steps _ _ _ (T2.setTop (mkF m 130 #[(sR a0), (sJ q1), .second, (sI (0 : Int32)), (sI (0 : Int32)), (sI (1 : Int32)), .unset] [])) _
  refine XS.iload X2.here hx rfl (hb hby d16_0_130) rfl ?_
  show Steps _ _ _ (T2.setTop (mkF m 132 #[(sR a0), (sJ q1), .second, (sI (0 : Int32)), (sI (0 : Int32)), (sI (1 : Int32)), .unset] [(.int (0 : Int32))])) _
  refine XS.ineg X2.here hx rfl (hb hby d16_0_132) rfl ?_
  show Steps _ _ _ (T2.setTop (mkF m 133 #[(sR a0), (sJ q1), .second, (sI (0 : Int32)), (sI (0 : Int32)), (sI (1 : Int32)), .unset] [(.int (0 : Int32))])) _
  refine XS.iconst X2.here hx rfl (hb hby d16_0_133) ?_
  show Steps _ _ _ (T2.setTop (mkF m 134 #[(sR a0), (sJ q1), .second, (sI (0 : Int32)), (sI (0 : Int32)), (sI (1 : Int32)), .unset] [(.int (1 : Int32)), (.int (0 : Int32))])) _
  refine XS.isub X2.here hx rfl (hb hby d16_0_134) rfl ?_
  exact kt
 refine Gl.retI X2 hx hlk Bd.returns (hb hby d16_0_135) ?_ (by decide) (by decide)
 exact ⟨congrArg (fun z => some (Value.int z)) (show (-1 : Int32) = f16_0 q1 from rfl), rfl, e2⟩
def f16_1 (q1 : Int64) (sd : Addr) (x0 : Int64) (wB : Addr) : Int32 := (if (f14 x0 q1 sd wB) = (0 : Int32) then (if x0 = q1 then (0 : Int32) else (-1 : Int32)) else (-2 : Int32))
def Q16_1 (Z : State) (a0 : Addr) (q1 : Int64) (pa : Addr) (sd : Addr) (kp : ClassId) (x0 : Int64) (wB : Addr) (h0 : Heap) (n0 : Nat) (v : Option Value) (h : Heap) (L : List Loc) : Prop := v = some (.int (f16_1 q1 sd x0 wB)) ∧ L = [] ∧ h = h0
theorem ef16_1 (m : MethodId) (a0 : Addr) (q1 : Int64) : entryFrame m #[(.ref a0), (.long q1)] 7 = mkF m 0 #[(sR a0), (sJ q1), .second, .unset, .unset, .unset, .unset] [] := by first | (simp [entryFrame, mkF, argsToLocals, Value.category]; done) | rfl
set_option maxRecDepth 65536 in
set_option maxHeartbeats 40000000 in
theorem rm16_1 (l : Launch) (Z : State) (aa : Array Value) (hw : ∀ d ∈ tables_1, d.before aa Z = true) (ws : List Jvm.Cond) (a0 : Addr) (q1 : Int64) (pa : Addr) (sd : Addr) (kp : ClassId) (x0 : Int64) (wB : Addr) (h0 : Heap) (n0 : Nat) (O0 : Old Z n0 h0) (E_a0 : Exa Z h0 a0 "com/example/openvenue/openvenue/core/BookSide") (F_a0_count : Fld Z h0 a0 "com/example/openvenue/openvenue/core/BookSide" "count" "I" (.int (1 : Int32))) (F_a0_prices : Fld Z h0 a0 "com/example/openvenue/openvenue/core/BookSide" "prices" "[J" (.ref pa)) (F_a0_side : Fld Z h0 a0 "com/example/openvenue/openvenue/core/BookSide" "side" "Lcom/example/openvenue/openvenue/core/Side;" (.ref sd)) (V_pa : Arv Z h0 pa kp .long (256 : Int32) [(.long x0)] (.long (0 : Int64))) (S_wB : Sta Z Z.heap "com/example/openvenue/openvenue/core/Side" "BUY" "Lcom/example/openvenue/openvenue/core/Side;" (.ref wB)) :
  MetFree l mn17 (head1 (Jvm.Cond.code mn17 prog_44_method_10_code 7 (some .int) :: ws) ({ frames := 1, cells := 0, slots := 0, locals := 16 } : Room)) (fun a U => a = #[(.ref a0), (.long q1)] ∧ Z.Warmed39 U.vm ∧ U.heap = h0) (fun _ _ _ _ _ => True) (fun _ U o U' => ∃ v L, o = .returned v ∧ Q16_1 Z a0 q1 pa sd kp x0 wB h0 n0 v U'.heap L ∧ FrameEnd U o U' L ({ frames := 1, cells := 0, slots := 0, locals := 16 } : Room).cells ({ frames := 1, cells := 0, slots := 0, locals := 16 } : Room).slots) := by
 refine MetFree.of_bodySF (plainFor_of_name pn_com_example_openvenue_openvenue_core_BookSide) hisR ?_
 intro p e s m args below meth c s₁ Bd hml0 hP hK
 obtain ⟨rfl, hZ, hh⟩ := hP
 have hx := Bd.exec
 have hby := Bd.bytes
 have hlk := Bd.notSynchronized
 have hml : c.maxLocals = 7 := hml0
 have hown : s.vm.findClass "com/example/openvenue/openvenue/core/BookSide" = some m.cls := findClass_of_methodNamed Bd.named
 have hnm := (name_of_methodNamed Bd.named Bd.method).1
 have X0 : Stand p l e ({ frames := 1, cells := 0, slots := 0, locals := 16 } : Room) s m #[(.ref a0), (.long q1)] below meth c s₁ [] 0 0 := Stand.of_body Bd
 have e0 : s₁.heap = h0 := by rw [← hh, Bd.state]; rfl
 have N0 := Fr.nil n0
 show Gl p e below (Ret s 0 0 (Q16_1 Z a0 q1 pa sd kp x0 wB h0 n0)) (s₁.setTop (entryFrame m #[(.ref a0), (.long q1)] 7))
 rw [ef16_1 m a0 q1]
 obtain ⟨args, hargs⟩ : ∃ z : Array Value, z = #[(.ref a0), (.long q1)] := ⟨_, rfl⟩
 rw [← hargs] at X0
 refine gu (s₁.setTop (mkF m 1 #[(sR a0), (sJ q1), .second, .unset, .unset, .unset, .unset] [(.ref a0)])) (fun t kt => ?_) ?_
 ·refine XS.aloadN X0.here hx rfl (hb hby d16_1_0) rfl rfl ?_
  exact kt
 obtain ⟨T1, X1, e1, st1⟩ := getF X0 hx hZ hown (host := "") (Or.inl (hw _ (ix 77 rfl))) Via.refl e0 F_a0_count (g := (mkF m 1 #[(sR a0), (sJ q1), .second, .unset, .unset, .unset, .unset] [(.ref a0)])) rfl rfl (hb hby d16_1_1)
 refine gu (T1.setTop (mkF m 4 #[(sR a0), (sJ q1), .second, .unset, .unset, .unset, .unset] [(.int (1 : Int32))])) (fun t kt => st1 _ kt) ?_
 refine gu (T1.setTop (mkF m 26 #[(sR a0), (sJ q1), .second, (sI (1 : Int32)), (sI (0 : Int32)), (sI (1 : Int32)), (sI (0 : Int32))] [(.ref a0), (.ref a0)])) (fun t kt => ?_) ?_
 ·refine XS.istoreN X1.here hx rfl (hb hby d16_1_4) rfl (l' := #[(sR a0), (sJ q1), .second, (sI (1 : Int32)), .unset, .unset, .unset]) rfl ?_
  show Steps _ _ _ (T1.setTop (mkF m 5 #[(sR a0), (sJ q1), .second, (sI (1 : Int32)), .unset, .unset, .unset] [])) _
  refine XS.iconst X1.here hx rfl (hb hby d16_1_5) ?_
  show Steps _ _ _ (T1.setTop (mkF m 6 #[(sR a0), (sJ q1), .second, (sI (1 : Int32)), .unset, .unset, .unset] [(.int (0 : Int32))])) _
  refine XS.istore X1.here hx rfl (hb hby d16_1_6) rfl (l' := #[(sR a0), (sJ q1), .second, (sI (1 : Int32)), (sI (0 : Int32)), .unset, .unset]) rfl ?_
  show Steps _ _ _ (T1.setTop (mkF m 8 #[(sR a0), (sJ q1), .second, (sI (1 : Int32)), (sI (0 : Int32)), .unset, .unset] [])) _
  refine XS.iconst X1.here hx rfl (hb hby d16_1_8) ?_
  show Steps _ _ _ (T1.setTop (mkF m 9 #[(sR a0), (sJ q1), .second, (sI (1 : Int32)), (sI (0 : Int32)), .unset, .unset] [(.int (1 : Int32))])) _
  refine XS.istore X1.here hx rfl (hb hby d16_1_9) rfl (l' := #[(sR a0), (sJ q1), .second, (sI (1 : Int32)), (sI (0 : Int32)), (sI (1 : Int32)), .unset]) rfl ?_
  show Steps _ _ _ (T1.setTop (mkF m 11 #[(sR a0), (sJ q1), .second, (sI (1 : Int32)), (sI (0 : Int32)), (sI (1 : Int32)), .unset] [])) _
  refine XS.iloadN X1.here hx rfl (hb hby d16_1_11) rfl ?_
  show Steps _ _ _ (T1.setTop (mkF m 12 #[(sR a0), (sJ q1), .second, (sI (1 : Int32)), (sI (0 : Int32)), (sI (1 : Int32)), .unset] [(.int (1 : Int32))])) _
  refine XS.iload X1.here hx rfl (hb hby d16_1_12) rfl ?_
  show Steps _ _ _ (T1.setTop (mkF m 14 #[(sR a0), (sJ q1), .second, (sI (1 : Int32)), (sI (0 : Int32)), (sI (1 : Int32)), .unset] [(.int (1 : Int32)), (.int (1 : Int32))])) _
  refine XS.isub X1.here hx rfl (hb hby d16_1_14) rfl ?_
  show Steps _ _ _ (T1.setTop (mkF m 15 #[(sR a0), (sJ q1), .second, (sI (1 : Int32)), (sI (0 : Int32)), (sI (1 : Int32)), .unset] [(.int (0 : Int32))])) _
  refine XS.ifNo X1.here hx rfl (hb hby d16_1_15) rfl ((if0 _ _).trans (flt (by decide : ¬ ((0 : Int32) < (0 : Int32)))).1) ?_
  show Steps _ _ _ (T1.setTop (mkF m 18 #[(sR a0), (sJ q1), .second, (sI (1 : Int32)), (sI (0 : Int32)), (sI (1 : Int32)), .unset] [])) _
  refine XS.iloadN X1.here hx rfl (hb hby d16_1_18) rfl ?_
  show Steps _ _ _ (T1.setTop (mkF m 19 #[(sR a0), (sJ q1), .second, (sI (1 : Int32)), (sI (0 : Int32)), (sI (1 : Int32)), .unset] [(.int (1 : Int32))])) _
  refine XS.iload X1.here hx rfl (hb hby d16_1_19) rfl ?_
  show Steps _ _ _ (T1.setTop (mkF m 21 #[(sR a0), (sJ q1), .second, (sI (1 : Int32)), (sI (0 : Int32)), (sI (1 : Int32)), .unset] [(.int (1 : Int32)), (.int (1 : Int32))])) _
  refine XS.isub X1.here hx rfl (hb hby d16_1_21) rfl ?_
  show Steps _ _ _ (T1.setTop (mkF m 22 #[(sR a0), (sJ q1), .second, (sI (1 : Int32)), (sI (0 : Int32)), (sI (1 : Int32)), .unset] [(.int (0 : Int32))])) _
  refine XS.istore X1.here hx rfl (hb hby d16_1_22) rfl (l' := #[(sR a0), (sJ q1), .second, (sI (1 : Int32)), (sI (0 : Int32)), (sI (1 : Int32)), (sI (0 : Int32))]) rfl ?_
  show Steps _ _ _ (T1.setTop (mkF m 24 #[(sR a0), (sJ q1), .second, (sI (1 : Int32)), (sI (0 : Int32)), (sI (1 : Int32)), (sI (0 : Int32))] [])) _
  refine XS.aloadN X1.here hx rfl (hb hby d16_1_24) rfl rfl ?_
  show Steps _ _ _ (T1.setTop (mkF m 25 #[(sR a0), (sJ q1), .second, (sI (1 : Int32)), (sI (0 : Int32)), (sI (1 : Int32)), (sI (0 : Int32))] [(.ref a0)])) _
  refine XS.aloadN X1.here hx rfl (hb hby d16_1_25) rfl rfl ?_
  exact kt
 obtain ⟨T2, X2, e2, st2⟩ := getF X1 hx hZ hown (host := "") (Or.inl (hw _ (ix 17 rfl))) Via.refl e1 F_a0_prices (g := (mkF m 26 #[(sR a0), (sJ q1), .second, (sI (1 : Int32)), (sI (0 : Int32)), (sI (1 : Int32)), (sI (0 : Int32))] [(.ref a0), (.ref a0)])) rfl rfl (hb hby d16_1_26)
 refine gu (T2.setTop (mkF m 29 #[(sR a0), (sJ q1), .second, (sI (1 : Int32)), (sI (0 : Int32)), (sI (1 : Int32)), (sI (0 : Int32))] [(.ref pa), (.ref a0)])) (fun t kt => st2 _ kt) ?_
 obtain ⟨ca3, Ar3, q3, S3, M3, H3, U3⟩ := id V_pa
 refine gu (T2.setTop (mkF m 31 #[(sR a0), (sJ q1), .second, (sI (1 : Int32)), (sI (0 : Int32)), (sI (1 : Int32)), (sI (0 : Int32))] [(.int (0 : Int32)), (.ref pa), (.ref a0)])) (fun t kt => ?_) ?_
 ·refine XS.iload X2.here hx rfl (hb hby d16_1_29) rfl ?_
  exact kt
 refine gu (T2.setTop (mkF m 33 #[(sR a0), (sJ q1), .second, (sI (1 : Int32)), (sI (0 : Int32)), (sI (1 : Int32)), (sI (0 : Int32))] [(.long q1), (.long x0), (.ref a0)])) (fun t kt => ?_) ?_
 ·refine X2.laload hx (j := (0 : Int32)) (v := (.long x0)) (by rw [e2]; exact Ar3.1) (State.isArrayOf_alike hZ.alike Ar3.2.1) Ar3.2.2 (inb_of S3 ⟨by decide, by decide⟩) (Has.at H3 (inb_of S3 ⟨by decide, by decide⟩) rfl) (g := (mkF m 31 #[(sR a0), (sJ q1), .second, (sI (1 : Int32)), (sI (0 : Int32)), (sI (1 : Int32)), (sI (0 : Int32))] [(.int (0 : Int32)), (.ref pa), (.ref a0)])) rfl rfl (hb hby d16_1_31) _ ?_
  show Steps _ _ _ (T2.setTop (mkF m 32 #[(sR a0), (sJ q1), .second, (sI (1 : Int32)), (sI (0 : Int32)), (sI (1 : Int32)), (sI (0 : Int32))] [(.long x0), (.ref a0)])) _
  refine XS.lloadN X2.here hx rfl (hb hby d16_1_32) rfl ?_
  exact kt
 obtain ⟨cq4, q4, r4⟩ := E_a0.cell
 obtain ⟨_, _, ⟨T4, L4, k4, n4⟩, -, X4, ⟨Lc4, hQ4, l4, y4, z4⟩, st4⟩ := X2.privateBack hx (y := mn15) hown (mvT hZ (hw _ (ix 145 rfl))) (mvT hZ (hw _ (ix 146 rfl))) (own_selp (mvT hZ (hw _ (ix 4 rfl))) (mvP hZ (hw _ (ix 147 rfl))) (mvT hZ (hw _ (ix 146 rfl))) (by decide)) (Cond.privateMethod_at (mvP hZ (hw _ (ix 147 rfl)) (args := #[]))) (mvT hZ (hw _ (ix 148 rfl))) (by decide) (backOf (W := 0) (rm14 l Z aa hw [] a0 x0 q1 sd wB h0 n0 O0 E_a0 F_a0_side S_wB) hZ (hw _ (ix 148 rfl)) (hw _ (ix 5 rfl)) (by decide) (by decide)) (g := (mkF m 33 #[(sR a0), (sJ q1), .second, (sI (1 : Int32)), (sI (0 : Int32)), (sI (1 : Int32)), (sI (0 : Int32))] [(.long q1), (.long x0), (.ref a0)])) rfl (sz hml) (Steps.refl _) (a := a0) (by rw [e2]; exact q4) r4 (argsL := [(.long x0), (.long q1)]) (rest := []) (lenOf pd_oJJcZ rfl) rfl le0 (hb hby d16_1_33) (fun _ _ => ⟨rfl, e2, (by decide : 0 + 0 ≤ _), (by decide : 0 + 0 ≤ _)⟩)
 dsimp only [Pt.U, Pt.locs, Pt.cells, Pt.slots] at X4 l4 y4 z4 st4 hQ4
 subst l4 y4 z4
 obtain ⟨rfl, rfl, e4⟩ := hQ4
 try rw [List.append_nil] at X4
 refine gu (T4.setTop (mkF m 36 #[(sR a0), (sJ q1), .second, (sI (1 : Int32)), (sI (0 : Int32)), (sI (1 : Int32)), (sI (0 : Int32))] [(.int (f14 x0 q1 sd wB))])) (fun t kt => st4.trans kt) ?_
 by_cases c36_5 : (f14 x0 q1 sd wB) = (0 : Int32)
 ·refine gu (T4.setTop (mkF m 107 #[(sR a0), (sJ q1), .second, (sI (0 : Int32)), (sI (0 : Int32)), (sI (2 : Int32)), (sI (0 : Int32))] [(.ref a0), (.int (0 : Int32))])) (fun t kt => ?_) ?_
  ·refine XS.ifYes X4.here hx rfl (pc0 := 36) (pc' := 48) rfl (hb hby d16_1_36) rfl ((if0 _ _).trans (teq c36_5).1) (by decide) (by decide) ?_
   show Steps _ _ _ (T4.setTop (mkF m 48 #[(sR a0), (sJ q1), .second, (sI (1 : Int32)), (sI (0 : Int32)), (sI (1 : Int32)), (sI (0 : Int32))] [])) _
   refine XS.iload X4.here hx rfl (hb hby d16_1_48) rfl ?_
   show Steps _ _ _ (T4.setTop (mkF m 50 #[(sR a0), (sJ q1), .second, (sI (1 : Int32)), (sI (0 : Int32)), (sI (1 : Int32)), (sI (0 : Int32))] [(.int (0 : Int32))])) _
   refine XS.istoreN X4.here hx rfl (hb hby d16_1_50) rfl (l' := #[(sR a0), (sJ q1), .second, (sI (0 : Int32)), (sI (0 : Int32)), (sI (1 : Int32)), (sI (0 : Int32))]) rfl ?_
   show Steps _ _ _ (T4.setTop (mkF m 51 #[(sR a0), (sJ q1), .second, (sI (0 : Int32)), (sI (0 : Int32)), (sI (1 : Int32)), (sI (0 : Int32))] [])) _
   refine XS.iload X4.here hx rfl (hb hby d16_1_51) rfl ?_
   show Steps _ _ _ (T4.setTop (mkF m 53 #[(sR a0), (sJ q1), .second, (sI (0 : Int32)), (sI (0 : Int32)), (sI (1 : Int32)), (sI (0 : Int32))] [(.int (1 : Int32))])) _
   refine XS.iconst X4.here hx rfl (hb hby d16_1_53) ?_
   show Steps _ _ _ (T4.setTop (mkF m 54 #[(sR a0), (sJ q1), .second, (sI (0 : Int32)), (sI (0 : Int32)), (sI (1 : Int32)), (sI (0 : Int32))] [(.int (1 : Int32)), (.int (1 : Int32))])) _
   refine XS.ishl X4.here hx rfl (hb hby d16_1_54) rfl ?_
   show Steps _ _ _ (T4.setTop (mkF m 55 #[(sR a0), (sJ q1), .second, (sI (0 : Int32)), (sI (0 : Int32)), (sI (1 : Int32)), (sI (0 : Int32))] [(.int (2 : Int32))])) _
   refine XS.istore X4.here hx rfl (hb hby d16_1_55) rfl (l' := #[(sR a0), (sJ q1), .second, (sI (0 : Int32)), (sI (0 : Int32)), (sI (2 : Int32)), (sI (0 : Int32))]) rfl ?_
   show Steps _ _ _ (T4.setTop (mkF m 57 #[(sR a0), (sJ q1), .second, (sI (0 : Int32)), (sI (0 : Int32)), (sI (2 : Int32)), (sI (0 : Int32))] [])) _
   refine XS.goto X4.here hx rfl (pc0 := 57) (pc' := 11) rfl (hb hby d16_1_57) (by decide) (by decide) ?_
   show Steps _ _ _ (T4.setTop (mkF m 11 #[(sR a0), (sJ q1), .second, (sI (0 : Int32)), (sI (0 : Int32)), (sI (2 : Int32)), (sI (0 : Int32))] [])) _
   refine XS.iloadN X4.here hx rfl (hb hby d16_1_11) rfl ?_
   show Steps _ _ _ (T4.setTop (mkF m 12 #[(sR a0), (sJ q1), .second, (sI (0 : Int32)), (sI (0 : Int32)), (sI (2 : Int32)), (sI (0 : Int32))] [(.int (0 : Int32))])) _
   refine XS.iload X4.here hx rfl (hb hby d16_1_12) rfl ?_
   show Steps _ _ _ (T4.setTop (mkF m 14 #[(sR a0), (sJ q1), .second, (sI (0 : Int32)), (sI (0 : Int32)), (sI (2 : Int32)), (sI (0 : Int32))] [(.int (2 : Int32)), (.int (0 : Int32))])) _
   refine XS.isub X4.here hx rfl (hb hby d16_1_14) rfl ?_
   show Steps _ _ _ (T4.setTop (mkF m 15 #[(sR a0), (sJ q1), .second, (sI (0 : Int32)), (sI (0 : Int32)), (sI (2 : Int32)), (sI (0 : Int32))] [(.int (-2 : Int32))])) _
   refine XS.ifYes X4.here hx rfl (pc0 := 15) (pc' := 60) rfl (hb hby d16_1_15) rfl ((if0 _ _).trans (tlt (by decide : (-2 : Int32) < (0 : Int32))).1) (by decide) (by decide) ?_
   show Steps _ _ _ (T4.setTop (mkF m 60 #[(sR a0), (sJ q1), .second, (sI (0 : Int32)), (sI (0 : Int32)), (sI (2 : Int32)), (sI (0 : Int32))] [])) _
   refine XS.iload X4.here hx rfl (hb hby d16_1_60) rfl ?_
   show Steps _ _ _ (T4.setTop (mkF m 62 #[(sR a0), (sJ q1), .second, (sI (0 : Int32)), (sI (0 : Int32)), (sI (2 : Int32)), (sI (0 : Int32))] [(.int (0 : Int32))])) _
   refine XS.iloadN X4.here hx rfl (hb hby d16_1_62) rfl ?_
   show Steps _ _ _ (T4.setTop (mkF m 63 #[(sR a0), (sJ q1), .second, (sI (0 : Int32)), (sI (0 : Int32)), (sI (2 : Int32)), (sI (0 : Int32))] [(.int (0 : Int32)), (.int (0 : Int32))])) _
   refine XS.icmpYes X4.here hx rfl (pc0 := 63) (pc' := 104) rfl (hb hby d16_1_63) rfl (flt (by decide : ¬ ((0 : Int32) < (0 : Int32)))).2.1 (by decide) (by decide) ?_
   show Steps _ _ _ (T4.setTop (mkF m 104 #[(sR a0), (sJ q1), .second, (sI (0 : Int32)), (sI (0 : Int32)), (sI (2 : Int32)), (sI (0 : Int32))] [])) _
   refine XS.iload X4.here hx rfl (hb hby d16_1_104) rfl ?_
   show Steps _ _ _ (T4.setTop (mkF m 106 #[(sR a0), (sJ q1), .second, (sI (0 : Int32)), (sI (0 : Int32)), (sI (2 : Int32)), (sI (0 : Int32))] [(.int (0 : Int32))])) _
   refine XS.aloadN X4.here hx rfl (hb hby d16_1_106) rfl rfl ?_
   exact kt
  obtain ⟨T6, X6, e6, st6⟩ := getF X4 hx hZ hown (host := "") (Or.inl (hw _ (ix 77 rfl))) Via.refl e4 F_a0_count (g := (mkF m 107 #[(sR a0), (sJ q1), .second, (sI (0 : Int32)), (sI (0 : Int32)), (sI (2 : Int32)), (sI (0 : Int32))] [(.ref a0), (.int (0 : Int32))])) rfl rfl (hb hby d16_1_107)
  refine gu (T6.setTop (mkF m 110 #[(sR a0), (sJ q1), .second, (sI (0 : Int32)), (sI (0 : Int32)), (sI (2 : Int32)), (sI (0 : Int32))] [(.int (1 : Int32)), (.int (0 : Int32))])) (fun t kt => st6 _ kt) ?_
  refine gu (T6.setTop (mkF m 114 #[(sR a0), (sJ q1), .second, (sI (0 : Int32)), (sI (0 : Int32)), (sI (2 : Int32)), (sI (0 : Int32))] [(.ref a0)])) (fun t kt => ?_) ?_
  ·refine XS.icmpNo X6.here hx rfl (hb hby d16_1_110) rfl (tlt (by decide : (0 : Int32) < (1 : Int32))).2.1 ?_
   show Steps _ _ _ (T6.setTop (mkF m 113 #[(sR a0), (sJ q1), .second, (sI (0 : Int32)), (sI (0 : Int32)), (sI (2 : Int32)), (sI (0 : Int32))] [])) _
   refine XS.aloadN X6.here hx rfl (hb hby d16_1_113) rfl rfl ?_
   exact kt
  obtain ⟨T7, X7, e7, st7⟩ := getF X6 hx hZ hown (host := "") (Or.inl (hw _ (ix 17 rfl))) Via.refl e6 F_a0_prices (g := (mkF m 114 #[(sR a0), (sJ q1), .second, (sI (0 : Int32)), (sI (0 : Int32)), (sI (2 : Int32)), (sI (0 : Int32))] [(.ref a0)])) rfl rfl (hb hby d16_1_114)
  refine gu (T7.setTop (mkF m 117 #[(sR a0), (sJ q1), .second, (sI (0 : Int32)), (sI (0 : Int32)), (sI (2 : Int32)), (sI (0 : Int32))] [(.ref pa)])) (fun t kt => st7 _ kt) ?_
  obtain ⟨ca8, Ar8, q8, S8, M8, H8, U8⟩ := id V_pa
  refine gu (T7.setTop (mkF m 119 #[(sR a0), (sJ q1), .second, (sI (0 : Int32)), (sI (0 : Int32)), (sI (2 : Int32)), (sI (0 : Int32))] [(.int (0 : Int32)), (.ref pa)])) (fun t kt => ?_) ?_
  ·refine XS.iload X7.here hx rfl (hb hby d16_1_117) rfl ?_
   exact kt
  refine gu (T7.setTop (mkF m 122 #[(sR a0), (sJ q1), .second, (sI (0 : Int32)), (sI (0 : Int32)), (sI (2 : Int32)), (sI (0 : Int32))] [(.int (lcmpW x0 q1))])) (fun t kt => ?_) ?_
  ·refine X7.laload hx (j := (0 : Int32)) (v := (.long x0)) (by rw [e7]; exact Ar8.1) (State.isArrayOf_alike hZ.alike Ar8.2.1) Ar8.2.2 (inb_of S8 ⟨by decide, by decide⟩) (Has.at H8 (inb_of S8 ⟨by decide, by decide⟩) rfl) (g := (mkF m 119 #[(sR a0), (sJ q1), .second, (sI (0 : Int32)), (sI (0 : Int32)), (sI (2 : Int32)), (sI (0 : Int32))] [(.int (0 : Int32)), (.ref pa)])) rfl rfl (hb hby d16_1_119) _ ?_
   show Steps _ _ _ (T7.setTop (mkF m 120 #[(sR a0), (sJ q1), .second, (sI (0 : Int32)), (sI (0 : Int32)), (sI (2 : Int32)), (sI (0 : Int32))] [(.long x0)])) _
   refine XS.lloadN X7.here hx rfl (hb hby d16_1_120) rfl ?_
   show Steps _ _ _ (T7.setTop (mkF m 121 #[(sR a0), (sJ q1), .second, (sI (0 : Int32)), (sI (0 : Int32)), (sI (2 : Int32)), (sI (0 : Int32))] [(.long q1), (.long x0)])) _
   refine XS.lcmp X7.here hx rfl (hb hby d16_1_121) rfl ?_
   exact kt
  by_cases c122_9 : x0 = q1
  ·refine gu (T7.setTop (mkF m 135 #[(sR a0), (sJ q1), .second, (sI (0 : Int32)), (sI (0 : Int32)), (sI (2 : Int32)), (sI (0 : Int32))] [(.int (0 : Int32))])) (fun t kt => ?_) ?_
   ·refine XS.ifNo X7.here hx rfl (hb hby d16_1_122) rfl (jc_ne_f c122_9) ?_
    show Steps _ _ _ (T7.setTop (mkF m 125 #[(sR a0), (sJ q1), .second, (sI (0 : Int32)), (sI (0 : Int32)), (sI (2 : Int32)), (sI (0 : Int32))] [])) _
    refine XS.iload X7.here hx rfl (hb hby d16_1_125) rfl ?_
    show Steps _ _ _ (T7.setTop (mkF m 127 #[(sR a0), (sJ q1), .second, (sI (0 : Int32)), (sI (0 : Int32)), (sI (2 : Int32)), (sI (0 : Int32))] [(.int (0 : Int32))])) _
    refine XS.goto X7.here hx rfl (pc0 := 127) (pc' := 135) rfl (hb hby d16_1_127) (by decide) (by decide) ?_
    exact kt
   refine Gl.retI X7 hx hlk Bd.returns (hb hby d16_1_135) ?_ (by decide) (by decide)
   exact ⟨congrArg (fun z => some (Value.int z)) (show (0 : Int32) = f16_1 q1 sd x0 wB from ((if_pos c36_5).trans (if_pos c122_9)).symm), rfl, e7⟩
  ·refine gu (T7.setTop (mkF m 135 #[(sR a0), (sJ q1), .second, (sI (0 : Int32)), (sI (0 : Int32)), (sI (2 : Int32)), (sI (0 : Int32))] [(.int (-1 : Int32))])) (fun t kt => ?_) ?_
   ·refine XS.ifYes X7.here hx rfl (pc0 := 122) (pc' := 130) rfl (hb hby d16_1_122) rfl (jc_ne_t c122_9) (by decide) (by decide) ?_
    show Steps _ _ _ (T7.setTop (mkF m 130 #[(sR a0), (sJ q1), .second, (sI (0 : Int32)), (sI (0 : Int32)), (sI (2 : Int32)), (sI (0 : Int32))] [])) _
    refine XS.iload X7.here hx rfl (hb hby d16_1_130) rfl ?_
    show Steps _ _ _ (T7.setTop (mkF m 132 #[(sR a0), (sJ q1), .second, (sI (0 : Int32)), (sI (0 : Int32)), (sI (2 : Int32)), (sI (0 : Int32))] [(.int (0 : Int32))])) _
    refine XS.ineg X7.here hx rfl (hb hby d16_1_132) rfl ?_
    show Steps _ _ _ (T7.setTop (mkF m 133 #[(sR a0), (sJ q1), .second, (sI (0 : Int32)), (sI (0 : Int32)), (sI (2 : Int32)), (sI (0 : Int32))] [(.int (0 : Int32))])) _
    refine XS.iconst X7.here hx rfl (hb hby d16_1_133) ?_
    show Steps _ _ _ (T7.setTop (mkF m 134 #[(sR a0), (sJ q1), .second, (sI (0 : Int32)), (sI (0 : Int32)), (sI (2 : Int32)), (sI (0 : Int32))] [(.int (1 : Int32)), (.int (0 : Int32))])) _
    refine XS.isub X7.here hx rfl (hb hby d16_1_134) rfl ?_
    exact kt
   refine Gl.retI X7 hx hlk Bd.returns (hb hby d16_1_135) ?_ (by decide) (by decide)
   exact ⟨congrArg (fun z => some (Value.int z)) (show (-1 : Int32) = f16_1 q1 sd x0 wB from ((if_pos c36_5).trans (if_neg c122_9)).symm), rfl, e7⟩
 ·refine gu (T4.setTop (mkF m 107 #[(sR a0), (sJ q1), .second, (sI (1 : Int32)), (sI (1 : Int32)), (sI (1 : Int32)), (sI (0 : Int32))] [(.ref a0), (.int (1 : Int32))])) (fun t kt => ?_) ?_
  ·refine XS.ifNo X4.here hx rfl (hb hby d16_1_36) rfl ((if0 _ _).trans (feq c36_5).1) ?_
   show Steps _ _ _ (T4.setTop (mkF m 39 #[(sR a0), (sJ q1), .second, (sI (1 : Int32)), (sI (0 : Int32)), (sI (1 : Int32)), (sI (0 : Int32))] [])) _
   refine XS.iload X4.here hx rfl (hb hby d16_1_39) rfl ?_
   show Steps _ _ _ (T4.setTop (mkF m 41 #[(sR a0), (sJ q1), .second, (sI (1 : Int32)), (sI (0 : Int32)), (sI (1 : Int32)), (sI (0 : Int32))] [(.int (0 : Int32))])) _
   refine XS.iconst X4.here hx rfl (hb hby d16_1_41) ?_
   show Steps _ _ _ (T4.setTop (mkF m 42 #[(sR a0), (sJ q1), .second, (sI (1 : Int32)), (sI (0 : Int32)), (sI (1 : Int32)), (sI (0 : Int32))] [(.int (1 : Int32)), (.int (0 : Int32))])) _
   refine XS.iadd X4.here hx rfl (hb hby d16_1_42) rfl ?_
   show Steps _ _ _ (T4.setTop (mkF m 43 #[(sR a0), (sJ q1), .second, (sI (1 : Int32)), (sI (0 : Int32)), (sI (1 : Int32)), (sI (0 : Int32))] [(.int (1 : Int32))])) _
   refine XS.istore X4.here hx rfl (hb hby d16_1_43) rfl (l' := #[(sR a0), (sJ q1), .second, (sI (1 : Int32)), (sI (1 : Int32)), (sI (1 : Int32)), (sI (0 : Int32))]) rfl ?_
   show Steps _ _ _ (T4.setTop (mkF m 45 #[(sR a0), (sJ q1), .second, (sI (1 : Int32)), (sI (1 : Int32)), (sI (1 : Int32)), (sI (0 : Int32))] [])) _
   refine XS.goto X4.here hx rfl (pc0 := 45) (pc' := 60) rfl (hb hby d16_1_45) (by decide) (by decide) ?_
   show Steps _ _ _ (T4.setTop (mkF m 60 #[(sR a0), (sJ q1), .second, (sI (1 : Int32)), (sI (1 : Int32)), (sI (1 : Int32)), (sI (0 : Int32))] [])) _
   refine XS.iload X4.here hx rfl (hb hby d16_1_60) rfl ?_
   show Steps _ _ _ (T4.setTop (mkF m 62 #[(sR a0), (sJ q1), .second, (sI (1 : Int32)), (sI (1 : Int32)), (sI (1 : Int32)), (sI (0 : Int32))] [(.int (1 : Int32))])) _
   refine XS.iloadN X4.here hx rfl (hb hby d16_1_62) rfl ?_
   show Steps _ _ _ (T4.setTop (mkF m 63 #[(sR a0), (sJ q1), .second, (sI (1 : Int32)), (sI (1 : Int32)), (sI (1 : Int32)), (sI (0 : Int32))] [(.int (1 : Int32)), (.int (1 : Int32))])) _
   refine XS.icmpYes X4.here hx rfl (pc0 := 63) (pc' := 104) rfl (hb hby d16_1_63) rfl (flt (by decide : ¬ ((1 : Int32) < (1 : Int32)))).2.1 (by decide) (by decide) ?_
   show Steps _ _ _ (T4.setTop (mkF m 104 #[(sR a0), (sJ q1), .second, (sI (1 : Int32)), (sI (1 : Int32)), (sI (1 : Int32)), (sI (0 : Int32))] [])) _
   refine XS.iload X4.here hx rfl (hb hby d16_1_104) rfl ?_
   show Steps _ _ _ (T4.setTop (mkF m 106 #[(sR a0), (sJ q1), .second, (sI (1 : Int32)), (sI (1 : Int32)), (sI (1 : Int32)), (sI (0 : Int32))] [(.int (1 : Int32))])) _
   refine XS.aloadN X4.here hx rfl (hb hby d16_1_106) rfl rfl ?_
   exact kt
  obtain ⟨T10, X10, e10, st10⟩ := getF X4 hx hZ hown (host := "") (Or.inl (hw _ (ix 77 rfl))) Via.refl e4 F_a0_count (g := (mkF m 107 #[(sR a0), (sJ q1), .second, (sI (1 : Int32)), (sI (1 : Int32)), (sI (1 : Int32)), (sI (0 : Int32))] [(.ref a0), (.int (1 : Int32))])) rfl rfl (hb hby d16_1_107)
  refine gu (T10.setTop (mkF m 110 #[(sR a0), (sJ q1), .second, (sI (1 : Int32)), (sI (1 : Int32)), (sI (1 : Int32)), (sI (0 : Int32))] [(.int (1 : Int32)), (.int (1 : Int32))])) (fun t kt => st10 _ kt) ?_
  refine gu (T10.setTop (mkF m 135 #[(sR a0), (sJ q1), .second, (sI (1 : Int32)), (sI (1 : Int32)), (sI (1 : Int32)), (sI (0 : Int32))] [(.int (-2 : Int32))])) (fun t kt => ?_) ?_
  ·refine XS.icmpYes X10.here hx rfl (pc0 := 110) (pc' := 130) rfl (hb hby d16_1_110) rfl (flt (by decide : ¬ ((1 : Int32) < (1 : Int32)))).2.1 (by decide) (by decide) ?_
   show Steps _ _ _ (T10.setTop (mkF m 130 #[(sR a0), (sJ q1), .second, (sI (1 : Int32)), (sI (1 : Int32)), (sI (1 : Int32)), (sI (0 : Int32))] [])) _
   refine XS.iload X10.here hx rfl (hb hby d16_1_130) rfl ?_
   show Steps _ _ _ (T10.setTop (mkF m 132 #[(sR a0), (sJ q1), .second, (sI (1 : Int32)), (sI (1 : Int32)), (sI (1 : Int32)), (sI (0 : Int32))] [(.int (1 : Int32))])) _
   refine XS.ineg X10.here hx rfl (hb hby d16_1_132) rfl ?_
   show Steps _ _ _ (T10.setTop (mkF m 133 #[(sR a0), (sJ q1), .second, (sI (1 : Int32)), (sI (1 : Int32)), (sI (1 : Int32)), (sI (0 : Int32))] [(.int (-1 : Int32))])) _
   refine XS.iconst X10.here hx rfl (hb hby d16_1_133) ?_
   show Steps _ _ _ (T10.setTop (mkF m 134 #[(sR a0), (sJ q1), .second, (sI (1 : Int32)), (sI (1 : Int32)), (sI (1 : Int32)), (sI (0 : Int32))] [(.int (1 : Int32)), (.int (-1 : Int32))])) _
   refine XS.isub X10.here hx rfl (hb hby d16_1_134) rfl ?_
   exact kt
  refine Gl.retI X10 hx hlk Bd.returns (hb hby d16_1_135) ?_ (by decide) (by decide)
  exact ⟨congrArg (fun z => some (Value.int z)) (show (-2 : Int32) = f16_1 q1 sd x0 wB from (if_neg c36_5).symm), rfl, e10⟩
def f16_2 (q1 : Int64) (sd : Addr) (x0 : Int64) (x1 : Int64) (wB : Addr) : Int32 := (if (f14 x1 q1 sd wB) = (0 : Int32) then (if (f14 x0 q1 sd wB) = (0 : Int32) then (if x0 = q1 then (0 : Int32) else (-1 : Int32)) else (if x1 = q1 then (1 : Int32) else (-2 : Int32))) else (-3 : Int32))
def Q16_2 (Z : State) (a0 : Addr) (q1 : Int64) (pa : Addr) (sd : Addr) (kp : ClassId) (x0 : Int64) (x1 : Int64) (wB : Addr) (h0 : Heap) (n0 : Nat) (v : Option Value) (h : Heap) (L : List Loc) : Prop := v = some (.int (f16_2 q1 sd x0 x1 wB)) ∧ L = [] ∧ h = h0
theorem ef16_2 (m : MethodId) (a0 : Addr) (q1 : Int64) : entryFrame m #[(.ref a0), (.long q1)] 7 = mkF m 0 #[(sR a0), (sJ q1), .second, .unset, .unset, .unset, .unset] [] := by first | (simp [entryFrame, mkF, argsToLocals, Value.category]; done) | rfl
set_option maxRecDepth 65536 in
set_option maxHeartbeats 40000000 in
theorem rm16_2 (l : Launch) (Z : State) (aa : Array Value) (hw : ∀ d ∈ tables_1, d.before aa Z = true) (ws : List Jvm.Cond) (a0 : Addr) (q1 : Int64) (pa : Addr) (sd : Addr) (kp : ClassId) (x0 : Int64) (x1 : Int64) (wB : Addr) (h0 : Heap) (n0 : Nat) (O0 : Old Z n0 h0) (E_a0 : Exa Z h0 a0 "com/example/openvenue/openvenue/core/BookSide") (F_a0_count : Fld Z h0 a0 "com/example/openvenue/openvenue/core/BookSide" "count" "I" (.int (2 : Int32))) (F_a0_prices : Fld Z h0 a0 "com/example/openvenue/openvenue/core/BookSide" "prices" "[J" (.ref pa)) (F_a0_side : Fld Z h0 a0 "com/example/openvenue/openvenue/core/BookSide" "side" "Lcom/example/openvenue/openvenue/core/Side;" (.ref sd)) (V_pa : Arv Z h0 pa kp .long (256 : Int32) [(.long x0), (.long x1)] (.long (0 : Int64))) (S_wB : Sta Z Z.heap "com/example/openvenue/openvenue/core/Side" "BUY" "Lcom/example/openvenue/openvenue/core/Side;" (.ref wB)) :
  MetFree l mn17 (head1 (Jvm.Cond.code mn17 prog_44_method_10_code 7 (some .int) :: ws) ({ frames := 1, cells := 0, slots := 0, locals := 16 } : Room)) (fun a U => a = #[(.ref a0), (.long q1)] ∧ Z.Warmed39 U.vm ∧ U.heap = h0) (fun _ _ _ _ _ => True) (fun _ U o U' => ∃ v L, o = .returned v ∧ Q16_2 Z a0 q1 pa sd kp x0 x1 wB h0 n0 v U'.heap L ∧ FrameEnd U o U' L ({ frames := 1, cells := 0, slots := 0, locals := 16 } : Room).cells ({ frames := 1, cells := 0, slots := 0, locals := 16 } : Room).slots) := by
 refine MetFree.of_bodySF (plainFor_of_name pn_com_example_openvenue_openvenue_core_BookSide) hisR ?_
 intro p e s m args below meth c s₁ Bd hml0 hP hK
 obtain ⟨rfl, hZ, hh⟩ := hP
 have hx := Bd.exec
 have hby := Bd.bytes
 have hlk := Bd.notSynchronized
 have hml : c.maxLocals = 7 := hml0
 have hown : s.vm.findClass "com/example/openvenue/openvenue/core/BookSide" = some m.cls := findClass_of_methodNamed Bd.named
 have hnm := (name_of_methodNamed Bd.named Bd.method).1
 have X0 : Stand p l e ({ frames := 1, cells := 0, slots := 0, locals := 16 } : Room) s m #[(.ref a0), (.long q1)] below meth c s₁ [] 0 0 := Stand.of_body Bd
 have e0 : s₁.heap = h0 := by rw [← hh, Bd.state]; rfl
 have N0 := Fr.nil n0
 show Gl p e below (Ret s 0 0 (Q16_2 Z a0 q1 pa sd kp x0 x1 wB h0 n0)) (s₁.setTop (entryFrame m #[(.ref a0), (.long q1)] 7))
 rw [ef16_2 m a0 q1]
 obtain ⟨args, hargs⟩ : ∃ z : Array Value, z = #[(.ref a0), (.long q1)] := ⟨_, rfl⟩
 rw [← hargs] at X0
 refine gu (s₁.setTop (mkF m 1 #[(sR a0), (sJ q1), .second, .unset, .unset, .unset, .unset] [(.ref a0)])) (fun t kt => ?_) ?_
 ·refine XS.aloadN X0.here hx rfl (hb hby d16_2_0) rfl rfl ?_
  exact kt
 obtain ⟨T1, X1, e1, st1⟩ := getF X0 hx hZ hown (host := "") (Or.inl (hw _ (ix 77 rfl))) Via.refl e0 F_a0_count (g := (mkF m 1 #[(sR a0), (sJ q1), .second, .unset, .unset, .unset, .unset] [(.ref a0)])) rfl rfl (hb hby d16_2_1)
 refine gu (T1.setTop (mkF m 4 #[(sR a0), (sJ q1), .second, .unset, .unset, .unset, .unset] [(.int (2 : Int32))])) (fun t kt => st1 _ kt) ?_
 refine gu (T1.setTop (mkF m 26 #[(sR a0), (sJ q1), .second, (sI (2 : Int32)), (sI (0 : Int32)), (sI (1 : Int32)), (sI (1 : Int32))] [(.ref a0), (.ref a0)])) (fun t kt => ?_) ?_
 ·refine XS.istoreN X1.here hx rfl (hb hby d16_2_4) rfl (l' := #[(sR a0), (sJ q1), .second, (sI (2 : Int32)), .unset, .unset, .unset]) rfl ?_
  show Steps _ _ _ (T1.setTop (mkF m 5 #[(sR a0), (sJ q1), .second, (sI (2 : Int32)), .unset, .unset, .unset] [])) _
  refine XS.iconst X1.here hx rfl (hb hby d16_2_5) ?_
  show Steps _ _ _ (T1.setTop (mkF m 6 #[(sR a0), (sJ q1), .second, (sI (2 : Int32)), .unset, .unset, .unset] [(.int (0 : Int32))])) _
  refine XS.istore X1.here hx rfl (hb hby d16_2_6) rfl (l' := #[(sR a0), (sJ q1), .second, (sI (2 : Int32)), (sI (0 : Int32)), .unset, .unset]) rfl ?_
  show Steps _ _ _ (T1.setTop (mkF m 8 #[(sR a0), (sJ q1), .second, (sI (2 : Int32)), (sI (0 : Int32)), .unset, .unset] [])) _
  refine XS.iconst X1.here hx rfl (hb hby d16_2_8) ?_
  show Steps _ _ _ (T1.setTop (mkF m 9 #[(sR a0), (sJ q1), .second, (sI (2 : Int32)), (sI (0 : Int32)), .unset, .unset] [(.int (1 : Int32))])) _
  refine XS.istore X1.here hx rfl (hb hby d16_2_9) rfl (l' := #[(sR a0), (sJ q1), .second, (sI (2 : Int32)), (sI (0 : Int32)), (sI (1 : Int32)), .unset]) rfl ?_
  show Steps _ _ _ (T1.setTop (mkF m 11 #[(sR a0), (sJ q1), .second, (sI (2 : Int32)), (sI (0 : Int32)), (sI (1 : Int32)), .unset] [])) _
  refine XS.iloadN X1.here hx rfl (hb hby d16_2_11) rfl ?_
  show Steps _ _ _ (T1.setTop (mkF m 12 #[(sR a0), (sJ q1), .second, (sI (2 : Int32)), (sI (0 : Int32)), (sI (1 : Int32)), .unset] [(.int (2 : Int32))])) _
  refine XS.iload X1.here hx rfl (hb hby d16_2_12) rfl ?_
  show Steps _ _ _ (T1.setTop (mkF m 14 #[(sR a0), (sJ q1), .second, (sI (2 : Int32)), (sI (0 : Int32)), (sI (1 : Int32)), .unset] [(.int (1 : Int32)), (.int (2 : Int32))])) _
  refine XS.isub X1.here hx rfl (hb hby d16_2_14) rfl ?_
  show Steps _ _ _ (T1.setTop (mkF m 15 #[(sR a0), (sJ q1), .second, (sI (2 : Int32)), (sI (0 : Int32)), (sI (1 : Int32)), .unset] [(.int (1 : Int32))])) _
  refine XS.ifNo X1.here hx rfl (hb hby d16_2_15) rfl ((if0 _ _).trans (flt (by decide : ¬ ((1 : Int32) < (0 : Int32)))).1) ?_
  show Steps _ _ _ (T1.setTop (mkF m 18 #[(sR a0), (sJ q1), .second, (sI (2 : Int32)), (sI (0 : Int32)), (sI (1 : Int32)), .unset] [])) _
  refine XS.iloadN X1.here hx rfl (hb hby d16_2_18) rfl ?_
  show Steps _ _ _ (T1.setTop (mkF m 19 #[(sR a0), (sJ q1), .second, (sI (2 : Int32)), (sI (0 : Int32)), (sI (1 : Int32)), .unset] [(.int (2 : Int32))])) _
  refine XS.iload X1.here hx rfl (hb hby d16_2_19) rfl ?_
  show Steps _ _ _ (T1.setTop (mkF m 21 #[(sR a0), (sJ q1), .second, (sI (2 : Int32)), (sI (0 : Int32)), (sI (1 : Int32)), .unset] [(.int (1 : Int32)), (.int (2 : Int32))])) _
  refine XS.isub X1.here hx rfl (hb hby d16_2_21) rfl ?_
  show Steps _ _ _ (T1.setTop (mkF m 22 #[(sR a0), (sJ q1), .second, (sI (2 : Int32)), (sI (0 : Int32)), (sI (1 : Int32)), .unset] [(.int (1 : Int32))])) _
  refine XS.istore X1.here hx rfl (hb hby d16_2_22) rfl (l' := #[(sR a0), (sJ q1), .second, (sI (2 : Int32)), (sI (0 : Int32)), (sI (1 : Int32)), (sI (1 : Int32))]) rfl ?_
  show Steps _ _ _ (T1.setTop (mkF m 24 #[(sR a0), (sJ q1), .second, (sI (2 : Int32)), (sI (0 : Int32)), (sI (1 : Int32)), (sI (1 : Int32))] [])) _
  refine XS.aloadN X1.here hx rfl (hb hby d16_2_24) rfl rfl ?_
  show Steps _ _ _ (T1.setTop (mkF m 25 #[(sR a0), (sJ q1), .second, (sI (2 : Int32)), (sI (0 : Int32)), (sI (1 : Int32)), (sI (1 : Int32))] [(.ref a0)])) _
  refine XS.aloadN X1.here hx rfl (hb hby d16_2_25) rfl rfl ?_
  exact kt
 obtain ⟨T2, X2, e2, st2⟩ := getF X1 hx hZ hown (host := "") (Or.inl (hw _ (ix 17 rfl))) Via.refl e1 F_a0_prices (g := (mkF m 26 #[(sR a0), (sJ q1), .second, (sI (2 : Int32)), (sI (0 : Int32)), (sI (1 : Int32)), (sI (1 : Int32))] [(.ref a0), (.ref a0)])) rfl rfl (hb hby d16_2_26)
 refine gu (T2.setTop (mkF m 29 #[(sR a0), (sJ q1), .second, (sI (2 : Int32)), (sI (0 : Int32)), (sI (1 : Int32)), (sI (1 : Int32))] [(.ref pa), (.ref a0)])) (fun t kt => st2 _ kt) ?_
 obtain ⟨ca3, Ar3, q3, S3, M3, H3, U3⟩ := id V_pa
 refine gu (T2.setTop (mkF m 31 #[(sR a0), (sJ q1), .second, (sI (2 : Int32)), (sI (0 : Int32)), (sI (1 : Int32)), (sI (1 : Int32))] [(.int (1 : Int32)), (.ref pa), (.ref a0)])) (fun t kt => ?_) ?_
 ·refine XS.iload X2.here hx rfl (hb hby d16_2_29) rfl ?_
  exact kt
 refine gu (T2.setTop (mkF m 33 #[(sR a0), (sJ q1), .second, (sI (2 : Int32)), (sI (0 : Int32)), (sI (1 : Int32)), (sI (1 : Int32))] [(.long q1), (.long x1), (.ref a0)])) (fun t kt => ?_) ?_
 ·refine X2.laload hx (j := (1 : Int32)) (v := (.long x1)) (by rw [e2]; exact Ar3.1) (State.isArrayOf_alike hZ.alike Ar3.2.1) Ar3.2.2 (inb_of S3 ⟨by decide, by decide⟩) (Has.at H3 (inb_of S3 ⟨by decide, by decide⟩) rfl) (g := (mkF m 31 #[(sR a0), (sJ q1), .second, (sI (2 : Int32)), (sI (0 : Int32)), (sI (1 : Int32)), (sI (1 : Int32))] [(.int (1 : Int32)), (.ref pa), (.ref a0)])) rfl rfl (hb hby d16_2_31) _ ?_
  show Steps _ _ _ (T2.setTop (mkF m 32 #[(sR a0), (sJ q1), .second, (sI (2 : Int32)), (sI (0 : Int32)), (sI (1 : Int32)), (sI (1 : Int32))] [(.long x1), (.ref a0)])) _
  refine XS.lloadN X2.here hx rfl (hb hby d16_2_32) rfl ?_
  exact kt
 obtain ⟨cq4, q4, r4⟩ := E_a0.cell
 obtain ⟨_, _, ⟨T4, L4, k4, n4⟩, -, X4, ⟨Lc4, hQ4, l4, y4, z4⟩, st4⟩ := X2.privateBack hx (y := mn15) hown (mvT hZ (hw _ (ix 145 rfl))) (mvT hZ (hw _ (ix 146 rfl))) (own_selp (mvT hZ (hw _ (ix 4 rfl))) (mvP hZ (hw _ (ix 147 rfl))) (mvT hZ (hw _ (ix 146 rfl))) (by decide)) (Cond.privateMethod_at (mvP hZ (hw _ (ix 147 rfl)) (args := #[]))) (mvT hZ (hw _ (ix 148 rfl))) (by decide) (backOf (W := 0) (rm14 l Z aa hw [] a0 x1 q1 sd wB h0 n0 O0 E_a0 F_a0_side S_wB) hZ (hw _ (ix 148 rfl)) (hw _ (ix 5 rfl)) (by decide) (by decide)) (g := (mkF m 33 #[(sR a0), (sJ q1), .second, (sI (2 : Int32)), (sI (0 : Int32)), (sI (1 : Int32)), (sI (1 : Int32))] [(.long q1), (.long x1), (.ref a0)])) rfl (sz hml) (Steps.refl _) (a := a0) (by rw [e2]; exact q4) r4 (argsL := [(.long x1), (.long q1)]) (rest := []) (lenOf pd_oJJcZ rfl) rfl le0 (hb hby d16_2_33) (fun _ _ => ⟨rfl, e2, (by decide : 0 + 0 ≤ _), (by decide : 0 + 0 ≤ _)⟩)
 dsimp only [Pt.U, Pt.locs, Pt.cells, Pt.slots] at X4 l4 y4 z4 st4 hQ4
 subst l4 y4 z4
 obtain ⟨rfl, rfl, e4⟩ := hQ4
 try rw [List.append_nil] at X4
 refine gu (T4.setTop (mkF m 36 #[(sR a0), (sJ q1), .second, (sI (2 : Int32)), (sI (0 : Int32)), (sI (1 : Int32)), (sI (1 : Int32))] [(.int (f14 x1 q1 sd wB))])) (fun t kt => st4.trans kt) ?_
 by_cases c36_5 : (f14 x1 q1 sd wB) = (0 : Int32)
 ·refine gu (T4.setTop (mkF m 76 #[(sR a0), (sJ q1), .second, (sI (1 : Int32)), (sI (0 : Int32)), (sI (0 : Int32)), (sI (1 : Int32))] [(.ref a0), (.ref a0)])) (fun t kt => ?_) ?_
  ·refine XS.ifYes X4.here hx rfl (pc0 := 36) (pc' := 48) rfl (hb hby d16_2_36) rfl ((if0 _ _).trans (teq c36_5).1) (by decide) (by decide) ?_
   show Steps _ _ _ (T4.setTop (mkF m 48 #[(sR a0), (sJ q1), .second, (sI (2 : Int32)), (sI (0 : Int32)), (sI (1 : Int32)), (sI (1 : Int32))] [])) _
   refine XS.iload X4.here hx rfl (hb hby d16_2_48) rfl ?_
   show Steps _ _ _ (T4.setTop (mkF m 50 #[(sR a0), (sJ q1), .second, (sI (2 : Int32)), (sI (0 : Int32)), (sI (1 : Int32)), (sI (1 : Int32))] [(.int (1 : Int32))])) _
   refine XS.istoreN X4.here hx rfl (hb hby d16_2_50) rfl (l' := #[(sR a0), (sJ q1), .second, (sI (1 : Int32)), (sI (0 : Int32)), (sI (1 : Int32)), (sI (1 : Int32))]) rfl ?_
   show Steps _ _ _ (T4.setTop (mkF m 51 #[(sR a0), (sJ q1), .second, (sI (1 : Int32)), (sI (0 : Int32)), (sI (1 : Int32)), (sI (1 : Int32))] [])) _
   refine XS.iload X4.here hx rfl (hb hby d16_2_51) rfl ?_
   show Steps _ _ _ (T4.setTop (mkF m 53 #[(sR a0), (sJ q1), .second, (sI (1 : Int32)), (sI (0 : Int32)), (sI (1 : Int32)), (sI (1 : Int32))] [(.int (1 : Int32))])) _
   refine XS.iconst X4.here hx rfl (hb hby d16_2_53) ?_
   show Steps _ _ _ (T4.setTop (mkF m 54 #[(sR a0), (sJ q1), .second, (sI (1 : Int32)), (sI (0 : Int32)), (sI (1 : Int32)), (sI (1 : Int32))] [(.int (1 : Int32)), (.int (1 : Int32))])) _
   refine XS.ishl X4.here hx rfl (hb hby d16_2_54) rfl ?_
   show Steps _ _ _ (T4.setTop (mkF m 55 #[(sR a0), (sJ q1), .second, (sI (1 : Int32)), (sI (0 : Int32)), (sI (1 : Int32)), (sI (1 : Int32))] [(.int (2 : Int32))])) _
   refine XS.istore X4.here hx rfl (hb hby d16_2_55) rfl (l' := #[(sR a0), (sJ q1), .second, (sI (1 : Int32)), (sI (0 : Int32)), (sI (2 : Int32)), (sI (1 : Int32))]) rfl ?_
   show Steps _ _ _ (T4.setTop (mkF m 57 #[(sR a0), (sJ q1), .second, (sI (1 : Int32)), (sI (0 : Int32)), (sI (2 : Int32)), (sI (1 : Int32))] [])) _
   refine XS.goto X4.here hx rfl (pc0 := 57) (pc' := 11) rfl (hb hby d16_2_57) (by decide) (by decide) ?_
   show Steps _ _ _ (T4.setTop (mkF m 11 #[(sR a0), (sJ q1), .second, (sI (1 : Int32)), (sI (0 : Int32)), (sI (2 : Int32)), (sI (1 : Int32))] [])) _
   refine XS.iloadN X4.here hx rfl (hb hby d16_2_11) rfl ?_
   show Steps _ _ _ (T4.setTop (mkF m 12 #[(sR a0), (sJ q1), .second, (sI (1 : Int32)), (sI (0 : Int32)), (sI (2 : Int32)), (sI (1 : Int32))] [(.int (1 : Int32))])) _
   refine XS.iload X4.here hx rfl (hb hby d16_2_12) rfl ?_
   show Steps _ _ _ (T4.setTop (mkF m 14 #[(sR a0), (sJ q1), .second, (sI (1 : Int32)), (sI (0 : Int32)), (sI (2 : Int32)), (sI (1 : Int32))] [(.int (2 : Int32)), (.int (1 : Int32))])) _
   refine XS.isub X4.here hx rfl (hb hby d16_2_14) rfl ?_
   show Steps _ _ _ (T4.setTop (mkF m 15 #[(sR a0), (sJ q1), .second, (sI (1 : Int32)), (sI (0 : Int32)), (sI (2 : Int32)), (sI (1 : Int32))] [(.int (-1 : Int32))])) _
   refine XS.ifYes X4.here hx rfl (pc0 := 15) (pc' := 60) rfl (hb hby d16_2_15) rfl ((if0 _ _).trans (tlt (by decide : (-1 : Int32) < (0 : Int32))).1) (by decide) (by decide) ?_
   show Steps _ _ _ (T4.setTop (mkF m 60 #[(sR a0), (sJ q1), .second, (sI (1 : Int32)), (sI (0 : Int32)), (sI (2 : Int32)), (sI (1 : Int32))] [])) _
   refine XS.iload X4.here hx rfl (hb hby d16_2_60) rfl ?_
   show Steps _ _ _ (T4.setTop (mkF m 62 #[(sR a0), (sJ q1), .second, (sI (1 : Int32)), (sI (0 : Int32)), (sI (2 : Int32)), (sI (1 : Int32))] [(.int (0 : Int32))])) _
   refine XS.iloadN X4.here hx rfl (hb hby d16_2_62) rfl ?_
   show Steps _ _ _ (T4.setTop (mkF m 63 #[(sR a0), (sJ q1), .second, (sI (1 : Int32)), (sI (0 : Int32)), (sI (2 : Int32)), (sI (1 : Int32))] [(.int (1 : Int32)), (.int (0 : Int32))])) _
   refine XS.icmpNo X4.here hx rfl (hb hby d16_2_63) rfl (tlt (by decide : (0 : Int32) < (1 : Int32))).2.1 ?_
   show Steps _ _ _ (T4.setTop (mkF m 66 #[(sR a0), (sJ q1), .second, (sI (1 : Int32)), (sI (0 : Int32)), (sI (2 : Int32)), (sI (1 : Int32))] [])) _
   refine XS.iload X4.here hx rfl (hb hby d16_2_66) rfl ?_
   show Steps _ _ _ (T4.setTop (mkF m 68 #[(sR a0), (sJ q1), .second, (sI (1 : Int32)), (sI (0 : Int32)), (sI (2 : Int32)), (sI (1 : Int32))] [(.int (0 : Int32))])) _
   refine XS.iloadN X4.here hx rfl (hb hby d16_2_68) rfl ?_
   show Steps _ _ _ (T4.setTop (mkF m 69 #[(sR a0), (sJ q1), .second, (sI (1 : Int32)), (sI (0 : Int32)), (sI (2 : Int32)), (sI (1 : Int32))] [(.int (1 : Int32)), (.int (0 : Int32))])) _
   refine XS.iadd X4.here hx rfl (hb hby d16_2_69) rfl ?_
   show Steps _ _ _ (T4.setTop (mkF m 70 #[(sR a0), (sJ q1), .second, (sI (1 : Int32)), (sI (0 : Int32)), (sI (2 : Int32)), (sI (1 : Int32))] [(.int (1 : Int32))])) _
   refine XS.iconst X4.here hx rfl (hb hby d16_2_70) ?_
   show Steps _ _ _ (T4.setTop (mkF m 71 #[(sR a0), (sJ q1), .second, (sI (1 : Int32)), (sI (0 : Int32)), (sI (2 : Int32)), (sI (1 : Int32))] [(.int (1 : Int32)), (.int (1 : Int32))])) _
   refine XS.iushr X4.here hx rfl (hb hby d16_2_71) rfl ?_
   show Steps _ _ _ (T4.setTop (mkF m 72 #[(sR a0), (sJ q1), .second, (sI (1 : Int32)), (sI (0 : Int32)), (sI (2 : Int32)), (sI (1 : Int32))] [(.int (0 : Int32))])) _
   refine XS.istore X4.here hx rfl (hb hby d16_2_72) rfl (l' := #[(sR a0), (sJ q1), .second, (sI (1 : Int32)), (sI (0 : Int32)), (sI (0 : Int32)), (sI (1 : Int32))]) rfl ?_
   show Steps _ _ _ (T4.setTop (mkF m 74 #[(sR a0), (sJ q1), .second, (sI (1 : Int32)), (sI (0 : Int32)), (sI (0 : Int32)), (sI (1 : Int32))] [])) _
   refine XS.aloadN X4.here hx rfl (hb hby d16_2_74) rfl rfl ?_
   show Steps _ _ _ (T4.setTop (mkF m 75 #[(sR a0), (sJ q1), .second, (sI (1 : Int32)), (sI (0 : Int32)), (sI (0 : Int32)), (sI (1 : Int32))] [(.ref a0)])) _
   refine XS.aloadN X4.here hx rfl (hb hby d16_2_75) rfl rfl ?_
   exact kt
  obtain ⟨T6, X6, e6, st6⟩ := getF X4 hx hZ hown (host := "") (Or.inl (hw _ (ix 17 rfl))) Via.refl e4 F_a0_prices (g := (mkF m 76 #[(sR a0), (sJ q1), .second, (sI (1 : Int32)), (sI (0 : Int32)), (sI (0 : Int32)), (sI (1 : Int32))] [(.ref a0), (.ref a0)])) rfl rfl (hb hby d16_2_76)
  refine gu (T6.setTop (mkF m 79 #[(sR a0), (sJ q1), .second, (sI (1 : Int32)), (sI (0 : Int32)), (sI (0 : Int32)), (sI (1 : Int32))] [(.ref pa), (.ref a0)])) (fun t kt => st6 _ kt) ?_
  obtain ⟨ca7, Ar7, q7, S7, M7, H7, U7⟩ := id V_pa
  refine gu (T6.setTop (mkF m 81 #[(sR a0), (sJ q1), .second, (sI (1 : Int32)), (sI (0 : Int32)), (sI (0 : Int32)), (sI (1 : Int32))] [(.int (0 : Int32)), (.ref pa), (.ref a0)])) (fun t kt => ?_) ?_
  ·refine XS.iload X6.here hx rfl (hb hby d16_2_79) rfl ?_
   exact kt
  refine gu (T6.setTop (mkF m 83 #[(sR a0), (sJ q1), .second, (sI (1 : Int32)), (sI (0 : Int32)), (sI (0 : Int32)), (sI (1 : Int32))] [(.long q1), (.long x0), (.ref a0)])) (fun t kt => ?_) ?_
  ·refine X6.laload hx (j := (0 : Int32)) (v := (.long x0)) (by rw [e6]; exact Ar7.1) (State.isArrayOf_alike hZ.alike Ar7.2.1) Ar7.2.2 (inb_of S7 ⟨by decide, by decide⟩) (Has.at H7 (inb_of S7 ⟨by decide, by decide⟩) rfl) (g := (mkF m 81 #[(sR a0), (sJ q1), .second, (sI (1 : Int32)), (sI (0 : Int32)), (sI (0 : Int32)), (sI (1 : Int32))] [(.int (0 : Int32)), (.ref pa), (.ref a0)])) rfl rfl (hb hby d16_2_81) _ ?_
   show Steps _ _ _ (T6.setTop (mkF m 82 #[(sR a0), (sJ q1), .second, (sI (1 : Int32)), (sI (0 : Int32)), (sI (0 : Int32)), (sI (1 : Int32))] [(.long x0), (.ref a0)])) _
   refine XS.lloadN X6.here hx rfl (hb hby d16_2_82) rfl ?_
   exact kt
  obtain ⟨cq8, q8, r8⟩ := E_a0.cell
  obtain ⟨_, _, ⟨T8, L8, k8, n8⟩, -, X8, ⟨Lc8, hQ8, l8, y8, z8⟩, st8⟩ := X6.privateBack hx (y := mn15) hown (mvT hZ (hw _ (ix 145 rfl))) (mvT hZ (hw _ (ix 146 rfl))) (own_selp (mvT hZ (hw _ (ix 4 rfl))) (mvP hZ (hw _ (ix 147 rfl))) (mvT hZ (hw _ (ix 146 rfl))) (by decide)) (Cond.privateMethod_at (mvP hZ (hw _ (ix 147 rfl)) (args := #[]))) (mvT hZ (hw _ (ix 148 rfl))) (by decide) (backOf (W := 0) (rm14 l Z aa hw [] a0 x0 q1 sd wB h0 n0 O0 E_a0 F_a0_side S_wB) hZ (hw _ (ix 148 rfl)) (hw _ (ix 5 rfl)) (by decide) (by decide)) (g := (mkF m 83 #[(sR a0), (sJ q1), .second, (sI (1 : Int32)), (sI (0 : Int32)), (sI (0 : Int32)), (sI (1 : Int32))] [(.long q1), (.long x0), (.ref a0)])) rfl (sz hml) (Steps.refl _) (a := a0) (by rw [e6]; exact q8) r8 (argsL := [(.long x0), (.long q1)]) (rest := []) (lenOf pd_oJJcZ rfl) rfl le0 (hb hby d16_2_83) (fun _ _ => ⟨rfl, e6, (by decide : 0 + 0 ≤ _), (by decide : 0 + 0 ≤ _)⟩)
  dsimp only [Pt.U, Pt.locs, Pt.cells, Pt.slots] at X8 l8 y8 z8 st8 hQ8
  subst l8 y8 z8
  obtain ⟨rfl, rfl, e8⟩ := hQ8
  try rw [List.append_nil] at X8
  refine gu (T8.setTop (mkF m 86 #[(sR a0), (sJ q1), .second, (sI (1 : Int32)), (sI (0 : Int32)), (sI (0 : Int32)), (sI (1 : Int32))] [(.int (f14 x0 q1 sd wB))])) (fun t kt => st8.trans kt) ?_
  by_cases c86_9 : (f14 x0 q1 sd wB) = (0 : Int32)
  ·refine gu (T8.setTop (mkF m 107 #[(sR a0), (sJ q1), .second, (sI (0 : Int32)), (sI (0 : Int32)), (sI (0 : Int32)), (sI (1 : Int32))] [(.ref a0), (.int (0 : Int32))])) (fun t kt => ?_) ?_
   ·refine XS.ifYes X8.here hx rfl (pc0 := 86) (pc' := 98) rfl (hb hby d16_2_86) rfl ((if0 _ _).trans (teq c86_9).1) (by decide) (by decide) ?_
    show Steps _ _ _ (T8.setTop (mkF m 98 #[(sR a0), (sJ q1), .second, (sI (1 : Int32)), (sI (0 : Int32)), (sI (0 : Int32)), (sI (1 : Int32))] [])) _
    refine XS.iload X8.here hx rfl (hb hby d16_2_98) rfl ?_
    show Steps _ _ _ (T8.setTop (mkF m 100 #[(sR a0), (sJ q1), .second, (sI (1 : Int32)), (sI (0 : Int32)), (sI (0 : Int32)), (sI (1 : Int32))] [(.int (0 : Int32))])) _
    refine XS.istoreN X8.here hx rfl (hb hby d16_2_100) rfl (l' := #[(sR a0), (sJ q1), .second, (sI (0 : Int32)), (sI (0 : Int32)), (sI (0 : Int32)), (sI (1 : Int32))]) rfl ?_
    show Steps _ _ _ (T8.setTop (mkF m 101 #[(sR a0), (sJ q1), .second, (sI (0 : Int32)), (sI (0 : Int32)), (sI (0 : Int32)), (sI (1 : Int32))] [])) _
    refine XS.goto X8.here hx rfl (pc0 := 101) (pc' := 60) rfl (hb hby d16_2_101) (by decide) (by decide) ?_
    show Steps _ _ _ (T8.setTop (mkF m 60 #[(sR a0), (sJ q1), .second, (sI (0 : Int32)), (sI (0 : Int32)), (sI (0 : Int32)), (sI (1 : Int32))] [])) _
    refine XS.iload X8.here hx rfl (hb hby d16_2_60) rfl ?_
    show Steps _ _ _ (T8.setTop (mkF m 62 #[(sR a0), (sJ q1), .second, (sI (0 : Int32)), (sI (0 : Int32)), (sI (0 : Int32)), (sI (1 : Int32))] [(.int (0 : Int32))])) _
    refine XS.iloadN X8.here hx rfl (hb hby d16_2_62) rfl ?_
    show Steps _ _ _ (T8.setTop (mkF m 63 #[(sR a0), (sJ q1), .second, (sI (0 : Int32)), (sI (0 : Int32)), (sI (0 : Int32)), (sI (1 : Int32))] [(.int (0 : Int32)), (.int (0 : Int32))])) _
    refine XS.icmpYes X8.here hx rfl (pc0 := 63) (pc' := 104) rfl (hb hby d16_2_63) rfl (flt (by decide : ¬ ((0 : Int32) < (0 : Int32)))).2.1 (by decide) (by decide) ?_
    show Steps _ _ _ (T8.setTop (mkF m 104 #[(sR a0), (sJ q1), .second, (sI (0 : Int32)), (sI (0 : Int32)), (sI (0 : Int32)), (sI (1 : Int32))] [])) _
    refine XS.iload X8.here hx rfl (hb hby d16_2_104) rfl ?_
    show Steps _ _ _ (T8.setTop (mkF m 106 #[(sR a0), (sJ q1), .second, (sI (0 : Int32)), (sI (0 : Int32)), (sI (0 : Int32)), (sI (1 : Int32))] [(.int (0 : Int32))])) _
    refine XS.aloadN X8.here hx rfl (hb hby d16_2_106) rfl rfl ?_
    exact kt
   obtain ⟨T10, X10, e10, st10⟩ := getF X8 hx hZ hown (host := "") (Or.inl (hw _ (ix 77 rfl))) Via.refl e8 F_a0_count (g := (mkF m 107 #[(sR a0), (sJ q1), .second, (sI (0 : Int32)), (sI (0 : Int32)), (sI (0 : Int32)), (sI (1 : Int32))] [(.ref a0), (.int (0 : Int32))])) rfl rfl (hb hby d16_2_107)
   refine gu (T10.setTop (mkF m 110 #[(sR a0), (sJ q1), .second, (sI (0 : Int32)), (sI (0 : Int32)), (sI (0 : Int32)), (sI (1 : Int32))] [(.int (2 : Int32)), (.int (0 : Int32))])) (fun t kt => st10 _ kt) ?_
   refine gu (T10.setTop (mkF m 114 #[(sR a0), (sJ q1), .second, (sI (0 : Int32)), (sI (0 : Int32)), (sI (0 : Int32)), (sI (1 : Int32))] [(.ref a0)])) (fun t kt => ?_) ?_
   ·refine XS.icmpNo X10.here hx rfl (hb hby d16_2_110) rfl (tlt (by decide : (0 : Int32) < (2 : Int32))).2.1 ?_
    show Steps _ _ _ (T10.setTop (mkF m 113 #[(sR a0), (sJ q1), .second, (sI (0 : Int32)), (sI (0 : Int32)), (sI (0 : Int32)), (sI (1 : Int32))] [])) _
    refine XS.aloadN X10.here hx rfl (hb hby d16_2_113) rfl rfl ?_
    exact kt
   obtain ⟨T11, X11, e11, st11⟩ := getF X10 hx hZ hown (host := "") (Or.inl (hw _ (ix 17 rfl))) Via.refl e10 F_a0_prices (g := (mkF m 114 #[(sR a0), (sJ q1), .second, (sI (0 : Int32)), (sI (0 : Int32)), (sI (0 : Int32)), (sI (1 : Int32))] [(.ref a0)])) rfl rfl (hb hby d16_2_114)
   refine gu (T11.setTop (mkF m 117 #[(sR a0), (sJ q1), .second, (sI (0 : Int32)), (sI (0 : Int32)), (sI (0 : Int32)), (sI (1 : Int32))] [(.ref pa)])) (fun t kt => st11 _ kt) ?_
   obtain ⟨ca12, Ar12, q12, S12, M12, H12, U12⟩ := id V_pa
   refine gu (T11.setTop (mkF m 119 #[(sR a0), (sJ q1), .second, (sI (0 : Int32)), (sI (0 : Int32)), (sI (0 : Int32)), (sI (1 : Int32))] [(.int (0 : Int32)), (.ref pa)])) (fun t kt => ?_) ?_
   ·refine XS.iload X11.here hx rfl (hb hby d16_2_117) rfl ?_
    exact kt
   refine gu (T11.setTop (mkF m 122 #[(sR a0), (sJ q1), .second, (sI (0 : Int32)), (sI (0 : Int32)), (sI (0 : Int32)), (sI (1 : Int32))] [(.int (lcmpW x0 q1))])) (fun t kt => ?_) ?_
   ·refine X11.laload hx (j := (0 : Int32)) (v := (.long x0)) (by rw [e11]; exact Ar12.1) (State.isArrayOf_alike hZ.alike Ar12.2.1) Ar12.2.2 (inb_of S12 ⟨by decide, by decide⟩) (Has.at H12 (inb_of S12 ⟨by decide, by decide⟩) rfl) (g := (mkF m 119 #[(sR a0), (sJ q1), .second, (sI (0 : Int32)), (sI (0 : Int32)), (sI (0 : Int32)), (sI (1 : Int32))] [(.int (0 : Int32)), (.ref pa)])) rfl rfl (hb hby d16_2_119) _ ?_
    show Steps _ _ _ (T11.setTop (mkF m 120 #[(sR a0), (sJ q1), .second, (sI (0 : Int32)), (sI (0 : Int32)), (sI (0 : Int32)), (sI (1 : Int32))] [(.long x0)])) _
    refine XS.lloadN X11.here hx rfl (hb hby d16_2_120) rfl ?_
    show Steps _ _ _ (T11.setTop (mkF m 121 #[(sR a0), (sJ q1), .second, (sI (0 : Int32)), (sI (0 : Int32)), (sI (0 : Int32)), (sI (1 : Int32))] [(.long q1), (.long x0)])) _
    refine XS.lcmp X11.here hx rfl (hb hby d16_2_121) rfl ?_
    exact kt
   by_cases c122_13 : x0 = q1
   ·refine gu (T11.setTop (mkF m 135 #[(sR a0), (sJ q1), .second, (sI (0 : Int32)), (sI (0 : Int32)), (sI (0 : Int32)), (sI (1 : Int32))] [(.int (0 : Int32))])) (fun t kt => ?_) ?_
    ·refine XS.ifNo X11.here hx rfl (hb hby d16_2_122) rfl (jc_ne_f c122_13) ?_
     show Steps _ _ _ (T11.setTop (mkF m 125 #[(sR a0), (sJ q1), .second, (sI (0 : Int32)), (sI (0 : Int32)), (sI (0 : Int32)), (sI (1 : Int32))] [])) _
     refine XS.iload X11.here hx rfl (hb hby d16_2_125) rfl ?_
     show Steps _ _ _ (T11.setTop (mkF m 127 #[(sR a0), (sJ q1), .second, (sI (0 : Int32)), (sI (0 : Int32)), (sI (0 : Int32)), (sI (1 : Int32))] [(.int (0 : Int32))])) _
     refine XS.goto X11.here hx rfl (pc0 := 127) (pc' := 135) rfl (hb hby d16_2_127) (by decide) (by decide) ?_
     exact kt
    refine Gl.retI X11 hx hlk Bd.returns (hb hby d16_2_135) ?_ (by decide) (by decide)
    exact ⟨congrArg (fun z => some (Value.int z)) (show (0 : Int32) = f16_2 q1 sd x0 x1 wB from (((if_pos c36_5).trans (if_pos c86_9)).trans (if_pos c122_13)).symm), rfl, e11⟩
   ·refine gu (T11.setTop (mkF m 135 #[(sR a0), (sJ q1), .second, (sI (0 : Int32)), (sI (0 : Int32)), (sI (0 : Int32)), (sI (1 : Int32))] [(.int (-1 : Int32))])) (fun t kt => ?_) ?_
    ·refine XS.ifYes X11.here hx rfl (pc0 := 122) (pc' := 130) rfl (hb hby d16_2_122) rfl (jc_ne_t c122_13) (by decide) (by decide) ?_
     show Steps _ _ _ (T11.setTop (mkF m 130 #[(sR a0), (sJ q1), .second, (sI (0 : Int32)), (sI (0 : Int32)), (sI (0 : Int32)), (sI (1 : Int32))] [])) _
     refine XS.iload X11.here hx rfl (hb hby d16_2_130) rfl ?_
     show Steps _ _ _ (T11.setTop (mkF m 132 #[(sR a0), (sJ q1), .second, (sI (0 : Int32)), (sI (0 : Int32)), (sI (0 : Int32)), (sI (1 : Int32))] [(.int (0 : Int32))])) _
     refine XS.ineg X11.here hx rfl (hb hby d16_2_132) rfl ?_
     show Steps _ _ _ (T11.setTop (mkF m 133 #[(sR a0), (sJ q1), .second, (sI (0 : Int32)), (sI (0 : Int32)), (sI (0 : Int32)), (sI (1 : Int32))] [(.int (0 : Int32))])) _
     refine XS.iconst X11.here hx rfl (hb hby d16_2_133) ?_
     show Steps _ _ _ (T11.setTop (mkF m 134 #[(sR a0), (sJ q1), .second, (sI (0 : Int32)), (sI (0 : Int32)), (sI (0 : Int32)), (sI (1 : Int32))] [(.int (1 : Int32)), (.int (0 : Int32))])) _
     refine XS.isub X11.here hx rfl (hb hby d16_2_134) rfl ?_
     exact kt
    refine Gl.retI X11 hx hlk Bd.returns (hb hby d16_2_135) ?_ (by decide) (by decide)
    exact ⟨congrArg (fun z => some (Value.int z)) (show (-1 : Int32) = f16_2 q1 sd x0 x1 wB from (((if_pos c36_5).trans (if_pos c86_9)).trans (if_neg c122_13)).symm), rfl, e11⟩
  ·refine gu (T8.setTop (mkF m 107 #[(sR a0), (sJ q1), .second, (sI (1 : Int32)), (sI (1 : Int32)), (sI (0 : Int32)), (sI (1 : Int32))] [(.ref a0), (.int (1 : Int32))])) (fun t kt => ?_) ?_
   ·refine XS.ifNo X8.here hx rfl (hb hby d16_2_86) rfl ((if0 _ _).trans (feq c86_9).1) ?_
    show Steps _ _ _ (T8.setTop (mkF m 89 #[(sR a0), (sJ q1), .second, (sI (1 : Int32)), (sI (0 : Int32)), (sI (0 : Int32)), (sI (1 : Int32))] [])) _
    refine XS.iload X8.here hx rfl (hb hby d16_2_89) rfl ?_
    show Steps _ _ _ (T8.setTop (mkF m 91 #[(sR a0), (sJ q1), .second, (sI (1 : Int32)), (sI (0 : Int32)), (sI (0 : Int32)), (sI (1 : Int32))] [(.int (0 : Int32))])) _
    refine XS.iconst X8.here hx rfl (hb hby d16_2_91) ?_
    show Steps _ _ _ (T8.setTop (mkF m 92 #[(sR a0), (sJ q1), .second, (sI (1 : Int32)), (sI (0 : Int32)), (sI (0 : Int32)), (sI (1 : Int32))] [(.int (1 : Int32)), (.int (0 : Int32))])) _
    refine XS.iadd X8.here hx rfl (hb hby d16_2_92) rfl ?_
    show Steps _ _ _ (T8.setTop (mkF m 93 #[(sR a0), (sJ q1), .second, (sI (1 : Int32)), (sI (0 : Int32)), (sI (0 : Int32)), (sI (1 : Int32))] [(.int (1 : Int32))])) _
    refine XS.istore X8.here hx rfl (hb hby d16_2_93) rfl (l' := #[(sR a0), (sJ q1), .second, (sI (1 : Int32)), (sI (1 : Int32)), (sI (0 : Int32)), (sI (1 : Int32))]) rfl ?_
    show Steps _ _ _ (T8.setTop (mkF m 95 #[(sR a0), (sJ q1), .second, (sI (1 : Int32)), (sI (1 : Int32)), (sI (0 : Int32)), (sI (1 : Int32))] [])) _
    refine XS.goto X8.here hx rfl (pc0 := 95) (pc' := 101) rfl (hb hby d16_2_95) (by decide) (by decide) ?_
    show Steps _ _ _ (T8.setTop (mkF m 101 #[(sR a0), (sJ q1), .second, (sI (1 : Int32)), (sI (1 : Int32)), (sI (0 : Int32)), (sI (1 : Int32))] [])) _
    refine XS.goto X8.here hx rfl (pc0 := 101) (pc' := 60) rfl (hb hby d16_2_101) (by decide) (by decide) ?_
    show Steps _ _ _ (T8.setTop (mkF m 60 #[(sR a0), (sJ q1), .second, (sI (1 : Int32)), (sI (1 : Int32)), (sI (0 : Int32)), (sI (1 : Int32))] [])) _
    refine XS.iload X8.here hx rfl (hb hby d16_2_60) rfl ?_
    show Steps _ _ _ (T8.setTop (mkF m 62 #[(sR a0), (sJ q1), .second, (sI (1 : Int32)), (sI (1 : Int32)), (sI (0 : Int32)), (sI (1 : Int32))] [(.int (1 : Int32))])) _
    refine XS.iloadN X8.here hx rfl (hb hby d16_2_62) rfl ?_
    show Steps _ _ _ (T8.setTop (mkF m 63 #[(sR a0), (sJ q1), .second, (sI (1 : Int32)), (sI (1 : Int32)), (sI (0 : Int32)), (sI (1 : Int32))] [(.int (1 : Int32)), (.int (1 : Int32))])) _
    refine XS.icmpYes X8.here hx rfl (pc0 := 63) (pc' := 104) rfl (hb hby d16_2_63) rfl (flt (by decide : ¬ ((1 : Int32) < (1 : Int32)))).2.1 (by decide) (by decide) ?_
    show Steps _ _ _ (T8.setTop (mkF m 104 #[(sR a0), (sJ q1), .second, (sI (1 : Int32)), (sI (1 : Int32)), (sI (0 : Int32)), (sI (1 : Int32))] [])) _
    refine XS.iload X8.here hx rfl (hb hby d16_2_104) rfl ?_
    show Steps _ _ _ (T8.setTop (mkF m 106 #[(sR a0), (sJ q1), .second, (sI (1 : Int32)), (sI (1 : Int32)), (sI (0 : Int32)), (sI (1 : Int32))] [(.int (1 : Int32))])) _
    refine XS.aloadN X8.here hx rfl (hb hby d16_2_106) rfl rfl ?_
    exact kt
   obtain ⟨T14, X14, e14, st14⟩ := getF X8 hx hZ hown (host := "") (Or.inl (hw _ (ix 77 rfl))) Via.refl e8 F_a0_count (g := (mkF m 107 #[(sR a0), (sJ q1), .second, (sI (1 : Int32)), (sI (1 : Int32)), (sI (0 : Int32)), (sI (1 : Int32))] [(.ref a0), (.int (1 : Int32))])) rfl rfl (hb hby d16_2_107)
   refine gu (T14.setTop (mkF m 110 #[(sR a0), (sJ q1), .second, (sI (1 : Int32)), (sI (1 : Int32)), (sI (0 : Int32)), (sI (1 : Int32))] [(.int (2 : Int32)), (.int (1 : Int32))])) (fun t kt => st14 _ kt) ?_
   refine gu (T14.setTop (mkF m 114 #[(sR a0), (sJ q1), .second, (sI (1 : Int32)), (sI (1 : Int32)), (sI (0 : Int32)), (sI (1 : Int32))] [(.ref a0)])) (fun t kt => ?_) ?_
   ·refine XS.icmpNo X14.here hx rfl (hb hby d16_2_110) rfl (tlt (by decide : (1 : Int32) < (2 : Int32))).2.1 ?_
    show Steps _ _ _ (T14.setTop (mkF m 113 #[(sR a0), (sJ q1), .second, (sI (1 : Int32)), (sI (1 : Int32)), (sI (0 : Int32)), (sI (1 : Int32))] [])) _
    refine XS.aloadN X14.here hx rfl (hb hby d16_2_113) rfl rfl ?_
    exact kt
   obtain ⟨T15, X15, e15, st15⟩ := getF X14 hx hZ hown (host := "") (Or.inl (hw _ (ix 17 rfl))) Via.refl e14 F_a0_prices (g := (mkF m 114 #[(sR a0), (sJ q1), .second, (sI (1 : Int32)), (sI (1 : Int32)), (sI (0 : Int32)), (sI (1 : Int32))] [(.ref a0)])) rfl rfl (hb hby d16_2_114)
   refine gu (T15.setTop (mkF m 117 #[(sR a0), (sJ q1), .second, (sI (1 : Int32)), (sI (1 : Int32)), (sI (0 : Int32)), (sI (1 : Int32))] [(.ref pa)])) (fun t kt => st15 _ kt) ?_
   obtain ⟨ca16, Ar16, q16, S16, M16, H16, U16⟩ := id V_pa
   refine gu (T15.setTop (mkF m 119 #[(sR a0), (sJ q1), .second, (sI (1 : Int32)), (sI (1 : Int32)), (sI (0 : Int32)), (sI (1 : Int32))] [(.int (1 : Int32)), (.ref pa)])) (fun t kt => ?_) ?_
   ·refine XS.iload X15.here hx rfl (hb hby d16_2_117) rfl ?_
    exact kt
   refine gu (T15.setTop (mkF m 122 #[(sR a0), (sJ q1), .second, (sI (1 : Int32)), (sI (1 : Int32)), (sI (0 : Int32)), (sI (1 : Int32))] [(.int (lcmpW x1 q1))])) (fun t kt => ?_) ?_
   ·refine X15.laload hx (j := (1 : Int32)) (v := (.long x1)) (by rw [e15]; exact Ar16.1) (State.isArrayOf_alike hZ.alike Ar16.2.1) Ar16.2.2 (inb_of S16 ⟨by decide, by decide⟩) (Has.at H16 (inb_of S16 ⟨by decide, by decide⟩) rfl) (g := (mkF m 119 #[(sR a0), (sJ q1), .second, (sI (1 : Int32)), (sI (1 : Int32)), (sI (0 : Int32)), (sI (1 : Int32))] [(.int (1 : Int32)), (.ref pa)])) rfl rfl (hb hby d16_2_119) _ ?_
    show Steps _ _ _ (T15.setTop (mkF m 120 #[(sR a0), (sJ q1), .second, (sI (1 : Int32)), (sI (1 : Int32)), (sI (0 : Int32)), (sI (1 : Int32))] [(.long x1)])) _
    refine XS.lloadN X15.here hx rfl (hb hby d16_2_120) rfl ?_
    show Steps _ _ _ (T15.setTop (mkF m 121 #[(sR a0), (sJ q1), .second, (sI (1 : Int32)), (sI (1 : Int32)), (sI (0 : Int32)), (sI (1 : Int32))] [(.long q1), (.long x1)])) _
    refine XS.lcmp X15.here hx rfl (hb hby d16_2_121) rfl ?_
    exact kt
   by_cases c122_17 : x1 = q1
   ·refine gu (T15.setTop (mkF m 135 #[(sR a0), (sJ q1), .second, (sI (1 : Int32)), (sI (1 : Int32)), (sI (0 : Int32)), (sI (1 : Int32))] [(.int (1 : Int32))])) (fun t kt => ?_) ?_
    ·refine XS.ifNo X15.here hx rfl (hb hby d16_2_122) rfl (jc_ne_f c122_17) ?_
     show Steps _ _ _ (T15.setTop (mkF m 125 #[(sR a0), (sJ q1), .second, (sI (1 : Int32)), (sI (1 : Int32)), (sI (0 : Int32)), (sI (1 : Int32))] [])) _
     refine XS.iload X15.here hx rfl (hb hby d16_2_125) rfl ?_
     show Steps _ _ _ (T15.setTop (mkF m 127 #[(sR a0), (sJ q1), .second, (sI (1 : Int32)), (sI (1 : Int32)), (sI (0 : Int32)), (sI (1 : Int32))] [(.int (1 : Int32))])) _
     refine XS.goto X15.here hx rfl (pc0 := 127) (pc' := 135) rfl (hb hby d16_2_127) (by decide) (by decide) ?_
     exact kt
    refine Gl.retI X15 hx hlk Bd.returns (hb hby d16_2_135) ?_ (by decide) (by decide)
    exact ⟨congrArg (fun z => some (Value.int z)) (show (1 : Int32) = f16_2 q1 sd x0 x1 wB from (((if_pos c36_5).trans (if_neg c86_9)).trans (if_pos c122_17)).symm), rfl, e15⟩
   ·refine gu (T15.setTop (mkF m 135 #[(sR a0), (sJ q1), .second, (sI (1 : Int32)), (sI (1 : Int32)), (sI (0 : Int32)), (sI (1 : Int32))] [(.int (-2 : Int32))])) (fun t kt => ?_) ?_
    ·refine XS.ifYes X15.here hx rfl (pc0 := 122) (pc' := 130) rfl (hb hby d16_2_122) rfl (jc_ne_t c122_17) (by decide) (by decide) ?_
     show Steps _ _ _ (T15.setTop (mkF m 130 #[(sR a0), (sJ q1), .second, (sI (1 : Int32)), (sI (1 : Int32)), (sI (0 : Int32)), (sI (1 : Int32))] [])) _
     refine XS.iload X15.here hx rfl (hb hby d16_2_130) rfl ?_
     show Steps _ _ _ (T15.setTop (mkF m 132 #[(sR a0), (sJ q1), .second, (sI (1 : Int32)), (sI (1 : Int32)), (sI (0 : Int32)), (sI (1 : Int32))] [(.int (1 : Int32))])) _
     refine XS.ineg X15.here hx rfl (hb hby d16_2_132) rfl ?_
     show Steps _ _ _ (T15.setTop (mkF m 133 #[(sR a0), (sJ q1), .second, (sI (1 : Int32)), (sI (1 : Int32)), (sI (0 : Int32)), (sI (1 : Int32))] [(.int (-1 : Int32))])) _
     refine XS.iconst X15.here hx rfl (hb hby d16_2_133) ?_
     show Steps _ _ _ (T15.setTop (mkF m 134 #[(sR a0), (sJ q1), .second, (sI (1 : Int32)), (sI (1 : Int32)), (sI (0 : Int32)), (sI (1 : Int32))] [(.int (1 : Int32)), (.int (-1 : Int32))])) _
     refine XS.isub X15.here hx rfl (hb hby d16_2_134) rfl ?_
     exact kt
    refine Gl.retI X15 hx hlk Bd.returns (hb hby d16_2_135) ?_ (by decide) (by decide)
    exact ⟨congrArg (fun z => some (Value.int z)) (show (-2 : Int32) = f16_2 q1 sd x0 x1 wB from (((if_pos c36_5).trans (if_neg c86_9)).trans (if_neg c122_17)).symm), rfl, e15⟩
 ·refine gu (T4.setTop (mkF m 107 #[(sR a0), (sJ q1), .second, (sI (2 : Int32)), (sI (2 : Int32)), (sI (1 : Int32)), (sI (1 : Int32))] [(.ref a0), (.int (2 : Int32))])) (fun t kt => ?_) ?_
  ·refine XS.ifNo X4.here hx rfl (hb hby d16_2_36) rfl ((if0 _ _).trans (feq c36_5).1) ?_
   show Steps _ _ _ (T4.setTop (mkF m 39 #[(sR a0), (sJ q1), .second, (sI (2 : Int32)), (sI (0 : Int32)), (sI (1 : Int32)), (sI (1 : Int32))] [])) _
   refine XS.iload X4.here hx rfl (hb hby d16_2_39) rfl ?_
   show Steps _ _ _ (T4.setTop (mkF m 41 #[(sR a0), (sJ q1), .second, (sI (2 : Int32)), (sI (0 : Int32)), (sI (1 : Int32)), (sI (1 : Int32))] [(.int (1 : Int32))])) _
   refine XS.iconst X4.here hx rfl (hb hby d16_2_41) ?_
   show Steps _ _ _ (T4.setTop (mkF m 42 #[(sR a0), (sJ q1), .second, (sI (2 : Int32)), (sI (0 : Int32)), (sI (1 : Int32)), (sI (1 : Int32))] [(.int (1 : Int32)), (.int (1 : Int32))])) _
   refine XS.iadd X4.here hx rfl (hb hby d16_2_42) rfl ?_
   show Steps _ _ _ (T4.setTop (mkF m 43 #[(sR a0), (sJ q1), .second, (sI (2 : Int32)), (sI (0 : Int32)), (sI (1 : Int32)), (sI (1 : Int32))] [(.int (2 : Int32))])) _
   refine XS.istore X4.here hx rfl (hb hby d16_2_43) rfl (l' := #[(sR a0), (sJ q1), .second, (sI (2 : Int32)), (sI (2 : Int32)), (sI (1 : Int32)), (sI (1 : Int32))]) rfl ?_
   show Steps _ _ _ (T4.setTop (mkF m 45 #[(sR a0), (sJ q1), .second, (sI (2 : Int32)), (sI (2 : Int32)), (sI (1 : Int32)), (sI (1 : Int32))] [])) _
   refine XS.goto X4.here hx rfl (pc0 := 45) (pc' := 60) rfl (hb hby d16_2_45) (by decide) (by decide) ?_
   show Steps _ _ _ (T4.setTop (mkF m 60 #[(sR a0), (sJ q1), .second, (sI (2 : Int32)), (sI (2 : Int32)), (sI (1 : Int32)), (sI (1 : Int32))] [])) _
   refine XS.iload X4.here hx rfl (hb hby d16_2_60) rfl ?_
   show Steps _ _ _ (T4.setTop (mkF m 62 #[(sR a0), (sJ q1), .second, (sI (2 : Int32)), (sI (2 : Int32)), (sI (1 : Int32)), (sI (1 : Int32))] [(.int (2 : Int32))])) _
   refine XS.iloadN X4.here hx rfl (hb hby d16_2_62) rfl ?_
   show Steps _ _ _ (T4.setTop (mkF m 63 #[(sR a0), (sJ q1), .second, (sI (2 : Int32)), (sI (2 : Int32)), (sI (1 : Int32)), (sI (1 : Int32))] [(.int (2 : Int32)), (.int (2 : Int32))])) _
   refine XS.icmpYes X4.here hx rfl (pc0 := 63) (pc' := 104) rfl (hb hby d16_2_63) rfl (flt (by decide : ¬ ((2 : Int32) < (2 : Int32)))).2.1 (by decide) (by decide) ?_
   show Steps _ _ _ (T4.setTop (mkF m 104 #[(sR a0), (sJ q1), .second, (sI (2 : Int32)), (sI (2 : Int32)), (sI (1 : Int32)), (sI (1 : Int32))] [])) _
   refine XS.iload X4.here hx rfl (hb hby d16_2_104) rfl ?_
   show Steps _ _ _ (T4.setTop (mkF m 106 #[(sR a0), (sJ q1), .second, (sI (2 : Int32)), (sI (2 : Int32)), (sI (1 : Int32)), (sI (1 : Int32))] [(.int (2 : Int32))])) _
   refine XS.aloadN X4.here hx rfl (hb hby d16_2_106) rfl rfl ?_
   exact kt
  obtain ⟨T18, X18, e18, st18⟩ := getF X4 hx hZ hown (host := "") (Or.inl (hw _ (ix 77 rfl))) Via.refl e4 F_a0_count (g := (mkF m 107 #[(sR a0), (sJ q1), .second, (sI (2 : Int32)), (sI (2 : Int32)), (sI (1 : Int32)), (sI (1 : Int32))] [(.ref a0), (.int (2 : Int32))])) rfl rfl (hb hby d16_2_107)
  refine gu (T18.setTop (mkF m 110 #[(sR a0), (sJ q1), .second, (sI (2 : Int32)), (sI (2 : Int32)), (sI (1 : Int32)), (sI (1 : Int32))] [(.int (2 : Int32)), (.int (2 : Int32))])) (fun t kt => st18 _ kt) ?_
  refine gu (T18.setTop (mkF m 135 #[(sR a0), (sJ q1), .second, (sI (2 : Int32)), (sI (2 : Int32)), (sI (1 : Int32)), (sI (1 : Int32))] [(.int (-3 : Int32))])) (fun t kt => ?_) ?_
  ·refine XS.icmpYes X18.here hx rfl (pc0 := 110) (pc' := 130) rfl (hb hby d16_2_110) rfl (flt (by decide : ¬ ((2 : Int32) < (2 : Int32)))).2.1 (by decide) (by decide) ?_
   show Steps _ _ _ (T18.setTop (mkF m 130 #[(sR a0), (sJ q1), .second, (sI (2 : Int32)), (sI (2 : Int32)), (sI (1 : Int32)), (sI (1 : Int32))] [])) _
   refine XS.iload X18.here hx rfl (hb hby d16_2_130) rfl ?_
   show Steps _ _ _ (T18.setTop (mkF m 132 #[(sR a0), (sJ q1), .second, (sI (2 : Int32)), (sI (2 : Int32)), (sI (1 : Int32)), (sI (1 : Int32))] [(.int (2 : Int32))])) _
   refine XS.ineg X18.here hx rfl (hb hby d16_2_132) rfl ?_
   show Steps _ _ _ (T18.setTop (mkF m 133 #[(sR a0), (sJ q1), .second, (sI (2 : Int32)), (sI (2 : Int32)), (sI (1 : Int32)), (sI (1 : Int32))] [(.int (-2 : Int32))])) _
   refine XS.iconst X18.here hx rfl (hb hby d16_2_133) ?_
   show Steps _ _ _ (T18.setTop (mkF m 134 #[(sR a0), (sJ q1), .second, (sI (2 : Int32)), (sI (2 : Int32)), (sI (1 : Int32)), (sI (1 : Int32))] [(.int (1 : Int32)), (.int (-2 : Int32))])) _
   refine XS.isub X18.here hx rfl (hb hby d16_2_134) rfl ?_
   exact kt
  refine Gl.retI X18 hx hlk Bd.returns (hb hby d16_2_135) ?_ (by decide) (by decide)
  exact ⟨congrArg (fun z => some (Value.int z)) (show (-3 : Int32) = f16_2 q1 sd x0 x1 wB from (if_neg c36_5).symm), rfl, e18⟩
def f16_3 (q1 : Int64) (sd : Addr) (x0 : Int64) (x1 : Int64) (x2 : Int64) (wB : Addr) : Int32 := (if (f14 x2 q1 sd wB) = (0 : Int32) then (if (f14 x0 q1 sd wB) = (0 : Int32) then (if x0 = q1 then (0 : Int32) else (-1 : Int32)) else (if (f14 x1 q1 sd wB) = (0 : Int32) then (if x1 = q1 then (1 : Int32) else (-2 : Int32)) else (if x2 = q1 then (2 : Int32) else (-3 : Int32)))) else (-4 : Int32))
def Q16_3 (Z : State) (a0 : Addr) (q1 : Int64) (pa : Addr) (sd : Addr) (kp : ClassId) (x0 : Int64) (x1 : Int64) (x2 : Int64) (wB : Addr) (h0 : Heap) (n0 : Nat) (v : Option Value) (h : Heap) (L : List Loc) : Prop := v = some (.int (f16_3 q1 sd x0 x1 x2 wB)) ∧ L = [] ∧ h = h0
theorem ef16_3 (m : MethodId) (a0 : Addr) (q1 : Int64) : entryFrame m #[(.ref a0), (.long q1)] 7 = mkF m 0 #[(sR a0), (sJ q1), .second, .unset, .unset, .unset, .unset] [] := by first | (simp [entryFrame, mkF, argsToLocals, Value.category]; done) | rfl
set_option maxRecDepth 65536 in
set_option maxHeartbeats 40000000 in
theorem rm16_3 (l : Launch) (Z : State) (aa : Array Value) (hw : ∀ d ∈ tables_1, d.before aa Z = true) (ws : List Jvm.Cond) (a0 : Addr) (q1 : Int64) (pa : Addr) (sd : Addr) (kp : ClassId) (x0 : Int64) (x1 : Int64) (x2 : Int64) (wB : Addr) (h0 : Heap) (n0 : Nat) (O0 : Old Z n0 h0) (E_a0 : Exa Z h0 a0 "com/example/openvenue/openvenue/core/BookSide") (F_a0_count : Fld Z h0 a0 "com/example/openvenue/openvenue/core/BookSide" "count" "I" (.int (3 : Int32))) (F_a0_prices : Fld Z h0 a0 "com/example/openvenue/openvenue/core/BookSide" "prices" "[J" (.ref pa)) (F_a0_side : Fld Z h0 a0 "com/example/openvenue/openvenue/core/BookSide" "side" "Lcom/example/openvenue/openvenue/core/Side;" (.ref sd)) (V_pa : Arv Z h0 pa kp .long (256 : Int32) [(.long x0), (.long x1), (.long x2)] (.long (0 : Int64))) (S_wB : Sta Z Z.heap "com/example/openvenue/openvenue/core/Side" "BUY" "Lcom/example/openvenue/openvenue/core/Side;" (.ref wB)) :
  MetFree l mn17 (head1 (Jvm.Cond.code mn17 prog_44_method_10_code 7 (some .int) :: ws) ({ frames := 1, cells := 0, slots := 0, locals := 16 } : Room)) (fun a U => a = #[(.ref a0), (.long q1)] ∧ Z.Warmed39 U.vm ∧ U.heap = h0) (fun _ _ _ _ _ => True) (fun _ U o U' => ∃ v L, o = .returned v ∧ Q16_3 Z a0 q1 pa sd kp x0 x1 x2 wB h0 n0 v U'.heap L ∧ FrameEnd U o U' L ({ frames := 1, cells := 0, slots := 0, locals := 16 } : Room).cells ({ frames := 1, cells := 0, slots := 0, locals := 16 } : Room).slots) := by
 refine MetFree.of_bodySF (plainFor_of_name pn_com_example_openvenue_openvenue_core_BookSide) hisR ?_
 intro p e s m args below meth c s₁ Bd hml0 hP hK
 obtain ⟨rfl, hZ, hh⟩ := hP
 have hx := Bd.exec
 have hby := Bd.bytes
 have hlk := Bd.notSynchronized
 have hml : c.maxLocals = 7 := hml0
 have hown : s.vm.findClass "com/example/openvenue/openvenue/core/BookSide" = some m.cls := findClass_of_methodNamed Bd.named
 have hnm := (name_of_methodNamed Bd.named Bd.method).1
 have X0 : Stand p l e ({ frames := 1, cells := 0, slots := 0, locals := 16 } : Room) s m #[(.ref a0), (.long q1)] below meth c s₁ [] 0 0 := Stand.of_body Bd
 have e0 : s₁.heap = h0 := by rw [← hh, Bd.state]; rfl
 have N0 := Fr.nil n0
 show Gl p e below (Ret s 0 0 (Q16_3 Z a0 q1 pa sd kp x0 x1 x2 wB h0 n0)) (s₁.setTop (entryFrame m #[(.ref a0), (.long q1)] 7))
 rw [ef16_3 m a0 q1]
 obtain ⟨args, hargs⟩ : ∃ z : Array Value, z = #[(.ref a0), (.long q1)] := ⟨_, rfl⟩
 rw [← hargs] at X0
 refine gu (s₁.setTop (mkF m 1 #[(sR a0), (sJ q1), .second, .unset, .unset, .unset, .unset] [(.ref a0)])) (fun t kt => ?_) ?_
 ·refine XS.aloadN X0.here hx rfl (hb hby d16_3_0) rfl rfl ?_
  exact kt
 obtain ⟨T1, X1, e1, st1⟩ := getF X0 hx hZ hown (host := "") (Or.inl (hw _ (ix 77 rfl))) Via.refl e0 F_a0_count (g := (mkF m 1 #[(sR a0), (sJ q1), .second, .unset, .unset, .unset, .unset] [(.ref a0)])) rfl rfl (hb hby d16_3_1)
 refine gu (T1.setTop (mkF m 4 #[(sR a0), (sJ q1), .second, .unset, .unset, .unset, .unset] [(.int (3 : Int32))])) (fun t kt => st1 _ kt) ?_
 refine gu (T1.setTop (mkF m 26 #[(sR a0), (sJ q1), .second, (sI (3 : Int32)), (sI (0 : Int32)), (sI (1 : Int32)), (sI (2 : Int32))] [(.ref a0), (.ref a0)])) (fun t kt => ?_) ?_
 ·refine XS.istoreN X1.here hx rfl (hb hby d16_3_4) rfl (l' := #[(sR a0), (sJ q1), .second, (sI (3 : Int32)), .unset, .unset, .unset]) rfl ?_
  show Steps _ _ _ (T1.setTop (mkF m 5 #[(sR a0), (sJ q1), .second, (sI (3 : Int32)), .unset, .unset, .unset] [])) _
  refine XS.iconst X1.here hx rfl (hb hby d16_3_5) ?_
  show Steps _ _ _ (T1.setTop (mkF m 6 #[(sR a0), (sJ q1), .second, (sI (3 : Int32)), .unset, .unset, .unset] [(.int (0 : Int32))])) _
  refine XS.istore X1.here hx rfl (hb hby d16_3_6) rfl (l' := #[(sR a0), (sJ q1), .second, (sI (3 : Int32)), (sI (0 : Int32)), .unset, .unset]) rfl ?_
  show Steps _ _ _ (T1.setTop (mkF m 8 #[(sR a0), (sJ q1), .second, (sI (3 : Int32)), (sI (0 : Int32)), .unset, .unset] [])) _
  refine XS.iconst X1.here hx rfl (hb hby d16_3_8) ?_
  show Steps _ _ _ (T1.setTop (mkF m 9 #[(sR a0), (sJ q1), .second, (sI (3 : Int32)), (sI (0 : Int32)), .unset, .unset] [(.int (1 : Int32))])) _
  refine XS.istore X1.here hx rfl (hb hby d16_3_9) rfl (l' := #[(sR a0), (sJ q1), .second, (sI (3 : Int32)), (sI (0 : Int32)), (sI (1 : Int32)), .unset]) rfl ?_
  show Steps _ _ _ (T1.setTop (mkF m 11 #[(sR a0), (sJ q1), .second, (sI (3 : Int32)), (sI (0 : Int32)), (sI (1 : Int32)), .unset] [])) _
  refine XS.iloadN X1.here hx rfl (hb hby d16_3_11) rfl ?_
  show Steps _ _ _ (T1.setTop (mkF m 12 #[(sR a0), (sJ q1), .second, (sI (3 : Int32)), (sI (0 : Int32)), (sI (1 : Int32)), .unset] [(.int (3 : Int32))])) _
  refine XS.iload X1.here hx rfl (hb hby d16_3_12) rfl ?_
  show Steps _ _ _ (T1.setTop (mkF m 14 #[(sR a0), (sJ q1), .second, (sI (3 : Int32)), (sI (0 : Int32)), (sI (1 : Int32)), .unset] [(.int (1 : Int32)), (.int (3 : Int32))])) _
  refine XS.isub X1.here hx rfl (hb hby d16_3_14) rfl ?_
  show Steps _ _ _ (T1.setTop (mkF m 15 #[(sR a0), (sJ q1), .second, (sI (3 : Int32)), (sI (0 : Int32)), (sI (1 : Int32)), .unset] [(.int (2 : Int32))])) _
  refine XS.ifNo X1.here hx rfl (hb hby d16_3_15) rfl ((if0 _ _).trans (flt (by decide : ¬ ((2 : Int32) < (0 : Int32)))).1) ?_
  show Steps _ _ _ (T1.setTop (mkF m 18 #[(sR a0), (sJ q1), .second, (sI (3 : Int32)), (sI (0 : Int32)), (sI (1 : Int32)), .unset] [])) _
  refine XS.iloadN X1.here hx rfl (hb hby d16_3_18) rfl ?_
  show Steps _ _ _ (T1.setTop (mkF m 19 #[(sR a0), (sJ q1), .second, (sI (3 : Int32)), (sI (0 : Int32)), (sI (1 : Int32)), .unset] [(.int (3 : Int32))])) _
  refine XS.iload X1.here hx rfl (hb hby d16_3_19) rfl ?_
  show Steps _ _ _ (T1.setTop (mkF m 21 #[(sR a0), (sJ q1), .second, (sI (3 : Int32)), (sI (0 : Int32)), (sI (1 : Int32)), .unset] [(.int (1 : Int32)), (.int (3 : Int32))])) _
  refine XS.isub X1.here hx rfl (hb hby d16_3_21) rfl ?_
  show Steps _ _ _ (T1.setTop (mkF m 22 #[(sR a0), (sJ q1), .second, (sI (3 : Int32)), (sI (0 : Int32)), (sI (1 : Int32)), .unset] [(.int (2 : Int32))])) _
  refine XS.istore X1.here hx rfl (hb hby d16_3_22) rfl (l' := #[(sR a0), (sJ q1), .second, (sI (3 : Int32)), (sI (0 : Int32)), (sI (1 : Int32)), (sI (2 : Int32))]) rfl ?_
  show Steps _ _ _ (T1.setTop (mkF m 24 #[(sR a0), (sJ q1), .second, (sI (3 : Int32)), (sI (0 : Int32)), (sI (1 : Int32)), (sI (2 : Int32))] [])) _
  refine XS.aloadN X1.here hx rfl (hb hby d16_3_24) rfl rfl ?_
  show Steps _ _ _ (T1.setTop (mkF m 25 #[(sR a0), (sJ q1), .second, (sI (3 : Int32)), (sI (0 : Int32)), (sI (1 : Int32)), (sI (2 : Int32))] [(.ref a0)])) _
  refine XS.aloadN X1.here hx rfl (hb hby d16_3_25) rfl rfl ?_
  exact kt
 obtain ⟨T2, X2, e2, st2⟩ := getF X1 hx hZ hown (host := "") (Or.inl (hw _ (ix 17 rfl))) Via.refl e1 F_a0_prices (g := (mkF m 26 #[(sR a0), (sJ q1), .second, (sI (3 : Int32)), (sI (0 : Int32)), (sI (1 : Int32)), (sI (2 : Int32))] [(.ref a0), (.ref a0)])) rfl rfl (hb hby d16_3_26)
 refine gu (T2.setTop (mkF m 29 #[(sR a0), (sJ q1), .second, (sI (3 : Int32)), (sI (0 : Int32)), (sI (1 : Int32)), (sI (2 : Int32))] [(.ref pa), (.ref a0)])) (fun t kt => st2 _ kt) ?_
 obtain ⟨ca3, Ar3, q3, S3, M3, H3, U3⟩ := id V_pa
 refine gu (T2.setTop (mkF m 31 #[(sR a0), (sJ q1), .second, (sI (3 : Int32)), (sI (0 : Int32)), (sI (1 : Int32)), (sI (2 : Int32))] [(.int (2 : Int32)), (.ref pa), (.ref a0)])) (fun t kt => ?_) ?_
 ·refine XS.iload X2.here hx rfl (hb hby d16_3_29) rfl ?_
  exact kt
 refine gu (T2.setTop (mkF m 33 #[(sR a0), (sJ q1), .second, (sI (3 : Int32)), (sI (0 : Int32)), (sI (1 : Int32)), (sI (2 : Int32))] [(.long q1), (.long x2), (.ref a0)])) (fun t kt => ?_) ?_
 ·refine X2.laload hx (j := (2 : Int32)) (v := (.long x2)) (by rw [e2]; exact Ar3.1) (State.isArrayOf_alike hZ.alike Ar3.2.1) Ar3.2.2 (inb_of S3 ⟨by decide, by decide⟩) (Has.at H3 (inb_of S3 ⟨by decide, by decide⟩) rfl) (g := (mkF m 31 #[(sR a0), (sJ q1), .second, (sI (3 : Int32)), (sI (0 : Int32)), (sI (1 : Int32)), (sI (2 : Int32))] [(.int (2 : Int32)), (.ref pa), (.ref a0)])) rfl rfl (hb hby d16_3_31) _ ?_
  show Steps _ _ _ (T2.setTop (mkF m 32 #[(sR a0), (sJ q1), .second, (sI (3 : Int32)), (sI (0 : Int32)), (sI (1 : Int32)), (sI (2 : Int32))] [(.long x2), (.ref a0)])) _
  refine XS.lloadN X2.here hx rfl (hb hby d16_3_32) rfl ?_
  exact kt
 obtain ⟨cq4, q4, r4⟩ := E_a0.cell
 obtain ⟨_, _, ⟨T4, L4, k4, n4⟩, -, X4, ⟨Lc4, hQ4, l4, y4, z4⟩, st4⟩ := X2.privateBack hx (y := mn15) hown (mvT hZ (hw _ (ix 145 rfl))) (mvT hZ (hw _ (ix 146 rfl))) (own_selp (mvT hZ (hw _ (ix 4 rfl))) (mvP hZ (hw _ (ix 147 rfl))) (mvT hZ (hw _ (ix 146 rfl))) (by decide)) (Cond.privateMethod_at (mvP hZ (hw _ (ix 147 rfl)) (args := #[]))) (mvT hZ (hw _ (ix 148 rfl))) (by decide) (backOf (W := 0) (rm14 l Z aa hw [] a0 x2 q1 sd wB h0 n0 O0 E_a0 F_a0_side S_wB) hZ (hw _ (ix 148 rfl)) (hw _ (ix 5 rfl)) (by decide) (by decide)) (g := (mkF m 33 #[(sR a0), (sJ q1), .second, (sI (3 : Int32)), (sI (0 : Int32)), (sI (1 : Int32)), (sI (2 : Int32))] [(.long q1), (.long x2), (.ref a0)])) rfl (sz hml) (Steps.refl _) (a := a0) (by rw [e2]; exact q4) r4 (argsL := [(.long x2), (.long q1)]) (rest := []) (lenOf pd_oJJcZ rfl) rfl le0 (hb hby d16_3_33) (fun _ _ => ⟨rfl, e2, (by decide : 0 + 0 ≤ _), (by decide : 0 + 0 ≤ _)⟩)
 dsimp only [Pt.U, Pt.locs, Pt.cells, Pt.slots] at X4 l4 y4 z4 st4 hQ4
 subst l4 y4 z4
 obtain ⟨rfl, rfl, e4⟩ := hQ4
 try rw [List.append_nil] at X4
 refine gu (T4.setTop (mkF m 36 #[(sR a0), (sJ q1), .second, (sI (3 : Int32)), (sI (0 : Int32)), (sI (1 : Int32)), (sI (2 : Int32))] [(.int (f14 x2 q1 sd wB))])) (fun t kt => st4.trans kt) ?_
 by_cases c36_5 : (f14 x2 q1 sd wB) = (0 : Int32)
 ·refine gu (T4.setTop (mkF m 26 #[(sR a0), (sJ q1), .second, (sI (2 : Int32)), (sI (0 : Int32)), (sI (2 : Int32)), (sI (0 : Int32))] [(.ref a0), (.ref a0)])) (fun t kt => ?_) ?_
  ·refine XS.ifYes X4.here hx rfl (pc0 := 36) (pc' := 48) rfl (hb hby d16_3_36) rfl ((if0 _ _).trans (teq c36_5).1) (by decide) (by decide) ?_
   show Steps _ _ _ (T4.setTop (mkF m 48 #[(sR a0), (sJ q1), .second, (sI (3 : Int32)), (sI (0 : Int32)), (sI (1 : Int32)), (sI (2 : Int32))] [])) _
   refine XS.iload X4.here hx rfl (hb hby d16_3_48) rfl ?_
   show Steps _ _ _ (T4.setTop (mkF m 50 #[(sR a0), (sJ q1), .second, (sI (3 : Int32)), (sI (0 : Int32)), (sI (1 : Int32)), (sI (2 : Int32))] [(.int (2 : Int32))])) _
   refine XS.istoreN X4.here hx rfl (hb hby d16_3_50) rfl (l' := #[(sR a0), (sJ q1), .second, (sI (2 : Int32)), (sI (0 : Int32)), (sI (1 : Int32)), (sI (2 : Int32))]) rfl ?_
   show Steps _ _ _ (T4.setTop (mkF m 51 #[(sR a0), (sJ q1), .second, (sI (2 : Int32)), (sI (0 : Int32)), (sI (1 : Int32)), (sI (2 : Int32))] [])) _
   refine XS.iload X4.here hx rfl (hb hby d16_3_51) rfl ?_
   show Steps _ _ _ (T4.setTop (mkF m 53 #[(sR a0), (sJ q1), .second, (sI (2 : Int32)), (sI (0 : Int32)), (sI (1 : Int32)), (sI (2 : Int32))] [(.int (1 : Int32))])) _
   refine XS.iconst X4.here hx rfl (hb hby d16_3_53) ?_
   show Steps _ _ _ (T4.setTop (mkF m 54 #[(sR a0), (sJ q1), .second, (sI (2 : Int32)), (sI (0 : Int32)), (sI (1 : Int32)), (sI (2 : Int32))] [(.int (1 : Int32)), (.int (1 : Int32))])) _
   refine XS.ishl X4.here hx rfl (hb hby d16_3_54) rfl ?_
   show Steps _ _ _ (T4.setTop (mkF m 55 #[(sR a0), (sJ q1), .second, (sI (2 : Int32)), (sI (0 : Int32)), (sI (1 : Int32)), (sI (2 : Int32))] [(.int (2 : Int32))])) _
   refine XS.istore X4.here hx rfl (hb hby d16_3_55) rfl (l' := #[(sR a0), (sJ q1), .second, (sI (2 : Int32)), (sI (0 : Int32)), (sI (2 : Int32)), (sI (2 : Int32))]) rfl ?_
   show Steps _ _ _ (T4.setTop (mkF m 57 #[(sR a0), (sJ q1), .second, (sI (2 : Int32)), (sI (0 : Int32)), (sI (2 : Int32)), (sI (2 : Int32))] [])) _
   refine XS.goto X4.here hx rfl (pc0 := 57) (pc' := 11) rfl (hb hby d16_3_57) (by decide) (by decide) ?_
   show Steps _ _ _ (T4.setTop (mkF m 11 #[(sR a0), (sJ q1), .second, (sI (2 : Int32)), (sI (0 : Int32)), (sI (2 : Int32)), (sI (2 : Int32))] [])) _
   refine XS.iloadN X4.here hx rfl (hb hby d16_3_11) rfl ?_
   show Steps _ _ _ (T4.setTop (mkF m 12 #[(sR a0), (sJ q1), .second, (sI (2 : Int32)), (sI (0 : Int32)), (sI (2 : Int32)), (sI (2 : Int32))] [(.int (2 : Int32))])) _
   refine XS.iload X4.here hx rfl (hb hby d16_3_12) rfl ?_
   show Steps _ _ _ (T4.setTop (mkF m 14 #[(sR a0), (sJ q1), .second, (sI (2 : Int32)), (sI (0 : Int32)), (sI (2 : Int32)), (sI (2 : Int32))] [(.int (2 : Int32)), (.int (2 : Int32))])) _
   refine XS.isub X4.here hx rfl (hb hby d16_3_14) rfl ?_
   show Steps _ _ _ (T4.setTop (mkF m 15 #[(sR a0), (sJ q1), .second, (sI (2 : Int32)), (sI (0 : Int32)), (sI (2 : Int32)), (sI (2 : Int32))] [(.int (0 : Int32))])) _
   refine XS.ifNo X4.here hx rfl (hb hby d16_3_15) rfl ((if0 _ _).trans (flt (by decide : ¬ ((0 : Int32) < (0 : Int32)))).1) ?_
   show Steps _ _ _ (T4.setTop (mkF m 18 #[(sR a0), (sJ q1), .second, (sI (2 : Int32)), (sI (0 : Int32)), (sI (2 : Int32)), (sI (2 : Int32))] [])) _
   refine XS.iloadN X4.here hx rfl (hb hby d16_3_18) rfl ?_
   show Steps _ _ _ (T4.setTop (mkF m 19 #[(sR a0), (sJ q1), .second, (sI (2 : Int32)), (sI (0 : Int32)), (sI (2 : Int32)), (sI (2 : Int32))] [(.int (2 : Int32))])) _
   refine XS.iload X4.here hx rfl (hb hby d16_3_19) rfl ?_
   show Steps _ _ _ (T4.setTop (mkF m 21 #[(sR a0), (sJ q1), .second, (sI (2 : Int32)), (sI (0 : Int32)), (sI (2 : Int32)), (sI (2 : Int32))] [(.int (2 : Int32)), (.int (2 : Int32))])) _
   refine XS.isub X4.here hx rfl (hb hby d16_3_21) rfl ?_
   show Steps _ _ _ (T4.setTop (mkF m 22 #[(sR a0), (sJ q1), .second, (sI (2 : Int32)), (sI (0 : Int32)), (sI (2 : Int32)), (sI (2 : Int32))] [(.int (0 : Int32))])) _
   refine XS.istore X4.here hx rfl (hb hby d16_3_22) rfl (l' := #[(sR a0), (sJ q1), .second, (sI (2 : Int32)), (sI (0 : Int32)), (sI (2 : Int32)), (sI (0 : Int32))]) rfl ?_
   show Steps _ _ _ (T4.setTop (mkF m 24 #[(sR a0), (sJ q1), .second, (sI (2 : Int32)), (sI (0 : Int32)), (sI (2 : Int32)), (sI (0 : Int32))] [])) _
   refine XS.aloadN X4.here hx rfl (hb hby d16_3_24) rfl rfl ?_
   show Steps _ _ _ (T4.setTop (mkF m 25 #[(sR a0), (sJ q1), .second, (sI (2 : Int32)), (sI (0 : Int32)), (sI (2 : Int32)), (sI (0 : Int32))] [(.ref a0)])) _
   refine XS.aloadN X4.here hx rfl (hb hby d16_3_25) rfl rfl ?_
   exact kt
  obtain ⟨T6, X6, e6, st6⟩ := getF X4 hx hZ hown (host := "") (Or.inl (hw _ (ix 17 rfl))) Via.refl e4 F_a0_prices (g := (mkF m 26 #[(sR a0), (sJ q1), .second, (sI (2 : Int32)), (sI (0 : Int32)), (sI (2 : Int32)), (sI (0 : Int32))] [(.ref a0), (.ref a0)])) rfl rfl (hb hby d16_3_26)
  refine gu (T6.setTop (mkF m 29 #[(sR a0), (sJ q1), .second, (sI (2 : Int32)), (sI (0 : Int32)), (sI (2 : Int32)), (sI (0 : Int32))] [(.ref pa), (.ref a0)])) (fun t kt => st6 _ kt) ?_
  obtain ⟨ca7, Ar7, q7, S7, M7, H7, U7⟩ := id V_pa
  refine gu (T6.setTop (mkF m 31 #[(sR a0), (sJ q1), .second, (sI (2 : Int32)), (sI (0 : Int32)), (sI (2 : Int32)), (sI (0 : Int32))] [(.int (0 : Int32)), (.ref pa), (.ref a0)])) (fun t kt => ?_) ?_
  ·refine XS.iload X6.here hx rfl (hb hby d16_3_29) rfl ?_
   exact kt
  refine gu (T6.setTop (mkF m 33 #[(sR a0), (sJ q1), .second, (sI (2 : Int32)), (sI (0 : Int32)), (sI (2 : Int32)), (sI (0 : Int32))] [(.long q1), (.long x0), (.ref a0)])) (fun t kt => ?_) ?_
  ·refine X6.laload hx (j := (0 : Int32)) (v := (.long x0)) (by rw [e6]; exact Ar7.1) (State.isArrayOf_alike hZ.alike Ar7.2.1) Ar7.2.2 (inb_of S7 ⟨by decide, by decide⟩) (Has.at H7 (inb_of S7 ⟨by decide, by decide⟩) rfl) (g := (mkF m 31 #[(sR a0), (sJ q1), .second, (sI (2 : Int32)), (sI (0 : Int32)), (sI (2 : Int32)), (sI (0 : Int32))] [(.int (0 : Int32)), (.ref pa), (.ref a0)])) rfl rfl (hb hby d16_3_31) _ ?_
   show Steps _ _ _ (T6.setTop (mkF m 32 #[(sR a0), (sJ q1), .second, (sI (2 : Int32)), (sI (0 : Int32)), (sI (2 : Int32)), (sI (0 : Int32))] [(.long x0), (.ref a0)])) _
   refine XS.lloadN X6.here hx rfl (hb hby d16_3_32) rfl ?_
   exact kt
  obtain ⟨cq8, q8, r8⟩ := E_a0.cell
  obtain ⟨_, _, ⟨T8, L8, k8, n8⟩, -, X8, ⟨Lc8, hQ8, l8, y8, z8⟩, st8⟩ := X6.privateBack hx (y := mn15) hown (mvT hZ (hw _ (ix 145 rfl))) (mvT hZ (hw _ (ix 146 rfl))) (own_selp (mvT hZ (hw _ (ix 4 rfl))) (mvP hZ (hw _ (ix 147 rfl))) (mvT hZ (hw _ (ix 146 rfl))) (by decide)) (Cond.privateMethod_at (mvP hZ (hw _ (ix 147 rfl)) (args := #[]))) (mvT hZ (hw _ (ix 148 rfl))) (by decide) (backOf (W := 0) (rm14 l Z aa hw [] a0 x0 q1 sd wB h0 n0 O0 E_a0 F_a0_side S_wB) hZ (hw _ (ix 148 rfl)) (hw _ (ix 5 rfl)) (by decide) (by decide)) (g := (mkF m 33 #[(sR a0), (sJ q1), .second, (sI (2 : Int32)), (sI (0 : Int32)), (sI (2 : Int32)), (sI (0 : Int32))] [(.long q1), (.long x0), (.ref a0)])) rfl (sz hml) (Steps.refl _) (a := a0) (by rw [e6]; exact q8) r8 (argsL := [(.long x0), (.long q1)]) (rest := []) (lenOf pd_oJJcZ rfl) rfl le0 (hb hby d16_3_33) (fun _ _ => ⟨rfl, e6, (by decide : 0 + 0 ≤ _), (by decide : 0 + 0 ≤ _)⟩)
  dsimp only [Pt.U, Pt.locs, Pt.cells, Pt.slots] at X8 l8 y8 z8 st8 hQ8
  subst l8 y8 z8
  obtain ⟨rfl, rfl, e8⟩ := hQ8
  try rw [List.append_nil] at X8
  refine gu (T8.setTop (mkF m 36 #[(sR a0), (sJ q1), .second, (sI (2 : Int32)), (sI (0 : Int32)), (sI (2 : Int32)), (sI (0 : Int32))] [(.int (f14 x0 q1 sd wB))])) (fun t kt => st8.trans kt) ?_
  by_cases c36_9 : (f14 x0 q1 sd wB) = (0 : Int32)
  ·refine gu (T8.setTop (mkF m 107 #[(sR a0), (sJ q1), .second, (sI (0 : Int32)), (sI (0 : Int32)), (sI (4 : Int32)), (sI (0 : Int32))] [(.ref a0), (.int (0 : Int32))])) (fun t kt => ?_) ?_
   ·refine XS.ifYes X8.here hx rfl (pc0 := 36) (pc' := 48) rfl (hb hby d16_3_36) rfl ((if0 _ _).trans (teq c36_9).1) (by decide) (by decide) ?_
    show Steps _ _ _ (T8.setTop (mkF m 48 #[(sR a0), (sJ q1), .second, (sI (2 : Int32)), (sI (0 : Int32)), (sI (2 : Int32)), (sI (0 : Int32))] [])) _
    refine XS.iload X8.here hx rfl (hb hby d16_3_48) rfl ?_
    show Steps _ _ _ (T8.setTop (mkF m 50 #[(sR a0), (sJ q1), .second, (sI (2 : Int32)), (sI (0 : Int32)), (sI (2 : Int32)), (sI (0 : Int32))] [(.int (0 : Int32))])) _
    refine XS.istoreN X8.here hx rfl (hb hby d16_3_50) rfl (l' := #[(sR a0), (sJ q1), .second, (sI (0 : Int32)), (sI (0 : Int32)), (sI (2 : Int32)), (sI (0 : Int32))]) rfl ?_
    show Steps _ _ _ (T8.setTop (mkF m 51 #[(sR a0), (sJ q1), .second, (sI (0 : Int32)), (sI (0 : Int32)), (sI (2 : Int32)), (sI (0 : Int32))] [])) _
    refine XS.iload X8.here hx rfl (hb hby d16_3_51) rfl ?_
    show Steps _ _ _ (T8.setTop (mkF m 53 #[(sR a0), (sJ q1), .second, (sI (0 : Int32)), (sI (0 : Int32)), (sI (2 : Int32)), (sI (0 : Int32))] [(.int (2 : Int32))])) _
    refine XS.iconst X8.here hx rfl (hb hby d16_3_53) ?_
    show Steps _ _ _ (T8.setTop (mkF m 54 #[(sR a0), (sJ q1), .second, (sI (0 : Int32)), (sI (0 : Int32)), (sI (2 : Int32)), (sI (0 : Int32))] [(.int (1 : Int32)), (.int (2 : Int32))])) _
    refine XS.ishl X8.here hx rfl (hb hby d16_3_54) rfl ?_
    show Steps _ _ _ (T8.setTop (mkF m 55 #[(sR a0), (sJ q1), .second, (sI (0 : Int32)), (sI (0 : Int32)), (sI (2 : Int32)), (sI (0 : Int32))] [(.int (4 : Int32))])) _
    refine XS.istore X8.here hx rfl (hb hby d16_3_55) rfl (l' := #[(sR a0), (sJ q1), .second, (sI (0 : Int32)), (sI (0 : Int32)), (sI (4 : Int32)), (sI (0 : Int32))]) rfl ?_
    show Steps _ _ _ (T8.setTop (mkF m 57 #[(sR a0), (sJ q1), .second, (sI (0 : Int32)), (sI (0 : Int32)), (sI (4 : Int32)), (sI (0 : Int32))] [])) _
    refine XS.goto X8.here hx rfl (pc0 := 57) (pc' := 11) rfl (hb hby d16_3_57) (by decide) (by decide) ?_
    show Steps _ _ _ (T8.setTop (mkF m 11 #[(sR a0), (sJ q1), .second, (sI (0 : Int32)), (sI (0 : Int32)), (sI (4 : Int32)), (sI (0 : Int32))] [])) _
    refine XS.iloadN X8.here hx rfl (hb hby d16_3_11) rfl ?_
    show Steps _ _ _ (T8.setTop (mkF m 12 #[(sR a0), (sJ q1), .second, (sI (0 : Int32)), (sI (0 : Int32)), (sI (4 : Int32)), (sI (0 : Int32))] [(.int (0 : Int32))])) _
    refine XS.iload X8.here hx rfl (hb hby d16_3_12) rfl ?_
    show Steps _ _ _ (T8.setTop (mkF m 14 #[(sR a0), (sJ q1), .second, (sI (0 : Int32)), (sI (0 : Int32)), (sI (4 : Int32)), (sI (0 : Int32))] [(.int (4 : Int32)), (.int (0 : Int32))])) _
    refine XS.isub X8.here hx rfl (hb hby d16_3_14) rfl ?_
    show Steps _ _ _ (T8.setTop (mkF m 15 #[(sR a0), (sJ q1), .second, (sI (0 : Int32)), (sI (0 : Int32)), (sI (4 : Int32)), (sI (0 : Int32))] [(.int (-4 : Int32))])) _
    refine XS.ifYes X8.here hx rfl (pc0 := 15) (pc' := 60) rfl (hb hby d16_3_15) rfl ((if0 _ _).trans (tlt (by decide : (-4 : Int32) < (0 : Int32))).1) (by decide) (by decide) ?_
    show Steps _ _ _ (T8.setTop (mkF m 60 #[(sR a0), (sJ q1), .second, (sI (0 : Int32)), (sI (0 : Int32)), (sI (4 : Int32)), (sI (0 : Int32))] [])) _
    refine XS.iload X8.here hx rfl (hb hby d16_3_60) rfl ?_
    show Steps _ _ _ (T8.setTop (mkF m 62 #[(sR a0), (sJ q1), .second, (sI (0 : Int32)), (sI (0 : Int32)), (sI (4 : Int32)), (sI (0 : Int32))] [(.int (0 : Int32))])) _
    refine XS.iloadN X8.here hx rfl (hb hby d16_3_62) rfl ?_
    show Steps _ _ _ (T8.setTop (mkF m 63 #[(sR a0), (sJ q1), .second, (sI (0 : Int32)), (sI (0 : Int32)), (sI (4 : Int32)), (sI (0 : Int32))] [(.int (0 : Int32)), (.int (0 : Int32))])) _
    refine XS.icmpYes X8.here hx rfl (pc0 := 63) (pc' := 104) rfl (hb hby d16_3_63) rfl (flt (by decide : ¬ ((0 : Int32) < (0 : Int32)))).2.1 (by decide) (by decide) ?_
    show Steps _ _ _ (T8.setTop (mkF m 104 #[(sR a0), (sJ q1), .second, (sI (0 : Int32)), (sI (0 : Int32)), (sI (4 : Int32)), (sI (0 : Int32))] [])) _
    refine XS.iload X8.here hx rfl (hb hby d16_3_104) rfl ?_
    show Steps _ _ _ (T8.setTop (mkF m 106 #[(sR a0), (sJ q1), .second, (sI (0 : Int32)), (sI (0 : Int32)), (sI (4 : Int32)), (sI (0 : Int32))] [(.int (0 : Int32))])) _
    refine XS.aloadN X8.here hx rfl (hb hby d16_3_106) rfl rfl ?_
    exact kt
   obtain ⟨T10, X10, e10, st10⟩ := getF X8 hx hZ hown (host := "") (Or.inl (hw _ (ix 77 rfl))) Via.refl e8 F_a0_count (g := (mkF m 107 #[(sR a0), (sJ q1), .second, (sI (0 : Int32)), (sI (0 : Int32)), (sI (4 : Int32)), (sI (0 : Int32))] [(.ref a0), (.int (0 : Int32))])) rfl rfl (hb hby d16_3_107)
   refine gu (T10.setTop (mkF m 110 #[(sR a0), (sJ q1), .second, (sI (0 : Int32)), (sI (0 : Int32)), (sI (4 : Int32)), (sI (0 : Int32))] [(.int (3 : Int32)), (.int (0 : Int32))])) (fun t kt => st10 _ kt) ?_
   refine gu (T10.setTop (mkF m 114 #[(sR a0), (sJ q1), .second, (sI (0 : Int32)), (sI (0 : Int32)), (sI (4 : Int32)), (sI (0 : Int32))] [(.ref a0)])) (fun t kt => ?_) ?_
   ·refine XS.icmpNo X10.here hx rfl (hb hby d16_3_110) rfl (tlt (by decide : (0 : Int32) < (3 : Int32))).2.1 ?_
    show Steps _ _ _ (T10.setTop (mkF m 113 #[(sR a0), (sJ q1), .second, (sI (0 : Int32)), (sI (0 : Int32)), (sI (4 : Int32)), (sI (0 : Int32))] [])) _
    refine XS.aloadN X10.here hx rfl (hb hby d16_3_113) rfl rfl ?_
    exact kt
   obtain ⟨T11, X11, e11, st11⟩ := getF X10 hx hZ hown (host := "") (Or.inl (hw _ (ix 17 rfl))) Via.refl e10 F_a0_prices (g := (mkF m 114 #[(sR a0), (sJ q1), .second, (sI (0 : Int32)), (sI (0 : Int32)), (sI (4 : Int32)), (sI (0 : Int32))] [(.ref a0)])) rfl rfl (hb hby d16_3_114)
   refine gu (T11.setTop (mkF m 117 #[(sR a0), (sJ q1), .second, (sI (0 : Int32)), (sI (0 : Int32)), (sI (4 : Int32)), (sI (0 : Int32))] [(.ref pa)])) (fun t kt => st11 _ kt) ?_
   obtain ⟨ca12, Ar12, q12, S12, M12, H12, U12⟩ := id V_pa
   refine gu (T11.setTop (mkF m 119 #[(sR a0), (sJ q1), .second, (sI (0 : Int32)), (sI (0 : Int32)), (sI (4 : Int32)), (sI (0 : Int32))] [(.int (0 : Int32)), (.ref pa)])) (fun t kt => ?_) ?_
   ·refine XS.iload X11.here hx rfl (hb hby d16_3_117) rfl ?_
    exact kt
   refine gu (T11.setTop (mkF m 122 #[(sR a0), (sJ q1), .second, (sI (0 : Int32)), (sI (0 : Int32)), (sI (4 : Int32)), (sI (0 : Int32))] [(.int (lcmpW x0 q1))])) (fun t kt => ?_) ?_
   ·refine X11.laload hx (j := (0 : Int32)) (v := (.long x0)) (by rw [e11]; exact Ar12.1) (State.isArrayOf_alike hZ.alike Ar12.2.1) Ar12.2.2 (inb_of S12 ⟨by decide, by decide⟩) (Has.at H12 (inb_of S12 ⟨by decide, by decide⟩) rfl) (g := (mkF m 119 #[(sR a0), (sJ q1), .second, (sI (0 : Int32)), (sI (0 : Int32)), (sI (4 : Int32)), (sI (0 : Int32))] [(.int (0 : Int32)), (.ref pa)])) rfl rfl (hb hby d16_3_119) _ ?_
    show Steps _ _ _ (T11.setTop (mkF m 120 #[(sR a0), (sJ q1), .second, (sI (0 : Int32)), (sI (0 : Int32)), (sI (4 : Int32)), (sI (0 : Int32))] [(.long x0)])) _
    refine XS.lloadN X11.here hx rfl (hb hby d16_3_120) rfl ?_
    show Steps _ _ _ (T11.setTop (mkF m 121 #[(sR a0), (sJ q1), .second, (sI (0 : Int32)), (sI (0 : Int32)), (sI (4 : Int32)), (sI (0 : Int32))] [(.long q1), (.long x0)])) _
    refine XS.lcmp X11.here hx rfl (hb hby d16_3_121) rfl ?_
    exact kt
   by_cases c122_13 : x0 = q1
   ·refine gu (T11.setTop (mkF m 135 #[(sR a0), (sJ q1), .second, (sI (0 : Int32)), (sI (0 : Int32)), (sI (4 : Int32)), (sI (0 : Int32))] [(.int (0 : Int32))])) (fun t kt => ?_) ?_
    ·refine XS.ifNo X11.here hx rfl (hb hby d16_3_122) rfl (jc_ne_f c122_13) ?_
     show Steps _ _ _ (T11.setTop (mkF m 125 #[(sR a0), (sJ q1), .second, (sI (0 : Int32)), (sI (0 : Int32)), (sI (4 : Int32)), (sI (0 : Int32))] [])) _
     refine XS.iload X11.here hx rfl (hb hby d16_3_125) rfl ?_
     show Steps _ _ _ (T11.setTop (mkF m 127 #[(sR a0), (sJ q1), .second, (sI (0 : Int32)), (sI (0 : Int32)), (sI (4 : Int32)), (sI (0 : Int32))] [(.int (0 : Int32))])) _
     refine XS.goto X11.here hx rfl (pc0 := 127) (pc' := 135) rfl (hb hby d16_3_127) (by decide) (by decide) ?_
     exact kt
    refine Gl.retI X11 hx hlk Bd.returns (hb hby d16_3_135) ?_ (by decide) (by decide)
    exact ⟨congrArg (fun z => some (Value.int z)) (show (0 : Int32) = f16_3 q1 sd x0 x1 x2 wB from (((if_pos c36_5).trans (if_pos c36_9)).trans (if_pos c122_13)).symm), rfl, e11⟩
   ·refine gu (T11.setTop (mkF m 135 #[(sR a0), (sJ q1), .second, (sI (0 : Int32)), (sI (0 : Int32)), (sI (4 : Int32)), (sI (0 : Int32))] [(.int (-1 : Int32))])) (fun t kt => ?_) ?_
    ·refine XS.ifYes X11.here hx rfl (pc0 := 122) (pc' := 130) rfl (hb hby d16_3_122) rfl (jc_ne_t c122_13) (by decide) (by decide) ?_
     show Steps _ _ _ (T11.setTop (mkF m 130 #[(sR a0), (sJ q1), .second, (sI (0 : Int32)), (sI (0 : Int32)), (sI (4 : Int32)), (sI (0 : Int32))] [])) _
     refine XS.iload X11.here hx rfl (hb hby d16_3_130) rfl ?_
     show Steps _ _ _ (T11.setTop (mkF m 132 #[(sR a0), (sJ q1), .second, (sI (0 : Int32)), (sI (0 : Int32)), (sI (4 : Int32)), (sI (0 : Int32))] [(.int (0 : Int32))])) _
     refine XS.ineg X11.here hx rfl (hb hby d16_3_132) rfl ?_
     show Steps _ _ _ (T11.setTop (mkF m 133 #[(sR a0), (sJ q1), .second, (sI (0 : Int32)), (sI (0 : Int32)), (sI (4 : Int32)), (sI (0 : Int32))] [(.int (0 : Int32))])) _
     refine XS.iconst X11.here hx rfl (hb hby d16_3_133) ?_
     show Steps _ _ _ (T11.setTop (mkF m 134 #[(sR a0), (sJ q1), .second, (sI (0 : Int32)), (sI (0 : Int32)), (sI (4 : Int32)), (sI (0 : Int32))] [(.int (1 : Int32)), (.int (0 : Int32))])) _
     refine XS.isub X11.here hx rfl (hb hby d16_3_134) rfl ?_
     exact kt
    refine Gl.retI X11 hx hlk Bd.returns (hb hby d16_3_135) ?_ (by decide) (by decide)
    exact ⟨congrArg (fun z => some (Value.int z)) (show (-1 : Int32) = f16_3 q1 sd x0 x1 x2 wB from (((if_pos c36_5).trans (if_pos c36_9)).trans (if_neg c122_13)).symm), rfl, e11⟩
  ·refine gu (T8.setTop (mkF m 76 #[(sR a0), (sJ q1), .second, (sI (2 : Int32)), (sI (1 : Int32)), (sI (1 : Int32)), (sI (0 : Int32))] [(.ref a0), (.ref a0)])) (fun t kt => ?_) ?_
   ·refine XS.ifNo X8.here hx rfl (hb hby d16_3_36) rfl ((if0 _ _).trans (feq c36_9).1) ?_
    show Steps _ _ _ (T8.setTop (mkF m 39 #[(sR a0), (sJ q1), .second, (sI (2 : Int32)), (sI (0 : Int32)), (sI (2 : Int32)), (sI (0 : Int32))] [])) _
    refine XS.iload X8.here hx rfl (hb hby d16_3_39) rfl ?_
    show Steps _ _ _ (T8.setTop (mkF m 41 #[(sR a0), (sJ q1), .second, (sI (2 : Int32)), (sI (0 : Int32)), (sI (2 : Int32)), (sI (0 : Int32))] [(.int (0 : Int32))])) _
    refine XS.iconst X8.here hx rfl (hb hby d16_3_41) ?_
    show Steps _ _ _ (T8.setTop (mkF m 42 #[(sR a0), (sJ q1), .second, (sI (2 : Int32)), (sI (0 : Int32)), (sI (2 : Int32)), (sI (0 : Int32))] [(.int (1 : Int32)), (.int (0 : Int32))])) _
    refine XS.iadd X8.here hx rfl (hb hby d16_3_42) rfl ?_
    show Steps _ _ _ (T8.setTop (mkF m 43 #[(sR a0), (sJ q1), .second, (sI (2 : Int32)), (sI (0 : Int32)), (sI (2 : Int32)), (sI (0 : Int32))] [(.int (1 : Int32))])) _
    refine XS.istore X8.here hx rfl (hb hby d16_3_43) rfl (l' := #[(sR a0), (sJ q1), .second, (sI (2 : Int32)), (sI (1 : Int32)), (sI (2 : Int32)), (sI (0 : Int32))]) rfl ?_
    show Steps _ _ _ (T8.setTop (mkF m 45 #[(sR a0), (sJ q1), .second, (sI (2 : Int32)), (sI (1 : Int32)), (sI (2 : Int32)), (sI (0 : Int32))] [])) _
    refine XS.goto X8.here hx rfl (pc0 := 45) (pc' := 60) rfl (hb hby d16_3_45) (by decide) (by decide) ?_
    show Steps _ _ _ (T8.setTop (mkF m 60 #[(sR a0), (sJ q1), .second, (sI (2 : Int32)), (sI (1 : Int32)), (sI (2 : Int32)), (sI (0 : Int32))] [])) _
    refine XS.iload X8.here hx rfl (hb hby d16_3_60) rfl ?_
    show Steps _ _ _ (T8.setTop (mkF m 62 #[(sR a0), (sJ q1), .second, (sI (2 : Int32)), (sI (1 : Int32)), (sI (2 : Int32)), (sI (0 : Int32))] [(.int (1 : Int32))])) _
    refine XS.iloadN X8.here hx rfl (hb hby d16_3_62) rfl ?_
    show Steps _ _ _ (T8.setTop (mkF m 63 #[(sR a0), (sJ q1), .second, (sI (2 : Int32)), (sI (1 : Int32)), (sI (2 : Int32)), (sI (0 : Int32))] [(.int (2 : Int32)), (.int (1 : Int32))])) _
    refine XS.icmpNo X8.here hx rfl (hb hby d16_3_63) rfl (tlt (by decide : (1 : Int32) < (2 : Int32))).2.1 ?_
    show Steps _ _ _ (T8.setTop (mkF m 66 #[(sR a0), (sJ q1), .second, (sI (2 : Int32)), (sI (1 : Int32)), (sI (2 : Int32)), (sI (0 : Int32))] [])) _
    refine XS.iload X8.here hx rfl (hb hby d16_3_66) rfl ?_
    show Steps _ _ _ (T8.setTop (mkF m 68 #[(sR a0), (sJ q1), .second, (sI (2 : Int32)), (sI (1 : Int32)), (sI (2 : Int32)), (sI (0 : Int32))] [(.int (1 : Int32))])) _
    refine XS.iloadN X8.here hx rfl (hb hby d16_3_68) rfl ?_
    show Steps _ _ _ (T8.setTop (mkF m 69 #[(sR a0), (sJ q1), .second, (sI (2 : Int32)), (sI (1 : Int32)), (sI (2 : Int32)), (sI (0 : Int32))] [(.int (2 : Int32)), (.int (1 : Int32))])) _
    refine XS.iadd X8.here hx rfl (hb hby d16_3_69) rfl ?_
    show Steps _ _ _ (T8.setTop (mkF m 70 #[(sR a0), (sJ q1), .second, (sI (2 : Int32)), (sI (1 : Int32)), (sI (2 : Int32)), (sI (0 : Int32))] [(.int (3 : Int32))])) _
    refine XS.iconst X8.here hx rfl (hb hby d16_3_70) ?_
    show Steps _ _ _ (T8.setTop (mkF m 71 #[(sR a0), (sJ q1), .second, (sI (2 : Int32)), (sI (1 : Int32)), (sI (2 : Int32)), (sI (0 : Int32))] [(.int (1 : Int32)), (.int (3 : Int32))])) _
    refine XS.iushr X8.here hx rfl (hb hby d16_3_71) rfl ?_
    show Steps _ _ _ (T8.setTop (mkF m 72 #[(sR a0), (sJ q1), .second, (sI (2 : Int32)), (sI (1 : Int32)), (sI (2 : Int32)), (sI (0 : Int32))] [(.int (1 : Int32))])) _
    refine XS.istore X8.here hx rfl (hb hby d16_3_72) rfl (l' := #[(sR a0), (sJ q1), .second, (sI (2 : Int32)), (sI (1 : Int32)), (sI (1 : Int32)), (sI (0 : Int32))]) rfl ?_
    show Steps _ _ _ (T8.setTop (mkF m 74 #[(sR a0), (sJ q1), .second, (sI (2 : Int32)), (sI (1 : Int32)), (sI (1 : Int32)), (sI (0 : Int32))] [])) _
    refine XS.aloadN X8.here hx rfl (hb hby d16_3_74) rfl rfl ?_
    show Steps _ _ _ (T8.setTop (mkF m 75 #[(sR a0), (sJ q1), .second, (sI (2 : Int32)), (sI (1 : Int32)), (sI (1 : Int32)), (sI (0 : Int32))] [(.ref a0)])) _
    refine XS.aloadN X8.here hx rfl (hb hby d16_3_75) rfl rfl ?_
    exact kt
   obtain ⟨T14, X14, e14, st14⟩ := getF X8 hx hZ hown (host := "") (Or.inl (hw _ (ix 17 rfl))) Via.refl e8 F_a0_prices (g := (mkF m 76 #[(sR a0), (sJ q1), .second, (sI (2 : Int32)), (sI (1 : Int32)), (sI (1 : Int32)), (sI (0 : Int32))] [(.ref a0), (.ref a0)])) rfl rfl (hb hby d16_3_76)
   refine gu (T14.setTop (mkF m 79 #[(sR a0), (sJ q1), .second, (sI (2 : Int32)), (sI (1 : Int32)), (sI (1 : Int32)), (sI (0 : Int32))] [(.ref pa), (.ref a0)])) (fun t kt => st14 _ kt) ?_
   obtain ⟨ca15, Ar15, q15, S15, M15, H15, U15⟩ := id V_pa
   refine gu (T14.setTop (mkF m 81 #[(sR a0), (sJ q1), .second, (sI (2 : Int32)), (sI (1 : Int32)), (sI (1 : Int32)), (sI (0 : Int32))] [(.int (1 : Int32)), (.ref pa), (.ref a0)])) (fun t kt => ?_) ?_
   ·refine XS.iload X14.here hx rfl (hb hby d16_3_79) rfl ?_
    exact kt
   refine gu (T14.setTop (mkF m 83 #[(sR a0), (sJ q1), .second, (sI (2 : Int32)), (sI (1 : Int32)), (sI (1 : Int32)), (sI (0 : Int32))] [(.long q1), (.long x1), (.ref a0)])) (fun t kt => ?_) ?_
   ·refine X14.laload hx (j := (1 : Int32)) (v := (.long x1)) (by rw [e14]; exact Ar15.1) (State.isArrayOf_alike hZ.alike Ar15.2.1) Ar15.2.2 (inb_of S15 ⟨by decide, by decide⟩) (Has.at H15 (inb_of S15 ⟨by decide, by decide⟩) rfl) (g := (mkF m 81 #[(sR a0), (sJ q1), .second, (sI (2 : Int32)), (sI (1 : Int32)), (sI (1 : Int32)), (sI (0 : Int32))] [(.int (1 : Int32)), (.ref pa), (.ref a0)])) rfl rfl (hb hby d16_3_81) _ ?_
    show Steps _ _ _ (T14.setTop (mkF m 82 #[(sR a0), (sJ q1), .second, (sI (2 : Int32)), (sI (1 : Int32)), (sI (1 : Int32)), (sI (0 : Int32))] [(.long x1), (.ref a0)])) _
    refine XS.lloadN X14.here hx rfl (hb hby d16_3_82) rfl ?_
    exact kt
   obtain ⟨cq16, q16, r16⟩ := E_a0.cell
   obtain ⟨_, _, ⟨T16, L16, k16, n16⟩, -, X16, ⟨Lc16, hQ16, l16, y16, z16⟩, st16⟩ := X14.privateBack hx (y := mn15) hown (mvT hZ (hw _ (ix 145 rfl))) (mvT hZ (hw _ (ix 146 rfl))) (own_selp (mvT hZ (hw _ (ix 4 rfl))) (mvP hZ (hw _ (ix 147 rfl))) (mvT hZ (hw _ (ix 146 rfl))) (by decide)) (Cond.privateMethod_at (mvP hZ (hw _ (ix 147 rfl)) (args := #[]))) (mvT hZ (hw _ (ix 148 rfl))) (by decide) (backOf (W := 0) (rm14 l Z aa hw [] a0 x1 q1 sd wB h0 n0 O0 E_a0 F_a0_side S_wB) hZ (hw _ (ix 148 rfl)) (hw _ (ix 5 rfl)) (by decide) (by decide)) (g := (mkF m 83 #[(sR a0), (sJ q1), .second, (sI (2 : Int32)), (sI (1 : Int32)), (sI (1 : Int32)), (sI (0 : Int32))] [(.long q1), (.long x1), (.ref a0)])) rfl (sz hml) (Steps.refl _) (a := a0) (by rw [e14]; exact q16) r16 (argsL := [(.long x1), (.long q1)]) (rest := []) (lenOf pd_oJJcZ rfl) rfl le0 (hb hby d16_3_83) (fun _ _ => ⟨rfl, e14, (by decide : 0 + 0 ≤ _), (by decide : 0 + 0 ≤ _)⟩)
   dsimp only [Pt.U, Pt.locs, Pt.cells, Pt.slots] at X16 l16 y16 z16 st16 hQ16
   subst l16 y16 z16
   obtain ⟨rfl, rfl, e16⟩ := hQ16
   try rw [List.append_nil] at X16
   refine gu (T16.setTop (mkF m 86 #[(sR a0), (sJ q1), .second, (sI (2 : Int32)), (sI (1 : Int32)), (sI (1 : Int32)), (sI (0 : Int32))] [(.int (f14 x1 q1 sd wB))])) (fun t kt => st16.trans kt) ?_
   by_cases c86_17 : (f14 x1 q1 sd wB) = (0 : Int32)
   ·refine gu (T16.setTop (mkF m 107 #[(sR a0), (sJ q1), .second, (sI (1 : Int32)), (sI (1 : Int32)), (sI (1 : Int32)), (sI (0 : Int32))] [(.ref a0), (.int (1 : Int32))])) (fun t kt => ?_) ?_
    ·refine XS.ifYes X16.here hx rfl (pc0 := 86) (pc' := 98) rfl (hb hby d16_3_86) rfl ((if0 _ _).trans (teq c86_17).1) (by decide) (by decide) ?_
     show Steps _ _ _ (T16.setTop (mkF m 98 #[(sR a0), (sJ q1), .second, (sI (2 : Int32)), (sI (1 : Int32)), (sI (1 : Int32)), (sI (0 : Int32))] [])) _
     refine XS.iload X16.here hx rfl (hb hby d16_3_98) rfl ?_
     show Steps _ _ _ (T16.setTop (mkF m 100 #[(sR a0), (sJ q1), .second, (sI (2 : Int32)), (sI (1 : Int32)), (sI (1 : Int32)), (sI (0 : Int32))] [(.int (1 : Int32))])) _
     refine XS.istoreN X16.here hx rfl (hb hby d16_3_100) rfl (l' := #[(sR a0), (sJ q1), .second, (sI (1 : Int32)), (sI (1 : Int32)), (sI (1 : Int32)), (sI (0 : Int32))]) rfl ?_
     show Steps _ _ _ (T16.setTop (mkF m 101 #[(sR a0), (sJ q1), .second, (sI (1 : Int32)), (sI (1 : Int32)), (sI (1 : Int32)), (sI (0 : Int32))] [])) _
     refine XS.goto X16.here hx rfl (pc0 := 101) (pc' := 60) rfl (hb hby d16_3_101) (by decide) (by decide) ?_
     show Steps _ _ _ (T16.setTop (mkF m 60 #[(sR a0), (sJ q1), .second, (sI (1 : Int32)), (sI (1 : Int32)), (sI (1 : Int32)), (sI (0 : Int32))] [])) _
     refine XS.iload X16.here hx rfl (hb hby d16_3_60) rfl ?_
     show Steps _ _ _ (T16.setTop (mkF m 62 #[(sR a0), (sJ q1), .second, (sI (1 : Int32)), (sI (1 : Int32)), (sI (1 : Int32)), (sI (0 : Int32))] [(.int (1 : Int32))])) _
     refine XS.iloadN X16.here hx rfl (hb hby d16_3_62) rfl ?_
     show Steps _ _ _ (T16.setTop (mkF m 63 #[(sR a0), (sJ q1), .second, (sI (1 : Int32)), (sI (1 : Int32)), (sI (1 : Int32)), (sI (0 : Int32))] [(.int (1 : Int32)), (.int (1 : Int32))])) _
     refine XS.icmpYes X16.here hx rfl (pc0 := 63) (pc' := 104) rfl (hb hby d16_3_63) rfl (flt (by decide : ¬ ((1 : Int32) < (1 : Int32)))).2.1 (by decide) (by decide) ?_
     show Steps _ _ _ (T16.setTop (mkF m 104 #[(sR a0), (sJ q1), .second, (sI (1 : Int32)), (sI (1 : Int32)), (sI (1 : Int32)), (sI (0 : Int32))] [])) _
     refine XS.iload X16.here hx rfl (hb hby d16_3_104) rfl ?_
     show Steps _ _ _ (T16.setTop (mkF m 106 #[(sR a0), (sJ q1), .second, (sI (1 : Int32)), (sI (1 : Int32)), (sI (1 : Int32)), (sI (0 : Int32))] [(.int (1 : Int32))])) _
     refine XS.aloadN X16.here hx rfl (hb hby d16_3_106) rfl rfl ?_
     exact kt
    obtain ⟨T18, X18, e18, st18⟩ := getF X16 hx hZ hown (host := "") (Or.inl (hw _ (ix 77 rfl))) Via.refl e16 F_a0_count (g := (mkF m 107 #[(sR a0), (sJ q1), .second, (sI (1 : Int32)), (sI (1 : Int32)), (sI (1 : Int32)), (sI (0 : Int32))] [(.ref a0), (.int (1 : Int32))])) rfl rfl (hb hby d16_3_107)
    refine gu (T18.setTop (mkF m 110 #[(sR a0), (sJ q1), .second, (sI (1 : Int32)), (sI (1 : Int32)), (sI (1 : Int32)), (sI (0 : Int32))] [(.int (3 : Int32)), (.int (1 : Int32))])) (fun t kt => st18 _ kt) ?_
    refine gu (T18.setTop (mkF m 114 #[(sR a0), (sJ q1), .second, (sI (1 : Int32)), (sI (1 : Int32)), (sI (1 : Int32)), (sI (0 : Int32))] [(.ref a0)])) (fun t kt => ?_) ?_
    ·refine XS.icmpNo X18.here hx rfl (hb hby d16_3_110) rfl (tlt (by decide : (1 : Int32) < (3 : Int32))).2.1 ?_
     show Steps _ _ _ (T18.setTop (mkF m 113 #[(sR a0), (sJ q1), .second, (sI (1 : Int32)), (sI (1 : Int32)), (sI (1 : Int32)), (sI (0 : Int32))] [])) _
     refine XS.aloadN X18.here hx rfl (hb hby d16_3_113) rfl rfl ?_
     exact kt
    obtain ⟨T19, X19, e19, st19⟩ := getF X18 hx hZ hown (host := "") (Or.inl (hw _ (ix 17 rfl))) Via.refl e18 F_a0_prices (g := (mkF m 114 #[(sR a0), (sJ q1), .second, (sI (1 : Int32)), (sI (1 : Int32)), (sI (1 : Int32)), (sI (0 : Int32))] [(.ref a0)])) rfl rfl (hb hby d16_3_114)
    refine gu (T19.setTop (mkF m 117 #[(sR a0), (sJ q1), .second, (sI (1 : Int32)), (sI (1 : Int32)), (sI (1 : Int32)), (sI (0 : Int32))] [(.ref pa)])) (fun t kt => st19 _ kt) ?_
    obtain ⟨ca20, Ar20, q20, S20, M20, H20, U20⟩ := id V_pa
    refine gu (T19.setTop (mkF m 119 #[(sR a0), (sJ q1), .second, (sI (1 : Int32)), (sI (1 : Int32)), (sI (1 : Int32)), (sI (0 : Int32))] [(.int (1 : Int32)), (.ref pa)])) (fun t kt => ?_) ?_
    ·refine XS.iload X19.here hx rfl (hb hby d16_3_117) rfl ?_
     exact kt
    refine gu (T19.setTop (mkF m 122 #[(sR a0), (sJ q1), .second, (sI (1 : Int32)), (sI (1 : Int32)), (sI (1 : Int32)), (sI (0 : Int32))] [(.int (lcmpW x1 q1))])) (fun t kt => ?_) ?_
    ·refine X19.laload hx (j := (1 : Int32)) (v := (.long x1)) (by rw [e19]; exact Ar20.1) (State.isArrayOf_alike hZ.alike Ar20.2.1) Ar20.2.2 (inb_of S20 ⟨by decide, by decide⟩) (Has.at H20 (inb_of S20 ⟨by decide, by decide⟩) rfl) (g := (mkF m 119 #[(sR a0), (sJ q1), .second, (sI (1 : Int32)), (sI (1 : Int32)), (sI (1 : Int32)), (sI (0 : Int32))] [(.int (1 : Int32)), (.ref pa)])) rfl rfl (hb hby d16_3_119) _ ?_
     show Steps _ _ _ (T19.setTop (mkF m 120 #[(sR a0), (sJ q1), .second, (sI (1 : Int32)), (sI (1 : Int32)), (sI (1 : Int32)), (sI (0 : Int32))] [(.long x1)])) _
     refine XS.lloadN X19.here hx rfl (hb hby d16_3_120) rfl ?_
     show Steps _ _ _ (T19.setTop (mkF m 121 #[(sR a0), (sJ q1), .second, (sI (1 : Int32)), (sI (1 : Int32)), (sI (1 : Int32)), (sI (0 : Int32))] [(.long q1), (.long x1)])) _
     refine XS.lcmp X19.here hx rfl (hb hby d16_3_121) rfl ?_
     exact kt
    by_cases c122_21 : x1 = q1
    ·refine gu (T19.setTop (mkF m 135 #[(sR a0), (sJ q1), .second, (sI (1 : Int32)), (sI (1 : Int32)), (sI (1 : Int32)), (sI (0 : Int32))] [(.int (1 : Int32))])) (fun t kt => ?_) ?_
     ·refine XS.ifNo X19.here hx rfl (hb hby d16_3_122) rfl (jc_ne_f c122_21) ?_
      show Steps _ _ _ (T19.setTop (mkF m 125 #[(sR a0), (sJ q1), .second, (sI (1 : Int32)), (sI (1 : Int32)), (sI (1 : Int32)), (sI (0 : Int32))] [])) _
      refine XS.iload X19.here hx rfl (hb hby d16_3_125) rfl ?_
      show Steps _ _ _ (T19.setTop (mkF m 127 #[(sR a0), (sJ q1), .second, (sI (1 : Int32)), (sI (1 : Int32)), (sI (1 : Int32)), (sI (0 : Int32))] [(.int (1 : Int32))])) _
      refine XS.goto X19.here hx rfl (pc0 := 127) (pc' := 135) rfl (hb hby d16_3_127) (by decide) (by decide) ?_
      exact kt
     refine Gl.retI X19 hx hlk Bd.returns (hb hby d16_3_135) ?_ (by decide) (by decide)
     exact ⟨congrArg (fun z => some (Value.int z)) (show (1 : Int32) = f16_3 q1 sd x0 x1 x2 wB from ((((if_pos c36_5).trans (if_neg c36_9)).trans (if_pos c86_17)).trans (if_pos c122_21)).symm), rfl, e19⟩
    ·refine gu (T19.setTop (mkF m 135 #[(sR a0), (sJ q1), .second, (sI (1 : Int32)), (sI (1 : Int32)), (sI (1 : Int32)), (sI (0 : Int32))] [(.int (-2 : Int32))])) (fun t kt => ?_) ?_
     ·refine XS.ifYes X19.here hx rfl (pc0 := 122) (pc' := 130) rfl (hb hby d16_3_122) rfl (jc_ne_t c122_21) (by decide) (by decide) ?_
      show Steps _ _ _ (T19.setTop (mkF m 130 #[(sR a0), (sJ q1), .second, (sI (1 : Int32)), (sI (1 : Int32)), (sI (1 : Int32)), (sI (0 : Int32))] [])) _
      refine XS.iload X19.here hx rfl (hb hby d16_3_130) rfl ?_
      show Steps _ _ _ (T19.setTop (mkF m 132 #[(sR a0), (sJ q1), .second, (sI (1 : Int32)), (sI (1 : Int32)), (sI (1 : Int32)), (sI (0 : Int32))] [(.int (1 : Int32))])) _
      refine XS.ineg X19.here hx rfl (hb hby d16_3_132) rfl ?_
      show Steps _ _ _ (T19.setTop (mkF m 133 #[(sR a0), (sJ q1), .second, (sI (1 : Int32)), (sI (1 : Int32)), (sI (1 : Int32)), (sI (0 : Int32))] [(.int (-1 : Int32))])) _
      refine XS.iconst X19.here hx rfl (hb hby d16_3_133) ?_
      show Steps _ _ _ (T19.setTop (mkF m 134 #[(sR a0), (sJ q1), .second, (sI (1 : Int32)), (sI (1 : Int32)), (sI (1 : Int32)), (sI (0 : Int32))] [(.int (1 : Int32)), (.int (-1 : Int32))])) _
      refine XS.isub X19.here hx rfl (hb hby d16_3_134) rfl ?_
      exact kt
     refine Gl.retI X19 hx hlk Bd.returns (hb hby d16_3_135) ?_ (by decide) (by decide)
     exact ⟨congrArg (fun z => some (Value.int z)) (show (-2 : Int32) = f16_3 q1 sd x0 x1 x2 wB from ((((if_pos c36_5).trans (if_neg c36_9)).trans (if_pos c86_17)).trans (if_neg c122_21)).symm), rfl, e19⟩
   ·refine gu (T16.setTop (mkF m 107 #[(sR a0), (sJ q1), .second, (sI (2 : Int32)), (sI (2 : Int32)), (sI (1 : Int32)), (sI (0 : Int32))] [(.ref a0), (.int (2 : Int32))])) (fun t kt => ?_) ?_
    ·refine XS.ifNo X16.here hx rfl (hb hby d16_3_86) rfl ((if0 _ _).trans (feq c86_17).1) ?_
     show Steps _ _ _ (T16.setTop (mkF m 89 #[(sR a0), (sJ q1), .second, (sI (2 : Int32)), (sI (1 : Int32)), (sI (1 : Int32)), (sI (0 : Int32))] [])) _
     refine XS.iload X16.here hx rfl (hb hby d16_3_89) rfl ?_
     show Steps _ _ _ (T16.setTop (mkF m 91 #[(sR a0), (sJ q1), .second, (sI (2 : Int32)), (sI (1 : Int32)), (sI (1 : Int32)), (sI (0 : Int32))] [(.int (1 : Int32))])) _
     refine XS.iconst X16.here hx rfl (hb hby d16_3_91) ?_
     show Steps _ _ _ (T16.setTop (mkF m 92 #[(sR a0), (sJ q1), .second, (sI (2 : Int32)), (sI (1 : Int32)), (sI (1 : Int32)), (sI (0 : Int32))] [(.int (1 : Int32)), (.int (1 : Int32))])) _
     refine XS.iadd X16.here hx rfl (hb hby d16_3_92) rfl ?_
     show Steps _ _ _ (T16.setTop (mkF m 93 #[(sR a0), (sJ q1), .second, (sI (2 : Int32)), (sI (1 : Int32)), (sI (1 : Int32)), (sI (0 : Int32))] [(.int (2 : Int32))])) _
     refine XS.istore X16.here hx rfl (hb hby d16_3_93) rfl (l' := #[(sR a0), (sJ q1), .second, (sI (2 : Int32)), (sI (2 : Int32)), (sI (1 : Int32)), (sI (0 : Int32))]) rfl ?_
     show Steps _ _ _ (T16.setTop (mkF m 95 #[(sR a0), (sJ q1), .second, (sI (2 : Int32)), (sI (2 : Int32)), (sI (1 : Int32)), (sI (0 : Int32))] [])) _
     refine XS.goto X16.here hx rfl (pc0 := 95) (pc' := 101) rfl (hb hby d16_3_95) (by decide) (by decide) ?_
     show Steps _ _ _ (T16.setTop (mkF m 101 #[(sR a0), (sJ q1), .second, (sI (2 : Int32)), (sI (2 : Int32)), (sI (1 : Int32)), (sI (0 : Int32))] [])) _
     refine XS.goto X16.here hx rfl (pc0 := 101) (pc' := 60) rfl (hb hby d16_3_101) (by decide) (by decide) ?_
     show Steps _ _ _ (T16.setTop (mkF m 60 #[(sR a0), (sJ q1), .second, (sI (2 : Int32)), (sI (2 : Int32)), (sI (1 : Int32)), (sI (0 : Int32))] [])) _
     refine XS.iload X16.here hx rfl (hb hby d16_3_60) rfl ?_
     show Steps _ _ _ (T16.setTop (mkF m 62 #[(sR a0), (sJ q1), .second, (sI (2 : Int32)), (sI (2 : Int32)), (sI (1 : Int32)), (sI (0 : Int32))] [(.int (2 : Int32))])) _
     refine XS.iloadN X16.here hx rfl (hb hby d16_3_62) rfl ?_
     show Steps _ _ _ (T16.setTop (mkF m 63 #[(sR a0), (sJ q1), .second, (sI (2 : Int32)), (sI (2 : Int32)), (sI (1 : Int32)), (sI (0 : Int32))] [(.int (2 : Int32)), (.int (2 : Int32))])) _
     refine XS.icmpYes X16.here hx rfl (pc0 := 63) (pc' := 104) rfl (hb hby d16_3_63) rfl (flt (by decide : ¬ ((2 : Int32) < (2 : Int32)))).2.1 (by decide) (by decide) ?_
     show Steps _ _ _ (T16.setTop (mkF m 104 #[(sR a0), (sJ q1), .second, (sI (2 : Int32)), (sI (2 : Int32)), (sI (1 : Int32)), (sI (0 : Int32))] [])) _
     refine XS.iload X16.here hx rfl (hb hby d16_3_104) rfl ?_
     show Steps _ _ _ (T16.setTop (mkF m 106 #[(sR a0), (sJ q1), .second, (sI (2 : Int32)), (sI (2 : Int32)), (sI (1 : Int32)), (sI (0 : Int32))] [(.int (2 : Int32))])) _
     refine XS.aloadN X16.here hx rfl (hb hby d16_3_106) rfl rfl ?_
     exact kt
    obtain ⟨T22, X22, e22, st22⟩ := getF X16 hx hZ hown (host := "") (Or.inl (hw _ (ix 77 rfl))) Via.refl e16 F_a0_count (g := (mkF m 107 #[(sR a0), (sJ q1), .second, (sI (2 : Int32)), (sI (2 : Int32)), (sI (1 : Int32)), (sI (0 : Int32))] [(.ref a0), (.int (2 : Int32))])) rfl rfl (hb hby d16_3_107)
    refine gu (T22.setTop (mkF m 110 #[(sR a0), (sJ q1), .second, (sI (2 : Int32)), (sI (2 : Int32)), (sI (1 : Int32)), (sI (0 : Int32))] [(.int (3 : Int32)), (.int (2 : Int32))])) (fun t kt => st22 _ kt) ?_
    refine gu (T22.setTop (mkF m 114 #[(sR a0), (sJ q1), .second, (sI (2 : Int32)), (sI (2 : Int32)), (sI (1 : Int32)), (sI (0 : Int32))] [(.ref a0)])) (fun t kt => ?_) ?_
    ·refine XS.icmpNo X22.here hx rfl (hb hby d16_3_110) rfl (tlt (by decide : (2 : Int32) < (3 : Int32))).2.1 ?_
     show Steps _ _ _ (T22.setTop (mkF m 113 #[(sR a0), (sJ q1), .second, (sI (2 : Int32)), (sI (2 : Int32)), (sI (1 : Int32)), (sI (0 : Int32))] [])) _
     refine XS.aloadN X22.here hx rfl (hb hby d16_3_113) rfl rfl ?_
     exact kt
    obtain ⟨T23, X23, e23, st23⟩ := getF X22 hx hZ hown (host := "") (Or.inl (hw _ (ix 17 rfl))) Via.refl e22 F_a0_prices (g := (mkF m 114 #[(sR a0), (sJ q1), .second, (sI (2 : Int32)), (sI (2 : Int32)), (sI (1 : Int32)), (sI (0 : Int32))] [(.ref a0)])) rfl rfl (hb hby d16_3_114)
    refine gu (T23.setTop (mkF m 117 #[(sR a0), (sJ q1), .second, (sI (2 : Int32)), (sI (2 : Int32)), (sI (1 : Int32)), (sI (0 : Int32))] [(.ref pa)])) (fun t kt => st23 _ kt) ?_
    obtain ⟨ca24, Ar24, q24, S24, M24, H24, U24⟩ := id V_pa
    refine gu (T23.setTop (mkF m 119 #[(sR a0), (sJ q1), .second, (sI (2 : Int32)), (sI (2 : Int32)), (sI (1 : Int32)), (sI (0 : Int32))] [(.int (2 : Int32)), (.ref pa)])) (fun t kt => ?_) ?_
    ·refine XS.iload X23.here hx rfl (hb hby d16_3_117) rfl ?_
     exact kt
    refine gu (T23.setTop (mkF m 122 #[(sR a0), (sJ q1), .second, (sI (2 : Int32)), (sI (2 : Int32)), (sI (1 : Int32)), (sI (0 : Int32))] [(.int (lcmpW x2 q1))])) (fun t kt => ?_) ?_
    ·refine X23.laload hx (j := (2 : Int32)) (v := (.long x2)) (by rw [e23]; exact Ar24.1) (State.isArrayOf_alike hZ.alike Ar24.2.1) Ar24.2.2 (inb_of S24 ⟨by decide, by decide⟩) (Has.at H24 (inb_of S24 ⟨by decide, by decide⟩) rfl) (g := (mkF m 119 #[(sR a0), (sJ q1), .second, (sI (2 : Int32)), (sI (2 : Int32)), (sI (1 : Int32)), (sI (0 : Int32))] [(.int (2 : Int32)), (.ref pa)])) rfl rfl (hb hby d16_3_119) _ ?_
     show Steps _ _ _ (T23.setTop (mkF m 120 #[(sR a0), (sJ q1), .second, (sI (2 : Int32)), (sI (2 : Int32)), (sI (1 : Int32)), (sI (0 : Int32))] [(.long x2)])) _
     refine XS.lloadN X23.here hx rfl (hb hby d16_3_120) rfl ?_
     show Steps _ _ _ (T23.setTop (mkF m 121 #[(sR a0), (sJ q1), .second, (sI (2 : Int32)), (sI (2 : Int32)), (sI (1 : Int32)), (sI (0 : Int32))] [(.long q1), (.long x2)])) _
     refine XS.lcmp X23.here hx rfl (hb hby d16_3_121) rfl ?_
     exact kt
    by_cases c122_25 : x2 = q1
    ·refine gu (T23.setTop (mkF m 135 #[(sR a0), (sJ q1), .second, (sI (2 : Int32)), (sI (2 : Int32)), (sI (1 : Int32)), (sI (0 : Int32))] [(.int (2 : Int32))])) (fun t kt => ?_) ?_
     ·refine XS.ifNo X23.here hx rfl (hb hby d16_3_122) rfl (jc_ne_f c122_25) ?_
      show Steps _ _ _ (T23.setTop (mkF m 125 #[(sR a0), (sJ q1), .second, (sI (2 : Int32)), (sI (2 : Int32)), (sI (1 : Int32)), (sI (0 : Int32))] [])) _
      refine XS.iload X23.here hx rfl (hb hby d16_3_125) rfl ?_
      show Steps _ _ _ (T23.setTop (mkF m 127 #[(sR a0), (sJ q1), .second, (sI (2 : Int32)), (sI (2 : Int32)), (sI (1 : Int32)), (sI (0 : Int32))] [(.int (2 : Int32))])) _
      refine XS.goto X23.here hx rfl (pc0 := 127) (pc' := 135) rfl (hb hby d16_3_127) (by decide) (by decide) ?_
      exact kt
     refine Gl.retI X23 hx hlk Bd.returns (hb hby d16_3_135) ?_ (by decide) (by decide)
     exact ⟨congrArg (fun z => some (Value.int z)) (show (2 : Int32) = f16_3 q1 sd x0 x1 x2 wB from ((((if_pos c36_5).trans (if_neg c36_9)).trans (if_neg c86_17)).trans (if_pos c122_25)).symm), rfl, e23⟩
    ·refine gu (T23.setTop (mkF m 135 #[(sR a0), (sJ q1), .second, (sI (2 : Int32)), (sI (2 : Int32)), (sI (1 : Int32)), (sI (0 : Int32))] [(.int (-3 : Int32))])) (fun t kt => ?_) ?_
     ·refine XS.ifYes X23.here hx rfl (pc0 := 122) (pc' := 130) rfl (hb hby d16_3_122) rfl (jc_ne_t c122_25) (by decide) (by decide) ?_
      show Steps _ _ _ (T23.setTop (mkF m 130 #[(sR a0), (sJ q1), .second, (sI (2 : Int32)), (sI (2 : Int32)), (sI (1 : Int32)), (sI (0 : Int32))] [])) _
      refine XS.iload X23.here hx rfl (hb hby d16_3_130) rfl ?_
      show Steps _ _ _ (T23.setTop (mkF m 132 #[(sR a0), (sJ q1), .second, (sI (2 : Int32)), (sI (2 : Int32)), (sI (1 : Int32)), (sI (0 : Int32))] [(.int (2 : Int32))])) _
      refine XS.ineg X23.here hx rfl (hb hby d16_3_132) rfl ?_
      show Steps _ _ _ (T23.setTop (mkF m 133 #[(sR a0), (sJ q1), .second, (sI (2 : Int32)), (sI (2 : Int32)), (sI (1 : Int32)), (sI (0 : Int32))] [(.int (-2 : Int32))])) _
      refine XS.iconst X23.here hx rfl (hb hby d16_3_133) ?_
      show Steps _ _ _ (T23.setTop (mkF m 134 #[(sR a0), (sJ q1), .second, (sI (2 : Int32)), (sI (2 : Int32)), (sI (1 : Int32)), (sI (0 : Int32))] [(.int (1 : Int32)), (.int (-2 : Int32))])) _
      refine XS.isub X23.here hx rfl (hb hby d16_3_134) rfl ?_
      exact kt
     refine Gl.retI X23 hx hlk Bd.returns (hb hby d16_3_135) ?_ (by decide) (by decide)
     exact ⟨congrArg (fun z => some (Value.int z)) (show (-3 : Int32) = f16_3 q1 sd x0 x1 x2 wB from ((((if_pos c36_5).trans (if_neg c36_9)).trans (if_neg c86_17)).trans (if_neg c122_25)).symm), rfl, e23⟩
 ·refine gu (T4.setTop (mkF m 107 #[(sR a0), (sJ q1), .second, (sI (3 : Int32)), (sI (3 : Int32)), (sI (1 : Int32)), (sI (2 : Int32))] [(.ref a0), (.int (3 : Int32))])) (fun t kt => ?_) ?_
  ·refine XS.ifNo X4.here hx rfl (hb hby d16_3_36) rfl ((if0 _ _).trans (feq c36_5).1) ?_
   show Steps _ _ _ (T4.setTop (mkF m 39 #[(sR a0), (sJ q1), .second, (sI (3 : Int32)), (sI (0 : Int32)), (sI (1 : Int32)), (sI (2 : Int32))] [])) _
   refine XS.iload X4.here hx rfl (hb hby d16_3_39) rfl ?_
   show Steps _ _ _ (T4.setTop (mkF m 41 #[(sR a0), (sJ q1), .second, (sI (3 : Int32)), (sI (0 : Int32)), (sI (1 : Int32)), (sI (2 : Int32))] [(.int (2 : Int32))])) _
   refine XS.iconst X4.here hx rfl (hb hby d16_3_41) ?_
   show Steps _ _ _ (T4.setTop (mkF m 42 #[(sR a0), (sJ q1), .second, (sI (3 : Int32)), (sI (0 : Int32)), (sI (1 : Int32)), (sI (2 : Int32))] [(.int (1 : Int32)), (.int (2 : Int32))])) _
   refine XS.iadd X4.here hx rfl (hb hby d16_3_42) rfl ?_
   show Steps _ _ _ (T4.setTop (mkF m 43 #[(sR a0), (sJ q1), .second, (sI (3 : Int32)), (sI (0 : Int32)), (sI (1 : Int32)), (sI (2 : Int32))] [(.int (3 : Int32))])) _
   refine XS.istore X4.here hx rfl (hb hby d16_3_43) rfl (l' := #[(sR a0), (sJ q1), .second, (sI (3 : Int32)), (sI (3 : Int32)), (sI (1 : Int32)), (sI (2 : Int32))]) rfl ?_
   show Steps _ _ _ (T4.setTop (mkF m 45 #[(sR a0), (sJ q1), .second, (sI (3 : Int32)), (sI (3 : Int32)), (sI (1 : Int32)), (sI (2 : Int32))] [])) _
   refine XS.goto X4.here hx rfl (pc0 := 45) (pc' := 60) rfl (hb hby d16_3_45) (by decide) (by decide) ?_
   show Steps _ _ _ (T4.setTop (mkF m 60 #[(sR a0), (sJ q1), .second, (sI (3 : Int32)), (sI (3 : Int32)), (sI (1 : Int32)), (sI (2 : Int32))] [])) _
   refine XS.iload X4.here hx rfl (hb hby d16_3_60) rfl ?_
   show Steps _ _ _ (T4.setTop (mkF m 62 #[(sR a0), (sJ q1), .second, (sI (3 : Int32)), (sI (3 : Int32)), (sI (1 : Int32)), (sI (2 : Int32))] [(.int (3 : Int32))])) _
   refine XS.iloadN X4.here hx rfl (hb hby d16_3_62) rfl ?_
   show Steps _ _ _ (T4.setTop (mkF m 63 #[(sR a0), (sJ q1), .second, (sI (3 : Int32)), (sI (3 : Int32)), (sI (1 : Int32)), (sI (2 : Int32))] [(.int (3 : Int32)), (.int (3 : Int32))])) _
   refine XS.icmpYes X4.here hx rfl (pc0 := 63) (pc' := 104) rfl (hb hby d16_3_63) rfl (flt (by decide : ¬ ((3 : Int32) < (3 : Int32)))).2.1 (by decide) (by decide) ?_
   show Steps _ _ _ (T4.setTop (mkF m 104 #[(sR a0), (sJ q1), .second, (sI (3 : Int32)), (sI (3 : Int32)), (sI (1 : Int32)), (sI (2 : Int32))] [])) _
   refine XS.iload X4.here hx rfl (hb hby d16_3_104) rfl ?_
   show Steps _ _ _ (T4.setTop (mkF m 106 #[(sR a0), (sJ q1), .second, (sI (3 : Int32)), (sI (3 : Int32)), (sI (1 : Int32)), (sI (2 : Int32))] [(.int (3 : Int32))])) _
   refine XS.aloadN X4.here hx rfl (hb hby d16_3_106) rfl rfl ?_
   exact kt
  obtain ⟨T26, X26, e26, st26⟩ := getF X4 hx hZ hown (host := "") (Or.inl (hw _ (ix 77 rfl))) Via.refl e4 F_a0_count (g := (mkF m 107 #[(sR a0), (sJ q1), .second, (sI (3 : Int32)), (sI (3 : Int32)), (sI (1 : Int32)), (sI (2 : Int32))] [(.ref a0), (.int (3 : Int32))])) rfl rfl (hb hby d16_3_107)
  refine gu (T26.setTop (mkF m 110 #[(sR a0), (sJ q1), .second, (sI (3 : Int32)), (sI (3 : Int32)), (sI (1 : Int32)), (sI (2 : Int32))] [(.int (3 : Int32)), (.int (3 : Int32))])) (fun t kt => st26 _ kt) ?_
  refine gu (T26.setTop (mkF m 135 #[(sR a0), (sJ q1), .second, (sI (3 : Int32)), (sI (3 : Int32)), (sI (1 : Int32)), (sI (2 : Int32))] [(.int (-4 : Int32))])) (fun t kt => ?_) ?_
  ·refine XS.icmpYes X26.here hx rfl (pc0 := 110) (pc' := 130) rfl (hb hby d16_3_110) rfl (flt (by decide : ¬ ((3 : Int32) < (3 : Int32)))).2.1 (by decide) (by decide) ?_
   show Steps _ _ _ (T26.setTop (mkF m 130 #[(sR a0), (sJ q1), .second, (sI (3 : Int32)), (sI (3 : Int32)), (sI (1 : Int32)), (sI (2 : Int32))] [])) _
   refine XS.iload X26.here hx rfl (hb hby d16_3_130) rfl ?_
   show Steps _ _ _ (T26.setTop (mkF m 132 #[(sR a0), (sJ q1), .second, (sI (3 : Int32)), (sI (3 : Int32)), (sI (1 : Int32)), (sI (2 : Int32))] [(.int (3 : Int32))])) _
   refine XS.ineg X26.here hx rfl (hb hby d16_3_132) rfl ?_
   show Steps _ _ _ (T26.setTop (mkF m 133 #[(sR a0), (sJ q1), .second, (sI (3 : Int32)), (sI (3 : Int32)), (sI (1 : Int32)), (sI (2 : Int32))] [(.int (-3 : Int32))])) _
   refine XS.iconst X26.here hx rfl (hb hby d16_3_133) ?_
   show Steps _ _ _ (T26.setTop (mkF m 134 #[(sR a0), (sJ q1), .second, (sI (3 : Int32)), (sI (3 : Int32)), (sI (1 : Int32)), (sI (2 : Int32))] [(.int (1 : Int32)), (.int (-3 : Int32))])) _
   refine XS.isub X26.here hx rfl (hb hby d16_3_134) rfl ?_
   exact kt
  refine Gl.retI X26 hx hlk Bd.returns (hb hby d16_3_135) ?_ (by decide) (by decide)
  exact ⟨congrArg (fun z => some (Value.int z)) (show (-4 : Int32) = f16_3 q1 sd x0 x1 x2 wB from (if_neg c36_5).symm), rfl, e26⟩
def Lv (Z : State) (h : Heap) (q : Addr × Int64) : Prop := Exa Z h q.1 "com/example/openvenue/openvenue/core/PriceLevel" ∧ Fld Z h q.1 "com/example/openvenue/openvenue/core/PriceLevel" "price" "J" (.long q.2)
def Bk (Z : State) (n0 : Nat) (h : Heap) (b la pa tm sd wB : Addr) (kl kp : ClassId) (bl : List (Addr × Int64)) : Prop :=
 Exa Z h b "com/example/openvenue/openvenue/core/BookSide" ∧ Fld Z h b "com/example/openvenue/openvenue/core/BookSide" "levels" "[Lcom/example/openvenue/openvenue/core/PriceLevel;" (.ref la) ∧ Fld Z h b "com/example/openvenue/openvenue/core/BookSide" "prices" "[J" (.ref pa) ∧ Fld Z h b "com/example/openvenue/openvenue/core/BookSide" "side" "Lcom/example/openvenue/openvenue/core/Side;" (.ref sd) ∧ Fld Z h b "com/example/openvenue/openvenue/core/BookSide" "deeper" "Ljava/util/NavigableMap;" (.ref tm) ∧ Fld Z h b "com/example/openvenue/openvenue/core/BookSide" "count" "I" (.int (Int32.ofNat bl.length)) ∧
 Exa Z h tm "java/util/TreeMap" ∧ Fld Z h tm "java/util/TreeMap" "size" "I" (.int (0 : Int32)) ∧ Arv Z h la kl oPL (256 : Int32) (bl.map fun q => Value.ref q.1) .null ∧ Arv Z h pa kp .long (256 : Int32) (bl.map fun q => Value.long q.2) (.long (0 : Int64)) ∧
 Ovr Z kl "com/example/openvenue/openvenue/core/PriceLevel" ∧ n0 ≤ b ∧ n0 ≤ la ∧ n0 ≤ pa ∧ (∀ q ∈ bl, Lv Z h q) ∧ Srt sd wB (bl.map Prod.snd)
def Bp (Z : State) (h : Heap) (b la sd wB : Addr) (kl : ClassId) (bl : List (Addr × Int64)) : Prop :=
 Exa Z h b "com/example/openvenue/openvenue/core/BookSide" ∧ Fld Z h b "com/example/openvenue/openvenue/core/BookSide" "levels" "[Lcom/example/openvenue/openvenue/core/PriceLevel;" (.ref la) ∧ Fld Z h b "com/example/openvenue/openvenue/core/BookSide" "count" "I" (.int (Int32.ofNat bl.length)) ∧ Arv Z h la kl oPL (256 : Int32) (bl.map fun q => Value.ref q.1) .null ∧ (∀ q ∈ bl, Lv Z h q) ∧ Srt sd wB (bl.map Prod.snd)
theorem Bk.bp {Z : State} {n0 : Nat} {h : Heap} {b la pa tm sd wB : Addr} {kl kp : ClassId} {bl : List (Addr × Int64)} (B : Bk Z n0 h b la pa tm sd wB kl kp bl) : Bp Z h b la sd wB kl bl := by
 obtain ⟨h1, h2, -, -, -, h3, -, -, h4, -, -, -, -, -, h5, h6⟩ := B
 exact ⟨h1, h2, h3, h4, h5, h6⟩
theorem Bk.gs {Z : State} {n0 : Nat} {h : Heap} {b la pa tm sd wB : Addr} {kl kp : ClassId} {bl : List (Addr × Int64)} (B : Bk Z n0 h b la pa tm sd wB kl kp bl) : ∀ x ∈ [b, la, pa], n0 ≤ x := by
 obtain ⟨-, -, -, -, -, -, -, -, -, -, -, g1, g2, g3, -, -⟩ := B
 exact allS g1 (allS g2 (allS g3 all0))
theorem own_iw {sd wB : Addr} {x y : Int64} : f14 x y sd wB = 0 ↔ ¬ ky sd wB x < ky sd wB y := by
 unfold f14 ky
 by_cases h : sd = wB
 ·simp only [if_pos h, Int64.lt_iff_toInt_lt]; split <;> simp_all
 ·simp only [if_neg h, Int64.lt_iff_toInt_lt]; split <;> simp_all <;> omega
theorem own_bt {sd wB : Addr} {x y : Int64} : f15 sd x y wB = 0 ↔ ¬ ky sd wB y < ky sd wB x := by
 unfold f15 ky
 by_cases h : sd = wB
 ·simp only [if_pos h, Int64.lt_iff_toInt_lt]; split <;> simp_all
 ·simp only [if_neg h, Int64.lt_iff_toInt_lt]; split <;> simp_all <;> omega

def Q17 (Z : State) (b la pa tm sd wB : Addr) (kl kp : ClassId) (bl : List (Addr × Int64)) (i : Nat) (px : Int64) (h0 : Heap) (n0 : Nat) (v : Option Value) (h : Heap) (L : List Loc) : Prop := ∃ y, v = some (.ref y) ∧ Fr n0 L ∧ Keep h0 h [b, la, pa] ∧ Bk Z n0 h b la pa tm sd wB kl kp (bl.take i ++ (y, px) :: bl.drop i)
theorem ef17 (m : MethodId) (b : Addr) (i : Nat) (px : Int64) : entryFrame m #[(.ref b), (.int (Int32.ofNat i)), (.long px)] 5 = mkF m 0 #[(sR b), (sI (Int32.ofNat i)), (sJ px), .second, .unset] [] := by first | (simp [entryFrame, mkF, argsToLocals, Value.category]; done) | rfl
set_option maxRecDepth 65536 in
set_option maxHeartbeats 40000000 in
theorem rm17 (l : Launch) (Z : State) (aa : Array Value) (hw : ∀ d ∈ tables_1, d.before aa Z = true) (ws : List Jvm.Cond) (b la pa tm sd wB : Addr) (kl kp : ClassId) (bl : List (Addr × Int64)) (i : Nat) (px : Int64) (h0 : Heap) (n0 : Nat) (O0 : Old Z n0 h0) (B0 : Bk Z n0 h0 b la pa tm sd wB kl kp bl) (hi : i ≤ bl.length) (hlen : bl.length ≤ 2) (hord : Srt sd wB ((bl.map Prod.snd).take i ++ px :: (bl.map Prod.snd).drop i)) :
  MetFree l mn18 (head1 (Jvm.Cond.code mn18 prog_44_method_7_code 5 (some (.object "com/example/openvenue/openvenue/core/PriceLevel")) :: ws) ({ frames := 3, cells := 2, slots := 8, locals := 42 } : Room)) (fun a U => a = #[(.ref b), (.int (Int32.ofNat i)), (.long px)] ∧ Z.Warmed39 U.vm ∧ U.heap = h0) (fun _ _ _ _ _ => True) (fun _ U o U' => ∃ v L, o = .returned v ∧ Q17 Z b la pa tm sd wB kl kp bl i px h0 n0 v U'.heap L ∧ FrameEnd U o U' L ({ frames := 3, cells := 2, slots := 8, locals := 42 } : Room).cells ({ frames := 3, cells := 2, slots := 8, locals := 42 } : Room).slots) := by
 refine MetFree.of_bodySF (plainFor_of_name pn_com_example_openvenue_openvenue_core_BookSide) hisR ?_
 intro p e s m args below meth c s₁ Bd hml0 hP hK
 obtain ⟨rfl, hZ, hh⟩ := hP
 have hx := Bd.exec
 have hby := Bd.bytes
 have hlk := Bd.notSynchronized
 have hml : c.maxLocals = 5 := hml0
 have hown : s.vm.findClass "com/example/openvenue/openvenue/core/BookSide" = some m.cls := findClass_of_methodNamed Bd.named
 have hnm := (name_of_methodNamed Bd.named Bd.method).1
 have X0 : Stand p l e ({ frames := 3, cells := 2, slots := 8, locals := 42 } : Room) s m #[(.ref b), (.int (Int32.ofNat i)), (.long px)] below meth c s₁ [] 0 0 := Stand.of_body Bd
 have e0 : s₁.heap = h0 := by rw [← hh, Bd.state]; rfl
 have N0 := Fr.nil n0
 show Gl p e below (Ret s 2 8 (Q17 Z b la pa tm sd wB kl kp bl i px h0 n0)) (s₁.setTop (entryFrame m #[(.ref b), (.int (Int32.ofNat i)), (.long px)] 5))
 rw [ef17 m b i px]
 obtain ⟨args, hargs⟩ : ∃ z : Array Value, z = #[(.ref b), (.int (Int32.ofNat i)), (.long px)] := ⟨_, rfl⟩
 rw [← hargs] at X0
 have K0 := Keep.refl h0 [b, la, pa]
 rcases bl with _ | ⟨⟨a0, x0⟩, _ | ⟨⟨a1, x1⟩, _ | ⟨qq, bl⟩⟩⟩
 ·obtain ⟨E_b, Fa, Fb, Fc, Fd, Fe0, E_tm, Fs, V_la0, V_pa0, hov, g_b, g_la, g_pa, hlv, hso⟩ := B0
  have Fe : Fld Z h0 b "com/example/openvenue/openvenue/core/BookSide" "count" "I" (.int (0 : Int32)) := Fe0
  have V_la : Arv Z h0 la kl oPL (256 : Int32) [] .null := V_la0
  have V_pa : Arv Z h0 pa kp .long (256 : Int32) [] (.long (0 : Int64)) := V_pa0
  have ne_b_la : b ≠ la := Exa.neArv E_b V_la (hw _ (ix 4 rfl))
  have ne_b_pa : b ≠ pa := Exa.neArv E_b V_pa (hw _ (ix 4 rfl))
  have ne_tm_la : tm ≠ la := Exa.neArv E_tm V_la (hw _ (ix 46 rfl))
  have ne_tm_pa : tm ≠ pa := Exa.neArv E_tm V_pa (hw _ (ix 46 rfl))
  have ne_la_pa : la ≠ pa := own_arvne V_la V_pa
  have ne_b_tm : b ≠ tm := ne_exa E_b E_tm (by decide)
  rcases i with _ | i
  ·refine gu (s₁.setTop (mkF m 1 #[(sR b), (sI (0 : Int32)), (sJ px), .second, .unset] [(.ref b)])) (fun t kt => ?_) ?_
   ·refine XS.aloadN X0.here hx rfl (hb hby d17_0) rfl rfl ?_
    exact kt
   obtain ⟨T1, X1, e1, st1⟩ := getF X0 hx hZ hown (host := "") (Or.inl (hw _ (ix 14 rfl))) Via.refl e0 Fa (g := (mkF m 1 #[(sR b), (sI (0 : Int32)), (sJ px), .second, .unset] [(.ref b)])) rfl rfl (hb hby d17_1)
   refine gu (T1.setTop (mkF m 4 #[(sR b), (sI (0 : Int32)), (sJ px), .second, .unset] [(.ref la)])) (fun t kt => st1 _ kt) ?_
   refine gu (T1.setTop (mkF m 6 #[(sR b), (sI (0 : Int32)), (sJ px), .second, .unset] [(.ref b), (.int (0 : Int32)), (.ref la)])) (fun t kt => ?_) ?_
   ·refine XS.iloadN X1.here hx rfl (hb hby d17_4) rfl ?_
    show Steps _ _ _ (T1.setTop (mkF m 5 #[(sR b), (sI (0 : Int32)), (sJ px), .second, .unset] [(.int (0 : Int32)), (.ref la)])) _
    refine XS.aloadN X1.here hx rfl (hb hby d17_5) rfl rfl ?_
    exact kt
   obtain ⟨T2, X2, e2, st2⟩ := getF X1 hx hZ hown (host := "") (Or.inl (hw _ (ix 14 rfl))) Via.refl e1 Fa (g := (mkF m 6 #[(sR b), (sI (0 : Int32)), (sJ px), .second, .unset] [(.ref b), (.int (0 : Int32)), (.ref la)])) rfl rfl (hb hby d17_6)
   refine gu (T2.setTop (mkF m 9 #[(sR b), (sI (0 : Int32)), (sJ px), .second, .unset] [(.ref la), (.int (0 : Int32)), (.ref la)])) (fun t kt => st2 _ kt) ?_
   refine gu (T2.setTop (mkF m 13 #[(sR b), (sI (0 : Int32)), (sJ px), .second, .unset] [(.ref b), (.int (1 : Int32)), (.ref la), (.int (0 : Int32)), (.ref la)])) (fun t kt => ?_) ?_
   ·refine XS.iloadN X2.here hx rfl (hb hby d17_9) rfl ?_
    show Steps _ _ _ (T2.setTop (mkF m 10 #[(sR b), (sI (0 : Int32)), (sJ px), .second, .unset] [(.int (0 : Int32)), (.ref la), (.int (0 : Int32)), (.ref la)])) _
    refine XS.iconst X2.here hx rfl (hb hby d17_10) ?_
    show Steps _ _ _ (T2.setTop (mkF m 11 #[(sR b), (sI (0 : Int32)), (sJ px), .second, .unset] [(.int (1 : Int32)), (.int (0 : Int32)), (.ref la), (.int (0 : Int32)), (.ref la)])) _
    refine XS.iadd X2.here hx rfl (hb hby d17_11) rfl ?_
    show Steps _ _ _ (T2.setTop (mkF m 12 #[(sR b), (sI (0 : Int32)), (sJ px), .second, .unset] [(.int (1 : Int32)), (.ref la), (.int (0 : Int32)), (.ref la)])) _
    refine XS.aloadN X2.here hx rfl (hb hby d17_12) rfl rfl ?_
    exact kt
   obtain ⟨T3, X3, e3, st3⟩ := getF X2 hx hZ hown (host := "") (Or.inl (hw _ (ix 77 rfl))) Via.refl e2 Fe (g := (mkF m 13 #[(sR b), (sI (0 : Int32)), (sJ px), .second, .unset] [(.ref b), (.int (1 : Int32)), (.ref la), (.int (0 : Int32)), (.ref la)])) rfl rfl (hb hby d17_13)
   refine gu (T3.setTop (mkF m 16 #[(sR b), (sI (0 : Int32)), (sJ px), .second, .unset] [(.int (0 : Int32)), (.int (1 : Int32)), (.ref la), (.int (0 : Int32)), (.ref la)])) (fun t kt => st3 _ kt) ?_
   refine gu (T3.setTop (mkF m 18 #[(sR b), (sI (0 : Int32)), (sJ px), .second, .unset] [(.int (0 : Int32)), (.int (1 : Int32)), (.ref la), (.int (0 : Int32)), (.ref la)])) (fun t kt => ?_) ?_
   ·refine XS.iloadN X3.here hx rfl (hb hby d17_16) rfl ?_
    show Steps _ _ _ (T3.setTop (mkF m 17 #[(sR b), (sI (0 : Int32)), (sJ px), .second, .unset] [(.int (0 : Int32)), (.int (0 : Int32)), (.int (1 : Int32)), (.ref la), (.int (0 : Int32)), (.ref la)])) _
    refine XS.isub X3.here hx rfl (hb hby d17_17) rfl ?_
    exact kt
   have V_la_4 : Arv Z h0 la kl oPL (256 : Int32) [.null] .null := V_la.pad (pad_rep [] .null 1)
   obtain ⟨ca5, Ar5, q5, S5, M5, H5, U5⟩ := id V_la_4
   obtain ⟨T5, h5, Lc5, X5, e5, N5, K5, W5, st5⟩ := cpA X3 hx hZ hown (hw _ (ix 121 rfl)) (hw _ (ix 124 rfl)) (hw _ (ix 122 rfl)) (hw _ (ix 123 rfl)) e3 (sp := (0 : Int32)) (dp := (1 : Int32)) (nn := (0 : Int32)) (us := []) V_la_4 V_la_4 (Or.inr ⟨rfl, rfl, trivial⟩) (by decide) (by decide) (by decide) (by decide) (by decide) rfl (Nat.le_of_ble_eq_true rfl) N0 g_la (g := (mkF m 18 #[(sR b), (sI (0 : Int32)), (sJ px), .second, .unset] [(.int (0 : Int32)), (.int (1 : Int32)), (.ref la), (.int (0 : Int32)), (.ref la)])) rfl (sz hml) rfl (hb hby d17_18) (by decide) (W := 0) le0 (by decide)
   have O5 := O0.keep K5 (allS g_la all0)
   have KK5 : Keep h0 h5 [b, la, pa] := K0.trans K5 (allS (Or.inl (ix 1 rfl)) all0)
   have E_b_5 := E_b.keep K5
   have E_tm_5 := E_tm.keep K5
   have Fs_5 := Fs.keep K5 (ninS ne_tm_la nin0)
   have Fa_5 := Fa.keep K5 (ninS ne_b_la nin0)
   have Fb_5 := Fb.keep K5 (ninS ne_b_la nin0)
   have Fc_5 := Fc.keep K5 (ninS ne_b_la nin0)
   have Fd_5 := Fd.keep K5 (ninS ne_b_la nin0)
   have Fe_5 := Fe.keep K5 (ninS ne_b_la nin0)
   have V_pa_5 := V_pa.keep K5 (ninS (Ne.symm ne_la_pa) nin0)
   have V_la_5 : Arv Z h5 la kl oPL (256 : Int32) [.null] .null := W5
   refine gu (T5.setTop (mkF m 21 #[(sR b), (sI (0 : Int32)), (sJ px), .second, .unset] [])) (fun t kt => st5 _ kt) ?_
   refine gu (T5.setTop (mkF m 22 #[(sR b), (sI (0 : Int32)), (sJ px), .second, .unset] [(.ref b)])) (fun t kt => ?_) ?_
   ·refine XS.aloadN X5.here hx rfl (hb hby d17_21) rfl rfl ?_
    exact kt
   obtain ⟨T6, X6, e6, st6⟩ := getF X5 hx hZ hown (host := "") (Or.inl (hw _ (ix 17 rfl))) Via.refl e5 Fb_5 (g := (mkF m 22 #[(sR b), (sI (0 : Int32)), (sJ px), .second, .unset] [(.ref b)])) rfl rfl (hb hby d17_22)
   refine gu (T6.setTop (mkF m 25 #[(sR b), (sI (0 : Int32)), (sJ px), .second, .unset] [(.ref pa)])) (fun t kt => st6 _ kt) ?_
   refine gu (T6.setTop (mkF m 27 #[(sR b), (sI (0 : Int32)), (sJ px), .second, .unset] [(.ref b), (.int (0 : Int32)), (.ref pa)])) (fun t kt => ?_) ?_
   ·refine XS.iloadN X6.here hx rfl (hb hby d17_25) rfl ?_
    show Steps _ _ _ (T6.setTop (mkF m 26 #[(sR b), (sI (0 : Int32)), (sJ px), .second, .unset] [(.int (0 : Int32)), (.ref pa)])) _
    refine XS.aloadN X6.here hx rfl (hb hby d17_26) rfl rfl ?_
    exact kt
   obtain ⟨T7, X7, e7, st7⟩ := getF X6 hx hZ hown (host := "") (Or.inl (hw _ (ix 17 rfl))) Via.refl e6 Fb_5 (g := (mkF m 27 #[(sR b), (sI (0 : Int32)), (sJ px), .second, .unset] [(.ref b), (.int (0 : Int32)), (.ref pa)])) rfl rfl (hb hby d17_27)
   refine gu (T7.setTop (mkF m 30 #[(sR b), (sI (0 : Int32)), (sJ px), .second, .unset] [(.ref pa), (.int (0 : Int32)), (.ref pa)])) (fun t kt => st7 _ kt) ?_
   refine gu (T7.setTop (mkF m 34 #[(sR b), (sI (0 : Int32)), (sJ px), .second, .unset] [(.ref b), (.int (1 : Int32)), (.ref pa), (.int (0 : Int32)), (.ref pa)])) (fun t kt => ?_) ?_
   ·refine XS.iloadN X7.here hx rfl (hb hby d17_30) rfl ?_
    show Steps _ _ _ (T7.setTop (mkF m 31 #[(sR b), (sI (0 : Int32)), (sJ px), .second, .unset] [(.int (0 : Int32)), (.ref pa), (.int (0 : Int32)), (.ref pa)])) _
    refine XS.iconst X7.here hx rfl (hb hby d17_31) ?_
    show Steps _ _ _ (T7.setTop (mkF m 32 #[(sR b), (sI (0 : Int32)), (sJ px), .second, .unset] [(.int (1 : Int32)), (.int (0 : Int32)), (.ref pa), (.int (0 : Int32)), (.ref pa)])) _
    refine XS.iadd X7.here hx rfl (hb hby d17_32) rfl ?_
    show Steps _ _ _ (T7.setTop (mkF m 33 #[(sR b), (sI (0 : Int32)), (sJ px), .second, .unset] [(.int (1 : Int32)), (.ref pa), (.int (0 : Int32)), (.ref pa)])) _
    refine XS.aloadN X7.here hx rfl (hb hby d17_33) rfl rfl ?_
    exact kt
   obtain ⟨T8, X8, e8, st8⟩ := getF X7 hx hZ hown (host := "") (Or.inl (hw _ (ix 77 rfl))) Via.refl e7 Fe_5 (g := (mkF m 34 #[(sR b), (sI (0 : Int32)), (sJ px), .second, .unset] [(.ref b), (.int (1 : Int32)), (.ref pa), (.int (0 : Int32)), (.ref pa)])) rfl rfl (hb hby d17_34)
   refine gu (T8.setTop (mkF m 37 #[(sR b), (sI (0 : Int32)), (sJ px), .second, .unset] [(.int (0 : Int32)), (.int (1 : Int32)), (.ref pa), (.int (0 : Int32)), (.ref pa)])) (fun t kt => st8 _ kt) ?_
   refine gu (T8.setTop (mkF m 39 #[(sR b), (sI (0 : Int32)), (sJ px), .second, .unset] [(.int (0 : Int32)), (.int (1 : Int32)), (.ref pa), (.int (0 : Int32)), (.ref pa)])) (fun t kt => ?_) ?_
   ·refine XS.iloadN X8.here hx rfl (hb hby d17_37) rfl ?_
    show Steps _ _ _ (T8.setTop (mkF m 38 #[(sR b), (sI (0 : Int32)), (sJ px), .second, .unset] [(.int (0 : Int32)), (.int (0 : Int32)), (.int (1 : Int32)), (.ref pa), (.int (0 : Int32)), (.ref pa)])) _
    refine XS.isub X8.here hx rfl (hb hby d17_38) rfl ?_
    exact kt
   have V_pa_9 : Arv Z h5 pa kp .long (256 : Int32) [(.long (0 : Int64))] (.long (0 : Int64)) := V_pa_5.pad (pad_rep [] (.long (0 : Int64)) 1)
   obtain ⟨ca10, Ar10, q10, S10, M10, H10, U10⟩ := id V_pa_9
   obtain ⟨T10, h10, Lc10, X10, e10, N10, K10, W10, st10⟩ := cpA X8 hx hZ hown (hw _ (ix 121 rfl)) (hw _ (ix 124 rfl)) (hw _ (ix 122 rfl)) (hw _ (ix 123 rfl)) e8 (sp := (0 : Int32)) (dp := (1 : Int32)) (nn := (0 : Int32)) (us := []) V_pa_9 V_pa_9 (Or.inl ⟨rfl, rfl⟩) (by decide) (by decide) (by decide) (by decide) (by decide) rfl (Nat.le_of_ble_eq_true rfl) N5 g_pa (g := (mkF m 39 #[(sR b), (sI (0 : Int32)), (sJ px), .second, .unset] [(.int (0 : Int32)), (.int (1 : Int32)), (.ref pa), (.int (0 : Int32)), (.ref pa)])) rfl (sz hml) rfl (hb hby d17_39) (by decide) (W := 0) le0 (by decide)
   have O10 := O5.keep K10 (allS g_pa all0)
   have KK10 : Keep h0 h10 [b, la, pa] := KK5.trans K10 (allS (Or.inl (ix 2 rfl)) all0)
   have E_b_10 := E_b_5.keep K10
   have E_tm_10 := E_tm_5.keep K10
   have Fs_10 := Fs_5.keep K10 (ninS ne_tm_pa nin0)
   have Fa_10 := Fa_5.keep K10 (ninS ne_b_pa nin0)
   have Fb_10 := Fb_5.keep K10 (ninS ne_b_pa nin0)
   have Fc_10 := Fc_5.keep K10 (ninS ne_b_pa nin0)
   have Fd_10 := Fd_5.keep K10 (ninS ne_b_pa nin0)
   have Fe_10 := Fe_5.keep K10 (ninS ne_b_pa nin0)
   have V_la_10 := V_la_5.keep K10 (ninS ne_la_pa nin0)
   have V_pa_10 : Arv Z h10 pa kp .long (256 : Int32) [(.long (0 : Int64))] (.long (0 : Int64)) := W10
   refine gu (T10.setTop (mkF m 42 #[(sR b), (sI (0 : Int32)), (sJ px), .second, .unset] [])) (fun t kt => st10 _ kt) ?_
   obtain ⟨T11, h11, X11, e11, E11, A11, D11, -, st11⟩ := newO X10 hx hZ hown (hw _ (ix 12 rfl)) (hw _ (ix 125 rfl)) (hw _ (ix 126 rfl)) e10 (g := (mkF m 42 #[(sR b), (sI (0 : Int32)), (sJ px), .second, .unset] [])) rfl (hb hby d17_42) (by decide) (by decide)
   obtain ⟨b11, gq11⟩ : ∃ z, z = h10.size := ⟨_, rfl⟩
   rw [← gq11] at A11 D11 st11
   have ne_b_b11 : b ≠ b11 := Nat.ne_of_lt (Nat.lt_of_lt_of_le E_b_10.lt (Nat.le_of_eq gq11.symm))
   have ne_tm_b11 : tm ≠ b11 := Nat.ne_of_lt (Nat.lt_of_lt_of_le E_tm_10.lt (Nat.le_of_eq gq11.symm))
   have ne_la_b11 : la ≠ b11 := Nat.ne_of_lt (Nat.lt_of_lt_of_le V_la_10.lt (Nat.le_of_eq gq11.symm))
   have ne_pa_b11 : pa ≠ b11 := Nat.ne_of_lt (Nat.lt_of_lt_of_le V_pa_10.lt (Nat.le_of_eq gq11.symm))
   have g_b11 : n0 ≤ b11 := Nat.le_trans (old_le O10) (Nat.le_of_eq gq11.symm)
   have z_b11 : h0.size ≤ b11 := Nat.le_trans KK10.1 (Nat.le_of_eq gq11.symm)
   have O11 := O10.ext E11
   have K11 : Keep h0 h11 [b, la, pa] := KK10.ext E11
   have E_b_11 := E_b_10.ext E11
   have E_tm_11 := E_tm_10.ext E11
   have Fs_11 := Fs_10.ext E11
   have Fa_11 := Fa_10.ext E11
   have Fb_11 := Fb_10.ext E11
   have Fc_11 := Fc_10.ext E11
   have Fd_11 := Fd_10.ext E11
   have Fe_11 := Fe_10.ext E11
   have V_la_11 := V_la_10.ext E11
   have V_pa_11 := V_pa_10.ext E11
   have F_b11_quantity_11 : Fld Z h11 b11 "com/example/openvenue/openvenue/core/PriceLevel" "quantity" "Lcom/example/openvenue/openvenue/core/QuantityTotal;" .null := D11 (Or.inr (hw _ (ix 139 rfl))) (ty := (.object "com/example/openvenue/openvenue/core/QuantityTotal")) (by decide)
   have F_b11_side_11 : Fld Z h11 b11 "com/example/openvenue/openvenue/core/PriceLevel" "side" "Lcom/example/openvenue/openvenue/core/Side;" .null := D11 (Or.inr (hw _ (ix 141 rfl))) (ty := (.object "com/example/openvenue/openvenue/core/Side")) (by decide)
   have F_b11_p_11 : Fld Z h11 b11 "com/example/openvenue/openvenue/core/PriceLevel" "price" "J" (.long (0 : Int64)) := D11 (Or.inr (hw _ (ix 143 rfl))) (ty := .long) (by decide)
   refine gu (T11.setTop (mkF m 45 #[(sR b), (sI (0 : Int32)), (sJ px), .second, .unset] [(.ref b11)])) (fun t kt => st11 _ kt) ?_
   refine gu (T11.setTop (mkF m 47 #[(sR b), (sI (0 : Int32)), (sJ px), .second, .unset] [(.ref b), (.ref b11), (.ref b11)])) (fun t kt => ?_) ?_
   ·refine XS.dup X11.here hx rfl (hb hby d17_45) rfl rfl ?_
    show Steps _ _ _ (T11.setTop (mkF m 46 #[(sR b), (sI (0 : Int32)), (sJ px), .second, .unset] [(.ref b11), (.ref b11)])) _
    refine XS.aloadN X11.here hx rfl (hb hby d17_46) rfl rfl ?_
    exact kt
   obtain ⟨T12, X12, e12, st12⟩ := getF X11 hx hZ hown (host := "") (Or.inl (hw _ (ix 35 rfl))) Via.refl e11 Fc_11 (g := (mkF m 47 #[(sR b), (sI (0 : Int32)), (sJ px), .second, .unset] [(.ref b), (.ref b11), (.ref b11)])) rfl rfl (hb hby d17_47)
   refine gu (T12.setTop (mkF m 50 #[(sR b), (sI (0 : Int32)), (sJ px), .second, .unset] [(.ref sd), (.ref b11), (.ref b11)])) (fun t kt => st12 _ kt) ?_
   refine gu (T12.setTop (mkF m 51 #[(sR b), (sI (0 : Int32)), (sJ px), .second, .unset] [(.long px), (.ref sd), (.ref b11), (.ref b11)])) (fun t kt => ?_) ?_
   ·refine XS.lloadN X12.here hx rfl (hb hby d17_50) rfl ?_
    exact kt
   obtain ⟨_, _, ⟨T13, L13, k13, n13⟩, -, X13, ⟨Lc13, hQ13, l13, y13, z13⟩, st13⟩ := X12.specialBack hx (y := mn2) rfl hown (mvT hZ (hw _ (ix 127 rfl))) (mvT hZ (hw _ (ix 128 rfl))) (mvT hZ (hw _ (ix 129 rfl))) (by decide) (backOf (W := 1) (rm3 l Z aa hw [] b11 sd px (0 : Int64) h11 n0 O11 A11 F_b11_quantity_11 F_b11_side_11 F_b11_p_11 g_b11) hZ (hw _ (ix 129 rfl)) (hw _ (ix 126 rfl)) (by decide) (by decide)) (g := (mkF m 51 #[(sR b), (sI (0 : Int32)), (sJ px), .second, .unset] [(.long px), (.ref sd), (.ref b11), (.ref b11)])) rfl (sz hml) (Steps.refl _) (a := b11) (argsL := [(.ref sd), (.long px)]) (rest := [(.ref b11)]) (lenOf pd_oLcom_example_openvenue_openvenue_core_SideJcV rfl) rfl le0 (hb hby d17_51) (fun _ _ => ⟨rfl, e12, (by decide : 1 + 1 ≤ _), (by decide : 6 + 2 ≤ _)⟩)
   dsimp only [Pt.U, Pt.locs, Pt.cells, Pt.slots] at X13 l13 y13 z13 st13 hQ13
   subst l13 y13 z13
   obtain ⟨rfl, M13, K13, F_b11_p_13⟩ := hQ13
   have N13 := Fr.app N10 M13
   have O13 := O11.keep K13 (allS g_b11 all0)
   have KK13 : Keep h0 T13.heap [b, la, pa] := K11.trans K13 (allS (Or.inr z_b11) all0)
   have E_b_13 := E_b_11.keep K13
   have E_tm_13 := E_tm_11.keep K13
   have Fs_13 := Fs_11.keep K13 (ninS ne_tm_b11 nin0)
   have Fa_13 := Fa_11.keep K13 (ninS ne_b_b11 nin0)
   have Fb_13 := Fb_11.keep K13 (ninS ne_b_b11 nin0)
   have Fc_13 := Fc_11.keep K13 (ninS ne_b_b11 nin0)
   have Fd_13 := Fd_11.keep K13 (ninS ne_b_b11 nin0)
   have Fe_13 := Fe_11.keep K13 (ninS ne_b_b11 nin0)
   have V_la_13 := V_la_11.keep K13 (ninS ne_la_b11 nin0)
   have V_pa_13 := V_pa_11.keep K13 (ninS ne_pa_b11 nin0)
   have E_b11_13 := A11.keep K13
   refine gu (T13.setTop (mkF m 54 #[(sR b), (sI (0 : Int32)), (sJ px), .second, .unset] [(.ref b11)])) (fun t kt => st13.trans kt) ?_
   refine gu (T13.setTop (mkF m 57 #[(sR b), (sI (0 : Int32)), (sJ px), .second, (sR b11)] [(.ref b)])) (fun t kt => ?_) ?_
   ·refine XS.astore X13.here hx rfl (hb hby d17_54) rfl rfl (l' := #[(sR b), (sI (0 : Int32)), (sJ px), .second, (sR b11)]) rfl ?_
    show Steps _ _ _ (T13.setTop (mkF m 56 #[(sR b), (sI (0 : Int32)), (sJ px), .second, (sR b11)] [])) _
    refine XS.aloadN X13.here hx rfl (hb hby d17_56) rfl rfl ?_
    exact kt
   obtain ⟨T14, X14, e14, st14⟩ := getF X13 hx hZ hown (host := "") (Or.inl (hw _ (ix 14 rfl))) Via.refl rfl Fa_13 (g := (mkF m 57 #[(sR b), (sI (0 : Int32)), (sJ px), .second, (sR b11)] [(.ref b)])) rfl rfl (hb hby d17_57)
   refine gu (T14.setTop (mkF m 60 #[(sR b), (sI (0 : Int32)), (sJ px), .second, (sR b11)] [(.ref la)])) (fun t kt => st14 _ kt) ?_
   refine gu (T14.setTop (mkF m 63 #[(sR b), (sI (0 : Int32)), (sJ px), .second, (sR b11)] [(.ref b11), (.int (0 : Int32)), (.ref la)])) (fun t kt => ?_) ?_
   ·refine XS.iloadN X14.here hx rfl (hb hby d17_60) rfl ?_
    show Steps _ _ _ (T14.setTop (mkF m 61 #[(sR b), (sI (0 : Int32)), (sJ px), .second, (sR b11)] [(.int (0 : Int32)), (.ref la)])) _
    refine XS.aload X14.here hx rfl (hb hby d17_61) rfl rfl ?_
    exact kt
   obtain ⟨ca15, Ar15, q15, S15, M15, H15, U15⟩ := id V_la_13
   obtain ⟨T15, h15, X15, e15, W15, st15⟩ := stR X14 hx hZ e14 Ar15 (j := (0 : Int32)) (v := (.ref b11)) (inb_of S15 ⟨by decide, by decide⟩) rfl (Sto.ofV Ar15 q15 hov (Ins.self E_b11_13)) (g := (mkF m 63 #[(sR b), (sI (0 : Int32)), (sJ px), .second, (sR b11)] [(.ref b11), (.int (0 : Int32)), (.ref la)])) rfl rfl (hb hby d17_63)
   have N15 := Fr.snoc X15 N13 g_la
   have O15 := O13.wr W15 g_la
   have K15 : Keep h0 h15 [b, la, pa] := KK13.wr W15 (Or.inl (ix 1 rfl))
   have E_b_15 := E_b_13.wr W15
   have E_tm_15 := E_tm_13.wr W15
   have Fs_15 := Fs_13.other W15 (Or.inl ne_tm_la)
   have Fa_15 := Fa_13.other W15 (Or.inl ne_b_la)
   have Fb_15 := Fb_13.other W15 (Or.inl ne_b_la)
   have Fc_15 := Fc_13.other W15 (Or.inl ne_b_la)
   have Fd_15 := Fd_13.other W15 (Or.inl ne_b_la)
   have Fe_15 := Fe_13.other W15 (Or.inl ne_b_la)
   have V_pa_15 := V_pa_13.other W15 (Ne.symm ne_la_pa)
   have E_b11_15 := E_b11_13.wr W15
   have F_b11_p_15 := F_b11_p_13.other W15 (Or.inl (Ne.symm ne_la_b11))
   have V_la_15 : Arv Z h15 la kl oPL (256 : Int32) [(.ref b11)] .null := Arv.set Ar15 q15 S15 M15 H15 U15 rfl W15 0 rfl (Nat.le_of_ble_eq_true rfl)
   refine gu (T15.setTop (mkF m 64 #[(sR b), (sI (0 : Int32)), (sJ px), .second, (sR b11)] [])) (fun t kt => st15 _ kt) ?_
   refine gu (T15.setTop (mkF m 65 #[(sR b), (sI (0 : Int32)), (sJ px), .second, (sR b11)] [(.ref b)])) (fun t kt => ?_) ?_
   ·refine XS.aloadN X15.here hx rfl (hb hby d17_64) rfl rfl ?_
    exact kt
   obtain ⟨T16, X16, e16, st16⟩ := getF X15 hx hZ hown (host := "") (Or.inl (hw _ (ix 17 rfl))) Via.refl e15 Fb_15 (g := (mkF m 65 #[(sR b), (sI (0 : Int32)), (sJ px), .second, (sR b11)] [(.ref b)])) rfl rfl (hb hby d17_65)
   refine gu (T16.setTop (mkF m 68 #[(sR b), (sI (0 : Int32)), (sJ px), .second, (sR b11)] [(.ref pa)])) (fun t kt => st16 _ kt) ?_
   refine gu (T16.setTop (mkF m 70 #[(sR b), (sI (0 : Int32)), (sJ px), .second, (sR b11)] [(.long px), (.int (0 : Int32)), (.ref pa)])) (fun t kt => ?_) ?_
   ·refine XS.iloadN X16.here hx rfl (hb hby d17_68) rfl ?_
    show Steps _ _ _ (T16.setTop (mkF m 69 #[(sR b), (sI (0 : Int32)), (sJ px), .second, (sR b11)] [(.int (0 : Int32)), (.ref pa)])) _
    refine XS.lloadN X16.here hx rfl (hb hby d17_69) rfl ?_
    exact kt
   obtain ⟨ca17, Ar17, q17, S17, M17, H17, U17⟩ := id V_pa_15
   obtain ⟨T17, h17, X17, e17, W17, st17⟩ := stJ X16 hx hZ e16 Ar17 (j := (0 : Int32)) (inb_of S17 ⟨by decide, by decide⟩) (g := (mkF m 70 #[(sR b), (sI (0 : Int32)), (sJ px), .second, (sR b11)] [(.long px), (.int (0 : Int32)), (.ref pa)])) rfl rfl (hb hby d17_70)
   have N17 := Fr.snoc X17 N15 g_pa
   have O17 := O15.wr W17 g_pa
   have K17 : Keep h0 h17 [b, la, pa] := K15.wr W17 (Or.inl (ix 2 rfl))
   have E_b_17 := E_b_15.wr W17
   have E_tm_17 := E_tm_15.wr W17
   have Fs_17 := Fs_15.other W17 (Or.inl ne_tm_pa)
   have Fa_17 := Fa_15.other W17 (Or.inl ne_b_pa)
   have Fb_17 := Fb_15.other W17 (Or.inl ne_b_pa)
   have Fc_17 := Fc_15.other W17 (Or.inl ne_b_pa)
   have Fd_17 := Fd_15.other W17 (Or.inl ne_b_pa)
   have Fe_17 := Fe_15.other W17 (Or.inl ne_b_pa)
   have E_b11_17 := E_b11_15.wr W17
   have F_b11_p_17 := F_b11_p_15.other W17 (Or.inl (Ne.symm ne_pa_b11))
   have V_la_17 := V_la_15.other W17 ne_la_pa
   have V_pa_17 : Arv Z h17 pa kp .long (256 : Int32) [(.long px)] (.long (0 : Int64)) := Arv.set Ar17 q17 S17 M17 H17 U17 rfl W17 0 rfl (Nat.le_of_ble_eq_true rfl)
   refine gu (T17.setTop (mkF m 71 #[(sR b), (sI (0 : Int32)), (sJ px), .second, (sR b11)] [])) (fun t kt => st17 _ kt) ?_
   refine gu (T17.setTop (mkF m 73 #[(sR b), (sI (0 : Int32)), (sJ px), .second, (sR b11)] [(.ref b), (.ref b)])) (fun t kt => ?_) ?_
   ·refine XS.aloadN X17.here hx rfl (hb hby d17_71) rfl rfl ?_
    show Steps _ _ _ (T17.setTop (mkF m 72 #[(sR b), (sI (0 : Int32)), (sJ px), .second, (sR b11)] [(.ref b)])) _
    refine XS.dup X17.here hx rfl (hb hby d17_72) rfl rfl ?_
    exact kt
   obtain ⟨T18, X18, e18, st18⟩ := getF X17 hx hZ hown (host := "") (Or.inl (hw _ (ix 77 rfl))) Via.refl e17 Fe_17 (g := (mkF m 73 #[(sR b), (sI (0 : Int32)), (sJ px), .second, (sR b11)] [(.ref b), (.ref b)])) rfl rfl (hb hby d17_73)
   refine gu (T18.setTop (mkF m 76 #[(sR b), (sI (0 : Int32)), (sJ px), .second, (sR b11)] [(.int (0 : Int32)), (.ref b)])) (fun t kt => st18 _ kt) ?_
   refine gu (T18.setTop (mkF m 78 #[(sR b), (sI (0 : Int32)), (sJ px), .second, (sR b11)] [(.int (1 : Int32)), (.ref b)])) (fun t kt => ?_) ?_
   ·refine XS.iconst X18.here hx rfl (hb hby d17_76) ?_
    show Steps _ _ _ (T18.setTop (mkF m 77 #[(sR b), (sI (0 : Int32)), (sJ px), .second, (sR b11)] [(.int (1 : Int32)), (.int (0 : Int32)), (.ref b)])) _
    refine XS.iadd X18.here hx rfl (hb hby d17_77) rfl ?_
    exact kt
   obtain ⟨T19, h19, X19, e19, W19, st19⟩ := putF X18 hx hZ hown (host := "") (Or.inl (hw _ (ix 77 rfl))) Via.refl e18 Fe_17 E_b_17 (Or.inl (hw _ (ix 78 rfl))) (hw _ (ix 4 rfl)) (ty := .int) (by decide) rfl rfl (g := (mkF m 78 #[(sR b), (sI (0 : Int32)), (sJ px), .second, (sR b11)] [(.int (1 : Int32)), (.ref b)])) rfl rfl (hb hby d17_78)
   have N19 := Fr.snoc X19 N17 g_b
   have O19 := O17.wr W19 g_b
   have K19 : Keep h0 h19 [b, la, pa] := K17.wr W19 (Or.inl (ix 0 rfl))
   have E_b_19 := E_b_17.wr W19
   have E_tm_19 := E_tm_17.wr W19
   have Fs_19 := Fs_17.other W19 (Or.inl (Ne.symm ne_b_tm))
   have Fa_19 := Fa_17.other W19 (Or.inr (slot_ne (Or.inr (hw _ (ix 15 rfl))) (Or.inl (hw _ (ix 78 rfl))) (by decide) (t := (.array (.object "com/example/openvenue/openvenue/core/PriceLevel"))) (t' := .int) (by decide) (by decide)))
   have Fb_19 := Fb_17.other W19 (Or.inr (slot_ne (Or.inr (hw _ (ix 18 rfl))) (Or.inl (hw _ (ix 78 rfl))) (by decide) (t := (.array .long)) (t' := .int) (by decide) (by decide)))
   have Fc_19 := Fc_17.other W19 (Or.inr (slot_ne (Or.inr (hw _ (ix 36 rfl))) (Or.inl (hw _ (ix 78 rfl))) (by decide) (t := (.object "com/example/openvenue/openvenue/core/Side")) (t' := .int) (by decide) (by decide)))
   have Fd_19 := Fd_17.other W19 (Or.inr (slot_ne (Or.inr (hw _ (ix 65 rfl))) (Or.inl (hw _ (ix 78 rfl))) (by decide) (t := (.object "java/util/NavigableMap")) (t' := .int) (by decide) (by decide)))
   have E_b11_19 := E_b11_17.wr W19
   have F_b11_p_19 := F_b11_p_17.other W19 (Or.inl (Ne.symm ne_b_b11))
   have V_la_19 := V_la_17.other W19 (Ne.symm ne_b_la)
   have V_pa_19 := V_pa_17.other W19 (Ne.symm ne_b_pa)
   have Fe_19 := Fe_17.same W19
   refine gu (T19.setTop (mkF m 81 #[(sR b), (sI (0 : Int32)), (sJ px), .second, (sR b11)] [])) (fun t kt => st19 _ kt) ?_
   refine gu (T19.setTop (mkF m 83 #[(sR b), (sI (0 : Int32)), (sJ px), .second, (sR b11)] [(.ref b11)])) (fun t kt => ?_) ?_
   ·refine XS.aload X19.here hx rfl (hb hby d17_81) rfl rfl ?_
    exact kt
   refine Gl.retR X19 hx hlk Bd.returns (hb hby d17_83) rfl rfl ?_ (by decide) (by decide)
   show Q17 Z _ _ _ _ _ _ _ _ _ _ _ h0 n0 _ T19.heap _; rw [e19]; have BB : Bk Z n0 h19 b la pa tm sd wB kl kp [(b11, px)] := ⟨E_b_19, Fa_19, Fb_19, Fc_19, Fd_19, Fe_19, E_tm_19, Fs_19, V_la_19, V_pa_19, hov, g_b, g_la, g_pa, (lvS ⟨E_b11_19, F_b11_p_19⟩ lv0), hord⟩; exact ⟨b11, rfl, N19, K19, BB⟩
  ·exact absurd hi (by simp)
 ·obtain ⟨E_b, Fa, Fb, Fc, Fd, Fe0, E_tm, Fs, V_la0, V_pa0, hov, g_b, g_la, g_pa, hlv, hso⟩ := B0
  have Fe : Fld Z h0 b "com/example/openvenue/openvenue/core/BookSide" "count" "I" (.int (1 : Int32)) := Fe0
  have V_la : Arv Z h0 la kl oPL (256 : Int32) [(.ref a0)] .null := V_la0
  have V_pa : Arv Z h0 pa kp .long (256 : Int32) [(.long x0)] (.long (0 : Int64)) := V_pa0
  obtain ⟨E_a0, F_a0_price⟩ := hlv (a0, x0) (by simp)
  have ne_b_la : b ≠ la := Exa.neArv E_b V_la (hw _ (ix 4 rfl))
  have ne_b_pa : b ≠ pa := Exa.neArv E_b V_pa (hw _ (ix 4 rfl))
  have ne_tm_la : tm ≠ la := Exa.neArv E_tm V_la (hw _ (ix 46 rfl))
  have ne_tm_pa : tm ≠ pa := Exa.neArv E_tm V_pa (hw _ (ix 46 rfl))
  have ne_a0_la : a0 ≠ la := Exa.neArv E_a0 V_la (hw _ (ix 125 rfl))
  have ne_a0_pa : a0 ≠ pa := Exa.neArv E_a0 V_pa (hw _ (ix 125 rfl))
  have ne_la_pa : la ≠ pa := own_arvne V_la V_pa
  have ne_b_tm : b ≠ tm := ne_exa E_b E_tm (by decide)
  have ne_b_a0 : b ≠ a0 := ne_exa E_b E_a0 (by decide)
  have ne_tm_a0 : tm ≠ a0 := ne_exa E_tm E_a0 (by decide)
  rcases i with _ | _ | i
  ·refine gu (s₁.setTop (mkF m 1 #[(sR b), (sI (0 : Int32)), (sJ px), .second, .unset] [(.ref b)])) (fun t kt => ?_) ?_
   ·refine XS.aloadN X0.here hx rfl (hb hby d17_0) rfl rfl ?_
    exact kt
   obtain ⟨T20, X20, e20, st20⟩ := getF X0 hx hZ hown (host := "") (Or.inl (hw _ (ix 14 rfl))) Via.refl e0 Fa (g := (mkF m 1 #[(sR b), (sI (0 : Int32)), (sJ px), .second, .unset] [(.ref b)])) rfl rfl (hb hby d17_1)
   refine gu (T20.setTop (mkF m 4 #[(sR b), (sI (0 : Int32)), (sJ px), .second, .unset] [(.ref la)])) (fun t kt => st20 _ kt) ?_
   refine gu (T20.setTop (mkF m 6 #[(sR b), (sI (0 : Int32)), (sJ px), .second, .unset] [(.ref b), (.int (0 : Int32)), (.ref la)])) (fun t kt => ?_) ?_
   ·refine XS.iloadN X20.here hx rfl (hb hby d17_4) rfl ?_
    show Steps _ _ _ (T20.setTop (mkF m 5 #[(sR b), (sI (0 : Int32)), (sJ px), .second, .unset] [(.int (0 : Int32)), (.ref la)])) _
    refine XS.aloadN X20.here hx rfl (hb hby d17_5) rfl rfl ?_
    exact kt
   obtain ⟨T21, X21, e21, st21⟩ := getF X20 hx hZ hown (host := "") (Or.inl (hw _ (ix 14 rfl))) Via.refl e20 Fa (g := (mkF m 6 #[(sR b), (sI (0 : Int32)), (sJ px), .second, .unset] [(.ref b), (.int (0 : Int32)), (.ref la)])) rfl rfl (hb hby d17_6)
   refine gu (T21.setTop (mkF m 9 #[(sR b), (sI (0 : Int32)), (sJ px), .second, .unset] [(.ref la), (.int (0 : Int32)), (.ref la)])) (fun t kt => st21 _ kt) ?_
   refine gu (T21.setTop (mkF m 13 #[(sR b), (sI (0 : Int32)), (sJ px), .second, .unset] [(.ref b), (.int (1 : Int32)), (.ref la), (.int (0 : Int32)), (.ref la)])) (fun t kt => ?_) ?_
   ·refine XS.iloadN X21.here hx rfl (hb hby d17_9) rfl ?_
    show Steps _ _ _ (T21.setTop (mkF m 10 #[(sR b), (sI (0 : Int32)), (sJ px), .second, .unset] [(.int (0 : Int32)), (.ref la), (.int (0 : Int32)), (.ref la)])) _
    refine XS.iconst X21.here hx rfl (hb hby d17_10) ?_
    show Steps _ _ _ (T21.setTop (mkF m 11 #[(sR b), (sI (0 : Int32)), (sJ px), .second, .unset] [(.int (1 : Int32)), (.int (0 : Int32)), (.ref la), (.int (0 : Int32)), (.ref la)])) _
    refine XS.iadd X21.here hx rfl (hb hby d17_11) rfl ?_
    show Steps _ _ _ (T21.setTop (mkF m 12 #[(sR b), (sI (0 : Int32)), (sJ px), .second, .unset] [(.int (1 : Int32)), (.ref la), (.int (0 : Int32)), (.ref la)])) _
    refine XS.aloadN X21.here hx rfl (hb hby d17_12) rfl rfl ?_
    exact kt
   obtain ⟨T22, X22, e22, st22⟩ := getF X21 hx hZ hown (host := "") (Or.inl (hw _ (ix 77 rfl))) Via.refl e21 Fe (g := (mkF m 13 #[(sR b), (sI (0 : Int32)), (sJ px), .second, .unset] [(.ref b), (.int (1 : Int32)), (.ref la), (.int (0 : Int32)), (.ref la)])) rfl rfl (hb hby d17_13)
   refine gu (T22.setTop (mkF m 16 #[(sR b), (sI (0 : Int32)), (sJ px), .second, .unset] [(.int (1 : Int32)), (.int (1 : Int32)), (.ref la), (.int (0 : Int32)), (.ref la)])) (fun t kt => st22 _ kt) ?_
   refine gu (T22.setTop (mkF m 18 #[(sR b), (sI (0 : Int32)), (sJ px), .second, .unset] [(.int (1 : Int32)), (.int (1 : Int32)), (.ref la), (.int (0 : Int32)), (.ref la)])) (fun t kt => ?_) ?_
   ·refine XS.iloadN X22.here hx rfl (hb hby d17_16) rfl ?_
    show Steps _ _ _ (T22.setTop (mkF m 17 #[(sR b), (sI (0 : Int32)), (sJ px), .second, .unset] [(.int (0 : Int32)), (.int (1 : Int32)), (.int (1 : Int32)), (.ref la), (.int (0 : Int32)), (.ref la)])) _
    refine XS.isub X22.here hx rfl (hb hby d17_17) rfl ?_
    exact kt
   have V_la_23 : Arv Z h0 la kl oPL (256 : Int32) [(.ref a0), .null] .null := V_la.pad (pad_rep [(.ref a0)] .null 1)
   obtain ⟨ca24, Ar24, q24, S24, M24, H24, U24⟩ := id V_la_23
   obtain ⟨T24, h24, Lc24, X24, e24, N24, K24, W24, st24⟩ := cpA X22 hx hZ hown (hw _ (ix 121 rfl)) (hw _ (ix 124 rfl)) (hw _ (ix 122 rfl)) (hw _ (ix 123 rfl)) e22 (sp := (0 : Int32)) (dp := (1 : Int32)) (nn := (1 : Int32)) (us := [(.ref a0)]) V_la_23 V_la_23 (Or.inr ⟨rfl, rfl, ⟨(Sto.ofV Ar24 q24 hov (Ins.self E_a0)), trivial⟩⟩) (by decide) (by decide) (by decide) (by decide) (by decide) rfl (Nat.le_of_ble_eq_true rfl) N0 g_la (g := (mkF m 18 #[(sR b), (sI (0 : Int32)), (sJ px), .second, .unset] [(.int (1 : Int32)), (.int (1 : Int32)), (.ref la), (.int (0 : Int32)), (.ref la)])) rfl (sz hml) rfl (hb hby d17_18) (by decide) (W := 0) le0 (by decide)
   have O24 := O0.keep K24 (allS g_la all0)
   have KK24 : Keep h0 h24 [b, la, pa] := K0.trans K24 (allS (Or.inl (ix 1 rfl)) all0)
   have E_b_24 := E_b.keep K24
   have E_tm_24 := E_tm.keep K24
   have Fs_24 := Fs.keep K24 (ninS ne_tm_la nin0)
   have Fa_24 := Fa.keep K24 (ninS ne_b_la nin0)
   have Fb_24 := Fb.keep K24 (ninS ne_b_la nin0)
   have Fc_24 := Fc.keep K24 (ninS ne_b_la nin0)
   have Fd_24 := Fd.keep K24 (ninS ne_b_la nin0)
   have Fe_24 := Fe.keep K24 (ninS ne_b_la nin0)
   have V_pa_24 := V_pa.keep K24 (ninS (Ne.symm ne_la_pa) nin0)
   have E_a0_24 := E_a0.keep K24
   have F_a0_p_24 := F_a0_price.keep K24 (ninS ne_a0_la nin0)
   have V_la_24 : Arv Z h24 la kl oPL (256 : Int32) [(.ref a0), (.ref a0)] .null := W24
   refine gu (T24.setTop (mkF m 21 #[(sR b), (sI (0 : Int32)), (sJ px), .second, .unset] [])) (fun t kt => st24 _ kt) ?_
   refine gu (T24.setTop (mkF m 22 #[(sR b), (sI (0 : Int32)), (sJ px), .second, .unset] [(.ref b)])) (fun t kt => ?_) ?_
   ·refine XS.aloadN X24.here hx rfl (hb hby d17_21) rfl rfl ?_
    exact kt
   obtain ⟨T25, X25, e25, st25⟩ := getF X24 hx hZ hown (host := "") (Or.inl (hw _ (ix 17 rfl))) Via.refl e24 Fb_24 (g := (mkF m 22 #[(sR b), (sI (0 : Int32)), (sJ px), .second, .unset] [(.ref b)])) rfl rfl (hb hby d17_22)
   refine gu (T25.setTop (mkF m 25 #[(sR b), (sI (0 : Int32)), (sJ px), .second, .unset] [(.ref pa)])) (fun t kt => st25 _ kt) ?_
   refine gu (T25.setTop (mkF m 27 #[(sR b), (sI (0 : Int32)), (sJ px), .second, .unset] [(.ref b), (.int (0 : Int32)), (.ref pa)])) (fun t kt => ?_) ?_
   ·refine XS.iloadN X25.here hx rfl (hb hby d17_25) rfl ?_
    show Steps _ _ _ (T25.setTop (mkF m 26 #[(sR b), (sI (0 : Int32)), (sJ px), .second, .unset] [(.int (0 : Int32)), (.ref pa)])) _
    refine XS.aloadN X25.here hx rfl (hb hby d17_26) rfl rfl ?_
    exact kt
   obtain ⟨T26, X26, e26, st26⟩ := getF X25 hx hZ hown (host := "") (Or.inl (hw _ (ix 17 rfl))) Via.refl e25 Fb_24 (g := (mkF m 27 #[(sR b), (sI (0 : Int32)), (sJ px), .second, .unset] [(.ref b), (.int (0 : Int32)), (.ref pa)])) rfl rfl (hb hby d17_27)
   refine gu (T26.setTop (mkF m 30 #[(sR b), (sI (0 : Int32)), (sJ px), .second, .unset] [(.ref pa), (.int (0 : Int32)), (.ref pa)])) (fun t kt => st26 _ kt) ?_
   refine gu (T26.setTop (mkF m 34 #[(sR b), (sI (0 : Int32)), (sJ px), .second, .unset] [(.ref b), (.int (1 : Int32)), (.ref pa), (.int (0 : Int32)), (.ref pa)])) (fun t kt => ?_) ?_
   ·refine XS.iloadN X26.here hx rfl (hb hby d17_30) rfl ?_
    show Steps _ _ _ (T26.setTop (mkF m 31 #[(sR b), (sI (0 : Int32)), (sJ px), .second, .unset] [(.int (0 : Int32)), (.ref pa), (.int (0 : Int32)), (.ref pa)])) _
    refine XS.iconst X26.here hx rfl (hb hby d17_31) ?_
    show Steps _ _ _ (T26.setTop (mkF m 32 #[(sR b), (sI (0 : Int32)), (sJ px), .second, .unset] [(.int (1 : Int32)), (.int (0 : Int32)), (.ref pa), (.int (0 : Int32)), (.ref pa)])) _
    refine XS.iadd X26.here hx rfl (hb hby d17_32) rfl ?_
    show Steps _ _ _ (T26.setTop (mkF m 33 #[(sR b), (sI (0 : Int32)), (sJ px), .second, .unset] [(.int (1 : Int32)), (.ref pa), (.int (0 : Int32)), (.ref pa)])) _
    refine XS.aloadN X26.here hx rfl (hb hby d17_33) rfl rfl ?_
    exact kt
   obtain ⟨T27, X27, e27, st27⟩ := getF X26 hx hZ hown (host := "") (Or.inl (hw _ (ix 77 rfl))) Via.refl e26 Fe_24 (g := (mkF m 34 #[(sR b), (sI (0 : Int32)), (sJ px), .second, .unset] [(.ref b), (.int (1 : Int32)), (.ref pa), (.int (0 : Int32)), (.ref pa)])) rfl rfl (hb hby d17_34)
   refine gu (T27.setTop (mkF m 37 #[(sR b), (sI (0 : Int32)), (sJ px), .second, .unset] [(.int (1 : Int32)), (.int (1 : Int32)), (.ref pa), (.int (0 : Int32)), (.ref pa)])) (fun t kt => st27 _ kt) ?_
   refine gu (T27.setTop (mkF m 39 #[(sR b), (sI (0 : Int32)), (sJ px), .second, .unset] [(.int (1 : Int32)), (.int (1 : Int32)), (.ref pa), (.int (0 : Int32)), (.ref pa)])) (fun t kt => ?_) ?_
   ·refine XS.iloadN X27.here hx rfl (hb hby d17_37) rfl ?_
    show Steps _ _ _ (T27.setTop (mkF m 38 #[(sR b), (sI (0 : Int32)), (sJ px), .second, .unset] [(.int (0 : Int32)), (.int (1 : Int32)), (.int (1 : Int32)), (.ref pa), (.int (0 : Int32)), (.ref pa)])) _
    refine XS.isub X27.here hx rfl (hb hby d17_38) rfl ?_
    exact kt
   have V_pa_28 : Arv Z h24 pa kp .long (256 : Int32) [(.long x0), (.long (0 : Int64))] (.long (0 : Int64)) := V_pa_24.pad (pad_rep [(.long x0)] (.long (0 : Int64)) 1)
   obtain ⟨ca29, Ar29, q29, S29, M29, H29, U29⟩ := id V_pa_28
   obtain ⟨T29, h29, Lc29, X29, e29, N29, K29, W29, st29⟩ := cpA X27 hx hZ hown (hw _ (ix 121 rfl)) (hw _ (ix 124 rfl)) (hw _ (ix 122 rfl)) (hw _ (ix 123 rfl)) e27 (sp := (0 : Int32)) (dp := (1 : Int32)) (nn := (1 : Int32)) (us := [(.long x0)]) V_pa_28 V_pa_28 (Or.inl ⟨rfl, rfl⟩) (by decide) (by decide) (by decide) (by decide) (by decide) rfl (Nat.le_of_ble_eq_true rfl) N24 g_pa (g := (mkF m 39 #[(sR b), (sI (0 : Int32)), (sJ px), .second, .unset] [(.int (1 : Int32)), (.int (1 : Int32)), (.ref pa), (.int (0 : Int32)), (.ref pa)])) rfl (sz hml) rfl (hb hby d17_39) (by decide) (W := 0) le0 (by decide)
   have O29 := O24.keep K29 (allS g_pa all0)
   have KK29 : Keep h0 h29 [b, la, pa] := KK24.trans K29 (allS (Or.inl (ix 2 rfl)) all0)
   have E_b_29 := E_b_24.keep K29
   have E_tm_29 := E_tm_24.keep K29
   have Fs_29 := Fs_24.keep K29 (ninS ne_tm_pa nin0)
   have Fa_29 := Fa_24.keep K29 (ninS ne_b_pa nin0)
   have Fb_29 := Fb_24.keep K29 (ninS ne_b_pa nin0)
   have Fc_29 := Fc_24.keep K29 (ninS ne_b_pa nin0)
   have Fd_29 := Fd_24.keep K29 (ninS ne_b_pa nin0)
   have Fe_29 := Fe_24.keep K29 (ninS ne_b_pa nin0)
   have E_a0_29 := E_a0_24.keep K29
   have F_a0_p_29 := F_a0_p_24.keep K29 (ninS ne_a0_pa nin0)
   have V_la_29 := V_la_24.keep K29 (ninS ne_la_pa nin0)
   have V_pa_29 : Arv Z h29 pa kp .long (256 : Int32) [(.long x0), (.long x0)] (.long (0 : Int64)) := W29
   refine gu (T29.setTop (mkF m 42 #[(sR b), (sI (0 : Int32)), (sJ px), .second, .unset] [])) (fun t kt => st29 _ kt) ?_
   obtain ⟨T30, h30, X30, e30, E30, A30, D30, -, st30⟩ := newO X29 hx hZ hown (hw _ (ix 12 rfl)) (hw _ (ix 125 rfl)) (hw _ (ix 126 rfl)) e29 (g := (mkF m 42 #[(sR b), (sI (0 : Int32)), (sJ px), .second, .unset] [])) rfl (hb hby d17_42) (by decide) (by decide)
   obtain ⟨b30, gq30⟩ : ∃ z, z = h29.size := ⟨_, rfl⟩
   rw [← gq30] at A30 D30 st30
   have ne_b_b30 : b ≠ b30 := Nat.ne_of_lt (Nat.lt_of_lt_of_le E_b_29.lt (Nat.le_of_eq gq30.symm))
   have ne_tm_b30 : tm ≠ b30 := Nat.ne_of_lt (Nat.lt_of_lt_of_le E_tm_29.lt (Nat.le_of_eq gq30.symm))
   have ne_a0_b30 : a0 ≠ b30 := Nat.ne_of_lt (Nat.lt_of_lt_of_le E_a0_29.lt (Nat.le_of_eq gq30.symm))
   have ne_la_b30 : la ≠ b30 := Nat.ne_of_lt (Nat.lt_of_lt_of_le V_la_29.lt (Nat.le_of_eq gq30.symm))
   have ne_pa_b30 : pa ≠ b30 := Nat.ne_of_lt (Nat.lt_of_lt_of_le V_pa_29.lt (Nat.le_of_eq gq30.symm))
   have g_b30 : n0 ≤ b30 := Nat.le_trans (old_le O29) (Nat.le_of_eq gq30.symm)
   have z_b30 : h0.size ≤ b30 := Nat.le_trans KK29.1 (Nat.le_of_eq gq30.symm)
   have O30 := O29.ext E30
   have K30 : Keep h0 h30 [b, la, pa] := KK29.ext E30
   have E_b_30 := E_b_29.ext E30
   have E_tm_30 := E_tm_29.ext E30
   have Fs_30 := Fs_29.ext E30
   have Fa_30 := Fa_29.ext E30
   have Fb_30 := Fb_29.ext E30
   have Fc_30 := Fc_29.ext E30
   have Fd_30 := Fd_29.ext E30
   have Fe_30 := Fe_29.ext E30
   have E_a0_30 := E_a0_29.ext E30
   have F_a0_p_30 := F_a0_p_29.ext E30
   have V_la_30 := V_la_29.ext E30
   have V_pa_30 := V_pa_29.ext E30
   have F_b30_quantity_30 : Fld Z h30 b30 "com/example/openvenue/openvenue/core/PriceLevel" "quantity" "Lcom/example/openvenue/openvenue/core/QuantityTotal;" .null := D30 (Or.inr (hw _ (ix 139 rfl))) (ty := (.object "com/example/openvenue/openvenue/core/QuantityTotal")) (by decide)
   have F_b30_side_30 : Fld Z h30 b30 "com/example/openvenue/openvenue/core/PriceLevel" "side" "Lcom/example/openvenue/openvenue/core/Side;" .null := D30 (Or.inr (hw _ (ix 141 rfl))) (ty := (.object "com/example/openvenue/openvenue/core/Side")) (by decide)
   have F_b30_p_30 : Fld Z h30 b30 "com/example/openvenue/openvenue/core/PriceLevel" "price" "J" (.long (0 : Int64)) := D30 (Or.inr (hw _ (ix 143 rfl))) (ty := .long) (by decide)
   refine gu (T30.setTop (mkF m 45 #[(sR b), (sI (0 : Int32)), (sJ px), .second, .unset] [(.ref b30)])) (fun t kt => st30 _ kt) ?_
   refine gu (T30.setTop (mkF m 47 #[(sR b), (sI (0 : Int32)), (sJ px), .second, .unset] [(.ref b), (.ref b30), (.ref b30)])) (fun t kt => ?_) ?_
   ·refine XS.dup X30.here hx rfl (hb hby d17_45) rfl rfl ?_
    show Steps _ _ _ (T30.setTop (mkF m 46 #[(sR b), (sI (0 : Int32)), (sJ px), .second, .unset] [(.ref b30), (.ref b30)])) _
    refine XS.aloadN X30.here hx rfl (hb hby d17_46) rfl rfl ?_
    exact kt
   obtain ⟨T31, X31, e31, st31⟩ := getF X30 hx hZ hown (host := "") (Or.inl (hw _ (ix 35 rfl))) Via.refl e30 Fc_30 (g := (mkF m 47 #[(sR b), (sI (0 : Int32)), (sJ px), .second, .unset] [(.ref b), (.ref b30), (.ref b30)])) rfl rfl (hb hby d17_47)
   refine gu (T31.setTop (mkF m 50 #[(sR b), (sI (0 : Int32)), (sJ px), .second, .unset] [(.ref sd), (.ref b30), (.ref b30)])) (fun t kt => st31 _ kt) ?_
   refine gu (T31.setTop (mkF m 51 #[(sR b), (sI (0 : Int32)), (sJ px), .second, .unset] [(.long px), (.ref sd), (.ref b30), (.ref b30)])) (fun t kt => ?_) ?_
   ·refine XS.lloadN X31.here hx rfl (hb hby d17_50) rfl ?_
    exact kt
   obtain ⟨_, _, ⟨T32, L32, k32, n32⟩, -, X32, ⟨Lc32, hQ32, l32, y32, z32⟩, st32⟩ := X31.specialBack hx (y := mn2) rfl hown (mvT hZ (hw _ (ix 127 rfl))) (mvT hZ (hw _ (ix 128 rfl))) (mvT hZ (hw _ (ix 129 rfl))) (by decide) (backOf (W := 1) (rm3 l Z aa hw [] b30 sd px (0 : Int64) h30 n0 O30 A30 F_b30_quantity_30 F_b30_side_30 F_b30_p_30 g_b30) hZ (hw _ (ix 129 rfl)) (hw _ (ix 126 rfl)) (by decide) (by decide)) (g := (mkF m 51 #[(sR b), (sI (0 : Int32)), (sJ px), .second, .unset] [(.long px), (.ref sd), (.ref b30), (.ref b30)])) rfl (sz hml) (Steps.refl _) (a := b30) (argsL := [(.ref sd), (.long px)]) (rest := [(.ref b30)]) (lenOf pd_oLcom_example_openvenue_openvenue_core_SideJcV rfl) rfl le0 (hb hby d17_51) (fun _ _ => ⟨rfl, e31, (by decide : 1 + 1 ≤ _), (by decide : 6 + 2 ≤ _)⟩)
   dsimp only [Pt.U, Pt.locs, Pt.cells, Pt.slots] at X32 l32 y32 z32 st32 hQ32
   subst l32 y32 z32
   obtain ⟨rfl, M32, K32, F_b30_p_32⟩ := hQ32
   have N32 := Fr.app N29 M32
   have O32 := O30.keep K32 (allS g_b30 all0)
   have KK32 : Keep h0 T32.heap [b, la, pa] := K30.trans K32 (allS (Or.inr z_b30) all0)
   have E_b_32 := E_b_30.keep K32
   have E_tm_32 := E_tm_30.keep K32
   have Fs_32 := Fs_30.keep K32 (ninS ne_tm_b30 nin0)
   have Fa_32 := Fa_30.keep K32 (ninS ne_b_b30 nin0)
   have Fb_32 := Fb_30.keep K32 (ninS ne_b_b30 nin0)
   have Fc_32 := Fc_30.keep K32 (ninS ne_b_b30 nin0)
   have Fd_32 := Fd_30.keep K32 (ninS ne_b_b30 nin0)
   have Fe_32 := Fe_30.keep K32 (ninS ne_b_b30 nin0)
   have E_a0_32 := E_a0_30.keep K32
   have F_a0_p_32 := F_a0_p_30.keep K32 (ninS ne_a0_b30 nin0)
   have V_la_32 := V_la_30.keep K32 (ninS ne_la_b30 nin0)
   have V_pa_32 := V_pa_30.keep K32 (ninS ne_pa_b30 nin0)
   have E_b30_32 := A30.keep K32
   refine gu (T32.setTop (mkF m 54 #[(sR b), (sI (0 : Int32)), (sJ px), .second, .unset] [(.ref b30)])) (fun t kt => st32.trans kt) ?_
   refine gu (T32.setTop (mkF m 57 #[(sR b), (sI (0 : Int32)), (sJ px), .second, (sR b30)] [(.ref b)])) (fun t kt => ?_) ?_
   ·refine XS.astore X32.here hx rfl (hb hby d17_54) rfl rfl (l' := #[(sR b), (sI (0 : Int32)), (sJ px), .second, (sR b30)]) rfl ?_
    show Steps _ _ _ (T32.setTop (mkF m 56 #[(sR b), (sI (0 : Int32)), (sJ px), .second, (sR b30)] [])) _
    refine XS.aloadN X32.here hx rfl (hb hby d17_56) rfl rfl ?_
    exact kt
   obtain ⟨T33, X33, e33, st33⟩ := getF X32 hx hZ hown (host := "") (Or.inl (hw _ (ix 14 rfl))) Via.refl rfl Fa_32 (g := (mkF m 57 #[(sR b), (sI (0 : Int32)), (sJ px), .second, (sR b30)] [(.ref b)])) rfl rfl (hb hby d17_57)
   refine gu (T33.setTop (mkF m 60 #[(sR b), (sI (0 : Int32)), (sJ px), .second, (sR b30)] [(.ref la)])) (fun t kt => st33 _ kt) ?_
   refine gu (T33.setTop (mkF m 63 #[(sR b), (sI (0 : Int32)), (sJ px), .second, (sR b30)] [(.ref b30), (.int (0 : Int32)), (.ref la)])) (fun t kt => ?_) ?_
   ·refine XS.iloadN X33.here hx rfl (hb hby d17_60) rfl ?_
    show Steps _ _ _ (T33.setTop (mkF m 61 #[(sR b), (sI (0 : Int32)), (sJ px), .second, (sR b30)] [(.int (0 : Int32)), (.ref la)])) _
    refine XS.aload X33.here hx rfl (hb hby d17_61) rfl rfl ?_
    exact kt
   obtain ⟨ca34, Ar34, q34, S34, M34, H34, U34⟩ := id V_la_32
   obtain ⟨T34, h34, X34, e34, W34, st34⟩ := stR X33 hx hZ e33 Ar34 (j := (0 : Int32)) (v := (.ref b30)) (inb_of S34 ⟨by decide, by decide⟩) rfl (Sto.ofV Ar34 q34 hov (Ins.self E_b30_32)) (g := (mkF m 63 #[(sR b), (sI (0 : Int32)), (sJ px), .second, (sR b30)] [(.ref b30), (.int (0 : Int32)), (.ref la)])) rfl rfl (hb hby d17_63)
   have N34 := Fr.snoc X34 N32 g_la
   have O34 := O32.wr W34 g_la
   have K34 : Keep h0 h34 [b, la, pa] := KK32.wr W34 (Or.inl (ix 1 rfl))
   have E_b_34 := E_b_32.wr W34
   have E_tm_34 := E_tm_32.wr W34
   have Fs_34 := Fs_32.other W34 (Or.inl ne_tm_la)
   have Fa_34 := Fa_32.other W34 (Or.inl ne_b_la)
   have Fb_34 := Fb_32.other W34 (Or.inl ne_b_la)
   have Fc_34 := Fc_32.other W34 (Or.inl ne_b_la)
   have Fd_34 := Fd_32.other W34 (Or.inl ne_b_la)
   have Fe_34 := Fe_32.other W34 (Or.inl ne_b_la)
   have E_a0_34 := E_a0_32.wr W34
   have F_a0_p_34 := F_a0_p_32.other W34 (Or.inl ne_a0_la)
   have V_pa_34 := V_pa_32.other W34 (Ne.symm ne_la_pa)
   have E_b30_34 := E_b30_32.wr W34
   have F_b30_p_34 := F_b30_p_32.other W34 (Or.inl (Ne.symm ne_la_b30))
   have V_la_34 : Arv Z h34 la kl oPL (256 : Int32) [(.ref b30), (.ref a0)] .null := Arv.set Ar34 q34 S34 M34 H34 U34 rfl W34 0 rfl (Nat.le_of_ble_eq_true rfl)
   refine gu (T34.setTop (mkF m 64 #[(sR b), (sI (0 : Int32)), (sJ px), .second, (sR b30)] [])) (fun t kt => st34 _ kt) ?_
   refine gu (T34.setTop (mkF m 65 #[(sR b), (sI (0 : Int32)), (sJ px), .second, (sR b30)] [(.ref b)])) (fun t kt => ?_) ?_
   ·refine XS.aloadN X34.here hx rfl (hb hby d17_64) rfl rfl ?_
    exact kt
   obtain ⟨T35, X35, e35, st35⟩ := getF X34 hx hZ hown (host := "") (Or.inl (hw _ (ix 17 rfl))) Via.refl e34 Fb_34 (g := (mkF m 65 #[(sR b), (sI (0 : Int32)), (sJ px), .second, (sR b30)] [(.ref b)])) rfl rfl (hb hby d17_65)
   refine gu (T35.setTop (mkF m 68 #[(sR b), (sI (0 : Int32)), (sJ px), .second, (sR b30)] [(.ref pa)])) (fun t kt => st35 _ kt) ?_
   refine gu (T35.setTop (mkF m 70 #[(sR b), (sI (0 : Int32)), (sJ px), .second, (sR b30)] [(.long px), (.int (0 : Int32)), (.ref pa)])) (fun t kt => ?_) ?_
   ·refine XS.iloadN X35.here hx rfl (hb hby d17_68) rfl ?_
    show Steps _ _ _ (T35.setTop (mkF m 69 #[(sR b), (sI (0 : Int32)), (sJ px), .second, (sR b30)] [(.int (0 : Int32)), (.ref pa)])) _
    refine XS.lloadN X35.here hx rfl (hb hby d17_69) rfl ?_
    exact kt
   obtain ⟨ca36, Ar36, q36, S36, M36, H36, U36⟩ := id V_pa_34
   obtain ⟨T36, h36, X36, e36, W36, st36⟩ := stJ X35 hx hZ e35 Ar36 (j := (0 : Int32)) (inb_of S36 ⟨by decide, by decide⟩) (g := (mkF m 70 #[(sR b), (sI (0 : Int32)), (sJ px), .second, (sR b30)] [(.long px), (.int (0 : Int32)), (.ref pa)])) rfl rfl (hb hby d17_70)
   have N36 := Fr.snoc X36 N34 g_pa
   have O36 := O34.wr W36 g_pa
   have K36 : Keep h0 h36 [b, la, pa] := K34.wr W36 (Or.inl (ix 2 rfl))
   have E_b_36 := E_b_34.wr W36
   have E_tm_36 := E_tm_34.wr W36
   have Fs_36 := Fs_34.other W36 (Or.inl ne_tm_pa)
   have Fa_36 := Fa_34.other W36 (Or.inl ne_b_pa)
   have Fb_36 := Fb_34.other W36 (Or.inl ne_b_pa)
   have Fc_36 := Fc_34.other W36 (Or.inl ne_b_pa)
   have Fd_36 := Fd_34.other W36 (Or.inl ne_b_pa)
   have Fe_36 := Fe_34.other W36 (Or.inl ne_b_pa)
   have E_a0_36 := E_a0_34.wr W36
   have F_a0_p_36 := F_a0_p_34.other W36 (Or.inl ne_a0_pa)
   have E_b30_36 := E_b30_34.wr W36
   have F_b30_p_36 := F_b30_p_34.other W36 (Or.inl (Ne.symm ne_pa_b30))
   have V_la_36 := V_la_34.other W36 ne_la_pa
   have V_pa_36 : Arv Z h36 pa kp .long (256 : Int32) [(.long px), (.long x0)] (.long (0 : Int64)) := Arv.set Ar36 q36 S36 M36 H36 U36 rfl W36 0 rfl (Nat.le_of_ble_eq_true rfl)
   refine gu (T36.setTop (mkF m 71 #[(sR b), (sI (0 : Int32)), (sJ px), .second, (sR b30)] [])) (fun t kt => st36 _ kt) ?_
   refine gu (T36.setTop (mkF m 73 #[(sR b), (sI (0 : Int32)), (sJ px), .second, (sR b30)] [(.ref b), (.ref b)])) (fun t kt => ?_) ?_
   ·refine XS.aloadN X36.here hx rfl (hb hby d17_71) rfl rfl ?_
    show Steps _ _ _ (T36.setTop (mkF m 72 #[(sR b), (sI (0 : Int32)), (sJ px), .second, (sR b30)] [(.ref b)])) _
    refine XS.dup X36.here hx rfl (hb hby d17_72) rfl rfl ?_
    exact kt
   obtain ⟨T37, X37, e37, st37⟩ := getF X36 hx hZ hown (host := "") (Or.inl (hw _ (ix 77 rfl))) Via.refl e36 Fe_36 (g := (mkF m 73 #[(sR b), (sI (0 : Int32)), (sJ px), .second, (sR b30)] [(.ref b), (.ref b)])) rfl rfl (hb hby d17_73)
   refine gu (T37.setTop (mkF m 76 #[(sR b), (sI (0 : Int32)), (sJ px), .second, (sR b30)] [(.int (1 : Int32)), (.ref b)])) (fun t kt => st37 _ kt) ?_
   refine gu (T37.setTop (mkF m 78 #[(sR b), (sI (0 : Int32)), (sJ px), .second, (sR b30)] [(.int (2 : Int32)), (.ref b)])) (fun t kt => ?_) ?_
   ·refine XS.iconst X37.here hx rfl (hb hby d17_76) ?_
    show Steps _ _ _ (T37.setTop (mkF m 77 #[(sR b), (sI (0 : Int32)), (sJ px), .second, (sR b30)] [(.int (1 : Int32)), (.int (1 : Int32)), (.ref b)])) _
    refine XS.iadd X37.here hx rfl (hb hby d17_77) rfl ?_
    exact kt
   obtain ⟨T38, h38, X38, e38, W38, st38⟩ := putF X37 hx hZ hown (host := "") (Or.inl (hw _ (ix 77 rfl))) Via.refl e37 Fe_36 E_b_36 (Or.inl (hw _ (ix 78 rfl))) (hw _ (ix 4 rfl)) (ty := .int) (by decide) rfl rfl (g := (mkF m 78 #[(sR b), (sI (0 : Int32)), (sJ px), .second, (sR b30)] [(.int (2 : Int32)), (.ref b)])) rfl rfl (hb hby d17_78)
   have N38 := Fr.snoc X38 N36 g_b
   have O38 := O36.wr W38 g_b
   have K38 : Keep h0 h38 [b, la, pa] := K36.wr W38 (Or.inl (ix 0 rfl))
   have E_b_38 := E_b_36.wr W38
   have E_tm_38 := E_tm_36.wr W38
   have Fs_38 := Fs_36.other W38 (Or.inl (Ne.symm ne_b_tm))
   have Fa_38 := Fa_36.other W38 (Or.inr (slot_ne (Or.inr (hw _ (ix 15 rfl))) (Or.inl (hw _ (ix 78 rfl))) (by decide) (t := (.array (.object "com/example/openvenue/openvenue/core/PriceLevel"))) (t' := .int) (by decide) (by decide)))
   have Fb_38 := Fb_36.other W38 (Or.inr (slot_ne (Or.inr (hw _ (ix 18 rfl))) (Or.inl (hw _ (ix 78 rfl))) (by decide) (t := (.array .long)) (t' := .int) (by decide) (by decide)))
   have Fc_38 := Fc_36.other W38 (Or.inr (slot_ne (Or.inr (hw _ (ix 36 rfl))) (Or.inl (hw _ (ix 78 rfl))) (by decide) (t := (.object "com/example/openvenue/openvenue/core/Side")) (t' := .int) (by decide) (by decide)))
   have Fd_38 := Fd_36.other W38 (Or.inr (slot_ne (Or.inr (hw _ (ix 65 rfl))) (Or.inl (hw _ (ix 78 rfl))) (by decide) (t := (.object "java/util/NavigableMap")) (t' := .int) (by decide) (by decide)))
   have E_a0_38 := E_a0_36.wr W38
   have F_a0_p_38 := F_a0_p_36.other W38 (Or.inl (Ne.symm ne_b_a0))
   have E_b30_38 := E_b30_36.wr W38
   have F_b30_p_38 := F_b30_p_36.other W38 (Or.inl (Ne.symm ne_b_b30))
   have V_la_38 := V_la_36.other W38 (Ne.symm ne_b_la)
   have V_pa_38 := V_pa_36.other W38 (Ne.symm ne_b_pa)
   have Fe_38 := Fe_36.same W38
   refine gu (T38.setTop (mkF m 81 #[(sR b), (sI (0 : Int32)), (sJ px), .second, (sR b30)] [])) (fun t kt => st38 _ kt) ?_
   refine gu (T38.setTop (mkF m 83 #[(sR b), (sI (0 : Int32)), (sJ px), .second, (sR b30)] [(.ref b30)])) (fun t kt => ?_) ?_
   ·refine XS.aload X38.here hx rfl (hb hby d17_81) rfl rfl ?_
    exact kt
   refine Gl.retR X38 hx hlk Bd.returns (hb hby d17_83) rfl rfl ?_ (by decide) (by decide)
   show Q17 Z _ _ _ _ _ _ _ _ _ _ _ h0 n0 _ T38.heap _; rw [e38]; have BB : Bk Z n0 h38 b la pa tm sd wB kl kp [(b30, px), (a0, x0)] := ⟨E_b_38, Fa_38, Fb_38, Fc_38, Fd_38, Fe_38, E_tm_38, Fs_38, V_la_38, V_pa_38, hov, g_b, g_la, g_pa, (lvS ⟨E_b30_38, F_b30_p_38⟩ (lvS ⟨E_a0_38, F_a0_p_38⟩ lv0)), hord⟩; exact ⟨b30, rfl, N38, K38, BB⟩
  ·refine gu (s₁.setTop (mkF m 1 #[(sR b), (sI (1 : Int32)), (sJ px), .second, .unset] [(.ref b)])) (fun t kt => ?_) ?_
   ·refine XS.aloadN X0.here hx rfl (hb hby d17_0) rfl rfl ?_
    exact kt
   obtain ⟨T39, X39, e39, st39⟩ := getF X0 hx hZ hown (host := "") (Or.inl (hw _ (ix 14 rfl))) Via.refl e0 Fa (g := (mkF m 1 #[(sR b), (sI (1 : Int32)), (sJ px), .second, .unset] [(.ref b)])) rfl rfl (hb hby d17_1)
   refine gu (T39.setTop (mkF m 4 #[(sR b), (sI (1 : Int32)), (sJ px), .second, .unset] [(.ref la)])) (fun t kt => st39 _ kt) ?_
   refine gu (T39.setTop (mkF m 6 #[(sR b), (sI (1 : Int32)), (sJ px), .second, .unset] [(.ref b), (.int (1 : Int32)), (.ref la)])) (fun t kt => ?_) ?_
   ·refine XS.iloadN X39.here hx rfl (hb hby d17_4) rfl ?_
    show Steps _ _ _ (T39.setTop (mkF m 5 #[(sR b), (sI (1 : Int32)), (sJ px), .second, .unset] [(.int (1 : Int32)), (.ref la)])) _
    refine XS.aloadN X39.here hx rfl (hb hby d17_5) rfl rfl ?_
    exact kt
   obtain ⟨T40, X40, e40, st40⟩ := getF X39 hx hZ hown (host := "") (Or.inl (hw _ (ix 14 rfl))) Via.refl e39 Fa (g := (mkF m 6 #[(sR b), (sI (1 : Int32)), (sJ px), .second, .unset] [(.ref b), (.int (1 : Int32)), (.ref la)])) rfl rfl (hb hby d17_6)
   refine gu (T40.setTop (mkF m 9 #[(sR b), (sI (1 : Int32)), (sJ px), .second, .unset] [(.ref la), (.int (1 : Int32)), (.ref la)])) (fun t kt => st40 _ kt) ?_
   refine gu (T40.setTop (mkF m 13 #[(sR b), (sI (1 : Int32)), (sJ px), .second, .unset] [(.ref b), (.int (2 : Int32)), (.ref la), (.int (1 : Int32)), (.ref la)])) (fun t kt => ?_) ?_
   ·refine XS.iloadN X40.here hx rfl (hb hby d17_9) rfl ?_
    show Steps _ _ _ (T40.setTop (mkF m 10 #[(sR b), (sI (1 : Int32)), (sJ px), .second, .unset] [(.int (1 : Int32)), (.ref la), (.int (1 : Int32)), (.ref la)])) _
    refine XS.iconst X40.here hx rfl (hb hby d17_10) ?_
    show Steps _ _ _ (T40.setTop (mkF m 11 #[(sR b), (sI (1 : Int32)), (sJ px), .second, .unset] [(.int (1 : Int32)), (.int (1 : Int32)), (.ref la), (.int (1 : Int32)), (.ref la)])) _
    refine XS.iadd X40.here hx rfl (hb hby d17_11) rfl ?_
    show Steps _ _ _ (T40.setTop (mkF m 12 #[(sR b), (sI (1 : Int32)), (sJ px), .second, .unset] [(.int (2 : Int32)), (.ref la), (.int (1 : Int32)), (.ref la)])) _
    refine XS.aloadN X40.here hx rfl (hb hby d17_12) rfl rfl ?_
    exact kt
   obtain ⟨T41, X41, e41, st41⟩ := getF X40 hx hZ hown (host := "") (Or.inl (hw _ (ix 77 rfl))) Via.refl e40 Fe (g := (mkF m 13 #[(sR b), (sI (1 : Int32)), (sJ px), .second, .unset] [(.ref b), (.int (2 : Int32)), (.ref la), (.int (1 : Int32)), (.ref la)])) rfl rfl (hb hby d17_13)
   refine gu (T41.setTop (mkF m 16 #[(sR b), (sI (1 : Int32)), (sJ px), .second, .unset] [(.int (1 : Int32)), (.int (2 : Int32)), (.ref la), (.int (1 : Int32)), (.ref la)])) (fun t kt => st41 _ kt) ?_
   refine gu (T41.setTop (mkF m 18 #[(sR b), (sI (1 : Int32)), (sJ px), .second, .unset] [(.int (0 : Int32)), (.int (2 : Int32)), (.ref la), (.int (1 : Int32)), (.ref la)])) (fun t kt => ?_) ?_
   ·refine XS.iloadN X41.here hx rfl (hb hby d17_16) rfl ?_
    show Steps _ _ _ (T41.setTop (mkF m 17 #[(sR b), (sI (1 : Int32)), (sJ px), .second, .unset] [(.int (1 : Int32)), (.int (1 : Int32)), (.int (2 : Int32)), (.ref la), (.int (1 : Int32)), (.ref la)])) _
    refine XS.isub X41.here hx rfl (hb hby d17_17) rfl ?_
    exact kt
   have V_la_42 : Arv Z h0 la kl oPL (256 : Int32) [(.ref a0), .null] .null := V_la.pad (pad_rep [(.ref a0)] .null 1)
   obtain ⟨ca43, Ar43, q43, S43, M43, H43, U43⟩ := id V_la_42
   obtain ⟨T43, h43, Lc43, X43, e43, N43, K43, W43, st43⟩ := cpA X41 hx hZ hown (hw _ (ix 121 rfl)) (hw _ (ix 124 rfl)) (hw _ (ix 122 rfl)) (hw _ (ix 123 rfl)) e41 (sp := (1 : Int32)) (dp := (2 : Int32)) (nn := (0 : Int32)) (us := []) V_la_42 V_la_42 (Or.inr ⟨rfl, rfl, trivial⟩) (by decide) (by decide) (by decide) (by decide) (by decide) rfl (Nat.le_of_ble_eq_true rfl) N0 g_la (g := (mkF m 18 #[(sR b), (sI (1 : Int32)), (sJ px), .second, .unset] [(.int (0 : Int32)), (.int (2 : Int32)), (.ref la), (.int (1 : Int32)), (.ref la)])) rfl (sz hml) rfl (hb hby d17_18) (by decide) (W := 0) le0 (by decide)
   have O43 := O0.keep K43 (allS g_la all0)
   have KK43 : Keep h0 h43 [b, la, pa] := K0.trans K43 (allS (Or.inl (ix 1 rfl)) all0)
   have E_b_43 := E_b.keep K43
   have E_tm_43 := E_tm.keep K43
   have Fs_43 := Fs.keep K43 (ninS ne_tm_la nin0)
   have Fa_43 := Fa.keep K43 (ninS ne_b_la nin0)
   have Fb_43 := Fb.keep K43 (ninS ne_b_la nin0)
   have Fc_43 := Fc.keep K43 (ninS ne_b_la nin0)
   have Fd_43 := Fd.keep K43 (ninS ne_b_la nin0)
   have Fe_43 := Fe.keep K43 (ninS ne_b_la nin0)
   have V_pa_43 := V_pa.keep K43 (ninS (Ne.symm ne_la_pa) nin0)
   have E_a0_43 := E_a0.keep K43
   have F_a0_p_43 := F_a0_price.keep K43 (ninS ne_a0_la nin0)
   have V_la_43 : Arv Z h43 la kl oPL (256 : Int32) [(.ref a0), .null] .null := W43
   refine gu (T43.setTop (mkF m 21 #[(sR b), (sI (1 : Int32)), (sJ px), .second, .unset] [])) (fun t kt => st43 _ kt) ?_
   refine gu (T43.setTop (mkF m 22 #[(sR b), (sI (1 : Int32)), (sJ px), .second, .unset] [(.ref b)])) (fun t kt => ?_) ?_
   ·refine XS.aloadN X43.here hx rfl (hb hby d17_21) rfl rfl ?_
    exact kt
   obtain ⟨T44, X44, e44, st44⟩ := getF X43 hx hZ hown (host := "") (Or.inl (hw _ (ix 17 rfl))) Via.refl e43 Fb_43 (g := (mkF m 22 #[(sR b), (sI (1 : Int32)), (sJ px), .second, .unset] [(.ref b)])) rfl rfl (hb hby d17_22)
   refine gu (T44.setTop (mkF m 25 #[(sR b), (sI (1 : Int32)), (sJ px), .second, .unset] [(.ref pa)])) (fun t kt => st44 _ kt) ?_
   refine gu (T44.setTop (mkF m 27 #[(sR b), (sI (1 : Int32)), (sJ px), .second, .unset] [(.ref b), (.int (1 : Int32)), (.ref pa)])) (fun t kt => ?_) ?_
   ·refine XS.iloadN X44.here hx rfl (hb hby d17_25) rfl ?_
    show Steps _ _ _ (T44.setTop (mkF m 26 #[(sR b), (sI (1 : Int32)), (sJ px), .second, .unset] [(.int (1 : Int32)), (.ref pa)])) _
    refine XS.aloadN X44.here hx rfl (hb hby d17_26) rfl rfl ?_
    exact kt
   obtain ⟨T45, X45, e45, st45⟩ := getF X44 hx hZ hown (host := "") (Or.inl (hw _ (ix 17 rfl))) Via.refl e44 Fb_43 (g := (mkF m 27 #[(sR b), (sI (1 : Int32)), (sJ px), .second, .unset] [(.ref b), (.int (1 : Int32)), (.ref pa)])) rfl rfl (hb hby d17_27)
   refine gu (T45.setTop (mkF m 30 #[(sR b), (sI (1 : Int32)), (sJ px), .second, .unset] [(.ref pa), (.int (1 : Int32)), (.ref pa)])) (fun t kt => st45 _ kt) ?_
   refine gu (T45.setTop (mkF m 34 #[(sR b), (sI (1 : Int32)), (sJ px), .second, .unset] [(.ref b), (.int (2 : Int32)), (.ref pa), (.int (1 : Int32)), (.ref pa)])) (fun t kt => ?_) ?_
   ·refine XS.iloadN X45.here hx rfl (hb hby d17_30) rfl ?_
    show Steps _ _ _ (T45.setTop (mkF m 31 #[(sR b), (sI (1 : Int32)), (sJ px), .second, .unset] [(.int (1 : Int32)), (.ref pa), (.int (1 : Int32)), (.ref pa)])) _
    refine XS.iconst X45.here hx rfl (hb hby d17_31) ?_
    show Steps _ _ _ (T45.setTop (mkF m 32 #[(sR b), (sI (1 : Int32)), (sJ px), .second, .unset] [(.int (1 : Int32)), (.int (1 : Int32)), (.ref pa), (.int (1 : Int32)), (.ref pa)])) _
    refine XS.iadd X45.here hx rfl (hb hby d17_32) rfl ?_
    show Steps _ _ _ (T45.setTop (mkF m 33 #[(sR b), (sI (1 : Int32)), (sJ px), .second, .unset] [(.int (2 : Int32)), (.ref pa), (.int (1 : Int32)), (.ref pa)])) _
    refine XS.aloadN X45.here hx rfl (hb hby d17_33) rfl rfl ?_
    exact kt
   obtain ⟨T46, X46, e46, st46⟩ := getF X45 hx hZ hown (host := "") (Or.inl (hw _ (ix 77 rfl))) Via.refl e45 Fe_43 (g := (mkF m 34 #[(sR b), (sI (1 : Int32)), (sJ px), .second, .unset] [(.ref b), (.int (2 : Int32)), (.ref pa), (.int (1 : Int32)), (.ref pa)])) rfl rfl (hb hby d17_34)
   refine gu (T46.setTop (mkF m 37 #[(sR b), (sI (1 : Int32)), (sJ px), .second, .unset] [(.int (1 : Int32)), (.int (2 : Int32)), (.ref pa), (.int (1 : Int32)), (.ref pa)])) (fun t kt => st46 _ kt) ?_
   refine gu (T46.setTop (mkF m 39 #[(sR b), (sI (1 : Int32)), (sJ px), .second, .unset] [(.int (0 : Int32)), (.int (2 : Int32)), (.ref pa), (.int (1 : Int32)), (.ref pa)])) (fun t kt => ?_) ?_
   ·refine XS.iloadN X46.here hx rfl (hb hby d17_37) rfl ?_
    show Steps _ _ _ (T46.setTop (mkF m 38 #[(sR b), (sI (1 : Int32)), (sJ px), .second, .unset] [(.int (1 : Int32)), (.int (1 : Int32)), (.int (2 : Int32)), (.ref pa), (.int (1 : Int32)), (.ref pa)])) _
    refine XS.isub X46.here hx rfl (hb hby d17_38) rfl ?_
    exact kt
   have V_pa_47 : Arv Z h43 pa kp .long (256 : Int32) [(.long x0), (.long (0 : Int64))] (.long (0 : Int64)) := V_pa_43.pad (pad_rep [(.long x0)] (.long (0 : Int64)) 1)
   obtain ⟨ca48, Ar48, q48, S48, M48, H48, U48⟩ := id V_pa_47
   obtain ⟨T48, h48, Lc48, X48, e48, N48, K48, W48, st48⟩ := cpA X46 hx hZ hown (hw _ (ix 121 rfl)) (hw _ (ix 124 rfl)) (hw _ (ix 122 rfl)) (hw _ (ix 123 rfl)) e46 (sp := (1 : Int32)) (dp := (2 : Int32)) (nn := (0 : Int32)) (us := []) V_pa_47 V_pa_47 (Or.inl ⟨rfl, rfl⟩) (by decide) (by decide) (by decide) (by decide) (by decide) rfl (Nat.le_of_ble_eq_true rfl) N43 g_pa (g := (mkF m 39 #[(sR b), (sI (1 : Int32)), (sJ px), .second, .unset] [(.int (0 : Int32)), (.int (2 : Int32)), (.ref pa), (.int (1 : Int32)), (.ref pa)])) rfl (sz hml) rfl (hb hby d17_39) (by decide) (W := 0) le0 (by decide)
   have O48 := O43.keep K48 (allS g_pa all0)
   have KK48 : Keep h0 h48 [b, la, pa] := KK43.trans K48 (allS (Or.inl (ix 2 rfl)) all0)
   have E_b_48 := E_b_43.keep K48
   have E_tm_48 := E_tm_43.keep K48
   have Fs_48 := Fs_43.keep K48 (ninS ne_tm_pa nin0)
   have Fa_48 := Fa_43.keep K48 (ninS ne_b_pa nin0)
   have Fb_48 := Fb_43.keep K48 (ninS ne_b_pa nin0)
   have Fc_48 := Fc_43.keep K48 (ninS ne_b_pa nin0)
   have Fd_48 := Fd_43.keep K48 (ninS ne_b_pa nin0)
   have Fe_48 := Fe_43.keep K48 (ninS ne_b_pa nin0)
   have E_a0_48 := E_a0_43.keep K48
   have F_a0_p_48 := F_a0_p_43.keep K48 (ninS ne_a0_pa nin0)
   have V_la_48 := V_la_43.keep K48 (ninS ne_la_pa nin0)
   have V_pa_48 : Arv Z h48 pa kp .long (256 : Int32) [(.long x0), (.long (0 : Int64))] (.long (0 : Int64)) := W48
   refine gu (T48.setTop (mkF m 42 #[(sR b), (sI (1 : Int32)), (sJ px), .second, .unset] [])) (fun t kt => st48 _ kt) ?_
   obtain ⟨T49, h49, X49, e49, E49, A49, D49, -, st49⟩ := newO X48 hx hZ hown (hw _ (ix 12 rfl)) (hw _ (ix 125 rfl)) (hw _ (ix 126 rfl)) e48 (g := (mkF m 42 #[(sR b), (sI (1 : Int32)), (sJ px), .second, .unset] [])) rfl (hb hby d17_42) (by decide) (by decide)
   obtain ⟨b49, gq49⟩ : ∃ z, z = h48.size := ⟨_, rfl⟩
   rw [← gq49] at A49 D49 st49
   have ne_b_b49 : b ≠ b49 := Nat.ne_of_lt (Nat.lt_of_lt_of_le E_b_48.lt (Nat.le_of_eq gq49.symm))
   have ne_tm_b49 : tm ≠ b49 := Nat.ne_of_lt (Nat.lt_of_lt_of_le E_tm_48.lt (Nat.le_of_eq gq49.symm))
   have ne_a0_b49 : a0 ≠ b49 := Nat.ne_of_lt (Nat.lt_of_lt_of_le E_a0_48.lt (Nat.le_of_eq gq49.symm))
   have ne_la_b49 : la ≠ b49 := Nat.ne_of_lt (Nat.lt_of_lt_of_le V_la_48.lt (Nat.le_of_eq gq49.symm))
   have ne_pa_b49 : pa ≠ b49 := Nat.ne_of_lt (Nat.lt_of_lt_of_le V_pa_48.lt (Nat.le_of_eq gq49.symm))
   have g_b49 : n0 ≤ b49 := Nat.le_trans (old_le O48) (Nat.le_of_eq gq49.symm)
   have z_b49 : h0.size ≤ b49 := Nat.le_trans KK48.1 (Nat.le_of_eq gq49.symm)
   have O49 := O48.ext E49
   have K49 : Keep h0 h49 [b, la, pa] := KK48.ext E49
   have E_b_49 := E_b_48.ext E49
   have E_tm_49 := E_tm_48.ext E49
   have Fs_49 := Fs_48.ext E49
   have Fa_49 := Fa_48.ext E49
   have Fb_49 := Fb_48.ext E49
   have Fc_49 := Fc_48.ext E49
   have Fd_49 := Fd_48.ext E49
   have Fe_49 := Fe_48.ext E49
   have E_a0_49 := E_a0_48.ext E49
   have F_a0_p_49 := F_a0_p_48.ext E49
   have V_la_49 := V_la_48.ext E49
   have V_pa_49 := V_pa_48.ext E49
   have F_b49_quantity_49 : Fld Z h49 b49 "com/example/openvenue/openvenue/core/PriceLevel" "quantity" "Lcom/example/openvenue/openvenue/core/QuantityTotal;" .null := D49 (Or.inr (hw _ (ix 139 rfl))) (ty := (.object "com/example/openvenue/openvenue/core/QuantityTotal")) (by decide)
   have F_b49_side_49 : Fld Z h49 b49 "com/example/openvenue/openvenue/core/PriceLevel" "side" "Lcom/example/openvenue/openvenue/core/Side;" .null := D49 (Or.inr (hw _ (ix 141 rfl))) (ty := (.object "com/example/openvenue/openvenue/core/Side")) (by decide)
   have F_b49_p_49 : Fld Z h49 b49 "com/example/openvenue/openvenue/core/PriceLevel" "price" "J" (.long (0 : Int64)) := D49 (Or.inr (hw _ (ix 143 rfl))) (ty := .long) (by decide)
   refine gu (T49.setTop (mkF m 45 #[(sR b), (sI (1 : Int32)), (sJ px), .second, .unset] [(.ref b49)])) (fun t kt => st49 _ kt) ?_
   refine gu (T49.setTop (mkF m 47 #[(sR b), (sI (1 : Int32)), (sJ px), .second, .unset] [(.ref b), (.ref b49), (.ref b49)])) (fun t kt => ?_) ?_
   ·refine XS.dup X49.here hx rfl (hb hby d17_45) rfl rfl ?_
    show Steps _ _ _ (T49.setTop (mkF m 46 #[(sR b), (sI (1 : Int32)), (sJ px), .second, .unset] [(.ref b49), (.ref b49)])) _
    refine XS.aloadN X49.here hx rfl (hb hby d17_46) rfl rfl ?_
    exact kt
   obtain ⟨T50, X50, e50, st50⟩ := getF X49 hx hZ hown (host := "") (Or.inl (hw _ (ix 35 rfl))) Via.refl e49 Fc_49 (g := (mkF m 47 #[(sR b), (sI (1 : Int32)), (sJ px), .second, .unset] [(.ref b), (.ref b49), (.ref b49)])) rfl rfl (hb hby d17_47)
   refine gu (T50.setTop (mkF m 50 #[(sR b), (sI (1 : Int32)), (sJ px), .second, .unset] [(.ref sd), (.ref b49), (.ref b49)])) (fun t kt => st50 _ kt) ?_
   refine gu (T50.setTop (mkF m 51 #[(sR b), (sI (1 : Int32)), (sJ px), .second, .unset] [(.long px), (.ref sd), (.ref b49), (.ref b49)])) (fun t kt => ?_) ?_
   ·refine XS.lloadN X50.here hx rfl (hb hby d17_50) rfl ?_
    exact kt
   obtain ⟨_, _, ⟨T51, L51, k51, n51⟩, -, X51, ⟨Lc51, hQ51, l51, y51, z51⟩, st51⟩ := X50.specialBack hx (y := mn2) rfl hown (mvT hZ (hw _ (ix 127 rfl))) (mvT hZ (hw _ (ix 128 rfl))) (mvT hZ (hw _ (ix 129 rfl))) (by decide) (backOf (W := 1) (rm3 l Z aa hw [] b49 sd px (0 : Int64) h49 n0 O49 A49 F_b49_quantity_49 F_b49_side_49 F_b49_p_49 g_b49) hZ (hw _ (ix 129 rfl)) (hw _ (ix 126 rfl)) (by decide) (by decide)) (g := (mkF m 51 #[(sR b), (sI (1 : Int32)), (sJ px), .second, .unset] [(.long px), (.ref sd), (.ref b49), (.ref b49)])) rfl (sz hml) (Steps.refl _) (a := b49) (argsL := [(.ref sd), (.long px)]) (rest := [(.ref b49)]) (lenOf pd_oLcom_example_openvenue_openvenue_core_SideJcV rfl) rfl le0 (hb hby d17_51) (fun _ _ => ⟨rfl, e50, (by decide : 1 + 1 ≤ _), (by decide : 6 + 2 ≤ _)⟩)
   dsimp only [Pt.U, Pt.locs, Pt.cells, Pt.slots] at X51 l51 y51 z51 st51 hQ51
   subst l51 y51 z51
   obtain ⟨rfl, M51, K51, F_b49_p_51⟩ := hQ51
   have N51 := Fr.app N48 M51
   have O51 := O49.keep K51 (allS g_b49 all0)
   have KK51 : Keep h0 T51.heap [b, la, pa] := K49.trans K51 (allS (Or.inr z_b49) all0)
   have E_b_51 := E_b_49.keep K51
   have E_tm_51 := E_tm_49.keep K51
   have Fs_51 := Fs_49.keep K51 (ninS ne_tm_b49 nin0)
   have Fa_51 := Fa_49.keep K51 (ninS ne_b_b49 nin0)
   have Fb_51 := Fb_49.keep K51 (ninS ne_b_b49 nin0)
   have Fc_51 := Fc_49.keep K51 (ninS ne_b_b49 nin0)
   have Fd_51 := Fd_49.keep K51 (ninS ne_b_b49 nin0)
   have Fe_51 := Fe_49.keep K51 (ninS ne_b_b49 nin0)
   have E_a0_51 := E_a0_49.keep K51
   have F_a0_p_51 := F_a0_p_49.keep K51 (ninS ne_a0_b49 nin0)
   have V_la_51 := V_la_49.keep K51 (ninS ne_la_b49 nin0)
   have V_pa_51 := V_pa_49.keep K51 (ninS ne_pa_b49 nin0)
   have E_b49_51 := A49.keep K51
   refine gu (T51.setTop (mkF m 54 #[(sR b), (sI (1 : Int32)), (sJ px), .second, .unset] [(.ref b49)])) (fun t kt => st51.trans kt) ?_
   refine gu (T51.setTop (mkF m 57 #[(sR b), (sI (1 : Int32)), (sJ px), .second, (sR b49)] [(.ref b)])) (fun t kt => ?_) ?_
   ·refine XS.astore X51.here hx rfl (hb hby d17_54) rfl rfl (l' := #[(sR b), (sI (1 : Int32)), (sJ px), .second, (sR b49)]) rfl ?_
    show Steps _ _ _ (T51.setTop (mkF m 56 #[(sR b), (sI (1 : Int32)), (sJ px), .second, (sR b49)] [])) _
    refine XS.aloadN X51.here hx rfl (hb hby d17_56) rfl rfl ?_
    exact kt
   obtain ⟨T52, X52, e52, st52⟩ := getF X51 hx hZ hown (host := "") (Or.inl (hw _ (ix 14 rfl))) Via.refl rfl Fa_51 (g := (mkF m 57 #[(sR b), (sI (1 : Int32)), (sJ px), .second, (sR b49)] [(.ref b)])) rfl rfl (hb hby d17_57)
   refine gu (T52.setTop (mkF m 60 #[(sR b), (sI (1 : Int32)), (sJ px), .second, (sR b49)] [(.ref la)])) (fun t kt => st52 _ kt) ?_
   refine gu (T52.setTop (mkF m 63 #[(sR b), (sI (1 : Int32)), (sJ px), .second, (sR b49)] [(.ref b49), (.int (1 : Int32)), (.ref la)])) (fun t kt => ?_) ?_
   ·refine XS.iloadN X52.here hx rfl (hb hby d17_60) rfl ?_
    show Steps _ _ _ (T52.setTop (mkF m 61 #[(sR b), (sI (1 : Int32)), (sJ px), .second, (sR b49)] [(.int (1 : Int32)), (.ref la)])) _
    refine XS.aload X52.here hx rfl (hb hby d17_61) rfl rfl ?_
    exact kt
   obtain ⟨ca53, Ar53, q53, S53, M53, H53, U53⟩ := id V_la_51
   obtain ⟨T53, h53, X53, e53, W53, st53⟩ := stR X52 hx hZ e52 Ar53 (j := (1 : Int32)) (v := (.ref b49)) (inb_of S53 ⟨by decide, by decide⟩) rfl (Sto.ofV Ar53 q53 hov (Ins.self E_b49_51)) (g := (mkF m 63 #[(sR b), (sI (1 : Int32)), (sJ px), .second, (sR b49)] [(.ref b49), (.int (1 : Int32)), (.ref la)])) rfl rfl (hb hby d17_63)
   have N53 := Fr.snoc X53 N51 g_la
   have O53 := O51.wr W53 g_la
   have K53 : Keep h0 h53 [b, la, pa] := KK51.wr W53 (Or.inl (ix 1 rfl))
   have E_b_53 := E_b_51.wr W53
   have E_tm_53 := E_tm_51.wr W53
   have Fs_53 := Fs_51.other W53 (Or.inl ne_tm_la)
   have Fa_53 := Fa_51.other W53 (Or.inl ne_b_la)
   have Fb_53 := Fb_51.other W53 (Or.inl ne_b_la)
   have Fc_53 := Fc_51.other W53 (Or.inl ne_b_la)
   have Fd_53 := Fd_51.other W53 (Or.inl ne_b_la)
   have Fe_53 := Fe_51.other W53 (Or.inl ne_b_la)
   have E_a0_53 := E_a0_51.wr W53
   have F_a0_p_53 := F_a0_p_51.other W53 (Or.inl ne_a0_la)
   have V_pa_53 := V_pa_51.other W53 (Ne.symm ne_la_pa)
   have E_b49_53 := E_b49_51.wr W53
   have F_b49_p_53 := F_b49_p_51.other W53 (Or.inl (Ne.symm ne_la_b49))
   have V_la_53 : Arv Z h53 la kl oPL (256 : Int32) [(.ref a0), (.ref b49)] .null := Arv.set Ar53 q53 S53 M53 H53 U53 rfl W53 1 rfl (Nat.le_of_ble_eq_true rfl)
   refine gu (T53.setTop (mkF m 64 #[(sR b), (sI (1 : Int32)), (sJ px), .second, (sR b49)] [])) (fun t kt => st53 _ kt) ?_
   refine gu (T53.setTop (mkF m 65 #[(sR b), (sI (1 : Int32)), (sJ px), .second, (sR b49)] [(.ref b)])) (fun t kt => ?_) ?_
   ·refine XS.aloadN X53.here hx rfl (hb hby d17_64) rfl rfl ?_
    exact kt
   obtain ⟨T54, X54, e54, st54⟩ := getF X53 hx hZ hown (host := "") (Or.inl (hw _ (ix 17 rfl))) Via.refl e53 Fb_53 (g := (mkF m 65 #[(sR b), (sI (1 : Int32)), (sJ px), .second, (sR b49)] [(.ref b)])) rfl rfl (hb hby d17_65)
   refine gu (T54.setTop (mkF m 68 #[(sR b), (sI (1 : Int32)), (sJ px), .second, (sR b49)] [(.ref pa)])) (fun t kt => st54 _ kt) ?_
   refine gu (T54.setTop (mkF m 70 #[(sR b), (sI (1 : Int32)), (sJ px), .second, (sR b49)] [(.long px), (.int (1 : Int32)), (.ref pa)])) (fun t kt => ?_) ?_
   ·refine XS.iloadN X54.here hx rfl (hb hby d17_68) rfl ?_
    show Steps _ _ _ (T54.setTop (mkF m 69 #[(sR b), (sI (1 : Int32)), (sJ px), .second, (sR b49)] [(.int (1 : Int32)), (.ref pa)])) _
    refine XS.lloadN X54.here hx rfl (hb hby d17_69) rfl ?_
    exact kt
   obtain ⟨ca55, Ar55, q55, S55, M55, H55, U55⟩ := id V_pa_53
   obtain ⟨T55, h55, X55, e55, W55, st55⟩ := stJ X54 hx hZ e54 Ar55 (j := (1 : Int32)) (inb_of S55 ⟨by decide, by decide⟩) (g := (mkF m 70 #[(sR b), (sI (1 : Int32)), (sJ px), .second, (sR b49)] [(.long px), (.int (1 : Int32)), (.ref pa)])) rfl rfl (hb hby d17_70)
   have N55 := Fr.snoc X55 N53 g_pa
   have O55 := O53.wr W55 g_pa
   have K55 : Keep h0 h55 [b, la, pa] := K53.wr W55 (Or.inl (ix 2 rfl))
   have E_b_55 := E_b_53.wr W55
   have E_tm_55 := E_tm_53.wr W55
   have Fs_55 := Fs_53.other W55 (Or.inl ne_tm_pa)
   have Fa_55 := Fa_53.other W55 (Or.inl ne_b_pa)
   have Fb_55 := Fb_53.other W55 (Or.inl ne_b_pa)
   have Fc_55 := Fc_53.other W55 (Or.inl ne_b_pa)
   have Fd_55 := Fd_53.other W55 (Or.inl ne_b_pa)
   have Fe_55 := Fe_53.other W55 (Or.inl ne_b_pa)
   have E_a0_55 := E_a0_53.wr W55
   have F_a0_p_55 := F_a0_p_53.other W55 (Or.inl ne_a0_pa)
   have E_b49_55 := E_b49_53.wr W55
   have F_b49_p_55 := F_b49_p_53.other W55 (Or.inl (Ne.symm ne_pa_b49))
   have V_la_55 := V_la_53.other W55 ne_la_pa
   have V_pa_55 : Arv Z h55 pa kp .long (256 : Int32) [(.long x0), (.long px)] (.long (0 : Int64)) := Arv.set Ar55 q55 S55 M55 H55 U55 rfl W55 1 rfl (Nat.le_of_ble_eq_true rfl)
   refine gu (T55.setTop (mkF m 71 #[(sR b), (sI (1 : Int32)), (sJ px), .second, (sR b49)] [])) (fun t kt => st55 _ kt) ?_
   refine gu (T55.setTop (mkF m 73 #[(sR b), (sI (1 : Int32)), (sJ px), .second, (sR b49)] [(.ref b), (.ref b)])) (fun t kt => ?_) ?_
   ·refine XS.aloadN X55.here hx rfl (hb hby d17_71) rfl rfl ?_
    show Steps _ _ _ (T55.setTop (mkF m 72 #[(sR b), (sI (1 : Int32)), (sJ px), .second, (sR b49)] [(.ref b)])) _
    refine XS.dup X55.here hx rfl (hb hby d17_72) rfl rfl ?_
    exact kt
   obtain ⟨T56, X56, e56, st56⟩ := getF X55 hx hZ hown (host := "") (Or.inl (hw _ (ix 77 rfl))) Via.refl e55 Fe_55 (g := (mkF m 73 #[(sR b), (sI (1 : Int32)), (sJ px), .second, (sR b49)] [(.ref b), (.ref b)])) rfl rfl (hb hby d17_73)
   refine gu (T56.setTop (mkF m 76 #[(sR b), (sI (1 : Int32)), (sJ px), .second, (sR b49)] [(.int (1 : Int32)), (.ref b)])) (fun t kt => st56 _ kt) ?_
   refine gu (T56.setTop (mkF m 78 #[(sR b), (sI (1 : Int32)), (sJ px), .second, (sR b49)] [(.int (2 : Int32)), (.ref b)])) (fun t kt => ?_) ?_
   ·refine XS.iconst X56.here hx rfl (hb hby d17_76) ?_
    show Steps _ _ _ (T56.setTop (mkF m 77 #[(sR b), (sI (1 : Int32)), (sJ px), .second, (sR b49)] [(.int (1 : Int32)), (.int (1 : Int32)), (.ref b)])) _
    refine XS.iadd X56.here hx rfl (hb hby d17_77) rfl ?_
    exact kt
   obtain ⟨T57, h57, X57, e57, W57, st57⟩ := putF X56 hx hZ hown (host := "") (Or.inl (hw _ (ix 77 rfl))) Via.refl e56 Fe_55 E_b_55 (Or.inl (hw _ (ix 78 rfl))) (hw _ (ix 4 rfl)) (ty := .int) (by decide) rfl rfl (g := (mkF m 78 #[(sR b), (sI (1 : Int32)), (sJ px), .second, (sR b49)] [(.int (2 : Int32)), (.ref b)])) rfl rfl (hb hby d17_78)
   have N57 := Fr.snoc X57 N55 g_b
   have O57 := O55.wr W57 g_b
   have K57 : Keep h0 h57 [b, la, pa] := K55.wr W57 (Or.inl (ix 0 rfl))
   have E_b_57 := E_b_55.wr W57
   have E_tm_57 := E_tm_55.wr W57
   have Fs_57 := Fs_55.other W57 (Or.inl (Ne.symm ne_b_tm))
   have Fa_57 := Fa_55.other W57 (Or.inr (slot_ne (Or.inr (hw _ (ix 15 rfl))) (Or.inl (hw _ (ix 78 rfl))) (by decide) (t := (.array (.object "com/example/openvenue/openvenue/core/PriceLevel"))) (t' := .int) (by decide) (by decide)))
   have Fb_57 := Fb_55.other W57 (Or.inr (slot_ne (Or.inr (hw _ (ix 18 rfl))) (Or.inl (hw _ (ix 78 rfl))) (by decide) (t := (.array .long)) (t' := .int) (by decide) (by decide)))
   have Fc_57 := Fc_55.other W57 (Or.inr (slot_ne (Or.inr (hw _ (ix 36 rfl))) (Or.inl (hw _ (ix 78 rfl))) (by decide) (t := (.object "com/example/openvenue/openvenue/core/Side")) (t' := .int) (by decide) (by decide)))
   have Fd_57 := Fd_55.other W57 (Or.inr (slot_ne (Or.inr (hw _ (ix 65 rfl))) (Or.inl (hw _ (ix 78 rfl))) (by decide) (t := (.object "java/util/NavigableMap")) (t' := .int) (by decide) (by decide)))
   have E_a0_57 := E_a0_55.wr W57
   have F_a0_p_57 := F_a0_p_55.other W57 (Or.inl (Ne.symm ne_b_a0))
   have E_b49_57 := E_b49_55.wr W57
   have F_b49_p_57 := F_b49_p_55.other W57 (Or.inl (Ne.symm ne_b_b49))
   have V_la_57 := V_la_55.other W57 (Ne.symm ne_b_la)
   have V_pa_57 := V_pa_55.other W57 (Ne.symm ne_b_pa)
   have Fe_57 := Fe_55.same W57
   refine gu (T57.setTop (mkF m 81 #[(sR b), (sI (1 : Int32)), (sJ px), .second, (sR b49)] [])) (fun t kt => st57 _ kt) ?_
   refine gu (T57.setTop (mkF m 83 #[(sR b), (sI (1 : Int32)), (sJ px), .second, (sR b49)] [(.ref b49)])) (fun t kt => ?_) ?_
   ·refine XS.aload X57.here hx rfl (hb hby d17_81) rfl rfl ?_
    exact kt
   refine Gl.retR X57 hx hlk Bd.returns (hb hby d17_83) rfl rfl ?_ (by decide) (by decide)
   show Q17 Z _ _ _ _ _ _ _ _ _ _ _ h0 n0 _ T57.heap _; rw [e57]; have BB : Bk Z n0 h57 b la pa tm sd wB kl kp [(a0, x0), (b49, px)] := ⟨E_b_57, Fa_57, Fb_57, Fc_57, Fd_57, Fe_57, E_tm_57, Fs_57, V_la_57, V_pa_57, hov, g_b, g_la, g_pa, (lvS ⟨E_a0_57, F_a0_p_57⟩ (lvS ⟨E_b49_57, F_b49_p_57⟩ lv0)), hord⟩; exact ⟨b49, rfl, N57, K57, BB⟩
  ·exact absurd hi (by simp)
 ·obtain ⟨E_b, Fa, Fb, Fc, Fd, Fe0, E_tm, Fs, V_la0, V_pa0, hov, g_b, g_la, g_pa, hlv, hso⟩ := B0
  have Fe : Fld Z h0 b "com/example/openvenue/openvenue/core/BookSide" "count" "I" (.int (2 : Int32)) := Fe0
  have V_la : Arv Z h0 la kl oPL (256 : Int32) [(.ref a0), (.ref a1)] .null := V_la0
  have V_pa : Arv Z h0 pa kp .long (256 : Int32) [(.long x0), (.long x1)] (.long (0 : Int64)) := V_pa0
  obtain ⟨E_a0, F_a0_price⟩ := hlv (a0, x0) (by simp)
  obtain ⟨E_a1, F_a1_price⟩ := hlv (a1, x1) (by simp)
  have o01 := srt2' (x := x0) (y := x1) hso
  have ne_b_la : b ≠ la := Exa.neArv E_b V_la (hw _ (ix 4 rfl))
  have ne_b_pa : b ≠ pa := Exa.neArv E_b V_pa (hw _ (ix 4 rfl))
  have ne_tm_la : tm ≠ la := Exa.neArv E_tm V_la (hw _ (ix 46 rfl))
  have ne_tm_pa : tm ≠ pa := Exa.neArv E_tm V_pa (hw _ (ix 46 rfl))
  have ne_a0_la : a0 ≠ la := Exa.neArv E_a0 V_la (hw _ (ix 125 rfl))
  have ne_a0_pa : a0 ≠ pa := Exa.neArv E_a0 V_pa (hw _ (ix 125 rfl))
  have ne_a1_la : a1 ≠ la := Exa.neArv E_a1 V_la (hw _ (ix 125 rfl))
  have ne_a1_pa : a1 ≠ pa := Exa.neArv E_a1 V_pa (hw _ (ix 125 rfl))
  have ne_la_pa : la ≠ pa := own_arvne V_la V_pa
  have ne_b_tm : b ≠ tm := ne_exa E_b E_tm (by decide)
  have ne_b_a0 : b ≠ a0 := ne_exa E_b E_a0 (by decide)
  have ne_b_a1 : b ≠ a1 := ne_exa E_b E_a1 (by decide)
  have ne_tm_a0 : tm ≠ a0 := ne_exa E_tm E_a0 (by decide)
  have ne_tm_a1 : tm ≠ a1 := ne_exa E_tm E_a1 (by decide)
  have ne_a0_a1 : a0 ≠ a1 := Fld.ne F_a0_price F_a1_price (ky_ne o01)
  rcases i with _ | _ | _ | i
  ·refine gu (s₁.setTop (mkF m 1 #[(sR b), (sI (0 : Int32)), (sJ px), .second, .unset] [(.ref b)])) (fun t kt => ?_) ?_
   ·refine XS.aloadN X0.here hx rfl (hb hby d17_0) rfl rfl ?_
    exact kt
   obtain ⟨T58, X58, e58, st58⟩ := getF X0 hx hZ hown (host := "") (Or.inl (hw _ (ix 14 rfl))) Via.refl e0 Fa (g := (mkF m 1 #[(sR b), (sI (0 : Int32)), (sJ px), .second, .unset] [(.ref b)])) rfl rfl (hb hby d17_1)
   refine gu (T58.setTop (mkF m 4 #[(sR b), (sI (0 : Int32)), (sJ px), .second, .unset] [(.ref la)])) (fun t kt => st58 _ kt) ?_
   refine gu (T58.setTop (mkF m 6 #[(sR b), (sI (0 : Int32)), (sJ px), .second, .unset] [(.ref b), (.int (0 : Int32)), (.ref la)])) (fun t kt => ?_) ?_
   ·refine XS.iloadN X58.here hx rfl (hb hby d17_4) rfl ?_
    show Steps _ _ _ (T58.setTop (mkF m 5 #[(sR b), (sI (0 : Int32)), (sJ px), .second, .unset] [(.int (0 : Int32)), (.ref la)])) _
    refine XS.aloadN X58.here hx rfl (hb hby d17_5) rfl rfl ?_
    exact kt
   obtain ⟨T59, X59, e59, st59⟩ := getF X58 hx hZ hown (host := "") (Or.inl (hw _ (ix 14 rfl))) Via.refl e58 Fa (g := (mkF m 6 #[(sR b), (sI (0 : Int32)), (sJ px), .second, .unset] [(.ref b), (.int (0 : Int32)), (.ref la)])) rfl rfl (hb hby d17_6)
   refine gu (T59.setTop (mkF m 9 #[(sR b), (sI (0 : Int32)), (sJ px), .second, .unset] [(.ref la), (.int (0 : Int32)), (.ref la)])) (fun t kt => st59 _ kt) ?_
   refine gu (T59.setTop (mkF m 13 #[(sR b), (sI (0 : Int32)), (sJ px), .second, .unset] [(.ref b), (.int (1 : Int32)), (.ref la), (.int (0 : Int32)), (.ref la)])) (fun t kt => ?_) ?_
   ·refine XS.iloadN X59.here hx rfl (hb hby d17_9) rfl ?_
    show Steps _ _ _ (T59.setTop (mkF m 10 #[(sR b), (sI (0 : Int32)), (sJ px), .second, .unset] [(.int (0 : Int32)), (.ref la), (.int (0 : Int32)), (.ref la)])) _
    refine XS.iconst X59.here hx rfl (hb hby d17_10) ?_
    show Steps _ _ _ (T59.setTop (mkF m 11 #[(sR b), (sI (0 : Int32)), (sJ px), .second, .unset] [(.int (1 : Int32)), (.int (0 : Int32)), (.ref la), (.int (0 : Int32)), (.ref la)])) _
    refine XS.iadd X59.here hx rfl (hb hby d17_11) rfl ?_
    show Steps _ _ _ (T59.setTop (mkF m 12 #[(sR b), (sI (0 : Int32)), (sJ px), .second, .unset] [(.int (1 : Int32)), (.ref la), (.int (0 : Int32)), (.ref la)])) _
    refine XS.aloadN X59.here hx rfl (hb hby d17_12) rfl rfl ?_
    exact kt
   obtain ⟨T60, X60, e60, st60⟩ := getF X59 hx hZ hown (host := "") (Or.inl (hw _ (ix 77 rfl))) Via.refl e59 Fe (g := (mkF m 13 #[(sR b), (sI (0 : Int32)), (sJ px), .second, .unset] [(.ref b), (.int (1 : Int32)), (.ref la), (.int (0 : Int32)), (.ref la)])) rfl rfl (hb hby d17_13)
   refine gu (T60.setTop (mkF m 16 #[(sR b), (sI (0 : Int32)), (sJ px), .second, .unset] [(.int (2 : Int32)), (.int (1 : Int32)), (.ref la), (.int (0 : Int32)), (.ref la)])) (fun t kt => st60 _ kt) ?_
   refine gu (T60.setTop (mkF m 18 #[(sR b), (sI (0 : Int32)), (sJ px), .second, .unset] [(.int (2 : Int32)), (.int (1 : Int32)), (.ref la), (.int (0 : Int32)), (.ref la)])) (fun t kt => ?_) ?_
   ·refine XS.iloadN X60.here hx rfl (hb hby d17_16) rfl ?_
    show Steps _ _ _ (T60.setTop (mkF m 17 #[(sR b), (sI (0 : Int32)), (sJ px), .second, .unset] [(.int (0 : Int32)), (.int (2 : Int32)), (.int (1 : Int32)), (.ref la), (.int (0 : Int32)), (.ref la)])) _
    refine XS.isub X60.here hx rfl (hb hby d17_17) rfl ?_
    exact kt
   have V_la_61 : Arv Z h0 la kl oPL (256 : Int32) [(.ref a0), (.ref a1), .null] .null := V_la.pad (pad_rep [(.ref a0), (.ref a1)] .null 1)
   obtain ⟨ca62, Ar62, q62, S62, M62, H62, U62⟩ := id V_la_61
   obtain ⟨T62, h62, Lc62, X62, e62, N62, K62, W62, st62⟩ := cpA X60 hx hZ hown (hw _ (ix 121 rfl)) (hw _ (ix 124 rfl)) (hw _ (ix 122 rfl)) (hw _ (ix 123 rfl)) e60 (sp := (0 : Int32)) (dp := (1 : Int32)) (nn := (2 : Int32)) (us := [(.ref a0), (.ref a1)]) V_la_61 V_la_61 (Or.inr ⟨rfl, rfl, ⟨(Sto.ofV Ar62 q62 hov (Ins.self E_a0)), ⟨(Sto.ofV Ar62 q62 hov (Ins.self E_a1)), trivial⟩⟩⟩) (by decide) (by decide) (by decide) (by decide) (by decide) rfl (Nat.le_of_ble_eq_true rfl) N0 g_la (g := (mkF m 18 #[(sR b), (sI (0 : Int32)), (sJ px), .second, .unset] [(.int (2 : Int32)), (.int (1 : Int32)), (.ref la), (.int (0 : Int32)), (.ref la)])) rfl (sz hml) rfl (hb hby d17_18) (by decide) (W := 0) le0 (by decide)
   have O62 := O0.keep K62 (allS g_la all0)
   have KK62 : Keep h0 h62 [b, la, pa] := K0.trans K62 (allS (Or.inl (ix 1 rfl)) all0)
   have E_b_62 := E_b.keep K62
   have E_tm_62 := E_tm.keep K62
   have Fs_62 := Fs.keep K62 (ninS ne_tm_la nin0)
   have Fa_62 := Fa.keep K62 (ninS ne_b_la nin0)
   have Fb_62 := Fb.keep K62 (ninS ne_b_la nin0)
   have Fc_62 := Fc.keep K62 (ninS ne_b_la nin0)
   have Fd_62 := Fd.keep K62 (ninS ne_b_la nin0)
   have Fe_62 := Fe.keep K62 (ninS ne_b_la nin0)
   have V_pa_62 := V_pa.keep K62 (ninS (Ne.symm ne_la_pa) nin0)
   have E_a0_62 := E_a0.keep K62
   have F_a0_p_62 := F_a0_price.keep K62 (ninS ne_a0_la nin0)
   have E_a1_62 := E_a1.keep K62
   have F_a1_p_62 := F_a1_price.keep K62 (ninS ne_a1_la nin0)
   have V_la_62 : Arv Z h62 la kl oPL (256 : Int32) [(.ref a0), (.ref a0), (.ref a1)] .null := W62
   refine gu (T62.setTop (mkF m 21 #[(sR b), (sI (0 : Int32)), (sJ px), .second, .unset] [])) (fun t kt => st62 _ kt) ?_
   refine gu (T62.setTop (mkF m 22 #[(sR b), (sI (0 : Int32)), (sJ px), .second, .unset] [(.ref b)])) (fun t kt => ?_) ?_
   ·refine XS.aloadN X62.here hx rfl (hb hby d17_21) rfl rfl ?_
    exact kt
   obtain ⟨T63, X63, e63, st63⟩ := getF X62 hx hZ hown (host := "") (Or.inl (hw _ (ix 17 rfl))) Via.refl e62 Fb_62 (g := (mkF m 22 #[(sR b), (sI (0 : Int32)), (sJ px), .second, .unset] [(.ref b)])) rfl rfl (hb hby d17_22)
   refine gu (T63.setTop (mkF m 25 #[(sR b), (sI (0 : Int32)), (sJ px), .second, .unset] [(.ref pa)])) (fun t kt => st63 _ kt) ?_
   refine gu (T63.setTop (mkF m 27 #[(sR b), (sI (0 : Int32)), (sJ px), .second, .unset] [(.ref b), (.int (0 : Int32)), (.ref pa)])) (fun t kt => ?_) ?_
   ·refine XS.iloadN X63.here hx rfl (hb hby d17_25) rfl ?_
    show Steps _ _ _ (T63.setTop (mkF m 26 #[(sR b), (sI (0 : Int32)), (sJ px), .second, .unset] [(.int (0 : Int32)), (.ref pa)])) _
    refine XS.aloadN X63.here hx rfl (hb hby d17_26) rfl rfl ?_
    exact kt
   obtain ⟨T64, X64, e64, st64⟩ := getF X63 hx hZ hown (host := "") (Or.inl (hw _ (ix 17 rfl))) Via.refl e63 Fb_62 (g := (mkF m 27 #[(sR b), (sI (0 : Int32)), (sJ px), .second, .unset] [(.ref b), (.int (0 : Int32)), (.ref pa)])) rfl rfl (hb hby d17_27)
   refine gu (T64.setTop (mkF m 30 #[(sR b), (sI (0 : Int32)), (sJ px), .second, .unset] [(.ref pa), (.int (0 : Int32)), (.ref pa)])) (fun t kt => st64 _ kt) ?_
   refine gu (T64.setTop (mkF m 34 #[(sR b), (sI (0 : Int32)), (sJ px), .second, .unset] [(.ref b), (.int (1 : Int32)), (.ref pa), (.int (0 : Int32)), (.ref pa)])) (fun t kt => ?_) ?_
   ·refine XS.iloadN X64.here hx rfl (hb hby d17_30) rfl ?_
    show Steps _ _ _ (T64.setTop (mkF m 31 #[(sR b), (sI (0 : Int32)), (sJ px), .second, .unset] [(.int (0 : Int32)), (.ref pa), (.int (0 : Int32)), (.ref pa)])) _
    refine XS.iconst X64.here hx rfl (hb hby d17_31) ?_
    show Steps _ _ _ (T64.setTop (mkF m 32 #[(sR b), (sI (0 : Int32)), (sJ px), .second, .unset] [(.int (1 : Int32)), (.int (0 : Int32)), (.ref pa), (.int (0 : Int32)), (.ref pa)])) _
    refine XS.iadd X64.here hx rfl (hb hby d17_32) rfl ?_
    show Steps _ _ _ (T64.setTop (mkF m 33 #[(sR b), (sI (0 : Int32)), (sJ px), .second, .unset] [(.int (1 : Int32)), (.ref pa), (.int (0 : Int32)), (.ref pa)])) _
    refine XS.aloadN X64.here hx rfl (hb hby d17_33) rfl rfl ?_
    exact kt
   obtain ⟨T65, X65, e65, st65⟩ := getF X64 hx hZ hown (host := "") (Or.inl (hw _ (ix 77 rfl))) Via.refl e64 Fe_62 (g := (mkF m 34 #[(sR b), (sI (0 : Int32)), (sJ px), .second, .unset] [(.ref b), (.int (1 : Int32)), (.ref pa), (.int (0 : Int32)), (.ref pa)])) rfl rfl (hb hby d17_34)
   refine gu (T65.setTop (mkF m 37 #[(sR b), (sI (0 : Int32)), (sJ px), .second, .unset] [(.int (2 : Int32)), (.int (1 : Int32)), (.ref pa), (.int (0 : Int32)), (.ref pa)])) (fun t kt => st65 _ kt) ?_
   refine gu (T65.setTop (mkF m 39 #[(sR b), (sI (0 : Int32)), (sJ px), .second, .unset] [(.int (2 : Int32)), (.int (1 : Int32)), (.ref pa), (.int (0 : Int32)), (.ref pa)])) (fun t kt => ?_) ?_
   ·refine XS.iloadN X65.here hx rfl (hb hby d17_37) rfl ?_
    show Steps _ _ _ (T65.setTop (mkF m 38 #[(sR b), (sI (0 : Int32)), (sJ px), .second, .unset] [(.int (0 : Int32)), (.int (2 : Int32)), (.int (1 : Int32)), (.ref pa), (.int (0 : Int32)), (.ref pa)])) _
    refine XS.isub X65.here hx rfl (hb hby d17_38) rfl ?_
    exact kt
   have V_pa_66 : Arv Z h62 pa kp .long (256 : Int32) [(.long x0), (.long x1), (.long (0 : Int64))] (.long (0 : Int64)) := V_pa_62.pad (pad_rep [(.long x0), (.long x1)] (.long (0 : Int64)) 1)
   obtain ⟨ca67, Ar67, q67, S67, M67, H67, U67⟩ := id V_pa_66
   obtain ⟨T67, h67, Lc67, X67, e67, N67, K67, W67, st67⟩ := cpA X65 hx hZ hown (hw _ (ix 121 rfl)) (hw _ (ix 124 rfl)) (hw _ (ix 122 rfl)) (hw _ (ix 123 rfl)) e65 (sp := (0 : Int32)) (dp := (1 : Int32)) (nn := (2 : Int32)) (us := [(.long x0), (.long x1)]) V_pa_66 V_pa_66 (Or.inl ⟨rfl, rfl⟩) (by decide) (by decide) (by decide) (by decide) (by decide) rfl (Nat.le_of_ble_eq_true rfl) N62 g_pa (g := (mkF m 39 #[(sR b), (sI (0 : Int32)), (sJ px), .second, .unset] [(.int (2 : Int32)), (.int (1 : Int32)), (.ref pa), (.int (0 : Int32)), (.ref pa)])) rfl (sz hml) rfl (hb hby d17_39) (by decide) (W := 0) le0 (by decide)
   have O67 := O62.keep K67 (allS g_pa all0)
   have KK67 : Keep h0 h67 [b, la, pa] := KK62.trans K67 (allS (Or.inl (ix 2 rfl)) all0)
   have E_b_67 := E_b_62.keep K67
   have E_tm_67 := E_tm_62.keep K67
   have Fs_67 := Fs_62.keep K67 (ninS ne_tm_pa nin0)
   have Fa_67 := Fa_62.keep K67 (ninS ne_b_pa nin0)
   have Fb_67 := Fb_62.keep K67 (ninS ne_b_pa nin0)
   have Fc_67 := Fc_62.keep K67 (ninS ne_b_pa nin0)
   have Fd_67 := Fd_62.keep K67 (ninS ne_b_pa nin0)
   have Fe_67 := Fe_62.keep K67 (ninS ne_b_pa nin0)
   have E_a0_67 := E_a0_62.keep K67
   have F_a0_p_67 := F_a0_p_62.keep K67 (ninS ne_a0_pa nin0)
   have E_a1_67 := E_a1_62.keep K67
   have F_a1_p_67 := F_a1_p_62.keep K67 (ninS ne_a1_pa nin0)
   have V_la_67 := V_la_62.keep K67 (ninS ne_la_pa nin0)
   have V_pa_67 : Arv Z h67 pa kp .long (256 : Int32) [(.long x0), (.long x0), (.long x1)] (.long (0 : Int64)) := W67
   refine gu (T67.setTop (mkF m 42 #[(sR b), (sI (0 : Int32)), (sJ px), .second, .unset] [])) (fun t kt => st67 _ kt) ?_
   obtain ⟨T68, h68, X68, e68, E68, A68, D68, -, st68⟩ := newO X67 hx hZ hown (hw _ (ix 12 rfl)) (hw _ (ix 125 rfl)) (hw _ (ix 126 rfl)) e67 (g := (mkF m 42 #[(sR b), (sI (0 : Int32)), (sJ px), .second, .unset] [])) rfl (hb hby d17_42) (by decide) (by decide)
   obtain ⟨b68, gq68⟩ : ∃ z, z = h67.size := ⟨_, rfl⟩
   rw [← gq68] at A68 D68 st68
   have ne_b_b68 : b ≠ b68 := Nat.ne_of_lt (Nat.lt_of_lt_of_le E_b_67.lt (Nat.le_of_eq gq68.symm))
   have ne_tm_b68 : tm ≠ b68 := Nat.ne_of_lt (Nat.lt_of_lt_of_le E_tm_67.lt (Nat.le_of_eq gq68.symm))
   have ne_a0_b68 : a0 ≠ b68 := Nat.ne_of_lt (Nat.lt_of_lt_of_le E_a0_67.lt (Nat.le_of_eq gq68.symm))
   have ne_a1_b68 : a1 ≠ b68 := Nat.ne_of_lt (Nat.lt_of_lt_of_le E_a1_67.lt (Nat.le_of_eq gq68.symm))
   have ne_la_b68 : la ≠ b68 := Nat.ne_of_lt (Nat.lt_of_lt_of_le V_la_67.lt (Nat.le_of_eq gq68.symm))
   have ne_pa_b68 : pa ≠ b68 := Nat.ne_of_lt (Nat.lt_of_lt_of_le V_pa_67.lt (Nat.le_of_eq gq68.symm))
   have g_b68 : n0 ≤ b68 := Nat.le_trans (old_le O67) (Nat.le_of_eq gq68.symm)
   have z_b68 : h0.size ≤ b68 := Nat.le_trans KK67.1 (Nat.le_of_eq gq68.symm)
   have O68 := O67.ext E68
   have K68 : Keep h0 h68 [b, la, pa] := KK67.ext E68
   have E_b_68 := E_b_67.ext E68
   have E_tm_68 := E_tm_67.ext E68
   have Fs_68 := Fs_67.ext E68
   have Fa_68 := Fa_67.ext E68
   have Fb_68 := Fb_67.ext E68
   have Fc_68 := Fc_67.ext E68
   have Fd_68 := Fd_67.ext E68
   have Fe_68 := Fe_67.ext E68
   have E_a0_68 := E_a0_67.ext E68
   have F_a0_p_68 := F_a0_p_67.ext E68
   have E_a1_68 := E_a1_67.ext E68
   have F_a1_p_68 := F_a1_p_67.ext E68
   have V_la_68 := V_la_67.ext E68
   have V_pa_68 := V_pa_67.ext E68
   have F_b68_quantity_68 : Fld Z h68 b68 "com/example/openvenue/openvenue/core/PriceLevel" "quantity" "Lcom/example/openvenue/openvenue/core/QuantityTotal;" .null := D68 (Or.inr (hw _ (ix 139 rfl))) (ty := (.object "com/example/openvenue/openvenue/core/QuantityTotal")) (by decide)
   have F_b68_side_68 : Fld Z h68 b68 "com/example/openvenue/openvenue/core/PriceLevel" "side" "Lcom/example/openvenue/openvenue/core/Side;" .null := D68 (Or.inr (hw _ (ix 141 rfl))) (ty := (.object "com/example/openvenue/openvenue/core/Side")) (by decide)
   have F_b68_p_68 : Fld Z h68 b68 "com/example/openvenue/openvenue/core/PriceLevel" "price" "J" (.long (0 : Int64)) := D68 (Or.inr (hw _ (ix 143 rfl))) (ty := .long) (by decide)
   refine gu (T68.setTop (mkF m 45 #[(sR b), (sI (0 : Int32)), (sJ px), .second, .unset] [(.ref b68)])) (fun t kt => st68 _ kt) ?_
   refine gu (T68.setTop (mkF m 47 #[(sR b), (sI (0 : Int32)), (sJ px), .second, .unset] [(.ref b), (.ref b68), (.ref b68)])) (fun t kt => ?_) ?_
   ·refine XS.dup X68.here hx rfl (hb hby d17_45) rfl rfl ?_
    show Steps _ _ _ (T68.setTop (mkF m 46 #[(sR b), (sI (0 : Int32)), (sJ px), .second, .unset] [(.ref b68), (.ref b68)])) _
    refine XS.aloadN X68.here hx rfl (hb hby d17_46) rfl rfl ?_
    exact kt
   obtain ⟨T69, X69, e69, st69⟩ := getF X68 hx hZ hown (host := "") (Or.inl (hw _ (ix 35 rfl))) Via.refl e68 Fc_68 (g := (mkF m 47 #[(sR b), (sI (0 : Int32)), (sJ px), .second, .unset] [(.ref b), (.ref b68), (.ref b68)])) rfl rfl (hb hby d17_47)
   refine gu (T69.setTop (mkF m 50 #[(sR b), (sI (0 : Int32)), (sJ px), .second, .unset] [(.ref sd), (.ref b68), (.ref b68)])) (fun t kt => st69 _ kt) ?_
   refine gu (T69.setTop (mkF m 51 #[(sR b), (sI (0 : Int32)), (sJ px), .second, .unset] [(.long px), (.ref sd), (.ref b68), (.ref b68)])) (fun t kt => ?_) ?_
   ·refine XS.lloadN X69.here hx rfl (hb hby d17_50) rfl ?_
    exact kt
   obtain ⟨_, _, ⟨T70, L70, k70, n70⟩, -, X70, ⟨Lc70, hQ70, l70, y70, z70⟩, st70⟩ := X69.specialBack hx (y := mn2) rfl hown (mvT hZ (hw _ (ix 127 rfl))) (mvT hZ (hw _ (ix 128 rfl))) (mvT hZ (hw _ (ix 129 rfl))) (by decide) (backOf (W := 1) (rm3 l Z aa hw [] b68 sd px (0 : Int64) h68 n0 O68 A68 F_b68_quantity_68 F_b68_side_68 F_b68_p_68 g_b68) hZ (hw _ (ix 129 rfl)) (hw _ (ix 126 rfl)) (by decide) (by decide)) (g := (mkF m 51 #[(sR b), (sI (0 : Int32)), (sJ px), .second, .unset] [(.long px), (.ref sd), (.ref b68), (.ref b68)])) rfl (sz hml) (Steps.refl _) (a := b68) (argsL := [(.ref sd), (.long px)]) (rest := [(.ref b68)]) (lenOf pd_oLcom_example_openvenue_openvenue_core_SideJcV rfl) rfl le0 (hb hby d17_51) (fun _ _ => ⟨rfl, e69, (by decide : 1 + 1 ≤ _), (by decide : 6 + 2 ≤ _)⟩)
   dsimp only [Pt.U, Pt.locs, Pt.cells, Pt.slots] at X70 l70 y70 z70 st70 hQ70
   subst l70 y70 z70
   obtain ⟨rfl, M70, K70, F_b68_p_70⟩ := hQ70
   have N70 := Fr.app N67 M70
   have O70 := O68.keep K70 (allS g_b68 all0)
   have KK70 : Keep h0 T70.heap [b, la, pa] := K68.trans K70 (allS (Or.inr z_b68) all0)
   have E_b_70 := E_b_68.keep K70
   have E_tm_70 := E_tm_68.keep K70
   have Fs_70 := Fs_68.keep K70 (ninS ne_tm_b68 nin0)
   have Fa_70 := Fa_68.keep K70 (ninS ne_b_b68 nin0)
   have Fb_70 := Fb_68.keep K70 (ninS ne_b_b68 nin0)
   have Fc_70 := Fc_68.keep K70 (ninS ne_b_b68 nin0)
   have Fd_70 := Fd_68.keep K70 (ninS ne_b_b68 nin0)
   have Fe_70 := Fe_68.keep K70 (ninS ne_b_b68 nin0)
   have E_a0_70 := E_a0_68.keep K70
   have F_a0_p_70 := F_a0_p_68.keep K70 (ninS ne_a0_b68 nin0)
   have E_a1_70 := E_a1_68.keep K70
   have F_a1_p_70 := F_a1_p_68.keep K70 (ninS ne_a1_b68 nin0)
   have V_la_70 := V_la_68.keep K70 (ninS ne_la_b68 nin0)
   have V_pa_70 := V_pa_68.keep K70 (ninS ne_pa_b68 nin0)
   have E_b68_70 := A68.keep K70
   refine gu (T70.setTop (mkF m 54 #[(sR b), (sI (0 : Int32)), (sJ px), .second, .unset] [(.ref b68)])) (fun t kt => st70.trans kt) ?_
   refine gu (T70.setTop (mkF m 57 #[(sR b), (sI (0 : Int32)), (sJ px), .second, (sR b68)] [(.ref b)])) (fun t kt => ?_) ?_
   ·refine XS.astore X70.here hx rfl (hb hby d17_54) rfl rfl (l' := #[(sR b), (sI (0 : Int32)), (sJ px), .second, (sR b68)]) rfl ?_
    show Steps _ _ _ (T70.setTop (mkF m 56 #[(sR b), (sI (0 : Int32)), (sJ px), .second, (sR b68)] [])) _
    refine XS.aloadN X70.here hx rfl (hb hby d17_56) rfl rfl ?_
    exact kt
   obtain ⟨T71, X71, e71, st71⟩ := getF X70 hx hZ hown (host := "") (Or.inl (hw _ (ix 14 rfl))) Via.refl rfl Fa_70 (g := (mkF m 57 #[(sR b), (sI (0 : Int32)), (sJ px), .second, (sR b68)] [(.ref b)])) rfl rfl (hb hby d17_57)
   refine gu (T71.setTop (mkF m 60 #[(sR b), (sI (0 : Int32)), (sJ px), .second, (sR b68)] [(.ref la)])) (fun t kt => st71 _ kt) ?_
   refine gu (T71.setTop (mkF m 63 #[(sR b), (sI (0 : Int32)), (sJ px), .second, (sR b68)] [(.ref b68), (.int (0 : Int32)), (.ref la)])) (fun t kt => ?_) ?_
   ·refine XS.iloadN X71.here hx rfl (hb hby d17_60) rfl ?_
    show Steps _ _ _ (T71.setTop (mkF m 61 #[(sR b), (sI (0 : Int32)), (sJ px), .second, (sR b68)] [(.int (0 : Int32)), (.ref la)])) _
    refine XS.aload X71.here hx rfl (hb hby d17_61) rfl rfl ?_
    exact kt
   obtain ⟨ca72, Ar72, q72, S72, M72, H72, U72⟩ := id V_la_70
   obtain ⟨T72, h72, X72, e72, W72, st72⟩ := stR X71 hx hZ e71 Ar72 (j := (0 : Int32)) (v := (.ref b68)) (inb_of S72 ⟨by decide, by decide⟩) rfl (Sto.ofV Ar72 q72 hov (Ins.self E_b68_70)) (g := (mkF m 63 #[(sR b), (sI (0 : Int32)), (sJ px), .second, (sR b68)] [(.ref b68), (.int (0 : Int32)), (.ref la)])) rfl rfl (hb hby d17_63)
   have N72 := Fr.snoc X72 N70 g_la
   have O72 := O70.wr W72 g_la
   have K72 : Keep h0 h72 [b, la, pa] := KK70.wr W72 (Or.inl (ix 1 rfl))
   have E_b_72 := E_b_70.wr W72
   have E_tm_72 := E_tm_70.wr W72
   have Fs_72 := Fs_70.other W72 (Or.inl ne_tm_la)
   have Fa_72 := Fa_70.other W72 (Or.inl ne_b_la)
   have Fb_72 := Fb_70.other W72 (Or.inl ne_b_la)
   have Fc_72 := Fc_70.other W72 (Or.inl ne_b_la)
   have Fd_72 := Fd_70.other W72 (Or.inl ne_b_la)
   have Fe_72 := Fe_70.other W72 (Or.inl ne_b_la)
   have E_a0_72 := E_a0_70.wr W72
   have F_a0_p_72 := F_a0_p_70.other W72 (Or.inl ne_a0_la)
   have E_a1_72 := E_a1_70.wr W72
   have F_a1_p_72 := F_a1_p_70.other W72 (Or.inl ne_a1_la)
   have V_pa_72 := V_pa_70.other W72 (Ne.symm ne_la_pa)
   have E_b68_72 := E_b68_70.wr W72
   have F_b68_p_72 := F_b68_p_70.other W72 (Or.inl (Ne.symm ne_la_b68))
   have V_la_72 : Arv Z h72 la kl oPL (256 : Int32) [(.ref b68), (.ref a0), (.ref a1)] .null := Arv.set Ar72 q72 S72 M72 H72 U72 rfl W72 0 rfl (Nat.le_of_ble_eq_true rfl)
   refine gu (T72.setTop (mkF m 64 #[(sR b), (sI (0 : Int32)), (sJ px), .second, (sR b68)] [])) (fun t kt => st72 _ kt) ?_
   refine gu (T72.setTop (mkF m 65 #[(sR b), (sI (0 : Int32)), (sJ px), .second, (sR b68)] [(.ref b)])) (fun t kt => ?_) ?_
   ·refine XS.aloadN X72.here hx rfl (hb hby d17_64) rfl rfl ?_
    exact kt
   obtain ⟨T73, X73, e73, st73⟩ := getF X72 hx hZ hown (host := "") (Or.inl (hw _ (ix 17 rfl))) Via.refl e72 Fb_72 (g := (mkF m 65 #[(sR b), (sI (0 : Int32)), (sJ px), .second, (sR b68)] [(.ref b)])) rfl rfl (hb hby d17_65)
   refine gu (T73.setTop (mkF m 68 #[(sR b), (sI (0 : Int32)), (sJ px), .second, (sR b68)] [(.ref pa)])) (fun t kt => st73 _ kt) ?_
   refine gu (T73.setTop (mkF m 70 #[(sR b), (sI (0 : Int32)), (sJ px), .second, (sR b68)] [(.long px), (.int (0 : Int32)), (.ref pa)])) (fun t kt => ?_) ?_
   ·refine XS.iloadN X73.here hx rfl (hb hby d17_68) rfl ?_
    show Steps _ _ _ (T73.setTop (mkF m 69 #[(sR b), (sI (0 : Int32)), (sJ px), .second, (sR b68)] [(.int (0 : Int32)), (.ref pa)])) _
    refine XS.lloadN X73.here hx rfl (hb hby d17_69) rfl ?_
    exact kt
   obtain ⟨ca74, Ar74, q74, S74, M74, H74, U74⟩ := id V_pa_72
   obtain ⟨T74, h74, X74, e74, W74, st74⟩ := stJ X73 hx hZ e73 Ar74 (j := (0 : Int32)) (inb_of S74 ⟨by decide, by decide⟩) (g := (mkF m 70 #[(sR b), (sI (0 : Int32)), (sJ px), .second, (sR b68)] [(.long px), (.int (0 : Int32)), (.ref pa)])) rfl rfl (hb hby d17_70)
   have N74 := Fr.snoc X74 N72 g_pa
   have O74 := O72.wr W74 g_pa
   have K74 : Keep h0 h74 [b, la, pa] := K72.wr W74 (Or.inl (ix 2 rfl))
   have E_b_74 := E_b_72.wr W74
   have E_tm_74 := E_tm_72.wr W74
   have Fs_74 := Fs_72.other W74 (Or.inl ne_tm_pa)
   have Fa_74 := Fa_72.other W74 (Or.inl ne_b_pa)
   have Fb_74 := Fb_72.other W74 (Or.inl ne_b_pa)
   have Fc_74 := Fc_72.other W74 (Or.inl ne_b_pa)
   have Fd_74 := Fd_72.other W74 (Or.inl ne_b_pa)
   have Fe_74 := Fe_72.other W74 (Or.inl ne_b_pa)
   have E_a0_74 := E_a0_72.wr W74
   have F_a0_p_74 := F_a0_p_72.other W74 (Or.inl ne_a0_pa)
   have E_a1_74 := E_a1_72.wr W74
   have F_a1_p_74 := F_a1_p_72.other W74 (Or.inl ne_a1_pa)
   have E_b68_74 := E_b68_72.wr W74
   have F_b68_p_74 := F_b68_p_72.other W74 (Or.inl (Ne.symm ne_pa_b68))
   have V_la_74 := V_la_72.other W74 ne_la_pa
   have V_pa_74 : Arv Z h74 pa kp .long (256 : Int32) [(.long px), (.long x0), (.long x1)] (.long (0 : Int64)) := Arv.set Ar74 q74 S74 M74 H74 U74 rfl W74 0 rfl (Nat.le_of_ble_eq_true rfl)
   refine gu (T74.setTop (mkF m 71 #[(sR b), (sI (0 : Int32)), (sJ px), .second, (sR b68)] [])) (fun t kt => st74 _ kt) ?_
   refine gu (T74.setTop (mkF m 73 #[(sR b), (sI (0 : Int32)), (sJ px), .second, (sR b68)] [(.ref b), (.ref b)])) (fun t kt => ?_) ?_
   ·refine XS.aloadN X74.here hx rfl (hb hby d17_71) rfl rfl ?_
    show Steps _ _ _ (T74.setTop (mkF m 72 #[(sR b), (sI (0 : Int32)), (sJ px), .second, (sR b68)] [(.ref b)])) _
    refine XS.dup X74.here hx rfl (hb hby d17_72) rfl rfl ?_
    exact kt
   obtain ⟨T75, X75, e75, st75⟩ := getF X74 hx hZ hown (host := "") (Or.inl (hw _ (ix 77 rfl))) Via.refl e74 Fe_74 (g := (mkF m 73 #[(sR b), (sI (0 : Int32)), (sJ px), .second, (sR b68)] [(.ref b), (.ref b)])) rfl rfl (hb hby d17_73)
   refine gu (T75.setTop (mkF m 76 #[(sR b), (sI (0 : Int32)), (sJ px), .second, (sR b68)] [(.int (2 : Int32)), (.ref b)])) (fun t kt => st75 _ kt) ?_
   refine gu (T75.setTop (mkF m 78 #[(sR b), (sI (0 : Int32)), (sJ px), .second, (sR b68)] [(.int (3 : Int32)), (.ref b)])) (fun t kt => ?_) ?_
   ·refine XS.iconst X75.here hx rfl (hb hby d17_76) ?_
    show Steps _ _ _ (T75.setTop (mkF m 77 #[(sR b), (sI (0 : Int32)), (sJ px), .second, (sR b68)] [(.int (1 : Int32)), (.int (2 : Int32)), (.ref b)])) _
    refine XS.iadd X75.here hx rfl (hb hby d17_77) rfl ?_
    exact kt
   obtain ⟨T76, h76, X76, e76, W76, st76⟩ := putF X75 hx hZ hown (host := "") (Or.inl (hw _ (ix 77 rfl))) Via.refl e75 Fe_74 E_b_74 (Or.inl (hw _ (ix 78 rfl))) (hw _ (ix 4 rfl)) (ty := .int) (by decide) rfl rfl (g := (mkF m 78 #[(sR b), (sI (0 : Int32)), (sJ px), .second, (sR b68)] [(.int (3 : Int32)), (.ref b)])) rfl rfl (hb hby d17_78)
   have N76 := Fr.snoc X76 N74 g_b
   have O76 := O74.wr W76 g_b
   have K76 : Keep h0 h76 [b, la, pa] := K74.wr W76 (Or.inl (ix 0 rfl))
   have E_b_76 := E_b_74.wr W76
   have E_tm_76 := E_tm_74.wr W76
   have Fs_76 := Fs_74.other W76 (Or.inl (Ne.symm ne_b_tm))
   have Fa_76 := Fa_74.other W76 (Or.inr (slot_ne (Or.inr (hw _ (ix 15 rfl))) (Or.inl (hw _ (ix 78 rfl))) (by decide) (t := (.array (.object "com/example/openvenue/openvenue/core/PriceLevel"))) (t' := .int) (by decide) (by decide)))
   have Fb_76 := Fb_74.other W76 (Or.inr (slot_ne (Or.inr (hw _ (ix 18 rfl))) (Or.inl (hw _ (ix 78 rfl))) (by decide) (t := (.array .long)) (t' := .int) (by decide) (by decide)))
   have Fc_76 := Fc_74.other W76 (Or.inr (slot_ne (Or.inr (hw _ (ix 36 rfl))) (Or.inl (hw _ (ix 78 rfl))) (by decide) (t := (.object "com/example/openvenue/openvenue/core/Side")) (t' := .int) (by decide) (by decide)))
   have Fd_76 := Fd_74.other W76 (Or.inr (slot_ne (Or.inr (hw _ (ix 65 rfl))) (Or.inl (hw _ (ix 78 rfl))) (by decide) (t := (.object "java/util/NavigableMap")) (t' := .int) (by decide) (by decide)))
   have E_a0_76 := E_a0_74.wr W76
   have F_a0_p_76 := F_a0_p_74.other W76 (Or.inl (Ne.symm ne_b_a0))
   have E_a1_76 := E_a1_74.wr W76
   have F_a1_p_76 := F_a1_p_74.other W76 (Or.inl (Ne.symm ne_b_a1))
   have E_b68_76 := E_b68_74.wr W76
   have F_b68_p_76 := F_b68_p_74.other W76 (Or.inl (Ne.symm ne_b_b68))
   have V_la_76 := V_la_74.other W76 (Ne.symm ne_b_la)
   have V_pa_76 := V_pa_74.other W76 (Ne.symm ne_b_pa)
   have Fe_76 := Fe_74.same W76
   refine gu (T76.setTop (mkF m 81 #[(sR b), (sI (0 : Int32)), (sJ px), .second, (sR b68)] [])) (fun t kt => st76 _ kt) ?_
   refine gu (T76.setTop (mkF m 83 #[(sR b), (sI (0 : Int32)), (sJ px), .second, (sR b68)] [(.ref b68)])) (fun t kt => ?_) ?_
   ·refine XS.aload X76.here hx rfl (hb hby d17_81) rfl rfl ?_
    exact kt
   refine Gl.retR X76 hx hlk Bd.returns (hb hby d17_83) rfl rfl ?_ (by decide) (by decide)
   show Q17 Z _ _ _ _ _ _ _ _ _ _ _ h0 n0 _ T76.heap _; rw [e76]; have BB : Bk Z n0 h76 b la pa tm sd wB kl kp [(b68, px), (a0, x0), (a1, x1)] := ⟨E_b_76, Fa_76, Fb_76, Fc_76, Fd_76, Fe_76, E_tm_76, Fs_76, V_la_76, V_pa_76, hov, g_b, g_la, g_pa, (lvS ⟨E_b68_76, F_b68_p_76⟩ (lvS ⟨E_a0_76, F_a0_p_76⟩ (lvS ⟨E_a1_76, F_a1_p_76⟩ lv0))), hord⟩; exact ⟨b68, rfl, N76, K76, BB⟩
  ·refine gu (s₁.setTop (mkF m 1 #[(sR b), (sI (1 : Int32)), (sJ px), .second, .unset] [(.ref b)])) (fun t kt => ?_) ?_
   ·refine XS.aloadN X0.here hx rfl (hb hby d17_0) rfl rfl ?_
    exact kt
   obtain ⟨T77, X77, e77, st77⟩ := getF X0 hx hZ hown (host := "") (Or.inl (hw _ (ix 14 rfl))) Via.refl e0 Fa (g := (mkF m 1 #[(sR b), (sI (1 : Int32)), (sJ px), .second, .unset] [(.ref b)])) rfl rfl (hb hby d17_1)
   refine gu (T77.setTop (mkF m 4 #[(sR b), (sI (1 : Int32)), (sJ px), .second, .unset] [(.ref la)])) (fun t kt => st77 _ kt) ?_
   refine gu (T77.setTop (mkF m 6 #[(sR b), (sI (1 : Int32)), (sJ px), .second, .unset] [(.ref b), (.int (1 : Int32)), (.ref la)])) (fun t kt => ?_) ?_
   ·refine XS.iloadN X77.here hx rfl (hb hby d17_4) rfl ?_
    show Steps _ _ _ (T77.setTop (mkF m 5 #[(sR b), (sI (1 : Int32)), (sJ px), .second, .unset] [(.int (1 : Int32)), (.ref la)])) _
    refine XS.aloadN X77.here hx rfl (hb hby d17_5) rfl rfl ?_
    exact kt
   obtain ⟨T78, X78, e78, st78⟩ := getF X77 hx hZ hown (host := "") (Or.inl (hw _ (ix 14 rfl))) Via.refl e77 Fa (g := (mkF m 6 #[(sR b), (sI (1 : Int32)), (sJ px), .second, .unset] [(.ref b), (.int (1 : Int32)), (.ref la)])) rfl rfl (hb hby d17_6)
   refine gu (T78.setTop (mkF m 9 #[(sR b), (sI (1 : Int32)), (sJ px), .second, .unset] [(.ref la), (.int (1 : Int32)), (.ref la)])) (fun t kt => st78 _ kt) ?_
   refine gu (T78.setTop (mkF m 13 #[(sR b), (sI (1 : Int32)), (sJ px), .second, .unset] [(.ref b), (.int (2 : Int32)), (.ref la), (.int (1 : Int32)), (.ref la)])) (fun t kt => ?_) ?_
   ·refine XS.iloadN X78.here hx rfl (hb hby d17_9) rfl ?_
    show Steps _ _ _ (T78.setTop (mkF m 10 #[(sR b), (sI (1 : Int32)), (sJ px), .second, .unset] [(.int (1 : Int32)), (.ref la), (.int (1 : Int32)), (.ref la)])) _
    refine XS.iconst X78.here hx rfl (hb hby d17_10) ?_
    show Steps _ _ _ (T78.setTop (mkF m 11 #[(sR b), (sI (1 : Int32)), (sJ px), .second, .unset] [(.int (1 : Int32)), (.int (1 : Int32)), (.ref la), (.int (1 : Int32)), (.ref la)])) _
    refine XS.iadd X78.here hx rfl (hb hby d17_11) rfl ?_
    show Steps _ _ _ (T78.setTop (mkF m 12 #[(sR b), (sI (1 : Int32)), (sJ px), .second, .unset] [(.int (2 : Int32)), (.ref la), (.int (1 : Int32)), (.ref la)])) _
    refine XS.aloadN X78.here hx rfl (hb hby d17_12) rfl rfl ?_
    exact kt
   obtain ⟨T79, X79, e79, st79⟩ := getF X78 hx hZ hown (host := "") (Or.inl (hw _ (ix 77 rfl))) Via.refl e78 Fe (g := (mkF m 13 #[(sR b), (sI (1 : Int32)), (sJ px), .second, .unset] [(.ref b), (.int (2 : Int32)), (.ref la), (.int (1 : Int32)), (.ref la)])) rfl rfl (hb hby d17_13)
   refine gu (T79.setTop (mkF m 16 #[(sR b), (sI (1 : Int32)), (sJ px), .second, .unset] [(.int (2 : Int32)), (.int (2 : Int32)), (.ref la), (.int (1 : Int32)), (.ref la)])) (fun t kt => st79 _ kt) ?_
   refine gu (T79.setTop (mkF m 18 #[(sR b), (sI (1 : Int32)), (sJ px), .second, .unset] [(.int (1 : Int32)), (.int (2 : Int32)), (.ref la), (.int (1 : Int32)), (.ref la)])) (fun t kt => ?_) ?_
   ·refine XS.iloadN X79.here hx rfl (hb hby d17_16) rfl ?_
    show Steps _ _ _ (T79.setTop (mkF m 17 #[(sR b), (sI (1 : Int32)), (sJ px), .second, .unset] [(.int (1 : Int32)), (.int (2 : Int32)), (.int (2 : Int32)), (.ref la), (.int (1 : Int32)), (.ref la)])) _
    refine XS.isub X79.here hx rfl (hb hby d17_17) rfl ?_
    exact kt
   have V_la_80 : Arv Z h0 la kl oPL (256 : Int32) [(.ref a0), (.ref a1), .null] .null := V_la.pad (pad_rep [(.ref a0), (.ref a1)] .null 1)
   obtain ⟨ca81, Ar81, q81, S81, M81, H81, U81⟩ := id V_la_80
   obtain ⟨T81, h81, Lc81, X81, e81, N81, K81, W81, st81⟩ := cpA X79 hx hZ hown (hw _ (ix 121 rfl)) (hw _ (ix 124 rfl)) (hw _ (ix 122 rfl)) (hw _ (ix 123 rfl)) e79 (sp := (1 : Int32)) (dp := (2 : Int32)) (nn := (1 : Int32)) (us := [(.ref a1)]) V_la_80 V_la_80 (Or.inr ⟨rfl, rfl, ⟨(Sto.ofV Ar81 q81 hov (Ins.self E_a1)), trivial⟩⟩) (by decide) (by decide) (by decide) (by decide) (by decide) rfl (Nat.le_of_ble_eq_true rfl) N0 g_la (g := (mkF m 18 #[(sR b), (sI (1 : Int32)), (sJ px), .second, .unset] [(.int (1 : Int32)), (.int (2 : Int32)), (.ref la), (.int (1 : Int32)), (.ref la)])) rfl (sz hml) rfl (hb hby d17_18) (by decide) (W := 0) le0 (by decide)
   have O81 := O0.keep K81 (allS g_la all0)
   have KK81 : Keep h0 h81 [b, la, pa] := K0.trans K81 (allS (Or.inl (ix 1 rfl)) all0)
   have E_b_81 := E_b.keep K81
   have E_tm_81 := E_tm.keep K81
   have Fs_81 := Fs.keep K81 (ninS ne_tm_la nin0)
   have Fa_81 := Fa.keep K81 (ninS ne_b_la nin0)
   have Fb_81 := Fb.keep K81 (ninS ne_b_la nin0)
   have Fc_81 := Fc.keep K81 (ninS ne_b_la nin0)
   have Fd_81 := Fd.keep K81 (ninS ne_b_la nin0)
   have Fe_81 := Fe.keep K81 (ninS ne_b_la nin0)
   have V_pa_81 := V_pa.keep K81 (ninS (Ne.symm ne_la_pa) nin0)
   have E_a0_81 := E_a0.keep K81
   have F_a0_p_81 := F_a0_price.keep K81 (ninS ne_a0_la nin0)
   have E_a1_81 := E_a1.keep K81
   have F_a1_p_81 := F_a1_price.keep K81 (ninS ne_a1_la nin0)
   have V_la_81 : Arv Z h81 la kl oPL (256 : Int32) [(.ref a0), (.ref a1), (.ref a1)] .null := W81
   refine gu (T81.setTop (mkF m 21 #[(sR b), (sI (1 : Int32)), (sJ px), .second, .unset] [])) (fun t kt => st81 _ kt) ?_
   refine gu (T81.setTop (mkF m 22 #[(sR b), (sI (1 : Int32)), (sJ px), .second, .unset] [(.ref b)])) (fun t kt => ?_) ?_
   ·refine XS.aloadN X81.here hx rfl (hb hby d17_21) rfl rfl ?_
    exact kt
   obtain ⟨T82, X82, e82, st82⟩ := getF X81 hx hZ hown (host := "") (Or.inl (hw _ (ix 17 rfl))) Via.refl e81 Fb_81 (g := (mkF m 22 #[(sR b), (sI (1 : Int32)), (sJ px), .second, .unset] [(.ref b)])) rfl rfl (hb hby d17_22)
   refine gu (T82.setTop (mkF m 25 #[(sR b), (sI (1 : Int32)), (sJ px), .second, .unset] [(.ref pa)])) (fun t kt => st82 _ kt) ?_
   refine gu (T82.setTop (mkF m 27 #[(sR b), (sI (1 : Int32)), (sJ px), .second, .unset] [(.ref b), (.int (1 : Int32)), (.ref pa)])) (fun t kt => ?_) ?_
   ·refine XS.iloadN X82.here hx rfl (hb hby d17_25) rfl ?_
    show Steps _ _ _ (T82.setTop (mkF m 26 #[(sR b), (sI (1 : Int32)), (sJ px), .second, .unset] [(.int (1 : Int32)), (.ref pa)])) _
    refine XS.aloadN X82.here hx rfl (hb hby d17_26) rfl rfl ?_
    exact kt
   obtain ⟨T83, X83, e83, st83⟩ := getF X82 hx hZ hown (host := "") (Or.inl (hw _ (ix 17 rfl))) Via.refl e82 Fb_81 (g := (mkF m 27 #[(sR b), (sI (1 : Int32)), (sJ px), .second, .unset] [(.ref b), (.int (1 : Int32)), (.ref pa)])) rfl rfl (hb hby d17_27)
   refine gu (T83.setTop (mkF m 30 #[(sR b), (sI (1 : Int32)), (sJ px), .second, .unset] [(.ref pa), (.int (1 : Int32)), (.ref pa)])) (fun t kt => st83 _ kt) ?_
   refine gu (T83.setTop (mkF m 34 #[(sR b), (sI (1 : Int32)), (sJ px), .second, .unset] [(.ref b), (.int (2 : Int32)), (.ref pa), (.int (1 : Int32)), (.ref pa)])) (fun t kt => ?_) ?_
   ·refine XS.iloadN X83.here hx rfl (hb hby d17_30) rfl ?_
    show Steps _ _ _ (T83.setTop (mkF m 31 #[(sR b), (sI (1 : Int32)), (sJ px), .second, .unset] [(.int (1 : Int32)), (.ref pa), (.int (1 : Int32)), (.ref pa)])) _
    refine XS.iconst X83.here hx rfl (hb hby d17_31) ?_
    show Steps _ _ _ (T83.setTop (mkF m 32 #[(sR b), (sI (1 : Int32)), (sJ px), .second, .unset] [(.int (1 : Int32)), (.int (1 : Int32)), (.ref pa), (.int (1 : Int32)), (.ref pa)])) _
    refine XS.iadd X83.here hx rfl (hb hby d17_32) rfl ?_
    show Steps _ _ _ (T83.setTop (mkF m 33 #[(sR b), (sI (1 : Int32)), (sJ px), .second, .unset] [(.int (2 : Int32)), (.ref pa), (.int (1 : Int32)), (.ref pa)])) _
    refine XS.aloadN X83.here hx rfl (hb hby d17_33) rfl rfl ?_
    exact kt
   obtain ⟨T84, X84, e84, st84⟩ := getF X83 hx hZ hown (host := "") (Or.inl (hw _ (ix 77 rfl))) Via.refl e83 Fe_81 (g := (mkF m 34 #[(sR b), (sI (1 : Int32)), (sJ px), .second, .unset] [(.ref b), (.int (2 : Int32)), (.ref pa), (.int (1 : Int32)), (.ref pa)])) rfl rfl (hb hby d17_34)
   refine gu (T84.setTop (mkF m 37 #[(sR b), (sI (1 : Int32)), (sJ px), .second, .unset] [(.int (2 : Int32)), (.int (2 : Int32)), (.ref pa), (.int (1 : Int32)), (.ref pa)])) (fun t kt => st84 _ kt) ?_
   refine gu (T84.setTop (mkF m 39 #[(sR b), (sI (1 : Int32)), (sJ px), .second, .unset] [(.int (1 : Int32)), (.int (2 : Int32)), (.ref pa), (.int (1 : Int32)), (.ref pa)])) (fun t kt => ?_) ?_
   ·refine XS.iloadN X84.here hx rfl (hb hby d17_37) rfl ?_
    show Steps _ _ _ (T84.setTop (mkF m 38 #[(sR b), (sI (1 : Int32)), (sJ px), .second, .unset] [(.int (1 : Int32)), (.int (2 : Int32)), (.int (2 : Int32)), (.ref pa), (.int (1 : Int32)), (.ref pa)])) _
    refine XS.isub X84.here hx rfl (hb hby d17_38) rfl ?_
    exact kt
   have V_pa_85 : Arv Z h81 pa kp .long (256 : Int32) [(.long x0), (.long x1), (.long (0 : Int64))] (.long (0 : Int64)) := V_pa_81.pad (pad_rep [(.long x0), (.long x1)] (.long (0 : Int64)) 1)
   obtain ⟨ca86, Ar86, q86, S86, M86, H86, U86⟩ := id V_pa_85
   obtain ⟨T86, h86, Lc86, X86, e86, N86, K86, W86, st86⟩ := cpA X84 hx hZ hown (hw _ (ix 121 rfl)) (hw _ (ix 124 rfl)) (hw _ (ix 122 rfl)) (hw _ (ix 123 rfl)) e84 (sp := (1 : Int32)) (dp := (2 : Int32)) (nn := (1 : Int32)) (us := [(.long x1)]) V_pa_85 V_pa_85 (Or.inl ⟨rfl, rfl⟩) (by decide) (by decide) (by decide) (by decide) (by decide) rfl (Nat.le_of_ble_eq_true rfl) N81 g_pa (g := (mkF m 39 #[(sR b), (sI (1 : Int32)), (sJ px), .second, .unset] [(.int (1 : Int32)), (.int (2 : Int32)), (.ref pa), (.int (1 : Int32)), (.ref pa)])) rfl (sz hml) rfl (hb hby d17_39) (by decide) (W := 0) le0 (by decide)
   have O86 := O81.keep K86 (allS g_pa all0)
   have KK86 : Keep h0 h86 [b, la, pa] := KK81.trans K86 (allS (Or.inl (ix 2 rfl)) all0)
   have E_b_86 := E_b_81.keep K86
   have E_tm_86 := E_tm_81.keep K86
   have Fs_86 := Fs_81.keep K86 (ninS ne_tm_pa nin0)
   have Fa_86 := Fa_81.keep K86 (ninS ne_b_pa nin0)
   have Fb_86 := Fb_81.keep K86 (ninS ne_b_pa nin0)
   have Fc_86 := Fc_81.keep K86 (ninS ne_b_pa nin0)
   have Fd_86 := Fd_81.keep K86 (ninS ne_b_pa nin0)
   have Fe_86 := Fe_81.keep K86 (ninS ne_b_pa nin0)
   have E_a0_86 := E_a0_81.keep K86
   have F_a0_p_86 := F_a0_p_81.keep K86 (ninS ne_a0_pa nin0)
   have E_a1_86 := E_a1_81.keep K86
   have F_a1_p_86 := F_a1_p_81.keep K86 (ninS ne_a1_pa nin0)
   have V_la_86 := V_la_81.keep K86 (ninS ne_la_pa nin0)
   have V_pa_86 : Arv Z h86 pa kp .long (256 : Int32) [(.long x0), (.long x1), (.long x1)] (.long (0 : Int64)) := W86
   refine gu (T86.setTop (mkF m 42 #[(sR b), (sI (1 : Int32)), (sJ px), .second, .unset] [])) (fun t kt => st86 _ kt) ?_
   obtain ⟨T87, h87, X87, e87, E87, A87, D87, -, st87⟩ := newO X86 hx hZ hown (hw _ (ix 12 rfl)) (hw _ (ix 125 rfl)) (hw _ (ix 126 rfl)) e86 (g := (mkF m 42 #[(sR b), (sI (1 : Int32)), (sJ px), .second, .unset] [])) rfl (hb hby d17_42) (by decide) (by decide)
   obtain ⟨b87, gq87⟩ : ∃ z, z = h86.size := ⟨_, rfl⟩
   rw [← gq87] at A87 D87 st87
   have ne_b_b87 : b ≠ b87 := Nat.ne_of_lt (Nat.lt_of_lt_of_le E_b_86.lt (Nat.le_of_eq gq87.symm))
   have ne_tm_b87 : tm ≠ b87 := Nat.ne_of_lt (Nat.lt_of_lt_of_le E_tm_86.lt (Nat.le_of_eq gq87.symm))
   have ne_a0_b87 : a0 ≠ b87 := Nat.ne_of_lt (Nat.lt_of_lt_of_le E_a0_86.lt (Nat.le_of_eq gq87.symm))
   have ne_a1_b87 : a1 ≠ b87 := Nat.ne_of_lt (Nat.lt_of_lt_of_le E_a1_86.lt (Nat.le_of_eq gq87.symm))
   have ne_la_b87 : la ≠ b87 := Nat.ne_of_lt (Nat.lt_of_lt_of_le V_la_86.lt (Nat.le_of_eq gq87.symm))
   have ne_pa_b87 : pa ≠ b87 := Nat.ne_of_lt (Nat.lt_of_lt_of_le V_pa_86.lt (Nat.le_of_eq gq87.symm))
   have g_b87 : n0 ≤ b87 := Nat.le_trans (old_le O86) (Nat.le_of_eq gq87.symm)
   have z_b87 : h0.size ≤ b87 := Nat.le_trans KK86.1 (Nat.le_of_eq gq87.symm)
   have O87 := O86.ext E87
   have K87 : Keep h0 h87 [b, la, pa] := KK86.ext E87
   have E_b_87 := E_b_86.ext E87
   have E_tm_87 := E_tm_86.ext E87
   have Fs_87 := Fs_86.ext E87
   have Fa_87 := Fa_86.ext E87
   have Fb_87 := Fb_86.ext E87
   have Fc_87 := Fc_86.ext E87
   have Fd_87 := Fd_86.ext E87
   have Fe_87 := Fe_86.ext E87
   have E_a0_87 := E_a0_86.ext E87
   have F_a0_p_87 := F_a0_p_86.ext E87
   have E_a1_87 := E_a1_86.ext E87
   have F_a1_p_87 := F_a1_p_86.ext E87
   have V_la_87 := V_la_86.ext E87
   have V_pa_87 := V_pa_86.ext E87
   have F_b87_quantity_87 : Fld Z h87 b87 "com/example/openvenue/openvenue/core/PriceLevel" "quantity" "Lcom/example/openvenue/openvenue/core/QuantityTotal;" .null := D87 (Or.inr (hw _ (ix 139 rfl))) (ty := (.object "com/example/openvenue/openvenue/core/QuantityTotal")) (by decide)
   have F_b87_side_87 : Fld Z h87 b87 "com/example/openvenue/openvenue/core/PriceLevel" "side" "Lcom/example/openvenue/openvenue/core/Side;" .null := D87 (Or.inr (hw _ (ix 141 rfl))) (ty := (.object "com/example/openvenue/openvenue/core/Side")) (by decide)
   have F_b87_p_87 : Fld Z h87 b87 "com/example/openvenue/openvenue/core/PriceLevel" "price" "J" (.long (0 : Int64)) := D87 (Or.inr (hw _ (ix 143 rfl))) (ty := .long) (by decide)
   refine gu (T87.setTop (mkF m 45 #[(sR b), (sI (1 : Int32)), (sJ px), .second, .unset] [(.ref b87)])) (fun t kt => st87 _ kt) ?_
   refine gu (T87.setTop (mkF m 47 #[(sR b), (sI (1 : Int32)), (sJ px), .second, .unset] [(.ref b), (.ref b87), (.ref b87)])) (fun t kt => ?_) ?_
   ·refine XS.dup X87.here hx rfl (hb hby d17_45) rfl rfl ?_
    show Steps _ _ _ (T87.setTop (mkF m 46 #[(sR b), (sI (1 : Int32)), (sJ px), .second, .unset] [(.ref b87), (.ref b87)])) _
    refine XS.aloadN X87.here hx rfl (hb hby d17_46) rfl rfl ?_
    exact kt
   obtain ⟨T88, X88, e88, st88⟩ := getF X87 hx hZ hown (host := "") (Or.inl (hw _ (ix 35 rfl))) Via.refl e87 Fc_87 (g := (mkF m 47 #[(sR b), (sI (1 : Int32)), (sJ px), .second, .unset] [(.ref b), (.ref b87), (.ref b87)])) rfl rfl (hb hby d17_47)
   refine gu (T88.setTop (mkF m 50 #[(sR b), (sI (1 : Int32)), (sJ px), .second, .unset] [(.ref sd), (.ref b87), (.ref b87)])) (fun t kt => st88 _ kt) ?_
   refine gu (T88.setTop (mkF m 51 #[(sR b), (sI (1 : Int32)), (sJ px), .second, .unset] [(.long px), (.ref sd), (.ref b87), (.ref b87)])) (fun t kt => ?_) ?_
   ·refine XS.lloadN X88.here hx rfl (hb hby d17_50) rfl ?_
    exact kt
   obtain ⟨_, _, ⟨T89, L89, k89, n89⟩, -, X89, ⟨Lc89, hQ89, l89, y89, z89⟩, st89⟩ := X88.specialBack hx (y := mn2) rfl hown (mvT hZ (hw _ (ix 127 rfl))) (mvT hZ (hw _ (ix 128 rfl))) (mvT hZ (hw _ (ix 129 rfl))) (by decide) (backOf (W := 1) (rm3 l Z aa hw [] b87 sd px (0 : Int64) h87 n0 O87 A87 F_b87_quantity_87 F_b87_side_87 F_b87_p_87 g_b87) hZ (hw _ (ix 129 rfl)) (hw _ (ix 126 rfl)) (by decide) (by decide)) (g := (mkF m 51 #[(sR b), (sI (1 : Int32)), (sJ px), .second, .unset] [(.long px), (.ref sd), (.ref b87), (.ref b87)])) rfl (sz hml) (Steps.refl _) (a := b87) (argsL := [(.ref sd), (.long px)]) (rest := [(.ref b87)]) (lenOf pd_oLcom_example_openvenue_openvenue_core_SideJcV rfl) rfl le0 (hb hby d17_51) (fun _ _ => ⟨rfl, e88, (by decide : 1 + 1 ≤ _), (by decide : 6 + 2 ≤ _)⟩)
   dsimp only [Pt.U, Pt.locs, Pt.cells, Pt.slots] at X89 l89 y89 z89 st89 hQ89
   subst l89 y89 z89
   obtain ⟨rfl, M89, K89, F_b87_p_89⟩ := hQ89
   have N89 := Fr.app N86 M89
   have O89 := O87.keep K89 (allS g_b87 all0)
   have KK89 : Keep h0 T89.heap [b, la, pa] := K87.trans K89 (allS (Or.inr z_b87) all0)
   have E_b_89 := E_b_87.keep K89
   have E_tm_89 := E_tm_87.keep K89
   have Fs_89 := Fs_87.keep K89 (ninS ne_tm_b87 nin0)
   have Fa_89 := Fa_87.keep K89 (ninS ne_b_b87 nin0)
   have Fb_89 := Fb_87.keep K89 (ninS ne_b_b87 nin0)
   have Fc_89 := Fc_87.keep K89 (ninS ne_b_b87 nin0)
   have Fd_89 := Fd_87.keep K89 (ninS ne_b_b87 nin0)
   have Fe_89 := Fe_87.keep K89 (ninS ne_b_b87 nin0)
   have E_a0_89 := E_a0_87.keep K89
   have F_a0_p_89 := F_a0_p_87.keep K89 (ninS ne_a0_b87 nin0)
   have E_a1_89 := E_a1_87.keep K89
   have F_a1_p_89 := F_a1_p_87.keep K89 (ninS ne_a1_b87 nin0)
   have V_la_89 := V_la_87.keep K89 (ninS ne_la_b87 nin0)
   have V_pa_89 := V_pa_87.keep K89 (ninS ne_pa_b87 nin0)
   have E_b87_89 := A87.keep K89
   refine gu (T89.setTop (mkF m 54 #[(sR b), (sI (1 : Int32)), (sJ px), .second, .unset] [(.ref b87)])) (fun t kt => st89.trans kt) ?_
   refine gu (T89.setTop (mkF m 57 #[(sR b), (sI (1 : Int32)), (sJ px), .second, (sR b87)] [(.ref b)])) (fun t kt => ?_) ?_
   ·refine XS.astore X89.here hx rfl (hb hby d17_54) rfl rfl (l' := #[(sR b), (sI (1 : Int32)), (sJ px), .second, (sR b87)]) rfl ?_
    show Steps _ _ _ (T89.setTop (mkF m 56 #[(sR b), (sI (1 : Int32)), (sJ px), .second, (sR b87)] [])) _
    refine XS.aloadN X89.here hx rfl (hb hby d17_56) rfl rfl ?_
    exact kt
   obtain ⟨T90, X90, e90, st90⟩ := getF X89 hx hZ hown (host := "") (Or.inl (hw _ (ix 14 rfl))) Via.refl rfl Fa_89 (g := (mkF m 57 #[(sR b), (sI (1 : Int32)), (sJ px), .second, (sR b87)] [(.ref b)])) rfl rfl (hb hby d17_57)
   refine gu (T90.setTop (mkF m 60 #[(sR b), (sI (1 : Int32)), (sJ px), .second, (sR b87)] [(.ref la)])) (fun t kt => st90 _ kt) ?_
   refine gu (T90.setTop (mkF m 63 #[(sR b), (sI (1 : Int32)), (sJ px), .second, (sR b87)] [(.ref b87), (.int (1 : Int32)), (.ref la)])) (fun t kt => ?_) ?_
   ·refine XS.iloadN X90.here hx rfl (hb hby d17_60) rfl ?_
    show Steps _ _ _ (T90.setTop (mkF m 61 #[(sR b), (sI (1 : Int32)), (sJ px), .second, (sR b87)] [(.int (1 : Int32)), (.ref la)])) _
    refine XS.aload X90.here hx rfl (hb hby d17_61) rfl rfl ?_
    exact kt
   obtain ⟨ca91, Ar91, q91, S91, M91, H91, U91⟩ := id V_la_89
   obtain ⟨T91, h91, X91, e91, W91, st91⟩ := stR X90 hx hZ e90 Ar91 (j := (1 : Int32)) (v := (.ref b87)) (inb_of S91 ⟨by decide, by decide⟩) rfl (Sto.ofV Ar91 q91 hov (Ins.self E_b87_89)) (g := (mkF m 63 #[(sR b), (sI (1 : Int32)), (sJ px), .second, (sR b87)] [(.ref b87), (.int (1 : Int32)), (.ref la)])) rfl rfl (hb hby d17_63)
   have N91 := Fr.snoc X91 N89 g_la
   have O91 := O89.wr W91 g_la
   have K91 : Keep h0 h91 [b, la, pa] := KK89.wr W91 (Or.inl (ix 1 rfl))
   have E_b_91 := E_b_89.wr W91
   have E_tm_91 := E_tm_89.wr W91
   have Fs_91 := Fs_89.other W91 (Or.inl ne_tm_la)
   have Fa_91 := Fa_89.other W91 (Or.inl ne_b_la)
   have Fb_91 := Fb_89.other W91 (Or.inl ne_b_la)
   have Fc_91 := Fc_89.other W91 (Or.inl ne_b_la)
   have Fd_91 := Fd_89.other W91 (Or.inl ne_b_la)
   have Fe_91 := Fe_89.other W91 (Or.inl ne_b_la)
   have E_a0_91 := E_a0_89.wr W91
   have F_a0_p_91 := F_a0_p_89.other W91 (Or.inl ne_a0_la)
   have E_a1_91 := E_a1_89.wr W91
   have F_a1_p_91 := F_a1_p_89.other W91 (Or.inl ne_a1_la)
   have V_pa_91 := V_pa_89.other W91 (Ne.symm ne_la_pa)
   have E_b87_91 := E_b87_89.wr W91
   have F_b87_p_91 := F_b87_p_89.other W91 (Or.inl (Ne.symm ne_la_b87))
   have V_la_91 : Arv Z h91 la kl oPL (256 : Int32) [(.ref a0), (.ref b87), (.ref a1)] .null := Arv.set Ar91 q91 S91 M91 H91 U91 rfl W91 1 rfl (Nat.le_of_ble_eq_true rfl)
   refine gu (T91.setTop (mkF m 64 #[(sR b), (sI (1 : Int32)), (sJ px), .second, (sR b87)] [])) (fun t kt => st91 _ kt) ?_
   refine gu (T91.setTop (mkF m 65 #[(sR b), (sI (1 : Int32)), (sJ px), .second, (sR b87)] [(.ref b)])) (fun t kt => ?_) ?_
   ·refine XS.aloadN X91.here hx rfl (hb hby d17_64) rfl rfl ?_
    exact kt
   obtain ⟨T92, X92, e92, st92⟩ := getF X91 hx hZ hown (host := "") (Or.inl (hw _ (ix 17 rfl))) Via.refl e91 Fb_91 (g := (mkF m 65 #[(sR b), (sI (1 : Int32)), (sJ px), .second, (sR b87)] [(.ref b)])) rfl rfl (hb hby d17_65)
   refine gu (T92.setTop (mkF m 68 #[(sR b), (sI (1 : Int32)), (sJ px), .second, (sR b87)] [(.ref pa)])) (fun t kt => st92 _ kt) ?_
   refine gu (T92.setTop (mkF m 70 #[(sR b), (sI (1 : Int32)), (sJ px), .second, (sR b87)] [(.long px), (.int (1 : Int32)), (.ref pa)])) (fun t kt => ?_) ?_
   ·refine XS.iloadN X92.here hx rfl (hb hby d17_68) rfl ?_
    show Steps _ _ _ (T92.setTop (mkF m 69 #[(sR b), (sI (1 : Int32)), (sJ px), .second, (sR b87)] [(.int (1 : Int32)), (.ref pa)])) _
    refine XS.lloadN X92.here hx rfl (hb hby d17_69) rfl ?_
    exact kt
   obtain ⟨ca93, Ar93, q93, S93, M93, H93, U93⟩ := id V_pa_91
   obtain ⟨T93, h93, X93, e93, W93, st93⟩ := stJ X92 hx hZ e92 Ar93 (j := (1 : Int32)) (inb_of S93 ⟨by decide, by decide⟩) (g := (mkF m 70 #[(sR b), (sI (1 : Int32)), (sJ px), .second, (sR b87)] [(.long px), (.int (1 : Int32)), (.ref pa)])) rfl rfl (hb hby d17_70)
   have N93 := Fr.snoc X93 N91 g_pa
   have O93 := O91.wr W93 g_pa
   have K93 : Keep h0 h93 [b, la, pa] := K91.wr W93 (Or.inl (ix 2 rfl))
   have E_b_93 := E_b_91.wr W93
   have E_tm_93 := E_tm_91.wr W93
   have Fs_93 := Fs_91.other W93 (Or.inl ne_tm_pa)
   have Fa_93 := Fa_91.other W93 (Or.inl ne_b_pa)
   have Fb_93 := Fb_91.other W93 (Or.inl ne_b_pa)
   have Fc_93 := Fc_91.other W93 (Or.inl ne_b_pa)
   have Fd_93 := Fd_91.other W93 (Or.inl ne_b_pa)
   have Fe_93 := Fe_91.other W93 (Or.inl ne_b_pa)
   have E_a0_93 := E_a0_91.wr W93
   have F_a0_p_93 := F_a0_p_91.other W93 (Or.inl ne_a0_pa)
   have E_a1_93 := E_a1_91.wr W93
   have F_a1_p_93 := F_a1_p_91.other W93 (Or.inl ne_a1_pa)
   have E_b87_93 := E_b87_91.wr W93
   have F_b87_p_93 := F_b87_p_91.other W93 (Or.inl (Ne.symm ne_pa_b87))
   have V_la_93 := V_la_91.other W93 ne_la_pa
   have V_pa_93 : Arv Z h93 pa kp .long (256 : Int32) [(.long x0), (.long px), (.long x1)] (.long (0 : Int64)) := Arv.set Ar93 q93 S93 M93 H93 U93 rfl W93 1 rfl (Nat.le_of_ble_eq_true rfl)
   refine gu (T93.setTop (mkF m 71 #[(sR b), (sI (1 : Int32)), (sJ px), .second, (sR b87)] [])) (fun t kt => st93 _ kt) ?_
   refine gu (T93.setTop (mkF m 73 #[(sR b), (sI (1 : Int32)), (sJ px), .second, (sR b87)] [(.ref b), (.ref b)])) (fun t kt => ?_) ?_
   ·refine XS.aloadN X93.here hx rfl (hb hby d17_71) rfl rfl ?_
    show Steps _ _ _ (T93.setTop (mkF m 72 #[(sR b), (sI (1 : Int32)), (sJ px), .second, (sR b87)] [(.ref b)])) _
    refine XS.dup X93.here hx rfl (hb hby d17_72) rfl rfl ?_
    exact kt
   obtain ⟨T94, X94, e94, st94⟩ := getF X93 hx hZ hown (host := "") (Or.inl (hw _ (ix 77 rfl))) Via.refl e93 Fe_93 (g := (mkF m 73 #[(sR b), (sI (1 : Int32)), (sJ px), .second, (sR b87)] [(.ref b), (.ref b)])) rfl rfl (hb hby d17_73)
   refine gu (T94.setTop (mkF m 76 #[(sR b), (sI (1 : Int32)), (sJ px), .second, (sR b87)] [(.int (2 : Int32)), (.ref b)])) (fun t kt => st94 _ kt) ?_
   refine gu (T94.setTop (mkF m 78 #[(sR b), (sI (1 : Int32)), (sJ px), .second, (sR b87)] [(.int (3 : Int32)), (.ref b)])) (fun t kt => ?_) ?_
   ·refine XS.iconst X94.here hx rfl (hb hby d17_76) ?_
    show Steps _ _ _ (T94.setTop (mkF m 77 #[(sR b), (sI (1 : Int32)), (sJ px), .second, (sR b87)] [(.int (1 : Int32)), (.int (2 : Int32)), (.ref b)])) _
    refine XS.iadd X94.here hx rfl (hb hby d17_77) rfl ?_
    exact kt
   obtain ⟨T95, h95, X95, e95, W95, st95⟩ := putF X94 hx hZ hown (host := "") (Or.inl (hw _ (ix 77 rfl))) Via.refl e94 Fe_93 E_b_93 (Or.inl (hw _ (ix 78 rfl))) (hw _ (ix 4 rfl)) (ty := .int) (by decide) rfl rfl (g := (mkF m 78 #[(sR b), (sI (1 : Int32)), (sJ px), .second, (sR b87)] [(.int (3 : Int32)), (.ref b)])) rfl rfl (hb hby d17_78)
   have N95 := Fr.snoc X95 N93 g_b
   have O95 := O93.wr W95 g_b
   have K95 : Keep h0 h95 [b, la, pa] := K93.wr W95 (Or.inl (ix 0 rfl))
   have E_b_95 := E_b_93.wr W95
   have E_tm_95 := E_tm_93.wr W95
   have Fs_95 := Fs_93.other W95 (Or.inl (Ne.symm ne_b_tm))
   have Fa_95 := Fa_93.other W95 (Or.inr (slot_ne (Or.inr (hw _ (ix 15 rfl))) (Or.inl (hw _ (ix 78 rfl))) (by decide) (t := (.array (.object "com/example/openvenue/openvenue/core/PriceLevel"))) (t' := .int) (by decide) (by decide)))
   have Fb_95 := Fb_93.other W95 (Or.inr (slot_ne (Or.inr (hw _ (ix 18 rfl))) (Or.inl (hw _ (ix 78 rfl))) (by decide) (t := (.array .long)) (t' := .int) (by decide) (by decide)))
   have Fc_95 := Fc_93.other W95 (Or.inr (slot_ne (Or.inr (hw _ (ix 36 rfl))) (Or.inl (hw _ (ix 78 rfl))) (by decide) (t := (.object "com/example/openvenue/openvenue/core/Side")) (t' := .int) (by decide) (by decide)))
   have Fd_95 := Fd_93.other W95 (Or.inr (slot_ne (Or.inr (hw _ (ix 65 rfl))) (Or.inl (hw _ (ix 78 rfl))) (by decide) (t := (.object "java/util/NavigableMap")) (t' := .int) (by decide) (by decide)))
   have E_a0_95 := E_a0_93.wr W95
   have F_a0_p_95 := F_a0_p_93.other W95 (Or.inl (Ne.symm ne_b_a0))
   have E_a1_95 := E_a1_93.wr W95
   have F_a1_p_95 := F_a1_p_93.other W95 (Or.inl (Ne.symm ne_b_a1))
   have E_b87_95 := E_b87_93.wr W95
   have F_b87_p_95 := F_b87_p_93.other W95 (Or.inl (Ne.symm ne_b_b87))
   have V_la_95 := V_la_93.other W95 (Ne.symm ne_b_la)
   have V_pa_95 := V_pa_93.other W95 (Ne.symm ne_b_pa)
   have Fe_95 := Fe_93.same W95
   refine gu (T95.setTop (mkF m 81 #[(sR b), (sI (1 : Int32)), (sJ px), .second, (sR b87)] [])) (fun t kt => st95 _ kt) ?_
   refine gu (T95.setTop (mkF m 83 #[(sR b), (sI (1 : Int32)), (sJ px), .second, (sR b87)] [(.ref b87)])) (fun t kt => ?_) ?_
   ·refine XS.aload X95.here hx rfl (hb hby d17_81) rfl rfl ?_
    exact kt
   refine Gl.retR X95 hx hlk Bd.returns (hb hby d17_83) rfl rfl ?_ (by decide) (by decide)
   show Q17 Z _ _ _ _ _ _ _ _ _ _ _ h0 n0 _ T95.heap _; rw [e95]; have BB : Bk Z n0 h95 b la pa tm sd wB kl kp [(a0, x0), (b87, px), (a1, x1)] := ⟨E_b_95, Fa_95, Fb_95, Fc_95, Fd_95, Fe_95, E_tm_95, Fs_95, V_la_95, V_pa_95, hov, g_b, g_la, g_pa, (lvS ⟨E_a0_95, F_a0_p_95⟩ (lvS ⟨E_b87_95, F_b87_p_95⟩ (lvS ⟨E_a1_95, F_a1_p_95⟩ lv0))), hord⟩; exact ⟨b87, rfl, N95, K95, BB⟩
  ·refine gu (s₁.setTop (mkF m 1 #[(sR b), (sI (2 : Int32)), (sJ px), .second, .unset] [(.ref b)])) (fun t kt => ?_) ?_
   ·refine XS.aloadN X0.here hx rfl (hb hby d17_0) rfl rfl ?_
    exact kt
   obtain ⟨T96, X96, e96, st96⟩ := getF X0 hx hZ hown (host := "") (Or.inl (hw _ (ix 14 rfl))) Via.refl e0 Fa (g := (mkF m 1 #[(sR b), (sI (2 : Int32)), (sJ px), .second, .unset] [(.ref b)])) rfl rfl (hb hby d17_1)
   refine gu (T96.setTop (mkF m 4 #[(sR b), (sI (2 : Int32)), (sJ px), .second, .unset] [(.ref la)])) (fun t kt => st96 _ kt) ?_
   refine gu (T96.setTop (mkF m 6 #[(sR b), (sI (2 : Int32)), (sJ px), .second, .unset] [(.ref b), (.int (2 : Int32)), (.ref la)])) (fun t kt => ?_) ?_
   ·refine XS.iloadN X96.here hx rfl (hb hby d17_4) rfl ?_
    show Steps _ _ _ (T96.setTop (mkF m 5 #[(sR b), (sI (2 : Int32)), (sJ px), .second, .unset] [(.int (2 : Int32)), (.ref la)])) _
    refine XS.aloadN X96.here hx rfl (hb hby d17_5) rfl rfl ?_
    exact kt
   obtain ⟨T97, X97, e97, st97⟩ := getF X96 hx hZ hown (host := "") (Or.inl (hw _ (ix 14 rfl))) Via.refl e96 Fa (g := (mkF m 6 #[(sR b), (sI (2 : Int32)), (sJ px), .second, .unset] [(.ref b), (.int (2 : Int32)), (.ref la)])) rfl rfl (hb hby d17_6)
   refine gu (T97.setTop (mkF m 9 #[(sR b), (sI (2 : Int32)), (sJ px), .second, .unset] [(.ref la), (.int (2 : Int32)), (.ref la)])) (fun t kt => st97 _ kt) ?_
   refine gu (T97.setTop (mkF m 13 #[(sR b), (sI (2 : Int32)), (sJ px), .second, .unset] [(.ref b), (.int (3 : Int32)), (.ref la), (.int (2 : Int32)), (.ref la)])) (fun t kt => ?_) ?_
   ·refine XS.iloadN X97.here hx rfl (hb hby d17_9) rfl ?_
    show Steps _ _ _ (T97.setTop (mkF m 10 #[(sR b), (sI (2 : Int32)), (sJ px), .second, .unset] [(.int (2 : Int32)), (.ref la), (.int (2 : Int32)), (.ref la)])) _
    refine XS.iconst X97.here hx rfl (hb hby d17_10) ?_
    show Steps _ _ _ (T97.setTop (mkF m 11 #[(sR b), (sI (2 : Int32)), (sJ px), .second, .unset] [(.int (1 : Int32)), (.int (2 : Int32)), (.ref la), (.int (2 : Int32)), (.ref la)])) _
    refine XS.iadd X97.here hx rfl (hb hby d17_11) rfl ?_
    show Steps _ _ _ (T97.setTop (mkF m 12 #[(sR b), (sI (2 : Int32)), (sJ px), .second, .unset] [(.int (3 : Int32)), (.ref la), (.int (2 : Int32)), (.ref la)])) _
    refine XS.aloadN X97.here hx rfl (hb hby d17_12) rfl rfl ?_
    exact kt
   obtain ⟨T98, X98, e98, st98⟩ := getF X97 hx hZ hown (host := "") (Or.inl (hw _ (ix 77 rfl))) Via.refl e97 Fe (g := (mkF m 13 #[(sR b), (sI (2 : Int32)), (sJ px), .second, .unset] [(.ref b), (.int (3 : Int32)), (.ref la), (.int (2 : Int32)), (.ref la)])) rfl rfl (hb hby d17_13)
   refine gu (T98.setTop (mkF m 16 #[(sR b), (sI (2 : Int32)), (sJ px), .second, .unset] [(.int (2 : Int32)), (.int (3 : Int32)), (.ref la), (.int (2 : Int32)), (.ref la)])) (fun t kt => st98 _ kt) ?_
   refine gu (T98.setTop (mkF m 18 #[(sR b), (sI (2 : Int32)), (sJ px), .second, .unset] [(.int (0 : Int32)), (.int (3 : Int32)), (.ref la), (.int (2 : Int32)), (.ref la)])) (fun t kt => ?_) ?_
   ·refine XS.iloadN X98.here hx rfl (hb hby d17_16) rfl ?_
    show Steps _ _ _ (T98.setTop (mkF m 17 #[(sR b), (sI (2 : Int32)), (sJ px), .second, .unset] [(.int (2 : Int32)), (.int (2 : Int32)), (.int (3 : Int32)), (.ref la), (.int (2 : Int32)), (.ref la)])) _
    refine XS.isub X98.here hx rfl (hb hby d17_17) rfl ?_
    exact kt
   have V_la_99 : Arv Z h0 la kl oPL (256 : Int32) [(.ref a0), (.ref a1), .null] .null := V_la.pad (pad_rep [(.ref a0), (.ref a1)] .null 1)
   obtain ⟨ca100, Ar100, q100, S100, M100, H100, U100⟩ := id V_la_99
   obtain ⟨T100, h100, Lc100, X100, e100, N100, K100, W100, st100⟩ := cpA X98 hx hZ hown (hw _ (ix 121 rfl)) (hw _ (ix 124 rfl)) (hw _ (ix 122 rfl)) (hw _ (ix 123 rfl)) e98 (sp := (2 : Int32)) (dp := (3 : Int32)) (nn := (0 : Int32)) (us := []) V_la_99 V_la_99 (Or.inr ⟨rfl, rfl, trivial⟩) (by decide) (by decide) (by decide) (by decide) (by decide) rfl (Nat.le_of_ble_eq_true rfl) N0 g_la (g := (mkF m 18 #[(sR b), (sI (2 : Int32)), (sJ px), .second, .unset] [(.int (0 : Int32)), (.int (3 : Int32)), (.ref la), (.int (2 : Int32)), (.ref la)])) rfl (sz hml) rfl (hb hby d17_18) (by decide) (W := 0) le0 (by decide)
   have O100 := O0.keep K100 (allS g_la all0)
   have KK100 : Keep h0 h100 [b, la, pa] := K0.trans K100 (allS (Or.inl (ix 1 rfl)) all0)
   have E_b_100 := E_b.keep K100
   have E_tm_100 := E_tm.keep K100
   have Fs_100 := Fs.keep K100 (ninS ne_tm_la nin0)
   have Fa_100 := Fa.keep K100 (ninS ne_b_la nin0)
   have Fb_100 := Fb.keep K100 (ninS ne_b_la nin0)
   have Fc_100 := Fc.keep K100 (ninS ne_b_la nin0)
   have Fd_100 := Fd.keep K100 (ninS ne_b_la nin0)
   have Fe_100 := Fe.keep K100 (ninS ne_b_la nin0)
   have V_pa_100 := V_pa.keep K100 (ninS (Ne.symm ne_la_pa) nin0)
   have E_a0_100 := E_a0.keep K100
   have F_a0_p_100 := F_a0_price.keep K100 (ninS ne_a0_la nin0)
   have E_a1_100 := E_a1.keep K100
   have F_a1_p_100 := F_a1_price.keep K100 (ninS ne_a1_la nin0)
   have V_la_100 : Arv Z h100 la kl oPL (256 : Int32) [(.ref a0), (.ref a1), .null] .null := W100
   refine gu (T100.setTop (mkF m 21 #[(sR b), (sI (2 : Int32)), (sJ px), .second, .unset] [])) (fun t kt => st100 _ kt) ?_
   refine gu (T100.setTop (mkF m 22 #[(sR b), (sI (2 : Int32)), (sJ px), .second, .unset] [(.ref b)])) (fun t kt => ?_) ?_
   ·refine XS.aloadN X100.here hx rfl (hb hby d17_21) rfl rfl ?_
    exact kt
   obtain ⟨T101, X101, e101, st101⟩ := getF X100 hx hZ hown (host := "") (Or.inl (hw _ (ix 17 rfl))) Via.refl e100 Fb_100 (g := (mkF m 22 #[(sR b), (sI (2 : Int32)), (sJ px), .second, .unset] [(.ref b)])) rfl rfl (hb hby d17_22)
   refine gu (T101.setTop (mkF m 25 #[(sR b), (sI (2 : Int32)), (sJ px), .second, .unset] [(.ref pa)])) (fun t kt => st101 _ kt) ?_
   refine gu (T101.setTop (mkF m 27 #[(sR b), (sI (2 : Int32)), (sJ px), .second, .unset] [(.ref b), (.int (2 : Int32)), (.ref pa)])) (fun t kt => ?_) ?_
   ·refine XS.iloadN X101.here hx rfl (hb hby d17_25) rfl ?_
    show Steps _ _ _ (T101.setTop (mkF m 26 #[(sR b), (sI (2 : Int32)), (sJ px), .second, .unset] [(.int (2 : Int32)), (.ref pa)])) _
    refine XS.aloadN X101.here hx rfl (hb hby d17_26) rfl rfl ?_
    exact kt
   obtain ⟨T102, X102, e102, st102⟩ := getF X101 hx hZ hown (host := "") (Or.inl (hw _ (ix 17 rfl))) Via.refl e101 Fb_100 (g := (mkF m 27 #[(sR b), (sI (2 : Int32)), (sJ px), .second, .unset] [(.ref b), (.int (2 : Int32)), (.ref pa)])) rfl rfl (hb hby d17_27)
   refine gu (T102.setTop (mkF m 30 #[(sR b), (sI (2 : Int32)), (sJ px), .second, .unset] [(.ref pa), (.int (2 : Int32)), (.ref pa)])) (fun t kt => st102 _ kt) ?_
   refine gu (T102.setTop (mkF m 34 #[(sR b), (sI (2 : Int32)), (sJ px), .second, .unset] [(.ref b), (.int (3 : Int32)), (.ref pa), (.int (2 : Int32)), (.ref pa)])) (fun t kt => ?_) ?_
   ·refine XS.iloadN X102.here hx rfl (hb hby d17_30) rfl ?_
    show Steps _ _ _ (T102.setTop (mkF m 31 #[(sR b), (sI (2 : Int32)), (sJ px), .second, .unset] [(.int (2 : Int32)), (.ref pa), (.int (2 : Int32)), (.ref pa)])) _
    refine XS.iconst X102.here hx rfl (hb hby d17_31) ?_
    show Steps _ _ _ (T102.setTop (mkF m 32 #[(sR b), (sI (2 : Int32)), (sJ px), .second, .unset] [(.int (1 : Int32)), (.int (2 : Int32)), (.ref pa), (.int (2 : Int32)), (.ref pa)])) _
    refine XS.iadd X102.here hx rfl (hb hby d17_32) rfl ?_
    show Steps _ _ _ (T102.setTop (mkF m 33 #[(sR b), (sI (2 : Int32)), (sJ px), .second, .unset] [(.int (3 : Int32)), (.ref pa), (.int (2 : Int32)), (.ref pa)])) _
    refine XS.aloadN X102.here hx rfl (hb hby d17_33) rfl rfl ?_
    exact kt
   obtain ⟨T103, X103, e103, st103⟩ := getF X102 hx hZ hown (host := "") (Or.inl (hw _ (ix 77 rfl))) Via.refl e102 Fe_100 (g := (mkF m 34 #[(sR b), (sI (2 : Int32)), (sJ px), .second, .unset] [(.ref b), (.int (3 : Int32)), (.ref pa), (.int (2 : Int32)), (.ref pa)])) rfl rfl (hb hby d17_34)
   refine gu (T103.setTop (mkF m 37 #[(sR b), (sI (2 : Int32)), (sJ px), .second, .unset] [(.int (2 : Int32)), (.int (3 : Int32)), (.ref pa), (.int (2 : Int32)), (.ref pa)])) (fun t kt => st103 _ kt) ?_
   refine gu (T103.setTop (mkF m 39 #[(sR b), (sI (2 : Int32)), (sJ px), .second, .unset] [(.int (0 : Int32)), (.int (3 : Int32)), (.ref pa), (.int (2 : Int32)), (.ref pa)])) (fun t kt => ?_) ?_
   ·refine XS.iloadN X103.here hx rfl (hb hby d17_37) rfl ?_
    show Steps _ _ _ (T103.setTop (mkF m 38 #[(sR b), (sI (2 : Int32)), (sJ px), .second, .unset] [(.int (2 : Int32)), (.int (2 : Int32)), (.int (3 : Int32)), (.ref pa), (.int (2 : Int32)), (.ref pa)])) _
    refine XS.isub X103.here hx rfl (hb hby d17_38) rfl ?_
    exact kt
   have V_pa_104 : Arv Z h100 pa kp .long (256 : Int32) [(.long x0), (.long x1), (.long (0 : Int64))] (.long (0 : Int64)) := V_pa_100.pad (pad_rep [(.long x0), (.long x1)] (.long (0 : Int64)) 1)
   obtain ⟨ca105, Ar105, q105, S105, M105, H105, U105⟩ := id V_pa_104
   obtain ⟨T105, h105, Lc105, X105, e105, N105, K105, W105, st105⟩ := cpA X103 hx hZ hown (hw _ (ix 121 rfl)) (hw _ (ix 124 rfl)) (hw _ (ix 122 rfl)) (hw _ (ix 123 rfl)) e103 (sp := (2 : Int32)) (dp := (3 : Int32)) (nn := (0 : Int32)) (us := []) V_pa_104 V_pa_104 (Or.inl ⟨rfl, rfl⟩) (by decide) (by decide) (by decide) (by decide) (by decide) rfl (Nat.le_of_ble_eq_true rfl) N100 g_pa (g := (mkF m 39 #[(sR b), (sI (2 : Int32)), (sJ px), .second, .unset] [(.int (0 : Int32)), (.int (3 : Int32)), (.ref pa), (.int (2 : Int32)), (.ref pa)])) rfl (sz hml) rfl (hb hby d17_39) (by decide) (W := 0) le0 (by decide)
   have O105 := O100.keep K105 (allS g_pa all0)
   have KK105 : Keep h0 h105 [b, la, pa] := KK100.trans K105 (allS (Or.inl (ix 2 rfl)) all0)
   have E_b_105 := E_b_100.keep K105
   have E_tm_105 := E_tm_100.keep K105
   have Fs_105 := Fs_100.keep K105 (ninS ne_tm_pa nin0)
   have Fa_105 := Fa_100.keep K105 (ninS ne_b_pa nin0)
   have Fb_105 := Fb_100.keep K105 (ninS ne_b_pa nin0)
   have Fc_105 := Fc_100.keep K105 (ninS ne_b_pa nin0)
   have Fd_105 := Fd_100.keep K105 (ninS ne_b_pa nin0)
   have Fe_105 := Fe_100.keep K105 (ninS ne_b_pa nin0)
   have E_a0_105 := E_a0_100.keep K105
   have F_a0_p_105 := F_a0_p_100.keep K105 (ninS ne_a0_pa nin0)
   have E_a1_105 := E_a1_100.keep K105
   have F_a1_p_105 := F_a1_p_100.keep K105 (ninS ne_a1_pa nin0)
   have V_la_105 := V_la_100.keep K105 (ninS ne_la_pa nin0)
   have V_pa_105 : Arv Z h105 pa kp .long (256 : Int32) [(.long x0), (.long x1), (.long (0 : Int64))] (.long (0 : Int64)) := W105
   refine gu (T105.setTop (mkF m 42 #[(sR b), (sI (2 : Int32)), (sJ px), .second, .unset] [])) (fun t kt => st105 _ kt) ?_
   obtain ⟨T106, h106, X106, e106, E106, A106, D106, -, st106⟩ := newO X105 hx hZ hown (hw _ (ix 12 rfl)) (hw _ (ix 125 rfl)) (hw _ (ix 126 rfl)) e105 (g := (mkF m 42 #[(sR b), (sI (2 : Int32)), (sJ px), .second, .unset] [])) rfl (hb hby d17_42) (by decide) (by decide)
   obtain ⟨b106, gq106⟩ : ∃ z, z = h105.size := ⟨_, rfl⟩
   rw [← gq106] at A106 D106 st106
   have ne_b_b106 : b ≠ b106 := Nat.ne_of_lt (Nat.lt_of_lt_of_le E_b_105.lt (Nat.le_of_eq gq106.symm))
   have ne_tm_b106 : tm ≠ b106 := Nat.ne_of_lt (Nat.lt_of_lt_of_le E_tm_105.lt (Nat.le_of_eq gq106.symm))
   have ne_a0_b106 : a0 ≠ b106 := Nat.ne_of_lt (Nat.lt_of_lt_of_le E_a0_105.lt (Nat.le_of_eq gq106.symm))
   have ne_a1_b106 : a1 ≠ b106 := Nat.ne_of_lt (Nat.lt_of_lt_of_le E_a1_105.lt (Nat.le_of_eq gq106.symm))
   have ne_la_b106 : la ≠ b106 := Nat.ne_of_lt (Nat.lt_of_lt_of_le V_la_105.lt (Nat.le_of_eq gq106.symm))
   have ne_pa_b106 : pa ≠ b106 := Nat.ne_of_lt (Nat.lt_of_lt_of_le V_pa_105.lt (Nat.le_of_eq gq106.symm))
   have g_b106 : n0 ≤ b106 := Nat.le_trans (old_le O105) (Nat.le_of_eq gq106.symm)
   have z_b106 : h0.size ≤ b106 := Nat.le_trans KK105.1 (Nat.le_of_eq gq106.symm)
   have O106 := O105.ext E106
   have K106 : Keep h0 h106 [b, la, pa] := KK105.ext E106
   have E_b_106 := E_b_105.ext E106
   have E_tm_106 := E_tm_105.ext E106
   have Fs_106 := Fs_105.ext E106
   have Fa_106 := Fa_105.ext E106
   have Fb_106 := Fb_105.ext E106
   have Fc_106 := Fc_105.ext E106
   have Fd_106 := Fd_105.ext E106
   have Fe_106 := Fe_105.ext E106
   have E_a0_106 := E_a0_105.ext E106
   have F_a0_p_106 := F_a0_p_105.ext E106
   have E_a1_106 := E_a1_105.ext E106
   have F_a1_p_106 := F_a1_p_105.ext E106
   have V_la_106 := V_la_105.ext E106
   have V_pa_106 := V_pa_105.ext E106
   have F_b106_quantity_106 : Fld Z h106 b106 "com/example/openvenue/openvenue/core/PriceLevel" "quantity" "Lcom/example/openvenue/openvenue/core/QuantityTotal;" .null := D106 (Or.inr (hw _ (ix 139 rfl))) (ty := (.object "com/example/openvenue/openvenue/core/QuantityTotal")) (by decide)
   have F_b106_side_106 : Fld Z h106 b106 "com/example/openvenue/openvenue/core/PriceLevel" "side" "Lcom/example/openvenue/openvenue/core/Side;" .null := D106 (Or.inr (hw _ (ix 141 rfl))) (ty := (.object "com/example/openvenue/openvenue/core/Side")) (by decide)
   have F_b106_p_106 : Fld Z h106 b106 "com/example/openvenue/openvenue/core/PriceLevel" "price" "J" (.long (0 : Int64)) := D106 (Or.inr (hw _ (ix 143 rfl))) (ty := .long) (by decide)
   refine gu (T106.setTop (mkF m 45 #[(sR b), (sI (2 : Int32)), (sJ px), .second, .unset] [(.ref b106)])) (fun t kt => st106 _ kt) ?_
   refine gu (T106.setTop (mkF m 47 #[(sR b), (sI (2 : Int32)), (sJ px), .second, .unset] [(.ref b), (.ref b106), (.ref b106)])) (fun t kt => ?_) ?_
   ·refine XS.dup X106.here hx rfl (hb hby d17_45) rfl rfl ?_
    show Steps _ _ _ (T106.setTop (mkF m 46 #[(sR b), (sI (2 : Int32)), (sJ px), .second, .unset] [(.ref b106), (.ref b106)])) _
    refine XS.aloadN X106.here hx rfl (hb hby d17_46) rfl rfl ?_
    exact kt
   obtain ⟨T107, X107, e107, st107⟩ := getF X106 hx hZ hown (host := "") (Or.inl (hw _ (ix 35 rfl))) Via.refl e106 Fc_106 (g := (mkF m 47 #[(sR b), (sI (2 : Int32)), (sJ px), .second, .unset] [(.ref b), (.ref b106), (.ref b106)])) rfl rfl (hb hby d17_47)
   refine gu (T107.setTop (mkF m 50 #[(sR b), (sI (2 : Int32)), (sJ px), .second, .unset] [(.ref sd), (.ref b106), (.ref b106)])) (fun t kt => st107 _ kt) ?_
   refine gu (T107.setTop (mkF m 51 #[(sR b), (sI (2 : Int32)), (sJ px), .second, .unset] [(.long px), (.ref sd), (.ref b106), (.ref b106)])) (fun t kt => ?_) ?_
   ·refine XS.lloadN X107.here hx rfl (hb hby d17_50) rfl ?_
    exact kt
   obtain ⟨_, _, ⟨T108, L108, k108, n108⟩, -, X108, ⟨Lc108, hQ108, l108, y108, z108⟩, st108⟩ := X107.specialBack hx (y := mn2) rfl hown (mvT hZ (hw _ (ix 127 rfl))) (mvT hZ (hw _ (ix 128 rfl))) (mvT hZ (hw _ (ix 129 rfl))) (by decide) (backOf (W := 1) (rm3 l Z aa hw [] b106 sd px (0 : Int64) h106 n0 O106 A106 F_b106_quantity_106 F_b106_side_106 F_b106_p_106 g_b106) hZ (hw _ (ix 129 rfl)) (hw _ (ix 126 rfl)) (by decide) (by decide)) (g := (mkF m 51 #[(sR b), (sI (2 : Int32)), (sJ px), .second, .unset] [(.long px), (.ref sd), (.ref b106), (.ref b106)])) rfl (sz hml) (Steps.refl _) (a := b106) (argsL := [(.ref sd), (.long px)]) (rest := [(.ref b106)]) (lenOf pd_oLcom_example_openvenue_openvenue_core_SideJcV rfl) rfl le0 (hb hby d17_51) (fun _ _ => ⟨rfl, e107, (by decide : 1 + 1 ≤ _), (by decide : 6 + 2 ≤ _)⟩)
   dsimp only [Pt.U, Pt.locs, Pt.cells, Pt.slots] at X108 l108 y108 z108 st108 hQ108
   subst l108 y108 z108
   obtain ⟨rfl, M108, K108, F_b106_p_108⟩ := hQ108
   have N108 := Fr.app N105 M108
   have O108 := O106.keep K108 (allS g_b106 all0)
   have KK108 : Keep h0 T108.heap [b, la, pa] := K106.trans K108 (allS (Or.inr z_b106) all0)
   have E_b_108 := E_b_106.keep K108
   have E_tm_108 := E_tm_106.keep K108
   have Fs_108 := Fs_106.keep K108 (ninS ne_tm_b106 nin0)
   have Fa_108 := Fa_106.keep K108 (ninS ne_b_b106 nin0)
   have Fb_108 := Fb_106.keep K108 (ninS ne_b_b106 nin0)
   have Fc_108 := Fc_106.keep K108 (ninS ne_b_b106 nin0)
   have Fd_108 := Fd_106.keep K108 (ninS ne_b_b106 nin0)
   have Fe_108 := Fe_106.keep K108 (ninS ne_b_b106 nin0)
   have E_a0_108 := E_a0_106.keep K108
   have F_a0_p_108 := F_a0_p_106.keep K108 (ninS ne_a0_b106 nin0)
   have E_a1_108 := E_a1_106.keep K108
   have F_a1_p_108 := F_a1_p_106.keep K108 (ninS ne_a1_b106 nin0)
   have V_la_108 := V_la_106.keep K108 (ninS ne_la_b106 nin0)
   have V_pa_108 := V_pa_106.keep K108 (ninS ne_pa_b106 nin0)
   have E_b106_108 := A106.keep K108
   refine gu (T108.setTop (mkF m 54 #[(sR b), (sI (2 : Int32)), (sJ px), .second, .unset] [(.ref b106)])) (fun t kt => st108.trans kt) ?_
   refine gu (T108.setTop (mkF m 57 #[(sR b), (sI (2 : Int32)), (sJ px), .second, (sR b106)] [(.ref b)])) (fun t kt => ?_) ?_
   ·refine XS.astore X108.here hx rfl (hb hby d17_54) rfl rfl (l' := #[(sR b), (sI (2 : Int32)), (sJ px), .second, (sR b106)]) rfl ?_
    show Steps _ _ _ (T108.setTop (mkF m 56 #[(sR b), (sI (2 : Int32)), (sJ px), .second, (sR b106)] [])) _
    refine XS.aloadN X108.here hx rfl (hb hby d17_56) rfl rfl ?_
    exact kt
   obtain ⟨T109, X109, e109, st109⟩ := getF X108 hx hZ hown (host := "") (Or.inl (hw _ (ix 14 rfl))) Via.refl rfl Fa_108 (g := (mkF m 57 #[(sR b), (sI (2 : Int32)), (sJ px), .second, (sR b106)] [(.ref b)])) rfl rfl (hb hby d17_57)
   refine gu (T109.setTop (mkF m 60 #[(sR b), (sI (2 : Int32)), (sJ px), .second, (sR b106)] [(.ref la)])) (fun t kt => st109 _ kt) ?_
   refine gu (T109.setTop (mkF m 63 #[(sR b), (sI (2 : Int32)), (sJ px), .second, (sR b106)] [(.ref b106), (.int (2 : Int32)), (.ref la)])) (fun t kt => ?_) ?_
   ·refine XS.iloadN X109.here hx rfl (hb hby d17_60) rfl ?_
    show Steps _ _ _ (T109.setTop (mkF m 61 #[(sR b), (sI (2 : Int32)), (sJ px), .second, (sR b106)] [(.int (2 : Int32)), (.ref la)])) _
    refine XS.aload X109.here hx rfl (hb hby d17_61) rfl rfl ?_
    exact kt
   obtain ⟨ca110, Ar110, q110, S110, M110, H110, U110⟩ := id V_la_108
   obtain ⟨T110, h110, X110, e110, W110, st110⟩ := stR X109 hx hZ e109 Ar110 (j := (2 : Int32)) (v := (.ref b106)) (inb_of S110 ⟨by decide, by decide⟩) rfl (Sto.ofV Ar110 q110 hov (Ins.self E_b106_108)) (g := (mkF m 63 #[(sR b), (sI (2 : Int32)), (sJ px), .second, (sR b106)] [(.ref b106), (.int (2 : Int32)), (.ref la)])) rfl rfl (hb hby d17_63)
   have N110 := Fr.snoc X110 N108 g_la
   have O110 := O108.wr W110 g_la
   have K110 : Keep h0 h110 [b, la, pa] := KK108.wr W110 (Or.inl (ix 1 rfl))
   have E_b_110 := E_b_108.wr W110
   have E_tm_110 := E_tm_108.wr W110
   have Fs_110 := Fs_108.other W110 (Or.inl ne_tm_la)
   have Fa_110 := Fa_108.other W110 (Or.inl ne_b_la)
   have Fb_110 := Fb_108.other W110 (Or.inl ne_b_la)
   have Fc_110 := Fc_108.other W110 (Or.inl ne_b_la)
   have Fd_110 := Fd_108.other W110 (Or.inl ne_b_la)
   have Fe_110 := Fe_108.other W110 (Or.inl ne_b_la)
   have E_a0_110 := E_a0_108.wr W110
   have F_a0_p_110 := F_a0_p_108.other W110 (Or.inl ne_a0_la)
   have E_a1_110 := E_a1_108.wr W110
   have F_a1_p_110 := F_a1_p_108.other W110 (Or.inl ne_a1_la)
   have V_pa_110 := V_pa_108.other W110 (Ne.symm ne_la_pa)
   have E_b106_110 := E_b106_108.wr W110
   have F_b106_p_110 := F_b106_p_108.other W110 (Or.inl (Ne.symm ne_la_b106))
   have V_la_110 : Arv Z h110 la kl oPL (256 : Int32) [(.ref a0), (.ref a1), (.ref b106)] .null := Arv.set Ar110 q110 S110 M110 H110 U110 rfl W110 2 rfl (Nat.le_of_ble_eq_true rfl)
   refine gu (T110.setTop (mkF m 64 #[(sR b), (sI (2 : Int32)), (sJ px), .second, (sR b106)] [])) (fun t kt => st110 _ kt) ?_
   refine gu (T110.setTop (mkF m 65 #[(sR b), (sI (2 : Int32)), (sJ px), .second, (sR b106)] [(.ref b)])) (fun t kt => ?_) ?_
   ·refine XS.aloadN X110.here hx rfl (hb hby d17_64) rfl rfl ?_
    exact kt
   obtain ⟨T111, X111, e111, st111⟩ := getF X110 hx hZ hown (host := "") (Or.inl (hw _ (ix 17 rfl))) Via.refl e110 Fb_110 (g := (mkF m 65 #[(sR b), (sI (2 : Int32)), (sJ px), .second, (sR b106)] [(.ref b)])) rfl rfl (hb hby d17_65)
   refine gu (T111.setTop (mkF m 68 #[(sR b), (sI (2 : Int32)), (sJ px), .second, (sR b106)] [(.ref pa)])) (fun t kt => st111 _ kt) ?_
   refine gu (T111.setTop (mkF m 70 #[(sR b), (sI (2 : Int32)), (sJ px), .second, (sR b106)] [(.long px), (.int (2 : Int32)), (.ref pa)])) (fun t kt => ?_) ?_
   ·refine XS.iloadN X111.here hx rfl (hb hby d17_68) rfl ?_
    show Steps _ _ _ (T111.setTop (mkF m 69 #[(sR b), (sI (2 : Int32)), (sJ px), .second, (sR b106)] [(.int (2 : Int32)), (.ref pa)])) _
    refine XS.lloadN X111.here hx rfl (hb hby d17_69) rfl ?_
    exact kt
   obtain ⟨ca112, Ar112, q112, S112, M112, H112, U112⟩ := id V_pa_110
   obtain ⟨T112, h112, X112, e112, W112, st112⟩ := stJ X111 hx hZ e111 Ar112 (j := (2 : Int32)) (inb_of S112 ⟨by decide, by decide⟩) (g := (mkF m 70 #[(sR b), (sI (2 : Int32)), (sJ px), .second, (sR b106)] [(.long px), (.int (2 : Int32)), (.ref pa)])) rfl rfl (hb hby d17_70)
   have N112 := Fr.snoc X112 N110 g_pa
   have O112 := O110.wr W112 g_pa
   have K112 : Keep h0 h112 [b, la, pa] := K110.wr W112 (Or.inl (ix 2 rfl))
   have E_b_112 := E_b_110.wr W112
   have E_tm_112 := E_tm_110.wr W112
   have Fs_112 := Fs_110.other W112 (Or.inl ne_tm_pa)
   have Fa_112 := Fa_110.other W112 (Or.inl ne_b_pa)
   have Fb_112 := Fb_110.other W112 (Or.inl ne_b_pa)
   have Fc_112 := Fc_110.other W112 (Or.inl ne_b_pa)
   have Fd_112 := Fd_110.other W112 (Or.inl ne_b_pa)
   have Fe_112 := Fe_110.other W112 (Or.inl ne_b_pa)
   have E_a0_112 := E_a0_110.wr W112
   have F_a0_p_112 := F_a0_p_110.other W112 (Or.inl ne_a0_pa)
   have E_a1_112 := E_a1_110.wr W112
   have F_a1_p_112 := F_a1_p_110.other W112 (Or.inl ne_a1_pa)
   have E_b106_112 := E_b106_110.wr W112
   have F_b106_p_112 := F_b106_p_110.other W112 (Or.inl (Ne.symm ne_pa_b106))
   have V_la_112 := V_la_110.other W112 ne_la_pa
   have V_pa_112 : Arv Z h112 pa kp .long (256 : Int32) [(.long x0), (.long x1), (.long px)] (.long (0 : Int64)) := Arv.set Ar112 q112 S112 M112 H112 U112 rfl W112 2 rfl (Nat.le_of_ble_eq_true rfl)
   refine gu (T112.setTop (mkF m 71 #[(sR b), (sI (2 : Int32)), (sJ px), .second, (sR b106)] [])) (fun t kt => st112 _ kt) ?_
   refine gu (T112.setTop (mkF m 73 #[(sR b), (sI (2 : Int32)), (sJ px), .second, (sR b106)] [(.ref b), (.ref b)])) (fun t kt => ?_) ?_
   ·refine XS.aloadN X112.here hx rfl (hb hby d17_71) rfl rfl ?_
    show Steps _ _ _ (T112.setTop (mkF m 72 #[(sR b), (sI (2 : Int32)), (sJ px), .second, (sR b106)] [(.ref b)])) _
    refine XS.dup X112.here hx rfl (hb hby d17_72) rfl rfl ?_
    exact kt
   obtain ⟨T113, X113, e113, st113⟩ := getF X112 hx hZ hown (host := "") (Or.inl (hw _ (ix 77 rfl))) Via.refl e112 Fe_112 (g := (mkF m 73 #[(sR b), (sI (2 : Int32)), (sJ px), .second, (sR b106)] [(.ref b), (.ref b)])) rfl rfl (hb hby d17_73)
   refine gu (T113.setTop (mkF m 76 #[(sR b), (sI (2 : Int32)), (sJ px), .second, (sR b106)] [(.int (2 : Int32)), (.ref b)])) (fun t kt => st113 _ kt) ?_
   refine gu (T113.setTop (mkF m 78 #[(sR b), (sI (2 : Int32)), (sJ px), .second, (sR b106)] [(.int (3 : Int32)), (.ref b)])) (fun t kt => ?_) ?_
   ·refine XS.iconst X113.here hx rfl (hb hby d17_76) ?_
    show Steps _ _ _ (T113.setTop (mkF m 77 #[(sR b), (sI (2 : Int32)), (sJ px), .second, (sR b106)] [(.int (1 : Int32)), (.int (2 : Int32)), (.ref b)])) _
    refine XS.iadd X113.here hx rfl (hb hby d17_77) rfl ?_
    exact kt
   obtain ⟨T114, h114, X114, e114, W114, st114⟩ := putF X113 hx hZ hown (host := "") (Or.inl (hw _ (ix 77 rfl))) Via.refl e113 Fe_112 E_b_112 (Or.inl (hw _ (ix 78 rfl))) (hw _ (ix 4 rfl)) (ty := .int) (by decide) rfl rfl (g := (mkF m 78 #[(sR b), (sI (2 : Int32)), (sJ px), .second, (sR b106)] [(.int (3 : Int32)), (.ref b)])) rfl rfl (hb hby d17_78)
   have N114 := Fr.snoc X114 N112 g_b
   have O114 := O112.wr W114 g_b
   have K114 : Keep h0 h114 [b, la, pa] := K112.wr W114 (Or.inl (ix 0 rfl))
   have E_b_114 := E_b_112.wr W114
   have E_tm_114 := E_tm_112.wr W114
   have Fs_114 := Fs_112.other W114 (Or.inl (Ne.symm ne_b_tm))
   have Fa_114 := Fa_112.other W114 (Or.inr (slot_ne (Or.inr (hw _ (ix 15 rfl))) (Or.inl (hw _ (ix 78 rfl))) (by decide) (t := (.array (.object "com/example/openvenue/openvenue/core/PriceLevel"))) (t' := .int) (by decide) (by decide)))
   have Fb_114 := Fb_112.other W114 (Or.inr (slot_ne (Or.inr (hw _ (ix 18 rfl))) (Or.inl (hw _ (ix 78 rfl))) (by decide) (t := (.array .long)) (t' := .int) (by decide) (by decide)))
   have Fc_114 := Fc_112.other W114 (Or.inr (slot_ne (Or.inr (hw _ (ix 36 rfl))) (Or.inl (hw _ (ix 78 rfl))) (by decide) (t := (.object "com/example/openvenue/openvenue/core/Side")) (t' := .int) (by decide) (by decide)))
   have Fd_114 := Fd_112.other W114 (Or.inr (slot_ne (Or.inr (hw _ (ix 65 rfl))) (Or.inl (hw _ (ix 78 rfl))) (by decide) (t := (.object "java/util/NavigableMap")) (t' := .int) (by decide) (by decide)))
   have E_a0_114 := E_a0_112.wr W114
   have F_a0_p_114 := F_a0_p_112.other W114 (Or.inl (Ne.symm ne_b_a0))
   have E_a1_114 := E_a1_112.wr W114
   have F_a1_p_114 := F_a1_p_112.other W114 (Or.inl (Ne.symm ne_b_a1))
   have E_b106_114 := E_b106_112.wr W114
   have F_b106_p_114 := F_b106_p_112.other W114 (Or.inl (Ne.symm ne_b_b106))
   have V_la_114 := V_la_112.other W114 (Ne.symm ne_b_la)
   have V_pa_114 := V_pa_112.other W114 (Ne.symm ne_b_pa)
   have Fe_114 := Fe_112.same W114
   refine gu (T114.setTop (mkF m 81 #[(sR b), (sI (2 : Int32)), (sJ px), .second, (sR b106)] [])) (fun t kt => st114 _ kt) ?_
   refine gu (T114.setTop (mkF m 83 #[(sR b), (sI (2 : Int32)), (sJ px), .second, (sR b106)] [(.ref b106)])) (fun t kt => ?_) ?_
   ·refine XS.aload X114.here hx rfl (hb hby d17_81) rfl rfl ?_
    exact kt
   refine Gl.retR X114 hx hlk Bd.returns (hb hby d17_83) rfl rfl ?_ (by decide) (by decide)
   show Q17 Z _ _ _ _ _ _ _ _ _ _ _ h0 n0 _ T114.heap _; rw [e114]; have BB : Bk Z n0 h114 b la pa tm sd wB kl kp [(a0, x0), (a1, x1), (b106, px)] := ⟨E_b_114, Fa_114, Fb_114, Fc_114, Fd_114, Fe_114, E_tm_114, Fs_114, V_la_114, V_pa_114, hov, g_b, g_la, g_pa, (lvS ⟨E_a0_114, F_a0_p_114⟩ (lvS ⟨E_a1_114, F_a1_p_114⟩ (lvS ⟨E_b106_114, F_b106_p_114⟩ lv0))), hord⟩; exact ⟨b106, rfl, N114, K114, BB⟩
  ·exact absurd hi (by simp)
 ·exact absurd hlen (by simp)
theorem own_rem {l1 l2 : List (Addr × Int64)} {lv : Addr} {xv : Int64} (h : ∀ q ∈ l1 ++ l2, q.2 ≠ xv) : ∀ q, q ∈ l1 ++ l2 ↔ q ∈ l1 ++ (lv, xv) :: l2 ∧ q.2 ≠ xv := fun q => by
 constructor
 ·intro hq
  refine ⟨?_, h q hq⟩
  rcases List.mem_append.mp hq with z | z
  ·exact List.mem_append.mpr (Or.inl z)
  ·exact List.mem_append.mpr (Or.inr (List.mem_cons_of_mem _ z))
 ·rintro ⟨hq, hn⟩
  rcases List.mem_append.mp hq with z | z
  ·exact List.mem_append.mpr (Or.inl z)
  ·rcases List.mem_cons.mp z with e | z
   ·exact absurd (congrArg Prod.snd e) hn
   ·exact List.mem_append.mpr (Or.inr z)
theorem own_ins {A : Type} (l : List A) (i : Nat) (y : A) : ∀ q, q ∈ l.take i ++ y :: l.drop i ↔ q ∈ l ∨ q = y := fun q => by
 have e : q ∈ l ↔ q ∈ l.take i ∨ q ∈ l.drop i := by rw [← List.mem_append, List.take_append_drop]
 rw [List.mem_append, List.mem_cons, e]
 constructor
 ·rintro (h | h | h)
  ·exact Or.inl (Or.inl h)
  ·exact Or.inr h
  ·exact Or.inl (Or.inr h)
 ·rintro ((h | h) | h)
  ·exact Or.inl h
  ·exact Or.inr (Or.inr h)
  ·exact Or.inr (Or.inl h)

def Q18 (Z : State) (b la pa tm sd wB : Addr) (kl kp : ClassId) (bl : List (Addr × Int64)) (pq : Int64) (h0 : Heap) (n0 : Nat) (v : Option Value) (h : Heap) (L : List Loc) : Prop := ∃ y bl', v = some (.ref y) ∧ Fr n0 L ∧ Keep h0 h [b, la, pa] ∧ Bk Z n0 h b la pa tm sd wB kl kp bl' ∧ (y, pq) ∈ bl' ∧ (∀ q, q ∈ bl' ↔ q ∈ bl ∨ q = (y, pq)) ∧ bl'.length ≤ bl.length + 1
theorem ef18 (m : MethodId) (b : Addr) (pq : Int64) : entryFrame m #[(.ref b), (.long pq)] 4 = mkF m 0 #[(sR b), (sJ pq), .second, .unset] [] := by first | (simp [entryFrame, mkF, argsToLocals, Value.category]; done) | rfl
set_option maxRecDepth 65536 in
set_option maxHeartbeats 40000000 in
theorem rm18 (l : Launch) (Z : State) (aa : Array Value) (hw : ∀ d ∈ tables_1, d.before aa Z = true) (ws : List Jvm.Cond) (b la pa tm sd wB : Addr) (kl kp : ClassId) (bl : List (Addr × Int64)) (pq : Int64) (h0 : Heap) (n0 : Nat) (O0 : Old Z n0 h0) (S_wB : Sta Z Z.heap "com/example/openvenue/openvenue/core/Side" "BUY" "Lcom/example/openvenue/openvenue/core/Side;" (.ref wB)) (B0 : Bk Z n0 h0 b la pa tm sd wB kl kp bl) (hlen : bl.length ≤ 2) :
  MetFree l mn19 (head1 (Jvm.Cond.code mn19 prog_44_method_4_code 4 (some (.object "com/example/openvenue/openvenue/core/PriceLevel")) :: ws) ({ frames := 4, cells := 2, slots := 8, locals := 58 } : Room)) (fun a U => a = #[(.ref b), (.long pq)] ∧ Z.Warmed39 U.vm ∧ U.heap = h0) (fun _ _ _ _ _ => True) (fun _ U o U' => ∃ v L, o = .returned v ∧ Q18 Z b la pa tm sd wB kl kp bl pq h0 n0 v U'.heap L ∧ FrameEnd U o U' L ({ frames := 4, cells := 2, slots := 8, locals := 58 } : Room).cells ({ frames := 4, cells := 2, slots := 8, locals := 58 } : Room).slots) := by
 refine MetFree.of_bodySF (plainFor_of_name pn_com_example_openvenue_openvenue_core_BookSide) hisR ?_
 intro p e s m args below meth c s₁ Bd hml0 hP hK
 obtain ⟨rfl, hZ, hh⟩ := hP
 have hx := Bd.exec
 have hby := Bd.bytes
 have hlk := Bd.notSynchronized
 have hml : c.maxLocals = 4 := hml0
 have hown : s.vm.findClass "com/example/openvenue/openvenue/core/BookSide" = some m.cls := findClass_of_methodNamed Bd.named
 have hnm := (name_of_methodNamed Bd.named Bd.method).1
 have X0 : Stand p l e ({ frames := 4, cells := 2, slots := 8, locals := 58 } : Room) s m #[(.ref b), (.long pq)] below meth c s₁ [] 0 0 := Stand.of_body Bd
 have e0 : s₁.heap = h0 := by rw [← hh, Bd.state]; rfl
 have N0 := Fr.nil n0
 show Gl p e below (Ret s 2 8 (Q18 Z b la pa tm sd wB kl kp bl pq h0 n0)) (s₁.setTop (entryFrame m #[(.ref b), (.long pq)] 4))
 rw [ef18 m b pq]
 obtain ⟨args, hargs⟩ : ∃ z : Array Value, z = #[(.ref b), (.long pq)] := ⟨_, rfl⟩
 rw [← hargs] at X0
 have K0 := Keep.refl h0 [b, la, pa]
 rcases bl with _ | ⟨⟨a0, x0⟩, _ | ⟨⟨a1, x1⟩, _ | ⟨qq, bl⟩⟩⟩
 ·obtain ⟨E_b, Fa, Fb, Fc, Fd, Fe0, E_tm, Fs, V_la0, V_pa0, hov, g_b, g_la, g_pa, hlv, hso⟩ := B0
  have Fe : Fld Z h0 b "com/example/openvenue/openvenue/core/BookSide" "count" "I" (.int (0 : Int32)) := Fe0
  have V_la : Arv Z h0 la kl oPL (256 : Int32) [] .null := V_la0
  have V_pa : Arv Z h0 pa kp .long (256 : Int32) [] (.long (0 : Int64)) := V_pa0
  have ne_b_la : b ≠ la := Exa.neArv E_b V_la (hw _ (ix 4 rfl))
  have ne_b_pa : b ≠ pa := Exa.neArv E_b V_pa (hw _ (ix 4 rfl))
  have ne_tm_la : tm ≠ la := Exa.neArv E_tm V_la (hw _ (ix 46 rfl))
  have ne_tm_pa : tm ≠ pa := Exa.neArv E_tm V_pa (hw _ (ix 46 rfl))
  have ne_la_pa : la ≠ pa := own_arvne V_la V_pa
  have ne_b_tm : b ≠ tm := ne_exa E_b E_tm (by decide)
  refine gu (s₁.setTop (mkF m 2 #[(sR b), (sJ pq), .second, .unset] [(.long pq), (.ref b)])) (fun t kt => ?_) ?_
  ·refine XS.aloadN X0.here hx rfl (hb hby d18_0) rfl rfl ?_
   show Steps _ _ _ (s₁.setTop (mkF m 1 #[(sR b), (sJ pq), .second, .unset] [(.ref b)])) _
   refine XS.lloadN X0.here hx rfl (hb hby d18_1) rfl ?_
   exact kt
  obtain ⟨cq1, q1, r1⟩ := E_b.cell
  obtain ⟨_, _, ⟨T1, L1, k1, n1⟩, -, X1, ⟨Lc1, hQ1, l1, y1, z1⟩, st1⟩ := X0.privateBack hx (y := mn13) hown (mvT hZ (hw _ (ix 94 rfl))) (mvT hZ (hw _ (ix 95 rfl))) (own_selp (mvT hZ (hw _ (ix 4 rfl))) (mvP hZ (hw _ (ix 96 rfl))) (mvT hZ (hw _ (ix 95 rfl))) (by decide)) (Cond.privateMethod_at (mvP hZ (hw _ (ix 96 rfl)) (args := #[]))) (mvT hZ (hw _ (ix 97 rfl))) (by decide) (backOf (W := 0) (rm13 l Z aa hw [] b pq tm h0 n0 O0 E_b Fd E_tm Fs) hZ (hw _ (ix 97 rfl)) (hw _ (ix 5 rfl)) (by decide) (by decide)) (g := (mkF m 2 #[(sR b), (sJ pq), .second, .unset] [(.long pq), (.ref b)])) rfl (sz hml) (Steps.refl _) (a := b) (by rw [e0]; exact q1) r1 (argsL := [(.long pq)]) (rest := []) (lenOf pd_oJcZ rfl) rfl le0 (hb hby d18_2) (fun _ _ => ⟨rfl, e0, (by decide : 0 + 0 ≤ _), (by decide : 0 + 0 ≤ _)⟩)
  dsimp only [Pt.U, Pt.locs, Pt.cells, Pt.slots] at X1 l1 y1 z1 st1 hQ1
  subst l1 y1 z1
  obtain ⟨rfl, rfl, e1⟩ := hQ1
  try rw [List.append_nil] at X1
  refine gu (T1.setTop (mkF m 5 #[(sR b), (sJ pq), .second, .unset] [(.int (0 : Int32))])) (fun t kt => st1.trans kt) ?_
  refine gu (T1.setTop (mkF m 10 #[(sR b), (sJ pq), .second, .unset] [(.long pq), (.ref b)])) (fun t kt => ?_) ?_
  ·refine XS.ifNo X1.here hx rfl (hb hby d18_5) rfl ((if0 _ _).trans (teq (rfl : (0 : Int32) = (0 : Int32))).2) ?_
   show Steps _ _ _ (T1.setTop (mkF m 8 #[(sR b), (sJ pq), .second, .unset] [])) _
   refine XS.aloadN X1.here hx rfl (hb hby d18_8) rfl rfl ?_
   show Steps _ _ _ (T1.setTop (mkF m 9 #[(sR b), (sJ pq), .second, .unset] [(.ref b)])) _
   refine XS.lloadN X1.here hx rfl (hb hby d18_9) rfl ?_
   exact kt
  obtain ⟨cq2, q2, r2⟩ := E_b.cell
  obtain ⟨_, _, ⟨T2, L2, k2, n2⟩, -, X2, ⟨Lc2, hQ2, l2, y2, z2⟩, st2⟩ := X1.privateBack hx (y := mn17) hown (mvT hZ (hw _ (ix 113 rfl))) (mvT hZ (hw _ (ix 114 rfl))) (own_selp (mvT hZ (hw _ (ix 4 rfl))) (mvP hZ (hw _ (ix 115 rfl))) (mvT hZ (hw _ (ix 114 rfl))) (by decide)) (Cond.privateMethod_at (mvP hZ (hw _ (ix 115 rfl)) (args := #[]))) (mvT hZ (hw _ (ix 116 rfl))) (by decide) (backOf (W := 0) (rm16_0 l Z aa hw [] b pq pa sd kp wB h0 n0 O0 E_b Fe Fb Fc V_pa S_wB) hZ (hw _ (ix 116 rfl)) (hw _ (ix 5 rfl)) (by decide) (by decide)) (g := (mkF m 10 #[(sR b), (sJ pq), .second, .unset] [(.long pq), (.ref b)])) rfl (sz hml) (Steps.refl _) (a := b) (by rw [e1]; exact q2) r2 (argsL := [(.long pq)]) (rest := []) (lenOf pd_oJcI rfl) rfl le0 (hb hby d18_10) (fun _ _ => ⟨rfl, e1, (by decide : 0 + 0 ≤ _), (by decide : 0 + 0 ≤ _)⟩)
  dsimp only [Pt.U, Pt.locs, Pt.cells, Pt.slots] at X2 l2 y2 z2 st2 hQ2
  subst l2 y2 z2
  obtain ⟨rfl, rfl, e2⟩ := hQ2
  try rw [List.append_nil] at X2
  refine gu (T2.setTop (mkF m 13 #[(sR b), (sJ pq), .second, .unset] [(.int (-1 : Int32))])) (fun t kt => st2.trans kt) ?_
  refine gu (T2.setTop (mkF m 26 #[(sR b), (sJ pq), .second, (sI (-1 : Int32))] [(.ref b)])) (fun t kt => ?_) ?_
  ·refine XS.istoreN X2.here hx rfl (hb hby d18_13) rfl (l' := #[(sR b), (sJ pq), .second, (sI (-1 : Int32))]) rfl ?_
   show Steps _ _ _ (T2.setTop (mkF m 14 #[(sR b), (sJ pq), .second, (sI (-1 : Int32))] [])) _
   refine XS.iloadN X2.here hx rfl (hb hby d18_14) rfl ?_
   show Steps _ _ _ (T2.setTop (mkF m 15 #[(sR b), (sJ pq), .second, (sI (-1 : Int32))] [(.int (-1 : Int32))])) _
   refine XS.ifYes X2.here hx rfl (pc0 := 15) (pc' := 25) rfl (hb hby d18_15) rfl ((if0 _ _).trans (tlt (by decide : (-1 : Int32) < (0 : Int32))).1) (by decide) (by decide) ?_
   show Steps _ _ _ (T2.setTop (mkF m 25 #[(sR b), (sJ pq), .second, (sI (-1 : Int32))] [])) _
   refine XS.aloadN X2.here hx rfl (hb hby d18_25) rfl rfl ?_
   exact kt
  obtain ⟨T4, X4, e4, st4⟩ := getF X2 hx hZ hown (host := "") (Or.inl (hw _ (ix 77 rfl))) Via.refl e2 Fe (g := (mkF m 26 #[(sR b), (sJ pq), .second, (sI (-1 : Int32))] [(.ref b)])) rfl rfl (hb hby d18_26)
  refine gu (T4.setTop (mkF m 29 #[(sR b), (sJ pq), .second, (sI (-1 : Int32))] [(.int (0 : Int32))])) (fun t kt => st4 _ kt) ?_
  refine gu (T4.setTop (mkF m 30 #[(sR b), (sJ pq), .second, (sI (-1 : Int32))] [(.ref b), (.int (0 : Int32))])) (fun t kt => ?_) ?_
  ·refine XS.aloadN X4.here hx rfl (hb hby d18_29) rfl rfl ?_
   exact kt
  obtain ⟨T5, X5, e5, st5⟩ := getF X4 hx hZ hown (host := "") (Or.inl (hw _ (ix 14 rfl))) Via.refl e4 Fa (g := (mkF m 30 #[(sR b), (sJ pq), .second, (sI (-1 : Int32))] [(.ref b), (.int (0 : Int32))])) rfl rfl (hb hby d18_30)
  refine gu (T5.setTop (mkF m 33 #[(sR b), (sJ pq), .second, (sI (-1 : Int32))] [(.ref la), (.int (0 : Int32))])) (fun t kt => st5 _ kt) ?_
  obtain ⟨ca6, Ar6, q6, S6, M6, H6, U6⟩ := id V_la
  refine gu (T5.setTop (mkF m 43 #[(sR b), (sJ pq), .second, (sI (-1 : Int32))] [(.long pq), (.int (0 : Int32)), (.ref b)])) (fun t kt => ?_) ?_
  ·refine X5.arraylength hx (cell := ca6) (by rw [e5]; exact Ar6.1) (State.isArrayOf_alike hZ.alike Ar6.2.1) (g := (mkF m 33 #[(sR b), (sJ pq), .second, (sI (-1 : Int32))] [(.ref la), (.int (0 : Int32))])) rfl (rest := [(.int (0 : Int32))]) rfl (hb hby d18_33) _ ?_
   rw [len_of S6 M6]
   show Steps _ _ _ (T5.setTop (mkF m 34 #[(sR b), (sJ pq), .second, (sI (-1 : Int32))] [(.int (256 : Int32)), (.int (0 : Int32))])) _
   refine XS.icmpNo X5.here hx rfl (hb hby d18_34) rfl (tlt (by decide : (0 : Int32) < (256 : Int32))).2.1 ?_
   show Steps _ _ _ (T5.setTop (mkF m 37 #[(sR b), (sJ pq), .second, (sI (-1 : Int32))] [])) _
   refine XS.aloadN X5.here hx rfl (hb hby d18_37) rfl rfl ?_
   show Steps _ _ _ (T5.setTop (mkF m 38 #[(sR b), (sJ pq), .second, (sI (-1 : Int32))] [(.ref b)])) _
   refine XS.iloadN X5.here hx rfl (hb hby d18_38) rfl ?_
   show Steps _ _ _ (T5.setTop (mkF m 39 #[(sR b), (sJ pq), .second, (sI (-1 : Int32))] [(.int (-1 : Int32)), (.ref b)])) _
   refine XS.ineg X5.here hx rfl (hb hby d18_39) rfl ?_
   show Steps _ _ _ (T5.setTop (mkF m 40 #[(sR b), (sJ pq), .second, (sI (-1 : Int32))] [(.int (1 : Int32)), (.ref b)])) _
   refine XS.iconst X5.here hx rfl (hb hby d18_40) ?_
   show Steps _ _ _ (T5.setTop (mkF m 41 #[(sR b), (sJ pq), .second, (sI (-1 : Int32))] [(.int (1 : Int32)), (.int (1 : Int32)), (.ref b)])) _
   refine XS.isub X5.here hx rfl (hb hby d18_41) rfl ?_
   show Steps _ _ _ (T5.setTop (mkF m 42 #[(sR b), (sJ pq), .second, (sI (-1 : Int32))] [(.int (0 : Int32)), (.ref b)])) _
   refine XS.lloadN X5.here hx rfl (hb hby d18_42) rfl ?_
   exact kt
  have BI7 : Bk Z n0 h0 b la pa tm sd wB kl kp [] := ⟨E_b, Fa, Fb, Fc, Fd, Fe, E_tm, Fs, V_la, V_pa, hov, g_b, g_la, g_pa, lv0, hso⟩
  obtain ⟨cq7, q7, r7⟩ := E_b.cell
  obtain ⟨_, _, ⟨T7, L7, k7, n7⟩, -, X7, ⟨Lc7, hQ7, l7, y7, z7⟩, st7⟩ := X5.privateBack hx (y := mn18) hown (mvT hZ (hw _ (ix 117 rfl))) (mvT hZ (hw _ (ix 118 rfl))) (own_selp (mvT hZ (hw _ (ix 4 rfl))) (mvP hZ (hw _ (ix 119 rfl))) (mvT hZ (hw _ (ix 118 rfl))) (by decide)) (Cond.privateMethod_at (mvP hZ (hw _ (ix 119 rfl)) (args := #[]))) (mvT hZ (hw _ (ix 120 rfl))) (by decide) (backOf (W := 0) (rm17 l Z aa hw [] b la pa tm sd wB kl kp [] 0 pq h0 n0 O0 BI7 (Nat.le_of_ble_eq_true rfl) (Nat.le_of_ble_eq_true rfl) (show Srt sd wB [pq] from srt1)) hZ (hw _ (ix 120 rfl)) (hw _ (ix 5 rfl)) (by decide) (by decide)) (g := (mkF m 43 #[(sR b), (sJ pq), .second, (sI (-1 : Int32))] [(.long pq), (.int (0 : Int32)), (.ref b)])) rfl (sz hml) (Steps.refl _) (a := b) (by rw [e5]; exact q7) r7 (argsL := [(.int (0 : Int32)), (.long pq)]) (rest := []) (lenOf pd_oIJcLcom_example_openvenue_openvenue_core_PriceLevel rfl) rfl le0 (hb hby d18_43) (fun _ _ => ⟨rfl, e5, (by decide : 0 + 2 ≤ _), (by decide : 0 + 8 ≤ _)⟩)
  dsimp only [Pt.U, Pt.locs, Pt.cells, Pt.slots] at X7 l7 y7 z7 st7 hQ7
  subst l7 y7 z7
  obtain ⟨y, rfl, M7, K7, BB⟩ := hQ7
  have N7 := Fr.app N0 M7
  have O7 := O0.keep K7 (allS g_b (allS g_la (allS g_pa all0)))
  have KK7 : Keep h0 T7.heap [b, la, pa] := K0.trans K7 (allS (Or.inl (ix 0 rfl)) (allS (Or.inl (ix 1 rfl)) (allS (Or.inl (ix 2 rfl)) all0)))
  refine gu (T7.setTop (mkF m 46 #[(sR b), (sJ pq), .second, (sI (-1 : Int32))] [(.ref y)])) (fun t kt => st7.trans kt) ?_
  refine Gl.retR X7 hx hlk Bd.returns (hb hby d18_46) rfl rfl ?_ (by decide) (by decide)
  show Q18 Z _ _ _ _ _ _ _ _ _ _ h0 n0 _ T7.heap _; exact ⟨y, _, rfl, N7, KK7, BB, by simp, own_ins _ _ _, by simp⟩
 ·obtain ⟨E_b, Fa, Fb, Fc, Fd, Fe0, E_tm, Fs, V_la0, V_pa0, hov, g_b, g_la, g_pa, hlv, hso⟩ := B0
  have Fe : Fld Z h0 b "com/example/openvenue/openvenue/core/BookSide" "count" "I" (.int (1 : Int32)) := Fe0
  have V_la : Arv Z h0 la kl oPL (256 : Int32) [(.ref a0)] .null := V_la0
  have V_pa : Arv Z h0 pa kp .long (256 : Int32) [(.long x0)] (.long (0 : Int64)) := V_pa0
  obtain ⟨E_a0, F_a0_price⟩ := hlv (a0, x0) (by simp)
  have ne_b_la : b ≠ la := Exa.neArv E_b V_la (hw _ (ix 4 rfl))
  have ne_b_pa : b ≠ pa := Exa.neArv E_b V_pa (hw _ (ix 4 rfl))
  have ne_tm_la : tm ≠ la := Exa.neArv E_tm V_la (hw _ (ix 46 rfl))
  have ne_tm_pa : tm ≠ pa := Exa.neArv E_tm V_pa (hw _ (ix 46 rfl))
  have ne_a0_la : a0 ≠ la := Exa.neArv E_a0 V_la (hw _ (ix 125 rfl))
  have ne_a0_pa : a0 ≠ pa := Exa.neArv E_a0 V_pa (hw _ (ix 125 rfl))
  have ne_la_pa : la ≠ pa := own_arvne V_la V_pa
  have ne_b_tm : b ≠ tm := ne_exa E_b E_tm (by decide)
  have ne_b_a0 : b ≠ a0 := ne_exa E_b E_a0 (by decide)
  have ne_tm_a0 : tm ≠ a0 := ne_exa E_tm E_a0 (by decide)
  refine gu (s₁.setTop (mkF m 2 #[(sR b), (sJ pq), .second, .unset] [(.long pq), (.ref b)])) (fun t kt => ?_) ?_
  ·refine XS.aloadN X0.here hx rfl (hb hby d18_0) rfl rfl ?_
   show Steps _ _ _ (s₁.setTop (mkF m 1 #[(sR b), (sJ pq), .second, .unset] [(.ref b)])) _
   refine XS.lloadN X0.here hx rfl (hb hby d18_1) rfl ?_
   exact kt
  obtain ⟨cq8, q8, r8⟩ := E_b.cell
  obtain ⟨_, _, ⟨T8, L8, k8, n8⟩, -, X8, ⟨Lc8, hQ8, l8, y8, z8⟩, st8⟩ := X0.privateBack hx (y := mn13) hown (mvT hZ (hw _ (ix 94 rfl))) (mvT hZ (hw _ (ix 95 rfl))) (own_selp (mvT hZ (hw _ (ix 4 rfl))) (mvP hZ (hw _ (ix 96 rfl))) (mvT hZ (hw _ (ix 95 rfl))) (by decide)) (Cond.privateMethod_at (mvP hZ (hw _ (ix 96 rfl)) (args := #[]))) (mvT hZ (hw _ (ix 97 rfl))) (by decide) (backOf (W := 0) (rm13 l Z aa hw [] b pq tm h0 n0 O0 E_b Fd E_tm Fs) hZ (hw _ (ix 97 rfl)) (hw _ (ix 5 rfl)) (by decide) (by decide)) (g := (mkF m 2 #[(sR b), (sJ pq), .second, .unset] [(.long pq), (.ref b)])) rfl (sz hml) (Steps.refl _) (a := b) (by rw [e0]; exact q8) r8 (argsL := [(.long pq)]) (rest := []) (lenOf pd_oJcZ rfl) rfl le0 (hb hby d18_2) (fun _ _ => ⟨rfl, e0, (by decide : 0 + 0 ≤ _), (by decide : 0 + 0 ≤ _)⟩)
  dsimp only [Pt.U, Pt.locs, Pt.cells, Pt.slots] at X8 l8 y8 z8 st8 hQ8
  subst l8 y8 z8
  obtain ⟨rfl, rfl, e8⟩ := hQ8
  try rw [List.append_nil] at X8
  refine gu (T8.setTop (mkF m 5 #[(sR b), (sJ pq), .second, .unset] [(.int (0 : Int32))])) (fun t kt => st8.trans kt) ?_
  refine gu (T8.setTop (mkF m 10 #[(sR b), (sJ pq), .second, .unset] [(.long pq), (.ref b)])) (fun t kt => ?_) ?_
  ·refine XS.ifNo X8.here hx rfl (hb hby d18_5) rfl ((if0 _ _).trans (teq (rfl : (0 : Int32) = (0 : Int32))).2) ?_
   show Steps _ _ _ (T8.setTop (mkF m 8 #[(sR b), (sJ pq), .second, .unset] [])) _
   refine XS.aloadN X8.here hx rfl (hb hby d18_8) rfl rfl ?_
   show Steps _ _ _ (T8.setTop (mkF m 9 #[(sR b), (sJ pq), .second, .unset] [(.ref b)])) _
   refine XS.lloadN X8.here hx rfl (hb hby d18_9) rfl ?_
   exact kt
  obtain ⟨cq9, q9, r9⟩ := E_b.cell
  obtain ⟨_, _, ⟨T9, L9, k9, n9⟩, -, X9, ⟨Lc9, hQ9, l9, y9, z9⟩, st9⟩ := X8.privateBack hx (y := mn17) hown (mvT hZ (hw _ (ix 113 rfl))) (mvT hZ (hw _ (ix 114 rfl))) (own_selp (mvT hZ (hw _ (ix 4 rfl))) (mvP hZ (hw _ (ix 115 rfl))) (mvT hZ (hw _ (ix 114 rfl))) (by decide)) (Cond.privateMethod_at (mvP hZ (hw _ (ix 115 rfl)) (args := #[]))) (mvT hZ (hw _ (ix 116 rfl))) (by decide) (backOf (W := 0) (rm16_1 l Z aa hw [] b pq pa sd kp x0 wB h0 n0 O0 E_b Fe Fb Fc V_pa S_wB) hZ (hw _ (ix 116 rfl)) (hw _ (ix 5 rfl)) (by decide) (by decide)) (g := (mkF m 10 #[(sR b), (sJ pq), .second, .unset] [(.long pq), (.ref b)])) rfl (sz hml) (Steps.refl _) (a := b) (by rw [e8]; exact q9) r9 (argsL := [(.long pq)]) (rest := []) (lenOf pd_oJcI rfl) rfl le0 (hb hby d18_10) (fun _ _ => ⟨rfl, e8, (by decide : 0 + 0 ≤ _), (by decide : 0 + 0 ≤ _)⟩)
  dsimp only [Pt.U, Pt.locs, Pt.cells, Pt.slots] at X9 l9 y9 z9 st9 hQ9
  subst l9 y9 z9
  obtain ⟨rfl, rfl, e9⟩ := hQ9
  try rw [List.append_nil] at X9
  refine gu (T9.setTop (mkF m 13 #[(sR b), (sJ pq), .second, .unset] [(.int (f16_1 pq sd x0 wB))])) (fun t kt => st9.trans kt) ?_
  by_cases c13_10 : (f14 x0 pq sd wB) = (0 : Int32)
  ·by_cases c13_11 : x0 = pq
   ·have hv12 : (f16_1 pq sd x0 wB) = (0 : Int32) := (show (0 : Int32) = (f16_1 pq sd x0 wB) from ((if_pos c13_10).trans (if_pos c13_11)).symm).symm
    rw [hv12]
    refine gu (T9.setTop (mkF m 19 #[(sR b), (sJ pq), .second, (sI (0 : Int32))] [(.ref b)])) (fun t kt => ?_) ?_
    ·refine XS.istoreN X9.here hx rfl (hb hby d18_13) rfl (l' := #[(sR b), (sJ pq), .second, (sI (0 : Int32))]) rfl ?_
     show Steps _ _ _ (T9.setTop (mkF m 14 #[(sR b), (sJ pq), .second, (sI (0 : Int32))] [])) _
     refine XS.iloadN X9.here hx rfl (hb hby d18_14) rfl ?_
     show Steps _ _ _ (T9.setTop (mkF m 15 #[(sR b), (sJ pq), .second, (sI (0 : Int32))] [(.int (0 : Int32))])) _
     refine XS.ifNo X9.here hx rfl (hb hby d18_15) rfl ((if0 _ _).trans (flt (by decide : ¬ ((0 : Int32) < (0 : Int32)))).1) ?_
     show Steps _ _ _ (T9.setTop (mkF m 18 #[(sR b), (sJ pq), .second, (sI (0 : Int32))] [])) _
     refine XS.aloadN X9.here hx rfl (hb hby d18_18) rfl rfl ?_
     exact kt
    obtain ⟨T13, X13, e13, st13⟩ := getF X9 hx hZ hown (host := "") (Or.inl (hw _ (ix 14 rfl))) Via.refl e9 Fa (g := (mkF m 19 #[(sR b), (sJ pq), .second, (sI (0 : Int32))] [(.ref b)])) rfl rfl (hb hby d18_19)
    refine gu (T13.setTop (mkF m 22 #[(sR b), (sJ pq), .second, (sI (0 : Int32))] [(.ref la)])) (fun t kt => st13 _ kt) ?_
    obtain ⟨ca14, Ar14, q14, S14, M14, H14, U14⟩ := id V_la
    refine gu (T13.setTop (mkF m 23 #[(sR b), (sJ pq), .second, (sI (0 : Int32))] [(.int (0 : Int32)), (.ref la)])) (fun t kt => ?_) ?_
    ·refine XS.iloadN X13.here hx rfl (hb hby d18_22) rfl ?_
     exact kt
    refine gu (T13.setTop (mkF m 24 #[(sR b), (sJ pq), .second, (sI (0 : Int32))] [(.ref a0)])) (fun t kt => ?_) ?_
    ·refine X13.aaload hx (j := (0 : Int32)) (v := (.ref a0)) (by rw [e13]; exact Ar14.1) (State.isArrayOf_alike hZ.alike Ar14.2.1) rfl Ar14.2.2 (inb_of S14 ⟨by decide, by decide⟩) (Has.at H14 (inb_of S14 ⟨by decide, by decide⟩) rfl) (g := (mkF m 23 #[(sR b), (sJ pq), .second, (sI (0 : Int32))] [(.int (0 : Int32)), (.ref la)])) rfl rfl (hb hby d18_23) _ ?_
     exact kt
    refine Gl.retR X13 hx hlk Bd.returns (hb hby d18_24) rfl rfl ?_ (by decide) (by decide)
    show Q18 Z _ _ _ _ _ _ _ _ _ _ h0 n0 _ T13.heap _; rw [e13]; have BB : Bk Z n0 h0 b la pa tm sd wB kl kp [(a0, x0)] := ⟨E_b, Fa, Fb, Fc, Fd, Fe, E_tm, Fs, V_la, V_pa, hov, g_b, g_la, g_pa, (lvS ⟨E_a0, F_a0_price⟩ lv0), hso⟩; subst c13_11; exact ⟨a0, _, rfl, N0, K0, BB, by simp, fun q => ⟨Or.inl, fun z => z.elim id fun e => by rw [e]; simp⟩, by simp⟩
   ·have hv15 : (f16_1 pq sd x0 wB) = (-1 : Int32) := (show (-1 : Int32) = (f16_1 pq sd x0 wB) from ((if_pos c13_10).trans (if_neg c13_11)).symm).symm
    rw [hv15]
    have tx0 := own_iw.mp c13_10
    have ex0 : ky sd wB x0 ≠ ky sd wB pq := fun z => c13_11 (ky_inj z)
    refine gu (T9.setTop (mkF m 26 #[(sR b), (sJ pq), .second, (sI (-1 : Int32))] [(.ref b)])) (fun t kt => ?_) ?_
    ·refine XS.istoreN X9.here hx rfl (hb hby d18_13) rfl (l' := #[(sR b), (sJ pq), .second, (sI (-1 : Int32))]) rfl ?_
     show Steps _ _ _ (T9.setTop (mkF m 14 #[(sR b), (sJ pq), .second, (sI (-1 : Int32))] [])) _
     refine XS.iloadN X9.here hx rfl (hb hby d18_14) rfl ?_
     show Steps _ _ _ (T9.setTop (mkF m 15 #[(sR b), (sJ pq), .second, (sI (-1 : Int32))] [(.int (-1 : Int32))])) _
     refine XS.ifYes X9.here hx rfl (pc0 := 15) (pc' := 25) rfl (hb hby d18_15) rfl ((if0 _ _).trans (tlt (by decide : (-1 : Int32) < (0 : Int32))).1) (by decide) (by decide) ?_
     show Steps _ _ _ (T9.setTop (mkF m 25 #[(sR b), (sJ pq), .second, (sI (-1 : Int32))] [])) _
     refine XS.aloadN X9.here hx rfl (hb hby d18_25) rfl rfl ?_
     exact kt
    obtain ⟨T16, X16, e16, st16⟩ := getF X9 hx hZ hown (host := "") (Or.inl (hw _ (ix 77 rfl))) Via.refl e9 Fe (g := (mkF m 26 #[(sR b), (sJ pq), .second, (sI (-1 : Int32))] [(.ref b)])) rfl rfl (hb hby d18_26)
    refine gu (T16.setTop (mkF m 29 #[(sR b), (sJ pq), .second, (sI (-1 : Int32))] [(.int (1 : Int32))])) (fun t kt => st16 _ kt) ?_
    refine gu (T16.setTop (mkF m 30 #[(sR b), (sJ pq), .second, (sI (-1 : Int32))] [(.ref b), (.int (1 : Int32))])) (fun t kt => ?_) ?_
    ·refine XS.aloadN X16.here hx rfl (hb hby d18_29) rfl rfl ?_
     exact kt
    obtain ⟨T17, X17, e17, st17⟩ := getF X16 hx hZ hown (host := "") (Or.inl (hw _ (ix 14 rfl))) Via.refl e16 Fa (g := (mkF m 30 #[(sR b), (sJ pq), .second, (sI (-1 : Int32))] [(.ref b), (.int (1 : Int32))])) rfl rfl (hb hby d18_30)
    refine gu (T17.setTop (mkF m 33 #[(sR b), (sJ pq), .second, (sI (-1 : Int32))] [(.ref la), (.int (1 : Int32))])) (fun t kt => st17 _ kt) ?_
    obtain ⟨ca18, Ar18, q18, S18, M18, H18, U18⟩ := id V_la
    refine gu (T17.setTop (mkF m 43 #[(sR b), (sJ pq), .second, (sI (-1 : Int32))] [(.long pq), (.int (0 : Int32)), (.ref b)])) (fun t kt => ?_) ?_
    ·refine X17.arraylength hx (cell := ca18) (by rw [e17]; exact Ar18.1) (State.isArrayOf_alike hZ.alike Ar18.2.1) (g := (mkF m 33 #[(sR b), (sJ pq), .second, (sI (-1 : Int32))] [(.ref la), (.int (1 : Int32))])) rfl (rest := [(.int (1 : Int32))]) rfl (hb hby d18_33) _ ?_
     rw [len_of S18 M18]
     show Steps _ _ _ (T17.setTop (mkF m 34 #[(sR b), (sJ pq), .second, (sI (-1 : Int32))] [(.int (256 : Int32)), (.int (1 : Int32))])) _
     refine XS.icmpNo X17.here hx rfl (hb hby d18_34) rfl (tlt (by decide : (1 : Int32) < (256 : Int32))).2.1 ?_
     show Steps _ _ _ (T17.setTop (mkF m 37 #[(sR b), (sJ pq), .second, (sI (-1 : Int32))] [])) _
     refine XS.aloadN X17.here hx rfl (hb hby d18_37) rfl rfl ?_
     show Steps _ _ _ (T17.setTop (mkF m 38 #[(sR b), (sJ pq), .second, (sI (-1 : Int32))] [(.ref b)])) _
     refine XS.iloadN X17.here hx rfl (hb hby d18_38) rfl ?_
     show Steps _ _ _ (T17.setTop (mkF m 39 #[(sR b), (sJ pq), .second, (sI (-1 : Int32))] [(.int (-1 : Int32)), (.ref b)])) _
     refine XS.ineg X17.here hx rfl (hb hby d18_39) rfl ?_
     show Steps _ _ _ (T17.setTop (mkF m 40 #[(sR b), (sJ pq), .second, (sI (-1 : Int32))] [(.int (1 : Int32)), (.ref b)])) _
     refine XS.iconst X17.here hx rfl (hb hby d18_40) ?_
     show Steps _ _ _ (T17.setTop (mkF m 41 #[(sR b), (sJ pq), .second, (sI (-1 : Int32))] [(.int (1 : Int32)), (.int (1 : Int32)), (.ref b)])) _
     refine XS.isub X17.here hx rfl (hb hby d18_41) rfl ?_
     show Steps _ _ _ (T17.setTop (mkF m 42 #[(sR b), (sJ pq), .second, (sI (-1 : Int32))] [(.int (0 : Int32)), (.ref b)])) _
     refine XS.lloadN X17.here hx rfl (hb hby d18_42) rfl ?_
     exact kt
    have BI19 : Bk Z n0 h0 b la pa tm sd wB kl kp [(a0, x0)] := ⟨E_b, Fa, Fb, Fc, Fd, Fe, E_tm, Fs, V_la, V_pa, hov, g_b, g_la, g_pa, (lvS ⟨E_a0, F_a0_price⟩ lv0), hso⟩
    obtain ⟨cq19, q19, r19⟩ := E_b.cell
    obtain ⟨_, _, ⟨T19, L19, k19, n19⟩, -, X19, ⟨Lc19, hQ19, l19, y19, z19⟩, st19⟩ := X17.privateBack hx (y := mn18) hown (mvT hZ (hw _ (ix 117 rfl))) (mvT hZ (hw _ (ix 118 rfl))) (own_selp (mvT hZ (hw _ (ix 4 rfl))) (mvP hZ (hw _ (ix 119 rfl))) (mvT hZ (hw _ (ix 118 rfl))) (by decide)) (Cond.privateMethod_at (mvP hZ (hw _ (ix 119 rfl)) (args := #[]))) (mvT hZ (hw _ (ix 120 rfl))) (by decide) (backOf (W := 0) (rm17 l Z aa hw [] b la pa tm sd wB kl kp [(a0, x0)] 0 pq h0 n0 O0 BI19 (Nat.le_of_ble_eq_true rfl) (Nat.le_of_ble_eq_true rfl) (show Srt sd wB [pq, x0] from srt2 (by omega))) hZ (hw _ (ix 120 rfl)) (hw _ (ix 5 rfl)) (by decide) (by decide)) (g := (mkF m 43 #[(sR b), (sJ pq), .second, (sI (-1 : Int32))] [(.long pq), (.int (0 : Int32)), (.ref b)])) rfl (sz hml) (Steps.refl _) (a := b) (by rw [e17]; exact q19) r19 (argsL := [(.int (0 : Int32)), (.long pq)]) (rest := []) (lenOf pd_oIJcLcom_example_openvenue_openvenue_core_PriceLevel rfl) rfl le0 (hb hby d18_43) (fun _ _ => ⟨rfl, e17, (by decide : 0 + 2 ≤ _), (by decide : 0 + 8 ≤ _)⟩)
    dsimp only [Pt.U, Pt.locs, Pt.cells, Pt.slots] at X19 l19 y19 z19 st19 hQ19
    subst l19 y19 z19
    obtain ⟨y, rfl, M19, K19, BB⟩ := hQ19
    have N19 := Fr.app N0 M19
    have O19 := O0.keep K19 (allS g_b (allS g_la (allS g_pa all0)))
    have KK19 : Keep h0 T19.heap [b, la, pa] := K0.trans K19 (allS (Or.inl (ix 0 rfl)) (allS (Or.inl (ix 1 rfl)) (allS (Or.inl (ix 2 rfl)) all0)))
    refine gu (T19.setTop (mkF m 46 #[(sR b), (sJ pq), .second, (sI (-1 : Int32))] [(.ref y)])) (fun t kt => st19.trans kt) ?_
    refine Gl.retR X19 hx hlk Bd.returns (hb hby d18_46) rfl rfl ?_ (by decide) (by decide)
    show Q18 Z _ _ _ _ _ _ _ _ _ _ h0 n0 _ T19.heap _; exact ⟨y, _, rfl, N19, KK19, BB, by simp, own_ins _ _ _, by simp⟩
  ·have hv20 : (f16_1 pq sd x0 wB) = (-2 : Int32) := (show (-2 : Int32) = (f16_1 pq sd x0 wB) from (if_neg c13_10).symm).symm
   rw [hv20]
   have tx0 := Decidable.not_not.mp (fun z => c13_10 (own_iw.mpr z))
   refine gu (T9.setTop (mkF m 26 #[(sR b), (sJ pq), .second, (sI (-2 : Int32))] [(.ref b)])) (fun t kt => ?_) ?_
   ·refine XS.istoreN X9.here hx rfl (hb hby d18_13) rfl (l' := #[(sR b), (sJ pq), .second, (sI (-2 : Int32))]) rfl ?_
    show Steps _ _ _ (T9.setTop (mkF m 14 #[(sR b), (sJ pq), .second, (sI (-2 : Int32))] [])) _
    refine XS.iloadN X9.here hx rfl (hb hby d18_14) rfl ?_
    show Steps _ _ _ (T9.setTop (mkF m 15 #[(sR b), (sJ pq), .second, (sI (-2 : Int32))] [(.int (-2 : Int32))])) _
    refine XS.ifYes X9.here hx rfl (pc0 := 15) (pc' := 25) rfl (hb hby d18_15) rfl ((if0 _ _).trans (tlt (by decide : (-2 : Int32) < (0 : Int32))).1) (by decide) (by decide) ?_
    show Steps _ _ _ (T9.setTop (mkF m 25 #[(sR b), (sJ pq), .second, (sI (-2 : Int32))] [])) _
    refine XS.aloadN X9.here hx rfl (hb hby d18_25) rfl rfl ?_
    exact kt
   obtain ⟨T21, X21, e21, st21⟩ := getF X9 hx hZ hown (host := "") (Or.inl (hw _ (ix 77 rfl))) Via.refl e9 Fe (g := (mkF m 26 #[(sR b), (sJ pq), .second, (sI (-2 : Int32))] [(.ref b)])) rfl rfl (hb hby d18_26)
   refine gu (T21.setTop (mkF m 29 #[(sR b), (sJ pq), .second, (sI (-2 : Int32))] [(.int (1 : Int32))])) (fun t kt => st21 _ kt) ?_
   refine gu (T21.setTop (mkF m 30 #[(sR b), (sJ pq), .second, (sI (-2 : Int32))] [(.ref b), (.int (1 : Int32))])) (fun t kt => ?_) ?_
   ·refine XS.aloadN X21.here hx rfl (hb hby d18_29) rfl rfl ?_
    exact kt
   obtain ⟨T22, X22, e22, st22⟩ := getF X21 hx hZ hown (host := "") (Or.inl (hw _ (ix 14 rfl))) Via.refl e21 Fa (g := (mkF m 30 #[(sR b), (sJ pq), .second, (sI (-2 : Int32))] [(.ref b), (.int (1 : Int32))])) rfl rfl (hb hby d18_30)
   refine gu (T22.setTop (mkF m 33 #[(sR b), (sJ pq), .second, (sI (-2 : Int32))] [(.ref la), (.int (1 : Int32))])) (fun t kt => st22 _ kt) ?_
   obtain ⟨ca23, Ar23, q23, S23, M23, H23, U23⟩ := id V_la
   refine gu (T22.setTop (mkF m 43 #[(sR b), (sJ pq), .second, (sI (-2 : Int32))] [(.long pq), (.int (1 : Int32)), (.ref b)])) (fun t kt => ?_) ?_
   ·refine X22.arraylength hx (cell := ca23) (by rw [e22]; exact Ar23.1) (State.isArrayOf_alike hZ.alike Ar23.2.1) (g := (mkF m 33 #[(sR b), (sJ pq), .second, (sI (-2 : Int32))] [(.ref la), (.int (1 : Int32))])) rfl (rest := [(.int (1 : Int32))]) rfl (hb hby d18_33) _ ?_
    rw [len_of S23 M23]
    show Steps _ _ _ (T22.setTop (mkF m 34 #[(sR b), (sJ pq), .second, (sI (-2 : Int32))] [(.int (256 : Int32)), (.int (1 : Int32))])) _
    refine XS.icmpNo X22.here hx rfl (hb hby d18_34) rfl (tlt (by decide : (1 : Int32) < (256 : Int32))).2.1 ?_
    show Steps _ _ _ (T22.setTop (mkF m 37 #[(sR b), (sJ pq), .second, (sI (-2 : Int32))] [])) _
    refine XS.aloadN X22.here hx rfl (hb hby d18_37) rfl rfl ?_
    show Steps _ _ _ (T22.setTop (mkF m 38 #[(sR b), (sJ pq), .second, (sI (-2 : Int32))] [(.ref b)])) _
    refine XS.iloadN X22.here hx rfl (hb hby d18_38) rfl ?_
    show Steps _ _ _ (T22.setTop (mkF m 39 #[(sR b), (sJ pq), .second, (sI (-2 : Int32))] [(.int (-2 : Int32)), (.ref b)])) _
    refine XS.ineg X22.here hx rfl (hb hby d18_39) rfl ?_
    show Steps _ _ _ (T22.setTop (mkF m 40 #[(sR b), (sJ pq), .second, (sI (-2 : Int32))] [(.int (2 : Int32)), (.ref b)])) _
    refine XS.iconst X22.here hx rfl (hb hby d18_40) ?_
    show Steps _ _ _ (T22.setTop (mkF m 41 #[(sR b), (sJ pq), .second, (sI (-2 : Int32))] [(.int (1 : Int32)), (.int (2 : Int32)), (.ref b)])) _
    refine XS.isub X22.here hx rfl (hb hby d18_41) rfl ?_
    show Steps _ _ _ (T22.setTop (mkF m 42 #[(sR b), (sJ pq), .second, (sI (-2 : Int32))] [(.int (1 : Int32)), (.ref b)])) _
    refine XS.lloadN X22.here hx rfl (hb hby d18_42) rfl ?_
    exact kt
   have BI24 : Bk Z n0 h0 b la pa tm sd wB kl kp [(a0, x0)] := ⟨E_b, Fa, Fb, Fc, Fd, Fe, E_tm, Fs, V_la, V_pa, hov, g_b, g_la, g_pa, (lvS ⟨E_a0, F_a0_price⟩ lv0), hso⟩
   obtain ⟨cq24, q24, r24⟩ := E_b.cell
   obtain ⟨_, _, ⟨T24, L24, k24, n24⟩, -, X24, ⟨Lc24, hQ24, l24, y24, z24⟩, st24⟩ := X22.privateBack hx (y := mn18) hown (mvT hZ (hw _ (ix 117 rfl))) (mvT hZ (hw _ (ix 118 rfl))) (own_selp (mvT hZ (hw _ (ix 4 rfl))) (mvP hZ (hw _ (ix 119 rfl))) (mvT hZ (hw _ (ix 118 rfl))) (by decide)) (Cond.privateMethod_at (mvP hZ (hw _ (ix 119 rfl)) (args := #[]))) (mvT hZ (hw _ (ix 120 rfl))) (by decide) (backOf (W := 0) (rm17 l Z aa hw [] b la pa tm sd wB kl kp [(a0, x0)] 1 pq h0 n0 O0 BI24 (Nat.le_of_ble_eq_true rfl) (Nat.le_of_ble_eq_true rfl) (show Srt sd wB [x0, pq] from srt2 (by omega))) hZ (hw _ (ix 120 rfl)) (hw _ (ix 5 rfl)) (by decide) (by decide)) (g := (mkF m 43 #[(sR b), (sJ pq), .second, (sI (-2 : Int32))] [(.long pq), (.int (1 : Int32)), (.ref b)])) rfl (sz hml) (Steps.refl _) (a := b) (by rw [e22]; exact q24) r24 (argsL := [(.int (1 : Int32)), (.long pq)]) (rest := []) (lenOf pd_oIJcLcom_example_openvenue_openvenue_core_PriceLevel rfl) rfl le0 (hb hby d18_43) (fun _ _ => ⟨rfl, e22, (by decide : 0 + 2 ≤ _), (by decide : 0 + 8 ≤ _)⟩)
   dsimp only [Pt.U, Pt.locs, Pt.cells, Pt.slots] at X24 l24 y24 z24 st24 hQ24
   subst l24 y24 z24
   obtain ⟨y, rfl, M24, K24, BB⟩ := hQ24
   have N24 := Fr.app N0 M24
   have O24 := O0.keep K24 (allS g_b (allS g_la (allS g_pa all0)))
   have KK24 : Keep h0 T24.heap [b, la, pa] := K0.trans K24 (allS (Or.inl (ix 0 rfl)) (allS (Or.inl (ix 1 rfl)) (allS (Or.inl (ix 2 rfl)) all0)))
   refine gu (T24.setTop (mkF m 46 #[(sR b), (sJ pq), .second, (sI (-2 : Int32))] [(.ref y)])) (fun t kt => st24.trans kt) ?_
   refine Gl.retR X24 hx hlk Bd.returns (hb hby d18_46) rfl rfl ?_ (by decide) (by decide)
   show Q18 Z _ _ _ _ _ _ _ _ _ _ h0 n0 _ T24.heap _; exact ⟨y, _, rfl, N24, KK24, BB, by simp, own_ins _ _ _, by simp⟩
 ·obtain ⟨E_b, Fa, Fb, Fc, Fd, Fe0, E_tm, Fs, V_la0, V_pa0, hov, g_b, g_la, g_pa, hlv, hso⟩ := B0
  have Fe : Fld Z h0 b "com/example/openvenue/openvenue/core/BookSide" "count" "I" (.int (2 : Int32)) := Fe0
  have V_la : Arv Z h0 la kl oPL (256 : Int32) [(.ref a0), (.ref a1)] .null := V_la0
  have V_pa : Arv Z h0 pa kp .long (256 : Int32) [(.long x0), (.long x1)] (.long (0 : Int64)) := V_pa0
  obtain ⟨E_a0, F_a0_price⟩ := hlv (a0, x0) (by simp)
  obtain ⟨E_a1, F_a1_price⟩ := hlv (a1, x1) (by simp)
  have o01 := srt2' (x := x0) (y := x1) hso
  have ne_b_la : b ≠ la := Exa.neArv E_b V_la (hw _ (ix 4 rfl))
  have ne_b_pa : b ≠ pa := Exa.neArv E_b V_pa (hw _ (ix 4 rfl))
  have ne_tm_la : tm ≠ la := Exa.neArv E_tm V_la (hw _ (ix 46 rfl))
  have ne_tm_pa : tm ≠ pa := Exa.neArv E_tm V_pa (hw _ (ix 46 rfl))
  have ne_a0_la : a0 ≠ la := Exa.neArv E_a0 V_la (hw _ (ix 125 rfl))
  have ne_a0_pa : a0 ≠ pa := Exa.neArv E_a0 V_pa (hw _ (ix 125 rfl))
  have ne_a1_la : a1 ≠ la := Exa.neArv E_a1 V_la (hw _ (ix 125 rfl))
  have ne_a1_pa : a1 ≠ pa := Exa.neArv E_a1 V_pa (hw _ (ix 125 rfl))
  have ne_la_pa : la ≠ pa := own_arvne V_la V_pa
  have ne_b_tm : b ≠ tm := ne_exa E_b E_tm (by decide)
  have ne_b_a0 : b ≠ a0 := ne_exa E_b E_a0 (by decide)
  have ne_b_a1 : b ≠ a1 := ne_exa E_b E_a1 (by decide)
  have ne_tm_a0 : tm ≠ a0 := ne_exa E_tm E_a0 (by decide)
  have ne_tm_a1 : tm ≠ a1 := ne_exa E_tm E_a1 (by decide)
  have ne_a0_a1 : a0 ≠ a1 := Fld.ne F_a0_price F_a1_price (ky_ne o01)
  refine gu (s₁.setTop (mkF m 2 #[(sR b), (sJ pq), .second, .unset] [(.long pq), (.ref b)])) (fun t kt => ?_) ?_
  ·refine XS.aloadN X0.here hx rfl (hb hby d18_0) rfl rfl ?_
   show Steps _ _ _ (s₁.setTop (mkF m 1 #[(sR b), (sJ pq), .second, .unset] [(.ref b)])) _
   refine XS.lloadN X0.here hx rfl (hb hby d18_1) rfl ?_
   exact kt
  obtain ⟨cq25, q25, r25⟩ := E_b.cell
  obtain ⟨_, _, ⟨T25, L25, k25, n25⟩, -, X25, ⟨Lc25, hQ25, l25, y25, z25⟩, st25⟩ := X0.privateBack hx (y := mn13) hown (mvT hZ (hw _ (ix 94 rfl))) (mvT hZ (hw _ (ix 95 rfl))) (own_selp (mvT hZ (hw _ (ix 4 rfl))) (mvP hZ (hw _ (ix 96 rfl))) (mvT hZ (hw _ (ix 95 rfl))) (by decide)) (Cond.privateMethod_at (mvP hZ (hw _ (ix 96 rfl)) (args := #[]))) (mvT hZ (hw _ (ix 97 rfl))) (by decide) (backOf (W := 0) (rm13 l Z aa hw [] b pq tm h0 n0 O0 E_b Fd E_tm Fs) hZ (hw _ (ix 97 rfl)) (hw _ (ix 5 rfl)) (by decide) (by decide)) (g := (mkF m 2 #[(sR b), (sJ pq), .second, .unset] [(.long pq), (.ref b)])) rfl (sz hml) (Steps.refl _) (a := b) (by rw [e0]; exact q25) r25 (argsL := [(.long pq)]) (rest := []) (lenOf pd_oJcZ rfl) rfl le0 (hb hby d18_2) (fun _ _ => ⟨rfl, e0, (by decide : 0 + 0 ≤ _), (by decide : 0 + 0 ≤ _)⟩)
  dsimp only [Pt.U, Pt.locs, Pt.cells, Pt.slots] at X25 l25 y25 z25 st25 hQ25
  subst l25 y25 z25
  obtain ⟨rfl, rfl, e25⟩ := hQ25
  try rw [List.append_nil] at X25
  refine gu (T25.setTop (mkF m 5 #[(sR b), (sJ pq), .second, .unset] [(.int (0 : Int32))])) (fun t kt => st25.trans kt) ?_
  refine gu (T25.setTop (mkF m 10 #[(sR b), (sJ pq), .second, .unset] [(.long pq), (.ref b)])) (fun t kt => ?_) ?_
  ·refine XS.ifNo X25.here hx rfl (hb hby d18_5) rfl ((if0 _ _).trans (teq (rfl : (0 : Int32) = (0 : Int32))).2) ?_
   show Steps _ _ _ (T25.setTop (mkF m 8 #[(sR b), (sJ pq), .second, .unset] [])) _
   refine XS.aloadN X25.here hx rfl (hb hby d18_8) rfl rfl ?_
   show Steps _ _ _ (T25.setTop (mkF m 9 #[(sR b), (sJ pq), .second, .unset] [(.ref b)])) _
   refine XS.lloadN X25.here hx rfl (hb hby d18_9) rfl ?_
   exact kt
  obtain ⟨cq26, q26, r26⟩ := E_b.cell
  obtain ⟨_, _, ⟨T26, L26, k26, n26⟩, -, X26, ⟨Lc26, hQ26, l26, y26, z26⟩, st26⟩ := X25.privateBack hx (y := mn17) hown (mvT hZ (hw _ (ix 113 rfl))) (mvT hZ (hw _ (ix 114 rfl))) (own_selp (mvT hZ (hw _ (ix 4 rfl))) (mvP hZ (hw _ (ix 115 rfl))) (mvT hZ (hw _ (ix 114 rfl))) (by decide)) (Cond.privateMethod_at (mvP hZ (hw _ (ix 115 rfl)) (args := #[]))) (mvT hZ (hw _ (ix 116 rfl))) (by decide) (backOf (W := 0) (rm16_2 l Z aa hw [] b pq pa sd kp x0 x1 wB h0 n0 O0 E_b Fe Fb Fc V_pa S_wB) hZ (hw _ (ix 116 rfl)) (hw _ (ix 5 rfl)) (by decide) (by decide)) (g := (mkF m 10 #[(sR b), (sJ pq), .second, .unset] [(.long pq), (.ref b)])) rfl (sz hml) (Steps.refl _) (a := b) (by rw [e25]; exact q26) r26 (argsL := [(.long pq)]) (rest := []) (lenOf pd_oJcI rfl) rfl le0 (hb hby d18_10) (fun _ _ => ⟨rfl, e25, (by decide : 0 + 0 ≤ _), (by decide : 0 + 0 ≤ _)⟩)
  dsimp only [Pt.U, Pt.locs, Pt.cells, Pt.slots] at X26 l26 y26 z26 st26 hQ26
  subst l26 y26 z26
  obtain ⟨rfl, rfl, e26⟩ := hQ26
  try rw [List.append_nil] at X26
  refine gu (T26.setTop (mkF m 13 #[(sR b), (sJ pq), .second, .unset] [(.int (f16_2 pq sd x0 x1 wB))])) (fun t kt => st26.trans kt) ?_
  by_cases c13_27 : (f14 x1 pq sd wB) = (0 : Int32)
  ·by_cases c13_28 : (f14 x0 pq sd wB) = (0 : Int32)
   ·by_cases c13_29 : x0 = pq
    ·have hv30 : (f16_2 pq sd x0 x1 wB) = (0 : Int32) := (show (0 : Int32) = (f16_2 pq sd x0 x1 wB) from (((if_pos c13_27).trans (if_pos c13_28)).trans (if_pos c13_29)).symm).symm
     rw [hv30]
     refine gu (T26.setTop (mkF m 19 #[(sR b), (sJ pq), .second, (sI (0 : Int32))] [(.ref b)])) (fun t kt => ?_) ?_
     ·refine XS.istoreN X26.here hx rfl (hb hby d18_13) rfl (l' := #[(sR b), (sJ pq), .second, (sI (0 : Int32))]) rfl ?_
      show Steps _ _ _ (T26.setTop (mkF m 14 #[(sR b), (sJ pq), .second, (sI (0 : Int32))] [])) _
      refine XS.iloadN X26.here hx rfl (hb hby d18_14) rfl ?_
      show Steps _ _ _ (T26.setTop (mkF m 15 #[(sR b), (sJ pq), .second, (sI (0 : Int32))] [(.int (0 : Int32))])) _
      refine XS.ifNo X26.here hx rfl (hb hby d18_15) rfl ((if0 _ _).trans (flt (by decide : ¬ ((0 : Int32) < (0 : Int32)))).1) ?_
      show Steps _ _ _ (T26.setTop (mkF m 18 #[(sR b), (sJ pq), .second, (sI (0 : Int32))] [])) _
      refine XS.aloadN X26.here hx rfl (hb hby d18_18) rfl rfl ?_
      exact kt
     obtain ⟨T31, X31, e31, st31⟩ := getF X26 hx hZ hown (host := "") (Or.inl (hw _ (ix 14 rfl))) Via.refl e26 Fa (g := (mkF m 19 #[(sR b), (sJ pq), .second, (sI (0 : Int32))] [(.ref b)])) rfl rfl (hb hby d18_19)
     refine gu (T31.setTop (mkF m 22 #[(sR b), (sJ pq), .second, (sI (0 : Int32))] [(.ref la)])) (fun t kt => st31 _ kt) ?_
     obtain ⟨ca32, Ar32, q32, S32, M32, H32, U32⟩ := id V_la
     refine gu (T31.setTop (mkF m 23 #[(sR b), (sJ pq), .second, (sI (0 : Int32))] [(.int (0 : Int32)), (.ref la)])) (fun t kt => ?_) ?_
     ·refine XS.iloadN X31.here hx rfl (hb hby d18_22) rfl ?_
      exact kt
     refine gu (T31.setTop (mkF m 24 #[(sR b), (sJ pq), .second, (sI (0 : Int32))] [(.ref a0)])) (fun t kt => ?_) ?_
     ·refine X31.aaload hx (j := (0 : Int32)) (v := (.ref a0)) (by rw [e31]; exact Ar32.1) (State.isArrayOf_alike hZ.alike Ar32.2.1) rfl Ar32.2.2 (inb_of S32 ⟨by decide, by decide⟩) (Has.at H32 (inb_of S32 ⟨by decide, by decide⟩) rfl) (g := (mkF m 23 #[(sR b), (sJ pq), .second, (sI (0 : Int32))] [(.int (0 : Int32)), (.ref la)])) rfl rfl (hb hby d18_23) _ ?_
      exact kt
     refine Gl.retR X31 hx hlk Bd.returns (hb hby d18_24) rfl rfl ?_ (by decide) (by decide)
     show Q18 Z _ _ _ _ _ _ _ _ _ _ h0 n0 _ T31.heap _; rw [e31]; have BB : Bk Z n0 h0 b la pa tm sd wB kl kp [(a0, x0), (a1, x1)] := ⟨E_b, Fa, Fb, Fc, Fd, Fe, E_tm, Fs, V_la, V_pa, hov, g_b, g_la, g_pa, (lvS ⟨E_a0, F_a0_price⟩ (lvS ⟨E_a1, F_a1_price⟩ lv0)), hso⟩; subst c13_29; exact ⟨a0, _, rfl, N0, K0, BB, by simp, fun q => ⟨Or.inl, fun z => z.elim id fun e => by rw [e]; simp⟩, by simp⟩
    ·have hv33 : (f16_2 pq sd x0 x1 wB) = (-1 : Int32) := (show (-1 : Int32) = (f16_2 pq sd x0 x1 wB) from (((if_pos c13_27).trans (if_pos c13_28)).trans (if_neg c13_29)).symm).symm
     rw [hv33]
     have tx1 := own_iw.mp c13_27
     have tx0 := own_iw.mp c13_28
     have ex0 : ky sd wB x0 ≠ ky sd wB pq := fun z => c13_29 (ky_inj z)
     refine gu (T26.setTop (mkF m 26 #[(sR b), (sJ pq), .second, (sI (-1 : Int32))] [(.ref b)])) (fun t kt => ?_) ?_
     ·refine XS.istoreN X26.here hx rfl (hb hby d18_13) rfl (l' := #[(sR b), (sJ pq), .second, (sI (-1 : Int32))]) rfl ?_
      show Steps _ _ _ (T26.setTop (mkF m 14 #[(sR b), (sJ pq), .second, (sI (-1 : Int32))] [])) _
      refine XS.iloadN X26.here hx rfl (hb hby d18_14) rfl ?_
      show Steps _ _ _ (T26.setTop (mkF m 15 #[(sR b), (sJ pq), .second, (sI (-1 : Int32))] [(.int (-1 : Int32))])) _
      refine XS.ifYes X26.here hx rfl (pc0 := 15) (pc' := 25) rfl (hb hby d18_15) rfl ((if0 _ _).trans (tlt (by decide : (-1 : Int32) < (0 : Int32))).1) (by decide) (by decide) ?_
      show Steps _ _ _ (T26.setTop (mkF m 25 #[(sR b), (sJ pq), .second, (sI (-1 : Int32))] [])) _
      refine XS.aloadN X26.here hx rfl (hb hby d18_25) rfl rfl ?_
      exact kt
     obtain ⟨T34, X34, e34, st34⟩ := getF X26 hx hZ hown (host := "") (Or.inl (hw _ (ix 77 rfl))) Via.refl e26 Fe (g := (mkF m 26 #[(sR b), (sJ pq), .second, (sI (-1 : Int32))] [(.ref b)])) rfl rfl (hb hby d18_26)
     refine gu (T34.setTop (mkF m 29 #[(sR b), (sJ pq), .second, (sI (-1 : Int32))] [(.int (2 : Int32))])) (fun t kt => st34 _ kt) ?_
     refine gu (T34.setTop (mkF m 30 #[(sR b), (sJ pq), .second, (sI (-1 : Int32))] [(.ref b), (.int (2 : Int32))])) (fun t kt => ?_) ?_
     ·refine XS.aloadN X34.here hx rfl (hb hby d18_29) rfl rfl ?_
      exact kt
     obtain ⟨T35, X35, e35, st35⟩ := getF X34 hx hZ hown (host := "") (Or.inl (hw _ (ix 14 rfl))) Via.refl e34 Fa (g := (mkF m 30 #[(sR b), (sJ pq), .second, (sI (-1 : Int32))] [(.ref b), (.int (2 : Int32))])) rfl rfl (hb hby d18_30)
     refine gu (T35.setTop (mkF m 33 #[(sR b), (sJ pq), .second, (sI (-1 : Int32))] [(.ref la), (.int (2 : Int32))])) (fun t kt => st35 _ kt) ?_
     obtain ⟨ca36, Ar36, q36, S36, M36, H36, U36⟩ := id V_la
     refine gu (T35.setTop (mkF m 43 #[(sR b), (sJ pq), .second, (sI (-1 : Int32))] [(.long pq), (.int (0 : Int32)), (.ref b)])) (fun t kt => ?_) ?_
     ·refine X35.arraylength hx (cell := ca36) (by rw [e35]; exact Ar36.1) (State.isArrayOf_alike hZ.alike Ar36.2.1) (g := (mkF m 33 #[(sR b), (sJ pq), .second, (sI (-1 : Int32))] [(.ref la), (.int (2 : Int32))])) rfl (rest := [(.int (2 : Int32))]) rfl (hb hby d18_33) _ ?_
      rw [len_of S36 M36]
      show Steps _ _ _ (T35.setTop (mkF m 34 #[(sR b), (sJ pq), .second, (sI (-1 : Int32))] [(.int (256 : Int32)), (.int (2 : Int32))])) _
      refine XS.icmpNo X35.here hx rfl (hb hby d18_34) rfl (tlt (by decide : (2 : Int32) < (256 : Int32))).2.1 ?_
      show Steps _ _ _ (T35.setTop (mkF m 37 #[(sR b), (sJ pq), .second, (sI (-1 : Int32))] [])) _
      refine XS.aloadN X35.here hx rfl (hb hby d18_37) rfl rfl ?_
      show Steps _ _ _ (T35.setTop (mkF m 38 #[(sR b), (sJ pq), .second, (sI (-1 : Int32))] [(.ref b)])) _
      refine XS.iloadN X35.here hx rfl (hb hby d18_38) rfl ?_
      show Steps _ _ _ (T35.setTop (mkF m 39 #[(sR b), (sJ pq), .second, (sI (-1 : Int32))] [(.int (-1 : Int32)), (.ref b)])) _
      refine XS.ineg X35.here hx rfl (hb hby d18_39) rfl ?_
      show Steps _ _ _ (T35.setTop (mkF m 40 #[(sR b), (sJ pq), .second, (sI (-1 : Int32))] [(.int (1 : Int32)), (.ref b)])) _
      refine XS.iconst X35.here hx rfl (hb hby d18_40) ?_
      show Steps _ _ _ (T35.setTop (mkF m 41 #[(sR b), (sJ pq), .second, (sI (-1 : Int32))] [(.int (1 : Int32)), (.int (1 : Int32)), (.ref b)])) _
      refine XS.isub X35.here hx rfl (hb hby d18_41) rfl ?_
      show Steps _ _ _ (T35.setTop (mkF m 42 #[(sR b), (sJ pq), .second, (sI (-1 : Int32))] [(.int (0 : Int32)), (.ref b)])) _
      refine XS.lloadN X35.here hx rfl (hb hby d18_42) rfl ?_
      exact kt
     have BI37 : Bk Z n0 h0 b la pa tm sd wB kl kp [(a0, x0), (a1, x1)] := ⟨E_b, Fa, Fb, Fc, Fd, Fe, E_tm, Fs, V_la, V_pa, hov, g_b, g_la, g_pa, (lvS ⟨E_a0, F_a0_price⟩ (lvS ⟨E_a1, F_a1_price⟩ lv0)), hso⟩
     obtain ⟨cq37, q37, r37⟩ := E_b.cell
     obtain ⟨_, _, ⟨T37, L37, k37, n37⟩, -, X37, ⟨Lc37, hQ37, l37, y37, z37⟩, st37⟩ := X35.privateBack hx (y := mn18) hown (mvT hZ (hw _ (ix 117 rfl))) (mvT hZ (hw _ (ix 118 rfl))) (own_selp (mvT hZ (hw _ (ix 4 rfl))) (mvP hZ (hw _ (ix 119 rfl))) (mvT hZ (hw _ (ix 118 rfl))) (by decide)) (Cond.privateMethod_at (mvP hZ (hw _ (ix 119 rfl)) (args := #[]))) (mvT hZ (hw _ (ix 120 rfl))) (by decide) (backOf (W := 0) (rm17 l Z aa hw [] b la pa tm sd wB kl kp [(a0, x0), (a1, x1)] 0 pq h0 n0 O0 BI37 (Nat.le_of_ble_eq_true rfl) (Nat.le_of_ble_eq_true rfl) (show Srt sd wB [pq, x0, x1] from srt3 (by omega) (by omega))) hZ (hw _ (ix 120 rfl)) (hw _ (ix 5 rfl)) (by decide) (by decide)) (g := (mkF m 43 #[(sR b), (sJ pq), .second, (sI (-1 : Int32))] [(.long pq), (.int (0 : Int32)), (.ref b)])) rfl (sz hml) (Steps.refl _) (a := b) (by rw [e35]; exact q37) r37 (argsL := [(.int (0 : Int32)), (.long pq)]) (rest := []) (lenOf pd_oIJcLcom_example_openvenue_openvenue_core_PriceLevel rfl) rfl le0 (hb hby d18_43) (fun _ _ => ⟨rfl, e35, (by decide : 0 + 2 ≤ _), (by decide : 0 + 8 ≤ _)⟩)
     dsimp only [Pt.U, Pt.locs, Pt.cells, Pt.slots] at X37 l37 y37 z37 st37 hQ37
     subst l37 y37 z37
     obtain ⟨y, rfl, M37, K37, BB⟩ := hQ37
     have N37 := Fr.app N0 M37
     have O37 := O0.keep K37 (allS g_b (allS g_la (allS g_pa all0)))
     have KK37 : Keep h0 T37.heap [b, la, pa] := K0.trans K37 (allS (Or.inl (ix 0 rfl)) (allS (Or.inl (ix 1 rfl)) (allS (Or.inl (ix 2 rfl)) all0)))
     refine gu (T37.setTop (mkF m 46 #[(sR b), (sJ pq), .second, (sI (-1 : Int32))] [(.ref y)])) (fun t kt => st37.trans kt) ?_
     refine Gl.retR X37 hx hlk Bd.returns (hb hby d18_46) rfl rfl ?_ (by decide) (by decide)
     show Q18 Z _ _ _ _ _ _ _ _ _ _ h0 n0 _ T37.heap _; exact ⟨y, _, rfl, N37, KK37, BB, by simp, own_ins _ _ _, by simp⟩
   ·by_cases c13_38 : x1 = pq
    ·have hv39 : (f16_2 pq sd x0 x1 wB) = (1 : Int32) := (show (1 : Int32) = (f16_2 pq sd x0 x1 wB) from (((if_pos c13_27).trans (if_neg c13_28)).trans (if_pos c13_38)).symm).symm
     rw [hv39]
     refine gu (T26.setTop (mkF m 19 #[(sR b), (sJ pq), .second, (sI (1 : Int32))] [(.ref b)])) (fun t kt => ?_) ?_
     ·refine XS.istoreN X26.here hx rfl (hb hby d18_13) rfl (l' := #[(sR b), (sJ pq), .second, (sI (1 : Int32))]) rfl ?_
      show Steps _ _ _ (T26.setTop (mkF m 14 #[(sR b), (sJ pq), .second, (sI (1 : Int32))] [])) _
      refine XS.iloadN X26.here hx rfl (hb hby d18_14) rfl ?_
      show Steps _ _ _ (T26.setTop (mkF m 15 #[(sR b), (sJ pq), .second, (sI (1 : Int32))] [(.int (1 : Int32))])) _
      refine XS.ifNo X26.here hx rfl (hb hby d18_15) rfl ((if0 _ _).trans (flt (by decide : ¬ ((1 : Int32) < (0 : Int32)))).1) ?_
      show Steps _ _ _ (T26.setTop (mkF m 18 #[(sR b), (sJ pq), .second, (sI (1 : Int32))] [])) _
      refine XS.aloadN X26.here hx rfl (hb hby d18_18) rfl rfl ?_
      exact kt
     obtain ⟨T40, X40, e40, st40⟩ := getF X26 hx hZ hown (host := "") (Or.inl (hw _ (ix 14 rfl))) Via.refl e26 Fa (g := (mkF m 19 #[(sR b), (sJ pq), .second, (sI (1 : Int32))] [(.ref b)])) rfl rfl (hb hby d18_19)
     refine gu (T40.setTop (mkF m 22 #[(sR b), (sJ pq), .second, (sI (1 : Int32))] [(.ref la)])) (fun t kt => st40 _ kt) ?_
     obtain ⟨ca41, Ar41, q41, S41, M41, H41, U41⟩ := id V_la
     refine gu (T40.setTop (mkF m 23 #[(sR b), (sJ pq), .second, (sI (1 : Int32))] [(.int (1 : Int32)), (.ref la)])) (fun t kt => ?_) ?_
     ·refine XS.iloadN X40.here hx rfl (hb hby d18_22) rfl ?_
      exact kt
     refine gu (T40.setTop (mkF m 24 #[(sR b), (sJ pq), .second, (sI (1 : Int32))] [(.ref a1)])) (fun t kt => ?_) ?_
     ·refine X40.aaload hx (j := (1 : Int32)) (v := (.ref a1)) (by rw [e40]; exact Ar41.1) (State.isArrayOf_alike hZ.alike Ar41.2.1) rfl Ar41.2.2 (inb_of S41 ⟨by decide, by decide⟩) (Has.at H41 (inb_of S41 ⟨by decide, by decide⟩) rfl) (g := (mkF m 23 #[(sR b), (sJ pq), .second, (sI (1 : Int32))] [(.int (1 : Int32)), (.ref la)])) rfl rfl (hb hby d18_23) _ ?_
      exact kt
     refine Gl.retR X40 hx hlk Bd.returns (hb hby d18_24) rfl rfl ?_ (by decide) (by decide)
     show Q18 Z _ _ _ _ _ _ _ _ _ _ h0 n0 _ T40.heap _; rw [e40]; have BB : Bk Z n0 h0 b la pa tm sd wB kl kp [(a0, x0), (a1, x1)] := ⟨E_b, Fa, Fb, Fc, Fd, Fe, E_tm, Fs, V_la, V_pa, hov, g_b, g_la, g_pa, (lvS ⟨E_a0, F_a0_price⟩ (lvS ⟨E_a1, F_a1_price⟩ lv0)), hso⟩; subst c13_38; exact ⟨a1, _, rfl, N0, K0, BB, by simp, fun q => ⟨Or.inl, fun z => z.elim id fun e => by rw [e]; simp⟩, by simp⟩
    ·have hv42 : (f16_2 pq sd x0 x1 wB) = (-2 : Int32) := (show (-2 : Int32) = (f16_2 pq sd x0 x1 wB) from (((if_pos c13_27).trans (if_neg c13_28)).trans (if_neg c13_38)).symm).symm
     rw [hv42]
     have tx1 := own_iw.mp c13_27
     have tx0 := Decidable.not_not.mp (fun z => c13_28 (own_iw.mpr z))
     have ex1 : ky sd wB x1 ≠ ky sd wB pq := fun z => c13_38 (ky_inj z)
     refine gu (T26.setTop (mkF m 26 #[(sR b), (sJ pq), .second, (sI (-2 : Int32))] [(.ref b)])) (fun t kt => ?_) ?_
     ·refine XS.istoreN X26.here hx rfl (hb hby d18_13) rfl (l' := #[(sR b), (sJ pq), .second, (sI (-2 : Int32))]) rfl ?_
      show Steps _ _ _ (T26.setTop (mkF m 14 #[(sR b), (sJ pq), .second, (sI (-2 : Int32))] [])) _
      refine XS.iloadN X26.here hx rfl (hb hby d18_14) rfl ?_
      show Steps _ _ _ (T26.setTop (mkF m 15 #[(sR b), (sJ pq), .second, (sI (-2 : Int32))] [(.int (-2 : Int32))])) _
      refine XS.ifYes X26.here hx rfl (pc0 := 15) (pc' := 25) rfl (hb hby d18_15) rfl ((if0 _ _).trans (tlt (by decide : (-2 : Int32) < (0 : Int32))).1) (by decide) (by decide) ?_
      show Steps _ _ _ (T26.setTop (mkF m 25 #[(sR b), (sJ pq), .second, (sI (-2 : Int32))] [])) _
      refine XS.aloadN X26.here hx rfl (hb hby d18_25) rfl rfl ?_
      exact kt
     obtain ⟨T43, X43, e43, st43⟩ := getF X26 hx hZ hown (host := "") (Or.inl (hw _ (ix 77 rfl))) Via.refl e26 Fe (g := (mkF m 26 #[(sR b), (sJ pq), .second, (sI (-2 : Int32))] [(.ref b)])) rfl rfl (hb hby d18_26)
     refine gu (T43.setTop (mkF m 29 #[(sR b), (sJ pq), .second, (sI (-2 : Int32))] [(.int (2 : Int32))])) (fun t kt => st43 _ kt) ?_
     refine gu (T43.setTop (mkF m 30 #[(sR b), (sJ pq), .second, (sI (-2 : Int32))] [(.ref b), (.int (2 : Int32))])) (fun t kt => ?_) ?_
     ·refine XS.aloadN X43.here hx rfl (hb hby d18_29) rfl rfl ?_
      exact kt
     obtain ⟨T44, X44, e44, st44⟩ := getF X43 hx hZ hown (host := "") (Or.inl (hw _ (ix 14 rfl))) Via.refl e43 Fa (g := (mkF m 30 #[(sR b), (sJ pq), .second, (sI (-2 : Int32))] [(.ref b), (.int (2 : Int32))])) rfl rfl (hb hby d18_30)
     refine gu (T44.setTop (mkF m 33 #[(sR b), (sJ pq), .second, (sI (-2 : Int32))] [(.ref la), (.int (2 : Int32))])) (fun t kt => st44 _ kt) ?_
     obtain ⟨ca45, Ar45, q45, S45, M45, H45, U45⟩ := id V_la
     refine gu (T44.setTop (mkF m 43 #[(sR b), (sJ pq), .second, (sI (-2 : Int32))] [(.long pq), (.int (1 : Int32)), (.ref b)])) (fun t kt => ?_) ?_
     ·refine X44.arraylength hx (cell := ca45) (by rw [e44]; exact Ar45.1) (State.isArrayOf_alike hZ.alike Ar45.2.1) (g := (mkF m 33 #[(sR b), (sJ pq), .second, (sI (-2 : Int32))] [(.ref la), (.int (2 : Int32))])) rfl (rest := [(.int (2 : Int32))]) rfl (hb hby d18_33) _ ?_
      rw [len_of S45 M45]
      show Steps _ _ _ (T44.setTop (mkF m 34 #[(sR b), (sJ pq), .second, (sI (-2 : Int32))] [(.int (256 : Int32)), (.int (2 : Int32))])) _
      refine XS.icmpNo X44.here hx rfl (hb hby d18_34) rfl (tlt (by decide : (2 : Int32) < (256 : Int32))).2.1 ?_
      show Steps _ _ _ (T44.setTop (mkF m 37 #[(sR b), (sJ pq), .second, (sI (-2 : Int32))] [])) _
      refine XS.aloadN X44.here hx rfl (hb hby d18_37) rfl rfl ?_
      show Steps _ _ _ (T44.setTop (mkF m 38 #[(sR b), (sJ pq), .second, (sI (-2 : Int32))] [(.ref b)])) _
      refine XS.iloadN X44.here hx rfl (hb hby d18_38) rfl ?_
      show Steps _ _ _ (T44.setTop (mkF m 39 #[(sR b), (sJ pq), .second, (sI (-2 : Int32))] [(.int (-2 : Int32)), (.ref b)])) _
      refine XS.ineg X44.here hx rfl (hb hby d18_39) rfl ?_
      show Steps _ _ _ (T44.setTop (mkF m 40 #[(sR b), (sJ pq), .second, (sI (-2 : Int32))] [(.int (2 : Int32)), (.ref b)])) _
      refine XS.iconst X44.here hx rfl (hb hby d18_40) ?_
      show Steps _ _ _ (T44.setTop (mkF m 41 #[(sR b), (sJ pq), .second, (sI (-2 : Int32))] [(.int (1 : Int32)), (.int (2 : Int32)), (.ref b)])) _
      refine XS.isub X44.here hx rfl (hb hby d18_41) rfl ?_
      show Steps _ _ _ (T44.setTop (mkF m 42 #[(sR b), (sJ pq), .second, (sI (-2 : Int32))] [(.int (1 : Int32)), (.ref b)])) _
      refine XS.lloadN X44.here hx rfl (hb hby d18_42) rfl ?_
      exact kt
     have BI46 : Bk Z n0 h0 b la pa tm sd wB kl kp [(a0, x0), (a1, x1)] := ⟨E_b, Fa, Fb, Fc, Fd, Fe, E_tm, Fs, V_la, V_pa, hov, g_b, g_la, g_pa, (lvS ⟨E_a0, F_a0_price⟩ (lvS ⟨E_a1, F_a1_price⟩ lv0)), hso⟩
     obtain ⟨cq46, q46, r46⟩ := E_b.cell
     obtain ⟨_, _, ⟨T46, L46, k46, n46⟩, -, X46, ⟨Lc46, hQ46, l46, y46, z46⟩, st46⟩ := X44.privateBack hx (y := mn18) hown (mvT hZ (hw _ (ix 117 rfl))) (mvT hZ (hw _ (ix 118 rfl))) (own_selp (mvT hZ (hw _ (ix 4 rfl))) (mvP hZ (hw _ (ix 119 rfl))) (mvT hZ (hw _ (ix 118 rfl))) (by decide)) (Cond.privateMethod_at (mvP hZ (hw _ (ix 119 rfl)) (args := #[]))) (mvT hZ (hw _ (ix 120 rfl))) (by decide) (backOf (W := 0) (rm17 l Z aa hw [] b la pa tm sd wB kl kp [(a0, x0), (a1, x1)] 1 pq h0 n0 O0 BI46 (Nat.le_of_ble_eq_true rfl) (Nat.le_of_ble_eq_true rfl) (show Srt sd wB [x0, pq, x1] from srt3 (by omega) (by omega))) hZ (hw _ (ix 120 rfl)) (hw _ (ix 5 rfl)) (by decide) (by decide)) (g := (mkF m 43 #[(sR b), (sJ pq), .second, (sI (-2 : Int32))] [(.long pq), (.int (1 : Int32)), (.ref b)])) rfl (sz hml) (Steps.refl _) (a := b) (by rw [e44]; exact q46) r46 (argsL := [(.int (1 : Int32)), (.long pq)]) (rest := []) (lenOf pd_oIJcLcom_example_openvenue_openvenue_core_PriceLevel rfl) rfl le0 (hb hby d18_43) (fun _ _ => ⟨rfl, e44, (by decide : 0 + 2 ≤ _), (by decide : 0 + 8 ≤ _)⟩)
     dsimp only [Pt.U, Pt.locs, Pt.cells, Pt.slots] at X46 l46 y46 z46 st46 hQ46
     subst l46 y46 z46
     obtain ⟨y, rfl, M46, K46, BB⟩ := hQ46
     have N46 := Fr.app N0 M46
     have O46 := O0.keep K46 (allS g_b (allS g_la (allS g_pa all0)))
     have KK46 : Keep h0 T46.heap [b, la, pa] := K0.trans K46 (allS (Or.inl (ix 0 rfl)) (allS (Or.inl (ix 1 rfl)) (allS (Or.inl (ix 2 rfl)) all0)))
     refine gu (T46.setTop (mkF m 46 #[(sR b), (sJ pq), .second, (sI (-2 : Int32))] [(.ref y)])) (fun t kt => st46.trans kt) ?_
     refine Gl.retR X46 hx hlk Bd.returns (hb hby d18_46) rfl rfl ?_ (by decide) (by decide)
     show Q18 Z _ _ _ _ _ _ _ _ _ _ h0 n0 _ T46.heap _; exact ⟨y, _, rfl, N46, KK46, BB, by simp, own_ins _ _ _, by simp⟩
  ·have hv47 : (f16_2 pq sd x0 x1 wB) = (-3 : Int32) := (show (-3 : Int32) = (f16_2 pq sd x0 x1 wB) from (if_neg c13_27).symm).symm
   rw [hv47]
   have tx1 := Decidable.not_not.mp (fun z => c13_27 (own_iw.mpr z))
   refine gu (T26.setTop (mkF m 26 #[(sR b), (sJ pq), .second, (sI (-3 : Int32))] [(.ref b)])) (fun t kt => ?_) ?_
   ·refine XS.istoreN X26.here hx rfl (hb hby d18_13) rfl (l' := #[(sR b), (sJ pq), .second, (sI (-3 : Int32))]) rfl ?_
    show Steps _ _ _ (T26.setTop (mkF m 14 #[(sR b), (sJ pq), .second, (sI (-3 : Int32))] [])) _
    refine XS.iloadN X26.here hx rfl (hb hby d18_14) rfl ?_
    show Steps _ _ _ (T26.setTop (mkF m 15 #[(sR b), (sJ pq), .second, (sI (-3 : Int32))] [(.int (-3 : Int32))])) _
    refine XS.ifYes X26.here hx rfl (pc0 := 15) (pc' := 25) rfl (hb hby d18_15) rfl ((if0 _ _).trans (tlt (by decide : (-3 : Int32) < (0 : Int32))).1) (by decide) (by decide) ?_
    show Steps _ _ _ (T26.setTop (mkF m 25 #[(sR b), (sJ pq), .second, (sI (-3 : Int32))] [])) _
    refine XS.aloadN X26.here hx rfl (hb hby d18_25) rfl rfl ?_
    exact kt
   obtain ⟨T48, X48, e48, st48⟩ := getF X26 hx hZ hown (host := "") (Or.inl (hw _ (ix 77 rfl))) Via.refl e26 Fe (g := (mkF m 26 #[(sR b), (sJ pq), .second, (sI (-3 : Int32))] [(.ref b)])) rfl rfl (hb hby d18_26)
   refine gu (T48.setTop (mkF m 29 #[(sR b), (sJ pq), .second, (sI (-3 : Int32))] [(.int (2 : Int32))])) (fun t kt => st48 _ kt) ?_
   refine gu (T48.setTop (mkF m 30 #[(sR b), (sJ pq), .second, (sI (-3 : Int32))] [(.ref b), (.int (2 : Int32))])) (fun t kt => ?_) ?_
   ·refine XS.aloadN X48.here hx rfl (hb hby d18_29) rfl rfl ?_
    exact kt
   obtain ⟨T49, X49, e49, st49⟩ := getF X48 hx hZ hown (host := "") (Or.inl (hw _ (ix 14 rfl))) Via.refl e48 Fa (g := (mkF m 30 #[(sR b), (sJ pq), .second, (sI (-3 : Int32))] [(.ref b), (.int (2 : Int32))])) rfl rfl (hb hby d18_30)
   refine gu (T49.setTop (mkF m 33 #[(sR b), (sJ pq), .second, (sI (-3 : Int32))] [(.ref la), (.int (2 : Int32))])) (fun t kt => st49 _ kt) ?_
   obtain ⟨ca50, Ar50, q50, S50, M50, H50, U50⟩ := id V_la
   refine gu (T49.setTop (mkF m 43 #[(sR b), (sJ pq), .second, (sI (-3 : Int32))] [(.long pq), (.int (2 : Int32)), (.ref b)])) (fun t kt => ?_) ?_
   ·refine X49.arraylength hx (cell := ca50) (by rw [e49]; exact Ar50.1) (State.isArrayOf_alike hZ.alike Ar50.2.1) (g := (mkF m 33 #[(sR b), (sJ pq), .second, (sI (-3 : Int32))] [(.ref la), (.int (2 : Int32))])) rfl (rest := [(.int (2 : Int32))]) rfl (hb hby d18_33) _ ?_
    rw [len_of S50 M50]
    show Steps _ _ _ (T49.setTop (mkF m 34 #[(sR b), (sJ pq), .second, (sI (-3 : Int32))] [(.int (256 : Int32)), (.int (2 : Int32))])) _
    refine XS.icmpNo X49.here hx rfl (hb hby d18_34) rfl (tlt (by decide : (2 : Int32) < (256 : Int32))).2.1 ?_
    show Steps _ _ _ (T49.setTop (mkF m 37 #[(sR b), (sJ pq), .second, (sI (-3 : Int32))] [])) _
    refine XS.aloadN X49.here hx rfl (hb hby d18_37) rfl rfl ?_
    show Steps _ _ _ (T49.setTop (mkF m 38 #[(sR b), (sJ pq), .second, (sI (-3 : Int32))] [(.ref b)])) _
    refine XS.iloadN X49.here hx rfl (hb hby d18_38) rfl ?_
    show Steps _ _ _ (T49.setTop (mkF m 39 #[(sR b), (sJ pq), .second, (sI (-3 : Int32))] [(.int (-3 : Int32)), (.ref b)])) _
    refine XS.ineg X49.here hx rfl (hb hby d18_39) rfl ?_
    show Steps _ _ _ (T49.setTop (mkF m 40 #[(sR b), (sJ pq), .second, (sI (-3 : Int32))] [(.int (3 : Int32)), (.ref b)])) _
    refine XS.iconst X49.here hx rfl (hb hby d18_40) ?_
    show Steps _ _ _ (T49.setTop (mkF m 41 #[(sR b), (sJ pq), .second, (sI (-3 : Int32))] [(.int (1 : Int32)), (.int (3 : Int32)), (.ref b)])) _
    refine XS.isub X49.here hx rfl (hb hby d18_41) rfl ?_
    show Steps _ _ _ (T49.setTop (mkF m 42 #[(sR b), (sJ pq), .second, (sI (-3 : Int32))] [(.int (2 : Int32)), (.ref b)])) _
    refine XS.lloadN X49.here hx rfl (hb hby d18_42) rfl ?_
    exact kt
   have BI51 : Bk Z n0 h0 b la pa tm sd wB kl kp [(a0, x0), (a1, x1)] := ⟨E_b, Fa, Fb, Fc, Fd, Fe, E_tm, Fs, V_la, V_pa, hov, g_b, g_la, g_pa, (lvS ⟨E_a0, F_a0_price⟩ (lvS ⟨E_a1, F_a1_price⟩ lv0)), hso⟩
   obtain ⟨cq51, q51, r51⟩ := E_b.cell
   obtain ⟨_, _, ⟨T51, L51, k51, n51⟩, -, X51, ⟨Lc51, hQ51, l51, y51, z51⟩, st51⟩ := X49.privateBack hx (y := mn18) hown (mvT hZ (hw _ (ix 117 rfl))) (mvT hZ (hw _ (ix 118 rfl))) (own_selp (mvT hZ (hw _ (ix 4 rfl))) (mvP hZ (hw _ (ix 119 rfl))) (mvT hZ (hw _ (ix 118 rfl))) (by decide)) (Cond.privateMethod_at (mvP hZ (hw _ (ix 119 rfl)) (args := #[]))) (mvT hZ (hw _ (ix 120 rfl))) (by decide) (backOf (W := 0) (rm17 l Z aa hw [] b la pa tm sd wB kl kp [(a0, x0), (a1, x1)] 2 pq h0 n0 O0 BI51 (Nat.le_of_ble_eq_true rfl) (Nat.le_of_ble_eq_true rfl) (show Srt sd wB [x0, x1, pq] from srt3 (by omega) (by omega))) hZ (hw _ (ix 120 rfl)) (hw _ (ix 5 rfl)) (by decide) (by decide)) (g := (mkF m 43 #[(sR b), (sJ pq), .second, (sI (-3 : Int32))] [(.long pq), (.int (2 : Int32)), (.ref b)])) rfl (sz hml) (Steps.refl _) (a := b) (by rw [e49]; exact q51) r51 (argsL := [(.int (2 : Int32)), (.long pq)]) (rest := []) (lenOf pd_oIJcLcom_example_openvenue_openvenue_core_PriceLevel rfl) rfl le0 (hb hby d18_43) (fun _ _ => ⟨rfl, e49, (by decide : 0 + 2 ≤ _), (by decide : 0 + 8 ≤ _)⟩)
   dsimp only [Pt.U, Pt.locs, Pt.cells, Pt.slots] at X51 l51 y51 z51 st51 hQ51
   subst l51 y51 z51
   obtain ⟨y, rfl, M51, K51, BB⟩ := hQ51
   have N51 := Fr.app N0 M51
   have O51 := O0.keep K51 (allS g_b (allS g_la (allS g_pa all0)))
   have KK51 : Keep h0 T51.heap [b, la, pa] := K0.trans K51 (allS (Or.inl (ix 0 rfl)) (allS (Or.inl (ix 1 rfl)) (allS (Or.inl (ix 2 rfl)) all0)))
   refine gu (T51.setTop (mkF m 46 #[(sR b), (sJ pq), .second, (sI (-3 : Int32))] [(.ref y)])) (fun t kt => st51.trans kt) ?_
   refine Gl.retR X51 hx hlk Bd.returns (hb hby d18_46) rfl rfl ?_ (by decide) (by decide)
   show Q18 Z _ _ _ _ _ _ _ _ _ _ h0 n0 _ T51.heap _; exact ⟨y, _, rfl, N51, KK51, BB, by simp, own_ins _ _ _, by simp⟩
 ·exact absurd hlen (by simp)
def Q19 (Z : State) (b la sd wB : Addr) (kl : ClassId) (bl : List (Addr × Int64)) (h0 : Heap) (n0 : Nat) (v : Option Value) (h : Heap) (L : List Loc) : Prop := v = some (bst bl) ∧ L = [] ∧ h = h0
theorem ef19 (m : MethodId) (b : Addr) : entryFrame m #[(.ref b)] 1 = mkF m 0 #[(sR b)] [] := by first | (simp [entryFrame, mkF, argsToLocals, Value.category]; done) | rfl
set_option maxRecDepth 65536 in
set_option maxHeartbeats 40000000 in
theorem rm19 (l : Launch) (Z : State) (aa : Array Value) (hw : ∀ d ∈ tables_1, d.before aa Z = true) (ws : List Jvm.Cond) (b la sd wB : Addr) (kl : ClassId) (bl : List (Addr × Int64)) (h0 : Heap) (n0 : Nat) (O0 : Old Z n0 h0) (B0 : Bp Z h0 b la sd wB kl bl) (hlen : bl.length ≤ 3) :
  MetFree l mn20 (head1 (Jvm.Cond.code mn20 prog_44_method_2_code 1 (some (.object "com/example/openvenue/openvenue/core/PriceLevel")) :: ws) ({ frames := 0, cells := 0, slots := 0, locals := 0 } : Room)) (fun a U => a = #[(.ref b)] ∧ Z.Warmed39 U.vm ∧ U.heap = h0) (fun _ _ _ _ _ => True) (fun _ U o U' => ∃ v L, o = .returned v ∧ Q19 Z b la sd wB kl bl h0 n0 v U'.heap L ∧ FrameEnd U o U' L ({ frames := 0, cells := 0, slots := 0, locals := 0 } : Room).cells ({ frames := 0, cells := 0, slots := 0, locals := 0 } : Room).slots) := by
 refine MetFree.of_bodySF (plainFor_of_name pn_com_example_openvenue_openvenue_core_BookSide) hisR ?_
 intro p e s m args below meth c s₁ Bd hml0 hP hK
 obtain ⟨rfl, hZ, hh⟩ := hP
 have hx := Bd.exec
 have hby := Bd.bytes
 have hlk := Bd.notSynchronized
 have hml : c.maxLocals = 1 := hml0
 have hown : s.vm.findClass "com/example/openvenue/openvenue/core/BookSide" = some m.cls := findClass_of_methodNamed Bd.named
 have hnm := (name_of_methodNamed Bd.named Bd.method).1
 have X0 : Stand p l e ({ frames := 0, cells := 0, slots := 0, locals := 0 } : Room) s m #[(.ref b)] below meth c s₁ [] 0 0 := Stand.of_body Bd
 have e0 : s₁.heap = h0 := by rw [← hh, Bd.state]; rfl
 have N0 := Fr.nil n0
 show Gl p e below (Ret s 0 0 (Q19 Z b la sd wB kl bl h0 n0)) (s₁.setTop (entryFrame m #[(.ref b)] 1))
 rw [ef19 m b]
 obtain ⟨args, hargs⟩ : ∃ z : Array Value, z = #[(.ref b)] := ⟨_, rfl⟩
 rw [← hargs] at X0
 rcases bl with _ | ⟨⟨a0, x0⟩, _ | ⟨⟨a1, x1⟩, _ | ⟨⟨a2, x2⟩, _ | ⟨qq, bl⟩⟩⟩⟩
 ·obtain ⟨E_b, Fa, Fe0, V_la0, -, -⟩ := B0
  have Fe : Fld Z h0 b "com/example/openvenue/openvenue/core/BookSide" "count" "I" (.int (0 : Int32)) := Fe0
  have V_la : Arv Z h0 la kl oPL (256 : Int32) [] .null := V_la0
  refine gu (s₁.setTop (mkF m 1 #[(sR b)] [(.ref b)])) (fun t kt => ?_) ?_
  ·refine XS.aloadN X0.here hx rfl (hb hby d19_0) rfl rfl ?_
   exact kt
  obtain ⟨T1, X1, e1, st1⟩ := getF X0 hx hZ hown (host := "") (Or.inl (hw _ (ix 77 rfl))) Via.refl e0 Fe (g := (mkF m 1 #[(sR b)] [(.ref b)])) rfl rfl (hb hby d19_1)
  refine gu (T1.setTop (mkF m 4 #[(sR b)] [(.int (0 : Int32))])) (fun t kt => st1 _ kt) ?_
  refine gu (T1.setTop (mkF m 22 #[(sR b)] [.null])) (fun t kt => ?_) ?_
  ·refine XS.ifNo X1.here hx rfl (hb hby d19_4) rfl ((if0 _ _).trans (teq (rfl : (0 : Int32) = (0 : Int32))).2) ?_
   show Steps _ _ _ (T1.setTop (mkF m 7 #[(sR b)] [])) _
   refine XS.aconstNull X1.here hx rfl (hb hby d19_7) ?_
   show Steps _ _ _ (T1.setTop (mkF m 8 #[(sR b)] [.null])) _
   refine XS.goto X1.here hx rfl (pc0 := 8) (pc' := 22) rfl (hb hby d19_8) (by decide) (by decide) ?_
   exact kt
  refine Gl.retR X1 hx hlk Bd.returns (hb hby d19_22) rfl rfl ?_ (by decide) (by decide)
  show Q19 Z _ _ _ _ _ _ h0 n0 _ T1.heap _; exact ⟨rfl, rfl, e1⟩
 ·obtain ⟨E_b, Fa, Fe0, V_la0, -, -⟩ := B0
  have Fe : Fld Z h0 b "com/example/openvenue/openvenue/core/BookSide" "count" "I" (.int (1 : Int32)) := Fe0
  have V_la : Arv Z h0 la kl oPL (256 : Int32) [(.ref a0)] .null := V_la0
  refine gu (s₁.setTop (mkF m 1 #[(sR b)] [(.ref b)])) (fun t kt => ?_) ?_
  ·refine XS.aloadN X0.here hx rfl (hb hby d19_0) rfl rfl ?_
   exact kt
  obtain ⟨T2, X2, e2, st2⟩ := getF X0 hx hZ hown (host := "") (Or.inl (hw _ (ix 77 rfl))) Via.refl e0 Fe (g := (mkF m 1 #[(sR b)] [(.ref b)])) rfl rfl (hb hby d19_1)
  refine gu (T2.setTop (mkF m 4 #[(sR b)] [(.int (1 : Int32))])) (fun t kt => st2 _ kt) ?_
  refine gu (T2.setTop (mkF m 12 #[(sR b)] [(.ref b)])) (fun t kt => ?_) ?_
  ·refine XS.ifYes X2.here hx rfl (pc0 := 4) (pc' := 11) rfl (hb hby d19_4) rfl ((if0 _ _).trans (feq (by decide : ¬ ((1 : Int32) = (0 : Int32)))).2) (by decide) (by decide) ?_
   show Steps _ _ _ (T2.setTop (mkF m 11 #[(sR b)] [])) _
   refine XS.aloadN X2.here hx rfl (hb hby d19_11) rfl rfl ?_
   exact kt
  obtain ⟨T3, X3, e3, st3⟩ := getF X2 hx hZ hown (host := "") (Or.inl (hw _ (ix 14 rfl))) Via.refl e2 Fa (g := (mkF m 12 #[(sR b)] [(.ref b)])) rfl rfl (hb hby d19_12)
  refine gu (T3.setTop (mkF m 15 #[(sR b)] [(.ref la)])) (fun t kt => st3 _ kt) ?_
  refine gu (T3.setTop (mkF m 16 #[(sR b)] [(.ref b), (.ref la)])) (fun t kt => ?_) ?_
  ·refine XS.aloadN X3.here hx rfl (hb hby d19_15) rfl rfl ?_
   exact kt
  obtain ⟨T4, X4, e4, st4⟩ := getF X3 hx hZ hown (host := "") (Or.inl (hw _ (ix 77 rfl))) Via.refl e3 Fe (g := (mkF m 16 #[(sR b)] [(.ref b), (.ref la)])) rfl rfl (hb hby d19_16)
  refine gu (T4.setTop (mkF m 19 #[(sR b)] [(.int (1 : Int32)), (.ref la)])) (fun t kt => st4 _ kt) ?_
  obtain ⟨ca5, Ar5, q5, S5, M5, H5, U5⟩ := id V_la
  refine gu (T4.setTop (mkF m 21 #[(sR b)] [(.int (0 : Int32)), (.ref la)])) (fun t kt => ?_) ?_
  ·refine XS.iconst X4.here hx rfl (hb hby d19_19) ?_
   show Steps _ _ _ (T4.setTop (mkF m 20 #[(sR b)] [(.int (1 : Int32)), (.int (1 : Int32)), (.ref la)])) _
   refine XS.isub X4.here hx rfl (hb hby d19_20) rfl ?_
   exact kt
  refine gu (T4.setTop (mkF m 22 #[(sR b)] [(.ref a0)])) (fun t kt => ?_) ?_
  ·refine X4.aaload hx (j := (0 : Int32)) (v := (.ref a0)) (by rw [e4]; exact Ar5.1) (State.isArrayOf_alike hZ.alike Ar5.2.1) rfl Ar5.2.2 (inb_of S5 ⟨by decide, by decide⟩) (Has.at H5 (inb_of S5 ⟨by decide, by decide⟩) rfl) (g := (mkF m 21 #[(sR b)] [(.int (0 : Int32)), (.ref la)])) rfl rfl (hb hby d19_21) _ ?_
   exact kt
  refine Gl.retR X4 hx hlk Bd.returns (hb hby d19_22) rfl rfl ?_ (by decide) (by decide)
  show Q19 Z _ _ _ _ _ _ h0 n0 _ T4.heap _; exact ⟨rfl, rfl, e4⟩
 ·obtain ⟨E_b, Fa, Fe0, V_la0, -, -⟩ := B0
  have Fe : Fld Z h0 b "com/example/openvenue/openvenue/core/BookSide" "count" "I" (.int (2 : Int32)) := Fe0
  have V_la : Arv Z h0 la kl oPL (256 : Int32) [(.ref a0), (.ref a1)] .null := V_la0
  refine gu (s₁.setTop (mkF m 1 #[(sR b)] [(.ref b)])) (fun t kt => ?_) ?_
  ·refine XS.aloadN X0.here hx rfl (hb hby d19_0) rfl rfl ?_
   exact kt
  obtain ⟨T6, X6, e6, st6⟩ := getF X0 hx hZ hown (host := "") (Or.inl (hw _ (ix 77 rfl))) Via.refl e0 Fe (g := (mkF m 1 #[(sR b)] [(.ref b)])) rfl rfl (hb hby d19_1)
  refine gu (T6.setTop (mkF m 4 #[(sR b)] [(.int (2 : Int32))])) (fun t kt => st6 _ kt) ?_
  refine gu (T6.setTop (mkF m 12 #[(sR b)] [(.ref b)])) (fun t kt => ?_) ?_
  ·refine XS.ifYes X6.here hx rfl (pc0 := 4) (pc' := 11) rfl (hb hby d19_4) rfl ((if0 _ _).trans (feq (by decide : ¬ ((2 : Int32) = (0 : Int32)))).2) (by decide) (by decide) ?_
   show Steps _ _ _ (T6.setTop (mkF m 11 #[(sR b)] [])) _
   refine XS.aloadN X6.here hx rfl (hb hby d19_11) rfl rfl ?_
   exact kt
  obtain ⟨T7, X7, e7, st7⟩ := getF X6 hx hZ hown (host := "") (Or.inl (hw _ (ix 14 rfl))) Via.refl e6 Fa (g := (mkF m 12 #[(sR b)] [(.ref b)])) rfl rfl (hb hby d19_12)
  refine gu (T7.setTop (mkF m 15 #[(sR b)] [(.ref la)])) (fun t kt => st7 _ kt) ?_
  refine gu (T7.setTop (mkF m 16 #[(sR b)] [(.ref b), (.ref la)])) (fun t kt => ?_) ?_
  ·refine XS.aloadN X7.here hx rfl (hb hby d19_15) rfl rfl ?_
   exact kt
  obtain ⟨T8, X8, e8, st8⟩ := getF X7 hx hZ hown (host := "") (Or.inl (hw _ (ix 77 rfl))) Via.refl e7 Fe (g := (mkF m 16 #[(sR b)] [(.ref b), (.ref la)])) rfl rfl (hb hby d19_16)
  refine gu (T8.setTop (mkF m 19 #[(sR b)] [(.int (2 : Int32)), (.ref la)])) (fun t kt => st8 _ kt) ?_
  obtain ⟨ca9, Ar9, q9, S9, M9, H9, U9⟩ := id V_la
  refine gu (T8.setTop (mkF m 21 #[(sR b)] [(.int (1 : Int32)), (.ref la)])) (fun t kt => ?_) ?_
  ·refine XS.iconst X8.here hx rfl (hb hby d19_19) ?_
   show Steps _ _ _ (T8.setTop (mkF m 20 #[(sR b)] [(.int (1 : Int32)), (.int (2 : Int32)), (.ref la)])) _
   refine XS.isub X8.here hx rfl (hb hby d19_20) rfl ?_
   exact kt
  refine gu (T8.setTop (mkF m 22 #[(sR b)] [(.ref a1)])) (fun t kt => ?_) ?_
  ·refine X8.aaload hx (j := (1 : Int32)) (v := (.ref a1)) (by rw [e8]; exact Ar9.1) (State.isArrayOf_alike hZ.alike Ar9.2.1) rfl Ar9.2.2 (inb_of S9 ⟨by decide, by decide⟩) (Has.at H9 (inb_of S9 ⟨by decide, by decide⟩) rfl) (g := (mkF m 21 #[(sR b)] [(.int (1 : Int32)), (.ref la)])) rfl rfl (hb hby d19_21) _ ?_
   exact kt
  refine Gl.retR X8 hx hlk Bd.returns (hb hby d19_22) rfl rfl ?_ (by decide) (by decide)
  show Q19 Z _ _ _ _ _ _ h0 n0 _ T8.heap _; exact ⟨rfl, rfl, e8⟩
 ·obtain ⟨E_b, Fa, Fe0, V_la0, -, -⟩ := B0
  have Fe : Fld Z h0 b "com/example/openvenue/openvenue/core/BookSide" "count" "I" (.int (3 : Int32)) := Fe0
  have V_la : Arv Z h0 la kl oPL (256 : Int32) [(.ref a0), (.ref a1), (.ref a2)] .null := V_la0
  refine gu (s₁.setTop (mkF m 1 #[(sR b)] [(.ref b)])) (fun t kt => ?_) ?_
  ·refine XS.aloadN X0.here hx rfl (hb hby d19_0) rfl rfl ?_
   exact kt
  obtain ⟨T10, X10, e10, st10⟩ := getF X0 hx hZ hown (host := "") (Or.inl (hw _ (ix 77 rfl))) Via.refl e0 Fe (g := (mkF m 1 #[(sR b)] [(.ref b)])) rfl rfl (hb hby d19_1)
  refine gu (T10.setTop (mkF m 4 #[(sR b)] [(.int (3 : Int32))])) (fun t kt => st10 _ kt) ?_
  refine gu (T10.setTop (mkF m 12 #[(sR b)] [(.ref b)])) (fun t kt => ?_) ?_
  ·refine XS.ifYes X10.here hx rfl (pc0 := 4) (pc' := 11) rfl (hb hby d19_4) rfl ((if0 _ _).trans (feq (by decide : ¬ ((3 : Int32) = (0 : Int32)))).2) (by decide) (by decide) ?_
   show Steps _ _ _ (T10.setTop (mkF m 11 #[(sR b)] [])) _
   refine XS.aloadN X10.here hx rfl (hb hby d19_11) rfl rfl ?_
   exact kt
  obtain ⟨T11, X11, e11, st11⟩ := getF X10 hx hZ hown (host := "") (Or.inl (hw _ (ix 14 rfl))) Via.refl e10 Fa (g := (mkF m 12 #[(sR b)] [(.ref b)])) rfl rfl (hb hby d19_12)
  refine gu (T11.setTop (mkF m 15 #[(sR b)] [(.ref la)])) (fun t kt => st11 _ kt) ?_
  refine gu (T11.setTop (mkF m 16 #[(sR b)] [(.ref b), (.ref la)])) (fun t kt => ?_) ?_
  ·refine XS.aloadN X11.here hx rfl (hb hby d19_15) rfl rfl ?_
   exact kt
  obtain ⟨T12, X12, e12, st12⟩ := getF X11 hx hZ hown (host := "") (Or.inl (hw _ (ix 77 rfl))) Via.refl e11 Fe (g := (mkF m 16 #[(sR b)] [(.ref b), (.ref la)])) rfl rfl (hb hby d19_16)
  refine gu (T12.setTop (mkF m 19 #[(sR b)] [(.int (3 : Int32)), (.ref la)])) (fun t kt => st12 _ kt) ?_
  obtain ⟨ca13, Ar13, q13, S13, M13, H13, U13⟩ := id V_la
  refine gu (T12.setTop (mkF m 21 #[(sR b)] [(.int (2 : Int32)), (.ref la)])) (fun t kt => ?_) ?_
  ·refine XS.iconst X12.here hx rfl (hb hby d19_19) ?_
   show Steps _ _ _ (T12.setTop (mkF m 20 #[(sR b)] [(.int (1 : Int32)), (.int (3 : Int32)), (.ref la)])) _
   refine XS.isub X12.here hx rfl (hb hby d19_20) rfl ?_
   exact kt
  refine gu (T12.setTop (mkF m 22 #[(sR b)] [(.ref a2)])) (fun t kt => ?_) ?_
  ·refine X12.aaload hx (j := (2 : Int32)) (v := (.ref a2)) (by rw [e12]; exact Ar13.1) (State.isArrayOf_alike hZ.alike Ar13.2.1) rfl Ar13.2.2 (inb_of S13 ⟨by decide, by decide⟩) (Has.at H13 (inb_of S13 ⟨by decide, by decide⟩) rfl) (g := (mkF m 21 #[(sR b)] [(.int (2 : Int32)), (.ref la)])) rfl rfl (hb hby d19_21) _ ?_
   exact kt
  refine Gl.retR X12 hx hlk Bd.returns (hb hby d19_22) rfl rfl ?_ (by decide) (by decide)
  show Q19 Z _ _ _ _ _ _ h0 n0 _ T12.heap _; exact ⟨rfl, rfl, e12⟩
 ·exact absurd hlen (by simp)
def Q20 (Z : State) (b la pa tm sd wB : Addr) (kl kp : ClassId) (bl : List (Addr × Int64)) (lv : Addr) (xv : Int64) (h0 : Heap) (n0 : Nat) (v : Option Value) (h : Heap) (L : List Loc) : Prop := v = none ∧ Fr n0 L ∧ Keep h0 h [b, la, pa] ∧ ∃ bl', Bp Z h b la sd wB kl bl' ∧ (∀ q, q ∈ bl' ↔ q ∈ bl ∧ q.2 ≠ xv) ∧ bl'.length ≤ 3
theorem ef20 (m : MethodId) (b lv : Addr) : entryFrame m #[(.ref b), (.ref lv)] 3 = mkF m 0 #[(sR b), (sR lv), .unset] [] := by first | (simp [entryFrame, mkF, argsToLocals, Value.category]; done) | rfl
set_option maxRecDepth 65536 in
set_option maxHeartbeats 40000000 in
theorem rm20 (l : Launch) (Z : State) (aa : Array Value) (hw : ∀ d ∈ tables_1, d.before aa Z = true) (ws : List Jvm.Cond) (b la pa tm sd wB : Addr) (kl kp : ClassId) (bl : List (Addr × Int64)) (lv : Addr) (xv : Int64) (h0 : Heap) (n0 : Nat) (O0 : Old Z n0 h0) (S_wB : Sta Z Z.heap "com/example/openvenue/openvenue/core/Side" "BUY" "Lcom/example/openvenue/openvenue/core/Side;" (.ref wB)) (B0 : Bk Z n0 h0 b la pa tm sd wB kl kp bl) (hm : (lv, xv) ∈ bl) (hlen : bl.length ≤ 3) :
  MetFree l mn21 (head1 (Jvm.Cond.code mn21 prog_44_method_5_code 3 none :: ws) ({ frames := 3, cells := 0, slots := 0, locals := 38 } : Room)) (fun a U => a = #[(.ref b), (.ref lv)] ∧ Z.Warmed39 U.vm ∧ U.heap = h0) (fun _ _ _ _ _ => True) (fun _ U o U' => ∃ v L, o = .returned v ∧ Q20 Z b la pa tm sd wB kl kp bl lv xv h0 n0 v U'.heap L ∧ FrameEnd U o U' L ({ frames := 3, cells := 0, slots := 0, locals := 38 } : Room).cells ({ frames := 3, cells := 0, slots := 0, locals := 38 } : Room).slots) := by
 refine MetFree.of_bodySF (plainFor_of_name pn_com_example_openvenue_openvenue_core_BookSide) hisR ?_
 intro p e s m args below meth c s₁ Bd hml0 hP hK
 obtain ⟨rfl, hZ, hh⟩ := hP
 have hx := Bd.exec
 have hby := Bd.bytes
 have hlk := Bd.notSynchronized
 have hml : c.maxLocals = 3 := hml0
 have hown : s.vm.findClass "com/example/openvenue/openvenue/core/BookSide" = some m.cls := findClass_of_methodNamed Bd.named
 have hnm := (name_of_methodNamed Bd.named Bd.method).1
 have X0 : Stand p l e ({ frames := 3, cells := 0, slots := 0, locals := 38 } : Room) s m #[(.ref b), (.ref lv)] below meth c s₁ [] 0 0 := Stand.of_body Bd
 have e0 : s₁.heap = h0 := by rw [← hh, Bd.state]; rfl
 have N0 := Fr.nil n0
 show Gl p e below (Ret s 0 0 (Q20 Z b la pa tm sd wB kl kp bl lv xv h0 n0)) (s₁.setTop (entryFrame m #[(.ref b), (.ref lv)] 3))
 rw [ef20 m b lv]
 obtain ⟨args, hargs⟩ : ∃ z : Array Value, z = #[(.ref b), (.ref lv)] := ⟨_, rfl⟩
 rw [← hargs] at X0
 have K0 := Keep.refl h0 [b, la, pa]
 rcases bl with _ | ⟨⟨a0, x0⟩, _ | ⟨⟨a1, x1⟩, _ | ⟨⟨a2, x2⟩, _ | ⟨qq, bl⟩⟩⟩⟩
 ·exact nomatch hm
 ·simp only [List.mem_cons, List.not_mem_nil, or_false, Prod.mk.injEq] at hm
  rcases hm with ⟨rfl, rfl⟩
  ·obtain ⟨E_b, Fa, Fb, Fc, Fd, Fe0, E_tm, Fs, V_la0, V_pa0, hov, g_b, g_la, g_pa, hlv, hso⟩ := B0
   have Fe : Fld Z h0 b "com/example/openvenue/openvenue/core/BookSide" "count" "I" (.int (1 : Int32)) := Fe0
   have V_la : Arv Z h0 la kl oPL (256 : Int32) [(.ref lv)] .null := V_la0
   have V_pa : Arv Z h0 pa kp .long (256 : Int32) [(.long xv)] (.long (0 : Int64)) := V_pa0
   obtain ⟨E_lv, F_lv_price⟩ := hlv (lv, xv) (by simp)
   have ne_b_la : b ≠ la := Exa.neArv E_b V_la (hw _ (ix 4 rfl))
   have ne_b_pa : b ≠ pa := Exa.neArv E_b V_pa (hw _ (ix 4 rfl))
   have ne_tm_la : tm ≠ la := Exa.neArv E_tm V_la (hw _ (ix 46 rfl))
   have ne_tm_pa : tm ≠ pa := Exa.neArv E_tm V_pa (hw _ (ix 46 rfl))
   have ne_lv_la : lv ≠ la := Exa.neArv E_lv V_la (hw _ (ix 125 rfl))
   have ne_lv_pa : lv ≠ pa := Exa.neArv E_lv V_pa (hw _ (ix 125 rfl))
   have ne_la_pa : la ≠ pa := own_arvne V_la V_pa
   have ne_b_tm : b ≠ tm := ne_exa E_b E_tm (by decide)
   have ne_b_lv : b ≠ lv := ne_exa E_b E_lv (by decide)
   have ne_tm_lv : tm ≠ lv := ne_exa E_tm E_lv (by decide)
   refine gu (s₁.setTop (mkF m 2 #[(sR b), (sR lv), .unset] [(.ref lv), (.ref b)])) (fun t kt => ?_) ?_
   ·refine XS.aloadN X0.here hx rfl (hb hby d20_0) rfl rfl ?_
    show Steps _ _ _ (s₁.setTop (mkF m 1 #[(sR b), (sR lv), .unset] [(.ref b)])) _
    refine XS.aloadN X0.here hx rfl (hb hby d20_1) rfl rfl ?_
    exact kt
   obtain ⟨cq1, kq1, q1a, q1b, q1c⟩ := isOf hZ e0 E_lv
   obtain ⟨_, _, ⟨T1, L1, k1, n1⟩, -, X1, ⟨Lc1, hQ1, l1, y1, z1⟩, st1⟩ := X0.virtualBack hx (y := mn0) (z := mn0) hown (mvT hZ (hw _ (ix 154 rfl))) (mvT hZ (hw _ (ix 155 rfl))) (notFace_of_selects (args := #[]) (mvT hZ (hw _ (ix 157 rfl)))) (mvT hZ (hw _ (ix 157 rfl))) (mvT hZ (hw _ (ix 156 rfl))) (by decide) (backOf (W := 1) (rm1 l Z aa hw [] lv xv h0 n0 O0 E_lv F_lv_price) hZ (hw _ (ix 158 rfl)) (hw _ (ix 126 rfl)) (by decide) (by decide)) q1a q1c (g := (mkF m 2 #[(sR b), (sR lv), .unset] [(.ref lv), (.ref b)])) rfl (sz hml) (Steps.refl _) (argsL := []) (rest := [(.ref b)]) (lenOf pd_ocJ rfl) rfl le0 (hb hby d20_2) (fun _ _ => ⟨rfl, e0, (by decide : 0 + 0 ≤ _), (by decide : 0 + 0 ≤ _)⟩)
   dsimp only [Pt.U, Pt.locs, Pt.cells, Pt.slots] at X1 l1 y1 z1 st1 hQ1
   subst l1 y1 z1
   obtain ⟨rfl, rfl, e1⟩ := hQ1
   try rw [List.append_nil] at X1
   refine gu (T1.setTop (mkF m 5 #[(sR b), (sR lv), .unset] [(.long xv), (.ref b)])) (fun t kt => st1.trans kt) ?_
   obtain ⟨cq2, q2, r2⟩ := E_b.cell
   obtain ⟨_, _, ⟨T2, L2, k2, n2⟩, -, X2, ⟨Lc2, hQ2, l2, y2, z2⟩, st2⟩ := X1.privateBack hx (y := mn13) hown (mvT hZ (hw _ (ix 94 rfl))) (mvT hZ (hw _ (ix 95 rfl))) (own_selp (mvT hZ (hw _ (ix 4 rfl))) (mvP hZ (hw _ (ix 96 rfl))) (mvT hZ (hw _ (ix 95 rfl))) (by decide)) (Cond.privateMethod_at (mvP hZ (hw _ (ix 96 rfl)) (args := #[]))) (mvT hZ (hw _ (ix 97 rfl))) (by decide) (backOf (W := 0) (rm13 l Z aa hw [] b xv tm h0 n0 O0 E_b Fd E_tm Fs) hZ (hw _ (ix 97 rfl)) (hw _ (ix 5 rfl)) (by decide) (by decide)) (g := (mkF m 5 #[(sR b), (sR lv), .unset] [(.long xv), (.ref b)])) rfl (sz hml) (Steps.refl _) (a := b) (by rw [e1]; exact q2) r2 (argsL := [(.long xv)]) (rest := []) (lenOf pd_oJcZ rfl) rfl le0 (hb hby d20_5) (fun _ _ => ⟨rfl, e1, (by decide : 0 + 0 ≤ _), (by decide : 0 + 0 ≤ _)⟩)
   dsimp only [Pt.U, Pt.locs, Pt.cells, Pt.slots] at X2 l2 y2 z2 st2 hQ2
   subst l2 y2 z2
   obtain ⟨rfl, rfl, e2⟩ := hQ2
   try rw [List.append_nil] at X2
   refine gu (T2.setTop (mkF m 8 #[(sR b), (sR lv), .unset] [(.int (0 : Int32))])) (fun t kt => st2.trans kt) ?_
   refine gu (T2.setTop (mkF m 30 #[(sR b), (sR lv), .unset] [(.ref b)])) (fun t kt => ?_) ?_
   ·refine XS.ifYes X2.here hx rfl (pc0 := 8) (pc' := 29) rfl (hb hby d20_8) rfl ((if0 _ _).trans (teq (rfl : (0 : Int32) = (0 : Int32))).1) (by decide) (by decide) ?_
    show Steps _ _ _ (T2.setTop (mkF m 29 #[(sR b), (sR lv), .unset] [])) _
    refine XS.aloadN X2.here hx rfl (hb hby d20_29) rfl rfl ?_
    exact kt
   obtain ⟨T3, X3, e3, st3⟩ := getF X2 hx hZ hown (host := "") (Or.inl (hw _ (ix 14 rfl))) Via.refl e2 Fa (g := (mkF m 30 #[(sR b), (sR lv), .unset] [(.ref b)])) rfl rfl (hb hby d20_30)
   refine gu (T3.setTop (mkF m 33 #[(sR b), (sR lv), .unset] [(.ref la)])) (fun t kt => st3 _ kt) ?_
   refine gu (T3.setTop (mkF m 34 #[(sR b), (sR lv), .unset] [(.ref b), (.ref la)])) (fun t kt => ?_) ?_
   ·refine XS.aloadN X3.here hx rfl (hb hby d20_33) rfl rfl ?_
    exact kt
   obtain ⟨T4, X4, e4, st4⟩ := getF X3 hx hZ hown (host := "") (Or.inl (hw _ (ix 77 rfl))) Via.refl e3 Fe (g := (mkF m 34 #[(sR b), (sR lv), .unset] [(.ref b), (.ref la)])) rfl rfl (hb hby d20_34)
   refine gu (T4.setTop (mkF m 37 #[(sR b), (sR lv), .unset] [(.int (1 : Int32)), (.ref la)])) (fun t kt => st4 _ kt) ?_
   obtain ⟨ca5, Ar5, q5, S5, M5, H5, U5⟩ := id V_la
   refine gu (T4.setTop (mkF m 39 #[(sR b), (sR lv), .unset] [(.int (0 : Int32)), (.ref la)])) (fun t kt => ?_) ?_
   ·refine XS.iconst X4.here hx rfl (hb hby d20_37) ?_
    show Steps _ _ _ (T4.setTop (mkF m 38 #[(sR b), (sR lv), .unset] [(.int (1 : Int32)), (.int (1 : Int32)), (.ref la)])) _
    refine XS.isub X4.here hx rfl (hb hby d20_38) rfl ?_
    exact kt
   refine gu (T4.setTop (mkF m 45 #[(sR b), (sR lv), .unset] [(.ref b)])) (fun t kt => ?_) ?_
   ·refine X4.aaload hx (j := (0 : Int32)) (v := (.ref lv)) (by rw [e4]; exact Ar5.1) (State.isArrayOf_alike hZ.alike Ar5.2.1) rfl Ar5.2.2 (inb_of S5 ⟨by decide, by decide⟩) (Has.at H5 (inb_of S5 ⟨by decide, by decide⟩) rfl) (g := (mkF m 39 #[(sR b), (sR lv), .unset] [(.int (0 : Int32)), (.ref la)])) rfl rfl (hb hby d20_39) _ ?_
    show Steps _ _ _ (T4.setTop (mkF m 40 #[(sR b), (sR lv), .unset] [(.ref lv)])) _
    refine XS.aloadN X4.here hx rfl (hb hby d20_40) rfl rfl ?_
    show Steps _ _ _ (T4.setTop (mkF m 41 #[(sR b), (sR lv), .unset] [(.ref lv), (.ref lv)])) _
    refine Jvm.RoadKit.acmp (g := (mkF m 41 #[(sR b), (sR lv), .unset] [(.ref lv), (.ref lv)])) X4 hx rfl rfl rfl (pc0 := 41) (pc' := 44) (same := true) rfl (hb hby d20_41) rfl (decide_eq_true rfl) (by decide) (by decide) ?_
    show Steps _ _ _ (T4.setTop (mkF m 44 #[(sR b), (sR lv), .unset] [])) _
    refine XS.aloadN X4.here hx rfl (hb hby d20_44) rfl rfl ?_
    exact kt
   obtain ⟨T6, X6, e6, st6⟩ := getF X4 hx hZ hown (host := "") (Or.inl (hw _ (ix 77 rfl))) Via.refl e4 Fe (g := (mkF m 45 #[(sR b), (sR lv), .unset] [(.ref b)])) rfl rfl (hb hby d20_45)
   refine gu (T6.setTop (mkF m 48 #[(sR b), (sR lv), .unset] [(.int (1 : Int32))])) (fun t kt => st6 _ kt) ?_
   refine gu (T6.setTop (mkF m 63 #[(sR b), (sR lv), (sI (0 : Int32))] [(.ref b)])) (fun t kt => ?_) ?_
   ·refine XS.iconst X6.here hx rfl (hb hby d20_48) ?_
    show Steps _ _ _ (T6.setTop (mkF m 49 #[(sR b), (sR lv), .unset] [(.int (1 : Int32)), (.int (1 : Int32))])) _
    refine XS.isub X6.here hx rfl (hb hby d20_49) rfl ?_
    show Steps _ _ _ (T6.setTop (mkF m 50 #[(sR b), (sR lv), .unset] [(.int (0 : Int32))])) _
    refine XS.goto X6.here hx rfl (pc0 := 50) (pc' := 61) rfl (hb hby d20_50) (by decide) (by decide) ?_
    show Steps _ _ _ (T6.setTop (mkF m 61 #[(sR b), (sR lv), .unset] [(.int (0 : Int32))])) _
    refine XS.istoreN X6.here hx rfl (hb hby d20_61) rfl (l' := #[(sR b), (sR lv), (sI (0 : Int32))]) rfl ?_
    show Steps _ _ _ (T6.setTop (mkF m 62 #[(sR b), (sR lv), (sI (0 : Int32))] [])) _
    refine XS.aloadN X6.here hx rfl (hb hby d20_62) rfl rfl ?_
    exact kt
   obtain ⟨T7, X7, e7, st7⟩ := getF X6 hx hZ hown (host := "") (Or.inl (hw _ (ix 14 rfl))) Via.refl e6 Fa (g := (mkF m 63 #[(sR b), (sR lv), (sI (0 : Int32))] [(.ref b)])) rfl rfl (hb hby d20_63)
   refine gu (T7.setTop (mkF m 66 #[(sR b), (sR lv), (sI (0 : Int32))] [(.ref la)])) (fun t kt => st7 _ kt) ?_
   refine gu (T7.setTop (mkF m 70 #[(sR b), (sR lv), (sI (0 : Int32))] [(.ref b), (.int (1 : Int32)), (.ref la)])) (fun t kt => ?_) ?_
   ·refine XS.iloadN X7.here hx rfl (hb hby d20_66) rfl ?_
    show Steps _ _ _ (T7.setTop (mkF m 67 #[(sR b), (sR lv), (sI (0 : Int32))] [(.int (0 : Int32)), (.ref la)])) _
    refine XS.iconst X7.here hx rfl (hb hby d20_67) ?_
    show Steps _ _ _ (T7.setTop (mkF m 68 #[(sR b), (sR lv), (sI (0 : Int32))] [(.int (1 : Int32)), (.int (0 : Int32)), (.ref la)])) _
    refine XS.iadd X7.here hx rfl (hb hby d20_68) rfl ?_
    show Steps _ _ _ (T7.setTop (mkF m 69 #[(sR b), (sR lv), (sI (0 : Int32))] [(.int (1 : Int32)), (.ref la)])) _
    refine XS.aloadN X7.here hx rfl (hb hby d20_69) rfl rfl ?_
    exact kt
   obtain ⟨T8, X8, e8, st8⟩ := getF X7 hx hZ hown (host := "") (Or.inl (hw _ (ix 14 rfl))) Via.refl e7 Fa (g := (mkF m 70 #[(sR b), (sR lv), (sI (0 : Int32))] [(.ref b), (.int (1 : Int32)), (.ref la)])) rfl rfl (hb hby d20_70)
   refine gu (T8.setTop (mkF m 73 #[(sR b), (sR lv), (sI (0 : Int32))] [(.ref la), (.int (1 : Int32)), (.ref la)])) (fun t kt => st8 _ kt) ?_
   refine gu (T8.setTop (mkF m 75 #[(sR b), (sR lv), (sI (0 : Int32))] [(.ref b), (.int (0 : Int32)), (.ref la), (.int (1 : Int32)), (.ref la)])) (fun t kt => ?_) ?_
   ·refine XS.iloadN X8.here hx rfl (hb hby d20_73) rfl ?_
    show Steps _ _ _ (T8.setTop (mkF m 74 #[(sR b), (sR lv), (sI (0 : Int32))] [(.int (0 : Int32)), (.ref la), (.int (1 : Int32)), (.ref la)])) _
    refine XS.aloadN X8.here hx rfl (hb hby d20_74) rfl rfl ?_
    exact kt
   obtain ⟨T9, X9, e9, st9⟩ := getF X8 hx hZ hown (host := "") (Or.inl (hw _ (ix 77 rfl))) Via.refl e8 Fe (g := (mkF m 75 #[(sR b), (sR lv), (sI (0 : Int32))] [(.ref b), (.int (0 : Int32)), (.ref la), (.int (1 : Int32)), (.ref la)])) rfl rfl (hb hby d20_75)
   refine gu (T9.setTop (mkF m 78 #[(sR b), (sR lv), (sI (0 : Int32))] [(.int (1 : Int32)), (.int (0 : Int32)), (.ref la), (.int (1 : Int32)), (.ref la)])) (fun t kt => st9 _ kt) ?_
   refine gu (T9.setTop (mkF m 82 #[(sR b), (sR lv), (sI (0 : Int32))] [(.int (0 : Int32)), (.int (0 : Int32)), (.ref la), (.int (1 : Int32)), (.ref la)])) (fun t kt => ?_) ?_
   ·refine XS.iloadN X9.here hx rfl (hb hby d20_78) rfl ?_
    show Steps _ _ _ (T9.setTop (mkF m 79 #[(sR b), (sR lv), (sI (0 : Int32))] [(.int (0 : Int32)), (.int (1 : Int32)), (.int (0 : Int32)), (.ref la), (.int (1 : Int32)), (.ref la)])) _
    refine XS.isub X9.here hx rfl (hb hby d20_79) rfl ?_
    show Steps _ _ _ (T9.setTop (mkF m 80 #[(sR b), (sR lv), (sI (0 : Int32))] [(.int (1 : Int32)), (.int (0 : Int32)), (.ref la), (.int (1 : Int32)), (.ref la)])) _
    refine XS.iconst X9.here hx rfl (hb hby d20_80) ?_
    show Steps _ _ _ (T9.setTop (mkF m 81 #[(sR b), (sR lv), (sI (0 : Int32))] [(.int (1 : Int32)), (.int (1 : Int32)), (.int (0 : Int32)), (.ref la), (.int (1 : Int32)), (.ref la)])) _
    refine XS.isub X9.here hx rfl (hb hby d20_81) rfl ?_
    exact kt
   obtain ⟨ca10, Ar10, q10, S10, M10, H10, U10⟩ := id V_la
   obtain ⟨T10, h10, Lc10, X10, e10, N10, K10, W10, st10⟩ := cpA X9 hx hZ hown (hw _ (ix 121 rfl)) (hw _ (ix 124 rfl)) (hw _ (ix 122 rfl)) (hw _ (ix 123 rfl)) e9 (sp := (1 : Int32)) (dp := (0 : Int32)) (nn := (0 : Int32)) (us := []) V_la V_la (Or.inr ⟨rfl, rfl, trivial⟩) (by decide) (by decide) (by decide) (by decide) (by decide) rfl (Nat.le_of_ble_eq_true rfl) N0 g_la (g := (mkF m 82 #[(sR b), (sR lv), (sI (0 : Int32))] [(.int (0 : Int32)), (.int (0 : Int32)), (.ref la), (.int (1 : Int32)), (.ref la)])) rfl (sz hml) rfl (hb hby d20_82) (by decide) (W := 0) le0 (by decide)
   have O10 := O0.keep K10 (allS g_la all0)
   have KK10 : Keep h0 h10 [b, la, pa] := K0.trans K10 (allS (Or.inl (ix 1 rfl)) all0)
   have E_b_10 := E_b.keep K10
   have E_tm_10 := E_tm.keep K10
   have Fs_10 := Fs.keep K10 (ninS ne_tm_la nin0)
   have Fa_10 := Fa.keep K10 (ninS ne_b_la nin0)
   have Fb_10 := Fb.keep K10 (ninS ne_b_la nin0)
   have Fc_10 := Fc.keep K10 (ninS ne_b_la nin0)
   have Fd_10 := Fd.keep K10 (ninS ne_b_la nin0)
   have Fe_10 := Fe.keep K10 (ninS ne_b_la nin0)
   have V_pa_10 := V_pa.keep K10 (ninS (Ne.symm ne_la_pa) nin0)
   have E_lv_10 := E_lv.keep K10
   have F_lv_p_10 := F_lv_price.keep K10 (ninS ne_lv_la nin0)
   have V_la_10 : Arv Z h10 la kl oPL (256 : Int32) [(.ref lv)] .null := W10
   refine gu (T10.setTop (mkF m 85 #[(sR b), (sR lv), (sI (0 : Int32))] [])) (fun t kt => st10 _ kt) ?_
   refine gu (T10.setTop (mkF m 86 #[(sR b), (sR lv), (sI (0 : Int32))] [(.ref b)])) (fun t kt => ?_) ?_
   ·refine XS.aloadN X10.here hx rfl (hb hby d20_85) rfl rfl ?_
    exact kt
   obtain ⟨T11, X11, e11, st11⟩ := getF X10 hx hZ hown (host := "") (Or.inl (hw _ (ix 17 rfl))) Via.refl e10 Fb_10 (g := (mkF m 86 #[(sR b), (sR lv), (sI (0 : Int32))] [(.ref b)])) rfl rfl (hb hby d20_86)
   refine gu (T11.setTop (mkF m 89 #[(sR b), (sR lv), (sI (0 : Int32))] [(.ref pa)])) (fun t kt => st11 _ kt) ?_
   refine gu (T11.setTop (mkF m 93 #[(sR b), (sR lv), (sI (0 : Int32))] [(.ref b), (.int (1 : Int32)), (.ref pa)])) (fun t kt => ?_) ?_
   ·refine XS.iloadN X11.here hx rfl (hb hby d20_89) rfl ?_
    show Steps _ _ _ (T11.setTop (mkF m 90 #[(sR b), (sR lv), (sI (0 : Int32))] [(.int (0 : Int32)), (.ref pa)])) _
    refine XS.iconst X11.here hx rfl (hb hby d20_90) ?_
    show Steps _ _ _ (T11.setTop (mkF m 91 #[(sR b), (sR lv), (sI (0 : Int32))] [(.int (1 : Int32)), (.int (0 : Int32)), (.ref pa)])) _
    refine XS.iadd X11.here hx rfl (hb hby d20_91) rfl ?_
    show Steps _ _ _ (T11.setTop (mkF m 92 #[(sR b), (sR lv), (sI (0 : Int32))] [(.int (1 : Int32)), (.ref pa)])) _
    refine XS.aloadN X11.here hx rfl (hb hby d20_92) rfl rfl ?_
    exact kt
   obtain ⟨T12, X12, e12, st12⟩ := getF X11 hx hZ hown (host := "") (Or.inl (hw _ (ix 17 rfl))) Via.refl e11 Fb_10 (g := (mkF m 93 #[(sR b), (sR lv), (sI (0 : Int32))] [(.ref b), (.int (1 : Int32)), (.ref pa)])) rfl rfl (hb hby d20_93)
   refine gu (T12.setTop (mkF m 96 #[(sR b), (sR lv), (sI (0 : Int32))] [(.ref pa), (.int (1 : Int32)), (.ref pa)])) (fun t kt => st12 _ kt) ?_
   refine gu (T12.setTop (mkF m 98 #[(sR b), (sR lv), (sI (0 : Int32))] [(.ref b), (.int (0 : Int32)), (.ref pa), (.int (1 : Int32)), (.ref pa)])) (fun t kt => ?_) ?_
   ·refine XS.iloadN X12.here hx rfl (hb hby d20_96) rfl ?_
    show Steps _ _ _ (T12.setTop (mkF m 97 #[(sR b), (sR lv), (sI (0 : Int32))] [(.int (0 : Int32)), (.ref pa), (.int (1 : Int32)), (.ref pa)])) _
    refine XS.aloadN X12.here hx rfl (hb hby d20_97) rfl rfl ?_
    exact kt
   obtain ⟨T13, X13, e13, st13⟩ := getF X12 hx hZ hown (host := "") (Or.inl (hw _ (ix 77 rfl))) Via.refl e12 Fe_10 (g := (mkF m 98 #[(sR b), (sR lv), (sI (0 : Int32))] [(.ref b), (.int (0 : Int32)), (.ref pa), (.int (1 : Int32)), (.ref pa)])) rfl rfl (hb hby d20_98)
   refine gu (T13.setTop (mkF m 101 #[(sR b), (sR lv), (sI (0 : Int32))] [(.int (1 : Int32)), (.int (0 : Int32)), (.ref pa), (.int (1 : Int32)), (.ref pa)])) (fun t kt => st13 _ kt) ?_
   refine gu (T13.setTop (mkF m 105 #[(sR b), (sR lv), (sI (0 : Int32))] [(.int (0 : Int32)), (.int (0 : Int32)), (.ref pa), (.int (1 : Int32)), (.ref pa)])) (fun t kt => ?_) ?_
   ·refine XS.iloadN X13.here hx rfl (hb hby d20_101) rfl ?_
    show Steps _ _ _ (T13.setTop (mkF m 102 #[(sR b), (sR lv), (sI (0 : Int32))] [(.int (0 : Int32)), (.int (1 : Int32)), (.int (0 : Int32)), (.ref pa), (.int (1 : Int32)), (.ref pa)])) _
    refine XS.isub X13.here hx rfl (hb hby d20_102) rfl ?_
    show Steps _ _ _ (T13.setTop (mkF m 103 #[(sR b), (sR lv), (sI (0 : Int32))] [(.int (1 : Int32)), (.int (0 : Int32)), (.ref pa), (.int (1 : Int32)), (.ref pa)])) _
    refine XS.iconst X13.here hx rfl (hb hby d20_103) ?_
    show Steps _ _ _ (T13.setTop (mkF m 104 #[(sR b), (sR lv), (sI (0 : Int32))] [(.int (1 : Int32)), (.int (1 : Int32)), (.int (0 : Int32)), (.ref pa), (.int (1 : Int32)), (.ref pa)])) _
    refine XS.isub X13.here hx rfl (hb hby d20_104) rfl ?_
    exact kt
   obtain ⟨ca14, Ar14, q14, S14, M14, H14, U14⟩ := id V_pa_10
   obtain ⟨T14, h14, Lc14, X14, e14, N14, K14, W14, st14⟩ := cpA X13 hx hZ hown (hw _ (ix 121 rfl)) (hw _ (ix 124 rfl)) (hw _ (ix 122 rfl)) (hw _ (ix 123 rfl)) e13 (sp := (1 : Int32)) (dp := (0 : Int32)) (nn := (0 : Int32)) (us := []) V_pa_10 V_pa_10 (Or.inl ⟨rfl, rfl⟩) (by decide) (by decide) (by decide) (by decide) (by decide) rfl (Nat.le_of_ble_eq_true rfl) N10 g_pa (g := (mkF m 105 #[(sR b), (sR lv), (sI (0 : Int32))] [(.int (0 : Int32)), (.int (0 : Int32)), (.ref pa), (.int (1 : Int32)), (.ref pa)])) rfl (sz hml) rfl (hb hby d20_105) (by decide) (W := 0) le0 (by decide)
   have O14 := O10.keep K14 (allS g_pa all0)
   have KK14 : Keep h0 h14 [b, la, pa] := KK10.trans K14 (allS (Or.inl (ix 2 rfl)) all0)
   have E_b_14 := E_b_10.keep K14
   have E_tm_14 := E_tm_10.keep K14
   have Fs_14 := Fs_10.keep K14 (ninS ne_tm_pa nin0)
   have Fa_14 := Fa_10.keep K14 (ninS ne_b_pa nin0)
   have Fb_14 := Fb_10.keep K14 (ninS ne_b_pa nin0)
   have Fc_14 := Fc_10.keep K14 (ninS ne_b_pa nin0)
   have Fd_14 := Fd_10.keep K14 (ninS ne_b_pa nin0)
   have Fe_14 := Fe_10.keep K14 (ninS ne_b_pa nin0)
   have E_lv_14 := E_lv_10.keep K14
   have F_lv_p_14 := F_lv_p_10.keep K14 (ninS ne_lv_pa nin0)
   have V_la_14 := V_la_10.keep K14 (ninS ne_la_pa nin0)
   have V_pa_14 : Arv Z h14 pa kp .long (256 : Int32) [(.long xv)] (.long (0 : Int64)) := W14
   refine gu (T14.setTop (mkF m 108 #[(sR b), (sR lv), (sI (0 : Int32))] [])) (fun t kt => st14 _ kt) ?_
   refine gu (T14.setTop (mkF m 109 #[(sR b), (sR lv), (sI (0 : Int32))] [(.ref b)])) (fun t kt => ?_) ?_
   ·refine XS.aloadN X14.here hx rfl (hb hby d20_108) rfl rfl ?_
    exact kt
   obtain ⟨T15, X15, e15, st15⟩ := getF X14 hx hZ hown (host := "") (Or.inl (hw _ (ix 14 rfl))) Via.refl e14 Fa_14 (g := (mkF m 109 #[(sR b), (sR lv), (sI (0 : Int32))] [(.ref b)])) rfl rfl (hb hby d20_109)
   refine gu (T15.setTop (mkF m 112 #[(sR b), (sR lv), (sI (0 : Int32))] [(.ref la)])) (fun t kt => st15 _ kt) ?_
   refine gu (T15.setTop (mkF m 114 #[(sR b), (sR lv), (sI (0 : Int32))] [(.ref b), (.ref b), (.ref la)])) (fun t kt => ?_) ?_
   ·refine XS.aloadN X15.here hx rfl (hb hby d20_112) rfl rfl ?_
    show Steps _ _ _ (T15.setTop (mkF m 113 #[(sR b), (sR lv), (sI (0 : Int32))] [(.ref b), (.ref la)])) _
    refine XS.dup X15.here hx rfl (hb hby d20_113) rfl rfl ?_
    exact kt
   obtain ⟨T16, X16, e16, st16⟩ := getF X15 hx hZ hown (host := "") (Or.inl (hw _ (ix 77 rfl))) Via.refl e15 Fe_14 (g := (mkF m 114 #[(sR b), (sR lv), (sI (0 : Int32))] [(.ref b), (.ref b), (.ref la)])) rfl rfl (hb hby d20_114)
   refine gu (T16.setTop (mkF m 117 #[(sR b), (sR lv), (sI (0 : Int32))] [(.int (1 : Int32)), (.ref b), (.ref la)])) (fun t kt => st16 _ kt) ?_
   refine gu (T16.setTop (mkF m 120 #[(sR b), (sR lv), (sI (0 : Int32))] [(.int (0 : Int32)), (.ref b), (.int (0 : Int32)), (.ref la)])) (fun t kt => ?_) ?_
   ·refine XS.iconst X16.here hx rfl (hb hby d20_117) ?_
    show Steps _ _ _ (T16.setTop (mkF m 118 #[(sR b), (sR lv), (sI (0 : Int32))] [(.int (1 : Int32)), (.int (1 : Int32)), (.ref b), (.ref la)])) _
    refine XS.isub X16.here hx rfl (hb hby d20_118) rfl ?_
    show Steps _ _ _ (T16.setTop (mkF m 119 #[(sR b), (sR lv), (sI (0 : Int32))] [(.int (0 : Int32)), (.ref b), (.ref la)])) _
    refine XS.dupX1 X16.here hx rfl (hb hby d20_119) rfl rfl rfl ?_
    exact kt
   obtain ⟨T17, h17, X17, e17, W17, st17⟩ := putF X16 hx hZ hown (host := "") (Or.inl (hw _ (ix 77 rfl))) Via.refl e16 Fe_14 E_b_14 (Or.inl (hw _ (ix 78 rfl))) (hw _ (ix 4 rfl)) (ty := .int) (by decide) rfl rfl (g := (mkF m 120 #[(sR b), (sR lv), (sI (0 : Int32))] [(.int (0 : Int32)), (.ref b), (.int (0 : Int32)), (.ref la)])) rfl rfl (hb hby d20_120)
   have N17 := Fr.snoc X17 N14 g_b
   have O17 := O14.wr W17 g_b
   have K17 : Keep h0 h17 [b, la, pa] := KK14.wr W17 (Or.inl (ix 0 rfl))
   have E_b_17 := E_b_14.wr W17
   have E_tm_17 := E_tm_14.wr W17
   have Fs_17 := Fs_14.other W17 (Or.inl (Ne.symm ne_b_tm))
   have Fa_17 := Fa_14.other W17 (Or.inr (slot_ne (Or.inr (hw _ (ix 15 rfl))) (Or.inl (hw _ (ix 78 rfl))) (by decide) (t := (.array (.object "com/example/openvenue/openvenue/core/PriceLevel"))) (t' := .int) (by decide) (by decide)))
   have Fb_17 := Fb_14.other W17 (Or.inr (slot_ne (Or.inr (hw _ (ix 18 rfl))) (Or.inl (hw _ (ix 78 rfl))) (by decide) (t := (.array .long)) (t' := .int) (by decide) (by decide)))
   have Fc_17 := Fc_14.other W17 (Or.inr (slot_ne (Or.inr (hw _ (ix 36 rfl))) (Or.inl (hw _ (ix 78 rfl))) (by decide) (t := (.object "com/example/openvenue/openvenue/core/Side")) (t' := .int) (by decide) (by decide)))
   have Fd_17 := Fd_14.other W17 (Or.inr (slot_ne (Or.inr (hw _ (ix 65 rfl))) (Or.inl (hw _ (ix 78 rfl))) (by decide) (t := (.object "java/util/NavigableMap")) (t' := .int) (by decide) (by decide)))
   have E_lv_17 := E_lv_14.wr W17
   have F_lv_p_17 := F_lv_p_14.other W17 (Or.inl (Ne.symm ne_b_lv))
   have V_la_17 := V_la_14.other W17 (Ne.symm ne_b_la)
   have V_pa_17 := V_pa_14.other W17 (Ne.symm ne_b_pa)
   have Fe_17 := Fe_14.same W17
   refine gu (T17.setTop (mkF m 123 #[(sR b), (sR lv), (sI (0 : Int32))] [(.int (0 : Int32)), (.ref la)])) (fun t kt => st17 _ kt) ?_
   refine gu (T17.setTop (mkF m 124 #[(sR b), (sR lv), (sI (0 : Int32))] [.null, (.int (0 : Int32)), (.ref la)])) (fun t kt => ?_) ?_
   ·refine XS.aconstNull X17.here hx rfl (hb hby d20_123) ?_
    exact kt
   obtain ⟨ca18, Ar18, q18, S18, M18, H18, U18⟩ := id V_la_17
   obtain ⟨T18, h18, X18, e18, W18, st18⟩ := stR X17 hx hZ e17 Ar18 (j := (0 : Int32)) (v := .null) (inb_of S18 ⟨by decide, by decide⟩) rfl (Or.inl rfl) (g := (mkF m 124 #[(sR b), (sR lv), (sI (0 : Int32))] [.null, (.int (0 : Int32)), (.ref la)])) rfl rfl (hb hby d20_124)
   have N18 := Fr.snoc X18 N17 g_la
   have O18 := O17.wr W18 g_la
   have K18 : Keep h0 h18 [b, la, pa] := K17.wr W18 (Or.inl (ix 1 rfl))
   have E_b_18 := E_b_17.wr W18
   have E_tm_18 := E_tm_17.wr W18
   have Fs_18 := Fs_17.other W18 (Or.inl ne_tm_la)
   have Fa_18 := Fa_17.other W18 (Or.inl ne_b_la)
   have Fb_18 := Fb_17.other W18 (Or.inl ne_b_la)
   have Fc_18 := Fc_17.other W18 (Or.inl ne_b_la)
   have Fd_18 := Fd_17.other W18 (Or.inl ne_b_la)
   have Fe_18 := Fe_17.other W18 (Or.inl ne_b_la)
   have E_lv_18 := E_lv_17.wr W18
   have F_lv_p_18 := F_lv_p_17.other W18 (Or.inl ne_lv_la)
   have V_pa_18 := V_pa_17.other W18 (Ne.symm ne_la_pa)
   have V_la_18 : Arv Z h18 la kl oPL (256 : Int32) [.null] .null := Arv.set Ar18 q18 S18 M18 H18 U18 rfl W18 0 rfl (Nat.le_of_ble_eq_true rfl)
   refine gu (T18.setTop (mkF m 125 #[(sR b), (sR lv), (sI (0 : Int32))] [])) (fun t kt => st18 _ kt) ?_
   refine gu (T18.setTop (mkF m 126 #[(sR b), (sR lv), (sI (0 : Int32))] [(.ref b)])) (fun t kt => ?_) ?_
   ·refine XS.aloadN X18.here hx rfl (hb hby d20_125) rfl rfl ?_
    exact kt
   obtain ⟨T19, X19, e19, st19⟩ := getF X18 hx hZ hown (host := "") (Or.inl (hw _ (ix 77 rfl))) Via.refl e18 Fe_18 (g := (mkF m 126 #[(sR b), (sR lv), (sI (0 : Int32))] [(.ref b)])) rfl rfl (hb hby d20_126)
   refine gu (T19.setTop (mkF m 129 #[(sR b), (sR lv), (sI (0 : Int32))] [(.int (0 : Int32))])) (fun t kt => st19 _ kt) ?_
   refine gu (T19.setTop (mkF m 133 #[(sR b), (sR lv), (sI (0 : Int32))] [(.ref b)])) (fun t kt => ?_) ?_
   ·refine XS.ifNo X19.here hx rfl (hb hby d20_129) rfl ((if0 _ _).trans (teq (rfl : (0 : Int32) = (0 : Int32))).2) ?_
    show Steps _ _ _ (T19.setTop (mkF m 132 #[(sR b), (sR lv), (sI (0 : Int32))] [])) _
    refine XS.aloadN X19.here hx rfl (hb hby d20_132) rfl rfl ?_
    exact kt
   obtain ⟨T20, X20, e20, st20⟩ := getF X19 hx hZ hown (host := "") (Or.inl (hw _ (ix 64 rfl))) Via.refl e19 Fd_18 (g := (mkF m 133 #[(sR b), (sR lv), (sI (0 : Int32))] [(.ref b)])) rfl rfl (hb hby d20_133)
   refine gu (T20.setTop (mkF m 136 #[(sR b), (sR lv), (sI (0 : Int32))] [(.ref tm)])) (fun t kt => st20 _ kt) ?_
   obtain ⟨cq21, kq21, q21a, q21b, q21c⟩ := isOf hZ e20 E_tm_18
   obtain ⟨_, _, ⟨T21, L21, k21, n21⟩, -, X21, ⟨Lc21, hQ21, l21, y21, z21⟩, st21⟩ := X20.own_faceUp hx (C := "java/util/TreeMap") (J := "java/util/Map") (xi := mn14) (y := mn11) hown (mvT hZ (hw _ (ix 98 rfl))) (mvT hZ (hw _ (ix 99 rfl))) (own_mvFace hZ (hw _ (ix 100 rfl))) (by decide) (mvT hZ (hw _ (ix 101 rfl))) (mvT hZ (hw _ (ix 102 rfl))) (mvT hZ (hw _ (ix 103 rfl))) (mvT hZ (hw _ (ix 104 rfl))) (mvT hZ (hw _ (ix 105 rfl))) (by decide) (by decide) (backOf (W := 0) (rm12 l Z aa hw [] tm h18 n0 O18 E_tm_18 Fs_18) hZ (hw _ (ix 106 rfl)) (hw _ (ix 55 rfl)) (by decide) (by decide)) q21a q21b q21c (g := (mkF m 136 #[(sR b), (sR lv), (sI (0 : Int32))] [(.ref tm)])) rfl (sz hml) (Steps.refl _) (argsL := []) (rest := []) (lenOf pd_ocZ rfl) rfl le0 (hb hby d20_136) (fun _ _ => ⟨rfl, e20, (by decide : 0 + 0 ≤ _), (by decide : 0 + 0 ≤ _)⟩)
   dsimp only [Pt.U, Pt.locs, Pt.cells, Pt.slots] at X21 l21 y21 z21 st21 hQ21
   subst l21 y21 z21
   obtain ⟨rfl, rfl, e21⟩ := hQ21
   try rw [List.append_nil] at X21
   refine gu (T21.setTop (mkF m 141 #[(sR b), (sR lv), (sI (0 : Int32))] [(.int (1 : Int32))])) (fun t kt => st21.trans kt) ?_
   refine gu (T21.setTop (mkF m 148 #[(sR b), (sR lv), (sI (0 : Int32))] [])) (fun t kt => ?_) ?_
   ·refine XS.ifYes X21.here hx rfl (pc0 := 141) (pc' := 148) rfl (hb hby d20_141) rfl ((if0 _ _).trans (feq (by decide : ¬ ((1 : Int32) = (0 : Int32)))).2) (by decide) (by decide) ?_
    exact kt
   refine Gl.ret0 X21 hx hlk Bd.returns (hb hby d20_148) ?_ (by decide) (by decide)
   show Q20 Z _ _ _ _ _ _ _ _ _ _ _ h0 n0 _ T21.heap _; rw [e21]; have V_la_22 : Arv Z h18 la kl oPL (256 : Int32) [] .null := V_la_18.pad fun i => (pad_rep [] .null 1 i).symm; have BB : Bp Z h18 b la sd wB kl [] := ⟨E_b_18, Fa_18, Fe_18, V_la_22, lv0, srt0⟩; exact ⟨rfl, N18, K18, _, BB, own_rem (l1 := []) (l2 := []) lv0, by simp⟩
 ·simp only [List.mem_cons, List.not_mem_nil, or_false, Prod.mk.injEq] at hm
  rcases hm with ⟨rfl, rfl⟩ | ⟨rfl, rfl⟩
  ·obtain ⟨E_b, Fa, Fb, Fc, Fd, Fe0, E_tm, Fs, V_la0, V_pa0, hov, g_b, g_la, g_pa, hlv, hso⟩ := B0
   have Fe : Fld Z h0 b "com/example/openvenue/openvenue/core/BookSide" "count" "I" (.int (2 : Int32)) := Fe0
   have V_la : Arv Z h0 la kl oPL (256 : Int32) [(.ref lv), (.ref a1)] .null := V_la0
   have V_pa : Arv Z h0 pa kp .long (256 : Int32) [(.long xv), (.long x1)] (.long (0 : Int64)) := V_pa0
   obtain ⟨E_lv, F_lv_price⟩ := hlv (lv, xv) (by simp)
   obtain ⟨E_a1, F_a1_price⟩ := hlv (a1, x1) (by simp)
   have o01 := srt2' (x := xv) (y := x1) hso
   have ne_b_la : b ≠ la := Exa.neArv E_b V_la (hw _ (ix 4 rfl))
   have ne_b_pa : b ≠ pa := Exa.neArv E_b V_pa (hw _ (ix 4 rfl))
   have ne_tm_la : tm ≠ la := Exa.neArv E_tm V_la (hw _ (ix 46 rfl))
   have ne_tm_pa : tm ≠ pa := Exa.neArv E_tm V_pa (hw _ (ix 46 rfl))
   have ne_lv_la : lv ≠ la := Exa.neArv E_lv V_la (hw _ (ix 125 rfl))
   have ne_lv_pa : lv ≠ pa := Exa.neArv E_lv V_pa (hw _ (ix 125 rfl))
   have ne_a1_la : a1 ≠ la := Exa.neArv E_a1 V_la (hw _ (ix 125 rfl))
   have ne_a1_pa : a1 ≠ pa := Exa.neArv E_a1 V_pa (hw _ (ix 125 rfl))
   have ne_la_pa : la ≠ pa := own_arvne V_la V_pa
   have ne_b_tm : b ≠ tm := ne_exa E_b E_tm (by decide)
   have ne_b_lv : b ≠ lv := ne_exa E_b E_lv (by decide)
   have ne_b_a1 : b ≠ a1 := ne_exa E_b E_a1 (by decide)
   have ne_tm_lv : tm ≠ lv := ne_exa E_tm E_lv (by decide)
   have ne_tm_a1 : tm ≠ a1 := ne_exa E_tm E_a1 (by decide)
   have ne_lv_a1 : lv ≠ a1 := Fld.ne F_lv_price F_a1_price (ky_ne o01)
   refine gu (s₁.setTop (mkF m 2 #[(sR b), (sR lv), .unset] [(.ref lv), (.ref b)])) (fun t kt => ?_) ?_
   ·refine XS.aloadN X0.here hx rfl (hb hby d20_0) rfl rfl ?_
    show Steps _ _ _ (s₁.setTop (mkF m 1 #[(sR b), (sR lv), .unset] [(.ref b)])) _
    refine XS.aloadN X0.here hx rfl (hb hby d20_1) rfl rfl ?_
    exact kt
   obtain ⟨cq23, kq23, q23a, q23b, q23c⟩ := isOf hZ e0 E_lv
   obtain ⟨_, _, ⟨T23, L23, k23, n23⟩, -, X23, ⟨Lc23, hQ23, l23, y23, z23⟩, st23⟩ := X0.virtualBack hx (y := mn0) (z := mn0) hown (mvT hZ (hw _ (ix 154 rfl))) (mvT hZ (hw _ (ix 155 rfl))) (notFace_of_selects (args := #[]) (mvT hZ (hw _ (ix 157 rfl)))) (mvT hZ (hw _ (ix 157 rfl))) (mvT hZ (hw _ (ix 156 rfl))) (by decide) (backOf (W := 1) (rm1 l Z aa hw [] lv xv h0 n0 O0 E_lv F_lv_price) hZ (hw _ (ix 158 rfl)) (hw _ (ix 126 rfl)) (by decide) (by decide)) q23a q23c (g := (mkF m 2 #[(sR b), (sR lv), .unset] [(.ref lv), (.ref b)])) rfl (sz hml) (Steps.refl _) (argsL := []) (rest := [(.ref b)]) (lenOf pd_ocJ rfl) rfl le0 (hb hby d20_2) (fun _ _ => ⟨rfl, e0, (by decide : 0 + 0 ≤ _), (by decide : 0 + 0 ≤ _)⟩)
   dsimp only [Pt.U, Pt.locs, Pt.cells, Pt.slots] at X23 l23 y23 z23 st23 hQ23
   subst l23 y23 z23
   obtain ⟨rfl, rfl, e23⟩ := hQ23
   try rw [List.append_nil] at X23
   refine gu (T23.setTop (mkF m 5 #[(sR b), (sR lv), .unset] [(.long xv), (.ref b)])) (fun t kt => st23.trans kt) ?_
   obtain ⟨cq24, q24, r24⟩ := E_b.cell
   obtain ⟨_, _, ⟨T24, L24, k24, n24⟩, -, X24, ⟨Lc24, hQ24, l24, y24, z24⟩, st24⟩ := X23.privateBack hx (y := mn13) hown (mvT hZ (hw _ (ix 94 rfl))) (mvT hZ (hw _ (ix 95 rfl))) (own_selp (mvT hZ (hw _ (ix 4 rfl))) (mvP hZ (hw _ (ix 96 rfl))) (mvT hZ (hw _ (ix 95 rfl))) (by decide)) (Cond.privateMethod_at (mvP hZ (hw _ (ix 96 rfl)) (args := #[]))) (mvT hZ (hw _ (ix 97 rfl))) (by decide) (backOf (W := 0) (rm13 l Z aa hw [] b xv tm h0 n0 O0 E_b Fd E_tm Fs) hZ (hw _ (ix 97 rfl)) (hw _ (ix 5 rfl)) (by decide) (by decide)) (g := (mkF m 5 #[(sR b), (sR lv), .unset] [(.long xv), (.ref b)])) rfl (sz hml) (Steps.refl _) (a := b) (by rw [e23]; exact q24) r24 (argsL := [(.long xv)]) (rest := []) (lenOf pd_oJcZ rfl) rfl le0 (hb hby d20_5) (fun _ _ => ⟨rfl, e23, (by decide : 0 + 0 ≤ _), (by decide : 0 + 0 ≤ _)⟩)
   dsimp only [Pt.U, Pt.locs, Pt.cells, Pt.slots] at X24 l24 y24 z24 st24 hQ24
   subst l24 y24 z24
   obtain ⟨rfl, rfl, e24⟩ := hQ24
   try rw [List.append_nil] at X24
   refine gu (T24.setTop (mkF m 8 #[(sR b), (sR lv), .unset] [(.int (0 : Int32))])) (fun t kt => st24.trans kt) ?_
   refine gu (T24.setTop (mkF m 30 #[(sR b), (sR lv), .unset] [(.ref b)])) (fun t kt => ?_) ?_
   ·refine XS.ifYes X24.here hx rfl (pc0 := 8) (pc' := 29) rfl (hb hby d20_8) rfl ((if0 _ _).trans (teq (rfl : (0 : Int32) = (0 : Int32))).1) (by decide) (by decide) ?_
    show Steps _ _ _ (T24.setTop (mkF m 29 #[(sR b), (sR lv), .unset] [])) _
    refine XS.aloadN X24.here hx rfl (hb hby d20_29) rfl rfl ?_
    exact kt
   obtain ⟨T25, X25, e25, st25⟩ := getF X24 hx hZ hown (host := "") (Or.inl (hw _ (ix 14 rfl))) Via.refl e24 Fa (g := (mkF m 30 #[(sR b), (sR lv), .unset] [(.ref b)])) rfl rfl (hb hby d20_30)
   refine gu (T25.setTop (mkF m 33 #[(sR b), (sR lv), .unset] [(.ref la)])) (fun t kt => st25 _ kt) ?_
   refine gu (T25.setTop (mkF m 34 #[(sR b), (sR lv), .unset] [(.ref b), (.ref la)])) (fun t kt => ?_) ?_
   ·refine XS.aloadN X25.here hx rfl (hb hby d20_33) rfl rfl ?_
    exact kt
   obtain ⟨T26, X26, e26, st26⟩ := getF X25 hx hZ hown (host := "") (Or.inl (hw _ (ix 77 rfl))) Via.refl e25 Fe (g := (mkF m 34 #[(sR b), (sR lv), .unset] [(.ref b), (.ref la)])) rfl rfl (hb hby d20_34)
   refine gu (T26.setTop (mkF m 37 #[(sR b), (sR lv), .unset] [(.int (2 : Int32)), (.ref la)])) (fun t kt => st26 _ kt) ?_
   obtain ⟨ca27, Ar27, q27, S27, M27, H27, U27⟩ := id V_la
   refine gu (T26.setTop (mkF m 39 #[(sR b), (sR lv), .unset] [(.int (1 : Int32)), (.ref la)])) (fun t kt => ?_) ?_
   ·refine XS.iconst X26.here hx rfl (hb hby d20_37) ?_
    show Steps _ _ _ (T26.setTop (mkF m 38 #[(sR b), (sR lv), .unset] [(.int (1 : Int32)), (.int (2 : Int32)), (.ref la)])) _
    refine XS.isub X26.here hx rfl (hb hby d20_38) rfl ?_
    exact kt
   refine gu (T26.setTop (mkF m 55 #[(sR b), (sR lv), .unset] [(.ref lv), (.ref b)])) (fun t kt => ?_) ?_
   ·refine X26.aaload hx (j := (1 : Int32)) (v := (.ref a1)) (by rw [e26]; exact Ar27.1) (State.isArrayOf_alike hZ.alike Ar27.2.1) rfl Ar27.2.2 (inb_of S27 ⟨by decide, by decide⟩) (Has.at H27 (inb_of S27 ⟨by decide, by decide⟩) rfl) (g := (mkF m 39 #[(sR b), (sR lv), .unset] [(.int (1 : Int32)), (.ref la)])) rfl rfl (hb hby d20_39) _ ?_
    show Steps _ _ _ (T26.setTop (mkF m 40 #[(sR b), (sR lv), .unset] [(.ref a1)])) _
    refine XS.aloadN X26.here hx rfl (hb hby d20_40) rfl rfl ?_
    show Steps _ _ _ (T26.setTop (mkF m 41 #[(sR b), (sR lv), .unset] [(.ref lv), (.ref a1)])) _
    refine Jvm.RoadKit.acmp (g := (mkF m 41 #[(sR b), (sR lv), .unset] [(.ref lv), (.ref a1)])) X26 hx rfl rfl rfl (pc0 := 41) (pc' := 53) (same := false) rfl (hb hby d20_41) rfl (decide_eq_false fun q => (Ne.symm ne_lv_a1) (Value.ref.inj q)) (by decide) (by decide) ?_
    show Steps _ _ _ (T26.setTop (mkF m 53 #[(sR b), (sR lv), .unset] [])) _
    refine XS.aloadN X26.here hx rfl (hb hby d20_53) rfl rfl ?_
    show Steps _ _ _ (T26.setTop (mkF m 54 #[(sR b), (sR lv), .unset] [(.ref b)])) _
    refine XS.aloadN X26.here hx rfl (hb hby d20_54) rfl rfl ?_
    exact kt
   obtain ⟨cq28, kq28, q28a, q28b, q28c⟩ := isOf hZ e26 E_lv
   obtain ⟨_, _, ⟨T28, L28, k28, n28⟩, -, X28, ⟨Lc28, hQ28, l28, y28, z28⟩, st28⟩ := X26.virtualBack hx (y := mn0) (z := mn0) hown (mvT hZ (hw _ (ix 154 rfl))) (mvT hZ (hw _ (ix 155 rfl))) (notFace_of_selects (args := #[]) (mvT hZ (hw _ (ix 157 rfl)))) (mvT hZ (hw _ (ix 157 rfl))) (mvT hZ (hw _ (ix 156 rfl))) (by decide) (backOf (W := 1) (rm1 l Z aa hw [] lv xv h0 n0 O0 E_lv F_lv_price) hZ (hw _ (ix 158 rfl)) (hw _ (ix 126 rfl)) (by decide) (by decide)) q28a q28c (g := (mkF m 55 #[(sR b), (sR lv), .unset] [(.ref lv), (.ref b)])) rfl (sz hml) (Steps.refl _) (argsL := []) (rest := [(.ref b)]) (lenOf pd_ocJ rfl) rfl le0 (hb hby d20_55) (fun _ _ => ⟨rfl, e26, (by decide : 0 + 0 ≤ _), (by decide : 0 + 0 ≤ _)⟩)
   dsimp only [Pt.U, Pt.locs, Pt.cells, Pt.slots] at X28 l28 y28 z28 st28 hQ28
   subst l28 y28 z28
   obtain ⟨rfl, rfl, e28⟩ := hQ28
   try rw [List.append_nil] at X28
   refine gu (T28.setTop (mkF m 58 #[(sR b), (sR lv), .unset] [(.long xv), (.ref b)])) (fun t kt => st28.trans kt) ?_
   obtain ⟨cq29, q29, r29⟩ := E_b.cell
   obtain ⟨_, _, ⟨T29, L29, k29, n29⟩, -, X29, ⟨Lc29, hQ29, l29, y29, z29⟩, st29⟩ := X28.privateBack hx (y := mn17) hown (mvT hZ (hw _ (ix 113 rfl))) (mvT hZ (hw _ (ix 114 rfl))) (own_selp (mvT hZ (hw _ (ix 4 rfl))) (mvP hZ (hw _ (ix 115 rfl))) (mvT hZ (hw _ (ix 114 rfl))) (by decide)) (Cond.privateMethod_at (mvP hZ (hw _ (ix 115 rfl)) (args := #[]))) (mvT hZ (hw _ (ix 116 rfl))) (by decide) (backOf (W := 0) (rm16_2 l Z aa hw [] b xv pa sd kp xv x1 wB h0 n0 O0 E_b Fe Fb Fc V_pa S_wB) hZ (hw _ (ix 116 rfl)) (hw _ (ix 5 rfl)) (by decide) (by decide)) (g := (mkF m 58 #[(sR b), (sR lv), .unset] [(.long xv), (.ref b)])) rfl (sz hml) (Steps.refl _) (a := b) (by rw [e28]; exact q29) r29 (argsL := [(.long xv)]) (rest := []) (lenOf pd_oJcI rfl) rfl le0 (hb hby d20_58) (fun _ _ => ⟨rfl, e28, (by decide : 0 + 0 ≤ _), (by decide : 0 + 0 ≤ _)⟩)
   dsimp only [Pt.U, Pt.locs, Pt.cells, Pt.slots] at X29 l29 y29 z29 st29 hQ29
   subst l29 y29 z29
   obtain ⟨rfl, rfl, e29⟩ := hQ29
   try rw [List.append_nil] at X29
   refine gu (T29.setTop (mkF m 61 #[(sR b), (sR lv), .unset] [(.int (f16_2 xv sd xv x1 wB))])) (fun t kt => st29.trans kt) ?_
   have hv30 : (f16_2 xv sd xv x1 wB) = (0 : Int32) := (show (0 : Int32) = (f16_2 xv sd xv x1 wB) from (((if_pos (own_iw.mpr (by omega))).trans (if_pos (own_iw.mpr (by omega)))).trans (if_pos rfl)).symm).symm
   rw [hv30]
   refine gu (T29.setTop (mkF m 63 #[(sR b), (sR lv), (sI (0 : Int32))] [(.ref b)])) (fun t kt => ?_) ?_
   ·refine XS.istoreN X29.here hx rfl (hb hby d20_61) rfl (l' := #[(sR b), (sR lv), (sI (0 : Int32))]) rfl ?_
    show Steps _ _ _ (T29.setTop (mkF m 62 #[(sR b), (sR lv), (sI (0 : Int32))] [])) _
    refine XS.aloadN X29.here hx rfl (hb hby d20_62) rfl rfl ?_
    exact kt
   obtain ⟨T31, X31, e31, st31⟩ := getF X29 hx hZ hown (host := "") (Or.inl (hw _ (ix 14 rfl))) Via.refl e29 Fa (g := (mkF m 63 #[(sR b), (sR lv), (sI (0 : Int32))] [(.ref b)])) rfl rfl (hb hby d20_63)
   refine gu (T31.setTop (mkF m 66 #[(sR b), (sR lv), (sI (0 : Int32))] [(.ref la)])) (fun t kt => st31 _ kt) ?_
   refine gu (T31.setTop (mkF m 70 #[(sR b), (sR lv), (sI (0 : Int32))] [(.ref b), (.int (1 : Int32)), (.ref la)])) (fun t kt => ?_) ?_
   ·refine XS.iloadN X31.here hx rfl (hb hby d20_66) rfl ?_
    show Steps _ _ _ (T31.setTop (mkF m 67 #[(sR b), (sR lv), (sI (0 : Int32))] [(.int (0 : Int32)), (.ref la)])) _
    refine XS.iconst X31.here hx rfl (hb hby d20_67) ?_
    show Steps _ _ _ (T31.setTop (mkF m 68 #[(sR b), (sR lv), (sI (0 : Int32))] [(.int (1 : Int32)), (.int (0 : Int32)), (.ref la)])) _
    refine XS.iadd X31.here hx rfl (hb hby d20_68) rfl ?_
    show Steps _ _ _ (T31.setTop (mkF m 69 #[(sR b), (sR lv), (sI (0 : Int32))] [(.int (1 : Int32)), (.ref la)])) _
    refine XS.aloadN X31.here hx rfl (hb hby d20_69) rfl rfl ?_
    exact kt
   obtain ⟨T32, X32, e32, st32⟩ := getF X31 hx hZ hown (host := "") (Or.inl (hw _ (ix 14 rfl))) Via.refl e31 Fa (g := (mkF m 70 #[(sR b), (sR lv), (sI (0 : Int32))] [(.ref b), (.int (1 : Int32)), (.ref la)])) rfl rfl (hb hby d20_70)
   refine gu (T32.setTop (mkF m 73 #[(sR b), (sR lv), (sI (0 : Int32))] [(.ref la), (.int (1 : Int32)), (.ref la)])) (fun t kt => st32 _ kt) ?_
   refine gu (T32.setTop (mkF m 75 #[(sR b), (sR lv), (sI (0 : Int32))] [(.ref b), (.int (0 : Int32)), (.ref la), (.int (1 : Int32)), (.ref la)])) (fun t kt => ?_) ?_
   ·refine XS.iloadN X32.here hx rfl (hb hby d20_73) rfl ?_
    show Steps _ _ _ (T32.setTop (mkF m 74 #[(sR b), (sR lv), (sI (0 : Int32))] [(.int (0 : Int32)), (.ref la), (.int (1 : Int32)), (.ref la)])) _
    refine XS.aloadN X32.here hx rfl (hb hby d20_74) rfl rfl ?_
    exact kt
   obtain ⟨T33, X33, e33, st33⟩ := getF X32 hx hZ hown (host := "") (Or.inl (hw _ (ix 77 rfl))) Via.refl e32 Fe (g := (mkF m 75 #[(sR b), (sR lv), (sI (0 : Int32))] [(.ref b), (.int (0 : Int32)), (.ref la), (.int (1 : Int32)), (.ref la)])) rfl rfl (hb hby d20_75)
   refine gu (T33.setTop (mkF m 78 #[(sR b), (sR lv), (sI (0 : Int32))] [(.int (2 : Int32)), (.int (0 : Int32)), (.ref la), (.int (1 : Int32)), (.ref la)])) (fun t kt => st33 _ kt) ?_
   refine gu (T33.setTop (mkF m 82 #[(sR b), (sR lv), (sI (0 : Int32))] [(.int (1 : Int32)), (.int (0 : Int32)), (.ref la), (.int (1 : Int32)), (.ref la)])) (fun t kt => ?_) ?_
   ·refine XS.iloadN X33.here hx rfl (hb hby d20_78) rfl ?_
    show Steps _ _ _ (T33.setTop (mkF m 79 #[(sR b), (sR lv), (sI (0 : Int32))] [(.int (0 : Int32)), (.int (2 : Int32)), (.int (0 : Int32)), (.ref la), (.int (1 : Int32)), (.ref la)])) _
    refine XS.isub X33.here hx rfl (hb hby d20_79) rfl ?_
    show Steps _ _ _ (T33.setTop (mkF m 80 #[(sR b), (sR lv), (sI (0 : Int32))] [(.int (2 : Int32)), (.int (0 : Int32)), (.ref la), (.int (1 : Int32)), (.ref la)])) _
    refine XS.iconst X33.here hx rfl (hb hby d20_80) ?_
    show Steps _ _ _ (T33.setTop (mkF m 81 #[(sR b), (sR lv), (sI (0 : Int32))] [(.int (1 : Int32)), (.int (2 : Int32)), (.int (0 : Int32)), (.ref la), (.int (1 : Int32)), (.ref la)])) _
    refine XS.isub X33.here hx rfl (hb hby d20_81) rfl ?_
    exact kt
   obtain ⟨ca34, Ar34, q34, S34, M34, H34, U34⟩ := id V_la
   obtain ⟨T34, h34, Lc34, X34, e34, N34, K34, W34, st34⟩ := cpA X33 hx hZ hown (hw _ (ix 121 rfl)) (hw _ (ix 124 rfl)) (hw _ (ix 122 rfl)) (hw _ (ix 123 rfl)) e33 (sp := (1 : Int32)) (dp := (0 : Int32)) (nn := (1 : Int32)) (us := [(.ref a1)]) V_la V_la (Or.inr ⟨rfl, rfl, ⟨(Sto.ofV Ar34 q34 hov (Ins.self E_a1)), trivial⟩⟩) (by decide) (by decide) (by decide) (by decide) (by decide) rfl (Nat.le_of_ble_eq_true rfl) N0 g_la (g := (mkF m 82 #[(sR b), (sR lv), (sI (0 : Int32))] [(.int (1 : Int32)), (.int (0 : Int32)), (.ref la), (.int (1 : Int32)), (.ref la)])) rfl (sz hml) rfl (hb hby d20_82) (by decide) (W := 0) le0 (by decide)
   have O34 := O0.keep K34 (allS g_la all0)
   have KK34 : Keep h0 h34 [b, la, pa] := K0.trans K34 (allS (Or.inl (ix 1 rfl)) all0)
   have E_b_34 := E_b.keep K34
   have E_tm_34 := E_tm.keep K34
   have Fs_34 := Fs.keep K34 (ninS ne_tm_la nin0)
   have Fa_34 := Fa.keep K34 (ninS ne_b_la nin0)
   have Fb_34 := Fb.keep K34 (ninS ne_b_la nin0)
   have Fc_34 := Fc.keep K34 (ninS ne_b_la nin0)
   have Fd_34 := Fd.keep K34 (ninS ne_b_la nin0)
   have Fe_34 := Fe.keep K34 (ninS ne_b_la nin0)
   have V_pa_34 := V_pa.keep K34 (ninS (Ne.symm ne_la_pa) nin0)
   have E_lv_34 := E_lv.keep K34
   have F_lv_p_34 := F_lv_price.keep K34 (ninS ne_lv_la nin0)
   have E_a1_34 := E_a1.keep K34
   have F_a1_p_34 := F_a1_price.keep K34 (ninS ne_a1_la nin0)
   have V_la_34 : Arv Z h34 la kl oPL (256 : Int32) [(.ref a1), (.ref a1)] .null := W34
   refine gu (T34.setTop (mkF m 85 #[(sR b), (sR lv), (sI (0 : Int32))] [])) (fun t kt => st34 _ kt) ?_
   refine gu (T34.setTop (mkF m 86 #[(sR b), (sR lv), (sI (0 : Int32))] [(.ref b)])) (fun t kt => ?_) ?_
   ·refine XS.aloadN X34.here hx rfl (hb hby d20_85) rfl rfl ?_
    exact kt
   obtain ⟨T35, X35, e35, st35⟩ := getF X34 hx hZ hown (host := "") (Or.inl (hw _ (ix 17 rfl))) Via.refl e34 Fb_34 (g := (mkF m 86 #[(sR b), (sR lv), (sI (0 : Int32))] [(.ref b)])) rfl rfl (hb hby d20_86)
   refine gu (T35.setTop (mkF m 89 #[(sR b), (sR lv), (sI (0 : Int32))] [(.ref pa)])) (fun t kt => st35 _ kt) ?_
   refine gu (T35.setTop (mkF m 93 #[(sR b), (sR lv), (sI (0 : Int32))] [(.ref b), (.int (1 : Int32)), (.ref pa)])) (fun t kt => ?_) ?_
   ·refine XS.iloadN X35.here hx rfl (hb hby d20_89) rfl ?_
    show Steps _ _ _ (T35.setTop (mkF m 90 #[(sR b), (sR lv), (sI (0 : Int32))] [(.int (0 : Int32)), (.ref pa)])) _
    refine XS.iconst X35.here hx rfl (hb hby d20_90) ?_
    show Steps _ _ _ (T35.setTop (mkF m 91 #[(sR b), (sR lv), (sI (0 : Int32))] [(.int (1 : Int32)), (.int (0 : Int32)), (.ref pa)])) _
    refine XS.iadd X35.here hx rfl (hb hby d20_91) rfl ?_
    show Steps _ _ _ (T35.setTop (mkF m 92 #[(sR b), (sR lv), (sI (0 : Int32))] [(.int (1 : Int32)), (.ref pa)])) _
    refine XS.aloadN X35.here hx rfl (hb hby d20_92) rfl rfl ?_
    exact kt
   obtain ⟨T36, X36, e36, st36⟩ := getF X35 hx hZ hown (host := "") (Or.inl (hw _ (ix 17 rfl))) Via.refl e35 Fb_34 (g := (mkF m 93 #[(sR b), (sR lv), (sI (0 : Int32))] [(.ref b), (.int (1 : Int32)), (.ref pa)])) rfl rfl (hb hby d20_93)
   refine gu (T36.setTop (mkF m 96 #[(sR b), (sR lv), (sI (0 : Int32))] [(.ref pa), (.int (1 : Int32)), (.ref pa)])) (fun t kt => st36 _ kt) ?_
   refine gu (T36.setTop (mkF m 98 #[(sR b), (sR lv), (sI (0 : Int32))] [(.ref b), (.int (0 : Int32)), (.ref pa), (.int (1 : Int32)), (.ref pa)])) (fun t kt => ?_) ?_
   ·refine XS.iloadN X36.here hx rfl (hb hby d20_96) rfl ?_
    show Steps _ _ _ (T36.setTop (mkF m 97 #[(sR b), (sR lv), (sI (0 : Int32))] [(.int (0 : Int32)), (.ref pa), (.int (1 : Int32)), (.ref pa)])) _
    refine XS.aloadN X36.here hx rfl (hb hby d20_97) rfl rfl ?_
    exact kt
   obtain ⟨T37, X37, e37, st37⟩ := getF X36 hx hZ hown (host := "") (Or.inl (hw _ (ix 77 rfl))) Via.refl e36 Fe_34 (g := (mkF m 98 #[(sR b), (sR lv), (sI (0 : Int32))] [(.ref b), (.int (0 : Int32)), (.ref pa), (.int (1 : Int32)), (.ref pa)])) rfl rfl (hb hby d20_98)
   refine gu (T37.setTop (mkF m 101 #[(sR b), (sR lv), (sI (0 : Int32))] [(.int (2 : Int32)), (.int (0 : Int32)), (.ref pa), (.int (1 : Int32)), (.ref pa)])) (fun t kt => st37 _ kt) ?_
   refine gu (T37.setTop (mkF m 105 #[(sR b), (sR lv), (sI (0 : Int32))] [(.int (1 : Int32)), (.int (0 : Int32)), (.ref pa), (.int (1 : Int32)), (.ref pa)])) (fun t kt => ?_) ?_
   ·refine XS.iloadN X37.here hx rfl (hb hby d20_101) rfl ?_
    show Steps _ _ _ (T37.setTop (mkF m 102 #[(sR b), (sR lv), (sI (0 : Int32))] [(.int (0 : Int32)), (.int (2 : Int32)), (.int (0 : Int32)), (.ref pa), (.int (1 : Int32)), (.ref pa)])) _
    refine XS.isub X37.here hx rfl (hb hby d20_102) rfl ?_
    show Steps _ _ _ (T37.setTop (mkF m 103 #[(sR b), (sR lv), (sI (0 : Int32))] [(.int (2 : Int32)), (.int (0 : Int32)), (.ref pa), (.int (1 : Int32)), (.ref pa)])) _
    refine XS.iconst X37.here hx rfl (hb hby d20_103) ?_
    show Steps _ _ _ (T37.setTop (mkF m 104 #[(sR b), (sR lv), (sI (0 : Int32))] [(.int (1 : Int32)), (.int (2 : Int32)), (.int (0 : Int32)), (.ref pa), (.int (1 : Int32)), (.ref pa)])) _
    refine XS.isub X37.here hx rfl (hb hby d20_104) rfl ?_
    exact kt
   obtain ⟨ca38, Ar38, q38, S38, M38, H38, U38⟩ := id V_pa_34
   obtain ⟨T38, h38, Lc38, X38, e38, N38, K38, W38, st38⟩ := cpA X37 hx hZ hown (hw _ (ix 121 rfl)) (hw _ (ix 124 rfl)) (hw _ (ix 122 rfl)) (hw _ (ix 123 rfl)) e37 (sp := (1 : Int32)) (dp := (0 : Int32)) (nn := (1 : Int32)) (us := [(.long x1)]) V_pa_34 V_pa_34 (Or.inl ⟨rfl, rfl⟩) (by decide) (by decide) (by decide) (by decide) (by decide) rfl (Nat.le_of_ble_eq_true rfl) N34 g_pa (g := (mkF m 105 #[(sR b), (sR lv), (sI (0 : Int32))] [(.int (1 : Int32)), (.int (0 : Int32)), (.ref pa), (.int (1 : Int32)), (.ref pa)])) rfl (sz hml) rfl (hb hby d20_105) (by decide) (W := 0) le0 (by decide)
   have O38 := O34.keep K38 (allS g_pa all0)
   have KK38 : Keep h0 h38 [b, la, pa] := KK34.trans K38 (allS (Or.inl (ix 2 rfl)) all0)
   have E_b_38 := E_b_34.keep K38
   have E_tm_38 := E_tm_34.keep K38
   have Fs_38 := Fs_34.keep K38 (ninS ne_tm_pa nin0)
   have Fa_38 := Fa_34.keep K38 (ninS ne_b_pa nin0)
   have Fb_38 := Fb_34.keep K38 (ninS ne_b_pa nin0)
   have Fc_38 := Fc_34.keep K38 (ninS ne_b_pa nin0)
   have Fd_38 := Fd_34.keep K38 (ninS ne_b_pa nin0)
   have Fe_38 := Fe_34.keep K38 (ninS ne_b_pa nin0)
   have E_lv_38 := E_lv_34.keep K38
   have F_lv_p_38 := F_lv_p_34.keep K38 (ninS ne_lv_pa nin0)
   have E_a1_38 := E_a1_34.keep K38
   have F_a1_p_38 := F_a1_p_34.keep K38 (ninS ne_a1_pa nin0)
   have V_la_38 := V_la_34.keep K38 (ninS ne_la_pa nin0)
   have V_pa_38 : Arv Z h38 pa kp .long (256 : Int32) [(.long x1), (.long x1)] (.long (0 : Int64)) := W38
   refine gu (T38.setTop (mkF m 108 #[(sR b), (sR lv), (sI (0 : Int32))] [])) (fun t kt => st38 _ kt) ?_
   refine gu (T38.setTop (mkF m 109 #[(sR b), (sR lv), (sI (0 : Int32))] [(.ref b)])) (fun t kt => ?_) ?_
   ·refine XS.aloadN X38.here hx rfl (hb hby d20_108) rfl rfl ?_
    exact kt
   obtain ⟨T39, X39, e39, st39⟩ := getF X38 hx hZ hown (host := "") (Or.inl (hw _ (ix 14 rfl))) Via.refl e38 Fa_38 (g := (mkF m 109 #[(sR b), (sR lv), (sI (0 : Int32))] [(.ref b)])) rfl rfl (hb hby d20_109)
   refine gu (T39.setTop (mkF m 112 #[(sR b), (sR lv), (sI (0 : Int32))] [(.ref la)])) (fun t kt => st39 _ kt) ?_
   refine gu (T39.setTop (mkF m 114 #[(sR b), (sR lv), (sI (0 : Int32))] [(.ref b), (.ref b), (.ref la)])) (fun t kt => ?_) ?_
   ·refine XS.aloadN X39.here hx rfl (hb hby d20_112) rfl rfl ?_
    show Steps _ _ _ (T39.setTop (mkF m 113 #[(sR b), (sR lv), (sI (0 : Int32))] [(.ref b), (.ref la)])) _
    refine XS.dup X39.here hx rfl (hb hby d20_113) rfl rfl ?_
    exact kt
   obtain ⟨T40, X40, e40, st40⟩ := getF X39 hx hZ hown (host := "") (Or.inl (hw _ (ix 77 rfl))) Via.refl e39 Fe_38 (g := (mkF m 114 #[(sR b), (sR lv), (sI (0 : Int32))] [(.ref b), (.ref b), (.ref la)])) rfl rfl (hb hby d20_114)
   refine gu (T40.setTop (mkF m 117 #[(sR b), (sR lv), (sI (0 : Int32))] [(.int (2 : Int32)), (.ref b), (.ref la)])) (fun t kt => st40 _ kt) ?_
   refine gu (T40.setTop (mkF m 120 #[(sR b), (sR lv), (sI (0 : Int32))] [(.int (1 : Int32)), (.ref b), (.int (1 : Int32)), (.ref la)])) (fun t kt => ?_) ?_
   ·refine XS.iconst X40.here hx rfl (hb hby d20_117) ?_
    show Steps _ _ _ (T40.setTop (mkF m 118 #[(sR b), (sR lv), (sI (0 : Int32))] [(.int (1 : Int32)), (.int (2 : Int32)), (.ref b), (.ref la)])) _
    refine XS.isub X40.here hx rfl (hb hby d20_118) rfl ?_
    show Steps _ _ _ (T40.setTop (mkF m 119 #[(sR b), (sR lv), (sI (0 : Int32))] [(.int (1 : Int32)), (.ref b), (.ref la)])) _
    refine XS.dupX1 X40.here hx rfl (hb hby d20_119) rfl rfl rfl ?_
    exact kt
   obtain ⟨T41, h41, X41, e41, W41, st41⟩ := putF X40 hx hZ hown (host := "") (Or.inl (hw _ (ix 77 rfl))) Via.refl e40 Fe_38 E_b_38 (Or.inl (hw _ (ix 78 rfl))) (hw _ (ix 4 rfl)) (ty := .int) (by decide) rfl rfl (g := (mkF m 120 #[(sR b), (sR lv), (sI (0 : Int32))] [(.int (1 : Int32)), (.ref b), (.int (1 : Int32)), (.ref la)])) rfl rfl (hb hby d20_120)
   have N41 := Fr.snoc X41 N38 g_b
   have O41 := O38.wr W41 g_b
   have K41 : Keep h0 h41 [b, la, pa] := KK38.wr W41 (Or.inl (ix 0 rfl))
   have E_b_41 := E_b_38.wr W41
   have E_tm_41 := E_tm_38.wr W41
   have Fs_41 := Fs_38.other W41 (Or.inl (Ne.symm ne_b_tm))
   have Fa_41 := Fa_38.other W41 (Or.inr (slot_ne (Or.inr (hw _ (ix 15 rfl))) (Or.inl (hw _ (ix 78 rfl))) (by decide) (t := (.array (.object "com/example/openvenue/openvenue/core/PriceLevel"))) (t' := .int) (by decide) (by decide)))
   have Fb_41 := Fb_38.other W41 (Or.inr (slot_ne (Or.inr (hw _ (ix 18 rfl))) (Or.inl (hw _ (ix 78 rfl))) (by decide) (t := (.array .long)) (t' := .int) (by decide) (by decide)))
   have Fc_41 := Fc_38.other W41 (Or.inr (slot_ne (Or.inr (hw _ (ix 36 rfl))) (Or.inl (hw _ (ix 78 rfl))) (by decide) (t := (.object "com/example/openvenue/openvenue/core/Side")) (t' := .int) (by decide) (by decide)))
   have Fd_41 := Fd_38.other W41 (Or.inr (slot_ne (Or.inr (hw _ (ix 65 rfl))) (Or.inl (hw _ (ix 78 rfl))) (by decide) (t := (.object "java/util/NavigableMap")) (t' := .int) (by decide) (by decide)))
   have E_lv_41 := E_lv_38.wr W41
   have F_lv_p_41 := F_lv_p_38.other W41 (Or.inl (Ne.symm ne_b_lv))
   have E_a1_41 := E_a1_38.wr W41
   have F_a1_p_41 := F_a1_p_38.other W41 (Or.inl (Ne.symm ne_b_a1))
   have V_la_41 := V_la_38.other W41 (Ne.symm ne_b_la)
   have V_pa_41 := V_pa_38.other W41 (Ne.symm ne_b_pa)
   have Fe_41 := Fe_38.same W41
   refine gu (T41.setTop (mkF m 123 #[(sR b), (sR lv), (sI (0 : Int32))] [(.int (1 : Int32)), (.ref la)])) (fun t kt => st41 _ kt) ?_
   refine gu (T41.setTop (mkF m 124 #[(sR b), (sR lv), (sI (0 : Int32))] [.null, (.int (1 : Int32)), (.ref la)])) (fun t kt => ?_) ?_
   ·refine XS.aconstNull X41.here hx rfl (hb hby d20_123) ?_
    exact kt
   obtain ⟨ca42, Ar42, q42, S42, M42, H42, U42⟩ := id V_la_41
   obtain ⟨T42, h42, X42, e42, W42, st42⟩ := stR X41 hx hZ e41 Ar42 (j := (1 : Int32)) (v := .null) (inb_of S42 ⟨by decide, by decide⟩) rfl (Or.inl rfl) (g := (mkF m 124 #[(sR b), (sR lv), (sI (0 : Int32))] [.null, (.int (1 : Int32)), (.ref la)])) rfl rfl (hb hby d20_124)
   have N42 := Fr.snoc X42 N41 g_la
   have O42 := O41.wr W42 g_la
   have K42 : Keep h0 h42 [b, la, pa] := K41.wr W42 (Or.inl (ix 1 rfl))
   have E_b_42 := E_b_41.wr W42
   have E_tm_42 := E_tm_41.wr W42
   have Fs_42 := Fs_41.other W42 (Or.inl ne_tm_la)
   have Fa_42 := Fa_41.other W42 (Or.inl ne_b_la)
   have Fb_42 := Fb_41.other W42 (Or.inl ne_b_la)
   have Fc_42 := Fc_41.other W42 (Or.inl ne_b_la)
   have Fd_42 := Fd_41.other W42 (Or.inl ne_b_la)
   have Fe_42 := Fe_41.other W42 (Or.inl ne_b_la)
   have E_lv_42 := E_lv_41.wr W42
   have F_lv_p_42 := F_lv_p_41.other W42 (Or.inl ne_lv_la)
   have E_a1_42 := E_a1_41.wr W42
   have F_a1_p_42 := F_a1_p_41.other W42 (Or.inl ne_a1_la)
   have V_pa_42 := V_pa_41.other W42 (Ne.symm ne_la_pa)
   have V_la_42 : Arv Z h42 la kl oPL (256 : Int32) [(.ref a1), .null] .null := Arv.set Ar42 q42 S42 M42 H42 U42 rfl W42 1 rfl (Nat.le_of_ble_eq_true rfl)
   refine gu (T42.setTop (mkF m 125 #[(sR b), (sR lv), (sI (0 : Int32))] [])) (fun t kt => st42 _ kt) ?_
   refine gu (T42.setTop (mkF m 126 #[(sR b), (sR lv), (sI (0 : Int32))] [(.ref b)])) (fun t kt => ?_) ?_
   ·refine XS.aloadN X42.here hx rfl (hb hby d20_125) rfl rfl ?_
    exact kt
   obtain ⟨T43, X43, e43, st43⟩ := getF X42 hx hZ hown (host := "") (Or.inl (hw _ (ix 77 rfl))) Via.refl e42 Fe_42 (g := (mkF m 126 #[(sR b), (sR lv), (sI (0 : Int32))] [(.ref b)])) rfl rfl (hb hby d20_126)
   refine gu (T43.setTop (mkF m 129 #[(sR b), (sR lv), (sI (0 : Int32))] [(.int (1 : Int32))])) (fun t kt => st43 _ kt) ?_
   refine gu (T43.setTop (mkF m 148 #[(sR b), (sR lv), (sI (0 : Int32))] [])) (fun t kt => ?_) ?_
   ·refine XS.ifYes X43.here hx rfl (pc0 := 129) (pc' := 148) rfl (hb hby d20_129) rfl ((if0 _ _).trans (feq (by decide : ¬ ((1 : Int32) = (0 : Int32)))).2) (by decide) (by decide) ?_
    exact kt
   refine Gl.ret0 X43 hx hlk Bd.returns (hb hby d20_148) ?_ (by decide) (by decide)
   show Q20 Z _ _ _ _ _ _ _ _ _ _ _ h0 n0 _ T43.heap _; rw [e43]; have V_la_44 : Arv Z h42 la kl oPL (256 : Int32) [(.ref a1)] .null := V_la_42.pad fun i => (pad_rep [(.ref a1)] .null 1 i).symm; have BB : Bp Z h42 b la sd wB kl [(a1, x1)] := ⟨E_b_42, Fa_42, Fe_42, V_la_44, (lvS ⟨E_a1_42, F_a1_p_42⟩ lv0), srt1⟩; have nx1 : x1 ≠ xv := (fun z => by rw [z] at o01; omega); exact ⟨rfl, N42, K42, _, BB, own_rem (l1 := []) (l2 := [(a1, x1)]) (lvS nx1 lv0), by simp⟩
  ·obtain ⟨E_b, Fa, Fb, Fc, Fd, Fe0, E_tm, Fs, V_la0, V_pa0, hov, g_b, g_la, g_pa, hlv, hso⟩ := B0
   have Fe : Fld Z h0 b "com/example/openvenue/openvenue/core/BookSide" "count" "I" (.int (2 : Int32)) := Fe0
   have V_la : Arv Z h0 la kl oPL (256 : Int32) [(.ref a0), (.ref lv)] .null := V_la0
   have V_pa : Arv Z h0 pa kp .long (256 : Int32) [(.long x0), (.long xv)] (.long (0 : Int64)) := V_pa0
   obtain ⟨E_a0, F_a0_price⟩ := hlv (a0, x0) (by simp)
   obtain ⟨E_lv, F_lv_price⟩ := hlv (lv, xv) (by simp)
   have o01 := srt2' (x := x0) (y := xv) hso
   have ne_b_la : b ≠ la := Exa.neArv E_b V_la (hw _ (ix 4 rfl))
   have ne_b_pa : b ≠ pa := Exa.neArv E_b V_pa (hw _ (ix 4 rfl))
   have ne_tm_la : tm ≠ la := Exa.neArv E_tm V_la (hw _ (ix 46 rfl))
   have ne_tm_pa : tm ≠ pa := Exa.neArv E_tm V_pa (hw _ (ix 46 rfl))
   have ne_a0_la : a0 ≠ la := Exa.neArv E_a0 V_la (hw _ (ix 125 rfl))
   have ne_a0_pa : a0 ≠ pa := Exa.neArv E_a0 V_pa (hw _ (ix 125 rfl))
   have ne_lv_la : lv ≠ la := Exa.neArv E_lv V_la (hw _ (ix 125 rfl))
   have ne_lv_pa : lv ≠ pa := Exa.neArv E_lv V_pa (hw _ (ix 125 rfl))
   have ne_la_pa : la ≠ pa := own_arvne V_la V_pa
   have ne_b_tm : b ≠ tm := ne_exa E_b E_tm (by decide)
   have ne_b_a0 : b ≠ a0 := ne_exa E_b E_a0 (by decide)
   have ne_b_lv : b ≠ lv := ne_exa E_b E_lv (by decide)
   have ne_tm_a0 : tm ≠ a0 := ne_exa E_tm E_a0 (by decide)
   have ne_tm_lv : tm ≠ lv := ne_exa E_tm E_lv (by decide)
   have ne_a0_lv : a0 ≠ lv := Fld.ne F_a0_price F_lv_price (ky_ne o01)
   refine gu (s₁.setTop (mkF m 2 #[(sR b), (sR lv), .unset] [(.ref lv), (.ref b)])) (fun t kt => ?_) ?_
   ·refine XS.aloadN X0.here hx rfl (hb hby d20_0) rfl rfl ?_
    show Steps _ _ _ (s₁.setTop (mkF m 1 #[(sR b), (sR lv), .unset] [(.ref b)])) _
    refine XS.aloadN X0.here hx rfl (hb hby d20_1) rfl rfl ?_
    exact kt
   obtain ⟨cq45, kq45, q45a, q45b, q45c⟩ := isOf hZ e0 E_lv
   obtain ⟨_, _, ⟨T45, L45, k45, n45⟩, -, X45, ⟨Lc45, hQ45, l45, y45, z45⟩, st45⟩ := X0.virtualBack hx (y := mn0) (z := mn0) hown (mvT hZ (hw _ (ix 154 rfl))) (mvT hZ (hw _ (ix 155 rfl))) (notFace_of_selects (args := #[]) (mvT hZ (hw _ (ix 157 rfl)))) (mvT hZ (hw _ (ix 157 rfl))) (mvT hZ (hw _ (ix 156 rfl))) (by decide) (backOf (W := 1) (rm1 l Z aa hw [] lv xv h0 n0 O0 E_lv F_lv_price) hZ (hw _ (ix 158 rfl)) (hw _ (ix 126 rfl)) (by decide) (by decide)) q45a q45c (g := (mkF m 2 #[(sR b), (sR lv), .unset] [(.ref lv), (.ref b)])) rfl (sz hml) (Steps.refl _) (argsL := []) (rest := [(.ref b)]) (lenOf pd_ocJ rfl) rfl le0 (hb hby d20_2) (fun _ _ => ⟨rfl, e0, (by decide : 0 + 0 ≤ _), (by decide : 0 + 0 ≤ _)⟩)
   dsimp only [Pt.U, Pt.locs, Pt.cells, Pt.slots] at X45 l45 y45 z45 st45 hQ45
   subst l45 y45 z45
   obtain ⟨rfl, rfl, e45⟩ := hQ45
   try rw [List.append_nil] at X45
   refine gu (T45.setTop (mkF m 5 #[(sR b), (sR lv), .unset] [(.long xv), (.ref b)])) (fun t kt => st45.trans kt) ?_
   obtain ⟨cq46, q46, r46⟩ := E_b.cell
   obtain ⟨_, _, ⟨T46, L46, k46, n46⟩, -, X46, ⟨Lc46, hQ46, l46, y46, z46⟩, st46⟩ := X45.privateBack hx (y := mn13) hown (mvT hZ (hw _ (ix 94 rfl))) (mvT hZ (hw _ (ix 95 rfl))) (own_selp (mvT hZ (hw _ (ix 4 rfl))) (mvP hZ (hw _ (ix 96 rfl))) (mvT hZ (hw _ (ix 95 rfl))) (by decide)) (Cond.privateMethod_at (mvP hZ (hw _ (ix 96 rfl)) (args := #[]))) (mvT hZ (hw _ (ix 97 rfl))) (by decide) (backOf (W := 0) (rm13 l Z aa hw [] b xv tm h0 n0 O0 E_b Fd E_tm Fs) hZ (hw _ (ix 97 rfl)) (hw _ (ix 5 rfl)) (by decide) (by decide)) (g := (mkF m 5 #[(sR b), (sR lv), .unset] [(.long xv), (.ref b)])) rfl (sz hml) (Steps.refl _) (a := b) (by rw [e45]; exact q46) r46 (argsL := [(.long xv)]) (rest := []) (lenOf pd_oJcZ rfl) rfl le0 (hb hby d20_5) (fun _ _ => ⟨rfl, e45, (by decide : 0 + 0 ≤ _), (by decide : 0 + 0 ≤ _)⟩)
   dsimp only [Pt.U, Pt.locs, Pt.cells, Pt.slots] at X46 l46 y46 z46 st46 hQ46
   subst l46 y46 z46
   obtain ⟨rfl, rfl, e46⟩ := hQ46
   try rw [List.append_nil] at X46
   refine gu (T46.setTop (mkF m 8 #[(sR b), (sR lv), .unset] [(.int (0 : Int32))])) (fun t kt => st46.trans kt) ?_
   refine gu (T46.setTop (mkF m 30 #[(sR b), (sR lv), .unset] [(.ref b)])) (fun t kt => ?_) ?_
   ·refine XS.ifYes X46.here hx rfl (pc0 := 8) (pc' := 29) rfl (hb hby d20_8) rfl ((if0 _ _).trans (teq (rfl : (0 : Int32) = (0 : Int32))).1) (by decide) (by decide) ?_
    show Steps _ _ _ (T46.setTop (mkF m 29 #[(sR b), (sR lv), .unset] [])) _
    refine XS.aloadN X46.here hx rfl (hb hby d20_29) rfl rfl ?_
    exact kt
   obtain ⟨T47, X47, e47, st47⟩ := getF X46 hx hZ hown (host := "") (Or.inl (hw _ (ix 14 rfl))) Via.refl e46 Fa (g := (mkF m 30 #[(sR b), (sR lv), .unset] [(.ref b)])) rfl rfl (hb hby d20_30)
   refine gu (T47.setTop (mkF m 33 #[(sR b), (sR lv), .unset] [(.ref la)])) (fun t kt => st47 _ kt) ?_
   refine gu (T47.setTop (mkF m 34 #[(sR b), (sR lv), .unset] [(.ref b), (.ref la)])) (fun t kt => ?_) ?_
   ·refine XS.aloadN X47.here hx rfl (hb hby d20_33) rfl rfl ?_
    exact kt
   obtain ⟨T48, X48, e48, st48⟩ := getF X47 hx hZ hown (host := "") (Or.inl (hw _ (ix 77 rfl))) Via.refl e47 Fe (g := (mkF m 34 #[(sR b), (sR lv), .unset] [(.ref b), (.ref la)])) rfl rfl (hb hby d20_34)
   refine gu (T48.setTop (mkF m 37 #[(sR b), (sR lv), .unset] [(.int (2 : Int32)), (.ref la)])) (fun t kt => st48 _ kt) ?_
   obtain ⟨ca49, Ar49, q49, S49, M49, H49, U49⟩ := id V_la
   refine gu (T48.setTop (mkF m 39 #[(sR b), (sR lv), .unset] [(.int (1 : Int32)), (.ref la)])) (fun t kt => ?_) ?_
   ·refine XS.iconst X48.here hx rfl (hb hby d20_37) ?_
    show Steps _ _ _ (T48.setTop (mkF m 38 #[(sR b), (sR lv), .unset] [(.int (1 : Int32)), (.int (2 : Int32)), (.ref la)])) _
    refine XS.isub X48.here hx rfl (hb hby d20_38) rfl ?_
    exact kt
   refine gu (T48.setTop (mkF m 45 #[(sR b), (sR lv), .unset] [(.ref b)])) (fun t kt => ?_) ?_
   ·refine X48.aaload hx (j := (1 : Int32)) (v := (.ref lv)) (by rw [e48]; exact Ar49.1) (State.isArrayOf_alike hZ.alike Ar49.2.1) rfl Ar49.2.2 (inb_of S49 ⟨by decide, by decide⟩) (Has.at H49 (inb_of S49 ⟨by decide, by decide⟩) rfl) (g := (mkF m 39 #[(sR b), (sR lv), .unset] [(.int (1 : Int32)), (.ref la)])) rfl rfl (hb hby d20_39) _ ?_
    show Steps _ _ _ (T48.setTop (mkF m 40 #[(sR b), (sR lv), .unset] [(.ref lv)])) _
    refine XS.aloadN X48.here hx rfl (hb hby d20_40) rfl rfl ?_
    show Steps _ _ _ (T48.setTop (mkF m 41 #[(sR b), (sR lv), .unset] [(.ref lv), (.ref lv)])) _
    refine Jvm.RoadKit.acmp (g := (mkF m 41 #[(sR b), (sR lv), .unset] [(.ref lv), (.ref lv)])) X48 hx rfl rfl rfl (pc0 := 41) (pc' := 44) (same := true) rfl (hb hby d20_41) rfl (decide_eq_true rfl) (by decide) (by decide) ?_
    show Steps _ _ _ (T48.setTop (mkF m 44 #[(sR b), (sR lv), .unset] [])) _
    refine XS.aloadN X48.here hx rfl (hb hby d20_44) rfl rfl ?_
    exact kt
   obtain ⟨T50, X50, e50, st50⟩ := getF X48 hx hZ hown (host := "") (Or.inl (hw _ (ix 77 rfl))) Via.refl e48 Fe (g := (mkF m 45 #[(sR b), (sR lv), .unset] [(.ref b)])) rfl rfl (hb hby d20_45)
   refine gu (T50.setTop (mkF m 48 #[(sR b), (sR lv), .unset] [(.int (2 : Int32))])) (fun t kt => st50 _ kt) ?_
   refine gu (T50.setTop (mkF m 63 #[(sR b), (sR lv), (sI (1 : Int32))] [(.ref b)])) (fun t kt => ?_) ?_
   ·refine XS.iconst X50.here hx rfl (hb hby d20_48) ?_
    show Steps _ _ _ (T50.setTop (mkF m 49 #[(sR b), (sR lv), .unset] [(.int (1 : Int32)), (.int (2 : Int32))])) _
    refine XS.isub X50.here hx rfl (hb hby d20_49) rfl ?_
    show Steps _ _ _ (T50.setTop (mkF m 50 #[(sR b), (sR lv), .unset] [(.int (1 : Int32))])) _
    refine XS.goto X50.here hx rfl (pc0 := 50) (pc' := 61) rfl (hb hby d20_50) (by decide) (by decide) ?_
    show Steps _ _ _ (T50.setTop (mkF m 61 #[(sR b), (sR lv), .unset] [(.int (1 : Int32))])) _
    refine XS.istoreN X50.here hx rfl (hb hby d20_61) rfl (l' := #[(sR b), (sR lv), (sI (1 : Int32))]) rfl ?_
    show Steps _ _ _ (T50.setTop (mkF m 62 #[(sR b), (sR lv), (sI (1 : Int32))] [])) _
    refine XS.aloadN X50.here hx rfl (hb hby d20_62) rfl rfl ?_
    exact kt
   obtain ⟨T51, X51, e51, st51⟩ := getF X50 hx hZ hown (host := "") (Or.inl (hw _ (ix 14 rfl))) Via.refl e50 Fa (g := (mkF m 63 #[(sR b), (sR lv), (sI (1 : Int32))] [(.ref b)])) rfl rfl (hb hby d20_63)
   refine gu (T51.setTop (mkF m 66 #[(sR b), (sR lv), (sI (1 : Int32))] [(.ref la)])) (fun t kt => st51 _ kt) ?_
   refine gu (T51.setTop (mkF m 70 #[(sR b), (sR lv), (sI (1 : Int32))] [(.ref b), (.int (2 : Int32)), (.ref la)])) (fun t kt => ?_) ?_
   ·refine XS.iloadN X51.here hx rfl (hb hby d20_66) rfl ?_
    show Steps _ _ _ (T51.setTop (mkF m 67 #[(sR b), (sR lv), (sI (1 : Int32))] [(.int (1 : Int32)), (.ref la)])) _
    refine XS.iconst X51.here hx rfl (hb hby d20_67) ?_
    show Steps _ _ _ (T51.setTop (mkF m 68 #[(sR b), (sR lv), (sI (1 : Int32))] [(.int (1 : Int32)), (.int (1 : Int32)), (.ref la)])) _
    refine XS.iadd X51.here hx rfl (hb hby d20_68) rfl ?_
    show Steps _ _ _ (T51.setTop (mkF m 69 #[(sR b), (sR lv), (sI (1 : Int32))] [(.int (2 : Int32)), (.ref la)])) _
    refine XS.aloadN X51.here hx rfl (hb hby d20_69) rfl rfl ?_
    exact kt
   obtain ⟨T52, X52, e52, st52⟩ := getF X51 hx hZ hown (host := "") (Or.inl (hw _ (ix 14 rfl))) Via.refl e51 Fa (g := (mkF m 70 #[(sR b), (sR lv), (sI (1 : Int32))] [(.ref b), (.int (2 : Int32)), (.ref la)])) rfl rfl (hb hby d20_70)
   refine gu (T52.setTop (mkF m 73 #[(sR b), (sR lv), (sI (1 : Int32))] [(.ref la), (.int (2 : Int32)), (.ref la)])) (fun t kt => st52 _ kt) ?_
   refine gu (T52.setTop (mkF m 75 #[(sR b), (sR lv), (sI (1 : Int32))] [(.ref b), (.int (1 : Int32)), (.ref la), (.int (2 : Int32)), (.ref la)])) (fun t kt => ?_) ?_
   ·refine XS.iloadN X52.here hx rfl (hb hby d20_73) rfl ?_
    show Steps _ _ _ (T52.setTop (mkF m 74 #[(sR b), (sR lv), (sI (1 : Int32))] [(.int (1 : Int32)), (.ref la), (.int (2 : Int32)), (.ref la)])) _
    refine XS.aloadN X52.here hx rfl (hb hby d20_74) rfl rfl ?_
    exact kt
   obtain ⟨T53, X53, e53, st53⟩ := getF X52 hx hZ hown (host := "") (Or.inl (hw _ (ix 77 rfl))) Via.refl e52 Fe (g := (mkF m 75 #[(sR b), (sR lv), (sI (1 : Int32))] [(.ref b), (.int (1 : Int32)), (.ref la), (.int (2 : Int32)), (.ref la)])) rfl rfl (hb hby d20_75)
   refine gu (T53.setTop (mkF m 78 #[(sR b), (sR lv), (sI (1 : Int32))] [(.int (2 : Int32)), (.int (1 : Int32)), (.ref la), (.int (2 : Int32)), (.ref la)])) (fun t kt => st53 _ kt) ?_
   refine gu (T53.setTop (mkF m 82 #[(sR b), (sR lv), (sI (1 : Int32))] [(.int (0 : Int32)), (.int (1 : Int32)), (.ref la), (.int (2 : Int32)), (.ref la)])) (fun t kt => ?_) ?_
   ·refine XS.iloadN X53.here hx rfl (hb hby d20_78) rfl ?_
    show Steps _ _ _ (T53.setTop (mkF m 79 #[(sR b), (sR lv), (sI (1 : Int32))] [(.int (1 : Int32)), (.int (2 : Int32)), (.int (1 : Int32)), (.ref la), (.int (2 : Int32)), (.ref la)])) _
    refine XS.isub X53.here hx rfl (hb hby d20_79) rfl ?_
    show Steps _ _ _ (T53.setTop (mkF m 80 #[(sR b), (sR lv), (sI (1 : Int32))] [(.int (1 : Int32)), (.int (1 : Int32)), (.ref la), (.int (2 : Int32)), (.ref la)])) _
    refine XS.iconst X53.here hx rfl (hb hby d20_80) ?_
    show Steps _ _ _ (T53.setTop (mkF m 81 #[(sR b), (sR lv), (sI (1 : Int32))] [(.int (1 : Int32)), (.int (1 : Int32)), (.int (1 : Int32)), (.ref la), (.int (2 : Int32)), (.ref la)])) _
    refine XS.isub X53.here hx rfl (hb hby d20_81) rfl ?_
    exact kt
   obtain ⟨ca54, Ar54, q54, S54, M54, H54, U54⟩ := id V_la
   obtain ⟨T54, h54, Lc54, X54, e54, N54, K54, W54, st54⟩ := cpA X53 hx hZ hown (hw _ (ix 121 rfl)) (hw _ (ix 124 rfl)) (hw _ (ix 122 rfl)) (hw _ (ix 123 rfl)) e53 (sp := (2 : Int32)) (dp := (1 : Int32)) (nn := (0 : Int32)) (us := []) V_la V_la (Or.inr ⟨rfl, rfl, trivial⟩) (by decide) (by decide) (by decide) (by decide) (by decide) rfl (Nat.le_of_ble_eq_true rfl) N0 g_la (g := (mkF m 82 #[(sR b), (sR lv), (sI (1 : Int32))] [(.int (0 : Int32)), (.int (1 : Int32)), (.ref la), (.int (2 : Int32)), (.ref la)])) rfl (sz hml) rfl (hb hby d20_82) (by decide) (W := 0) le0 (by decide)
   have O54 := O0.keep K54 (allS g_la all0)
   have KK54 : Keep h0 h54 [b, la, pa] := K0.trans K54 (allS (Or.inl (ix 1 rfl)) all0)
   have E_b_54 := E_b.keep K54
   have E_tm_54 := E_tm.keep K54
   have Fs_54 := Fs.keep K54 (ninS ne_tm_la nin0)
   have Fa_54 := Fa.keep K54 (ninS ne_b_la nin0)
   have Fb_54 := Fb.keep K54 (ninS ne_b_la nin0)
   have Fc_54 := Fc.keep K54 (ninS ne_b_la nin0)
   have Fd_54 := Fd.keep K54 (ninS ne_b_la nin0)
   have Fe_54 := Fe.keep K54 (ninS ne_b_la nin0)
   have V_pa_54 := V_pa.keep K54 (ninS (Ne.symm ne_la_pa) nin0)
   have E_a0_54 := E_a0.keep K54
   have F_a0_p_54 := F_a0_price.keep K54 (ninS ne_a0_la nin0)
   have E_lv_54 := E_lv.keep K54
   have F_lv_p_54 := F_lv_price.keep K54 (ninS ne_lv_la nin0)
   have V_la_54 : Arv Z h54 la kl oPL (256 : Int32) [(.ref a0), (.ref lv)] .null := W54
   refine gu (T54.setTop (mkF m 85 #[(sR b), (sR lv), (sI (1 : Int32))] [])) (fun t kt => st54 _ kt) ?_
   refine gu (T54.setTop (mkF m 86 #[(sR b), (sR lv), (sI (1 : Int32))] [(.ref b)])) (fun t kt => ?_) ?_
   ·refine XS.aloadN X54.here hx rfl (hb hby d20_85) rfl rfl ?_
    exact kt
   obtain ⟨T55, X55, e55, st55⟩ := getF X54 hx hZ hown (host := "") (Or.inl (hw _ (ix 17 rfl))) Via.refl e54 Fb_54 (g := (mkF m 86 #[(sR b), (sR lv), (sI (1 : Int32))] [(.ref b)])) rfl rfl (hb hby d20_86)
   refine gu (T55.setTop (mkF m 89 #[(sR b), (sR lv), (sI (1 : Int32))] [(.ref pa)])) (fun t kt => st55 _ kt) ?_
   refine gu (T55.setTop (mkF m 93 #[(sR b), (sR lv), (sI (1 : Int32))] [(.ref b), (.int (2 : Int32)), (.ref pa)])) (fun t kt => ?_) ?_
   ·refine XS.iloadN X55.here hx rfl (hb hby d20_89) rfl ?_
    show Steps _ _ _ (T55.setTop (mkF m 90 #[(sR b), (sR lv), (sI (1 : Int32))] [(.int (1 : Int32)), (.ref pa)])) _
    refine XS.iconst X55.here hx rfl (hb hby d20_90) ?_
    show Steps _ _ _ (T55.setTop (mkF m 91 #[(sR b), (sR lv), (sI (1 : Int32))] [(.int (1 : Int32)), (.int (1 : Int32)), (.ref pa)])) _
    refine XS.iadd X55.here hx rfl (hb hby d20_91) rfl ?_
    show Steps _ _ _ (T55.setTop (mkF m 92 #[(sR b), (sR lv), (sI (1 : Int32))] [(.int (2 : Int32)), (.ref pa)])) _
    refine XS.aloadN X55.here hx rfl (hb hby d20_92) rfl rfl ?_
    exact kt
   obtain ⟨T56, X56, e56, st56⟩ := getF X55 hx hZ hown (host := "") (Or.inl (hw _ (ix 17 rfl))) Via.refl e55 Fb_54 (g := (mkF m 93 #[(sR b), (sR lv), (sI (1 : Int32))] [(.ref b), (.int (2 : Int32)), (.ref pa)])) rfl rfl (hb hby d20_93)
   refine gu (T56.setTop (mkF m 96 #[(sR b), (sR lv), (sI (1 : Int32))] [(.ref pa), (.int (2 : Int32)), (.ref pa)])) (fun t kt => st56 _ kt) ?_
   refine gu (T56.setTop (mkF m 98 #[(sR b), (sR lv), (sI (1 : Int32))] [(.ref b), (.int (1 : Int32)), (.ref pa), (.int (2 : Int32)), (.ref pa)])) (fun t kt => ?_) ?_
   ·refine XS.iloadN X56.here hx rfl (hb hby d20_96) rfl ?_
    show Steps _ _ _ (T56.setTop (mkF m 97 #[(sR b), (sR lv), (sI (1 : Int32))] [(.int (1 : Int32)), (.ref pa), (.int (2 : Int32)), (.ref pa)])) _
    refine XS.aloadN X56.here hx rfl (hb hby d20_97) rfl rfl ?_
    exact kt
   obtain ⟨T57, X57, e57, st57⟩ := getF X56 hx hZ hown (host := "") (Or.inl (hw _ (ix 77 rfl))) Via.refl e56 Fe_54 (g := (mkF m 98 #[(sR b), (sR lv), (sI (1 : Int32))] [(.ref b), (.int (1 : Int32)), (.ref pa), (.int (2 : Int32)), (.ref pa)])) rfl rfl (hb hby d20_98)
   refine gu (T57.setTop (mkF m 101 #[(sR b), (sR lv), (sI (1 : Int32))] [(.int (2 : Int32)), (.int (1 : Int32)), (.ref pa), (.int (2 : Int32)), (.ref pa)])) (fun t kt => st57 _ kt) ?_
   refine gu (T57.setTop (mkF m 105 #[(sR b), (sR lv), (sI (1 : Int32))] [(.int (0 : Int32)), (.int (1 : Int32)), (.ref pa), (.int (2 : Int32)), (.ref pa)])) (fun t kt => ?_) ?_
   ·refine XS.iloadN X57.here hx rfl (hb hby d20_101) rfl ?_
    show Steps _ _ _ (T57.setTop (mkF m 102 #[(sR b), (sR lv), (sI (1 : Int32))] [(.int (1 : Int32)), (.int (2 : Int32)), (.int (1 : Int32)), (.ref pa), (.int (2 : Int32)), (.ref pa)])) _
    refine XS.isub X57.here hx rfl (hb hby d20_102) rfl ?_
    show Steps _ _ _ (T57.setTop (mkF m 103 #[(sR b), (sR lv), (sI (1 : Int32))] [(.int (1 : Int32)), (.int (1 : Int32)), (.ref pa), (.int (2 : Int32)), (.ref pa)])) _
    refine XS.iconst X57.here hx rfl (hb hby d20_103) ?_
    show Steps _ _ _ (T57.setTop (mkF m 104 #[(sR b), (sR lv), (sI (1 : Int32))] [(.int (1 : Int32)), (.int (1 : Int32)), (.int (1 : Int32)), (.ref pa), (.int (2 : Int32)), (.ref pa)])) _
    refine XS.isub X57.here hx rfl (hb hby d20_104) rfl ?_
    exact kt
   obtain ⟨ca58, Ar58, q58, S58, M58, H58, U58⟩ := id V_pa_54
   obtain ⟨T58, h58, Lc58, X58, e58, N58, K58, W58, st58⟩ := cpA X57 hx hZ hown (hw _ (ix 121 rfl)) (hw _ (ix 124 rfl)) (hw _ (ix 122 rfl)) (hw _ (ix 123 rfl)) e57 (sp := (2 : Int32)) (dp := (1 : Int32)) (nn := (0 : Int32)) (us := []) V_pa_54 V_pa_54 (Or.inl ⟨rfl, rfl⟩) (by decide) (by decide) (by decide) (by decide) (by decide) rfl (Nat.le_of_ble_eq_true rfl) N54 g_pa (g := (mkF m 105 #[(sR b), (sR lv), (sI (1 : Int32))] [(.int (0 : Int32)), (.int (1 : Int32)), (.ref pa), (.int (2 : Int32)), (.ref pa)])) rfl (sz hml) rfl (hb hby d20_105) (by decide) (W := 0) le0 (by decide)
   have O58 := O54.keep K58 (allS g_pa all0)
   have KK58 : Keep h0 h58 [b, la, pa] := KK54.trans K58 (allS (Or.inl (ix 2 rfl)) all0)
   have E_b_58 := E_b_54.keep K58
   have E_tm_58 := E_tm_54.keep K58
   have Fs_58 := Fs_54.keep K58 (ninS ne_tm_pa nin0)
   have Fa_58 := Fa_54.keep K58 (ninS ne_b_pa nin0)
   have Fb_58 := Fb_54.keep K58 (ninS ne_b_pa nin0)
   have Fc_58 := Fc_54.keep K58 (ninS ne_b_pa nin0)
   have Fd_58 := Fd_54.keep K58 (ninS ne_b_pa nin0)
   have Fe_58 := Fe_54.keep K58 (ninS ne_b_pa nin0)
   have E_a0_58 := E_a0_54.keep K58
   have F_a0_p_58 := F_a0_p_54.keep K58 (ninS ne_a0_pa nin0)
   have E_lv_58 := E_lv_54.keep K58
   have F_lv_p_58 := F_lv_p_54.keep K58 (ninS ne_lv_pa nin0)
   have V_la_58 := V_la_54.keep K58 (ninS ne_la_pa nin0)
   have V_pa_58 : Arv Z h58 pa kp .long (256 : Int32) [(.long x0), (.long xv)] (.long (0 : Int64)) := W58
   refine gu (T58.setTop (mkF m 108 #[(sR b), (sR lv), (sI (1 : Int32))] [])) (fun t kt => st58 _ kt) ?_
   refine gu (T58.setTop (mkF m 109 #[(sR b), (sR lv), (sI (1 : Int32))] [(.ref b)])) (fun t kt => ?_) ?_
   ·refine XS.aloadN X58.here hx rfl (hb hby d20_108) rfl rfl ?_
    exact kt
   obtain ⟨T59, X59, e59, st59⟩ := getF X58 hx hZ hown (host := "") (Or.inl (hw _ (ix 14 rfl))) Via.refl e58 Fa_58 (g := (mkF m 109 #[(sR b), (sR lv), (sI (1 : Int32))] [(.ref b)])) rfl rfl (hb hby d20_109)
   refine gu (T59.setTop (mkF m 112 #[(sR b), (sR lv), (sI (1 : Int32))] [(.ref la)])) (fun t kt => st59 _ kt) ?_
   refine gu (T59.setTop (mkF m 114 #[(sR b), (sR lv), (sI (1 : Int32))] [(.ref b), (.ref b), (.ref la)])) (fun t kt => ?_) ?_
   ·refine XS.aloadN X59.here hx rfl (hb hby d20_112) rfl rfl ?_
    show Steps _ _ _ (T59.setTop (mkF m 113 #[(sR b), (sR lv), (sI (1 : Int32))] [(.ref b), (.ref la)])) _
    refine XS.dup X59.here hx rfl (hb hby d20_113) rfl rfl ?_
    exact kt
   obtain ⟨T60, X60, e60, st60⟩ := getF X59 hx hZ hown (host := "") (Or.inl (hw _ (ix 77 rfl))) Via.refl e59 Fe_58 (g := (mkF m 114 #[(sR b), (sR lv), (sI (1 : Int32))] [(.ref b), (.ref b), (.ref la)])) rfl rfl (hb hby d20_114)
   refine gu (T60.setTop (mkF m 117 #[(sR b), (sR lv), (sI (1 : Int32))] [(.int (2 : Int32)), (.ref b), (.ref la)])) (fun t kt => st60 _ kt) ?_
   refine gu (T60.setTop (mkF m 120 #[(sR b), (sR lv), (sI (1 : Int32))] [(.int (1 : Int32)), (.ref b), (.int (1 : Int32)), (.ref la)])) (fun t kt => ?_) ?_
   ·refine XS.iconst X60.here hx rfl (hb hby d20_117) ?_
    show Steps _ _ _ (T60.setTop (mkF m 118 #[(sR b), (sR lv), (sI (1 : Int32))] [(.int (1 : Int32)), (.int (2 : Int32)), (.ref b), (.ref la)])) _
    refine XS.isub X60.here hx rfl (hb hby d20_118) rfl ?_
    show Steps _ _ _ (T60.setTop (mkF m 119 #[(sR b), (sR lv), (sI (1 : Int32))] [(.int (1 : Int32)), (.ref b), (.ref la)])) _
    refine XS.dupX1 X60.here hx rfl (hb hby d20_119) rfl rfl rfl ?_
    exact kt
   obtain ⟨T61, h61, X61, e61, W61, st61⟩ := putF X60 hx hZ hown (host := "") (Or.inl (hw _ (ix 77 rfl))) Via.refl e60 Fe_58 E_b_58 (Or.inl (hw _ (ix 78 rfl))) (hw _ (ix 4 rfl)) (ty := .int) (by decide) rfl rfl (g := (mkF m 120 #[(sR b), (sR lv), (sI (1 : Int32))] [(.int (1 : Int32)), (.ref b), (.int (1 : Int32)), (.ref la)])) rfl rfl (hb hby d20_120)
   have N61 := Fr.snoc X61 N58 g_b
   have O61 := O58.wr W61 g_b
   have K61 : Keep h0 h61 [b, la, pa] := KK58.wr W61 (Or.inl (ix 0 rfl))
   have E_b_61 := E_b_58.wr W61
   have E_tm_61 := E_tm_58.wr W61
   have Fs_61 := Fs_58.other W61 (Or.inl (Ne.symm ne_b_tm))
   have Fa_61 := Fa_58.other W61 (Or.inr (slot_ne (Or.inr (hw _ (ix 15 rfl))) (Or.inl (hw _ (ix 78 rfl))) (by decide) (t := (.array (.object "com/example/openvenue/openvenue/core/PriceLevel"))) (t' := .int) (by decide) (by decide)))
   have Fb_61 := Fb_58.other W61 (Or.inr (slot_ne (Or.inr (hw _ (ix 18 rfl))) (Or.inl (hw _ (ix 78 rfl))) (by decide) (t := (.array .long)) (t' := .int) (by decide) (by decide)))
   have Fc_61 := Fc_58.other W61 (Or.inr (slot_ne (Or.inr (hw _ (ix 36 rfl))) (Or.inl (hw _ (ix 78 rfl))) (by decide) (t := (.object "com/example/openvenue/openvenue/core/Side")) (t' := .int) (by decide) (by decide)))
   have Fd_61 := Fd_58.other W61 (Or.inr (slot_ne (Or.inr (hw _ (ix 65 rfl))) (Or.inl (hw _ (ix 78 rfl))) (by decide) (t := (.object "java/util/NavigableMap")) (t' := .int) (by decide) (by decide)))
   have E_a0_61 := E_a0_58.wr W61
   have F_a0_p_61 := F_a0_p_58.other W61 (Or.inl (Ne.symm ne_b_a0))
   have E_lv_61 := E_lv_58.wr W61
   have F_lv_p_61 := F_lv_p_58.other W61 (Or.inl (Ne.symm ne_b_lv))
   have V_la_61 := V_la_58.other W61 (Ne.symm ne_b_la)
   have V_pa_61 := V_pa_58.other W61 (Ne.symm ne_b_pa)
   have Fe_61 := Fe_58.same W61
   refine gu (T61.setTop (mkF m 123 #[(sR b), (sR lv), (sI (1 : Int32))] [(.int (1 : Int32)), (.ref la)])) (fun t kt => st61 _ kt) ?_
   refine gu (T61.setTop (mkF m 124 #[(sR b), (sR lv), (sI (1 : Int32))] [.null, (.int (1 : Int32)), (.ref la)])) (fun t kt => ?_) ?_
   ·refine XS.aconstNull X61.here hx rfl (hb hby d20_123) ?_
    exact kt
   obtain ⟨ca62, Ar62, q62, S62, M62, H62, U62⟩ := id V_la_61
   obtain ⟨T62, h62, X62, e62, W62, st62⟩ := stR X61 hx hZ e61 Ar62 (j := (1 : Int32)) (v := .null) (inb_of S62 ⟨by decide, by decide⟩) rfl (Or.inl rfl) (g := (mkF m 124 #[(sR b), (sR lv), (sI (1 : Int32))] [.null, (.int (1 : Int32)), (.ref la)])) rfl rfl (hb hby d20_124)
   have N62 := Fr.snoc X62 N61 g_la
   have O62 := O61.wr W62 g_la
   have K62 : Keep h0 h62 [b, la, pa] := K61.wr W62 (Or.inl (ix 1 rfl))
   have E_b_62 := E_b_61.wr W62
   have E_tm_62 := E_tm_61.wr W62
   have Fs_62 := Fs_61.other W62 (Or.inl ne_tm_la)
   have Fa_62 := Fa_61.other W62 (Or.inl ne_b_la)
   have Fb_62 := Fb_61.other W62 (Or.inl ne_b_la)
   have Fc_62 := Fc_61.other W62 (Or.inl ne_b_la)
   have Fd_62 := Fd_61.other W62 (Or.inl ne_b_la)
   have Fe_62 := Fe_61.other W62 (Or.inl ne_b_la)
   have E_a0_62 := E_a0_61.wr W62
   have F_a0_p_62 := F_a0_p_61.other W62 (Or.inl ne_a0_la)
   have E_lv_62 := E_lv_61.wr W62
   have F_lv_p_62 := F_lv_p_61.other W62 (Or.inl ne_lv_la)
   have V_pa_62 := V_pa_61.other W62 (Ne.symm ne_la_pa)
   have V_la_62 : Arv Z h62 la kl oPL (256 : Int32) [(.ref a0), .null] .null := Arv.set Ar62 q62 S62 M62 H62 U62 rfl W62 1 rfl (Nat.le_of_ble_eq_true rfl)
   refine gu (T62.setTop (mkF m 125 #[(sR b), (sR lv), (sI (1 : Int32))] [])) (fun t kt => st62 _ kt) ?_
   refine gu (T62.setTop (mkF m 126 #[(sR b), (sR lv), (sI (1 : Int32))] [(.ref b)])) (fun t kt => ?_) ?_
   ·refine XS.aloadN X62.here hx rfl (hb hby d20_125) rfl rfl ?_
    exact kt
   obtain ⟨T63, X63, e63, st63⟩ := getF X62 hx hZ hown (host := "") (Or.inl (hw _ (ix 77 rfl))) Via.refl e62 Fe_62 (g := (mkF m 126 #[(sR b), (sR lv), (sI (1 : Int32))] [(.ref b)])) rfl rfl (hb hby d20_126)
   refine gu (T63.setTop (mkF m 129 #[(sR b), (sR lv), (sI (1 : Int32))] [(.int (1 : Int32))])) (fun t kt => st63 _ kt) ?_
   refine gu (T63.setTop (mkF m 148 #[(sR b), (sR lv), (sI (1 : Int32))] [])) (fun t kt => ?_) ?_
   ·refine XS.ifYes X63.here hx rfl (pc0 := 129) (pc' := 148) rfl (hb hby d20_129) rfl ((if0 _ _).trans (feq (by decide : ¬ ((1 : Int32) = (0 : Int32)))).2) (by decide) (by decide) ?_
    exact kt
   refine Gl.ret0 X63 hx hlk Bd.returns (hb hby d20_148) ?_ (by decide) (by decide)
   show Q20 Z _ _ _ _ _ _ _ _ _ _ _ h0 n0 _ T63.heap _; rw [e63]; have V_la_64 : Arv Z h62 la kl oPL (256 : Int32) [(.ref a0)] .null := V_la_62.pad fun i => (pad_rep [(.ref a0)] .null 1 i).symm; have BB : Bp Z h62 b la sd wB kl [(a0, x0)] := ⟨E_b_62, Fa_62, Fe_62, V_la_64, (lvS ⟨E_a0_62, F_a0_p_62⟩ lv0), srt1⟩; have nx0 : x0 ≠ xv := (fun z => by rw [z] at o01; omega); exact ⟨rfl, N62, K62, _, BB, own_rem (l1 := [(a0, x0)]) (l2 := []) (lvS nx0 lv0), by simp⟩
 ·simp only [List.mem_cons, List.not_mem_nil, or_false, Prod.mk.injEq] at hm
  rcases hm with ⟨rfl, rfl⟩ | ⟨rfl, rfl⟩ | ⟨rfl, rfl⟩
  ·obtain ⟨E_b, Fa, Fb, Fc, Fd, Fe0, E_tm, Fs, V_la0, V_pa0, hov, g_b, g_la, g_pa, hlv, hso⟩ := B0
   have Fe : Fld Z h0 b "com/example/openvenue/openvenue/core/BookSide" "count" "I" (.int (3 : Int32)) := Fe0
   have V_la : Arv Z h0 la kl oPL (256 : Int32) [(.ref lv), (.ref a1), (.ref a2)] .null := V_la0
   have V_pa : Arv Z h0 pa kp .long (256 : Int32) [(.long xv), (.long x1), (.long x2)] (.long (0 : Int64)) := V_pa0
   obtain ⟨E_lv, F_lv_price⟩ := hlv (lv, xv) (by simp)
   obtain ⟨E_a1, F_a1_price⟩ := hlv (a1, x1) (by simp)
   obtain ⟨E_a2, F_a2_price⟩ := hlv (a2, x2) (by simp)
   obtain ⟨o01, o12⟩ := srt3' (x := xv) (y := x1) (z := x2) hso
   have o02 : ky sd wB xv < ky sd wB x2 := by omega
   have ne_b_la : b ≠ la := Exa.neArv E_b V_la (hw _ (ix 4 rfl))
   have ne_b_pa : b ≠ pa := Exa.neArv E_b V_pa (hw _ (ix 4 rfl))
   have ne_tm_la : tm ≠ la := Exa.neArv E_tm V_la (hw _ (ix 46 rfl))
   have ne_tm_pa : tm ≠ pa := Exa.neArv E_tm V_pa (hw _ (ix 46 rfl))
   have ne_lv_la : lv ≠ la := Exa.neArv E_lv V_la (hw _ (ix 125 rfl))
   have ne_lv_pa : lv ≠ pa := Exa.neArv E_lv V_pa (hw _ (ix 125 rfl))
   have ne_a1_la : a1 ≠ la := Exa.neArv E_a1 V_la (hw _ (ix 125 rfl))
   have ne_a1_pa : a1 ≠ pa := Exa.neArv E_a1 V_pa (hw _ (ix 125 rfl))
   have ne_a2_la : a2 ≠ la := Exa.neArv E_a2 V_la (hw _ (ix 125 rfl))
   have ne_a2_pa : a2 ≠ pa := Exa.neArv E_a2 V_pa (hw _ (ix 125 rfl))
   have ne_la_pa : la ≠ pa := own_arvne V_la V_pa
   have ne_b_tm : b ≠ tm := ne_exa E_b E_tm (by decide)
   have ne_b_lv : b ≠ lv := ne_exa E_b E_lv (by decide)
   have ne_b_a1 : b ≠ a1 := ne_exa E_b E_a1 (by decide)
   have ne_b_a2 : b ≠ a2 := ne_exa E_b E_a2 (by decide)
   have ne_tm_lv : tm ≠ lv := ne_exa E_tm E_lv (by decide)
   have ne_tm_a1 : tm ≠ a1 := ne_exa E_tm E_a1 (by decide)
   have ne_tm_a2 : tm ≠ a2 := ne_exa E_tm E_a2 (by decide)
   have ne_lv_a1 : lv ≠ a1 := Fld.ne F_lv_price F_a1_price (ky_ne o01)
   have ne_lv_a2 : lv ≠ a2 := Fld.ne F_lv_price F_a2_price (ky_ne o02)
   have ne_a1_a2 : a1 ≠ a2 := Fld.ne F_a1_price F_a2_price (ky_ne o12)
   refine gu (s₁.setTop (mkF m 2 #[(sR b), (sR lv), .unset] [(.ref lv), (.ref b)])) (fun t kt => ?_) ?_
   ·refine XS.aloadN X0.here hx rfl (hb hby d20_0) rfl rfl ?_
    show Steps _ _ _ (s₁.setTop (mkF m 1 #[(sR b), (sR lv), .unset] [(.ref b)])) _
    refine XS.aloadN X0.here hx rfl (hb hby d20_1) rfl rfl ?_
    exact kt
   obtain ⟨cq65, kq65, q65a, q65b, q65c⟩ := isOf hZ e0 E_lv
   obtain ⟨_, _, ⟨T65, L65, k65, n65⟩, -, X65, ⟨Lc65, hQ65, l65, y65, z65⟩, st65⟩ := X0.virtualBack hx (y := mn0) (z := mn0) hown (mvT hZ (hw _ (ix 154 rfl))) (mvT hZ (hw _ (ix 155 rfl))) (notFace_of_selects (args := #[]) (mvT hZ (hw _ (ix 157 rfl)))) (mvT hZ (hw _ (ix 157 rfl))) (mvT hZ (hw _ (ix 156 rfl))) (by decide) (backOf (W := 1) (rm1 l Z aa hw [] lv xv h0 n0 O0 E_lv F_lv_price) hZ (hw _ (ix 158 rfl)) (hw _ (ix 126 rfl)) (by decide) (by decide)) q65a q65c (g := (mkF m 2 #[(sR b), (sR lv), .unset] [(.ref lv), (.ref b)])) rfl (sz hml) (Steps.refl _) (argsL := []) (rest := [(.ref b)]) (lenOf pd_ocJ rfl) rfl le0 (hb hby d20_2) (fun _ _ => ⟨rfl, e0, (by decide : 0 + 0 ≤ _), (by decide : 0 + 0 ≤ _)⟩)
   dsimp only [Pt.U, Pt.locs, Pt.cells, Pt.slots] at X65 l65 y65 z65 st65 hQ65
   subst l65 y65 z65
   obtain ⟨rfl, rfl, e65⟩ := hQ65
   try rw [List.append_nil] at X65
   refine gu (T65.setTop (mkF m 5 #[(sR b), (sR lv), .unset] [(.long xv), (.ref b)])) (fun t kt => st65.trans kt) ?_
   obtain ⟨cq66, q66, r66⟩ := E_b.cell
   obtain ⟨_, _, ⟨T66, L66, k66, n66⟩, -, X66, ⟨Lc66, hQ66, l66, y66, z66⟩, st66⟩ := X65.privateBack hx (y := mn13) hown (mvT hZ (hw _ (ix 94 rfl))) (mvT hZ (hw _ (ix 95 rfl))) (own_selp (mvT hZ (hw _ (ix 4 rfl))) (mvP hZ (hw _ (ix 96 rfl))) (mvT hZ (hw _ (ix 95 rfl))) (by decide)) (Cond.privateMethod_at (mvP hZ (hw _ (ix 96 rfl)) (args := #[]))) (mvT hZ (hw _ (ix 97 rfl))) (by decide) (backOf (W := 0) (rm13 l Z aa hw [] b xv tm h0 n0 O0 E_b Fd E_tm Fs) hZ (hw _ (ix 97 rfl)) (hw _ (ix 5 rfl)) (by decide) (by decide)) (g := (mkF m 5 #[(sR b), (sR lv), .unset] [(.long xv), (.ref b)])) rfl (sz hml) (Steps.refl _) (a := b) (by rw [e65]; exact q66) r66 (argsL := [(.long xv)]) (rest := []) (lenOf pd_oJcZ rfl) rfl le0 (hb hby d20_5) (fun _ _ => ⟨rfl, e65, (by decide : 0 + 0 ≤ _), (by decide : 0 + 0 ≤ _)⟩)
   dsimp only [Pt.U, Pt.locs, Pt.cells, Pt.slots] at X66 l66 y66 z66 st66 hQ66
   subst l66 y66 z66
   obtain ⟨rfl, rfl, e66⟩ := hQ66
   try rw [List.append_nil] at X66
   refine gu (T66.setTop (mkF m 8 #[(sR b), (sR lv), .unset] [(.int (0 : Int32))])) (fun t kt => st66.trans kt) ?_
   refine gu (T66.setTop (mkF m 30 #[(sR b), (sR lv), .unset] [(.ref b)])) (fun t kt => ?_) ?_
   ·refine XS.ifYes X66.here hx rfl (pc0 := 8) (pc' := 29) rfl (hb hby d20_8) rfl ((if0 _ _).trans (teq (rfl : (0 : Int32) = (0 : Int32))).1) (by decide) (by decide) ?_
    show Steps _ _ _ (T66.setTop (mkF m 29 #[(sR b), (sR lv), .unset] [])) _
    refine XS.aloadN X66.here hx rfl (hb hby d20_29) rfl rfl ?_
    exact kt
   obtain ⟨T67, X67, e67, st67⟩ := getF X66 hx hZ hown (host := "") (Or.inl (hw _ (ix 14 rfl))) Via.refl e66 Fa (g := (mkF m 30 #[(sR b), (sR lv), .unset] [(.ref b)])) rfl rfl (hb hby d20_30)
   refine gu (T67.setTop (mkF m 33 #[(sR b), (sR lv), .unset] [(.ref la)])) (fun t kt => st67 _ kt) ?_
   refine gu (T67.setTop (mkF m 34 #[(sR b), (sR lv), .unset] [(.ref b), (.ref la)])) (fun t kt => ?_) ?_
   ·refine XS.aloadN X67.here hx rfl (hb hby d20_33) rfl rfl ?_
    exact kt
   obtain ⟨T68, X68, e68, st68⟩ := getF X67 hx hZ hown (host := "") (Or.inl (hw _ (ix 77 rfl))) Via.refl e67 Fe (g := (mkF m 34 #[(sR b), (sR lv), .unset] [(.ref b), (.ref la)])) rfl rfl (hb hby d20_34)
   refine gu (T68.setTop (mkF m 37 #[(sR b), (sR lv), .unset] [(.int (3 : Int32)), (.ref la)])) (fun t kt => st68 _ kt) ?_
   obtain ⟨ca69, Ar69, q69, S69, M69, H69, U69⟩ := id V_la
   refine gu (T68.setTop (mkF m 39 #[(sR b), (sR lv), .unset] [(.int (2 : Int32)), (.ref la)])) (fun t kt => ?_) ?_
   ·refine XS.iconst X68.here hx rfl (hb hby d20_37) ?_
    show Steps _ _ _ (T68.setTop (mkF m 38 #[(sR b), (sR lv), .unset] [(.int (1 : Int32)), (.int (3 : Int32)), (.ref la)])) _
    refine XS.isub X68.here hx rfl (hb hby d20_38) rfl ?_
    exact kt
   refine gu (T68.setTop (mkF m 55 #[(sR b), (sR lv), .unset] [(.ref lv), (.ref b)])) (fun t kt => ?_) ?_
   ·refine X68.aaload hx (j := (2 : Int32)) (v := (.ref a2)) (by rw [e68]; exact Ar69.1) (State.isArrayOf_alike hZ.alike Ar69.2.1) rfl Ar69.2.2 (inb_of S69 ⟨by decide, by decide⟩) (Has.at H69 (inb_of S69 ⟨by decide, by decide⟩) rfl) (g := (mkF m 39 #[(sR b), (sR lv), .unset] [(.int (2 : Int32)), (.ref la)])) rfl rfl (hb hby d20_39) _ ?_
    show Steps _ _ _ (T68.setTop (mkF m 40 #[(sR b), (sR lv), .unset] [(.ref a2)])) _
    refine XS.aloadN X68.here hx rfl (hb hby d20_40) rfl rfl ?_
    show Steps _ _ _ (T68.setTop (mkF m 41 #[(sR b), (sR lv), .unset] [(.ref lv), (.ref a2)])) _
    refine Jvm.RoadKit.acmp (g := (mkF m 41 #[(sR b), (sR lv), .unset] [(.ref lv), (.ref a2)])) X68 hx rfl rfl rfl (pc0 := 41) (pc' := 53) (same := false) rfl (hb hby d20_41) rfl (decide_eq_false fun q => (Ne.symm ne_lv_a2) (Value.ref.inj q)) (by decide) (by decide) ?_
    show Steps _ _ _ (T68.setTop (mkF m 53 #[(sR b), (sR lv), .unset] [])) _
    refine XS.aloadN X68.here hx rfl (hb hby d20_53) rfl rfl ?_
    show Steps _ _ _ (T68.setTop (mkF m 54 #[(sR b), (sR lv), .unset] [(.ref b)])) _
    refine XS.aloadN X68.here hx rfl (hb hby d20_54) rfl rfl ?_
    exact kt
   obtain ⟨cq70, kq70, q70a, q70b, q70c⟩ := isOf hZ e68 E_lv
   obtain ⟨_, _, ⟨T70, L70, k70, n70⟩, -, X70, ⟨Lc70, hQ70, l70, y70, z70⟩, st70⟩ := X68.virtualBack hx (y := mn0) (z := mn0) hown (mvT hZ (hw _ (ix 154 rfl))) (mvT hZ (hw _ (ix 155 rfl))) (notFace_of_selects (args := #[]) (mvT hZ (hw _ (ix 157 rfl)))) (mvT hZ (hw _ (ix 157 rfl))) (mvT hZ (hw _ (ix 156 rfl))) (by decide) (backOf (W := 1) (rm1 l Z aa hw [] lv xv h0 n0 O0 E_lv F_lv_price) hZ (hw _ (ix 158 rfl)) (hw _ (ix 126 rfl)) (by decide) (by decide)) q70a q70c (g := (mkF m 55 #[(sR b), (sR lv), .unset] [(.ref lv), (.ref b)])) rfl (sz hml) (Steps.refl _) (argsL := []) (rest := [(.ref b)]) (lenOf pd_ocJ rfl) rfl le0 (hb hby d20_55) (fun _ _ => ⟨rfl, e68, (by decide : 0 + 0 ≤ _), (by decide : 0 + 0 ≤ _)⟩)
   dsimp only [Pt.U, Pt.locs, Pt.cells, Pt.slots] at X70 l70 y70 z70 st70 hQ70
   subst l70 y70 z70
   obtain ⟨rfl, rfl, e70⟩ := hQ70
   try rw [List.append_nil] at X70
   refine gu (T70.setTop (mkF m 58 #[(sR b), (sR lv), .unset] [(.long xv), (.ref b)])) (fun t kt => st70.trans kt) ?_
   obtain ⟨cq71, q71, r71⟩ := E_b.cell
   obtain ⟨_, _, ⟨T71, L71, k71, n71⟩, -, X71, ⟨Lc71, hQ71, l71, y71, z71⟩, st71⟩ := X70.privateBack hx (y := mn17) hown (mvT hZ (hw _ (ix 113 rfl))) (mvT hZ (hw _ (ix 114 rfl))) (own_selp (mvT hZ (hw _ (ix 4 rfl))) (mvP hZ (hw _ (ix 115 rfl))) (mvT hZ (hw _ (ix 114 rfl))) (by decide)) (Cond.privateMethod_at (mvP hZ (hw _ (ix 115 rfl)) (args := #[]))) (mvT hZ (hw _ (ix 116 rfl))) (by decide) (backOf (W := 0) (rm16_3 l Z aa hw [] b xv pa sd kp xv x1 x2 wB h0 n0 O0 E_b Fe Fb Fc V_pa S_wB) hZ (hw _ (ix 116 rfl)) (hw _ (ix 5 rfl)) (by decide) (by decide)) (g := (mkF m 58 #[(sR b), (sR lv), .unset] [(.long xv), (.ref b)])) rfl (sz hml) (Steps.refl _) (a := b) (by rw [e70]; exact q71) r71 (argsL := [(.long xv)]) (rest := []) (lenOf pd_oJcI rfl) rfl le0 (hb hby d20_58) (fun _ _ => ⟨rfl, e70, (by decide : 0 + 0 ≤ _), (by decide : 0 + 0 ≤ _)⟩)
   dsimp only [Pt.U, Pt.locs, Pt.cells, Pt.slots] at X71 l71 y71 z71 st71 hQ71
   subst l71 y71 z71
   obtain ⟨rfl, rfl, e71⟩ := hQ71
   try rw [List.append_nil] at X71
   refine gu (T71.setTop (mkF m 61 #[(sR b), (sR lv), .unset] [(.int (f16_3 xv sd xv x1 x2 wB))])) (fun t kt => st71.trans kt) ?_
   have hv72 : (f16_3 xv sd xv x1 x2 wB) = (0 : Int32) := (show (0 : Int32) = (f16_3 xv sd xv x1 x2 wB) from (((if_pos (own_iw.mpr (by omega))).trans (if_pos (own_iw.mpr (by omega)))).trans (if_pos rfl)).symm).symm
   rw [hv72]
   refine gu (T71.setTop (mkF m 63 #[(sR b), (sR lv), (sI (0 : Int32))] [(.ref b)])) (fun t kt => ?_) ?_
   ·refine XS.istoreN X71.here hx rfl (hb hby d20_61) rfl (l' := #[(sR b), (sR lv), (sI (0 : Int32))]) rfl ?_
    show Steps _ _ _ (T71.setTop (mkF m 62 #[(sR b), (sR lv), (sI (0 : Int32))] [])) _
    refine XS.aloadN X71.here hx rfl (hb hby d20_62) rfl rfl ?_
    exact kt
   obtain ⟨T73, X73, e73, st73⟩ := getF X71 hx hZ hown (host := "") (Or.inl (hw _ (ix 14 rfl))) Via.refl e71 Fa (g := (mkF m 63 #[(sR b), (sR lv), (sI (0 : Int32))] [(.ref b)])) rfl rfl (hb hby d20_63)
   refine gu (T73.setTop (mkF m 66 #[(sR b), (sR lv), (sI (0 : Int32))] [(.ref la)])) (fun t kt => st73 _ kt) ?_
   refine gu (T73.setTop (mkF m 70 #[(sR b), (sR lv), (sI (0 : Int32))] [(.ref b), (.int (1 : Int32)), (.ref la)])) (fun t kt => ?_) ?_
   ·refine XS.iloadN X73.here hx rfl (hb hby d20_66) rfl ?_
    show Steps _ _ _ (T73.setTop (mkF m 67 #[(sR b), (sR lv), (sI (0 : Int32))] [(.int (0 : Int32)), (.ref la)])) _
    refine XS.iconst X73.here hx rfl (hb hby d20_67) ?_
    show Steps _ _ _ (T73.setTop (mkF m 68 #[(sR b), (sR lv), (sI (0 : Int32))] [(.int (1 : Int32)), (.int (0 : Int32)), (.ref la)])) _
    refine XS.iadd X73.here hx rfl (hb hby d20_68) rfl ?_
    show Steps _ _ _ (T73.setTop (mkF m 69 #[(sR b), (sR lv), (sI (0 : Int32))] [(.int (1 : Int32)), (.ref la)])) _
    refine XS.aloadN X73.here hx rfl (hb hby d20_69) rfl rfl ?_
    exact kt
   obtain ⟨T74, X74, e74, st74⟩ := getF X73 hx hZ hown (host := "") (Or.inl (hw _ (ix 14 rfl))) Via.refl e73 Fa (g := (mkF m 70 #[(sR b), (sR lv), (sI (0 : Int32))] [(.ref b), (.int (1 : Int32)), (.ref la)])) rfl rfl (hb hby d20_70)
   refine gu (T74.setTop (mkF m 73 #[(sR b), (sR lv), (sI (0 : Int32))] [(.ref la), (.int (1 : Int32)), (.ref la)])) (fun t kt => st74 _ kt) ?_
   refine gu (T74.setTop (mkF m 75 #[(sR b), (sR lv), (sI (0 : Int32))] [(.ref b), (.int (0 : Int32)), (.ref la), (.int (1 : Int32)), (.ref la)])) (fun t kt => ?_) ?_
   ·refine XS.iloadN X74.here hx rfl (hb hby d20_73) rfl ?_
    show Steps _ _ _ (T74.setTop (mkF m 74 #[(sR b), (sR lv), (sI (0 : Int32))] [(.int (0 : Int32)), (.ref la), (.int (1 : Int32)), (.ref la)])) _
    refine XS.aloadN X74.here hx rfl (hb hby d20_74) rfl rfl ?_
    exact kt
   obtain ⟨T75, X75, e75, st75⟩ := getF X74 hx hZ hown (host := "") (Or.inl (hw _ (ix 77 rfl))) Via.refl e74 Fe (g := (mkF m 75 #[(sR b), (sR lv), (sI (0 : Int32))] [(.ref b), (.int (0 : Int32)), (.ref la), (.int (1 : Int32)), (.ref la)])) rfl rfl (hb hby d20_75)
   refine gu (T75.setTop (mkF m 78 #[(sR b), (sR lv), (sI (0 : Int32))] [(.int (3 : Int32)), (.int (0 : Int32)), (.ref la), (.int (1 : Int32)), (.ref la)])) (fun t kt => st75 _ kt) ?_
   refine gu (T75.setTop (mkF m 82 #[(sR b), (sR lv), (sI (0 : Int32))] [(.int (2 : Int32)), (.int (0 : Int32)), (.ref la), (.int (1 : Int32)), (.ref la)])) (fun t kt => ?_) ?_
   ·refine XS.iloadN X75.here hx rfl (hb hby d20_78) rfl ?_
    show Steps _ _ _ (T75.setTop (mkF m 79 #[(sR b), (sR lv), (sI (0 : Int32))] [(.int (0 : Int32)), (.int (3 : Int32)), (.int (0 : Int32)), (.ref la), (.int (1 : Int32)), (.ref la)])) _
    refine XS.isub X75.here hx rfl (hb hby d20_79) rfl ?_
    show Steps _ _ _ (T75.setTop (mkF m 80 #[(sR b), (sR lv), (sI (0 : Int32))] [(.int (3 : Int32)), (.int (0 : Int32)), (.ref la), (.int (1 : Int32)), (.ref la)])) _
    refine XS.iconst X75.here hx rfl (hb hby d20_80) ?_
    show Steps _ _ _ (T75.setTop (mkF m 81 #[(sR b), (sR lv), (sI (0 : Int32))] [(.int (1 : Int32)), (.int (3 : Int32)), (.int (0 : Int32)), (.ref la), (.int (1 : Int32)), (.ref la)])) _
    refine XS.isub X75.here hx rfl (hb hby d20_81) rfl ?_
    exact kt
   obtain ⟨ca76, Ar76, q76, S76, M76, H76, U76⟩ := id V_la
   obtain ⟨T76, h76, Lc76, X76, e76, N76, K76, W76, st76⟩ := cpA X75 hx hZ hown (hw _ (ix 121 rfl)) (hw _ (ix 124 rfl)) (hw _ (ix 122 rfl)) (hw _ (ix 123 rfl)) e75 (sp := (1 : Int32)) (dp := (0 : Int32)) (nn := (2 : Int32)) (us := [(.ref a1), (.ref a2)]) V_la V_la (Or.inr ⟨rfl, rfl, ⟨(Sto.ofV Ar76 q76 hov (Ins.self E_a1)), ⟨(Sto.ofV Ar76 q76 hov (Ins.self E_a2)), trivial⟩⟩⟩) (by decide) (by decide) (by decide) (by decide) (by decide) rfl (Nat.le_of_ble_eq_true rfl) N0 g_la (g := (mkF m 82 #[(sR b), (sR lv), (sI (0 : Int32))] [(.int (2 : Int32)), (.int (0 : Int32)), (.ref la), (.int (1 : Int32)), (.ref la)])) rfl (sz hml) rfl (hb hby d20_82) (by decide) (W := 0) le0 (by decide)
   have O76 := O0.keep K76 (allS g_la all0)
   have KK76 : Keep h0 h76 [b, la, pa] := K0.trans K76 (allS (Or.inl (ix 1 rfl)) all0)
   have E_b_76 := E_b.keep K76
   have E_tm_76 := E_tm.keep K76
   have Fs_76 := Fs.keep K76 (ninS ne_tm_la nin0)
   have Fa_76 := Fa.keep K76 (ninS ne_b_la nin0)
   have Fb_76 := Fb.keep K76 (ninS ne_b_la nin0)
   have Fc_76 := Fc.keep K76 (ninS ne_b_la nin0)
   have Fd_76 := Fd.keep K76 (ninS ne_b_la nin0)
   have Fe_76 := Fe.keep K76 (ninS ne_b_la nin0)
   have V_pa_76 := V_pa.keep K76 (ninS (Ne.symm ne_la_pa) nin0)
   have E_lv_76 := E_lv.keep K76
   have F_lv_p_76 := F_lv_price.keep K76 (ninS ne_lv_la nin0)
   have E_a1_76 := E_a1.keep K76
   have F_a1_p_76 := F_a1_price.keep K76 (ninS ne_a1_la nin0)
   have E_a2_76 := E_a2.keep K76
   have F_a2_p_76 := F_a2_price.keep K76 (ninS ne_a2_la nin0)
   have V_la_76 : Arv Z h76 la kl oPL (256 : Int32) [(.ref a1), (.ref a2), (.ref a2)] .null := W76
   refine gu (T76.setTop (mkF m 85 #[(sR b), (sR lv), (sI (0 : Int32))] [])) (fun t kt => st76 _ kt) ?_
   refine gu (T76.setTop (mkF m 86 #[(sR b), (sR lv), (sI (0 : Int32))] [(.ref b)])) (fun t kt => ?_) ?_
   ·refine XS.aloadN X76.here hx rfl (hb hby d20_85) rfl rfl ?_
    exact kt
   obtain ⟨T77, X77, e77, st77⟩ := getF X76 hx hZ hown (host := "") (Or.inl (hw _ (ix 17 rfl))) Via.refl e76 Fb_76 (g := (mkF m 86 #[(sR b), (sR lv), (sI (0 : Int32))] [(.ref b)])) rfl rfl (hb hby d20_86)
   refine gu (T77.setTop (mkF m 89 #[(sR b), (sR lv), (sI (0 : Int32))] [(.ref pa)])) (fun t kt => st77 _ kt) ?_
   refine gu (T77.setTop (mkF m 93 #[(sR b), (sR lv), (sI (0 : Int32))] [(.ref b), (.int (1 : Int32)), (.ref pa)])) (fun t kt => ?_) ?_
   ·refine XS.iloadN X77.here hx rfl (hb hby d20_89) rfl ?_
    show Steps _ _ _ (T77.setTop (mkF m 90 #[(sR b), (sR lv), (sI (0 : Int32))] [(.int (0 : Int32)), (.ref pa)])) _
    refine XS.iconst X77.here hx rfl (hb hby d20_90) ?_
    show Steps _ _ _ (T77.setTop (mkF m 91 #[(sR b), (sR lv), (sI (0 : Int32))] [(.int (1 : Int32)), (.int (0 : Int32)), (.ref pa)])) _
    refine XS.iadd X77.here hx rfl (hb hby d20_91) rfl ?_
    show Steps _ _ _ (T77.setTop (mkF m 92 #[(sR b), (sR lv), (sI (0 : Int32))] [(.int (1 : Int32)), (.ref pa)])) _
    refine XS.aloadN X77.here hx rfl (hb hby d20_92) rfl rfl ?_
    exact kt
   obtain ⟨T78, X78, e78, st78⟩ := getF X77 hx hZ hown (host := "") (Or.inl (hw _ (ix 17 rfl))) Via.refl e77 Fb_76 (g := (mkF m 93 #[(sR b), (sR lv), (sI (0 : Int32))] [(.ref b), (.int (1 : Int32)), (.ref pa)])) rfl rfl (hb hby d20_93)
   refine gu (T78.setTop (mkF m 96 #[(sR b), (sR lv), (sI (0 : Int32))] [(.ref pa), (.int (1 : Int32)), (.ref pa)])) (fun t kt => st78 _ kt) ?_
   refine gu (T78.setTop (mkF m 98 #[(sR b), (sR lv), (sI (0 : Int32))] [(.ref b), (.int (0 : Int32)), (.ref pa), (.int (1 : Int32)), (.ref pa)])) (fun t kt => ?_) ?_
   ·refine XS.iloadN X78.here hx rfl (hb hby d20_96) rfl ?_
    show Steps _ _ _ (T78.setTop (mkF m 97 #[(sR b), (sR lv), (sI (0 : Int32))] [(.int (0 : Int32)), (.ref pa), (.int (1 : Int32)), (.ref pa)])) _
    refine XS.aloadN X78.here hx rfl (hb hby d20_97) rfl rfl ?_
    exact kt
   obtain ⟨T79, X79, e79, st79⟩ := getF X78 hx hZ hown (host := "") (Or.inl (hw _ (ix 77 rfl))) Via.refl e78 Fe_76 (g := (mkF m 98 #[(sR b), (sR lv), (sI (0 : Int32))] [(.ref b), (.int (0 : Int32)), (.ref pa), (.int (1 : Int32)), (.ref pa)])) rfl rfl (hb hby d20_98)
   refine gu (T79.setTop (mkF m 101 #[(sR b), (sR lv), (sI (0 : Int32))] [(.int (3 : Int32)), (.int (0 : Int32)), (.ref pa), (.int (1 : Int32)), (.ref pa)])) (fun t kt => st79 _ kt) ?_
   refine gu (T79.setTop (mkF m 105 #[(sR b), (sR lv), (sI (0 : Int32))] [(.int (2 : Int32)), (.int (0 : Int32)), (.ref pa), (.int (1 : Int32)), (.ref pa)])) (fun t kt => ?_) ?_
   ·refine XS.iloadN X79.here hx rfl (hb hby d20_101) rfl ?_
    show Steps _ _ _ (T79.setTop (mkF m 102 #[(sR b), (sR lv), (sI (0 : Int32))] [(.int (0 : Int32)), (.int (3 : Int32)), (.int (0 : Int32)), (.ref pa), (.int (1 : Int32)), (.ref pa)])) _
    refine XS.isub X79.here hx rfl (hb hby d20_102) rfl ?_
    show Steps _ _ _ (T79.setTop (mkF m 103 #[(sR b), (sR lv), (sI (0 : Int32))] [(.int (3 : Int32)), (.int (0 : Int32)), (.ref pa), (.int (1 : Int32)), (.ref pa)])) _
    refine XS.iconst X79.here hx rfl (hb hby d20_103) ?_
    show Steps _ _ _ (T79.setTop (mkF m 104 #[(sR b), (sR lv), (sI (0 : Int32))] [(.int (1 : Int32)), (.int (3 : Int32)), (.int (0 : Int32)), (.ref pa), (.int (1 : Int32)), (.ref pa)])) _
    refine XS.isub X79.here hx rfl (hb hby d20_104) rfl ?_
    exact kt
   obtain ⟨ca80, Ar80, q80, S80, M80, H80, U80⟩ := id V_pa_76
   obtain ⟨T80, h80, Lc80, X80, e80, N80, K80, W80, st80⟩ := cpA X79 hx hZ hown (hw _ (ix 121 rfl)) (hw _ (ix 124 rfl)) (hw _ (ix 122 rfl)) (hw _ (ix 123 rfl)) e79 (sp := (1 : Int32)) (dp := (0 : Int32)) (nn := (2 : Int32)) (us := [(.long x1), (.long x2)]) V_pa_76 V_pa_76 (Or.inl ⟨rfl, rfl⟩) (by decide) (by decide) (by decide) (by decide) (by decide) rfl (Nat.le_of_ble_eq_true rfl) N76 g_pa (g := (mkF m 105 #[(sR b), (sR lv), (sI (0 : Int32))] [(.int (2 : Int32)), (.int (0 : Int32)), (.ref pa), (.int (1 : Int32)), (.ref pa)])) rfl (sz hml) rfl (hb hby d20_105) (by decide) (W := 0) le0 (by decide)
   have O80 := O76.keep K80 (allS g_pa all0)
   have KK80 : Keep h0 h80 [b, la, pa] := KK76.trans K80 (allS (Or.inl (ix 2 rfl)) all0)
   have E_b_80 := E_b_76.keep K80
   have E_tm_80 := E_tm_76.keep K80
   have Fs_80 := Fs_76.keep K80 (ninS ne_tm_pa nin0)
   have Fa_80 := Fa_76.keep K80 (ninS ne_b_pa nin0)
   have Fb_80 := Fb_76.keep K80 (ninS ne_b_pa nin0)
   have Fc_80 := Fc_76.keep K80 (ninS ne_b_pa nin0)
   have Fd_80 := Fd_76.keep K80 (ninS ne_b_pa nin0)
   have Fe_80 := Fe_76.keep K80 (ninS ne_b_pa nin0)
   have E_lv_80 := E_lv_76.keep K80
   have F_lv_p_80 := F_lv_p_76.keep K80 (ninS ne_lv_pa nin0)
   have E_a1_80 := E_a1_76.keep K80
   have F_a1_p_80 := F_a1_p_76.keep K80 (ninS ne_a1_pa nin0)
   have E_a2_80 := E_a2_76.keep K80
   have F_a2_p_80 := F_a2_p_76.keep K80 (ninS ne_a2_pa nin0)
   have V_la_80 := V_la_76.keep K80 (ninS ne_la_pa nin0)
   have V_pa_80 : Arv Z h80 pa kp .long (256 : Int32) [(.long x1), (.long x2), (.long x2)] (.long (0 : Int64)) := W80
   refine gu (T80.setTop (mkF m 108 #[(sR b), (sR lv), (sI (0 : Int32))] [])) (fun t kt => st80 _ kt) ?_
   refine gu (T80.setTop (mkF m 109 #[(sR b), (sR lv), (sI (0 : Int32))] [(.ref b)])) (fun t kt => ?_) ?_
   ·refine XS.aloadN X80.here hx rfl (hb hby d20_108) rfl rfl ?_
    exact kt
   obtain ⟨T81, X81, e81, st81⟩ := getF X80 hx hZ hown (host := "") (Or.inl (hw _ (ix 14 rfl))) Via.refl e80 Fa_80 (g := (mkF m 109 #[(sR b), (sR lv), (sI (0 : Int32))] [(.ref b)])) rfl rfl (hb hby d20_109)
   refine gu (T81.setTop (mkF m 112 #[(sR b), (sR lv), (sI (0 : Int32))] [(.ref la)])) (fun t kt => st81 _ kt) ?_
   refine gu (T81.setTop (mkF m 114 #[(sR b), (sR lv), (sI (0 : Int32))] [(.ref b), (.ref b), (.ref la)])) (fun t kt => ?_) ?_
   ·refine XS.aloadN X81.here hx rfl (hb hby d20_112) rfl rfl ?_
    show Steps _ _ _ (T81.setTop (mkF m 113 #[(sR b), (sR lv), (sI (0 : Int32))] [(.ref b), (.ref la)])) _
    refine XS.dup X81.here hx rfl (hb hby d20_113) rfl rfl ?_
    exact kt
   obtain ⟨T82, X82, e82, st82⟩ := getF X81 hx hZ hown (host := "") (Or.inl (hw _ (ix 77 rfl))) Via.refl e81 Fe_80 (g := (mkF m 114 #[(sR b), (sR lv), (sI (0 : Int32))] [(.ref b), (.ref b), (.ref la)])) rfl rfl (hb hby d20_114)
   refine gu (T82.setTop (mkF m 117 #[(sR b), (sR lv), (sI (0 : Int32))] [(.int (3 : Int32)), (.ref b), (.ref la)])) (fun t kt => st82 _ kt) ?_
   refine gu (T82.setTop (mkF m 120 #[(sR b), (sR lv), (sI (0 : Int32))] [(.int (2 : Int32)), (.ref b), (.int (2 : Int32)), (.ref la)])) (fun t kt => ?_) ?_
   ·refine XS.iconst X82.here hx rfl (hb hby d20_117) ?_
    show Steps _ _ _ (T82.setTop (mkF m 118 #[(sR b), (sR lv), (sI (0 : Int32))] [(.int (1 : Int32)), (.int (3 : Int32)), (.ref b), (.ref la)])) _
    refine XS.isub X82.here hx rfl (hb hby d20_118) rfl ?_
    show Steps _ _ _ (T82.setTop (mkF m 119 #[(sR b), (sR lv), (sI (0 : Int32))] [(.int (2 : Int32)), (.ref b), (.ref la)])) _
    refine XS.dupX1 X82.here hx rfl (hb hby d20_119) rfl rfl rfl ?_
    exact kt
   obtain ⟨T83, h83, X83, e83, W83, st83⟩ := putF X82 hx hZ hown (host := "") (Or.inl (hw _ (ix 77 rfl))) Via.refl e82 Fe_80 E_b_80 (Or.inl (hw _ (ix 78 rfl))) (hw _ (ix 4 rfl)) (ty := .int) (by decide) rfl rfl (g := (mkF m 120 #[(sR b), (sR lv), (sI (0 : Int32))] [(.int (2 : Int32)), (.ref b), (.int (2 : Int32)), (.ref la)])) rfl rfl (hb hby d20_120)
   have N83 := Fr.snoc X83 N80 g_b
   have O83 := O80.wr W83 g_b
   have K83 : Keep h0 h83 [b, la, pa] := KK80.wr W83 (Or.inl (ix 0 rfl))
   have E_b_83 := E_b_80.wr W83
   have E_tm_83 := E_tm_80.wr W83
   have Fs_83 := Fs_80.other W83 (Or.inl (Ne.symm ne_b_tm))
   have Fa_83 := Fa_80.other W83 (Or.inr (slot_ne (Or.inr (hw _ (ix 15 rfl))) (Or.inl (hw _ (ix 78 rfl))) (by decide) (t := (.array (.object "com/example/openvenue/openvenue/core/PriceLevel"))) (t' := .int) (by decide) (by decide)))
   have Fb_83 := Fb_80.other W83 (Or.inr (slot_ne (Or.inr (hw _ (ix 18 rfl))) (Or.inl (hw _ (ix 78 rfl))) (by decide) (t := (.array .long)) (t' := .int) (by decide) (by decide)))
   have Fc_83 := Fc_80.other W83 (Or.inr (slot_ne (Or.inr (hw _ (ix 36 rfl))) (Or.inl (hw _ (ix 78 rfl))) (by decide) (t := (.object "com/example/openvenue/openvenue/core/Side")) (t' := .int) (by decide) (by decide)))
   have Fd_83 := Fd_80.other W83 (Or.inr (slot_ne (Or.inr (hw _ (ix 65 rfl))) (Or.inl (hw _ (ix 78 rfl))) (by decide) (t := (.object "java/util/NavigableMap")) (t' := .int) (by decide) (by decide)))
   have E_lv_83 := E_lv_80.wr W83
   have F_lv_p_83 := F_lv_p_80.other W83 (Or.inl (Ne.symm ne_b_lv))
   have E_a1_83 := E_a1_80.wr W83
   have F_a1_p_83 := F_a1_p_80.other W83 (Or.inl (Ne.symm ne_b_a1))
   have E_a2_83 := E_a2_80.wr W83
   have F_a2_p_83 := F_a2_p_80.other W83 (Or.inl (Ne.symm ne_b_a2))
   have V_la_83 := V_la_80.other W83 (Ne.symm ne_b_la)
   have V_pa_83 := V_pa_80.other W83 (Ne.symm ne_b_pa)
   have Fe_83 := Fe_80.same W83
   refine gu (T83.setTop (mkF m 123 #[(sR b), (sR lv), (sI (0 : Int32))] [(.int (2 : Int32)), (.ref la)])) (fun t kt => st83 _ kt) ?_
   refine gu (T83.setTop (mkF m 124 #[(sR b), (sR lv), (sI (0 : Int32))] [.null, (.int (2 : Int32)), (.ref la)])) (fun t kt => ?_) ?_
   ·refine XS.aconstNull X83.here hx rfl (hb hby d20_123) ?_
    exact kt
   obtain ⟨ca84, Ar84, q84, S84, M84, H84, U84⟩ := id V_la_83
   obtain ⟨T84, h84, X84, e84, W84, st84⟩ := stR X83 hx hZ e83 Ar84 (j := (2 : Int32)) (v := .null) (inb_of S84 ⟨by decide, by decide⟩) rfl (Or.inl rfl) (g := (mkF m 124 #[(sR b), (sR lv), (sI (0 : Int32))] [.null, (.int (2 : Int32)), (.ref la)])) rfl rfl (hb hby d20_124)
   have N84 := Fr.snoc X84 N83 g_la
   have O84 := O83.wr W84 g_la
   have K84 : Keep h0 h84 [b, la, pa] := K83.wr W84 (Or.inl (ix 1 rfl))
   have E_b_84 := E_b_83.wr W84
   have E_tm_84 := E_tm_83.wr W84
   have Fs_84 := Fs_83.other W84 (Or.inl ne_tm_la)
   have Fa_84 := Fa_83.other W84 (Or.inl ne_b_la)
   have Fb_84 := Fb_83.other W84 (Or.inl ne_b_la)
   have Fc_84 := Fc_83.other W84 (Or.inl ne_b_la)
   have Fd_84 := Fd_83.other W84 (Or.inl ne_b_la)
   have Fe_84 := Fe_83.other W84 (Or.inl ne_b_la)
   have E_lv_84 := E_lv_83.wr W84
   have F_lv_p_84 := F_lv_p_83.other W84 (Or.inl ne_lv_la)
   have E_a1_84 := E_a1_83.wr W84
   have F_a1_p_84 := F_a1_p_83.other W84 (Or.inl ne_a1_la)
   have E_a2_84 := E_a2_83.wr W84
   have F_a2_p_84 := F_a2_p_83.other W84 (Or.inl ne_a2_la)
   have V_pa_84 := V_pa_83.other W84 (Ne.symm ne_la_pa)
   have V_la_84 : Arv Z h84 la kl oPL (256 : Int32) [(.ref a1), (.ref a2), .null] .null := Arv.set Ar84 q84 S84 M84 H84 U84 rfl W84 2 rfl (Nat.le_of_ble_eq_true rfl)
   refine gu (T84.setTop (mkF m 125 #[(sR b), (sR lv), (sI (0 : Int32))] [])) (fun t kt => st84 _ kt) ?_
   refine gu (T84.setTop (mkF m 126 #[(sR b), (sR lv), (sI (0 : Int32))] [(.ref b)])) (fun t kt => ?_) ?_
   ·refine XS.aloadN X84.here hx rfl (hb hby d20_125) rfl rfl ?_
    exact kt
   obtain ⟨T85, X85, e85, st85⟩ := getF X84 hx hZ hown (host := "") (Or.inl (hw _ (ix 77 rfl))) Via.refl e84 Fe_84 (g := (mkF m 126 #[(sR b), (sR lv), (sI (0 : Int32))] [(.ref b)])) rfl rfl (hb hby d20_126)
   refine gu (T85.setTop (mkF m 129 #[(sR b), (sR lv), (sI (0 : Int32))] [(.int (2 : Int32))])) (fun t kt => st85 _ kt) ?_
   refine gu (T85.setTop (mkF m 148 #[(sR b), (sR lv), (sI (0 : Int32))] [])) (fun t kt => ?_) ?_
   ·refine XS.ifYes X85.here hx rfl (pc0 := 129) (pc' := 148) rfl (hb hby d20_129) rfl ((if0 _ _).trans (feq (by decide : ¬ ((2 : Int32) = (0 : Int32)))).2) (by decide) (by decide) ?_
    exact kt
   refine Gl.ret0 X85 hx hlk Bd.returns (hb hby d20_148) ?_ (by decide) (by decide)
   show Q20 Z _ _ _ _ _ _ _ _ _ _ _ h0 n0 _ T85.heap _; rw [e85]; have V_la_86 : Arv Z h84 la kl oPL (256 : Int32) [(.ref a1), (.ref a2)] .null := V_la_84.pad fun i => (pad_rep [(.ref a1), (.ref a2)] .null 1 i).symm; have BB : Bp Z h84 b la sd wB kl [(a1, x1), (a2, x2)] := ⟨E_b_84, Fa_84, Fe_84, V_la_86, (lvS ⟨E_a1_84, F_a1_p_84⟩ (lvS ⟨E_a2_84, F_a2_p_84⟩ lv0)), srt2 o12⟩; have nx1 : x1 ≠ xv := (fun z => by rw [z] at o01; omega); have nx2 : x2 ≠ xv := (fun z => by rw [z] at o02; omega); exact ⟨rfl, N84, K84, _, BB, own_rem (l1 := []) (l2 := [(a1, x1), (a2, x2)]) (lvS nx1 (lvS nx2 lv0)), by simp⟩
  ·obtain ⟨E_b, Fa, Fb, Fc, Fd, Fe0, E_tm, Fs, V_la0, V_pa0, hov, g_b, g_la, g_pa, hlv, hso⟩ := B0
   have Fe : Fld Z h0 b "com/example/openvenue/openvenue/core/BookSide" "count" "I" (.int (3 : Int32)) := Fe0
   have V_la : Arv Z h0 la kl oPL (256 : Int32) [(.ref a0), (.ref lv), (.ref a2)] .null := V_la0
   have V_pa : Arv Z h0 pa kp .long (256 : Int32) [(.long x0), (.long xv), (.long x2)] (.long (0 : Int64)) := V_pa0
   obtain ⟨E_a0, F_a0_price⟩ := hlv (a0, x0) (by simp)
   obtain ⟨E_lv, F_lv_price⟩ := hlv (lv, xv) (by simp)
   obtain ⟨E_a2, F_a2_price⟩ := hlv (a2, x2) (by simp)
   obtain ⟨o01, o12⟩ := srt3' (x := x0) (y := xv) (z := x2) hso
   have o02 : ky sd wB x0 < ky sd wB x2 := by omega
   have ne_b_la : b ≠ la := Exa.neArv E_b V_la (hw _ (ix 4 rfl))
   have ne_b_pa : b ≠ pa := Exa.neArv E_b V_pa (hw _ (ix 4 rfl))
   have ne_tm_la : tm ≠ la := Exa.neArv E_tm V_la (hw _ (ix 46 rfl))
   have ne_tm_pa : tm ≠ pa := Exa.neArv E_tm V_pa (hw _ (ix 46 rfl))
   have ne_a0_la : a0 ≠ la := Exa.neArv E_a0 V_la (hw _ (ix 125 rfl))
   have ne_a0_pa : a0 ≠ pa := Exa.neArv E_a0 V_pa (hw _ (ix 125 rfl))
   have ne_lv_la : lv ≠ la := Exa.neArv E_lv V_la (hw _ (ix 125 rfl))
   have ne_lv_pa : lv ≠ pa := Exa.neArv E_lv V_pa (hw _ (ix 125 rfl))
   have ne_a2_la : a2 ≠ la := Exa.neArv E_a2 V_la (hw _ (ix 125 rfl))
   have ne_a2_pa : a2 ≠ pa := Exa.neArv E_a2 V_pa (hw _ (ix 125 rfl))
   have ne_la_pa : la ≠ pa := own_arvne V_la V_pa
   have ne_b_tm : b ≠ tm := ne_exa E_b E_tm (by decide)
   have ne_b_a0 : b ≠ a0 := ne_exa E_b E_a0 (by decide)
   have ne_b_lv : b ≠ lv := ne_exa E_b E_lv (by decide)
   have ne_b_a2 : b ≠ a2 := ne_exa E_b E_a2 (by decide)
   have ne_tm_a0 : tm ≠ a0 := ne_exa E_tm E_a0 (by decide)
   have ne_tm_lv : tm ≠ lv := ne_exa E_tm E_lv (by decide)
   have ne_tm_a2 : tm ≠ a2 := ne_exa E_tm E_a2 (by decide)
   have ne_a0_lv : a0 ≠ lv := Fld.ne F_a0_price F_lv_price (ky_ne o01)
   have ne_a0_a2 : a0 ≠ a2 := Fld.ne F_a0_price F_a2_price (ky_ne o02)
   have ne_lv_a2 : lv ≠ a2 := Fld.ne F_lv_price F_a2_price (ky_ne o12)
   refine gu (s₁.setTop (mkF m 2 #[(sR b), (sR lv), .unset] [(.ref lv), (.ref b)])) (fun t kt => ?_) ?_
   ·refine XS.aloadN X0.here hx rfl (hb hby d20_0) rfl rfl ?_
    show Steps _ _ _ (s₁.setTop (mkF m 1 #[(sR b), (sR lv), .unset] [(.ref b)])) _
    refine XS.aloadN X0.here hx rfl (hb hby d20_1) rfl rfl ?_
    exact kt
   obtain ⟨cq87, kq87, q87a, q87b, q87c⟩ := isOf hZ e0 E_lv
   obtain ⟨_, _, ⟨T87, L87, k87, n87⟩, -, X87, ⟨Lc87, hQ87, l87, y87, z87⟩, st87⟩ := X0.virtualBack hx (y := mn0) (z := mn0) hown (mvT hZ (hw _ (ix 154 rfl))) (mvT hZ (hw _ (ix 155 rfl))) (notFace_of_selects (args := #[]) (mvT hZ (hw _ (ix 157 rfl)))) (mvT hZ (hw _ (ix 157 rfl))) (mvT hZ (hw _ (ix 156 rfl))) (by decide) (backOf (W := 1) (rm1 l Z aa hw [] lv xv h0 n0 O0 E_lv F_lv_price) hZ (hw _ (ix 158 rfl)) (hw _ (ix 126 rfl)) (by decide) (by decide)) q87a q87c (g := (mkF m 2 #[(sR b), (sR lv), .unset] [(.ref lv), (.ref b)])) rfl (sz hml) (Steps.refl _) (argsL := []) (rest := [(.ref b)]) (lenOf pd_ocJ rfl) rfl le0 (hb hby d20_2) (fun _ _ => ⟨rfl, e0, (by decide : 0 + 0 ≤ _), (by decide : 0 + 0 ≤ _)⟩)
   dsimp only [Pt.U, Pt.locs, Pt.cells, Pt.slots] at X87 l87 y87 z87 st87 hQ87
   subst l87 y87 z87
   obtain ⟨rfl, rfl, e87⟩ := hQ87
   try rw [List.append_nil] at X87
   refine gu (T87.setTop (mkF m 5 #[(sR b), (sR lv), .unset] [(.long xv), (.ref b)])) (fun t kt => st87.trans kt) ?_
   obtain ⟨cq88, q88, r88⟩ := E_b.cell
   obtain ⟨_, _, ⟨T88, L88, k88, n88⟩, -, X88, ⟨Lc88, hQ88, l88, y88, z88⟩, st88⟩ := X87.privateBack hx (y := mn13) hown (mvT hZ (hw _ (ix 94 rfl))) (mvT hZ (hw _ (ix 95 rfl))) (own_selp (mvT hZ (hw _ (ix 4 rfl))) (mvP hZ (hw _ (ix 96 rfl))) (mvT hZ (hw _ (ix 95 rfl))) (by decide)) (Cond.privateMethod_at (mvP hZ (hw _ (ix 96 rfl)) (args := #[]))) (mvT hZ (hw _ (ix 97 rfl))) (by decide) (backOf (W := 0) (rm13 l Z aa hw [] b xv tm h0 n0 O0 E_b Fd E_tm Fs) hZ (hw _ (ix 97 rfl)) (hw _ (ix 5 rfl)) (by decide) (by decide)) (g := (mkF m 5 #[(sR b), (sR lv), .unset] [(.long xv), (.ref b)])) rfl (sz hml) (Steps.refl _) (a := b) (by rw [e87]; exact q88) r88 (argsL := [(.long xv)]) (rest := []) (lenOf pd_oJcZ rfl) rfl le0 (hb hby d20_5) (fun _ _ => ⟨rfl, e87, (by decide : 0 + 0 ≤ _), (by decide : 0 + 0 ≤ _)⟩)
   dsimp only [Pt.U, Pt.locs, Pt.cells, Pt.slots] at X88 l88 y88 z88 st88 hQ88
   subst l88 y88 z88
   obtain ⟨rfl, rfl, e88⟩ := hQ88
   try rw [List.append_nil] at X88
   refine gu (T88.setTop (mkF m 8 #[(sR b), (sR lv), .unset] [(.int (0 : Int32))])) (fun t kt => st88.trans kt) ?_
   refine gu (T88.setTop (mkF m 30 #[(sR b), (sR lv), .unset] [(.ref b)])) (fun t kt => ?_) ?_
   ·refine XS.ifYes X88.here hx rfl (pc0 := 8) (pc' := 29) rfl (hb hby d20_8) rfl ((if0 _ _).trans (teq (rfl : (0 : Int32) = (0 : Int32))).1) (by decide) (by decide) ?_
    show Steps _ _ _ (T88.setTop (mkF m 29 #[(sR b), (sR lv), .unset] [])) _
    refine XS.aloadN X88.here hx rfl (hb hby d20_29) rfl rfl ?_
    exact kt
   obtain ⟨T89, X89, e89, st89⟩ := getF X88 hx hZ hown (host := "") (Or.inl (hw _ (ix 14 rfl))) Via.refl e88 Fa (g := (mkF m 30 #[(sR b), (sR lv), .unset] [(.ref b)])) rfl rfl (hb hby d20_30)
   refine gu (T89.setTop (mkF m 33 #[(sR b), (sR lv), .unset] [(.ref la)])) (fun t kt => st89 _ kt) ?_
   refine gu (T89.setTop (mkF m 34 #[(sR b), (sR lv), .unset] [(.ref b), (.ref la)])) (fun t kt => ?_) ?_
   ·refine XS.aloadN X89.here hx rfl (hb hby d20_33) rfl rfl ?_
    exact kt
   obtain ⟨T90, X90, e90, st90⟩ := getF X89 hx hZ hown (host := "") (Or.inl (hw _ (ix 77 rfl))) Via.refl e89 Fe (g := (mkF m 34 #[(sR b), (sR lv), .unset] [(.ref b), (.ref la)])) rfl rfl (hb hby d20_34)
   refine gu (T90.setTop (mkF m 37 #[(sR b), (sR lv), .unset] [(.int (3 : Int32)), (.ref la)])) (fun t kt => st90 _ kt) ?_
   obtain ⟨ca91, Ar91, q91, S91, M91, H91, U91⟩ := id V_la
   refine gu (T90.setTop (mkF m 39 #[(sR b), (sR lv), .unset] [(.int (2 : Int32)), (.ref la)])) (fun t kt => ?_) ?_
   ·refine XS.iconst X90.here hx rfl (hb hby d20_37) ?_
    show Steps _ _ _ (T90.setTop (mkF m 38 #[(sR b), (sR lv), .unset] [(.int (1 : Int32)), (.int (3 : Int32)), (.ref la)])) _
    refine XS.isub X90.here hx rfl (hb hby d20_38) rfl ?_
    exact kt
   refine gu (T90.setTop (mkF m 55 #[(sR b), (sR lv), .unset] [(.ref lv), (.ref b)])) (fun t kt => ?_) ?_
   ·refine X90.aaload hx (j := (2 : Int32)) (v := (.ref a2)) (by rw [e90]; exact Ar91.1) (State.isArrayOf_alike hZ.alike Ar91.2.1) rfl Ar91.2.2 (inb_of S91 ⟨by decide, by decide⟩) (Has.at H91 (inb_of S91 ⟨by decide, by decide⟩) rfl) (g := (mkF m 39 #[(sR b), (sR lv), .unset] [(.int (2 : Int32)), (.ref la)])) rfl rfl (hb hby d20_39) _ ?_
    show Steps _ _ _ (T90.setTop (mkF m 40 #[(sR b), (sR lv), .unset] [(.ref a2)])) _
    refine XS.aloadN X90.here hx rfl (hb hby d20_40) rfl rfl ?_
    show Steps _ _ _ (T90.setTop (mkF m 41 #[(sR b), (sR lv), .unset] [(.ref lv), (.ref a2)])) _
    refine Jvm.RoadKit.acmp (g := (mkF m 41 #[(sR b), (sR lv), .unset] [(.ref lv), (.ref a2)])) X90 hx rfl rfl rfl (pc0 := 41) (pc' := 53) (same := false) rfl (hb hby d20_41) rfl (decide_eq_false fun q => (Ne.symm ne_lv_a2) (Value.ref.inj q)) (by decide) (by decide) ?_
    show Steps _ _ _ (T90.setTop (mkF m 53 #[(sR b), (sR lv), .unset] [])) _
    refine XS.aloadN X90.here hx rfl (hb hby d20_53) rfl rfl ?_
    show Steps _ _ _ (T90.setTop (mkF m 54 #[(sR b), (sR lv), .unset] [(.ref b)])) _
    refine XS.aloadN X90.here hx rfl (hb hby d20_54) rfl rfl ?_
    exact kt
   obtain ⟨cq92, kq92, q92a, q92b, q92c⟩ := isOf hZ e90 E_lv
   obtain ⟨_, _, ⟨T92, L92, k92, n92⟩, -, X92, ⟨Lc92, hQ92, l92, y92, z92⟩, st92⟩ := X90.virtualBack hx (y := mn0) (z := mn0) hown (mvT hZ (hw _ (ix 154 rfl))) (mvT hZ (hw _ (ix 155 rfl))) (notFace_of_selects (args := #[]) (mvT hZ (hw _ (ix 157 rfl)))) (mvT hZ (hw _ (ix 157 rfl))) (mvT hZ (hw _ (ix 156 rfl))) (by decide) (backOf (W := 1) (rm1 l Z aa hw [] lv xv h0 n0 O0 E_lv F_lv_price) hZ (hw _ (ix 158 rfl)) (hw _ (ix 126 rfl)) (by decide) (by decide)) q92a q92c (g := (mkF m 55 #[(sR b), (sR lv), .unset] [(.ref lv), (.ref b)])) rfl (sz hml) (Steps.refl _) (argsL := []) (rest := [(.ref b)]) (lenOf pd_ocJ rfl) rfl le0 (hb hby d20_55) (fun _ _ => ⟨rfl, e90, (by decide : 0 + 0 ≤ _), (by decide : 0 + 0 ≤ _)⟩)
   dsimp only [Pt.U, Pt.locs, Pt.cells, Pt.slots] at X92 l92 y92 z92 st92 hQ92
   subst l92 y92 z92
   obtain ⟨rfl, rfl, e92⟩ := hQ92
   try rw [List.append_nil] at X92
   refine gu (T92.setTop (mkF m 58 #[(sR b), (sR lv), .unset] [(.long xv), (.ref b)])) (fun t kt => st92.trans kt) ?_
   obtain ⟨cq93, q93, r93⟩ := E_b.cell
   obtain ⟨_, _, ⟨T93, L93, k93, n93⟩, -, X93, ⟨Lc93, hQ93, l93, y93, z93⟩, st93⟩ := X92.privateBack hx (y := mn17) hown (mvT hZ (hw _ (ix 113 rfl))) (mvT hZ (hw _ (ix 114 rfl))) (own_selp (mvT hZ (hw _ (ix 4 rfl))) (mvP hZ (hw _ (ix 115 rfl))) (mvT hZ (hw _ (ix 114 rfl))) (by decide)) (Cond.privateMethod_at (mvP hZ (hw _ (ix 115 rfl)) (args := #[]))) (mvT hZ (hw _ (ix 116 rfl))) (by decide) (backOf (W := 0) (rm16_3 l Z aa hw [] b xv pa sd kp x0 xv x2 wB h0 n0 O0 E_b Fe Fb Fc V_pa S_wB) hZ (hw _ (ix 116 rfl)) (hw _ (ix 5 rfl)) (by decide) (by decide)) (g := (mkF m 58 #[(sR b), (sR lv), .unset] [(.long xv), (.ref b)])) rfl (sz hml) (Steps.refl _) (a := b) (by rw [e92]; exact q93) r93 (argsL := [(.long xv)]) (rest := []) (lenOf pd_oJcI rfl) rfl le0 (hb hby d20_58) (fun _ _ => ⟨rfl, e92, (by decide : 0 + 0 ≤ _), (by decide : 0 + 0 ≤ _)⟩)
   dsimp only [Pt.U, Pt.locs, Pt.cells, Pt.slots] at X93 l93 y93 z93 st93 hQ93
   subst l93 y93 z93
   obtain ⟨rfl, rfl, e93⟩ := hQ93
   try rw [List.append_nil] at X93
   refine gu (T93.setTop (mkF m 61 #[(sR b), (sR lv), .unset] [(.int (f16_3 xv sd x0 xv x2 wB))])) (fun t kt => st93.trans kt) ?_
   have hv94 : (f16_3 xv sd x0 xv x2 wB) = (1 : Int32) := (show (1 : Int32) = (f16_3 xv sd x0 xv x2 wB) from ((((if_pos (own_iw.mpr (by omega))).trans (if_neg (fun z => own_iw.mp z o01))).trans (if_pos (own_iw.mpr (by omega)))).trans (if_pos rfl)).symm).symm
   rw [hv94]
   refine gu (T93.setTop (mkF m 63 #[(sR b), (sR lv), (sI (1 : Int32))] [(.ref b)])) (fun t kt => ?_) ?_
   ·refine XS.istoreN X93.here hx rfl (hb hby d20_61) rfl (l' := #[(sR b), (sR lv), (sI (1 : Int32))]) rfl ?_
    show Steps _ _ _ (T93.setTop (mkF m 62 #[(sR b), (sR lv), (sI (1 : Int32))] [])) _
    refine XS.aloadN X93.here hx rfl (hb hby d20_62) rfl rfl ?_
    exact kt
   obtain ⟨T95, X95, e95, st95⟩ := getF X93 hx hZ hown (host := "") (Or.inl (hw _ (ix 14 rfl))) Via.refl e93 Fa (g := (mkF m 63 #[(sR b), (sR lv), (sI (1 : Int32))] [(.ref b)])) rfl rfl (hb hby d20_63)
   refine gu (T95.setTop (mkF m 66 #[(sR b), (sR lv), (sI (1 : Int32))] [(.ref la)])) (fun t kt => st95 _ kt) ?_
   refine gu (T95.setTop (mkF m 70 #[(sR b), (sR lv), (sI (1 : Int32))] [(.ref b), (.int (2 : Int32)), (.ref la)])) (fun t kt => ?_) ?_
   ·refine XS.iloadN X95.here hx rfl (hb hby d20_66) rfl ?_
    show Steps _ _ _ (T95.setTop (mkF m 67 #[(sR b), (sR lv), (sI (1 : Int32))] [(.int (1 : Int32)), (.ref la)])) _
    refine XS.iconst X95.here hx rfl (hb hby d20_67) ?_
    show Steps _ _ _ (T95.setTop (mkF m 68 #[(sR b), (sR lv), (sI (1 : Int32))] [(.int (1 : Int32)), (.int (1 : Int32)), (.ref la)])) _
    refine XS.iadd X95.here hx rfl (hb hby d20_68) rfl ?_
    show Steps _ _ _ (T95.setTop (mkF m 69 #[(sR b), (sR lv), (sI (1 : Int32))] [(.int (2 : Int32)), (.ref la)])) _
    refine XS.aloadN X95.here hx rfl (hb hby d20_69) rfl rfl ?_
    exact kt
   obtain ⟨T96, X96, e96, st96⟩ := getF X95 hx hZ hown (host := "") (Or.inl (hw _ (ix 14 rfl))) Via.refl e95 Fa (g := (mkF m 70 #[(sR b), (sR lv), (sI (1 : Int32))] [(.ref b), (.int (2 : Int32)), (.ref la)])) rfl rfl (hb hby d20_70)
   refine gu (T96.setTop (mkF m 73 #[(sR b), (sR lv), (sI (1 : Int32))] [(.ref la), (.int (2 : Int32)), (.ref la)])) (fun t kt => st96 _ kt) ?_
   refine gu (T96.setTop (mkF m 75 #[(sR b), (sR lv), (sI (1 : Int32))] [(.ref b), (.int (1 : Int32)), (.ref la), (.int (2 : Int32)), (.ref la)])) (fun t kt => ?_) ?_
   ·refine XS.iloadN X96.here hx rfl (hb hby d20_73) rfl ?_
    show Steps _ _ _ (T96.setTop (mkF m 74 #[(sR b), (sR lv), (sI (1 : Int32))] [(.int (1 : Int32)), (.ref la), (.int (2 : Int32)), (.ref la)])) _
    refine XS.aloadN X96.here hx rfl (hb hby d20_74) rfl rfl ?_
    exact kt
   obtain ⟨T97, X97, e97, st97⟩ := getF X96 hx hZ hown (host := "") (Or.inl (hw _ (ix 77 rfl))) Via.refl e96 Fe (g := (mkF m 75 #[(sR b), (sR lv), (sI (1 : Int32))] [(.ref b), (.int (1 : Int32)), (.ref la), (.int (2 : Int32)), (.ref la)])) rfl rfl (hb hby d20_75)
   refine gu (T97.setTop (mkF m 78 #[(sR b), (sR lv), (sI (1 : Int32))] [(.int (3 : Int32)), (.int (1 : Int32)), (.ref la), (.int (2 : Int32)), (.ref la)])) (fun t kt => st97 _ kt) ?_
   refine gu (T97.setTop (mkF m 82 #[(sR b), (sR lv), (sI (1 : Int32))] [(.int (1 : Int32)), (.int (1 : Int32)), (.ref la), (.int (2 : Int32)), (.ref la)])) (fun t kt => ?_) ?_
   ·refine XS.iloadN X97.here hx rfl (hb hby d20_78) rfl ?_
    show Steps _ _ _ (T97.setTop (mkF m 79 #[(sR b), (sR lv), (sI (1 : Int32))] [(.int (1 : Int32)), (.int (3 : Int32)), (.int (1 : Int32)), (.ref la), (.int (2 : Int32)), (.ref la)])) _
    refine XS.isub X97.here hx rfl (hb hby d20_79) rfl ?_
    show Steps _ _ _ (T97.setTop (mkF m 80 #[(sR b), (sR lv), (sI (1 : Int32))] [(.int (2 : Int32)), (.int (1 : Int32)), (.ref la), (.int (2 : Int32)), (.ref la)])) _
    refine XS.iconst X97.here hx rfl (hb hby d20_80) ?_
    show Steps _ _ _ (T97.setTop (mkF m 81 #[(sR b), (sR lv), (sI (1 : Int32))] [(.int (1 : Int32)), (.int (2 : Int32)), (.int (1 : Int32)), (.ref la), (.int (2 : Int32)), (.ref la)])) _
    refine XS.isub X97.here hx rfl (hb hby d20_81) rfl ?_
    exact kt
   obtain ⟨ca98, Ar98, q98, S98, M98, H98, U98⟩ := id V_la
   obtain ⟨T98, h98, Lc98, X98, e98, N98, K98, W98, st98⟩ := cpA X97 hx hZ hown (hw _ (ix 121 rfl)) (hw _ (ix 124 rfl)) (hw _ (ix 122 rfl)) (hw _ (ix 123 rfl)) e97 (sp := (2 : Int32)) (dp := (1 : Int32)) (nn := (1 : Int32)) (us := [(.ref a2)]) V_la V_la (Or.inr ⟨rfl, rfl, ⟨(Sto.ofV Ar98 q98 hov (Ins.self E_a2)), trivial⟩⟩) (by decide) (by decide) (by decide) (by decide) (by decide) rfl (Nat.le_of_ble_eq_true rfl) N0 g_la (g := (mkF m 82 #[(sR b), (sR lv), (sI (1 : Int32))] [(.int (1 : Int32)), (.int (1 : Int32)), (.ref la), (.int (2 : Int32)), (.ref la)])) rfl (sz hml) rfl (hb hby d20_82) (by decide) (W := 0) le0 (by decide)
   have O98 := O0.keep K98 (allS g_la all0)
   have KK98 : Keep h0 h98 [b, la, pa] := K0.trans K98 (allS (Or.inl (ix 1 rfl)) all0)
   have E_b_98 := E_b.keep K98
   have E_tm_98 := E_tm.keep K98
   have Fs_98 := Fs.keep K98 (ninS ne_tm_la nin0)
   have Fa_98 := Fa.keep K98 (ninS ne_b_la nin0)
   have Fb_98 := Fb.keep K98 (ninS ne_b_la nin0)
   have Fc_98 := Fc.keep K98 (ninS ne_b_la nin0)
   have Fd_98 := Fd.keep K98 (ninS ne_b_la nin0)
   have Fe_98 := Fe.keep K98 (ninS ne_b_la nin0)
   have V_pa_98 := V_pa.keep K98 (ninS (Ne.symm ne_la_pa) nin0)
   have E_a0_98 := E_a0.keep K98
   have F_a0_p_98 := F_a0_price.keep K98 (ninS ne_a0_la nin0)
   have E_lv_98 := E_lv.keep K98
   have F_lv_p_98 := F_lv_price.keep K98 (ninS ne_lv_la nin0)
   have E_a2_98 := E_a2.keep K98
   have F_a2_p_98 := F_a2_price.keep K98 (ninS ne_a2_la nin0)
   have V_la_98 : Arv Z h98 la kl oPL (256 : Int32) [(.ref a0), (.ref a2), (.ref a2)] .null := W98
   refine gu (T98.setTop (mkF m 85 #[(sR b), (sR lv), (sI (1 : Int32))] [])) (fun t kt => st98 _ kt) ?_
   refine gu (T98.setTop (mkF m 86 #[(sR b), (sR lv), (sI (1 : Int32))] [(.ref b)])) (fun t kt => ?_) ?_
   ·refine XS.aloadN X98.here hx rfl (hb hby d20_85) rfl rfl ?_
    exact kt
   obtain ⟨T99, X99, e99, st99⟩ := getF X98 hx hZ hown (host := "") (Or.inl (hw _ (ix 17 rfl))) Via.refl e98 Fb_98 (g := (mkF m 86 #[(sR b), (sR lv), (sI (1 : Int32))] [(.ref b)])) rfl rfl (hb hby d20_86)
   refine gu (T99.setTop (mkF m 89 #[(sR b), (sR lv), (sI (1 : Int32))] [(.ref pa)])) (fun t kt => st99 _ kt) ?_
   refine gu (T99.setTop (mkF m 93 #[(sR b), (sR lv), (sI (1 : Int32))] [(.ref b), (.int (2 : Int32)), (.ref pa)])) (fun t kt => ?_) ?_
   ·refine XS.iloadN X99.here hx rfl (hb hby d20_89) rfl ?_
    show Steps _ _ _ (T99.setTop (mkF m 90 #[(sR b), (sR lv), (sI (1 : Int32))] [(.int (1 : Int32)), (.ref pa)])) _
    refine XS.iconst X99.here hx rfl (hb hby d20_90) ?_
    show Steps _ _ _ (T99.setTop (mkF m 91 #[(sR b), (sR lv), (sI (1 : Int32))] [(.int (1 : Int32)), (.int (1 : Int32)), (.ref pa)])) _
    refine XS.iadd X99.here hx rfl (hb hby d20_91) rfl ?_
    show Steps _ _ _ (T99.setTop (mkF m 92 #[(sR b), (sR lv), (sI (1 : Int32))] [(.int (2 : Int32)), (.ref pa)])) _
    refine XS.aloadN X99.here hx rfl (hb hby d20_92) rfl rfl ?_
    exact kt
   obtain ⟨T100, X100, e100, st100⟩ := getF X99 hx hZ hown (host := "") (Or.inl (hw _ (ix 17 rfl))) Via.refl e99 Fb_98 (g := (mkF m 93 #[(sR b), (sR lv), (sI (1 : Int32))] [(.ref b), (.int (2 : Int32)), (.ref pa)])) rfl rfl (hb hby d20_93)
   refine gu (T100.setTop (mkF m 96 #[(sR b), (sR lv), (sI (1 : Int32))] [(.ref pa), (.int (2 : Int32)), (.ref pa)])) (fun t kt => st100 _ kt) ?_
   refine gu (T100.setTop (mkF m 98 #[(sR b), (sR lv), (sI (1 : Int32))] [(.ref b), (.int (1 : Int32)), (.ref pa), (.int (2 : Int32)), (.ref pa)])) (fun t kt => ?_) ?_
   ·refine XS.iloadN X100.here hx rfl (hb hby d20_96) rfl ?_
    show Steps _ _ _ (T100.setTop (mkF m 97 #[(sR b), (sR lv), (sI (1 : Int32))] [(.int (1 : Int32)), (.ref pa), (.int (2 : Int32)), (.ref pa)])) _
    refine XS.aloadN X100.here hx rfl (hb hby d20_97) rfl rfl ?_
    exact kt
   obtain ⟨T101, X101, e101, st101⟩ := getF X100 hx hZ hown (host := "") (Or.inl (hw _ (ix 77 rfl))) Via.refl e100 Fe_98 (g := (mkF m 98 #[(sR b), (sR lv), (sI (1 : Int32))] [(.ref b), (.int (1 : Int32)), (.ref pa), (.int (2 : Int32)), (.ref pa)])) rfl rfl (hb hby d20_98)
   refine gu (T101.setTop (mkF m 101 #[(sR b), (sR lv), (sI (1 : Int32))] [(.int (3 : Int32)), (.int (1 : Int32)), (.ref pa), (.int (2 : Int32)), (.ref pa)])) (fun t kt => st101 _ kt) ?_
   refine gu (T101.setTop (mkF m 105 #[(sR b), (sR lv), (sI (1 : Int32))] [(.int (1 : Int32)), (.int (1 : Int32)), (.ref pa), (.int (2 : Int32)), (.ref pa)])) (fun t kt => ?_) ?_
   ·refine XS.iloadN X101.here hx rfl (hb hby d20_101) rfl ?_
    show Steps _ _ _ (T101.setTop (mkF m 102 #[(sR b), (sR lv), (sI (1 : Int32))] [(.int (1 : Int32)), (.int (3 : Int32)), (.int (1 : Int32)), (.ref pa), (.int (2 : Int32)), (.ref pa)])) _
    refine XS.isub X101.here hx rfl (hb hby d20_102) rfl ?_
    show Steps _ _ _ (T101.setTop (mkF m 103 #[(sR b), (sR lv), (sI (1 : Int32))] [(.int (2 : Int32)), (.int (1 : Int32)), (.ref pa), (.int (2 : Int32)), (.ref pa)])) _
    refine XS.iconst X101.here hx rfl (hb hby d20_103) ?_
    show Steps _ _ _ (T101.setTop (mkF m 104 #[(sR b), (sR lv), (sI (1 : Int32))] [(.int (1 : Int32)), (.int (2 : Int32)), (.int (1 : Int32)), (.ref pa), (.int (2 : Int32)), (.ref pa)])) _
    refine XS.isub X101.here hx rfl (hb hby d20_104) rfl ?_
    exact kt
   obtain ⟨ca102, Ar102, q102, S102, M102, H102, U102⟩ := id V_pa_98
   obtain ⟨T102, h102, Lc102, X102, e102, N102, K102, W102, st102⟩ := cpA X101 hx hZ hown (hw _ (ix 121 rfl)) (hw _ (ix 124 rfl)) (hw _ (ix 122 rfl)) (hw _ (ix 123 rfl)) e101 (sp := (2 : Int32)) (dp := (1 : Int32)) (nn := (1 : Int32)) (us := [(.long x2)]) V_pa_98 V_pa_98 (Or.inl ⟨rfl, rfl⟩) (by decide) (by decide) (by decide) (by decide) (by decide) rfl (Nat.le_of_ble_eq_true rfl) N98 g_pa (g := (mkF m 105 #[(sR b), (sR lv), (sI (1 : Int32))] [(.int (1 : Int32)), (.int (1 : Int32)), (.ref pa), (.int (2 : Int32)), (.ref pa)])) rfl (sz hml) rfl (hb hby d20_105) (by decide) (W := 0) le0 (by decide)
   have O102 := O98.keep K102 (allS g_pa all0)
   have KK102 : Keep h0 h102 [b, la, pa] := KK98.trans K102 (allS (Or.inl (ix 2 rfl)) all0)
   have E_b_102 := E_b_98.keep K102
   have E_tm_102 := E_tm_98.keep K102
   have Fs_102 := Fs_98.keep K102 (ninS ne_tm_pa nin0)
   have Fa_102 := Fa_98.keep K102 (ninS ne_b_pa nin0)
   have Fb_102 := Fb_98.keep K102 (ninS ne_b_pa nin0)
   have Fc_102 := Fc_98.keep K102 (ninS ne_b_pa nin0)
   have Fd_102 := Fd_98.keep K102 (ninS ne_b_pa nin0)
   have Fe_102 := Fe_98.keep K102 (ninS ne_b_pa nin0)
   have E_a0_102 := E_a0_98.keep K102
   have F_a0_p_102 := F_a0_p_98.keep K102 (ninS ne_a0_pa nin0)
   have E_lv_102 := E_lv_98.keep K102
   have F_lv_p_102 := F_lv_p_98.keep K102 (ninS ne_lv_pa nin0)
   have E_a2_102 := E_a2_98.keep K102
   have F_a2_p_102 := F_a2_p_98.keep K102 (ninS ne_a2_pa nin0)
   have V_la_102 := V_la_98.keep K102 (ninS ne_la_pa nin0)
   have V_pa_102 : Arv Z h102 pa kp .long (256 : Int32) [(.long x0), (.long x2), (.long x2)] (.long (0 : Int64)) := W102
   refine gu (T102.setTop (mkF m 108 #[(sR b), (sR lv), (sI (1 : Int32))] [])) (fun t kt => st102 _ kt) ?_
   refine gu (T102.setTop (mkF m 109 #[(sR b), (sR lv), (sI (1 : Int32))] [(.ref b)])) (fun t kt => ?_) ?_
   ·refine XS.aloadN X102.here hx rfl (hb hby d20_108) rfl rfl ?_
    exact kt
   obtain ⟨T103, X103, e103, st103⟩ := getF X102 hx hZ hown (host := "") (Or.inl (hw _ (ix 14 rfl))) Via.refl e102 Fa_102 (g := (mkF m 109 #[(sR b), (sR lv), (sI (1 : Int32))] [(.ref b)])) rfl rfl (hb hby d20_109)
   refine gu (T103.setTop (mkF m 112 #[(sR b), (sR lv), (sI (1 : Int32))] [(.ref la)])) (fun t kt => st103 _ kt) ?_
   refine gu (T103.setTop (mkF m 114 #[(sR b), (sR lv), (sI (1 : Int32))] [(.ref b), (.ref b), (.ref la)])) (fun t kt => ?_) ?_
   ·refine XS.aloadN X103.here hx rfl (hb hby d20_112) rfl rfl ?_
    show Steps _ _ _ (T103.setTop (mkF m 113 #[(sR b), (sR lv), (sI (1 : Int32))] [(.ref b), (.ref la)])) _
    refine XS.dup X103.here hx rfl (hb hby d20_113) rfl rfl ?_
    exact kt
   obtain ⟨T104, X104, e104, st104⟩ := getF X103 hx hZ hown (host := "") (Or.inl (hw _ (ix 77 rfl))) Via.refl e103 Fe_102 (g := (mkF m 114 #[(sR b), (sR lv), (sI (1 : Int32))] [(.ref b), (.ref b), (.ref la)])) rfl rfl (hb hby d20_114)
   refine gu (T104.setTop (mkF m 117 #[(sR b), (sR lv), (sI (1 : Int32))] [(.int (3 : Int32)), (.ref b), (.ref la)])) (fun t kt => st104 _ kt) ?_
   refine gu (T104.setTop (mkF m 120 #[(sR b), (sR lv), (sI (1 : Int32))] [(.int (2 : Int32)), (.ref b), (.int (2 : Int32)), (.ref la)])) (fun t kt => ?_) ?_
   ·refine XS.iconst X104.here hx rfl (hb hby d20_117) ?_
    show Steps _ _ _ (T104.setTop (mkF m 118 #[(sR b), (sR lv), (sI (1 : Int32))] [(.int (1 : Int32)), (.int (3 : Int32)), (.ref b), (.ref la)])) _
    refine XS.isub X104.here hx rfl (hb hby d20_118) rfl ?_
    show Steps _ _ _ (T104.setTop (mkF m 119 #[(sR b), (sR lv), (sI (1 : Int32))] [(.int (2 : Int32)), (.ref b), (.ref la)])) _
    refine XS.dupX1 X104.here hx rfl (hb hby d20_119) rfl rfl rfl ?_
    exact kt
   obtain ⟨T105, h105, X105, e105, W105, st105⟩ := putF X104 hx hZ hown (host := "") (Or.inl (hw _ (ix 77 rfl))) Via.refl e104 Fe_102 E_b_102 (Or.inl (hw _ (ix 78 rfl))) (hw _ (ix 4 rfl)) (ty := .int) (by decide) rfl rfl (g := (mkF m 120 #[(sR b), (sR lv), (sI (1 : Int32))] [(.int (2 : Int32)), (.ref b), (.int (2 : Int32)), (.ref la)])) rfl rfl (hb hby d20_120)
   have N105 := Fr.snoc X105 N102 g_b
   have O105 := O102.wr W105 g_b
   have K105 : Keep h0 h105 [b, la, pa] := KK102.wr W105 (Or.inl (ix 0 rfl))
   have E_b_105 := E_b_102.wr W105
   have E_tm_105 := E_tm_102.wr W105
   have Fs_105 := Fs_102.other W105 (Or.inl (Ne.symm ne_b_tm))
   have Fa_105 := Fa_102.other W105 (Or.inr (slot_ne (Or.inr (hw _ (ix 15 rfl))) (Or.inl (hw _ (ix 78 rfl))) (by decide) (t := (.array (.object "com/example/openvenue/openvenue/core/PriceLevel"))) (t' := .int) (by decide) (by decide)))
   have Fb_105 := Fb_102.other W105 (Or.inr (slot_ne (Or.inr (hw _ (ix 18 rfl))) (Or.inl (hw _ (ix 78 rfl))) (by decide) (t := (.array .long)) (t' := .int) (by decide) (by decide)))
   have Fc_105 := Fc_102.other W105 (Or.inr (slot_ne (Or.inr (hw _ (ix 36 rfl))) (Or.inl (hw _ (ix 78 rfl))) (by decide) (t := (.object "com/example/openvenue/openvenue/core/Side")) (t' := .int) (by decide) (by decide)))
   have Fd_105 := Fd_102.other W105 (Or.inr (slot_ne (Or.inr (hw _ (ix 65 rfl))) (Or.inl (hw _ (ix 78 rfl))) (by decide) (t := (.object "java/util/NavigableMap")) (t' := .int) (by decide) (by decide)))
   have E_a0_105 := E_a0_102.wr W105
   have F_a0_p_105 := F_a0_p_102.other W105 (Or.inl (Ne.symm ne_b_a0))
   have E_lv_105 := E_lv_102.wr W105
   have F_lv_p_105 := F_lv_p_102.other W105 (Or.inl (Ne.symm ne_b_lv))
   have E_a2_105 := E_a2_102.wr W105
   have F_a2_p_105 := F_a2_p_102.other W105 (Or.inl (Ne.symm ne_b_a2))
   have V_la_105 := V_la_102.other W105 (Ne.symm ne_b_la)
   have V_pa_105 := V_pa_102.other W105 (Ne.symm ne_b_pa)
   have Fe_105 := Fe_102.same W105
   refine gu (T105.setTop (mkF m 123 #[(sR b), (sR lv), (sI (1 : Int32))] [(.int (2 : Int32)), (.ref la)])) (fun t kt => st105 _ kt) ?_
   refine gu (T105.setTop (mkF m 124 #[(sR b), (sR lv), (sI (1 : Int32))] [.null, (.int (2 : Int32)), (.ref la)])) (fun t kt => ?_) ?_
   ·refine XS.aconstNull X105.here hx rfl (hb hby d20_123) ?_
    exact kt
   obtain ⟨ca106, Ar106, q106, S106, M106, H106, U106⟩ := id V_la_105
   obtain ⟨T106, h106, X106, e106, W106, st106⟩ := stR X105 hx hZ e105 Ar106 (j := (2 : Int32)) (v := .null) (inb_of S106 ⟨by decide, by decide⟩) rfl (Or.inl rfl) (g := (mkF m 124 #[(sR b), (sR lv), (sI (1 : Int32))] [.null, (.int (2 : Int32)), (.ref la)])) rfl rfl (hb hby d20_124)
   have N106 := Fr.snoc X106 N105 g_la
   have O106 := O105.wr W106 g_la
   have K106 : Keep h0 h106 [b, la, pa] := K105.wr W106 (Or.inl (ix 1 rfl))
   have E_b_106 := E_b_105.wr W106
   have E_tm_106 := E_tm_105.wr W106
   have Fs_106 := Fs_105.other W106 (Or.inl ne_tm_la)
   have Fa_106 := Fa_105.other W106 (Or.inl ne_b_la)
   have Fb_106 := Fb_105.other W106 (Or.inl ne_b_la)
   have Fc_106 := Fc_105.other W106 (Or.inl ne_b_la)
   have Fd_106 := Fd_105.other W106 (Or.inl ne_b_la)
   have Fe_106 := Fe_105.other W106 (Or.inl ne_b_la)
   have E_a0_106 := E_a0_105.wr W106
   have F_a0_p_106 := F_a0_p_105.other W106 (Or.inl ne_a0_la)
   have E_lv_106 := E_lv_105.wr W106
   have F_lv_p_106 := F_lv_p_105.other W106 (Or.inl ne_lv_la)
   have E_a2_106 := E_a2_105.wr W106
   have F_a2_p_106 := F_a2_p_105.other W106 (Or.inl ne_a2_la)
   have V_pa_106 := V_pa_105.other W106 (Ne.symm ne_la_pa)
   have V_la_106 : Arv Z h106 la kl oPL (256 : Int32) [(.ref a0), (.ref a2), .null] .null := Arv.set Ar106 q106 S106 M106 H106 U106 rfl W106 2 rfl (Nat.le_of_ble_eq_true rfl)
   refine gu (T106.setTop (mkF m 125 #[(sR b), (sR lv), (sI (1 : Int32))] [])) (fun t kt => st106 _ kt) ?_
   refine gu (T106.setTop (mkF m 126 #[(sR b), (sR lv), (sI (1 : Int32))] [(.ref b)])) (fun t kt => ?_) ?_
   ·refine XS.aloadN X106.here hx rfl (hb hby d20_125) rfl rfl ?_
    exact kt
   obtain ⟨T107, X107, e107, st107⟩ := getF X106 hx hZ hown (host := "") (Or.inl (hw _ (ix 77 rfl))) Via.refl e106 Fe_106 (g := (mkF m 126 #[(sR b), (sR lv), (sI (1 : Int32))] [(.ref b)])) rfl rfl (hb hby d20_126)
   refine gu (T107.setTop (mkF m 129 #[(sR b), (sR lv), (sI (1 : Int32))] [(.int (2 : Int32))])) (fun t kt => st107 _ kt) ?_
   refine gu (T107.setTop (mkF m 148 #[(sR b), (sR lv), (sI (1 : Int32))] [])) (fun t kt => ?_) ?_
   ·refine XS.ifYes X107.here hx rfl (pc0 := 129) (pc' := 148) rfl (hb hby d20_129) rfl ((if0 _ _).trans (feq (by decide : ¬ ((2 : Int32) = (0 : Int32)))).2) (by decide) (by decide) ?_
    exact kt
   refine Gl.ret0 X107 hx hlk Bd.returns (hb hby d20_148) ?_ (by decide) (by decide)
   show Q20 Z _ _ _ _ _ _ _ _ _ _ _ h0 n0 _ T107.heap _; rw [e107]; have V_la_108 : Arv Z h106 la kl oPL (256 : Int32) [(.ref a0), (.ref a2)] .null := V_la_106.pad fun i => (pad_rep [(.ref a0), (.ref a2)] .null 1 i).symm; have BB : Bp Z h106 b la sd wB kl [(a0, x0), (a2, x2)] := ⟨E_b_106, Fa_106, Fe_106, V_la_108, (lvS ⟨E_a0_106, F_a0_p_106⟩ (lvS ⟨E_a2_106, F_a2_p_106⟩ lv0)), srt2 o02⟩; have nx0 : x0 ≠ xv := (fun z => by rw [z] at o01; omega); have nx2 : x2 ≠ xv := (fun z => by rw [z] at o12; omega); exact ⟨rfl, N106, K106, _, BB, own_rem (l1 := [(a0, x0)]) (l2 := [(a2, x2)]) (lvS nx0 (lvS nx2 lv0)), by simp⟩
  ·obtain ⟨E_b, Fa, Fb, Fc, Fd, Fe0, E_tm, Fs, V_la0, V_pa0, hov, g_b, g_la, g_pa, hlv, hso⟩ := B0
   have Fe : Fld Z h0 b "com/example/openvenue/openvenue/core/BookSide" "count" "I" (.int (3 : Int32)) := Fe0
   have V_la : Arv Z h0 la kl oPL (256 : Int32) [(.ref a0), (.ref a1), (.ref lv)] .null := V_la0
   have V_pa : Arv Z h0 pa kp .long (256 : Int32) [(.long x0), (.long x1), (.long xv)] (.long (0 : Int64)) := V_pa0
   obtain ⟨E_a0, F_a0_price⟩ := hlv (a0, x0) (by simp)
   obtain ⟨E_a1, F_a1_price⟩ := hlv (a1, x1) (by simp)
   obtain ⟨E_lv, F_lv_price⟩ := hlv (lv, xv) (by simp)
   obtain ⟨o01, o12⟩ := srt3' (x := x0) (y := x1) (z := xv) hso
   have o02 : ky sd wB x0 < ky sd wB xv := by omega
   have ne_b_la : b ≠ la := Exa.neArv E_b V_la (hw _ (ix 4 rfl))
   have ne_b_pa : b ≠ pa := Exa.neArv E_b V_pa (hw _ (ix 4 rfl))
   have ne_tm_la : tm ≠ la := Exa.neArv E_tm V_la (hw _ (ix 46 rfl))
   have ne_tm_pa : tm ≠ pa := Exa.neArv E_tm V_pa (hw _ (ix 46 rfl))
   have ne_a0_la : a0 ≠ la := Exa.neArv E_a0 V_la (hw _ (ix 125 rfl))
   have ne_a0_pa : a0 ≠ pa := Exa.neArv E_a0 V_pa (hw _ (ix 125 rfl))
   have ne_a1_la : a1 ≠ la := Exa.neArv E_a1 V_la (hw _ (ix 125 rfl))
   have ne_a1_pa : a1 ≠ pa := Exa.neArv E_a1 V_pa (hw _ (ix 125 rfl))
   have ne_lv_la : lv ≠ la := Exa.neArv E_lv V_la (hw _ (ix 125 rfl))
   have ne_lv_pa : lv ≠ pa := Exa.neArv E_lv V_pa (hw _ (ix 125 rfl))
   have ne_la_pa : la ≠ pa := own_arvne V_la V_pa
   have ne_b_tm : b ≠ tm := ne_exa E_b E_tm (by decide)
   have ne_b_a0 : b ≠ a0 := ne_exa E_b E_a0 (by decide)
   have ne_b_a1 : b ≠ a1 := ne_exa E_b E_a1 (by decide)
   have ne_b_lv : b ≠ lv := ne_exa E_b E_lv (by decide)
   have ne_tm_a0 : tm ≠ a0 := ne_exa E_tm E_a0 (by decide)
   have ne_tm_a1 : tm ≠ a1 := ne_exa E_tm E_a1 (by decide)
   have ne_tm_lv : tm ≠ lv := ne_exa E_tm E_lv (by decide)
   have ne_a0_a1 : a0 ≠ a1 := Fld.ne F_a0_price F_a1_price (ky_ne o01)
   have ne_a0_lv : a0 ≠ lv := Fld.ne F_a0_price F_lv_price (ky_ne o02)
   have ne_a1_lv : a1 ≠ lv := Fld.ne F_a1_price F_lv_price (ky_ne o12)
   refine gu (s₁.setTop (mkF m 2 #[(sR b), (sR lv), .unset] [(.ref lv), (.ref b)])) (fun t kt => ?_) ?_
   ·refine XS.aloadN X0.here hx rfl (hb hby d20_0) rfl rfl ?_
    show Steps _ _ _ (s₁.setTop (mkF m 1 #[(sR b), (sR lv), .unset] [(.ref b)])) _
    refine XS.aloadN X0.here hx rfl (hb hby d20_1) rfl rfl ?_
    exact kt
   obtain ⟨cq109, kq109, q109a, q109b, q109c⟩ := isOf hZ e0 E_lv
   obtain ⟨_, _, ⟨T109, L109, k109, n109⟩, -, X109, ⟨Lc109, hQ109, l109, y109, z109⟩, st109⟩ := X0.virtualBack hx (y := mn0) (z := mn0) hown (mvT hZ (hw _ (ix 154 rfl))) (mvT hZ (hw _ (ix 155 rfl))) (notFace_of_selects (args := #[]) (mvT hZ (hw _ (ix 157 rfl)))) (mvT hZ (hw _ (ix 157 rfl))) (mvT hZ (hw _ (ix 156 rfl))) (by decide) (backOf (W := 1) (rm1 l Z aa hw [] lv xv h0 n0 O0 E_lv F_lv_price) hZ (hw _ (ix 158 rfl)) (hw _ (ix 126 rfl)) (by decide) (by decide)) q109a q109c (g := (mkF m 2 #[(sR b), (sR lv), .unset] [(.ref lv), (.ref b)])) rfl (sz hml) (Steps.refl _) (argsL := []) (rest := [(.ref b)]) (lenOf pd_ocJ rfl) rfl le0 (hb hby d20_2) (fun _ _ => ⟨rfl, e0, (by decide : 0 + 0 ≤ _), (by decide : 0 + 0 ≤ _)⟩)
   dsimp only [Pt.U, Pt.locs, Pt.cells, Pt.slots] at X109 l109 y109 z109 st109 hQ109
   subst l109 y109 z109
   obtain ⟨rfl, rfl, e109⟩ := hQ109
   try rw [List.append_nil] at X109
   refine gu (T109.setTop (mkF m 5 #[(sR b), (sR lv), .unset] [(.long xv), (.ref b)])) (fun t kt => st109.trans kt) ?_
   obtain ⟨cq110, q110, r110⟩ := E_b.cell
   obtain ⟨_, _, ⟨T110, L110, k110, n110⟩, -, X110, ⟨Lc110, hQ110, l110, y110, z110⟩, st110⟩ := X109.privateBack hx (y := mn13) hown (mvT hZ (hw _ (ix 94 rfl))) (mvT hZ (hw _ (ix 95 rfl))) (own_selp (mvT hZ (hw _ (ix 4 rfl))) (mvP hZ (hw _ (ix 96 rfl))) (mvT hZ (hw _ (ix 95 rfl))) (by decide)) (Cond.privateMethod_at (mvP hZ (hw _ (ix 96 rfl)) (args := #[]))) (mvT hZ (hw _ (ix 97 rfl))) (by decide) (backOf (W := 0) (rm13 l Z aa hw [] b xv tm h0 n0 O0 E_b Fd E_tm Fs) hZ (hw _ (ix 97 rfl)) (hw _ (ix 5 rfl)) (by decide) (by decide)) (g := (mkF m 5 #[(sR b), (sR lv), .unset] [(.long xv), (.ref b)])) rfl (sz hml) (Steps.refl _) (a := b) (by rw [e109]; exact q110) r110 (argsL := [(.long xv)]) (rest := []) (lenOf pd_oJcZ rfl) rfl le0 (hb hby d20_5) (fun _ _ => ⟨rfl, e109, (by decide : 0 + 0 ≤ _), (by decide : 0 + 0 ≤ _)⟩)
   dsimp only [Pt.U, Pt.locs, Pt.cells, Pt.slots] at X110 l110 y110 z110 st110 hQ110
   subst l110 y110 z110
   obtain ⟨rfl, rfl, e110⟩ := hQ110
   try rw [List.append_nil] at X110
   refine gu (T110.setTop (mkF m 8 #[(sR b), (sR lv), .unset] [(.int (0 : Int32))])) (fun t kt => st110.trans kt) ?_
   refine gu (T110.setTop (mkF m 30 #[(sR b), (sR lv), .unset] [(.ref b)])) (fun t kt => ?_) ?_
   ·refine XS.ifYes X110.here hx rfl (pc0 := 8) (pc' := 29) rfl (hb hby d20_8) rfl ((if0 _ _).trans (teq (rfl : (0 : Int32) = (0 : Int32))).1) (by decide) (by decide) ?_
    show Steps _ _ _ (T110.setTop (mkF m 29 #[(sR b), (sR lv), .unset] [])) _
    refine XS.aloadN X110.here hx rfl (hb hby d20_29) rfl rfl ?_
    exact kt
   obtain ⟨T111, X111, e111, st111⟩ := getF X110 hx hZ hown (host := "") (Or.inl (hw _ (ix 14 rfl))) Via.refl e110 Fa (g := (mkF m 30 #[(sR b), (sR lv), .unset] [(.ref b)])) rfl rfl (hb hby d20_30)
   refine gu (T111.setTop (mkF m 33 #[(sR b), (sR lv), .unset] [(.ref la)])) (fun t kt => st111 _ kt) ?_
   refine gu (T111.setTop (mkF m 34 #[(sR b), (sR lv), .unset] [(.ref b), (.ref la)])) (fun t kt => ?_) ?_
   ·refine XS.aloadN X111.here hx rfl (hb hby d20_33) rfl rfl ?_
    exact kt
   obtain ⟨T112, X112, e112, st112⟩ := getF X111 hx hZ hown (host := "") (Or.inl (hw _ (ix 77 rfl))) Via.refl e111 Fe (g := (mkF m 34 #[(sR b), (sR lv), .unset] [(.ref b), (.ref la)])) rfl rfl (hb hby d20_34)
   refine gu (T112.setTop (mkF m 37 #[(sR b), (sR lv), .unset] [(.int (3 : Int32)), (.ref la)])) (fun t kt => st112 _ kt) ?_
   obtain ⟨ca113, Ar113, q113, S113, M113, H113, U113⟩ := id V_la
   refine gu (T112.setTop (mkF m 39 #[(sR b), (sR lv), .unset] [(.int (2 : Int32)), (.ref la)])) (fun t kt => ?_) ?_
   ·refine XS.iconst X112.here hx rfl (hb hby d20_37) ?_
    show Steps _ _ _ (T112.setTop (mkF m 38 #[(sR b), (sR lv), .unset] [(.int (1 : Int32)), (.int (3 : Int32)), (.ref la)])) _
    refine XS.isub X112.here hx rfl (hb hby d20_38) rfl ?_
    exact kt
   refine gu (T112.setTop (mkF m 45 #[(sR b), (sR lv), .unset] [(.ref b)])) (fun t kt => ?_) ?_
   ·refine X112.aaload hx (j := (2 : Int32)) (v := (.ref lv)) (by rw [e112]; exact Ar113.1) (State.isArrayOf_alike hZ.alike Ar113.2.1) rfl Ar113.2.2 (inb_of S113 ⟨by decide, by decide⟩) (Has.at H113 (inb_of S113 ⟨by decide, by decide⟩) rfl) (g := (mkF m 39 #[(sR b), (sR lv), .unset] [(.int (2 : Int32)), (.ref la)])) rfl rfl (hb hby d20_39) _ ?_
    show Steps _ _ _ (T112.setTop (mkF m 40 #[(sR b), (sR lv), .unset] [(.ref lv)])) _
    refine XS.aloadN X112.here hx rfl (hb hby d20_40) rfl rfl ?_
    show Steps _ _ _ (T112.setTop (mkF m 41 #[(sR b), (sR lv), .unset] [(.ref lv), (.ref lv)])) _
    refine Jvm.RoadKit.acmp (g := (mkF m 41 #[(sR b), (sR lv), .unset] [(.ref lv), (.ref lv)])) X112 hx rfl rfl rfl (pc0 := 41) (pc' := 44) (same := true) rfl (hb hby d20_41) rfl (decide_eq_true rfl) (by decide) (by decide) ?_
    show Steps _ _ _ (T112.setTop (mkF m 44 #[(sR b), (sR lv), .unset] [])) _
    refine XS.aloadN X112.here hx rfl (hb hby d20_44) rfl rfl ?_
    exact kt
   obtain ⟨T114, X114, e114, st114⟩ := getF X112 hx hZ hown (host := "") (Or.inl (hw _ (ix 77 rfl))) Via.refl e112 Fe (g := (mkF m 45 #[(sR b), (sR lv), .unset] [(.ref b)])) rfl rfl (hb hby d20_45)
   refine gu (T114.setTop (mkF m 48 #[(sR b), (sR lv), .unset] [(.int (3 : Int32))])) (fun t kt => st114 _ kt) ?_
   refine gu (T114.setTop (mkF m 63 #[(sR b), (sR lv), (sI (2 : Int32))] [(.ref b)])) (fun t kt => ?_) ?_
   ·refine XS.iconst X114.here hx rfl (hb hby d20_48) ?_
    show Steps _ _ _ (T114.setTop (mkF m 49 #[(sR b), (sR lv), .unset] [(.int (1 : Int32)), (.int (3 : Int32))])) _
    refine XS.isub X114.here hx rfl (hb hby d20_49) rfl ?_
    show Steps _ _ _ (T114.setTop (mkF m 50 #[(sR b), (sR lv), .unset] [(.int (2 : Int32))])) _
    refine XS.goto X114.here hx rfl (pc0 := 50) (pc' := 61) rfl (hb hby d20_50) (by decide) (by decide) ?_
    show Steps _ _ _ (T114.setTop (mkF m 61 #[(sR b), (sR lv), .unset] [(.int (2 : Int32))])) _
    refine XS.istoreN X114.here hx rfl (hb hby d20_61) rfl (l' := #[(sR b), (sR lv), (sI (2 : Int32))]) rfl ?_
    show Steps _ _ _ (T114.setTop (mkF m 62 #[(sR b), (sR lv), (sI (2 : Int32))] [])) _
    refine XS.aloadN X114.here hx rfl (hb hby d20_62) rfl rfl ?_
    exact kt
   obtain ⟨T115, X115, e115, st115⟩ := getF X114 hx hZ hown (host := "") (Or.inl (hw _ (ix 14 rfl))) Via.refl e114 Fa (g := (mkF m 63 #[(sR b), (sR lv), (sI (2 : Int32))] [(.ref b)])) rfl rfl (hb hby d20_63)
   refine gu (T115.setTop (mkF m 66 #[(sR b), (sR lv), (sI (2 : Int32))] [(.ref la)])) (fun t kt => st115 _ kt) ?_
   refine gu (T115.setTop (mkF m 70 #[(sR b), (sR lv), (sI (2 : Int32))] [(.ref b), (.int (3 : Int32)), (.ref la)])) (fun t kt => ?_) ?_
   ·refine XS.iloadN X115.here hx rfl (hb hby d20_66) rfl ?_
    show Steps _ _ _ (T115.setTop (mkF m 67 #[(sR b), (sR lv), (sI (2 : Int32))] [(.int (2 : Int32)), (.ref la)])) _
    refine XS.iconst X115.here hx rfl (hb hby d20_67) ?_
    show Steps _ _ _ (T115.setTop (mkF m 68 #[(sR b), (sR lv), (sI (2 : Int32))] [(.int (1 : Int32)), (.int (2 : Int32)), (.ref la)])) _
    refine XS.iadd X115.here hx rfl (hb hby d20_68) rfl ?_
    show Steps _ _ _ (T115.setTop (mkF m 69 #[(sR b), (sR lv), (sI (2 : Int32))] [(.int (3 : Int32)), (.ref la)])) _
    refine XS.aloadN X115.here hx rfl (hb hby d20_69) rfl rfl ?_
    exact kt
   obtain ⟨T116, X116, e116, st116⟩ := getF X115 hx hZ hown (host := "") (Or.inl (hw _ (ix 14 rfl))) Via.refl e115 Fa (g := (mkF m 70 #[(sR b), (sR lv), (sI (2 : Int32))] [(.ref b), (.int (3 : Int32)), (.ref la)])) rfl rfl (hb hby d20_70)
   refine gu (T116.setTop (mkF m 73 #[(sR b), (sR lv), (sI (2 : Int32))] [(.ref la), (.int (3 : Int32)), (.ref la)])) (fun t kt => st116 _ kt) ?_
   refine gu (T116.setTop (mkF m 75 #[(sR b), (sR lv), (sI (2 : Int32))] [(.ref b), (.int (2 : Int32)), (.ref la), (.int (3 : Int32)), (.ref la)])) (fun t kt => ?_) ?_
   ·refine XS.iloadN X116.here hx rfl (hb hby d20_73) rfl ?_
    show Steps _ _ _ (T116.setTop (mkF m 74 #[(sR b), (sR lv), (sI (2 : Int32))] [(.int (2 : Int32)), (.ref la), (.int (3 : Int32)), (.ref la)])) _
    refine XS.aloadN X116.here hx rfl (hb hby d20_74) rfl rfl ?_
    exact kt
   obtain ⟨T117, X117, e117, st117⟩ := getF X116 hx hZ hown (host := "") (Or.inl (hw _ (ix 77 rfl))) Via.refl e116 Fe (g := (mkF m 75 #[(sR b), (sR lv), (sI (2 : Int32))] [(.ref b), (.int (2 : Int32)), (.ref la), (.int (3 : Int32)), (.ref la)])) rfl rfl (hb hby d20_75)
   refine gu (T117.setTop (mkF m 78 #[(sR b), (sR lv), (sI (2 : Int32))] [(.int (3 : Int32)), (.int (2 : Int32)), (.ref la), (.int (3 : Int32)), (.ref la)])) (fun t kt => st117 _ kt) ?_
   refine gu (T117.setTop (mkF m 82 #[(sR b), (sR lv), (sI (2 : Int32))] [(.int (0 : Int32)), (.int (2 : Int32)), (.ref la), (.int (3 : Int32)), (.ref la)])) (fun t kt => ?_) ?_
   ·refine XS.iloadN X117.here hx rfl (hb hby d20_78) rfl ?_
    show Steps _ _ _ (T117.setTop (mkF m 79 #[(sR b), (sR lv), (sI (2 : Int32))] [(.int (2 : Int32)), (.int (3 : Int32)), (.int (2 : Int32)), (.ref la), (.int (3 : Int32)), (.ref la)])) _
    refine XS.isub X117.here hx rfl (hb hby d20_79) rfl ?_
    show Steps _ _ _ (T117.setTop (mkF m 80 #[(sR b), (sR lv), (sI (2 : Int32))] [(.int (1 : Int32)), (.int (2 : Int32)), (.ref la), (.int (3 : Int32)), (.ref la)])) _
    refine XS.iconst X117.here hx rfl (hb hby d20_80) ?_
    show Steps _ _ _ (T117.setTop (mkF m 81 #[(sR b), (sR lv), (sI (2 : Int32))] [(.int (1 : Int32)), (.int (1 : Int32)), (.int (2 : Int32)), (.ref la), (.int (3 : Int32)), (.ref la)])) _
    refine XS.isub X117.here hx rfl (hb hby d20_81) rfl ?_
    exact kt
   obtain ⟨ca118, Ar118, q118, S118, M118, H118, U118⟩ := id V_la
   obtain ⟨T118, h118, Lc118, X118, e118, N118, K118, W118, st118⟩ := cpA X117 hx hZ hown (hw _ (ix 121 rfl)) (hw _ (ix 124 rfl)) (hw _ (ix 122 rfl)) (hw _ (ix 123 rfl)) e117 (sp := (3 : Int32)) (dp := (2 : Int32)) (nn := (0 : Int32)) (us := []) V_la V_la (Or.inr ⟨rfl, rfl, trivial⟩) (by decide) (by decide) (by decide) (by decide) (by decide) rfl (Nat.le_of_ble_eq_true rfl) N0 g_la (g := (mkF m 82 #[(sR b), (sR lv), (sI (2 : Int32))] [(.int (0 : Int32)), (.int (2 : Int32)), (.ref la), (.int (3 : Int32)), (.ref la)])) rfl (sz hml) rfl (hb hby d20_82) (by decide) (W := 0) le0 (by decide)
   have O118 := O0.keep K118 (allS g_la all0)
   have KK118 : Keep h0 h118 [b, la, pa] := K0.trans K118 (allS (Or.inl (ix 1 rfl)) all0)
   have E_b_118 := E_b.keep K118
   have E_tm_118 := E_tm.keep K118
   have Fs_118 := Fs.keep K118 (ninS ne_tm_la nin0)
   have Fa_118 := Fa.keep K118 (ninS ne_b_la nin0)
   have Fb_118 := Fb.keep K118 (ninS ne_b_la nin0)
   have Fc_118 := Fc.keep K118 (ninS ne_b_la nin0)
   have Fd_118 := Fd.keep K118 (ninS ne_b_la nin0)
   have Fe_118 := Fe.keep K118 (ninS ne_b_la nin0)
   have V_pa_118 := V_pa.keep K118 (ninS (Ne.symm ne_la_pa) nin0)
   have E_a0_118 := E_a0.keep K118
   have F_a0_p_118 := F_a0_price.keep K118 (ninS ne_a0_la nin0)
   have E_a1_118 := E_a1.keep K118
   have F_a1_p_118 := F_a1_price.keep K118 (ninS ne_a1_la nin0)
   have E_lv_118 := E_lv.keep K118
   have F_lv_p_118 := F_lv_price.keep K118 (ninS ne_lv_la nin0)
   have V_la_118 : Arv Z h118 la kl oPL (256 : Int32) [(.ref a0), (.ref a1), (.ref lv)] .null := W118
   refine gu (T118.setTop (mkF m 85 #[(sR b), (sR lv), (sI (2 : Int32))] [])) (fun t kt => st118 _ kt) ?_
   refine gu (T118.setTop (mkF m 86 #[(sR b), (sR lv), (sI (2 : Int32))] [(.ref b)])) (fun t kt => ?_) ?_
   ·refine XS.aloadN X118.here hx rfl (hb hby d20_85) rfl rfl ?_
    exact kt
   obtain ⟨T119, X119, e119, st119⟩ := getF X118 hx hZ hown (host := "") (Or.inl (hw _ (ix 17 rfl))) Via.refl e118 Fb_118 (g := (mkF m 86 #[(sR b), (sR lv), (sI (2 : Int32))] [(.ref b)])) rfl rfl (hb hby d20_86)
   refine gu (T119.setTop (mkF m 89 #[(sR b), (sR lv), (sI (2 : Int32))] [(.ref pa)])) (fun t kt => st119 _ kt) ?_
   refine gu (T119.setTop (mkF m 93 #[(sR b), (sR lv), (sI (2 : Int32))] [(.ref b), (.int (3 : Int32)), (.ref pa)])) (fun t kt => ?_) ?_
   ·refine XS.iloadN X119.here hx rfl (hb hby d20_89) rfl ?_
    show Steps _ _ _ (T119.setTop (mkF m 90 #[(sR b), (sR lv), (sI (2 : Int32))] [(.int (2 : Int32)), (.ref pa)])) _
    refine XS.iconst X119.here hx rfl (hb hby d20_90) ?_
    show Steps _ _ _ (T119.setTop (mkF m 91 #[(sR b), (sR lv), (sI (2 : Int32))] [(.int (1 : Int32)), (.int (2 : Int32)), (.ref pa)])) _
    refine XS.iadd X119.here hx rfl (hb hby d20_91) rfl ?_
    show Steps _ _ _ (T119.setTop (mkF m 92 #[(sR b), (sR lv), (sI (2 : Int32))] [(.int (3 : Int32)), (.ref pa)])) _
    refine XS.aloadN X119.here hx rfl (hb hby d20_92) rfl rfl ?_
    exact kt
   obtain ⟨T120, X120, e120, st120⟩ := getF X119 hx hZ hown (host := "") (Or.inl (hw _ (ix 17 rfl))) Via.refl e119 Fb_118 (g := (mkF m 93 #[(sR b), (sR lv), (sI (2 : Int32))] [(.ref b), (.int (3 : Int32)), (.ref pa)])) rfl rfl (hb hby d20_93)
   refine gu (T120.setTop (mkF m 96 #[(sR b), (sR lv), (sI (2 : Int32))] [(.ref pa), (.int (3 : Int32)), (.ref pa)])) (fun t kt => st120 _ kt) ?_
   refine gu (T120.setTop (mkF m 98 #[(sR b), (sR lv), (sI (2 : Int32))] [(.ref b), (.int (2 : Int32)), (.ref pa), (.int (3 : Int32)), (.ref pa)])) (fun t kt => ?_) ?_
   ·refine XS.iloadN X120.here hx rfl (hb hby d20_96) rfl ?_
    show Steps _ _ _ (T120.setTop (mkF m 97 #[(sR b), (sR lv), (sI (2 : Int32))] [(.int (2 : Int32)), (.ref pa), (.int (3 : Int32)), (.ref pa)])) _
    refine XS.aloadN X120.here hx rfl (hb hby d20_97) rfl rfl ?_
    exact kt
   obtain ⟨T121, X121, e121, st121⟩ := getF X120 hx hZ hown (host := "") (Or.inl (hw _ (ix 77 rfl))) Via.refl e120 Fe_118 (g := (mkF m 98 #[(sR b), (sR lv), (sI (2 : Int32))] [(.ref b), (.int (2 : Int32)), (.ref pa), (.int (3 : Int32)), (.ref pa)])) rfl rfl (hb hby d20_98)
   refine gu (T121.setTop (mkF m 101 #[(sR b), (sR lv), (sI (2 : Int32))] [(.int (3 : Int32)), (.int (2 : Int32)), (.ref pa), (.int (3 : Int32)), (.ref pa)])) (fun t kt => st121 _ kt) ?_
   refine gu (T121.setTop (mkF m 105 #[(sR b), (sR lv), (sI (2 : Int32))] [(.int (0 : Int32)), (.int (2 : Int32)), (.ref pa), (.int (3 : Int32)), (.ref pa)])) (fun t kt => ?_) ?_
   ·refine XS.iloadN X121.here hx rfl (hb hby d20_101) rfl ?_
    show Steps _ _ _ (T121.setTop (mkF m 102 #[(sR b), (sR lv), (sI (2 : Int32))] [(.int (2 : Int32)), (.int (3 : Int32)), (.int (2 : Int32)), (.ref pa), (.int (3 : Int32)), (.ref pa)])) _
    refine XS.isub X121.here hx rfl (hb hby d20_102) rfl ?_
    show Steps _ _ _ (T121.setTop (mkF m 103 #[(sR b), (sR lv), (sI (2 : Int32))] [(.int (1 : Int32)), (.int (2 : Int32)), (.ref pa), (.int (3 : Int32)), (.ref pa)])) _
    refine XS.iconst X121.here hx rfl (hb hby d20_103) ?_
    show Steps _ _ _ (T121.setTop (mkF m 104 #[(sR b), (sR lv), (sI (2 : Int32))] [(.int (1 : Int32)), (.int (1 : Int32)), (.int (2 : Int32)), (.ref pa), (.int (3 : Int32)), (.ref pa)])) _
    refine XS.isub X121.here hx rfl (hb hby d20_104) rfl ?_
    exact kt
   obtain ⟨ca122, Ar122, q122, S122, M122, H122, U122⟩ := id V_pa_118
   obtain ⟨T122, h122, Lc122, X122, e122, N122, K122, W122, st122⟩ := cpA X121 hx hZ hown (hw _ (ix 121 rfl)) (hw _ (ix 124 rfl)) (hw _ (ix 122 rfl)) (hw _ (ix 123 rfl)) e121 (sp := (3 : Int32)) (dp := (2 : Int32)) (nn := (0 : Int32)) (us := []) V_pa_118 V_pa_118 (Or.inl ⟨rfl, rfl⟩) (by decide) (by decide) (by decide) (by decide) (by decide) rfl (Nat.le_of_ble_eq_true rfl) N118 g_pa (g := (mkF m 105 #[(sR b), (sR lv), (sI (2 : Int32))] [(.int (0 : Int32)), (.int (2 : Int32)), (.ref pa), (.int (3 : Int32)), (.ref pa)])) rfl (sz hml) rfl (hb hby d20_105) (by decide) (W := 0) le0 (by decide)
   have O122 := O118.keep K122 (allS g_pa all0)
   have KK122 : Keep h0 h122 [b, la, pa] := KK118.trans K122 (allS (Or.inl (ix 2 rfl)) all0)
   have E_b_122 := E_b_118.keep K122
   have E_tm_122 := E_tm_118.keep K122
   have Fs_122 := Fs_118.keep K122 (ninS ne_tm_pa nin0)
   have Fa_122 := Fa_118.keep K122 (ninS ne_b_pa nin0)
   have Fb_122 := Fb_118.keep K122 (ninS ne_b_pa nin0)
   have Fc_122 := Fc_118.keep K122 (ninS ne_b_pa nin0)
   have Fd_122 := Fd_118.keep K122 (ninS ne_b_pa nin0)
   have Fe_122 := Fe_118.keep K122 (ninS ne_b_pa nin0)
   have E_a0_122 := E_a0_118.keep K122
   have F_a0_p_122 := F_a0_p_118.keep K122 (ninS ne_a0_pa nin0)
   have E_a1_122 := E_a1_118.keep K122
   have F_a1_p_122 := F_a1_p_118.keep K122 (ninS ne_a1_pa nin0)
   have E_lv_122 := E_lv_118.keep K122
   have F_lv_p_122 := F_lv_p_118.keep K122 (ninS ne_lv_pa nin0)
   have V_la_122 := V_la_118.keep K122 (ninS ne_la_pa nin0)
   have V_pa_122 : Arv Z h122 pa kp .long (256 : Int32) [(.long x0), (.long x1), (.long xv)] (.long (0 : Int64)) := W122
   refine gu (T122.setTop (mkF m 108 #[(sR b), (sR lv), (sI (2 : Int32))] [])) (fun t kt => st122 _ kt) ?_
   refine gu (T122.setTop (mkF m 109 #[(sR b), (sR lv), (sI (2 : Int32))] [(.ref b)])) (fun t kt => ?_) ?_
   ·refine XS.aloadN X122.here hx rfl (hb hby d20_108) rfl rfl ?_
    exact kt
   obtain ⟨T123, X123, e123, st123⟩ := getF X122 hx hZ hown (host := "") (Or.inl (hw _ (ix 14 rfl))) Via.refl e122 Fa_122 (g := (mkF m 109 #[(sR b), (sR lv), (sI (2 : Int32))] [(.ref b)])) rfl rfl (hb hby d20_109)
   refine gu (T123.setTop (mkF m 112 #[(sR b), (sR lv), (sI (2 : Int32))] [(.ref la)])) (fun t kt => st123 _ kt) ?_
   refine gu (T123.setTop (mkF m 114 #[(sR b), (sR lv), (sI (2 : Int32))] [(.ref b), (.ref b), (.ref la)])) (fun t kt => ?_) ?_
   ·refine XS.aloadN X123.here hx rfl (hb hby d20_112) rfl rfl ?_
    show Steps _ _ _ (T123.setTop (mkF m 113 #[(sR b), (sR lv), (sI (2 : Int32))] [(.ref b), (.ref la)])) _
    refine XS.dup X123.here hx rfl (hb hby d20_113) rfl rfl ?_
    exact kt
   obtain ⟨T124, X124, e124, st124⟩ := getF X123 hx hZ hown (host := "") (Or.inl (hw _ (ix 77 rfl))) Via.refl e123 Fe_122 (g := (mkF m 114 #[(sR b), (sR lv), (sI (2 : Int32))] [(.ref b), (.ref b), (.ref la)])) rfl rfl (hb hby d20_114)
   refine gu (T124.setTop (mkF m 117 #[(sR b), (sR lv), (sI (2 : Int32))] [(.int (3 : Int32)), (.ref b), (.ref la)])) (fun t kt => st124 _ kt) ?_
   refine gu (T124.setTop (mkF m 120 #[(sR b), (sR lv), (sI (2 : Int32))] [(.int (2 : Int32)), (.ref b), (.int (2 : Int32)), (.ref la)])) (fun t kt => ?_) ?_
   ·refine XS.iconst X124.here hx rfl (hb hby d20_117) ?_
    show Steps _ _ _ (T124.setTop (mkF m 118 #[(sR b), (sR lv), (sI (2 : Int32))] [(.int (1 : Int32)), (.int (3 : Int32)), (.ref b), (.ref la)])) _
    refine XS.isub X124.here hx rfl (hb hby d20_118) rfl ?_
    show Steps _ _ _ (T124.setTop (mkF m 119 #[(sR b), (sR lv), (sI (2 : Int32))] [(.int (2 : Int32)), (.ref b), (.ref la)])) _
    refine XS.dupX1 X124.here hx rfl (hb hby d20_119) rfl rfl rfl ?_
    exact kt
   obtain ⟨T125, h125, X125, e125, W125, st125⟩ := putF X124 hx hZ hown (host := "") (Or.inl (hw _ (ix 77 rfl))) Via.refl e124 Fe_122 E_b_122 (Or.inl (hw _ (ix 78 rfl))) (hw _ (ix 4 rfl)) (ty := .int) (by decide) rfl rfl (g := (mkF m 120 #[(sR b), (sR lv), (sI (2 : Int32))] [(.int (2 : Int32)), (.ref b), (.int (2 : Int32)), (.ref la)])) rfl rfl (hb hby d20_120)
   have N125 := Fr.snoc X125 N122 g_b
   have O125 := O122.wr W125 g_b
   have K125 : Keep h0 h125 [b, la, pa] := KK122.wr W125 (Or.inl (ix 0 rfl))
   have E_b_125 := E_b_122.wr W125
   have E_tm_125 := E_tm_122.wr W125
   have Fs_125 := Fs_122.other W125 (Or.inl (Ne.symm ne_b_tm))
   have Fa_125 := Fa_122.other W125 (Or.inr (slot_ne (Or.inr (hw _ (ix 15 rfl))) (Or.inl (hw _ (ix 78 rfl))) (by decide) (t := (.array (.object "com/example/openvenue/openvenue/core/PriceLevel"))) (t' := .int) (by decide) (by decide)))
   have Fb_125 := Fb_122.other W125 (Or.inr (slot_ne (Or.inr (hw _ (ix 18 rfl))) (Or.inl (hw _ (ix 78 rfl))) (by decide) (t := (.array .long)) (t' := .int) (by decide) (by decide)))
   have Fc_125 := Fc_122.other W125 (Or.inr (slot_ne (Or.inr (hw _ (ix 36 rfl))) (Or.inl (hw _ (ix 78 rfl))) (by decide) (t := (.object "com/example/openvenue/openvenue/core/Side")) (t' := .int) (by decide) (by decide)))
   have Fd_125 := Fd_122.other W125 (Or.inr (slot_ne (Or.inr (hw _ (ix 65 rfl))) (Or.inl (hw _ (ix 78 rfl))) (by decide) (t := (.object "java/util/NavigableMap")) (t' := .int) (by decide) (by decide)))
   have E_a0_125 := E_a0_122.wr W125
   have F_a0_p_125 := F_a0_p_122.other W125 (Or.inl (Ne.symm ne_b_a0))
   have E_a1_125 := E_a1_122.wr W125
   have F_a1_p_125 := F_a1_p_122.other W125 (Or.inl (Ne.symm ne_b_a1))
   have E_lv_125 := E_lv_122.wr W125
   have F_lv_p_125 := F_lv_p_122.other W125 (Or.inl (Ne.symm ne_b_lv))
   have V_la_125 := V_la_122.other W125 (Ne.symm ne_b_la)
   have V_pa_125 := V_pa_122.other W125 (Ne.symm ne_b_pa)
   have Fe_125 := Fe_122.same W125
   refine gu (T125.setTop (mkF m 123 #[(sR b), (sR lv), (sI (2 : Int32))] [(.int (2 : Int32)), (.ref la)])) (fun t kt => st125 _ kt) ?_
   refine gu (T125.setTop (mkF m 124 #[(sR b), (sR lv), (sI (2 : Int32))] [.null, (.int (2 : Int32)), (.ref la)])) (fun t kt => ?_) ?_
   ·refine XS.aconstNull X125.here hx rfl (hb hby d20_123) ?_
    exact kt
   obtain ⟨ca126, Ar126, q126, S126, M126, H126, U126⟩ := id V_la_125
   obtain ⟨T126, h126, X126, e126, W126, st126⟩ := stR X125 hx hZ e125 Ar126 (j := (2 : Int32)) (v := .null) (inb_of S126 ⟨by decide, by decide⟩) rfl (Or.inl rfl) (g := (mkF m 124 #[(sR b), (sR lv), (sI (2 : Int32))] [.null, (.int (2 : Int32)), (.ref la)])) rfl rfl (hb hby d20_124)
   have N126 := Fr.snoc X126 N125 g_la
   have O126 := O125.wr W126 g_la
   have K126 : Keep h0 h126 [b, la, pa] := K125.wr W126 (Or.inl (ix 1 rfl))
   have E_b_126 := E_b_125.wr W126
   have E_tm_126 := E_tm_125.wr W126
   have Fs_126 := Fs_125.other W126 (Or.inl ne_tm_la)
   have Fa_126 := Fa_125.other W126 (Or.inl ne_b_la)
   have Fb_126 := Fb_125.other W126 (Or.inl ne_b_la)
   have Fc_126 := Fc_125.other W126 (Or.inl ne_b_la)
   have Fd_126 := Fd_125.other W126 (Or.inl ne_b_la)
   have Fe_126 := Fe_125.other W126 (Or.inl ne_b_la)
   have E_a0_126 := E_a0_125.wr W126
   have F_a0_p_126 := F_a0_p_125.other W126 (Or.inl ne_a0_la)
   have E_a1_126 := E_a1_125.wr W126
   have F_a1_p_126 := F_a1_p_125.other W126 (Or.inl ne_a1_la)
   have E_lv_126 := E_lv_125.wr W126
   have F_lv_p_126 := F_lv_p_125.other W126 (Or.inl ne_lv_la)
   have V_pa_126 := V_pa_125.other W126 (Ne.symm ne_la_pa)
   have V_la_126 : Arv Z h126 la kl oPL (256 : Int32) [(.ref a0), (.ref a1), .null] .null := Arv.set Ar126 q126 S126 M126 H126 U126 rfl W126 2 rfl (Nat.le_of_ble_eq_true rfl)
   refine gu (T126.setTop (mkF m 125 #[(sR b), (sR lv), (sI (2 : Int32))] [])) (fun t kt => st126 _ kt) ?_
   refine gu (T126.setTop (mkF m 126 #[(sR b), (sR lv), (sI (2 : Int32))] [(.ref b)])) (fun t kt => ?_) ?_
   ·refine XS.aloadN X126.here hx rfl (hb hby d20_125) rfl rfl ?_
    exact kt
   obtain ⟨T127, X127, e127, st127⟩ := getF X126 hx hZ hown (host := "") (Or.inl (hw _ (ix 77 rfl))) Via.refl e126 Fe_126 (g := (mkF m 126 #[(sR b), (sR lv), (sI (2 : Int32))] [(.ref b)])) rfl rfl (hb hby d20_126)
   refine gu (T127.setTop (mkF m 129 #[(sR b), (sR lv), (sI (2 : Int32))] [(.int (2 : Int32))])) (fun t kt => st127 _ kt) ?_
   refine gu (T127.setTop (mkF m 148 #[(sR b), (sR lv), (sI (2 : Int32))] [])) (fun t kt => ?_) ?_
   ·refine XS.ifYes X127.here hx rfl (pc0 := 129) (pc' := 148) rfl (hb hby d20_129) rfl ((if0 _ _).trans (feq (by decide : ¬ ((2 : Int32) = (0 : Int32)))).2) (by decide) (by decide) ?_
    exact kt
   refine Gl.ret0 X127 hx hlk Bd.returns (hb hby d20_148) ?_ (by decide) (by decide)
   show Q20 Z _ _ _ _ _ _ _ _ _ _ _ h0 n0 _ T127.heap _; rw [e127]; have V_la_128 : Arv Z h126 la kl oPL (256 : Int32) [(.ref a0), (.ref a1)] .null := V_la_126.pad fun i => (pad_rep [(.ref a0), (.ref a1)] .null 1 i).symm; have BB : Bp Z h126 b la sd wB kl [(a0, x0), (a1, x1)] := ⟨E_b_126, Fa_126, Fe_126, V_la_128, (lvS ⟨E_a0_126, F_a0_p_126⟩ (lvS ⟨E_a1_126, F_a1_p_126⟩ lv0)), srt2 o01⟩; have nx0 : x0 ≠ xv := (fun z => by rw [z] at o02; omega); have nx1 : x1 ≠ xv := (fun z => by rw [z] at o12; omega); exact ⟨rfl, N126, K126, _, BB, own_rem (l1 := [(a0, x0), (a1, x1)]) (l2 := []) (lvS nx0 (lvS nx1 lv0)), by simp⟩
 ·exact absurd hlen (by simp)
def Q21 (Z : State) (b sd wB wN wR : Addr) (h0 : Heap) (n0 : Nat) (v : Option Value) (h : Heap) (L : List Loc) : Prop := v = none ∧ Fr n0 L ∧ Keep h0 h [b] ∧ ∃ la pa tm kl kp, Bk Z n0 h b la pa tm sd wB kl kp []
theorem ef21 (m : MethodId) (b sd : Addr) : entryFrame m #[(.ref b), (.ref sd)] 3 = mkF m 0 #[(sR b), (sR sd), .unset] [] := by first | (simp [entryFrame, mkF, argsToLocals, Value.category]; done) | rfl
set_option maxRecDepth 65536 in
set_option maxHeartbeats 40000000 in
theorem rm21 (l : Launch) (Z : State) (aa : Array Value) (hw : ∀ d ∈ tables_1, d.before aa Z = true) (ws : List Jvm.Cond) (b sd wB wN wR : Addr) (h0 : Heap) (n0 : Nat) (O0 : Old Z n0 h0) (S_wB : Sta Z Z.heap "com/example/openvenue/openvenue/core/Side" "BUY" "Lcom/example/openvenue/openvenue/core/Side;" (.ref wB)) (S_wN : Sta Z Z.heap "java/util/Comparators$NaturalOrderComparator" "INSTANCE" "Ljava/util/Comparators$NaturalOrderComparator;" (.ref wN)) (S_wR : Sta Z Z.heap "java/util/Collections$ReverseComparator" "REVERSE_ORDER" "Ljava/util/Collections$ReverseComparator;" (.ref wR)) (E_b : Exa Z h0 b "com/example/openvenue/openvenue/core/BookSide") (Fa : Fld Z h0 b "com/example/openvenue/openvenue/core/BookSide" "levels" "[Lcom/example/openvenue/openvenue/core/PriceLevel;" .null) (Fb : Fld Z h0 b "com/example/openvenue/openvenue/core/BookSide" "prices" "[J" .null) (F_b_bestFirst : Fld Z h0 b "com/example/openvenue/openvenue/core/BookSide" "bestFirst" "Ljava/util/Collection;" .null) (Fc : Fld Z h0 b "com/example/openvenue/openvenue/core/BookSide" "side" "Lcom/example/openvenue/openvenue/core/Side;" .null) (Fd : Fld Z h0 b "com/example/openvenue/openvenue/core/BookSide" "deeper" "Ljava/util/NavigableMap;" .null) (F_b_newLevel : Fld Z h0 b "com/example/openvenue/openvenue/core/BookSide" "newLevel" "Ljava/util/function/Function;" .null) (Fe : Fld Z h0 b "com/example/openvenue/openvenue/core/BookSide" "count" "I" (.int (0 : Int32))) (g_b : n0 ≤ b) :
  MetFree l mn22 (head1 (Jvm.Cond.code mn22 prog_44_method_1_code 3 none :: ws) ({ frames := 3, cells := 5, slots := 523, locals := 3074 } : Room)) (fun a U => a = #[(.ref b), (.ref sd)] ∧ Z.Warmed39 U.vm ∧ U.heap = h0) (fun _ _ _ _ _ => True) (fun _ U o U' => ∃ v L, o = .returned v ∧ Q21 Z b sd wB wN wR h0 n0 v U'.heap L ∧ FrameEnd U o U' L ({ frames := 3, cells := 5, slots := 523, locals := 3074 } : Room).cells ({ frames := 3, cells := 5, slots := 523, locals := 3074 } : Room).slots) := by
 refine MetFree.of_bodySF (plainFor_of_name pn_com_example_openvenue_openvenue_core_BookSide) hisR ?_
 intro p e s m args below meth c s₁ Bd hml0 hP hK
 obtain ⟨rfl, hZ, hh⟩ := hP
 have hx := Bd.exec
 have hby := Bd.bytes
 have hlk := Bd.notSynchronized
 have hml : c.maxLocals = 3 := hml0
 have hown : s.vm.findClass "com/example/openvenue/openvenue/core/BookSide" = some m.cls := findClass_of_methodNamed Bd.named
 have hnm := (name_of_methodNamed Bd.named Bd.method).1
 have X0 : Stand p l e ({ frames := 3, cells := 5, slots := 523, locals := 3074 } : Room) s m #[(.ref b), (.ref sd)] below meth c s₁ [] 0 0 := Stand.of_body Bd
 have e0 : s₁.heap = h0 := by rw [← hh, Bd.state]; rfl
 have N0 := Fr.nil n0
 show Gl p e below (Ret s 5 523 (Q21 Z b sd wB wN wR h0 n0)) (s₁.setTop (entryFrame m #[(.ref b), (.ref sd)] 3))
 rw [ef21 m b sd]
 obtain ⟨args, hargs⟩ : ∃ z : Array Value, z = #[(.ref b), (.ref sd)] := ⟨_, rfl⟩
 rw [← hargs] at X0
 have K0 := Keep.refl h0 [b]
 refine gu (s₁.setTop (mkF m 1 #[(sR b), (sR sd), .unset] [(.ref b)])) (fun t kt => ?_) ?_
 ·refine XS.aloadN X0.here hx rfl (hb hby d21_0) rfl rfl ?_
  exact kt
 obtain ⟨T1, X1, e1, st1⟩ := initO X0 hx hZ hown (hw _ (ix 9 rfl)) (hw _ (ix 10 rfl)) (hw _ (ix 11 rfl)) e0 (g := (mkF m 1 #[(sR b), (sR sd), .unset] [(.ref b)])) rfl (sz hml) rfl (hb hby d21_1) (by decide) (W := 0) le0 (by decide)
 refine gu (T1.setTop (mkF m 4 #[(sR b), (sR sd), .unset] [])) (fun t kt => st1 _ kt) ?_
 refine gu (T1.setTop (mkF m 8 #[(sR b), (sR sd), .unset] [(.int (256 : Int32)), (.ref b)])) (fun t kt => ?_) ?_
 ·refine XS.aloadN X1.here hx rfl (hb hby d21_4) rfl rfl ?_
  show Steps _ _ _ (T1.setTop (mkF m 5 #[(sR b), (sR sd), .unset] [(.ref b)])) _
  refine XS.sipush X1.here hx rfl (hb hby d21_5) ?_
  exact kt
 obtain ⟨T2, h2, k2, X2, e2, E2, A2, OV2, st2⟩ := newR X1 hx hZ hown (hw _ (ix 12 rfl)) (hw _ (ix 13 rfl)) e1 (g := (mkF m 8 #[(sR b), (sR sd), .unset] [(.int (256 : Int32)), (.ref b)])) rfl (hb hby d21_8) rfl (by decide) (cap := 256) (by decide) (by decide) (by decide) (by decide)
 obtain ⟨b2, gq2⟩ : ∃ z, z = h0.size := ⟨_, rfl⟩
 have ne_b_b2 : b ≠ b2 := Nat.ne_of_lt (Nat.lt_of_lt_of_le E_b.lt (Nat.le_of_eq gq2.symm))
 have g_b2 : n0 ≤ b2 := Nat.le_trans (old_le O0) (Nat.le_of_eq gq2.symm)
 have z_b2 : h0.size ≤ b2 := Nat.le_trans K0.1 (Nat.le_of_eq gq2.symm)
 have O2 := O0.ext E2
 have K2 : Keep h0 h2 [b] := K0.ext E2
 have E_b_2 := E_b.ext E2
 have Fe_2 := Fe.ext E2
 have Fa_2 := Fa.ext E2
 have Fb_2 := Fb.ext E2
 have F_b_bestFirst_2 := F_b_bestFirst.ext E2
 have Fc_2 := Fc.ext E2
 have Fd_2 := Fd.ext E2
 have F_b_newLevel_2 := F_b_newLevel.ext E2
 rw [← gq2] at A2 st2
 have V_b2_2 : Arv Z h2 b2 k2 oPL (256 : Int32) [] .null := Arv.new A2 (by decide)
 refine gu (T2.setTop (mkF m 11 #[(sR b), (sR sd), .unset] [(.ref b2), (.ref b)])) (fun t kt => st2 _ kt) ?_
 obtain ⟨T3, h3, X3, e3, W3, st3⟩ := putF X2 hx hZ hown (host := "") (Or.inl (hw _ (ix 14 rfl))) Via.refl e2 Fa_2 E_b_2 (Or.inr ⟨(hw _ (ix 15 rfl)), rfl, hnm⟩) (hw _ (ix 4 rfl)) (ty := (.array (.object "com/example/openvenue/openvenue/core/PriceLevel"))) (by decide) rfl rfl (g := (mkF m 11 #[(sR b), (sR sd), .unset] [(.ref b2), (.ref b)])) rfl rfl (hb hby d21_11)
 have N3 := Fr.snoc X3 N0 g_b
 have O3 := O2.wr W3 g_b
 have K3 : Keep h0 h3 [b] := K2.wr W3 (Or.inl (ix 0 rfl))
 have E_b_3 := E_b_2.wr W3
 have Fe_3 := Fe_2.other W3 (Or.inr (slot_ne (Or.inl (hw _ (ix 78 rfl))) (Or.inr (hw _ (ix 15 rfl))) (by decide) (t := .int) (t' := (.array (.object "com/example/openvenue/openvenue/core/PriceLevel"))) (by decide) (by decide)))
 have Fb_3 := Fb_2.other W3 (Or.inr (slot_ne (Or.inr (hw _ (ix 18 rfl))) (Or.inr (hw _ (ix 15 rfl))) (by decide) (t := (.array .long)) (t' := (.array (.object "com/example/openvenue/openvenue/core/PriceLevel"))) (by decide) (by decide)))
 have F_b_bestFirst_3 := F_b_bestFirst_2.other W3 (Or.inr (slot_ne (Or.inr (hw _ (ix 34 rfl))) (Or.inr (hw _ (ix 15 rfl))) (by decide) (t := (.object "java/util/Collection")) (t' := (.array (.object "com/example/openvenue/openvenue/core/PriceLevel"))) (by decide) (by decide)))
 have Fc_3 := Fc_2.other W3 (Or.inr (slot_ne (Or.inr (hw _ (ix 36 rfl))) (Or.inr (hw _ (ix 15 rfl))) (by decide) (t := (.object "com/example/openvenue/openvenue/core/Side")) (t' := (.array (.object "com/example/openvenue/openvenue/core/PriceLevel"))) (by decide) (by decide)))
 have Fd_3 := Fd_2.other W3 (Or.inr (slot_ne (Or.inr (hw _ (ix 65 rfl))) (Or.inr (hw _ (ix 15 rfl))) (by decide) (t := (.object "java/util/NavigableMap")) (t' := (.array (.object "com/example/openvenue/openvenue/core/PriceLevel"))) (by decide) (by decide)))
 have F_b_newLevel_3 := F_b_newLevel_2.other W3 (Or.inr (slot_ne (Or.inr (hw _ (ix 71 rfl))) (Or.inr (hw _ (ix 15 rfl))) (by decide) (t := (.object "java/util/function/Function")) (t' := (.array (.object "com/example/openvenue/openvenue/core/PriceLevel"))) (by decide) (by decide)))
 have V_b2_3 := V_b2_2.other W3 (Ne.symm ne_b_b2)
 have Fa_3 := Fa_2.same W3
 refine gu (T3.setTop (mkF m 14 #[(sR b), (sR sd), .unset] [])) (fun t kt => st3 _ kt) ?_
 refine gu (T3.setTop (mkF m 18 #[(sR b), (sR sd), .unset] [(.int (256 : Int32)), (.ref b)])) (fun t kt => ?_) ?_
 ·refine XS.aloadN X3.here hx rfl (hb hby d21_14) rfl rfl ?_
  show Steps _ _ _ (T3.setTop (mkF m 15 #[(sR b), (sR sd), .unset] [(.ref b)])) _
  refine XS.sipush X3.here hx rfl (hb hby d21_15) ?_
  exact kt
 obtain ⟨T4, h4, k4, X4, e4, E4, A4, st4⟩ := newP X3 hx hZ (hw _ (ix 16 rfl)) e3 (g := (mkF m 18 #[(sR b), (sR sd), .unset] [(.int (256 : Int32)), (.ref b)])) rfl (hb hby d21_18) rfl (by decide) (cap := 256) (by decide) (by decide) (by decide) (by decide)
 obtain ⟨b4, gq4⟩ : ∃ z, z = h3.size := ⟨_, rfl⟩
 have ne_b_b4 : b ≠ b4 := Nat.ne_of_lt (Nat.lt_of_lt_of_le E_b_3.lt (Nat.le_of_eq gq4.symm))
 have ne_b2_b4 : b2 ≠ b4 := Nat.ne_of_lt (Nat.lt_of_lt_of_le V_b2_3.lt (Nat.le_of_eq gq4.symm))
 have g_b4 : n0 ≤ b4 := Nat.le_trans (old_le O3) (Nat.le_of_eq gq4.symm)
 have z_b4 : h0.size ≤ b4 := Nat.le_trans K3.1 (Nat.le_of_eq gq4.symm)
 have O4 := O3.ext E4
 have K4 : Keep h0 h4 [b] := K3.ext E4
 have E_b_4 := E_b_3.ext E4
 have Fe_4 := Fe_3.ext E4
 have Fa_4 := Fa_3.ext E4
 have Fb_4 := Fb_3.ext E4
 have F_b_bestFirst_4 := F_b_bestFirst_3.ext E4
 have Fc_4 := Fc_3.ext E4
 have Fd_4 := Fd_3.ext E4
 have F_b_newLevel_4 := F_b_newLevel_3.ext E4
 have V_b2_4 := V_b2_3.ext E4
 rw [← gq4] at A4 st4
 have V_b4_4 : Arv Z h4 b4 k4 .long (256 : Int32) [] (.long (0 : Int64)) := Arv.new A4 (by decide)
 refine gu (T4.setTop (mkF m 20 #[(sR b), (sR sd), .unset] [(.ref b4), (.ref b)])) (fun t kt => st4 _ kt) ?_
 obtain ⟨T5, h5, X5, e5, W5, st5⟩ := putF X4 hx hZ hown (host := "") (Or.inl (hw _ (ix 17 rfl))) Via.refl e4 Fb_4 E_b_4 (Or.inr ⟨(hw _ (ix 18 rfl)), rfl, hnm⟩) (hw _ (ix 4 rfl)) (ty := (.array .long)) (by decide) rfl rfl (g := (mkF m 20 #[(sR b), (sR sd), .unset] [(.ref b4), (.ref b)])) rfl rfl (hb hby d21_20)
 have N5 := Fr.snoc X5 N3 g_b
 have O5 := O4.wr W5 g_b
 have K5 : Keep h0 h5 [b] := K4.wr W5 (Or.inl (ix 0 rfl))
 have E_b_5 := E_b_4.wr W5
 have Fe_5 := Fe_4.other W5 (Or.inr (slot_ne (Or.inl (hw _ (ix 78 rfl))) (Or.inr (hw _ (ix 18 rfl))) (by decide) (t := .int) (t' := (.array .long)) (by decide) (by decide)))
 have Fa_5 := Fa_4.other W5 (Or.inr (slot_ne (Or.inr (hw _ (ix 15 rfl))) (Or.inr (hw _ (ix 18 rfl))) (by decide) (t := (.array (.object "com/example/openvenue/openvenue/core/PriceLevel"))) (t' := (.array .long)) (by decide) (by decide)))
 have F_b_bestFirst_5 := F_b_bestFirst_4.other W5 (Or.inr (slot_ne (Or.inr (hw _ (ix 34 rfl))) (Or.inr (hw _ (ix 18 rfl))) (by decide) (t := (.object "java/util/Collection")) (t' := (.array .long)) (by decide) (by decide)))
 have Fc_5 := Fc_4.other W5 (Or.inr (slot_ne (Or.inr (hw _ (ix 36 rfl))) (Or.inr (hw _ (ix 18 rfl))) (by decide) (t := (.object "com/example/openvenue/openvenue/core/Side")) (t' := (.array .long)) (by decide) (by decide)))
 have Fd_5 := Fd_4.other W5 (Or.inr (slot_ne (Or.inr (hw _ (ix 65 rfl))) (Or.inr (hw _ (ix 18 rfl))) (by decide) (t := (.object "java/util/NavigableMap")) (t' := (.array .long)) (by decide) (by decide)))
 have F_b_newLevel_5 := F_b_newLevel_4.other W5 (Or.inr (slot_ne (Or.inr (hw _ (ix 71 rfl))) (Or.inr (hw _ (ix 18 rfl))) (by decide) (t := (.object "java/util/function/Function")) (t' := (.array .long)) (by decide) (by decide)))
 have V_b2_5 := V_b2_4.other W5 (Ne.symm ne_b_b2)
 have V_b4_5 := V_b4_4.other W5 (Ne.symm ne_b_b4)
 have Fb_5 := Fb_4.same W5
 refine gu (T5.setTop (mkF m 23 #[(sR b), (sR sd), .unset] [])) (fun t kt => st5 _ kt) ?_
 refine gu (T5.setTop (mkF m 24 #[(sR b), (sR sd), .unset] [(.ref b)])) (fun t kt => ?_) ?_
 ·refine XS.aloadN X5.here hx rfl (hb hby d21_23) rfl rfl ?_
  exact kt
 obtain ⟨T6, h6, X6, e6, E6, A6, D6, -, st6⟩ := newO X5 hx hZ hown (hw _ (ix 19 rfl)) (hw _ (ix 20 rfl)) (hw _ (ix 21 rfl)) e5 (g := (mkF m 24 #[(sR b), (sR sd), .unset] [(.ref b)])) rfl (hb hby d21_24) (by decide) (by decide)
 obtain ⟨b6, gq6⟩ : ∃ z, z = h5.size := ⟨_, rfl⟩
 rw [← gq6] at A6 D6 st6
 have ne_b_b6 : b ≠ b6 := Nat.ne_of_lt (Nat.lt_of_lt_of_le E_b_5.lt (Nat.le_of_eq gq6.symm))
 have ne_b2_b6 : b2 ≠ b6 := Nat.ne_of_lt (Nat.lt_of_lt_of_le V_b2_5.lt (Nat.le_of_eq gq6.symm))
 have ne_b4_b6 : b4 ≠ b6 := Nat.ne_of_lt (Nat.lt_of_lt_of_le V_b4_5.lt (Nat.le_of_eq gq6.symm))
 have g_b6 : n0 ≤ b6 := Nat.le_trans (old_le O5) (Nat.le_of_eq gq6.symm)
 have z_b6 : h0.size ≤ b6 := Nat.le_trans K5.1 (Nat.le_of_eq gq6.symm)
 have O6 := O5.ext E6
 have K6 : Keep h0 h6 [b] := K5.ext E6
 have E_b_6 := E_b_5.ext E6
 have Fe_6 := Fe_5.ext E6
 have Fa_6 := Fa_5.ext E6
 have Fb_6 := Fb_5.ext E6
 have F_b_bestFirst_6 := F_b_bestFirst_5.ext E6
 have Fc_6 := Fc_5.ext E6
 have Fd_6 := Fd_5.ext E6
 have F_b_newLevel_6 := F_b_newLevel_5.ext E6
 have V_b2_6 := V_b2_5.ext E6
 have V_b4_6 := V_b4_5.ext E6
 have F_b6_this_0_6 : Fld Z h6 b6 "com/example/openvenue/openvenue/core/BookSide$BestFirst" "this$0" "Lcom/example/openvenue/openvenue/core/BookSide;" .null := D6 (Or.inr (hw _ (ix 26 rfl))) (ty := (.object "com/example/openvenue/openvenue/core/BookSide")) (by decide)
 refine gu (T6.setTop (mkF m 27 #[(sR b), (sR sd), .unset] [(.ref b6), (.ref b)])) (fun t kt => st6 _ kt) ?_
 refine gu (T6.setTop (mkF m 29 #[(sR b), (sR sd), .unset] [(.ref b), (.ref b6), (.ref b6), (.ref b)])) (fun t kt => ?_) ?_
 ·refine XS.dup X6.here hx rfl (hb hby d21_27) rfl rfl ?_
  show Steps _ _ _ (T6.setTop (mkF m 28 #[(sR b), (sR sd), .unset] [(.ref b6), (.ref b6), (.ref b)])) _
  refine XS.aloadN X6.here hx rfl (hb hby d21_28) rfl rfl ?_
  exact kt
 obtain ⟨_, _, ⟨T7, L7, k7, n7⟩, -, X7, ⟨Lc7, hQ7, l7, y7, z7⟩, st7⟩ := X6.own_specialRef hx (y := mn5) rfl hown (own_mvRef hZ (hw _ (ix 23 rfl)) (by decide) (hw _ (ix 22 rfl))) (mvT hZ (hw _ (ix 23 rfl))) (mvT hZ (hw _ (ix 24 rfl))) (by decide) (backOf (W := 2) (rm6 l Z aa hw [] b6 b h6 n0 O6 A6 F_b6_this_0_6 g_b6) hZ (hw _ (ix 24 rfl)) (hw _ (ix 21 rfl)) (by decide) (by decide)) (g := (mkF m 29 #[(sR b), (sR sd), .unset] [(.ref b), (.ref b6), (.ref b6), (.ref b)])) rfl (sz hml) (Steps.refl _) (a := b6) (argsL := [(.ref b)]) (rest := [(.ref b6), (.ref b)]) (lenOf pd_oLcom_example_openvenue_openvenue_core_BookSidecV rfl) rfl le0 (hb hby d21_29) (fun _ _ => ⟨rfl, e6, (by decide : 3 + 0 ≤ _), (by decide : 513 + 0 ≤ _)⟩)
 dsimp only [Pt.U, Pt.locs, Pt.cells, Pt.slots] at X7 l7 y7 z7 st7 hQ7
 subst l7 y7 z7
 obtain ⟨rfl, M7, K7⟩ := hQ7
 have N7 := Fr.app N5 M7
 have O7 := O6.keep K7 (allS g_b6 all0)
 have KK7 : Keep h0 T7.heap [b] := K6.trans K7 (allS (Or.inr z_b6) all0)
 have E_b_7 := E_b_6.keep K7
 have Fe_7 := Fe_6.keep K7 (ninS ne_b_b6 nin0)
 have Fa_7 := Fa_6.keep K7 (ninS ne_b_b6 nin0)
 have Fb_7 := Fb_6.keep K7 (ninS ne_b_b6 nin0)
 have F_b_bestFirst_7 := F_b_bestFirst_6.keep K7 (ninS ne_b_b6 nin0)
 have Fc_7 := Fc_6.keep K7 (ninS ne_b_b6 nin0)
 have Fd_7 := Fd_6.keep K7 (ninS ne_b_b6 nin0)
 have F_b_newLevel_7 := F_b_newLevel_6.keep K7 (ninS ne_b_b6 nin0)
 have V_b2_7 := V_b2_6.keep K7 (ninS ne_b2_b6 nin0)
 have V_b4_7 := V_b4_6.keep K7 (ninS ne_b4_b6 nin0)
 have E_b6_7 := A6.keep K7
 refine gu (T7.setTop (mkF m 32 #[(sR b), (sR sd), .unset] [(.ref b6), (.ref b)])) (fun t kt => st7.trans kt) ?_
 obtain ⟨T8, h8, X8, e8, W8, st8⟩ := putF X7 hx hZ hown (host := "") (Or.inl (hw _ (ix 33 rfl))) Via.refl rfl F_b_bestFirst_7 E_b_7 (Or.inr ⟨(hw _ (ix 34 rfl)), rfl, hnm⟩) (hw _ (ix 4 rfl)) (ty := (.object "java/util/Collection")) (by decide) rfl rfl (g := (mkF m 32 #[(sR b), (sR sd), .unset] [(.ref b6), (.ref b)])) rfl rfl (hb hby d21_32)
 have N8 := Fr.snoc X8 N7 g_b
 have O8 := O7.wr W8 g_b
 have K8 : Keep h0 h8 [b] := KK7.wr W8 (Or.inl (ix 0 rfl))
 have E_b_8 := E_b_7.wr W8
 have Fe_8 := Fe_7.other W8 (Or.inr (slot_ne (Or.inl (hw _ (ix 78 rfl))) (Or.inr (hw _ (ix 34 rfl))) (by decide) (t := .int) (t' := (.object "java/util/Collection")) (by decide) (by decide)))
 have Fa_8 := Fa_7.other W8 (Or.inr (slot_ne (Or.inr (hw _ (ix 15 rfl))) (Or.inr (hw _ (ix 34 rfl))) (by decide) (t := (.array (.object "com/example/openvenue/openvenue/core/PriceLevel"))) (t' := (.object "java/util/Collection")) (by decide) (by decide)))
 have Fb_8 := Fb_7.other W8 (Or.inr (slot_ne (Or.inr (hw _ (ix 18 rfl))) (Or.inr (hw _ (ix 34 rfl))) (by decide) (t := (.array .long)) (t' := (.object "java/util/Collection")) (by decide) (by decide)))
 have Fc_8 := Fc_7.other W8 (Or.inr (slot_ne (Or.inr (hw _ (ix 36 rfl))) (Or.inr (hw _ (ix 34 rfl))) (by decide) (t := (.object "com/example/openvenue/openvenue/core/Side")) (t' := (.object "java/util/Collection")) (by decide) (by decide)))
 have Fd_8 := Fd_7.other W8 (Or.inr (slot_ne (Or.inr (hw _ (ix 65 rfl))) (Or.inr (hw _ (ix 34 rfl))) (by decide) (t := (.object "java/util/NavigableMap")) (t' := (.object "java/util/Collection")) (by decide) (by decide)))
 have F_b_newLevel_8 := F_b_newLevel_7.other W8 (Or.inr (slot_ne (Or.inr (hw _ (ix 71 rfl))) (Or.inr (hw _ (ix 34 rfl))) (by decide) (t := (.object "java/util/function/Function")) (t' := (.object "java/util/Collection")) (by decide) (by decide)))
 have V_b2_8 := V_b2_7.other W8 (Ne.symm ne_b_b2)
 have V_b4_8 := V_b4_7.other W8 (Ne.symm ne_b_b4)
 have E_b6_8 := E_b6_7.wr W8
 have F_b_bestFirst_8 := F_b_bestFirst_7.same W8
 refine gu (T8.setTop (mkF m 35 #[(sR b), (sR sd), .unset] [])) (fun t kt => st8 _ kt) ?_
 refine gu (T8.setTop (mkF m 37 #[(sR b), (sR sd), .unset] [(.ref sd), (.ref b)])) (fun t kt => ?_) ?_
 ·refine XS.aloadN X8.here hx rfl (hb hby d21_35) rfl rfl ?_
  show Steps _ _ _ (T8.setTop (mkF m 36 #[(sR b), (sR sd), .unset] [(.ref b)])) _
  refine XS.aloadN X8.here hx rfl (hb hby d21_36) rfl rfl ?_
  exact kt
 obtain ⟨T9, h9, X9, e9, W9, st9⟩ := putF X8 hx hZ hown (host := "") (Or.inl (hw _ (ix 35 rfl))) Via.refl e8 Fc_8 E_b_8 (Or.inr ⟨(hw _ (ix 36 rfl)), rfl, hnm⟩) (hw _ (ix 4 rfl)) (ty := (.object "com/example/openvenue/openvenue/core/Side")) (by decide) rfl rfl (g := (mkF m 37 #[(sR b), (sR sd), .unset] [(.ref sd), (.ref b)])) rfl rfl (hb hby d21_37)
 have N9 := Fr.snoc X9 N8 g_b
 have O9 := O8.wr W9 g_b
 have K9 : Keep h0 h9 [b] := K8.wr W9 (Or.inl (ix 0 rfl))
 have E_b_9 := E_b_8.wr W9
 have Fe_9 := Fe_8.other W9 (Or.inr (slot_ne (Or.inl (hw _ (ix 78 rfl))) (Or.inr (hw _ (ix 36 rfl))) (by decide) (t := .int) (t' := (.object "com/example/openvenue/openvenue/core/Side")) (by decide) (by decide)))
 have Fa_9 := Fa_8.other W9 (Or.inr (slot_ne (Or.inr (hw _ (ix 15 rfl))) (Or.inr (hw _ (ix 36 rfl))) (by decide) (t := (.array (.object "com/example/openvenue/openvenue/core/PriceLevel"))) (t' := (.object "com/example/openvenue/openvenue/core/Side")) (by decide) (by decide)))
 have Fb_9 := Fb_8.other W9 (Or.inr (slot_ne (Or.inr (hw _ (ix 18 rfl))) (Or.inr (hw _ (ix 36 rfl))) (by decide) (t := (.array .long)) (t' := (.object "com/example/openvenue/openvenue/core/Side")) (by decide) (by decide)))
 have F_b_bestFirst_9 := F_b_bestFirst_8.other W9 (Or.inr (slot_ne (Or.inr (hw _ (ix 34 rfl))) (Or.inr (hw _ (ix 36 rfl))) (by decide) (t := (.object "java/util/Collection")) (t' := (.object "com/example/openvenue/openvenue/core/Side")) (by decide) (by decide)))
 have Fd_9 := Fd_8.other W9 (Or.inr (slot_ne (Or.inr (hw _ (ix 65 rfl))) (Or.inr (hw _ (ix 36 rfl))) (by decide) (t := (.object "java/util/NavigableMap")) (t' := (.object "com/example/openvenue/openvenue/core/Side")) (by decide) (by decide)))
 have F_b_newLevel_9 := F_b_newLevel_8.other W9 (Or.inr (slot_ne (Or.inr (hw _ (ix 71 rfl))) (Or.inr (hw _ (ix 36 rfl))) (by decide) (t := (.object "java/util/function/Function")) (t' := (.object "com/example/openvenue/openvenue/core/Side")) (by decide) (by decide)))
 have V_b2_9 := V_b2_8.other W9 (Ne.symm ne_b_b2)
 have V_b4_9 := V_b4_8.other W9 (Ne.symm ne_b_b4)
 have E_b6_9 := E_b6_8.wr W9
 have Fc_9 := Fc_8.same W9
 refine gu (T9.setTop (mkF m 40 #[(sR b), (sR sd), .unset] [])) (fun t kt => st9 _ kt) ?_
 refine gu (T9.setTop (mkF m 41 #[(sR b), (sR sd), .unset] [(.ref sd)])) (fun t kt => ?_) ?_
 ·refine XS.aloadN X9.here hx rfl (hb hby d21_40) rfl rfl ?_
  exact kt
 obtain ⟨T10, X10, e10, st10⟩ := getS2 X9 hx hZ hown (host := "") (Or.inl (hw _ (ix 37 rfl))) Via.refl e9 (S_wB.ext O9.2) (g := (mkF m 41 #[(sR b), (sR sd), .unset] [(.ref sd)])) rfl (hb hby d21_41)
 refine gu (T10.setTop (mkF m 44 #[(sR b), (sR sd), .unset] [(.ref wB), (.ref sd)])) (fun t kt => st10 _ kt) ?_
 by_cases c44_11 : sd = wB
 ·refine gu (T10.setTop (mkF m 47 #[(sR b), (sR sd), .unset] [])) (fun t kt => ?_) ?_
  ·refine Jvm.RoadKit.acmp (g := (mkF m 44 #[(sR b), (sR sd), .unset] [(.ref wB), (.ref sd)])) X10 hx rfl rfl rfl (pc0 := 44) (pc' := 47) (same := true) rfl (hb hby d21_44) rfl (decide_eq_true (congrArg Value.ref c44_11)) (by decide) (by decide) ?_
   exact kt
  obtain ⟨_, _, ⟨T12, L12, k12, n12⟩, -, X12, ⟨Lc12, hQ12, l12, y12, z12⟩, st12⟩ := Jvm.LawKit.callS X10 hx (y := mn8) hown (mvT hZ (hw _ (ix 80 rfl))) (mvT hZ (hw _ (ix 81 rfl))) (mvT hZ (hw _ (ix 41 rfl))) (mvT hZ (hw _ (ix 82 rfl))) (by decide) (backOf (W := 0) (rm9 l Z aa hw [] wR h9 n0 O9 S_wR) hZ (hw _ (ix 82 rfl)) (hw _ (ix 41 rfl)) (by decide) (by decide)) (g := (mkF m 47 #[(sR b), (sR sd), .unset] [])) rfl (sz hml) (argsL := []) (rest := []) (lenOf pd_ocLjava_util_Comparator rfl) rfl le0 (hb hby d21_47) (fun _ _ => ⟨rfl, e10, (by decide : 3 + 0 ≤ _), (by decide : 513 + 0 ≤ _)⟩)
  dsimp only [Pt.U, Pt.locs, Pt.cells, Pt.slots] at X12 l12 y12 z12 st12 hQ12
  subst l12 y12 z12
  obtain ⟨rfl, rfl, e12⟩ := hQ12
  try rw [List.append_nil] at X12
  refine gu (T12.setTop (mkF m 50 #[(sR b), (sR sd), .unset] [(.ref wR)])) (fun t kt => st12 _ kt) ?_
  refine gu (T12.setTop (mkF m 58 #[(sR b), (sR sd), (sR wR)] [(.ref b)])) (fun t kt => ?_) ?_
  ·refine XS.goto X12.here hx rfl (pc0 := 50) (pc' := 56) rfl (hb hby d21_50) (by decide) (by decide) ?_
   show Steps _ _ _ (T12.setTop (mkF m 56 #[(sR b), (sR sd), .unset] [(.ref wR)])) _
   refine XS.astoreN X12.here hx rfl (hb hby d21_56) rfl rfl (l' := #[(sR b), (sR sd), (sR wR)]) rfl ?_
   show Steps _ _ _ (T12.setTop (mkF m 57 #[(sR b), (sR sd), (sR wR)] [])) _
   refine XS.aloadN X12.here hx rfl (hb hby d21_57) rfl rfl ?_
   exact kt
  obtain ⟨T13, h13, X13, e13, E13, A13, D13, -, st13⟩ := newO X12 hx hZ hown (hw _ (ix 45 rfl)) (hw _ (ix 46 rfl)) (hw _ (ix 47 rfl)) e12 (g := (mkF m 58 #[(sR b), (sR sd), (sR wR)] [(.ref b)])) rfl (hb hby d21_58) (by decide) (by decide)
  obtain ⟨b13, gq13⟩ : ∃ z, z = h9.size := ⟨_, rfl⟩
  rw [← gq13] at A13 D13 st13
  have ne_b_b13 : b ≠ b13 := Nat.ne_of_lt (Nat.lt_of_lt_of_le E_b_9.lt (Nat.le_of_eq gq13.symm))
  have ne_b2_b13 : b2 ≠ b13 := Nat.ne_of_lt (Nat.lt_of_lt_of_le V_b2_9.lt (Nat.le_of_eq gq13.symm))
  have ne_b4_b13 : b4 ≠ b13 := Nat.ne_of_lt (Nat.lt_of_lt_of_le V_b4_9.lt (Nat.le_of_eq gq13.symm))
  have ne_b6_b13 : b6 ≠ b13 := Nat.ne_of_lt (Nat.lt_of_lt_of_le E_b6_9.lt (Nat.le_of_eq gq13.symm))
  have g_b13 : n0 ≤ b13 := Nat.le_trans (old_le O9) (Nat.le_of_eq gq13.symm)
  have z_b13 : h0.size ≤ b13 := Nat.le_trans K9.1 (Nat.le_of_eq gq13.symm)
  have O13 := O9.ext E13
  have K13 : Keep h0 h13 [b] := K9.ext E13
  have E_b_13 := E_b_9.ext E13
  have Fe_13 := Fe_9.ext E13
  have Fa_13 := Fa_9.ext E13
  have Fb_13 := Fb_9.ext E13
  have F_b_bestFirst_13 := F_b_bestFirst_9.ext E13
  have Fc_13 := Fc_9.ext E13
  have Fd_13 := Fd_9.ext E13
  have F_b_newLevel_13 := F_b_newLevel_9.ext E13
  have V_b2_13 := V_b2_9.ext E13
  have V_b4_13 := V_b4_9.ext E13
  have E_b6_13 := E_b6_9.ext E13
  have F_b13_size_13 : Fld Z h13 b13 "java/util/TreeMap" "size" "I" (.int (0 : Int32)) := D13 (Or.inl (hw _ (ix 59 rfl))) (ty := .int) (by decide)
  have F_b13_modCount_13 : Fld Z h13 b13 "java/util/TreeMap" "modCount" "I" (.int (0 : Int32)) := D13 (Or.inl (hw _ (ix 61 rfl))) (ty := .int) (by decide)
  have F_b13_comparator_13 : Fld Z h13 b13 "java/util/TreeMap" "comparator" "Ljava/util/Comparator;" .null := D13 (Or.inr (hw _ (ix 63 rfl))) (ty := (.object "java/util/Comparator")) (by decide)
  refine gu (T13.setTop (mkF m 61 #[(sR b), (sR sd), (sR wR)] [(.ref b13), (.ref b)])) (fun t kt => st13 _ kt) ?_
  refine gu (T13.setTop (mkF m 63 #[(sR b), (sR sd), (sR wR)] [(.ref wR), (.ref b13), (.ref b13), (.ref b)])) (fun t kt => ?_) ?_
  ·refine XS.dup X13.here hx rfl (hb hby d21_61) rfl rfl ?_
   show Steps _ _ _ (T13.setTop (mkF m 62 #[(sR b), (sR sd), (sR wR)] [(.ref b13), (.ref b13), (.ref b)])) _
   refine XS.aloadN X13.here hx rfl (hb hby d21_62) rfl rfl ?_
   exact kt
  obtain ⟨_, _, ⟨T14, L14, k14, n14⟩, -, X14, ⟨Lc14, hQ14, l14, y14, z14⟩, st14⟩ := X13.specialBack hx (y := mn9) rfl hown (mvT hZ (hw _ (ix 48 rfl))) (mvT hZ (hw _ (ix 49 rfl))) (mvT hZ (hw _ (ix 50 rfl))) (by decide) (backOf (W := 2) (rm10 l Z aa hw [] b13 wR (0 : Int32) (0 : Int32) h13 n0 O13 A13 F_b13_size_13 F_b13_modCount_13 F_b13_comparator_13 g_b13) hZ (hw _ (ix 50 rfl)) (hw _ (ix 47 rfl)) (by decide) (by decide)) (g := (mkF m 63 #[(sR b), (sR sd), (sR wR)] [(.ref wR), (.ref b13), (.ref b13), (.ref b)])) rfl (sz hml) (Steps.refl _) (a := b13) (argsL := [(.ref wR)]) (rest := [(.ref b13), (.ref b)]) (lenOf pd_oLjava_util_ComparatorcV rfl) rfl le0 (hb hby d21_63) (fun _ _ => ⟨rfl, e13, (by decide : 4 + 0 ≤ _), (by decide : 522 + 0 ≤ _)⟩)
  dsimp only [Pt.U, Pt.locs, Pt.cells, Pt.slots] at X14 l14 y14 z14 st14 hQ14
  subst l14 y14 z14
  obtain ⟨rfl, M14, K14, F_b13_size_14⟩ := hQ14
  have N14 := Fr.app N9 M14
  have O14 := O13.keep K14 (allS g_b13 all0)
  have KK14 : Keep h0 T14.heap [b] := K13.trans K14 (allS (Or.inr z_b13) all0)
  have E_b_14 := E_b_13.keep K14
  have Fe_14 := Fe_13.keep K14 (ninS ne_b_b13 nin0)
  have Fa_14 := Fa_13.keep K14 (ninS ne_b_b13 nin0)
  have Fb_14 := Fb_13.keep K14 (ninS ne_b_b13 nin0)
  have F_b_bestFirst_14 := F_b_bestFirst_13.keep K14 (ninS ne_b_b13 nin0)
  have Fc_14 := Fc_13.keep K14 (ninS ne_b_b13 nin0)
  have Fd_14 := Fd_13.keep K14 (ninS ne_b_b13 nin0)
  have F_b_newLevel_14 := F_b_newLevel_13.keep K14 (ninS ne_b_b13 nin0)
  have V_b2_14 := V_b2_13.keep K14 (ninS ne_b2_b13 nin0)
  have V_b4_14 := V_b4_13.keep K14 (ninS ne_b4_b13 nin0)
  have E_b6_14 := E_b6_13.keep K14
  have E_b13_14 := A13.keep K14
  refine gu (T14.setTop (mkF m 66 #[(sR b), (sR sd), (sR wR)] [(.ref b13), (.ref b)])) (fun t kt => st14.trans kt) ?_
  obtain ⟨T15, h15, X15, e15, W15, st15⟩ := putF X14 hx hZ hown (host := "") (Or.inl (hw _ (ix 64 rfl))) Via.refl rfl Fd_14 E_b_14 (Or.inr ⟨(hw _ (ix 65 rfl)), rfl, hnm⟩) (hw _ (ix 4 rfl)) (ty := (.object "java/util/NavigableMap")) (by decide) rfl rfl (g := (mkF m 66 #[(sR b), (sR sd), (sR wR)] [(.ref b13), (.ref b)])) rfl rfl (hb hby d21_66)
  have N15 := Fr.snoc X15 N14 g_b
  have O15 := O14.wr W15 g_b
  have K15 : Keep h0 h15 [b] := KK14.wr W15 (Or.inl (ix 0 rfl))
  have E_b_15 := E_b_14.wr W15
  have Fe_15 := Fe_14.other W15 (Or.inr (slot_ne (Or.inl (hw _ (ix 78 rfl))) (Or.inr (hw _ (ix 65 rfl))) (by decide) (t := .int) (t' := (.object "java/util/NavigableMap")) (by decide) (by decide)))
  have Fa_15 := Fa_14.other W15 (Or.inr (slot_ne (Or.inr (hw _ (ix 15 rfl))) (Or.inr (hw _ (ix 65 rfl))) (by decide) (t := (.array (.object "com/example/openvenue/openvenue/core/PriceLevel"))) (t' := (.object "java/util/NavigableMap")) (by decide) (by decide)))
  have Fb_15 := Fb_14.other W15 (Or.inr (slot_ne (Or.inr (hw _ (ix 18 rfl))) (Or.inr (hw _ (ix 65 rfl))) (by decide) (t := (.array .long)) (t' := (.object "java/util/NavigableMap")) (by decide) (by decide)))
  have F_b_bestFirst_15 := F_b_bestFirst_14.other W15 (Or.inr (slot_ne (Or.inr (hw _ (ix 34 rfl))) (Or.inr (hw _ (ix 65 rfl))) (by decide) (t := (.object "java/util/Collection")) (t' := (.object "java/util/NavigableMap")) (by decide) (by decide)))
  have Fc_15 := Fc_14.other W15 (Or.inr (slot_ne (Or.inr (hw _ (ix 36 rfl))) (Or.inr (hw _ (ix 65 rfl))) (by decide) (t := (.object "com/example/openvenue/openvenue/core/Side")) (t' := (.object "java/util/NavigableMap")) (by decide) (by decide)))
  have F_b_newLevel_15 := F_b_newLevel_14.other W15 (Or.inr (slot_ne (Or.inr (hw _ (ix 71 rfl))) (Or.inr (hw _ (ix 65 rfl))) (by decide) (t := (.object "java/util/function/Function")) (t' := (.object "java/util/NavigableMap")) (by decide) (by decide)))
  have V_b2_15 := V_b2_14.other W15 (Ne.symm ne_b_b2)
  have V_b4_15 := V_b4_14.other W15 (Ne.symm ne_b_b4)
  have E_b6_15 := E_b6_14.wr W15
  have E_b13_15 := E_b13_14.wr W15
  have F_b13_size_15 := F_b13_size_14.other W15 (Or.inl (Ne.symm ne_b_b13))
  have Fd_15 := Fd_14.same W15
  refine gu (T15.setTop (mkF m 69 #[(sR b), (sR sd), (sR wR)] [])) (fun t kt => st15 _ kt) ?_
  refine gu (T15.setTop (mkF m 71 #[(sR b), (sR sd), (sR wR)] [(.ref sd), (.ref b)])) (fun t kt => ?_) ?_
  ·refine XS.aloadN X15.here hx rfl (hb hby d21_69) rfl rfl ?_
   show Steps _ _ _ (T15.setTop (mkF m 70 #[(sR b), (sR sd), (sR wR)] [(.ref b)])) _
   refine XS.aloadN X15.here hx rfl (hb hby d21_70) rfl rfl ?_
   exact kt
  obtain ⟨T16, h16, X16, e16, E16, st16⟩ := X15.own_site hx hZ (x := mn22) Bd.named (hw _ (ix 66 rfl)) (by decide) own_cap (hw _ (ix 69 rfl)) e15 (g := (mkF m 71 #[(sR b), (sR sd), (sR wR)] [(.ref sd), (.ref b)])) rfl rfl (sz hml) (hb hby d21_71) (vals := [(.ref sd)]) (rest := [(.ref b)]) rfl rfl (fun i t v h1 h2 => by cases i with | zero => cases h1; cases h2; exact ⟨rfl, rfl⟩ | succ i => simp at h2) (by show 2 * 0 + _ + 3072 ≤ _; exact Nat.le_of_ble_eq_true rfl) (by decide) (Nat.le_of_ble_eq_true rfl)
  obtain ⟨b16, gq16⟩ : ∃ z, z = h15.size := ⟨_, rfl⟩
  have ne_b_b16 : b ≠ b16 := Nat.ne_of_lt (Nat.lt_of_lt_of_le E_b_15.lt (Nat.le_of_eq gq16.symm))
  have ne_b2_b16 : b2 ≠ b16 := Nat.ne_of_lt (Nat.lt_of_lt_of_le V_b2_15.lt (Nat.le_of_eq gq16.symm))
  have ne_b4_b16 : b4 ≠ b16 := Nat.ne_of_lt (Nat.lt_of_lt_of_le V_b4_15.lt (Nat.le_of_eq gq16.symm))
  have ne_b6_b16 : b6 ≠ b16 := Nat.ne_of_lt (Nat.lt_of_lt_of_le E_b6_15.lt (Nat.le_of_eq gq16.symm))
  have ne_b13_b16 : b13 ≠ b16 := Nat.ne_of_lt (Nat.lt_of_lt_of_le E_b13_15.lt (Nat.le_of_eq gq16.symm))
  have g_b16 : n0 ≤ b16 := Nat.le_trans (old_le O15) (Nat.le_of_eq gq16.symm)
  have z_b16 : h0.size ≤ b16 := Nat.le_trans K15.1 (Nat.le_of_eq gq16.symm)
  have O16 := O15.ext E16
  have K16 : Keep h0 h16 [b] := K15.ext E16
  have E_b_16 := E_b_15.ext E16
  have Fe_16 := Fe_15.ext E16
  have Fa_16 := Fa_15.ext E16
  have Fb_16 := Fb_15.ext E16
  have F_b_bestFirst_16 := F_b_bestFirst_15.ext E16
  have Fc_16 := Fc_15.ext E16
  have Fd_16 := Fd_15.ext E16
  have F_b_newLevel_16 := F_b_newLevel_15.ext E16
  have V_b2_16 := V_b2_15.ext E16
  have V_b4_16 := V_b4_15.ext E16
  have E_b6_16 := E_b6_15.ext E16
  have E_b13_16 := E_b13_15.ext E16
  have F_b13_size_16 := F_b13_size_15.ext E16
  rw [← gq16] at st16
  have X16 : Stand p l e ({ frames := 3, cells := 5, slots := 523, locals := 3074 } : Room) s m args below meth c T16 _ 5 523 := X16
  refine gu (T16.setTop (mkF m 76 #[(sR b), (sR sd), (sR wR)] [(.ref b16), (.ref b)])) (fun t kt => st16 _ kt) ?_
  obtain ⟨T17, h17, X17, e17, W17, st17⟩ := putF X16 hx hZ hown (host := "") (Or.inl (hw _ (ix 70 rfl))) Via.refl e16 F_b_newLevel_16 E_b_16 (Or.inr ⟨(hw _ (ix 71 rfl)), rfl, hnm⟩) (hw _ (ix 4 rfl)) (ty := (.object "java/util/function/Function")) (by decide) rfl rfl (g := (mkF m 76 #[(sR b), (sR sd), (sR wR)] [(.ref b16), (.ref b)])) rfl rfl (hb hby d21_76)
  have N17 := Fr.snoc X17 N15 g_b
  have O17 := O16.wr W17 g_b
  have K17 : Keep h0 h17 [b] := K16.wr W17 (Or.inl (ix 0 rfl))
  have E_b_17 := E_b_16.wr W17
  have Fe_17 := Fe_16.other W17 (Or.inr (slot_ne (Or.inl (hw _ (ix 78 rfl))) (Or.inr (hw _ (ix 71 rfl))) (by decide) (t := .int) (t' := (.object "java/util/function/Function")) (by decide) (by decide)))
  have Fa_17 := Fa_16.other W17 (Or.inr (slot_ne (Or.inr (hw _ (ix 15 rfl))) (Or.inr (hw _ (ix 71 rfl))) (by decide) (t := (.array (.object "com/example/openvenue/openvenue/core/PriceLevel"))) (t' := (.object "java/util/function/Function")) (by decide) (by decide)))
  have Fb_17 := Fb_16.other W17 (Or.inr (slot_ne (Or.inr (hw _ (ix 18 rfl))) (Or.inr (hw _ (ix 71 rfl))) (by decide) (t := (.array .long)) (t' := (.object "java/util/function/Function")) (by decide) (by decide)))
  have F_b_bestFirst_17 := F_b_bestFirst_16.other W17 (Or.inr (slot_ne (Or.inr (hw _ (ix 34 rfl))) (Or.inr (hw _ (ix 71 rfl))) (by decide) (t := (.object "java/util/Collection")) (t' := (.object "java/util/function/Function")) (by decide) (by decide)))
  have Fc_17 := Fc_16.other W17 (Or.inr (slot_ne (Or.inr (hw _ (ix 36 rfl))) (Or.inr (hw _ (ix 71 rfl))) (by decide) (t := (.object "com/example/openvenue/openvenue/core/Side")) (t' := (.object "java/util/function/Function")) (by decide) (by decide)))
  have Fd_17 := Fd_16.other W17 (Or.inr (slot_ne (Or.inr (hw _ (ix 65 rfl))) (Or.inr (hw _ (ix 71 rfl))) (by decide) (t := (.object "java/util/NavigableMap")) (t' := (.object "java/util/function/Function")) (by decide) (by decide)))
  have V_b2_17 := V_b2_16.other W17 (Ne.symm ne_b_b2)
  have V_b4_17 := V_b4_16.other W17 (Ne.symm ne_b_b4)
  have E_b6_17 := E_b6_16.wr W17
  have E_b13_17 := E_b13_16.wr W17
  have F_b13_size_17 := F_b13_size_16.other W17 (Or.inl (Ne.symm ne_b_b13))
  have F_b_newLevel_17 := F_b_newLevel_16.same W17
  refine gu (T17.setTop (mkF m 79 #[(sR b), (sR sd), (sR wR)] [])) (fun t kt => st17 _ kt) ?_
  refine Gl.ret0 X17 hx hlk Bd.returns (hb hby d21_79) ?_ (by decide) (by decide)
  show Q21 Z _ _ _ _ _ h0 n0 _ T17.heap _; rw [e17]; exact ⟨rfl, N17, K17, b2, b4, b13, k2, k4, E_b_17, Fa_17, Fb_17, Fc_17, Fd_17, Fe_17, E_b13_17, F_b13_size_17, V_b2_17, V_b4_17, OV2, g_b, g_b2, g_b4, lv0, srt0⟩
 ·refine gu (T10.setTop (mkF m 53 #[(sR b), (sR sd), .unset] [])) (fun t kt => ?_) ?_
  ·refine Jvm.RoadKit.acmp (g := (mkF m 44 #[(sR b), (sR sd), .unset] [(.ref wB), (.ref sd)])) X10 hx rfl rfl rfl (pc0 := 44) (pc' := 53) (same := false) rfl (hb hby d21_44) rfl (decide_eq_false fun q => c44_11 (Value.ref.inj q)) (by decide) (by decide) ?_
   exact kt
  obtain ⟨_, _, ⟨T18, L18, k18, n18⟩, -, X18, ⟨Lc18, hQ18, l18, y18, z18⟩, st18⟩ := Jvm.LawKit.callS X10 hx (y := mn6) hown (mvT hZ (hw _ (ix 39 rfl))) (mvT hZ (hw _ (ix 40 rfl))) (mvT hZ (hw _ (ix 41 rfl))) (mvT hZ (hw _ (ix 42 rfl))) (by decide) (backOf (W := 0) (rm7 l Z aa hw [] wN h9 n0 O9 S_wN) hZ (hw _ (ix 42 rfl)) (hw _ (ix 41 rfl)) (by decide) (by decide)) (g := (mkF m 53 #[(sR b), (sR sd), .unset] [])) rfl (sz hml) (argsL := []) (rest := []) (lenOf pd_ocLjava_util_Comparator rfl) rfl le0 (hb hby d21_53) (fun _ _ => ⟨rfl, e10, (by decide : 3 + 0 ≤ _), (by decide : 513 + 0 ≤ _)⟩)
  dsimp only [Pt.U, Pt.locs, Pt.cells, Pt.slots] at X18 l18 y18 z18 st18 hQ18
  subst l18 y18 z18
  obtain ⟨rfl, rfl, e18⟩ := hQ18
  try rw [List.append_nil] at X18
  refine gu (T18.setTop (mkF m 56 #[(sR b), (sR sd), .unset] [(.ref wN)])) (fun t kt => st18 _ kt) ?_
  refine gu (T18.setTop (mkF m 58 #[(sR b), (sR sd), (sR wN)] [(.ref b)])) (fun t kt => ?_) ?_
  ·refine XS.astoreN X18.here hx rfl (hb hby d21_56) rfl rfl (l' := #[(sR b), (sR sd), (sR wN)]) rfl ?_
   show Steps _ _ _ (T18.setTop (mkF m 57 #[(sR b), (sR sd), (sR wN)] [])) _
   refine XS.aloadN X18.here hx rfl (hb hby d21_57) rfl rfl ?_
   exact kt
  obtain ⟨T19, h19, X19, e19, E19, A19, D19, -, st19⟩ := newO X18 hx hZ hown (hw _ (ix 45 rfl)) (hw _ (ix 46 rfl)) (hw _ (ix 47 rfl)) e18 (g := (mkF m 58 #[(sR b), (sR sd), (sR wN)] [(.ref b)])) rfl (hb hby d21_58) (by decide) (by decide)
  obtain ⟨b19, gq19⟩ : ∃ z, z = h9.size := ⟨_, rfl⟩
  rw [← gq19] at A19 D19 st19
  have ne_b_b19 : b ≠ b19 := Nat.ne_of_lt (Nat.lt_of_lt_of_le E_b_9.lt (Nat.le_of_eq gq19.symm))
  have ne_b2_b19 : b2 ≠ b19 := Nat.ne_of_lt (Nat.lt_of_lt_of_le V_b2_9.lt (Nat.le_of_eq gq19.symm))
  have ne_b4_b19 : b4 ≠ b19 := Nat.ne_of_lt (Nat.lt_of_lt_of_le V_b4_9.lt (Nat.le_of_eq gq19.symm))
  have ne_b6_b19 : b6 ≠ b19 := Nat.ne_of_lt (Nat.lt_of_lt_of_le E_b6_9.lt (Nat.le_of_eq gq19.symm))
  have g_b19 : n0 ≤ b19 := Nat.le_trans (old_le O9) (Nat.le_of_eq gq19.symm)
  have z_b19 : h0.size ≤ b19 := Nat.le_trans K9.1 (Nat.le_of_eq gq19.symm)
  have O19 := O9.ext E19
  have K19 : Keep h0 h19 [b] := K9.ext E19
  have E_b_19 := E_b_9.ext E19
  have Fe_19 := Fe_9.ext E19
  have Fa_19 := Fa_9.ext E19
  have Fb_19 := Fb_9.ext E19
  have F_b_bestFirst_19 := F_b_bestFirst_9.ext E19
  have Fc_19 := Fc_9.ext E19
  have Fd_19 := Fd_9.ext E19
  have F_b_newLevel_19 := F_b_newLevel_9.ext E19
  have V_b2_19 := V_b2_9.ext E19
  have V_b4_19 := V_b4_9.ext E19
  have E_b6_19 := E_b6_9.ext E19
  have F_b19_size_19 : Fld Z h19 b19 "java/util/TreeMap" "size" "I" (.int (0 : Int32)) := D19 (Or.inl (hw _ (ix 59 rfl))) (ty := .int) (by decide)
  have F_b19_modCount_19 : Fld Z h19 b19 "java/util/TreeMap" "modCount" "I" (.int (0 : Int32)) := D19 (Or.inl (hw _ (ix 61 rfl))) (ty := .int) (by decide)
  have F_b19_comparator_19 : Fld Z h19 b19 "java/util/TreeMap" "comparator" "Ljava/util/Comparator;" .null := D19 (Or.inr (hw _ (ix 63 rfl))) (ty := (.object "java/util/Comparator")) (by decide)
  refine gu (T19.setTop (mkF m 61 #[(sR b), (sR sd), (sR wN)] [(.ref b19), (.ref b)])) (fun t kt => st19 _ kt) ?_
  refine gu (T19.setTop (mkF m 63 #[(sR b), (sR sd), (sR wN)] [(.ref wN), (.ref b19), (.ref b19), (.ref b)])) (fun t kt => ?_) ?_
  ·refine XS.dup X19.here hx rfl (hb hby d21_61) rfl rfl ?_
   show Steps _ _ _ (T19.setTop (mkF m 62 #[(sR b), (sR sd), (sR wN)] [(.ref b19), (.ref b19), (.ref b)])) _
   refine XS.aloadN X19.here hx rfl (hb hby d21_62) rfl rfl ?_
   exact kt
  obtain ⟨_, _, ⟨T20, L20, k20, n20⟩, -, X20, ⟨Lc20, hQ20, l20, y20, z20⟩, st20⟩ := X19.specialBack hx (y := mn9) rfl hown (mvT hZ (hw _ (ix 48 rfl))) (mvT hZ (hw _ (ix 49 rfl))) (mvT hZ (hw _ (ix 50 rfl))) (by decide) (backOf (W := 2) (rm10 l Z aa hw [] b19 wN (0 : Int32) (0 : Int32) h19 n0 O19 A19 F_b19_size_19 F_b19_modCount_19 F_b19_comparator_19 g_b19) hZ (hw _ (ix 50 rfl)) (hw _ (ix 47 rfl)) (by decide) (by decide)) (g := (mkF m 63 #[(sR b), (sR sd), (sR wN)] [(.ref wN), (.ref b19), (.ref b19), (.ref b)])) rfl (sz hml) (Steps.refl _) (a := b19) (argsL := [(.ref wN)]) (rest := [(.ref b19), (.ref b)]) (lenOf pd_oLjava_util_ComparatorcV rfl) rfl le0 (hb hby d21_63) (fun _ _ => ⟨rfl, e19, (by decide : 4 + 0 ≤ _), (by decide : 522 + 0 ≤ _)⟩)
  dsimp only [Pt.U, Pt.locs, Pt.cells, Pt.slots] at X20 l20 y20 z20 st20 hQ20
  subst l20 y20 z20
  obtain ⟨rfl, M20, K20, F_b19_size_20⟩ := hQ20
  have N20 := Fr.app N9 M20
  have O20 := O19.keep K20 (allS g_b19 all0)
  have KK20 : Keep h0 T20.heap [b] := K19.trans K20 (allS (Or.inr z_b19) all0)
  have E_b_20 := E_b_19.keep K20
  have Fe_20 := Fe_19.keep K20 (ninS ne_b_b19 nin0)
  have Fa_20 := Fa_19.keep K20 (ninS ne_b_b19 nin0)
  have Fb_20 := Fb_19.keep K20 (ninS ne_b_b19 nin0)
  have F_b_bestFirst_20 := F_b_bestFirst_19.keep K20 (ninS ne_b_b19 nin0)
  have Fc_20 := Fc_19.keep K20 (ninS ne_b_b19 nin0)
  have Fd_20 := Fd_19.keep K20 (ninS ne_b_b19 nin0)
  have F_b_newLevel_20 := F_b_newLevel_19.keep K20 (ninS ne_b_b19 nin0)
  have V_b2_20 := V_b2_19.keep K20 (ninS ne_b2_b19 nin0)
  have V_b4_20 := V_b4_19.keep K20 (ninS ne_b4_b19 nin0)
  have E_b6_20 := E_b6_19.keep K20
  have E_b19_20 := A19.keep K20
  refine gu (T20.setTop (mkF m 66 #[(sR b), (sR sd), (sR wN)] [(.ref b19), (.ref b)])) (fun t kt => st20.trans kt) ?_
  obtain ⟨T21, h21, X21, e21, W21, st21⟩ := putF X20 hx hZ hown (host := "") (Or.inl (hw _ (ix 64 rfl))) Via.refl rfl Fd_20 E_b_20 (Or.inr ⟨(hw _ (ix 65 rfl)), rfl, hnm⟩) (hw _ (ix 4 rfl)) (ty := (.object "java/util/NavigableMap")) (by decide) rfl rfl (g := (mkF m 66 #[(sR b), (sR sd), (sR wN)] [(.ref b19), (.ref b)])) rfl rfl (hb hby d21_66)
  have N21 := Fr.snoc X21 N20 g_b
  have O21 := O20.wr W21 g_b
  have K21 : Keep h0 h21 [b] := KK20.wr W21 (Or.inl (ix 0 rfl))
  have E_b_21 := E_b_20.wr W21
  have Fe_21 := Fe_20.other W21 (Or.inr (slot_ne (Or.inl (hw _ (ix 78 rfl))) (Or.inr (hw _ (ix 65 rfl))) (by decide) (t := .int) (t' := (.object "java/util/NavigableMap")) (by decide) (by decide)))
  have Fa_21 := Fa_20.other W21 (Or.inr (slot_ne (Or.inr (hw _ (ix 15 rfl))) (Or.inr (hw _ (ix 65 rfl))) (by decide) (t := (.array (.object "com/example/openvenue/openvenue/core/PriceLevel"))) (t' := (.object "java/util/NavigableMap")) (by decide) (by decide)))
  have Fb_21 := Fb_20.other W21 (Or.inr (slot_ne (Or.inr (hw _ (ix 18 rfl))) (Or.inr (hw _ (ix 65 rfl))) (by decide) (t := (.array .long)) (t' := (.object "java/util/NavigableMap")) (by decide) (by decide)))
  have F_b_bestFirst_21 := F_b_bestFirst_20.other W21 (Or.inr (slot_ne (Or.inr (hw _ (ix 34 rfl))) (Or.inr (hw _ (ix 65 rfl))) (by decide) (t := (.object "java/util/Collection")) (t' := (.object "java/util/NavigableMap")) (by decide) (by decide)))
  have Fc_21 := Fc_20.other W21 (Or.inr (slot_ne (Or.inr (hw _ (ix 36 rfl))) (Or.inr (hw _ (ix 65 rfl))) (by decide) (t := (.object "com/example/openvenue/openvenue/core/Side")) (t' := (.object "java/util/NavigableMap")) (by decide) (by decide)))
  have F_b_newLevel_21 := F_b_newLevel_20.other W21 (Or.inr (slot_ne (Or.inr (hw _ (ix 71 rfl))) (Or.inr (hw _ (ix 65 rfl))) (by decide) (t := (.object "java/util/function/Function")) (t' := (.object "java/util/NavigableMap")) (by decide) (by decide)))
  have V_b2_21 := V_b2_20.other W21 (Ne.symm ne_b_b2)
  have V_b4_21 := V_b4_20.other W21 (Ne.symm ne_b_b4)
  have E_b6_21 := E_b6_20.wr W21
  have E_b19_21 := E_b19_20.wr W21
  have F_b19_size_21 := F_b19_size_20.other W21 (Or.inl (Ne.symm ne_b_b19))
  have Fd_21 := Fd_20.same W21
  refine gu (T21.setTop (mkF m 69 #[(sR b), (sR sd), (sR wN)] [])) (fun t kt => st21 _ kt) ?_
  refine gu (T21.setTop (mkF m 71 #[(sR b), (sR sd), (sR wN)] [(.ref sd), (.ref b)])) (fun t kt => ?_) ?_
  ·refine XS.aloadN X21.here hx rfl (hb hby d21_69) rfl rfl ?_
   show Steps _ _ _ (T21.setTop (mkF m 70 #[(sR b), (sR sd), (sR wN)] [(.ref b)])) _
   refine XS.aloadN X21.here hx rfl (hb hby d21_70) rfl rfl ?_
   exact kt
  obtain ⟨T22, h22, X22, e22, E22, st22⟩ := X21.own_site hx hZ (x := mn22) Bd.named (hw _ (ix 66 rfl)) (by decide) own_cap (hw _ (ix 69 rfl)) e21 (g := (mkF m 71 #[(sR b), (sR sd), (sR wN)] [(.ref sd), (.ref b)])) rfl rfl (sz hml) (hb hby d21_71) (vals := [(.ref sd)]) (rest := [(.ref b)]) rfl rfl (fun i t v h1 h2 => by cases i with | zero => cases h1; cases h2; exact ⟨rfl, rfl⟩ | succ i => simp at h2) (by show 2 * 0 + _ + 3072 ≤ _; exact Nat.le_of_ble_eq_true rfl) (by decide) (Nat.le_of_ble_eq_true rfl)
  obtain ⟨b22, gq22⟩ : ∃ z, z = h21.size := ⟨_, rfl⟩
  have ne_b_b22 : b ≠ b22 := Nat.ne_of_lt (Nat.lt_of_lt_of_le E_b_21.lt (Nat.le_of_eq gq22.symm))
  have ne_b2_b22 : b2 ≠ b22 := Nat.ne_of_lt (Nat.lt_of_lt_of_le V_b2_21.lt (Nat.le_of_eq gq22.symm))
  have ne_b4_b22 : b4 ≠ b22 := Nat.ne_of_lt (Nat.lt_of_lt_of_le V_b4_21.lt (Nat.le_of_eq gq22.symm))
  have ne_b6_b22 : b6 ≠ b22 := Nat.ne_of_lt (Nat.lt_of_lt_of_le E_b6_21.lt (Nat.le_of_eq gq22.symm))
  have ne_b19_b22 : b19 ≠ b22 := Nat.ne_of_lt (Nat.lt_of_lt_of_le E_b19_21.lt (Nat.le_of_eq gq22.symm))
  have g_b22 : n0 ≤ b22 := Nat.le_trans (old_le O21) (Nat.le_of_eq gq22.symm)
  have z_b22 : h0.size ≤ b22 := Nat.le_trans K21.1 (Nat.le_of_eq gq22.symm)
  have O22 := O21.ext E22
  have K22 : Keep h0 h22 [b] := K21.ext E22
  have E_b_22 := E_b_21.ext E22
  have Fe_22 := Fe_21.ext E22
  have Fa_22 := Fa_21.ext E22
  have Fb_22 := Fb_21.ext E22
  have F_b_bestFirst_22 := F_b_bestFirst_21.ext E22
  have Fc_22 := Fc_21.ext E22
  have Fd_22 := Fd_21.ext E22
  have F_b_newLevel_22 := F_b_newLevel_21.ext E22
  have V_b2_22 := V_b2_21.ext E22
  have V_b4_22 := V_b4_21.ext E22
  have E_b6_22 := E_b6_21.ext E22
  have E_b19_22 := E_b19_21.ext E22
  have F_b19_size_22 := F_b19_size_21.ext E22
  rw [← gq22] at st22
  have X22 : Stand p l e ({ frames := 3, cells := 5, slots := 523, locals := 3074 } : Room) s m args below meth c T22 _ 5 523 := X22
  refine gu (T22.setTop (mkF m 76 #[(sR b), (sR sd), (sR wN)] [(.ref b22), (.ref b)])) (fun t kt => st22 _ kt) ?_
  obtain ⟨T23, h23, X23, e23, W23, st23⟩ := putF X22 hx hZ hown (host := "") (Or.inl (hw _ (ix 70 rfl))) Via.refl e22 F_b_newLevel_22 E_b_22 (Or.inr ⟨(hw _ (ix 71 rfl)), rfl, hnm⟩) (hw _ (ix 4 rfl)) (ty := (.object "java/util/function/Function")) (by decide) rfl rfl (g := (mkF m 76 #[(sR b), (sR sd), (sR wN)] [(.ref b22), (.ref b)])) rfl rfl (hb hby d21_76)
  have N23 := Fr.snoc X23 N21 g_b
  have O23 := O22.wr W23 g_b
  have K23 : Keep h0 h23 [b] := K22.wr W23 (Or.inl (ix 0 rfl))
  have E_b_23 := E_b_22.wr W23
  have Fe_23 := Fe_22.other W23 (Or.inr (slot_ne (Or.inl (hw _ (ix 78 rfl))) (Or.inr (hw _ (ix 71 rfl))) (by decide) (t := .int) (t' := (.object "java/util/function/Function")) (by decide) (by decide)))
  have Fa_23 := Fa_22.other W23 (Or.inr (slot_ne (Or.inr (hw _ (ix 15 rfl))) (Or.inr (hw _ (ix 71 rfl))) (by decide) (t := (.array (.object "com/example/openvenue/openvenue/core/PriceLevel"))) (t' := (.object "java/util/function/Function")) (by decide) (by decide)))
  have Fb_23 := Fb_22.other W23 (Or.inr (slot_ne (Or.inr (hw _ (ix 18 rfl))) (Or.inr (hw _ (ix 71 rfl))) (by decide) (t := (.array .long)) (t' := (.object "java/util/function/Function")) (by decide) (by decide)))
  have F_b_bestFirst_23 := F_b_bestFirst_22.other W23 (Or.inr (slot_ne (Or.inr (hw _ (ix 34 rfl))) (Or.inr (hw _ (ix 71 rfl))) (by decide) (t := (.object "java/util/Collection")) (t' := (.object "java/util/function/Function")) (by decide) (by decide)))
  have Fc_23 := Fc_22.other W23 (Or.inr (slot_ne (Or.inr (hw _ (ix 36 rfl))) (Or.inr (hw _ (ix 71 rfl))) (by decide) (t := (.object "com/example/openvenue/openvenue/core/Side")) (t' := (.object "java/util/function/Function")) (by decide) (by decide)))
  have Fd_23 := Fd_22.other W23 (Or.inr (slot_ne (Or.inr (hw _ (ix 65 rfl))) (Or.inr (hw _ (ix 71 rfl))) (by decide) (t := (.object "java/util/NavigableMap")) (t' := (.object "java/util/function/Function")) (by decide) (by decide)))
  have V_b2_23 := V_b2_22.other W23 (Ne.symm ne_b_b2)
  have V_b4_23 := V_b4_22.other W23 (Ne.symm ne_b_b4)
  have E_b6_23 := E_b6_22.wr W23
  have E_b19_23 := E_b19_22.wr W23
  have F_b19_size_23 := F_b19_size_22.other W23 (Or.inl (Ne.symm ne_b_b19))
  have F_b_newLevel_23 := F_b_newLevel_22.same W23
  refine gu (T23.setTop (mkF m 79 #[(sR b), (sR sd), (sR wN)] [])) (fun t kt => st23 _ kt) ?_
  refine Gl.ret0 X23 hx hlk Bd.returns (hb hby d21_79) ?_ (by decide) (by decide)
  show Q21 Z _ _ _ _ _ h0 n0 _ T23.heap _; rw [e23]; exact ⟨rfl, N23, K23, b2, b4, b19, k2, k4, E_b_23, Fa_23, Fb_23, Fc_23, Fd_23, Fe_23, E_b19_23, F_b19_size_23, V_b2_23, V_b4_23, OV2, g_b, g_b2, g_b4, lv0, srt0⟩
def vo (o : Option Addr) : Value := match o with | none => .null | some a => .ref a
theorem vo_ref (o : Option Addr) : (vo o).isRef = true := by cases o <;> rfl
def cm (o : Option Addr) (x : Int64) (q : Addr × Int64) : Prop := o = some q.1 ∧ q.2 = x
def MM0 (q : Addr × Int64) : Prop := False
def MM1 (o0 : Option Addr) (p0 : Int64) (q : Addr × Int64) : Prop := MM0 q ∨ cm o0 p0 q
def MM2 (o0 o1 : Option Addr) (p0 p1 : Int64) (q : Addr × Int64) : Prop := MM1 o0 p0 q ∨ cm o1 p1 q
def MM3 (o0 o1 o2 : Option Addr) (p0 p1 p2 : Int64) (q : Addr × Int64) : Prop := MM2 o0 o1 p0 p1 q ∨ cm o2 p2 q
theorem own_mm0 : ∀ q, q ∈ ([] : List (Addr × Int64)) ↔ MM0 q := fun q => by simp [MM0]
theorem own_mmT {bl bl' : List (Addr × Int64)} {PM : Addr × Int64 → Prop} {y : Addr} {x : Int64} (h1 : ∀ q, q ∈ bl ↔ PM q) (h2 : ∀ q, q ∈ bl' ↔ q ∈ bl ∨ q = (y, x)) : ∀ q, q ∈ bl' ↔ PM q ∨ cm (some y) x q := fun q => by
 rw [h2 q, h1 q]
 have : q = (y, x) ↔ cm (some y) x q := by
  constructor
  ·rintro rfl; exact ⟨rfl, rfl⟩
  ·rintro ⟨e1, e2⟩
   cases q; cases e1; cases e2; rfl
 rw [this]
theorem own_mmF {bl : List (Addr × Int64)} {PM : Addr × Int64 → Prop} {x : Int64} (h1 : ∀ q, q ∈ bl ↔ PM q) : ∀ q, q ∈ bl ↔ PM q ∨ cm none x q := fun q => by
 rw [h1 q]
 exact ⟨Or.inl, fun h => h.elim id fun z => nomatch z.1⟩
theorem own_mr {bl bl' : List (Addr × Int64)} {PM : Addr × Int64 → Prop} {x : Int64} (h1 : ∀ q, q ∈ bl ↔ PM q) (h2 : ∀ q, q ∈ bl' ↔ q ∈ bl ∧ q.2 ≠ x) : ∀ q, q ∈ bl' ↔ PM q ∧ ¬ ((1 : Int32) ≠ 0 ∧ q.2 = x) := fun q => by
 rw [h2 q, h1 q]
 exact ⟨fun h => ⟨h.1, fun z => h.2 z.2⟩, fun h => ⟨h.1, fun z => h.2 ⟨by decide, z⟩⟩⟩
theorem own_mk {bl : List (Addr × Int64)} {PM : Addr × Int64 → Prop} {x : Int64} (h1 : ∀ q, q ∈ bl ↔ PM q) : ∀ q, q ∈ bl ↔ PM q ∧ ¬ ((0 : Int32) ≠ 0 ∧ q.2 = x) := fun q => by
 rw [h1 q]
 exact ⟨fun h => ⟨h, fun z => z.1 rfl⟩, fun h => h.1⟩
theorem own_i3 {v rm k nn : Int32} {x gn : Int64} (h : v = (if k < nn then (if rm = (0 : Int32) then (1 : Int32) else (if x = gn then (0 : Int32) else (1 : Int32))) else (0 : Int32))) : ¬ v = 0 ↔ (k < nn ∧ ¬ (rm ≠ 0 ∧ x = gn)) := by
 rw [h]
 by_cases h0 : k < nn
 ·by_cases h1 : rm = 0
  ·simp [h0, h1]
  ·by_cases h2 : x = gn <;> simp [h0, h1, h2]
 ·simp [h0]
theorem own_some {o : Option Addr} {P : Prop} (h : o.isSome = true ↔ P) (q : P) : ∃ y, o = some y := Option.isSome_iff_exists.mp (h.mpr q)
theorem own_two {nn rr : Int32} (hn : nn = 0 ∨ nn = 1 ∨ nn = 2 ∨ nn = 3) (hr : rr = 0 ∨ rr = 1 ∨ rr = 2 ∨ rr = 3) (h : rr < nn) (h0 : ¬ rr = (0 : Int32)) (h1 : ¬ rr = (1 : Int32)) : (2 : Int32) < nn := by
 rcases hr with rfl | rfl | rfl | rfl
 ·exact absurd rfl h0
 ·exact absurd rfl h1
 ·exact h
 ·rcases hn with rfl | rfl | rfl | rfl <;> exact absurd h (by decide)
def IV (bl : List (Addr × Int64)) (sd wB : Addr) (o : Option Addr) (wp : Int64) (cs : List (Int32 × Int64)) : Prop := match o with
 | none => ∀ z ∈ cs, z.1 = 0
 | some y => (y, wp) ∈ bl ∧ ∀ z ∈ cs, ¬ z.1 = 0 → ¬ ky sd wB wp < ky sd wB z.2
section IVs
variable {bl : List (Addr × Int64)} {sd wB : Addr} {o : Option Addr} {wp x : Int64} {cs : List (Int32 × Int64)} {v : Int32} {y y' : Addr}
theorem iv0 : IV bl sd wB none wp [] := fun _ h => nomatch h
theorem iv_skip (h : v = 0) (I : IV bl sd wB o wp cs) : IV bl sd wB o wp ((v, x) :: cs) := by
 cases o with
 | none => exact fun z hz => (List.mem_cons.mp hz).elim (fun e => by rw [e]; exact h) (I z)
 | some y => exact ⟨I.1, fun z hz hn => (List.mem_cons.mp hz).elim (fun e => absurd h (by rw [e] at hn; exact hn)) (fun hz => I.2 z hz hn)⟩
theorem iv_first (hm : (y, x) ∈ bl) (I : IV bl sd wB none wp cs) : IV bl sd wB (some y) x ((v, x) :: cs) :=
 ⟨hm, fun z hz hn => (List.mem_cons.mp hz).elim (fun e => by rw [e]; exact Int.lt_irrefl _) (fun hz => absurd (I z hz) hn)⟩
theorem iv_better (hb : ky sd wB wp < ky sd wB x) (hm : (y, x) ∈ bl) (I : IV bl sd wB (some y') wp cs) : IV bl sd wB (some y) x ((v, x) :: cs) :=
 ⟨hm, fun z hz hn => (List.mem_cons.mp hz).elim (fun e => by rw [e]; exact Int.lt_irrefl _) (fun hz => by have := I.2 z hz hn; omega)⟩
theorem iv_keep (hb : ¬ ky sd wB wp < ky sd wB x) (I : IV bl sd wB (some y') wp cs) : IV bl sd wB (some y') wp ((v, x) :: cs) :=
 ⟨I.1, fun z hz hn => (List.mem_cons.mp hz).elim (fun e => by rw [e]; exact hb) (fun hz => I.2 z hz hn)⟩
end IVs
theorem own_cand {nn rm : Int32} {gn : Int64} {o : Option Addr} {x : Int64} {k v : Int32} {q : Addr × Int64} (ho : o.isSome = true ↔ k < nn) (hv : ¬ v = 0 ↔ (k < nn ∧ ¬ (rm ≠ 0 ∧ x = gn))) (hc : cm o x q) (hn : ¬ (rm ≠ 0 ∧ q.2 = gn)) : ¬ v = 0 ∧ q.2 = x := by
 obtain ⟨e1, e2⟩ := hc
 refine ⟨hv.mpr ⟨ho.mp (by rw [e1]; rfl), by rw [← e2]; exact hn⟩, e2⟩
theorem own_end {bl : List (Addr × Int64)} {sd wB : Addr} {o0 o1 o2 w : Option Addr} {p0 p1 p2 wp gn : Int64} {nn rm v0 v1 v2 : Int32} (hs0 : o0.isSome = true ↔ (0 : Int32) < nn) (hs1 : o1.isSome = true ↔ (1 : Int32) < nn) (hs2 : o2.isSome = true ↔ (2 : Int32) < nn)
  (h0 : ¬ v0 = 0 ↔ ((0 : Int32) < nn ∧ ¬ (rm ≠ 0 ∧ p0 = gn))) (h1 : ¬ v1 = 0 ↔ ((1 : Int32) < nn ∧ ¬ (rm ≠ 0 ∧ p1 = gn))) (h2 : ¬ v2 = 0 ↔ ((2 : Int32) < nn ∧ ¬ (rm ≠ 0 ∧ p2 = gn)))
  (HM : ∀ q, q ∈ bl ↔ MM3 o0 o1 o2 p0 p1 p2 q ∧ ¬ (rm ≠ 0 ∧ q.2 = gn)) (so : Srt sd wB (bl.map Prod.snd)) (I : IV bl sd wB w wp [(v2, p2), (v1, p1), (v0, p0)]) : bst bl = vo w := by
 have key : ∀ q ∈ bl, ∃ z ∈ [(v2, p2), (v1, p1), (v0, p0)], ¬ z.1 = 0 ∧ q.2 = z.2 := fun q hq => by
  obtain ⟨hm, hn⟩ := (HM q).mp hq
  rcases hm with ((hm | hm) | hm) | hm
  ·exact hm.elim
  ·exact ⟨(v0, p0), by simp, own_cand hs0 h0 hm hn⟩
  ·exact ⟨(v1, p1), by simp, own_cand hs1 h1 hm hn⟩
  ·exact ⟨(v2, p2), by simp, own_cand hs2 h2 hm hn⟩
 cases w with
 | none => exact own_nil fun q hq => by obtain ⟨z, hz, hn, -⟩ := key q hq; exact hn (I z hz)
 | some y => exact own_last so I.1 fun q hq => (by obtain ⟨z, hz, hn, e⟩ := key q hq; rw [e]; exact I.2 z hz hn)

theorem own_exa {args : Array Value} {s : State} {t : Term} {C : String} (h : (Jvm.Cond.exactly t C).value args s none s [] = some true) : ∃ a, t.eval args s none [] s = some (.ref a) ∧ Exa s s.heap a C := by
 have h' : (Jvm.Cond.exactly t C).before args s = true := Cond.before_iff.mpr h
 obtain ⟨b, cB, cellB, kB, hb, hcB, hcellB, hkB, hstatB, hclsB, -⟩ := Cond.exactly_spec h'
 exact ⟨b, hb, Exa.start hb h⟩

def Q0 (n0 : Nat) (v : Option Value) (h : Heap) (L : List Loc) : Prop := v = some (.int 1) ∧ Fr n0 L
theorem ef0 (m : MethodId) (fl : Int32) (p0 : Int64) (p1 : Int64) (p2 : Int64) : entryFrame m #[(.int fl), (.long p0), (.long p1), (.long p2)] maxLocals = mkF m 0 #[(sI fl), (sJ p0), .second, (sJ p1), .second, (sJ p2), .second, .unset, .unset, .unset, .unset, .unset, .unset, .unset, .unset, .unset, .unset, .unset, .unset, .unset, .unset, .unset, .unset, .unset] [] := by first | (simp [entryFrame, mkF, argsToLocals, Value.category, maxLocals]; done) | rfl
set_option maxRecDepth 65536 in
set_option maxHeartbeats 40000000 in
theorem rm0 (l : Launch) (Z : State) (aa : Array Value) (hw : ∀ d ∈ tables_1, d.before aa Z = true) (ws : List Jvm.Cond) (fl : Int32) (p0 : Int64) (p1 : Int64) (p2 : Int64) (wS : Addr) (wB : Addr) (wN : Addr) (wR : Addr) (h0 : Heap) (n0 : Nat) (O0 : Old Z n0 h0) (S_wS : Sta Z Z.heap "com/example/openvenue/openvenue/core/Side" "SELL" "Lcom/example/openvenue/openvenue/core/Side;" (.ref wS)) (S_wB : Sta Z Z.heap "com/example/openvenue/openvenue/core/Side" "BUY" "Lcom/example/openvenue/openvenue/core/Side;" (.ref wB)) (S_wN : Sta Z Z.heap "java/util/Comparators$NaturalOrderComparator" "INSTANCE" "Ljava/util/Comparators$NaturalOrderComparator;" (.ref wN)) (S_wR : Sta Z Z.heap "java/util/Collections$ReverseComparator" "REVERSE_ORDER" "Ljava/util/Collections$ReverseComparator;" (.ref wR)) :
  MetFree l x (head1 (Jvm.Cond.code x code maxLocals ret :: ws) room_1) (fun a U => a = #[(.int fl), (.long p0), (.long p1), (.long p2)] ∧ Z.Warmed39 U.vm ∧ U.heap = h0) (fun _ _ _ _ _ => True) (fun _ U o U' => ∃ v L, o = .returned v ∧ Q0 n0 v U'.heap L ∧ FrameEnd U o U' L 12 554) := by
 refine MetFree.of_bodySF (plainFor_of_name pn_com_example_openvenue_openvenue_core_BookSideBestPinLaw) hisR ?_
 intro p e s m args below meth c s₁ Bd hml0 hP hK
 obtain ⟨rfl, hZ, hh⟩ := hP
 have hx := Bd.exec
 have hby := Bd.bytes
 have hlk := Bd.notSynchronized
 have hml : c.maxLocals = 24 := hml0
 have hown : s.vm.findClass "com/example/openvenue/openvenue/core/BookSideBestPinLaw" = some m.cls := findClass_of_methodNamed Bd.named
 have hnm := (name_of_methodNamed Bd.named Bd.method).1
 have X0 : Stand p l e room_1 s m #[(.int fl), (.long p0), (.long p1), (.long p2)] below meth c s₁ [] 0 0 := Stand.of_body Bd
 have e0 : s₁.heap = h0 := by rw [← hh, Bd.state]; rfl
 have N0 := Fr.nil n0
 show Gl p e below (Ret s 12 554 (Q0 n0)) (s₁.setTop (entryFrame m #[(.int fl), (.long p0), (.long p1), (.long p2)] maxLocals))
 rw [ef0 m fl p0 p1 p2]
 obtain ⟨args, hargs⟩ : ∃ z : Array Value, z = #[(.int fl), (.long p0), (.long p1), (.long p2)] := ⟨_, rfl⟩
 rw [← hargs] at X0
 refine gu (s₁.setTop (mkF m 3 #[(sI fl), (sJ p0), .second, (sJ p1), .second, (sJ p2), .second, .unset, .unset, .unset, .unset, .unset, .unset, .unset, .unset, .unset, .unset, .unset, .unset, .unset, .unset, .unset, .unset, .unset] [(.int (fl &&& (1 : Int32)))])) (fun t kt => ?_) ?_
 ·refine XS.iloadN X0.here hx rfl (hb hby at_0) rfl ?_
  show Steps _ _ _ (s₁.setTop (mkF m 1 #[(sI fl), (sJ p0), .second, (sJ p1), .second, (sJ p2), .second, .unset, .unset, .unset, .unset, .unset, .unset, .unset, .unset, .unset, .unset, .unset, .unset, .unset, .unset, .unset, .unset, .unset] [(.int fl)])) _
  refine XS.iconst X0.here hx rfl (hb hby at_1) ?_
  show Steps _ _ _ (s₁.setTop (mkF m 2 #[(sI fl), (sJ p0), .second, (sJ p1), .second, (sJ p2), .second, .unset, .unset, .unset, .unset, .unset, .unset, .unset, .unset, .unset, .unset, .unset, .unset, .unset, .unset, .unset, .unset, .unset] [(.int (1 : Int32)), (.int fl)])) _
  refine XS.iand X0.here hx rfl (hb hby at_2) rfl ?_
  exact kt
 suffices J1 : ∀ (T1 : State) (v1_s0 : Addr), v1_s0 = (if (fl &&& (1 : Int32)) = (0 : Int32) then wS else wB) → Stand p l e room_1 s m args below meth c T1 [] 0 0 → T1.heap = h0 → Gl p e below (Ret s 12 554 (Q0 n0)) (T1.setTop (mkF m 15 #[(sI fl), (sJ p0), .second, (sJ p1), .second, (sJ p2), .second, .unset, .unset, .unset, .unset, .unset, .unset, .unset, .unset, .unset, .unset, .unset, .unset, .unset, .unset, .unset, .unset, .unset] [(.ref v1_s0)])) by
  by_cases c3_2 : (fl &&& (1 : Int32)) = (0 : Int32)
  ·refine gu (s₁.setTop (mkF m 12 #[(sI fl), (sJ p0), .second, (sJ p1), .second, (sJ p2), .second, .unset, .unset, .unset, .unset, .unset, .unset, .unset, .unset, .unset, .unset, .unset, .unset, .unset, .unset, .unset, .unset, .unset] [])) (fun t kt => ?_) ?_
   ·refine XS.ifYes X0.here hx rfl (pc0 := 3) (pc' := 12) rfl (hb hby at_3) rfl ((if0 _ _).trans (teq c3_2).1) (by decide) (by decide) ?_
    exact kt
   obtain ⟨T3, X3, e3, st3⟩ := getS2 X0 hx hZ hown (host := "") (Or.inl (hw _ (ix 0 rfl))) Via.refl e0 (S_wS.ext O0.2) (g := (mkF m 12 #[(sI fl), (sJ p0), .second, (sJ p1), .second, (sJ p2), .second, .unset, .unset, .unset, .unset, .unset, .unset, .unset, .unset, .unset, .unset, .unset, .unset, .unset, .unset, .unset, .unset, .unset] [])) rfl (hb hby at_12)
   refine gu (T3.setTop (mkF m 15 #[(sI fl), (sJ p0), .second, (sJ p1), .second, (sJ p2), .second, .unset, .unset, .unset, .unset, .unset, .unset, .unset, .unset, .unset, .unset, .unset, .unset, .unset, .unset, .unset, .unset, .unset] [(.ref wS)])) (fun t kt => st3 _ kt) ?_
   exact J1 _ wS (if_pos c3_2).symm X3 e3
  ·refine gu (s₁.setTop (mkF m 6 #[(sI fl), (sJ p0), .second, (sJ p1), .second, (sJ p2), .second, .unset, .unset, .unset, .unset, .unset, .unset, .unset, .unset, .unset, .unset, .unset, .unset, .unset, .unset, .unset, .unset, .unset] [])) (fun t kt => ?_) ?_
   ·refine XS.ifNo X0.here hx rfl (hb hby at_3) rfl ((if0 _ _).trans (feq c3_2).1) ?_
    exact kt
   obtain ⟨T4, X4, e4, st4⟩ := getS2 X0 hx hZ hown (host := "") (Or.inl (hw _ (ix 79 rfl))) Via.refl e0 (S_wB.ext O0.2) (g := (mkF m 6 #[(sI fl), (sJ p0), .second, (sJ p1), .second, (sJ p2), .second, .unset, .unset, .unset, .unset, .unset, .unset, .unset, .unset, .unset, .unset, .unset, .unset, .unset, .unset, .unset, .unset, .unset] [])) rfl (hb hby at_6)
   refine gu (T4.setTop (mkF m 9 #[(sI fl), (sJ p0), .second, (sJ p1), .second, (sJ p2), .second, .unset, .unset, .unset, .unset, .unset, .unset, .unset, .unset, .unset, .unset, .unset, .unset, .unset, .unset, .unset, .unset, .unset] [(.ref wB)])) (fun t kt => st4 _ kt) ?_
   refine gu (T4.setTop (mkF m 15 #[(sI fl), (sJ p0), .second, (sJ p1), .second, (sJ p2), .second, .unset, .unset, .unset, .unset, .unset, .unset, .unset, .unset, .unset, .unset, .unset, .unset, .unset, .unset, .unset, .unset, .unset] [(.ref wB)])) (fun t kt => ?_) ?_
   ·refine XS.goto X4.here hx rfl (pc0 := 9) (pc' := 15) rfl (hb hby at_9) (by decide) (by decide) ?_
    exact kt
   exact J1 _ wB (if_neg c3_2).symm X4 e4
 intro T1 v1_s0 hv1_s0 X1 e1
 refine gu (T1.setTop (mkF m 22 #[(sI fl), (sJ p0), .second, (sJ p1), .second, (sJ p2), .second, (sR v1_s0), .unset, .unset, .unset, .unset, .unset, .unset, .unset, .unset, .unset, .unset, .unset, .unset, .unset, .unset, .unset, .unset] [(.int (((fl.toUInt32 >>> ((1 : Int32) &&& 31).toUInt32).toInt32) &&& (3 : Int32)))])) (fun t kt => ?_) ?_
 ·refine XS.astore X1.here hx rfl (hb hby at_15) rfl rfl (l' := #[(sI fl), (sJ p0), .second, (sJ p1), .second, (sJ p2), .second, (sR v1_s0), .unset, .unset, .unset, .unset, .unset, .unset, .unset, .unset, .unset, .unset, .unset, .unset, .unset, .unset, .unset, .unset]) rfl ?_
  show Steps _ _ _ (T1.setTop (mkF m 17 #[(sI fl), (sJ p0), .second, (sJ p1), .second, (sJ p2), .second, (sR v1_s0), .unset, .unset, .unset, .unset, .unset, .unset, .unset, .unset, .unset, .unset, .unset, .unset, .unset, .unset, .unset, .unset] [])) _
  refine XS.iloadN X1.here hx rfl (hb hby at_17) rfl ?_
  show Steps _ _ _ (T1.setTop (mkF m 18 #[(sI fl), (sJ p0), .second, (sJ p1), .second, (sJ p2), .second, (sR v1_s0), .unset, .unset, .unset, .unset, .unset, .unset, .unset, .unset, .unset, .unset, .unset, .unset, .unset, .unset, .unset, .unset] [(.int fl)])) _
  refine XS.iconst X1.here hx rfl (hb hby at_18) ?_
  show Steps _ _ _ (T1.setTop (mkF m 19 #[(sI fl), (sJ p0), .second, (sJ p1), .second, (sJ p2), .second, (sR v1_s0), .unset, .unset, .unset, .unset, .unset, .unset, .unset, .unset, .unset, .unset, .unset, .unset, .unset, .unset, .unset, .unset] [(.int (1 : Int32)), (.int fl)])) _
  refine XS.iushr X1.here hx rfl (hb hby at_19) rfl ?_
  show Steps _ _ _ (T1.setTop (mkF m 20 #[(sI fl), (sJ p0), .second, (sJ p1), .second, (sJ p2), .second, (sR v1_s0), .unset, .unset, .unset, .unset, .unset, .unset, .unset, .unset, .unset, .unset, .unset, .unset, .unset, .unset, .unset, .unset] [(.int ((fl.toUInt32 >>> ((1 : Int32) &&& 31).toUInt32).toInt32))])) _
  refine XS.iconst X1.here hx rfl (hb hby at_20) ?_
  show Steps _ _ _ (T1.setTop (mkF m 21 #[(sI fl), (sJ p0), .second, (sJ p1), .second, (sJ p2), .second, (sR v1_s0), .unset, .unset, .unset, .unset, .unset, .unset, .unset, .unset, .unset, .unset, .unset, .unset, .unset, .unset, .unset, .unset] [(.int (3 : Int32)), (.int ((fl.toUInt32 >>> ((1 : Int32) &&& 31).toUInt32).toInt32))])) _
  refine XS.iand X1.here hx rfl (hb hby at_21) rfl ?_
  exact kt
 obtain ⟨u5, hu5⟩ : ∃ q : Int32, q = (((fl.toUInt32 >>> ((1 : Int32) &&& 31).toUInt32).toInt32) &&& (3 : Int32)) := ⟨_, rfl⟩
 rw [← hu5]
 refine gu (T1.setTop (mkF m 29 #[(sI fl), (sJ p0), .second, (sJ p1), .second, (sJ p2), .second, (sR v1_s0), (sI u5), .unset, .unset, .unset, .unset, .unset, .unset, .unset, .unset, .unset, .unset, .unset, .unset, .unset, .unset, .unset] [(.int (((fl.toUInt32 >>> ((3 : Int32) &&& 31).toUInt32).toInt32) &&& (3 : Int32)))])) (fun t kt => ?_) ?_
 ·refine XS.istore X1.here hx rfl (hb hby at_22) rfl (l' := #[(sI fl), (sJ p0), .second, (sJ p1), .second, (sJ p2), .second, (sR v1_s0), (sI u5), .unset, .unset, .unset, .unset, .unset, .unset, .unset, .unset, .unset, .unset, .unset, .unset, .unset, .unset, .unset]) rfl ?_
  show Steps _ _ _ (T1.setTop (mkF m 24 #[(sI fl), (sJ p0), .second, (sJ p1), .second, (sJ p2), .second, (sR v1_s0), (sI u5), .unset, .unset, .unset, .unset, .unset, .unset, .unset, .unset, .unset, .unset, .unset, .unset, .unset, .unset, .unset] [])) _
  refine XS.iloadN X1.here hx rfl (hb hby at_24) rfl ?_
  show Steps _ _ _ (T1.setTop (mkF m 25 #[(sI fl), (sJ p0), .second, (sJ p1), .second, (sJ p2), .second, (sR v1_s0), (sI u5), .unset, .unset, .unset, .unset, .unset, .unset, .unset, .unset, .unset, .unset, .unset, .unset, .unset, .unset, .unset] [(.int fl)])) _
  refine XS.iconst X1.here hx rfl (hb hby at_25) ?_
  show Steps _ _ _ (T1.setTop (mkF m 26 #[(sI fl), (sJ p0), .second, (sJ p1), .second, (sJ p2), .second, (sR v1_s0), (sI u5), .unset, .unset, .unset, .unset, .unset, .unset, .unset, .unset, .unset, .unset, .unset, .unset, .unset, .unset, .unset] [(.int (3 : Int32)), (.int fl)])) _
  refine XS.iushr X1.here hx rfl (hb hby at_26) rfl ?_
  show Steps _ _ _ (T1.setTop (mkF m 27 #[(sI fl), (sJ p0), .second, (sJ p1), .second, (sJ p2), .second, (sR v1_s0), (sI u5), .unset, .unset, .unset, .unset, .unset, .unset, .unset, .unset, .unset, .unset, .unset, .unset, .unset, .unset, .unset] [(.int ((fl.toUInt32 >>> ((3 : Int32) &&& 31).toUInt32).toInt32))])) _
  refine XS.iconst X1.here hx rfl (hb hby at_27) ?_
  show Steps _ _ _ (T1.setTop (mkF m 28 #[(sI fl), (sJ p0), .second, (sJ p1), .second, (sJ p2), .second, (sR v1_s0), (sI u5), .unset, .unset, .unset, .unset, .unset, .unset, .unset, .unset, .unset, .unset, .unset, .unset, .unset, .unset, .unset] [(.int (3 : Int32)), (.int ((fl.toUInt32 >>> ((3 : Int32) &&& 31).toUInt32).toInt32))])) _
  refine XS.iand X1.here hx rfl (hb hby at_28) rfl ?_
  exact kt
 obtain ⟨u6, hu6⟩ : ∃ q : Int32, q = (((fl.toUInt32 >>> ((3 : Int32) &&& 31).toUInt32).toInt32) &&& (3 : Int32)) := ⟨_, rfl⟩
 rw [← hu6]
 refine gu (T1.setTop (mkF m 31 #[(sI fl), (sJ p0), .second, (sJ p1), .second, (sJ p2), .second, (sR v1_s0), (sI u5), (sI u6), .unset, .unset, .unset, .unset, .unset, .unset, .unset, .unset, .unset, .unset, .unset, .unset, .unset, .unset] [])) (fun t kt => ?_) ?_
 ·refine XS.istore X1.here hx rfl (hb hby at_29) rfl (l' := #[(sI fl), (sJ p0), .second, (sJ p1), .second, (sJ p2), .second, (sR v1_s0), (sI u5), (sI u6), .unset, .unset, .unset, .unset, .unset, .unset, .unset, .unset, .unset, .unset, .unset, .unset, .unset, .unset]) rfl ?_
  exact kt
 obtain ⟨T7, h7, X7, e7, E7, A7, D7, -, st7⟩ := newO X1 hx hZ hown (hw _ (ix 3 rfl)) (hw _ (ix 4 rfl)) (hw _ (ix 5 rfl)) e1 (g := (mkF m 31 #[(sI fl), (sJ p0), .second, (sJ p1), .second, (sJ p2), .second, (sR v1_s0), (sI u5), (sI u6), .unset, .unset, .unset, .unset, .unset, .unset, .unset, .unset, .unset, .unset, .unset, .unset, .unset, .unset] [])) rfl (hb hby at_31) (by decide) (by decide)
 obtain ⟨b7, gq7⟩ : ∃ z, z = h0.size := ⟨_, rfl⟩
 rw [← gq7] at A7 D7 st7
 have g_b7 : n0 ≤ b7 := Nat.le_trans (old_le O0) (Nat.le_of_eq gq7.symm)
 have O7 := O0.ext E7
 have F_b7_levels_7 : Fld Z h7 b7 "com/example/openvenue/openvenue/core/BookSide" "levels" "[Lcom/example/openvenue/openvenue/core/PriceLevel;" .null := D7 (Or.inr (hw _ (ix 15 rfl))) (ty := (.array (.object "com/example/openvenue/openvenue/core/PriceLevel"))) (by decide)
 have F_b7_prices_7 : Fld Z h7 b7 "com/example/openvenue/openvenue/core/BookSide" "prices" "[J" .null := D7 (Or.inr (hw _ (ix 18 rfl))) (ty := (.array .long)) (by decide)
 have F_b7_bestFirst_7 : Fld Z h7 b7 "com/example/openvenue/openvenue/core/BookSide" "bestFirst" "Ljava/util/Collection;" .null := D7 (Or.inr (hw _ (ix 34 rfl))) (ty := (.object "java/util/Collection")) (by decide)
 have F_b7_side_7 : Fld Z h7 b7 "com/example/openvenue/openvenue/core/BookSide" "side" "Lcom/example/openvenue/openvenue/core/Side;" .null := D7 (Or.inr (hw _ (ix 36 rfl))) (ty := (.object "com/example/openvenue/openvenue/core/Side")) (by decide)
 have F_b7_deeper_7 : Fld Z h7 b7 "com/example/openvenue/openvenue/core/BookSide" "deeper" "Ljava/util/NavigableMap;" .null := D7 (Or.inr (hw _ (ix 65 rfl))) (ty := (.object "java/util/NavigableMap")) (by decide)
 have F_b7_newLevel_7 : Fld Z h7 b7 "com/example/openvenue/openvenue/core/BookSide" "newLevel" "Ljava/util/function/Function;" .null := D7 (Or.inr (hw _ (ix 71 rfl))) (ty := (.object "java/util/function/Function")) (by decide)
 have F_b7_count_7 : Fld Z h7 b7 "com/example/openvenue/openvenue/core/BookSide" "count" "I" (.int (0 : Int32)) := D7 (Or.inl (hw _ (ix 78 rfl))) (ty := .int) (by decide)
 refine gu (T7.setTop (mkF m 34 #[(sI fl), (sJ p0), .second, (sJ p1), .second, (sJ p2), .second, (sR v1_s0), (sI u5), (sI u6), .unset, .unset, .unset, .unset, .unset, .unset, .unset, .unset, .unset, .unset, .unset, .unset, .unset, .unset] [(.ref b7)])) (fun t kt => st7 _ kt) ?_
 refine gu (T7.setTop (mkF m 37 #[(sI fl), (sJ p0), .second, (sJ p1), .second, (sJ p2), .second, (sR v1_s0), (sI u5), (sI u6), .unset, .unset, .unset, .unset, .unset, .unset, .unset, .unset, .unset, .unset, .unset, .unset, .unset, .unset] [(.ref v1_s0), (.ref b7), (.ref b7)])) (fun t kt => ?_) ?_
 ·refine XS.dup X7.here hx rfl (hb hby at_34) rfl rfl ?_
  show Steps _ _ _ (T7.setTop (mkF m 35 #[(sI fl), (sJ p0), .second, (sJ p1), .second, (sJ p2), .second, (sR v1_s0), (sI u5), (sI u6), .unset, .unset, .unset, .unset, .unset, .unset, .unset, .unset, .unset, .unset, .unset, .unset, .unset, .unset] [(.ref b7), (.ref b7)])) _
  refine XS.aload X7.here hx rfl (hb hby at_35) rfl rfl ?_
  exact kt
 obtain ⟨_, _, ⟨T8, L8, k8, n8⟩, -, X8, ⟨Lc8, hQ8, l8, y8, z8⟩, st8⟩ := X7.specialBack hx (y := mn22) rfl hown (mvT hZ (hw _ (ix 6 rfl))) (mvT hZ (hw _ (ix 7 rfl))) (mvT hZ (hw _ (ix 8 rfl))) (by decide) (backOf (W := 1) (rm21 l Z aa hw [] b7 v1_s0 wB wN wR h7 n0 O7 S_wB S_wN S_wR A7 F_b7_levels_7 F_b7_prices_7 F_b7_bestFirst_7 F_b7_side_7 F_b7_deeper_7 F_b7_newLevel_7 F_b7_count_7 g_b7) hZ (hw _ (ix 8 rfl)) (hw _ (ix 5 rfl)) (by decide) (by decide)) (g := (mkF m 37 #[(sI fl), (sJ p0), .second, (sJ p1), .second, (sJ p2), .second, (sR v1_s0), (sI u5), (sI u6), .unset, .unset, .unset, .unset, .unset, .unset, .unset, .unset, .unset, .unset, .unset, .unset, .unset, .unset] [(.ref v1_s0), (.ref b7), (.ref b7)])) rfl (sz hml) (Steps.refl _) (a := b7) (argsL := [(.ref v1_s0)]) (rest := [(.ref b7)]) (lenOf pd_oLcom_example_openvenue_openvenue_core_SidecV rfl) rfl le0 (hb hby at_37) (fun _ _ => ⟨rfl, e7, (by decide : 1 + 5 ≤ _), (by decide : 7 + 523 ≤ _)⟩)
 dsimp only [Pt.U, Pt.locs, Pt.cells, Pt.slots] at X8 l8 y8 z8 st8 hQ8
 subst l8 y8 z8
 obtain ⟨rfl, M8, K8, la, pa, tm, kl, kp, B8⟩ := hQ8
 have N8 := Fr.app N0 M8
 have O8 := O7.keep K8 (allS g_b7 all0)
 refine gu (T8.setTop (mkF m 40 #[(sI fl), (sJ p0), .second, (sJ p1), .second, (sJ p2), .second, (sR v1_s0), (sI u5), (sI u6), .unset, .unset, .unset, .unset, .unset, .unset, .unset, .unset, .unset, .unset, .unset, .unset, .unset, .unset] [(.ref b7)])) (fun t kt => st8.trans kt) ?_
 refine gu (T8.setTop (mkF m 42 #[(sI fl), (sJ p0), .second, (sJ p1), .second, (sJ p2), .second, (sR v1_s0), (sI u5), (sI u6), (sR b7), .unset, .unset, .unset, .unset, .unset, .unset, .unset, .unset, .unset, .unset, .unset, .unset, .unset] [])) (fun t kt => ?_) ?_
 ·refine XS.astore X8.here hx rfl (hb hby at_40) rfl rfl (l' := #[(sI fl), (sJ p0), .second, (sJ p1), .second, (sJ p2), .second, (sR v1_s0), (sI u5), (sI u6), (sR b7), .unset, .unset, .unset, .unset, .unset, .unset, .unset, .unset, .unset, .unset, .unset, .unset, .unset]) rfl ?_
  exact kt
 suffices J9 : ∀ (T9 : State) (hh9 : Heap) (lc9 : List Loc) (o0 : Option Addr) (bl9 : List (Addr × Int64)), (o0.isSome = true ↔ (0 : Int32) < u5) → Stand p l e room_1 s m args below meth c T9 lc9 8 538 → T9.heap = hh9 → Fr n0 lc9 → Old Z n0 hh9 → Bk Z n0 hh9 b7 la pa tm v1_s0 wB kl kp bl9 → (∀ q, q ∈ bl9 ↔ MM1 o0 p0 q) → bl9.length ≤ 1 → Gl p e below (Ret s 12 554 (Q0 n0)) (T9.setTop (mkF m 59 #[(sI fl), (sJ p0), .second, (sJ p1), .second, (sJ p2), .second, (sR v1_s0), (sI u5), (sI u6), (sR b7), .val (vo o0), .unset, .unset, .unset, .unset, .unset, .unset, .unset, .unset, .unset, .unset, .unset, .unset] [])) by
  refine gu (T8.setTop (mkF m 44 #[(sI fl), (sJ p0), .second, (sJ p1), .second, (sJ p2), .second, (sR v1_s0), (sI u5), (sI u6), (sR b7), .unset, .unset, .unset, .unset, .unset, .unset, .unset, .unset, .unset, .unset, .unset, .unset, .unset] [(.int u5)])) (fun t kt => ?_) ?_
  ·refine XS.iload X8.here hx rfl (hb hby at_42) rfl ?_
   exact kt
  by_cases c44_10 : (0 : Int32) < u5
  ·refine gu (T8.setTop (mkF m 50 #[(sI fl), (sJ p0), .second, (sJ p1), .second, (sJ p2), .second, (sR v1_s0), (sI u5), (sI u6), (sR b7), .unset, .unset, .unset, .unset, .unset, .unset, .unset, .unset, .unset, .unset, .unset, .unset, .unset] [(.long p0), (.ref b7)])) (fun t kt => ?_) ?_
   ·refine XS.ifNo X8.here hx rfl (hb hby at_44) rfl ((if0 _ _).trans (tlt c44_10).2.2.2) ?_
    show Steps _ _ _ (T8.setTop (mkF m 47 #[(sI fl), (sJ p0), .second, (sJ p1), .second, (sJ p2), .second, (sR v1_s0), (sI u5), (sI u6), (sR b7), .unset, .unset, .unset, .unset, .unset, .unset, .unset, .unset, .unset, .unset, .unset, .unset, .unset] [])) _
    refine XS.aload X8.here hx rfl (hb hby at_47) rfl rfl ?_
    show Steps _ _ _ (T8.setTop (mkF m 49 #[(sI fl), (sJ p0), .second, (sJ p1), .second, (sJ p2), .second, (sR v1_s0), (sI u5), (sI u6), (sR b7), .unset, .unset, .unset, .unset, .unset, .unset, .unset, .unset, .unset, .unset, .unset, .unset, .unset] [(.ref b7)])) _
    refine XS.lloadN X8.here hx rfl (hb hby at_49) rfl ?_
    exact kt
   obtain ⟨cq11, kq11, q11a, q11b, q11c⟩ := isOf hZ rfl B8.1
   obtain ⟨_, _, ⟨T11, L11, k11, n11⟩, -, X11, ⟨Lc11, hQ11, l11, y11, z11⟩, st11⟩ := X8.virtualBack hx (y := mn19) (z := mn19) hown (mvT hZ (hw _ (ix 89 rfl))) (mvT hZ (hw _ (ix 90 rfl))) (notFace_of_selects (args := #[]) (mvT hZ (hw _ (ix 92 rfl)))) (mvT hZ (hw _ (ix 92 rfl))) (mvT hZ (hw _ (ix 91 rfl))) (by decide) (backOf (W := 0) (rm18 l Z aa hw [] b7 la pa tm v1_s0 wB kl kp [] p0 T8.heap n0 O8 S_wB B8 (Nat.le_trans (Nat.le_refl 0) (by decide))) hZ (hw _ (ix 93 rfl)) (hw _ (ix 5 rfl)) (by decide) (by decide)) q11a q11c (g := (mkF m 50 #[(sI fl), (sJ p0), .second, (sJ p1), .second, (sJ p2), .second, (sR v1_s0), (sI u5), (sI u6), (sR b7), .unset, .unset, .unset, .unset, .unset, .unset, .unset, .unset, .unset, .unset, .unset, .unset, .unset] [(.long p0), (.ref b7)])) rfl (sz hml) (Steps.refl _) (argsL := [(.long p0)]) (rest := []) (lenOf pd_oJcLcom_example_openvenue_openvenue_core_PriceLevel rfl) rfl le0 (hb hby at_50) (fun _ _ => ⟨rfl, rfl, (by decide : 6 + 2 ≤ _), (by decide : 530 + 8 ≤ _)⟩)
   dsimp only [Pt.U, Pt.locs, Pt.cells, Pt.slots] at X11 l11 y11 z11 st11 hQ11
   subst l11 y11 z11
   obtain ⟨y11, bl11, rfl, M11, K11, B11, -, hm11, hl11⟩ := hQ11
   have N11 := Fr.app N8 M11
   have O11 := O8.keep K11 (Bk.gs B8)
   refine gu (T11.setTop (mkF m 53 #[(sI fl), (sJ p0), .second, (sJ p1), .second, (sJ p2), .second, (sR v1_s0), (sI u5), (sI u6), (sR b7), .unset, .unset, .unset, .unset, .unset, .unset, .unset, .unset, .unset, .unset, .unset, .unset, .unset] [(.ref y11)])) (fun t kt => st11.trans kt) ?_
   refine gu (T11.setTop (mkF m 59 #[(sI fl), (sJ p0), .second, (sJ p1), .second, (sJ p2), .second, (sR v1_s0), (sI u5), (sI u6), (sR b7), (sR y11), .unset, .unset, .unset, .unset, .unset, .unset, .unset, .unset, .unset, .unset, .unset, .unset] [])) (fun t kt => ?_) ?_
   ·refine XS.goto X11.here hx rfl (pc0 := 53) (pc' := 57) rfl (hb hby at_53) (by decide) (by decide) ?_
    show Steps _ _ _ (T11.setTop (mkF m 57 #[(sI fl), (sJ p0), .second, (sJ p1), .second, (sJ p2), .second, (sR v1_s0), (sI u5), (sI u6), (sR b7), .unset, .unset, .unset, .unset, .unset, .unset, .unset, .unset, .unset, .unset, .unset, .unset, .unset] [(.ref y11)])) _
    refine XS.astore X11.here hx rfl (hb hby at_57) rfl rfl (l' := #[(sI fl), (sJ p0), .second, (sJ p1), .second, (sJ p2), .second, (sR v1_s0), (sI u5), (sI u6), (sR b7), (sR y11), .unset, .unset, .unset, .unset, .unset, .unset, .unset, .unset, .unset, .unset, .unset, .unset]) rfl ?_
    exact kt
   exact J9 _ _ _ (some y11) bl11 ⟨fun _ => c44_10, fun _ => rfl⟩ X11 rfl N11 O11 B11 (own_mmT own_mm0 hm11) (Nat.le_trans hl11 (Nat.succ_le_succ (Nat.le_refl 0)))
  ·refine gu (T8.setTop (mkF m 59 #[(sI fl), (sJ p0), .second, (sJ p1), .second, (sJ p2), .second, (sR v1_s0), (sI u5), (sI u6), (sR b7), .val .null, .unset, .unset, .unset, .unset, .unset, .unset, .unset, .unset, .unset, .unset, .unset, .unset] [])) (fun t kt => ?_) ?_
   ·refine XS.ifYes X8.here hx rfl (pc0 := 44) (pc' := 56) rfl (hb hby at_44) rfl ((if0 _ _).trans (flt c44_10).2.2.2) (by decide) (by decide) ?_
    show Steps _ _ _ (T8.setTop (mkF m 56 #[(sI fl), (sJ p0), .second, (sJ p1), .second, (sJ p2), .second, (sR v1_s0), (sI u5), (sI u6), (sR b7), .unset, .unset, .unset, .unset, .unset, .unset, .unset, .unset, .unset, .unset, .unset, .unset, .unset] [])) _
    refine XS.aconstNull X8.here hx rfl (hb hby at_56) ?_
    show Steps _ _ _ (T8.setTop (mkF m 57 #[(sI fl), (sJ p0), .second, (sJ p1), .second, (sJ p2), .second, (sR v1_s0), (sI u5), (sI u6), (sR b7), .unset, .unset, .unset, .unset, .unset, .unset, .unset, .unset, .unset, .unset, .unset, .unset, .unset] [.null])) _
    refine XS.astore X8.here hx rfl (hb hby at_57) rfl rfl (l' := #[(sI fl), (sJ p0), .second, (sJ p1), .second, (sJ p2), .second, (sR v1_s0), (sI u5), (sI u6), (sR b7), .val .null, .unset, .unset, .unset, .unset, .unset, .unset, .unset, .unset, .unset, .unset, .unset, .unset]) rfl ?_
    exact kt
   exact J9 _ _ _ none [] ⟨fun z => (nomatch z), fun z => absurd z c44_10⟩ (own_widen X8 (by decide) (by decide)) rfl N8 O8 B8 (own_mmF own_mm0) (Nat.le_succ_of_le (Nat.le_refl 0))
 intro T9 hh9 lc9 o0 bl9 hs0 X9 e9 N9 O9 B9 HM9 hl9
 suffices J12 : ∀ (T12 : State) (hh12 : Heap) (lc12 : List Loc) (o1 : Option Addr) (bl12 : List (Addr × Int64)), (o1.isSome = true ↔ (1 : Int32) < u5) → Stand p l e room_1 s m args below meth c T12 lc12 10 546 → T12.heap = hh12 → Fr n0 lc12 → Old Z n0 hh12 → Bk Z n0 hh12 b7 la pa tm v1_s0 wB kl kp bl12 → (∀ q, q ∈ bl12 ↔ MM2 o0 o1 p0 p1 q) → bl12.length ≤ 2 → Gl p e below (Ret s 12 554 (Q0 n0)) (T12.setTop (mkF m 77 #[(sI fl), (sJ p0), .second, (sJ p1), .second, (sJ p2), .second, (sR v1_s0), (sI u5), (sI u6), (sR b7), .val (vo o0), .val (vo o1), .unset, .unset, .unset, .unset, .unset, .unset, .unset, .unset, .unset, .unset, .unset] [])) by
  refine gu (T9.setTop (mkF m 62 #[(sI fl), (sJ p0), .second, (sJ p1), .second, (sJ p2), .second, (sR v1_s0), (sI u5), (sI u6), (sR b7), .val (vo o0), .unset, .unset, .unset, .unset, .unset, .unset, .unset, .unset, .unset, .unset, .unset, .unset] [(.int (1 : Int32)), (.int u5)])) (fun t kt => ?_) ?_
  ·refine XS.iload X9.here hx rfl (hb hby at_59) rfl ?_
   show Steps _ _ _ (T9.setTop (mkF m 61 #[(sI fl), (sJ p0), .second, (sJ p1), .second, (sJ p2), .second, (sR v1_s0), (sI u5), (sI u6), (sR b7), .val (vo o0), .unset, .unset, .unset, .unset, .unset, .unset, .unset, .unset, .unset, .unset, .unset, .unset] [(.int u5)])) _
   refine XS.iconst X9.here hx rfl (hb hby at_61) ?_
   exact kt
  by_cases c62_13 : (1 : Int32) < u5
  ·refine gu (T9.setTop (mkF m 68 #[(sI fl), (sJ p0), .second, (sJ p1), .second, (sJ p2), .second, (sR v1_s0), (sI u5), (sI u6), (sR b7), .val (vo o0), .unset, .unset, .unset, .unset, .unset, .unset, .unset, .unset, .unset, .unset, .unset, .unset] [(.long p1), (.ref b7)])) (fun t kt => ?_) ?_
   ·refine XS.icmpNo X9.here hx rfl (hb hby at_62) rfl (tlt c62_13).2.2.2 ?_
    show Steps _ _ _ (T9.setTop (mkF m 65 #[(sI fl), (sJ p0), .second, (sJ p1), .second, (sJ p2), .second, (sR v1_s0), (sI u5), (sI u6), (sR b7), .val (vo o0), .unset, .unset, .unset, .unset, .unset, .unset, .unset, .unset, .unset, .unset, .unset, .unset] [])) _
    refine XS.aload X9.here hx rfl (hb hby at_65) rfl rfl ?_
    show Steps _ _ _ (T9.setTop (mkF m 67 #[(sI fl), (sJ p0), .second, (sJ p1), .second, (sJ p2), .second, (sR v1_s0), (sI u5), (sI u6), (sR b7), .val (vo o0), .unset, .unset, .unset, .unset, .unset, .unset, .unset, .unset, .unset, .unset, .unset, .unset] [(.ref b7)])) _
    refine XS.lloadN X9.here hx rfl (hb hby at_67) rfl ?_
    exact kt
   obtain ⟨cq14, kq14, q14a, q14b, q14c⟩ := isOf hZ e9 B9.1
   obtain ⟨_, _, ⟨T14, L14, k14, n14⟩, -, X14, ⟨Lc14, hQ14, l14, y14, z14⟩, st14⟩ := X9.virtualBack hx (y := mn19) (z := mn19) hown (mvT hZ (hw _ (ix 89 rfl))) (mvT hZ (hw _ (ix 90 rfl))) (notFace_of_selects (args := #[]) (mvT hZ (hw _ (ix 92 rfl)))) (mvT hZ (hw _ (ix 92 rfl))) (mvT hZ (hw _ (ix 91 rfl))) (by decide) (backOf (W := 0) (rm18 l Z aa hw [] b7 la pa tm v1_s0 wB kl kp bl9 p1 hh9 n0 O9 S_wB B9 (Nat.le_trans hl9 (by decide))) hZ (hw _ (ix 93 rfl)) (hw _ (ix 5 rfl)) (by decide) (by decide)) q14a q14c (g := (mkF m 68 #[(sI fl), (sJ p0), .second, (sJ p1), .second, (sJ p2), .second, (sR v1_s0), (sI u5), (sI u6), (sR b7), .val (vo o0), .unset, .unset, .unset, .unset, .unset, .unset, .unset, .unset, .unset, .unset, .unset, .unset] [(.long p1), (.ref b7)])) rfl (sz hml) (Steps.refl _) (argsL := [(.long p1)]) (rest := []) (lenOf pd_oJcLcom_example_openvenue_openvenue_core_PriceLevel rfl) rfl le0 (hb hby at_68) (fun _ _ => ⟨rfl, e9, (by decide : 8 + 2 ≤ _), (by decide : 538 + 8 ≤ _)⟩)
   dsimp only [Pt.U, Pt.locs, Pt.cells, Pt.slots] at X14 l14 y14 z14 st14 hQ14
   subst l14 y14 z14
   obtain ⟨y14, bl14, rfl, M14, K14, B14, -, hm14, hl14⟩ := hQ14
   have N14 := Fr.app N9 M14
   have O14 := O9.keep K14 (Bk.gs B9)
   refine gu (T14.setTop (mkF m 71 #[(sI fl), (sJ p0), .second, (sJ p1), .second, (sJ p2), .second, (sR v1_s0), (sI u5), (sI u6), (sR b7), .val (vo o0), .unset, .unset, .unset, .unset, .unset, .unset, .unset, .unset, .unset, .unset, .unset, .unset] [(.ref y14)])) (fun t kt => st14.trans kt) ?_
   refine gu (T14.setTop (mkF m 77 #[(sI fl), (sJ p0), .second, (sJ p1), .second, (sJ p2), .second, (sR v1_s0), (sI u5), (sI u6), (sR b7), .val (vo o0), (sR y14), .unset, .unset, .unset, .unset, .unset, .unset, .unset, .unset, .unset, .unset, .unset] [])) (fun t kt => ?_) ?_
   ·refine XS.goto X14.here hx rfl (pc0 := 71) (pc' := 75) rfl (hb hby at_71) (by decide) (by decide) ?_
    show Steps _ _ _ (T14.setTop (mkF m 75 #[(sI fl), (sJ p0), .second, (sJ p1), .second, (sJ p2), .second, (sR v1_s0), (sI u5), (sI u6), (sR b7), .val (vo o0), .unset, .unset, .unset, .unset, .unset, .unset, .unset, .unset, .unset, .unset, .unset, .unset] [(.ref y14)])) _
    refine XS.astore X14.here hx rfl (hb hby at_75) rfl rfl (l' := #[(sI fl), (sJ p0), .second, (sJ p1), .second, (sJ p2), .second, (sR v1_s0), (sI u5), (sI u6), (sR b7), .val (vo o0), (sR y14), .unset, .unset, .unset, .unset, .unset, .unset, .unset, .unset, .unset, .unset, .unset]) rfl ?_
    exact kt
   exact J12 _ _ _ (some y14) bl14 ⟨fun _ => c62_13, fun _ => rfl⟩ X14 rfl N14 O14 B14 (own_mmT HM9 hm14) (Nat.le_trans hl14 (Nat.succ_le_succ hl9))
  ·refine gu (T9.setTop (mkF m 77 #[(sI fl), (sJ p0), .second, (sJ p1), .second, (sJ p2), .second, (sR v1_s0), (sI u5), (sI u6), (sR b7), .val (vo o0), .val .null, .unset, .unset, .unset, .unset, .unset, .unset, .unset, .unset, .unset, .unset, .unset] [])) (fun t kt => ?_) ?_
   ·refine XS.icmpYes X9.here hx rfl (pc0 := 62) (pc' := 74) rfl (hb hby at_62) rfl (flt c62_13).2.2.2 (by decide) (by decide) ?_
    show Steps _ _ _ (T9.setTop (mkF m 74 #[(sI fl), (sJ p0), .second, (sJ p1), .second, (sJ p2), .second, (sR v1_s0), (sI u5), (sI u6), (sR b7), .val (vo o0), .unset, .unset, .unset, .unset, .unset, .unset, .unset, .unset, .unset, .unset, .unset, .unset] [])) _
    refine XS.aconstNull X9.here hx rfl (hb hby at_74) ?_
    show Steps _ _ _ (T9.setTop (mkF m 75 #[(sI fl), (sJ p0), .second, (sJ p1), .second, (sJ p2), .second, (sR v1_s0), (sI u5), (sI u6), (sR b7), .val (vo o0), .unset, .unset, .unset, .unset, .unset, .unset, .unset, .unset, .unset, .unset, .unset, .unset] [.null])) _
    refine XS.astore X9.here hx rfl (hb hby at_75) rfl rfl (l' := #[(sI fl), (sJ p0), .second, (sJ p1), .second, (sJ p2), .second, (sR v1_s0), (sI u5), (sI u6), (sR b7), .val (vo o0), .val .null, .unset, .unset, .unset, .unset, .unset, .unset, .unset, .unset, .unset, .unset, .unset]) rfl ?_
    exact kt
   exact J12 _ _ _ none bl9 ⟨fun z => (nomatch z), fun z => absurd z c62_13⟩ (own_widen X9 (by decide) (by decide)) e9 N9 O9 B9 (own_mmF HM9) (Nat.le_succ_of_le hl9)
 intro T12 hh12 lc12 o1 bl12 hs1 X12 e12 N12 O12 B12 HM12 hl12
 suffices J15 : ∀ (T15 : State) (hh15 : Heap) (lc15 : List Loc) (o2 : Option Addr) (bl15 : List (Addr × Int64)), (o2.isSome = true ↔ (2 : Int32) < u5) → Stand p l e room_1 s m args below meth c T15 lc15 12 554 → T15.heap = hh15 → Fr n0 lc15 → Old Z n0 hh15 → Bk Z n0 hh15 b7 la pa tm v1_s0 wB kl kp bl15 → (∀ q, q ∈ bl15 ↔ MM3 o0 o1 o2 p0 p1 p2 q) → bl15.length ≤ 3 → Gl p e below (Ret s 12 554 (Q0 n0)) (T15.setTop (mkF m 96 #[(sI fl), (sJ p0), .second, (sJ p1), .second, (sJ p2), .second, (sR v1_s0), (sI u5), (sI u6), (sR b7), .val (vo o0), .val (vo o1), .val (vo o2), .unset, .unset, .unset, .unset, .unset, .unset, .unset, .unset, .unset, .unset] [])) by
  refine gu (T12.setTop (mkF m 80 #[(sI fl), (sJ p0), .second, (sJ p1), .second, (sJ p2), .second, (sR v1_s0), (sI u5), (sI u6), (sR b7), .val (vo o0), .val (vo o1), .unset, .unset, .unset, .unset, .unset, .unset, .unset, .unset, .unset, .unset, .unset] [(.int (2 : Int32)), (.int u5)])) (fun t kt => ?_) ?_
  ·refine XS.iload X12.here hx rfl (hb hby at_77) rfl ?_
   show Steps _ _ _ (T12.setTop (mkF m 79 #[(sI fl), (sJ p0), .second, (sJ p1), .second, (sJ p2), .second, (sR v1_s0), (sI u5), (sI u6), (sR b7), .val (vo o0), .val (vo o1), .unset, .unset, .unset, .unset, .unset, .unset, .unset, .unset, .unset, .unset, .unset] [(.int u5)])) _
   refine XS.iconst X12.here hx rfl (hb hby at_79) ?_
   exact kt
  by_cases c80_16 : (2 : Int32) < u5
  ·refine gu (T12.setTop (mkF m 87 #[(sI fl), (sJ p0), .second, (sJ p1), .second, (sJ p2), .second, (sR v1_s0), (sI u5), (sI u6), (sR b7), .val (vo o0), .val (vo o1), .unset, .unset, .unset, .unset, .unset, .unset, .unset, .unset, .unset, .unset, .unset] [(.long p2), (.ref b7)])) (fun t kt => ?_) ?_
   ·refine XS.icmpNo X12.here hx rfl (hb hby at_80) rfl (tlt c80_16).2.2.2 ?_
    show Steps _ _ _ (T12.setTop (mkF m 83 #[(sI fl), (sJ p0), .second, (sJ p1), .second, (sJ p2), .second, (sR v1_s0), (sI u5), (sI u6), (sR b7), .val (vo o0), .val (vo o1), .unset, .unset, .unset, .unset, .unset, .unset, .unset, .unset, .unset, .unset, .unset] [])) _
    refine XS.aload X12.here hx rfl (hb hby at_83) rfl rfl ?_
    show Steps _ _ _ (T12.setTop (mkF m 85 #[(sI fl), (sJ p0), .second, (sJ p1), .second, (sJ p2), .second, (sR v1_s0), (sI u5), (sI u6), (sR b7), .val (vo o0), .val (vo o1), .unset, .unset, .unset, .unset, .unset, .unset, .unset, .unset, .unset, .unset, .unset] [(.ref b7)])) _
    refine XS.lload X12.here hx rfl (hb hby at_85) rfl ?_
    exact kt
   obtain ⟨cq17, kq17, q17a, q17b, q17c⟩ := isOf hZ e12 B12.1
   obtain ⟨_, _, ⟨T17, L17, k17, n17⟩, -, X17, ⟨Lc17, hQ17, l17, y17, z17⟩, st17⟩ := X12.virtualBack hx (y := mn19) (z := mn19) hown (mvT hZ (hw _ (ix 89 rfl))) (mvT hZ (hw _ (ix 90 rfl))) (notFace_of_selects (args := #[]) (mvT hZ (hw _ (ix 92 rfl)))) (mvT hZ (hw _ (ix 92 rfl))) (mvT hZ (hw _ (ix 91 rfl))) (by decide) (backOf (W := 0) (rm18 l Z aa hw [] b7 la pa tm v1_s0 wB kl kp bl12 p2 hh12 n0 O12 S_wB B12 (Nat.le_trans hl12 (by decide))) hZ (hw _ (ix 93 rfl)) (hw _ (ix 5 rfl)) (by decide) (by decide)) q17a q17c (g := (mkF m 87 #[(sI fl), (sJ p0), .second, (sJ p1), .second, (sJ p2), .second, (sR v1_s0), (sI u5), (sI u6), (sR b7), .val (vo o0), .val (vo o1), .unset, .unset, .unset, .unset, .unset, .unset, .unset, .unset, .unset, .unset, .unset] [(.long p2), (.ref b7)])) rfl (sz hml) (Steps.refl _) (argsL := [(.long p2)]) (rest := []) (lenOf pd_oJcLcom_example_openvenue_openvenue_core_PriceLevel rfl) rfl le0 (hb hby at_87) (fun _ _ => ⟨rfl, e12, (by decide : 10 + 2 ≤ _), (by decide : 546 + 8 ≤ _)⟩)
   dsimp only [Pt.U, Pt.locs, Pt.cells, Pt.slots] at X17 l17 y17 z17 st17 hQ17
   subst l17 y17 z17
   obtain ⟨y17, bl17, rfl, M17, K17, B17, -, hm17, hl17⟩ := hQ17
   have N17 := Fr.app N12 M17
   have O17 := O12.keep K17 (Bk.gs B12)
   refine gu (T17.setTop (mkF m 90 #[(sI fl), (sJ p0), .second, (sJ p1), .second, (sJ p2), .second, (sR v1_s0), (sI u5), (sI u6), (sR b7), .val (vo o0), .val (vo o1), .unset, .unset, .unset, .unset, .unset, .unset, .unset, .unset, .unset, .unset, .unset] [(.ref y17)])) (fun t kt => st17.trans kt) ?_
   refine gu (T17.setTop (mkF m 96 #[(sI fl), (sJ p0), .second, (sJ p1), .second, (sJ p2), .second, (sR v1_s0), (sI u5), (sI u6), (sR b7), .val (vo o0), .val (vo o1), (sR y17), .unset, .unset, .unset, .unset, .unset, .unset, .unset, .unset, .unset, .unset] [])) (fun t kt => ?_) ?_
   ·refine XS.goto X17.here hx rfl (pc0 := 90) (pc' := 94) rfl (hb hby at_90) (by decide) (by decide) ?_
    show Steps _ _ _ (T17.setTop (mkF m 94 #[(sI fl), (sJ p0), .second, (sJ p1), .second, (sJ p2), .second, (sR v1_s0), (sI u5), (sI u6), (sR b7), .val (vo o0), .val (vo o1), .unset, .unset, .unset, .unset, .unset, .unset, .unset, .unset, .unset, .unset, .unset] [(.ref y17)])) _
    refine XS.astore X17.here hx rfl (hb hby at_94) rfl rfl (l' := #[(sI fl), (sJ p0), .second, (sJ p1), .second, (sJ p2), .second, (sR v1_s0), (sI u5), (sI u6), (sR b7), .val (vo o0), .val (vo o1), (sR y17), .unset, .unset, .unset, .unset, .unset, .unset, .unset, .unset, .unset, .unset]) rfl ?_
    exact kt
   exact J15 _ _ _ (some y17) bl17 ⟨fun _ => c80_16, fun _ => rfl⟩ X17 rfl N17 O17 B17 (own_mmT HM12 hm17) (Nat.le_trans hl17 (Nat.succ_le_succ hl12))
  ·refine gu (T12.setTop (mkF m 96 #[(sI fl), (sJ p0), .second, (sJ p1), .second, (sJ p2), .second, (sR v1_s0), (sI u5), (sI u6), (sR b7), .val (vo o0), .val (vo o1), .val .null, .unset, .unset, .unset, .unset, .unset, .unset, .unset, .unset, .unset, .unset] [])) (fun t kt => ?_) ?_
   ·refine XS.icmpYes X12.here hx rfl (pc0 := 80) (pc' := 93) rfl (hb hby at_80) rfl (flt c80_16).2.2.2 (by decide) (by decide) ?_
    show Steps _ _ _ (T12.setTop (mkF m 93 #[(sI fl), (sJ p0), .second, (sJ p1), .second, (sJ p2), .second, (sR v1_s0), (sI u5), (sI u6), (sR b7), .val (vo o0), .val (vo o1), .unset, .unset, .unset, .unset, .unset, .unset, .unset, .unset, .unset, .unset, .unset] [])) _
    refine XS.aconstNull X12.here hx rfl (hb hby at_93) ?_
    show Steps _ _ _ (T12.setTop (mkF m 94 #[(sI fl), (sJ p0), .second, (sJ p1), .second, (sJ p2), .second, (sR v1_s0), (sI u5), (sI u6), (sR b7), .val (vo o0), .val (vo o1), .unset, .unset, .unset, .unset, .unset, .unset, .unset, .unset, .unset, .unset, .unset] [.null])) _
    refine XS.astore X12.here hx rfl (hb hby at_94) rfl rfl (l' := #[(sI fl), (sJ p0), .second, (sJ p1), .second, (sJ p2), .second, (sR v1_s0), (sI u5), (sI u6), (sR b7), .val (vo o0), .val (vo o1), .val .null, .unset, .unset, .unset, .unset, .unset, .unset, .unset, .unset, .unset, .unset]) rfl ?_
    exact kt
   exact J15 _ _ _ none bl12 ⟨fun z => (nomatch z), fun z => absurd z c80_16⟩ (own_widen X12 (by decide) (by decide)) e12 N12 O12 B12 (own_mmF HM12) (Nat.le_succ_of_le hl12)
 intro T15 hh15 lc15 o2 bl15 hs2 X15 e15 N15 O15 B15 HM15 hl15
 have hnn : u5 = 0 ∨ u5 = 1 ∨ u5 = 2 ∨ u5 = 3 := by rw [hu5]; exact own_and3 _
 have hrr : u6 = 0 ∨ u6 = 1 ∨ u6 = 2 ∨ u6 = 3 := by rw [hu6]; exact own_and3 _
 suffices J18 : ∀ (T18 : State) (hh18 : Heap) (lc18 : List Loc) (rm : Int32) (gn : Int64) (bl18 : List (Addr × Int64)), Stand p l e room_1 s m args below meth c T18 lc18 12 554 → T18.heap = hh18 → Fr n0 lc18 → Old Z n0 hh18 → Bp Z hh18 b7 la v1_s0 wB kl bl18 → (∀ q, q ∈ bl18 ↔ MM3 o0 o1 o2 p0 p1 p2 q ∧ ¬ (rm ≠ 0 ∧ q.2 = gn)) → bl18.length ≤ 3 → Gl p e below (Ret s 12 554 (Q0 n0)) (T18.setTop (mkF m 166 #[(sI fl), (sJ p0), .second, (sJ p1), .second, (sJ p2), .second, (sR v1_s0), (sI u5), (sI u6), (sR b7), .val (vo o0), .val (vo o1), .val (vo o2), (sI rm), (sJ gn), .second, .unset, .unset, .unset, .unset, .unset, .unset, .unset] [])) by
  refine gu (T15.setTop (mkF m 100 #[(sI fl), (sJ p0), .second, (sJ p1), .second, (sJ p2), .second, (sR v1_s0), (sI u5), (sI u6), (sR b7), .val (vo o0), .val (vo o1), .val (vo o2), .unset, .unset, .unset, .unset, .unset, .unset, .unset, .unset, .unset, .unset] [(.int u5), (.int u6)])) (fun t kt => ?_) ?_
  ·refine XS.iload X15.here hx rfl (hb hby at_96) rfl ?_
   show Steps _ _ _ (T15.setTop (mkF m 98 #[(sI fl), (sJ p0), .second, (sJ p1), .second, (sJ p2), .second, (sR v1_s0), (sI u5), (sI u6), (sR b7), .val (vo o0), .val (vo o1), .val (vo o2), .unset, .unset, .unset, .unset, .unset, .unset, .unset, .unset, .unset, .unset] [(.int u6)])) _
   refine XS.iload X15.here hx rfl (hb hby at_98) rfl ?_
   exact kt
  by_cases c100_19 : u6 < u5
  ·refine gu (T15.setTop (mkF m 112 #[(sI fl), (sJ p0), .second, (sJ p1), .second, (sJ p2), .second, (sR v1_s0), (sI u5), (sI u6), (sR b7), .val (vo o0), .val (vo o1), .val (vo o2), (sI (1 : Int32)), .unset, .unset, .unset, .unset, .unset, .unset, .unset, .unset, .unset] [(.int u6)])) (fun t kt => ?_) ?_
   ·refine XS.icmpNo X15.here hx rfl (hb hby at_100) rfl (tlt c100_19).2.1 ?_
    show Steps _ _ _ (T15.setTop (mkF m 103 #[(sI fl), (sJ p0), .second, (sJ p1), .second, (sJ p2), .second, (sR v1_s0), (sI u5), (sI u6), (sR b7), .val (vo o0), .val (vo o1), .val (vo o2), .unset, .unset, .unset, .unset, .unset, .unset, .unset, .unset, .unset, .unset] [])) _
    refine XS.iconst X15.here hx rfl (hb hby at_103) ?_
    show Steps _ _ _ (T15.setTop (mkF m 104 #[(sI fl), (sJ p0), .second, (sJ p1), .second, (sJ p2), .second, (sR v1_s0), (sI u5), (sI u6), (sR b7), .val (vo o0), .val (vo o1), .val (vo o2), .unset, .unset, .unset, .unset, .unset, .unset, .unset, .unset, .unset, .unset] [(.int (1 : Int32))])) _
    refine XS.goto X15.here hx rfl (pc0 := 104) (pc' := 108) rfl (hb hby at_104) (by decide) (by decide) ?_
    show Steps _ _ _ (T15.setTop (mkF m 108 #[(sI fl), (sJ p0), .second, (sJ p1), .second, (sJ p2), .second, (sR v1_s0), (sI u5), (sI u6), (sR b7), .val (vo o0), .val (vo o1), .val (vo o2), .unset, .unset, .unset, .unset, .unset, .unset, .unset, .unset, .unset, .unset] [(.int (1 : Int32))])) _
    refine XS.istore X15.here hx rfl (hb hby at_108) rfl (l' := #[(sI fl), (sJ p0), .second, (sJ p1), .second, (sJ p2), .second, (sR v1_s0), (sI u5), (sI u6), (sR b7), .val (vo o0), .val (vo o1), .val (vo o2), (sI (1 : Int32)), .unset, .unset, .unset, .unset, .unset, .unset, .unset, .unset, .unset]) rfl ?_
    show Steps _ _ _ (T15.setTop (mkF m 110 #[(sI fl), (sJ p0), .second, (sJ p1), .second, (sJ p2), .second, (sR v1_s0), (sI u5), (sI u6), (sR b7), .val (vo o0), .val (vo o1), .val (vo o2), (sI (1 : Int32)), .unset, .unset, .unset, .unset, .unset, .unset, .unset, .unset, .unset] [])) _
    refine XS.iload X15.here hx rfl (hb hby at_110) rfl ?_
    exact kt
   by_cases c112_20 : u6 = (0 : Int32)
   ·refine gu (T15.setTop (mkF m 163 #[(sI fl), (sJ p0), .second, (sJ p1), .second, (sJ p2), .second, (sR v1_s0), (sI u5), (sI u6), (sR b7), .val (vo o0), .val (vo o1), .val (vo o2), (sI (1 : Int32)), (sJ p0), .second, .unset, .unset, .unset, .unset, .unset, .unset, .unset] [(vo o0), (.ref b7)])) (fun t kt => ?_) ?_
    ·refine XS.ifNo X15.here hx rfl (hb hby at_112) rfl ((if0 _ _).trans (teq c112_20).2) ?_
     show Steps _ _ _ (T15.setTop (mkF m 115 #[(sI fl), (sJ p0), .second, (sJ p1), .second, (sJ p2), .second, (sR v1_s0), (sI u5), (sI u6), (sR b7), .val (vo o0), .val (vo o1), .val (vo o2), (sI (1 : Int32)), .unset, .unset, .unset, .unset, .unset, .unset, .unset, .unset, .unset] [])) _
     refine XS.lloadN X15.here hx rfl (hb hby at_115) rfl ?_
     show Steps _ _ _ (T15.setTop (mkF m 116 #[(sI fl), (sJ p0), .second, (sJ p1), .second, (sJ p2), .second, (sR v1_s0), (sI u5), (sI u6), (sR b7), .val (vo o0), .val (vo o1), .val (vo o2), (sI (1 : Int32)), .unset, .unset, .unset, .unset, .unset, .unset, .unset, .unset, .unset] [(.long p0)])) _
     refine XS.goto X15.here hx rfl (pc0 := 116) (pc' := 131) rfl (hb hby at_116) (by decide) (by decide) ?_
     show Steps _ _ _ (T15.setTop (mkF m 131 #[(sI fl), (sJ p0), .second, (sJ p1), .second, (sJ p2), .second, (sR v1_s0), (sI u5), (sI u6), (sR b7), .val (vo o0), .val (vo o1), .val (vo o2), (sI (1 : Int32)), .unset, .unset, .unset, .unset, .unset, .unset, .unset, .unset, .unset] [(.long p0)])) _
     refine XS.lstore X15.here hx rfl (hb hby at_131) rfl (l' := #[(sI fl), (sJ p0), .second, (sJ p1), .second, (sJ p2), .second, (sR v1_s0), (sI u5), (sI u6), (sR b7), .val (vo o0), .val (vo o1), .val (vo o2), (sI (1 : Int32)), (sJ p0), .second, .unset, .unset, .unset, .unset, .unset, .unset, .unset]) rfl ?_
     show Steps _ _ _ (T15.setTop (mkF m 133 #[(sI fl), (sJ p0), .second, (sJ p1), .second, (sJ p2), .second, (sR v1_s0), (sI u5), (sI u6), (sR b7), .val (vo o0), .val (vo o1), .val (vo o2), (sI (1 : Int32)), (sJ p0), .second, .unset, .unset, .unset, .unset, .unset, .unset, .unset] [])) _
     refine XS.iload X15.here hx rfl (hb hby at_133) rfl ?_
     show Steps _ _ _ (T15.setTop (mkF m 135 #[(sI fl), (sJ p0), .second, (sJ p1), .second, (sJ p2), .second, (sR v1_s0), (sI u5), (sI u6), (sR b7), .val (vo o0), .val (vo o1), .val (vo o2), (sI (1 : Int32)), (sJ p0), .second, .unset, .unset, .unset, .unset, .unset, .unset, .unset] [(.int (1 : Int32))])) _
     refine XS.ifNo X15.here hx rfl (hb hby at_135) rfl ((if0 _ _).trans (feq (by decide : ¬ ((1 : Int32) = (0 : Int32)))).1) ?_
     show Steps _ _ _ (T15.setTop (mkF m 138 #[(sI fl), (sJ p0), .second, (sJ p1), .second, (sJ p2), .second, (sR v1_s0), (sI u5), (sI u6), (sR b7), .val (vo o0), .val (vo o1), .val (vo o2), (sI (1 : Int32)), (sJ p0), .second, .unset, .unset, .unset, .unset, .unset, .unset, .unset] [])) _
     refine XS.aload X15.here hx rfl (hb hby at_138) rfl rfl ?_
     show Steps _ _ _ (T15.setTop (mkF m 140 #[(sI fl), (sJ p0), .second, (sJ p1), .second, (sJ p2), .second, (sR v1_s0), (sI u5), (sI u6), (sR b7), .val (vo o0), .val (vo o1), .val (vo o2), (sI (1 : Int32)), (sJ p0), .second, .unset, .unset, .unset, .unset, .unset, .unset, .unset] [(.ref b7)])) _
     refine XS.iload X15.here hx rfl (hb hby at_140) rfl ?_
     show Steps _ _ _ (T15.setTop (mkF m 142 #[(sI fl), (sJ p0), .second, (sJ p1), .second, (sJ p2), .second, (sR v1_s0), (sI u5), (sI u6), (sR b7), .val (vo o0), .val (vo o1), .val (vo o2), (sI (1 : Int32)), (sJ p0), .second, .unset, .unset, .unset, .unset, .unset, .unset, .unset] [(.int u6), (.ref b7)])) _
     refine XS.ifNo X15.here hx rfl (hb hby at_142) rfl ((if0 _ _).trans (teq c112_20).2) ?_
     show Steps _ _ _ (T15.setTop (mkF m 145 #[(sI fl), (sJ p0), .second, (sJ p1), .second, (sJ p2), .second, (sR v1_s0), (sI u5), (sI u6), (sR b7), .val (vo o0), .val (vo o1), .val (vo o2), (sI (1 : Int32)), (sJ p0), .second, .unset, .unset, .unset, .unset, .unset, .unset, .unset] [(.ref b7)])) _
     refine XS.aload X15.here hx rfl (hb hby at_145) rfl (vo_ref _) ?_
     show Steps _ _ _ (T15.setTop (mkF m 147 #[(sI fl), (sJ p0), .second, (sJ p1), .second, (sJ p2), .second, (sR v1_s0), (sI u5), (sI u6), (sR b7), .val (vo o0), .val (vo o1), .val (vo o2), (sI (1 : Int32)), (sJ p0), .second, .unset, .unset, .unset, .unset, .unset, .unset, .unset] [(vo o0), (.ref b7)])) _
     refine XS.goto X15.here hx rfl (pc0 := 147) (pc' := 163) rfl (hb hby at_147) (by decide) (by decide) ?_
     exact kt
    obtain ⟨ya21, hy21⟩ := own_some hs0 (c112_20 ▸ c100_19)
    subst hy21
    show Gl p e below (Ret s 12 554 (Q0 n0)) (T15.setTop (mkF m 163 #[(sI fl), (sJ p0), .second, (sJ p1), .second, (sJ p2), .second, (sR v1_s0), (sI u5), (sI u6), (sR b7), (sR ya21), .val (vo o1), .val (vo o2), (sI (1 : Int32)), (sJ p0), .second, .unset, .unset, .unset, .unset, .unset, .unset, .unset] [(.ref ya21), (.ref b7)]))
    obtain ⟨cq22, kq22, q22a, q22b, q22c⟩ := isOf hZ e15 B15.1
    obtain ⟨_, _, ⟨T22, L22, k22, n22⟩, -, X22, ⟨Lc22, hQ22, l22, y22, z22⟩, st22⟩ := X15.virtualBack hx (y := mn21) (z := mn21) hown (mvT hZ (hw _ (ix 149 rfl))) (mvT hZ (hw _ (ix 150 rfl))) (notFace_of_selects (args := #[]) (mvT hZ (hw _ (ix 152 rfl)))) (mvT hZ (hw _ (ix 152 rfl))) (mvT hZ (hw _ (ix 151 rfl))) (by decide) (backOf (W := 0) (rm20 l Z aa hw [] b7 la pa tm v1_s0 wB kl kp bl15 ya21 p0 hh15 n0 O15 S_wB B15 ((HM15 _).mpr (Or.inl (Or.inl (Or.inr ⟨rfl, rfl⟩)))) hl15) hZ (hw _ (ix 153 rfl)) (hw _ (ix 5 rfl)) (by decide) (by decide)) q22a q22c (g := (mkF m 163 #[(sI fl), (sJ p0), .second, (sJ p1), .second, (sJ p2), .second, (sR v1_s0), (sI u5), (sI u6), (sR b7), (sR ya21), .val (vo o1), .val (vo o2), (sI (1 : Int32)), (sJ p0), .second, .unset, .unset, .unset, .unset, .unset, .unset, .unset] [(.ref ya21), (.ref b7)])) rfl (sz hml) (Steps.refl _) (argsL := [(.ref ya21)]) (rest := []) (lenOf pd_oLcom_example_openvenue_openvenue_core_PriceLevelcV rfl) rfl le0 (hb hby at_163) (fun _ _ => ⟨rfl, e15, (by decide : 12 + 0 ≤ _), (by decide : 554 + 0 ≤ _)⟩)
    dsimp only [Pt.U, Pt.locs, Pt.cells, Pt.slots] at X22 l22 y22 z22 st22 hQ22
    subst l22 y22 z22
    obtain ⟨rfl, M22, K22, bl22, B22, hm22, hl22⟩ := hQ22
    have N22 := Fr.app N15 M22
    have O22 := O15.keep K22 (Bk.gs B15)
    refine gu (T22.setTop (mkF m 166 #[(sI fl), (sJ p0), .second, (sJ p1), .second, (sJ p2), .second, (sR v1_s0), (sI u5), (sI u6), (sR b7), (sR ya21), .val (vo o1), .val (vo o2), (sI (1 : Int32)), (sJ p0), .second, .unset, .unset, .unset, .unset, .unset, .unset, .unset] [])) (fun t kt => st22.trans kt) ?_
    exact J18 _ _ _ _ _ bl22 X22 rfl N22 O22 B22 (own_mr HM15 hm22) hl22
   ·refine gu (T15.setTop (mkF m 122 #[(sI fl), (sJ p0), .second, (sJ p1), .second, (sJ p2), .second, (sR v1_s0), (sI u5), (sI u6), (sR b7), .val (vo o0), .val (vo o1), .val (vo o2), (sI (1 : Int32)), .unset, .unset, .unset, .unset, .unset, .unset, .unset, .unset, .unset] [(.int (1 : Int32)), (.int u6)])) (fun t kt => ?_) ?_
    ·refine XS.ifYes X15.here hx rfl (pc0 := 112) (pc' := 119) rfl (hb hby at_112) rfl ((if0 _ _).trans (feq c112_20).2) (by decide) (by decide) ?_
     show Steps _ _ _ (T15.setTop (mkF m 119 #[(sI fl), (sJ p0), .second, (sJ p1), .second, (sJ p2), .second, (sR v1_s0), (sI u5), (sI u6), (sR b7), .val (vo o0), .val (vo o1), .val (vo o2), (sI (1 : Int32)), .unset, .unset, .unset, .unset, .unset, .unset, .unset, .unset, .unset] [])) _
     refine XS.iload X15.here hx rfl (hb hby at_119) rfl ?_
     show Steps _ _ _ (T15.setTop (mkF m 121 #[(sI fl), (sJ p0), .second, (sJ p1), .second, (sJ p2), .second, (sR v1_s0), (sI u5), (sI u6), (sR b7), .val (vo o0), .val (vo o1), .val (vo o2), (sI (1 : Int32)), .unset, .unset, .unset, .unset, .unset, .unset, .unset, .unset, .unset] [(.int u6)])) _
     refine XS.iconst X15.here hx rfl (hb hby at_121) ?_
     exact kt
    by_cases c122_23 : u6 = (1 : Int32)
    ·refine gu (T15.setTop (mkF m 163 #[(sI fl), (sJ p0), .second, (sJ p1), .second, (sJ p2), .second, (sR v1_s0), (sI u5), (sI u6), (sR b7), .val (vo o0), .val (vo o1), .val (vo o2), (sI (1 : Int32)), (sJ p1), .second, .unset, .unset, .unset, .unset, .unset, .unset, .unset] [(vo o1), (.ref b7)])) (fun t kt => ?_) ?_
     ·refine XS.icmpNo X15.here hx rfl (hb hby at_122) rfl (teq c122_23).2 ?_
      show Steps _ _ _ (T15.setTop (mkF m 125 #[(sI fl), (sJ p0), .second, (sJ p1), .second, (sJ p2), .second, (sR v1_s0), (sI u5), (sI u6), (sR b7), .val (vo o0), .val (vo o1), .val (vo o2), (sI (1 : Int32)), .unset, .unset, .unset, .unset, .unset, .unset, .unset, .unset, .unset] [])) _
      refine XS.lloadN X15.here hx rfl (hb hby at_125) rfl ?_
      show Steps _ _ _ (T15.setTop (mkF m 126 #[(sI fl), (sJ p0), .second, (sJ p1), .second, (sJ p2), .second, (sR v1_s0), (sI u5), (sI u6), (sR b7), .val (vo o0), .val (vo o1), .val (vo o2), (sI (1 : Int32)), .unset, .unset, .unset, .unset, .unset, .unset, .unset, .unset, .unset] [(.long p1)])) _
      refine XS.goto X15.here hx rfl (pc0 := 126) (pc' := 131) rfl (hb hby at_126) (by decide) (by decide) ?_
      show Steps _ _ _ (T15.setTop (mkF m 131 #[(sI fl), (sJ p0), .second, (sJ p1), .second, (sJ p2), .second, (sR v1_s0), (sI u5), (sI u6), (sR b7), .val (vo o0), .val (vo o1), .val (vo o2), (sI (1 : Int32)), .unset, .unset, .unset, .unset, .unset, .unset, .unset, .unset, .unset] [(.long p1)])) _
      refine XS.lstore X15.here hx rfl (hb hby at_131) rfl (l' := #[(sI fl), (sJ p0), .second, (sJ p1), .second, (sJ p2), .second, (sR v1_s0), (sI u5), (sI u6), (sR b7), .val (vo o0), .val (vo o1), .val (vo o2), (sI (1 : Int32)), (sJ p1), .second, .unset, .unset, .unset, .unset, .unset, .unset, .unset]) rfl ?_
      show Steps _ _ _ (T15.setTop (mkF m 133 #[(sI fl), (sJ p0), .second, (sJ p1), .second, (sJ p2), .second, (sR v1_s0), (sI u5), (sI u6), (sR b7), .val (vo o0), .val (vo o1), .val (vo o2), (sI (1 : Int32)), (sJ p1), .second, .unset, .unset, .unset, .unset, .unset, .unset, .unset] [])) _
      refine XS.iload X15.here hx rfl (hb hby at_133) rfl ?_
      show Steps _ _ _ (T15.setTop (mkF m 135 #[(sI fl), (sJ p0), .second, (sJ p1), .second, (sJ p2), .second, (sR v1_s0), (sI u5), (sI u6), (sR b7), .val (vo o0), .val (vo o1), .val (vo o2), (sI (1 : Int32)), (sJ p1), .second, .unset, .unset, .unset, .unset, .unset, .unset, .unset] [(.int (1 : Int32))])) _
      refine XS.ifNo X15.here hx rfl (hb hby at_135) rfl ((if0 _ _).trans (feq (by decide : ¬ ((1 : Int32) = (0 : Int32)))).1) ?_
      show Steps _ _ _ (T15.setTop (mkF m 138 #[(sI fl), (sJ p0), .second, (sJ p1), .second, (sJ p2), .second, (sR v1_s0), (sI u5), (sI u6), (sR b7), .val (vo o0), .val (vo o1), .val (vo o2), (sI (1 : Int32)), (sJ p1), .second, .unset, .unset, .unset, .unset, .unset, .unset, .unset] [])) _
      refine XS.aload X15.here hx rfl (hb hby at_138) rfl rfl ?_
      show Steps _ _ _ (T15.setTop (mkF m 140 #[(sI fl), (sJ p0), .second, (sJ p1), .second, (sJ p2), .second, (sR v1_s0), (sI u5), (sI u6), (sR b7), .val (vo o0), .val (vo o1), .val (vo o2), (sI (1 : Int32)), (sJ p1), .second, .unset, .unset, .unset, .unset, .unset, .unset, .unset] [(.ref b7)])) _
      refine XS.iload X15.here hx rfl (hb hby at_140) rfl ?_
      show Steps _ _ _ (T15.setTop (mkF m 142 #[(sI fl), (sJ p0), .second, (sJ p1), .second, (sJ p2), .second, (sR v1_s0), (sI u5), (sI u6), (sR b7), .val (vo o0), .val (vo o1), .val (vo o2), (sI (1 : Int32)), (sJ p1), .second, .unset, .unset, .unset, .unset, .unset, .unset, .unset] [(.int u6), (.ref b7)])) _
      refine XS.ifYes X15.here hx rfl (pc0 := 142) (pc' := 150) rfl (hb hby at_142) rfl ((if0 _ _).trans (feq c112_20).2) (by decide) (by decide) ?_
      show Steps _ _ _ (T15.setTop (mkF m 150 #[(sI fl), (sJ p0), .second, (sJ p1), .second, (sJ p2), .second, (sR v1_s0), (sI u5), (sI u6), (sR b7), .val (vo o0), .val (vo o1), .val (vo o2), (sI (1 : Int32)), (sJ p1), .second, .unset, .unset, .unset, .unset, .unset, .unset, .unset] [(.ref b7)])) _
      refine XS.iload X15.here hx rfl (hb hby at_150) rfl ?_
      show Steps _ _ _ (T15.setTop (mkF m 152 #[(sI fl), (sJ p0), .second, (sJ p1), .second, (sJ p2), .second, (sR v1_s0), (sI u5), (sI u6), (sR b7), .val (vo o0), .val (vo o1), .val (vo o2), (sI (1 : Int32)), (sJ p1), .second, .unset, .unset, .unset, .unset, .unset, .unset, .unset] [(.int u6), (.ref b7)])) _
      refine XS.iconst X15.here hx rfl (hb hby at_152) ?_
      show Steps _ _ _ (T15.setTop (mkF m 153 #[(sI fl), (sJ p0), .second, (sJ p1), .second, (sJ p2), .second, (sR v1_s0), (sI u5), (sI u6), (sR b7), .val (vo o0), .val (vo o1), .val (vo o2), (sI (1 : Int32)), (sJ p1), .second, .unset, .unset, .unset, .unset, .unset, .unset, .unset] [(.int (1 : Int32)), (.int u6), (.ref b7)])) _
      refine XS.icmpNo X15.here hx rfl (hb hby at_153) rfl (teq c122_23).2 ?_
      show Steps _ _ _ (T15.setTop (mkF m 156 #[(sI fl), (sJ p0), .second, (sJ p1), .second, (sJ p2), .second, (sR v1_s0), (sI u5), (sI u6), (sR b7), .val (vo o0), .val (vo o1), .val (vo o2), (sI (1 : Int32)), (sJ p1), .second, .unset, .unset, .unset, .unset, .unset, .unset, .unset] [(.ref b7)])) _
      refine XS.aload X15.here hx rfl (hb hby at_156) rfl (vo_ref _) ?_
      show Steps _ _ _ (T15.setTop (mkF m 158 #[(sI fl), (sJ p0), .second, (sJ p1), .second, (sJ p2), .second, (sR v1_s0), (sI u5), (sI u6), (sR b7), .val (vo o0), .val (vo o1), .val (vo o2), (sI (1 : Int32)), (sJ p1), .second, .unset, .unset, .unset, .unset, .unset, .unset, .unset] [(vo o1), (.ref b7)])) _
      refine XS.goto X15.here hx rfl (pc0 := 158) (pc' := 163) rfl (hb hby at_158) (by decide) (by decide) ?_
      exact kt
     obtain ⟨ya24, hy24⟩ := own_some hs1 (c122_23 ▸ c100_19)
     subst hy24
     show Gl p e below (Ret s 12 554 (Q0 n0)) (T15.setTop (mkF m 163 #[(sI fl), (sJ p0), .second, (sJ p1), .second, (sJ p2), .second, (sR v1_s0), (sI u5), (sI u6), (sR b7), .val (vo o0), (sR ya24), .val (vo o2), (sI (1 : Int32)), (sJ p1), .second, .unset, .unset, .unset, .unset, .unset, .unset, .unset] [(.ref ya24), (.ref b7)]))
     obtain ⟨cq25, kq25, q25a, q25b, q25c⟩ := isOf hZ e15 B15.1
     obtain ⟨_, _, ⟨T25, L25, k25, n25⟩, -, X25, ⟨Lc25, hQ25, l25, y25, z25⟩, st25⟩ := X15.virtualBack hx (y := mn21) (z := mn21) hown (mvT hZ (hw _ (ix 149 rfl))) (mvT hZ (hw _ (ix 150 rfl))) (notFace_of_selects (args := #[]) (mvT hZ (hw _ (ix 152 rfl)))) (mvT hZ (hw _ (ix 152 rfl))) (mvT hZ (hw _ (ix 151 rfl))) (by decide) (backOf (W := 0) (rm20 l Z aa hw [] b7 la pa tm v1_s0 wB kl kp bl15 ya24 p1 hh15 n0 O15 S_wB B15 ((HM15 _).mpr (Or.inl (Or.inr ⟨rfl, rfl⟩))) hl15) hZ (hw _ (ix 153 rfl)) (hw _ (ix 5 rfl)) (by decide) (by decide)) q25a q25c (g := (mkF m 163 #[(sI fl), (sJ p0), .second, (sJ p1), .second, (sJ p2), .second, (sR v1_s0), (sI u5), (sI u6), (sR b7), .val (vo o0), (sR ya24), .val (vo o2), (sI (1 : Int32)), (sJ p1), .second, .unset, .unset, .unset, .unset, .unset, .unset, .unset] [(.ref ya24), (.ref b7)])) rfl (sz hml) (Steps.refl _) (argsL := [(.ref ya24)]) (rest := []) (lenOf pd_oLcom_example_openvenue_openvenue_core_PriceLevelcV rfl) rfl le0 (hb hby at_163) (fun _ _ => ⟨rfl, e15, (by decide : 12 + 0 ≤ _), (by decide : 554 + 0 ≤ _)⟩)
     dsimp only [Pt.U, Pt.locs, Pt.cells, Pt.slots] at X25 l25 y25 z25 st25 hQ25
     subst l25 y25 z25
     obtain ⟨rfl, M25, K25, bl25, B25, hm25, hl25⟩ := hQ25
     have N25 := Fr.app N15 M25
     have O25 := O15.keep K25 (Bk.gs B15)
     refine gu (T25.setTop (mkF m 166 #[(sI fl), (sJ p0), .second, (sJ p1), .second, (sJ p2), .second, (sR v1_s0), (sI u5), (sI u6), (sR b7), .val (vo o0), (sR ya24), .val (vo o2), (sI (1 : Int32)), (sJ p1), .second, .unset, .unset, .unset, .unset, .unset, .unset, .unset] [])) (fun t kt => st25.trans kt) ?_
     exact J18 _ _ _ _ _ bl25 X25 rfl N25 O25 B25 (own_mr HM15 hm25) hl25
    ·refine gu (T15.setTop (mkF m 163 #[(sI fl), (sJ p0), .second, (sJ p1), .second, (sJ p2), .second, (sR v1_s0), (sI u5), (sI u6), (sR b7), .val (vo o0), .val (vo o1), .val (vo o2), (sI (1 : Int32)), (sJ p2), .second, .unset, .unset, .unset, .unset, .unset, .unset, .unset] [(vo o2), (.ref b7)])) (fun t kt => ?_) ?_
     ·refine XS.icmpYes X15.here hx rfl (pc0 := 122) (pc' := 129) rfl (hb hby at_122) rfl (feq c122_23).2 (by decide) (by decide) ?_
      show Steps _ _ _ (T15.setTop (mkF m 129 #[(sI fl), (sJ p0), .second, (sJ p1), .second, (sJ p2), .second, (sR v1_s0), (sI u5), (sI u6), (sR b7), .val (vo o0), .val (vo o1), .val (vo o2), (sI (1 : Int32)), .unset, .unset, .unset, .unset, .unset, .unset, .unset, .unset, .unset] [])) _
      refine XS.lload X15.here hx rfl (hb hby at_129) rfl ?_
      show Steps _ _ _ (T15.setTop (mkF m 131 #[(sI fl), (sJ p0), .second, (sJ p1), .second, (sJ p2), .second, (sR v1_s0), (sI u5), (sI u6), (sR b7), .val (vo o0), .val (vo o1), .val (vo o2), (sI (1 : Int32)), .unset, .unset, .unset, .unset, .unset, .unset, .unset, .unset, .unset] [(.long p2)])) _
      refine XS.lstore X15.here hx rfl (hb hby at_131) rfl (l' := #[(sI fl), (sJ p0), .second, (sJ p1), .second, (sJ p2), .second, (sR v1_s0), (sI u5), (sI u6), (sR b7), .val (vo o0), .val (vo o1), .val (vo o2), (sI (1 : Int32)), (sJ p2), .second, .unset, .unset, .unset, .unset, .unset, .unset, .unset]) rfl ?_
      show Steps _ _ _ (T15.setTop (mkF m 133 #[(sI fl), (sJ p0), .second, (sJ p1), .second, (sJ p2), .second, (sR v1_s0), (sI u5), (sI u6), (sR b7), .val (vo o0), .val (vo o1), .val (vo o2), (sI (1 : Int32)), (sJ p2), .second, .unset, .unset, .unset, .unset, .unset, .unset, .unset] [])) _
      refine XS.iload X15.here hx rfl (hb hby at_133) rfl ?_
      show Steps _ _ _ (T15.setTop (mkF m 135 #[(sI fl), (sJ p0), .second, (sJ p1), .second, (sJ p2), .second, (sR v1_s0), (sI u5), (sI u6), (sR b7), .val (vo o0), .val (vo o1), .val (vo o2), (sI (1 : Int32)), (sJ p2), .second, .unset, .unset, .unset, .unset, .unset, .unset, .unset] [(.int (1 : Int32))])) _
      refine XS.ifNo X15.here hx rfl (hb hby at_135) rfl ((if0 _ _).trans (feq (by decide : ¬ ((1 : Int32) = (0 : Int32)))).1) ?_
      show Steps _ _ _ (T15.setTop (mkF m 138 #[(sI fl), (sJ p0), .second, (sJ p1), .second, (sJ p2), .second, (sR v1_s0), (sI u5), (sI u6), (sR b7), .val (vo o0), .val (vo o1), .val (vo o2), (sI (1 : Int32)), (sJ p2), .second, .unset, .unset, .unset, .unset, .unset, .unset, .unset] [])) _
      refine XS.aload X15.here hx rfl (hb hby at_138) rfl rfl ?_
      show Steps _ _ _ (T15.setTop (mkF m 140 #[(sI fl), (sJ p0), .second, (sJ p1), .second, (sJ p2), .second, (sR v1_s0), (sI u5), (sI u6), (sR b7), .val (vo o0), .val (vo o1), .val (vo o2), (sI (1 : Int32)), (sJ p2), .second, .unset, .unset, .unset, .unset, .unset, .unset, .unset] [(.ref b7)])) _
      refine XS.iload X15.here hx rfl (hb hby at_140) rfl ?_
      show Steps _ _ _ (T15.setTop (mkF m 142 #[(sI fl), (sJ p0), .second, (sJ p1), .second, (sJ p2), .second, (sR v1_s0), (sI u5), (sI u6), (sR b7), .val (vo o0), .val (vo o1), .val (vo o2), (sI (1 : Int32)), (sJ p2), .second, .unset, .unset, .unset, .unset, .unset, .unset, .unset] [(.int u6), (.ref b7)])) _
      refine XS.ifYes X15.here hx rfl (pc0 := 142) (pc' := 150) rfl (hb hby at_142) rfl ((if0 _ _).trans (feq c112_20).2) (by decide) (by decide) ?_
      show Steps _ _ _ (T15.setTop (mkF m 150 #[(sI fl), (sJ p0), .second, (sJ p1), .second, (sJ p2), .second, (sR v1_s0), (sI u5), (sI u6), (sR b7), .val (vo o0), .val (vo o1), .val (vo o2), (sI (1 : Int32)), (sJ p2), .second, .unset, .unset, .unset, .unset, .unset, .unset, .unset] [(.ref b7)])) _
      refine XS.iload X15.here hx rfl (hb hby at_150) rfl ?_
      show Steps _ _ _ (T15.setTop (mkF m 152 #[(sI fl), (sJ p0), .second, (sJ p1), .second, (sJ p2), .second, (sR v1_s0), (sI u5), (sI u6), (sR b7), .val (vo o0), .val (vo o1), .val (vo o2), (sI (1 : Int32)), (sJ p2), .second, .unset, .unset, .unset, .unset, .unset, .unset, .unset] [(.int u6), (.ref b7)])) _
      refine XS.iconst X15.here hx rfl (hb hby at_152) ?_
      show Steps _ _ _ (T15.setTop (mkF m 153 #[(sI fl), (sJ p0), .second, (sJ p1), .second, (sJ p2), .second, (sR v1_s0), (sI u5), (sI u6), (sR b7), .val (vo o0), .val (vo o1), .val (vo o2), (sI (1 : Int32)), (sJ p2), .second, .unset, .unset, .unset, .unset, .unset, .unset, .unset] [(.int (1 : Int32)), (.int u6), (.ref b7)])) _
      refine XS.icmpYes X15.here hx rfl (pc0 := 153) (pc' := 161) rfl (hb hby at_153) rfl (feq c122_23).2 (by decide) (by decide) ?_
      show Steps _ _ _ (T15.setTop (mkF m 161 #[(sI fl), (sJ p0), .second, (sJ p1), .second, (sJ p2), .second, (sR v1_s0), (sI u5), (sI u6), (sR b7), .val (vo o0), .val (vo o1), .val (vo o2), (sI (1 : Int32)), (sJ p2), .second, .unset, .unset, .unset, .unset, .unset, .unset, .unset] [(.ref b7)])) _
      refine XS.aload X15.here hx rfl (hb hby at_161) rfl (vo_ref _) ?_
      exact kt
     obtain ⟨ya26, hy26⟩ := own_some hs2 (own_two hnn hrr c100_19 c112_20 c122_23)
     subst hy26
     show Gl p e below (Ret s 12 554 (Q0 n0)) (T15.setTop (mkF m 163 #[(sI fl), (sJ p0), .second, (sJ p1), .second, (sJ p2), .second, (sR v1_s0), (sI u5), (sI u6), (sR b7), .val (vo o0), .val (vo o1), (sR ya26), (sI (1 : Int32)), (sJ p2), .second, .unset, .unset, .unset, .unset, .unset, .unset, .unset] [(.ref ya26), (.ref b7)]))
     obtain ⟨cq27, kq27, q27a, q27b, q27c⟩ := isOf hZ e15 B15.1
     obtain ⟨_, _, ⟨T27, L27, k27, n27⟩, -, X27, ⟨Lc27, hQ27, l27, y27, z27⟩, st27⟩ := X15.virtualBack hx (y := mn21) (z := mn21) hown (mvT hZ (hw _ (ix 149 rfl))) (mvT hZ (hw _ (ix 150 rfl))) (notFace_of_selects (args := #[]) (mvT hZ (hw _ (ix 152 rfl)))) (mvT hZ (hw _ (ix 152 rfl))) (mvT hZ (hw _ (ix 151 rfl))) (by decide) (backOf (W := 0) (rm20 l Z aa hw [] b7 la pa tm v1_s0 wB kl kp bl15 ya26 p2 hh15 n0 O15 S_wB B15 ((HM15 _).mpr (Or.inr ⟨rfl, rfl⟩)) hl15) hZ (hw _ (ix 153 rfl)) (hw _ (ix 5 rfl)) (by decide) (by decide)) q27a q27c (g := (mkF m 163 #[(sI fl), (sJ p0), .second, (sJ p1), .second, (sJ p2), .second, (sR v1_s0), (sI u5), (sI u6), (sR b7), .val (vo o0), .val (vo o1), (sR ya26), (sI (1 : Int32)), (sJ p2), .second, .unset, .unset, .unset, .unset, .unset, .unset, .unset] [(.ref ya26), (.ref b7)])) rfl (sz hml) (Steps.refl _) (argsL := [(.ref ya26)]) (rest := []) (lenOf pd_oLcom_example_openvenue_openvenue_core_PriceLevelcV rfl) rfl le0 (hb hby at_163) (fun _ _ => ⟨rfl, e15, (by decide : 12 + 0 ≤ _), (by decide : 554 + 0 ≤ _)⟩)
     dsimp only [Pt.U, Pt.locs, Pt.cells, Pt.slots] at X27 l27 y27 z27 st27 hQ27
     subst l27 y27 z27
     obtain ⟨rfl, M27, K27, bl27, B27, hm27, hl27⟩ := hQ27
     have N27 := Fr.app N15 M27
     have O27 := O15.keep K27 (Bk.gs B15)
     refine gu (T27.setTop (mkF m 166 #[(sI fl), (sJ p0), .second, (sJ p1), .second, (sJ p2), .second, (sR v1_s0), (sI u5), (sI u6), (sR b7), .val (vo o0), .val (vo o1), (sR ya26), (sI (1 : Int32)), (sJ p2), .second, .unset, .unset, .unset, .unset, .unset, .unset, .unset] [])) (fun t kt => st27.trans kt) ?_
     exact J18 _ _ _ _ _ bl27 X27 rfl N27 O27 B27 (own_mr HM15 hm27) hl27
  ·refine gu (T15.setTop (mkF m 112 #[(sI fl), (sJ p0), .second, (sJ p1), .second, (sJ p2), .second, (sR v1_s0), (sI u5), (sI u6), (sR b7), .val (vo o0), .val (vo o1), .val (vo o2), (sI (0 : Int32)), .unset, .unset, .unset, .unset, .unset, .unset, .unset, .unset, .unset] [(.int u6)])) (fun t kt => ?_) ?_
   ·refine XS.icmpYes X15.here hx rfl (pc0 := 100) (pc' := 107) rfl (hb hby at_100) rfl (flt c100_19).2.1 (by decide) (by decide) ?_
    show Steps _ _ _ (T15.setTop (mkF m 107 #[(sI fl), (sJ p0), .second, (sJ p1), .second, (sJ p2), .second, (sR v1_s0), (sI u5), (sI u6), (sR b7), .val (vo o0), .val (vo o1), .val (vo o2), .unset, .unset, .unset, .unset, .unset, .unset, .unset, .unset, .unset, .unset] [])) _
    refine XS.iconst X15.here hx rfl (hb hby at_107) ?_
    show Steps _ _ _ (T15.setTop (mkF m 108 #[(sI fl), (sJ p0), .second, (sJ p1), .second, (sJ p2), .second, (sR v1_s0), (sI u5), (sI u6), (sR b7), .val (vo o0), .val (vo o1), .val (vo o2), .unset, .unset, .unset, .unset, .unset, .unset, .unset, .unset, .unset, .unset] [(.int (0 : Int32))])) _
    refine XS.istore X15.here hx rfl (hb hby at_108) rfl (l' := #[(sI fl), (sJ p0), .second, (sJ p1), .second, (sJ p2), .second, (sR v1_s0), (sI u5), (sI u6), (sR b7), .val (vo o0), .val (vo o1), .val (vo o2), (sI (0 : Int32)), .unset, .unset, .unset, .unset, .unset, .unset, .unset, .unset, .unset]) rfl ?_
    show Steps _ _ _ (T15.setTop (mkF m 110 #[(sI fl), (sJ p0), .second, (sJ p1), .second, (sJ p2), .second, (sR v1_s0), (sI u5), (sI u6), (sR b7), .val (vo o0), .val (vo o1), .val (vo o2), (sI (0 : Int32)), .unset, .unset, .unset, .unset, .unset, .unset, .unset, .unset, .unset] [])) _
    refine XS.iload X15.here hx rfl (hb hby at_110) rfl ?_
    exact kt
   by_cases c112_28 : u6 = (0 : Int32)
   ·refine gu (T15.setTop (mkF m 166 #[(sI fl), (sJ p0), .second, (sJ p1), .second, (sJ p2), .second, (sR v1_s0), (sI u5), (sI u6), (sR b7), .val (vo o0), .val (vo o1), .val (vo o2), (sI (0 : Int32)), (sJ p0), .second, .unset, .unset, .unset, .unset, .unset, .unset, .unset] [])) (fun t kt => ?_) ?_
    ·refine XS.ifNo X15.here hx rfl (hb hby at_112) rfl ((if0 _ _).trans (teq c112_28).2) ?_
     show Steps _ _ _ (T15.setTop (mkF m 115 #[(sI fl), (sJ p0), .second, (sJ p1), .second, (sJ p2), .second, (sR v1_s0), (sI u5), (sI u6), (sR b7), .val (vo o0), .val (vo o1), .val (vo o2), (sI (0 : Int32)), .unset, .unset, .unset, .unset, .unset, .unset, .unset, .unset, .unset] [])) _
     refine XS.lloadN X15.here hx rfl (hb hby at_115) rfl ?_
     show Steps _ _ _ (T15.setTop (mkF m 116 #[(sI fl), (sJ p0), .second, (sJ p1), .second, (sJ p2), .second, (sR v1_s0), (sI u5), (sI u6), (sR b7), .val (vo o0), .val (vo o1), .val (vo o2), (sI (0 : Int32)), .unset, .unset, .unset, .unset, .unset, .unset, .unset, .unset, .unset] [(.long p0)])) _
     refine XS.goto X15.here hx rfl (pc0 := 116) (pc' := 131) rfl (hb hby at_116) (by decide) (by decide) ?_
     show Steps _ _ _ (T15.setTop (mkF m 131 #[(sI fl), (sJ p0), .second, (sJ p1), .second, (sJ p2), .second, (sR v1_s0), (sI u5), (sI u6), (sR b7), .val (vo o0), .val (vo o1), .val (vo o2), (sI (0 : Int32)), .unset, .unset, .unset, .unset, .unset, .unset, .unset, .unset, .unset] [(.long p0)])) _
     refine XS.lstore X15.here hx rfl (hb hby at_131) rfl (l' := #[(sI fl), (sJ p0), .second, (sJ p1), .second, (sJ p2), .second, (sR v1_s0), (sI u5), (sI u6), (sR b7), .val (vo o0), .val (vo o1), .val (vo o2), (sI (0 : Int32)), (sJ p0), .second, .unset, .unset, .unset, .unset, .unset, .unset, .unset]) rfl ?_
     show Steps _ _ _ (T15.setTop (mkF m 133 #[(sI fl), (sJ p0), .second, (sJ p1), .second, (sJ p2), .second, (sR v1_s0), (sI u5), (sI u6), (sR b7), .val (vo o0), .val (vo o1), .val (vo o2), (sI (0 : Int32)), (sJ p0), .second, .unset, .unset, .unset, .unset, .unset, .unset, .unset] [])) _
     refine XS.iload X15.here hx rfl (hb hby at_133) rfl ?_
     show Steps _ _ _ (T15.setTop (mkF m 135 #[(sI fl), (sJ p0), .second, (sJ p1), .second, (sJ p2), .second, (sR v1_s0), (sI u5), (sI u6), (sR b7), .val (vo o0), .val (vo o1), .val (vo o2), (sI (0 : Int32)), (sJ p0), .second, .unset, .unset, .unset, .unset, .unset, .unset, .unset] [(.int (0 : Int32))])) _
     refine XS.ifYes X15.here hx rfl (pc0 := 135) (pc' := 166) rfl (hb hby at_135) rfl ((if0 _ _).trans (teq (rfl : (0 : Int32) = (0 : Int32))).1) (by decide) (by decide) ?_
     exact kt
    exact J18 _ _ _ _ _ _ X15 e15 N15 O15 (Bk.bp B15) (own_mk HM15) hl15
   ·refine gu (T15.setTop (mkF m 122 #[(sI fl), (sJ p0), .second, (sJ p1), .second, (sJ p2), .second, (sR v1_s0), (sI u5), (sI u6), (sR b7), .val (vo o0), .val (vo o1), .val (vo o2), (sI (0 : Int32)), .unset, .unset, .unset, .unset, .unset, .unset, .unset, .unset, .unset] [(.int (1 : Int32)), (.int u6)])) (fun t kt => ?_) ?_
    ·refine XS.ifYes X15.here hx rfl (pc0 := 112) (pc' := 119) rfl (hb hby at_112) rfl ((if0 _ _).trans (feq c112_28).2) (by decide) (by decide) ?_
     show Steps _ _ _ (T15.setTop (mkF m 119 #[(sI fl), (sJ p0), .second, (sJ p1), .second, (sJ p2), .second, (sR v1_s0), (sI u5), (sI u6), (sR b7), .val (vo o0), .val (vo o1), .val (vo o2), (sI (0 : Int32)), .unset, .unset, .unset, .unset, .unset, .unset, .unset, .unset, .unset] [])) _
     refine XS.iload X15.here hx rfl (hb hby at_119) rfl ?_
     show Steps _ _ _ (T15.setTop (mkF m 121 #[(sI fl), (sJ p0), .second, (sJ p1), .second, (sJ p2), .second, (sR v1_s0), (sI u5), (sI u6), (sR b7), .val (vo o0), .val (vo o1), .val (vo o2), (sI (0 : Int32)), .unset, .unset, .unset, .unset, .unset, .unset, .unset, .unset, .unset] [(.int u6)])) _
     refine XS.iconst X15.here hx rfl (hb hby at_121) ?_
     exact kt
    by_cases c122_29 : u6 = (1 : Int32)
    ·refine gu (T15.setTop (mkF m 166 #[(sI fl), (sJ p0), .second, (sJ p1), .second, (sJ p2), .second, (sR v1_s0), (sI u5), (sI u6), (sR b7), .val (vo o0), .val (vo o1), .val (vo o2), (sI (0 : Int32)), (sJ p1), .second, .unset, .unset, .unset, .unset, .unset, .unset, .unset] [])) (fun t kt => ?_) ?_
     ·refine XS.icmpNo X15.here hx rfl (hb hby at_122) rfl (teq c122_29).2 ?_
      show Steps _ _ _ (T15.setTop (mkF m 125 #[(sI fl), (sJ p0), .second, (sJ p1), .second, (sJ p2), .second, (sR v1_s0), (sI u5), (sI u6), (sR b7), .val (vo o0), .val (vo o1), .val (vo o2), (sI (0 : Int32)), .unset, .unset, .unset, .unset, .unset, .unset, .unset, .unset, .unset] [])) _
      refine XS.lloadN X15.here hx rfl (hb hby at_125) rfl ?_
      show Steps _ _ _ (T15.setTop (mkF m 126 #[(sI fl), (sJ p0), .second, (sJ p1), .second, (sJ p2), .second, (sR v1_s0), (sI u5), (sI u6), (sR b7), .val (vo o0), .val (vo o1), .val (vo o2), (sI (0 : Int32)), .unset, .unset, .unset, .unset, .unset, .unset, .unset, .unset, .unset] [(.long p1)])) _
      refine XS.goto X15.here hx rfl (pc0 := 126) (pc' := 131) rfl (hb hby at_126) (by decide) (by decide) ?_
      show Steps _ _ _ (T15.setTop (mkF m 131 #[(sI fl), (sJ p0), .second, (sJ p1), .second, (sJ p2), .second, (sR v1_s0), (sI u5), (sI u6), (sR b7), .val (vo o0), .val (vo o1), .val (vo o2), (sI (0 : Int32)), .unset, .unset, .unset, .unset, .unset, .unset, .unset, .unset, .unset] [(.long p1)])) _
      refine XS.lstore X15.here hx rfl (hb hby at_131) rfl (l' := #[(sI fl), (sJ p0), .second, (sJ p1), .second, (sJ p2), .second, (sR v1_s0), (sI u5), (sI u6), (sR b7), .val (vo o0), .val (vo o1), .val (vo o2), (sI (0 : Int32)), (sJ p1), .second, .unset, .unset, .unset, .unset, .unset, .unset, .unset]) rfl ?_
      show Steps _ _ _ (T15.setTop (mkF m 133 #[(sI fl), (sJ p0), .second, (sJ p1), .second, (sJ p2), .second, (sR v1_s0), (sI u5), (sI u6), (sR b7), .val (vo o0), .val (vo o1), .val (vo o2), (sI (0 : Int32)), (sJ p1), .second, .unset, .unset, .unset, .unset, .unset, .unset, .unset] [])) _
      refine XS.iload X15.here hx rfl (hb hby at_133) rfl ?_
      show Steps _ _ _ (T15.setTop (mkF m 135 #[(sI fl), (sJ p0), .second, (sJ p1), .second, (sJ p2), .second, (sR v1_s0), (sI u5), (sI u6), (sR b7), .val (vo o0), .val (vo o1), .val (vo o2), (sI (0 : Int32)), (sJ p1), .second, .unset, .unset, .unset, .unset, .unset, .unset, .unset] [(.int (0 : Int32))])) _
      refine XS.ifYes X15.here hx rfl (pc0 := 135) (pc' := 166) rfl (hb hby at_135) rfl ((if0 _ _).trans (teq (rfl : (0 : Int32) = (0 : Int32))).1) (by decide) (by decide) ?_
      exact kt
     exact J18 _ _ _ _ _ _ X15 e15 N15 O15 (Bk.bp B15) (own_mk HM15) hl15
    ·refine gu (T15.setTop (mkF m 166 #[(sI fl), (sJ p0), .second, (sJ p1), .second, (sJ p2), .second, (sR v1_s0), (sI u5), (sI u6), (sR b7), .val (vo o0), .val (vo o1), .val (vo o2), (sI (0 : Int32)), (sJ p2), .second, .unset, .unset, .unset, .unset, .unset, .unset, .unset] [])) (fun t kt => ?_) ?_
     ·refine XS.icmpYes X15.here hx rfl (pc0 := 122) (pc' := 129) rfl (hb hby at_122) rfl (feq c122_29).2 (by decide) (by decide) ?_
      show Steps _ _ _ (T15.setTop (mkF m 129 #[(sI fl), (sJ p0), .second, (sJ p1), .second, (sJ p2), .second, (sR v1_s0), (sI u5), (sI u6), (sR b7), .val (vo o0), .val (vo o1), .val (vo o2), (sI (0 : Int32)), .unset, .unset, .unset, .unset, .unset, .unset, .unset, .unset, .unset] [])) _
      refine XS.lload X15.here hx rfl (hb hby at_129) rfl ?_
      show Steps _ _ _ (T15.setTop (mkF m 131 #[(sI fl), (sJ p0), .second, (sJ p1), .second, (sJ p2), .second, (sR v1_s0), (sI u5), (sI u6), (sR b7), .val (vo o0), .val (vo o1), .val (vo o2), (sI (0 : Int32)), .unset, .unset, .unset, .unset, .unset, .unset, .unset, .unset, .unset] [(.long p2)])) _
      refine XS.lstore X15.here hx rfl (hb hby at_131) rfl (l' := #[(sI fl), (sJ p0), .second, (sJ p1), .second, (sJ p2), .second, (sR v1_s0), (sI u5), (sI u6), (sR b7), .val (vo o0), .val (vo o1), .val (vo o2), (sI (0 : Int32)), (sJ p2), .second, .unset, .unset, .unset, .unset, .unset, .unset, .unset]) rfl ?_
      show Steps _ _ _ (T15.setTop (mkF m 133 #[(sI fl), (sJ p0), .second, (sJ p1), .second, (sJ p2), .second, (sR v1_s0), (sI u5), (sI u6), (sR b7), .val (vo o0), .val (vo o1), .val (vo o2), (sI (0 : Int32)), (sJ p2), .second, .unset, .unset, .unset, .unset, .unset, .unset, .unset] [])) _
      refine XS.iload X15.here hx rfl (hb hby at_133) rfl ?_
      show Steps _ _ _ (T15.setTop (mkF m 135 #[(sI fl), (sJ p0), .second, (sJ p1), .second, (sJ p2), .second, (sR v1_s0), (sI u5), (sI u6), (sR b7), .val (vo o0), .val (vo o1), .val (vo o2), (sI (0 : Int32)), (sJ p2), .second, .unset, .unset, .unset, .unset, .unset, .unset, .unset] [(.int (0 : Int32))])) _
      refine XS.ifYes X15.here hx rfl (pc0 := 135) (pc' := 166) rfl (hb hby at_135) rfl ((if0 _ _).trans (teq (rfl : (0 : Int32) = (0 : Int32))).1) (by decide) (by decide) ?_
      exact kt
     exact J18 _ _ _ _ _ _ X15 e15 N15 O15 (Bk.bp B15) (own_mk HM15) hl15
 intro T18 hh18 lc18 rm gn bl18 X18 e18 N18 O18 B18 HM18 hl18
 refine gu (T18.setTop (mkF m 168 #[(sI fl), (sJ p0), .second, (sJ p1), .second, (sJ p2), .second, (sR v1_s0), (sI u5), (sI u6), (sR b7), .val (vo o0), .val (vo o1), .val (vo o2), (sI rm), (sJ gn), .second, .unset, .unset, .unset, .unset, .unset, .unset, .unset] [(.int u5)])) (fun t kt => ?_) ?_
 ·refine XS.iload X18.here hx rfl (hb hby at_166) rfl ?_
  exact kt
 suffices J30 : ∀ (T30 : State) (v30_s0 : Int32), v30_s0 = (if (0 : Int32) < u5 then (if rm = (0 : Int32) then (1 : Int32) else (if p0 = gn then (0 : Int32) else (1 : Int32))) else (0 : Int32)) → Stand p l e room_1 s m args below meth c T30 lc18 12 554 → T30.heap = hh18 → Gl p e below (Ret s 12 554 (Q0 n0)) (T30.setTop (mkF m 188 #[(sI fl), (sJ p0), .second, (sJ p1), .second, (sJ p2), .second, (sR v1_s0), (sI u5), (sI u6), (sR b7), .val (vo o0), .val (vo o1), .val (vo o2), (sI rm), (sJ gn), .second, .unset, .unset, .unset, .unset, .unset, .unset, .unset] [(.int v30_s0)])) by
  by_cases c168_31 : (0 : Int32) < u5
  ·refine gu (T18.setTop (mkF m 173 #[(sI fl), (sJ p0), .second, (sJ p1), .second, (sJ p2), .second, (sR v1_s0), (sI u5), (sI u6), (sR b7), .val (vo o0), .val (vo o1), .val (vo o2), (sI rm), (sJ gn), .second, .unset, .unset, .unset, .unset, .unset, .unset, .unset] [(.int rm)])) (fun t kt => ?_) ?_
   ·refine XS.ifNo X18.here hx rfl (hb hby at_168) rfl ((if0 _ _).trans (tlt c168_31).2.2.2) ?_
    show Steps _ _ _ (T18.setTop (mkF m 171 #[(sI fl), (sJ p0), .second, (sJ p1), .second, (sJ p2), .second, (sR v1_s0), (sI u5), (sI u6), (sR b7), .val (vo o0), .val (vo o1), .val (vo o2), (sI rm), (sJ gn), .second, .unset, .unset, .unset, .unset, .unset, .unset, .unset] [])) _
    refine XS.iload X18.here hx rfl (hb hby at_171) rfl ?_
    exact kt
   by_cases c173_32 : rm = (0 : Int32)
   ·refine gu (T18.setTop (mkF m 188 #[(sI fl), (sJ p0), .second, (sJ p1), .second, (sJ p2), .second, (sR v1_s0), (sI u5), (sI u6), (sR b7), .val (vo o0), .val (vo o1), .val (vo o2), (sI rm), (sJ gn), .second, .unset, .unset, .unset, .unset, .unset, .unset, .unset] [(.int (1 : Int32))])) (fun t kt => ?_) ?_
    ·refine XS.ifYes X18.here hx rfl (pc0 := 173) (pc' := 183) rfl (hb hby at_173) rfl ((if0 _ _).trans (teq c173_32).1) (by decide) (by decide) ?_
     show Steps _ _ _ (T18.setTop (mkF m 183 #[(sI fl), (sJ p0), .second, (sJ p1), .second, (sJ p2), .second, (sR v1_s0), (sI u5), (sI u6), (sR b7), .val (vo o0), .val (vo o1), .val (vo o2), (sI rm), (sJ gn), .second, .unset, .unset, .unset, .unset, .unset, .unset, .unset] [])) _
     refine XS.iconst X18.here hx rfl (hb hby at_183) ?_
     show Steps _ _ _ (T18.setTop (mkF m 184 #[(sI fl), (sJ p0), .second, (sJ p1), .second, (sJ p2), .second, (sR v1_s0), (sI u5), (sI u6), (sR b7), .val (vo o0), .val (vo o1), .val (vo o2), (sI rm), (sJ gn), .second, .unset, .unset, .unset, .unset, .unset, .unset, .unset] [(.int (1 : Int32))])) _
     refine XS.goto X18.here hx rfl (pc0 := 184) (pc' := 188) rfl (hb hby at_184) (by decide) (by decide) ?_
     exact kt
    exact J30 _ (1 : Int32) ((if_pos c168_31).trans (if_pos c173_32)).symm X18 e18
   ·refine gu (T18.setTop (mkF m 180 #[(sI fl), (sJ p0), .second, (sJ p1), .second, (sJ p2), .second, (sR v1_s0), (sI u5), (sI u6), (sR b7), .val (vo o0), .val (vo o1), .val (vo o2), (sI rm), (sJ gn), .second, .unset, .unset, .unset, .unset, .unset, .unset, .unset] [(.int (lcmpW p0 gn))])) (fun t kt => ?_) ?_
    ·refine XS.ifNo X18.here hx rfl (hb hby at_173) rfl ((if0 _ _).trans (feq c173_32).1) ?_
     show Steps _ _ _ (T18.setTop (mkF m 176 #[(sI fl), (sJ p0), .second, (sJ p1), .second, (sJ p2), .second, (sR v1_s0), (sI u5), (sI u6), (sR b7), .val (vo o0), .val (vo o1), .val (vo o2), (sI rm), (sJ gn), .second, .unset, .unset, .unset, .unset, .unset, .unset, .unset] [])) _
     refine XS.lloadN X18.here hx rfl (hb hby at_176) rfl ?_
     show Steps _ _ _ (T18.setTop (mkF m 177 #[(sI fl), (sJ p0), .second, (sJ p1), .second, (sJ p2), .second, (sR v1_s0), (sI u5), (sI u6), (sR b7), .val (vo o0), .val (vo o1), .val (vo o2), (sI rm), (sJ gn), .second, .unset, .unset, .unset, .unset, .unset, .unset, .unset] [(.long p0)])) _
     refine XS.lload X18.here hx rfl (hb hby at_177) rfl ?_
     show Steps _ _ _ (T18.setTop (mkF m 179 #[(sI fl), (sJ p0), .second, (sJ p1), .second, (sJ p2), .second, (sR v1_s0), (sI u5), (sI u6), (sR b7), .val (vo o0), .val (vo o1), .val (vo o2), (sI rm), (sJ gn), .second, .unset, .unset, .unset, .unset, .unset, .unset, .unset] [(.long gn), (.long p0)])) _
     refine XS.lcmp X18.here hx rfl (hb hby at_179) rfl ?_
     exact kt
    by_cases c180_33 : p0 = gn
    ·refine gu (T18.setTop (mkF m 188 #[(sI fl), (sJ p0), .second, (sJ p1), .second, (sJ p2), .second, (sR v1_s0), (sI u5), (sI u6), (sR b7), .val (vo o0), .val (vo o1), .val (vo o2), (sI rm), (sJ gn), .second, .unset, .unset, .unset, .unset, .unset, .unset, .unset] [(.int (0 : Int32))])) (fun t kt => ?_) ?_
     ·refine XS.ifYes X18.here hx rfl (pc0 := 180) (pc' := 187) rfl (hb hby at_180) rfl (jc_eq_t c180_33) (by decide) (by decide) ?_
      show Steps _ _ _ (T18.setTop (mkF m 187 #[(sI fl), (sJ p0), .second, (sJ p1), .second, (sJ p2), .second, (sR v1_s0), (sI u5), (sI u6), (sR b7), .val (vo o0), .val (vo o1), .val (vo o2), (sI rm), (sJ gn), .second, .unset, .unset, .unset, .unset, .unset, .unset, .unset] [])) _
      refine XS.iconst X18.here hx rfl (hb hby at_187) ?_
      exact kt
     exact J30 _ (0 : Int32) (((if_pos c168_31).trans (if_neg c173_32)).trans (if_pos c180_33)).symm X18 e18
    ·refine gu (T18.setTop (mkF m 188 #[(sI fl), (sJ p0), .second, (sJ p1), .second, (sJ p2), .second, (sR v1_s0), (sI u5), (sI u6), (sR b7), .val (vo o0), .val (vo o1), .val (vo o2), (sI rm), (sJ gn), .second, .unset, .unset, .unset, .unset, .unset, .unset, .unset] [(.int (1 : Int32))])) (fun t kt => ?_) ?_
     ·refine XS.ifNo X18.here hx rfl (hb hby at_180) rfl (jc_eq_f c180_33) ?_
      show Steps _ _ _ (T18.setTop (mkF m 183 #[(sI fl), (sJ p0), .second, (sJ p1), .second, (sJ p2), .second, (sR v1_s0), (sI u5), (sI u6), (sR b7), .val (vo o0), .val (vo o1), .val (vo o2), (sI rm), (sJ gn), .second, .unset, .unset, .unset, .unset, .unset, .unset, .unset] [])) _
      refine XS.iconst X18.here hx rfl (hb hby at_183) ?_
      show Steps _ _ _ (T18.setTop (mkF m 184 #[(sI fl), (sJ p0), .second, (sJ p1), .second, (sJ p2), .second, (sR v1_s0), (sI u5), (sI u6), (sR b7), .val (vo o0), .val (vo o1), .val (vo o2), (sI rm), (sJ gn), .second, .unset, .unset, .unset, .unset, .unset, .unset, .unset] [(.int (1 : Int32))])) _
      refine XS.goto X18.here hx rfl (pc0 := 184) (pc' := 188) rfl (hb hby at_184) (by decide) (by decide) ?_
      exact kt
     exact J30 _ (1 : Int32) (((if_pos c168_31).trans (if_neg c173_32)).trans (if_neg c180_33)).symm X18 e18
  ·refine gu (T18.setTop (mkF m 188 #[(sI fl), (sJ p0), .second, (sJ p1), .second, (sJ p2), .second, (sR v1_s0), (sI u5), (sI u6), (sR b7), .val (vo o0), .val (vo o1), .val (vo o2), (sI rm), (sJ gn), .second, .unset, .unset, .unset, .unset, .unset, .unset, .unset] [(.int (0 : Int32))])) (fun t kt => ?_) ?_
   ·refine XS.ifYes X18.here hx rfl (pc0 := 168) (pc' := 187) rfl (hb hby at_168) rfl ((if0 _ _).trans (flt c168_31).2.2.2) (by decide) (by decide) ?_
    show Steps _ _ _ (T18.setTop (mkF m 187 #[(sI fl), (sJ p0), .second, (sJ p1), .second, (sJ p2), .second, (sR v1_s0), (sI u5), (sI u6), (sR b7), .val (vo o0), .val (vo o1), .val (vo o2), (sI rm), (sJ gn), .second, .unset, .unset, .unset, .unset, .unset, .unset, .unset] [])) _
    refine XS.iconst X18.here hx rfl (hb hby at_187) ?_
    exact kt
   exact J30 _ (0 : Int32) (if_neg c168_31).symm X18 e18
 intro T30 v30_s0 hv30_s0 X30 e30
 have hv30_s0b : v30_s0 = 0 ∨ v30_s0 = 1 := by rw [hv30_s0]; exact (b01_ite (b01_ite (Or.inr rfl) (b01_ite (Or.inl rfl) (Or.inr rfl))) (Or.inl rfl))
 refine gu (T30.setTop (mkF m 193 #[(sI fl), (sJ p0), .second, (sJ p1), .second, (sJ p2), .second, (sR v1_s0), (sI u5), (sI u6), (sR b7), .val (vo o0), .val (vo o1), .val (vo o2), (sI rm), (sJ gn), .second, (sI v30_s0), .unset, .unset, .unset, .unset, .unset, .unset] [(.int (1 : Int32)), (.int u5)])) (fun t kt => ?_) ?_
 ·refine XS.istore X30.here hx rfl (hb hby at_188) rfl (l' := #[(sI fl), (sJ p0), .second, (sJ p1), .second, (sJ p2), .second, (sR v1_s0), (sI u5), (sI u6), (sR b7), .val (vo o0), .val (vo o1), .val (vo o2), (sI rm), (sJ gn), .second, (sI v30_s0), .unset, .unset, .unset, .unset, .unset, .unset]) rfl ?_
  show Steps _ _ _ (T30.setTop (mkF m 190 #[(sI fl), (sJ p0), .second, (sJ p1), .second, (sJ p2), .second, (sR v1_s0), (sI u5), (sI u6), (sR b7), .val (vo o0), .val (vo o1), .val (vo o2), (sI rm), (sJ gn), .second, (sI v30_s0), .unset, .unset, .unset, .unset, .unset, .unset] [])) _
  refine XS.iload X30.here hx rfl (hb hby at_190) rfl ?_
  show Steps _ _ _ (T30.setTop (mkF m 192 #[(sI fl), (sJ p0), .second, (sJ p1), .second, (sJ p2), .second, (sR v1_s0), (sI u5), (sI u6), (sR b7), .val (vo o0), .val (vo o1), .val (vo o2), (sI rm), (sJ gn), .second, (sI v30_s0), .unset, .unset, .unset, .unset, .unset, .unset] [(.int u5)])) _
  refine XS.iconst X30.here hx rfl (hb hby at_192) ?_
  exact kt
 suffices J34 : ∀ (T34 : State) (v34_s0 : Int32), v34_s0 = (if (1 : Int32) < u5 then (if rm = (0 : Int32) then (1 : Int32) else (if p1 = gn then (0 : Int32) else (1 : Int32))) else (0 : Int32)) → Stand p l e room_1 s m args below meth c T34 lc18 12 554 → T34.heap = hh18 → Gl p e below (Ret s 12 554 (Q0 n0)) (T34.setTop (mkF m 213 #[(sI fl), (sJ p0), .second, (sJ p1), .second, (sJ p2), .second, (sR v1_s0), (sI u5), (sI u6), (sR b7), .val (vo o0), .val (vo o1), .val (vo o2), (sI rm), (sJ gn), .second, (sI v30_s0), .unset, .unset, .unset, .unset, .unset, .unset] [(.int v34_s0)])) by
  by_cases c193_35 : (1 : Int32) < u5
  ·refine gu (T30.setTop (mkF m 198 #[(sI fl), (sJ p0), .second, (sJ p1), .second, (sJ p2), .second, (sR v1_s0), (sI u5), (sI u6), (sR b7), .val (vo o0), .val (vo o1), .val (vo o2), (sI rm), (sJ gn), .second, (sI v30_s0), .unset, .unset, .unset, .unset, .unset, .unset] [(.int rm)])) (fun t kt => ?_) ?_
   ·refine XS.icmpNo X30.here hx rfl (hb hby at_193) rfl (tlt c193_35).2.2.2 ?_
    show Steps _ _ _ (T30.setTop (mkF m 196 #[(sI fl), (sJ p0), .second, (sJ p1), .second, (sJ p2), .second, (sR v1_s0), (sI u5), (sI u6), (sR b7), .val (vo o0), .val (vo o1), .val (vo o2), (sI rm), (sJ gn), .second, (sI v30_s0), .unset, .unset, .unset, .unset, .unset, .unset] [])) _
    refine XS.iload X30.here hx rfl (hb hby at_196) rfl ?_
    exact kt
   by_cases c198_36 : rm = (0 : Int32)
   ·refine gu (T30.setTop (mkF m 213 #[(sI fl), (sJ p0), .second, (sJ p1), .second, (sJ p2), .second, (sR v1_s0), (sI u5), (sI u6), (sR b7), .val (vo o0), .val (vo o1), .val (vo o2), (sI rm), (sJ gn), .second, (sI v30_s0), .unset, .unset, .unset, .unset, .unset, .unset] [(.int (1 : Int32))])) (fun t kt => ?_) ?_
    ·refine XS.ifYes X30.here hx rfl (pc0 := 198) (pc' := 208) rfl (hb hby at_198) rfl ((if0 _ _).trans (teq c198_36).1) (by decide) (by decide) ?_
     show Steps _ _ _ (T30.setTop (mkF m 208 #[(sI fl), (sJ p0), .second, (sJ p1), .second, (sJ p2), .second, (sR v1_s0), (sI u5), (sI u6), (sR b7), .val (vo o0), .val (vo o1), .val (vo o2), (sI rm), (sJ gn), .second, (sI v30_s0), .unset, .unset, .unset, .unset, .unset, .unset] [])) _
     refine XS.iconst X30.here hx rfl (hb hby at_208) ?_
     show Steps _ _ _ (T30.setTop (mkF m 209 #[(sI fl), (sJ p0), .second, (sJ p1), .second, (sJ p2), .second, (sR v1_s0), (sI u5), (sI u6), (sR b7), .val (vo o0), .val (vo o1), .val (vo o2), (sI rm), (sJ gn), .second, (sI v30_s0), .unset, .unset, .unset, .unset, .unset, .unset] [(.int (1 : Int32))])) _
     refine XS.goto X30.here hx rfl (pc0 := 209) (pc' := 213) rfl (hb hby at_209) (by decide) (by decide) ?_
     exact kt
    exact J34 _ (1 : Int32) ((if_pos c193_35).trans (if_pos c198_36)).symm X30 e30
   ·refine gu (T30.setTop (mkF m 205 #[(sI fl), (sJ p0), .second, (sJ p1), .second, (sJ p2), .second, (sR v1_s0), (sI u5), (sI u6), (sR b7), .val (vo o0), .val (vo o1), .val (vo o2), (sI rm), (sJ gn), .second, (sI v30_s0), .unset, .unset, .unset, .unset, .unset, .unset] [(.int (lcmpW p1 gn))])) (fun t kt => ?_) ?_
    ·refine XS.ifNo X30.here hx rfl (hb hby at_198) rfl ((if0 _ _).trans (feq c198_36).1) ?_
     show Steps _ _ _ (T30.setTop (mkF m 201 #[(sI fl), (sJ p0), .second, (sJ p1), .second, (sJ p2), .second, (sR v1_s0), (sI u5), (sI u6), (sR b7), .val (vo o0), .val (vo o1), .val (vo o2), (sI rm), (sJ gn), .second, (sI v30_s0), .unset, .unset, .unset, .unset, .unset, .unset] [])) _
     refine XS.lloadN X30.here hx rfl (hb hby at_201) rfl ?_
     show Steps _ _ _ (T30.setTop (mkF m 202 #[(sI fl), (sJ p0), .second, (sJ p1), .second, (sJ p2), .second, (sR v1_s0), (sI u5), (sI u6), (sR b7), .val (vo o0), .val (vo o1), .val (vo o2), (sI rm), (sJ gn), .second, (sI v30_s0), .unset, .unset, .unset, .unset, .unset, .unset] [(.long p1)])) _
     refine XS.lload X30.here hx rfl (hb hby at_202) rfl ?_
     show Steps _ _ _ (T30.setTop (mkF m 204 #[(sI fl), (sJ p0), .second, (sJ p1), .second, (sJ p2), .second, (sR v1_s0), (sI u5), (sI u6), (sR b7), .val (vo o0), .val (vo o1), .val (vo o2), (sI rm), (sJ gn), .second, (sI v30_s0), .unset, .unset, .unset, .unset, .unset, .unset] [(.long gn), (.long p1)])) _
     refine XS.lcmp X30.here hx rfl (hb hby at_204) rfl ?_
     exact kt
    by_cases c205_37 : p1 = gn
    ·refine gu (T30.setTop (mkF m 213 #[(sI fl), (sJ p0), .second, (sJ p1), .second, (sJ p2), .second, (sR v1_s0), (sI u5), (sI u6), (sR b7), .val (vo o0), .val (vo o1), .val (vo o2), (sI rm), (sJ gn), .second, (sI v30_s0), .unset, .unset, .unset, .unset, .unset, .unset] [(.int (0 : Int32))])) (fun t kt => ?_) ?_
     ·refine XS.ifYes X30.here hx rfl (pc0 := 205) (pc' := 212) rfl (hb hby at_205) rfl (jc_eq_t c205_37) (by decide) (by decide) ?_
      show Steps _ _ _ (T30.setTop (mkF m 212 #[(sI fl), (sJ p0), .second, (sJ p1), .second, (sJ p2), .second, (sR v1_s0), (sI u5), (sI u6), (sR b7), .val (vo o0), .val (vo o1), .val (vo o2), (sI rm), (sJ gn), .second, (sI v30_s0), .unset, .unset, .unset, .unset, .unset, .unset] [])) _
      refine XS.iconst X30.here hx rfl (hb hby at_212) ?_
      exact kt
     exact J34 _ (0 : Int32) (((if_pos c193_35).trans (if_neg c198_36)).trans (if_pos c205_37)).symm X30 e30
    ·refine gu (T30.setTop (mkF m 213 #[(sI fl), (sJ p0), .second, (sJ p1), .second, (sJ p2), .second, (sR v1_s0), (sI u5), (sI u6), (sR b7), .val (vo o0), .val (vo o1), .val (vo o2), (sI rm), (sJ gn), .second, (sI v30_s0), .unset, .unset, .unset, .unset, .unset, .unset] [(.int (1 : Int32))])) (fun t kt => ?_) ?_
     ·refine XS.ifNo X30.here hx rfl (hb hby at_205) rfl (jc_eq_f c205_37) ?_
      show Steps _ _ _ (T30.setTop (mkF m 208 #[(sI fl), (sJ p0), .second, (sJ p1), .second, (sJ p2), .second, (sR v1_s0), (sI u5), (sI u6), (sR b7), .val (vo o0), .val (vo o1), .val (vo o2), (sI rm), (sJ gn), .second, (sI v30_s0), .unset, .unset, .unset, .unset, .unset, .unset] [])) _
      refine XS.iconst X30.here hx rfl (hb hby at_208) ?_
      show Steps _ _ _ (T30.setTop (mkF m 209 #[(sI fl), (sJ p0), .second, (sJ p1), .second, (sJ p2), .second, (sR v1_s0), (sI u5), (sI u6), (sR b7), .val (vo o0), .val (vo o1), .val (vo o2), (sI rm), (sJ gn), .second, (sI v30_s0), .unset, .unset, .unset, .unset, .unset, .unset] [(.int (1 : Int32))])) _
      refine XS.goto X30.here hx rfl (pc0 := 209) (pc' := 213) rfl (hb hby at_209) (by decide) (by decide) ?_
      exact kt
     exact J34 _ (1 : Int32) (((if_pos c193_35).trans (if_neg c198_36)).trans (if_neg c205_37)).symm X30 e30
  ·refine gu (T30.setTop (mkF m 213 #[(sI fl), (sJ p0), .second, (sJ p1), .second, (sJ p2), .second, (sR v1_s0), (sI u5), (sI u6), (sR b7), .val (vo o0), .val (vo o1), .val (vo o2), (sI rm), (sJ gn), .second, (sI v30_s0), .unset, .unset, .unset, .unset, .unset, .unset] [(.int (0 : Int32))])) (fun t kt => ?_) ?_
   ·refine XS.icmpYes X30.here hx rfl (pc0 := 193) (pc' := 212) rfl (hb hby at_193) rfl (flt c193_35).2.2.2 (by decide) (by decide) ?_
    show Steps _ _ _ (T30.setTop (mkF m 212 #[(sI fl), (sJ p0), .second, (sJ p1), .second, (sJ p2), .second, (sR v1_s0), (sI u5), (sI u6), (sR b7), .val (vo o0), .val (vo o1), .val (vo o2), (sI rm), (sJ gn), .second, (sI v30_s0), .unset, .unset, .unset, .unset, .unset, .unset] [])) _
    refine XS.iconst X30.here hx rfl (hb hby at_212) ?_
    exact kt
   exact J34 _ (0 : Int32) (if_neg c193_35).symm X30 e30
 intro T34 v34_s0 hv34_s0 X34 e34
 have hv34_s0b : v34_s0 = 0 ∨ v34_s0 = 1 := by rw [hv34_s0]; exact (b01_ite (b01_ite (Or.inr rfl) (b01_ite (Or.inl rfl) (Or.inr rfl))) (Or.inl rfl))
 refine gu (T34.setTop (mkF m 218 #[(sI fl), (sJ p0), .second, (sJ p1), .second, (sJ p2), .second, (sR v1_s0), (sI u5), (sI u6), (sR b7), .val (vo o0), .val (vo o1), .val (vo o2), (sI rm), (sJ gn), .second, (sI v30_s0), (sI v34_s0), .unset, .unset, .unset, .unset, .unset] [(.int (2 : Int32)), (.int u5)])) (fun t kt => ?_) ?_
 ·refine XS.istore X34.here hx rfl (hb hby at_213) rfl (l' := #[(sI fl), (sJ p0), .second, (sJ p1), .second, (sJ p2), .second, (sR v1_s0), (sI u5), (sI u6), (sR b7), .val (vo o0), .val (vo o1), .val (vo o2), (sI rm), (sJ gn), .second, (sI v30_s0), (sI v34_s0), .unset, .unset, .unset, .unset, .unset]) rfl ?_
  show Steps _ _ _ (T34.setTop (mkF m 215 #[(sI fl), (sJ p0), .second, (sJ p1), .second, (sJ p2), .second, (sR v1_s0), (sI u5), (sI u6), (sR b7), .val (vo o0), .val (vo o1), .val (vo o2), (sI rm), (sJ gn), .second, (sI v30_s0), (sI v34_s0), .unset, .unset, .unset, .unset, .unset] [])) _
  refine XS.iload X34.here hx rfl (hb hby at_215) rfl ?_
  show Steps _ _ _ (T34.setTop (mkF m 217 #[(sI fl), (sJ p0), .second, (sJ p1), .second, (sJ p2), .second, (sR v1_s0), (sI u5), (sI u6), (sR b7), .val (vo o0), .val (vo o1), .val (vo o2), (sI rm), (sJ gn), .second, (sI v30_s0), (sI v34_s0), .unset, .unset, .unset, .unset, .unset] [(.int u5)])) _
  refine XS.iconst X34.here hx rfl (hb hby at_217) ?_
  exact kt
 suffices J38 : ∀ (T38 : State) (v38_s0 : Int32), v38_s0 = (if (2 : Int32) < u5 then (if rm = (0 : Int32) then (1 : Int32) else (if p2 = gn then (0 : Int32) else (1 : Int32))) else (0 : Int32)) → Stand p l e room_1 s m args below meth c T38 lc18 12 554 → T38.heap = hh18 → Gl p e below (Ret s 12 554 (Q0 n0)) (T38.setTop (mkF m 239 #[(sI fl), (sJ p0), .second, (sJ p1), .second, (sJ p2), .second, (sR v1_s0), (sI u5), (sI u6), (sR b7), .val (vo o0), .val (vo o1), .val (vo o2), (sI rm), (sJ gn), .second, (sI v30_s0), (sI v34_s0), .unset, .unset, .unset, .unset, .unset] [(.int v38_s0)])) by
  by_cases c218_39 : (2 : Int32) < u5
  ·refine gu (T34.setTop (mkF m 223 #[(sI fl), (sJ p0), .second, (sJ p1), .second, (sJ p2), .second, (sR v1_s0), (sI u5), (sI u6), (sR b7), .val (vo o0), .val (vo o1), .val (vo o2), (sI rm), (sJ gn), .second, (sI v30_s0), (sI v34_s0), .unset, .unset, .unset, .unset, .unset] [(.int rm)])) (fun t kt => ?_) ?_
   ·refine XS.icmpNo X34.here hx rfl (hb hby at_218) rfl (tlt c218_39).2.2.2 ?_
    show Steps _ _ _ (T34.setTop (mkF m 221 #[(sI fl), (sJ p0), .second, (sJ p1), .second, (sJ p2), .second, (sR v1_s0), (sI u5), (sI u6), (sR b7), .val (vo o0), .val (vo o1), .val (vo o2), (sI rm), (sJ gn), .second, (sI v30_s0), (sI v34_s0), .unset, .unset, .unset, .unset, .unset] [])) _
    refine XS.iload X34.here hx rfl (hb hby at_221) rfl ?_
    exact kt
   by_cases c223_40 : rm = (0 : Int32)
   ·refine gu (T34.setTop (mkF m 239 #[(sI fl), (sJ p0), .second, (sJ p1), .second, (sJ p2), .second, (sR v1_s0), (sI u5), (sI u6), (sR b7), .val (vo o0), .val (vo o1), .val (vo o2), (sI rm), (sJ gn), .second, (sI v30_s0), (sI v34_s0), .unset, .unset, .unset, .unset, .unset] [(.int (1 : Int32))])) (fun t kt => ?_) ?_
    ·refine XS.ifYes X34.here hx rfl (pc0 := 223) (pc' := 234) rfl (hb hby at_223) rfl ((if0 _ _).trans (teq c223_40).1) (by decide) (by decide) ?_
     show Steps _ _ _ (T34.setTop (mkF m 234 #[(sI fl), (sJ p0), .second, (sJ p1), .second, (sJ p2), .second, (sR v1_s0), (sI u5), (sI u6), (sR b7), .val (vo o0), .val (vo o1), .val (vo o2), (sI rm), (sJ gn), .second, (sI v30_s0), (sI v34_s0), .unset, .unset, .unset, .unset, .unset] [])) _
     refine XS.iconst X34.here hx rfl (hb hby at_234) ?_
     show Steps _ _ _ (T34.setTop (mkF m 235 #[(sI fl), (sJ p0), .second, (sJ p1), .second, (sJ p2), .second, (sR v1_s0), (sI u5), (sI u6), (sR b7), .val (vo o0), .val (vo o1), .val (vo o2), (sI rm), (sJ gn), .second, (sI v30_s0), (sI v34_s0), .unset, .unset, .unset, .unset, .unset] [(.int (1 : Int32))])) _
     refine XS.goto X34.here hx rfl (pc0 := 235) (pc' := 239) rfl (hb hby at_235) (by decide) (by decide) ?_
     exact kt
    exact J38 _ (1 : Int32) ((if_pos c218_39).trans (if_pos c223_40)).symm X34 e34
   ·refine gu (T34.setTop (mkF m 231 #[(sI fl), (sJ p0), .second, (sJ p1), .second, (sJ p2), .second, (sR v1_s0), (sI u5), (sI u6), (sR b7), .val (vo o0), .val (vo o1), .val (vo o2), (sI rm), (sJ gn), .second, (sI v30_s0), (sI v34_s0), .unset, .unset, .unset, .unset, .unset] [(.int (lcmpW p2 gn))])) (fun t kt => ?_) ?_
    ·refine XS.ifNo X34.here hx rfl (hb hby at_223) rfl ((if0 _ _).trans (feq c223_40).1) ?_
     show Steps _ _ _ (T34.setTop (mkF m 226 #[(sI fl), (sJ p0), .second, (sJ p1), .second, (sJ p2), .second, (sR v1_s0), (sI u5), (sI u6), (sR b7), .val (vo o0), .val (vo o1), .val (vo o2), (sI rm), (sJ gn), .second, (sI v30_s0), (sI v34_s0), .unset, .unset, .unset, .unset, .unset] [])) _
     refine XS.lload X34.here hx rfl (hb hby at_226) rfl ?_
     show Steps _ _ _ (T34.setTop (mkF m 228 #[(sI fl), (sJ p0), .second, (sJ p1), .second, (sJ p2), .second, (sR v1_s0), (sI u5), (sI u6), (sR b7), .val (vo o0), .val (vo o1), .val (vo o2), (sI rm), (sJ gn), .second, (sI v30_s0), (sI v34_s0), .unset, .unset, .unset, .unset, .unset] [(.long p2)])) _
     refine XS.lload X34.here hx rfl (hb hby at_228) rfl ?_
     show Steps _ _ _ (T34.setTop (mkF m 230 #[(sI fl), (sJ p0), .second, (sJ p1), .second, (sJ p2), .second, (sR v1_s0), (sI u5), (sI u6), (sR b7), .val (vo o0), .val (vo o1), .val (vo o2), (sI rm), (sJ gn), .second, (sI v30_s0), (sI v34_s0), .unset, .unset, .unset, .unset, .unset] [(.long gn), (.long p2)])) _
     refine XS.lcmp X34.here hx rfl (hb hby at_230) rfl ?_
     exact kt
    by_cases c231_41 : p2 = gn
    ·refine gu (T34.setTop (mkF m 239 #[(sI fl), (sJ p0), .second, (sJ p1), .second, (sJ p2), .second, (sR v1_s0), (sI u5), (sI u6), (sR b7), .val (vo o0), .val (vo o1), .val (vo o2), (sI rm), (sJ gn), .second, (sI v30_s0), (sI v34_s0), .unset, .unset, .unset, .unset, .unset] [(.int (0 : Int32))])) (fun t kt => ?_) ?_
     ·refine XS.ifYes X34.here hx rfl (pc0 := 231) (pc' := 238) rfl (hb hby at_231) rfl (jc_eq_t c231_41) (by decide) (by decide) ?_
      show Steps _ _ _ (T34.setTop (mkF m 238 #[(sI fl), (sJ p0), .second, (sJ p1), .second, (sJ p2), .second, (sR v1_s0), (sI u5), (sI u6), (sR b7), .val (vo o0), .val (vo o1), .val (vo o2), (sI rm), (sJ gn), .second, (sI v30_s0), (sI v34_s0), .unset, .unset, .unset, .unset, .unset] [])) _
      refine XS.iconst X34.here hx rfl (hb hby at_238) ?_
      exact kt
     exact J38 _ (0 : Int32) (((if_pos c218_39).trans (if_neg c223_40)).trans (if_pos c231_41)).symm X34 e34
    ·refine gu (T34.setTop (mkF m 239 #[(sI fl), (sJ p0), .second, (sJ p1), .second, (sJ p2), .second, (sR v1_s0), (sI u5), (sI u6), (sR b7), .val (vo o0), .val (vo o1), .val (vo o2), (sI rm), (sJ gn), .second, (sI v30_s0), (sI v34_s0), .unset, .unset, .unset, .unset, .unset] [(.int (1 : Int32))])) (fun t kt => ?_) ?_
     ·refine XS.ifNo X34.here hx rfl (hb hby at_231) rfl (jc_eq_f c231_41) ?_
      show Steps _ _ _ (T34.setTop (mkF m 234 #[(sI fl), (sJ p0), .second, (sJ p1), .second, (sJ p2), .second, (sR v1_s0), (sI u5), (sI u6), (sR b7), .val (vo o0), .val (vo o1), .val (vo o2), (sI rm), (sJ gn), .second, (sI v30_s0), (sI v34_s0), .unset, .unset, .unset, .unset, .unset] [])) _
      refine XS.iconst X34.here hx rfl (hb hby at_234) ?_
      show Steps _ _ _ (T34.setTop (mkF m 235 #[(sI fl), (sJ p0), .second, (sJ p1), .second, (sJ p2), .second, (sR v1_s0), (sI u5), (sI u6), (sR b7), .val (vo o0), .val (vo o1), .val (vo o2), (sI rm), (sJ gn), .second, (sI v30_s0), (sI v34_s0), .unset, .unset, .unset, .unset, .unset] [(.int (1 : Int32))])) _
      refine XS.goto X34.here hx rfl (pc0 := 235) (pc' := 239) rfl (hb hby at_235) (by decide) (by decide) ?_
      exact kt
     exact J38 _ (1 : Int32) (((if_pos c218_39).trans (if_neg c223_40)).trans (if_neg c231_41)).symm X34 e34
  ·refine gu (T34.setTop (mkF m 239 #[(sI fl), (sJ p0), .second, (sJ p1), .second, (sJ p2), .second, (sR v1_s0), (sI u5), (sI u6), (sR b7), .val (vo o0), .val (vo o1), .val (vo o2), (sI rm), (sJ gn), .second, (sI v30_s0), (sI v34_s0), .unset, .unset, .unset, .unset, .unset] [(.int (0 : Int32))])) (fun t kt => ?_) ?_
   ·refine XS.icmpYes X34.here hx rfl (pc0 := 218) (pc' := 238) rfl (hb hby at_218) rfl (flt c218_39).2.2.2 (by decide) (by decide) ?_
    show Steps _ _ _ (T34.setTop (mkF m 238 #[(sI fl), (sJ p0), .second, (sJ p1), .second, (sJ p2), .second, (sR v1_s0), (sI u5), (sI u6), (sR b7), .val (vo o0), .val (vo o1), .val (vo o2), (sI rm), (sJ gn), .second, (sI v30_s0), (sI v34_s0), .unset, .unset, .unset, .unset, .unset] [])) _
    refine XS.iconst X34.here hx rfl (hb hby at_238) ?_
    exact kt
   exact J38 _ (0 : Int32) (if_neg c218_39).symm X34 e34
 intro T38 v38_s0 hv38_s0 X38 e38
 have hv38_s0b : v38_s0 = 0 ∨ v38_s0 = 1 := by rw [hv38_s0]; exact (b01_ite (b01_ite (Or.inr rfl) (b01_ite (Or.inl rfl) (Or.inr rfl))) (Or.inl rfl))
 refine gu (T38.setTop (mkF m 247 #[(sI fl), (sJ p0), .second, (sJ p1), .second, (sJ p2), .second, (sR v1_s0), (sI u5), (sI u6), (sR b7), .val (vo o0), .val (vo o1), .val (vo o2), (sI rm), (sJ gn), .second, (sI v30_s0), (sI v34_s0), (sI v38_s0), .val .null, (sJ (0 : Int64)), .second, .unset] [])) (fun t kt => ?_) ?_
 ·refine XS.istore X38.here hx rfl (hb hby at_239) rfl (l' := #[(sI fl), (sJ p0), .second, (sJ p1), .second, (sJ p2), .second, (sR v1_s0), (sI u5), (sI u6), (sR b7), .val (vo o0), .val (vo o1), .val (vo o2), (sI rm), (sJ gn), .second, (sI v30_s0), (sI v34_s0), (sI v38_s0), .unset, .unset, .unset, .unset]) rfl ?_
  show Steps _ _ _ (T38.setTop (mkF m 241 #[(sI fl), (sJ p0), .second, (sJ p1), .second, (sJ p2), .second, (sR v1_s0), (sI u5), (sI u6), (sR b7), .val (vo o0), .val (vo o1), .val (vo o2), (sI rm), (sJ gn), .second, (sI v30_s0), (sI v34_s0), (sI v38_s0), .unset, .unset, .unset, .unset] [])) _
  refine XS.aconstNull X38.here hx rfl (hb hby at_241) ?_
  show Steps _ _ _ (T38.setTop (mkF m 242 #[(sI fl), (sJ p0), .second, (sJ p1), .second, (sJ p2), .second, (sR v1_s0), (sI u5), (sI u6), (sR b7), .val (vo o0), .val (vo o1), .val (vo o2), (sI rm), (sJ gn), .second, (sI v30_s0), (sI v34_s0), (sI v38_s0), .unset, .unset, .unset, .unset] [.null])) _
  refine XS.astore X38.here hx rfl (hb hby at_242) rfl rfl (l' := #[(sI fl), (sJ p0), .second, (sJ p1), .second, (sJ p2), .second, (sR v1_s0), (sI u5), (sI u6), (sR b7), .val (vo o0), .val (vo o1), .val (vo o2), (sI rm), (sJ gn), .second, (sI v30_s0), (sI v34_s0), (sI v38_s0), .val .null, .unset, .unset, .unset]) rfl ?_
  show Steps _ _ _ (T38.setTop (mkF m 244 #[(sI fl), (sJ p0), .second, (sJ p1), .second, (sJ p2), .second, (sR v1_s0), (sI u5), (sI u6), (sR b7), .val (vo o0), .val (vo o1), .val (vo o2), (sI rm), (sJ gn), .second, (sI v30_s0), (sI v34_s0), (sI v38_s0), .val .null, .unset, .unset, .unset] [])) _
  refine XS.lconst X38.here hx rfl (hb hby at_244) ?_
  show Steps _ _ _ (T38.setTop (mkF m 245 #[(sI fl), (sJ p0), .second, (sJ p1), .second, (sJ p2), .second, (sR v1_s0), (sI u5), (sI u6), (sR b7), .val (vo o0), .val (vo o1), .val (vo o2), (sI rm), (sJ gn), .second, (sI v30_s0), (sI v34_s0), (sI v38_s0), .val .null, .unset, .unset, .unset] [(.long (0 : Int64))])) _
  refine XS.lstore X38.here hx rfl (hb hby at_245) rfl (l' := #[(sI fl), (sJ p0), .second, (sJ p1), .second, (sJ p2), .second, (sR v1_s0), (sI u5), (sI u6), (sR b7), .val (vo o0), .val (vo o1), .val (vo o2), (sI rm), (sJ gn), .second, (sI v30_s0), (sI v34_s0), (sI v38_s0), .val .null, (sJ (0 : Int64)), .second, .unset]) rfl ?_
  exact kt
 have hi0 := own_i3 hv30_s0
 have hi1 := own_i3 hv34_s0
 have hi2 := own_i3 hv38_s0
 suffices J42 : ∀ (T42 : State) (w0 : Option Addr) (wp0 : Int64), Stand p l e room_1 s m args below meth c T42 lc18 12 554 → T42.heap = hh18 → IV bl18 v1_s0 wB w0 wp0 [(v30_s0, p0)] → Gl p e below (Ret s 12 554 (Q0 n0)) (T42.setTop (mkF m 259 #[(sI fl), (sJ p0), .second, (sJ p1), .second, (sJ p2), .second, (sR v1_s0), (sI u5), (sI u6), (sR b7), .val (vo o0), .val (vo o1), .val (vo o2), (sI rm), (sJ gn), .second, (sI v30_s0), (sI v34_s0), (sI v38_s0), .val (vo w0), (sJ wp0), .second, .unset] [])) by
  have hi0 := own_i3 hv30_s0
  have hi1 := own_i3 hv34_s0
  have hi2 := own_i3 hv38_s0
  refine gu (T38.setTop (mkF m 249 #[(sI fl), (sJ p0), .second, (sJ p1), .second, (sJ p2), .second, (sR v1_s0), (sI u5), (sI u6), (sR b7), .val (vo o0), .val (vo o1), .val (vo o2), (sI rm), (sJ gn), .second, (sI v30_s0), (sI v34_s0), (sI v38_s0), .val .null, (sJ (0 : Int64)), .second, .unset] [(.int v30_s0)])) (fun t kt => ?_) ?_
  ·refine XS.iload X38.here hx rfl (hb hby at_247) rfl ?_
   exact kt
  by_cases c249_43 : v30_s0 = (0 : Int32)
  ·refine gu (T38.setTop (mkF m 259 #[(sI fl), (sJ p0), .second, (sJ p1), .second, (sJ p2), .second, (sR v1_s0), (sI u5), (sI u6), (sR b7), .val (vo o0), .val (vo o1), .val (vo o2), (sI rm), (sJ gn), .second, (sI v30_s0), (sI v34_s0), (sI v38_s0), .val .null, (sJ (0 : Int64)), .second, .unset] [])) (fun t kt => ?_) ?_
   ·refine XS.ifYes X38.here hx rfl (pc0 := 249) (pc' := 259) rfl (hb hby at_249) rfl ((if0 _ _).trans (teq c249_43).1) (by decide) (by decide) ?_
    exact kt
   exact J42 _ none _ X38 e38 (iv_skip c249_43 iv0)
  ·refine gu (T38.setTop (mkF m 252 #[(sI fl), (sJ p0), .second, (sJ p1), .second, (sJ p2), .second, (sR v1_s0), (sI u5), (sI u6), (sR b7), .val (vo o0), .val (vo o1), .val (vo o2), (sI rm), (sJ gn), .second, (sI v30_s0), (sI v34_s0), (sI v38_s0), .val .null, (sJ (0 : Int64)), .second, .unset] [])) (fun t kt => ?_) ?_
   ·refine XS.ifNo X38.here hx rfl (hb hby at_249) rfl ((if0 _ _).trans (feq c249_43).1) ?_
    exact kt
   obtain ⟨ya44, hy44⟩ := own_some hs0 (hi0.mp c249_43).1
   subst hy44
   show Gl p e below (Ret s 12 554 (Q0 n0)) (T38.setTop (mkF m 252 #[(sI fl), (sJ p0), .second, (sJ p1), .second, (sJ p2), .second, (sR v1_s0), (sI u5), (sI u6), (sR b7), (sR ya44), .val (vo o1), .val (vo o2), (sI rm), (sJ gn), .second, (sI v30_s0), (sI v34_s0), (sI v38_s0), .val .null, (sJ (0 : Int64)), .second, .unset] []))
   refine gu (T38.setTop (mkF m 259 #[(sI fl), (sJ p0), .second, (sJ p1), .second, (sJ p2), .second, (sR v1_s0), (sI u5), (sI u6), (sR b7), (sR ya44), .val (vo o1), .val (vo o2), (sI rm), (sJ gn), .second, (sI v30_s0), (sI v34_s0), (sI v38_s0), (sR ya44), (sJ p0), .second, .unset] [])) (fun t kt => ?_) ?_
   ·refine XS.aload X38.here hx rfl (hb hby at_252) rfl rfl ?_
    show Steps _ _ _ (T38.setTop (mkF m 254 #[(sI fl), (sJ p0), .second, (sJ p1), .second, (sJ p2), .second, (sR v1_s0), (sI u5), (sI u6), (sR b7), (sR ya44), .val (vo o1), .val (vo o2), (sI rm), (sJ gn), .second, (sI v30_s0), (sI v34_s0), (sI v38_s0), .val .null, (sJ (0 : Int64)), .second, .unset] [(.ref ya44)])) _
    refine XS.astore X38.here hx rfl (hb hby at_254) rfl rfl (l' := #[(sI fl), (sJ p0), .second, (sJ p1), .second, (sJ p2), .second, (sR v1_s0), (sI u5), (sI u6), (sR b7), (sR ya44), .val (vo o1), .val (vo o2), (sI rm), (sJ gn), .second, (sI v30_s0), (sI v34_s0), (sI v38_s0), (sR ya44), (sJ (0 : Int64)), .second, .unset]) rfl ?_
    show Steps _ _ _ (T38.setTop (mkF m 256 #[(sI fl), (sJ p0), .second, (sJ p1), .second, (sJ p2), .second, (sR v1_s0), (sI u5), (sI u6), (sR b7), (sR ya44), .val (vo o1), .val (vo o2), (sI rm), (sJ gn), .second, (sI v30_s0), (sI v34_s0), (sI v38_s0), (sR ya44), (sJ (0 : Int64)), .second, .unset] [])) _
    refine XS.lloadN X38.here hx rfl (hb hby at_256) rfl ?_
    show Steps _ _ _ (T38.setTop (mkF m 257 #[(sI fl), (sJ p0), .second, (sJ p1), .second, (sJ p2), .second, (sR v1_s0), (sI u5), (sI u6), (sR b7), (sR ya44), .val (vo o1), .val (vo o2), (sI rm), (sJ gn), .second, (sI v30_s0), (sI v34_s0), (sI v38_s0), (sR ya44), (sJ (0 : Int64)), .second, .unset] [(.long p0)])) _
    refine XS.lstore X38.here hx rfl (hb hby at_257) rfl (l' := #[(sI fl), (sJ p0), .second, (sJ p1), .second, (sJ p2), .second, (sR v1_s0), (sI u5), (sI u6), (sR b7), (sR ya44), .val (vo o1), .val (vo o2), (sI rm), (sJ gn), .second, (sI v30_s0), (sI v34_s0), (sI v38_s0), (sR ya44), (sJ p0), .second, .unset]) rfl ?_
    exact kt
   exact J42 _ (some ya44) _ X38 e38 (iv_first (wp := 0) ((HM18 _).mpr ⟨(Or.inl (Or.inl (Or.inr ⟨rfl, rfl⟩))), (hi0.mp c249_43).2⟩) iv0)
 intro T42 w0 wp0 X42 e42 iv1
 suffices J45 : ∀ (T45 : State) (w1 : Option Addr) (wp1 : Int64), Stand p l e room_1 s m args below meth c T45 lc18 12 554 → T45.heap = hh18 → IV bl18 v1_s0 wB w1 wp1 [(v34_s0, p1), (v30_s0, p0)] → Gl p e below (Ret s 12 554 (Q0 n0)) (T45.setTop (mkF m 287 #[(sI fl), (sJ p0), .second, (sJ p1), .second, (sJ p2), .second, (sR v1_s0), (sI u5), (sI u6), (sR b7), .val (vo o0), .val (vo o1), .val (vo o2), (sI rm), (sJ gn), .second, (sI v30_s0), (sI v34_s0), (sI v38_s0), .val (vo w1), (sJ wp1), .second, .unset] [])) by
  refine gu (T42.setTop (mkF m 261 #[(sI fl), (sJ p0), .second, (sJ p1), .second, (sJ p2), .second, (sR v1_s0), (sI u5), (sI u6), (sR b7), .val (vo o0), .val (vo o1), .val (vo o2), (sI rm), (sJ gn), .second, (sI v30_s0), (sI v34_s0), (sI v38_s0), .val (vo w0), (sJ wp0), .second, .unset] [(.int v34_s0)])) (fun t kt => ?_) ?_
  ·refine XS.iload X42.here hx rfl (hb hby at_259) rfl ?_
   exact kt
  by_cases c261_46 : v34_s0 = (0 : Int32)
  ·refine gu (T42.setTop (mkF m 287 #[(sI fl), (sJ p0), .second, (sJ p1), .second, (sJ p2), .second, (sR v1_s0), (sI u5), (sI u6), (sR b7), .val (vo o0), .val (vo o1), .val (vo o2), (sI rm), (sJ gn), .second, (sI v30_s0), (sI v34_s0), (sI v38_s0), .val (vo w0), (sJ wp0), .second, .unset] [])) (fun t kt => ?_) ?_
   ·refine XS.ifYes X42.here hx rfl (pc0 := 261) (pc' := 287) rfl (hb hby at_261) rfl ((if0 _ _).trans (teq c261_46).1) (by decide) (by decide) ?_
    exact kt
   exact J45 _ w0 _ X42 e42 (iv_skip c261_46 iv1)
  ·refine gu (T42.setTop (mkF m 264 #[(sI fl), (sJ p0), .second, (sJ p1), .second, (sJ p2), .second, (sR v1_s0), (sI u5), (sI u6), (sR b7), .val (vo o0), .val (vo o1), .val (vo o2), (sI rm), (sJ gn), .second, (sI v30_s0), (sI v34_s0), (sI v38_s0), .val (vo w0), (sJ wp0), .second, .unset] [])) (fun t kt => ?_) ?_
   ·refine XS.ifNo X42.here hx rfl (hb hby at_261) rfl ((if0 _ _).trans (feq c261_46).1) ?_
    exact kt
   rcases w0 with _ | yw47
   ·show Gl p e below (Ret s 12 554 (Q0 n0)) (T42.setTop (mkF m 264 #[(sI fl), (sJ p0), .second, (sJ p1), .second, (sJ p2), .second, (sR v1_s0), (sI u5), (sI u6), (sR b7), .val (vo o0), .val (vo o1), .val (vo o2), (sI rm), (sJ gn), .second, (sI v30_s0), (sI v34_s0), (sI v38_s0), .val .null, (sJ wp0), .second, .unset] []))
    refine gu (T42.setTop (mkF m 280 #[(sI fl), (sJ p0), .second, (sJ p1), .second, (sJ p2), .second, (sR v1_s0), (sI u5), (sI u6), (sR b7), .val (vo o0), .val (vo o1), .val (vo o2), (sI rm), (sJ gn), .second, (sI v30_s0), (sI v34_s0), (sI v38_s0), .val .null, (sJ wp0), .second, .unset] [])) (fun t kt => ?_) ?_
    ·refine XS.aload X42.here hx rfl (hb hby at_264) rfl rfl ?_
     show Steps _ _ _ (T42.setTop (mkF m 266 #[(sI fl), (sJ p0), .second, (sJ p1), .second, (sJ p2), .second, (sR v1_s0), (sI u5), (sI u6), (sR b7), .val (vo o0), .val (vo o1), .val (vo o2), (sI rm), (sJ gn), .second, (sI v30_s0), (sI v34_s0), (sI v38_s0), .val .null, (sJ wp0), .second, .unset] [.null])) _
     refine XS.ifnullYes X42.here hx rfl (pc0 := 266) (pc' := 280) rfl (hb hby at_266) rfl (by decide) (by decide) ?_
     exact kt
    obtain ⟨ya48, hy48⟩ := own_some hs1 (hi1.mp c261_46).1
    subst hy48
    show Gl p e below (Ret s 12 554 (Q0 n0)) (T42.setTop (mkF m 280 #[(sI fl), (sJ p0), .second, (sJ p1), .second, (sJ p2), .second, (sR v1_s0), (sI u5), (sI u6), (sR b7), .val (vo o0), (sR ya48), .val (vo o2), (sI rm), (sJ gn), .second, (sI v30_s0), (sI v34_s0), (sI v38_s0), .val .null, (sJ wp0), .second, .unset] []))
    refine gu (T42.setTop (mkF m 287 #[(sI fl), (sJ p0), .second, (sJ p1), .second, (sJ p2), .second, (sR v1_s0), (sI u5), (sI u6), (sR b7), .val (vo o0), (sR ya48), .val (vo o2), (sI rm), (sJ gn), .second, (sI v30_s0), (sI v34_s0), (sI v38_s0), (sR ya48), (sJ p1), .second, .unset] [])) (fun t kt => ?_) ?_
    ·refine XS.aload X42.here hx rfl (hb hby at_280) rfl rfl ?_
     show Steps _ _ _ (T42.setTop (mkF m 282 #[(sI fl), (sJ p0), .second, (sJ p1), .second, (sJ p2), .second, (sR v1_s0), (sI u5), (sI u6), (sR b7), .val (vo o0), (sR ya48), .val (vo o2), (sI rm), (sJ gn), .second, (sI v30_s0), (sI v34_s0), (sI v38_s0), .val .null, (sJ wp0), .second, .unset] [(.ref ya48)])) _
     refine XS.astore X42.here hx rfl (hb hby at_282) rfl rfl (l' := #[(sI fl), (sJ p0), .second, (sJ p1), .second, (sJ p2), .second, (sR v1_s0), (sI u5), (sI u6), (sR b7), .val (vo o0), (sR ya48), .val (vo o2), (sI rm), (sJ gn), .second, (sI v30_s0), (sI v34_s0), (sI v38_s0), (sR ya48), (sJ wp0), .second, .unset]) rfl ?_
     show Steps _ _ _ (T42.setTop (mkF m 284 #[(sI fl), (sJ p0), .second, (sJ p1), .second, (sJ p2), .second, (sR v1_s0), (sI u5), (sI u6), (sR b7), .val (vo o0), (sR ya48), .val (vo o2), (sI rm), (sJ gn), .second, (sI v30_s0), (sI v34_s0), (sI v38_s0), (sR ya48), (sJ wp0), .second, .unset] [])) _
     refine XS.lloadN X42.here hx rfl (hb hby at_284) rfl ?_
     show Steps _ _ _ (T42.setTop (mkF m 285 #[(sI fl), (sJ p0), .second, (sJ p1), .second, (sJ p2), .second, (sR v1_s0), (sI u5), (sI u6), (sR b7), .val (vo o0), (sR ya48), .val (vo o2), (sI rm), (sJ gn), .second, (sI v30_s0), (sI v34_s0), (sI v38_s0), (sR ya48), (sJ wp0), .second, .unset] [(.long p1)])) _
     refine XS.lstore X42.here hx rfl (hb hby at_285) rfl (l' := #[(sI fl), (sJ p0), .second, (sJ p1), .second, (sJ p2), .second, (sR v1_s0), (sI u5), (sI u6), (sR b7), .val (vo o0), (sR ya48), .val (vo o2), (sI rm), (sJ gn), .second, (sI v30_s0), (sI v34_s0), (sI v38_s0), (sR ya48), (sJ p1), .second, .unset]) rfl ?_
     exact kt
    exact J45 _ (some ya48) _ X42 e42 (iv_first ((HM18 _).mpr ⟨(Or.inl (Or.inr ⟨rfl, rfl⟩)), (hi1.mp c261_46).2⟩) iv1)
   ·show Gl p e below (Ret s 12 554 (Q0 n0)) (T42.setTop (mkF m 264 #[(sI fl), (sJ p0), .second, (sJ p1), .second, (sJ p2), .second, (sR v1_s0), (sI u5), (sI u6), (sR b7), .val (vo o0), .val (vo o1), .val (vo o2), (sI rm), (sJ gn), .second, (sI v30_s0), (sI v34_s0), (sI v38_s0), (sR yw47), (sJ wp0), .second, .unset] []))
    refine gu (T42.setTop (mkF m 274 #[(sI fl), (sJ p0), .second, (sJ p1), .second, (sJ p2), .second, (sR v1_s0), (sI u5), (sI u6), (sR b7), .val (vo o0), .val (vo o1), .val (vo o2), (sI rm), (sJ gn), .second, (sI v30_s0), (sI v34_s0), (sI v38_s0), (sR yw47), (sJ wp0), .second, .unset] [(.long wp0), (.long p1), (.ref v1_s0)])) (fun t kt => ?_) ?_
    ·refine XS.aload X42.here hx rfl (hb hby at_264) rfl rfl ?_
     show Steps _ _ _ (T42.setTop (mkF m 266 #[(sI fl), (sJ p0), .second, (sJ p1), .second, (sJ p2), .second, (sR v1_s0), (sI u5), (sI u6), (sR b7), .val (vo o0), .val (vo o1), .val (vo o2), (sI rm), (sJ gn), .second, (sI v30_s0), (sI v34_s0), (sI v38_s0), (sR yw47), (sJ wp0), .second, .unset] [(.ref yw47)])) _
     refine XS.ifnullNo X42.here hx rfl (hb hby at_266) rfl ?_
     show Steps _ _ _ (T42.setTop (mkF m 269 #[(sI fl), (sJ p0), .second, (sJ p1), .second, (sJ p2), .second, (sR v1_s0), (sI u5), (sI u6), (sR b7), .val (vo o0), .val (vo o1), .val (vo o2), (sI rm), (sJ gn), .second, (sI v30_s0), (sI v34_s0), (sI v38_s0), (sR yw47), (sJ wp0), .second, .unset] [])) _
     refine XS.aload X42.here hx rfl (hb hby at_269) rfl rfl ?_
     show Steps _ _ _ (T42.setTop (mkF m 271 #[(sI fl), (sJ p0), .second, (sJ p1), .second, (sJ p2), .second, (sR v1_s0), (sI u5), (sI u6), (sR b7), .val (vo o0), .val (vo o1), .val (vo o2), (sI rm), (sJ gn), .second, (sI v30_s0), (sI v34_s0), (sI v38_s0), (sR yw47), (sJ wp0), .second, .unset] [(.ref v1_s0)])) _
     refine XS.lloadN X42.here hx rfl (hb hby at_271) rfl ?_
     show Steps _ _ _ (T42.setTop (mkF m 272 #[(sI fl), (sJ p0), .second, (sJ p1), .second, (sJ p2), .second, (sR v1_s0), (sI u5), (sI u6), (sR b7), .val (vo o0), .val (vo o1), .val (vo o2), (sI rm), (sJ gn), .second, (sI v30_s0), (sI v34_s0), (sI v38_s0), (sR yw47), (sJ wp0), .second, .unset] [(.long p1), (.ref v1_s0)])) _
     refine XS.lload X42.here hx rfl (hb hby at_272) rfl ?_
     exact kt
    obtain ⟨_, _, ⟨T49, L49, k49, n49⟩, -, X49, ⟨Lc49, hQ49, l49, y49, z49⟩, st49⟩ := Jvm.LawKit.callS X42 hx (y := mn16) hown (mvT hZ (hw _ (ix 159 rfl))) (mvT hZ (hw _ (ix 160 rfl))) (mvT hZ (hw _ (ix 161 rfl))) (mvT hZ (hw _ (ix 162 rfl))) (by decide) (backOf (W := 0) (rm15 l Z aa hw [] v1_s0 p1 wp0 wB hh18 n0 O18 S_wB) hZ (hw _ (ix 162 rfl)) (hw _ (ix 161 rfl)) (by decide) (by decide)) (g := (mkF m 274 #[(sI fl), (sJ p0), .second, (sJ p1), .second, (sJ p2), .second, (sR v1_s0), (sI u5), (sI u6), (sR b7), .val (vo o0), .val (vo o1), .val (vo o2), (sI rm), (sJ gn), .second, (sI v30_s0), (sI v34_s0), (sI v38_s0), (sR yw47), (sJ wp0), .second, .unset] [(.long wp0), (.long p1), (.ref v1_s0)])) rfl (sz hml) (argsL := [(.ref v1_s0), (.long p1), (.long wp0)]) (rest := []) (lenOf pd_oLcom_example_openvenue_openvenue_core_SideJJcZ rfl) rfl le0 (hb hby at_274) (fun _ _ => ⟨rfl, e42, (by decide : 12 + 0 ≤ _), (by decide : 554 + 0 ≤ _)⟩)
    dsimp only [Pt.U, Pt.locs, Pt.cells, Pt.slots] at X49 l49 y49 z49 st49 hQ49
    subst l49 y49 z49
    obtain ⟨rfl, rfl, e49⟩ := hQ49
    try rw [List.append_nil] at X49
    refine gu (T49.setTop (mkF m 277 #[(sI fl), (sJ p0), .second, (sJ p1), .second, (sJ p2), .second, (sR v1_s0), (sI u5), (sI u6), (sR b7), .val (vo o0), .val (vo o1), .val (vo o2), (sI rm), (sJ gn), .second, (sI v30_s0), (sI v34_s0), (sI v38_s0), (sR yw47), (sJ wp0), .second, .unset] [(.int (f15 v1_s0 p1 wp0 wB))])) (fun t kt => st49 _ kt) ?_
    by_cases c277_50 : (f15 v1_s0 p1 wp0 wB) = (0 : Int32)
    ·refine gu (T49.setTop (mkF m 287 #[(sI fl), (sJ p0), .second, (sJ p1), .second, (sJ p2), .second, (sR v1_s0), (sI u5), (sI u6), (sR b7), .val (vo o0), .val (vo o1), .val (vo o2), (sI rm), (sJ gn), .second, (sI v30_s0), (sI v34_s0), (sI v38_s0), (sR yw47), (sJ wp0), .second, .unset] [])) (fun t kt => ?_) ?_
     ·refine XS.ifYes X49.here hx rfl (pc0 := 277) (pc' := 287) rfl (hb hby at_277) rfl ((if0 _ _).trans (teq c277_50).1) (by decide) (by decide) ?_
      exact kt
     exact J45 _ (some yw47) _ X49 e49 (iv_keep (own_bt.mp c277_50) iv1)
    ·refine gu (T49.setTop (mkF m 280 #[(sI fl), (sJ p0), .second, (sJ p1), .second, (sJ p2), .second, (sR v1_s0), (sI u5), (sI u6), (sR b7), .val (vo o0), .val (vo o1), .val (vo o2), (sI rm), (sJ gn), .second, (sI v30_s0), (sI v34_s0), (sI v38_s0), (sR yw47), (sJ wp0), .second, .unset] [])) (fun t kt => ?_) ?_
     ·refine XS.ifNo X49.here hx rfl (hb hby at_277) rfl ((if0 _ _).trans (feq c277_50).1) ?_
      exact kt
     obtain ⟨ya51, hy51⟩ := own_some hs1 (hi1.mp c261_46).1
     subst hy51
     show Gl p e below (Ret s 12 554 (Q0 n0)) (T49.setTop (mkF m 280 #[(sI fl), (sJ p0), .second, (sJ p1), .second, (sJ p2), .second, (sR v1_s0), (sI u5), (sI u6), (sR b7), .val (vo o0), (sR ya51), .val (vo o2), (sI rm), (sJ gn), .second, (sI v30_s0), (sI v34_s0), (sI v38_s0), (sR yw47), (sJ wp0), .second, .unset] []))
     refine gu (T49.setTop (mkF m 287 #[(sI fl), (sJ p0), .second, (sJ p1), .second, (sJ p2), .second, (sR v1_s0), (sI u5), (sI u6), (sR b7), .val (vo o0), (sR ya51), .val (vo o2), (sI rm), (sJ gn), .second, (sI v30_s0), (sI v34_s0), (sI v38_s0), (sR ya51), (sJ p1), .second, .unset] [])) (fun t kt => ?_) ?_
     ·refine XS.aload X49.here hx rfl (hb hby at_280) rfl rfl ?_
      show Steps _ _ _ (T49.setTop (mkF m 282 #[(sI fl), (sJ p0), .second, (sJ p1), .second, (sJ p2), .second, (sR v1_s0), (sI u5), (sI u6), (sR b7), .val (vo o0), (sR ya51), .val (vo o2), (sI rm), (sJ gn), .second, (sI v30_s0), (sI v34_s0), (sI v38_s0), (sR yw47), (sJ wp0), .second, .unset] [(.ref ya51)])) _
      refine XS.astore X49.here hx rfl (hb hby at_282) rfl rfl (l' := #[(sI fl), (sJ p0), .second, (sJ p1), .second, (sJ p2), .second, (sR v1_s0), (sI u5), (sI u6), (sR b7), .val (vo o0), (sR ya51), .val (vo o2), (sI rm), (sJ gn), .second, (sI v30_s0), (sI v34_s0), (sI v38_s0), (sR ya51), (sJ wp0), .second, .unset]) rfl ?_
      show Steps _ _ _ (T49.setTop (mkF m 284 #[(sI fl), (sJ p0), .second, (sJ p1), .second, (sJ p2), .second, (sR v1_s0), (sI u5), (sI u6), (sR b7), .val (vo o0), (sR ya51), .val (vo o2), (sI rm), (sJ gn), .second, (sI v30_s0), (sI v34_s0), (sI v38_s0), (sR ya51), (sJ wp0), .second, .unset] [])) _
      refine XS.lloadN X49.here hx rfl (hb hby at_284) rfl ?_
      show Steps _ _ _ (T49.setTop (mkF m 285 #[(sI fl), (sJ p0), .second, (sJ p1), .second, (sJ p2), .second, (sR v1_s0), (sI u5), (sI u6), (sR b7), .val (vo o0), (sR ya51), .val (vo o2), (sI rm), (sJ gn), .second, (sI v30_s0), (sI v34_s0), (sI v38_s0), (sR ya51), (sJ wp0), .second, .unset] [(.long p1)])) _
      refine XS.lstore X49.here hx rfl (hb hby at_285) rfl (l' := #[(sI fl), (sJ p0), .second, (sJ p1), .second, (sJ p2), .second, (sR v1_s0), (sI u5), (sI u6), (sR b7), .val (vo o0), (sR ya51), .val (vo o2), (sI rm), (sJ gn), .second, (sI v30_s0), (sI v34_s0), (sI v38_s0), (sR ya51), (sJ p1), .second, .unset]) rfl ?_
      exact kt
     exact J45 _ (some ya51) _ X49 e49 (iv_better (Decidable.not_not.mp fun z => c277_50 (own_bt.mpr z)) ((HM18 _).mpr ⟨(Or.inl (Or.inr ⟨rfl, rfl⟩)), (hi1.mp c261_46).2⟩) iv1)
 intro T45 w1 wp1 X45 e45 iv2
 suffices J52 : ∀ (T52 : State) (w2 : Option Addr) (wp2 : Int64), Stand p l e room_1 s m args below meth c T52 lc18 12 554 → T52.heap = hh18 → IV bl18 v1_s0 wB w2 wp2 [(v38_s0, p2), (v34_s0, p1), (v30_s0, p0)] → Gl p e below (Ret s 12 554 (Q0 n0)) (T52.setTop (mkF m 317 #[(sI fl), (sJ p0), .second, (sJ p1), .second, (sJ p2), .second, (sR v1_s0), (sI u5), (sI u6), (sR b7), .val (vo o0), .val (vo o1), .val (vo o2), (sI rm), (sJ gn), .second, (sI v30_s0), (sI v34_s0), (sI v38_s0), .val (vo w2), (sJ wp2), .second, .unset] [])) by
  refine gu (T45.setTop (mkF m 289 #[(sI fl), (sJ p0), .second, (sJ p1), .second, (sJ p2), .second, (sR v1_s0), (sI u5), (sI u6), (sR b7), .val (vo o0), .val (vo o1), .val (vo o2), (sI rm), (sJ gn), .second, (sI v30_s0), (sI v34_s0), (sI v38_s0), .val (vo w1), (sJ wp1), .second, .unset] [(.int v38_s0)])) (fun t kt => ?_) ?_
  ·refine XS.iload X45.here hx rfl (hb hby at_287) rfl ?_
   exact kt
  by_cases c289_53 : v38_s0 = (0 : Int32)
  ·refine gu (T45.setTop (mkF m 317 #[(sI fl), (sJ p0), .second, (sJ p1), .second, (sJ p2), .second, (sR v1_s0), (sI u5), (sI u6), (sR b7), .val (vo o0), .val (vo o1), .val (vo o2), (sI rm), (sJ gn), .second, (sI v30_s0), (sI v34_s0), (sI v38_s0), .val (vo w1), (sJ wp1), .second, .unset] [])) (fun t kt => ?_) ?_
   ·refine XS.ifYes X45.here hx rfl (pc0 := 289) (pc' := 317) rfl (hb hby at_289) rfl ((if0 _ _).trans (teq c289_53).1) (by decide) (by decide) ?_
    exact kt
   exact J52 _ w1 _ X45 e45 (iv_skip c289_53 iv2)
  ·refine gu (T45.setTop (mkF m 292 #[(sI fl), (sJ p0), .second, (sJ p1), .second, (sJ p2), .second, (sR v1_s0), (sI u5), (sI u6), (sR b7), .val (vo o0), .val (vo o1), .val (vo o2), (sI rm), (sJ gn), .second, (sI v30_s0), (sI v34_s0), (sI v38_s0), .val (vo w1), (sJ wp1), .second, .unset] [])) (fun t kt => ?_) ?_
   ·refine XS.ifNo X45.here hx rfl (hb hby at_289) rfl ((if0 _ _).trans (feq c289_53).1) ?_
    exact kt
   rcases w1 with _ | yw54
   ·show Gl p e below (Ret s 12 554 (Q0 n0)) (T45.setTop (mkF m 292 #[(sI fl), (sJ p0), .second, (sJ p1), .second, (sJ p2), .second, (sR v1_s0), (sI u5), (sI u6), (sR b7), .val (vo o0), .val (vo o1), .val (vo o2), (sI rm), (sJ gn), .second, (sI v30_s0), (sI v34_s0), (sI v38_s0), .val .null, (sJ wp1), .second, .unset] []))
    refine gu (T45.setTop (mkF m 309 #[(sI fl), (sJ p0), .second, (sJ p1), .second, (sJ p2), .second, (sR v1_s0), (sI u5), (sI u6), (sR b7), .val (vo o0), .val (vo o1), .val (vo o2), (sI rm), (sJ gn), .second, (sI v30_s0), (sI v34_s0), (sI v38_s0), .val .null, (sJ wp1), .second, .unset] [])) (fun t kt => ?_) ?_
    ·refine XS.aload X45.here hx rfl (hb hby at_292) rfl rfl ?_
     show Steps _ _ _ (T45.setTop (mkF m 294 #[(sI fl), (sJ p0), .second, (sJ p1), .second, (sJ p2), .second, (sR v1_s0), (sI u5), (sI u6), (sR b7), .val (vo o0), .val (vo o1), .val (vo o2), (sI rm), (sJ gn), .second, (sI v30_s0), (sI v34_s0), (sI v38_s0), .val .null, (sJ wp1), .second, .unset] [.null])) _
     refine XS.ifnullYes X45.here hx rfl (pc0 := 294) (pc' := 309) rfl (hb hby at_294) rfl (by decide) (by decide) ?_
     exact kt
    obtain ⟨ya55, hy55⟩ := own_some hs2 (hi2.mp c289_53).1
    subst hy55
    show Gl p e below (Ret s 12 554 (Q0 n0)) (T45.setTop (mkF m 309 #[(sI fl), (sJ p0), .second, (sJ p1), .second, (sJ p2), .second, (sR v1_s0), (sI u5), (sI u6), (sR b7), .val (vo o0), .val (vo o1), (sR ya55), (sI rm), (sJ gn), .second, (sI v30_s0), (sI v34_s0), (sI v38_s0), .val .null, (sJ wp1), .second, .unset] []))
    refine gu (T45.setTop (mkF m 317 #[(sI fl), (sJ p0), .second, (sJ p1), .second, (sJ p2), .second, (sR v1_s0), (sI u5), (sI u6), (sR b7), .val (vo o0), .val (vo o1), (sR ya55), (sI rm), (sJ gn), .second, (sI v30_s0), (sI v34_s0), (sI v38_s0), (sR ya55), (sJ p2), .second, .unset] [])) (fun t kt => ?_) ?_
    ·refine XS.aload X45.here hx rfl (hb hby at_309) rfl rfl ?_
     show Steps _ _ _ (T45.setTop (mkF m 311 #[(sI fl), (sJ p0), .second, (sJ p1), .second, (sJ p2), .second, (sR v1_s0), (sI u5), (sI u6), (sR b7), .val (vo o0), .val (vo o1), (sR ya55), (sI rm), (sJ gn), .second, (sI v30_s0), (sI v34_s0), (sI v38_s0), .val .null, (sJ wp1), .second, .unset] [(.ref ya55)])) _
     refine XS.astore X45.here hx rfl (hb hby at_311) rfl rfl (l' := #[(sI fl), (sJ p0), .second, (sJ p1), .second, (sJ p2), .second, (sR v1_s0), (sI u5), (sI u6), (sR b7), .val (vo o0), .val (vo o1), (sR ya55), (sI rm), (sJ gn), .second, (sI v30_s0), (sI v34_s0), (sI v38_s0), (sR ya55), (sJ wp1), .second, .unset]) rfl ?_
     show Steps _ _ _ (T45.setTop (mkF m 313 #[(sI fl), (sJ p0), .second, (sJ p1), .second, (sJ p2), .second, (sR v1_s0), (sI u5), (sI u6), (sR b7), .val (vo o0), .val (vo o1), (sR ya55), (sI rm), (sJ gn), .second, (sI v30_s0), (sI v34_s0), (sI v38_s0), (sR ya55), (sJ wp1), .second, .unset] [])) _
     refine XS.lload X45.here hx rfl (hb hby at_313) rfl ?_
     show Steps _ _ _ (T45.setTop (mkF m 315 #[(sI fl), (sJ p0), .second, (sJ p1), .second, (sJ p2), .second, (sR v1_s0), (sI u5), (sI u6), (sR b7), .val (vo o0), .val (vo o1), (sR ya55), (sI rm), (sJ gn), .second, (sI v30_s0), (sI v34_s0), (sI v38_s0), (sR ya55), (sJ wp1), .second, .unset] [(.long p2)])) _
     refine XS.lstore X45.here hx rfl (hb hby at_315) rfl (l' := #[(sI fl), (sJ p0), .second, (sJ p1), .second, (sJ p2), .second, (sR v1_s0), (sI u5), (sI u6), (sR b7), .val (vo o0), .val (vo o1), (sR ya55), (sI rm), (sJ gn), .second, (sI v30_s0), (sI v34_s0), (sI v38_s0), (sR ya55), (sJ p2), .second, .unset]) rfl ?_
     exact kt
    exact J52 _ (some ya55) _ X45 e45 (iv_first ((HM18 _).mpr ⟨(Or.inr ⟨rfl, rfl⟩), (hi2.mp c289_53).2⟩) iv2)
   ·show Gl p e below (Ret s 12 554 (Q0 n0)) (T45.setTop (mkF m 292 #[(sI fl), (sJ p0), .second, (sJ p1), .second, (sJ p2), .second, (sR v1_s0), (sI u5), (sI u6), (sR b7), .val (vo o0), .val (vo o1), .val (vo o2), (sI rm), (sJ gn), .second, (sI v30_s0), (sI v34_s0), (sI v38_s0), (sR yw54), (sJ wp1), .second, .unset] []))
    refine gu (T45.setTop (mkF m 303 #[(sI fl), (sJ p0), .second, (sJ p1), .second, (sJ p2), .second, (sR v1_s0), (sI u5), (sI u6), (sR b7), .val (vo o0), .val (vo o1), .val (vo o2), (sI rm), (sJ gn), .second, (sI v30_s0), (sI v34_s0), (sI v38_s0), (sR yw54), (sJ wp1), .second, .unset] [(.long wp1), (.long p2), (.ref v1_s0)])) (fun t kt => ?_) ?_
    ·refine XS.aload X45.here hx rfl (hb hby at_292) rfl rfl ?_
     show Steps _ _ _ (T45.setTop (mkF m 294 #[(sI fl), (sJ p0), .second, (sJ p1), .second, (sJ p2), .second, (sR v1_s0), (sI u5), (sI u6), (sR b7), .val (vo o0), .val (vo o1), .val (vo o2), (sI rm), (sJ gn), .second, (sI v30_s0), (sI v34_s0), (sI v38_s0), (sR yw54), (sJ wp1), .second, .unset] [(.ref yw54)])) _
     refine XS.ifnullNo X45.here hx rfl (hb hby at_294) rfl ?_
     show Steps _ _ _ (T45.setTop (mkF m 297 #[(sI fl), (sJ p0), .second, (sJ p1), .second, (sJ p2), .second, (sR v1_s0), (sI u5), (sI u6), (sR b7), .val (vo o0), .val (vo o1), .val (vo o2), (sI rm), (sJ gn), .second, (sI v30_s0), (sI v34_s0), (sI v38_s0), (sR yw54), (sJ wp1), .second, .unset] [])) _
     refine XS.aload X45.here hx rfl (hb hby at_297) rfl rfl ?_
     show Steps _ _ _ (T45.setTop (mkF m 299 #[(sI fl), (sJ p0), .second, (sJ p1), .second, (sJ p2), .second, (sR v1_s0), (sI u5), (sI u6), (sR b7), .val (vo o0), .val (vo o1), .val (vo o2), (sI rm), (sJ gn), .second, (sI v30_s0), (sI v34_s0), (sI v38_s0), (sR yw54), (sJ wp1), .second, .unset] [(.ref v1_s0)])) _
     refine XS.lload X45.here hx rfl (hb hby at_299) rfl ?_
     show Steps _ _ _ (T45.setTop (mkF m 301 #[(sI fl), (sJ p0), .second, (sJ p1), .second, (sJ p2), .second, (sR v1_s0), (sI u5), (sI u6), (sR b7), .val (vo o0), .val (vo o1), .val (vo o2), (sI rm), (sJ gn), .second, (sI v30_s0), (sI v34_s0), (sI v38_s0), (sR yw54), (sJ wp1), .second, .unset] [(.long p2), (.ref v1_s0)])) _
     refine XS.lload X45.here hx rfl (hb hby at_301) rfl ?_
     exact kt
    obtain ⟨_, _, ⟨T56, L56, k56, n56⟩, -, X56, ⟨Lc56, hQ56, l56, y56, z56⟩, st56⟩ := Jvm.LawKit.callS X45 hx (y := mn16) hown (mvT hZ (hw _ (ix 159 rfl))) (mvT hZ (hw _ (ix 160 rfl))) (mvT hZ (hw _ (ix 161 rfl))) (mvT hZ (hw _ (ix 162 rfl))) (by decide) (backOf (W := 0) (rm15 l Z aa hw [] v1_s0 p2 wp1 wB hh18 n0 O18 S_wB) hZ (hw _ (ix 162 rfl)) (hw _ (ix 161 rfl)) (by decide) (by decide)) (g := (mkF m 303 #[(sI fl), (sJ p0), .second, (sJ p1), .second, (sJ p2), .second, (sR v1_s0), (sI u5), (sI u6), (sR b7), .val (vo o0), .val (vo o1), .val (vo o2), (sI rm), (sJ gn), .second, (sI v30_s0), (sI v34_s0), (sI v38_s0), (sR yw54), (sJ wp1), .second, .unset] [(.long wp1), (.long p2), (.ref v1_s0)])) rfl (sz hml) (argsL := [(.ref v1_s0), (.long p2), (.long wp1)]) (rest := []) (lenOf pd_oLcom_example_openvenue_openvenue_core_SideJJcZ rfl) rfl le0 (hb hby at_303) (fun _ _ => ⟨rfl, e45, (by decide : 12 + 0 ≤ _), (by decide : 554 + 0 ≤ _)⟩)
    dsimp only [Pt.U, Pt.locs, Pt.cells, Pt.slots] at X56 l56 y56 z56 st56 hQ56
    subst l56 y56 z56
    obtain ⟨rfl, rfl, e56⟩ := hQ56
    try rw [List.append_nil] at X56
    refine gu (T56.setTop (mkF m 306 #[(sI fl), (sJ p0), .second, (sJ p1), .second, (sJ p2), .second, (sR v1_s0), (sI u5), (sI u6), (sR b7), .val (vo o0), .val (vo o1), .val (vo o2), (sI rm), (sJ gn), .second, (sI v30_s0), (sI v34_s0), (sI v38_s0), (sR yw54), (sJ wp1), .second, .unset] [(.int (f15 v1_s0 p2 wp1 wB))])) (fun t kt => st56 _ kt) ?_
    by_cases c306_57 : (f15 v1_s0 p2 wp1 wB) = (0 : Int32)
    ·refine gu (T56.setTop (mkF m 317 #[(sI fl), (sJ p0), .second, (sJ p1), .second, (sJ p2), .second, (sR v1_s0), (sI u5), (sI u6), (sR b7), .val (vo o0), .val (vo o1), .val (vo o2), (sI rm), (sJ gn), .second, (sI v30_s0), (sI v34_s0), (sI v38_s0), (sR yw54), (sJ wp1), .second, .unset] [])) (fun t kt => ?_) ?_
     ·refine XS.ifYes X56.here hx rfl (pc0 := 306) (pc' := 317) rfl (hb hby at_306) rfl ((if0 _ _).trans (teq c306_57).1) (by decide) (by decide) ?_
      exact kt
     exact J52 _ (some yw54) _ X56 e56 (iv_keep (own_bt.mp c306_57) iv2)
    ·refine gu (T56.setTop (mkF m 309 #[(sI fl), (sJ p0), .second, (sJ p1), .second, (sJ p2), .second, (sR v1_s0), (sI u5), (sI u6), (sR b7), .val (vo o0), .val (vo o1), .val (vo o2), (sI rm), (sJ gn), .second, (sI v30_s0), (sI v34_s0), (sI v38_s0), (sR yw54), (sJ wp1), .second, .unset] [])) (fun t kt => ?_) ?_
     ·refine XS.ifNo X56.here hx rfl (hb hby at_306) rfl ((if0 _ _).trans (feq c306_57).1) ?_
      exact kt
     obtain ⟨ya58, hy58⟩ := own_some hs2 (hi2.mp c289_53).1
     subst hy58
     show Gl p e below (Ret s 12 554 (Q0 n0)) (T56.setTop (mkF m 309 #[(sI fl), (sJ p0), .second, (sJ p1), .second, (sJ p2), .second, (sR v1_s0), (sI u5), (sI u6), (sR b7), .val (vo o0), .val (vo o1), (sR ya58), (sI rm), (sJ gn), .second, (sI v30_s0), (sI v34_s0), (sI v38_s0), (sR yw54), (sJ wp1), .second, .unset] []))
     refine gu (T56.setTop (mkF m 317 #[(sI fl), (sJ p0), .second, (sJ p1), .second, (sJ p2), .second, (sR v1_s0), (sI u5), (sI u6), (sR b7), .val (vo o0), .val (vo o1), (sR ya58), (sI rm), (sJ gn), .second, (sI v30_s0), (sI v34_s0), (sI v38_s0), (sR ya58), (sJ p2), .second, .unset] [])) (fun t kt => ?_) ?_
     ·refine XS.aload X56.here hx rfl (hb hby at_309) rfl rfl ?_
      show Steps _ _ _ (T56.setTop (mkF m 311 #[(sI fl), (sJ p0), .second, (sJ p1), .second, (sJ p2), .second, (sR v1_s0), (sI u5), (sI u6), (sR b7), .val (vo o0), .val (vo o1), (sR ya58), (sI rm), (sJ gn), .second, (sI v30_s0), (sI v34_s0), (sI v38_s0), (sR yw54), (sJ wp1), .second, .unset] [(.ref ya58)])) _
      refine XS.astore X56.here hx rfl (hb hby at_311) rfl rfl (l' := #[(sI fl), (sJ p0), .second, (sJ p1), .second, (sJ p2), .second, (sR v1_s0), (sI u5), (sI u6), (sR b7), .val (vo o0), .val (vo o1), (sR ya58), (sI rm), (sJ gn), .second, (sI v30_s0), (sI v34_s0), (sI v38_s0), (sR ya58), (sJ wp1), .second, .unset]) rfl ?_
      show Steps _ _ _ (T56.setTop (mkF m 313 #[(sI fl), (sJ p0), .second, (sJ p1), .second, (sJ p2), .second, (sR v1_s0), (sI u5), (sI u6), (sR b7), .val (vo o0), .val (vo o1), (sR ya58), (sI rm), (sJ gn), .second, (sI v30_s0), (sI v34_s0), (sI v38_s0), (sR ya58), (sJ wp1), .second, .unset] [])) _
      refine XS.lload X56.here hx rfl (hb hby at_313) rfl ?_
      show Steps _ _ _ (T56.setTop (mkF m 315 #[(sI fl), (sJ p0), .second, (sJ p1), .second, (sJ p2), .second, (sR v1_s0), (sI u5), (sI u6), (sR b7), .val (vo o0), .val (vo o1), (sR ya58), (sI rm), (sJ gn), .second, (sI v30_s0), (sI v34_s0), (sI v38_s0), (sR ya58), (sJ wp1), .second, .unset] [(.long p2)])) _
      refine XS.lstore X56.here hx rfl (hb hby at_315) rfl (l' := #[(sI fl), (sJ p0), .second, (sJ p1), .second, (sJ p2), .second, (sR v1_s0), (sI u5), (sI u6), (sR b7), .val (vo o0), .val (vo o1), (sR ya58), (sI rm), (sJ gn), .second, (sI v30_s0), (sI v34_s0), (sI v38_s0), (sR ya58), (sJ p2), .second, .unset]) rfl ?_
      exact kt
     exact J52 _ (some ya58) _ X56 e56 (iv_better (Decidable.not_not.mp fun z => c306_57 (own_bt.mpr z)) ((HM18 _).mpr ⟨(Or.inr ⟨rfl, rfl⟩), (hi2.mp c289_53).2⟩) iv2)
 intro T52 w2 wp2 X52 e52 iv3
 have hb59 := own_end hs0 hs1 hs2 hi0 hi1 hi2 HM18 B18.2.2.2.2.2 iv3
 rcases w2 with _ | yw59
 ·show Gl p e below (Ret s 12 554 (Q0 n0)) (T52.setTop (mkF m 317 #[(sI fl), (sJ p0), .second, (sJ p1), .second, (sJ p2), .second, (sR v1_s0), (sI u5), (sI u6), (sR b7), .val (vo o0), .val (vo o1), .val (vo o2), (sI rm), (sJ gn), .second, (sI v30_s0), (sI v34_s0), (sI v38_s0), .val .null, (sJ wp2), .second, .unset] []))
  refine gu (T52.setTop (mkF m 319 #[(sI fl), (sJ p0), .second, (sJ p1), .second, (sJ p2), .second, (sR v1_s0), (sI u5), (sI u6), (sR b7), .val (vo o0), .val (vo o1), .val (vo o2), (sI rm), (sJ gn), .second, (sI v30_s0), (sI v34_s0), (sI v38_s0), .val .null, (sJ wp2), .second, .unset] [(.ref b7)])) (fun t kt => ?_) ?_
  ·refine XS.aload X52.here hx rfl (hb hby at_317) rfl rfl ?_
   exact kt
  obtain ⟨cq60, kq60, q60a, q60b, q60c⟩ := isOf hZ e52 B18.1
  obtain ⟨_, _, ⟨T60, L60, k60, n60⟩, -, X60, ⟨Lc60, hQ60, l60, y60, z60⟩, st60⟩ := X52.virtualBack hx (y := mn20) (z := mn20) hown (mvT hZ (hw _ (ix 72 rfl))) (mvT hZ (hw _ (ix 73 rfl))) (notFace_of_selects (args := #[]) (mvT hZ (hw _ (ix 75 rfl)))) (mvT hZ (hw _ (ix 75 rfl))) (mvT hZ (hw _ (ix 74 rfl))) (by decide) (backOf (W := 0) (rm19 l Z aa hw [] b7 la v1_s0 wB kl bl18 hh18 n0 O18 B18 hl18) hZ (hw _ (ix 76 rfl)) (hw _ (ix 5 rfl)) (by decide) (by decide)) q60a q60c (g := (mkF m 319 #[(sI fl), (sJ p0), .second, (sJ p1), .second, (sJ p2), .second, (sR v1_s0), (sI u5), (sI u6), (sR b7), .val (vo o0), .val (vo o1), .val (vo o2), (sI rm), (sJ gn), .second, (sI v30_s0), (sI v34_s0), (sI v38_s0), .val .null, (sJ wp2), .second, .unset] [(.ref b7)])) rfl (sz hml) (Steps.refl _) (argsL := []) (rest := []) (lenOf pd_ocLcom_example_openvenue_openvenue_core_PriceLevel rfl) rfl le0 (hb hby at_319) (fun _ _ => ⟨rfl, e52, (by decide : 12 + 0 ≤ _), (by decide : 554 + 0 ≤ _)⟩)
  dsimp only [Pt.U, Pt.locs, Pt.cells, Pt.slots] at X60 l60 y60 z60 st60 hQ60
  subst l60 y60 z60
  obtain ⟨rfl, rfl, e60⟩ := hQ60
  try rw [List.append_nil] at X60
  refine gu (T60.setTop (mkF m 322 #[(sI fl), (sJ p0), .second, (sJ p1), .second, (sJ p2), .second, (sR v1_s0), (sI u5), (sI u6), (sR b7), .val (vo o0), .val (vo o1), .val (vo o2), (sI rm), (sJ gn), .second, (sI v30_s0), (sI v34_s0), (sI v38_s0), .val .null, (sJ wp2), .second, .unset] [(bst bl18)])) (fun t kt => st60.trans kt) ?_
  rw [hb59]
  show Gl p e below (Ret s 12 554 (Q0 n0)) (T60.setTop (mkF m 322 #[(sI fl), (sJ p0), .second, (sJ p1), .second, (sJ p2), .second, (sR v1_s0), (sI u5), (sI u6), (sR b7), .val (vo o0), .val (vo o1), .val (vo o2), (sI rm), (sJ gn), .second, (sI v30_s0), (sI v34_s0), (sI v38_s0), .val .null, (sJ wp2), .second, .unset] [.null]))
  refine gu (T60.setTop (mkF m 352 #[(sI fl), (sJ p0), .second, (sJ p1), .second, (sJ p2), .second, (sR v1_s0), (sI u5), (sI u6), (sR b7), .val (vo o0), .val (vo o1), .val (vo o2), (sI rm), (sJ gn), .second, (sI v30_s0), (sI v34_s0), (sI v38_s0), .val .null, (sJ wp2), .second, .val .null] [(.int (1 : Int32))])) (fun t kt => ?_) ?_
  ·refine XS.astore X60.here hx rfl (hb hby at_322) rfl rfl (l' := #[(sI fl), (sJ p0), .second, (sJ p1), .second, (sJ p2), .second, (sR v1_s0), (sI u5), (sI u6), (sR b7), .val (vo o0), .val (vo o1), .val (vo o2), (sI rm), (sJ gn), .second, (sI v30_s0), (sI v34_s0), (sI v38_s0), .val .null, (sJ wp2), .second, .val .null]) rfl ?_
   show Steps _ _ _ (T60.setTop (mkF m 324 #[(sI fl), (sJ p0), .second, (sJ p1), .second, (sJ p2), .second, (sR v1_s0), (sI u5), (sI u6), (sR b7), .val (vo o0), .val (vo o1), .val (vo o2), (sI rm), (sJ gn), .second, (sI v30_s0), (sI v34_s0), (sI v38_s0), .val .null, (sJ wp2), .second, .val .null] [])) _
   refine XS.aload X60.here hx rfl (hb hby at_324) rfl rfl ?_
   show Steps _ _ _ (T60.setTop (mkF m 326 #[(sI fl), (sJ p0), .second, (sJ p1), .second, (sJ p2), .second, (sR v1_s0), (sI u5), (sI u6), (sR b7), .val (vo o0), .val (vo o1), .val (vo o2), (sI rm), (sJ gn), .second, (sI v30_s0), (sI v34_s0), (sI v38_s0), .val .null, (sJ wp2), .second, .val .null] [.null])) _
   refine XS.aload X60.here hx rfl (hb hby at_326) rfl rfl ?_
   show Steps _ _ _ (T60.setTop (mkF m 328 #[(sI fl), (sJ p0), .second, (sJ p1), .second, (sJ p2), .second, (sR v1_s0), (sI u5), (sI u6), (sR b7), .val (vo o0), .val (vo o1), .val (vo o2), (sI rm), (sJ gn), .second, (sI v30_s0), (sI v34_s0), (sI v38_s0), .val .null, (sJ wp2), .second, .val .null] [.null, .null])) _
   refine Jvm.RoadKit.acmp (g := (mkF m 328 #[(sI fl), (sJ p0), .second, (sJ p1), .second, (sJ p2), .second, (sR v1_s0), (sI u5), (sI u6), (sR b7), .val (vo o0), .val (vo o1), .val (vo o2), (sI rm), (sJ gn), .second, (sI v30_s0), (sI v34_s0), (sI v38_s0), .val .null, (sJ wp2), .second, .val .null] [.null, .null])) X60 hx rfl rfl rfl (pc0 := 328) (pc' := 331) (same := true) rfl (hb hby at_328) rfl (decide_eq_true rfl) (by decide) (by decide) ?_
   show Steps _ _ _ (T60.setTop (mkF m 331 #[(sI fl), (sJ p0), .second, (sJ p1), .second, (sJ p2), .second, (sR v1_s0), (sI u5), (sI u6), (sR b7), .val (vo o0), .val (vo o1), .val (vo o2), (sI rm), (sJ gn), .second, (sI v30_s0), (sI v34_s0), (sI v38_s0), .val .null, (sJ wp2), .second, .val .null] [])) _
   refine XS.aload X60.here hx rfl (hb hby at_331) rfl rfl ?_
   show Steps _ _ _ (T60.setTop (mkF m 333 #[(sI fl), (sJ p0), .second, (sJ p1), .second, (sJ p2), .second, (sR v1_s0), (sI u5), (sI u6), (sR b7), .val (vo o0), .val (vo o1), .val (vo o2), (sI rm), (sJ gn), .second, (sI v30_s0), (sI v34_s0), (sI v38_s0), .val .null, (sJ wp2), .second, .val .null] [.null])) _
   refine XS.ifnullYes X60.here hx rfl (pc0 := 333) (pc' := 347) rfl (hb hby at_333) rfl (by decide) (by decide) ?_
   show Steps _ _ _ (T60.setTop (mkF m 347 #[(sI fl), (sJ p0), .second, (sJ p1), .second, (sJ p2), .second, (sR v1_s0), (sI u5), (sI u6), (sR b7), .val (vo o0), .val (vo o1), .val (vo o2), (sI rm), (sJ gn), .second, (sI v30_s0), (sI v34_s0), (sI v38_s0), .val .null, (sJ wp2), .second, .val .null] [])) _
   refine XS.iconst X60.here hx rfl (hb hby at_347) ?_
   show Steps _ _ _ (T60.setTop (mkF m 348 #[(sI fl), (sJ p0), .second, (sJ p1), .second, (sJ p2), .second, (sR v1_s0), (sI u5), (sI u6), (sR b7), .val (vo o0), .val (vo o1), .val (vo o2), (sI rm), (sJ gn), .second, (sI v30_s0), (sI v34_s0), (sI v38_s0), .val .null, (sJ wp2), .second, .val .null] [(.int (1 : Int32))])) _
   refine XS.goto X60.here hx rfl (pc0 := 348) (pc' := 352) rfl (hb hby at_348) (by decide) (by decide) ?_
   exact kt
  refine Gl.retN X60 hx hlk (t := .boolean) Bd.returns (by simp) (hb hby at_352) (w := (1 : Int32)) rfl ?_ (by decide) (by decide)
  exact ⟨rfl, N18⟩
 ·obtain ⟨E_w, F_w⟩ := B18.2.2.2.2.1 (yw59, wp2) iv3.1
  show Gl p e below (Ret s 12 554 (Q0 n0)) (T52.setTop (mkF m 317 #[(sI fl), (sJ p0), .second, (sJ p1), .second, (sJ p2), .second, (sR v1_s0), (sI u5), (sI u6), (sR b7), .val (vo o0), .val (vo o1), .val (vo o2), (sI rm), (sJ gn), .second, (sI v30_s0), (sI v34_s0), (sI v38_s0), (sR yw59), (sJ wp2), .second, .unset] []))
  refine gu (T52.setTop (mkF m 319 #[(sI fl), (sJ p0), .second, (sJ p1), .second, (sJ p2), .second, (sR v1_s0), (sI u5), (sI u6), (sR b7), .val (vo o0), .val (vo o1), .val (vo o2), (sI rm), (sJ gn), .second, (sI v30_s0), (sI v34_s0), (sI v38_s0), (sR yw59), (sJ wp2), .second, .unset] [(.ref b7)])) (fun t kt => ?_) ?_
  ·refine XS.aload X52.here hx rfl (hb hby at_317) rfl rfl ?_
   exact kt
  obtain ⟨cq61, kq61, q61a, q61b, q61c⟩ := isOf hZ e52 B18.1
  obtain ⟨_, _, ⟨T61, L61, k61, n61⟩, -, X61, ⟨Lc61, hQ61, l61, y61, z61⟩, st61⟩ := X52.virtualBack hx (y := mn20) (z := mn20) hown (mvT hZ (hw _ (ix 72 rfl))) (mvT hZ (hw _ (ix 73 rfl))) (notFace_of_selects (args := #[]) (mvT hZ (hw _ (ix 75 rfl)))) (mvT hZ (hw _ (ix 75 rfl))) (mvT hZ (hw _ (ix 74 rfl))) (by decide) (backOf (W := 0) (rm19 l Z aa hw [] b7 la v1_s0 wB kl bl18 hh18 n0 O18 B18 hl18) hZ (hw _ (ix 76 rfl)) (hw _ (ix 5 rfl)) (by decide) (by decide)) q61a q61c (g := (mkF m 319 #[(sI fl), (sJ p0), .second, (sJ p1), .second, (sJ p2), .second, (sR v1_s0), (sI u5), (sI u6), (sR b7), .val (vo o0), .val (vo o1), .val (vo o2), (sI rm), (sJ gn), .second, (sI v30_s0), (sI v34_s0), (sI v38_s0), (sR yw59), (sJ wp2), .second, .unset] [(.ref b7)])) rfl (sz hml) (Steps.refl _) (argsL := []) (rest := []) (lenOf pd_ocLcom_example_openvenue_openvenue_core_PriceLevel rfl) rfl le0 (hb hby at_319) (fun _ _ => ⟨rfl, e52, (by decide : 12 + 0 ≤ _), (by decide : 554 + 0 ≤ _)⟩)
  dsimp only [Pt.U, Pt.locs, Pt.cells, Pt.slots] at X61 l61 y61 z61 st61 hQ61
  subst l61 y61 z61
  obtain ⟨rfl, rfl, e61⟩ := hQ61
  try rw [List.append_nil] at X61
  refine gu (T61.setTop (mkF m 322 #[(sI fl), (sJ p0), .second, (sJ p1), .second, (sJ p2), .second, (sR v1_s0), (sI u5), (sI u6), (sR b7), .val (vo o0), .val (vo o1), .val (vo o2), (sI rm), (sJ gn), .second, (sI v30_s0), (sI v34_s0), (sI v38_s0), (sR yw59), (sJ wp2), .second, .unset] [(bst bl18)])) (fun t kt => st61.trans kt) ?_
  rw [hb59]
  show Gl p e below (Ret s 12 554 (Q0 n0)) (T61.setTop (mkF m 322 #[(sI fl), (sJ p0), .second, (sJ p1), .second, (sJ p2), .second, (sR v1_s0), (sI u5), (sI u6), (sR b7), .val (vo o0), .val (vo o1), .val (vo o2), (sI rm), (sJ gn), .second, (sI v30_s0), (sI v34_s0), (sI v38_s0), (sR yw59), (sJ wp2), .second, .unset] [(.ref yw59)]))
  refine gu (T61.setTop (mkF m 338 #[(sI fl), (sJ p0), .second, (sJ p1), .second, (sJ p2), .second, (sR v1_s0), (sI u5), (sI u6), (sR b7), .val (vo o0), .val (vo o1), .val (vo o2), (sI rm), (sJ gn), .second, (sI v30_s0), (sI v34_s0), (sI v38_s0), (sR yw59), (sJ wp2), .second, (sR yw59)] [(.ref yw59)])) (fun t kt => ?_) ?_
  ·refine XS.astore X61.here hx rfl (hb hby at_322) rfl rfl (l' := #[(sI fl), (sJ p0), .second, (sJ p1), .second, (sJ p2), .second, (sR v1_s0), (sI u5), (sI u6), (sR b7), .val (vo o0), .val (vo o1), .val (vo o2), (sI rm), (sJ gn), .second, (sI v30_s0), (sI v34_s0), (sI v38_s0), (sR yw59), (sJ wp2), .second, (sR yw59)]) rfl ?_
   show Steps _ _ _ (T61.setTop (mkF m 324 #[(sI fl), (sJ p0), .second, (sJ p1), .second, (sJ p2), .second, (sR v1_s0), (sI u5), (sI u6), (sR b7), .val (vo o0), .val (vo o1), .val (vo o2), (sI rm), (sJ gn), .second, (sI v30_s0), (sI v34_s0), (sI v38_s0), (sR yw59), (sJ wp2), .second, (sR yw59)] [])) _
   refine XS.aload X61.here hx rfl (hb hby at_324) rfl rfl ?_
   show Steps _ _ _ (T61.setTop (mkF m 326 #[(sI fl), (sJ p0), .second, (sJ p1), .second, (sJ p2), .second, (sR v1_s0), (sI u5), (sI u6), (sR b7), .val (vo o0), .val (vo o1), .val (vo o2), (sI rm), (sJ gn), .second, (sI v30_s0), (sI v34_s0), (sI v38_s0), (sR yw59), (sJ wp2), .second, (sR yw59)] [(.ref yw59)])) _
   refine XS.aload X61.here hx rfl (hb hby at_326) rfl rfl ?_
   show Steps _ _ _ (T61.setTop (mkF m 328 #[(sI fl), (sJ p0), .second, (sJ p1), .second, (sJ p2), .second, (sR v1_s0), (sI u5), (sI u6), (sR b7), .val (vo o0), .val (vo o1), .val (vo o2), (sI rm), (sJ gn), .second, (sI v30_s0), (sI v34_s0), (sI v38_s0), (sR yw59), (sJ wp2), .second, (sR yw59)] [(.ref yw59), (.ref yw59)])) _
   refine Jvm.RoadKit.acmp (g := (mkF m 328 #[(sI fl), (sJ p0), .second, (sJ p1), .second, (sJ p2), .second, (sR v1_s0), (sI u5), (sI u6), (sR b7), .val (vo o0), .val (vo o1), .val (vo o2), (sI rm), (sJ gn), .second, (sI v30_s0), (sI v34_s0), (sI v38_s0), (sR yw59), (sJ wp2), .second, (sR yw59)] [(.ref yw59), (.ref yw59)])) X61 hx rfl rfl rfl (pc0 := 328) (pc' := 331) (same := true) rfl (hb hby at_328) rfl (decide_eq_true rfl) (by decide) (by decide) ?_
   show Steps _ _ _ (T61.setTop (mkF m 331 #[(sI fl), (sJ p0), .second, (sJ p1), .second, (sJ p2), .second, (sR v1_s0), (sI u5), (sI u6), (sR b7), .val (vo o0), .val (vo o1), .val (vo o2), (sI rm), (sJ gn), .second, (sI v30_s0), (sI v34_s0), (sI v38_s0), (sR yw59), (sJ wp2), .second, (sR yw59)] [])) _
   refine XS.aload X61.here hx rfl (hb hby at_331) rfl rfl ?_
   show Steps _ _ _ (T61.setTop (mkF m 333 #[(sI fl), (sJ p0), .second, (sJ p1), .second, (sJ p2), .second, (sR v1_s0), (sI u5), (sI u6), (sR b7), .val (vo o0), .val (vo o1), .val (vo o2), (sI rm), (sJ gn), .second, (sI v30_s0), (sI v34_s0), (sI v38_s0), (sR yw59), (sJ wp2), .second, (sR yw59)] [(.ref yw59)])) _
   refine XS.ifnullNo X61.here hx rfl (hb hby at_333) rfl ?_
   show Steps _ _ _ (T61.setTop (mkF m 336 #[(sI fl), (sJ p0), .second, (sJ p1), .second, (sJ p2), .second, (sR v1_s0), (sI u5), (sI u6), (sR b7), .val (vo o0), .val (vo o1), .val (vo o2), (sI rm), (sJ gn), .second, (sI v30_s0), (sI v34_s0), (sI v38_s0), (sR yw59), (sJ wp2), .second, (sR yw59)] [])) _
   refine XS.aload X61.here hx rfl (hb hby at_336) rfl rfl ?_
   exact kt
  obtain ⟨cq62, kq62, q62a, q62b, q62c⟩ := isOf hZ e61 E_w
  obtain ⟨_, _, ⟨T62, L62, k62, n62⟩, -, X62, ⟨Lc62, hQ62, l62, y62, z62⟩, st62⟩ := X61.virtualBack hx (y := mn0) (z := mn0) hown (mvT hZ (hw _ (ix 163 rfl))) (mvT hZ (hw _ (ix 155 rfl))) (notFace_of_selects (args := #[]) (mvT hZ (hw _ (ix 157 rfl)))) (mvT hZ (hw _ (ix 157 rfl))) (mvT hZ (hw _ (ix 156 rfl))) (by decide) (backOf (W := 0) (rm1 l Z aa hw [] yw59 wp2 hh18 n0 O18 E_w F_w) hZ (hw _ (ix 158 rfl)) (hw _ (ix 126 rfl)) (by decide) (by decide)) q62a q62c (g := (mkF m 338 #[(sI fl), (sJ p0), .second, (sJ p1), .second, (sJ p2), .second, (sR v1_s0), (sI u5), (sI u6), (sR b7), .val (vo o0), .val (vo o1), .val (vo o2), (sI rm), (sJ gn), .second, (sI v30_s0), (sI v34_s0), (sI v38_s0), (sR yw59), (sJ wp2), .second, (sR yw59)] [(.ref yw59)])) rfl (sz hml) (Steps.refl _) (argsL := []) (rest := []) (lenOf pd_ocJ rfl) rfl le0 (hb hby at_338) (fun _ _ => ⟨rfl, e61, (by decide : 12 + 0 ≤ _), (by decide : 554 + 0 ≤ _)⟩)
  dsimp only [Pt.U, Pt.locs, Pt.cells, Pt.slots] at X62 l62 y62 z62 st62 hQ62
  subst l62 y62 z62
  obtain ⟨rfl, rfl, e62⟩ := hQ62
  try rw [List.append_nil] at X62
  refine gu (T62.setTop (mkF m 341 #[(sI fl), (sJ p0), .second, (sJ p1), .second, (sJ p2), .second, (sR v1_s0), (sI u5), (sI u6), (sR b7), .val (vo o0), .val (vo o1), .val (vo o2), (sI rm), (sJ gn), .second, (sI v30_s0), (sI v34_s0), (sI v38_s0), (sR yw59), (sJ wp2), .second, (sR yw59)] [(.long wp2)])) (fun t kt => st62.trans kt) ?_
  refine gu (T62.setTop (mkF m 352 #[(sI fl), (sJ p0), .second, (sJ p1), .second, (sJ p2), .second, (sR v1_s0), (sI u5), (sI u6), (sR b7), .val (vo o0), .val (vo o1), .val (vo o2), (sI rm), (sJ gn), .second, (sI v30_s0), (sI v34_s0), (sI v38_s0), (sR yw59), (sJ wp2), .second, (sR yw59)] [(.int (1 : Int32))])) (fun t kt => ?_) ?_
  ·refine XS.lload X62.here hx rfl (hb hby at_341) rfl ?_
   show Steps _ _ _ (T62.setTop (mkF m 343 #[(sI fl), (sJ p0), .second, (sJ p1), .second, (sJ p2), .second, (sR v1_s0), (sI u5), (sI u6), (sR b7), .val (vo o0), .val (vo o1), .val (vo o2), (sI rm), (sJ gn), .second, (sI v30_s0), (sI v34_s0), (sI v38_s0), (sR yw59), (sJ wp2), .second, (sR yw59)] [(.long wp2), (.long wp2)])) _
   refine XS.lcmp X62.here hx rfl (hb hby at_343) rfl ?_
   show Steps _ _ _ (T62.setTop (mkF m 344 #[(sI fl), (sJ p0), .second, (sJ p1), .second, (sJ p2), .second, (sR v1_s0), (sI u5), (sI u6), (sR b7), .val (vo o0), .val (vo o1), .val (vo o2), (sI rm), (sJ gn), .second, (sI v30_s0), (sI v34_s0), (sI v38_s0), (sR yw59), (sJ wp2), .second, (sR yw59)] [(.int (lcmpW wp2 wp2))])) _
   refine XS.ifNo X62.here hx rfl (hb hby at_344) rfl (jc_ne_f (rfl : wp2 = wp2)) ?_
   show Steps _ _ _ (T62.setTop (mkF m 347 #[(sI fl), (sJ p0), .second, (sJ p1), .second, (sJ p2), .second, (sR v1_s0), (sI u5), (sI u6), (sR b7), .val (vo o0), .val (vo o1), .val (vo o2), (sI rm), (sJ gn), .second, (sI v30_s0), (sI v34_s0), (sI v38_s0), (sR yw59), (sJ wp2), .second, (sR yw59)] [])) _
   refine XS.iconst X62.here hx rfl (hb hby at_347) ?_
   show Steps _ _ _ (T62.setTop (mkF m 348 #[(sI fl), (sJ p0), .second, (sJ p1), .second, (sJ p2), .second, (sR v1_s0), (sI u5), (sI u6), (sR b7), .val (vo o0), .val (vo o1), .val (vo o2), (sI rm), (sJ gn), .second, (sI v30_s0), (sI v34_s0), (sI v38_s0), (sR yw59), (sJ wp2), .second, (sR yw59)] [(.int (1 : Int32))])) _
   refine XS.goto X62.here hx rfl (pc0 := 348) (pc' := 352) rfl (hb hby at_348) (by decide) (by decide) ?_
   exact kt
  refine Gl.retN X62 hx hlk (t := .boolean) Bd.returns (by simp) (hb hby at_352) (w := (1 : Int32)) rfl ?_ (by decide) (by decide)
  exact ⟨rfl, N18⟩
set_option maxRecDepth 65536 in
set_option maxHeartbeats 40000000 in
theorem comes_1 {Post : Tables → Env → Array Value → State → Outcome → State → Prop} (hpost : ∀ tb e args s v u, (limb_1_1.after args s (.returned v) u = true ∧ limb_1_2.after args s (.returned v) u = true) → FrameEnd s (.returned v) u (Jvm.fieldLocs frame_1_writes args s ++ Jvm.arrayLocs frame_1_arrays args s ++ Jvm.staticLocs frame_1_statics s) 32 1216 → Post tb e args s (.returned v) u) :
  ArmFor flags0 classFile x code maxLocals ret World_1 tables_1 room_1 Calls_1 rest_1 Pre_1 Post := by
 intro l hfl _ _ p e ha hc hk s m args below hf hA hF happ hP
 obtain ⟨hcalls, hrest, hpre⟩ := hP
 obtain ⟨-, -, -, hnamed, -, -, -, hat⟩ := (Spec.applies_iff hf).mp happ
 obtain ⟨hg, hn⟩ := and_e (Cond.before_iff.mp (show (Jvm.Cond.and given_1 narrow_1).before args s = true from hpre))
 obtain ⟨hcnt, hg0⟩ := and_e hg
 obtain ⟨ha0, hg1⟩ := and_e hg0
 obtain ⟨ha1, hg2⟩ := and_e hg1
 obtain ⟨ha2, hg3⟩ := and_e hg2
 obtain ⟨w0, w1, w2, w3, rfl⟩ : ∃ w0 w1 w2 w3 : Value, args = #[w0, w1, w2, w3] := by
  have hs : args.size = 4 := by simpa [Cond.value, given_1] using hcnt
  obtain ⟨L⟩ := args
  match L, hs with
  | [w0, w1, w2, w3], _ => exact ⟨w0, w1, w2, w3, rfl⟩
 have hw := fun d (hd : d ∈ tables_1) => atoms_spec (ws := Jvm.Cond.code x code maxLocals ret :: tables_1) hat d (List.mem_cons_of_mem _ hd)
 obtain ⟨i0, ei0⟩ := is_v ha0
 obtain rfl : w0 = (.int i0) := Option.some.inj ei0
 obtain ⟨i1, ei1⟩ := isL_v ha1
 obtain rfl : w1 = (.long i1) := Option.some.inj ei1
 obtain ⟨i2, ei2⟩ := isL_v ha2
 obtain rfl : w2 = (.long i2) := Option.some.inj ei2
 obtain ⟨i3, ei3⟩ := isL_v hg3
 obtain rfl : w3 = (.long i3) := Option.some.inj ei3
 obtain ⟨hnS, hn1⟩ := and_e hn
 obtain ⟨hnB, -⟩ := and_e hn1
 obtain ⟨wS, evS, -⟩ := own_exa hnS
 obtain ⟨wB, evB, -⟩ := own_exa hnB
 have hr0 := Cond.before_iff.mp (show rest_1_c.before _ s = true from hrest)
 obtain ⟨r0, hr1⟩ := and_e hr0
 obtain ⟨r1, hr2⟩ := and_e hr1
 obtain ⟨r2, hr3⟩ := and_e hr2
 obtain ⟨r3, hr4⟩ := and_e hr3
 obtain ⟨r4, hr5⟩ := and_e hr4
 obtain ⟨r5, hr6⟩ := and_e hr5
 obtain ⟨r6, hr7⟩ := and_e hr6
 obtain ⟨r7, -⟩ := and_e hr7
 obtain ⟨wN, evN, -⟩ := own_exa r2
 obtain ⟨wR, evR, -⟩ := own_exa r7
 have S_wS := Sta.start evS (Or.inr ⟨(hw _ (ix 1 rfl)), (hw _ (ix 2 rfl))⟩)
 have S_wB := Sta.start evB (Or.inr ⟨(hw _ (ix 1 rfl)), (hw _ (ix 38 rfl))⟩)
 have S_wN := Sta.start evN (Or.inl (Cond.before_iff.mpr r1))
 have S_wR := Sta.start evR (Or.inl (Cond.before_iff.mpr r6))
 obtain ⟨n, o, h1, h2, h3, _, L, rfl, ⟨rfl, N⟩, hq⟩ := rm0 l s _ hw tables_1 i0 i1 i2 i3 wS wB wN wR s.heap s.heap.size (Old.start s) S_wS S_wB S_wN S_wR p e ha hc hk s m _ below hf ((Spec.applies_iff_loose hf).mp happ).1 ⟨rfl, State.Warmed39.refl s, rfl⟩ trivial
 exact ⟨n, _, h1, h2, h3, hpost _ _ _ _ _ _ ⟨Cond.after_iff.mpr rfl, Cond.after_iff.mpr (eq_i res_at (Term.int_eval (1)) rfl)⟩ ⟨hq.1, hq.2.1, (hq.2.2.sift fun y hy => Or.inr (N y hy)).mono (by decide) (by decide)⟩⟩
theorem main_1_1 : Claimed_1_1 := comes_1 fun _ _ _ _ _ _ h hF => ⟨h.1, (Jvm.RoadKit.wide hF)⟩
theorem main_1_2 : Claimed_1_2 := comes_1 fun _ _ _ _ _ _ h hF => ⟨h.2, (Jvm.RoadKit.wide hF)⟩
end Jvm.Pilot.@@N@@
namespace Jvm.Pilot.@@N@@
open Jvm Jvm.ClassFile Sem Op Lib Jvm.Free Jvm.Stand Jvm.Pilot.@@N@@.Jvm.D
/-! MADE BY PROGRAM (witnessworld.py) out of the Statement's table words and the real class files: 38 classes; the members and pool entries that the words name. The judged class is class 1, her method 1. -/
namespace start1
open Jvm.ClassFile
def u (s : String) : CpInfo := .utf8 (stringToUtf16 s)
/-- a pool by its gaps: so many unusable entries, then the entry; so many at the end -/
def gap : Nat → List CpInfo → List CpInfo
  | 0, r => r
  | n + 1, r => .unusable :: gap n r
def poolList (es : List (Nat × CpInfo)) (last : Nat) : List CpInfo := es.foldr (fun e r => gap e.1 (e.2 :: r)) (gap last [])
def pool (es : List (Nat × CpInfo)) (last : Nat) : Array CpInfo := ⟨poolList es last⟩
def fileOf (pool : Array CpInfo) (this : Nat) (attrs : Array Attribute := #[]) (ms : Array MethodInfo := #[]) (fl : Nat := 33) (sup : Nat := 0) (ifs : Array Nat := #[]) (fds : Array FieldInfo := #[]) : ClassFile where
  minorVersion := 0
  majorVersion := 65
  constantPool := pool
  accessFlags := fl
  thisClass := this
  superClass := sup
  interfaces := ifs
  fields := fds
  methods := ms
  attributes := attrs
def plain (name : String) (sup : Option ClassId) : Class where
  name := name
  kind := .ordinary
  loader := none
  accessFlags := 33
  super := sup
  interfaces := #[]
  cf := none
  fields := #[]
  methods := #[]
  instanceTypes := #[]
  staticTypes := #[]
  resolved := #[]
  callSites := []
  init := .initialized
  statics := none
  mirror := none

def pool0 : Array CpInfo := pool [(5, u "<init>"), (0, u "()V"), (1, .class_ 10), (1, u "java/lang/Object")] 113

def k0c0 : Code := { maxStack := 0, maxLocals := 1, code := object_method_1_code, exceptionTable := #[], attributes := #[] }
def k0m0 : Method := { name := "<init>", desc := "()V", sig := { parameters := [], returnType := none }, accessFlags := 1, code := some k0c0 }
/-- java/lang/Object -/
def k0 : Class := { plain "java/lang/Object" none with
  accessFlags := 33
  interfaces := #[]
  cf := some (fileOf pool0 8 #[] #[{ accessFlags := 1, nameIndex := 5, descriptorIndex := 6, attributes := #[] }] 33 0 #[] #[])
  fields := #[]
  methods := #[k0m0]
  instanceTypes := #[]
  staticTypes := #[]
  resolved := Array.replicate 124 none
  statics := none }

def pool1 : Array CpInfo := pool [(2, .class_ 4), (1, u "java/lang/Object"), (0, u "<init>"), (0, u "()V"), (0, .fieldref 8 9), (0, .class_ 10), (0, .nameAndType 11 12), (0, u "com/example/openvenue/openvenue/core/Side"), (0, u "BUY"), (0, u "Lcom/example/openvenue/openvenue/core/Side;"), (0, .fieldref 8 14), (0, .nameAndType 15 12), (0, u "SELL"), (0, .class_ 17), (0, u "com/example/openvenue/openvenue/core/BookSide"), (0, .methodref 16 19), (0, .nameAndType 5 20), (0, u "(Lcom/example/openvenue/openvenue/core/Side;)V"), (0, .methodref 16 22), (0, .nameAndType 23 24), (0, u "levelAt"), (0, u "(J)Lcom/example/openvenue/openvenue/core/PriceLevel;"), (0, .methodref 16 26), (0, .nameAndType 27 28), (0, u "remove"), (0, u "(Lcom/example/openvenue/openvenue/core/PriceLevel;)V"), (0, .methodref 30 31), (0, .class_ 32), (0, .nameAndType 33 34), (0, u "com/example/openvenue/openvenue/core/BookSideBestPinLaw"), (0, u "better"), (0, u "(Lcom/example/openvenue/openvenue/core/Side;JJ)Z"), (0, .methodref 16 36), (0, .nameAndType 37 38), (0, u "best"), (0, u "()Lcom/example/openvenue/openvenue/core/PriceLevel;"), (0, .methodref 40 41), (0, .class_ 42), (0, .nameAndType 43 44), (0, u "com/example/openvenue/openvenue/core/PriceLevel"), (0, u "price"), (0, u "()J"), (2, u "law"), (0, u "(IJJJ)Z")] 3

def k1m0 : Method := { name := "<init>", desc := "()V", sig := { parameters := [], returnType := none }, accessFlags := 1, code := none }
def k1c1 : Code := { maxStack := 5, maxLocals := 24, code := code, exceptionTable := #[], attributes := #[] }
def k1m1 : Method := { name := "law", desc := "(IJJJ)Z", sig := { parameters := [.int, .long, .long, .long], returnType := some .boolean }, accessFlags := 9, code := some k1c1 }
def k1c2 : Code := { maxStack := 4, maxLocals := 5, code := method_3_code, exceptionTable := #[], attributes := #[] }
def k1m2 : Method := { name := "better", desc := "(Lcom/example/openvenue/openvenue/core/Side;JJ)Z", sig := { parameters := [(.object "com/example/openvenue/openvenue/core/Side"), .long, .long], returnType := some .boolean }, accessFlags := 10, code := some k1c2 }
/-- com/example/openvenue/openvenue/core/BookSideBestPinLaw -/
def k1 : Class := { plain "com/example/openvenue/openvenue/core/BookSideBestPinLaw" (some 0) with
  accessFlags := 49
  interfaces := #[]
  cf := some (fileOf pool1 30 #[] #[{ accessFlags := 1, nameIndex := 5, descriptorIndex := 6, attributes := #[] }, { accessFlags := 9, nameIndex := 47, descriptorIndex := 48, attributes := #[] }, { accessFlags := 10, nameIndex := 33, descriptorIndex := 34, attributes := #[] }] 49 2 #[] #[])
  fields := #[]
  methods := #[k1m0, k1m1, k1m2]
  instanceTypes := #[]
  staticTypes := #[]
  resolved := Array.replicate 52 none
  statics := none }

def pool2 : Array CpInfo := pool [(1, .class_ 2), (0, u "java/lang/constant/Constable"), (0, .class_ 4), (0, u "java/lang/Object")] 6

/-- java/lang/constant/Constable -/
def k2 : Class := { plain "java/lang/constant/Constable" (some 0) with
  accessFlags := 1537
  interfaces := #[]
  cf := some (fileOf pool2 1 #[] #[] 1537 3 #[] #[])
  fields := #[]
  methods := #[]
  instanceTypes := #[]
  staticTypes := #[]
  resolved := Array.replicate 11 none
  statics := none }

def pool3 : Array CpInfo := pool [(1, .class_ 2), (0, u "java/lang/Comparable"), (0, .class_ 4), (0, u "java/lang/Object")] 7

/-- java/lang/Comparable -/
def k3 : Class := { plain "java/lang/Comparable" (some 0) with
  accessFlags := 1537
  interfaces := #[]
  cf := some (fileOf pool3 1 #[] #[] 1537 3 #[] #[])
  fields := #[]
  methods := #[]
  instanceTypes := #[]
  staticTypes := #[]
  resolved := Array.replicate 12 none
  statics := none }

def pool4 : Array CpInfo := pool [(1, .class_ 2), (0, u "java/io/Serializable"), (0, .class_ 4), (0, u "java/lang/Object")] 2

/-- java/io/Serializable -/
def k4 : Class := { plain "java/io/Serializable" (some 0) with
  accessFlags := 1537
  interfaces := #[]
  cf := some (fileOf pool4 1 #[] #[] 1537 3 #[] #[])
  fields := #[]
  methods := #[]
  instanceTypes := #[]
  staticTypes := #[]
  resolved := Array.replicate 7 none
  statics := none }

def pool5 : Array CpInfo := pool [(2, .class_ 4), (1, u "java/lang/Enum"), (0, u "name"), (0, u "Ljava/lang/String;"), (2, u "ordinal"), (0, u "I"), (1, .class_ 14), (1, u "java/lang/Object"), (4, u "hash"), (86, .class_ 108), (1, u "java/lang/Enum$EnumDesc"), (2, .class_ 112), (0, u "java/lang/constant/Constable"), (0, .class_ 114), (0, u "java/lang/Comparable"), (0, .class_ 116), (0, u "java/io/Serializable")] 87

/-- java/lang/Enum -/
def k5 : Class := { plain "java/lang/Enum" (some 0) with
  accessFlags := 1057
  interfaces := #[2, 3, 4]
  cf := some (fileOf pool5 2 #[.nestMembers #[106]] #[] 1057 12 #[111, 113, 115] #[{ accessFlags := 18, nameIndex := 5, descriptorIndex := 6, attributes := #[] }, { accessFlags := 18, nameIndex := 9, descriptorIndex := 10, attributes := #[] }, { accessFlags := 2, nameIndex := 19, descriptorIndex := 10, attributes := #[] }])
  fields := #[{ name := "name", type := (.object "java/lang/String"), accessFlags := 18, slot := 0, constantValue := 0 }, { name := "ordinal", type := .int, accessFlags := 18, slot := 1, constantValue := 0 }, { name := "hash", type := .int, accessFlags := 2, slot := 2, constantValue := 0 }]
  methods := #[]
  instanceTypes := #[(.object "java/lang/String"), .int, .int]
  staticTypes := #[]
  resolved := Array.replicate 204 none
  statics := none }

def pool6 : Array CpInfo := pool [(1, .class_ 2), (0, u "com/example/openvenue/openvenue/core/Side"), (2, u "BUY"), (0, u "Lcom/example/openvenue/openvenue/core/Side;"), (2, u "SELL"), (2, u "$VALUES"), (0, u "[Lcom/example/openvenue/openvenue/core/Side;"), (6, .class_ 22), (1, u "java/lang/Enum"), (8, u "letter"), (0, u "C")] 25

/-- com/example/openvenue/openvenue/core/Side -/
def k6 : Class := { plain "com/example/openvenue/openvenue/core/Side" (some 5) with
  accessFlags := 16433
  interfaces := #[]
  cf := some (fileOf pool6 1 #[] #[] 16433 20 #[] #[{ accessFlags := 16409, nameIndex := 5, descriptorIndex := 6, attributes := #[] }, { accessFlags := 16409, nameIndex := 9, descriptorIndex := 6, attributes := #[] }, { accessFlags := 18, nameIndex := 31, descriptorIndex := 32, attributes := #[] }, { accessFlags := 4122, nameIndex := 12, descriptorIndex := 13, attributes := #[] }])
  fields := #[{ name := "BUY", type := (.object "com/example/openvenue/openvenue/core/Side"), accessFlags := 16409, slot := 0, constantValue := 0 }, { name := "SELL", type := (.object "com/example/openvenue/openvenue/core/Side"), accessFlags := 16409, slot := 1, constantValue := 0 }, { name := "letter", type := .char, accessFlags := 18, slot := 3, constantValue := 0 }, { name := "$VALUES", type := (.array (.object "com/example/openvenue/openvenue/core/Side")), accessFlags := 4122, slot := 2, constantValue := 0 }]
  methods := #[]
  instanceTypes := #[(.object "java/lang/String"), .int, .int, .char]
  staticTypes := #[(.object "com/example/openvenue/openvenue/core/Side"), (.object "com/example/openvenue/openvenue/core/Side"), (.array (.object "com/example/openvenue/openvenue/core/Side"))]
  resolved := Array.replicate 58 none
  statics := some 0 }

def pool7 : Array CpInfo := pool [(1, .methodref 2 3), (0, .class_ 4), (0, .nameAndType 5 6), (0, u "java/lang/Object"), (0, u "<init>"), (0, u "()V"), (0, .class_ 8), (0, u "com/example/openvenue/openvenue/core/BookSide"), (0, .class_ 10), (0, u "com/example/openvenue/openvenue/core/PriceLevel"), (0, .fieldref 7 12), (0, .nameAndType 13 14), (0, u "levels"), (0, u "[Lcom/example/openvenue/openvenue/core/PriceLevel;"), (0, .fieldref 7 16), (0, .nameAndType 17 18), (0, u "prices"), (0, u "[J"), (0, .class_ 20), (0, u "com/example/openvenue/openvenue/core/BookSide$BestFirst"), (0, .methodref 19 22), (0, .nameAndType 5 23), (0, u "(Lcom/example/openvenue/openvenue/core/BookSide;)V"), (0, .fieldref 7 25), (0, .nameAndType 26 27), (0, u "bestFirst"), (0, u "Ljava/util/Collection;"), (0, .fieldref 7 29), (0, .nameAndType 30 31), (0, u "side"), (0, u "Lcom/example/openvenue/openvenue/core/Side;"), (0, .fieldref 33 34), (0, .class_ 35), (0, .nameAndType 36 31), (0, u "com/example/openvenue/openvenue/core/Side"), (0, u "BUY"), (0, .interfaceMethodref 38 39), (0, .class_ 40), (0, .nameAndType 41 42), (0, u "java/util/Comparator"), (0, u "reverseOrder"), (0, u "()Ljava/util/Comparator;"), (0, .interfaceMethodref 38 44), (0, .nameAndType 45 42), (0, u "naturalOrder"), (0, .class_ 47), (0, u "java/util/TreeMap"), (0, .methodref 46 49), (0, .nameAndType 5 50), (0, u "(Ljava/util/Comparator;)V"), (0, .fieldref 7 52), (0, .nameAndType 53 54), (0, u "deeper"), (0, u "Ljava/util/NavigableMap;"), (0, .invokeDynamic 0 56), (0, .nameAndType 57 58), (0, u "apply"), (0, u "(Lcom/example/openvenue/openvenue/core/Side;)Ljava/util/function/Function;"), (0, .fieldref 7 60), (0, .nameAndType 61 62), (0, u "newLevel"), (0, u "Ljava/util/function/Function;"), (0, .fieldref 7 64), (0, .nameAndType 65 66), (0, u "count"), (0, u "I"), (0, .methodref 7 68), (0, .nameAndType 69 70), (0, u "isDeeper"), (0, u "(J)Z"), (0, .methodref 7 72), (0, .nameAndType 73 74), (0, u "indexOf"), (0, u "(J)I"), (0, .methodref 7 76), (0, .nameAndType 77 78), (0, u "insert"), (0, u "(IJ)Lcom/example/openvenue/openvenue/core/PriceLevel;"), (10, .class_ 91), (1, u "java/util/NavigableMap"), (2, .methodref 9 95), (0, .nameAndType 96 97), (0, u "price"), (0, u "()J"), (2, u "remove"), (0, u "(Ljava/lang/Object;)Ljava/lang/Object;"), (0, .methodref 103 104), (0, .class_ 105), (0, .nameAndType 106 107), (0, u "java/lang/System"), (0, u "arraycopy"), (0, u "(Ljava/lang/Object;ILjava/lang/Object;II)V"), (0, .interfaceMethodref 89 109), (0, .nameAndType 110 111), (0, u "isEmpty"), (0, u "()Z"), (3, .methodref 7 116), (0, .nameAndType 117 118), (0, u "isWorse"), (0, u "(JJ)Z"), (0, .methodref 9 120), (0, .nameAndType 5 121), (0, u "(Lcom/example/openvenue/openvenue/core/Side;J)V"), (33, u "ARRAY_LEVELS"), (6, u "(Lcom/example/openvenue/openvenue/core/Side;)V"), (3, u "best"), (0, u "()Lcom/example/openvenue/openvenue/core/PriceLevel;"), (2, u "levelAt"), (0, u "(J)Lcom/example/openvenue/openvenue/core/PriceLevel;"), (0, u "(Lcom/example/openvenue/openvenue/core/PriceLevel;)V"), (0, u "lambda$new$0"), (0, u "(Lcom/example/openvenue/openvenue/core/Side;Ljava/lang/Long;)Lcom/example/openvenue/openvenue/core/PriceLevel;"), (3, .class_ 179), (0, u "com/example/openvenue/openvenue/core/BookSide$BestFirst$1"), (1, .methodType 101), (0, .methodHandle 6 183), (0, .methodref 7 184), (0, .nameAndType 173 174), (0, .methodType 186), (0, u "(Ljava/lang/Long;)Lcom/example/openvenue/openvenue/core/PriceLevel;"), (0, .methodHandle 6 188), (0, .methodref 189 190), (0, .class_ 191), (0, .nameAndType 192 193), (0, u "java/lang/invoke/LambdaMetafactory"), (0, u "metafactory"), (0, u "(Ljava/lang/invoke/MethodHandles$Lookup;Ljava/lang/String;Ljava/lang/invoke/MethodType;Ljava/lang/invoke/MethodType;Ljava/lang/invoke/MethodHandle;Ljava/lang/invoke/MethodType;)Ljava/lang/invoke/CallSite;")] 10

def k7c0 : Code := { maxStack := 4, maxLocals := 3, code := prog_44_method_1_code, exceptionTable := #[], attributes := #[] }
def k7m0 : Method := { name := "<init>", desc := "(Lcom/example/openvenue/openvenue/core/Side;)V", sig := { parameters := [(.object "com/example/openvenue/openvenue/core/Side")], returnType := none }, accessFlags := 0, code := some k7c0 }
def k7c1 : Code := { maxStack := 3, maxLocals := 1, code := prog_44_method_2_code, exceptionTable := #[], attributes := #[] }
def k7m1 : Method := { name := "best", desc := "()Lcom/example/openvenue/openvenue/core/PriceLevel;", sig := { parameters := [], returnType := some (.object "com/example/openvenue/openvenue/core/PriceLevel") }, accessFlags := 0, code := some k7c1 }
def k7c2 : Code := { maxStack := 4, maxLocals := 4, code := prog_44_method_4_code, exceptionTable := #[], attributes := #[] }
def k7m2 : Method := { name := "levelAt", desc := "(J)Lcom/example/openvenue/openvenue/core/PriceLevel;", sig := { parameters := [.long], returnType := some (.object "com/example/openvenue/openvenue/core/PriceLevel") }, accessFlags := 0, code := some k7c2 }
def k7c3 : Code := { maxStack := 6, maxLocals := 3, code := prog_44_method_5_code, exceptionTable := #[], attributes := #[] }
def k7m3 : Method := { name := "remove", desc := "(Lcom/example/openvenue/openvenue/core/PriceLevel;)V", sig := { parameters := [(.object "com/example/openvenue/openvenue/core/PriceLevel")], returnType := none }, accessFlags := 0, code := some k7c3 }
def k7c4 : Code := { maxStack := 5, maxLocals := 3, code := prog_44_method_6_code, exceptionTable := #[], attributes := #[] }
def k7m4 : Method := { name := "isDeeper", desc := "(J)Z", sig := { parameters := [.long], returnType := some .boolean }, accessFlags := 2, code := some k7c4 }
def k7c5 : Code := { maxStack := 6, maxLocals := 5, code := prog_44_method_7_code, exceptionTable := #[], attributes := #[] }
def k7m5 : Method := { name := "insert", desc := "(IJ)Lcom/example/openvenue/openvenue/core/PriceLevel;", sig := { parameters := [.int, .long], returnType := some (.object "com/example/openvenue/openvenue/core/PriceLevel") }, accessFlags := 2, code := some k7c5 }
def k7c6 : Code := { maxStack := 5, maxLocals := 7, code := prog_44_method_10_code, exceptionTable := #[], attributes := #[] }
def k7m6 : Method := { name := "indexOf", desc := "(J)I", sig := { parameters := [.long], returnType := some .int }, accessFlags := 2, code := some k7c6 }
def k7c7 : Code := { maxStack := 4, maxLocals := 5, code := prog_44_method_11_code, exceptionTable := #[], attributes := #[] }
def k7m7 : Method := { name := "isWorse", desc := "(JJ)Z", sig := { parameters := [.long, .long], returnType := some .boolean }, accessFlags := 2, code := some k7c7 }
def k7c8 : Code := { maxStack := 5, maxLocals := 2, code := ⟨#[0xbb, 0x00, 0x09, 0x59, 0x2a, 0x2b, 0xb6, 0x00, 0x98, 0xb7, 0x00, 0x77, 0xb0]⟩, exceptionTable := #[], attributes := #[] }
def k7m8 : Method := { name := "lambda$new$0", desc := "(Lcom/example/openvenue/openvenue/core/Side;Ljava/lang/Long;)Lcom/example/openvenue/openvenue/core/PriceLevel;", sig := { parameters := [(.object "com/example/openvenue/openvenue/core/Side"), (.object "java/lang/Long")], returnType := some (.object "com/example/openvenue/openvenue/core/PriceLevel") }, accessFlags := 4106, code := some k7c8 }
/-- com/example/openvenue/openvenue/core/BookSide -/
def k7 : Class := { plain "com/example/openvenue/openvenue/core/BookSide" (some 0) with
  accessFlags := 48
  interfaces := #[]
  cf := some (fileOf pool7 7 #[.nestMembers #[19, 178], .bootstrapMethods #[⟨187, #[181, 182, 185]⟩]] #[{ accessFlags := 0, nameIndex := 5, descriptorIndex := 162, attributes := #[] }, { accessFlags := 0, nameIndex := 166, descriptorIndex := 167, attributes := #[] }, { accessFlags := 0, nameIndex := 170, descriptorIndex := 171, attributes := #[] }, { accessFlags := 0, nameIndex := 100, descriptorIndex := 172, attributes := #[] }, { accessFlags := 2, nameIndex := 69, descriptorIndex := 70, attributes := #[] }, { accessFlags := 2, nameIndex := 77, descriptorIndex := 78, attributes := #[] }, { accessFlags := 2, nameIndex := 73, descriptorIndex := 74, attributes := #[] }, { accessFlags := 2, nameIndex := 117, descriptorIndex := 118, attributes := #[] }, { accessFlags := 4106, nameIndex := 173, descriptorIndex := 174, attributes := #[] }] 48 2 #[] #[{ accessFlags := 26, nameIndex := 155, descriptorIndex := 66, attributes := #[] }, { accessFlags := 18, nameIndex := 30, descriptorIndex := 31, attributes := #[] }, { accessFlags := 18, nameIndex := 13, descriptorIndex := 14, attributes := #[] }, { accessFlags := 18, nameIndex := 17, descriptorIndex := 18, attributes := #[] }, { accessFlags := 2, nameIndex := 65, descriptorIndex := 66, attributes := #[] }, { accessFlags := 18, nameIndex := 53, descriptorIndex := 54, attributes := #[] }, { accessFlags := 18, nameIndex := 61, descriptorIndex := 62, attributes := #[] }, { accessFlags := 18, nameIndex := 26, descriptorIndex := 27, attributes := #[] }])
  fields := #[{ name := "ARRAY_LEVELS", type := .int, accessFlags := 26, slot := 0, constantValue := 0 }, { name := "side", type := (.object "com/example/openvenue/openvenue/core/Side"), accessFlags := 18, slot := 0, constantValue := 0 }, { name := "levels", type := (.array (.object "com/example/openvenue/openvenue/core/PriceLevel")), accessFlags := 18, slot := 1, constantValue := 0 }, { name := "prices", type := (.array .long), accessFlags := 18, slot := 2, constantValue := 0 }, { name := "count", type := .int, accessFlags := 2, slot := 3, constantValue := 0 }, { name := "deeper", type := (.object "java/util/NavigableMap"), accessFlags := 18, slot := 4, constantValue := 0 }, { name := "newLevel", type := (.object "java/util/function/Function"), accessFlags := 18, slot := 5, constantValue := 0 }, { name := "bestFirst", type := (.object "java/util/Collection"), accessFlags := 18, slot := 6, constantValue := 0 }]
  methods := #[k7m0, k7m1, k7m2, k7m3, k7m4, k7m5, k7m6, k7m7, k7m8]
  instanceTypes := #[(.object "com/example/openvenue/openvenue/core/Side"), (.array (.object "com/example/openvenue/openvenue/core/PriceLevel")), (.array .long), .int, (.object "java/util/NavigableMap"), (.object "java/util/function/Function"), (.object "java/util/Collection")]
  staticTypes := #[.int]
  resolved := ((Array.replicate 204 none).setIfInBounds 21 (some (.method ⟨12, 0⟩))).setIfInBounds 19 (some (.cls 12))
  callSites := [(0, 71, .makes 37)]
  statics := none }

def pool8 : Array CpInfo := pool [(1, .methodref 2 3), (0, .class_ 4), (0, .nameAndType 5 6), (0, u "java/lang/Object"), (0, u "<init>"), (0, u "()V"), (0, .class_ 8), (0, u "com/example/openvenue/openvenue/core/QuantityTotal"), (0, .methodref 7 3), (0, .fieldref 11 12), (0, .class_ 13), (0, .nameAndType 14 15), (0, u "com/example/openvenue/openvenue/core/PriceLevel"), (0, u "quantity"), (0, u "Lcom/example/openvenue/openvenue/core/QuantityTotal;"), (0, .fieldref 11 17), (0, .nameAndType 18 19), (0, u "side"), (0, u "Lcom/example/openvenue/openvenue/core/Side;"), (0, .fieldref 11 21), (0, .nameAndType 22 23), (0, u "price"), (0, u "J"), (6, u "orderCount"), (2, u "head"), (0, u "Lcom/example/openvenue/openvenue/core/RestingOrder;"), (2, u "tail"), (20, u "(Lcom/example/openvenue/openvenue/core/Side;J)V"), (3, u "()J")] 11

def k8c0 : Code := { maxStack := 3, maxLocals := 4, code := prog_90_method_1_code, exceptionTable := #[], attributes := #[] }
def k8m0 : Method := { name := "<init>", desc := "(Lcom/example/openvenue/openvenue/core/Side;J)V", sig := { parameters := [(.object "com/example/openvenue/openvenue/core/Side"), .long], returnType := none }, accessFlags := 0, code := some k8c0 }
def k8c1 : Code := { maxStack := 2, maxLocals := 1, code := prog_90_method_3_code, exceptionTable := #[], attributes := #[] }
def k8m1 : Method := { name := "price", desc := "()J", sig := { parameters := [], returnType := some .long }, accessFlags := 1, code := some k8c1 }
/-- com/example/openvenue/openvenue/core/PriceLevel -/
def k8 : Class := { plain "com/example/openvenue/openvenue/core/PriceLevel" (some 0) with
  accessFlags := 49
  interfaces := #[]
  cf := some (fileOf pool8 11 #[] #[{ accessFlags := 0, nameIndex := 5, descriptorIndex := 58, attributes := #[] }, { accessFlags := 1, nameIndex := 22, descriptorIndex := 62, attributes := #[] }] 49 2 #[] #[{ accessFlags := 18, nameIndex := 18, descriptorIndex := 19, attributes := #[] }, { accessFlags := 18, nameIndex := 22, descriptorIndex := 23, attributes := #[] }, { accessFlags := 18, nameIndex := 14, descriptorIndex := 15, attributes := #[] }, { accessFlags := 2, nameIndex := 30, descriptorIndex := 23, attributes := #[] }, { accessFlags := 2, nameIndex := 33, descriptorIndex := 34, attributes := #[] }, { accessFlags := 2, nameIndex := 37, descriptorIndex := 34, attributes := #[] }])
  fields := #[{ name := "side", type := (.object "com/example/openvenue/openvenue/core/Side"), accessFlags := 18, slot := 0, constantValue := 0 }, { name := "price", type := .long, accessFlags := 18, slot := 1, constantValue := 0 }, { name := "quantity", type := (.object "com/example/openvenue/openvenue/core/QuantityTotal"), accessFlags := 18, slot := 2, constantValue := 0 }, { name := "orderCount", type := .long, accessFlags := 2, slot := 3, constantValue := 0 }, { name := "head", type := (.object "com/example/openvenue/openvenue/core/RestingOrder"), accessFlags := 2, slot := 4, constantValue := 0 }, { name := "tail", type := (.object "com/example/openvenue/openvenue/core/RestingOrder"), accessFlags := 2, slot := 5, constantValue := 0 }]
  methods := #[k8m0, k8m1]
  instanceTypes := #[(.object "com/example/openvenue/openvenue/core/Side"), .long, (.object "com/example/openvenue/openvenue/core/QuantityTotal"), .long, (.object "com/example/openvenue/openvenue/core/RestingOrder"), (.object "com/example/openvenue/openvenue/core/RestingOrder")]
  staticTypes := #[]
  resolved := Array.replicate 74 none
  statics := none }

def pool9 : Array CpInfo := pool [(8, .class_ 10), (1, u "java/lang/Iterable"), (24, .class_ 36), (0, u "java/lang/Object")] 25

/-- java/lang/Iterable -/
def k9 : Class := { plain "java/lang/Iterable" (some 0) with
  accessFlags := 1537
  interfaces := #[]
  cf := some (fileOf pool9 8 #[] #[] 1537 35 #[] #[])
  fields := #[]
  methods := #[]
  instanceTypes := #[]
  staticTypes := #[]
  resolved := Array.replicate 62 none
  statics := none }

def pool10 : Array CpInfo := pool [(10, .class_ 12), (1, u "java/util/Collection"), (47, .class_ 61), (0, u "java/lang/Object"), (0, .class_ 63), (0, u "java/lang/Iterable")] 51

/-- java/util/Collection -/
def k10 : Class := { plain "java/util/Collection" (some 0) with
  accessFlags := 1537
  interfaces := #[9]
  cf := some (fileOf pool10 10 #[] #[] 1537 60 #[62] #[])
  fields := #[]
  methods := #[]
  instanceTypes := #[]
  staticTypes := #[]
  resolved := Array.replicate 115 none
  statics := none }

def pool11 : Array CpInfo := pool [(1, .methodref 2 3), (0, .class_ 4), (0, .nameAndType 5 6), (0, u "java/lang/Object"), (0, u "<init>"), (0, u "()V"), (1, .class_ 10), (1, u "java/util/AbstractCollection"), (66, .class_ 78), (0, u "java/util/Collection")] 81

def k11c0 : Code := { maxStack := 1, maxLocals := 1, code := jdk_22_method_1_code, exceptionTable := #[], attributes := #[] }
def k11m0 : Method := { name := "<init>", desc := "()V", sig := { parameters := [], returnType := none }, accessFlags := 4, code := some k11c0 }
/-- java/util/AbstractCollection -/
def k11 : Class := { plain "java/util/AbstractCollection" (some 0) with
  accessFlags := 1057
  interfaces := #[10]
  cf := some (fileOf pool11 8 #[] #[{ accessFlags := 4, nameIndex := 5, descriptorIndex := 6, attributes := #[] }] 1057 2 #[77] #[])
  fields := #[]
  methods := #[k11m0]
  instanceTypes := #[]
  staticTypes := #[]
  resolved := Array.replicate 160 none
  statics := none }

def pool12 : Array CpInfo := pool [(1, .fieldref 2 3), (0, .class_ 4), (0, .nameAndType 5 6), (0, u "com/example/openvenue/openvenue/core/BookSide$BestFirst"), (0, u "this$0"), (0, u "Lcom/example/openvenue/openvenue/core/BookSide;"), (0, .methodref 8 9), (0, .class_ 10), (0, .nameAndType 11 12), (0, u "java/util/AbstractCollection"), (0, u "<init>"), (0, u "()V"), (6, .class_ 21), (1, u "com/example/openvenue/openvenue/core/BookSide"), (12, u "(Lcom/example/openvenue/openvenue/core/BookSide;)V")] 13

def k12c0 : Code := { maxStack := 2, maxLocals := 2, code := prog_45_method_1_code, exceptionTable := #[], attributes := #[] }
def k12m0 : Method := { name := "<init>", desc := "(Lcom/example/openvenue/openvenue/core/BookSide;)V", sig := { parameters := [(.object "com/example/openvenue/openvenue/core/BookSide")], returnType := none }, accessFlags := 2, code := some k12c0 }
/-- com/example/openvenue/openvenue/core/BookSide$BestFirst -/
def k12 : Class := { plain "com/example/openvenue/openvenue/core/BookSide$BestFirst" (some 11) with
  accessFlags := 48
  interfaces := #[]
  cf := some (fileOf pool12 2 #[.nestHost 19] #[{ accessFlags := 2, nameIndex := 11, descriptorIndex := 34, attributes := #[] }] 48 8 #[] #[{ accessFlags := 4112, nameIndex := 5, descriptorIndex := 6, attributes := #[] }])
  fields := #[{ name := "this$0", type := (.object "com/example/openvenue/openvenue/core/BookSide"), accessFlags := 4112, slot := 0, constantValue := 0 }]
  methods := #[k12m0]
  instanceTypes := #[(.object "com/example/openvenue/openvenue/core/BookSide")]
  staticTypes := #[]
  resolved := Array.replicate 48 none
  statics := none }

def pool13 : Array CpInfo := pool [(2, .class_ 4), (1, u "java/util/Collections"), (0, u "reverseOrder"), (13, .class_ 20), (0, u "java/util/Comparator"), (22, .methodref 2 44), (0, .nameAndType 5 45), (0, u "()Ljava/util/Comparator;"), (0, .fieldref 47 48), (0, .class_ 49), (0, .nameAndType 50 51), (0, u "java/util/Comparators$NaturalOrderComparator"), (0, u "INSTANCE"), (0, u "Ljava/util/Comparators$NaturalOrderComparator;"), (53, .class_ 106), (0, u "java/lang/Object"), (117, u "naturalOrder")] 63

def k13c0 : Code := { maxStack := 1, maxLocals := 0, code := jdk_2515_method_10_code, exceptionTable := #[], attributes := #[] }
def k13m0 : Method := { name := "reverseOrder", desc := "()Ljava/util/Comparator;", sig := { parameters := [], returnType := some (.object "java/util/Comparator") }, accessFlags := 9, code := some k13c0 }
def k13c1 : Code := { maxStack := 1, maxLocals := 0, code := jdk_2515_method_11_code, exceptionTable := #[], attributes := #[] }
def k13m1 : Method := { name := "naturalOrder", desc := "()Ljava/util/Comparator;", sig := { parameters := [], returnType := some (.object "java/util/Comparator") }, accessFlags := 9, code := some k13c1 }
/-- java/util/Comparator -/
def k13 : Class := { plain "java/util/Comparator" (some 0) with
  accessFlags := 1537
  interfaces := #[]
  cf := some (fileOf pool13 19 #[] #[{ accessFlags := 9, nameIndex := 5, descriptorIndex := 45, attributes := #[] }, { accessFlags := 9, nameIndex := 224, descriptorIndex := 45, attributes := #[] }] 1537 105 #[] #[])
  fields := #[]
  methods := #[k13m0, k13m1]
  instanceTypes := #[]
  staticTypes := #[]
  resolved := Array.replicate 288 none
  statics := none }

def pool14 : Array CpInfo := pool [(1, .class_ 2), (0, u "java/util/Comparators$NaturalOrderComparator"), (2, u "INSTANCE"), (0, u "Ljava/util/Comparators$NaturalOrderComparator;"), (2, u "$VALUES"), (0, u "[Ljava/util/Comparators$NaturalOrderComparator;"), (6, .class_ 19), (1, u "java/lang/Enum"), (13, .class_ 35), (1, u "java/util/Comparator"), (37, .class_ 74), (0, u "java/util/Comparators")] 2

/-- java/util/Comparators$NaturalOrderComparator -/
def k14 : Class := { plain "java/util/Comparators$NaturalOrderComparator" (some 5) with
  accessFlags := 16432
  interfaces := #[13]
  cf := some (fileOf pool14 1 #[.nestHost 73] #[] 16432 17 #[33] #[{ accessFlags := 16409, nameIndex := 5, descriptorIndex := 6, attributes := #[] }, { accessFlags := 4122, nameIndex := 9, descriptorIndex := 10, attributes := #[] }])
  fields := #[{ name := "INSTANCE", type := (.object "java/util/Comparators$NaturalOrderComparator"), accessFlags := 16409, slot := 0, constantValue := 0 }, { name := "$VALUES", type := (.array (.object "java/util/Comparators$NaturalOrderComparator")), accessFlags := 4122, slot := 1, constantValue := 0 }]
  methods := #[]
  instanceTypes := #[(.object "java/lang/String"), .int, .int]
  staticTypes := #[(.object "java/util/Comparators$NaturalOrderComparator"), (.array (.object "java/util/Comparators$NaturalOrderComparator"))]
  resolved := Array.replicate 77 none
  statics := some 1 }

def pool15 : Array CpInfo := pool [(2, .class_ 4), (1, u "java/util/Map"), (26, u "()Z"), (4, .class_ 37), (0, u "java/util/Map$Entry"), (55, .class_ 94), (0, u "java/lang/Object"), (10, u "isEmpty")] 157

def k15m0 : Method := { name := "isEmpty", desc := "()Z", sig := { parameters := [], returnType := some .boolean }, accessFlags := 1025, code := none }
/-- java/util/Map -/
def k15 : Class := { plain "java/util/Map" (some 0) with
  accessFlags := 1537
  interfaces := #[]
  cf := some (fileOf pool15 2 #[.nestMembers #[36]] #[{ accessFlags := 1025, nameIndex := 105, descriptorIndex := 31, attributes := #[] }] 1537 93 #[] #[])
  fields := #[]
  methods := #[k15m0]
  instanceTypes := #[]
  staticTypes := #[]
  resolved := Array.replicate 263 none
  statics := none }

def pool16 : Array CpInfo := pool [(1, .methodref 2 3), (0, .class_ 4), (0, .nameAndType 5 6), (0, u "java/lang/Object"), (0, u "<init>"), (0, u "()V"), (1, .class_ 10), (1, u "java/util/AbstractMap"), (4, .nameAndType 17 18), (1, u "size"), (0, u "()I"), (0, .methodref 8 15), (9, u "()Z"), (23, .class_ 54), (0, u "java/util/Map"), (9, u "keySet"), (0, u "Ljava/util/Set;"), (0, .class_ 67), (0, u "java/util/AbstractMap$1"), (5, u "values"), (0, u "Ljava/util/Collection;"), (0, .class_ 76), (0, u "java/util/AbstractMap$2"), (47, u "isEmpty"), (56, .class_ 182), (0, u "java/util/AbstractMap$ViewCollection"), (0, .class_ 184), (0, u "java/util/AbstractMap$SimpleImmutableEntry"), (0, .class_ 186), (0, u "java/util/AbstractMap$SimpleEntry"), (0, .class_ 188), (0, u "java/util/AbstractMap$2$1"), (0, .class_ 190), (0, u "java/util/AbstractMap$1$1")] 5

def k16c0 : Code := { maxStack := 1, maxLocals := 1, code := jdk_71_method_1_code, exceptionTable := #[], attributes := #[] }
def k16m0 : Method := { name := "<init>", desc := "()V", sig := { parameters := [], returnType := none }, accessFlags := 4, code := some k16c0 }
def k16c1 : Code := { maxStack := 1, maxLocals := 1, code := ⟨#[0x2a, 0xb6, 0x00, 0x07, 0xb9, 0x00, 0x0d, 0x01, 0x00, 0xac]⟩, exceptionTable := #[], attributes := #[] }
def k16m1 : Method := { name := "size", desc := "()I", sig := { parameters := [], returnType := some .int }, accessFlags := 1, code := some k16c1 }
def k16c2 : Code := { maxStack := 1, maxLocals := 1, code := jdk_71_method_3_code, exceptionTable := #[], attributes := #[] }
def k16m2 : Method := { name := "isEmpty", desc := "()Z", sig := { parameters := [], returnType := some .boolean }, accessFlags := 1, code := some k16c2 }
/-- java/util/AbstractMap -/
def k16 : Class := { plain "java/util/AbstractMap" (some 0) with
  accessFlags := 1057
  interfaces := #[15]
  cf := some (fileOf pool16 8 #[.nestMembers #[181, 183, 185, 75, 187, 66, 189]] #[{ accessFlags := 4, nameIndex := 5, descriptorIndex := 6, attributes := #[] }, { accessFlags := 1, nameIndex := 17, descriptorIndex := 18, attributes := #[] }, { accessFlags := 1, nameIndex := 124, descriptorIndex := 29, attributes := #[] }] 1057 2 #[53] #[{ accessFlags := 128, nameIndex := 64, descriptorIndex := 65, attributes := #[] }, { accessFlags := 128, nameIndex := 73, descriptorIndex := 74, attributes := #[] }])
  fields := #[{ name := "keySet", type := (.object "java/util/Set"), accessFlags := 128, slot := 0, constantValue := 0 }, { name := "values", type := (.object "java/util/Collection"), accessFlags := 128, slot := 1, constantValue := 0 }]
  methods := #[k16m0, k16m1, k16m2]
  instanceTypes := #[(.object "java/util/Set"), (.object "java/util/Collection")]
  staticTypes := #[]
  resolved := Array.replicate 196 none
  statics := none }

def pool17 : Array CpInfo := pool [(2, .class_ 4), (1, u "java/util/SequencedMap"), (38, .class_ 44), (0, u "java/util/SequencedMap$1SeqKeySet"), (3, .class_ 49), (0, u "java/util/SequencedMap$1SeqValues"), (1, .class_ 52), (0, u "java/util/SequencedMap$1SeqEntrySet"), (1, .class_ 55), (0, u "java/lang/Object"), (0, .class_ 57), (0, u "java/util/Map")] 48

/-- java/util/SequencedMap -/
def k17 : Class := { plain "java/util/SequencedMap" (some 0) with
  accessFlags := 1537
  interfaces := #[15]
  cf := some (fileOf pool17 2 #[.nestMembers #[51, 48, 43]] #[] 1537 54 #[56] #[])
  fields := #[]
  methods := #[]
  instanceTypes := #[]
  staticTypes := #[]
  resolved := Array.replicate 106 none
  statics := none }

def pool18 : Array CpInfo := pool [(14, .class_ 16), (1, u "java/util/SortedMap"), (2, .class_ 20), (0, u "java/lang/Object"), (0, .class_ 22), (0, u "java/util/SequencedMap")] 50

/-- java/util/SortedMap -/
def k18 : Class := { plain "java/util/SortedMap" (some 0) with
  accessFlags := 1537
  interfaces := #[17]
  cf := some (fileOf pool18 14 #[] #[] 1537 19 #[21] #[])
  fields := #[]
  methods := #[]
  instanceTypes := #[]
  staticTypes := #[]
  resolved := Array.replicate 73 none
  statics := none }

def pool19 : Array CpInfo := pool [(2, .class_ 4), (1, u "java/util/NavigableMap"), (5, .class_ 11), (0, u "java/lang/Object"), (0, .class_ 13), (0, u "java/util/SortedMap")] 53

/-- java/util/NavigableMap -/
def k19 : Class := { plain "java/util/NavigableMap" (some 0) with
  accessFlags := 1537
  interfaces := #[18]
  cf := some (fileOf pool19 2 #[] #[] 1537 10 #[12] #[])
  fields := #[]
  methods := #[]
  instanceTypes := #[]
  staticTypes := #[]
  resolved := Array.replicate 67 none
  statics := none }

def pool20 : Array CpInfo := pool [(1, .class_ 2), (0, u "java/lang/Cloneable"), (0, .class_ 4), (0, u "java/lang/Object")] 2

/-- java/lang/Cloneable -/
def k20 : Class := { plain "java/lang/Cloneable" (some 0) with
  accessFlags := 1537
  interfaces := #[]
  cf := some (fileOf pool20 1 #[] #[] 1537 3 #[] #[])
  fields := #[]
  methods := #[]
  instanceTypes := #[]
  staticTypes := #[]
  resolved := Array.replicate 7 none
  statics := none }

def pool21 : Array CpInfo := pool [(1, .methodref 2 3), (0, .class_ 4), (0, .nameAndType 5 6), (0, u "java/util/AbstractMap"), (0, u "<init>"), (0, u "()V"), (0, .fieldref 8 9), (0, .class_ 10), (0, .nameAndType 11 12), (0, u "java/util/TreeMap"), (0, u "size"), (0, u "I"), (0, .fieldref 8 14), (0, .nameAndType 15 12), (0, u "modCount"), (0, .fieldref 8 17), (0, .nameAndType 18 19), (0, u "comparator"), (0, u "Ljava/util/Comparator;"), (11, u "()I"), (2, u "entrySet"), (24, .class_ 61), (1, u "java/util/TreeMap$Entry"), (1, u "Ljava/lang/Object;"), (39, u "root"), (0, u "Ljava/util/TreeMap$Entry;"), (85, u "Ljava/util/TreeMap$EntrySet;"), (2, u "navigableKeySet"), (0, u "Ljava/util/TreeMap$KeySet;"), (2, u "descendingMap"), (0, u "Ljava/util/NavigableMap;"), (23, .class_ 223), (0, u "java/util/TreeMap$KeySet"), (7, .class_ 232), (0, u "java/util/NavigableMap"), (4, .class_ 238), (0, u "java/util/TreeMap$Values"), (3, .class_ 243), (0, u "java/util/TreeMap$EntrySet"), (1, .class_ 246), (0, u "java/util/TreeMap$DescendingSubMap"), (3, .class_ 251), (0, u "java/util/TreeMap$AscendingSubMap"), (17, .class_ 270), (0, u "java/util/TreeMap$KeyIterator"), (3, .class_ 275), (0, u "java/util/TreeMap$DescendingKeyIterator"), (17, u "Z"), (94, .class_ 389), (0, u "java/util/TreeMap$NavigableSubMap"), (1, .class_ 392), (0, u "java/util/TreeMap$KeySpliterator"), (3, .class_ 397), (0, u "java/util/TreeMap$DescendingKeySpliterator"), (4, u "UNBOUNDED"), (0, .class_ 404), (0, u "java/lang/Cloneable"), (0, .class_ 406), (0, u "java/io/Serializable"), (6, u "RED"), (2, u "BLACK"), (1, u "serialVersionUID"), (0, u "J"), (8, u "(Ljava/util/Comparator;)V"), (205, .class_ 635), (0, u "java/util/TreeMap$EntrySpliterator"), (0, .class_ 637), (0, u "java/util/TreeMap$ValueSpliterator"), (0, .class_ 639), (0, u "java/util/TreeMap$TreeMapSpliterator"), (0, .class_ 641), (0, u "java/util/TreeMap$SubMap"), (0, .class_ 643), (0, u "java/util/TreeMap$DescendingSubMap$DescendingEntrySetView"), (0, .class_ 645), (0, u "java/util/TreeMap$AscendingSubMap$AscendingEntrySetView"), (0, .class_ 647), (0, u "java/util/TreeMap$NavigableSubMap$DescendingSubMapKeyIterator"), (0, .class_ 649), (0, u "java/util/TreeMap$NavigableSubMap$SubMapKeyIterator"), (0, .class_ 651), (0, u "java/util/TreeMap$NavigableSubMap$DescendingSubMapEntryIterator"), (0, .class_ 653), (0, u "java/util/TreeMap$NavigableSubMap$SubMapEntryIterator"), (0, .class_ 655), (0, u "java/util/TreeMap$NavigableSubMap$SubMapIterator"), (0, .class_ 657), (0, u "java/util/TreeMap$NavigableSubMap$EntrySetView"), (0, .class_ 659), (0, u "java/util/TreeMap$ValueIterator"), (0, .class_ 661), (0, u "java/util/TreeMap$EntryIterator"), (0, .class_ 663), (0, u "java/util/TreeMap$PrivateEntryIterator")] 28

def k21m0 : Method := { name := "<init>", desc := "()V", sig := { parameters := [], returnType := none }, accessFlags := 1, code := none }
def k21c1 : Code := { maxStack := 2, maxLocals := 2, code := jdk_2729_method_2_code, exceptionTable := #[], attributes := #[] }
def k21m1 : Method := { name := "<init>", desc := "(Ljava/util/Comparator;)V", sig := { parameters := [(.object "java/util/Comparator")], returnType := none }, accessFlags := 1, code := some k21c1 }
def k21c2 : Code := { maxStack := 1, maxLocals := 1, code := jdk_2729_method_5_code, exceptionTable := #[], attributes := #[] }
def k21m2 : Method := { name := "size", desc := "()I", sig := { parameters := [], returnType := some .int }, accessFlags := 1, code := some k21c2 }
/-- java/util/TreeMap -/
def k21 : Class := { plain "java/util/TreeMap" (some 16) with
  accessFlags := 33
  interfaces := #[19, 20, 4]
  cf := some (fileOf pool21 8 #[.nestMembers #[634, 636, 396, 391, 638, 59, 640, 245, 642, 250, 644, 388, 646, 648, 650, 652, 654, 656, 274, 269, 658, 660, 662, 222, 242, 237]] #[{ accessFlags := 1, nameIndex := 5, descriptorIndex := 6, attributes := #[] }, { accessFlags := 1, nameIndex := 5, descriptorIndex := 428, attributes := #[] }, { accessFlags := 1, nameIndex := 11, descriptorIndex := 31, attributes := #[] }] 33 2 #[231, 403, 405] #[{ accessFlags := 18, nameIndex := 18, descriptorIndex := 19, attributes := #[] }, { accessFlags := 130, nameIndex := 103, descriptorIndex := 104, attributes := #[] }, { accessFlags := 130, nameIndex := 11, descriptorIndex := 12, attributes := #[] }, { accessFlags := 130, nameIndex := 15, descriptorIndex := 12, attributes := #[] }, { accessFlags := 130, nameIndex := 34, descriptorIndex := 190, attributes := #[] }, { accessFlags := 130, nameIndex := 193, descriptorIndex := 194, attributes := #[] }, { accessFlags := 130, nameIndex := 197, descriptorIndex := 198, attributes := #[] }, { accessFlags := 26, nameIndex := 402, descriptorIndex := 63, attributes := #[] }, { accessFlags := 26, nameIndex := 413, descriptorIndex := 293, attributes := #[] }, { accessFlags := 26, nameIndex := 416, descriptorIndex := 293, attributes := #[] }, { accessFlags := 26, nameIndex := 418, descriptorIndex := 419, attributes := #[] }])
  fields := #[{ name := "comparator", type := (.object "java/util/Comparator"), accessFlags := 18, slot := 2, constantValue := 0 }, { name := "root", type := (.object "java/util/TreeMap$Entry"), accessFlags := 130, slot := 3, constantValue := 0 }, { name := "size", type := .int, accessFlags := 130, slot := 4, constantValue := 0 }, { name := "modCount", type := .int, accessFlags := 130, slot := 5, constantValue := 0 }, { name := "entrySet", type := (.object "java/util/TreeMap$EntrySet"), accessFlags := 130, slot := 6, constantValue := 0 }, { name := "navigableKeySet", type := (.object "java/util/TreeMap$KeySet"), accessFlags := 130, slot := 7, constantValue := 0 }, { name := "descendingMap", type := (.object "java/util/NavigableMap"), accessFlags := 130, slot := 8, constantValue := 0 }, { name := "UNBOUNDED", type := (.object "java/lang/Object"), accessFlags := 26, slot := 0, constantValue := 0 }, { name := "RED", type := .boolean, accessFlags := 26, slot := 1, constantValue := 0 }, { name := "BLACK", type := .boolean, accessFlags := 26, slot := 2, constantValue := 0 }, { name := "serialVersionUID", type := .long, accessFlags := 26, slot := 3, constantValue := 0 }]
  methods := #[k21m0, k21m1, k21m2]
  instanceTypes := #[(.object "java/util/Set"), (.object "java/util/Collection"), (.object "java/util/Comparator"), (.object "java/util/TreeMap$Entry"), .int, .int, (.object "java/util/TreeMap$EntrySet"), (.object "java/util/TreeMap$KeySet"), (.object "java/util/NavigableMap")]
  staticTypes := #[(.object "java/lang/Object"), .boolean, .boolean, .long]
  resolved := Array.replicate 692 none
  statics := none }

def pool22 : Array CpInfo := pool [(6, u "(Ljava/lang/Object;)Ljava/lang/Object;"), (2, u "apply"), (6, .class_ 18), (1, u "java/util/function/Function"), (0, .class_ 20), (0, u "java/lang/Object")] 56

def k22m0 : Method := { name := "apply", desc := "(Ljava/lang/Object;)Ljava/lang/Object;", sig := { parameters := [(.object "java/lang/Object")], returnType := some (.object "java/lang/Object") }, accessFlags := 1025, code := none }
/-- java/util/function/Function -/
def k22 : Class := { plain "java/util/function/Function" (some 0) with
  accessFlags := 1537
  interfaces := #[]
  cf := some (fileOf pool22 16 #[] #[{ accessFlags := 1025, nameIndex := 9, descriptorIndex := 6, attributes := #[] }] 1537 19 #[] #[])
  fields := #[]
  methods := #[k22m0]
  instanceTypes := #[]
  staticTypes := #[]
  resolved := Array.replicate 77 none
  statics := none }

def pool23 : Array CpInfo := pool [(2, .class_ 4), (1, u "java/lang/Object"), (0, u "<init>"), (0, u "()V"), (12, .class_ 20), (0, u "java/util/Collections"), (63, u "r"), (0, u "Ljava/util/Random;"), (80, .class_ 167), (0, u "java/util/Collections$UnmodifiableCollection"), (6, .class_ 175), (0, u "java/util/Collections$UnmodifiableSequencedCollection"), (6, .class_ 183), (0, u "java/util/Collections$UnmodifiableSet"), (6, .class_ 191), (0, u "java/util/Collections$UnmodifiableSequencedSet"), (6, .class_ 199), (0, u "java/util/Collections$UnmodifiableSortedSet"), (6, .class_ 207), (0, u "java/util/Collections$UnmodifiableNavigableSet"), (4, .class_ 213), (0, u "java/util/Collections$UnmodifiableList"), (1, .class_ 216), (0, u "java/util/Collections$UnmodifiableRandomAccessList"), (6, .class_ 224), (0, u "java/util/Collections$UnmodifiableMap"), (6, .class_ 232), (0, u "java/util/Collections$UnmodifiableSequencedMap"), (4, .class_ 238), (0, u "java/util/Collections$UnmodifiableSortedMap"), (6, .class_ 246), (0, u "java/util/Collections$UnmodifiableNavigableMap"), (3, .class_ 251), (0, u "java/util/Collections$SynchronizedCollection"), (4, .class_ 257), (0, u "java/util/Collections$SynchronizedSet"), (4, .class_ 263), (0, u "java/util/Collections$SynchronizedSortedSet"), (1, .class_ 266), (0, u "java/util/Collections$SynchronizedNavigableSet"), (1, .class_ 269), (0, u "java/util/Collections$SynchronizedRandomAccessList"), (1, .class_ 272), (0, u "java/util/Collections$SynchronizedList"), (5, .class_ 279), (0, u "java/util/Collections$SynchronizedMap"), (1, .class_ 282), (0, u "java/util/Collections$SynchronizedSortedMap"), (1, .class_ 285), (0, u "java/util/Collections$SynchronizedNavigableMap"), (1, .class_ 288), (0, u "java/util/Collections$CheckedCollection"), (11, .class_ 301), (0, u "java/util/Collections$CheckedQueue"), (3, .class_ 306), (0, u "java/util/Collections$CheckedSet"), (3, .class_ 311), (0, u "java/util/Collections$CheckedSortedSet"), (3, .class_ 316), (0, u "java/util/Collections$CheckedNavigableSet"), (3, .class_ 321), (0, u "java/util/Collections$CheckedRandomAccessList"), (3, .class_ 326), (0, u "java/util/Collections$CheckedList"), (1, .class_ 329), (0, u "java/util/Collections$CheckedMap"), (3, .class_ 334), (0, u "java/util/Collections$CheckedSortedMap"), (3, .class_ 339), (0, u "java/util/Collections$CheckedNavigableMap"), (4, .class_ 346), (1, u "java/util/Collections$EmptyIterator"), (3, .class_ 352), (1, u "java/util/Collections$EmptyListIterator"), (2, .class_ 357), (1, u "java/util/Collections$EmptyEnumeration"), (4, u "EMPTY_SET"), (0, u "Ljava/util/Set;"), (6, u "EMPTY_LIST"), (0, u "Ljava/util/List;"), (2, u "EMPTY_MAP"), (0, u "Ljava/util/Map;"), (4, .class_ 381), (0, u "java/util/Collections$SingletonSet"), (2, .class_ 385), (0, u "java/util/Collections$1"), (1, .class_ 388), (0, u "java/util/Collections$2"), (1, .class_ 391), (0, u "java/util/Collections$SingletonList"), (1, .class_ 394), (0, u "java/util/Collections$SingletonMap"), (22, .class_ 418), (0, u "java/util/Collections$CopiesList"), (3, .fieldref 423 424), (0, .class_ 425), (0, .nameAndType 426 427), (0, u "java/util/Collections$ReverseComparator"), (0, u "REVERSE_ORDER"), (0, u "Ljava/util/Collections$ReverseComparator;"), (6, .class_ 435), (0, u "java/util/Collections$ReverseComparator2"), (6, .class_ 443), (0, u "java/util/Collections$3"), (25, .class_ 470), (0, u "java/util/Collections$SetFromMap"), (2, .class_ 474), (0, u "java/util/Collections$SequencedSetFromMap"), (3, .class_ 479), (0, u "java/util/Collections$AsLIFOQueue"), (11, .class_ 492), (0, u "java/util/Collections$EmptySet"), (1, .class_ 495), (0, u "java/util/Collections$EmptyList"), (1, .class_ 498), (0, u "java/util/Collections$EmptyMap"), (1, u "BINARYSEARCH_THRESHOLD"), (0, u "I"), (2, u "REVERSE_THRESHOLD"), (1, u "SHUFFLE_THRESHOLD"), (1, u "FILL_THRESHOLD"), (1, u "ROTATE_THRESHOLD"), (1, u "COPY_THRESHOLD"), (1, u "REPLACEALL_THRESHOLD"), (1, u "INDEXOFSUBLIST_THRESHOLD"), (277, u "reverseOrder"), (0, u "()Ljava/util/Comparator;"), (54, .class_ 851), (0, u "java/util/Collections$CheckedMap$CheckedEntrySet"), (0, .class_ 853), (0, u "java/util/Collections$CheckedMap$CheckedEntrySet$CheckedEntry"), (0, .class_ 855), (0, u "java/util/Collections$CheckedMap$CheckedEntrySet$1"), (0, .class_ 857), (0, u "java/util/Collections$CheckedList$1"), (0, .class_ 859), (0, u "java/util/Collections$CheckedCollection$1"), (0, .class_ 861), (0, u "java/util/Collections$UnmodifiableNavigableMap$EmptyNavigableMap"), (0, .class_ 863), (0, u "java/util/Collections$UnmodifiableMap$UnmodifiableEntrySet"), (0, .class_ 865), (0, u "java/util/Collections$UnmodifiableMap$UnmodifiableEntrySet$UnmodifiableEntry"), (0, .class_ 867), (0, u "java/util/Collections$UnmodifiableMap$UnmodifiableEntrySet$UnmodifiableEntrySetSpliterator"), (0, .class_ 869), (0, u "java/util/Collections$UnmodifiableMap$UnmodifiableEntrySet$1"), (0, .class_ 871), (0, u "java/util/Collections$UnmodifiableList$1"), (0, .class_ 873), (0, u "java/util/Collections$UnmodifiableNavigableSet$EmptyNavigableSet"), (0, .class_ 875), (0, u "java/util/Collections$UnmodifiableCollection$1")] 57

def k23m0 : Method := { name := "<init>", desc := "()V", sig := { parameters := [], returnType := none }, accessFlags := 2, code := none }
def k23c1 : Code := { maxStack := 1, maxLocals := 0, code := jdk_79_method_77_code, exceptionTable := #[], attributes := #[] }
def k23m1 : Method := { name := "reverseOrder", desc := "()Ljava/util/Comparator;", sig := { parameters := [], returnType := some (.object "java/util/Comparator") }, accessFlags := 9, code := some k23c1 }
/-- java/util/Collections -/
def k23 : Class := { plain "java/util/Collections" (some 0) with
  accessFlags := 33
  interfaces := #[]
  cf := some (fileOf pool23 19 #[.nestMembers #[478, 473, 469, 434, 423, 417, 393, 390, 380, 497, 494, 491, 355, 350, 344, 338, 333, 328, 850, 852, 854, 320, 325, 856, 315, 310, 305, 300, 287, 858, 284, 281, 278, 268, 271, 265, 262, 256, 250, 245, 860, 237, 231, 223, 862, 864, 866, 868, 215, 212, 870, 206, 872, 198, 190, 182, 174, 166, 874, 442, 387, 384]] #[{ accessFlags := 2, nameIndex := 5, descriptorIndex := 6, attributes := #[] }, { accessFlags := 9, nameIndex := 794, descriptorIndex := 795, attributes := #[] }] 33 2 #[] #[{ accessFlags := 26, nameIndex := 500, descriptorIndex := 501, attributes := #[] }, { accessFlags := 26, nameIndex := 504, descriptorIndex := 501, attributes := #[] }, { accessFlags := 26, nameIndex := 506, descriptorIndex := 501, attributes := #[] }, { accessFlags := 26, nameIndex := 508, descriptorIndex := 501, attributes := #[] }, { accessFlags := 26, nameIndex := 510, descriptorIndex := 501, attributes := #[] }, { accessFlags := 26, nameIndex := 512, descriptorIndex := 501, attributes := #[] }, { accessFlags := 26, nameIndex := 514, descriptorIndex := 501, attributes := #[] }, { accessFlags := 26, nameIndex := 516, descriptorIndex := 501, attributes := #[] }, { accessFlags := 10, nameIndex := 84, descriptorIndex := 85, attributes := #[] }, { accessFlags := 25, nameIndex := 362, descriptorIndex := 363, attributes := #[] }, { accessFlags := 25, nameIndex := 370, descriptorIndex := 371, attributes := #[] }, { accessFlags := 25, nameIndex := 374, descriptorIndex := 375, attributes := #[] }])
  fields := #[{ name := "BINARYSEARCH_THRESHOLD", type := .int, accessFlags := 26, slot := 0, constantValue := 0 }, { name := "REVERSE_THRESHOLD", type := .int, accessFlags := 26, slot := 1, constantValue := 0 }, { name := "SHUFFLE_THRESHOLD", type := .int, accessFlags := 26, slot := 2, constantValue := 0 }, { name := "FILL_THRESHOLD", type := .int, accessFlags := 26, slot := 3, constantValue := 0 }, { name := "ROTATE_THRESHOLD", type := .int, accessFlags := 26, slot := 4, constantValue := 0 }, { name := "COPY_THRESHOLD", type := .int, accessFlags := 26, slot := 5, constantValue := 0 }, { name := "REPLACEALL_THRESHOLD", type := .int, accessFlags := 26, slot := 6, constantValue := 0 }, { name := "INDEXOFSUBLIST_THRESHOLD", type := .int, accessFlags := 26, slot := 7, constantValue := 0 }, { name := "r", type := (.object "java/util/Random"), accessFlags := 10, slot := 8, constantValue := 0 }, { name := "EMPTY_SET", type := (.object "java/util/Set"), accessFlags := 25, slot := 9, constantValue := 0 }, { name := "EMPTY_LIST", type := (.object "java/util/List"), accessFlags := 25, slot := 10, constantValue := 0 }, { name := "EMPTY_MAP", type := (.object "java/util/Map"), accessFlags := 25, slot := 11, constantValue := 0 }]
  methods := #[k23m0, k23m1]
  instanceTypes := #[]
  staticTypes := #[.int, .int, .int, .int, .int, .int, .int, .int, (.object "java/util/Random"), (.object "java/util/Set"), (.object "java/util/List"), (.object "java/util/Map")]
  resolved := Array.replicate 933 none
  statics := none }

def pool24 : Array CpInfo := pool [(2, .class_ 4), (1, u "java/lang/Object"), (0, u "<init>"), (0, u "()V"), (7, .class_ 16), (1, u "java/util/Collections"), (3, .class_ 22), (1, u "java/util/Comparator"), (2, .class_ 27), (1, u "java/util/Collections$ReverseComparator"), (5, u "REVERSE_ORDER"), (0, u "Ljava/util/Collections$ReverseComparator;"), (0, .class_ 36), (0, u "java/io/Serializable"), (0, u "serialVersionUID"), (0, u "J")] 27

def k24m0 : Method := { name := "<init>", desc := "()V", sig := { parameters := [], returnType := none }, accessFlags := 2, code := none }
/-- java/util/Collections$ReverseComparator -/
def k24 : Class := { plain "java/util/Collections$ReverseComparator" (some 0) with
  accessFlags := 32
  interfaces := #[13, 4]
  cf := some (fileOf pool24 25 #[.nestHost 14] #[{ accessFlags := 2, nameIndex := 5, descriptorIndex := 6, attributes := #[] }] 32 2 #[20, 35] #[{ accessFlags := 26, nameIndex := 37, descriptorIndex := 38, attributes := #[] }, { accessFlags := 24, nameIndex := 33, descriptorIndex := 34, attributes := #[] }])
  fields := #[{ name := "serialVersionUID", type := .long, accessFlags := 26, slot := 0, constantValue := 0 }, { name := "REVERSE_ORDER", type := (.object "java/util/Collections$ReverseComparator"), accessFlags := 24, slot := 1, constantValue := 0 }]
  methods := #[k24m0]
  instanceTypes := #[]
  staticTypes := #[.long, (.object "java/util/Collections$ReverseComparator")]
  resolved := Array.replicate 66 none
  statics := some 2 }

def pool25 : Array CpInfo := pool [(2, .class_ 4), (1, u "java/lang/Object"), (0, u "<init>"), (0, u "()V"), (1, .class_ 10), (1, u "java/lang/System"), (0, u "allowSecurityManager"), (0, u "I"), (16, u "cons"), (0, u "Ljava/io/Console;"), (77, .class_ 110), (1, u "java/lang/System$CallersHolder"), (43, u "initialErrStream"), (0, u "Ljava/io/PrintStream;"), (19, u "security"), (0, u "Ljava/lang/SecurityManager;"), (31, .class_ 209), (0, u "java/lang/System$1"), (7, u "props"), (0, u "Ljava/util/Properties;"), (2, u "lineSeparator"), (0, u "Ljava/lang/String;"), (96, .class_ 321), (1, u "java/lang/System$LoggerFinder"), (5, .class_ 328), (0, u "java/lang/System$Logger"), (67, u "err"), (2, u "out"), (91, u "notSupportedJnuEncoding"), (15, u "in"), (17, u "initialIn"), (0, u "Ljava/io/InputStream;"), (35, u "bootLayer"), (0, u "Ljava/lang/ModuleLayer;"), (99, .class_ 664), (0, u "java/lang/System$2"), (9, u "NEVER"), (2, u "MAYBE"), (49, u "arraycopy"), (0, u "(Ljava/lang/Object;ILjava/lang/Object;II)V"), (72, .class_ 802), (0, u "java/lang/System$Logger$Level")] 31

def k25m0 : Method := { name := "<init>", desc := "()V", sig := { parameters := [], returnType := none }, accessFlags := 2, code := none }
def k25m1 : Method := { name := "arraycopy", desc := "(Ljava/lang/Object;ILjava/lang/Object;II)V", sig := { parameters := [(.object "java/lang/Object"), .int, (.object "java/lang/Object"), .int, .int], returnType := none }, accessFlags := 265, code := none }
/-- java/lang/System -/
def k25 : Class := { plain "java/lang/System" (some 0) with
  accessFlags := 49
  interfaces := #[]
  cf := some (fileOf pool25 8 #[.nestMembers #[319, 327, 801, 108, 663, 208]] #[{ accessFlags := 2, nameIndex := 5, descriptorIndex := 6, attributes := #[] }, { accessFlags := 265, nameIndex := 727, descriptorIndex := 728, attributes := #[] }] 49 2 #[] #[{ accessFlags := 25, nameIndex := 507, descriptorIndex := 526, attributes := #[] }, { accessFlags := 25, nameIndex := 399, descriptorIndex := 155, attributes := #[] }, { accessFlags := 25, nameIndex := 396, descriptorIndex := 155, attributes := #[] }, { accessFlags := 10, nameIndex := 525, descriptorIndex := 526, attributes := #[] }, { accessFlags := 26, nameIndex := 674, descriptorIndex := 12, attributes := #[] }, { accessFlags := 26, nameIndex := 677, descriptorIndex := 12, attributes := #[] }, { accessFlags := 10, nameIndex := 11, descriptorIndex := 12, attributes := #[] }, { accessFlags := 74, nameIndex := 175, descriptorIndex := 176, attributes := #[] }, { accessFlags := 10, nameIndex := 491, descriptorIndex := 222, attributes := #[] }, { accessFlags := 74, nameIndex := 29, descriptorIndex := 30, attributes := #[] }, { accessFlags := 74, nameIndex := 154, descriptorIndex := 155, attributes := #[] }, { accessFlags := 10, nameIndex := 217, descriptorIndex := 218, attributes := #[] }, { accessFlags := 10, nameIndex := 221, descriptorIndex := 222, attributes := #[] }, { accessFlags := 8, nameIndex := 562, descriptorIndex := 563, attributes := #[] }])
  fields := #[{ name := "in", type := (.object "java/io/InputStream"), accessFlags := 25, slot := 0, constantValue := 0 }, { name := "out", type := (.object "java/io/PrintStream"), accessFlags := 25, slot := 1, constantValue := 0 }, { name := "err", type := (.object "java/io/PrintStream"), accessFlags := 25, slot := 2, constantValue := 0 }, { name := "initialIn", type := (.object "java/io/InputStream"), accessFlags := 10, slot := 3, constantValue := 0 }, { name := "NEVER", type := .int, accessFlags := 26, slot := 4, constantValue := 0 }, { name := "MAYBE", type := .int, accessFlags := 26, slot := 5, constantValue := 0 }, { name := "allowSecurityManager", type := .int, accessFlags := 10, slot := 6, constantValue := 0 }, { name := "security", type := (.object "java/lang/SecurityManager"), accessFlags := 74, slot := 7, constantValue := 0 }, { name := "notSupportedJnuEncoding", type := (.object "java/lang/String"), accessFlags := 10, slot := 8, constantValue := 0 }, { name := "cons", type := (.object "java/io/Console"), accessFlags := 74, slot := 9, constantValue := 0 }, { name := "initialErrStream", type := (.object "java/io/PrintStream"), accessFlags := 74, slot := 10, constantValue := 0 }, { name := "props", type := (.object "java/util/Properties"), accessFlags := 10, slot := 11, constantValue := 0 }, { name := "lineSeparator", type := (.object "java/lang/String"), accessFlags := 10, slot := 12, constantValue := 0 }, { name := "bootLayer", type := (.object "java/lang/ModuleLayer"), accessFlags := 8, slot := 13, constantValue := 0 }]
  methods := #[k25m0, k25m1]
  instanceTypes := #[]
  staticTypes := #[(.object "java/io/InputStream"), (.object "java/io/PrintStream"), (.object "java/io/PrintStream"), (.object "java/io/InputStream"), .int, .int, .int, (.object "java/lang/SecurityManager"), (.object "java/lang/String"), (.object "java/io/Console"), (.object "java/io/PrintStream"), (.object "java/util/Properties"), (.object "java/lang/String"), (.object "java/lang/ModuleLayer")]
  resolved := Array.replicate 834 none
  statics := none }

def pool26 : Array CpInfo := pool [(1, .methodref 2 3), (0, .class_ 4), (0, .nameAndType 5 6), (0, u "java/lang/Object"), (0, u "<init>"), (0, u "()V"), (1, .class_ 10), (1, u "com/example/openvenue/openvenue/core/QuantityTotal"), (0, u "low"), (0, u "J"), (8, u "high")] 30

def k26c0 : Code := { maxStack := 1, maxLocals := 1, code := prog_92_method_1_code, exceptionTable := #[], attributes := #[] }
def k26m0 : Method := { name := "<init>", desc := "()V", sig := { parameters := [], returnType := none }, accessFlags := 0, code := some k26c0 }
/-- com/example/openvenue/openvenue/core/QuantityTotal -/
def k26 : Class := { plain "com/example/openvenue/openvenue/core/QuantityTotal" (some 0) with
  accessFlags := 48
  interfaces := #[]
  cf := some (fileOf pool26 8 #[] #[{ accessFlags := 0, nameIndex := 5, descriptorIndex := 6, attributes := #[] }] 48 2 #[] #[{ accessFlags := 2, nameIndex := 21, descriptorIndex := 12, attributes := #[] }, { accessFlags := 2, nameIndex := 11, descriptorIndex := 12, attributes := #[] }])
  fields := #[{ name := "high", type := .long, accessFlags := 2, slot := 0, constantValue := 0 }, { name := "low", type := .long, accessFlags := 2, slot := 1, constantValue := 0 }]
  methods := #[k26m0]
  instanceTypes := #[.long, .long]
  staticTypes := #[]
  resolved := Array.replicate 52 none
  statics := none }

def pool27 : Array CpInfo := pool [(2, .class_ 4), (1, u "java/lang/CharSequence"), (42, .class_ 48), (0, u "java/lang/CharSequence$1CodePointIterator"), (10, .class_ 60), (0, u "java/lang/CharSequence$1CharIterator"), (5, .class_ 67), (0, u "java/lang/Object")] 63

/-- java/lang/CharSequence -/
def k27 : Class := { plain "java/lang/CharSequence" (some 0) with
  accessFlags := 1537
  interfaces := #[]
  cf := some (fileOf pool27 2 #[.nestMembers #[47, 59]] #[] 1537 66 #[] #[])
  fields := #[]
  methods := #[]
  instanceTypes := #[]
  staticTypes := #[]
  resolved := Array.replicate 131 none
  statics := none }

def pool28 : Array CpInfo := pool [(1, .class_ 2), (0, u "java/lang/constant/ConstantDesc"), (0, .class_ 4), (0, u "java/lang/Object")] 32

/-- java/lang/constant/ConstantDesc -/
def k28 : Class := { plain "java/lang/constant/ConstantDesc" (some 0) with
  accessFlags := 1537
  interfaces := #[]
  cf := some (fileOf pool28 1 #[] #[] 1537 3 #[] #[])
  fields := #[]
  methods := #[]
  instanceTypes := #[]
  staticTypes := #[]
  resolved := Array.replicate 37 none
  statics := none }

def pool29 : Array CpInfo := pool [(2, .class_ 4), (1, u "java/lang/Object"), (0, u "<init>"), (0, u "()V"), (3, .class_ 12), (1, u "java/lang/String"), (0, u "value"), (0, u "[B"), (2, u "coder"), (0, u "B"), (2, u "hash"), (0, u "I"), (2, u "hashIsZero"), (0, u "Z"), (13, u "COMPACT_STRINGS"), (534, .class_ 576), (0, u "java/lang/CharSequence"), (22, u "CASE_INSENSITIVE_ORDER"), (0, u "Ljava/util/Comparator;"), (500, u "serialPersistentFields"), (0, u "[Ljava/io/ObjectStreamField;"), (0, .class_ 1104), (0, u "java/lang/String$CaseInsensitiveComparator"), (1, .class_ 1107), (0, u "java/io/Serializable"), (0, .class_ 1109), (0, u "java/lang/Comparable"), (0, .class_ 1111), (0, u "java/lang/constant/Constable"), (0, .class_ 1113), (0, u "java/lang/constant/ConstantDesc"), (2, u "serialVersionUID"), (0, u "J"), (3, u "REPL"), (0, u "C"), (2, u "LATIN1"), (1, u "UTF16")] 323

def k29m0 : Method := { name := "<init>", desc := "()V", sig := { parameters := [], returnType := none }, accessFlags := 1, code := none }
/-- java/lang/String -/
def k29 : Class := { plain "java/lang/String" (some 0) with
  accessFlags := 49
  interfaces := #[4, 3, 27, 2, 28]
  cf := some (fileOf pool29 10 #[.nestMembers #[1103]] #[{ accessFlags := 1, nameIndex := 5, descriptorIndex := 6, attributes := #[] }] 49 2 #[1106, 1108, 575, 1110, 1112] #[{ accessFlags := 18, nameIndex := 13, descriptorIndex := 14, attributes := #[] }, { accessFlags := 18, nameIndex := 17, descriptorIndex := 18, attributes := #[] }, { accessFlags := 2, nameIndex := 21, descriptorIndex := 22, attributes := #[] }, { accessFlags := 2, nameIndex := 25, descriptorIndex := 26, attributes := #[] }, { accessFlags := 26, nameIndex := 1116, descriptorIndex := 1117, attributes := #[] }, { accessFlags := 24, nameIndex := 40, descriptorIndex := 26, attributes := #[] }, { accessFlags := 26, nameIndex := 1101, descriptorIndex := 1102, attributes := #[] }, { accessFlags := 26, nameIndex := 1121, descriptorIndex := 1122, attributes := #[] }, { accessFlags := 25, nameIndex := 599, descriptorIndex := 600, attributes := #[] }, { accessFlags := 24, nameIndex := 1125, descriptorIndex := 18, attributes := #[] }, { accessFlags := 24, nameIndex := 1127, descriptorIndex := 18, attributes := #[] }])
  fields := #[{ name := "value", type := (.array .byte), accessFlags := 18, slot := 0, constantValue := 0 }, { name := "coder", type := .byte, accessFlags := 18, slot := 1, constantValue := 0 }, { name := "hash", type := .int, accessFlags := 2, slot := 2, constantValue := 0 }, { name := "hashIsZero", type := .boolean, accessFlags := 2, slot := 3, constantValue := 0 }, { name := "serialVersionUID", type := .long, accessFlags := 26, slot := 0, constantValue := 0 }, { name := "COMPACT_STRINGS", type := .boolean, accessFlags := 24, slot := 1, constantValue := 0 }, { name := "serialPersistentFields", type := (.array (.object "java/io/ObjectStreamField")), accessFlags := 26, slot := 2, constantValue := 0 }, { name := "REPL", type := .char, accessFlags := 26, slot := 3, constantValue := 0 }, { name := "CASE_INSENSITIVE_ORDER", type := (.object "java/util/Comparator"), accessFlags := 25, slot := 4, constantValue := 0 }, { name := "LATIN1", type := .byte, accessFlags := 24, slot := 5, constantValue := 0 }, { name := "UTF16", type := .byte, accessFlags := 24, slot := 6, constantValue := 0 }]
  methods := #[k29m0]
  instanceTypes := #[(.array .byte), .byte, .int, .boolean]
  staticTypes := #[.long, .boolean, (.array (.object "java/io/ObjectStreamField")), .char, (.object "java/util/Comparator"), .byte, .byte]
  resolved := Array.replicate 1451 none
  statics := none }

/-- the primitive byte -/
def k30 : Class := { plain "byte" none with kind := .primitive 'B', accessFlags := 0x411 }
/-- [B -/
def k31 : Class := { plain "[B" (some 0) with kind := .array 30 .byte, interfaces := #[20, 4], accessFlags := 1041 }

/-- the primitive int -/
def k32 : Class := { plain "int" none with kind := .primitive 'I', accessFlags := 0x411 }
/-- [I -/
def k33 : Class := { plain "[I" (some 0) with kind := .array 32 .int, interfaces := #[20, 4], accessFlags := 1041 }

/-- the primitive long -/
def k34 : Class := { plain "long" none with kind := .primitive 'J', accessFlags := 0x411 }
/-- [J -/
def k35 : Class := { plain "[J" (some 0) with kind := .array 34 .long, interfaces := #[20, 4], accessFlags := 1041 }

/-- [Lcom/example/openvenue/openvenue/core/PriceLevel; -/
def k36 : Class := { plain "[Lcom/example/openvenue/openvenue/core/PriceLevel;" (some 0) with kind := .array 8 (.object "com/example/openvenue/openvenue/core/PriceLevel"), interfaces := #[20, 4], accessFlags := 1041 }

def classes0 : Array Class := #[k0, k1, k2, k3, k4, k5, k6, k7, k8, k9, k10, k11, k12, k13, k14, k15, k16, k17, k18, k19, k20, k21, k22, k23, k24, k25, k26, k27, k28, k29, k30, k31, k32, k33, k34, k35, k36]
/-- the class that the rule has made for the site at 71 of com/example/openvenue/openvenue/core/BookSide.<init> -/
def k37 : Class := Jvm.LamKit.madeRec { classes := classes0 } "com/example/openvenue/openvenue/core/BookSide" (Jvm.Lambda.Shape.mk "java/util/function/Function" "apply" (Jvm.ClassFile.MethodDescriptor.mk ([(Jvm.ClassFile.FieldType.object "java/lang/Object")] : List Jvm.ClassFile.FieldType) (Option.some (Jvm.ClassFile.FieldType.object "java/lang/Object"))) ([(Jvm.ClassFile.FieldType.object "com/example/openvenue/openvenue/core/Side")] : List Jvm.ClassFile.FieldType) (6 : Nat) "com/example/openvenue/openvenue/core/BookSide" "lambda$new$0" (Jvm.ClassFile.MethodDescriptor.mk ([(Jvm.ClassFile.FieldType.object "com/example/openvenue/openvenue/core/Side"), (Jvm.ClassFile.FieldType.object "java/lang/Long")] : List Jvm.ClassFile.FieldType) (Option.some (Jvm.ClassFile.FieldType.object "com/example/openvenue/openvenue/core/PriceLevel"))) false (Jvm.ClassFile.MethodDescriptor.mk ([(Jvm.ClassFile.FieldType.object "java/lang/Long")] : List Jvm.ClassFile.FieldType) (Option.some (Jvm.ClassFile.FieldType.object "com/example/openvenue/openvenue/core/PriceLevel")))) 37

def heap : Heap := #[{ cls := 6, slots := #[.ref 3, .ref 4, .null], vm := .statics 6 },
  { cls := 14, slots := #[.ref 6, .null], vm := .statics 14 },
  { cls := 24, slots := #[.long 0, .ref 7], vm := .statics 24 },
  { cls := 6, slots := #[.null, .int 0, .int 0, .int 66], vm := .none },
  { cls := 6, slots := #[.null, .int 1, .int 0, .int 83], vm := .none },
  { cls := 29, slots := #[.null, .int 0, .int 0, .int 0], vm := .none },
  { cls := 14, slots := #[.ref 5, .int 0, .int 0], vm := .none },
  { cls := 24, slots := #[], vm := .none }]
def classes : Array Class := #[k0, k1, k2, k3, k4, k5, k6, k7, k8, k9, k10, k11, k12, k13, k14, k15, k16, k17, k18, k19, k20, k21, k22, k23, k24, k25, k26, k27, k28, k29, k30, k31, k32, k33, k34, k35, k36, k37]
def interned : List (Array UInt16 × Addr) := []
def slotsUsed : Nat := 22
def theMethod : MethodId := ⟨1, 1⟩
def args0 : Array Value := #[.int 5, .long 5, .long 6, .long 7]
def aboutOver (below : List Frame) : State where
  vm := { classes := classes, interned := interned.toArray }
  heap := heap
  slotsUsed := slotsUsed
  threads := #[{ frames := .invoking theMethod args0 :: below }]
def below0 : List Frame := [.native { method := ⟨0, 0⟩, args := #[] }]
def about1 : State := aboutOver below0
def p0 : Program := .bare "" "" ""
def e0 : Env := launch0.env 0 0 0
theorem w_frames : about1.frames = Frame.invoking theMethod args0 :: below0 := rfl
set_option maxRecDepth 65536 in
theorem w_args : argsFit about1.vm theMethod args0 = true := by decide +kernel
set_option maxRecDepth 65536 in
theorem w_heap : heapFits about1 = true := by decide +kernel
set_option maxRecDepth 65536 in
theorem w_runnable : about1.curStatus? = some .runnable := by decide +kernel
set_option maxRecDepth 65536 in
theorem w_alone : about1.alone = true := by decide +kernel
set_option maxRecDepth 65536 in
theorem w_named : about1.methodNamed? x = some theMethod := by decide +kernel
set_option maxRecDepth 65536 in
theorem w_hears : about1.hears theMethod below0 = true := by decide +kernel
set_option maxRecDepth 65536 in
theorem w_ripe : about1.ripe theMethod args0 below0 = true := by decide +kernel
theorem w_running : about1.status = .running := rfl
set_option maxRecDepth 65536 in
theorem w_room : about1.hasRoom e0.platform room_1 = true :=
  launch0.hasRoom_least _ room_1 (by decide +kernel) (by decide +kernel) (by decide +kernel) (by decide +kernel) (by decide +kernel) (by decide +kernel)
theorem allAtoms_all (ts : List Jvm.Cond) (a : Array Jvm.Value) (st : Jvm.State) : (allAtoms ts).before a st = ts.all (fun c => c.before a st) := by
  induction ts with
  | nil => rfl
  | cons c t ih =>
    show (Jvm.Cond.and c (allAtoms t)).before a st = _
    rw [Jvm.Cond.before_and, ih, List.all_cons]
def words1 : List Jvm.Cond := Jvm.Cond.code x code maxLocals ret :: tables_1
/-- a 'code' word, met by the world's own term for the bytes: nothing is compared byte by byte -/
theorem code_word {y : MethodName} {bytes : ByteArray} {mx : Nat} {rt : Option FieldType} {a : Array Value} {s : State} {m : MethodId} {meth : Method} {c : Code} (h1 : s.methodNamed? y = some m) (h2 : s.vm.method? m = some meth) (h3 : meth.code = some c) (h4 : c.code = bytes)
    (h5 : (c.maxLocals == mx && c.exceptionTable.isEmpty && decide (c.maxStack ≤ mostOperands) && decide (meth.sig.returnType = rt) && !meth.locks && decide (parseMethodDescriptor y.desc = some meth.sig)) = true) : (Jvm.Cond.code y bytes mx rt).before a s = true := by
  simp only [Bool.and_eq_true, beq_iff_eq, Bool.not_eq_true', decide_eq_true_eq] at h5
  obtain ⟨⟨⟨⟨⟨g1, g2⟩, g3⟩, g4⟩, g5⟩, g6⟩ := h5
  simp [Cond.before, Cond.holds, Cond.value, h1, h2, h3, h4, g1, g2, g3, g4, g5, g6]
def isCode : Jvm.Cond → Bool
  | .code _ _ _ _ => true
  | _ => false
theorem all_split {L : List Jvm.Cond} {P : Jvm.Cond → Bool} (h1 : L.all (fun c => isCode c || P c) = true) (h2 : ∀ c ∈ L.filter isCode, P c = true) : L.all P = true := by
  refine List.all_eq_true.mpr fun c hc => ?_
  have h := List.all_eq_true.mp h1 c hc
  rcases Bool.eq_false_or_eq_true (isCode c) with hi | hi
  · exact h2 c (List.mem_filter.mpr ⟨hc, hi⟩)
  · simpa [hi] using h
set_option maxRecDepth 65536 in
theorem w_c0 : (Jvm.Cond.code x code maxLocals ret).before args0 about1 = true := code_word (m := ⟨1, 1⟩) (meth := k1m1) (c := k1c1) (by decide +kernel) rfl rfl rfl (by decide +kernel)
set_option maxRecDepth 65536 in
theorem w_c1 : (Jvm.Cond.code ({ cls := "com/example/openvenue/openvenue/core/BookSide", name := "<init>", desc := "(Lcom/example/openvenue/openvenue/core/Side;)V" } : Jvm.MethodName) prog_44_method_1_code (3 : Nat) (Option.none : Option Jvm.ClassFile.FieldType)).before args0 about1 = true := code_word (m := ⟨7, 0⟩) (meth := k7m0) (c := k7c0) (by decide +kernel) rfl rfl rfl (by decide +kernel)
set_option maxRecDepth 65536 in
theorem w_c2 : (Jvm.Cond.code ({ cls := "java/lang/Object", name := "<init>", desc := "()V" } : Jvm.MethodName) object_method_1_code (1 : Nat) (Option.none : Option Jvm.ClassFile.FieldType)).before args0 about1 = true := code_word (m := ⟨0, 0⟩) (meth := k0m0) (c := k0c0) (by decide +kernel) rfl rfl rfl (by decide +kernel)
set_option maxRecDepth 65536 in
theorem w_c3 : (Jvm.Cond.code ({ cls := "com/example/openvenue/openvenue/core/BookSide$BestFirst", name := "<init>", desc := "(Lcom/example/openvenue/openvenue/core/BookSide;)V" } : Jvm.MethodName) prog_45_method_1_code (2 : Nat) (Option.none : Option Jvm.ClassFile.FieldType)).before args0 about1 = true := code_word (m := ⟨12, 0⟩) (meth := k12m0) (c := k12c0) (by decide +kernel) rfl rfl rfl (by decide +kernel)
set_option maxRecDepth 65536 in
theorem w_c4 : (Jvm.Cond.code ({ cls := "java/util/AbstractCollection", name := "<init>", desc := "()V" } : Jvm.MethodName) jdk_22_method_1_code (1 : Nat) (Option.none : Option Jvm.ClassFile.FieldType)).before args0 about1 = true := code_word (m := ⟨11, 0⟩) (meth := k11m0) (c := k11c0) (by decide +kernel) rfl rfl rfl (by decide +kernel)
set_option maxRecDepth 65536 in
theorem w_c5 : (Jvm.Cond.code ({ cls := "java/util/Comparator", name := "naturalOrder", desc := "()Ljava/util/Comparator;" } : Jvm.MethodName) jdk_2515_method_11_code (0 : Nat) (Option.some (Jvm.ClassFile.FieldType.object "java/util/Comparator"))).before args0 about1 = true := code_word (m := ⟨13, 1⟩) (meth := k13m1) (c := k13c1) (by decide +kernel) rfl rfl rfl (by decide +kernel)
set_option maxRecDepth 65536 in
theorem w_c6 : (Jvm.Cond.code ({ cls := "java/util/TreeMap", name := "<init>", desc := "(Ljava/util/Comparator;)V" } : Jvm.MethodName) jdk_2729_method_2_code (2 : Nat) (Option.none : Option Jvm.ClassFile.FieldType)).before args0 about1 = true := code_word (m := ⟨21, 1⟩) (meth := k21m1) (c := k21c1) (by decide +kernel) rfl rfl rfl (by decide +kernel)
set_option maxRecDepth 65536 in
theorem w_c7 : (Jvm.Cond.code ({ cls := "java/util/AbstractMap", name := "<init>", desc := "()V" } : Jvm.MethodName) jdk_71_method_1_code (1 : Nat) (Option.none : Option Jvm.ClassFile.FieldType)).before args0 about1 = true := code_word (m := ⟨16, 0⟩) (meth := k16m0) (c := k16c0) (by decide +kernel) rfl rfl rfl (by decide +kernel)
set_option maxRecDepth 65536 in
theorem w_c8 : (Jvm.Cond.code ({ cls := "com/example/openvenue/openvenue/core/BookSide", name := "best", desc := "()Lcom/example/openvenue/openvenue/core/PriceLevel;" } : Jvm.MethodName) prog_44_method_2_code (1 : Nat) (Option.some (Jvm.ClassFile.FieldType.object "com/example/openvenue/openvenue/core/PriceLevel"))).before args0 about1 = true := code_word (m := ⟨7, 1⟩) (meth := k7m1) (c := k7c1) (by decide +kernel) rfl rfl rfl (by decide +kernel)
set_option maxRecDepth 65536 in
theorem w_c9 : (Jvm.Cond.code ({ cls := "java/util/Comparator", name := "reverseOrder", desc := "()Ljava/util/Comparator;" } : Jvm.MethodName) jdk_2515_method_10_code (0 : Nat) (Option.some (Jvm.ClassFile.FieldType.object "java/util/Comparator"))).before args0 about1 = true := code_word (m := ⟨13, 0⟩) (meth := k13m0) (c := k13c0) (by decide +kernel) rfl rfl rfl (by decide +kernel)
set_option maxRecDepth 65536 in
theorem w_c10 : (Jvm.Cond.code ({ cls := "java/util/Collections", name := "reverseOrder", desc := "()Ljava/util/Comparator;" } : Jvm.MethodName) jdk_79_method_77_code (0 : Nat) (Option.some (Jvm.ClassFile.FieldType.object "java/util/Comparator"))).before args0 about1 = true := code_word (m := ⟨23, 1⟩) (meth := k23m1) (c := k23c1) (by decide +kernel) rfl rfl rfl (by decide +kernel)
set_option maxRecDepth 65536 in
theorem w_c11 : (Jvm.Cond.code ({ cls := "com/example/openvenue/openvenue/core/BookSide", name := "levelAt", desc := "(J)Lcom/example/openvenue/openvenue/core/PriceLevel;" } : Jvm.MethodName) prog_44_method_4_code (4 : Nat) (Option.some (Jvm.ClassFile.FieldType.object "com/example/openvenue/openvenue/core/PriceLevel"))).before args0 about1 = true := code_word (m := ⟨7, 2⟩) (meth := k7m2) (c := k7c2) (by decide +kernel) rfl rfl rfl (by decide +kernel)
set_option maxRecDepth 65536 in
theorem w_c12 : (Jvm.Cond.code ({ cls := "com/example/openvenue/openvenue/core/BookSide", name := "isDeeper", desc := "(J)Z" } : Jvm.MethodName) prog_44_method_6_code (3 : Nat) (Option.some Jvm.ClassFile.FieldType.boolean)).before args0 about1 = true := code_word (m := ⟨7, 4⟩) (meth := k7m4) (c := k7c4) (by decide +kernel) rfl rfl rfl (by decide +kernel)
set_option maxRecDepth 65536 in
theorem w_c13 : (Jvm.Cond.code ({ cls := "java/util/AbstractMap", name := "isEmpty", desc := "()Z" } : Jvm.MethodName) jdk_71_method_3_code (1 : Nat) (Option.some Jvm.ClassFile.FieldType.boolean)).before args0 about1 = true := code_word (m := ⟨16, 2⟩) (meth := k16m2) (c := k16c2) (by decide +kernel) rfl rfl rfl (by decide +kernel)
set_option maxRecDepth 65536 in
theorem w_c14 : (Jvm.Cond.code ({ cls := "java/util/TreeMap", name := "size", desc := "()I" } : Jvm.MethodName) jdk_2729_method_5_code (1 : Nat) (Option.some Jvm.ClassFile.FieldType.int)).before args0 about1 = true := code_word (m := ⟨21, 2⟩) (meth := k21m2) (c := k21c2) (by decide +kernel) rfl rfl rfl (by decide +kernel)
set_option maxRecDepth 65536 in
theorem w_c15 : (Jvm.Cond.code ({ cls := "com/example/openvenue/openvenue/core/BookSide", name := "indexOf", desc := "(J)I" } : Jvm.MethodName) prog_44_method_10_code (7 : Nat) (Option.some Jvm.ClassFile.FieldType.int)).before args0 about1 = true := code_word (m := ⟨7, 6⟩) (meth := k7m6) (c := k7c6) (by decide +kernel) rfl rfl rfl (by decide +kernel)
set_option maxRecDepth 65536 in
theorem w_c16 : (Jvm.Cond.code ({ cls := "com/example/openvenue/openvenue/core/BookSide", name := "insert", desc := "(IJ)Lcom/example/openvenue/openvenue/core/PriceLevel;" } : Jvm.MethodName) prog_44_method_7_code (5 : Nat) (Option.some (Jvm.ClassFile.FieldType.object "com/example/openvenue/openvenue/core/PriceLevel"))).before args0 about1 = true := code_word (m := ⟨7, 5⟩) (meth := k7m5) (c := k7c5) (by decide +kernel) rfl rfl rfl (by decide +kernel)
set_option maxRecDepth 65536 in
theorem w_c17 : (Jvm.Cond.code ({ cls := "com/example/openvenue/openvenue/core/PriceLevel", name := "<init>", desc := "(Lcom/example/openvenue/openvenue/core/Side;J)V" } : Jvm.MethodName) prog_90_method_1_code (4 : Nat) (Option.none : Option Jvm.ClassFile.FieldType)).before args0 about1 = true := code_word (m := ⟨8, 0⟩) (meth := k8m0) (c := k8c0) (by decide +kernel) rfl rfl rfl (by decide +kernel)
set_option maxRecDepth 65536 in
theorem w_c18 : (Jvm.Cond.code ({ cls := "com/example/openvenue/openvenue/core/QuantityTotal", name := "<init>", desc := "()V" } : Jvm.MethodName) prog_92_method_1_code (1 : Nat) (Option.none : Option Jvm.ClassFile.FieldType)).before args0 about1 = true := code_word (m := ⟨26, 0⟩) (meth := k26m0) (c := k26c0) (by decide +kernel) rfl rfl rfl (by decide +kernel)
set_option maxRecDepth 65536 in
theorem w_c19 : (Jvm.Cond.code ({ cls := "com/example/openvenue/openvenue/core/BookSide", name := "isWorse", desc := "(JJ)Z" } : Jvm.MethodName) prog_44_method_11_code (5 : Nat) (Option.some Jvm.ClassFile.FieldType.boolean)).before args0 about1 = true := code_word (m := ⟨7, 7⟩) (meth := k7m7) (c := k7c7) (by decide +kernel) rfl rfl rfl (by decide +kernel)
set_option maxRecDepth 65536 in
theorem w_c20 : (Jvm.Cond.code ({ cls := "com/example/openvenue/openvenue/core/BookSide", name := "remove", desc := "(Lcom/example/openvenue/openvenue/core/PriceLevel;)V" } : Jvm.MethodName) prog_44_method_5_code (3 : Nat) (Option.none : Option Jvm.ClassFile.FieldType)).before args0 about1 = true := code_word (m := ⟨7, 3⟩) (meth := k7m3) (c := k7c3) (by decide +kernel) rfl rfl rfl (by decide +kernel)
set_option maxRecDepth 65536 in
theorem w_c21 : (Jvm.Cond.code ({ cls := "com/example/openvenue/openvenue/core/PriceLevel", name := "price", desc := "()J" } : Jvm.MethodName) prog_90_method_3_code (1 : Nat) (Option.some Jvm.ClassFile.FieldType.long)).before args0 about1 = true := code_word (m := ⟨8, 1⟩) (meth := k8m1) (c := k8c1) (by decide +kernel) rfl rfl rfl (by decide +kernel)
set_option maxRecDepth 65536 in
theorem w_c22 : (Jvm.Cond.code ({ cls := "com/example/openvenue/openvenue/core/BookSideBestPinLaw", name := "better", desc := "(Lcom/example/openvenue/openvenue/core/Side;JJ)Z" } : Jvm.MethodName) method_3_code (5 : Nat) (Option.some Jvm.ClassFile.FieldType.boolean)).before args0 about1 = true := code_word (m := ⟨1, 2⟩) (meth := k1m2) (c := k1c2) (by decide +kernel) rfl rfl rfl (by decide +kernel)
def codes1 : List Jvm.Cond := [Jvm.Cond.code x code maxLocals ret, Jvm.Cond.code ({ cls := "com/example/openvenue/openvenue/core/BookSide", name := "<init>", desc := "(Lcom/example/openvenue/openvenue/core/Side;)V" } : Jvm.MethodName) prog_44_method_1_code (3 : Nat) (Option.none : Option Jvm.ClassFile.FieldType), Jvm.Cond.code ({ cls := "java/lang/Object", name := "<init>", desc := "()V" } : Jvm.MethodName) object_method_1_code (1 : Nat) (Option.none : Option Jvm.ClassFile.FieldType), Jvm.Cond.code ({ cls := "com/example/openvenue/openvenue/core/BookSide$BestFirst", name := "<init>", desc := "(Lcom/example/openvenue/openvenue/core/BookSide;)V" } : Jvm.MethodName) prog_45_method_1_code (2 : Nat) (Option.none : Option Jvm.ClassFile.FieldType), Jvm.Cond.code ({ cls := "java/util/AbstractCollection", name := "<init>", desc := "()V" } : Jvm.MethodName) jdk_22_method_1_code (1 : Nat) (Option.none : Option Jvm.ClassFile.FieldType), Jvm.Cond.code ({ cls := "java/util/Comparator", name := "naturalOrder", desc := "()Ljava/util/Comparator;" } : Jvm.MethodName) jdk_2515_method_11_code (0 : Nat) (Option.some (Jvm.ClassFile.FieldType.object "java/util/Comparator")), Jvm.Cond.code ({ cls := "java/util/TreeMap", name := "<init>", desc := "(Ljava/util/Comparator;)V" } : Jvm.MethodName) jdk_2729_method_2_code (2 : Nat) (Option.none : Option Jvm.ClassFile.FieldType), Jvm.Cond.code ({ cls := "java/util/AbstractMap", name := "<init>", desc := "()V" } : Jvm.MethodName) jdk_71_method_1_code (1 : Nat) (Option.none : Option Jvm.ClassFile.FieldType), Jvm.Cond.code ({ cls := "com/example/openvenue/openvenue/core/BookSide", name := "best", desc := "()Lcom/example/openvenue/openvenue/core/PriceLevel;" } : Jvm.MethodName) prog_44_method_2_code (1 : Nat) (Option.some (Jvm.ClassFile.FieldType.object "com/example/openvenue/openvenue/core/PriceLevel")), Jvm.Cond.code ({ cls := "java/util/Comparator", name := "reverseOrder", desc := "()Ljava/util/Comparator;" } : Jvm.MethodName) jdk_2515_method_10_code (0 : Nat) (Option.some (Jvm.ClassFile.FieldType.object "java/util/Comparator")), Jvm.Cond.code ({ cls := "java/util/Collections", name := "reverseOrder", desc := "()Ljava/util/Comparator;" } : Jvm.MethodName) jdk_79_method_77_code (0 : Nat) (Option.some (Jvm.ClassFile.FieldType.object "java/util/Comparator")), Jvm.Cond.code ({ cls := "com/example/openvenue/openvenue/core/BookSide", name := "levelAt", desc := "(J)Lcom/example/openvenue/openvenue/core/PriceLevel;" } : Jvm.MethodName) prog_44_method_4_code (4 : Nat) (Option.some (Jvm.ClassFile.FieldType.object "com/example/openvenue/openvenue/core/PriceLevel")), Jvm.Cond.code ({ cls := "com/example/openvenue/openvenue/core/BookSide", name := "isDeeper", desc := "(J)Z" } : Jvm.MethodName) prog_44_method_6_code (3 : Nat) (Option.some Jvm.ClassFile.FieldType.boolean), Jvm.Cond.code ({ cls := "java/util/AbstractMap", name := "isEmpty", desc := "()Z" } : Jvm.MethodName) jdk_71_method_3_code (1 : Nat) (Option.some Jvm.ClassFile.FieldType.boolean), Jvm.Cond.code ({ cls := "java/util/TreeMap", name := "size", desc := "()I" } : Jvm.MethodName) jdk_2729_method_5_code (1 : Nat) (Option.some Jvm.ClassFile.FieldType.int), Jvm.Cond.code ({ cls := "com/example/openvenue/openvenue/core/BookSide", name := "indexOf", desc := "(J)I" } : Jvm.MethodName) prog_44_method_10_code (7 : Nat) (Option.some Jvm.ClassFile.FieldType.int), Jvm.Cond.code ({ cls := "com/example/openvenue/openvenue/core/BookSide", name := "insert", desc := "(IJ)Lcom/example/openvenue/openvenue/core/PriceLevel;" } : Jvm.MethodName) prog_44_method_7_code (5 : Nat) (Option.some (Jvm.ClassFile.FieldType.object "com/example/openvenue/openvenue/core/PriceLevel")), Jvm.Cond.code ({ cls := "com/example/openvenue/openvenue/core/PriceLevel", name := "<init>", desc := "(Lcom/example/openvenue/openvenue/core/Side;J)V" } : Jvm.MethodName) prog_90_method_1_code (4 : Nat) (Option.none : Option Jvm.ClassFile.FieldType), Jvm.Cond.code ({ cls := "com/example/openvenue/openvenue/core/QuantityTotal", name := "<init>", desc := "()V" } : Jvm.MethodName) prog_92_method_1_code (1 : Nat) (Option.none : Option Jvm.ClassFile.FieldType), Jvm.Cond.code ({ cls := "com/example/openvenue/openvenue/core/BookSide", name := "isWorse", desc := "(JJ)Z" } : Jvm.MethodName) prog_44_method_11_code (5 : Nat) (Option.some Jvm.ClassFile.FieldType.boolean), Jvm.Cond.code ({ cls := "com/example/openvenue/openvenue/core/BookSide", name := "remove", desc := "(Lcom/example/openvenue/openvenue/core/PriceLevel;)V" } : Jvm.MethodName) prog_44_method_5_code (3 : Nat) (Option.none : Option Jvm.ClassFile.FieldType), Jvm.Cond.code ({ cls := "com/example/openvenue/openvenue/core/PriceLevel", name := "price", desc := "()J" } : Jvm.MethodName) prog_90_method_3_code (1 : Nat) (Option.some Jvm.ClassFile.FieldType.long), Jvm.Cond.code ({ cls := "com/example/openvenue/openvenue/core/BookSideBestPinLaw", name := "better", desc := "(Lcom/example/openvenue/openvenue/core/Side;JJ)Z" } : Jvm.MethodName) method_3_code (5 : Nat) (Option.some Jvm.ClassFile.FieldType.boolean)]
set_option maxRecDepth 65536 in
theorem codes_eq : words1.filter isCode = codes1 := rfl
theorem w_codes : ∀ c ∈ words1.filter isCode, c.before args0 about1 = true := by
  rw [codes_eq]
  intro c hc
  simp only [codes1, List.mem_cons, List.not_mem_nil, or_false] at hc
  rcases hc with rfl | rfl | rfl | rfl | rfl | rfl | rfl | rfl | rfl | rfl | rfl | rfl | rfl | rfl | rfl | rfl | rfl | rfl | rfl | rfl | rfl | rfl | rfl
  · exact w_c0
  · exact w_c1
  · exact w_c2
  · exact w_c3
  · exact w_c4
  · exact w_c5
  · exact w_c6
  · exact w_c7
  · exact w_c8
  · exact w_c9
  · exact w_c10
  · exact w_c11
  · exact w_c12
  · exact w_c13
  · exact w_c14
  · exact w_c15
  · exact w_c16
  · exact w_c17
  · exact w_c18
  · exact w_c19
  · exact w_c20
  · exact w_c21
  · exact w_c22
set_option maxRecDepth 65536 in
theorem w_t1 : (words1.take 24).all (fun c => isCode c || c.before args0 about1) = true := by decide +kernel
set_option maxRecDepth 65536 in
theorem w_t2 : ((words1.drop 24).take 24).all (fun c => isCode c || c.before args0 about1) = true := by decide +kernel
set_option maxRecDepth 65536 in
theorem w_t3 : (((words1.drop 24).drop 24).take 24).all (fun c => isCode c || c.before args0 about1) = true := by decide +kernel
set_option maxRecDepth 65536 in
theorem w_t4 : ((((words1.drop 24).drop 24).drop 24).take 24).all (fun c => isCode c || c.before args0 about1) = true := by decide +kernel
set_option maxRecDepth 65536 in
theorem w_t5 : (((((words1.drop 24).drop 24).drop 24).drop 24).take 24).all (fun c => isCode c || c.before args0 about1) = true := by decide +kernel
set_option maxRecDepth 65536 in
theorem w_t6 : ((((((words1.drop 24).drop 24).drop 24).drop 24).drop 24).take 24).all (fun c => isCode c || c.before args0 about1) = true := by decide +kernel
set_option maxRecDepth 65536 in
theorem w_t7 : ((((((words1.drop 24).drop 24).drop 24).drop 24).drop 24).drop 24).all (fun c => isCode c || c.before args0 about1) = true := by decide +kernel
theorem w_tables : (allAtoms (Jvm.Cond.code x code maxLocals ret :: tables_1)).before args0 about1 = true := by
  rw [allAtoms_all]
  show words1.all (fun c => c.before args0 about1) = true
  refine all_split ?_ w_codes
  rw [← List.take_append_drop 24 words1, List.all_append, w_t1, ← List.take_append_drop 24 (words1.drop 24), List.all_append, w_t2, ← List.take_append_drop 24 ((words1.drop 24).drop 24), List.all_append, w_t3, ← List.take_append_drop 24 (((words1.drop 24).drop 24).drop 24), List.all_append, w_t4, ← List.take_append_drop 24 ((((words1.drop 24).drop 24).drop 24).drop 24), List.all_append, w_t5, ← List.take_append_drop 24 (((((words1.drop 24).drop 24).drop 24).drop 24).drop 24), List.all_append, w_t6, w_t7]
  rfl
set_option maxRecDepth 65536 in
theorem w_rest : rest_1_c.before args0 about1 = true := by decide +kernel
set_option maxRecDepth 65536 in
theorem w_case : (Jvm.Cond.and given_1 narrow_1).before args0 about1 = true := by decide +kernel
theorem w_applies : (headSpec (Jvm.Cond.code x code maxLocals ret :: tables_1) room_1).applies x e0.platform about1 = true :=
  (Spec.applies_iff w_frames).mpr ⟨w_running, w_runnable, w_alone, w_named, w_hears, w_ripe, w_room, w_tables⟩
theorem atStart : AtStart classFile x code maxLocals ret World_1 tables_1 room_1 Calls_1 rest_1 Pre_1 launch0 p0 e0 about1 theMethod args0 below0 :=
  ⟨lists_1, trivial, launch0.admits_env _ _ _, launch0.least_env, fairChoices_fair.cas, fairChoices_fair.clock, w_frames, w_args, w_heap, w_applies, trivial, w_rest, w_case⟩
end start1
theorem witness_1 : WitnessClaimed_1 := ⟨start1.p0, start1.e0, start1.about1, start1.theMethod, start1.args0, start1.below0, start1.atStart⟩
end Jvm.Pilot.@@N@@
