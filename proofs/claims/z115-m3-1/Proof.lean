import JvmDerived
import JvmDerived.Pilot.@@N@@Statement
import JvmDerived.Pilot.@@N@@Code
set_option linter.unusedVariables false
set_option linter.unusedSimpArgs false
namespace Jvm.RoadKit
open Sem ClassFile Op Lib Jvm.Stand Jvm.Free Jvm.LawKit
section New
variable {p : Program} {l : Launch} {e : Env} {R : Room} {s : State} {m : MethodId} {args : Array Value} {below : List Frame} {meth : Method} {c : Code} {T : State} {locs : List Loc} {cells slots : Nat}
theorem own_retI (X : Stand p l e R s m args below meth c T locs cells slots) (hx : p.tables.exec = Jvm.exec) {pc : Nat} {Ls : Array Slot} {z : Int32} {rest : List Value} (hret : meth.sig.returnType = some .int) (hd : decode c.code pc = .ok (.ireturn, 1)) {fs : List Frame}
    (hl : ∀ (f : JFrame) (acts : List Action), f.method = m → f.locked = none → f.entered = [] → (doReturn e (T.setTop f) acts (some (.int z))).1 = T.setFrames fs) : Steps p.tables e below (T.setTop (mkF m pc Ls (.int z :: rest))) (T.setFrames fs) := by
  have hm' : T.vm.method? m = some meth := X.method'
  have hn : narrow .int (.int z) = .int z := rfl
  show Steps p.tables e below (T.setTop { method := m, pc := pc, locals := Ls, stack := _ :: rest, locked := none }) _
  jvm_step X.here [X.here.top, hx, hd, hm', hret, hn]
  first | (intro acts; rw [hl _ acts rfl rfl rfl]) | rw [hl _ _ rfl rfl rfl]
  exact Steps.refl _
theorem own_retL (X : Stand p l e R s m args below meth c T locs cells slots) (hx : p.tables.exec = Jvm.exec) {pc : Nat} {Ls : Array Slot} {z : Int64} {rest : List Value} (hret : meth.sig.returnType = some .long) (hd : decode c.code pc = .ok (.lreturn, 1)) {fs : List Frame}
    (hl : ∀ (f : JFrame) (acts : List Action), f.method = m → f.locked = none → f.entered = [] → (doReturn e (T.setTop f) acts (some (.long z))).1 = T.setFrames fs) : Steps p.tables e below (T.setTop (mkF m pc Ls (.long z :: rest))) (T.setFrames fs) := by
  have hm' : T.vm.method? m = some meth := X.method'
  have hn : narrow .long (.long z) = .long z := rfl
  show Steps p.tables e below (T.setTop { method := m, pc := pc, locals := Ls, stack := _ :: rest, locked := none }) _
  jvm_step X.here [X.here.top, hx, hd, hm', hret, hn]
  first | (intro acts; rw [hl _ acts rfl rfl rfl]) | rw [hl _ _ rfl rfl rfl]
  exact Steps.refl _
theorem own_retR (X : Stand p l e R s m args below meth c T locs cells slots) (hx : p.tables.exec = Jvm.exec) {pc : Nat} {Ls : Array Slot} {w : Value} {t : FieldType} {rest : List Value} (hret : meth.sig.returnType = some t) (hn : narrow t w = w) (ht : t.isReference = true) (hw : w.isRef = true) (hd : decode c.code pc = .ok (.areturn, 1)) {fs : List Frame}
    (hl : ∀ (f : JFrame) (acts : List Action), f.method = m → f.locked = none → f.entered = [] → (doReturn e (T.setTop f) acts (some w)).1 = T.setFrames fs) : Steps p.tables e below (T.setTop (mkF m pc Ls (w :: rest))) (T.setFrames fs) := by
  have hm' : T.vm.method? m = some meth := X.method'
  show Steps p.tables e below (T.setTop { method := m, pc := pc, locals := Ls, stack := _ :: rest, locked := none }) _
  jvm_step X.here [X.here.top, hx, hd, hm', hret, hn, hw]
  try (refine ⟨ht, ?_⟩)
  first | (intro acts; rw [hl _ acts rfl rfl rfl]) | rw [hl _ _ rfl rfl rfl]
  exact Steps.refl _
/-- from here the run comes to a state of which G holds -/
def Out (tb : Tables) (e : Env) (below : List Frame) (G : State → Prop) (T : State) (g : JFrame) : Prop := ∃ U, Steps tb e below (T.setTop g) U ∧ G U
theorem Out.via {tb : Tables} {G : State → Prop} {T' : State} {g g' : JFrame} (h : ∀ target, Steps tb e below (T'.setTop g') target → Steps tb e below (T.setTop g) target) (k : Out tb e below G T' g') : Out tb e below G T g := by
  obtain ⟨U, h1, h2⟩ := k
  exact ⟨U, h _ h1, h2⟩
theorem Out.to {tb : Tables} {G : State → Prop} {T' : State} {g g' : JFrame} (h : Steps tb e below (T.setTop g) (T'.setTop g')) (k : Out tb e below G T' g') : Out tb e below G T g := by
  obtain ⟨U, h1, h2⟩ := k
  exact ⟨U, h.trans h1, h2⟩
/-- what a contract asks of the end -/
def End (s : State) (below : List Frame) (Q : Option Value → Heap → List Loc → Prop) (kc ks : Nat) (U : State) : Prop := U.status = .running ∧ ∃ o, Ended U below o ∧ ∃ v L, o = .returned v ∧ Q v U.heap L ∧ FrameEnd s o U L kc ks
theorem Out.start {tb : Tables} {Q : Option Value → Heap → List Loc → Prop} {kc ks : Nat} {g g' : JFrame} (q : g = g') (k : Out tb e below (End s below Q kc ks) T g') : ∃ s₂ o, Steps tb e below (T.setTop g) s₂ ∧ s₂.status = .running ∧ Ended s₂ below o ∧ ∃ v L, o = .returned v ∧ Q v s₂.heap L ∧ FrameEnd s o s₂ L kc ks := by
  subst q
  obtain ⟨U, h1, h2, o, h3, h4⟩ := k
  exact ⟨U, o, h1, h2, h3, h4⟩
/-- the end of a narrow walk, whatever the return's kind -/
theorem Out.endN (X : Stand p l e R s m args below meth c T locs cells slots) {g : JFrame} {v : Option Value} {Q : Option Value → Heap → List Loc → Prop} {kc ks : Nat} (hv : meth.sig.returnType = none → v = none) (hk : meth.locks = false) (hc : cells ≤ kc) (hs : slots ≤ ks) (hq : Q v T.heap locs)
    (st : ∀ fs : List Frame, (∀ (f : JFrame) (acts : List Action), f.method = m → f.locked = none → f.entered = [] → (doReturn e (T.setTop f) acts v).1 = T.setFrames fs) → Steps p.tables e below (T.setTop g) (T.setFrames fs)) : Out p.tables e below (End s below Q kc ks) T g := by
  obtain ⟨fs, hr, hrun, hended, hW, hsame⟩ := X.leave (v := v) hv hk
  exact ⟨_, st fs hr, hrun, _, hended, _, _, rfl, hq, ⟨_, rfl⟩, hW, hsame.mono hc hs⟩
/-- what a contract asks of the end, where literals may have been interned -/
def EndW (s : State) (below : List Frame) (Q : Option Value → Heap → List Loc → Prop) (kc ks : Nat) (U : State) : Prop := U.status = .running ∧ ∃ o, Ended U below o ∧ ∃ v L, o = .returned v ∧ Q v U.heap L ∧ ReturnedEndW s o U L kc ks
theorem Out.startW {tb : Tables} {Q : Option Value → Heap → List Loc → Prop} {kc ks : Nat} {g g' : JFrame} (q : g = g') (k : Out tb e below (EndW s below Q kc ks) T g') : ∃ s₂ o, Steps tb e below (T.setTop g) s₂ ∧ s₂.status = .running ∧ Ended s₂ below o ∧ ∃ v L, o = .returned v ∧ Q v s₂.heap L ∧ ReturnedEndW s o s₂ L kc ks := by
  subst q
  obtain ⟨U, h1, h2, o, h3, h4⟩ := k
  exact ⟨U, o, h1, h2, h3, h4⟩
theorem Out.endW {vm0 : Vm} {n : Nat} (X : Stand p l e R (s.setVm vm0) m args below meth c T locs cells slots) (hS : s.Since vm0 n) (hn : n ≤ T.heap.size) {g : JFrame} {v : Option Value} {Q : Option Value → Heap → List Loc → Prop} {kc ks : Nat} (hv : meth.sig.returnType = none → v = none) (hk : meth.locks = false) (hc : cells ≤ kc) (hs : slots ≤ ks) (hq : Q v T.heap locs)
    (st : ∀ fs : List Frame, (∀ (f : JFrame) (acts : List Action), f.method = m → f.locked = none → f.entered = [] → (doReturn e (T.setTop f) acts v).1 = T.setFrames fs) → Steps p.tables e below (T.setTop g) (T.setFrames fs)) : Out p.tables e below (EndW s below Q kc ks) T g := by
  obtain ⟨fs, hr, hrun, hended, h1, h2, h3, h4⟩ := X.leaveW hS hn (v := v) hv hk
  exact ⟨_, st fs hr, hrun, _, hended, _, _, rfl, hq, h1, h2, h3, h4.mono hc hs⟩
/-- .. and the assumed word on the literals goes on -/
def EndH (Z : State) (EL : List (String × Nat)) (s : State) (below : List Frame) (Q : Option Value → Heap → List Loc → Prop) (kc ks : Nat) (U : State) : Prop := U.status = .running ∧ ∃ o, Ended U below o ∧ ∃ v L, o = .returned v ∧ Q v U.heap L ∧ CHr Z EL s.vm s.heap U.vm U.heap ∧ ReturnedEndW s o U L kc ks
theorem Out.startH {tb : Tables} {Z : State} {EL : List (String × Nat)} {Q : Option Value → Heap → List Loc → Prop} {kc ks : Nat} {g g' : JFrame} (q : g = g') (k : Out tb e below (EndH Z EL s below Q kc ks) T g') : ∃ s₂ o, Steps tb e below (T.setTop g) s₂ ∧ s₂.status = .running ∧ Ended s₂ below o ∧ ∃ v L, o = .returned v ∧ Q v s₂.heap L ∧ CHr Z EL s.vm s.heap s₂.vm s₂.heap ∧ ReturnedEndW s o s₂ L kc ks := by
  subst q
  obtain ⟨U, h1, h2, o, h3, h4⟩ := k
  exact ⟨U, o, h1, h2, h3, h4⟩
theorem Out.endH {Z : State} {a0 : Array Value} {EL : List (String × Nat)} {vm0 : Vm} {n : Nat} (X : Stand p l e R (s.setVm vm0) m args below meth c T locs cells slots) (hS : s.Since vm0 n) (hn : n ≤ T.heap.size) (hZ : Z.Warmed39 (s.setVm vm0).vm) (w : EW Z a0 EL) (CR : CHr Z EL s.vm s.heap vm0 T.heap) {g : JFrame} {v : Option Value} {Q : Option Value → Heap → List Loc → Prop} {kc ks : Nat} (hv : meth.sig.returnType = none → v = none) (hk : meth.locks = false) (hc : cells ≤ kc) (hs : slots ≤ ks) (hq : Q v T.heap locs)
    (st : ∀ fs : List Frame, (∀ (f : JFrame) (acts : List Action), f.method = m → f.locked = none → f.entered = [] → (doReturn e (T.setTop f) acts v).1 = T.setFrames fs) → Steps p.tables e below (T.setTop g) (T.setFrames fs)) : Out p.tables e below (EndH Z EL s below Q kc ks) T g := by
  obtain ⟨fs, hr, hrun, hended, h1, h2, h3, h4⟩ := X.leaveW hS hn (v := v) hv hk
  have q : CHr Z EL vm0 T.heap T.vm T.heap := CHv.at X hZ w CR.1
  exact ⟨_, st fs hr, hrun, _, hended, _, _, rfl, hq, CR.trans q, h1, h2, h3, h4.mono hc hs⟩
theorem own_since0 (s : State) (n : Nat) : s.Since s.vm n := (State.WarmedH.refl s).since n
/-- castore into an array whose values are known: what stands behind it -/
theorem own_stC (X : Stand p l e R s m args below meth c T locs cells slots) (hx : p.tables.exec = Jvm.exec) {Z : State} (hZ : Z.Warmed39 s.vm) {h h1 : Heap} (eT : T.heap = h) {a : Addr} {k : ClassId} {z : Int32} {vs : List Value} {dv : Value} (V : Arv Z h a k .char z vs dv) {j x : Int32} (hj : ¬ j < 0 ∧ j < z) (i : Nat) (hi : j.toNatClampNeg = i) (hl : i < vs.length)
    {n0 : Nat} (ga : n0 ≤ a) (N : Fr n0 locs) (O : Old Z n0 h) {ws : List Addr} (K : Keep h1 h ws) (hK : a ∈ ws ∨ h1.size ≤ a) {g : JFrame} (hg : g.method = m) {rest : List Value} (hs : g.stack = .int x :: .int j :: .ref a :: rest) (hd : decode c.code g.pc = .ok (.castore, 1)) :
    ∃ T' h' L', Stand p l e R s m args below meth c T' L' cells slots ∧ T'.heap = h' ∧ Arv Z h' a k .char z (vs.set i (.int (nar .char x))) dv ∧ Fr n0 L' ∧ Old Z n0 h' ∧ Keep h1 h' ws ∧ ∀ target, Steps p.tables e below (T'.setTop { g with pc := g.pc + 1, stack := rest }) target → Steps p.tables e below (T.setTop g) target := by
  obtain ⟨cl, Ar, q, S, M, H, G⟩ := V
  obtain ⟨T', h', X', e', W, st⟩ := stC X hx hZ eT Ar (j := j) (inb_of S hj) hg hs hd
  exact ⟨T', h', _, X', e', Arv.set Ar q S M H G (fits_nar_char _) W i hi hl, Fr.snoc X' N ga, O.wr W ga, K.wr W hK, st⟩
theorem own_z0 {Z : State} {n0 : Nat} {h : Heap} (O : Old Z n0 h) : n0 ≤ h.size := O.1 ▸ O.2.1
end New
end Jvm.RoadKit
namespace Jvm.Pilot.@@N@@
open Jvm Jvm.ClassFile Sem Op Lib Jvm.Free Jvm.Stand Jvm.LawKit Jvm.RoadKit Jvm.Pilot.@@N@@.Jvm.D
section Up
variable {p : Program} {l : Launch} {e : Env} {R : Room} {s : State} {m : MethodId} {args : Array Value} {below : List Frame} {meth : Method} {c : Code} {T : State} {locs : List Loc} {cells slots : Nat}
theorem own_mvI {Z : State} {a0 : Array Value} {r o n d : String} (hZ : Z.Warmed39 s.vm) (h : (Jvm.Cond.interfaceMethod r o n d).before a0 Z = true) : (Jvm.Cond.interfaceMethod r o n d).before args s = true := by
  have hf := State.methodFound?_setVm hZ.alike r n d
  have h1 : (Jvm.Cond.interfaceMethod r o n d).before a0 (Z.setVm s.vm) = true := by
    simp only [Cond.before, Cond.holds, Cond.value, State.vm_setVm, hZ.alike.findClass, hf, State.methodNamed?_setVm hZ.alike, arm_isInterface_setVm hZ.alike] at h ⊢
    exact h
  exact h1
theorem own_more {cells' slots' : Nat} (X : Stand p l e R s m args below meth c T locs cells slots) (h1 : cells ≤ cells') (h2 : slots ≤ slots') : Stand p l e R s m args below meth c T locs cells' slots' :=
  ⟨X.admits, X.cas, X.clock, X.frames, X.room, X.hears, X.method, X.code, X.here, X.tail, X.warmed, X.limits, X.bytes, X.same.mono h1 h2⟩
/-- the entry of a reference to an interface's method that another interface declares: 'methodLink' says it may be reached, public or not -/
theorem own_linkFF {cls : String} {x : MethodName} {index d ci : Nat} {ck ok : Class} {mm : Method} {mf : MethodId} {a0 : Array Value} (hd : s.vm.findClass cls = some d) (hc : s.vm.findClass x.cls = some ci) (hck : s.vm.classes[ci]? = some ck) (hvi : ck.isInterface = true) (hnone : ck.findMethod x.name x.desc = none) (hf : s.methodFound? x.cls x.name x.desc = some mf)
    (hok : s.vm.classes[mf.cls]? = some ok) (hm : ok.methods[mf.idx]? = some mm) (hcl : x.name ≠ "clone") (hx : x.cls ≠ "java/lang/invoke/MethodHandle" ∧ x.cls ≠ "java/lang/invoke/VarHandle") (h : (Jvm.Cond.methodLink cls index x).before a0 s = true) (pl : Platform) (hpl : pl.magicAccessors = ({} : Platform).magicAccessors) :
    ∃ i, s.vm.MethodLinksFF pl d index i ci mf ∧ s.rightAt d index (.method mf) = true := by
  obtain ⟨k₀, hk₀, hname⟩ := Vm.findClass_spec hc
  cases hck.symm.trans hk₀
  have hpoly : ∀ y, signaturePolymorphic ck y = false := fun y => by simp [signaturePolymorphic, hname, hx.1, hx.2]
  have hmeth : s.vm.method? mf = some mm := by simp [Vm.method?, hok, hm]
  have h' : (Jvm.Cond.methodLink cls index x).value a0 s none s [] = some true := Cond.before_iff.mp h
  rcases hme : s.memberEntry? cls index with _ | ⟨i, via⟩
  · simp [Cond.value, hme, hd, hc, hf] at h'
  rcases hcl' : s.classLinks cls i x.cls with _ | linked
  · simp [Cond.value, hme, hd, hc, hf, hcl'] at h'
  rcases hdk : s.vm.classes[d]? with _ | dk
  · simp [Cond.value, hme, hd, hc, hf, hcl', hdk] at h'
  simp only [Cond.value, hme, hd, hc, hf, hcl', hdk, hck, hok, hmeth, Option.bind_eq_bind, Option.bind_some, Option.pure_def, Option.some.injEq, Bool.and_eq_true, beq_iff_eq, bne_iff_ne, ne_eq, Option.isNone_iff_eq_none] at h'
  obtain ⟨⟨⟨⟨⟨⟨⟨rfl, hnm⟩, hopen⟩, hvia⟩, -⟩, -⟩, hml⟩, hacc⟩ := h'
  have hv : via = true := hvia.symm.trans hvi
  subst hv
  obtain ⟨cr, hcr, hlinks⟩ := State.classLinks_spec hd hcl' pl hpl
  cases hc.symm.trans hcr
  obtain ⟨cp, hcp, hnames⟩ := State.names_spec hnm
  obtain ⟨dk', cf, hdk', hcf, rfl⟩ := State.poolOf?_spec hd hcp
  cases hdk.symm.trans hdk'
  obtain ⟨i', nt, hent, hnt, -⟩ := namesOf?_method hnames
  have hent' : i' = i ∧ cf.constantPool[index]? = some (.interfaceMethodref i nt) := by
    rcases hent with hent | hent
    · simp [State.memberEntry?, hcp, hent] at hme
    · simp only [State.memberEntry?, hcp, Option.bind_eq_bind, Option.bind_some, hent, Option.some.injEq, Prod.mk.injEq] at hme
      exact ⟨hme.1, hme.1 ▸ hent⟩
  obtain ⟨rfl, hent''⟩ := hent'
  obtain ⟨dk₂, cf₂, nm₂, ck₂, p1, p2, p3, p4, p5⟩ := hlinks.here
  cases hdk.symm.trans p1
  cases hcf.symm.trans p2
  have hne : i' ≠ index := fun he => by subst he; simp [ConstantPool.className?, hent''] at p4
  refine ⟨i', ⟨dk, cf, nt, x.name, x.desc, ck, ok, mm, hdk, hcf, hent'', hnt, hlinks, hne, hck, hvi, hpoly, hnone, State.faceFind_of_found hc hck hvi hpoly hnone hf, hok, hm, p3.trans hml.symm, ?_, State.openOr_spec hd hdk hopen⟩, by simp [State.rightAt, hdk, hcf, hnames, hf]⟩
  simpa [Vm.Plain, plainAccess, or_assoc, and_assoc, hcl] using hacc
/-- 'invokeinterface' of a method that another interface J declares, and back -/
theorem own_ibUp (X : Stand p l e R s m args below meth c T locs cells slots) (hexec : p.tables.exec = Jvm.exec) {own C J : String} {index count : Nat} {xi y : MethodName}
    (hown : s.vm.findClass own = some m.cls) (hlink : (Jvm.Cond.methodLink own index xi).before args s = true) (hdecl : (Jvm.Cond.declares ⟨J, xi.name, xi.desc⟩).before args s = true) (hnc : xi.name ≠ "clone") (hface : (Jvm.Cond.interfaceMethod xi.cls J xi.name xi.desc).before args s = true) (hxo : xi.cls ≠ J)
    (hsel : (Jvm.Cond.selects C xi y).before args s = true) (hinst : (Jvm.Cond.instanceMethod y).before args s = true) (hpub : (Jvm.Cond.publicMethod y).before args s = true) (hunh : (Jvm.Cond.unhidden C xi.name xi.desc).before args s = true) (hcast : (Jvm.Cond.castable C xi.cls).before args s = true)
    (hx : xi.cls ≠ "java/lang/invoke/MethodHandle" ∧ xi.cls ≠ "java/lang/invoke/VarHandle") {W : Nat} {Pre : Pt → Array Value → Prop} {Post : Pt → Array Value → Option Value → Pt → Prop} (hK : Back l R p e below s args y 5 W Pre Post)
    {b : Addr} {cB : ClassId} {kB : Class} (hcB : s.vm.findClass C = some cB) (hkB : s.vm.classes[cB]? = some kB) (hrecv : IsOf cB T b) {g : JFrame} (hg : g.method = m) (hsize : g.locals.size = c.maxLocals) {s₀ : State} (hcome : Steps p.tables e below s₀ (T.setTop g)) {argsL rest : List Value}
    (hlen : ∀ sig, parseMethodDescriptor xi.desc = some sig → argsL.length = sig.parameters.length) (hstack : g.stack = argsL.reverse ++ .ref b :: rest) (hW : 2 * g.monitorRoom + (rest.map fun v => v.category).sum ≤ W) (hdg : decode c.code g.pc = .ok (.invokeinterface index count, 5))
    (hpre : ∀ vm₁, s.WarmedH vm₁ → Pre ⟨T.setVm vm₁, locs, cells, slots⟩ (.ref b :: argsL).toArray) :
    ∃ (v : Option Value) (vm₁ : Vm) (B : Pt), s.WarmedH vm₁ ∧ Stand p l e R s m args below meth c B.U B.locs B.cells B.slots ∧ Post ⟨T.setVm vm₁, locs, cells, slots⟩ (.ref b :: argsL).toArray v B ∧ Steps p.tables e below s₀ (B.U.setTop { g with pc := g.pc + 5, stack := v.toList ++ rest }) := by
  by_cases hpj : (Jvm.Cond.publicMethod ⟨J, xi.name, xi.desc⟩).before args s = true
  · exact X.interfaceBackUp hexec hown hlink hdecl hpj hface hxo hsel hinst hpub hunh hcast hx hK hcB hkB hrecv hg hsize hcome hlen hstack hW hdg hpre
  obtain ⟨cellB, hcellT, rfl, hstatB⟩ := hrecv
  obtain ⟨r0, r, hn, hrm, hstR, hsigR⟩ := Cond.declares_spec hdecl
  obtain ⟨cI, kL, r1, hcI, hkL, hiL, hfound, hn1⟩ := Cond.interfaceMethod_spec hface
  cases hn.symm.trans hn1
  obtain ⟨hnameR, hdescR⟩ := name_of_methodNamed hn hrm
  obtain ⟨mk, methM, hnamed, hmethM, -, habM⟩ := Cond.instanceMethod_spec hinst
  obtain ⟨c2, r2, m2, q1, q2, q3, q4, -⟩ := Cond.selects_spec hsel
  cases hcB.symm.trans q1
  cases hfound.symm.trans q2
  cases hnamed.symm.trans q3
  obtain ⟨c3, t3, w1, w2, w3⟩ := Cond.castable_spec hcast
  cases hcB.symm.trans w1
  cases hcI.symm.trans w2
  have hway : ((cellB.cls :: s.vm.superclasses cellB.cls).any fun k => (declaredIn s.vm r.name r.desc k).any fun (_, z) => z.isPrivate || z.isStatic) = false := by rw [hnameR, hdescR]; exact Cond.unhidden_spec hcB hunh
  obtain ⟨ok, hok, hokn⟩ := className_of_methodNamed hn
  have hmO : ok.methods[r0.idx]? = some r := by simpa [Vm.method?, hok] using hrm
  obtain ⟨kL', hkL', hnL⟩ := Vm.findClass_spec hcI
  cases hkL.symm.trans hkL'
  have hnone : kL.findMethod xi.name xi.desc = none := by
    rcases hj : kL.findMethod xi.name xi.desc with _ | j
    · rfl
    exfalso
    obtain ⟨hlt, -, -⟩ := Array.findIdx?_eq_some_iff_getElem.mp hj
    have h2 := State.methodFound?_declared hcI hkL (fun y => by simp [signaturePolymorphic, hnL, hx.1, hx.2]) hj (by simp [hlt])
    cases hfound.symm.trans h2
    cases hkL.symm.trans hok
    exact hxo (hnL.symm.trans hokn)
  obtain ⟨ci, hl, hright⟩ := own_linkFF hown hcI hkL hiL hnone hfound hok hmO hnc hx hlink e.platform (by rw [X.admits.platform])
  have hE : s.MethodEntryUp e T.vm m.cls index cI r0 ci := State.methodEntryFF X.warmed hl hright
  obtain ⟨dk, cfile, nt, _, _, ck, _, _, hd, hcf, hcp, -, -, -, hck, hvia, -⟩ := hl.here
  cases hkL.symm.trans hck
  have al := hE.warmed.alike
  obtain ⟨dk₂, hdk₂, hres⟩ := hE.classReady
  obtain ⟨dk₃, hdk₃, hed⟩ := al.2.2 _ _ hd
  cases hdk₂.symm.trans hdk₃
  obtain ⟨ck₂, hck₂, hec⟩ := al.2.2 _ _ hck
  obtain ⟨kB₂, hkB₂, -⟩ := al.2.2 _ _ hkB
  have X₁ := X.noted hE.warmed
  obtain ⟨v, B, X', hpost, hsteps⟩ := hK m meth c ⟨T.setVm (T.vm.calledUp m.cls ci index cI r0), locs, cells, slots⟩ { g with stack := rest } (.invokeinterface index count) mk ((.ref b : Value) :: argsL).toArray X₁ hg hsize hdg hW (X₁.named hnamed) (hpre (T.vm.calledUp m.cls ci index cI r0) hE.warmed)
  refine ⟨v, _, B, X₁.warmed, X', hpost, hcome.trans ?_⟩
  have hst : ∀ target, (∀ acts, Steps p.tables e below (doInvoke e ((T.setVm (T.vm.calledUp m.cls ci index cI r0)).setTop { g with stack := rest }) acts mk (.ref b :: argsL).toArray).1 target) → Steps p.tables e below (T.setTop g) target := fun target hrest => by
    subst hg
    jvm_step X.here [hexec, hdg, invokeinterface.wp_coldFace (e := e) (s := T) (s₀ := s) (f := g) (count := count) X.here.top X.warmed hE hd hcf (Or.inr hcp) hck hvia,
      invokeinterface.wp_ready (e := e) (s := T.setVm (T.vm.calledUp g.method.cls ci index cI r0)) (f := g) (count := count) (r := r) (meth := methM) (m := mk) (args := argsL) (rest := rest) (cell := cellB) (kcell := kB₂) (ck := dk₂) (nk := ck₂) (cf := cfile) (ci := ci) (nt := nt) (named := cI)
        X.here.top hE.ready (by show (T.vm.calledUp g.method.cls ci index cI r0).method? r0 = some r; rw [al.method?]; exact hrm) hstR (hlen _ hsigR) hstack hcellT (fun z h => by rw [h] at hstatB; cases hstatB) hkB₂ hdk₂ (by rw [hed]; exact hcf) hcp hres hck₂ (by rw [hec]; exact hvia)
        (by show (T.vm.calledUp g.method.cls ci index cI r0).assignable cellB.cls cI = true; rw [al.assignable]; exact w3)
        (by show selectMethod e.platform (T.vm.calledUp g.method.cls ci index cI r0) cellB.cls r0 = .method mk; rw [al.selectMethod, Launch.admits_selectMethod X.admits]; exact q4)
        (by show (T.vm.calledUp g.method.cls ci index cI r0).method? mk = some methM; rw [al.method?]; exact hmethM)
        (Or.inr (Or.inr (by show ((cellB.cls :: (T.vm.calledUp g.method.cls ci index cI r0).superclasses cellB.cls).any fun k => (declaredIn (T.vm.calledUp g.method.cls ci index cI r0) r.name r.desc k).any fun (_, y) => y.isPrivate || y.isStatic) = false; simp only [al.superclasses, al.declaredIn]; exact hway)))
        (Or.inl (Cond.publicMethod_spec hnamed hmethM hpub)) habM]
    exact hrest
  exact (hst _ fun acts => by rw [doInvoke_state]; exact Steps.refl _).trans hsteps
end Up
theorem own_narR {w : Value} {C : String} (r : w.isRef = true) : narrow (.object C) w = w := by rcases ref_cases r with rfl | ⟨_, rfl⟩ <;> rfl
theorem own_fitR {w : Value} {C : String} (r : w.isRef = true) : fits (.object C) w = true := by rcases ref_cases r with rfl | ⟨_, rfl⟩ <;> rfl
/-- the class C has its Class object, at mm -/
def own_Mir (Z : State) (C : String) (mm : Addr) : Prop := ∃ (c : ClassId) (k : Class), Z.vm.findClass C = some c ∧ Z.vm.classes[c]? = some k ∧ k.mirror = some mm
theorem own_pn0 : plainName "java/util/Objects" = true := by first | (simp [plainName, overriddenIn]; done) | decide +kernel
theorem own_d0_0 : decode jdk_31_method_10_code 0 = .ok (.aload_n 0, 1) := by decide +kernel
theorem own_d0_1 : decode jdk_31_method_10_code 1 = .ok (.ifnonnull 11, 3) := by decide +kernel
theorem own_d0_12 : decode jdk_31_method_10_code 12 = .ok (.aload_n 0, 1) := by decide +kernel
theorem own_d0_13 : decode jdk_31_method_10_code 13 = .ok (.areturn, 1) := by decide +kernel
theorem own_efN1 (m : MethodId) (x0 : Addr) : entryFrame m #[(.ref x0)] 1 = mkF m 0 #[.val (.ref x0)] [] := by first | (simp [entryFrame, mkF, argsToLocals, Value.category]; done) | rfl
abbrev own_QN1 (Z : State) (a : Addr) (h0 : Heap) (n0 : Nat) : Option Value → Heap → List Loc → Prop := fun v h L => v = some (.ref a) ∧ Fr n0 L ∧ h = h0
set_option maxRecDepth 65536 in
set_option maxHeartbeats 40000000 in
theorem own_rmN1 (l : Launch) (Z : State) (a0 : Array Value) (hw : ∀ d ∈ tables_1, d.before a0 Z = true) (ws : List Jvm.Cond) (a : Addr) (h0 : Heap) (n0 : Nat) (O : Old Z n0 h0) :
    MetFree l (⟨"java/util/Objects", "requireNonNull", "(Ljava/lang/Object;)Ljava/lang/Object;"⟩ : MethodName) (head1 (Jvm.Cond.code (⟨"java/util/Objects", "requireNonNull", "(Ljava/lang/Object;)Ljava/lang/Object;"⟩ : MethodName) jdk_31_method_10_code 1 (some (.object "java/lang/Object")) :: ws) ({ frames := 0, cells := 0, slots := 0, locals := 0 } : Room)) (fun aa U => aa = #[(.ref a)] ∧ Z.Warmed39 U.vm ∧ U.heap = h0) (fun _ _ _ _ _ => True) (fun _ U o U' => ∃ v L, o = .returned v ∧ (own_QN1 Z a h0 n0) v U'.heap L ∧ FrameEnd U o U' L ({ frames := 0, cells := 0, slots := 0, locals := 0 } : Room).cells ({ frames := 0, cells := 0, slots := 0, locals := 0 } : Room).slots) := by
  refine MetFree.of_bodySF (plainFor_of_name own_pn0) hisR ?_
  intro p e s m args below meth c s₁ Bd hml0 hP hK
  obtain ⟨rfl, hZ, hh⟩ := hP
  have hx := Bd.exec
  have hby := Bd.bytes
  have hml : c.maxLocals = 1 := hml0
  have hown : s.vm.findClass "java/util/Objects" = some m.cls := findClass_of_methodNamed Bd.named
  have hnm := (name_of_methodNamed Bd.named Bd.method).1
  have X0 : Stand p l e ({ frames := 0, cells := 0, slots := 0, locals := 0 } : Room) s m #[(.ref a)] below meth c s₁ [] 0 0 := Stand.of_body Bd
  have e0 : s₁.heap = h0 := by rw [← hh, Bd.state]; rfl
  have N0 := Fr.nil n0
  refine Out.start (Q := own_QN1 Z a h0 n0) (own_efN1 m a ) ?_
  refine Out.via (g' := (mkF m 1 #[.val (.ref a)] [(.ref a)])) (fun _ k => XS.aloadN X0.here hx rfl (hb hby own_d0_0) rfl rfl k) ?_
  refine Out.via (g' := (mkF m 12 #[.val (.ref a)] [])) (fun _ k => XS.ifnonnullYes X0.here hx rfl (pc0 := 1) (pc' := 12) rfl (hb hby own_d0_1) rfl (by decide) (by decide) k) ?_
  refine Out.via (g' := (mkF m 13 #[.val (.ref a)] [(.ref a)])) (fun _ k => XS.aloadN X0.here hx rfl (hb hby own_d0_12) rfl rfl k) ?_
  exact Out.endN X0 (fun h => by rw [Bd.returns] at h; cases h) Bd.notSynchronized (by decide) (by decide) (by rw [e0]; exact ⟨rfl, N0, rfl⟩) (fun fs hr => own_retR X0 hx (t := (.object "java/lang/Object")) Bd.returns rfl rfl rfl (hb hby own_d0_13) hr)
theorem own_pn1 : plainName "java/lang/Number" = true := by first | (simp [plainName, overriddenIn]; done) | decide +kernel
theorem own_d1_0 : decode jdk_18_method_1_code 0 = .ok (.aload_n 0, 1) := by decide +kernel
theorem own_d1_1 : decode jdk_18_method_1_code 1 = .ok (.invokespecial 1, 3) := by decide +kernel
theorem own_d1_4 : decode jdk_18_method_1_code 4 = .ok (.return_, 1) := by decide +kernel
theorem own_efNI (m : MethodId) (x0 : Addr) : entryFrame m #[(.ref x0)] 1 = mkF m 0 #[.val (.ref x0)] [] := by first | (simp [entryFrame, mkF, argsToLocals, Value.category]; done) | rfl
abbrev own_QNI (Z : State) (a : Addr) (h0 : Heap) (n0 : Nat) : Option Value → Heap → List Loc → Prop := fun v h L => v = none ∧ Fr n0 L ∧ h = h0
set_option maxRecDepth 65536 in
set_option maxHeartbeats 40000000 in
theorem own_rmNI (l : Launch) (Z : State) (a0 : Array Value) (hw : ∀ d ∈ tables_1, d.before a0 Z = true) (ws : List Jvm.Cond) (a : Addr) (h0 : Heap) (n0 : Nat) (O : Old Z n0 h0) :
    MetFree l (⟨"java/lang/Number", "<init>", "()V"⟩ : MethodName) (head1 (Jvm.Cond.code (⟨"java/lang/Number", "<init>", "()V"⟩ : MethodName) jdk_18_method_1_code 1 none :: ws) ({ frames := 1, cells := 0, slots := 0, locals := 12 } : Room)) (fun aa U => aa = #[(.ref a)] ∧ Z.Warmed39 U.vm ∧ U.heap = h0) (fun _ _ _ _ _ => True) (fun _ U o U' => ∃ v L, o = .returned v ∧ (own_QNI Z a h0 n0) v U'.heap L ∧ FrameEnd U o U' L ({ frames := 1, cells := 0, slots := 0, locals := 12 } : Room).cells ({ frames := 1, cells := 0, slots := 0, locals := 12 } : Room).slots) := by
  refine MetFree.of_bodySF (plainFor_of_name own_pn1) hisR ?_
  intro p e s m args below meth c s₁ Bd hml0 hP hK
  obtain ⟨rfl, hZ, hh⟩ := hP
  have hx := Bd.exec
  have hby := Bd.bytes
  have hml : c.maxLocals = 1 := hml0
  have hown : s.vm.findClass "java/lang/Number" = some m.cls := findClass_of_methodNamed Bd.named
  have hnm := (name_of_methodNamed Bd.named Bd.method).1
  have X0 : Stand p l e ({ frames := 1, cells := 0, slots := 0, locals := 12 } : Room) s m #[(.ref a)] below meth c s₁ [] 0 0 := Stand.of_body Bd
  have e0 : s₁.heap = h0 := by rw [← hh, Bd.state]; rfl
  have N0 := Fr.nil n0
  refine Out.start (Q := own_QNI Z a h0 n0) (own_efNI m a ) ?_
  refine Out.via (g' := (mkF m 1 #[.val (.ref a)] [(.ref a)])) (fun _ k => XS.aloadN X0.here hx rfl (hb hby own_d1_0) rfl rfl k) ?_
  obtain ⟨T1, X1, e1, st1⟩ := initO X0 hx hZ hown (hw _ (List.mem_of_getElem? (i := 261) rfl)) (hw _ (List.mem_of_getElem? (i := 24) rfl)) (hw _ (List.mem_of_getElem? (i := 25) rfl)) e0 (g := (mkF m 1 #[.val (.ref a)] [(.ref a)])) rfl (by rw [hml]; rfl) rfl (hb hby own_d1_1) (by decide) (W := 0) (by show 2 * 0 + _ ≤ _; exact Nat.le_of_eq rfl) (by decide)
  refine Out.via (g' := (mkF m 4 #[.val (.ref a)] [])) st1 ?_
  exact Out.endN X1 (fun _ => rfl) Bd.notSynchronized (by decide) (by decide) (by rw [e1]; exact ⟨rfl, N0, rfl⟩) (fun fs hr => X1.returnOut hx Bd.returns (hb hby own_d1_4) hr)
theorem own_pn2 : plainName "java/util/AbstractMap" = true := by first | (simp [plainName, overriddenIn]; done) | decide +kernel
theorem own_d2_0 : decode jdk_71_method_1_code 0 = .ok (.aload_n 0, 1) := by decide +kernel
theorem own_d2_1 : decode jdk_71_method_1_code 1 = .ok (.invokespecial 1, 3) := by decide +kernel
theorem own_d2_4 : decode jdk_71_method_1_code 4 = .ok (.return_, 1) := by decide +kernel
theorem own_efAM (m : MethodId) (x0 : Addr) : entryFrame m #[(.ref x0)] 1 = mkF m 0 #[.val (.ref x0)] [] := by first | (simp [entryFrame, mkF, argsToLocals, Value.category]; done) | rfl
abbrev own_QAM (Z : State) (a : Addr) (h0 : Heap) (n0 : Nat) : Option Value → Heap → List Loc → Prop := fun v h L => v = none ∧ Fr n0 L ∧ h = h0
set_option maxRecDepth 65536 in
set_option maxHeartbeats 40000000 in
theorem own_rmAM (l : Launch) (Z : State) (a0 : Array Value) (hw : ∀ d ∈ tables_1, d.before a0 Z = true) (ws : List Jvm.Cond) (a : Addr) (h0 : Heap) (n0 : Nat) (O : Old Z n0 h0) :
    MetFree l (⟨"java/util/AbstractMap", "<init>", "()V"⟩ : MethodName) (head1 (Jvm.Cond.code (⟨"java/util/AbstractMap", "<init>", "()V"⟩ : MethodName) jdk_71_method_1_code 1 none :: ws) ({ frames := 1, cells := 0, slots := 0, locals := 12 } : Room)) (fun aa U => aa = #[(.ref a)] ∧ Z.Warmed39 U.vm ∧ U.heap = h0) (fun _ _ _ _ _ => True) (fun _ U o U' => ∃ v L, o = .returned v ∧ (own_QAM Z a h0 n0) v U'.heap L ∧ FrameEnd U o U' L ({ frames := 1, cells := 0, slots := 0, locals := 12 } : Room).cells ({ frames := 1, cells := 0, slots := 0, locals := 12 } : Room).slots) := by
  refine MetFree.of_bodySF (plainFor_of_name own_pn2) hisR ?_
  intro p e s m args below meth c s₁ Bd hml0 hP hK
  obtain ⟨rfl, hZ, hh⟩ := hP
  have hx := Bd.exec
  have hby := Bd.bytes
  have hml : c.maxLocals = 1 := hml0
  have hown : s.vm.findClass "java/util/AbstractMap" = some m.cls := findClass_of_methodNamed Bd.named
  have hnm := (name_of_methodNamed Bd.named Bd.method).1
  have X0 : Stand p l e ({ frames := 1, cells := 0, slots := 0, locals := 12 } : Room) s m #[(.ref a)] below meth c s₁ [] 0 0 := Stand.of_body Bd
  have e0 : s₁.heap = h0 := by rw [← hh, Bd.state]; rfl
  have N0 := Fr.nil n0
  refine Out.start (Q := own_QAM Z a h0 n0) (own_efAM m a ) ?_
  refine Out.via (g' := (mkF m 1 #[.val (.ref a)] [(.ref a)])) (fun _ k => XS.aloadN X0.here hx rfl (hb hby own_d2_0) rfl rfl k) ?_
  obtain ⟨T1, X1, e1, st1⟩ := initO X0 hx hZ hown (hw _ (List.mem_of_getElem? (i := 23) rfl)) (hw _ (List.mem_of_getElem? (i := 24) rfl)) (hw _ (List.mem_of_getElem? (i := 25) rfl)) e0 (g := (mkF m 1 #[.val (.ref a)] [(.ref a)])) rfl (by rw [hml]; rfl) rfl (hb hby own_d2_1) (by decide) (W := 0) (by show 2 * 0 + _ ≤ _; exact Nat.le_of_eq rfl) (by decide)
  refine Out.via (g' := (mkF m 4 #[.val (.ref a)] [])) st1 ?_
  exact Out.endN X1 (fun _ => rfl) Bd.notSynchronized (by decide) (by decide) (by rw [e1]; exact ⟨rfl, N0, rfl⟩) (fun fs hr => X1.returnOut hx Bd.returns (hb hby own_d2_4) hr)
theorem own_pn3 : plainName "java/lang/Integer" = true := by first | (simp [plainName, overriddenIn]; done) | decide +kernel
theorem own_d3_0 : decode jdk_33_method_23_code 0 = .ok (.aload_n 0, 1) := by decide +kernel
theorem own_d3_1 : decode jdk_33_method_23_code 1 = .ok (.invokespecial 202, 3) := by decide +kernel
theorem own_pd4 : parseMethodDescriptor "()V" = some ⟨[], none⟩ := by decide +kernel
theorem own_d3_4 : decode jdk_33_method_23_code 4 = .ok (.aload_n 0, 1) := by decide +kernel
theorem own_d3_5 : decode jdk_33_method_23_code 5 = .ok (.iload_n 1, 1) := by decide +kernel
theorem own_d3_6 : decode jdk_33_method_23_code 6 = .ok (.putfield 205, 3) := by decide +kernel
theorem own_d3_9 : decode jdk_33_method_23_code 9 = .ok (.return_, 1) := by decide +kernel
theorem own_efII (m : MethodId) (x0 : Addr) (x1 : Int32) : entryFrame m #[(.ref x0), (.int x1)] 2 = mkF m 0 #[.val (.ref x0), .val (.int x1)] [] := by first | (simp [entryFrame, mkF, argsToLocals, Value.category]; done) | rfl
abbrev own_QII (Z : State) (a : Addr) (p1 : Int32) (h0 : Heap) (n0 : Nat) : Option Value → Heap → List Loc → Prop := fun v h L => v = none ∧ Fr n0 L ∧ Keep h0 h [a] ∧ Exa Z h a "java/lang/Integer" ∧ Fld Z h a "java/lang/Integer" "value" "I" (.int p1)
set_option maxRecDepth 65536 in
set_option maxHeartbeats 40000000 in
theorem own_rmII (l : Launch) (Z : State) (a0 : Array Value) (hw : ∀ d ∈ tables_1, d.before a0 Z = true) (ws : List Jvm.Cond) (a : Addr) (p1 : Int32) (h0 : Heap) (n0 : Nat) (O : Old Z n0 h0) (g_a : n0 ≤ a) (E1 : Exa Z h0 a "java/lang/Integer") (F_value_a : Fld Z h0 a "java/lang/Integer" "value" "I" (.int (0 : Int32))) :
    MetFree l (⟨"java/lang/Integer", "<init>", "(I)V"⟩ : MethodName) (head1 (Jvm.Cond.code (⟨"java/lang/Integer", "<init>", "(I)V"⟩ : MethodName) jdk_33_method_23_code 2 none :: ws) ({ frames := 2, cells := 0, slots := 0, locals := 24 } : Room)) (fun aa U => aa = #[(.ref a), (.int p1)] ∧ Z.Warmed39 U.vm ∧ U.heap = h0) (fun _ _ _ _ _ => True) (fun _ U o U' => ∃ v L, o = .returned v ∧ (own_QII Z a p1 h0 n0) v U'.heap L ∧ FrameEnd U o U' L ({ frames := 2, cells := 0, slots := 0, locals := 24 } : Room).cells ({ frames := 2, cells := 0, slots := 0, locals := 24 } : Room).slots) := by
  refine MetFree.of_bodySF (plainFor_of_name own_pn3) hisR ?_
  intro p e s m args below meth c s₁ Bd hml0 hP hK
  obtain ⟨rfl, hZ, hh⟩ := hP
  have hx := Bd.exec
  have hby := Bd.bytes
  have hml : c.maxLocals = 2 := hml0
  have hown : s.vm.findClass "java/lang/Integer" = some m.cls := findClass_of_methodNamed Bd.named
  have hnm := (name_of_methodNamed Bd.named Bd.method).1
  have X0 : Stand p l e ({ frames := 2, cells := 0, slots := 0, locals := 24 } : Room) s m #[(.ref a), (.int p1)] below meth c s₁ [] 0 0 := Stand.of_body Bd
  have e0 : s₁.heap = h0 := by rw [← hh, Bd.state]; rfl
  have N0 := Fr.nil n0
  refine Out.start (Q := own_QII Z a p1 h0 n0) (own_efII m a p1 ) ?_
  have Kp := Keep.refl h0 [a]
  refine Out.via (g' := (mkF m 1 #[.val (.ref a), .val (.int p1)] [(.ref a)])) (fun _ k => XS.aloadN X0.here hx rfl (hb hby own_d3_0) rfl rfl k) ?_
  obtain ⟨_, _, ⟨T1, L1, kc1, ks1⟩, -, X1, ⟨Lc1, hQ1, l1, y1, z1⟩, st1⟩ := X0.specialBack hx (y := (⟨"java/lang/Number", "<init>", "()V"⟩ : MethodName)) rfl hown (mvT hZ (hw _ (List.mem_of_getElem? (i := 255) rfl))) (mvT hZ (hw _ (List.mem_of_getElem? (i := 256) rfl))) (mvT hZ (hw _ (List.mem_of_getElem? (i := 260) rfl))) (by decide) (backOf (W := 0) (own_rmNI l Z a0 hw [] a h0 n0 O) hZ (hw _ (List.mem_of_getElem? (i := 260) rfl)) (hw _ (List.mem_of_getElem? (i := 259) rfl)) (by decide) (by decide)) (g := (mkF m 1 #[.val (.ref a), .val (.int p1)] [(.ref a)])) rfl (by rw [hml]; rfl) (Steps.refl _) (a := a) (argsL := []) (rest := []) (lenOf own_pd4 rfl) rfl (by show 2 * 0 + _ ≤ _; exact Nat.le_of_eq rfl) (hb hby own_d3_1) (fun _ _ => ⟨rfl, e0, (by decide : 0 + 0 ≤ _), (by decide : 0 + 0 ≤ _)⟩)
  dsimp only [Pt.U, Pt.locs, Pt.cells, Pt.slots] at X1 l1 y1 z1 st1 hQ1
  subst l1 y1 z1
  obtain ⟨rfl, Nq1, eq1⟩ := hQ1
  replace N0 := Fr.app N0 Nq1
  refine Out.to (g' := (mkF m 4 #[.val (.ref a), .val (.int p1)] [])) st1 ?_
  refine Out.via (g' := (mkF m 5 #[.val (.ref a), .val (.int p1)] [(.ref a)])) (fun _ k => XS.aloadN X1.here hx rfl (hb hby own_d3_4) rfl rfl k) ?_
  refine Out.via (g' := (mkF m 6 #[.val (.ref a), .val (.int p1)] [(.int p1), (.ref a)])) (fun _ k => XS.iloadN X1.here hx rfl (hb hby own_d3_5) rfl k) ?_
  obtain ⟨T2, h2, X2, e2, W2, st2⟩ := putF X1 hx hZ hown (host := "") (Or.inl (hw _ (List.mem_of_getElem? (i := 248) rfl))) Via.refl eq1 F_value_a E1 (Or.inr ⟨(hw _ (List.mem_of_getElem? (i := 249) rfl)), rfl, hnm⟩) (hw _ (List.mem_of_getElem? (i := 251) rfl)) (ty := .int) (by decide) rfl rfl (g := (mkF m 6 #[.val (.ref a), .val (.int p1)] [(.int p1), (.ref a)])) rfl rfl (hb hby own_d3_6)
  replace F_value_a := F_value_a.same W2
  replace E1 := E1.wr W2
  replace O := O.wr W2 g_a
  replace Kp := Kp.wr W2 (Or.inl (List.mem_of_getElem? (i := 0) rfl))
  replace N0 := Fr.snoc X2 N0 g_a
  refine Out.via (g' := (mkF m 9 #[.val (.ref a), .val (.int p1)] [])) st2 ?_
  exact Out.endN X2 (fun _ => rfl) Bd.notSynchronized (by decide) (by decide) (by rw [e2]; exact ⟨rfl, N0, Kp, E1, F_value_a⟩) (fun fs hr => X2.returnOut hx Bd.returns (hb hby own_d3_9) hr)
/-- the cache of boxed ints: what the set's words say of it -/
def own_Cache (Z : State) (ca : Addr) (cl : Cell) : Prop := Arr Z Z.heap ca cl (.object "java/lang/Integer") ∧ cl.slots.size = 256 ∧ ∀ p1 : Int32, ¬ p1 < (-128 : Int32) → ¬ (127 : Int32) < p1 → ∃ b : Addr, cl.slots[(p1 + (128 : Int32)).toNatClampNeg]? = some (.ref b) ∧ Exa Z Z.heap b "java/lang/Integer" ∧ Fld Z Z.heap b "java/lang/Integer" "value" "I" (.int p1)
theorem own_d4_0 : decode jdk_33_method_22_code 0 = .ok (.iload_n 0, 1) := by decide +kernel
theorem own_d4_1 : decode jdk_33_method_22_code 1 = .ok (.bipush (-128), 2) := by decide +kernel
theorem own_d4_3 : decode jdk_33_method_22_code 3 = .ok (.if_icmp .lt 20, 3) := by decide +kernel
theorem own_d4_23 : decode jdk_33_method_22_code 23 = .ok (.new 1, 3) := by decide +kernel
theorem own_d4_26 : decode jdk_33_method_22_code 26 = .ok (.dup, 1) := by decide +kernel
theorem own_d4_27 : decode jdk_33_method_22_code 27 = .ok (.iload_n 0, 1) := by decide +kernel
theorem own_d4_28 : decode jdk_33_method_22_code 28 = .ok (.invokespecial 199, 3) := by decide +kernel
theorem own_pd5 : parseMethodDescriptor "(I)V" = some ⟨[.int], none⟩ := by decide +kernel
theorem own_d4_31 : decode jdk_33_method_22_code 31 = .ok (.areturn, 1) := by decide +kernel
theorem own_d4_6 : decode jdk_33_method_22_code 6 = .ok (.iload_n 0, 1) := by decide +kernel
theorem own_d4_7 : decode jdk_33_method_22_code 7 = .ok (.getstatic 191, 3) := by decide +kernel
theorem own_d4_10 : decode jdk_33_method_22_code 10 = .ok (.if_icmp .gt 13, 3) := by decide +kernel
theorem own_d4_13 : decode jdk_33_method_22_code 13 = .ok (.getstatic 195, 3) := by decide +kernel
theorem own_d4_16 : decode jdk_33_method_22_code 16 = .ok (.iload_n 0, 1) := by decide +kernel
theorem own_d4_17 : decode jdk_33_method_22_code 17 = .ok (.sipush 128, 3) := by decide +kernel
theorem own_d4_20 : decode jdk_33_method_22_code 20 = .ok (.iadd, 1) := by decide +kernel
theorem own_d4_21 : decode jdk_33_method_22_code 21 = .ok (.aaload, 1) := by decide +kernel
theorem own_d4_22 : decode jdk_33_method_22_code 22 = .ok (.areturn, 1) := by decide +kernel
theorem own_efVO (m : MethodId) (x0 : Int32) : entryFrame m #[(.int x0)] 1 = mkF m 0 #[.val (.int x0)] [] := by first | (simp [entryFrame, mkF, argsToLocals, Value.category]; done) | rfl
abbrev own_QVO (Z : State) (p1 : Int32) (ca : Addr) (cl : Cell) (h0 : Heap) (n0 : Nat) : Option Value → Heap → List Loc → Prop := fun v h L => ∃ i : Addr, v = some (.ref i) ∧ Fr n0 L ∧ Keep h0 h [] ∧ Exa Z h i "java/lang/Integer" ∧ Fld Z h i "java/lang/Integer" "value" "I" (.int p1)
set_option maxRecDepth 65536 in
set_option maxHeartbeats 40000000 in
theorem own_rmVO (l : Launch) (Z : State) (a0 : Array Value) (hw : ∀ d ∈ tables_1, d.before a0 Z = true) (ws : List Jvm.Cond) (p1 : Int32) (ca : Addr) (cl : Cell) (h0 : Heap) (n0 : Nat) (O : Old Z n0 h0) (V_hi : Sta Z Z.heap "java/lang/Integer$IntegerCache" "high" "I" (.int (127 : Int32))) (V_ca : Sta Z Z.heap "java/lang/Integer$IntegerCache" "cache" "[Ljava/lang/Integer;" (.ref ca)) (Cc : own_Cache Z ca cl) :
    MetFree l (⟨"java/lang/Integer", "valueOf", "(I)Ljava/lang/Integer;"⟩ : MethodName) (head1 (Jvm.Cond.code (⟨"java/lang/Integer", "valueOf", "(I)Ljava/lang/Integer;"⟩ : MethodName) jdk_33_method_22_code 1 (some (.object "java/lang/Integer")) :: ws) ({ frames := 3, cells := 1, slots := 1, locals := 38 } : Room)) (fun aa U => aa = #[(.int p1)] ∧ Z.Warmed39 U.vm ∧ U.heap = h0) (fun _ _ _ _ _ => True) (fun _ U o U' => ∃ v L, o = .returned v ∧ (own_QVO Z p1 ca cl h0 n0) v U'.heap L ∧ FrameEnd U o U' L ({ frames := 3, cells := 1, slots := 1, locals := 38 } : Room).cells ({ frames := 3, cells := 1, slots := 1, locals := 38 } : Room).slots) := by
  refine MetFree.of_bodySF (plainFor_of_name own_pn3) hisR ?_
  intro p e s m args below meth c s₁ Bd hml0 hP hK
  obtain ⟨rfl, hZ, hh⟩ := hP
  have hx := Bd.exec
  have hby := Bd.bytes
  have hml : c.maxLocals = 1 := hml0
  have hown : s.vm.findClass "java/lang/Integer" = some m.cls := findClass_of_methodNamed Bd.named
  have hnm := (name_of_methodNamed Bd.named Bd.method).1
  have X0 : Stand p l e ({ frames := 3, cells := 1, slots := 1, locals := 38 } : Room) s m #[(.int p1)] below meth c s₁ [] 0 0 := Stand.of_body Bd
  have e0 : s₁.heap = h0 := by rw [← hh, Bd.state]; rfl
  have N0 := Fr.nil n0
  refine Out.start (Q := own_QVO Z p1 ca cl h0 n0) (own_efVO m p1 ) ?_
  have Kp := Keep.refl h0 []
  refine Out.via (g' := (mkF m 1 #[.val (.int p1)] [(.int p1)])) (fun _ k => XS.iloadN X0.here hx rfl (hb hby own_d4_0) rfl k) ?_
  refine Out.via (g' := (mkF m 3 #[.val (.int p1)] [(.int (-128 : Int32)), (.int p1)])) (fun _ k => XS.bipush X0.here hx rfl (hb hby own_d4_1) k) ?_
  by_cases hz : p1 < (-128 : Int32)
  · refine Out.via (g' := (mkF m 23 #[.val (.int p1)] [])) (fun _ k => XS.icmpYes X0.here hx rfl (pc0 := 3) (pc' := 23) rfl (hb hby own_d4_3) rfl (tlt hz).1 (by decide) (by decide) k) ?_
    obtain ⟨T1, h1, X1, e1, E1, A1, D1, -, st1⟩ := newO X0 hx hZ hown (hw _ (List.mem_of_getElem? (i := 250) rfl)) (hw _ (List.mem_of_getElem? (i := 251) rfl)) (hw _ (List.mem_of_getElem? (i := 2) rfl)) e0 (g := (mkF m 23 #[.val (.int p1)] [])) rfl (hb hby own_d4_23) (by decide) (by decide)
    obtain ⟨i, gq1⟩ : ∃ z, z = h0.size := ⟨_, rfl⟩
    rw [← gq1] at A1 D1 st1
    have g_i : n0 ≤ i := Nat.le_trans (own_z0 O) (Nat.le_of_eq gq1.symm)
    have sz_i : h0.size ≤ i := Nat.le_trans Kp.1 (Nat.le_of_eq gq1.symm)
    replace O := O.ext E1
    replace Kp := Kp.ext E1
    have F_value_i : Fld Z h1 i "java/lang/Integer" "value" "I" (.int (0 : Int32)) := D1 (Or.inr (hw _ (List.mem_of_getElem? (i := 249) rfl))) (ty := .int) (by decide)
    refine Out.via (g' := (mkF m 26 #[.val (.int p1)] [(.ref i)])) st1 ?_
    refine Out.via (g' := (mkF m 27 #[.val (.int p1)] [(.ref i), (.ref i)])) (fun _ k => XS.dup X1.here hx rfl (hb hby own_d4_26) rfl rfl k) ?_
    refine Out.via (g' := (mkF m 28 #[.val (.int p1)] [(.int p1), (.ref i), (.ref i)])) (fun _ k => XS.iloadN X1.here hx rfl (hb hby own_d4_27) rfl k) ?_
    obtain ⟨_, _, ⟨T2, L2, kc2, ks2⟩, -, X2, ⟨Lc2, hQ2, l2, y2, z2⟩, st2⟩ := X1.specialBack hx (y := (⟨"java/lang/Integer", "<init>", "(I)V"⟩ : MethodName)) rfl hown (mvT hZ (hw _ (List.mem_of_getElem? (i := 252) rfl))) (mvT hZ (hw _ (List.mem_of_getElem? (i := 253) rfl))) (mvT hZ (hw _ (List.mem_of_getElem? (i := 254) rfl))) (by decide) (backOf (W := 1) (own_rmII l Z a0 hw [] i p1 h1 n0 O g_i A1 F_value_i) hZ (hw _ (List.mem_of_getElem? (i := 254) rfl)) (hw _ (List.mem_of_getElem? (i := 2) rfl)) (by decide) (by decide)) (g := (mkF m 28 #[.val (.int p1)] [(.int p1), (.ref i), (.ref i)])) rfl (by rw [hml]; rfl) (Steps.refl _) (a := i) (argsL := [(.int p1)]) (rest := [(.ref i)]) (lenOf own_pd5 rfl) rfl (by show 2 * 0 + _ ≤ _; exact Nat.le_of_eq rfl) (hb hby own_d4_28) (fun _ _ => ⟨rfl, e1, (by decide : 1 + 0 ≤ _), (by decide : 1 + 0 ≤ _)⟩)
    dsimp only [Pt.U, Pt.locs, Pt.cells, Pt.slots] at X2 l2 y2 z2 st2 hQ2
    subst l2 y2 z2
    obtain ⟨rfl, Nq2, Kq2, Ei, Fi⟩ := hQ2
    replace N0 := Fr.app N0 Nq2
    replace A1 := A1.keep Kq2
    replace O := O.keep Kq2 (allS g_i all0)
    replace Kp := Kp.trans Kq2 (allS (Or.inr sz_i) all0)
    refine Out.to (g' := (mkF m 31 #[.val (.int p1)] [(.ref i)])) st2 ?_
    exact Out.endN X2 (fun h => by rw [Bd.returns] at h; cases h) Bd.notSynchronized (by decide) (by decide) (⟨i, rfl, N0, Kp, Ei, Fi⟩) (fun fs hr => own_retR X2 hx (t := (.object "java/lang/Integer")) Bd.returns rfl rfl rfl (hb hby own_d4_31) hr)
  · refine Out.via (g' := (mkF m 6 #[.val (.int p1)] [])) (fun _ k => XS.icmpNo X0.here hx rfl (hb hby own_d4_3) rfl (flt hz).1 k) ?_
    refine Out.via (g' := (mkF m 7 #[.val (.int p1)] [(.int p1)])) (fun _ k => XS.iloadN X0.here hx rfl (hb hby own_d4_6) rfl k) ?_
    obtain ⟨T1, X1, e1, st1⟩ := getS2 X0 hx hZ hown (host := "") (Or.inl (hw _ (List.mem_of_getElem? (i := 4) rfl))) Via.refl e0 (V_hi.ext O.2) (g := (mkF m 7 #[.val (.int p1)] [(.int p1)])) rfl (hb hby own_d4_7)
    refine Out.via (g' := (mkF m 10 #[.val (.int p1)] [(.int (127 : Int32)), (.int p1)])) st1 ?_
    by_cases hy : (127 : Int32) < p1
    · refine Out.via (g' := (mkF m 23 #[.val (.int p1)] [])) (fun _ k => XS.icmpYes X1.here hx rfl (pc0 := 10) (pc' := 23) rfl (hb hby own_d4_10) rfl (tlt hy).2.2.1 (by decide) (by decide) k) ?_
      obtain ⟨T2, h2, X2, e2, E2, A2, D2, -, st2⟩ := newO X1 hx hZ hown (hw _ (List.mem_of_getElem? (i := 250) rfl)) (hw _ (List.mem_of_getElem? (i := 251) rfl)) (hw _ (List.mem_of_getElem? (i := 2) rfl)) e1 (g := (mkF m 23 #[.val (.int p1)] [])) rfl (hb hby own_d4_23) (by decide) (by decide)
      obtain ⟨i, gq2⟩ : ∃ z, z = h0.size := ⟨_, rfl⟩
      rw [← gq2] at A2 D2 st2
      have g_i : n0 ≤ i := Nat.le_trans (own_z0 O) (Nat.le_of_eq gq2.symm)
      have sz_i : h0.size ≤ i := Nat.le_trans Kp.1 (Nat.le_of_eq gq2.symm)
      replace O := O.ext E2
      replace Kp := Kp.ext E2
      have F_value_i : Fld Z h2 i "java/lang/Integer" "value" "I" (.int (0 : Int32)) := D2 (Or.inr (hw _ (List.mem_of_getElem? (i := 249) rfl))) (ty := .int) (by decide)
      refine Out.via (g' := (mkF m 26 #[.val (.int p1)] [(.ref i)])) st2 ?_
      refine Out.via (g' := (mkF m 27 #[.val (.int p1)] [(.ref i), (.ref i)])) (fun _ k => XS.dup X2.here hx rfl (hb hby own_d4_26) rfl rfl k) ?_
      refine Out.via (g' := (mkF m 28 #[.val (.int p1)] [(.int p1), (.ref i), (.ref i)])) (fun _ k => XS.iloadN X2.here hx rfl (hb hby own_d4_27) rfl k) ?_
      obtain ⟨_, _, ⟨T3, L3, kc3, ks3⟩, -, X3, ⟨Lc3, hQ3, l3, y3, z3⟩, st3⟩ := X2.specialBack hx (y := (⟨"java/lang/Integer", "<init>", "(I)V"⟩ : MethodName)) rfl hown (mvT hZ (hw _ (List.mem_of_getElem? (i := 252) rfl))) (mvT hZ (hw _ (List.mem_of_getElem? (i := 253) rfl))) (mvT hZ (hw _ (List.mem_of_getElem? (i := 254) rfl))) (by decide) (backOf (W := 1) (own_rmII l Z a0 hw [] i p1 h2 n0 O g_i A2 F_value_i) hZ (hw _ (List.mem_of_getElem? (i := 254) rfl)) (hw _ (List.mem_of_getElem? (i := 2) rfl)) (by decide) (by decide)) (g := (mkF m 28 #[.val (.int p1)] [(.int p1), (.ref i), (.ref i)])) rfl (by rw [hml]; rfl) (Steps.refl _) (a := i) (argsL := [(.int p1)]) (rest := [(.ref i)]) (lenOf own_pd5 rfl) rfl (by show 2 * 0 + _ ≤ _; exact Nat.le_of_eq rfl) (hb hby own_d4_28) (fun _ _ => ⟨rfl, e2, (by decide : 1 + 0 ≤ _), (by decide : 1 + 0 ≤ _)⟩)
      dsimp only [Pt.U, Pt.locs, Pt.cells, Pt.slots] at X3 l3 y3 z3 st3 hQ3
      subst l3 y3 z3
      obtain ⟨rfl, Nq3, Kq3, Ei, Fi⟩ := hQ3
      replace N0 := Fr.app N0 Nq3
      replace A2 := A2.keep Kq3
      replace O := O.keep Kq3 (allS g_i all0)
      replace Kp := Kp.trans Kq3 (allS (Or.inr sz_i) all0)
      refine Out.to (g' := (mkF m 31 #[.val (.int p1)] [(.ref i)])) st3 ?_
      exact Out.endN X3 (fun h => by rw [Bd.returns] at h; cases h) Bd.notSynchronized (by decide) (by decide) (⟨i, rfl, N0, Kp, Ei, Fi⟩) (fun fs hr => own_retR X3 hx (t := (.object "java/lang/Integer")) Bd.returns rfl rfl rfl (hb hby own_d4_31) hr)
    · refine Out.via (g' := (mkF m 13 #[.val (.int p1)] [])) (fun _ k => XS.icmpNo X1.here hx rfl (hb hby own_d4_10) rfl (flt hy).2.2.1 k) ?_
      obtain ⟨T2, X2, e2, st2⟩ := getS2 X1 hx hZ hown (host := "") (Or.inl (hw _ (List.mem_of_getElem? (i := 6) rfl))) Via.refl e1 (V_ca.ext O.2) (g := (mkF m 13 #[.val (.int p1)] [])) rfl (hb hby own_d4_13)
      refine Out.via (g' := (mkF m 16 #[.val (.int p1)] [(.ref ca)])) st2 ?_
      refine Out.via (g' := (mkF m 17 #[.val (.int p1)] [(.int p1), (.ref ca)])) (fun _ k => XS.iloadN X2.here hx rfl (hb hby own_d4_16) rfl k) ?_
      refine Out.via (g' := (mkF m 20 #[.val (.int p1)] [(.int (128 : Int32)), (.int p1), (.ref ca)])) (fun _ k => XS.sipush X2.here hx rfl (hb hby own_d4_17) k) ?_
      refine Out.via (g' := (mkF m 21 #[.val (.int p1)] [(.int (p1 + (128 : Int32))), (.ref ca)])) (fun _ k => XS.iadd X2.here hx rfl (hb hby own_d4_20) rfl k) ?_
      obtain ⟨i, hi1, hi2, hi3⟩ := Cc.2.2 p1 hz hy
      have Ar_q := Cc.1.ext O.2
      have hin : ¬ ((p1 + (128 : Int32)) < 0 ∨ cl.slots.size ≤ (p1 + (128 : Int32)).toNatClampNeg) := by rw [Cc.2.1]; exact (IntBox.place_ok p1 hz hy).1
      refine Out.via (g' := (mkF m 22 #[.val (.int p1)] [(.ref i)])) (fun _ k => X2.aaload hx (j := (p1 + (128 : Int32))) (v := (.ref i)) (by rw [e2]; exact Ar_q.1) (State.isArrayOf_alike hZ.alike Ar_q.2.1) rfl Ar_q.2.2 hin hi1 (g := (mkF m 21 #[.val (.int p1)] [(.int (p1 + (128 : Int32))), (.ref ca)])) rfl rfl (hb hby own_d4_21) _ k) ?_
      exact Out.endN X2 (fun h => by rw [Bd.returns] at h; cases h) Bd.notSynchronized (by decide) (by decide) (by rw [e2]; exact ⟨i, rfl, N0, Kp, hi2.ext O.2, hi3.ext O.2⟩) (fun fs hr => own_retR X2 hx (t := (.object "java/lang/Integer")) Bd.returns rfl rfl rfl (hb hby own_d4_22) hr)
theorem own_d5_0 : decode jdk_33_method_27_code 0 = .ok (.aload_n 0, 1) := by decide +kernel
theorem own_d5_1 : decode jdk_33_method_27_code 1 = .ok (.getfield 205, 3) := by decide +kernel
theorem own_d5_4 : decode jdk_33_method_27_code 4 = .ok (.ireturn, 1) := by decide +kernel
theorem own_efIV (m : MethodId) (x0 : Addr) : entryFrame m #[(.ref x0)] 1 = mkF m 0 #[.val (.ref x0)] [] := by first | (simp [entryFrame, mkF, argsToLocals, Value.category]; done) | rfl
abbrev own_QIV (Z : State) (a : Addr) (p1 : Int32) (h0 : Heap) (n0 : Nat) : Option Value → Heap → List Loc → Prop := fun v h L => v = some (.int p1) ∧ Fr n0 L ∧ h = h0
set_option maxRecDepth 65536 in
set_option maxHeartbeats 40000000 in
theorem own_rmIV (l : Launch) (Z : State) (a0 : Array Value) (hw : ∀ d ∈ tables_1, d.before a0 Z = true) (ws : List Jvm.Cond) (a : Addr) (p1 : Int32) (h0 : Heap) (n0 : Nat) (O : Old Z n0 h0) (F1 : Fld Z h0 a "java/lang/Integer" "value" "I" (.int p1)) :
    MetFree l (⟨"java/lang/Integer", "intValue", "()I"⟩ : MethodName) (head1 (Jvm.Cond.code (⟨"java/lang/Integer", "intValue", "()I"⟩ : MethodName) jdk_33_method_27_code 1 (some .int) :: ws) ({ frames := 0, cells := 0, slots := 0, locals := 0 } : Room)) (fun aa U => aa = #[(.ref a)] ∧ Z.Warmed39 U.vm ∧ U.heap = h0) (fun _ _ _ _ _ => True) (fun _ U o U' => ∃ v L, o = .returned v ∧ (own_QIV Z a p1 h0 n0) v U'.heap L ∧ FrameEnd U o U' L ({ frames := 0, cells := 0, slots := 0, locals := 0 } : Room).cells ({ frames := 0, cells := 0, slots := 0, locals := 0 } : Room).slots) := by
  refine MetFree.of_bodySF (plainFor_of_name own_pn3) hisR ?_
  intro p e s m args below meth c s₁ Bd hml0 hP hK
  obtain ⟨rfl, hZ, hh⟩ := hP
  have hx := Bd.exec
  have hby := Bd.bytes
  have hml : c.maxLocals = 1 := hml0
  have hown : s.vm.findClass "java/lang/Integer" = some m.cls := findClass_of_methodNamed Bd.named
  have hnm := (name_of_methodNamed Bd.named Bd.method).1
  have X0 : Stand p l e ({ frames := 0, cells := 0, slots := 0, locals := 0 } : Room) s m #[(.ref a)] below meth c s₁ [] 0 0 := Stand.of_body Bd
  have e0 : s₁.heap = h0 := by rw [← hh, Bd.state]; rfl
  have N0 := Fr.nil n0
  refine Out.start (Q := own_QIV Z a p1 h0 n0) (own_efIV m a ) ?_
  refine Out.via (g' := (mkF m 1 #[.val (.ref a)] [(.ref a)])) (fun _ k => XS.aloadN X0.here hx rfl (hb hby own_d5_0) rfl rfl k) ?_
  obtain ⟨T1, X1, e1, st1⟩ := getF X0 hx hZ hown (host := "") (Or.inl (hw _ (List.mem_of_getElem? (i := 248) rfl))) Via.refl e0 F1 (g := (mkF m 1 #[.val (.ref a)] [(.ref a)])) rfl rfl (hb hby own_d5_1)
  refine Out.via (g' := (mkF m 4 #[.val (.ref a)] [(.int p1)])) st1 ?_
  exact Out.endN X1 (fun h => by rw [Bd.returns] at h; cases h) Bd.notSynchronized (by decide) (by decide) (by rw [e1]; exact ⟨rfl, N0, rfl⟩) (fun fs hr => own_retI X1 hx Bd.returns (hb hby own_d5_4) hr)
theorem own_pn6 : plainName "java/time/LocalDate" = true := by first | (simp [plainName, overriddenIn]; done) | decide +kernel
theorem own_d6_0 : decode jdk_2323_method_70_code 0 = .ok (.aload_n 0, 1) := by decide +kernel
theorem own_d6_1 : decode jdk_2323_method_70_code 1 = .ok (.getfield 246, 3) := by decide +kernel
theorem own_d6_4 : decode jdk_2323_method_70_code 4 = .ok (.aload_n 1, 1) := by decide +kernel
theorem own_d6_5 : decode jdk_2323_method_70_code 5 = .ok (.getfield 246, 3) := by decide +kernel
theorem own_d6_8 : decode jdk_2323_method_70_code 8 = .ok (.isub, 1) := by decide +kernel
theorem own_d6_9 : decode jdk_2323_method_70_code 9 = .ok (.istore_n 2, 1) := by decide +kernel
theorem own_d6_10 : decode jdk_2323_method_70_code 10 = .ok (.iload_n 2, 1) := by decide +kernel
theorem own_d6_11 : decode jdk_2323_method_70_code 11 = .ok (.ifCond .ne 27, 3) := by decide +kernel
theorem own_d6_14 : decode jdk_2323_method_70_code 14 = .ok (.aload_n 0, 1) := by decide +kernel
theorem own_d6_15 : decode jdk_2323_method_70_code 15 = .ok (.getfield 250, 3) := by decide +kernel
theorem own_d6_18 : decode jdk_2323_method_70_code 18 = .ok (.aload_n 1, 1) := by decide +kernel
theorem own_d6_19 : decode jdk_2323_method_70_code 19 = .ok (.getfield 250, 3) := by decide +kernel
theorem own_d6_22 : decode jdk_2323_method_70_code 22 = .ok (.isub, 1) := by decide +kernel
theorem own_d6_23 : decode jdk_2323_method_70_code 23 = .ok (.istore_n 2, 1) := by decide +kernel
theorem own_d6_24 : decode jdk_2323_method_70_code 24 = .ok (.iload_n 2, 1) := by decide +kernel
theorem own_d6_25 : decode jdk_2323_method_70_code 25 = .ok (.ifCond .ne 13, 3) := by decide +kernel
theorem own_d6_28 : decode jdk_2323_method_70_code 28 = .ok (.aload_n 0, 1) := by decide +kernel
theorem own_d6_29 : decode jdk_2323_method_70_code 29 = .ok (.getfield 253, 3) := by decide +kernel
theorem own_d6_32 : decode jdk_2323_method_70_code 32 = .ok (.aload_n 1, 1) := by decide +kernel
theorem own_d6_33 : decode jdk_2323_method_70_code 33 = .ok (.getfield 253, 3) := by decide +kernel
theorem own_d6_36 : decode jdk_2323_method_70_code 36 = .ok (.isub, 1) := by decide +kernel
theorem own_d6_37 : decode jdk_2323_method_70_code 37 = .ok (.istore_n 2, 1) := by decide +kernel
theorem own_d6_38 : decode jdk_2323_method_70_code 38 = .ok (.iload_n 2, 1) := by decide +kernel
theorem own_d6_39 : decode jdk_2323_method_70_code 39 = .ok (.ireturn, 1) := by decide +kernel
theorem own_efC0 (m : MethodId) (x0 : Addr) (x1 : Addr) : entryFrame m #[(.ref x0), (.ref x1)] 3 = mkF m 0 #[.val (.ref x0), .val (.ref x1), .unset] [] := by first | (simp [entryFrame, mkF, argsToLocals, Value.category]; done) | rfl
abbrev own_QC0 (Z : State) (d : Addr) (h0 : Heap) (n0 : Nat) : Option Value → Heap → List Loc → Prop := fun v h L => (∃ z : Int32, v = some (.int z)) ∧ Fr n0 L ∧ h = h0
set_option maxRecDepth 65536 in
set_option maxHeartbeats 40000000 in
theorem own_rmC0 (l : Launch) (Z : State) (a0 : Array Value) (hw : ∀ d ∈ tables_1, d.before a0 Z = true) (ws : List Jvm.Cond) (d : Addr) (h0 : Heap) (n0 : Nat) (O : Old Z n0 h0) (Ed : Exa Z Z.heap d "java/time/LocalDate") (D_year : Fld Z Z.heap d "java/time/LocalDate" "year" "I" (.int (-999999999 : Int32))) (D_month : Fld Z Z.heap d "java/time/LocalDate" "month" "S" (.int (1 : Int32))) (D_day : Fld Z Z.heap d "java/time/LocalDate" "day" "S" (.int (1 : Int32))) :
    MetFree l (⟨"java/time/LocalDate", "compareTo0", "(Ljava/time/LocalDate;)I"⟩ : MethodName) (head1 (Jvm.Cond.code (⟨"java/time/LocalDate", "compareTo0", "(Ljava/time/LocalDate;)I"⟩ : MethodName) jdk_2323_method_70_code 3 (some .int) :: ws) ({ frames := 0, cells := 0, slots := 0, locals := 0 } : Room)) (fun aa U => aa = #[(.ref d), (.ref d)] ∧ Z.Warmed39 U.vm ∧ U.heap = h0) (fun _ _ _ _ _ => True) (fun _ U o U' => ∃ v L, o = .returned v ∧ (own_QC0 Z d h0 n0) v U'.heap L ∧ FrameEnd U o U' L ({ frames := 0, cells := 0, slots := 0, locals := 0 } : Room).cells ({ frames := 0, cells := 0, slots := 0, locals := 0 } : Room).slots) := by
  refine MetFree.of_bodySF (plainFor_of_name own_pn6) hisR ?_
  intro p e s m args below meth c s₁ Bd hml0 hP hK
  obtain ⟨rfl, hZ, hh⟩ := hP
  have hx := Bd.exec
  have hby := Bd.bytes
  have hml : c.maxLocals = 3 := hml0
  have hown : s.vm.findClass "java/time/LocalDate" = some m.cls := findClass_of_methodNamed Bd.named
  have hnm := (name_of_methodNamed Bd.named Bd.method).1
  have X0 : Stand p l e ({ frames := 0, cells := 0, slots := 0, locals := 0 } : Room) s m #[(.ref d), (.ref d)] below meth c s₁ [] 0 0 := Stand.of_body Bd
  have e0 : s₁.heap = h0 := by rw [← hh, Bd.state]; rfl
  have N0 := Fr.nil n0
  refine Out.start (Q := own_QC0 Z d h0 n0) (own_efC0 m d d ) ?_
  refine Out.via (g' := (mkF m 1 #[.val (.ref d), .val (.ref d), .unset] [(.ref d)])) (fun _ k => XS.aloadN X0.here hx rfl (hb hby own_d6_0) rfl rfl k) ?_
  obtain ⟨T1, X1, e1, st1⟩ := getF X0 hx hZ hown (host := "") (Or.inl (hw _ (List.mem_of_getElem? (i := 84) rfl))) Via.refl e0 (D_year.ext O.2) (g := (mkF m 1 #[.val (.ref d), .val (.ref d), .unset] [(.ref d)])) rfl rfl (hb hby own_d6_1)
  refine Out.via (g' := (mkF m 4 #[.val (.ref d), .val (.ref d), .unset] [(.int (-999999999 : Int32))])) st1 ?_
  refine Out.via (g' := (mkF m 5 #[.val (.ref d), .val (.ref d), .unset] [(.ref d), (.int (-999999999 : Int32))])) (fun _ k => XS.aloadN X1.here hx rfl (hb hby own_d6_4) rfl rfl k) ?_
  obtain ⟨T2, X2, e2, st2⟩ := getF X1 hx hZ hown (host := "") (Or.inl (hw _ (List.mem_of_getElem? (i := 84) rfl))) Via.refl e1 (D_year.ext O.2) (g := (mkF m 5 #[.val (.ref d), .val (.ref d), .unset] [(.ref d), (.int (-999999999 : Int32))])) rfl rfl (hb hby own_d6_5)
  refine Out.via (g' := (mkF m 8 #[.val (.ref d), .val (.ref d), .unset] [(.int (-999999999 : Int32)), (.int (-999999999 : Int32))])) st2 ?_
  refine Out.via (g' := (mkF m 9 #[.val (.ref d), .val (.ref d), .unset] [(.int ((-999999999 : Int32) - (-999999999 : Int32)))])) (fun _ k => XS.isub X2.here hx rfl (hb hby own_d6_8) rfl k) ?_
  refine Out.via (g' := (mkF m 10 #[.val (.ref d), .val (.ref d), .val (.int ((-999999999 : Int32) - (-999999999 : Int32)))] [])) (fun _ k => XS.istoreN X2.here hx rfl (hb hby own_d6_9) rfl (l' := #[.val (.ref d), .val (.ref d), .val (.int ((-999999999 : Int32) - (-999999999 : Int32)))]) rfl k) ?_
  refine Out.via (g' := (mkF m 11 #[.val (.ref d), .val (.ref d), .val (.int ((-999999999 : Int32) - (-999999999 : Int32)))] [(.int ((-999999999 : Int32) - (-999999999 : Int32)))])) (fun _ k => XS.iloadN X2.here hx rfl (hb hby own_d6_10) rfl k) ?_
  refine Out.via (g' := (mkF m 14 #[.val (.ref d), .val (.ref d), .val (.int ((-999999999 : Int32) - (-999999999 : Int32)))] [])) (fun _ k => XS.ifNo X2.here hx rfl (hb hby own_d6_11) rfl ((if0 _ _).trans (teq (by decide)).2) k) ?_
  refine Out.via (g' := (mkF m 15 #[.val (.ref d), .val (.ref d), .val (.int ((-999999999 : Int32) - (-999999999 : Int32)))] [(.ref d)])) (fun _ k => XS.aloadN X2.here hx rfl (hb hby own_d6_14) rfl rfl k) ?_
  obtain ⟨T3, X3, e3, st3⟩ := getF X2 hx hZ hown (host := "") (Or.inl (hw _ (List.mem_of_getElem? (i := 86) rfl))) Via.refl e2 (D_month.ext O.2) (g := (mkF m 15 #[.val (.ref d), .val (.ref d), .val (.int ((-999999999 : Int32) - (-999999999 : Int32)))] [(.ref d)])) rfl rfl (hb hby own_d6_15)
  refine Out.via (g' := (mkF m 18 #[.val (.ref d), .val (.ref d), .val (.int ((-999999999 : Int32) - (-999999999 : Int32)))] [(.int (1 : Int32))])) st3 ?_
  refine Out.via (g' := (mkF m 19 #[.val (.ref d), .val (.ref d), .val (.int ((-999999999 : Int32) - (-999999999 : Int32)))] [(.ref d), (.int (1 : Int32))])) (fun _ k => XS.aloadN X3.here hx rfl (hb hby own_d6_18) rfl rfl k) ?_
  obtain ⟨T4, X4, e4, st4⟩ := getF X3 hx hZ hown (host := "") (Or.inl (hw _ (List.mem_of_getElem? (i := 86) rfl))) Via.refl e3 (D_month.ext O.2) (g := (mkF m 19 #[.val (.ref d), .val (.ref d), .val (.int ((-999999999 : Int32) - (-999999999 : Int32)))] [(.ref d), (.int (1 : Int32))])) rfl rfl (hb hby own_d6_19)
  refine Out.via (g' := (mkF m 22 #[.val (.ref d), .val (.ref d), .val (.int ((-999999999 : Int32) - (-999999999 : Int32)))] [(.int (1 : Int32)), (.int (1 : Int32))])) st4 ?_
  refine Out.via (g' := (mkF m 23 #[.val (.ref d), .val (.ref d), .val (.int ((-999999999 : Int32) - (-999999999 : Int32)))] [(.int ((1 : Int32) - (1 : Int32)))])) (fun _ k => XS.isub X4.here hx rfl (hb hby own_d6_22) rfl k) ?_
  refine Out.via (g' := (mkF m 24 #[.val (.ref d), .val (.ref d), .val (.int ((1 : Int32) - (1 : Int32)))] [])) (fun _ k => XS.istoreN X4.here hx rfl (hb hby own_d6_23) rfl (l' := #[.val (.ref d), .val (.ref d), .val (.int ((1 : Int32) - (1 : Int32)))]) rfl k) ?_
  refine Out.via (g' := (mkF m 25 #[.val (.ref d), .val (.ref d), .val (.int ((1 : Int32) - (1 : Int32)))] [(.int ((1 : Int32) - (1 : Int32)))])) (fun _ k => XS.iloadN X4.here hx rfl (hb hby own_d6_24) rfl k) ?_
  refine Out.via (g' := (mkF m 28 #[.val (.ref d), .val (.ref d), .val (.int ((1 : Int32) - (1 : Int32)))] [])) (fun _ k => XS.ifNo X4.here hx rfl (hb hby own_d6_25) rfl ((if0 _ _).trans (teq (by decide)).2) k) ?_
  refine Out.via (g' := (mkF m 29 #[.val (.ref d), .val (.ref d), .val (.int ((1 : Int32) - (1 : Int32)))] [(.ref d)])) (fun _ k => XS.aloadN X4.here hx rfl (hb hby own_d6_28) rfl rfl k) ?_
  obtain ⟨T5, X5, e5, st5⟩ := getF X4 hx hZ hown (host := "") (Or.inl (hw _ (List.mem_of_getElem? (i := 88) rfl))) Via.refl e4 (D_day.ext O.2) (g := (mkF m 29 #[.val (.ref d), .val (.ref d), .val (.int ((1 : Int32) - (1 : Int32)))] [(.ref d)])) rfl rfl (hb hby own_d6_29)
  refine Out.via (g' := (mkF m 32 #[.val (.ref d), .val (.ref d), .val (.int ((1 : Int32) - (1 : Int32)))] [(.int (1 : Int32))])) st5 ?_
  refine Out.via (g' := (mkF m 33 #[.val (.ref d), .val (.ref d), .val (.int ((1 : Int32) - (1 : Int32)))] [(.ref d), (.int (1 : Int32))])) (fun _ k => XS.aloadN X5.here hx rfl (hb hby own_d6_32) rfl rfl k) ?_
  obtain ⟨T6, X6, e6, st6⟩ := getF X5 hx hZ hown (host := "") (Or.inl (hw _ (List.mem_of_getElem? (i := 88) rfl))) Via.refl e5 (D_day.ext O.2) (g := (mkF m 33 #[.val (.ref d), .val (.ref d), .val (.int ((1 : Int32) - (1 : Int32)))] [(.ref d), (.int (1 : Int32))])) rfl rfl (hb hby own_d6_33)
  refine Out.via (g' := (mkF m 36 #[.val (.ref d), .val (.ref d), .val (.int ((1 : Int32) - (1 : Int32)))] [(.int (1 : Int32)), (.int (1 : Int32))])) st6 ?_
  refine Out.via (g' := (mkF m 37 #[.val (.ref d), .val (.ref d), .val (.int ((1 : Int32) - (1 : Int32)))] [(.int ((1 : Int32) - (1 : Int32)))])) (fun _ k => XS.isub X6.here hx rfl (hb hby own_d6_36) rfl k) ?_
  refine Out.via (g' := (mkF m 38 #[.val (.ref d), .val (.ref d), .val (.int ((1 : Int32) - (1 : Int32)))] [])) (fun _ k => XS.istoreN X6.here hx rfl (hb hby own_d6_37) rfl (l' := #[.val (.ref d), .val (.ref d), .val (.int ((1 : Int32) - (1 : Int32)))]) rfl k) ?_
  refine Out.via (g' := (mkF m 39 #[.val (.ref d), .val (.ref d), .val (.int ((1 : Int32) - (1 : Int32)))] [(.int ((1 : Int32) - (1 : Int32)))])) (fun _ k => XS.iloadN X6.here hx rfl (hb hby own_d6_38) rfl k) ?_
  exact Out.endN X6 (fun h => by rw [Bd.returns] at h; cases h) Bd.notSynchronized (by decide) (by decide) (by rw [e6]; exact ⟨⟨_, rfl⟩, N0, rfl⟩) (fun fs hr => own_retI X6 hx Bd.returns (hb hby own_d6_39) hr)
theorem own_d7_0 : decode jdk_2323_method_69_code 0 = .ok (.aload_n 1, 1) := by decide +kernel
theorem own_d7_1 : decode jdk_2323_method_69_code 1 = .ok (.instanceof 1, 3) := by decide +kernel
theorem own_d7_4 : decode jdk_2323_method_69_code 4 = .ok (.ifCond .eq 12, 3) := by decide +kernel
theorem own_d7_7 : decode jdk_2323_method_69_code 7 = .ok (.aload_n 0, 1) := by decide +kernel
theorem own_d7_8 : decode jdk_2323_method_69_code 8 = .ok (.aload_n 1, 1) := by decide +kernel
theorem own_d7_9 : decode jdk_2323_method_69_code 9 = .ok (.checkcast 1, 3) := by decide +kernel
theorem own_d7_12 : decode jdk_2323_method_69_code 12 = .ok (.invokevirtual 679, 3) := by decide +kernel
theorem own_pd7 : parseMethodDescriptor "(Ljava/time/LocalDate;)I" = some ⟨[(.object "java/time/LocalDate")], some .int⟩ := by decide +kernel
theorem own_d7_15 : decode jdk_2323_method_69_code 15 = .ok (.ireturn, 1) := by decide +kernel
theorem own_efC1 (m : MethodId) (x0 : Addr) (x1 : Addr) : entryFrame m #[(.ref x0), (.ref x1)] 2 = mkF m 0 #[.val (.ref x0), .val (.ref x1)] [] := by first | (simp [entryFrame, mkF, argsToLocals, Value.category]; done) | rfl
abbrev own_QC1 (Z : State) (d : Addr) (h0 : Heap) (n0 : Nat) : Option Value → Heap → List Loc → Prop := fun v h L => (∃ z : Int32, v = some (.int z)) ∧ Fr n0 L ∧ h = h0
set_option maxRecDepth 65536 in
set_option maxHeartbeats 40000000 in
theorem own_rmC1 (l : Launch) (Z : State) (a0 : Array Value) (hw : ∀ d ∈ tables_1, d.before a0 Z = true) (ws : List Jvm.Cond) (d : Addr) (h0 : Heap) (n0 : Nat) (O : Old Z n0 h0) (Ed : Exa Z Z.heap d "java/time/LocalDate") (D_year : Fld Z Z.heap d "java/time/LocalDate" "year" "I" (.int (-999999999 : Int32))) (D_month : Fld Z Z.heap d "java/time/LocalDate" "month" "S" (.int (1 : Int32))) (D_day : Fld Z Z.heap d "java/time/LocalDate" "day" "S" (.int (1 : Int32))) :
    MetFree l (⟨"java/time/LocalDate", "compareTo", "(Ljava/time/chrono/ChronoLocalDate;)I"⟩ : MethodName) (head1 (Jvm.Cond.code (⟨"java/time/LocalDate", "compareTo", "(Ljava/time/chrono/ChronoLocalDate;)I"⟩ : MethodName) jdk_2323_method_69_code 2 (some .int) :: ws) ({ frames := 1, cells := 0, slots := 0, locals := 14 } : Room)) (fun aa U => aa = #[(.ref d), (.ref d)] ∧ Z.Warmed39 U.vm ∧ U.heap = h0) (fun _ _ _ _ _ => True) (fun _ U o U' => ∃ v L, o = .returned v ∧ (own_QC1 Z d h0 n0) v U'.heap L ∧ FrameEnd U o U' L ({ frames := 1, cells := 0, slots := 0, locals := 14 } : Room).cells ({ frames := 1, cells := 0, slots := 0, locals := 14 } : Room).slots) := by
  refine MetFree.of_bodySF (plainFor_of_name own_pn6) hisR ?_
  intro p e s m args below meth c s₁ Bd hml0 hP hK
  obtain ⟨rfl, hZ, hh⟩ := hP
  have hx := Bd.exec
  have hby := Bd.bytes
  have hml : c.maxLocals = 2 := hml0
  have hown : s.vm.findClass "java/time/LocalDate" = some m.cls := findClass_of_methodNamed Bd.named
  have hnm := (name_of_methodNamed Bd.named Bd.method).1
  have X0 : Stand p l e ({ frames := 1, cells := 0, slots := 0, locals := 14 } : Room) s m #[(.ref d), (.ref d)] below meth c s₁ [] 0 0 := Stand.of_body Bd
  have e0 : s₁.heap = h0 := by rw [← hh, Bd.state]; rfl
  have N0 := Fr.nil n0
  refine Out.start (Q := own_QC1 Z d h0 n0) (own_efC1 m d d ) ?_
  refine Out.via (g' := (mkF m 1 #[.val (.ref d), .val (.ref d)] [(.ref d)])) (fun _ k => XS.aloadN X0.here hx rfl (hb hby own_d7_0) rfl rfl k) ?_
  obtain ⟨T1, X1, e1, st1⟩ := instY X0 hx hZ hown (hw _ (List.mem_of_getElem? (i := 77) rfl)) e0 (Ins.self (Ed.ext O.2)) (g := (mkF m 1 #[.val (.ref d), .val (.ref d)] [(.ref d)])) rfl rfl (hb hby own_d7_1)
  refine Out.via (g' := (mkF m 4 #[.val (.ref d), .val (.ref d)] [(.int (1 : Int32))])) st1 ?_
  refine Out.via (g' := (mkF m 7 #[.val (.ref d), .val (.ref d)] [])) (fun _ k => XS.ifNo X1.here hx rfl (hb hby own_d7_4) rfl ((if0 _ _).trans (feq (by decide)).1) k) ?_
  refine Out.via (g' := (mkF m 8 #[.val (.ref d), .val (.ref d)] [(.ref d)])) (fun _ k => XS.aloadN X1.here hx rfl (hb hby own_d7_7) rfl rfl k) ?_
  refine Out.via (g' := (mkF m 9 #[.val (.ref d), .val (.ref d)] [(.ref d), (.ref d)])) (fun _ k => XS.aloadN X1.here hx rfl (hb hby own_d7_8) rfl rfl k) ?_
  obtain ⟨T2, X2, e2, st2⟩ := castY X1 hx hZ hown (hw _ (List.mem_of_getElem? (i := 77) rfl)) e1 (Ins.self (Ed.ext O.2)) (g := (mkF m 9 #[.val (.ref d), .val (.ref d)] [(.ref d), (.ref d)])) rfl rfl (hb hby own_d7_9)
  refine Out.via (g' := (mkF m 12 #[.val (.ref d), .val (.ref d)] [(.ref d), (.ref d)])) st2 ?_
  obtain ⟨cq3, kq3, q3a, q3b, q3c⟩ := isOf hZ e2 (Ed.ext O.2)
  obtain ⟨_, _, ⟨T3, L3, kc3, ks3⟩, -, X3, ⟨Lc3, hQ3, l3, y3, z3⟩, st3⟩ := X2.virtualBack hx (y := (⟨"java/time/LocalDate", "compareTo0", "(Ljava/time/LocalDate;)I"⟩ : MethodName)) (z := (⟨"java/time/LocalDate", "compareTo0", "(Ljava/time/LocalDate;)I"⟩ : MethodName)) hown (mvT hZ (hw _ (List.mem_of_getElem? (i := 79) rfl))) (mvT hZ (hw _ (List.mem_of_getElem? (i := 80) rfl))) (notFace_of_selects (args := #[]) (mvT hZ (hw _ (List.mem_of_getElem? (i := 82) rfl)))) (mvT hZ (hw _ (List.mem_of_getElem? (i := 82) rfl))) (mvT hZ (hw _ (List.mem_of_getElem? (i := 81) rfl))) (by decide) (backOf (W := 0) (own_rmC0 l Z a0 hw [] d h0 n0 O Ed D_year D_month D_day) hZ (hw _ (List.mem_of_getElem? (i := 83) rfl)) (hw _ (List.mem_of_getElem? (i := 33) rfl)) (by decide) (by decide)) q3a q3c (g := (mkF m 12 #[.val (.ref d), .val (.ref d)] [(.ref d), (.ref d)])) rfl (by rw [hml]; rfl) (Steps.refl _) (argsL := [(.ref d)]) (rest := []) (lenOf own_pd7 rfl) rfl (by show 2 * 0 + _ ≤ _; exact Nat.le_of_eq rfl) (hb hby own_d7_12) (fun _ _ => ⟨rfl, e2, (by decide : 0 + 0 ≤ _), (by decide : 0 + 0 ≤ _)⟩)
  dsimp only [Pt.U, Pt.locs, Pt.cells, Pt.slots] at X3 l3 y3 z3 st3 hQ3
  subst l3 y3 z3
  obtain ⟨⟨z3, rfl⟩, Nq3, eq3⟩ := hQ3
  replace N0 := Fr.app N0 Nq3
  refine Out.to (g' := (mkF m 15 #[.val (.ref d), .val (.ref d)] [(.int z3)])) st3 ?_
  exact Out.endN X3 (fun h => by rw [Bd.returns] at h; cases h) Bd.notSynchronized (by decide) (by decide) (by rw [eq3]; exact ⟨⟨_, rfl⟩, N0, rfl⟩) (fun fs hr => own_retI X3 hx Bd.returns (hb hby own_d7_15) hr)
theorem own_d8_0 : decode jdk_2323_method_97_code 0 = .ok (.aload_n 0, 1) := by decide +kernel
theorem own_d8_1 : decode jdk_2323_method_97_code 1 = .ok (.aload_n 1, 1) := by decide +kernel
theorem own_d8_2 : decode jdk_2323_method_97_code 2 = .ok (.checkcast 257, 3) := by decide +kernel
theorem own_d8_5 : decode jdk_2323_method_97_code 5 = .ok (.invokevirtual 764, 3) := by decide +kernel
theorem own_pd8 : parseMethodDescriptor "(Ljava/time/chrono/ChronoLocalDate;)I" = some ⟨[(.object "java/time/chrono/ChronoLocalDate")], some .int⟩ := by decide +kernel
theorem own_d8_8 : decode jdk_2323_method_97_code 8 = .ok (.ireturn, 1) := by decide +kernel
theorem own_efC2 (m : MethodId) (x0 : Addr) (x1 : Addr) : entryFrame m #[(.ref x0), (.ref x1)] 2 = mkF m 0 #[.val (.ref x0), .val (.ref x1)] [] := by first | (simp [entryFrame, mkF, argsToLocals, Value.category]; done) | rfl
abbrev own_QC2 (Z : State) (d : Addr) (h0 : Heap) (n0 : Nat) : Option Value → Heap → List Loc → Prop := fun v h L => (∃ z : Int32, v = some (.int z)) ∧ Fr n0 L ∧ h = h0
set_option maxRecDepth 65536 in
set_option maxHeartbeats 40000000 in
theorem own_rmC2 (l : Launch) (Z : State) (a0 : Array Value) (hw : ∀ d ∈ tables_1, d.before a0 Z = true) (ws : List Jvm.Cond) (d : Addr) (h0 : Heap) (n0 : Nat) (O : Old Z n0 h0) (Ed : Exa Z Z.heap d "java/time/LocalDate") (D_year : Fld Z Z.heap d "java/time/LocalDate" "year" "I" (.int (-999999999 : Int32))) (D_month : Fld Z Z.heap d "java/time/LocalDate" "month" "S" (.int (1 : Int32))) (D_day : Fld Z Z.heap d "java/time/LocalDate" "day" "S" (.int (1 : Int32))) :
    MetFree l (⟨"java/time/LocalDate", "compareTo", "(Ljava/lang/Object;)I"⟩ : MethodName) (head1 (Jvm.Cond.code (⟨"java/time/LocalDate", "compareTo", "(Ljava/lang/Object;)I"⟩ : MethodName) jdk_2323_method_97_code 2 (some .int) :: ws) ({ frames := 2, cells := 0, slots := 0, locals := 27 } : Room)) (fun aa U => aa = #[(.ref d), (.ref d)] ∧ Z.Warmed39 U.vm ∧ U.heap = h0) (fun _ _ _ _ _ => True) (fun _ U o U' => ∃ v L, o = .returned v ∧ (own_QC2 Z d h0 n0) v U'.heap L ∧ FrameEnd U o U' L ({ frames := 2, cells := 0, slots := 0, locals := 27 } : Room).cells ({ frames := 2, cells := 0, slots := 0, locals := 27 } : Room).slots) := by
  refine MetFree.of_bodySF (plainFor_of_name own_pn6) hisR ?_
  intro p e s m args below meth c s₁ Bd hml0 hP hK
  obtain ⟨rfl, hZ, hh⟩ := hP
  have hx := Bd.exec
  have hby := Bd.bytes
  have hml : c.maxLocals = 2 := hml0
  have hown : s.vm.findClass "java/time/LocalDate" = some m.cls := findClass_of_methodNamed Bd.named
  have hnm := (name_of_methodNamed Bd.named Bd.method).1
  have X0 : Stand p l e ({ frames := 2, cells := 0, slots := 0, locals := 27 } : Room) s m #[(.ref d), (.ref d)] below meth c s₁ [] 0 0 := Stand.of_body Bd
  have e0 : s₁.heap = h0 := by rw [← hh, Bd.state]; rfl
  have N0 := Fr.nil n0
  refine Out.start (Q := own_QC2 Z d h0 n0) (own_efC2 m d d ) ?_
  refine Out.via (g' := (mkF m 1 #[.val (.ref d), .val (.ref d)] [(.ref d)])) (fun _ k => XS.aloadN X0.here hx rfl (hb hby own_d8_0) rfl rfl k) ?_
  refine Out.via (g' := (mkF m 2 #[.val (.ref d), .val (.ref d)] [(.ref d), (.ref d)])) (fun _ k => XS.aloadN X0.here hx rfl (hb hby own_d8_1) rfl rfl k) ?_
  obtain ⟨T1, X1, e1, st1⟩ := castY X0 hx hZ hown (hw _ (List.mem_of_getElem? (i := 70) rfl)) e0 (Ins.of_exa (Ed.ext O.2) (hw _ (List.mem_of_getElem? (i := 71) rfl))) (g := (mkF m 2 #[.val (.ref d), .val (.ref d)] [(.ref d), (.ref d)])) rfl rfl (hb hby own_d8_2)
  refine Out.via (g' := (mkF m 5 #[.val (.ref d), .val (.ref d)] [(.ref d), (.ref d)])) st1 ?_
  obtain ⟨cq2, kq2, q2a, q2b, q2c⟩ := isOf hZ e1 (Ed.ext O.2)
  obtain ⟨_, _, ⟨T2, L2, kc2, ks2⟩, -, X2, ⟨Lc2, hQ2, l2, y2, z2⟩, st2⟩ := X1.virtualBack hx (y := (⟨"java/time/LocalDate", "compareTo", "(Ljava/time/chrono/ChronoLocalDate;)I"⟩ : MethodName)) (z := (⟨"java/time/LocalDate", "compareTo", "(Ljava/time/chrono/ChronoLocalDate;)I"⟩ : MethodName)) hown (mvT hZ (hw _ (List.mem_of_getElem? (i := 72) rfl))) (mvT hZ (hw _ (List.mem_of_getElem? (i := 73) rfl))) (notFace_of_selects (args := #[]) (mvT hZ (hw _ (List.mem_of_getElem? (i := 75) rfl)))) (mvT hZ (hw _ (List.mem_of_getElem? (i := 75) rfl))) (mvT hZ (hw _ (List.mem_of_getElem? (i := 74) rfl))) (by decide) (backOf (W := 0) (own_rmC1 l Z a0 hw [] d h0 n0 O Ed D_year D_month D_day) hZ (hw _ (List.mem_of_getElem? (i := 76) rfl)) (hw _ (List.mem_of_getElem? (i := 33) rfl)) (by decide) (by decide)) q2a q2c (g := (mkF m 5 #[.val (.ref d), .val (.ref d)] [(.ref d), (.ref d)])) rfl (by rw [hml]; rfl) (Steps.refl _) (argsL := [(.ref d)]) (rest := []) (lenOf own_pd8 rfl) rfl (by show 2 * 0 + _ ≤ _; exact Nat.le_of_eq rfl) (hb hby own_d8_5) (fun _ _ => ⟨rfl, e1, (by decide : 0 + 0 ≤ _), (by decide : 0 + 0 ≤ _)⟩)
  dsimp only [Pt.U, Pt.locs, Pt.cells, Pt.slots] at X2 l2 y2 z2 st2 hQ2
  subst l2 y2 z2
  obtain ⟨⟨z2, rfl⟩, Nq2, eq2⟩ := hQ2
  replace N0 := Fr.app N0 Nq2
  refine Out.to (g' := (mkF m 8 #[.val (.ref d), .val (.ref d)] [(.int z2)])) st2 ?_
  exact Out.endN X2 (fun h => by rw [Bd.returns] at h; cases h) Bd.notSynchronized (by decide) (by decide) (by rw [eq2]; exact ⟨⟨_, rfl⟩, N0, rfl⟩) (fun fs hr => own_retI X2 hx Bd.returns (hb hby own_d8_8) hr)
theorem own_pn9 : plainName "java/util/TreeMap" = true := by first | (simp [plainName, overriddenIn]; done) | decide +kernel
theorem own_d9_0 : decode jdk_2729_method_1_code 0 = .ok (.aload_n 0, 1) := by decide +kernel
theorem own_d9_1 : decode jdk_2729_method_1_code 1 = .ok (.invokespecial 1, 3) := by decide +kernel
theorem own_d9_4 : decode jdk_2729_method_1_code 4 = .ok (.aload_n 0, 1) := by decide +kernel
theorem own_d9_5 : decode jdk_2729_method_1_code 5 = .ok (.iconst 0, 1) := by decide +kernel
theorem own_d9_6 : decode jdk_2729_method_1_code 6 = .ok (.putfield 7, 3) := by decide +kernel
theorem own_d9_9 : decode jdk_2729_method_1_code 9 = .ok (.aload_n 0, 1) := by decide +kernel
theorem own_d9_10 : decode jdk_2729_method_1_code 10 = .ok (.iconst 0, 1) := by decide +kernel
theorem own_d9_11 : decode jdk_2729_method_1_code 11 = .ok (.putfield 13, 3) := by decide +kernel
theorem own_d9_14 : decode jdk_2729_method_1_code 14 = .ok (.aload_n 0, 1) := by decide +kernel
theorem own_d9_15 : decode jdk_2729_method_1_code 15 = .ok (.aconst_null, 1) := by decide +kernel
theorem own_d9_16 : decode jdk_2729_method_1_code 16 = .ok (.putfield 16, 3) := by decide +kernel
theorem own_d9_19 : decode jdk_2729_method_1_code 19 = .ok (.return_, 1) := by decide +kernel
theorem own_efTI (m : MethodId) (x0 : Addr) : entryFrame m #[(.ref x0)] 1 = mkF m 0 #[.val (.ref x0)] [] := by first | (simp [entryFrame, mkF, argsToLocals, Value.category]; done) | rfl
abbrev own_QTI (Z : State) (a : Addr) (h0 : Heap) (n0 : Nat) : Option Value → Heap → List Loc → Prop := fun v h L => v = none ∧ Fr n0 L ∧ Keep h0 h [a] ∧ Exa Z h a "java/util/TreeMap" ∧ Fld Z h a "java/util/TreeMap" "size" "I" (.int (0 : Int32)) ∧ Fld Z h a "java/util/TreeMap" "modCount" "I" (.int (0 : Int32)) ∧ Fld Z h a "java/util/TreeMap" "comparator" "Ljava/util/Comparator;" .null ∧ Fld Z h a "java/util/TreeMap" "root" "Ljava/util/TreeMap$Entry;" .null
set_option maxRecDepth 65536 in
set_option maxHeartbeats 40000000 in
theorem own_rmTI (l : Launch) (Z : State) (a0 : Array Value) (hw : ∀ d ∈ tables_1, d.before a0 Z = true) (ws : List Jvm.Cond) (a : Addr) (h0 : Heap) (n0 : Nat) (O : Old Z n0 h0) (g_a : n0 ≤ a) (E1 : Exa Z h0 a "java/util/TreeMap") (F_size_a : Fld Z h0 a "java/util/TreeMap" "size" "I" (.int (0 : Int32))) (F_modCount_a : Fld Z h0 a "java/util/TreeMap" "modCount" "I" (.int (0 : Int32))) (F_comparator_a : Fld Z h0 a "java/util/TreeMap" "comparator" "Ljava/util/Comparator;" .null) (F_root_a : Fld Z h0 a "java/util/TreeMap" "root" "Ljava/util/TreeMap$Entry;" .null) :
    MetFree l (⟨"java/util/TreeMap", "<init>", "()V"⟩ : MethodName) (head1 (Jvm.Cond.code (⟨"java/util/TreeMap", "<init>", "()V"⟩ : MethodName) jdk_2729_method_1_code 1 none :: ws) ({ frames := 2, cells := 0, slots := 0, locals := 24 } : Room)) (fun aa U => aa = #[(.ref a)] ∧ Z.Warmed39 U.vm ∧ U.heap = h0) (fun _ _ _ _ _ => True) (fun _ U o U' => ∃ v L, o = .returned v ∧ (own_QTI Z a h0 n0) v U'.heap L ∧ FrameEnd U o U' L ({ frames := 2, cells := 0, slots := 0, locals := 24 } : Room).cells ({ frames := 2, cells := 0, slots := 0, locals := 24 } : Room).slots) := by
  refine MetFree.of_bodySF (plainFor_of_name own_pn9) hisR ?_
  intro p e s m args below meth c s₁ Bd hml0 hP hK
  obtain ⟨rfl, hZ, hh⟩ := hP
  have hx := Bd.exec
  have hby := Bd.bytes
  have hml : c.maxLocals = 1 := hml0
  have hown : s.vm.findClass "java/util/TreeMap" = some m.cls := findClass_of_methodNamed Bd.named
  have hnm := (name_of_methodNamed Bd.named Bd.method).1
  have X0 : Stand p l e ({ frames := 2, cells := 0, slots := 0, locals := 24 } : Room) s m #[(.ref a)] below meth c s₁ [] 0 0 := Stand.of_body Bd
  have e0 : s₁.heap = h0 := by rw [← hh, Bd.state]; rfl
  have N0 := Fr.nil n0
  refine Out.start (Q := own_QTI Z a h0 n0) (own_efTI m a ) ?_
  have Kp := Keep.refl h0 [a]
  refine Out.via (g' := (mkF m 1 #[.val (.ref a)] [(.ref a)])) (fun _ k => XS.aloadN X0.here hx rfl (hb hby own_d9_0) rfl rfl k) ?_
  obtain ⟨_, _, ⟨T1, L1, kc1, ks1⟩, -, X1, ⟨Lc1, hQ1, l1, y1, z1⟩, st1⟩ := X0.specialBack hx (y := (⟨"java/util/AbstractMap", "<init>", "()V"⟩ : MethodName)) rfl hown (mvT hZ (hw _ (List.mem_of_getElem? (i := 17) rfl))) (mvT hZ (hw _ (List.mem_of_getElem? (i := 18) rfl))) (mvT hZ (hw _ (List.mem_of_getElem? (i := 22) rfl))) (by decide) (backOf (W := 0) (own_rmAM l Z a0 hw [] a h0 n0 O) hZ (hw _ (List.mem_of_getElem? (i := 22) rfl)) (hw _ (List.mem_of_getElem? (i := 21) rfl)) (by decide) (by decide)) (g := (mkF m 1 #[.val (.ref a)] [(.ref a)])) rfl (by rw [hml]; rfl) (Steps.refl _) (a := a) (argsL := []) (rest := []) (lenOf own_pd4 rfl) rfl (by show 2 * 0 + _ ≤ _; exact Nat.le_of_eq rfl) (hb hby own_d9_1) (fun _ _ => ⟨rfl, e0, (by decide : 0 + 0 ≤ _), (by decide : 0 + 0 ≤ _)⟩)
  dsimp only [Pt.U, Pt.locs, Pt.cells, Pt.slots] at X1 l1 y1 z1 st1 hQ1
  subst l1 y1 z1
  obtain ⟨rfl, Nq1, eq1⟩ := hQ1
  replace N0 := Fr.app N0 Nq1
  refine Out.to (g' := (mkF m 4 #[.val (.ref a)] [])) st1 ?_
  refine Out.via (g' := (mkF m 5 #[.val (.ref a)] [(.ref a)])) (fun _ k => XS.aloadN X1.here hx rfl (hb hby own_d9_4) rfl rfl k) ?_
  refine Out.via (g' := (mkF m 6 #[.val (.ref a)] [(.int (0 : Int32)), (.ref a)])) (fun _ k => XS.iconst X1.here hx rfl (hb hby own_d9_5) k) ?_
  obtain ⟨T2, h2, X2, e2, W2, st2⟩ := putF X1 hx hZ hown (host := "") (Or.inl (hw _ (List.mem_of_getElem? (i := 26) rfl))) Via.refl eq1 F_size_a E1 (Or.inl (hw _ (List.mem_of_getElem? (i := 27) rfl))) (hw _ (List.mem_of_getElem? (i := 12) rfl)) (ty := .int) (by decide) rfl rfl (g := (mkF m 6 #[.val (.ref a)] [(.int (0 : Int32)), (.ref a)])) rfl rfl (hb hby own_d9_6)
  replace F_size_a := F_size_a.same W2
  replace F_modCount_a := F_modCount_a.other W2 (Or.inr (slot_ne (Or.inl (hw _ (List.mem_of_getElem? (i := 29) rfl))) (Or.inl (hw _ (List.mem_of_getElem? (i := 27) rfl))) (by decide) (t := .int) (t' := .int) (by decide) (by decide)))
  replace F_comparator_a := F_comparator_a.other W2 (Or.inr (slot_ne (Or.inr (hw _ (List.mem_of_getElem? (i := 31) rfl))) (Or.inl (hw _ (List.mem_of_getElem? (i := 27) rfl))) (by decide) (t := (.object "java/util/Comparator")) (t' := .int) (by decide) (by decide)))
  replace F_root_a := F_root_a.other W2 (Or.inr (slot_ne (Or.inl (hw _ (List.mem_of_getElem? (i := 49) rfl))) (Or.inl (hw _ (List.mem_of_getElem? (i := 27) rfl))) (by decide) (t := (.object "java/util/TreeMap$Entry")) (t' := .int) (by decide) (by decide)))
  replace E1 := E1.wr W2
  replace O := O.wr W2 g_a
  replace Kp := Kp.wr W2 (Or.inl (List.mem_of_getElem? (i := 0) rfl))
  replace N0 := Fr.snoc X2 N0 g_a
  refine Out.via (g' := (mkF m 9 #[.val (.ref a)] [])) st2 ?_
  refine Out.via (g' := (mkF m 10 #[.val (.ref a)] [(.ref a)])) (fun _ k => XS.aloadN X2.here hx rfl (hb hby own_d9_9) rfl rfl k) ?_
  refine Out.via (g' := (mkF m 11 #[.val (.ref a)] [(.int (0 : Int32)), (.ref a)])) (fun _ k => XS.iconst X2.here hx rfl (hb hby own_d9_10) k) ?_
  obtain ⟨T3, h3, X3, e3, W3, st3⟩ := putF X2 hx hZ hown (host := "") (Or.inl (hw _ (List.mem_of_getElem? (i := 28) rfl))) Via.refl e2 F_modCount_a E1 (Or.inl (hw _ (List.mem_of_getElem? (i := 29) rfl))) (hw _ (List.mem_of_getElem? (i := 12) rfl)) (ty := .int) (by decide) rfl rfl (g := (mkF m 11 #[.val (.ref a)] [(.int (0 : Int32)), (.ref a)])) rfl rfl (hb hby own_d9_11)
  replace F_modCount_a := F_modCount_a.same W3
  replace F_size_a := F_size_a.other W3 (Or.inr (slot_ne (Or.inl (hw _ (List.mem_of_getElem? (i := 27) rfl))) (Or.inl (hw _ (List.mem_of_getElem? (i := 29) rfl))) (by decide) (t := .int) (t' := .int) (by decide) (by decide)))
  replace F_comparator_a := F_comparator_a.other W3 (Or.inr (slot_ne (Or.inr (hw _ (List.mem_of_getElem? (i := 31) rfl))) (Or.inl (hw _ (List.mem_of_getElem? (i := 29) rfl))) (by decide) (t := (.object "java/util/Comparator")) (t' := .int) (by decide) (by decide)))
  replace F_root_a := F_root_a.other W3 (Or.inr (slot_ne (Or.inl (hw _ (List.mem_of_getElem? (i := 49) rfl))) (Or.inl (hw _ (List.mem_of_getElem? (i := 29) rfl))) (by decide) (t := (.object "java/util/TreeMap$Entry")) (t' := .int) (by decide) (by decide)))
  replace E1 := E1.wr W3
  replace O := O.wr W3 g_a
  replace Kp := Kp.wr W3 (Or.inl (List.mem_of_getElem? (i := 0) rfl))
  replace N0 := Fr.snoc X3 N0 g_a
  refine Out.via (g' := (mkF m 14 #[.val (.ref a)] [])) st3 ?_
  refine Out.via (g' := (mkF m 15 #[.val (.ref a)] [(.ref a)])) (fun _ k => XS.aloadN X3.here hx rfl (hb hby own_d9_14) rfl rfl k) ?_
  refine Out.via (g' := (mkF m 16 #[.val (.ref a)] [.null, (.ref a)])) (fun _ k => XS.aconstNull X3.here hx rfl (hb hby own_d9_15) k) ?_
  obtain ⟨T4, h4, X4, e4, W4, st4⟩ := putF X3 hx hZ hown (host := "") (Or.inl (hw _ (List.mem_of_getElem? (i := 30) rfl))) Via.refl e3 F_comparator_a E1 (Or.inr ⟨(hw _ (List.mem_of_getElem? (i := 31) rfl)), rfl, hnm⟩) (hw _ (List.mem_of_getElem? (i := 12) rfl)) (ty := (.object "java/util/Comparator")) (by decide) rfl rfl (g := (mkF m 16 #[.val (.ref a)] [.null, (.ref a)])) rfl rfl (hb hby own_d9_16)
  replace F_comparator_a := F_comparator_a.same W4
  replace F_size_a := F_size_a.other W4 (Or.inr (slot_ne (Or.inl (hw _ (List.mem_of_getElem? (i := 27) rfl))) (Or.inr (hw _ (List.mem_of_getElem? (i := 31) rfl))) (by decide) (t := .int) (t' := (.object "java/util/Comparator")) (by decide) (by decide)))
  replace F_modCount_a := F_modCount_a.other W4 (Or.inr (slot_ne (Or.inl (hw _ (List.mem_of_getElem? (i := 29) rfl))) (Or.inr (hw _ (List.mem_of_getElem? (i := 31) rfl))) (by decide) (t := .int) (t' := (.object "java/util/Comparator")) (by decide) (by decide)))
  replace F_root_a := F_root_a.other W4 (Or.inr (slot_ne (Or.inl (hw _ (List.mem_of_getElem? (i := 49) rfl))) (Or.inr (hw _ (List.mem_of_getElem? (i := 31) rfl))) (by decide) (t := (.object "java/util/TreeMap$Entry")) (t' := (.object "java/util/Comparator")) (by decide) (by decide)))
  replace E1 := E1.wr W4
  replace O := O.wr W4 g_a
  replace Kp := Kp.wr W4 (Or.inl (List.mem_of_getElem? (i := 0) rfl))
  replace N0 := Fr.snoc X4 N0 g_a
  refine Out.via (g' := (mkF m 19 #[.val (.ref a)] [])) st4 ?_
  exact Out.endN X4 (fun _ => rfl) Bd.notSynchronized (by decide) (by decide) (by rw [e4]; exact ⟨rfl, N0, Kp, E1, F_size_a, F_modCount_a, F_comparator_a, F_root_a⟩) (fun fs hr => X4.returnOut hx Bd.returns (hb hby own_d9_19) hr)
theorem own_d10_0 : decode jdk_2729_method_67_code 0 = .ok (.aload_n 0, 1) := by decide +kernel
theorem own_d10_1 : decode jdk_2729_method_67_code 1 = .ok (.getfield 16, 3) := by decide +kernel
theorem own_d10_4 : decode jdk_2729_method_67_code 4 = .ok (.ifnonnull 16, 3) := by decide +kernel
theorem own_d10_7 : decode jdk_2729_method_67_code 7 = .ok (.aload_n 1, 1) := by decide +kernel
theorem own_d10_8 : decode jdk_2729_method_67_code 8 = .ok (.checkcast 99, 3) := by decide +kernel
theorem own_d10_11 : decode jdk_2729_method_67_code 11 = .ok (.aload_n 2, 1) := by decide +kernel
theorem own_d10_12 : decode jdk_2729_method_67_code 12 = .ok (.invokeinterface 107 2, 5) := by decide +kernel
theorem own_pd10 : parseMethodDescriptor "(Ljava/lang/Object;)I" = some ⟨[(.object "java/lang/Object")], some .int⟩ := by decide +kernel
theorem own_d10_17 : decode jdk_2729_method_67_code 17 = .ok (.goto 14, 3) := by decide +kernel
theorem own_d10_31 : decode jdk_2729_method_67_code 31 = .ok (.ireturn, 1) := by decide +kernel
theorem own_efCM (m : MethodId) (x0 : Addr) (x1 : Addr) (x2 : Addr) : entryFrame m #[(.ref x0), (.ref x1), (.ref x2)] 3 = mkF m 0 #[.val (.ref x0), .val (.ref x1), .val (.ref x2)] [] := by first | (simp [entryFrame, mkF, argsToLocals, Value.category]; done) | rfl
abbrev own_QCM (Z : State) (a d : Addr) (h0 : Heap) (n0 : Nat) : Option Value → Heap → List Loc → Prop := fun v h L => (∃ z : Int32, v = some (.int z)) ∧ Fr n0 L ∧ h = h0
set_option maxRecDepth 65536 in
set_option maxHeartbeats 40000000 in
theorem own_rmCM (l : Launch) (Z : State) (a0 : Array Value) (hw : ∀ d ∈ tables_1, d.before a0 Z = true) (ws : List Jvm.Cond) (a d : Addr) (h0 : Heap) (n0 : Nat) (O : Old Z n0 h0) (F_comparator_a : Fld Z h0 a "java/util/TreeMap" "comparator" "Ljava/util/Comparator;" .null) (Ed : Exa Z Z.heap d "java/time/LocalDate") (D_year : Fld Z Z.heap d "java/time/LocalDate" "year" "I" (.int (-999999999 : Int32))) (D_month : Fld Z Z.heap d "java/time/LocalDate" "month" "S" (.int (1 : Int32))) (D_day : Fld Z Z.heap d "java/time/LocalDate" "day" "S" (.int (1 : Int32))) :
    MetFree l (⟨"java/util/TreeMap", "compare", "(Ljava/lang/Object;Ljava/lang/Object;)I"⟩ : MethodName) (head1 (Jvm.Cond.code (⟨"java/util/TreeMap", "compare", "(Ljava/lang/Object;Ljava/lang/Object;)I"⟩ : MethodName) jdk_2729_method_67_code 3 (some .int) :: ws) ({ frames := 3, cells := 0, slots := 0, locals := 40 } : Room)) (fun aa U => aa = #[(.ref a), (.ref d), (.ref d)] ∧ Z.Warmed39 U.vm ∧ U.heap = h0) (fun _ _ _ _ _ => True) (fun _ U o U' => ∃ v L, o = .returned v ∧ (own_QCM Z a d h0 n0) v U'.heap L ∧ FrameEnd U o U' L ({ frames := 3, cells := 0, slots := 0, locals := 40 } : Room).cells ({ frames := 3, cells := 0, slots := 0, locals := 40 } : Room).slots) := by
  refine MetFree.of_bodySF (plainFor_of_name own_pn9) hisR ?_
  intro p e s m args below meth c s₁ Bd hml0 hP hK
  obtain ⟨rfl, hZ, hh⟩ := hP
  have hx := Bd.exec
  have hby := Bd.bytes
  have hml : c.maxLocals = 3 := hml0
  have hown : s.vm.findClass "java/util/TreeMap" = some m.cls := findClass_of_methodNamed Bd.named
  have hnm := (name_of_methodNamed Bd.named Bd.method).1
  have X0 : Stand p l e ({ frames := 3, cells := 0, slots := 0, locals := 40 } : Room) s m #[(.ref a), (.ref d), (.ref d)] below meth c s₁ [] 0 0 := Stand.of_body Bd
  have e0 : s₁.heap = h0 := by rw [← hh, Bd.state]; rfl
  have N0 := Fr.nil n0
  refine Out.start (Q := own_QCM Z a d h0 n0) (own_efCM m a d d ) ?_
  refine Out.via (g' := (mkF m 1 #[.val (.ref a), .val (.ref d), .val (.ref d)] [(.ref a)])) (fun _ k => XS.aloadN X0.here hx rfl (hb hby own_d10_0) rfl rfl k) ?_
  obtain ⟨T1, X1, e1, st1⟩ := getF X0 hx hZ hown (host := "") (Or.inl (hw _ (List.mem_of_getElem? (i := 30) rfl))) Via.refl e0 F_comparator_a (g := (mkF m 1 #[.val (.ref a), .val (.ref d), .val (.ref d)] [(.ref a)])) rfl rfl (hb hby own_d10_1)
  refine Out.via (g' := (mkF m 4 #[.val (.ref a), .val (.ref d), .val (.ref d)] [.null])) st1 ?_
  refine Out.via (g' := (mkF m 7 #[.val (.ref a), .val (.ref d), .val (.ref d)] [])) (fun _ k => XS.ifnonnullNo X1.here hx rfl (hb hby own_d10_4) rfl k) ?_
  refine Out.via (g' := (mkF m 8 #[.val (.ref a), .val (.ref d), .val (.ref d)] [(.ref d)])) (fun _ k => XS.aloadN X1.here hx rfl (hb hby own_d10_7) rfl rfl k) ?_
  obtain ⟨T2, X2, e2, st2⟩ := castY X1 hx hZ hown (hw _ (List.mem_of_getElem? (i := 60) rfl)) e1 (Ins.of_exa (Ed.ext O.2) (hw _ (List.mem_of_getElem? (i := 61) rfl))) (g := (mkF m 8 #[.val (.ref a), .val (.ref d), .val (.ref d)] [(.ref d)])) rfl rfl (hb hby own_d10_8)
  refine Out.via (g' := (mkF m 11 #[.val (.ref a), .val (.ref d), .val (.ref d)] [(.ref d)])) st2 ?_
  refine Out.via (g' := (mkF m 12 #[.val (.ref a), .val (.ref d), .val (.ref d)] [(.ref d), (.ref d)])) (fun _ k => XS.aloadN X2.here hx rfl (hb hby own_d10_11) rfl rfl k) ?_
  obtain ⟨cq3, kq3, q3a, q3b, q3c⟩ := isOf hZ e2 (Ed.ext O.2)
  obtain ⟨_, _, ⟨T3, L3, kc3, ks3⟩, -, X3, ⟨Lc3, hQ3, l3, y3, z3⟩, st3⟩ := X2.interfaceBack hx (xi := (⟨"java/lang/Comparable", "compareTo", "(Ljava/lang/Object;)I"⟩ : MethodName)) (y := (⟨"java/time/LocalDate", "compareTo", "(Ljava/lang/Object;)I"⟩ : MethodName)) hown (mvT hZ (hw _ (List.mem_of_getElem? (i := 62) rfl))) (mvT hZ (hw _ (List.mem_of_getElem? (i := 63) rfl))) (mvT hZ (hw _ (List.mem_of_getElem? (i := 64) rfl))) (mvT hZ (hw _ (List.mem_of_getElem? (i := 65) rfl))) (mvT hZ (hw _ (List.mem_of_getElem? (i := 66) rfl))) (mvT hZ (hw _ (List.mem_of_getElem? (i := 67) rfl))) (mvT hZ (hw _ (List.mem_of_getElem? (i := 68) rfl))) (mvT hZ (hw _ (List.mem_of_getElem? (i := 61) rfl))) (by decide) (backOf (W := 0) (own_rmC2 l Z a0 hw [] d h0 n0 O Ed D_year D_month D_day) hZ (hw _ (List.mem_of_getElem? (i := 69) rfl)) (hw _ (List.mem_of_getElem? (i := 33) rfl)) (by decide) (by decide)) q3a q3b q3c (g := (mkF m 12 #[.val (.ref a), .val (.ref d), .val (.ref d)] [(.ref d), (.ref d)])) rfl (by rw [hml]; rfl) (Steps.refl _) (argsL := [(.ref d)]) (rest := []) (lenOf own_pd10 rfl) rfl (by show 2 * 0 + _ ≤ _; exact Nat.le_of_eq rfl) (hb hby own_d10_12) (fun _ _ => ⟨rfl, e2, (by decide : 0 + 0 ≤ _), (by decide : 0 + 0 ≤ _)⟩)
  dsimp only [Pt.U, Pt.locs, Pt.cells, Pt.slots] at X3 l3 y3 z3 st3 hQ3
  subst l3 y3 z3
  obtain ⟨⟨z3, rfl⟩, Nq3, eq3⟩ := hQ3
  replace N0 := Fr.app N0 Nq3
  refine Out.to (g' := (mkF m 17 #[.val (.ref a), .val (.ref d), .val (.ref d)] [(.int z3)])) st3 ?_
  refine Out.via (g' := (mkF m 31 #[.val (.ref a), .val (.ref d), .val (.ref d)] [(.int z3)])) (fun _ k => XS.goto X3.here hx rfl (pc0 := 17) (pc' := 31) rfl (hb hby own_d10_17) (by decide) (by decide) k) ?_
  exact Out.endN X3 (fun h => by rw [Bd.returns] at h; cases h) Bd.notSynchronized (by decide) (by decide) (by rw [eq3]; exact ⟨⟨_, rfl⟩, N0, rfl⟩) (fun fs hr => own_retI X3 hx Bd.returns (hb hby own_d10_31) hr)
theorem own_pn11 : plainName "java/util/TreeMap$Entry" = true := by first | (simp [plainName, overriddenIn]; done) | decide +kernel
theorem own_d11_0 : decode jdk_2736_method_1_code 0 = .ok (.aload_n 0, 1) := by decide +kernel
theorem own_d11_1 : decode jdk_2736_method_1_code 1 = .ok (.invokespecial 3, 3) := by decide +kernel
theorem own_d11_4 : decode jdk_2736_method_1_code 4 = .ok (.aload_n 0, 1) := by decide +kernel
theorem own_d11_5 : decode jdk_2736_method_1_code 5 = .ok (.iconst 1, 1) := by decide +kernel
theorem own_d11_6 : decode jdk_2736_method_1_code 6 = .ok (.putfield 9, 3) := by decide +kernel
theorem own_d11_9 : decode jdk_2736_method_1_code 9 = .ok (.aload_n 0, 1) := by decide +kernel
theorem own_d11_10 : decode jdk_2736_method_1_code 10 = .ok (.aload_n 1, 1) := by decide +kernel
theorem own_d11_11 : decode jdk_2736_method_1_code 11 = .ok (.putfield 15, 3) := by decide +kernel
theorem own_d11_14 : decode jdk_2736_method_1_code 14 = .ok (.aload_n 0, 1) := by decide +kernel
theorem own_d11_15 : decode jdk_2736_method_1_code 15 = .ok (.aload_n 2, 1) := by decide +kernel
theorem own_d11_16 : decode jdk_2736_method_1_code 16 = .ok (.putfield 19, 3) := by decide +kernel
theorem own_d11_19 : decode jdk_2736_method_1_code 19 = .ok (.aload_n 0, 1) := by decide +kernel
theorem own_d11_20 : decode jdk_2736_method_1_code 20 = .ok (.aload_n 3, 1) := by decide +kernel
theorem own_d11_21 : decode jdk_2736_method_1_code 21 = .ok (.putfield 22, 3) := by decide +kernel
theorem own_d11_24 : decode jdk_2736_method_1_code 24 = .ok (.return_, 1) := by decide +kernel
set_option maxHeartbeats 4000000 in
theorem own_efEI (m : MethodId) (x0 : Addr) (x1 : Addr) (x2 : Value) (r2 : x2.isRef = true) : entryFrame m #[(.ref x0), (.ref x1), x2, .null] 4 = mkF m 0 #[.val (.ref x0), .val (.ref x1), .val x2, .val .null] [] := by 
  rcases ref_cases r2 with rfl | ⟨_, rfl⟩ <;>
  (first | (simp [entryFrame, mkF, argsToLocals, Value.category]; done) | rfl)
abbrev own_QEI (Z : State) (a d : Addr) (w : Value) (h0 : Heap) (n0 : Nat) : Option Value → Heap → List Loc → Prop := fun v h L => v = none ∧ Fr n0 L ∧ Keep h0 h [a] ∧ Exa Z h a "java/util/TreeMap$Entry" ∧ Fld Z h a "java/util/TreeMap$Entry" "right" "Ljava/util/TreeMap$Entry;" .null ∧ Fld Z h a "java/util/TreeMap$Entry" "value" "Ljava/lang/Object;" w ∧ Fld Z h a "java/util/TreeMap$Entry" "key" "Ljava/lang/Object;" (.ref d)
set_option maxRecDepth 65536 in
set_option maxHeartbeats 40000000 in
theorem own_rmEI (l : Launch) (Z : State) (a0 : Array Value) (hw : ∀ d ∈ tables_1, d.before a0 Z = true) (ws : List Jvm.Cond) (a d : Addr) (w : Value) (h0 : Heap) (n0 : Nat) (O : Old Z n0 h0) (rw_ : w.isRef = true) (g_a : n0 ≤ a) (E1 : Exa Z h0 a "java/util/TreeMap$Entry") (F_color_a : Fld Z h0 a "java/util/TreeMap$Entry" "color" "Z" (.int (0 : Int32))) (F_key_a : Fld Z h0 a "java/util/TreeMap$Entry" "key" "Ljava/lang/Object;" .null) (F_value_a : Fld Z h0 a "java/util/TreeMap$Entry" "value" "Ljava/lang/Object;" .null) (F_parent_a : Fld Z h0 a "java/util/TreeMap$Entry" "parent" "Ljava/util/TreeMap$Entry;" .null) (F_right_a : Fld Z h0 a "java/util/TreeMap$Entry" "right" "Ljava/util/TreeMap$Entry;" .null) :
    MetFree l (⟨"java/util/TreeMap$Entry", "<init>", "(Ljava/lang/Object;Ljava/lang/Object;Ljava/util/TreeMap$Entry;)V"⟩ : MethodName) (head1 (Jvm.Cond.code (⟨"java/util/TreeMap$Entry", "<init>", "(Ljava/lang/Object;Ljava/lang/Object;Ljava/util/TreeMap$Entry;)V"⟩ : MethodName) jdk_2736_method_1_code 4 none :: ws) ({ frames := 1, cells := 0, slots := 0, locals := 12 } : Room)) (fun aa U => aa = #[(.ref a), (.ref d), w, .null] ∧ Z.Warmed39 U.vm ∧ U.heap = h0) (fun _ _ _ _ _ => True) (fun _ U o U' => ∃ v L, o = .returned v ∧ (own_QEI Z a d w h0 n0) v U'.heap L ∧ FrameEnd U o U' L ({ frames := 1, cells := 0, slots := 0, locals := 12 } : Room).cells ({ frames := 1, cells := 0, slots := 0, locals := 12 } : Room).slots) := by
  refine MetFree.of_bodySF (plainFor_of_name own_pn11) hisR ?_
  intro p e s m args below meth c s₁ Bd hml0 hP hK
  obtain ⟨rfl, hZ, hh⟩ := hP
  have hx := Bd.exec
  have hby := Bd.bytes
  have hml : c.maxLocals = 4 := hml0
  have hown : s.vm.findClass "java/util/TreeMap$Entry" = some m.cls := findClass_of_methodNamed Bd.named
  have hnm := (name_of_methodNamed Bd.named Bd.method).1
  have X0 : Stand p l e ({ frames := 1, cells := 0, slots := 0, locals := 12 } : Room) s m #[(.ref a), (.ref d), w, .null] below meth c s₁ [] 0 0 := Stand.of_body Bd
  have e0 : s₁.heap = h0 := by rw [← hh, Bd.state]; rfl
  have N0 := Fr.nil n0
  refine Out.start (Q := own_QEI Z a d w h0 n0) (own_efEI m a d w rw_) ?_
  have Kp := Keep.refl h0 [a]
  refine Out.via (g' := (mkF m 1 #[.val (.ref a), .val (.ref d), .val w, .val .null] [(.ref a)])) (fun _ k => XS.aloadN X0.here hx rfl (hb hby own_d11_0) rfl rfl k) ?_
  obtain ⟨T1, X1, e1, st1⟩ := initO X0 hx hZ hown (hw _ (List.mem_of_getElem? (i := 97) rfl)) (hw _ (List.mem_of_getElem? (i := 24) rfl)) (hw _ (List.mem_of_getElem? (i := 25) rfl)) e0 (g := (mkF m 1 #[.val (.ref a), .val (.ref d), .val w, .val .null] [(.ref a)])) rfl (by rw [hml]; rfl) rfl (hb hby own_d11_1) (by decide) (W := 0) (by show 2 * 0 + _ ≤ _; exact Nat.le_of_eq rfl) (by decide)
  refine Out.via (g' := (mkF m 4 #[.val (.ref a), .val (.ref d), .val w, .val .null] [])) st1 ?_
  refine Out.via (g' := (mkF m 5 #[.val (.ref a), .val (.ref d), .val w, .val .null] [(.ref a)])) (fun _ k => XS.aloadN X1.here hx rfl (hb hby own_d11_4) rfl rfl k) ?_
  refine Out.via (g' := (mkF m 6 #[.val (.ref a), .val (.ref d), .val w, .val .null] [(.int (1 : Int32)), (.ref a)])) (fun _ k => XS.iconst X1.here hx rfl (hb hby own_d11_5) k) ?_
  obtain ⟨T2, h2, X2, e2, W2, st2⟩ := putFN X1 hx hZ hown (hw _ (List.mem_of_getElem? (i := 98) rfl)) Via.refl e1 F_color_a E1 (Or.inl (hw _ (List.mem_of_getElem? (i := 99) rfl))) (hw _ (List.mem_of_getElem? (i := 91) rfl)) (ty := .boolean) (v' := (.int (1 : Int32))) (by decide) rfl (by decide) (g := (mkF m 6 #[.val (.ref a), .val (.ref d), .val w, .val .null] [(.int (1 : Int32)), (.ref a)])) rfl rfl (hb hby own_d11_6)
  replace F_color_a := F_color_a.same W2
  replace F_key_a := F_key_a.other W2 (Or.inr (slot_ne (Or.inl (hw _ (List.mem_of_getElem? (i := 101) rfl))) (Or.inl (hw _ (List.mem_of_getElem? (i := 99) rfl))) (by decide) (t := (.object "java/lang/Object")) (t' := .boolean) (by decide) (by decide)))
  replace F_value_a := F_value_a.other W2 (Or.inr (slot_ne (Or.inl (hw _ (List.mem_of_getElem? (i := 103) rfl))) (Or.inl (hw _ (List.mem_of_getElem? (i := 99) rfl))) (by decide) (t := (.object "java/lang/Object")) (t' := .boolean) (by decide) (by decide)))
  replace F_parent_a := F_parent_a.other W2 (Or.inr (slot_ne (Or.inl (hw _ (List.mem_of_getElem? (i := 105) rfl))) (Or.inl (hw _ (List.mem_of_getElem? (i := 99) rfl))) (by decide) (t := (.object "java/util/TreeMap$Entry")) (t' := .boolean) (by decide) (by decide)))
  replace F_right_a := F_right_a.other W2 (Or.inr (slot_ne (Or.inl (hw _ (List.mem_of_getElem? (i := 179) rfl))) (Or.inl (hw _ (List.mem_of_getElem? (i := 99) rfl))) (by decide) (t := (.object "java/util/TreeMap$Entry")) (t' := .boolean) (by decide) (by decide)))
  replace E1 := E1.wr W2
  replace O := O.wr W2 g_a
  replace Kp := Kp.wr W2 (Or.inl (List.mem_of_getElem? (i := 0) rfl))
  replace N0 := Fr.snoc X2 N0 g_a
  refine Out.via (g' := (mkF m 9 #[.val (.ref a), .val (.ref d), .val w, .val .null] [])) st2 ?_
  refine Out.via (g' := (mkF m 10 #[.val (.ref a), .val (.ref d), .val w, .val .null] [(.ref a)])) (fun _ k => XS.aloadN X2.here hx rfl (hb hby own_d11_9) rfl rfl k) ?_
  refine Out.via (g' := (mkF m 11 #[.val (.ref a), .val (.ref d), .val w, .val .null] [(.ref d), (.ref a)])) (fun _ k => XS.aloadN X2.here hx rfl (hb hby own_d11_10) rfl rfl k) ?_
  obtain ⟨T3, h3, X3, e3, W3, st3⟩ := putF X2 hx hZ hown (host := "") (Or.inl (hw _ (List.mem_of_getElem? (i := 100) rfl))) Via.refl e2 F_key_a E1 (Or.inl (hw _ (List.mem_of_getElem? (i := 101) rfl))) (hw _ (List.mem_of_getElem? (i := 91) rfl)) (ty := (.object "java/lang/Object")) (by decide) rfl rfl (g := (mkF m 11 #[.val (.ref a), .val (.ref d), .val w, .val .null] [(.ref d), (.ref a)])) rfl rfl (hb hby own_d11_11)
  replace F_key_a := F_key_a.same W3
  replace F_color_a := F_color_a.other W3 (Or.inr (slot_ne (Or.inl (hw _ (List.mem_of_getElem? (i := 99) rfl))) (Or.inl (hw _ (List.mem_of_getElem? (i := 101) rfl))) (by decide) (t := .boolean) (t' := (.object "java/lang/Object")) (by decide) (by decide)))
  replace F_value_a := F_value_a.other W3 (Or.inr (slot_ne (Or.inl (hw _ (List.mem_of_getElem? (i := 103) rfl))) (Or.inl (hw _ (List.mem_of_getElem? (i := 101) rfl))) (by decide) (t := (.object "java/lang/Object")) (t' := (.object "java/lang/Object")) (by decide) (by decide)))
  replace F_parent_a := F_parent_a.other W3 (Or.inr (slot_ne (Or.inl (hw _ (List.mem_of_getElem? (i := 105) rfl))) (Or.inl (hw _ (List.mem_of_getElem? (i := 101) rfl))) (by decide) (t := (.object "java/util/TreeMap$Entry")) (t' := (.object "java/lang/Object")) (by decide) (by decide)))
  replace F_right_a := F_right_a.other W3 (Or.inr (slot_ne (Or.inl (hw _ (List.mem_of_getElem? (i := 179) rfl))) (Or.inl (hw _ (List.mem_of_getElem? (i := 101) rfl))) (by decide) (t := (.object "java/util/TreeMap$Entry")) (t' := (.object "java/lang/Object")) (by decide) (by decide)))
  replace E1 := E1.wr W3
  replace O := O.wr W3 g_a
  replace Kp := Kp.wr W3 (Or.inl (List.mem_of_getElem? (i := 0) rfl))
  replace N0 := Fr.snoc X3 N0 g_a
  refine Out.via (g' := (mkF m 14 #[.val (.ref a), .val (.ref d), .val w, .val .null] [])) st3 ?_
  refine Out.via (g' := (mkF m 15 #[.val (.ref a), .val (.ref d), .val w, .val .null] [(.ref a)])) (fun _ k => XS.aloadN X3.here hx rfl (hb hby own_d11_14) rfl rfl k) ?_
  refine Out.via (g' := (mkF m 16 #[.val (.ref a), .val (.ref d), .val w, .val .null] [w, (.ref a)])) (fun _ k => XS.aloadN X3.here hx rfl (hb hby own_d11_15) rfl rw_ k) ?_
  obtain ⟨T4, h4, X4, e4, W4, st4⟩ := putF X3 hx hZ hown (host := "") (Or.inl (hw _ (List.mem_of_getElem? (i := 102) rfl))) Via.refl e3 F_value_a E1 (Or.inl (hw _ (List.mem_of_getElem? (i := 103) rfl))) (hw _ (List.mem_of_getElem? (i := 91) rfl)) (ty := (.object "java/lang/Object")) (by decide) (own_narR rw_) (own_fitR rw_) (g := (mkF m 16 #[.val (.ref a), .val (.ref d), .val w, .val .null] [w, (.ref a)])) rfl rfl (hb hby own_d11_16)
  replace F_value_a := F_value_a.same W4
  replace F_color_a := F_color_a.other W4 (Or.inr (slot_ne (Or.inl (hw _ (List.mem_of_getElem? (i := 99) rfl))) (Or.inl (hw _ (List.mem_of_getElem? (i := 103) rfl))) (by decide) (t := .boolean) (t' := (.object "java/lang/Object")) (by decide) (by decide)))
  replace F_key_a := F_key_a.other W4 (Or.inr (slot_ne (Or.inl (hw _ (List.mem_of_getElem? (i := 101) rfl))) (Or.inl (hw _ (List.mem_of_getElem? (i := 103) rfl))) (by decide) (t := (.object "java/lang/Object")) (t' := (.object "java/lang/Object")) (by decide) (by decide)))
  replace F_parent_a := F_parent_a.other W4 (Or.inr (slot_ne (Or.inl (hw _ (List.mem_of_getElem? (i := 105) rfl))) (Or.inl (hw _ (List.mem_of_getElem? (i := 103) rfl))) (by decide) (t := (.object "java/util/TreeMap$Entry")) (t' := (.object "java/lang/Object")) (by decide) (by decide)))
  replace F_right_a := F_right_a.other W4 (Or.inr (slot_ne (Or.inl (hw _ (List.mem_of_getElem? (i := 179) rfl))) (Or.inl (hw _ (List.mem_of_getElem? (i := 103) rfl))) (by decide) (t := (.object "java/util/TreeMap$Entry")) (t' := (.object "java/lang/Object")) (by decide) (by decide)))
  replace E1 := E1.wr W4
  replace O := O.wr W4 g_a
  replace Kp := Kp.wr W4 (Or.inl (List.mem_of_getElem? (i := 0) rfl))
  replace N0 := Fr.snoc X4 N0 g_a
  refine Out.via (g' := (mkF m 19 #[.val (.ref a), .val (.ref d), .val w, .val .null] [])) st4 ?_
  refine Out.via (g' := (mkF m 20 #[.val (.ref a), .val (.ref d), .val w, .val .null] [(.ref a)])) (fun _ k => XS.aloadN X4.here hx rfl (hb hby own_d11_19) rfl rfl k) ?_
  refine Out.via (g' := (mkF m 21 #[.val (.ref a), .val (.ref d), .val w, .val .null] [.null, (.ref a)])) (fun _ k => XS.aloadN X4.here hx rfl (hb hby own_d11_20) rfl rfl k) ?_
  obtain ⟨T5, h5, X5, e5, W5, st5⟩ := putF X4 hx hZ hown (host := "") (Or.inl (hw _ (List.mem_of_getElem? (i := 104) rfl))) Via.refl e4 F_parent_a E1 (Or.inl (hw _ (List.mem_of_getElem? (i := 105) rfl))) (hw _ (List.mem_of_getElem? (i := 91) rfl)) (ty := (.object "java/util/TreeMap$Entry")) (by decide) rfl rfl (g := (mkF m 21 #[.val (.ref a), .val (.ref d), .val w, .val .null] [.null, (.ref a)])) rfl rfl (hb hby own_d11_21)
  replace F_parent_a := F_parent_a.same W5
  replace F_color_a := F_color_a.other W5 (Or.inr (slot_ne (Or.inl (hw _ (List.mem_of_getElem? (i := 99) rfl))) (Or.inl (hw _ (List.mem_of_getElem? (i := 105) rfl))) (by decide) (t := .boolean) (t' := (.object "java/util/TreeMap$Entry")) (by decide) (by decide)))
  replace F_key_a := F_key_a.other W5 (Or.inr (slot_ne (Or.inl (hw _ (List.mem_of_getElem? (i := 101) rfl))) (Or.inl (hw _ (List.mem_of_getElem? (i := 105) rfl))) (by decide) (t := (.object "java/lang/Object")) (t' := (.object "java/util/TreeMap$Entry")) (by decide) (by decide)))
  replace F_value_a := F_value_a.other W5 (Or.inr (slot_ne (Or.inl (hw _ (List.mem_of_getElem? (i := 103) rfl))) (Or.inl (hw _ (List.mem_of_getElem? (i := 105) rfl))) (by decide) (t := (.object "java/lang/Object")) (t' := (.object "java/util/TreeMap$Entry")) (by decide) (by decide)))
  replace F_right_a := F_right_a.other W5 (Or.inr (slot_ne (Or.inl (hw _ (List.mem_of_getElem? (i := 179) rfl))) (Or.inl (hw _ (List.mem_of_getElem? (i := 105) rfl))) (by decide) (t := (.object "java/util/TreeMap$Entry")) (t' := (.object "java/util/TreeMap$Entry")) (by decide) (by decide)))
  replace E1 := E1.wr W5
  replace O := O.wr W5 g_a
  replace Kp := Kp.wr W5 (Or.inl (List.mem_of_getElem? (i := 0) rfl))
  replace N0 := Fr.snoc X5 N0 g_a
  refine Out.via (g' := (mkF m 24 #[.val (.ref a), .val (.ref d), .val w, .val .null] [])) st5 ?_
  exact Out.endN X5 (fun _ => rfl) Bd.notSynchronized (by decide) (by decide) (by rw [e5]; exact ⟨rfl, N0, Kp, E1, F_right_a, F_value_a, F_key_a⟩) (fun fs hr => X5.returnOut hx Bd.returns (hb hby own_d11_24) hr)
/-- a TreeMap of one entry, whose value is w -/
def own_Nav (Z : State) (h : Heap) (a d : Addr) (w : Value) : Prop := Exa Z h a "java/util/TreeMap" ∧ ∃ r : Addr, Fld Z h a "java/util/TreeMap" "root" "Ljava/util/TreeMap$Entry;" (.ref r) ∧ Exa Z h r "java/util/TreeMap$Entry" ∧ Fld Z h r "java/util/TreeMap$Entry" "right" "Ljava/util/TreeMap$Entry;" .null ∧ Fld Z h r "java/util/TreeMap$Entry" "value" "Ljava/lang/Object;" w ∧ Fld Z h r "java/util/TreeMap$Entry" "key" "Ljava/lang/Object;" (.ref d)
theorem own_Nav.keep {Z : State} {h h' : Heap} {a d : Addr} {w : Value} {ws : List Addr} (F : own_Nav Z h a d w) (K : Keep h h' ws) (hn : ∀ x ∈ ws, h.size ≤ x) : own_Nav Z h' a d w := by
  obtain ⟨f1, r, f2, f3, f4, f5, f6⟩ := F
  have q : ∀ y, y < h.size → y ∉ ws := fun y hy hm => Nat.lt_irrefl _ (Nat.lt_of_lt_of_le hy (hn y hm))
  exact ⟨f1.keep K, r, f2.keep K (q _ f1.lt), f3.keep K, f4.keep K (q _ f3.lt), f5.keep K (q _ f3.lt), f6.keep K (q _ f3.lt)⟩
theorem own_Nav.ext {Z : State} {h h' : Heap} {a d : Addr} {w : Value} (F : own_Nav Z h a d w) (K : Ext h h') : own_Nav Z h' a d w := by
  obtain ⟨f1, r, f2, f3, f4, f5, f6⟩ := F
  exact ⟨f1.ext K, r, f2.ext K, f3.ext K, f4.ext K, f5.ext K, f6.ext K⟩
/-- what unmodifiableNavigableMap hands out: the map itself, or a view of it -/
def own_View (Z : State) (h : Heap) (b a : Addr) : Prop := b = a ∨ (Exa Z h b "java/util/Collections$UnmodifiableNavigableMap" ∧ Fld Z h b "java/util/Collections$UnmodifiableNavigableMap" "nm" "Ljava/util/NavigableMap;" (.ref a))
/-- a timeline of one value -/
def own_TL (Z : State) (h : Heap) (x d : Addr) (w : Value) : Prop := Exa Z h x "com/example/syndicate_ledger/syndicateledger/engine/Timeline" ∧ ∃ b a : Addr, Fld Z h x "com/example/syndicate_ledger/syndicateledger/engine/Timeline" "values" "Ljava/util/NavigableMap;" (.ref b) ∧ own_View Z h b a ∧ own_Nav Z h a d w
theorem own_TL.keep {Z : State} {h h' : Heap} {x d : Addr} {w : Value} (F : own_TL Z h x d w) (K : Keep h h' []) : own_TL Z h' x d w := by
  obtain ⟨f1, b, a, f2, f3, f4⟩ := F
  exact ⟨f1.keep K, b, a, f2.keep K nin0, f3.imp id fun f => ⟨f.1.keep K, f.2.keep K nin0⟩, f4.keep K (fun _ q => nomatch q)⟩
theorem own_d12_0 : decode jdk_2729_method_30_code 0 = .ok (.aload_n 0, 1) := by decide +kernel
theorem own_d12_1 : decode jdk_2729_method_30_code 1 = .ok (.aload_n 1, 1) := by decide +kernel
theorem own_d12_2 : decode jdk_2729_method_30_code 2 = .ok (.aload_n 1, 1) := by decide +kernel
theorem own_d12_3 : decode jdk_2729_method_30_code 3 = .ok (.invokevirtual 123, 3) := by decide +kernel
theorem own_pd12 : parseMethodDescriptor "(Ljava/lang/Object;Ljava/lang/Object;)I" = some ⟨[(.object "java/lang/Object"), (.object "java/lang/Object")], some .int⟩ := by decide +kernel
theorem own_d12_6 : decode jdk_2729_method_30_code 6 = .ok (.pop, 1) := by decide +kernel
theorem own_d12_7 : decode jdk_2729_method_30_code 7 = .ok (.aload_n 0, 1) := by decide +kernel
theorem own_d12_8 : decode jdk_2729_method_30_code 8 = .ok (.new 59, 3) := by decide +kernel
theorem own_d12_11 : decode jdk_2729_method_30_code 11 = .ok (.dup, 1) := by decide +kernel
theorem own_d12_12 : decode jdk_2729_method_30_code 12 = .ok (.aload_n 1, 1) := by decide +kernel
theorem own_d12_13 : decode jdk_2729_method_30_code 13 = .ok (.aload_n 2, 1) := by decide +kernel
theorem own_d12_14 : decode jdk_2729_method_30_code 14 = .ok (.aconst_null, 1) := by decide +kernel
theorem own_d12_15 : decode jdk_2729_method_30_code 15 = .ok (.invokespecial 167, 3) := by decide +kernel
theorem own_pd13 : parseMethodDescriptor "(Ljava/lang/Object;Ljava/lang/Object;Ljava/util/TreeMap$Entry;)V" = some ⟨[(.object "java/lang/Object"), (.object "java/lang/Object"), (.object "java/util/TreeMap$Entry")], none⟩ := by decide +kernel
theorem own_d12_18 : decode jdk_2729_method_30_code 18 = .ok (.putfield 101, 3) := by decide +kernel
theorem own_d12_21 : decode jdk_2729_method_30_code 21 = .ok (.aload_n 0, 1) := by decide +kernel
theorem own_d12_22 : decode jdk_2729_method_30_code 22 = .ok (.iconst 1, 1) := by decide +kernel
theorem own_d12_23 : decode jdk_2729_method_30_code 23 = .ok (.putfield 7, 3) := by decide +kernel
theorem own_d12_26 : decode jdk_2729_method_30_code 26 = .ok (.aload_n 0, 1) := by decide +kernel
theorem own_d12_27 : decode jdk_2729_method_30_code 27 = .ok (.dup, 1) := by decide +kernel
theorem own_d12_28 : decode jdk_2729_method_30_code 28 = .ok (.getfield 13, 3) := by decide +kernel
theorem own_d12_31 : decode jdk_2729_method_30_code 31 = .ok (.iconst 1, 1) := by decide +kernel
theorem own_d12_32 : decode jdk_2729_method_30_code 32 = .ok (.iadd, 1) := by decide +kernel
theorem own_d12_33 : decode jdk_2729_method_30_code 33 = .ok (.putfield 13, 3) := by decide +kernel
theorem own_d12_36 : decode jdk_2729_method_30_code 36 = .ok (.return_, 1) := by decide +kernel
set_option maxHeartbeats 4000000 in
theorem own_efAE (m : MethodId) (x0 : Addr) (x1 : Addr) (x2 : Value) (r2 : x2.isRef = true) : entryFrame m #[(.ref x0), (.ref x1), x2] 3 = mkF m 0 #[.val (.ref x0), .val (.ref x1), .val x2] [] := by 
  rcases ref_cases r2 with rfl | ⟨_, rfl⟩ <;>
  (first | (simp [entryFrame, mkF, argsToLocals, Value.category]; done) | rfl)
abbrev own_QAE (Z : State) (a d : Addr) (w : Value) (h0 : Heap) (n0 : Nat) : Option Value → Heap → List Loc → Prop := fun v h L => v = none ∧ Fr n0 L ∧ Keep h0 h [a] ∧ own_Nav Z h a d w
set_option maxRecDepth 65536 in
set_option maxHeartbeats 40000000 in
theorem own_rmAE (l : Launch) (Z : State) (a0 : Array Value) (hw : ∀ d ∈ tables_1, d.before a0 Z = true) (ws : List Jvm.Cond) (a d : Addr) (w : Value) (h0 : Heap) (n0 : Nat) (O : Old Z n0 h0) (rw_ : w.isRef = true) (g_a : n0 ≤ a) (E1 : Exa Z h0 a "java/util/TreeMap") (F_size_a : Fld Z h0 a "java/util/TreeMap" "size" "I" (.int (0 : Int32))) (F_modCount_a : Fld Z h0 a "java/util/TreeMap" "modCount" "I" (.int (0 : Int32))) (F_comparator_a : Fld Z h0 a "java/util/TreeMap" "comparator" "Ljava/util/Comparator;" .null) (F_root_a : Fld Z h0 a "java/util/TreeMap" "root" "Ljava/util/TreeMap$Entry;" .null) (Ed : Exa Z Z.heap d "java/time/LocalDate") (D_year : Fld Z Z.heap d "java/time/LocalDate" "year" "I" (.int (-999999999 : Int32))) (D_month : Fld Z Z.heap d "java/time/LocalDate" "month" "S" (.int (1 : Int32))) (D_day : Fld Z Z.heap d "java/time/LocalDate" "day" "S" (.int (1 : Int32))) :
    MetFree l (⟨"java/util/TreeMap", "addEntryToEmptyMap", "(Ljava/lang/Object;Ljava/lang/Object;)V"⟩ : MethodName) (head1 (Jvm.Cond.code (⟨"java/util/TreeMap", "addEntryToEmptyMap", "(Ljava/lang/Object;Ljava/lang/Object;)V"⟩ : MethodName) jdk_2729_method_30_code 3 none :: ws) ({ frames := 4, cells := 1, slots := 6, locals := 54 } : Room)) (fun aa U => aa = #[(.ref a), (.ref d), w] ∧ Z.Warmed39 U.vm ∧ U.heap = h0) (fun _ _ _ _ _ => True) (fun _ U o U' => ∃ v L, o = .returned v ∧ (own_QAE Z a d w h0 n0) v U'.heap L ∧ FrameEnd U o U' L ({ frames := 4, cells := 1, slots := 6, locals := 54 } : Room).cells ({ frames := 4, cells := 1, slots := 6, locals := 54 } : Room).slots) := by
  refine MetFree.of_bodySF (plainFor_of_name own_pn9) hisR ?_
  intro p e s m args below meth c s₁ Bd hml0 hP hK
  obtain ⟨rfl, hZ, hh⟩ := hP
  have hx := Bd.exec
  have hby := Bd.bytes
  have hml : c.maxLocals = 3 := hml0
  have hown : s.vm.findClass "java/util/TreeMap" = some m.cls := findClass_of_methodNamed Bd.named
  have hnm := (name_of_methodNamed Bd.named Bd.method).1
  have X0 : Stand p l e ({ frames := 4, cells := 1, slots := 6, locals := 54 } : Room) s m #[(.ref a), (.ref d), w] below meth c s₁ [] 0 0 := Stand.of_body Bd
  have e0 : s₁.heap = h0 := by rw [← hh, Bd.state]; rfl
  have N0 := Fr.nil n0
  refine Out.start (Q := own_QAE Z a d w h0 n0) (own_efAE m a d w rw_) ?_
  have Kp := Keep.refl h0 [a]
  refine Out.via (g' := (mkF m 1 #[.val (.ref a), .val (.ref d), .val w] [(.ref a)])) (fun _ k => XS.aloadN X0.here hx rfl (hb hby own_d12_0) rfl rfl k) ?_
  refine Out.via (g' := (mkF m 2 #[.val (.ref a), .val (.ref d), .val w] [(.ref d), (.ref a)])) (fun _ k => XS.aloadN X0.here hx rfl (hb hby own_d12_1) rfl rfl k) ?_
  refine Out.via (g' := (mkF m 3 #[.val (.ref a), .val (.ref d), .val w] [(.ref d), (.ref d), (.ref a)])) (fun _ k => XS.aloadN X0.here hx rfl (hb hby own_d12_2) rfl rfl k) ?_
  obtain ⟨cq1, kq1, q1a, q1b, q1c⟩ := isOf hZ e0 E1
  obtain ⟨_, _, ⟨T1, L1, kc1, ks1⟩, -, X1, ⟨Lc1, hQ1, l1, y1, z1⟩, st1⟩ := X0.virtualBack hx (y := (⟨"java/util/TreeMap", "compare", "(Ljava/lang/Object;Ljava/lang/Object;)I"⟩ : MethodName)) (z := (⟨"java/util/TreeMap", "compare", "(Ljava/lang/Object;Ljava/lang/Object;)I"⟩ : MethodName)) hown (mvT hZ (hw _ (List.mem_of_getElem? (i := 55) rfl))) (mvT hZ (hw _ (List.mem_of_getElem? (i := 56) rfl))) (notFace_of_selects (args := #[]) (mvT hZ (hw _ (List.mem_of_getElem? (i := 58) rfl)))) (mvT hZ (hw _ (List.mem_of_getElem? (i := 58) rfl))) (mvT hZ (hw _ (List.mem_of_getElem? (i := 57) rfl))) (by decide) (backOf (W := 0) (own_rmCM l Z a0 hw [] a d h0 n0 O F_comparator_a Ed D_year D_month D_day) hZ (hw _ (List.mem_of_getElem? (i := 59) rfl)) (hw _ (List.mem_of_getElem? (i := 13) rfl)) (by decide) (by decide)) q1a q1c (g := (mkF m 3 #[.val (.ref a), .val (.ref d), .val w] [(.ref d), (.ref d), (.ref a)])) rfl (by rw [hml]; rfl) (Steps.refl _) (argsL := [(.ref d), (.ref d)]) (rest := []) (lenOf own_pd12 rfl) rfl (by show 2 * 0 + _ ≤ _; exact Nat.le_of_eq rfl) (hb hby own_d12_3) (fun _ _ => ⟨rfl, e0, (by decide : 0 + 0 ≤ _), (by decide : 0 + 0 ≤ _)⟩)
  dsimp only [Pt.U, Pt.locs, Pt.cells, Pt.slots] at X1 l1 y1 z1 st1 hQ1
  subst l1 y1 z1
  obtain ⟨⟨z1, rfl⟩, Nq1, eq1⟩ := hQ1
  replace N0 := Fr.app N0 Nq1
  refine Out.to (g' := (mkF m 6 #[.val (.ref a), .val (.ref d), .val w] [(.int z1)])) st1 ?_
  refine Out.via (g' := (mkF m 7 #[.val (.ref a), .val (.ref d), .val w] [])) (fun _ k => XS.pop X1.here hx rfl (hb hby own_d12_6) rfl rfl k) ?_
  refine Out.via (g' := (mkF m 8 #[.val (.ref a), .val (.ref d), .val w] [(.ref a)])) (fun _ k => XS.aloadN X1.here hx rfl (hb hby own_d12_7) rfl rfl k) ?_
  obtain ⟨T2, h2, X2, e2, E2, A2, D2, -, st2⟩ := newO X1 hx hZ hown (hw _ (List.mem_of_getElem? (i := 90) rfl)) (hw _ (List.mem_of_getElem? (i := 91) rfl)) (hw _ (List.mem_of_getElem? (i := 92) rfl)) eq1 (g := (mkF m 8 #[.val (.ref a), .val (.ref d), .val w] [(.ref a)])) rfl (hb hby own_d12_8) (by decide) (by decide)
  obtain ⟨r, gq2⟩ : ∃ z, z = h0.size := ⟨_, rfl⟩
  rw [← gq2] at A2 D2 st2
  have ne_a_r : a ≠ r := Nat.ne_of_lt (Nat.lt_of_lt_of_le E1.lt (Nat.le_of_eq gq2.symm))
  have g_r : n0 ≤ r := Nat.le_trans (own_z0 O) (Nat.le_of_eq gq2.symm)
  have sz_r : h0.size ≤ r := Nat.le_trans Kp.1 (Nat.le_of_eq gq2.symm)
  replace F_size_a := F_size_a.ext E2
  replace F_modCount_a := F_modCount_a.ext E2
  replace F_comparator_a := F_comparator_a.ext E2
  replace F_root_a := F_root_a.ext E2
  replace E1 := E1.ext E2
  replace O := O.ext E2
  replace Kp := Kp.ext E2
  have F_color_r : Fld Z h2 r "java/util/TreeMap$Entry" "color" "Z" (.int (0 : Int32)) := D2 (Or.inl (hw _ (List.mem_of_getElem? (i := 99) rfl))) (ty := .boolean) (by decide)
  have F_key_r : Fld Z h2 r "java/util/TreeMap$Entry" "key" "Ljava/lang/Object;" .null := D2 (Or.inl (hw _ (List.mem_of_getElem? (i := 101) rfl))) (ty := (.object "java/lang/Object")) (by decide)
  have F_value_r : Fld Z h2 r "java/util/TreeMap$Entry" "value" "Ljava/lang/Object;" .null := D2 (Or.inl (hw _ (List.mem_of_getElem? (i := 103) rfl))) (ty := (.object "java/lang/Object")) (by decide)
  have F_parent_r : Fld Z h2 r "java/util/TreeMap$Entry" "parent" "Ljava/util/TreeMap$Entry;" .null := D2 (Or.inl (hw _ (List.mem_of_getElem? (i := 105) rfl))) (ty := (.object "java/util/TreeMap$Entry")) (by decide)
  have F_right_r : Fld Z h2 r "java/util/TreeMap$Entry" "right" "Ljava/util/TreeMap$Entry;" .null := D2 (Or.inl (hw _ (List.mem_of_getElem? (i := 179) rfl))) (ty := (.object "java/util/TreeMap$Entry")) (by decide)
  refine Out.via (g' := (mkF m 11 #[.val (.ref a), .val (.ref d), .val w] [(.ref r), (.ref a)])) st2 ?_
  refine Out.via (g' := (mkF m 12 #[.val (.ref a), .val (.ref d), .val w] [(.ref r), (.ref r), (.ref a)])) (fun _ k => XS.dup X2.here hx rfl (hb hby own_d12_11) rfl rfl k) ?_
  refine Out.via (g' := (mkF m 13 #[.val (.ref a), .val (.ref d), .val w] [(.ref d), (.ref r), (.ref r), (.ref a)])) (fun _ k => XS.aloadN X2.here hx rfl (hb hby own_d12_12) rfl rfl k) ?_
  refine Out.via (g' := (mkF m 14 #[.val (.ref a), .val (.ref d), .val w] [w, (.ref d), (.ref r), (.ref r), (.ref a)])) (fun _ k => XS.aloadN X2.here hx rfl (hb hby own_d12_13) rfl rw_ k) ?_
  refine Out.via (g' := (mkF m 15 #[.val (.ref a), .val (.ref d), .val w] [.null, w, (.ref d), (.ref r), (.ref r), (.ref a)])) (fun _ k => XS.aconstNull X2.here hx rfl (hb hby own_d12_14) k) ?_
  obtain ⟨_, _, ⟨T3, L3, kc3, ks3⟩, -, X3, ⟨Lc3, hQ3, l3, y3, z3⟩, st3⟩ := X2.specialBack hx (y := (⟨"java/util/TreeMap$Entry", "<init>", "(Ljava/lang/Object;Ljava/lang/Object;Ljava/util/TreeMap$Entry;)V"⟩ : MethodName)) rfl hown (mvT hZ (hw _ (List.mem_of_getElem? (i := 93) rfl))) (mvT hZ (hw _ (List.mem_of_getElem? (i := 94) rfl))) (mvT hZ (hw _ (List.mem_of_getElem? (i := 96) rfl))) (by decide) (backOf (W := 2) (own_rmEI l Z a0 hw [] r d w h2 n0 O rw_ g_r A2 F_color_r F_key_r F_value_r F_parent_r F_right_r) hZ (hw _ (List.mem_of_getElem? (i := 96) rfl)) (hw _ (List.mem_of_getElem? (i := 92) rfl)) (by decide) (by decide)) (g := (mkF m 15 #[.val (.ref a), .val (.ref d), .val w] [.null, w, (.ref d), (.ref r), (.ref r), (.ref a)])) rfl (by rw [hml]; rfl) (Steps.refl _) (a := r) (argsL := [(.ref d), w, .null]) (rest := [(.ref r), (.ref a)]) (lenOf own_pd13 rfl) rfl (by show 2 * 0 + _ ≤ _; exact Nat.le_of_eq rfl) (hb hby own_d12_15) (fun _ _ => ⟨rfl, e2, (by decide : 1 + 0 ≤ _), (by decide : 6 + 0 ≤ _)⟩)
  dsimp only [Pt.U, Pt.locs, Pt.cells, Pt.slots] at X3 l3 y3 z3 st3 hQ3
  subst l3 y3 z3
  obtain ⟨rfl, Nq3, Kq3, Er, Fr1, Fr2, Fr3⟩ := hQ3
  replace N0 := Fr.app N0 Nq3
  replace F_size_a := F_size_a.keep Kq3 (ninS ne_a_r nin0)
  replace F_modCount_a := F_modCount_a.keep Kq3 (ninS ne_a_r nin0)
  replace F_comparator_a := F_comparator_a.keep Kq3 (ninS ne_a_r nin0)
  replace F_root_a := F_root_a.keep Kq3 (ninS ne_a_r nin0)
  replace E1 := E1.keep Kq3
  replace A2 := A2.keep Kq3
  replace O := O.keep Kq3 (allS g_r all0)
  replace Kp := Kp.trans Kq3 (allS (Or.inr sz_r) all0)
  refine Out.to (g' := (mkF m 18 #[.val (.ref a), .val (.ref d), .val w] [(.ref r), (.ref a)])) st3 ?_
  obtain ⟨T4, h4, X4, e4, W4, st4⟩ := putF X3 hx hZ hown (host := "") (Or.inl (hw _ (List.mem_of_getElem? (i := 48) rfl))) Via.refl rfl F_root_a E1 (Or.inl (hw _ (List.mem_of_getElem? (i := 49) rfl))) (hw _ (List.mem_of_getElem? (i := 12) rfl)) (ty := (.object "java/util/TreeMap$Entry")) (by decide) rfl rfl (g := (mkF m 18 #[.val (.ref a), .val (.ref d), .val w] [(.ref r), (.ref a)])) rfl rfl (hb hby own_d12_18)
  replace F_root_a := F_root_a.same W4
  replace F_size_a := F_size_a.other W4 (Or.inr (slot_ne (Or.inl (hw _ (List.mem_of_getElem? (i := 27) rfl))) (Or.inl (hw _ (List.mem_of_getElem? (i := 49) rfl))) (by decide) (t := .int) (t' := (.object "java/util/TreeMap$Entry")) (by decide) (by decide)))
  replace F_modCount_a := F_modCount_a.other W4 (Or.inr (slot_ne (Or.inl (hw _ (List.mem_of_getElem? (i := 29) rfl))) (Or.inl (hw _ (List.mem_of_getElem? (i := 49) rfl))) (by decide) (t := .int) (t' := (.object "java/util/TreeMap$Entry")) (by decide) (by decide)))
  replace F_comparator_a := F_comparator_a.other W4 (Or.inr (slot_ne (Or.inr (hw _ (List.mem_of_getElem? (i := 31) rfl))) (Or.inl (hw _ (List.mem_of_getElem? (i := 49) rfl))) (by decide) (t := (.object "java/util/Comparator")) (t' := (.object "java/util/TreeMap$Entry")) (by decide) (by decide)))
  replace Fr1 := Fr1.other W4 (Or.inl (Ne.symm ne_a_r))
  replace Fr2 := Fr2.other W4 (Or.inl (Ne.symm ne_a_r))
  replace Fr3 := Fr3.other W4 (Or.inl (Ne.symm ne_a_r))
  replace E1 := E1.wr W4
  replace Er := Er.wr W4
  replace O := O.wr W4 g_a
  replace Kp := Kp.wr W4 (Or.inl (List.mem_of_getElem? (i := 0) rfl))
  replace N0 := Fr.snoc X4 N0 g_a
  refine Out.via (g' := (mkF m 21 #[.val (.ref a), .val (.ref d), .val w] [])) st4 ?_
  refine Out.via (g' := (mkF m 22 #[.val (.ref a), .val (.ref d), .val w] [(.ref a)])) (fun _ k => XS.aloadN X4.here hx rfl (hb hby own_d12_21) rfl rfl k) ?_
  refine Out.via (g' := (mkF m 23 #[.val (.ref a), .val (.ref d), .val w] [(.int (1 : Int32)), (.ref a)])) (fun _ k => XS.iconst X4.here hx rfl (hb hby own_d12_22) k) ?_
  obtain ⟨T5, h5, X5, e5, W5, st5⟩ := putF X4 hx hZ hown (host := "") (Or.inl (hw _ (List.mem_of_getElem? (i := 26) rfl))) Via.refl e4 F_size_a E1 (Or.inl (hw _ (List.mem_of_getElem? (i := 27) rfl))) (hw _ (List.mem_of_getElem? (i := 12) rfl)) (ty := .int) (by decide) rfl rfl (g := (mkF m 23 #[.val (.ref a), .val (.ref d), .val w] [(.int (1 : Int32)), (.ref a)])) rfl rfl (hb hby own_d12_23)
  replace F_size_a := F_size_a.same W5
  replace F_modCount_a := F_modCount_a.other W5 (Or.inr (slot_ne (Or.inl (hw _ (List.mem_of_getElem? (i := 29) rfl))) (Or.inl (hw _ (List.mem_of_getElem? (i := 27) rfl))) (by decide) (t := .int) (t' := .int) (by decide) (by decide)))
  replace F_comparator_a := F_comparator_a.other W5 (Or.inr (slot_ne (Or.inr (hw _ (List.mem_of_getElem? (i := 31) rfl))) (Or.inl (hw _ (List.mem_of_getElem? (i := 27) rfl))) (by decide) (t := (.object "java/util/Comparator")) (t' := .int) (by decide) (by decide)))
  replace F_root_a := F_root_a.other W5 (Or.inr (slot_ne (Or.inl (hw _ (List.mem_of_getElem? (i := 49) rfl))) (Or.inl (hw _ (List.mem_of_getElem? (i := 27) rfl))) (by decide) (t := (.object "java/util/TreeMap$Entry")) (t' := .int) (by decide) (by decide)))
  replace Fr1 := Fr1.other W5 (Or.inl (Ne.symm ne_a_r))
  replace Fr2 := Fr2.other W5 (Or.inl (Ne.symm ne_a_r))
  replace Fr3 := Fr3.other W5 (Or.inl (Ne.symm ne_a_r))
  replace E1 := E1.wr W5
  replace Er := Er.wr W5
  replace O := O.wr W5 g_a
  replace Kp := Kp.wr W5 (Or.inl (List.mem_of_getElem? (i := 0) rfl))
  replace N0 := Fr.snoc X5 N0 g_a
  refine Out.via (g' := (mkF m 26 #[.val (.ref a), .val (.ref d), .val w] [])) st5 ?_
  refine Out.via (g' := (mkF m 27 #[.val (.ref a), .val (.ref d), .val w] [(.ref a)])) (fun _ k => XS.aloadN X5.here hx rfl (hb hby own_d12_26) rfl rfl k) ?_
  refine Out.via (g' := (mkF m 28 #[.val (.ref a), .val (.ref d), .val w] [(.ref a), (.ref a)])) (fun _ k => XS.dup X5.here hx rfl (hb hby own_d12_27) rfl rfl k) ?_
  obtain ⟨T6, X6, e6, st6⟩ := getF X5 hx hZ hown (host := "") (Or.inl (hw _ (List.mem_of_getElem? (i := 28) rfl))) Via.refl e5 F_modCount_a (g := (mkF m 28 #[.val (.ref a), .val (.ref d), .val w] [(.ref a), (.ref a)])) rfl rfl (hb hby own_d12_28)
  refine Out.via (g' := (mkF m 31 #[.val (.ref a), .val (.ref d), .val w] [(.int (0 : Int32)), (.ref a)])) st6 ?_
  refine Out.via (g' := (mkF m 32 #[.val (.ref a), .val (.ref d), .val w] [(.int (1 : Int32)), (.int (0 : Int32)), (.ref a)])) (fun _ k => XS.iconst X6.here hx rfl (hb hby own_d12_31) k) ?_
  refine Out.via (g' := (mkF m 33 #[.val (.ref a), .val (.ref d), .val w] [(.int ((0 : Int32) + (1 : Int32))), (.ref a)])) (fun _ k => XS.iadd X6.here hx rfl (hb hby own_d12_32) rfl k) ?_
  obtain ⟨T7, h7, X7, e7, W7, st7⟩ := putF X6 hx hZ hown (host := "") (Or.inl (hw _ (List.mem_of_getElem? (i := 28) rfl))) Via.refl e6 F_modCount_a E1 (Or.inl (hw _ (List.mem_of_getElem? (i := 29) rfl))) (hw _ (List.mem_of_getElem? (i := 12) rfl)) (ty := .int) (by decide) rfl rfl (g := (mkF m 33 #[.val (.ref a), .val (.ref d), .val w] [(.int ((0 : Int32) + (1 : Int32))), (.ref a)])) rfl rfl (hb hby own_d12_33)
  replace F_modCount_a := F_modCount_a.same W7
  replace F_size_a := F_size_a.other W7 (Or.inr (slot_ne (Or.inl (hw _ (List.mem_of_getElem? (i := 27) rfl))) (Or.inl (hw _ (List.mem_of_getElem? (i := 29) rfl))) (by decide) (t := .int) (t' := .int) (by decide) (by decide)))
  replace F_comparator_a := F_comparator_a.other W7 (Or.inr (slot_ne (Or.inr (hw _ (List.mem_of_getElem? (i := 31) rfl))) (Or.inl (hw _ (List.mem_of_getElem? (i := 29) rfl))) (by decide) (t := (.object "java/util/Comparator")) (t' := .int) (by decide) (by decide)))
  replace F_root_a := F_root_a.other W7 (Or.inr (slot_ne (Or.inl (hw _ (List.mem_of_getElem? (i := 49) rfl))) (Or.inl (hw _ (List.mem_of_getElem? (i := 29) rfl))) (by decide) (t := (.object "java/util/TreeMap$Entry")) (t' := .int) (by decide) (by decide)))
  replace Fr1 := Fr1.other W7 (Or.inl (Ne.symm ne_a_r))
  replace Fr2 := Fr2.other W7 (Or.inl (Ne.symm ne_a_r))
  replace Fr3 := Fr3.other W7 (Or.inl (Ne.symm ne_a_r))
  replace E1 := E1.wr W7
  replace Er := Er.wr W7
  replace O := O.wr W7 g_a
  replace Kp := Kp.wr W7 (Or.inl (List.mem_of_getElem? (i := 0) rfl))
  replace N0 := Fr.snoc X7 N0 g_a
  refine Out.via (g' := (mkF m 36 #[.val (.ref a), .val (.ref d), .val w] [])) st7 ?_
  exact Out.endN X7 (fun _ => rfl) Bd.notSynchronized (by decide) (by decide) (by rw [e7]; exact ⟨rfl, N0, Kp, E1, r, F_root_a, Er, Fr1, Fr2, Fr3⟩) (fun fs hr => X7.returnOut hx Bd.returns (hb hby own_d12_36) hr)
theorem own_d13_0 : decode jdk_2729_method_31_code 0 = .ok (.aload_n 0, 1) := by decide +kernel
theorem own_d13_1 : decode jdk_2729_method_31_code 1 = .ok (.getfield 101, 3) := by decide +kernel
theorem own_d13_4 : decode jdk_2729_method_31_code 4 = .ok (.astore 4, 2) := by decide +kernel
theorem own_d13_6 : decode jdk_2729_method_31_code 6 = .ok (.aload 4, 2) := by decide +kernel
theorem own_d13_8 : decode jdk_2729_method_31_code 8 = .ok (.ifnonnull 11, 3) := by decide +kernel
theorem own_d13_11 : decode jdk_2729_method_31_code 11 = .ok (.aload_n 0, 1) := by decide +kernel
theorem own_d13_12 : decode jdk_2729_method_31_code 12 = .ok (.aload_n 1, 1) := by decide +kernel
theorem own_d13_13 : decode jdk_2729_method_31_code 13 = .ok (.aload_n 2, 1) := by decide +kernel
theorem own_d13_14 : decode jdk_2729_method_31_code 14 = .ok (.invokevirtual 135, 3) := by decide +kernel
theorem own_pd14 : parseMethodDescriptor "(Ljava/lang/Object;Ljava/lang/Object;)V" = some ⟨[(.object "java/lang/Object"), (.object "java/lang/Object")], none⟩ := by decide +kernel
theorem own_d13_17 : decode jdk_2729_method_31_code 17 = .ok (.aconst_null, 1) := by decide +kernel
theorem own_d13_18 : decode jdk_2729_method_31_code 18 = .ok (.areturn, 1) := by decide +kernel
set_option maxHeartbeats 4000000 in
theorem own_efP3 (m : MethodId) (x0 : Addr) (x1 : Addr) (x2 : Value) (x3 : Int32) (r2 : x2.isRef = true) : entryFrame m #[(.ref x0), (.ref x1), x2, (.int x3)] 10 = mkF m 0 #[.val (.ref x0), .val (.ref x1), .val x2, .val (.int x3), .unset, .unset, .unset, .unset, .unset, .unset] [] := by 
  rcases ref_cases r2 with rfl | ⟨_, rfl⟩ <;>
  (first | (simp [entryFrame, mkF, argsToLocals, Value.category]; done) | rfl)
abbrev own_QP3 (Z : State) (a d : Addr) (w : Value) (h0 : Heap) (n0 : Nat) : Option Value → Heap → List Loc → Prop := fun v h L => v = some .null ∧ Fr n0 L ∧ Keep h0 h [a] ∧ own_Nav Z h a d w
set_option maxRecDepth 65536 in
set_option maxHeartbeats 40000000 in
theorem own_rmP3 (l : Launch) (Z : State) (a0 : Array Value) (hw : ∀ d ∈ tables_1, d.before a0 Z = true) (ws : List Jvm.Cond) (a d : Addr) (w : Value) (h0 : Heap) (n0 : Nat) (O : Old Z n0 h0) (rw_ : w.isRef = true) (g_a : n0 ≤ a) (E1 : Exa Z h0 a "java/util/TreeMap") (F_size_a : Fld Z h0 a "java/util/TreeMap" "size" "I" (.int (0 : Int32))) (F_modCount_a : Fld Z h0 a "java/util/TreeMap" "modCount" "I" (.int (0 : Int32))) (F_comparator_a : Fld Z h0 a "java/util/TreeMap" "comparator" "Ljava/util/Comparator;" .null) (F_root_a : Fld Z h0 a "java/util/TreeMap" "root" "Ljava/util/TreeMap$Entry;" .null) (Ed : Exa Z Z.heap d "java/time/LocalDate") (D_year : Fld Z Z.heap d "java/time/LocalDate" "year" "I" (.int (-999999999 : Int32))) (D_month : Fld Z Z.heap d "java/time/LocalDate" "month" "S" (.int (1 : Int32))) (D_day : Fld Z Z.heap d "java/time/LocalDate" "day" "S" (.int (1 : Int32))) :
    MetFree l (⟨"java/util/TreeMap", "put", "(Ljava/lang/Object;Ljava/lang/Object;Z)Ljava/lang/Object;"⟩ : MethodName) (head1 (Jvm.Cond.code (⟨"java/util/TreeMap", "put", "(Ljava/lang/Object;Ljava/lang/Object;Z)Ljava/lang/Object;"⟩ : MethodName) jdk_2729_method_31_code 10 (some (.object "java/lang/Object")) :: ws) ({ frames := 5, cells := 1, slots := 6, locals := 68 } : Room)) (fun aa U => aa = #[(.ref a), (.ref d), w, (.int (1 : Int32))] ∧ Z.Warmed39 U.vm ∧ U.heap = h0) (fun _ _ _ _ _ => True) (fun _ U o U' => ∃ v L, o = .returned v ∧ (own_QP3 Z a d w h0 n0) v U'.heap L ∧ FrameEnd U o U' L ({ frames := 5, cells := 1, slots := 6, locals := 68 } : Room).cells ({ frames := 5, cells := 1, slots := 6, locals := 68 } : Room).slots) := by
  refine MetFree.of_bodySF (plainFor_of_name own_pn9) hisR ?_
  intro p e s m args below meth c s₁ Bd hml0 hP hK
  obtain ⟨rfl, hZ, hh⟩ := hP
  have hx := Bd.exec
  have hby := Bd.bytes
  have hml : c.maxLocals = 10 := hml0
  have hown : s.vm.findClass "java/util/TreeMap" = some m.cls := findClass_of_methodNamed Bd.named
  have hnm := (name_of_methodNamed Bd.named Bd.method).1
  have X0 : Stand p l e ({ frames := 5, cells := 1, slots := 6, locals := 68 } : Room) s m #[(.ref a), (.ref d), w, (.int (1 : Int32))] below meth c s₁ [] 0 0 := Stand.of_body Bd
  have e0 : s₁.heap = h0 := by rw [← hh, Bd.state]; rfl
  have N0 := Fr.nil n0
  refine Out.start (Q := own_QP3 Z a d w h0 n0) (own_efP3 m a d w (1 : Int32) rw_) ?_
  have Kp := Keep.refl h0 [a]
  refine Out.via (g' := (mkF m 1 #[.val (.ref a), .val (.ref d), .val w, .val (.int (1 : Int32)), .unset, .unset, .unset, .unset, .unset, .unset] [(.ref a)])) (fun _ k => XS.aloadN X0.here hx rfl (hb hby own_d13_0) rfl rfl k) ?_
  obtain ⟨T1, X1, e1, st1⟩ := getF X0 hx hZ hown (host := "") (Or.inl (hw _ (List.mem_of_getElem? (i := 48) rfl))) Via.refl e0 F_root_a (g := (mkF m 1 #[.val (.ref a), .val (.ref d), .val w, .val (.int (1 : Int32)), .unset, .unset, .unset, .unset, .unset, .unset] [(.ref a)])) rfl rfl (hb hby own_d13_1)
  refine Out.via (g' := (mkF m 4 #[.val (.ref a), .val (.ref d), .val w, .val (.int (1 : Int32)), .unset, .unset, .unset, .unset, .unset, .unset] [.null])) st1 ?_
  refine Out.via (g' := (mkF m 6 #[.val (.ref a), .val (.ref d), .val w, .val (.int (1 : Int32)), .val .null, .unset, .unset, .unset, .unset, .unset] [])) (fun _ k => XS.astore X1.here hx rfl (hb hby own_d13_4) rfl rfl (l' := #[.val (.ref a), .val (.ref d), .val w, .val (.int (1 : Int32)), .val .null, .unset, .unset, .unset, .unset, .unset]) rfl k) ?_
  refine Out.via (g' := (mkF m 8 #[.val (.ref a), .val (.ref d), .val w, .val (.int (1 : Int32)), .val .null, .unset, .unset, .unset, .unset, .unset] [.null])) (fun _ k => XS.aload X1.here hx rfl (hb hby own_d13_6) rfl rfl k) ?_
  refine Out.via (g' := (mkF m 11 #[.val (.ref a), .val (.ref d), .val w, .val (.int (1 : Int32)), .val .null, .unset, .unset, .unset, .unset, .unset] [])) (fun _ k => XS.ifnonnullNo X1.here hx rfl (hb hby own_d13_8) rfl k) ?_
  refine Out.via (g' := (mkF m 12 #[.val (.ref a), .val (.ref d), .val w, .val (.int (1 : Int32)), .val .null, .unset, .unset, .unset, .unset, .unset] [(.ref a)])) (fun _ k => XS.aloadN X1.here hx rfl (hb hby own_d13_11) rfl rfl k) ?_
  refine Out.via (g' := (mkF m 13 #[.val (.ref a), .val (.ref d), .val w, .val (.int (1 : Int32)), .val .null, .unset, .unset, .unset, .unset, .unset] [(.ref d), (.ref a)])) (fun _ k => XS.aloadN X1.here hx rfl (hb hby own_d13_12) rfl rfl k) ?_
  refine Out.via (g' := (mkF m 14 #[.val (.ref a), .val (.ref d), .val w, .val (.int (1 : Int32)), .val .null, .unset, .unset, .unset, .unset, .unset] [w, (.ref d), (.ref a)])) (fun _ k => XS.aloadN X1.here hx rfl (hb hby own_d13_13) rfl rw_ k) ?_
  obtain ⟨cq2, q2a, q2b⟩ := Exa.cell E1
  obtain ⟨_, _, ⟨T2, L2, kc2, ks2⟩, -, X2, ⟨Lc2, hQ2, l2, y2, z2⟩, st2⟩ := X1.privateBack hx (y := (⟨"java/util/TreeMap", "addEntryToEmptyMap", "(Ljava/lang/Object;Ljava/lang/Object;)V"⟩ : MethodName)) hown (mvT hZ (hw _ (List.mem_of_getElem? (i := 50) rfl))) (mvT hZ (hw _ (List.mem_of_getElem? (i := 51) rfl))) (mvT hZ (hw _ (List.mem_of_getElem? (i := 53) rfl))) (Cond.privateMethod_at (args := #[]) (mvP hZ (hw _ (List.mem_of_getElem? (i := 52) rfl)))) (mvT hZ (hw _ (List.mem_of_getElem? (i := 54) rfl))) (by decide) (backOf (W := 0) (own_rmAE l Z a0 hw [] a d w h0 n0 O rw_ g_a E1 F_size_a F_modCount_a F_comparator_a F_root_a Ed D_year D_month D_day) hZ (hw _ (List.mem_of_getElem? (i := 54) rfl)) (hw _ (List.mem_of_getElem? (i := 13) rfl)) (by decide) (by decide)) (g := (mkF m 14 #[.val (.ref a), .val (.ref d), .val w, .val (.int (1 : Int32)), .val .null, .unset, .unset, .unset, .unset, .unset] [w, (.ref d), (.ref a)])) rfl (by rw [hml]; rfl) (Steps.refl _) (a := a) (cell := cq2) (by rw [e1]; exact q2a) q2b (argsL := [(.ref d), w]) (rest := []) (lenOf own_pd14 rfl) rfl (by show 2 * 0 + _ ≤ _; exact Nat.le_of_eq rfl) (hb hby own_d13_14) (fun _ _ => ⟨rfl, e1, (by decide : 0 + 1 ≤ _), (by decide : 0 + 6 ≤ _)⟩)
  dsimp only [Pt.U, Pt.locs, Pt.cells, Pt.slots] at X2 l2 y2 z2 st2 hQ2
  subst l2 y2 z2
  obtain ⟨rfl, Nq2, Kq2, Nv⟩ := hQ2
  refine Out.to (g' := (mkF m 17 #[.val (.ref a), .val (.ref d), .val w, .val (.int (1 : Int32)), .val .null, .unset, .unset, .unset, .unset, .unset] [])) st2 ?_
  refine Out.via (g' := (mkF m 18 #[.val (.ref a), .val (.ref d), .val w, .val (.int (1 : Int32)), .val .null, .unset, .unset, .unset, .unset, .unset] [.null])) (fun _ k => XS.aconstNull X2.here hx rfl (hb hby own_d13_17) k) ?_
  exact Out.endN X2 (fun h => by rw [Bd.returns] at h; cases h) Bd.notSynchronized (by decide) (by decide) (⟨rfl, Fr.app N0 Nq2, Kq2, Nv⟩) (fun fs hr => own_retR X2 hx (t := (.object "java/lang/Object")) Bd.returns rfl rfl rfl (hb hby own_d13_18) hr)
theorem own_d14_0 : decode jdk_2729_method_21_code 0 = .ok (.aload_n 0, 1) := by decide +kernel
theorem own_d14_1 : decode jdk_2729_method_21_code 1 = .ok (.aload_n 1, 1) := by decide +kernel
theorem own_d14_2 : decode jdk_2729_method_21_code 2 = .ok (.aload_n 2, 1) := by decide +kernel
theorem own_d14_3 : decode jdk_2729_method_21_code 3 = .ok (.iconst 1, 1) := by decide +kernel
theorem own_d14_4 : decode jdk_2729_method_21_code 4 = .ok (.invokevirtual 127, 3) := by decide +kernel
theorem own_pd15 : parseMethodDescriptor "(Ljava/lang/Object;Ljava/lang/Object;Z)Ljava/lang/Object;" = some ⟨[(.object "java/lang/Object"), (.object "java/lang/Object"), .boolean], some (.object "java/lang/Object")⟩ := by decide +kernel
theorem own_d14_7 : decode jdk_2729_method_21_code 7 = .ok (.areturn, 1) := by decide +kernel
set_option maxHeartbeats 4000000 in
theorem own_efP2 (m : MethodId) (x0 : Addr) (x1 : Addr) (x2 : Value) (r2 : x2.isRef = true) : entryFrame m #[(.ref x0), (.ref x1), x2] 3 = mkF m 0 #[.val (.ref x0), .val (.ref x1), .val x2] [] := by 
  rcases ref_cases r2 with rfl | ⟨_, rfl⟩ <;>
  (first | (simp [entryFrame, mkF, argsToLocals, Value.category]; done) | rfl)
abbrev own_QP2 (Z : State) (a d : Addr) (w : Value) (h0 : Heap) (n0 : Nat) : Option Value → Heap → List Loc → Prop := fun v h L => v = some .null ∧ Fr n0 L ∧ Keep h0 h [a] ∧ own_Nav Z h a d w
set_option maxRecDepth 65536 in
set_option maxHeartbeats 40000000 in
theorem own_rmP2 (l : Launch) (Z : State) (a0 : Array Value) (hw : ∀ d ∈ tables_1, d.before a0 Z = true) (ws : List Jvm.Cond) (a d : Addr) (w : Value) (h0 : Heap) (n0 : Nat) (O : Old Z n0 h0) (rw_ : w.isRef = true) (g_a : n0 ≤ a) (E1 : Exa Z h0 a "java/util/TreeMap") (F_size_a : Fld Z h0 a "java/util/TreeMap" "size" "I" (.int (0 : Int32))) (F_modCount_a : Fld Z h0 a "java/util/TreeMap" "modCount" "I" (.int (0 : Int32))) (F_comparator_a : Fld Z h0 a "java/util/TreeMap" "comparator" "Ljava/util/Comparator;" .null) (F_root_a : Fld Z h0 a "java/util/TreeMap" "root" "Ljava/util/TreeMap$Entry;" .null) (Ed : Exa Z Z.heap d "java/time/LocalDate") (D_year : Fld Z Z.heap d "java/time/LocalDate" "year" "I" (.int (-999999999 : Int32))) (D_month : Fld Z Z.heap d "java/time/LocalDate" "month" "S" (.int (1 : Int32))) (D_day : Fld Z Z.heap d "java/time/LocalDate" "day" "S" (.int (1 : Int32))) :
    MetFree l (⟨"java/util/TreeMap", "put", "(Ljava/lang/Object;Ljava/lang/Object;)Ljava/lang/Object;"⟩ : MethodName) (head1 (Jvm.Cond.code (⟨"java/util/TreeMap", "put", "(Ljava/lang/Object;Ljava/lang/Object;)Ljava/lang/Object;"⟩ : MethodName) jdk_2729_method_21_code 3 (some (.object "java/lang/Object")) :: ws) ({ frames := 6, cells := 1, slots := 6, locals := 89 } : Room)) (fun aa U => aa = #[(.ref a), (.ref d), w] ∧ Z.Warmed39 U.vm ∧ U.heap = h0) (fun _ _ _ _ _ => True) (fun _ U o U' => ∃ v L, o = .returned v ∧ (own_QP2 Z a d w h0 n0) v U'.heap L ∧ FrameEnd U o U' L ({ frames := 6, cells := 1, slots := 6, locals := 89 } : Room).cells ({ frames := 6, cells := 1, slots := 6, locals := 89 } : Room).slots) := by
  refine MetFree.of_bodySF (plainFor_of_name own_pn9) hisR ?_
  intro p e s m args below meth c s₁ Bd hml0 hP hK
  obtain ⟨rfl, hZ, hh⟩ := hP
  have hx := Bd.exec
  have hby := Bd.bytes
  have hml : c.maxLocals = 3 := hml0
  have hown : s.vm.findClass "java/util/TreeMap" = some m.cls := findClass_of_methodNamed Bd.named
  have hnm := (name_of_methodNamed Bd.named Bd.method).1
  have X0 : Stand p l e ({ frames := 6, cells := 1, slots := 6, locals := 89 } : Room) s m #[(.ref a), (.ref d), w] below meth c s₁ [] 0 0 := Stand.of_body Bd
  have e0 : s₁.heap = h0 := by rw [← hh, Bd.state]; rfl
  have N0 := Fr.nil n0
  refine Out.start (Q := own_QP2 Z a d w h0 n0) (own_efP2 m a d w rw_) ?_
  have Kp := Keep.refl h0 [a]
  refine Out.via (g' := (mkF m 1 #[.val (.ref a), .val (.ref d), .val w] [(.ref a)])) (fun _ k => XS.aloadN X0.here hx rfl (hb hby own_d14_0) rfl rfl k) ?_
  refine Out.via (g' := (mkF m 2 #[.val (.ref a), .val (.ref d), .val w] [(.ref d), (.ref a)])) (fun _ k => XS.aloadN X0.here hx rfl (hb hby own_d14_1) rfl rfl k) ?_
  refine Out.via (g' := (mkF m 3 #[.val (.ref a), .val (.ref d), .val w] [w, (.ref d), (.ref a)])) (fun _ k => XS.aloadN X0.here hx rfl (hb hby own_d14_2) rfl rw_ k) ?_
  refine Out.via (g' := (mkF m 4 #[.val (.ref a), .val (.ref d), .val w] [(.int (1 : Int32)), w, (.ref d), (.ref a)])) (fun _ k => XS.iconst X0.here hx rfl (hb hby own_d14_3) k) ?_
  obtain ⟨cq1, q1a, q1b⟩ := Exa.cell E1
  obtain ⟨_, _, ⟨T1, L1, kc1, ks1⟩, -, X1, ⟨Lc1, hQ1, l1, y1, z1⟩, st1⟩ := X0.privateBack hx (y := (⟨"java/util/TreeMap", "put", "(Ljava/lang/Object;Ljava/lang/Object;Z)Ljava/lang/Object;"⟩ : MethodName)) hown (mvT hZ (hw _ (List.mem_of_getElem? (i := 43) rfl))) (mvT hZ (hw _ (List.mem_of_getElem? (i := 44) rfl))) (mvT hZ (hw _ (List.mem_of_getElem? (i := 46) rfl))) (Cond.privateMethod_at (args := #[]) (mvP hZ (hw _ (List.mem_of_getElem? (i := 45) rfl)))) (mvT hZ (hw _ (List.mem_of_getElem? (i := 47) rfl))) (by decide) (backOf (W := 0) (own_rmP3 l Z a0 hw [] a d w h0 n0 O rw_ g_a E1 F_size_a F_modCount_a F_comparator_a F_root_a Ed D_year D_month D_day) hZ (hw _ (List.mem_of_getElem? (i := 47) rfl)) (hw _ (List.mem_of_getElem? (i := 13) rfl)) (by decide) (by decide)) (g := (mkF m 4 #[.val (.ref a), .val (.ref d), .val w] [(.int (1 : Int32)), w, (.ref d), (.ref a)])) rfl (by rw [hml]; rfl) (Steps.refl _) (a := a) (cell := cq1) (by rw [e0]; exact q1a) q1b (argsL := [(.ref d), w, (.int (1 : Int32))]) (rest := []) (lenOf own_pd15 rfl) rfl (by show 2 * 0 + _ ≤ _; exact Nat.le_of_eq rfl) (hb hby own_d14_4) (fun _ _ => ⟨rfl, e0, (by decide : 0 + 1 ≤ _), (by decide : 0 + 6 ≤ _)⟩)
  dsimp only [Pt.U, Pt.locs, Pt.cells, Pt.slots] at X1 l1 y1 z1 st1 hQ1
  subst l1 y1 z1
  obtain ⟨rfl, Nq1, Kq1, Nv⟩ := hQ1
  refine Out.to (g' := (mkF m 7 #[.val (.ref a), .val (.ref d), .val w] [.null])) st1 ?_
  exact Out.endN X1 (fun h => by rw [Bd.returns] at h; cases h) Bd.notSynchronized (by decide) (by decide) (⟨rfl, Fr.app N0 Nq1, Kq1, Nv⟩) (fun fs hr => own_retR X1 hx (t := (.object "java/lang/Object")) Bd.returns rfl rfl rfl (hb hby own_d14_7) hr)
theorem own_pn16 : plainName "java/util/Collections$UnmodifiableMap" = true := by first | (simp [plainName, overriddenIn]; done) | decide +kernel
theorem own_d15_0 : decode jdk_2500_method_1_code 0 = .ok (.aload_n 0, 1) := by decide +kernel
theorem own_d15_1 : decode jdk_2500_method_1_code 1 = .ok (.invokespecial 1, 3) := by decide +kernel
theorem own_d15_4 : decode jdk_2500_method_1_code 4 = .ok (.aload_n 1, 1) := by decide +kernel
theorem own_d15_5 : decode jdk_2500_method_1_code 5 = .ok (.ifnonnull 11, 3) := by decide +kernel
theorem own_d15_16 : decode jdk_2500_method_1_code 16 = .ok (.aload_n 0, 1) := by decide +kernel
theorem own_d15_17 : decode jdk_2500_method_1_code 17 = .ok (.aload_n 1, 1) := by decide +kernel
theorem own_d15_18 : decode jdk_2500_method_1_code 18 = .ok (.putfield 10, 3) := by decide +kernel
theorem own_d15_21 : decode jdk_2500_method_1_code 21 = .ok (.return_, 1) := by decide +kernel
theorem own_efUM (m : MethodId) (x0 : Addr) (x1 : Addr) : entryFrame m #[(.ref x0), (.ref x1)] 2 = mkF m 0 #[.val (.ref x0), .val (.ref x1)] [] := by first | (simp [entryFrame, mkF, argsToLocals, Value.category]; done) | rfl
abbrev own_QUM (Z : State) (a b : Addr) (h0 : Heap) (n0 : Nat) : Option Value → Heap → List Loc → Prop := fun v h L => v = none ∧ Fr n0 L ∧ Keep h0 h [a] ∧ Exa Z h a "java/util/Collections$UnmodifiableNavigableMap" ∧ Fld Z h a "java/util/Collections$UnmodifiableMap" "m" "Ljava/util/Map;" (.ref b) ∧ Fld Z h a "java/util/Collections$UnmodifiableSortedMap" "sm" "Ljava/util/SortedMap;" .null ∧ Fld Z h a "java/util/Collections$UnmodifiableNavigableMap" "nm" "Ljava/util/NavigableMap;" .null
set_option maxRecDepth 65536 in
set_option maxHeartbeats 40000000 in
theorem own_rmUM (l : Launch) (Z : State) (a0 : Array Value) (hw : ∀ d ∈ tables_1, d.before a0 Z = true) (ws : List Jvm.Cond) (a b : Addr) (h0 : Heap) (n0 : Nat) (O : Old Z n0 h0) (g_a : n0 ≤ a) (E1 : Exa Z h0 a "java/util/Collections$UnmodifiableNavigableMap") (F_m_a : Fld Z h0 a "java/util/Collections$UnmodifiableMap" "m" "Ljava/util/Map;" .null) (F_sm_a : Fld Z h0 a "java/util/Collections$UnmodifiableSortedMap" "sm" "Ljava/util/SortedMap;" .null) (F_nm_a : Fld Z h0 a "java/util/Collections$UnmodifiableNavigableMap" "nm" "Ljava/util/NavigableMap;" .null) :
    MetFree l (⟨"java/util/Collections$UnmodifiableMap", "<init>", "(Ljava/util/Map;)V"⟩ : MethodName) (head1 (Jvm.Cond.code (⟨"java/util/Collections$UnmodifiableMap", "<init>", "(Ljava/util/Map;)V"⟩ : MethodName) jdk_2500_method_1_code 2 none :: ws) ({ frames := 1, cells := 0, slots := 0, locals := 12 } : Room)) (fun aa U => aa = #[(.ref a), (.ref b)] ∧ Z.Warmed39 U.vm ∧ U.heap = h0) (fun _ _ _ _ _ => True) (fun _ U o U' => ∃ v L, o = .returned v ∧ (own_QUM Z a b h0 n0) v U'.heap L ∧ FrameEnd U o U' L ({ frames := 1, cells := 0, slots := 0, locals := 12 } : Room).cells ({ frames := 1, cells := 0, slots := 0, locals := 12 } : Room).slots) := by
  refine MetFree.of_bodySF (plainFor_of_name own_pn16) hisR ?_
  intro p e s m args below meth c s₁ Bd hml0 hP hK
  obtain ⟨rfl, hZ, hh⟩ := hP
  have hx := Bd.exec
  have hby := Bd.bytes
  have hml : c.maxLocals = 2 := hml0
  have hown : s.vm.findClass "java/util/Collections$UnmodifiableMap" = some m.cls := findClass_of_methodNamed Bd.named
  have hnm := (name_of_methodNamed Bd.named Bd.method).1
  have X0 : Stand p l e ({ frames := 1, cells := 0, slots := 0, locals := 12 } : Room) s m #[(.ref a), (.ref b)] below meth c s₁ [] 0 0 := Stand.of_body Bd
  have e0 : s₁.heap = h0 := by rw [← hh, Bd.state]; rfl
  have N0 := Fr.nil n0
  refine Out.start (Q := own_QUM Z a b h0 n0) (own_efUM m a b ) ?_
  have Kp := Keep.refl h0 [a]
  refine Out.via (g' := (mkF m 1 #[.val (.ref a), .val (.ref b)] [(.ref a)])) (fun _ k => XS.aloadN X0.here hx rfl (hb hby own_d15_0) rfl rfl k) ?_
  obtain ⟨T1, X1, e1, st1⟩ := initO X0 hx hZ hown (hw _ (List.mem_of_getElem? (i := 144) rfl)) (hw _ (List.mem_of_getElem? (i := 24) rfl)) (hw _ (List.mem_of_getElem? (i := 25) rfl)) e0 (g := (mkF m 1 #[.val (.ref a), .val (.ref b)] [(.ref a)])) rfl (by rw [hml]; rfl) rfl (hb hby own_d15_1) (by decide) (W := 0) (by show 2 * 0 + _ ≤ _; exact Nat.le_of_eq rfl) (by decide)
  refine Out.via (g' := (mkF m 4 #[.val (.ref a), .val (.ref b)] [])) st1 ?_
  refine Out.via (g' := (mkF m 5 #[.val (.ref a), .val (.ref b)] [(.ref b)])) (fun _ k => XS.aloadN X1.here hx rfl (hb hby own_d15_4) rfl rfl k) ?_
  refine Out.via (g' := (mkF m 16 #[.val (.ref a), .val (.ref b)] [])) (fun _ k => XS.ifnonnullYes X1.here hx rfl (pc0 := 5) (pc' := 16) rfl (hb hby own_d15_5) rfl (by decide) (by decide) k) ?_
  refine Out.via (g' := (mkF m 17 #[.val (.ref a), .val (.ref b)] [(.ref a)])) (fun _ k => XS.aloadN X1.here hx rfl (hb hby own_d15_16) rfl rfl k) ?_
  refine Out.via (g' := (mkF m 18 #[.val (.ref a), .val (.ref b)] [(.ref b), (.ref a)])) (fun _ k => XS.aloadN X1.here hx rfl (hb hby own_d15_17) rfl rfl k) ?_
  obtain ⟨T2, h2, X2, e2, W2, st2⟩ := putF X1 hx hZ hown (host := "") (Or.inl (hw _ (List.mem_of_getElem? (i := 145) rfl))) Via.refl e1 F_m_a E1 (Or.inr ⟨(hw _ (List.mem_of_getElem? (i := 146) rfl)), rfl, hnm⟩) (hw _ (List.mem_of_getElem? (i := 127) rfl)) (ty := (.object "java/util/Map")) (by decide) rfl rfl (g := (mkF m 18 #[.val (.ref a), .val (.ref b)] [(.ref b), (.ref a)])) rfl rfl (hb hby own_d15_18)
  replace F_m_a := F_m_a.same W2
  replace F_sm_a := F_sm_a.other W2 (Or.inr (slot_ne (Or.inr (hw _ (List.mem_of_getElem? (i := 148) rfl))) (Or.inr (hw _ (List.mem_of_getElem? (i := 146) rfl))) (by decide) (t := (.object "java/util/SortedMap")) (t' := (.object "java/util/Map")) (by decide) (by decide)))
  replace F_nm_a := F_nm_a.other W2 (Or.inr (slot_ne (Or.inr (hw _ (List.mem_of_getElem? (i := 150) rfl))) (Or.inr (hw _ (List.mem_of_getElem? (i := 146) rfl))) (by decide) (t := (.object "java/util/NavigableMap")) (t' := (.object "java/util/Map")) (by decide) (by decide)))
  replace E1 := E1.wr W2
  replace O := O.wr W2 g_a
  replace Kp := Kp.wr W2 (Or.inl (List.mem_of_getElem? (i := 0) rfl))
  replace N0 := Fr.snoc X2 N0 g_a
  refine Out.via (g' := (mkF m 21 #[.val (.ref a), .val (.ref b)] [])) st2 ?_
  exact Out.endN X2 (fun _ => rfl) Bd.notSynchronized (by decide) (by decide) (by rw [e2]; exact ⟨rfl, N0, Kp, E1, F_m_a, F_sm_a, F_nm_a⟩) (fun fs hr => X2.returnOut hx Bd.returns (hb hby own_d15_21) hr)
theorem own_pn17 : plainName "java/util/Collections$UnmodifiableSortedMap" = true := by first | (simp [plainName, overriddenIn]; done) | decide +kernel
theorem own_d16_0 : decode jdk_2512_method_1_code 0 = .ok (.aload_n 0, 1) := by decide +kernel
theorem own_d16_1 : decode jdk_2512_method_1_code 1 = .ok (.aload_n 1, 1) := by decide +kernel
theorem own_d16_2 : decode jdk_2512_method_1_code 2 = .ok (.invokespecial 1, 3) := by decide +kernel
theorem own_pd18 : parseMethodDescriptor "(Ljava/util/Map;)V" = some ⟨[(.object "java/util/Map")], none⟩ := by decide +kernel
theorem own_d16_5 : decode jdk_2512_method_1_code 5 = .ok (.aload_n 0, 1) := by decide +kernel
theorem own_d16_6 : decode jdk_2512_method_1_code 6 = .ok (.aload_n 1, 1) := by decide +kernel
theorem own_d16_7 : decode jdk_2512_method_1_code 7 = .ok (.putfield 7, 3) := by decide +kernel
theorem own_d16_10 : decode jdk_2512_method_1_code 10 = .ok (.return_, 1) := by decide +kernel
theorem own_efUS (m : MethodId) (x0 : Addr) (x1 : Addr) : entryFrame m #[(.ref x0), (.ref x1)] 2 = mkF m 0 #[.val (.ref x0), .val (.ref x1)] [] := by first | (simp [entryFrame, mkF, argsToLocals, Value.category]; done) | rfl
abbrev own_QUS (Z : State) (a b : Addr) (h0 : Heap) (n0 : Nat) : Option Value → Heap → List Loc → Prop := fun v h L => v = none ∧ Fr n0 L ∧ Keep h0 h [a] ∧ Exa Z h a "java/util/Collections$UnmodifiableNavigableMap" ∧ Fld Z h a "java/util/Collections$UnmodifiableMap" "m" "Ljava/util/Map;" (.ref b) ∧ Fld Z h a "java/util/Collections$UnmodifiableSortedMap" "sm" "Ljava/util/SortedMap;" (.ref b) ∧ Fld Z h a "java/util/Collections$UnmodifiableNavigableMap" "nm" "Ljava/util/NavigableMap;" .null
set_option maxRecDepth 65536 in
set_option maxHeartbeats 40000000 in
theorem own_rmUS (l : Launch) (Z : State) (a0 : Array Value) (hw : ∀ d ∈ tables_1, d.before a0 Z = true) (ws : List Jvm.Cond) (a b : Addr) (h0 : Heap) (n0 : Nat) (O : Old Z n0 h0) (g_a : n0 ≤ a) (E1 : Exa Z h0 a "java/util/Collections$UnmodifiableNavigableMap") (F_m_a : Fld Z h0 a "java/util/Collections$UnmodifiableMap" "m" "Ljava/util/Map;" .null) (F_sm_a : Fld Z h0 a "java/util/Collections$UnmodifiableSortedMap" "sm" "Ljava/util/SortedMap;" .null) (F_nm_a : Fld Z h0 a "java/util/Collections$UnmodifiableNavigableMap" "nm" "Ljava/util/NavigableMap;" .null) :
    MetFree l (⟨"java/util/Collections$UnmodifiableSortedMap", "<init>", "(Ljava/util/SortedMap;)V"⟩ : MethodName) (head1 (Jvm.Cond.code (⟨"java/util/Collections$UnmodifiableSortedMap", "<init>", "(Ljava/util/SortedMap;)V"⟩ : MethodName) jdk_2512_method_1_code 2 none :: ws) ({ frames := 2, cells := 0, slots := 0, locals := 25 } : Room)) (fun aa U => aa = #[(.ref a), (.ref b)] ∧ Z.Warmed39 U.vm ∧ U.heap = h0) (fun _ _ _ _ _ => True) (fun _ U o U' => ∃ v L, o = .returned v ∧ (own_QUS Z a b h0 n0) v U'.heap L ∧ FrameEnd U o U' L ({ frames := 2, cells := 0, slots := 0, locals := 25 } : Room).cells ({ frames := 2, cells := 0, slots := 0, locals := 25 } : Room).slots) := by
  refine MetFree.of_bodySF (plainFor_of_name own_pn17) hisR ?_
  intro p e s m args below meth c s₁ Bd hml0 hP hK
  obtain ⟨rfl, hZ, hh⟩ := hP
  have hx := Bd.exec
  have hby := Bd.bytes
  have hml : c.maxLocals = 2 := hml0
  have hown : s.vm.findClass "java/util/Collections$UnmodifiableSortedMap" = some m.cls := findClass_of_methodNamed Bd.named
  have hnm := (name_of_methodNamed Bd.named Bd.method).1
  have X0 : Stand p l e ({ frames := 2, cells := 0, slots := 0, locals := 25 } : Room) s m #[(.ref a), (.ref b)] below meth c s₁ [] 0 0 := Stand.of_body Bd
  have e0 : s₁.heap = h0 := by rw [← hh, Bd.state]; rfl
  have N0 := Fr.nil n0
  refine Out.start (Q := own_QUS Z a b h0 n0) (own_efUS m a b ) ?_
  have Kp := Keep.refl h0 [a]
  refine Out.via (g' := (mkF m 1 #[.val (.ref a), .val (.ref b)] [(.ref a)])) (fun _ k => XS.aloadN X0.here hx rfl (hb hby own_d16_0) rfl rfl k) ?_
  refine Out.via (g' := (mkF m 2 #[.val (.ref a), .val (.ref b)] [(.ref b), (.ref a)])) (fun _ k => XS.aloadN X0.here hx rfl (hb hby own_d16_1) rfl rfl k) ?_
  obtain ⟨_, _, ⟨T1, L1, kc1, ks1⟩, -, X1, ⟨Lc1, hQ1, l1, y1, z1⟩, st1⟩ := X0.specialBack hx (y := (⟨"java/util/Collections$UnmodifiableMap", "<init>", "(Ljava/util/Map;)V"⟩ : MethodName)) rfl hown (mvT hZ (hw _ (List.mem_of_getElem? (i := 138) rfl))) (mvT hZ (hw _ (List.mem_of_getElem? (i := 139) rfl))) (mvT hZ (hw _ (List.mem_of_getElem? (i := 143) rfl))) (by decide) (backOf (W := 0) (own_rmUM l Z a0 hw [] a b h0 n0 O g_a E1 F_m_a F_sm_a F_nm_a) hZ (hw _ (List.mem_of_getElem? (i := 143) rfl)) (hw _ (List.mem_of_getElem? (i := 142) rfl)) (by decide) (by decide)) (g := (mkF m 2 #[.val (.ref a), .val (.ref b)] [(.ref b), (.ref a)])) rfl (by rw [hml]; rfl) (Steps.refl _) (a := a) (argsL := [(.ref b)]) (rest := []) (lenOf own_pd18 rfl) rfl (by show 2 * 0 + _ ≤ _; exact Nat.le_of_eq rfl) (hb hby own_d16_2) (fun _ _ => ⟨rfl, e0, (by decide : 0 + 0 ≤ _), (by decide : 0 + 0 ≤ _)⟩)
  dsimp only [Pt.U, Pt.locs, Pt.cells, Pt.slots] at X1 l1 y1 z1 st1 hQ1
  subst l1 y1 z1
  obtain ⟨rfl, Nq1, Kq1, E1q, Fq_m_a, Fq_sm_a, Fq_nm_a⟩ := hQ1
  replace N0 := Fr.app N0 Nq1
  replace E1 := E1.keep Kq1
  replace O := O.keep Kq1 (allS g_a all0)
  replace Kp := Kp.trans Kq1 (allS (Or.inl (List.mem_of_getElem? (i := 0) rfl)) all0)
  refine Out.to (g' := (mkF m 5 #[.val (.ref a), .val (.ref b)] [])) st1 ?_
  refine Out.via (g' := (mkF m 6 #[.val (.ref a), .val (.ref b)] [(.ref a)])) (fun _ k => XS.aloadN X1.here hx rfl (hb hby own_d16_5) rfl rfl k) ?_
  refine Out.via (g' := (mkF m 7 #[.val (.ref a), .val (.ref b)] [(.ref b), (.ref a)])) (fun _ k => XS.aloadN X1.here hx rfl (hb hby own_d16_6) rfl rfl k) ?_
  obtain ⟨T2, h2, X2, e2, W2, st2⟩ := putF X1 hx hZ hown (host := "") (Or.inl (hw _ (List.mem_of_getElem? (i := 147) rfl))) Via.refl rfl Fq_sm_a E1 (Or.inr ⟨(hw _ (List.mem_of_getElem? (i := 148) rfl)), rfl, hnm⟩) (hw _ (List.mem_of_getElem? (i := 127) rfl)) (ty := (.object "java/util/SortedMap")) (by decide) rfl rfl (g := (mkF m 7 #[.val (.ref a), .val (.ref b)] [(.ref b), (.ref a)])) rfl rfl (hb hby own_d16_7)
  replace Fq_sm_a := Fq_sm_a.same W2
  replace Fq_m_a := Fq_m_a.other W2 (Or.inr (slot_ne (Or.inr (hw _ (List.mem_of_getElem? (i := 146) rfl))) (Or.inr (hw _ (List.mem_of_getElem? (i := 148) rfl))) (by decide) (t := (.object "java/util/Map")) (t' := (.object "java/util/SortedMap")) (by decide) (by decide)))
  replace Fq_nm_a := Fq_nm_a.other W2 (Or.inr (slot_ne (Or.inr (hw _ (List.mem_of_getElem? (i := 150) rfl))) (Or.inr (hw _ (List.mem_of_getElem? (i := 148) rfl))) (by decide) (t := (.object "java/util/NavigableMap")) (t' := (.object "java/util/SortedMap")) (by decide) (by decide)))
  replace E1 := E1.wr W2
  replace O := O.wr W2 g_a
  replace Kp := Kp.wr W2 (Or.inl (List.mem_of_getElem? (i := 0) rfl))
  replace N0 := Fr.snoc X2 N0 g_a
  refine Out.via (g' := (mkF m 10 #[.val (.ref a), .val (.ref b)] [])) st2 ?_
  exact Out.endN X2 (fun _ => rfl) Bd.notSynchronized (by decide) (by decide) (by rw [e2]; exact ⟨rfl, N0, Kp, E1, Fq_m_a, Fq_sm_a, Fq_nm_a⟩) (fun fs hr => X2.returnOut hx Bd.returns (hb hby own_d16_10) hr)
theorem own_pn19 : plainName "java/util/Collections$UnmodifiableNavigableMap" = true := by first | (simp [plainName, overriddenIn]; done) | decide +kernel
theorem own_d17_0 : decode jdk_2505_method_1_code 0 = .ok (.aload_n 0, 1) := by decide +kernel
theorem own_d17_1 : decode jdk_2505_method_1_code 1 = .ok (.aload_n 1, 1) := by decide +kernel
theorem own_d17_2 : decode jdk_2505_method_1_code 2 = .ok (.invokespecial 1, 3) := by decide +kernel
theorem own_pd20 : parseMethodDescriptor "(Ljava/util/SortedMap;)V" = some ⟨[(.object "java/util/SortedMap")], none⟩ := by decide +kernel
theorem own_d17_5 : decode jdk_2505_method_1_code 5 = .ok (.aload_n 0, 1) := by decide +kernel
theorem own_d17_6 : decode jdk_2505_method_1_code 6 = .ok (.aload_n 1, 1) := by decide +kernel
theorem own_d17_7 : decode jdk_2505_method_1_code 7 = .ok (.putfield 7, 3) := by decide +kernel
theorem own_d17_10 : decode jdk_2505_method_1_code 10 = .ok (.return_, 1) := by decide +kernel
theorem own_efUN (m : MethodId) (x0 : Addr) (x1 : Addr) : entryFrame m #[(.ref x0), (.ref x1)] 2 = mkF m 0 #[.val (.ref x0), .val (.ref x1)] [] := by first | (simp [entryFrame, mkF, argsToLocals, Value.category]; done) | rfl
abbrev own_QUN (Z : State) (a b : Addr) (h0 : Heap) (n0 : Nat) : Option Value → Heap → List Loc → Prop := fun v h L => v = none ∧ Fr n0 L ∧ Keep h0 h [a] ∧ Exa Z h a "java/util/Collections$UnmodifiableNavigableMap" ∧ Fld Z h a "java/util/Collections$UnmodifiableMap" "m" "Ljava/util/Map;" (.ref b) ∧ Fld Z h a "java/util/Collections$UnmodifiableSortedMap" "sm" "Ljava/util/SortedMap;" (.ref b) ∧ Fld Z h a "java/util/Collections$UnmodifiableNavigableMap" "nm" "Ljava/util/NavigableMap;" (.ref b)
set_option maxRecDepth 65536 in
set_option maxHeartbeats 40000000 in
theorem own_rmUN (l : Launch) (Z : State) (a0 : Array Value) (hw : ∀ d ∈ tables_1, d.before a0 Z = true) (ws : List Jvm.Cond) (a b : Addr) (h0 : Heap) (n0 : Nat) (O : Old Z n0 h0) (g_a : n0 ≤ a) (E1 : Exa Z h0 a "java/util/Collections$UnmodifiableNavigableMap") (F_m_a : Fld Z h0 a "java/util/Collections$UnmodifiableMap" "m" "Ljava/util/Map;" .null) (F_sm_a : Fld Z h0 a "java/util/Collections$UnmodifiableSortedMap" "sm" "Ljava/util/SortedMap;" .null) (F_nm_a : Fld Z h0 a "java/util/Collections$UnmodifiableNavigableMap" "nm" "Ljava/util/NavigableMap;" .null) :
    MetFree l (⟨"java/util/Collections$UnmodifiableNavigableMap", "<init>", "(Ljava/util/NavigableMap;)V"⟩ : MethodName) (head1 (Jvm.Cond.code (⟨"java/util/Collections$UnmodifiableNavigableMap", "<init>", "(Ljava/util/NavigableMap;)V"⟩ : MethodName) jdk_2505_method_1_code 2 none :: ws) ({ frames := 3, cells := 0, slots := 0, locals := 38 } : Room)) (fun aa U => aa = #[(.ref a), (.ref b)] ∧ Z.Warmed39 U.vm ∧ U.heap = h0) (fun _ _ _ _ _ => True) (fun _ U o U' => ∃ v L, o = .returned v ∧ (own_QUN Z a b h0 n0) v U'.heap L ∧ FrameEnd U o U' L ({ frames := 3, cells := 0, slots := 0, locals := 38 } : Room).cells ({ frames := 3, cells := 0, slots := 0, locals := 38 } : Room).slots) := by
  refine MetFree.of_bodySF (plainFor_of_name own_pn19) hisR ?_
  intro p e s m args below meth c s₁ Bd hml0 hP hK
  obtain ⟨rfl, hZ, hh⟩ := hP
  have hx := Bd.exec
  have hby := Bd.bytes
  have hml : c.maxLocals = 2 := hml0
  have hown : s.vm.findClass "java/util/Collections$UnmodifiableNavigableMap" = some m.cls := findClass_of_methodNamed Bd.named
  have hnm := (name_of_methodNamed Bd.named Bd.method).1
  have X0 : Stand p l e ({ frames := 3, cells := 0, slots := 0, locals := 38 } : Room) s m #[(.ref a), (.ref b)] below meth c s₁ [] 0 0 := Stand.of_body Bd
  have e0 : s₁.heap = h0 := by rw [← hh, Bd.state]; rfl
  have N0 := Fr.nil n0
  refine Out.start (Q := own_QUN Z a b h0 n0) (own_efUN m a b ) ?_
  have Kp := Keep.refl h0 [a]
  refine Out.via (g' := (mkF m 1 #[.val (.ref a), .val (.ref b)] [(.ref a)])) (fun _ k => XS.aloadN X0.here hx rfl (hb hby own_d17_0) rfl rfl k) ?_
  refine Out.via (g' := (mkF m 2 #[.val (.ref a), .val (.ref b)] [(.ref b), (.ref a)])) (fun _ k => XS.aloadN X0.here hx rfl (hb hby own_d17_1) rfl rfl k) ?_
  obtain ⟨_, _, ⟨T1, L1, kc1, ks1⟩, -, X1, ⟨Lc1, hQ1, l1, y1, z1⟩, st1⟩ := X0.specialBack hx (y := (⟨"java/util/Collections$UnmodifiableSortedMap", "<init>", "(Ljava/util/SortedMap;)V"⟩ : MethodName)) rfl hown (mvT hZ (hw _ (List.mem_of_getElem? (i := 132) rfl))) (mvT hZ (hw _ (List.mem_of_getElem? (i := 133) rfl))) (mvT hZ (hw _ (List.mem_of_getElem? (i := 137) rfl))) (by decide) (backOf (W := 0) (own_rmUS l Z a0 hw [] a b h0 n0 O g_a E1 F_m_a F_sm_a F_nm_a) hZ (hw _ (List.mem_of_getElem? (i := 137) rfl)) (hw _ (List.mem_of_getElem? (i := 136) rfl)) (by decide) (by decide)) (g := (mkF m 2 #[.val (.ref a), .val (.ref b)] [(.ref b), (.ref a)])) rfl (by rw [hml]; rfl) (Steps.refl _) (a := a) (argsL := [(.ref b)]) (rest := []) (lenOf own_pd20 rfl) rfl (by show 2 * 0 + _ ≤ _; exact Nat.le_of_eq rfl) (hb hby own_d17_2) (fun _ _ => ⟨rfl, e0, (by decide : 0 + 0 ≤ _), (by decide : 0 + 0 ≤ _)⟩)
  dsimp only [Pt.U, Pt.locs, Pt.cells, Pt.slots] at X1 l1 y1 z1 st1 hQ1
  subst l1 y1 z1
  obtain ⟨rfl, Nq1, Kq1, E1q, Fq_m_a, Fq_sm_a, Fq_nm_a⟩ := hQ1
  replace N0 := Fr.app N0 Nq1
  replace E1 := E1.keep Kq1
  replace O := O.keep Kq1 (allS g_a all0)
  replace Kp := Kp.trans Kq1 (allS (Or.inl (List.mem_of_getElem? (i := 0) rfl)) all0)
  refine Out.to (g' := (mkF m 5 #[.val (.ref a), .val (.ref b)] [])) st1 ?_
  refine Out.via (g' := (mkF m 6 #[.val (.ref a), .val (.ref b)] [(.ref a)])) (fun _ k => XS.aloadN X1.here hx rfl (hb hby own_d17_5) rfl rfl k) ?_
  refine Out.via (g' := (mkF m 7 #[.val (.ref a), .val (.ref b)] [(.ref b), (.ref a)])) (fun _ k => XS.aloadN X1.here hx rfl (hb hby own_d17_6) rfl rfl k) ?_
  obtain ⟨T2, h2, X2, e2, W2, st2⟩ := putF X1 hx hZ hown (host := "") (Or.inl (hw _ (List.mem_of_getElem? (i := 149) rfl))) Via.refl rfl Fq_nm_a E1 (Or.inr ⟨(hw _ (List.mem_of_getElem? (i := 150) rfl)), rfl, hnm⟩) (hw _ (List.mem_of_getElem? (i := 127) rfl)) (ty := (.object "java/util/NavigableMap")) (by decide) rfl rfl (g := (mkF m 7 #[.val (.ref a), .val (.ref b)] [(.ref b), (.ref a)])) rfl rfl (hb hby own_d17_7)
  replace Fq_nm_a := Fq_nm_a.same W2
  replace Fq_m_a := Fq_m_a.other W2 (Or.inr (slot_ne (Or.inr (hw _ (List.mem_of_getElem? (i := 146) rfl))) (Or.inr (hw _ (List.mem_of_getElem? (i := 150) rfl))) (by decide) (t := (.object "java/util/Map")) (t' := (.object "java/util/NavigableMap")) (by decide) (by decide)))
  replace Fq_sm_a := Fq_sm_a.other W2 (Or.inr (slot_ne (Or.inr (hw _ (List.mem_of_getElem? (i := 148) rfl))) (Or.inr (hw _ (List.mem_of_getElem? (i := 150) rfl))) (by decide) (t := (.object "java/util/SortedMap")) (t' := (.object "java/util/NavigableMap")) (by decide) (by decide)))
  replace E1 := E1.wr W2
  replace O := O.wr W2 g_a
  replace Kp := Kp.wr W2 (Or.inl (List.mem_of_getElem? (i := 0) rfl))
  replace N0 := Fr.snoc X2 N0 g_a
  refine Out.via (g' := (mkF m 10 #[.val (.ref a), .val (.ref b)] [])) st2 ?_
  exact Out.endN X2 (fun _ => rfl) Bd.notSynchronized (by decide) (by decide) (by rw [e2]; exact ⟨rfl, N0, Kp, E1, Fq_m_a, Fq_sm_a, Fq_nm_a⟩) (fun fs hr => X2.returnOut hx Bd.returns (hb hby own_d17_10) hr)
/-- getClass through an interface, of an object whose class is known -/
theorem own_gclsI {p : Program} {l : Launch} {e : Env} {R : Room} {s : State} {m : MethodId} {args : Array Value} {below : List Frame} {meth : Method} {c : Code} {T : State} {locs : List Loc} {cells slots : Nat} {Z : State} {h : Heap} {a mr : Addr}
    (X : Stand p l e R s m args below meth c T locs cells slots) (hx : p.tables.exec = Jvm.exec) (hZ : Z.Warmed39 s.vm) {a0 : Array Value} {own C : String} {index count : Nat} (hown : s.vm.findClass own = some m.cls) {xi : MethodName}
    (w1 : (Jvm.Cond.methodLink own index xi).before a0 Z = true) (w2 : (Jvm.Cond.declares Stand.gcN).before a0 Z = true) (w3 : (Jvm.Cond.interfaceMethod xi.cls "java/lang/Object" xi.name xi.desc).before a0 Z = true) (w4 : (Jvm.Cond.selects C xi Stand.gcN).before a0 Z = true) (w5 : (Jvm.Cond.instanceMethod Stand.gcN).before a0 Z = true)
    (w6 : (Jvm.Cond.publicMethod Stand.gcN).before a0 Z = true) (w7 : (Jvm.Cond.unhidden C xi.name xi.desc).before a0 Z = true) (w8 : (Jvm.Cond.castable C xi.cls).before a0 Z = true) (w9 : (Jvm.Cond.native Stand.gcN).before a0 Z = true) (hm1 : xi.cls ≠ "java/lang/invoke/MethodHandle" ∧ xi.cls ≠ "java/lang/invoke/VarHandle") (hm2 : xi.cls ≠ "java/lang/Object")
    (hn : xi.name = "getClass") (hds : xi.desc = "()Ljava/lang/Class;") (eT : T.heap = h) (E : Exa Z h a C) (M : own_Mir Z C mr)
    {g : JFrame} (hg : g.method = m) (hsize : g.locals.size = c.maxLocals) {rest : List Value} (hs : g.stack = .ref a :: rest) (hd : decode c.code g.pc = .ok (.invokeinterface index count, 5)) (hf : 1 ≤ R.frames) {W : Nat} (hW : 2 * g.monitorRoom + (rest.map fun v => v.category).sum ≤ W) (hl : W + (nativeFrameWords "java/lang/Object" "getClass" 1 + 11) ≤ R.locals) :
    ∃ T', Stand p l e R s m args below meth c T' locs cells slots ∧ T'.heap = h ∧ ∀ target, Steps p.tables e below (T'.setTop { g with pc := g.pc + 5, stack := .ref mr :: rest }) target → Steps p.tables e below (T.setTop g) target := by
  obtain ⟨cB, kB, i1, i2, i3⟩ := isOf hZ eT E
  obtain ⟨cc, kc, m1, m2, m3⟩ := M
  rw [hZ.alike.findClass] at i1
  cases i1.symm.trans m1
  obtain ⟨k', q, ek⟩ := hZ.alike.2.2 _ _ m2
  obtain ⟨vm', X', st⟩ := X.getClassOfI hx (xi := xi) hown (mvT hZ w1) (mvT hZ w2) (own_mvI hZ w3) (mvT hZ w4) (mvT hZ w5) (mvT hZ w6) (mvT hZ w7) (mvT hZ w8) (mvT hZ w9) hm1 hm2 hn hds (by rw [hZ.alike.findClass]; exact m1) q i3 (by rw [ek]; exact m3) hg hsize hs hd hf (by omega)
  exact ⟨_, X', eT, st⟩
/-- 'ldc' of a class constant -/
theorem own_ldcK {p : Program} {l : Launch} {e : Env} {R : Room} {s : State} {m : MethodId} {args : Array Value} {below : List Frame} {meth : Method} {c : Code} {T : State} {locs : List Loc} {cells slots : Nat} {Z : State} {h : Heap} {mr : Addr}
    (X : Stand p l e R s m args below meth c T locs cells slots) (hx : p.tables.exec = Jvm.exec) (hZ : Z.Warmed39 s.vm) {a0 : Array Value} {own C : String} {index : Nat} (hown : s.vm.findClass own = some m.cls) (w : (Jvm.Cond.classLink own index C).before a0 Z = true) (eT : T.heap = h) (M : own_Mir Z C mr)
    {g : JFrame} (hg : g.method = m) (hd : decode c.code g.pc = .ok (.ldc index, 2)) :
    ∃ T', Stand p l e R s m args below meth c T' locs cells slots ∧ T'.heap = h ∧ ∀ target, Steps p.tables e below (T'.setTop { g with pc := g.pc + 2, stack := .ref mr :: g.stack }) target → Steps p.tables e below (T.setTop g) target := by
  obtain ⟨cc, kc, m1, m2, m3⟩ := M
  obtain ⟨k', q, ek⟩ := hZ.alike.2.2 _ _ m2
  have hev : (Term.mirror C).eval args s none [] s = some (.ref mr) := by
    simp only [Term.eval, hZ.alike.findClass, m1, Option.bind_eq_bind, Option.bind_some, q, Option.pure_def]
    rw [ek, show kc.mirror = some mr from m3]; rfl
  obtain ⟨vm', X', st⟩ := X.ldcMirror hx hown (mvT hZ w) hev hg hd
  exact ⟨_, X', eT, st⟩
theorem own_pn21 : plainName "java/util/Collections" = true := by first | (simp [plainName, overriddenIn]; done) | decide +kernel
theorem own_d18_0 : decode jdk_79_method_39_code 0 = .ok (.aload_n 0, 1) := by decide +kernel
theorem own_d18_1 : decode jdk_79_method_39_code 1 = .ok (.invokeinterface 242 1, 5) := by decide +kernel
theorem own_d18_6 : decode jdk_79_method_39_code 6 = .ok (.ldc 245, 2) := by decide +kernel
theorem own_d18_8 : decode jdk_79_method_39_code 8 = .ok (.if_acmp .ne 5, 3) := by decide +kernel
theorem own_d18_11 : decode jdk_79_method_39_code 11 = .ok (.aload_n 0, 1) := by decide +kernel
theorem own_d18_12 : decode jdk_79_method_39_code 12 = .ok (.areturn, 1) := by decide +kernel
theorem own_d18_13 : decode jdk_79_method_39_code 13 = .ok (.new 245, 3) := by decide +kernel
theorem own_d18_16 : decode jdk_79_method_39_code 16 = .ok (.dup, 1) := by decide +kernel
theorem own_d18_17 : decode jdk_79_method_39_code 17 = .ok (.aload_n 0, 1) := by decide +kernel
theorem own_d18_18 : decode jdk_79_method_39_code 18 = .ok (.invokespecial 247, 3) := by decide +kernel
theorem own_pd22 : parseMethodDescriptor "(Ljava/util/NavigableMap;)V" = some ⟨[(.object "java/util/NavigableMap")], none⟩ := by decide +kernel
theorem own_d18_21 : decode jdk_79_method_39_code 21 = .ok (.areturn, 1) := by decide +kernel
theorem own_efGC (m : MethodId) (x0 : Addr) : entryFrame m #[(.ref x0)] 1 = mkF m 0 #[.val (.ref x0)] [] := by first | (simp [entryFrame, mkF, argsToLocals, Value.category]; done) | rfl
abbrev own_QGC (Z : State) (a mt mu : Addr) (h0 : Heap) (n0 : Nat) : Option Value → Heap → List Loc → Prop := fun v h L => ∃ b : Addr, v = some (.ref b) ∧ Fr n0 L ∧ Keep h0 h [] ∧ own_View Z h b a
set_option maxRecDepth 65536 in
set_option maxHeartbeats 40000000 in
theorem own_rmGC (l : Launch) (Z : State) (a0 : Array Value) (hw : ∀ d ∈ tables_1, d.before a0 Z = true) (ws : List Jvm.Cond) (a mt mu : Addr) (h0 : Heap) (n0 : Nat) (O : Old Z n0 h0) (Ea0 : Exa Z h0 a "java/util/TreeMap") (M1 : own_Mir Z "java/util/TreeMap" mt) (M2 : own_Mir Z "java/util/Collections$UnmodifiableNavigableMap" mu) :
    MetFree l (⟨"java/util/Collections", "unmodifiableNavigableMap", "(Ljava/util/NavigableMap;)Ljava/util/NavigableMap;"⟩ : MethodName) (head1 (Jvm.Cond.code (⟨"java/util/Collections", "unmodifiableNavigableMap", "(Ljava/util/NavigableMap;)Ljava/util/NavigableMap;"⟩ : MethodName) jdk_79_method_39_code 1 (some (.object "java/util/NavigableMap")) :: ws) ({ frames := 4, cells := 1, slots := 6, locals := 52 } : Room)) (fun aa U => aa = #[(.ref a)] ∧ Z.Warmed39 U.vm ∧ U.heap = h0) (fun _ _ _ _ _ => True) (fun _ U o U' => ∃ v L, o = .returned v ∧ (own_QGC Z a mt mu h0 n0) v U'.heap L ∧ FrameEnd U o U' L ({ frames := 4, cells := 1, slots := 6, locals := 52 } : Room).cells ({ frames := 4, cells := 1, slots := 6, locals := 52 } : Room).slots) := by
  refine MetFree.of_bodySF (plainFor_of_name own_pn21) hisR ?_
  intro p e s m args below meth c s₁ Bd hml0 hP hK
  obtain ⟨rfl, hZ, hh⟩ := hP
  have hx := Bd.exec
  have hby := Bd.bytes
  have hml : c.maxLocals = 1 := hml0
  have hown : s.vm.findClass "java/util/Collections" = some m.cls := findClass_of_methodNamed Bd.named
  have hnm := (name_of_methodNamed Bd.named Bd.method).1
  have X0 : Stand p l e ({ frames := 4, cells := 1, slots := 6, locals := 52 } : Room) s m #[(.ref a)] below meth c s₁ [] 0 0 := Stand.of_body Bd
  have e0 : s₁.heap = h0 := by rw [← hh, Bd.state]; rfl
  have N0 := Fr.nil n0
  refine Out.start (Q := own_QGC Z a mt mu h0 n0) (own_efGC m a ) ?_
  have Kp := Keep.refl h0 []
  refine Out.via (g' := (mkF m 1 #[.val (.ref a)] [(.ref a)])) (fun _ k => XS.aloadN X0.here hx rfl (hb hby own_d18_0) rfl rfl k) ?_
  obtain ⟨T90, X90, e90, st90⟩ := own_gclsI X0 hx hZ hown (xi := (⟨"java/util/NavigableMap", "getClass", "()Ljava/lang/Class;"⟩ : MethodName)) (hw _ (List.mem_of_getElem? (i := 116) rfl)) (hw _ (List.mem_of_getElem? (i := 117) rfl)) (hw _ (List.mem_of_getElem? (i := 118) rfl)) (hw _ (List.mem_of_getElem? (i := 119) rfl)) (hw _ (List.mem_of_getElem? (i := 120) rfl)) (hw _ (List.mem_of_getElem? (i := 121) rfl)) (hw _ (List.mem_of_getElem? (i := 122) rfl)) (hw _ (List.mem_of_getElem? (i := 41) rfl)) (hw _ (List.mem_of_getElem? (i := 123) rfl)) (by decide) (by decide) rfl rfl e0 Ea0 M1 (g := (mkF m 1 #[.val (.ref a)] [(.ref a)])) rfl (by rw [hml]; rfl) rfl (hb hby own_d18_1) (by decide) (W := 0) (by show 2 * 0 + _ ≤ _; exact Nat.le_of_eq rfl) (by decide)
  refine Out.via (g' := (mkF m 6 #[.val (.ref a)] [(.ref mt)])) st90 ?_
  obtain ⟨T91, X91, e91, st91⟩ := own_ldcK X90 hx hZ hown (hw _ (List.mem_of_getElem? (i := 125) rfl)) e90 M2 (g := (mkF m 6 #[.val (.ref a)] [(.ref mt)])) rfl (hb hby own_d18_6)
  refine Out.via (g' := (mkF m 8 #[.val (.ref a)] [(.ref mu), (.ref mt)])) st91 ?_
  by_cases hmm : mt = mu
  · refine Out.via (g' := (mkF m 11 #[.val (.ref a)] [])) (fun _ k => Jvm.RoadKit.acmp (g := (mkF m 8 #[.val (.ref a)] [(.ref mu), (.ref mt)])) X91 hx rfl rfl rfl (pc0 := 8) (pc' := 11) (same := true) rfl (hb hby own_d18_8) rfl (decide_eq_true (congrArg Value.ref hmm)) (by decide) (by decide) k) ?_
    refine Out.via (g' := (mkF m 12 #[.val (.ref a)] [(.ref a)])) (fun _ k => XS.aloadN X91.here hx rfl (hb hby own_d18_11) rfl rfl k) ?_
    exact Out.endN X91 (fun h => by rw [Bd.returns] at h; cases h) Bd.notSynchronized (by decide) (by decide) (by rw [e91]; exact ⟨a, rfl, N0, Kp, Or.inl rfl⟩) (fun fs hr => own_retR X91 hx (t := (.object "java/util/NavigableMap")) Bd.returns rfl rfl rfl (hb hby own_d18_12) hr)
  · refine Out.via (g' := (mkF m 13 #[.val (.ref a)] [])) (fun _ k => Jvm.RoadKit.acmp (g := (mkF m 8 #[.val (.ref a)] [(.ref mu), (.ref mt)])) X91 hx rfl rfl rfl (pc0 := 8) (pc' := 13) (same := false) rfl (hb hby own_d18_8) rfl (decide_eq_false fun q => hmm (Value.ref.inj q)) (by decide) (by decide) k) ?_
    obtain ⟨T1, h1, X1, e1, E1, A1, D1, -, st1⟩ := newO X91 hx hZ hown (hw _ (List.mem_of_getElem? (i := 125) rfl)) (hw _ (List.mem_of_getElem? (i := 127) rfl)) (hw _ (List.mem_of_getElem? (i := 128) rfl)) e91 (g := (mkF m 13 #[.val (.ref a)] [])) rfl (hb hby own_d18_13) (by decide) (by decide)
    obtain ⟨b, gq1⟩ : ∃ z, z = h0.size := ⟨_, rfl⟩
    rw [← gq1] at A1 D1 st1
    have ne_a_b : a ≠ b := Nat.ne_of_lt (Nat.lt_of_lt_of_le Ea0.lt (Nat.le_of_eq gq1.symm))
    have g_b : n0 ≤ b := Nat.le_trans (own_z0 O) (Nat.le_of_eq gq1.symm)
    have sz_b : h0.size ≤ b := Nat.le_trans Kp.1 (Nat.le_of_eq gq1.symm)
    replace Ea0 := Ea0.ext E1
    replace O := O.ext E1
    replace Kp := Kp.ext E1
    have F_m_b : Fld Z h1 b "java/util/Collections$UnmodifiableMap" "m" "Ljava/util/Map;" .null := D1 (Or.inr (hw _ (List.mem_of_getElem? (i := 146) rfl))) (ty := (.object "java/util/Map")) (by decide)
    have F_sm_b : Fld Z h1 b "java/util/Collections$UnmodifiableSortedMap" "sm" "Ljava/util/SortedMap;" .null := D1 (Or.inr (hw _ (List.mem_of_getElem? (i := 148) rfl))) (ty := (.object "java/util/SortedMap")) (by decide)
    have F_nm_b : Fld Z h1 b "java/util/Collections$UnmodifiableNavigableMap" "nm" "Ljava/util/NavigableMap;" .null := D1 (Or.inr (hw _ (List.mem_of_getElem? (i := 150) rfl))) (ty := (.object "java/util/NavigableMap")) (by decide)
    refine Out.via (g' := (mkF m 16 #[.val (.ref a)] [(.ref b)])) st1 ?_
    refine Out.via (g' := (mkF m 17 #[.val (.ref a)] [(.ref b), (.ref b)])) (fun _ k => XS.dup X1.here hx rfl (hb hby own_d18_16) rfl rfl k) ?_
    refine Out.via (g' := (mkF m 18 #[.val (.ref a)] [(.ref a), (.ref b), (.ref b)])) (fun _ k => XS.aloadN X1.here hx rfl (hb hby own_d18_17) rfl rfl k) ?_
    obtain ⟨_, _, ⟨T2, L2, kc2, ks2⟩, -, X2, ⟨Lc2, hQ2, l2, y2, z2⟩, st2⟩ := X1.specialBack hx (y := (⟨"java/util/Collections$UnmodifiableNavigableMap", "<init>", "(Ljava/util/NavigableMap;)V"⟩ : MethodName)) rfl hown (mvT hZ (hw _ (List.mem_of_getElem? (i := 129) rfl))) (mvT hZ (hw _ (List.mem_of_getElem? (i := 130) rfl))) (mvT hZ (hw _ (List.mem_of_getElem? (i := 131) rfl))) (by decide) (backOf (W := 1) (own_rmUN l Z a0 hw [] b a h1 n0 O g_b A1 F_m_b F_sm_b F_nm_b) hZ (hw _ (List.mem_of_getElem? (i := 131) rfl)) (hw _ (List.mem_of_getElem? (i := 128) rfl)) (by decide) (by decide)) (g := (mkF m 18 #[.val (.ref a)] [(.ref a), (.ref b), (.ref b)])) rfl (by rw [hml]; rfl) (Steps.refl _) (a := b) (argsL := [(.ref a)]) (rest := [(.ref b)]) (lenOf own_pd22 rfl) rfl (by show 2 * 0 + _ ≤ _; exact Nat.le_of_eq rfl) (hb hby own_d18_18) (fun _ _ => ⟨rfl, e1, (by decide : 1 + 0 ≤ _), (by decide : 6 + 0 ≤ _)⟩)
    dsimp only [Pt.U, Pt.locs, Pt.cells, Pt.slots] at X2 l2 y2 z2 st2 hQ2
    subst l2 y2 z2
    obtain ⟨rfl, Nq2, Kq2, Eb, -, -, Fb⟩ := hQ2
    replace N0 := Fr.app N0 Nq2
    replace Ea0 := Ea0.keep Kq2
    replace A1 := A1.keep Kq2
    replace O := O.keep Kq2 (allS g_b all0)
    replace Kp := Kp.trans Kq2 (allS (Or.inr sz_b) all0)
    refine Out.to (g' := (mkF m 21 #[.val (.ref a)] [(.ref b)])) st2 ?_
    exact Out.endN X2 (fun h => by rw [Bd.returns] at h; cases h) Bd.notSynchronized (by decide) (by decide) (⟨b, rfl, N0, Kp, Or.inr ⟨Eb, Fb⟩⟩) (fun fs hr => own_retR X2 hx (t := (.object "java/util/NavigableMap")) Bd.returns rfl rfl rfl (hb hby own_d18_21) hr)
theorem own_view_ne {Z : State} {h : Heap} {b a x : Addr} (V : own_View Z h b a) (E1 : Exa Z h a "java/util/TreeMap") (E0 : Exa Z h x "com/example/syndicate_ledger/syndicateledger/engine/Timeline") : b ≠ x := by
  rcases V with rfl | ⟨V, -⟩
  · exact Exa.ne E1 E0 (by decide)
  · exact Exa.ne V E0 (by decide)
theorem own_View.wr {Z : State} {h h' : Heap} {b a x : Addr} {sl : Nat} {v : Value} (V : own_View Z h b a) (W : Wr h h' x sl v) (ne : b ≠ x) : own_View Z h' b a := V.imp id fun f => ⟨f.1.wr W, f.2.other W (Or.inl ne)⟩
theorem own_nav_keepX {Z : State} {h h' : Heap} {a d x : Addr} {w : Value} (F : own_Nav Z h a d w) (K : Keep h h' [x]) (E0 : Exa Z h x "com/example/syndicate_ledger/syndicateledger/engine/Timeline") : own_Nav Z h' a d w := by
  obtain ⟨f1, r, f2, f3, f4, f5, f6⟩ := F
  have q1 : a ≠ x := Exa.ne f1 E0 (by decide)
  have q2 : r ≠ x := Exa.ne f3 E0 (by decide)
  exact ⟨f1.keep K, r, f2.keep K (ninS q1 nin0), f3.keep K, f4.keep K (ninS q2 nin0), f5.keep K (ninS q2 nin0), f6.keep K (ninS q2 nin0)⟩
theorem own_pn23 : plainName "com/example/syndicate_ledger/syndicateledger/engine/Timeline" = true := by first | (simp [plainName, overriddenIn]; done) | decide +kernel
theorem own_d19_0 : decode prog_22_method_1_code 0 = .ok (.aload_n 0, 1) := by decide +kernel
theorem own_d19_1 : decode prog_22_method_1_code 1 = .ok (.invokespecial 1, 3) := by decide +kernel
theorem own_d19_4 : decode prog_22_method_1_code 4 = .ok (.aload_n 0, 1) := by decide +kernel
theorem own_d19_5 : decode prog_22_method_1_code 5 = .ok (.aload_n 1, 1) := by decide +kernel
theorem own_d19_6 : decode prog_22_method_1_code 6 = .ok (.invokestatic 7, 3) := by decide +kernel
theorem own_pd24 : parseMethodDescriptor "(Ljava/util/NavigableMap;)Ljava/util/NavigableMap;" = some ⟨[(.object "java/util/NavigableMap")], some (.object "java/util/NavigableMap")⟩ := by decide +kernel
theorem own_d19_9 : decode prog_22_method_1_code 9 = .ok (.putfield 13, 3) := by decide +kernel
theorem own_d19_12 : decode prog_22_method_1_code 12 = .ok (.return_, 1) := by decide +kernel
theorem own_efLI (m : MethodId) (x0 : Addr) (x1 : Addr) : entryFrame m #[(.ref x0), (.ref x1)] 2 = mkF m 0 #[.val (.ref x0), .val (.ref x1)] [] := by first | (simp [entryFrame, mkF, argsToLocals, Value.category]; done) | rfl
abbrev own_QLI (Z : State) (x a mt mu : Addr) (h0 : Heap) (n0 : Nat) : Option Value → Heap → List Loc → Prop := fun v h L => v = none ∧ Fr n0 L ∧ Keep h0 h [x] ∧ Exa Z h x "com/example/syndicate_ledger/syndicateledger/engine/Timeline" ∧ ∃ b : Addr, Fld Z h x "com/example/syndicate_ledger/syndicateledger/engine/Timeline" "values" "Ljava/util/NavigableMap;" (.ref b) ∧ own_View Z h b a
set_option maxRecDepth 65536 in
set_option maxHeartbeats 40000000 in
theorem own_rmLI (l : Launch) (Z : State) (a0 : Array Value) (hw : ∀ d ∈ tables_1, d.before a0 Z = true) (ws : List Jvm.Cond) (x a mt mu : Addr) (h0 : Heap) (n0 : Nat) (O : Old Z n0 h0) (g_x : n0 ≤ x) (E0 : Exa Z h0 x "com/example/syndicate_ledger/syndicateledger/engine/Timeline") (F_values_x : Fld Z h0 x "com/example/syndicate_ledger/syndicateledger/engine/Timeline" "values" "Ljava/util/NavigableMap;" .null) (E1 : Exa Z h0 a "java/util/TreeMap") (M1 : own_Mir Z "java/util/TreeMap" mt) (M2 : own_Mir Z "java/util/Collections$UnmodifiableNavigableMap" mu) :
    MetFree l (⟨"com/example/syndicate_ledger/syndicateledger/engine/Timeline", "<init>", "(Ljava/util/NavigableMap;)V"⟩ : MethodName) (head1 (Jvm.Cond.code (⟨"com/example/syndicate_ledger/syndicateledger/engine/Timeline", "<init>", "(Ljava/util/NavigableMap;)V"⟩ : MethodName) prog_22_method_1_code 2 none :: ws) ({ frames := 5, cells := 1, slots := 6, locals := 65 } : Room)) (fun aa U => aa = #[(.ref x), (.ref a)] ∧ Z.Warmed39 U.vm ∧ U.heap = h0) (fun _ _ _ _ _ => True) (fun _ U o U' => ∃ v L, o = .returned v ∧ (own_QLI Z x a mt mu h0 n0) v U'.heap L ∧ FrameEnd U o U' L ({ frames := 5, cells := 1, slots := 6, locals := 65 } : Room).cells ({ frames := 5, cells := 1, slots := 6, locals := 65 } : Room).slots) := by
  refine MetFree.of_bodySF (plainFor_of_name own_pn23) hisR ?_
  intro p e s m args below meth c s₁ Bd hml0 hP hK
  obtain ⟨rfl, hZ, hh⟩ := hP
  have hx := Bd.exec
  have hby := Bd.bytes
  have hml : c.maxLocals = 2 := hml0
  have hown : s.vm.findClass "com/example/syndicate_ledger/syndicateledger/engine/Timeline" = some m.cls := findClass_of_methodNamed Bd.named
  have hnm := (name_of_methodNamed Bd.named Bd.method).1
  have X0 : Stand p l e ({ frames := 5, cells := 1, slots := 6, locals := 65 } : Room) s m #[(.ref x), (.ref a)] below meth c s₁ [] 0 0 := Stand.of_body Bd
  have e0 : s₁.heap = h0 := by rw [← hh, Bd.state]; rfl
  have N0 := Fr.nil n0
  refine Out.start (Q := own_QLI Z x a mt mu h0 n0) (own_efLI m x a ) ?_
  have Kp := Keep.refl h0 [x]
  refine Out.via (g' := (mkF m 1 #[.val (.ref x), .val (.ref a)] [(.ref x)])) (fun _ k => XS.aloadN X0.here hx rfl (hb hby own_d19_0) rfl rfl k) ?_
  obtain ⟨T1, X1, e1, st1⟩ := initO X0 hx hZ hown (hw _ (List.mem_of_getElem? (i := 111) rfl)) (hw _ (List.mem_of_getElem? (i := 24) rfl)) (hw _ (List.mem_of_getElem? (i := 25) rfl)) e0 (g := (mkF m 1 #[.val (.ref x), .val (.ref a)] [(.ref x)])) rfl (by rw [hml]; rfl) rfl (hb hby own_d19_1) (by decide) (W := 0) (by show 2 * 0 + _ ≤ _; exact Nat.le_of_eq rfl) (by decide)
  refine Out.via (g' := (mkF m 4 #[.val (.ref x), .val (.ref a)] [])) st1 ?_
  refine Out.via (g' := (mkF m 5 #[.val (.ref x), .val (.ref a)] [(.ref x)])) (fun _ k => XS.aloadN X1.here hx rfl (hb hby own_d19_4) rfl rfl k) ?_
  refine Out.via (g' := (mkF m 6 #[.val (.ref x), .val (.ref a)] [(.ref a), (.ref x)])) (fun _ k => XS.aloadN X1.here hx rfl (hb hby own_d19_5) rfl rfl k) ?_
  obtain ⟨_, _, ⟨T2, L2, kc2, ks2⟩, -, X2, ⟨Lc2, hQ2, l2, y2, z2⟩, st2⟩ := Jvm.LawKit.callS X1 hx (y := (⟨"java/util/Collections", "unmodifiableNavigableMap", "(Ljava/util/NavigableMap;)Ljava/util/NavigableMap;"⟩ : MethodName)) hown (mvT hZ (hw _ (List.mem_of_getElem? (i := 112) rfl))) (mvT hZ (hw _ (List.mem_of_getElem? (i := 113) rfl))) (mvT hZ (hw _ (List.mem_of_getElem? (i := 114) rfl))) (mvT hZ (hw _ (List.mem_of_getElem? (i := 115) rfl))) (by decide) (backOf (W := 1) (own_rmGC l Z a0 hw [] a mt mu h0 n0 O E1 M1 M2) hZ (hw _ (List.mem_of_getElem? (i := 115) rfl)) (hw _ (List.mem_of_getElem? (i := 114) rfl)) (by decide) (by decide)) (g := (mkF m 6 #[.val (.ref x), .val (.ref a)] [(.ref a), (.ref x)])) rfl (by rw [hml]; rfl) (argsL := [(.ref a)]) (rest := [(.ref x)]) (lenOf own_pd24 rfl) rfl (by show 2 * 0 + _ ≤ _; exact Nat.le_of_eq rfl) (hb hby own_d19_6) (fun _ _ => ⟨rfl, e1, (by decide : 0 + 1 ≤ _), (by decide : 0 + 6 ≤ _)⟩)
  dsimp only [Pt.U, Pt.locs, Pt.cells, Pt.slots] at X2 l2 y2 z2 st2 hQ2
  subst l2 y2 z2
  obtain ⟨b, rfl, Nq2, Kq2, Vb⟩ := hQ2
  replace N0 := Fr.app N0 Nq2
  replace F_values_x := F_values_x.keep Kq2 nin0
  replace E0 := E0.keep Kq2
  replace E1 := E1.keep Kq2
  replace O := O.keep Kq2 all0
  replace Kp := Kp.trans Kq2 all0
  refine Out.via (g' := (mkF m 9 #[.val (.ref x), .val (.ref a)] [(.ref b), (.ref x)])) st2 ?_
  have nbx : b ≠ x := own_view_ne Vb E1 E0
  obtain ⟨T3, h3, X3, e3, W3, st3⟩ := putF X2 hx hZ hown (host := "") (Or.inl (hw _ (List.mem_of_getElem? (i := 151) rfl))) Via.refl rfl F_values_x E0 (Or.inr ⟨(hw _ (List.mem_of_getElem? (i := 152) rfl)), rfl, hnm⟩) (hw _ (List.mem_of_getElem? (i := 107) rfl)) (ty := (.object "java/util/NavigableMap")) (by decide) rfl rfl (g := (mkF m 9 #[.val (.ref x), .val (.ref a)] [(.ref b), (.ref x)])) rfl rfl (hb hby own_d19_9)
  replace F_values_x := F_values_x.same W3
  replace E0 := E0.wr W3
  replace E1 := E1.wr W3
  replace O := O.wr W3 g_x
  replace Kp := Kp.wr W3 (Or.inl (List.mem_of_getElem? (i := 0) rfl))
  replace N0 := Fr.snoc X3 N0 g_x
  replace Vb := own_View.wr Vb W3 nbx
  refine Out.via (g' := (mkF m 12 #[.val (.ref x), .val (.ref a)] [])) st3 ?_
  exact Out.endN X3 (fun _ => rfl) Bd.notSynchronized (by decide) (by decide) (by rw [e3]; exact ⟨rfl, N0, Kp, E0, b, F_values_x, Vb⟩) (fun fs hr => X3.returnOut hx Bd.returns (hb hby own_d19_12) hr)
theorem own_d20_0 : decode prog_22_method_2_code 0 = .ok (.new 19, 3) := by decide +kernel
theorem own_d20_3 : decode prog_22_method_2_code 3 = .ok (.dup, 1) := by decide +kernel
theorem own_d20_4 : decode prog_22_method_2_code 4 = .ok (.invokespecial 21, 3) := by decide +kernel
theorem own_d20_7 : decode prog_22_method_2_code 7 = .ok (.astore_n 1, 1) := by decide +kernel
theorem own_d20_8 : decode prog_22_method_2_code 8 = .ok (.aload_n 1, 1) := by decide +kernel
theorem own_d20_9 : decode prog_22_method_2_code 9 = .ok (.getstatic 22, 3) := by decide +kernel
theorem own_d20_12 : decode prog_22_method_2_code 12 = .ok (.aload_n 0, 1) := by decide +kernel
theorem own_d20_13 : decode prog_22_method_2_code 13 = .ok (.invokeinterface 28 3, 5) := by decide +kernel
theorem own_pd25 : parseMethodDescriptor "(Ljava/lang/Object;Ljava/lang/Object;)Ljava/lang/Object;" = some ⟨[(.object "java/lang/Object"), (.object "java/lang/Object")], some (.object "java/lang/Object")⟩ := by decide +kernel
theorem own_d20_18 : decode prog_22_method_2_code 18 = .ok (.pop, 1) := by decide +kernel
theorem own_d20_19 : decode prog_22_method_2_code 19 = .ok (.new 14, 3) := by decide +kernel
theorem own_d20_22 : decode prog_22_method_2_code 22 = .ok (.dup, 1) := by decide +kernel
theorem own_d20_23 : decode prog_22_method_2_code 23 = .ok (.aload_n 1, 1) := by decide +kernel
theorem own_d20_24 : decode prog_22_method_2_code 24 = .ok (.invokespecial 34, 3) := by decide +kernel
theorem own_d20_27 : decode prog_22_method_2_code 27 = .ok (.areturn, 1) := by decide +kernel
set_option maxHeartbeats 4000000 in
theorem own_efOF (m : MethodId) (x0 : Value) (r0 : x0.isRef = true) : entryFrame m #[x0] 2 = mkF m 0 #[.val x0, .unset] [] := by 
  rcases ref_cases r0 with rfl | ⟨_, rfl⟩ <;>
  (first | (simp [entryFrame, mkF, argsToLocals, Value.category]; done) | rfl)
abbrev own_QOF (Z : State) (w : Value) (d mt mu : Addr) (h0 : Heap) (n0 : Nat) : Option Value → Heap → List Loc → Prop := fun v h L => ∃ x : Addr, v = some (.ref x) ∧ Fr n0 L ∧ Keep h0 h [] ∧ own_TL Z h x d w
set_option maxRecDepth 65536 in
set_option maxHeartbeats 40000000 in
theorem own_rmOF (l : Launch) (Z : State) (a0 : Array Value) (hw : ∀ d ∈ tables_1, d.before a0 Z = true) (ws : List Jvm.Cond) (w : Value) (d mt mu : Addr) (h0 : Heap) (n0 : Nat) (O : Old Z n0 h0) (rw_ : w.isRef = true) (V_d : Sta Z Z.heap "java/time/LocalDate" "MIN" "Ljava/time/LocalDate;" (.ref d)) (Ed : Exa Z Z.heap d "java/time/LocalDate") (D_year : Fld Z Z.heap d "java/time/LocalDate" "year" "I" (.int (-999999999 : Int32))) (D_month : Fld Z Z.heap d "java/time/LocalDate" "month" "S" (.int (1 : Int32))) (D_day : Fld Z Z.heap d "java/time/LocalDate" "day" "S" (.int (1 : Int32))) (M1 : own_Mir Z "java/util/TreeMap" mt) (M2 : own_Mir Z "java/util/Collections$UnmodifiableNavigableMap" mu) :
    MetFree l (⟨"com/example/syndicate_ledger/syndicateledger/engine/Timeline", "of", "(Ljava/lang/Object;)Lcom/example/syndicate_ledger/syndicateledger/engine/Timeline;"⟩ : MethodName) (head1 (Jvm.Cond.code (⟨"com/example/syndicate_ledger/syndicateledger/engine/Timeline", "of", "(Ljava/lang/Object;)Lcom/example/syndicate_ledger/syndicateledger/engine/Timeline;"⟩ : MethodName) prog_22_method_2_code 2 (some (.object "com/example/syndicate_ledger/syndicateledger/engine/Timeline")) :: ws) ({ frames := 7, cells := 4, slots := 22, locals := 103 } : Room)) (fun aa U => aa = #[w] ∧ Z.Warmed39 U.vm ∧ U.heap = h0) (fun _ _ _ _ _ => True) (fun _ U o U' => ∃ v L, o = .returned v ∧ (own_QOF Z w d mt mu h0 n0) v U'.heap L ∧ FrameEnd U o U' L ({ frames := 7, cells := 4, slots := 22, locals := 103 } : Room).cells ({ frames := 7, cells := 4, slots := 22, locals := 103 } : Room).slots) := by
  refine MetFree.of_bodySF (plainFor_of_name own_pn23) hisR ?_
  intro p e s m args below meth c s₁ Bd hml0 hP hK
  obtain ⟨rfl, hZ, hh⟩ := hP
  have hx := Bd.exec
  have hby := Bd.bytes
  have hml : c.maxLocals = 2 := hml0
  have hown : s.vm.findClass "com/example/syndicate_ledger/syndicateledger/engine/Timeline" = some m.cls := findClass_of_methodNamed Bd.named
  have hnm := (name_of_methodNamed Bd.named Bd.method).1
  have X0 : Stand p l e ({ frames := 7, cells := 4, slots := 22, locals := 103 } : Room) s m #[w] below meth c s₁ [] 0 0 := Stand.of_body Bd
  have e0 : s₁.heap = h0 := by rw [← hh, Bd.state]; rfl
  have N0 := Fr.nil n0
  refine Out.start (Q := own_QOF Z w d mt mu h0 n0) (own_efOF m w rw_) ?_
  have Kp := Keep.refl h0 []
  obtain ⟨T1, h1, X1, e1, E1, A1, D1, -, st1⟩ := newO X0 hx hZ hown (hw _ (List.mem_of_getElem? (i := 11) rfl)) (hw _ (List.mem_of_getElem? (i := 12) rfl)) (hw _ (List.mem_of_getElem? (i := 13) rfl)) e0 (g := (mkF m 0 #[.val w, .unset] [])) rfl (hb hby own_d20_0) (by decide) (by decide)
  obtain ⟨a, gq1⟩ : ∃ z, z = h0.size := ⟨_, rfl⟩
  rw [← gq1] at A1 D1 st1
  have g_a : n0 ≤ a := Nat.le_trans (own_z0 O) (Nat.le_of_eq gq1.symm)
  have sz_a : h0.size ≤ a := Nat.le_trans Kp.1 (Nat.le_of_eq gq1.symm)
  replace O := O.ext E1
  replace Kp := Kp.ext E1
  have F_size_a : Fld Z h1 a "java/util/TreeMap" "size" "I" (.int (0 : Int32)) := D1 (Or.inl (hw _ (List.mem_of_getElem? (i := 27) rfl))) (ty := .int) (by decide)
  have F_modCount_a : Fld Z h1 a "java/util/TreeMap" "modCount" "I" (.int (0 : Int32)) := D1 (Or.inl (hw _ (List.mem_of_getElem? (i := 29) rfl))) (ty := .int) (by decide)
  have F_comparator_a : Fld Z h1 a "java/util/TreeMap" "comparator" "Ljava/util/Comparator;" .null := D1 (Or.inr (hw _ (List.mem_of_getElem? (i := 31) rfl))) (ty := (.object "java/util/Comparator")) (by decide)
  have F_root_a : Fld Z h1 a "java/util/TreeMap" "root" "Ljava/util/TreeMap$Entry;" .null := D1 (Or.inl (hw _ (List.mem_of_getElem? (i := 49) rfl))) (ty := (.object "java/util/TreeMap$Entry")) (by decide)
  refine Out.via (g' := (mkF m 3 #[.val w, .unset] [(.ref a)])) st1 ?_
  refine Out.via (g' := (mkF m 4 #[.val w, .unset] [(.ref a), (.ref a)])) (fun _ k => XS.dup X1.here hx rfl (hb hby own_d20_3) rfl rfl k) ?_
  obtain ⟨_, _, ⟨T2, L2, kc2, ks2⟩, -, X2, ⟨Lc2, hQ2, l2, y2, z2⟩, st2⟩ := X1.specialBack hx (y := (⟨"java/util/TreeMap", "<init>", "()V"⟩ : MethodName)) rfl hown (mvT hZ (hw _ (List.mem_of_getElem? (i := 14) rfl))) (mvT hZ (hw _ (List.mem_of_getElem? (i := 15) rfl))) (mvT hZ (hw _ (List.mem_of_getElem? (i := 16) rfl))) (by decide) (backOf (W := 1) (own_rmTI l Z a0 hw [] a h1 n0 O g_a A1 F_size_a F_modCount_a F_comparator_a F_root_a) hZ (hw _ (List.mem_of_getElem? (i := 16) rfl)) (hw _ (List.mem_of_getElem? (i := 13) rfl)) (by decide) (by decide)) (g := (mkF m 4 #[.val w, .unset] [(.ref a), (.ref a)])) rfl (by rw [hml]; rfl) (Steps.refl _) (a := a) (argsL := []) (rest := [(.ref a)]) (lenOf own_pd4 rfl) rfl (by show 2 * 0 + _ ≤ _; exact Nat.le_of_eq rfl) (hb hby own_d20_4) (fun _ _ => ⟨rfl, e1, (by decide : 1 + 0 ≤ _), (by decide : 9 + 0 ≤ _)⟩)
  dsimp only [Pt.U, Pt.locs, Pt.cells, Pt.slots] at X2 l2 y2 z2 st2 hQ2
  subst l2 y2 z2
  obtain ⟨rfl, Nq2, Kq2, E1, Fq_size_a, Fq_modCount_a, Fq_comparator_a, Fq_root_a⟩ := hQ2
  replace N0 := Fr.app N0 Nq2
  replace A1 := A1.keep Kq2
  replace O := O.keep Kq2 (allS g_a all0)
  replace Kp := Kp.trans Kq2 (allS (Or.inr sz_a) all0)
  refine Out.to (g' := (mkF m 7 #[.val w, .unset] [(.ref a)])) st2 ?_
  refine Out.via (g' := (mkF m 8 #[.val w, .val (.ref a)] [])) (fun _ k => XS.astoreN X2.here hx rfl (hb hby own_d20_7) rfl rfl (l' := #[.val w, .val (.ref a)]) rfl k) ?_
  refine Out.via (g' := (mkF m 9 #[.val w, .val (.ref a)] [(.ref a)])) (fun _ k => XS.aloadN X2.here hx rfl (hb hby own_d20_8) rfl rfl k) ?_
  obtain ⟨T3, X3, e3, st3⟩ := getS2 X2 hx hZ hown (host := "") (Or.inl (hw _ (List.mem_of_getElem? (i := 32) rfl))) Via.refl rfl (V_d.ext O.2) (g := (mkF m 9 #[.val w, .val (.ref a)] [(.ref a)])) rfl (hb hby own_d20_9)
  refine Out.via (g' := (mkF m 12 #[.val w, .val (.ref a)] [(.ref d), (.ref a)])) st3 ?_
  refine Out.via (g' := (mkF m 13 #[.val w, .val (.ref a)] [w, (.ref d), (.ref a)])) (fun _ k => XS.aloadN X3.here hx rfl (hb hby own_d20_12) rfl rw_ k) ?_
  obtain ⟨cq4, kq4, q4a, q4b, q4c⟩ := isOf hZ e3 E1
  obtain ⟨_, _, ⟨T4, L4, kc4, ks4⟩, -, X4, ⟨Lc4, hQ4, l4, y4, z4⟩, st4⟩ := own_ibUp X3 hx (J := "java/util/Map") (xi := (⟨"java/util/NavigableMap", "put", "(Ljava/lang/Object;Ljava/lang/Object;)Ljava/lang/Object;"⟩ : MethodName)) (y := (⟨"java/util/TreeMap", "put", "(Ljava/lang/Object;Ljava/lang/Object;)Ljava/lang/Object;"⟩ : MethodName)) hown (mvT hZ (hw _ (List.mem_of_getElem? (i := 34) rfl))) (mvT hZ (hw _ (List.mem_of_getElem? (i := 35) rfl))) (by decide) (own_mvI hZ (hw _ (List.mem_of_getElem? (i := 36) rfl))) (by decide) (mvT hZ (hw _ (List.mem_of_getElem? (i := 37) rfl))) (mvT hZ (hw _ (List.mem_of_getElem? (i := 38) rfl))) (mvT hZ (hw _ (List.mem_of_getElem? (i := 39) rfl))) (mvT hZ (hw _ (List.mem_of_getElem? (i := 40) rfl))) (mvT hZ (hw _ (List.mem_of_getElem? (i := 41) rfl))) (by decide) (backOf (W := 0) (own_rmP2 l Z a0 hw [] a d w T2.heap n0 O rw_ g_a E1 Fq_size_a Fq_modCount_a Fq_comparator_a Fq_root_a Ed D_year D_month D_day) hZ (hw _ (List.mem_of_getElem? (i := 42) rfl)) (hw _ (List.mem_of_getElem? (i := 13) rfl)) (by decide) (by decide)) q4a q4b q4c (g := (mkF m 13 #[.val w, .val (.ref a)] [w, (.ref d), (.ref a)])) rfl (by rw [hml]; rfl) (Steps.refl _) (argsL := [(.ref d), w]) (rest := []) (lenOf own_pd25 rfl) rfl (by show 2 * 0 + _ ≤ _; exact Nat.le_of_eq rfl) (hb hby own_d20_13) (fun _ _ => ⟨rfl, e3, (by decide : 1 + 1 ≤ _), (by decide : 9 + 6 ≤ _)⟩)
  dsimp only [Pt.U, Pt.locs, Pt.cells, Pt.slots] at X4 l4 y4 z4 st4 hQ4
  subst l4 y4 z4
  obtain ⟨rfl, Nq4, Kq4, Nv⟩ := hQ4
  replace N0 := Fr.app N0 Nq4
  replace E1 := E1.keep Kq4
  replace O := O.keep Kq4 (allS g_a all0)
  replace Kp := Kp.trans Kq4 (allS (Or.inr sz_a) all0)
  refine Out.to (g' := (mkF m 18 #[.val w, .val (.ref a)] [.null])) st4 ?_
  refine Out.via (g' := (mkF m 19 #[.val w, .val (.ref a)] [])) (fun _ k => XS.pop X4.here hx rfl (hb hby own_d20_18) rfl rfl k) ?_
  obtain ⟨T5, h5, X5, e5, E5, A5, D5, -, st5⟩ := newO X4 hx hZ hown (hw _ (List.mem_of_getElem? (i := 106) rfl)) (hw _ (List.mem_of_getElem? (i := 107) rfl)) (hw _ (List.mem_of_getElem? (i := 9) rfl)) rfl (g := (mkF m 19 #[.val w, .val (.ref a)] [])) rfl (hb hby own_d20_19) (by decide) (by decide)
  obtain ⟨x, gq5⟩ : ∃ z, z = T4.heap.size := ⟨_, rfl⟩
  rw [← gq5] at A5 D5 st5
  have g_x : n0 ≤ x := Nat.le_trans (own_z0 O) (Nat.le_of_eq gq5.symm)
  have sz_x : h0.size ≤ x := Nat.le_trans Kp.1 (Nat.le_of_eq gq5.symm)
  replace O := O.ext E5
  replace Kp := Kp.ext E5
  have F_values_x : Fld Z h5 x "com/example/syndicate_ledger/syndicateledger/engine/Timeline" "values" "Ljava/util/NavigableMap;" .null := D5 (Or.inr (hw _ (List.mem_of_getElem? (i := 152) rfl))) (ty := (.object "java/util/NavigableMap")) (by decide)
  replace Nv := Nv.ext E5
  refine Out.via (g' := (mkF m 22 #[.val w, .val (.ref a)] [(.ref x)])) st5 ?_
  refine Out.via (g' := (mkF m 23 #[.val w, .val (.ref a)] [(.ref x), (.ref x)])) (fun _ k => XS.dup X5.here hx rfl (hb hby own_d20_22) rfl rfl k) ?_
  refine Out.via (g' := (mkF m 24 #[.val w, .val (.ref a)] [(.ref a), (.ref x), (.ref x)])) (fun _ k => XS.aloadN X5.here hx rfl (hb hby own_d20_23) rfl rfl k) ?_
  obtain ⟨_, _, ⟨T6, L6, kc6, ks6⟩, -, X6, ⟨Lc6, hQ6, l6, y6, z6⟩, st6⟩ := X5.specialBack hx (y := (⟨"com/example/syndicate_ledger/syndicateledger/engine/Timeline", "<init>", "(Ljava/util/NavigableMap;)V"⟩ : MethodName)) rfl hown (mvT hZ (hw _ (List.mem_of_getElem? (i := 108) rfl))) (mvT hZ (hw _ (List.mem_of_getElem? (i := 109) rfl))) (mvT hZ (hw _ (List.mem_of_getElem? (i := 110) rfl))) (by decide) (backOf (W := 1) (own_rmLI l Z a0 hw [] x a mt mu h5 n0 O g_x A5 F_values_x Nv.1 M1 M2) hZ (hw _ (List.mem_of_getElem? (i := 110) rfl)) (hw _ (List.mem_of_getElem? (i := 9) rfl)) (by decide) (by decide)) (g := (mkF m 24 #[.val w, .val (.ref a)] [(.ref a), (.ref x), (.ref x)])) rfl (by rw [hml]; rfl) (Steps.refl _) (a := x) (argsL := [(.ref a)]) (rest := [(.ref x)]) (lenOf own_pd22 rfl) rfl (by show 2 * 0 + _ ≤ _; exact Nat.le_of_eq rfl) (hb hby own_d20_24) (fun _ _ => ⟨rfl, e5, (by decide : 3 + 1 ≤ _), (by decide : 16 + 6 ≤ _)⟩)
  dsimp only [Pt.U, Pt.locs, Pt.cells, Pt.slots] at X6 l6 y6 z6 st6 hQ6
  subst l6 y6 z6
  obtain ⟨rfl, Nq6, Kq6, Ex, b, Fx, Vb⟩ := hQ6
  replace Nv := own_nav_keepX Nv Kq6 A5
  replace N0 := Fr.app N0 Nq6
  replace A5 := A5.keep Kq6
  replace O := O.keep Kq6 (allS g_x all0)
  replace Kp := Kp.trans Kq6 (allS (Or.inr sz_x) all0)
  refine Out.to (g' := (mkF m 27 #[.val w, .val (.ref a)] [(.ref x)])) st6 ?_
  exact Out.endN X6 (fun h => by rw [Bd.returns] at h; cases h) Bd.notSynchronized (by decide) (by decide) (⟨x, rfl, N0, Kp, Ex, b, a, Fx, Vb, Nv⟩) (fun fs hr => own_retR X6 hx (t := (.object "com/example/syndicate_ledger/syndicateledger/engine/Timeline")) Bd.returns rfl rfl rfl (hb hby own_d20_27) hr)
theorem own_d21_0 : decode jdk_2736_method_2_code 0 = .ok (.aload_n 0, 1) := by decide +kernel
theorem own_d21_1 : decode jdk_2736_method_2_code 1 = .ok (.getfield 15, 3) := by decide +kernel
theorem own_d21_4 : decode jdk_2736_method_2_code 4 = .ok (.areturn, 1) := by decide +kernel
theorem own_efGK (m : MethodId) (x0 : Addr) : entryFrame m #[(.ref x0)] 1 = mkF m 0 #[.val (.ref x0)] [] := by first | (simp [entryFrame, mkF, argsToLocals, Value.category]; done) | rfl
abbrev own_QGK (Z : State) (r d : Addr) (h0 : Heap) (n0 : Nat) : Option Value → Heap → List Loc → Prop := fun v h L => v = some (.ref d) ∧ Fr n0 L ∧ h = h0
set_option maxRecDepth 65536 in
set_option maxHeartbeats 40000000 in
theorem own_rmGK (l : Launch) (Z : State) (a0 : Array Value) (hw : ∀ d ∈ tables_1, d.before a0 Z = true) (ws : List Jvm.Cond) (r d : Addr) (h0 : Heap) (n0 : Nat) (O : Old Z n0 h0) (G1 : Fld Z h0 r "java/util/TreeMap$Entry" "key" "Ljava/lang/Object;" (.ref d)) :
    MetFree l (⟨"java/util/TreeMap$Entry", "getKey", "()Ljava/lang/Object;"⟩ : MethodName) (head1 (Jvm.Cond.code (⟨"java/util/TreeMap$Entry", "getKey", "()Ljava/lang/Object;"⟩ : MethodName) jdk_2736_method_2_code 1 (some (.object "java/lang/Object")) :: ws) ({ frames := 0, cells := 0, slots := 0, locals := 0 } : Room)) (fun aa U => aa = #[(.ref r)] ∧ Z.Warmed39 U.vm ∧ U.heap = h0) (fun _ _ _ _ _ => True) (fun _ U o U' => ∃ v L, o = .returned v ∧ (own_QGK Z r d h0 n0) v U'.heap L ∧ FrameEnd U o U' L ({ frames := 0, cells := 0, slots := 0, locals := 0 } : Room).cells ({ frames := 0, cells := 0, slots := 0, locals := 0 } : Room).slots) := by
  refine MetFree.of_bodySF (plainFor_of_name own_pn11) hisR ?_
  intro p e s m args below meth c s₁ Bd hml0 hP hK
  obtain ⟨rfl, hZ, hh⟩ := hP
  have hx := Bd.exec
  have hby := Bd.bytes
  have hml : c.maxLocals = 1 := hml0
  have hown : s.vm.findClass "java/util/TreeMap$Entry" = some m.cls := findClass_of_methodNamed Bd.named
  have hnm := (name_of_methodNamed Bd.named Bd.method).1
  have X0 : Stand p l e ({ frames := 0, cells := 0, slots := 0, locals := 0 } : Room) s m #[(.ref r)] below meth c s₁ [] 0 0 := Stand.of_body Bd
  have e0 : s₁.heap = h0 := by rw [← hh, Bd.state]; rfl
  have N0 := Fr.nil n0
  refine Out.start (Q := own_QGK Z r d h0 n0) (own_efGK m r ) ?_
  refine Out.via (g' := (mkF m 1 #[.val (.ref r)] [(.ref r)])) (fun _ k => XS.aloadN X0.here hx rfl (hb hby own_d21_0) rfl rfl k) ?_
  obtain ⟨T1, X1, e1, st1⟩ := getF X0 hx hZ hown (host := "") (Or.inl (hw _ (List.mem_of_getElem? (i := 100) rfl))) Via.refl e0 G1 (g := (mkF m 1 #[.val (.ref r)] [(.ref r)])) rfl rfl (hb hby own_d21_1)
  refine Out.via (g' := (mkF m 4 #[.val (.ref r)] [(.ref d)])) st1 ?_
  exact Out.endN X1 (fun h => by rw [Bd.returns] at h; cases h) Bd.notSynchronized (by decide) (by decide) (by rw [e1]; exact ⟨rfl, N0, rfl⟩) (fun fs hr => own_retR X1 hx (t := (.object "java/lang/Object")) Bd.returns rfl rfl rfl (hb hby own_d21_4) hr)
theorem own_d22_0 : decode jdk_2736_method_3_code 0 = .ok (.aload_n 0, 1) := by decide +kernel
theorem own_d22_1 : decode jdk_2736_method_3_code 1 = .ok (.getfield 19, 3) := by decide +kernel
theorem own_d22_4 : decode jdk_2736_method_3_code 4 = .ok (.areturn, 1) := by decide +kernel
theorem own_efGV (m : MethodId) (x0 : Addr) : entryFrame m #[(.ref x0)] 1 = mkF m 0 #[.val (.ref x0)] [] := by first | (simp [entryFrame, mkF, argsToLocals, Value.category]; done) | rfl
abbrev own_QGV (Z : State) (r : Addr) (w : Value) (h0 : Heap) (n0 : Nat) : Option Value → Heap → List Loc → Prop := fun v h L => v = some w ∧ Fr n0 L ∧ h = h0
set_option maxRecDepth 65536 in
set_option maxHeartbeats 40000000 in
theorem own_rmGV (l : Launch) (Z : State) (a0 : Array Value) (hw : ∀ d ∈ tables_1, d.before a0 Z = true) (ws : List Jvm.Cond) (r : Addr) (w : Value) (h0 : Heap) (n0 : Nat) (O : Old Z n0 h0) (rw_ : w.isRef = true) (G1 : Fld Z h0 r "java/util/TreeMap$Entry" "value" "Ljava/lang/Object;" w) :
    MetFree l (⟨"java/util/TreeMap$Entry", "getValue", "()Ljava/lang/Object;"⟩ : MethodName) (head1 (Jvm.Cond.code (⟨"java/util/TreeMap$Entry", "getValue", "()Ljava/lang/Object;"⟩ : MethodName) jdk_2736_method_3_code 1 (some (.object "java/lang/Object")) :: ws) ({ frames := 0, cells := 0, slots := 0, locals := 0 } : Room)) (fun aa U => aa = #[(.ref r)] ∧ Z.Warmed39 U.vm ∧ U.heap = h0) (fun _ _ _ _ _ => True) (fun _ U o U' => ∃ v L, o = .returned v ∧ (own_QGV Z r w h0 n0) v U'.heap L ∧ FrameEnd U o U' L ({ frames := 0, cells := 0, slots := 0, locals := 0 } : Room).cells ({ frames := 0, cells := 0, slots := 0, locals := 0 } : Room).slots) := by
  refine MetFree.of_bodySF (plainFor_of_name own_pn11) hisR ?_
  intro p e s m args below meth c s₁ Bd hml0 hP hK
  obtain ⟨rfl, hZ, hh⟩ := hP
  have hx := Bd.exec
  have hby := Bd.bytes
  have hml : c.maxLocals = 1 := hml0
  have hown : s.vm.findClass "java/util/TreeMap$Entry" = some m.cls := findClass_of_methodNamed Bd.named
  have hnm := (name_of_methodNamed Bd.named Bd.method).1
  have X0 : Stand p l e ({ frames := 0, cells := 0, slots := 0, locals := 0 } : Room) s m #[(.ref r)] below meth c s₁ [] 0 0 := Stand.of_body Bd
  have e0 : s₁.heap = h0 := by rw [← hh, Bd.state]; rfl
  have N0 := Fr.nil n0
  refine Out.start (Q := own_QGV Z r w h0 n0) (own_efGV m r ) ?_
  refine Out.via (g' := (mkF m 1 #[.val (.ref r)] [(.ref r)])) (fun _ k => XS.aloadN X0.here hx rfl (hb hby own_d22_0) rfl rfl k) ?_
  obtain ⟨T1, X1, e1, st1⟩ := getF X0 hx hZ hown (host := "") (Or.inl (hw _ (List.mem_of_getElem? (i := 102) rfl))) Via.refl e0 G1 (g := (mkF m 1 #[.val (.ref r)] [(.ref r)])) rfl rfl (hb hby own_d22_1)
  refine Out.via (g' := (mkF m 4 #[.val (.ref r)] [w])) st1 ?_
  exact Out.endN X1 (fun h => by rw [Bd.returns] at h; cases h) Bd.notSynchronized (by decide) (by decide) (by rw [e1]; exact ⟨rfl, N0, rfl⟩) (fun fs hr => own_retR X1 hx (t := (.object "java/lang/Object")) Bd.returns (own_narR rw_) rfl (rw_) (hb hby own_d22_4) hr)
theorem own_pn26 : plainName "java/util/AbstractMap$SimpleImmutableEntry" = true := by first | (simp [plainName, overriddenIn]; done) | decide +kernel
theorem own_d23_0 : decode jdk_140_method_2_code 0 = .ok (.aload_n 0, 1) := by decide +kernel
theorem own_d23_1 : decode jdk_140_method_2_code 1 = .ok (.invokespecial 1, 3) := by decide +kernel
theorem own_d23_4 : decode jdk_140_method_2_code 4 = .ok (.aload_n 0, 1) := by decide +kernel
theorem own_d23_5 : decode jdk_140_method_2_code 5 = .ok (.aload_n 1, 1) := by decide +kernel
theorem own_d23_6 : decode jdk_140_method_2_code 6 = .ok (.invokeinterface 16 1, 5) := by decide +kernel
theorem own_pd27 : parseMethodDescriptor "()Ljava/lang/Object;" = some ⟨[], some (.object "java/lang/Object")⟩ := by decide +kernel
theorem own_d23_11 : decode jdk_140_method_2_code 11 = .ok (.putfield 7, 3) := by decide +kernel
theorem own_d23_14 : decode jdk_140_method_2_code 14 = .ok (.aload_n 0, 1) := by decide +kernel
theorem own_d23_15 : decode jdk_140_method_2_code 15 = .ok (.aload_n 1, 1) := by decide +kernel
theorem own_d23_16 : decode jdk_140_method_2_code 16 = .ok (.invokeinterface 22 1, 5) := by decide +kernel
theorem own_d23_21 : decode jdk_140_method_2_code 21 = .ok (.putfield 13, 3) := by decide +kernel
theorem own_d23_24 : decode jdk_140_method_2_code 24 = .ok (.return_, 1) := by decide +kernel
theorem own_efSI (m : MethodId) (x0 : Addr) (x1 : Addr) : entryFrame m #[(.ref x0), (.ref x1)] 2 = mkF m 0 #[.val (.ref x0), .val (.ref x1)] [] := by first | (simp [entryFrame, mkF, argsToLocals, Value.category]; done) | rfl
abbrev own_QSI (Z : State) (a r d : Addr) (w : Value) (h0 : Heap) (n0 : Nat) : Option Value → Heap → List Loc → Prop := fun v h L => v = none ∧ Fr n0 L ∧ Keep h0 h [a] ∧ Exa Z h a "java/util/AbstractMap$SimpleImmutableEntry" ∧ Fld Z h a "java/util/AbstractMap$SimpleImmutableEntry" "value" "Ljava/lang/Object;" w
set_option maxRecDepth 65536 in
set_option maxHeartbeats 40000000 in
theorem own_rmSI (l : Launch) (Z : State) (a0 : Array Value) (hw : ∀ d ∈ tables_1, d.before a0 Z = true) (ws : List Jvm.Cond) (a r d : Addr) (w : Value) (h0 : Heap) (n0 : Nat) (O : Old Z n0 h0) (rw_ : w.isRef = true) (g_a : n0 ≤ a) (E1 : Exa Z h0 a "java/util/AbstractMap$SimpleImmutableEntry") (F_key_a : Fld Z h0 a "java/util/AbstractMap$SimpleImmutableEntry" "key" "Ljava/lang/Object;" .null) (F_value_a : Fld Z h0 a "java/util/AbstractMap$SimpleImmutableEntry" "value" "Ljava/lang/Object;" .null) (Er : Exa Z h0 r "java/util/TreeMap$Entry") (G_right : Fld Z h0 r "java/util/TreeMap$Entry" "right" "Ljava/util/TreeMap$Entry;" .null) (G_value : Fld Z h0 r "java/util/TreeMap$Entry" "value" "Ljava/lang/Object;" w) (G_key : Fld Z h0 r "java/util/TreeMap$Entry" "key" "Ljava/lang/Object;" (.ref d)) :
    MetFree l (⟨"java/util/AbstractMap$SimpleImmutableEntry", "<init>", "(Ljava/util/Map$Entry;)V"⟩ : MethodName) (head1 (Jvm.Cond.code (⟨"java/util/AbstractMap$SimpleImmutableEntry", "<init>", "(Ljava/util/Map$Entry;)V"⟩ : MethodName) jdk_140_method_2_code 2 none :: ws) ({ frames := 1, cells := 0, slots := 0, locals := 13 } : Room)) (fun aa U => aa = #[(.ref a), (.ref r)] ∧ Z.Warmed39 U.vm ∧ U.heap = h0) (fun _ _ _ _ _ => True) (fun _ U o U' => ∃ v L, o = .returned v ∧ (own_QSI Z a r d w h0 n0) v U'.heap L ∧ FrameEnd U o U' L ({ frames := 1, cells := 0, slots := 0, locals := 13 } : Room).cells ({ frames := 1, cells := 0, slots := 0, locals := 13 } : Room).slots) := by
  refine MetFree.of_bodySF (plainFor_of_name own_pn26) hisR ?_
  intro p e s m args below meth c s₁ Bd hml0 hP hK
  obtain ⟨rfl, hZ, hh⟩ := hP
  have hx := Bd.exec
  have hby := Bd.bytes
  have hml : c.maxLocals = 2 := hml0
  have hown : s.vm.findClass "java/util/AbstractMap$SimpleImmutableEntry" = some m.cls := findClass_of_methodNamed Bd.named
  have hnm := (name_of_methodNamed Bd.named Bd.method).1
  have X0 : Stand p l e ({ frames := 1, cells := 0, slots := 0, locals := 13 } : Room) s m #[(.ref a), (.ref r)] below meth c s₁ [] 0 0 := Stand.of_body Bd
  have e0 : s₁.heap = h0 := by rw [← hh, Bd.state]; rfl
  have N0 := Fr.nil n0
  refine Out.start (Q := own_QSI Z a r d w h0 n0) (own_efSI m a r ) ?_
  have Kp := Keep.refl h0 [a]
  have ne_r_a : r ≠ a := Exa.ne Er E1 (by decide)
  refine Out.via (g' := (mkF m 1 #[.val (.ref a), .val (.ref r)] [(.ref a)])) (fun _ k => XS.aloadN X0.here hx rfl (hb hby own_d23_0) rfl rfl k) ?_
  obtain ⟨T1, X1, e1, st1⟩ := initO X0 hx hZ hown (hw _ (List.mem_of_getElem? (i := 190) rfl)) (hw _ (List.mem_of_getElem? (i := 24) rfl)) (hw _ (List.mem_of_getElem? (i := 25) rfl)) e0 (g := (mkF m 1 #[.val (.ref a), .val (.ref r)] [(.ref a)])) rfl (by rw [hml]; rfl) rfl (hb hby own_d23_1) (by decide) (W := 0) (by show 2 * 0 + _ ≤ _; exact Nat.le_of_eq rfl) (by decide)
  refine Out.via (g' := (mkF m 4 #[.val (.ref a), .val (.ref r)] [])) st1 ?_
  refine Out.via (g' := (mkF m 5 #[.val (.ref a), .val (.ref r)] [(.ref a)])) (fun _ k => XS.aloadN X1.here hx rfl (hb hby own_d23_4) rfl rfl k) ?_
  refine Out.via (g' := (mkF m 6 #[.val (.ref a), .val (.ref r)] [(.ref r), (.ref a)])) (fun _ k => XS.aloadN X1.here hx rfl (hb hby own_d23_5) rfl rfl k) ?_
  obtain ⟨cq2, kq2, q2a, q2b, q2c⟩ := isOf hZ e1 Er
  obtain ⟨_, _, ⟨T2, L2, kc2, ks2⟩, -, X2, ⟨Lc2, hQ2, l2, y2, z2⟩, st2⟩ := X1.interfaceBack hx (xi := (⟨"java/util/Map$Entry", "getKey", "()Ljava/lang/Object;"⟩ : MethodName)) (y := (⟨"java/util/TreeMap$Entry", "getKey", "()Ljava/lang/Object;"⟩ : MethodName)) hown (mvT hZ (hw _ (List.mem_of_getElem? (i := 191) rfl))) (mvT hZ (hw _ (List.mem_of_getElem? (i := 192) rfl))) (mvT hZ (hw _ (List.mem_of_getElem? (i := 193) rfl))) (mvT hZ (hw _ (List.mem_of_getElem? (i := 194) rfl))) (mvT hZ (hw _ (List.mem_of_getElem? (i := 195) rfl))) (mvT hZ (hw _ (List.mem_of_getElem? (i := 196) rfl))) (mvT hZ (hw _ (List.mem_of_getElem? (i := 197) rfl))) (mvT hZ (hw _ (List.mem_of_getElem? (i := 198) rfl))) (by decide) (backOf (W := 1) (own_rmGK l Z a0 hw [] r d h0 n0 O G_key) hZ (hw _ (List.mem_of_getElem? (i := 199) rfl)) (hw _ (List.mem_of_getElem? (i := 92) rfl)) (by decide) (by decide)) q2a q2b q2c (g := (mkF m 6 #[.val (.ref a), .val (.ref r)] [(.ref r), (.ref a)])) rfl (by rw [hml]; rfl) (Steps.refl _) (argsL := []) (rest := [(.ref a)]) (lenOf own_pd27 rfl) rfl (by show 2 * 0 + _ ≤ _; exact Nat.le_of_eq rfl) (hb hby own_d23_6) (fun _ _ => ⟨rfl, e1, (by decide : 0 + 0 ≤ _), (by decide : 0 + 0 ≤ _)⟩)
  dsimp only [Pt.U, Pt.locs, Pt.cells, Pt.slots] at X2 l2 y2 z2 st2 hQ2
  subst l2 y2 z2
  obtain ⟨rfl, Nq2, eq2⟩ := hQ2
  replace N0 := Fr.app N0 Nq2
  refine Out.to (g' := (mkF m 11 #[.val (.ref a), .val (.ref r)] [(.ref d), (.ref a)])) st2 ?_
  obtain ⟨T3, h3, X3, e3, W3, st3⟩ := putF X2 hx hZ hown (host := "") (Or.inl (hw _ (List.mem_of_getElem? (i := 200) rfl))) Via.refl eq2 F_key_a E1 (Or.inr ⟨(hw _ (List.mem_of_getElem? (i := 201) rfl)), rfl, hnm⟩) (hw _ (List.mem_of_getElem? (i := 184) rfl)) (ty := (.object "java/lang/Object")) (by decide) rfl rfl (g := (mkF m 11 #[.val (.ref a), .val (.ref r)] [(.ref d), (.ref a)])) rfl rfl (hb hby own_d23_11)
  replace F_key_a := F_key_a.same W3
  replace F_value_a := F_value_a.other W3 (Or.inr (slot_ne (Or.inr (hw _ (List.mem_of_getElem? (i := 211) rfl))) (Or.inr (hw _ (List.mem_of_getElem? (i := 201) rfl))) (by decide) (t := (.object "java/lang/Object")) (t' := (.object "java/lang/Object")) (by decide) (by decide)))
  replace G_key := G_key.other W3 (Or.inl ne_r_a)
  replace G_value := G_value.other W3 (Or.inl ne_r_a)
  replace E1 := E1.wr W3
  replace Er := Er.wr W3
  replace O := O.wr W3 g_a
  replace Kp := Kp.wr W3 (Or.inl (List.mem_of_getElem? (i := 0) rfl))
  replace N0 := Fr.snoc X3 N0 g_a
  refine Out.via (g' := (mkF m 14 #[.val (.ref a), .val (.ref r)] [])) st3 ?_
  refine Out.via (g' := (mkF m 15 #[.val (.ref a), .val (.ref r)] [(.ref a)])) (fun _ k => XS.aloadN X3.here hx rfl (hb hby own_d23_14) rfl rfl k) ?_
  refine Out.via (g' := (mkF m 16 #[.val (.ref a), .val (.ref r)] [(.ref r), (.ref a)])) (fun _ k => XS.aloadN X3.here hx rfl (hb hby own_d23_15) rfl rfl k) ?_
  obtain ⟨cq4, kq4, q4a, q4b, q4c⟩ := isOf hZ e3 Er
  obtain ⟨_, _, ⟨T4, L4, kc4, ks4⟩, -, X4, ⟨Lc4, hQ4, l4, y4, z4⟩, st4⟩ := X3.interfaceBack hx (xi := (⟨"java/util/Map$Entry", "getValue", "()Ljava/lang/Object;"⟩ : MethodName)) (y := (⟨"java/util/TreeMap$Entry", "getValue", "()Ljava/lang/Object;"⟩ : MethodName)) hown (mvT hZ (hw _ (List.mem_of_getElem? (i := 202) rfl))) (mvT hZ (hw _ (List.mem_of_getElem? (i := 203) rfl))) (mvT hZ (hw _ (List.mem_of_getElem? (i := 204) rfl))) (mvT hZ (hw _ (List.mem_of_getElem? (i := 205) rfl))) (mvT hZ (hw _ (List.mem_of_getElem? (i := 206) rfl))) (mvT hZ (hw _ (List.mem_of_getElem? (i := 207) rfl))) (mvT hZ (hw _ (List.mem_of_getElem? (i := 208) rfl))) (mvT hZ (hw _ (List.mem_of_getElem? (i := 198) rfl))) (by decide) (backOf (W := 1) (own_rmGV l Z a0 hw [] r w h3 n0 O rw_ G_value) hZ (hw _ (List.mem_of_getElem? (i := 209) rfl)) (hw _ (List.mem_of_getElem? (i := 92) rfl)) (by decide) (by decide)) q4a q4b q4c (g := (mkF m 16 #[.val (.ref a), .val (.ref r)] [(.ref r), (.ref a)])) rfl (by rw [hml]; rfl) (Steps.refl _) (argsL := []) (rest := [(.ref a)]) (lenOf own_pd27 rfl) rfl (by show 2 * 0 + _ ≤ _; exact Nat.le_of_eq rfl) (hb hby own_d23_16) (fun _ _ => ⟨rfl, e3, (by decide : 0 + 0 ≤ _), (by decide : 0 + 0 ≤ _)⟩)
  dsimp only [Pt.U, Pt.locs, Pt.cells, Pt.slots] at X4 l4 y4 z4 st4 hQ4
  subst l4 y4 z4
  obtain ⟨rfl, Nq4, eq4⟩ := hQ4
  replace N0 := Fr.app N0 Nq4
  refine Out.to (g' := (mkF m 21 #[.val (.ref a), .val (.ref r)] [w, (.ref a)])) st4 ?_
  obtain ⟨T5, h5, X5, e5, W5, st5⟩ := putF X4 hx hZ hown (host := "") (Or.inl (hw _ (List.mem_of_getElem? (i := 210) rfl))) Via.refl eq4 F_value_a E1 (Or.inr ⟨(hw _ (List.mem_of_getElem? (i := 211) rfl)), rfl, hnm⟩) (hw _ (List.mem_of_getElem? (i := 184) rfl)) (ty := (.object "java/lang/Object")) (by decide) (own_narR rw_) (own_fitR rw_) (g := (mkF m 21 #[.val (.ref a), .val (.ref r)] [w, (.ref a)])) rfl rfl (hb hby own_d23_21)
  replace F_value_a := F_value_a.same W5
  replace F_key_a := F_key_a.other W5 (Or.inr (slot_ne (Or.inr (hw _ (List.mem_of_getElem? (i := 201) rfl))) (Or.inr (hw _ (List.mem_of_getElem? (i := 211) rfl))) (by decide) (t := (.object "java/lang/Object")) (t' := (.object "java/lang/Object")) (by decide) (by decide)))
  replace G_key := G_key.other W5 (Or.inl ne_r_a)
  replace G_value := G_value.other W5 (Or.inl ne_r_a)
  replace E1 := E1.wr W5
  replace Er := Er.wr W5
  replace O := O.wr W5 g_a
  replace Kp := Kp.wr W5 (Or.inl (List.mem_of_getElem? (i := 0) rfl))
  replace N0 := Fr.snoc X5 N0 g_a
  refine Out.via (g' := (mkF m 24 #[.val (.ref a), .val (.ref r)] [])) st5 ?_
  exact Out.endN X5 (fun _ => rfl) Bd.notSynchronized (by decide) (by decide) (by rw [e5]; exact ⟨rfl, N0, Kp, E1, F_value_a⟩) (fun fs hr => X5.returnOut hx Bd.returns (hb hby own_d23_24) hr)
theorem own_d24_0 : decode jdk_2729_method_69_code 0 = .ok (.aload_n 0, 1) := by decide +kernel
theorem own_d24_1 : decode jdk_2729_method_69_code 1 = .ok (.ifnonnull 7, 3) := by decide +kernel
theorem own_d24_8 : decode jdk_2729_method_69_code 8 = .ok (.new 282, 3) := by decide +kernel
theorem own_d24_11 : decode jdk_2729_method_69_code 11 = .ok (.dup, 1) := by decide +kernel
theorem own_d24_12 : decode jdk_2729_method_69_code 12 = .ok (.aload_n 0, 1) := by decide +kernel
theorem own_d24_13 : decode jdk_2729_method_69_code 13 = .ok (.invokespecial 284, 3) := by decide +kernel
theorem own_pd28 : parseMethodDescriptor "(Ljava/util/Map$Entry;)V" = some ⟨[(.object "java/util/Map$Entry")], none⟩ := by decide +kernel
theorem own_d24_16 : decode jdk_2729_method_69_code 16 = .ok (.areturn, 1) := by decide +kernel
theorem own_efEX (m : MethodId) (x0 : Addr) : entryFrame m #[(.ref x0)] 1 = mkF m 0 #[.val (.ref x0)] [] := by first | (simp [entryFrame, mkF, argsToLocals, Value.category]; done) | rfl
abbrev own_QEX (Z : State) (r d : Addr) (w : Value) (h0 : Heap) (n0 : Nat) : Option Value → Heap → List Loc → Prop := fun v h L => ∃ z : Addr, v = some (.ref z) ∧ Fr n0 L ∧ Keep h0 h [] ∧ Exa Z h z "java/util/AbstractMap$SimpleImmutableEntry" ∧ Fld Z h z "java/util/AbstractMap$SimpleImmutableEntry" "value" "Ljava/lang/Object;" w
set_option maxRecDepth 65536 in
set_option maxHeartbeats 40000000 in
theorem own_rmEX (l : Launch) (Z : State) (a0 : Array Value) (hw : ∀ d ∈ tables_1, d.before a0 Z = true) (ws : List Jvm.Cond) (r d : Addr) (w : Value) (h0 : Heap) (n0 : Nat) (O : Old Z n0 h0) (rw_ : w.isRef = true) (Er : Exa Z h0 r "java/util/TreeMap$Entry") (G_right : Fld Z h0 r "java/util/TreeMap$Entry" "right" "Ljava/util/TreeMap$Entry;" .null) (G_value : Fld Z h0 r "java/util/TreeMap$Entry" "value" "Ljava/lang/Object;" w) (G_key : Fld Z h0 r "java/util/TreeMap$Entry" "key" "Ljava/lang/Object;" (.ref d)) :
    MetFree l (⟨"java/util/TreeMap", "exportEntry", "(Ljava/util/TreeMap$Entry;)Ljava/util/Map$Entry;"⟩ : MethodName) (head1 (Jvm.Cond.code (⟨"java/util/TreeMap", "exportEntry", "(Ljava/util/TreeMap$Entry;)Ljava/util/Map$Entry;"⟩ : MethodName) jdk_2729_method_69_code 1 (some (.object "java/util/Map$Entry")) :: ws) ({ frames := 2, cells := 1, slots := 2, locals := 27 } : Room)) (fun aa U => aa = #[(.ref r)] ∧ Z.Warmed39 U.vm ∧ U.heap = h0) (fun _ _ _ _ _ => True) (fun _ U o U' => ∃ v L, o = .returned v ∧ (own_QEX Z r d w h0 n0) v U'.heap L ∧ FrameEnd U o U' L ({ frames := 2, cells := 1, slots := 2, locals := 27 } : Room).cells ({ frames := 2, cells := 1, slots := 2, locals := 27 } : Room).slots) := by
  refine MetFree.of_bodySF (plainFor_of_name own_pn9) hisR ?_
  intro p e s m args below meth c s₁ Bd hml0 hP hK
  obtain ⟨rfl, hZ, hh⟩ := hP
  have hx := Bd.exec
  have hby := Bd.bytes
  have hml : c.maxLocals = 1 := hml0
  have hown : s.vm.findClass "java/util/TreeMap" = some m.cls := findClass_of_methodNamed Bd.named
  have hnm := (name_of_methodNamed Bd.named Bd.method).1
  have X0 : Stand p l e ({ frames := 2, cells := 1, slots := 2, locals := 27 } : Room) s m #[(.ref r)] below meth c s₁ [] 0 0 := Stand.of_body Bd
  have e0 : s₁.heap = h0 := by rw [← hh, Bd.state]; rfl
  have N0 := Fr.nil n0
  refine Out.start (Q := own_QEX Z r d w h0 n0) (own_efEX m r ) ?_
  have Kp := Keep.refl h0 []
  refine Out.via (g' := (mkF m 1 #[.val (.ref r)] [(.ref r)])) (fun _ k => XS.aloadN X0.here hx rfl (hb hby own_d24_0) rfl rfl k) ?_
  refine Out.via (g' := (mkF m 8 #[.val (.ref r)] [])) (fun _ k => XS.ifnonnullYes X0.here hx rfl (pc0 := 1) (pc' := 8) rfl (hb hby own_d24_1) rfl (by decide) (by decide) k) ?_
  obtain ⟨T1, h1, X1, e1, E1, A1, D1, -, st1⟩ := newO X0 hx hZ hown (hw _ (List.mem_of_getElem? (i := 183) rfl)) (hw _ (List.mem_of_getElem? (i := 184) rfl)) (hw _ (List.mem_of_getElem? (i := 185) rfl)) e0 (g := (mkF m 8 #[.val (.ref r)] [])) rfl (hb hby own_d24_8) (by decide) (by decide)
  obtain ⟨z, gq1⟩ : ∃ z, z = h0.size := ⟨_, rfl⟩
  rw [← gq1] at A1 D1 st1
  have ne_r_z : r ≠ z := Nat.ne_of_lt (Nat.lt_of_lt_of_le Er.lt (Nat.le_of_eq gq1.symm))
  have g_z : n0 ≤ z := Nat.le_trans (own_z0 O) (Nat.le_of_eq gq1.symm)
  have sz_z : h0.size ≤ z := Nat.le_trans Kp.1 (Nat.le_of_eq gq1.symm)
  replace G_key := G_key.ext E1
  replace G_value := G_value.ext E1
  replace G_right := G_right.ext E1
  replace Er := Er.ext E1
  replace O := O.ext E1
  replace Kp := Kp.ext E1
  have F_key_z : Fld Z h1 z "java/util/AbstractMap$SimpleImmutableEntry" "key" "Ljava/lang/Object;" .null := D1 (Or.inr (hw _ (List.mem_of_getElem? (i := 201) rfl))) (ty := (.object "java/lang/Object")) (by decide)
  have F_value_z : Fld Z h1 z "java/util/AbstractMap$SimpleImmutableEntry" "value" "Ljava/lang/Object;" .null := D1 (Or.inr (hw _ (List.mem_of_getElem? (i := 211) rfl))) (ty := (.object "java/lang/Object")) (by decide)
  refine Out.via (g' := (mkF m 11 #[.val (.ref r)] [(.ref z)])) st1 ?_
  refine Out.via (g' := (mkF m 12 #[.val (.ref r)] [(.ref z), (.ref z)])) (fun _ k => XS.dup X1.here hx rfl (hb hby own_d24_11) rfl rfl k) ?_
  refine Out.via (g' := (mkF m 13 #[.val (.ref r)] [(.ref r), (.ref z), (.ref z)])) (fun _ k => XS.aloadN X1.here hx rfl (hb hby own_d24_12) rfl rfl k) ?_
  obtain ⟨_, _, ⟨T2, L2, kc2, ks2⟩, -, X2, ⟨Lc2, hQ2, l2, y2, z2⟩, st2⟩ := X1.specialBack hx (y := (⟨"java/util/AbstractMap$SimpleImmutableEntry", "<init>", "(Ljava/util/Map$Entry;)V"⟩ : MethodName)) rfl hown (mvT hZ (hw _ (List.mem_of_getElem? (i := 186) rfl))) (mvT hZ (hw _ (List.mem_of_getElem? (i := 187) rfl))) (mvT hZ (hw _ (List.mem_of_getElem? (i := 189) rfl))) (by decide) (backOf (W := 1) (own_rmSI l Z a0 hw [] z r d w h1 n0 O rw_ g_z A1 F_key_z F_value_z Er G_right G_value G_key) hZ (hw _ (List.mem_of_getElem? (i := 189) rfl)) (hw _ (List.mem_of_getElem? (i := 185) rfl)) (by decide) (by decide)) (g := (mkF m 13 #[.val (.ref r)] [(.ref r), (.ref z), (.ref z)])) rfl (by rw [hml]; rfl) (Steps.refl _) (a := z) (argsL := [(.ref r)]) (rest := [(.ref z)]) (lenOf own_pd28 rfl) rfl (by show 2 * 0 + _ ≤ _; exact Nat.le_of_eq rfl) (hb hby own_d24_13) (fun _ _ => ⟨rfl, e1, (by decide : 1 + 0 ≤ _), (by decide : 2 + 0 ≤ _)⟩)
  dsimp only [Pt.U, Pt.locs, Pt.cells, Pt.slots] at X2 l2 y2 z2 st2 hQ2
  subst l2 y2 z2
  obtain ⟨rfl, Nq2, Kq2, Ez, Fz⟩ := hQ2
  replace N0 := Fr.app N0 Nq2
  replace G_key := G_key.keep Kq2 (ninS ne_r_z nin0)
  replace G_value := G_value.keep Kq2 (ninS ne_r_z nin0)
  replace G_right := G_right.keep Kq2 (ninS ne_r_z nin0)
  replace Er := Er.keep Kq2
  replace A1 := A1.keep Kq2
  replace O := O.keep Kq2 (allS g_z all0)
  replace Kp := Kp.trans Kq2 (allS (Or.inr sz_z) all0)
  refine Out.to (g' := (mkF m 16 #[.val (.ref r)] [(.ref z)])) st2 ?_
  exact Out.endN X2 (fun h => by rw [Bd.returns] at h; cases h) Bd.notSynchronized (by decide) (by decide) (⟨z, rfl, N0, Kp, Ez, Fz⟩) (fun fs hr => own_retR X2 hx (t := (.object "java/util/Map$Entry")) Bd.returns rfl rfl rfl (hb hby own_d24_16) hr)
theorem own_d25_0 : decode jdk_2729_method_73_code 0 = .ok (.aload_n 0, 1) := by decide +kernel
theorem own_d25_1 : decode jdk_2729_method_73_code 1 = .ok (.getfield 101, 3) := by decide +kernel
theorem own_d25_4 : decode jdk_2729_method_73_code 4 = .ok (.astore_n 1, 1) := by decide +kernel
theorem own_d25_5 : decode jdk_2729_method_73_code 5 = .ok (.aload_n 1, 1) := by decide +kernel
theorem own_d25_6 : decode jdk_2729_method_73_code 6 = .ok (.ifnull 18, 3) := by decide +kernel
theorem own_d25_9 : decode jdk_2729_method_73_code 9 = .ok (.aload_n 1, 1) := by decide +kernel
theorem own_d25_10 : decode jdk_2729_method_73_code 10 = .ok (.getfield 114, 3) := by decide +kernel
theorem own_d25_13 : decode jdk_2729_method_73_code 13 = .ok (.ifnull 11, 3) := by decide +kernel
theorem own_d25_24 : decode jdk_2729_method_73_code 24 = .ok (.aload_n 1, 1) := by decide +kernel
theorem own_d25_25 : decode jdk_2729_method_73_code 25 = .ok (.areturn, 1) := by decide +kernel
theorem own_efGL (m : MethodId) (x0 : Addr) : entryFrame m #[(.ref x0)] 2 = mkF m 0 #[.val (.ref x0), .unset] [] := by first | (simp [entryFrame, mkF, argsToLocals, Value.category]; done) | rfl
abbrev own_QGL (Z : State) (a r : Addr) (h0 : Heap) (n0 : Nat) : Option Value → Heap → List Loc → Prop := fun v h L => v = some (.ref r) ∧ Fr n0 L ∧ h = h0
set_option maxRecDepth 65536 in
set_option maxHeartbeats 40000000 in
theorem own_rmGL (l : Launch) (Z : State) (a0 : Array Value) (hw : ∀ d ∈ tables_1, d.before a0 Z = true) (ws : List Jvm.Cond) (a r : Addr) (h0 : Heap) (n0 : Nat) (O : Old Z n0 h0) (F1 : Fld Z h0 a "java/util/TreeMap" "root" "Ljava/util/TreeMap$Entry;" (.ref r)) (F2 : Fld Z h0 r "java/util/TreeMap$Entry" "right" "Ljava/util/TreeMap$Entry;" .null) :
    MetFree l (⟨"java/util/TreeMap", "getLastEntry", "()Ljava/util/TreeMap$Entry;"⟩ : MethodName) (head1 (Jvm.Cond.code (⟨"java/util/TreeMap", "getLastEntry", "()Ljava/util/TreeMap$Entry;"⟩ : MethodName) jdk_2729_method_73_code 2 (some (.object "java/util/TreeMap$Entry")) :: ws) ({ frames := 0, cells := 0, slots := 0, locals := 0 } : Room)) (fun aa U => aa = #[(.ref a)] ∧ Z.Warmed39 U.vm ∧ U.heap = h0) (fun _ _ _ _ _ => True) (fun _ U o U' => ∃ v L, o = .returned v ∧ (own_QGL Z a r h0 n0) v U'.heap L ∧ FrameEnd U o U' L ({ frames := 0, cells := 0, slots := 0, locals := 0 } : Room).cells ({ frames := 0, cells := 0, slots := 0, locals := 0 } : Room).slots) := by
  refine MetFree.of_bodySF (plainFor_of_name own_pn9) hisR ?_
  intro p e s m args below meth c s₁ Bd hml0 hP hK
  obtain ⟨rfl, hZ, hh⟩ := hP
  have hx := Bd.exec
  have hby := Bd.bytes
  have hml : c.maxLocals = 2 := hml0
  have hown : s.vm.findClass "java/util/TreeMap" = some m.cls := findClass_of_methodNamed Bd.named
  have hnm := (name_of_methodNamed Bd.named Bd.method).1
  have X0 : Stand p l e ({ frames := 0, cells := 0, slots := 0, locals := 0 } : Room) s m #[(.ref a)] below meth c s₁ [] 0 0 := Stand.of_body Bd
  have e0 : s₁.heap = h0 := by rw [← hh, Bd.state]; rfl
  have N0 := Fr.nil n0
  refine Out.start (Q := own_QGL Z a r h0 n0) (own_efGL m a ) ?_
  refine Out.via (g' := (mkF m 1 #[.val (.ref a), .unset] [(.ref a)])) (fun _ k => XS.aloadN X0.here hx rfl (hb hby own_d25_0) rfl rfl k) ?_
  obtain ⟨T1, X1, e1, st1⟩ := getF X0 hx hZ hown (host := "") (Or.inl (hw _ (List.mem_of_getElem? (i := 48) rfl))) Via.refl e0 F1 (g := (mkF m 1 #[.val (.ref a), .unset] [(.ref a)])) rfl rfl (hb hby own_d25_1)
  refine Out.via (g' := (mkF m 4 #[.val (.ref a), .unset] [(.ref r)])) st1 ?_
  refine Out.via (g' := (mkF m 5 #[.val (.ref a), .val (.ref r)] [])) (fun _ k => XS.astoreN X1.here hx rfl (hb hby own_d25_4) rfl rfl (l' := #[.val (.ref a), .val (.ref r)]) rfl k) ?_
  refine Out.via (g' := (mkF m 6 #[.val (.ref a), .val (.ref r)] [(.ref r)])) (fun _ k => XS.aloadN X1.here hx rfl (hb hby own_d25_5) rfl rfl k) ?_
  refine Out.via (g' := (mkF m 9 #[.val (.ref a), .val (.ref r)] [])) (fun _ k => XS.ifnullNo X1.here hx rfl (hb hby own_d25_6) rfl k) ?_
  refine Out.via (g' := (mkF m 10 #[.val (.ref a), .val (.ref r)] [(.ref r)])) (fun _ k => XS.aloadN X1.here hx rfl (hb hby own_d25_9) rfl rfl k) ?_
  obtain ⟨T2, X2, e2, st2⟩ := getF X1 hx hZ hown (host := "") (Or.inl (hw _ (List.mem_of_getElem? (i := 178) rfl))) Via.refl e1 F2 (g := (mkF m 10 #[.val (.ref a), .val (.ref r)] [(.ref r)])) rfl rfl (hb hby own_d25_10)
  refine Out.via (g' := (mkF m 13 #[.val (.ref a), .val (.ref r)] [.null])) st2 ?_
  refine Out.via (g' := (mkF m 24 #[.val (.ref a), .val (.ref r)] [])) (fun _ k => XS.ifnullYes X2.here hx rfl (pc0 := 13) (pc' := 24) rfl (hb hby own_d25_13) rfl (by decide) (by decide) k) ?_
  refine Out.via (g' := (mkF m 25 #[.val (.ref a), .val (.ref r)] [(.ref r)])) (fun _ k => XS.aloadN X2.here hx rfl (hb hby own_d25_24) rfl rfl k) ?_
  exact Out.endN X2 (fun h => by rw [Bd.returns] at h; cases h) Bd.notSynchronized (by decide) (by decide) (by rw [e2]; exact ⟨rfl, N0, rfl⟩) (fun fs hr => own_retR X2 hx (t := (.object "java/util/TreeMap$Entry")) Bd.returns rfl rfl rfl (hb hby own_d25_25) hr)
theorem own_d26_0 : decode jdk_2729_method_38_code 0 = .ok (.aload_n 0, 1) := by decide +kernel
theorem own_d26_1 : decode jdk_2729_method_38_code 1 = .ok (.invokevirtual 76, 3) := by decide +kernel
theorem own_pd29 : parseMethodDescriptor "()Ljava/util/TreeMap$Entry;" = some ⟨[], some (.object "java/util/TreeMap$Entry")⟩ := by decide +kernel
theorem own_d26_4 : decode jdk_2729_method_38_code 4 = .ok (.invokestatic 200, 3) := by decide +kernel
theorem own_pd30 : parseMethodDescriptor "(Ljava/util/TreeMap$Entry;)Ljava/util/Map$Entry;" = some ⟨[(.object "java/util/TreeMap$Entry")], some (.object "java/util/Map$Entry")⟩ := by decide +kernel
theorem own_d26_7 : decode jdk_2729_method_38_code 7 = .ok (.areturn, 1) := by decide +kernel
theorem own_efLE (m : MethodId) (x0 : Addr) : entryFrame m #[(.ref x0)] 1 = mkF m 0 #[.val (.ref x0)] [] := by first | (simp [entryFrame, mkF, argsToLocals, Value.category]; done) | rfl
abbrev own_QLE (Z : State) (a d : Addr) (w : Value) (h0 : Heap) (n0 : Nat) : Option Value → Heap → List Loc → Prop := fun v h L => ∃ z : Addr, v = some (.ref z) ∧ Fr n0 L ∧ Keep h0 h [] ∧ Exa Z h z "java/util/AbstractMap$SimpleImmutableEntry" ∧ Fld Z h z "java/util/AbstractMap$SimpleImmutableEntry" "value" "Ljava/lang/Object;" w
set_option maxRecDepth 65536 in
set_option maxHeartbeats 40000000 in
theorem own_rmLE (l : Launch) (Z : State) (a0 : Array Value) (hw : ∀ d ∈ tables_1, d.before a0 Z = true) (ws : List Jvm.Cond) (a d : Addr) (w : Value) (h0 : Heap) (n0 : Nat) (O : Old Z n0 h0) (rw_ : w.isRef = true) (Nv : own_Nav Z h0 a d w) :
    MetFree l (⟨"java/util/TreeMap", "lastEntry", "()Ljava/util/Map$Entry;"⟩ : MethodName) (head1 (Jvm.Cond.code (⟨"java/util/TreeMap", "lastEntry", "()Ljava/util/Map$Entry;"⟩ : MethodName) jdk_2729_method_38_code 1 (some (.object "java/util/Map$Entry")) :: ws) ({ frames := 3, cells := 1, slots := 2, locals := 39 } : Room)) (fun aa U => aa = #[(.ref a)] ∧ Z.Warmed39 U.vm ∧ U.heap = h0) (fun _ _ _ _ _ => True) (fun _ U o U' => ∃ v L, o = .returned v ∧ (own_QLE Z a d w h0 n0) v U'.heap L ∧ FrameEnd U o U' L ({ frames := 3, cells := 1, slots := 2, locals := 39 } : Room).cells ({ frames := 3, cells := 1, slots := 2, locals := 39 } : Room).slots) := by
  refine MetFree.of_bodySF (plainFor_of_name own_pn9) hisR ?_
  intro p e s m args below meth c s₁ Bd hml0 hP hK
  obtain ⟨rfl, hZ, hh⟩ := hP
  have hx := Bd.exec
  have hby := Bd.bytes
  have hml : c.maxLocals = 1 := hml0
  have hown : s.vm.findClass "java/util/TreeMap" = some m.cls := findClass_of_methodNamed Bd.named
  have hnm := (name_of_methodNamed Bd.named Bd.method).1
  have X0 : Stand p l e ({ frames := 3, cells := 1, slots := 2, locals := 39 } : Room) s m #[(.ref a)] below meth c s₁ [] 0 0 := Stand.of_body Bd
  have e0 : s₁.heap = h0 := by rw [← hh, Bd.state]; rfl
  have N0 := Fr.nil n0
  refine Out.start (Q := own_QLE Z a d w h0 n0) (own_efLE m a ) ?_
  obtain ⟨E1, r, F1, Er, G_right, G_value, G_key⟩ := Nv
  refine Out.via (g' := (mkF m 1 #[.val (.ref a)] [(.ref a)])) (fun _ k => XS.aloadN X0.here hx rfl (hb hby own_d26_0) rfl rfl k) ?_
  obtain ⟨cq1, kq1, q1a, q1b, q1c⟩ := isOf hZ e0 E1
  obtain ⟨_, _, ⟨T1, L1, kc1, ks1⟩, -, X1, ⟨Lc1, hQ1, l1, y1, z1⟩, st1⟩ := X0.virtualBack hx (y := (⟨"java/util/TreeMap", "getLastEntry", "()Ljava/util/TreeMap$Entry;"⟩ : MethodName)) (z := (⟨"java/util/TreeMap", "getLastEntry", "()Ljava/util/TreeMap$Entry;"⟩ : MethodName)) hown (mvT hZ (hw _ (List.mem_of_getElem? (i := 173) rfl))) (mvT hZ (hw _ (List.mem_of_getElem? (i := 174) rfl))) (notFace_of_selects (args := #[]) (mvT hZ (hw _ (List.mem_of_getElem? (i := 176) rfl)))) (mvT hZ (hw _ (List.mem_of_getElem? (i := 176) rfl))) (mvT hZ (hw _ (List.mem_of_getElem? (i := 175) rfl))) (by decide) (backOf (W := 0) (own_rmGL l Z a0 hw [] a r h0 n0 O F1 G_right) hZ (hw _ (List.mem_of_getElem? (i := 177) rfl)) (hw _ (List.mem_of_getElem? (i := 13) rfl)) (by decide) (by decide)) q1a q1c (g := (mkF m 1 #[.val (.ref a)] [(.ref a)])) rfl (by rw [hml]; rfl) (Steps.refl _) (argsL := []) (rest := []) (lenOf own_pd29 rfl) rfl (by show 2 * 0 + _ ≤ _; exact Nat.le_of_eq rfl) (hb hby own_d26_1) (fun _ _ => ⟨rfl, e0, (by decide : 0 + 0 ≤ _), (by decide : 0 + 0 ≤ _)⟩)
  dsimp only [Pt.U, Pt.locs, Pt.cells, Pt.slots] at X1 l1 y1 z1 st1 hQ1
  subst l1 y1 z1
  obtain ⟨rfl, Nq1, eq1⟩ := hQ1
  replace N0 := Fr.app N0 Nq1
  refine Out.to (g' := (mkF m 4 #[.val (.ref a)] [(.ref r)])) st1 ?_
  obtain ⟨_, _, ⟨T2, L2, kc2, ks2⟩, -, X2, ⟨Lc2, hQ2, l2, y2, z2⟩, st2⟩ := Jvm.LawKit.callS X1 hx (y := (⟨"java/util/TreeMap", "exportEntry", "(Ljava/util/TreeMap$Entry;)Ljava/util/Map$Entry;"⟩ : MethodName)) hown (mvT hZ (hw _ (List.mem_of_getElem? (i := 180) rfl))) (mvT hZ (hw _ (List.mem_of_getElem? (i := 181) rfl))) (mvT hZ (hw _ (List.mem_of_getElem? (i := 13) rfl))) (mvT hZ (hw _ (List.mem_of_getElem? (i := 182) rfl))) (by decide) (backOf (W := 0) (own_rmEX l Z a0 hw [] r d w h0 n0 O rw_ Er G_right G_value G_key) hZ (hw _ (List.mem_of_getElem? (i := 182) rfl)) (hw _ (List.mem_of_getElem? (i := 13) rfl)) (by decide) (by decide)) (g := (mkF m 4 #[.val (.ref a)] [(.ref r)])) rfl (by rw [hml]; rfl) (argsL := [(.ref r)]) (rest := []) (lenOf own_pd30 rfl) rfl (by show 2 * 0 + _ ≤ _; exact Nat.le_of_eq rfl) (hb hby own_d26_4) (fun _ _ => ⟨rfl, eq1, (by decide : 0 + 1 ≤ _), (by decide : 0 + 2 ≤ _)⟩)
  dsimp only [Pt.U, Pt.locs, Pt.cells, Pt.slots] at X2 l2 y2 z2 st2 hQ2
  subst l2 y2 z2
  obtain ⟨z, rfl, Nq2, Kq2, Ez, Fz⟩ := hQ2
  refine Out.via (g' := (mkF m 7 #[.val (.ref a)] [(.ref z)])) st2 ?_
  exact Out.endN X2 (fun h => by rw [Bd.returns] at h; cases h) Bd.notSynchronized (by decide) (by decide) (⟨z, rfl, Fr.app N0 Nq2, Kq2, Ez, Fz⟩) (fun fs hr => own_retR X2 hx (t := (.object "java/util/Map$Entry")) Bd.returns rfl rfl rfl (hb hby own_d26_7) hr)
theorem own_pn31 : plainName "java/util/Collections$UnmodifiableMap$UnmodifiableEntrySet$UnmodifiableEntry" = true := by first | (simp [plainName, overriddenIn]; done) | decide +kernel
theorem own_d27_0 : decode jdk_2503_method_1_code 0 = .ok (.aload_n 0, 1) := by decide +kernel
theorem own_d27_1 : decode jdk_2503_method_1_code 1 = .ok (.invokespecial 1, 3) := by decide +kernel
theorem own_d27_4 : decode jdk_2503_method_1_code 4 = .ok (.aload_n 0, 1) := by decide +kernel
theorem own_d27_5 : decode jdk_2503_method_1_code 5 = .ok (.aload_n 1, 1) := by decide +kernel
theorem own_d27_6 : decode jdk_2503_method_1_code 6 = .ok (.invokestatic 7, 3) := by decide +kernel
theorem own_pd32 : parseMethodDescriptor "(Ljava/lang/Object;)Ljava/lang/Object;" = some ⟨[(.object "java/lang/Object")], some (.object "java/lang/Object")⟩ := by decide +kernel
theorem own_d27_9 : decode jdk_2503_method_1_code 9 = .ok (.checkcast 13, 3) := by decide +kernel
theorem own_d27_12 : decode jdk_2503_method_1_code 12 = .ok (.putfield 15, 3) := by decide +kernel
theorem own_d27_15 : decode jdk_2503_method_1_code 15 = .ok (.return_, 1) := by decide +kernel
theorem own_efUI (m : MethodId) (x0 : Addr) (x1 : Addr) : entryFrame m #[(.ref x0), (.ref x1)] 2 = mkF m 0 #[.val (.ref x0), .val (.ref x1)] [] := by first | (simp [entryFrame, mkF, argsToLocals, Value.category]; done) | rfl
abbrev own_QUI (Z : State) (a z : Addr) (h0 : Heap) (n0 : Nat) : Option Value → Heap → List Loc → Prop := fun v h L => v = none ∧ Fr n0 L ∧ Keep h0 h [a] ∧ Exa Z h a "java/util/Collections$UnmodifiableMap$UnmodifiableEntrySet$UnmodifiableEntry" ∧ Fld Z h a "java/util/Collections$UnmodifiableMap$UnmodifiableEntrySet$UnmodifiableEntry" "e" "Ljava/util/Map$Entry;" (.ref z)
set_option maxRecDepth 65536 in
set_option maxHeartbeats 40000000 in
theorem own_rmUI (l : Launch) (Z : State) (a0 : Array Value) (hw : ∀ d ∈ tables_1, d.before a0 Z = true) (ws : List Jvm.Cond) (a z : Addr) (h0 : Heap) (n0 : Nat) (O : Old Z n0 h0) (g_a : n0 ≤ a) (E1 : Exa Z h0 a "java/util/Collections$UnmodifiableMap$UnmodifiableEntrySet$UnmodifiableEntry") (F_e_a : Fld Z h0 a "java/util/Collections$UnmodifiableMap$UnmodifiableEntrySet$UnmodifiableEntry" "e" "Ljava/util/Map$Entry;" .null) (Ez : Exa Z h0 z "java/util/AbstractMap$SimpleImmutableEntry") :
    MetFree l (⟨"java/util/Collections$UnmodifiableMap$UnmodifiableEntrySet$UnmodifiableEntry", "<init>", "(Ljava/util/Map$Entry;)V"⟩ : MethodName) (head1 (Jvm.Cond.code (⟨"java/util/Collections$UnmodifiableMap$UnmodifiableEntrySet$UnmodifiableEntry", "<init>", "(Ljava/util/Map$Entry;)V"⟩ : MethodName) jdk_2503_method_1_code 2 none :: ws) ({ frames := 1, cells := 0, slots := 0, locals := 13 } : Room)) (fun aa U => aa = #[(.ref a), (.ref z)] ∧ Z.Warmed39 U.vm ∧ U.heap = h0) (fun _ _ _ _ _ => True) (fun _ U o U' => ∃ v L, o = .returned v ∧ (own_QUI Z a z h0 n0) v U'.heap L ∧ FrameEnd U o U' L ({ frames := 1, cells := 0, slots := 0, locals := 13 } : Room).cells ({ frames := 1, cells := 0, slots := 0, locals := 13 } : Room).slots) := by
  refine MetFree.of_bodySF (plainFor_of_name own_pn31) hisR ?_
  intro p e s m args below meth c s₁ Bd hml0 hP hK
  obtain ⟨rfl, hZ, hh⟩ := hP
  have hx := Bd.exec
  have hby := Bd.bytes
  have hml : c.maxLocals = 2 := hml0
  have hown : s.vm.findClass "java/util/Collections$UnmodifiableMap$UnmodifiableEntrySet$UnmodifiableEntry" = some m.cls := findClass_of_methodNamed Bd.named
  have hnm := (name_of_methodNamed Bd.named Bd.method).1
  have X0 : Stand p l e ({ frames := 1, cells := 0, slots := 0, locals := 13 } : Room) s m #[(.ref a), (.ref z)] below meth c s₁ [] 0 0 := Stand.of_body Bd
  have e0 : s₁.heap = h0 := by rw [← hh, Bd.state]; rfl
  have N0 := Fr.nil n0
  refine Out.start (Q := own_QUI Z a z h0 n0) (own_efUI m a z ) ?_
  have Kp := Keep.refl h0 [a]
  refine Out.via (g' := (mkF m 1 #[.val (.ref a), .val (.ref z)] [(.ref a)])) (fun _ k => XS.aloadN X0.here hx rfl (hb hby own_d27_0) rfl rfl k) ?_
  obtain ⟨T1, X1, e1, st1⟩ := initO X0 hx hZ hown (hw _ (List.mem_of_getElem? (i := 219) rfl)) (hw _ (List.mem_of_getElem? (i := 24) rfl)) (hw _ (List.mem_of_getElem? (i := 25) rfl)) e0 (g := (mkF m 1 #[.val (.ref a), .val (.ref z)] [(.ref a)])) rfl (by rw [hml]; rfl) rfl (hb hby own_d27_1) (by decide) (W := 0) (by show 2 * 0 + _ ≤ _; exact Nat.le_of_eq rfl) (by decide)
  refine Out.via (g' := (mkF m 4 #[.val (.ref a), .val (.ref z)] [])) st1 ?_
  refine Out.via (g' := (mkF m 5 #[.val (.ref a), .val (.ref z)] [(.ref a)])) (fun _ k => XS.aloadN X1.here hx rfl (hb hby own_d27_4) rfl rfl k) ?_
  refine Out.via (g' := (mkF m 6 #[.val (.ref a), .val (.ref z)] [(.ref z), (.ref a)])) (fun _ k => XS.aloadN X1.here hx rfl (hb hby own_d27_5) rfl rfl k) ?_
  obtain ⟨_, _, ⟨T2, L2, kc2, ks2⟩, -, X2, ⟨Lc2, hQ2, l2, y2, z2⟩, st2⟩ := Jvm.LawKit.callS X1 hx (y := (⟨"java/util/Objects", "requireNonNull", "(Ljava/lang/Object;)Ljava/lang/Object;"⟩ : MethodName)) hown (mvT hZ (hw _ (List.mem_of_getElem? (i := 220) rfl))) (mvT hZ (hw _ (List.mem_of_getElem? (i := 221) rfl))) (mvT hZ (hw _ (List.mem_of_getElem? (i := 222) rfl))) (mvT hZ (hw _ (List.mem_of_getElem? (i := 223) rfl))) (by decide) (backOf (W := 1) (own_rmN1 l Z a0 hw [] z h0 n0 O) hZ (hw _ (List.mem_of_getElem? (i := 223) rfl)) (hw _ (List.mem_of_getElem? (i := 222) rfl)) (by decide) (by decide)) (g := (mkF m 6 #[.val (.ref a), .val (.ref z)] [(.ref z), (.ref a)])) rfl (by rw [hml]; rfl) (argsL := [(.ref z)]) (rest := [(.ref a)]) (lenOf own_pd32 rfl) rfl (by show 2 * 0 + _ ≤ _; exact Nat.le_of_eq rfl) (hb hby own_d27_6) (fun _ _ => ⟨rfl, e1, (by decide : 0 + 0 ≤ _), (by decide : 0 + 0 ≤ _)⟩)
  dsimp only [Pt.U, Pt.locs, Pt.cells, Pt.slots] at X2 l2 y2 z2 st2 hQ2
  subst l2 y2 z2
  obtain ⟨rfl, Nq2, eq2⟩ := hQ2
  replace N0 := Fr.app N0 Nq2
  refine Out.via (g' := (mkF m 9 #[.val (.ref a), .val (.ref z)] [(.ref z), (.ref a)])) st2 ?_
  obtain ⟨T3, X3, e3, st3⟩ := castY X2 hx hZ hown (hw _ (List.mem_of_getElem? (i := 224) rfl)) eq2 (Ins.of_exa Ez (hw _ (List.mem_of_getElem? (i := 225) rfl))) (g := (mkF m 9 #[.val (.ref a), .val (.ref z)] [(.ref z), (.ref a)])) rfl rfl (hb hby own_d27_9)
  refine Out.via (g' := (mkF m 12 #[.val (.ref a), .val (.ref z)] [(.ref z), (.ref a)])) st3 ?_
  obtain ⟨T4, h4, X4, e4, W4, st4⟩ := putF X3 hx hZ hown (host := "") (Or.inl (hw _ (List.mem_of_getElem? (i := 226) rfl))) Via.refl e3 F_e_a E1 (Or.inl (hw _ (List.mem_of_getElem? (i := 227) rfl))) (hw _ (List.mem_of_getElem? (i := 213) rfl)) (ty := (.object "java/util/Map$Entry")) (by decide) rfl rfl (g := (mkF m 12 #[.val (.ref a), .val (.ref z)] [(.ref z), (.ref a)])) rfl rfl (hb hby own_d27_12)
  replace F_e_a := F_e_a.same W4
  replace E1 := E1.wr W4
  replace Ez := Ez.wr W4
  replace O := O.wr W4 g_a
  replace Kp := Kp.wr W4 (Or.inl (List.mem_of_getElem? (i := 0) rfl))
  replace N0 := Fr.snoc X4 N0 g_a
  refine Out.via (g' := (mkF m 15 #[.val (.ref a), .val (.ref z)] [])) st4 ?_
  exact Out.endN X4 (fun _ => rfl) Bd.notSynchronized (by decide) (by decide) (by rw [e4]; exact ⟨rfl, N0, Kp, E1, F_e_a⟩) (fun fs hr => X4.returnOut hx Bd.returns (hb hby own_d27_15) hr)
theorem own_d28_0 : decode jdk_2505_method_11_code 0 = .ok (.aload_n 0, 1) := by decide +kernel
theorem own_d28_1 : decode jdk_2505_method_11_code 1 = .ok (.getfield 7, 3) := by decide +kernel
theorem own_d28_4 : decode jdk_2505_method_11_code 4 = .ok (.invokeinterface 50 1, 5) := by decide +kernel
theorem own_pd33 : parseMethodDescriptor "()Ljava/util/Map$Entry;" = some ⟨[], some (.object "java/util/Map$Entry")⟩ := by decide +kernel
theorem own_d28_9 : decode jdk_2505_method_11_code 9 = .ok (.astore_n 1, 1) := by decide +kernel
theorem own_d28_10 : decode jdk_2505_method_11_code 10 = .ok (.aconst_null, 1) := by decide +kernel
theorem own_d28_11 : decode jdk_2505_method_11_code 11 = .ok (.aload_n 1, 1) := by decide +kernel
theorem own_d28_12 : decode jdk_2505_method_11_code 12 = .ok (.if_acmp .eq 14, 3) := by decide +kernel
theorem own_d28_15 : decode jdk_2505_method_11_code 15 = .ok (.new 32, 3) := by decide +kernel
theorem own_d28_18 : decode jdk_2505_method_11_code 18 = .ok (.dup, 1) := by decide +kernel
theorem own_d28_19 : decode jdk_2505_method_11_code 19 = .ok (.aload_n 1, 1) := by decide +kernel
theorem own_d28_20 : decode jdk_2505_method_11_code 20 = .ok (.invokespecial 34, 3) := by decide +kernel
theorem own_d28_23 : decode jdk_2505_method_11_code 23 = .ok (.goto 4, 3) := by decide +kernel
theorem own_d28_27 : decode jdk_2505_method_11_code 27 = .ok (.areturn, 1) := by decide +kernel
theorem own_efLU (m : MethodId) (x0 : Addr) : entryFrame m #[(.ref x0)] 2 = mkF m 0 #[.val (.ref x0), .unset] [] := by first | (simp [entryFrame, mkF, argsToLocals, Value.category]; done) | rfl
abbrev own_QLU (Z : State) (b a d : Addr) (w : Value) (h0 : Heap) (n0 : Nat) : Option Value → Heap → List Loc → Prop := fun v h L => ∃ u z : Addr, v = some (.ref u) ∧ Fr n0 L ∧ Keep h0 h [] ∧ Exa Z h u "java/util/Collections$UnmodifiableMap$UnmodifiableEntrySet$UnmodifiableEntry" ∧ Fld Z h u "java/util/Collections$UnmodifiableMap$UnmodifiableEntrySet$UnmodifiableEntry" "e" "Ljava/util/Map$Entry;" (.ref z) ∧ Exa Z h z "java/util/AbstractMap$SimpleImmutableEntry" ∧ Fld Z h z "java/util/AbstractMap$SimpleImmutableEntry" "value" "Ljava/lang/Object;" w
set_option maxRecDepth 65536 in
set_option maxHeartbeats 40000000 in
theorem own_rmLU (l : Launch) (Z : State) (a0 : Array Value) (hw : ∀ d ∈ tables_1, d.before a0 Z = true) (ws : List Jvm.Cond) (b a d : Addr) (w : Value) (h0 : Heap) (n0 : Nat) (O : Old Z n0 h0) (rw_ : w.isRef = true) (Fb : Fld Z h0 b "java/util/Collections$UnmodifiableNavigableMap" "nm" "Ljava/util/NavigableMap;" (.ref a)) (Nv : own_Nav Z h0 a d w) :
    MetFree l (⟨"java/util/Collections$UnmodifiableNavigableMap", "lastEntry", "()Ljava/util/Map$Entry;"⟩ : MethodName) (head1 (Jvm.Cond.code (⟨"java/util/Collections$UnmodifiableNavigableMap", "lastEntry", "()Ljava/util/Map$Entry;"⟩ : MethodName) jdk_2505_method_11_code 2 (some (.object "java/util/Map$Entry")) :: ws) ({ frames := 4, cells := 2, slots := 3, locals := 51 } : Room)) (fun aa U => aa = #[(.ref b)] ∧ Z.Warmed39 U.vm ∧ U.heap = h0) (fun _ _ _ _ _ => True) (fun _ U o U' => ∃ v L, o = .returned v ∧ (own_QLU Z b a d w h0 n0) v U'.heap L ∧ FrameEnd U o U' L ({ frames := 4, cells := 2, slots := 3, locals := 51 } : Room).cells ({ frames := 4, cells := 2, slots := 3, locals := 51 } : Room).slots) := by
  refine MetFree.of_bodySF (plainFor_of_name own_pn19) hisR ?_
  intro p e s m args below meth c s₁ Bd hml0 hP hK
  obtain ⟨rfl, hZ, hh⟩ := hP
  have hx := Bd.exec
  have hby := Bd.bytes
  have hml : c.maxLocals = 2 := hml0
  have hown : s.vm.findClass "java/util/Collections$UnmodifiableNavigableMap" = some m.cls := findClass_of_methodNamed Bd.named
  have hnm := (name_of_methodNamed Bd.named Bd.method).1
  have X0 : Stand p l e ({ frames := 4, cells := 2, slots := 3, locals := 51 } : Room) s m #[(.ref b)] below meth c s₁ [] 0 0 := Stand.of_body Bd
  have e0 : s₁.heap = h0 := by rw [← hh, Bd.state]; rfl
  have N0 := Fr.nil n0
  refine Out.start (Q := own_QLU Z b a d w h0 n0) (own_efLU m b ) ?_
  have Kp := Keep.refl h0 []
  have E1 := Nv.1
  refine Out.via (g' := (mkF m 1 #[.val (.ref b), .unset] [(.ref b)])) (fun _ k => XS.aloadN X0.here hx rfl (hb hby own_d28_0) rfl rfl k) ?_
  obtain ⟨T1, X1, e1, st1⟩ := getF X0 hx hZ hown (host := "") (Or.inl (hw _ (List.mem_of_getElem? (i := 149) rfl))) Via.refl e0 Fb (g := (mkF m 1 #[.val (.ref b), .unset] [(.ref b)])) rfl rfl (hb hby own_d28_1)
  refine Out.via (g' := (mkF m 4 #[.val (.ref b), .unset] [(.ref a)])) st1 ?_
  obtain ⟨cq2, kq2, q2a, q2b, q2c⟩ := isOf hZ e1 E1
  obtain ⟨_, _, ⟨T2, L2, kc2, ks2⟩, -, X2, ⟨Lc2, hQ2, l2, y2, z2⟩, st2⟩ := X1.interfaceBack hx (xi := (⟨"java/util/NavigableMap", "lastEntry", "()Ljava/util/Map$Entry;"⟩ : MethodName)) (y := (⟨"java/util/TreeMap", "lastEntry", "()Ljava/util/Map$Entry;"⟩ : MethodName)) hown (mvT hZ (hw _ (List.mem_of_getElem? (i := 167) rfl))) (mvT hZ (hw _ (List.mem_of_getElem? (i := 159) rfl))) (mvT hZ (hw _ (List.mem_of_getElem? (i := 160) rfl))) (mvT hZ (hw _ (List.mem_of_getElem? (i := 168) rfl))) (mvT hZ (hw _ (List.mem_of_getElem? (i := 169) rfl))) (mvT hZ (hw _ (List.mem_of_getElem? (i := 170) rfl))) (mvT hZ (hw _ (List.mem_of_getElem? (i := 171) rfl))) (mvT hZ (hw _ (List.mem_of_getElem? (i := 41) rfl))) (by decide) (backOf (W := 0) (own_rmLE l Z a0 hw [] a d w h0 n0 O rw_ Nv) hZ (hw _ (List.mem_of_getElem? (i := 172) rfl)) (hw _ (List.mem_of_getElem? (i := 13) rfl)) (by decide) (by decide)) q2a q2b q2c (g := (mkF m 4 #[.val (.ref b), .unset] [(.ref a)])) rfl (by rw [hml]; rfl) (Steps.refl _) (argsL := []) (rest := []) (lenOf own_pd33 rfl) rfl (by show 2 * 0 + _ ≤ _; exact Nat.le_of_eq rfl) (hb hby own_d28_4) (fun _ _ => ⟨rfl, e1, (by decide : 0 + 1 ≤ _), (by decide : 0 + 2 ≤ _)⟩)
  dsimp only [Pt.U, Pt.locs, Pt.cells, Pt.slots] at X2 l2 y2 z2 st2 hQ2
  subst l2 y2 z2
  obtain ⟨z, rfl, Nq2, Kq2, Ez, Fz⟩ := hQ2
  replace N0 := Fr.app N0 Nq2
  replace Fb := Fb.keep Kq2 nin0
  replace E1 := E1.keep Kq2
  replace O := O.keep Kq2 all0
  replace Kp := Kp.trans Kq2 all0
  refine Out.to (g' := (mkF m 9 #[.val (.ref b), .unset] [(.ref z)])) st2 ?_
  refine Out.via (g' := (mkF m 10 #[.val (.ref b), .val (.ref z)] [])) (fun _ k => XS.astoreN X2.here hx rfl (hb hby own_d28_9) rfl rfl (l' := #[.val (.ref b), .val (.ref z)]) rfl k) ?_
  refine Out.via (g' := (mkF m 11 #[.val (.ref b), .val (.ref z)] [.null])) (fun _ k => XS.aconstNull X2.here hx rfl (hb hby own_d28_10) k) ?_
  refine Out.via (g' := (mkF m 12 #[.val (.ref b), .val (.ref z)] [(.ref z), .null])) (fun _ k => XS.aloadN X2.here hx rfl (hb hby own_d28_11) rfl rfl k) ?_
  refine Out.via (g' := (mkF m 15 #[.val (.ref b), .val (.ref z)] [])) (fun _ k => Jvm.RoadKit.acmp (g := (mkF m 12 #[.val (.ref b), .val (.ref z)] [(.ref z), .null])) X2 hx rfl rfl rfl (pc0 := 12) (pc' := 15) (same := false) rfl (hb hby own_d28_12) rfl (rfl) (by decide) (by decide) k) ?_
  obtain ⟨T3, h3, X3, e3, E3, A3, D3, -, st3⟩ := newO X2 hx hZ hown (hw _ (List.mem_of_getElem? (i := 212) rfl)) (hw _ (List.mem_of_getElem? (i := 213) rfl)) (hw _ (List.mem_of_getElem? (i := 214) rfl)) rfl (g := (mkF m 15 #[.val (.ref b), .val (.ref z)] [])) rfl (hb hby own_d28_15) (by decide) (by decide)
  obtain ⟨u, gq3⟩ : ∃ z, z = T2.heap.size := ⟨_, rfl⟩
  rw [← gq3] at A3 D3 st3
  have ne_z_u : z ≠ u := Nat.ne_of_lt (Nat.lt_of_lt_of_le Ez.lt (Nat.le_of_eq gq3.symm))
  have g_u : n0 ≤ u := Nat.le_trans (own_z0 O) (Nat.le_of_eq gq3.symm)
  have sz_u : h0.size ≤ u := Nat.le_trans Kp.1 (Nat.le_of_eq gq3.symm)
  replace Fz := Fz.ext E3
  replace Ez := Ez.ext E3
  replace O := O.ext E3
  replace Kp := Kp.ext E3
  have F_e_u : Fld Z h3 u "java/util/Collections$UnmodifiableMap$UnmodifiableEntrySet$UnmodifiableEntry" "e" "Ljava/util/Map$Entry;" .null := D3 (Or.inl (hw _ (List.mem_of_getElem? (i := 227) rfl))) (ty := (.object "java/util/Map$Entry")) (by decide)
  refine Out.via (g' := (mkF m 18 #[.val (.ref b), .val (.ref z)] [(.ref u)])) st3 ?_
  refine Out.via (g' := (mkF m 19 #[.val (.ref b), .val (.ref z)] [(.ref u), (.ref u)])) (fun _ k => XS.dup X3.here hx rfl (hb hby own_d28_18) rfl rfl k) ?_
  refine Out.via (g' := (mkF m 20 #[.val (.ref b), .val (.ref z)] [(.ref z), (.ref u), (.ref u)])) (fun _ k => XS.aloadN X3.here hx rfl (hb hby own_d28_19) rfl rfl k) ?_
  obtain ⟨_, _, ⟨T4, L4, kc4, ks4⟩, -, X4, ⟨Lc4, hQ4, l4, y4, z4⟩, st4⟩ := X3.specialBack hx (y := (⟨"java/util/Collections$UnmodifiableMap$UnmodifiableEntrySet$UnmodifiableEntry", "<init>", "(Ljava/util/Map$Entry;)V"⟩ : MethodName)) rfl hown (mvT hZ (hw _ (List.mem_of_getElem? (i := 215) rfl))) (mvT hZ (hw _ (List.mem_of_getElem? (i := 216) rfl))) (mvT hZ (hw _ (List.mem_of_getElem? (i := 218) rfl))) (by decide) (backOf (W := 1) (own_rmUI l Z a0 hw [] u z h3 n0 O g_u A3 F_e_u Ez) hZ (hw _ (List.mem_of_getElem? (i := 218) rfl)) (hw _ (List.mem_of_getElem? (i := 214) rfl)) (by decide) (by decide)) (g := (mkF m 20 #[.val (.ref b), .val (.ref z)] [(.ref z), (.ref u), (.ref u)])) rfl (by rw [hml]; rfl) (Steps.refl _) (a := u) (argsL := [(.ref z)]) (rest := [(.ref u)]) (lenOf own_pd28 rfl) rfl (by show 2 * 0 + _ ≤ _; exact Nat.le_of_eq rfl) (hb hby own_d28_20) (fun _ _ => ⟨rfl, e3, (by decide : 2 + 0 ≤ _), (by decide : 3 + 0 ≤ _)⟩)
  dsimp only [Pt.U, Pt.locs, Pt.cells, Pt.slots] at X4 l4 y4 z4 st4 hQ4
  subst l4 y4 z4
  obtain ⟨rfl, Nq4, Kq4, Eu, Fu⟩ := hQ4
  replace N0 := Fr.app N0 Nq4
  replace Fz := Fz.keep Kq4 (ninS ne_z_u nin0)
  replace Ez := Ez.keep Kq4
  replace A3 := A3.keep Kq4
  replace O := O.keep Kq4 (allS g_u all0)
  replace Kp := Kp.trans Kq4 (allS (Or.inr sz_u) all0)
  refine Out.to (g' := (mkF m 23 #[.val (.ref b), .val (.ref z)] [(.ref u)])) st4 ?_
  refine Out.via (g' := (mkF m 27 #[.val (.ref b), .val (.ref z)] [(.ref u)])) (fun _ k => XS.goto X4.here hx rfl (pc0 := 23) (pc' := 27) rfl (hb hby own_d28_23) (by decide) (by decide) k) ?_
  exact Out.endN X4 (fun h => by rw [Bd.returns] at h; cases h) Bd.notSynchronized (by decide) (by decide) (⟨u, z, rfl, N0, Kp, Eu, Fu, Ez, Fz⟩) (fun fs hr => own_retR X4 hx (t := (.object "java/util/Map$Entry")) Bd.returns rfl rfl rfl (hb hby own_d28_27) hr)
theorem own_d29_0 : decode jdk_140_method_4_code 0 = .ok (.aload_n 0, 1) := by decide +kernel
theorem own_d29_1 : decode jdk_140_method_4_code 1 = .ok (.getfield 13, 3) := by decide +kernel
theorem own_d29_4 : decode jdk_140_method_4_code 4 = .ok (.areturn, 1) := by decide +kernel
theorem own_efGS (m : MethodId) (x0 : Addr) : entryFrame m #[(.ref x0)] 1 = mkF m 0 #[.val (.ref x0)] [] := by first | (simp [entryFrame, mkF, argsToLocals, Value.category]; done) | rfl
abbrev own_QGS (Z : State) (z : Addr) (w : Value) (h0 : Heap) (n0 : Nat) : Option Value → Heap → List Loc → Prop := fun v h L => v = some w ∧ Fr n0 L ∧ h = h0
set_option maxRecDepth 65536 in
set_option maxHeartbeats 40000000 in
theorem own_rmGS (l : Launch) (Z : State) (a0 : Array Value) (hw : ∀ d ∈ tables_1, d.before a0 Z = true) (ws : List Jvm.Cond) (z : Addr) (w : Value) (h0 : Heap) (n0 : Nat) (O : Old Z n0 h0) (rw_ : w.isRef = true) (G1 : Fld Z h0 z "java/util/AbstractMap$SimpleImmutableEntry" "value" "Ljava/lang/Object;" w) :
    MetFree l (⟨"java/util/AbstractMap$SimpleImmutableEntry", "getValue", "()Ljava/lang/Object;"⟩ : MethodName) (head1 (Jvm.Cond.code (⟨"java/util/AbstractMap$SimpleImmutableEntry", "getValue", "()Ljava/lang/Object;"⟩ : MethodName) jdk_140_method_4_code 1 (some (.object "java/lang/Object")) :: ws) ({ frames := 0, cells := 0, slots := 0, locals := 0 } : Room)) (fun aa U => aa = #[(.ref z)] ∧ Z.Warmed39 U.vm ∧ U.heap = h0) (fun _ _ _ _ _ => True) (fun _ U o U' => ∃ v L, o = .returned v ∧ (own_QGS Z z w h0 n0) v U'.heap L ∧ FrameEnd U o U' L ({ frames := 0, cells := 0, slots := 0, locals := 0 } : Room).cells ({ frames := 0, cells := 0, slots := 0, locals := 0 } : Room).slots) := by
  refine MetFree.of_bodySF (plainFor_of_name own_pn26) hisR ?_
  intro p e s m args below meth c s₁ Bd hml0 hP hK
  obtain ⟨rfl, hZ, hh⟩ := hP
  have hx := Bd.exec
  have hby := Bd.bytes
  have hml : c.maxLocals = 1 := hml0
  have hown : s.vm.findClass "java/util/AbstractMap$SimpleImmutableEntry" = some m.cls := findClass_of_methodNamed Bd.named
  have hnm := (name_of_methodNamed Bd.named Bd.method).1
  have X0 : Stand p l e ({ frames := 0, cells := 0, slots := 0, locals := 0 } : Room) s m #[(.ref z)] below meth c s₁ [] 0 0 := Stand.of_body Bd
  have e0 : s₁.heap = h0 := by rw [← hh, Bd.state]; rfl
  have N0 := Fr.nil n0
  refine Out.start (Q := own_QGS Z z w h0 n0) (own_efGS m z ) ?_
  refine Out.via (g' := (mkF m 1 #[.val (.ref z)] [(.ref z)])) (fun _ k => XS.aloadN X0.here hx rfl (hb hby own_d29_0) rfl rfl k) ?_
  obtain ⟨T1, X1, e1, st1⟩ := getF X0 hx hZ hown (host := "") (Or.inl (hw _ (List.mem_of_getElem? (i := 210) rfl))) Via.refl e0 G1 (g := (mkF m 1 #[.val (.ref z)] [(.ref z)])) rfl rfl (hb hby own_d29_1)
  refine Out.via (g' := (mkF m 4 #[.val (.ref z)] [w])) st1 ?_
  exact Out.endN X1 (fun h => by rw [Bd.returns] at h; cases h) Bd.notSynchronized (by decide) (by decide) (by rw [e1]; exact ⟨rfl, N0, rfl⟩) (fun fs hr => own_retR X1 hx (t := (.object "java/lang/Object")) Bd.returns (own_narR rw_) rfl (rw_) (hb hby own_d29_4) hr)
theorem own_d30_0 : decode jdk_2503_method_3_code 0 = .ok (.aload_n 0, 1) := by decide +kernel
theorem own_d30_1 : decode jdk_2503_method_3_code 1 = .ok (.getfield 15, 3) := by decide +kernel
theorem own_d30_4 : decode jdk_2503_method_3_code 4 = .ok (.invokeinterface 25 1, 5) := by decide +kernel
theorem own_d30_9 : decode jdk_2503_method_3_code 9 = .ok (.areturn, 1) := by decide +kernel
theorem own_efGU (m : MethodId) (x0 : Addr) : entryFrame m #[(.ref x0)] 1 = mkF m 0 #[.val (.ref x0)] [] := by first | (simp [entryFrame, mkF, argsToLocals, Value.category]; done) | rfl
abbrev own_QGU (Z : State) (u z : Addr) (w : Value) (h0 : Heap) (n0 : Nat) : Option Value → Heap → List Loc → Prop := fun v h L => v = some w ∧ Fr n0 L ∧ h = h0
set_option maxRecDepth 65536 in
set_option maxHeartbeats 40000000 in
theorem own_rmGU (l : Launch) (Z : State) (a0 : Array Value) (hw : ∀ d ∈ tables_1, d.before a0 Z = true) (ws : List Jvm.Cond) (u z : Addr) (w : Value) (h0 : Heap) (n0 : Nat) (O : Old Z n0 h0) (rw_ : w.isRef = true) (Fu : Fld Z h0 u "java/util/Collections$UnmodifiableMap$UnmodifiableEntrySet$UnmodifiableEntry" "e" "Ljava/util/Map$Entry;" (.ref z)) (Ez : Exa Z h0 z "java/util/AbstractMap$SimpleImmutableEntry") (Fz : Fld Z h0 z "java/util/AbstractMap$SimpleImmutableEntry" "value" "Ljava/lang/Object;" w) :
    MetFree l (⟨"java/util/Collections$UnmodifiableMap$UnmodifiableEntrySet$UnmodifiableEntry", "getValue", "()Ljava/lang/Object;"⟩ : MethodName) (head1 (Jvm.Cond.code (⟨"java/util/Collections$UnmodifiableMap$UnmodifiableEntrySet$UnmodifiableEntry", "getValue", "()Ljava/lang/Object;"⟩ : MethodName) jdk_2503_method_3_code 1 (some (.object "java/lang/Object")) :: ws) ({ frames := 1, cells := 0, slots := 0, locals := 12 } : Room)) (fun aa U => aa = #[(.ref u)] ∧ Z.Warmed39 U.vm ∧ U.heap = h0) (fun _ _ _ _ _ => True) (fun _ U o U' => ∃ v L, o = .returned v ∧ (own_QGU Z u z w h0 n0) v U'.heap L ∧ FrameEnd U o U' L ({ frames := 1, cells := 0, slots := 0, locals := 12 } : Room).cells ({ frames := 1, cells := 0, slots := 0, locals := 12 } : Room).slots) := by
  refine MetFree.of_bodySF (plainFor_of_name own_pn31) hisR ?_
  intro p e s m args below meth c s₁ Bd hml0 hP hK
  obtain ⟨rfl, hZ, hh⟩ := hP
  have hx := Bd.exec
  have hby := Bd.bytes
  have hml : c.maxLocals = 1 := hml0
  have hown : s.vm.findClass "java/util/Collections$UnmodifiableMap$UnmodifiableEntrySet$UnmodifiableEntry" = some m.cls := findClass_of_methodNamed Bd.named
  have hnm := (name_of_methodNamed Bd.named Bd.method).1
  have X0 : Stand p l e ({ frames := 1, cells := 0, slots := 0, locals := 12 } : Room) s m #[(.ref u)] below meth c s₁ [] 0 0 := Stand.of_body Bd
  have e0 : s₁.heap = h0 := by rw [← hh, Bd.state]; rfl
  have N0 := Fr.nil n0
  refine Out.start (Q := own_QGU Z u z w h0 n0) (own_efGU m u ) ?_
  refine Out.via (g' := (mkF m 1 #[.val (.ref u)] [(.ref u)])) (fun _ k => XS.aloadN X0.here hx rfl (hb hby own_d30_0) rfl rfl k) ?_
  obtain ⟨T1, X1, e1, st1⟩ := getF X0 hx hZ hown (host := "") (Or.inl (hw _ (List.mem_of_getElem? (i := 226) rfl))) Via.refl e0 Fu (g := (mkF m 1 #[.val (.ref u)] [(.ref u)])) rfl rfl (hb hby own_d30_1)
  refine Out.via (g' := (mkF m 4 #[.val (.ref u)] [(.ref z)])) st1 ?_
  obtain ⟨cq2, kq2, q2a, q2b, q2c⟩ := isOf hZ e1 Ez
  obtain ⟨_, _, ⟨T2, L2, kc2, ks2⟩, -, X2, ⟨Lc2, hQ2, l2, y2, z2⟩, st2⟩ := X1.interfaceBack hx (xi := (⟨"java/util/Map$Entry", "getValue", "()Ljava/lang/Object;"⟩ : MethodName)) (y := (⟨"java/util/AbstractMap$SimpleImmutableEntry", "getValue", "()Ljava/lang/Object;"⟩ : MethodName)) hown (mvT hZ (hw _ (List.mem_of_getElem? (i := 235) rfl))) (mvT hZ (hw _ (List.mem_of_getElem? (i := 203) rfl))) (mvT hZ (hw _ (List.mem_of_getElem? (i := 204) rfl))) (mvT hZ (hw _ (List.mem_of_getElem? (i := 236) rfl))) (mvT hZ (hw _ (List.mem_of_getElem? (i := 237) rfl))) (mvT hZ (hw _ (List.mem_of_getElem? (i := 238) rfl))) (mvT hZ (hw _ (List.mem_of_getElem? (i := 239) rfl))) (mvT hZ (hw _ (List.mem_of_getElem? (i := 225) rfl))) (by decide) (backOf (W := 0) (own_rmGS l Z a0 hw [] z w h0 n0 O rw_ Fz) hZ (hw _ (List.mem_of_getElem? (i := 240) rfl)) (hw _ (List.mem_of_getElem? (i := 185) rfl)) (by decide) (by decide)) q2a q2b q2c (g := (mkF m 4 #[.val (.ref u)] [(.ref z)])) rfl (by rw [hml]; rfl) (Steps.refl _) (argsL := []) (rest := []) (lenOf own_pd27 rfl) rfl (by show 2 * 0 + _ ≤ _; exact Nat.le_of_eq rfl) (hb hby own_d30_4) (fun _ _ => ⟨rfl, e1, (by decide : 0 + 0 ≤ _), (by decide : 0 + 0 ≤ _)⟩)
  dsimp only [Pt.U, Pt.locs, Pt.cells, Pt.slots] at X2 l2 y2 z2 st2 hQ2
  subst l2 y2 z2
  obtain ⟨rfl, Nq2, eq2⟩ := hQ2
  replace N0 := Fr.app N0 Nq2
  refine Out.to (g' := (mkF m 9 #[.val (.ref u)] [w])) st2 ?_
  exact Out.endN X2 (fun h => by rw [Bd.returns] at h; cases h) Bd.notSynchronized (by decide) (by decide) (by rw [eq2]; exact ⟨rfl, N0, rfl⟩) (fun fs hr => own_retR X2 hx (t := (.object "java/lang/Object")) Bd.returns (own_narR rw_) rfl (rw_) (hb hby own_d30_9) hr)
theorem own_d31_0 : decode prog_22_method_5_code 0 = .ok (.aload_n 0, 1) := by decide +kernel
theorem own_d31_1 : decode prog_22_method_5_code 1 = .ok (.getfield 13, 3) := by decide +kernel
theorem own_d31_4 : decode prog_22_method_5_code 4 = .ok (.invokeinterface 74 1, 5) := by decide +kernel
theorem own_d31_9 : decode prog_22_method_5_code 9 = .ok (.invokeinterface 69 1, 5) := by decide +kernel
theorem own_d31_14 : decode prog_22_method_5_code 14 = .ok (.areturn, 1) := by decide +kernel
theorem own_efLA (m : MethodId) (x0 : Addr) : entryFrame m #[(.ref x0)] 1 = mkF m 0 #[.val (.ref x0)] [] := by first | (simp [entryFrame, mkF, argsToLocals, Value.category]; done) | rfl
abbrev own_QLA (Z : State) (x d : Addr) (w : Value) (h0 : Heap) (n0 : Nat) : Option Value → Heap → List Loc → Prop := fun v h L => v = some w ∧ Fr n0 L ∧ Keep h0 h []
set_option maxRecDepth 65536 in
set_option maxHeartbeats 40000000 in
theorem own_rmLA (l : Launch) (Z : State) (a0 : Array Value) (hw : ∀ d ∈ tables_1, d.before a0 Z = true) (ws : List Jvm.Cond) (x d : Addr) (w : Value) (h0 : Heap) (n0 : Nat) (O : Old Z n0 h0) (rw_ : w.isRef = true) (Tl : own_TL Z h0 x d w) :
    MetFree l (⟨"com/example/syndicate_ledger/syndicateledger/engine/Timeline", "latest", "()Ljava/lang/Object;"⟩ : MethodName) (head1 (Jvm.Cond.code (⟨"com/example/syndicate_ledger/syndicateledger/engine/Timeline", "latest", "()Ljava/lang/Object;"⟩ : MethodName) prog_22_method_5_code 1 (some (.object "java/lang/Object")) :: ws) ({ frames := 5, cells := 2, slots := 3, locals := 64 } : Room)) (fun aa U => aa = #[(.ref x)] ∧ Z.Warmed39 U.vm ∧ U.heap = h0) (fun _ _ _ _ _ => True) (fun _ U o U' => ∃ v L, o = .returned v ∧ (own_QLA Z x d w h0 n0) v U'.heap L ∧ FrameEnd U o U' L ({ frames := 5, cells := 2, slots := 3, locals := 64 } : Room).cells ({ frames := 5, cells := 2, slots := 3, locals := 64 } : Room).slots) := by
  refine MetFree.of_bodySF (plainFor_of_name own_pn23) hisR ?_
  intro p e s m args below meth c s₁ Bd hml0 hP hK
  obtain ⟨rfl, hZ, hh⟩ := hP
  have hx := Bd.exec
  have hby := Bd.bytes
  have hml : c.maxLocals = 1 := hml0
  have hown : s.vm.findClass "com/example/syndicate_ledger/syndicateledger/engine/Timeline" = some m.cls := findClass_of_methodNamed Bd.named
  have hnm := (name_of_methodNamed Bd.named Bd.method).1
  have X0 : Stand p l e ({ frames := 5, cells := 2, slots := 3, locals := 64 } : Room) s m #[(.ref x)] below meth c s₁ [] 0 0 := Stand.of_body Bd
  have e0 : s₁.heap = h0 := by rw [← hh, Bd.state]; rfl
  have N0 := Fr.nil n0
  refine Out.start (Q := own_QLA Z x d w h0 n0) (own_efLA m x ) ?_
  obtain ⟨E0, b, a, F0, Vb, Nv⟩ := Tl
  refine Out.via (g' := (mkF m 1 #[.val (.ref x)] [(.ref x)])) (fun _ k => XS.aloadN X0.here hx rfl (hb hby own_d31_0) rfl rfl k) ?_
  obtain ⟨T1, X1, e1, st1⟩ := getF X0 hx hZ hown (host := "") (Or.inl (hw _ (List.mem_of_getElem? (i := 151) rfl))) Via.refl e0 F0 (g := (mkF m 1 #[.val (.ref x)] [(.ref x)])) rfl rfl (hb hby own_d31_1)
  refine Out.via (g' := (mkF m 4 #[.val (.ref x)] [(.ref b)])) st1 ?_
  rcases Vb with hba | ⟨Eb, Fb⟩
  · subst hba
    have E1 := Nv.1
    obtain ⟨cq2, kq2, q2a, q2b, q2c⟩ := isOf hZ e1 E1
    obtain ⟨_, _, ⟨T2, L2, kc2, ks2⟩, -, X2, ⟨Lc2, hQ2, l2, y2, z2⟩, st2⟩ := X1.interfaceBack hx (xi := (⟨"java/util/NavigableMap", "lastEntry", "()Ljava/util/Map$Entry;"⟩ : MethodName)) (y := (⟨"java/util/TreeMap", "lastEntry", "()Ljava/util/Map$Entry;"⟩ : MethodName)) hown (mvT hZ (hw _ (List.mem_of_getElem? (i := 158) rfl))) (mvT hZ (hw _ (List.mem_of_getElem? (i := 159) rfl))) (mvT hZ (hw _ (List.mem_of_getElem? (i := 160) rfl))) (mvT hZ (hw _ (List.mem_of_getElem? (i := 168) rfl))) (mvT hZ (hw _ (List.mem_of_getElem? (i := 169) rfl))) (mvT hZ (hw _ (List.mem_of_getElem? (i := 170) rfl))) (mvT hZ (hw _ (List.mem_of_getElem? (i := 171) rfl))) (mvT hZ (hw _ (List.mem_of_getElem? (i := 41) rfl))) (by decide) (backOf (W := 0) (own_rmLE l Z a0 hw [] b d w h0 n0 O rw_ Nv) hZ (hw _ (List.mem_of_getElem? (i := 172) rfl)) (hw _ (List.mem_of_getElem? (i := 13) rfl)) (by decide) (by decide)) q2a q2b q2c (g := (mkF m 4 #[.val (.ref x)] [(.ref b)])) rfl (by rw [hml]; rfl) (Steps.refl _) (argsL := []) (rest := []) (lenOf own_pd33 rfl) rfl (by show 2 * 0 + _ ≤ _; exact Nat.le_of_eq rfl) (hb hby own_d31_4) (fun _ _ => ⟨rfl, e1, (by decide : 0 + 1 ≤ _), (by decide : 0 + 2 ≤ _)⟩)
    dsimp only [Pt.U, Pt.locs, Pt.cells, Pt.slots] at X2 l2 y2 z2 st2 hQ2
    subst l2 y2 z2
    obtain ⟨z, rfl, Nq2, Kq2, Ez, Fz⟩ := hQ2
    replace N0 := Fr.app N0 Nq2
    replace O := O.keep Kq2 all0
    refine Out.to (g' := (mkF m 9 #[.val (.ref x)] [(.ref z)])) st2 ?_
    obtain ⟨cq3, kq3, q3a, q3b, q3c⟩ := isOf hZ rfl Ez
    obtain ⟨_, _, ⟨T3, L3, kc3, ks3⟩, -, X3, ⟨Lc3, hQ3, l3, y3, z3⟩, st3⟩ := X2.interfaceBack hx (xi := (⟨"java/util/Map$Entry", "getValue", "()Ljava/lang/Object;"⟩ : MethodName)) (y := (⟨"java/util/AbstractMap$SimpleImmutableEntry", "getValue", "()Ljava/lang/Object;"⟩ : MethodName)) hown (mvT hZ (hw _ (List.mem_of_getElem? (i := 228) rfl))) (mvT hZ (hw _ (List.mem_of_getElem? (i := 203) rfl))) (mvT hZ (hw _ (List.mem_of_getElem? (i := 204) rfl))) (mvT hZ (hw _ (List.mem_of_getElem? (i := 236) rfl))) (mvT hZ (hw _ (List.mem_of_getElem? (i := 237) rfl))) (mvT hZ (hw _ (List.mem_of_getElem? (i := 238) rfl))) (mvT hZ (hw _ (List.mem_of_getElem? (i := 239) rfl))) (mvT hZ (hw _ (List.mem_of_getElem? (i := 225) rfl))) (by decide) (backOf (W := 0) (own_rmGS l Z a0 hw [] z w T2.heap n0 O rw_ Fz) hZ (hw _ (List.mem_of_getElem? (i := 240) rfl)) (hw _ (List.mem_of_getElem? (i := 185) rfl)) (by decide) (by decide)) q3a q3b q3c (g := (mkF m 9 #[.val (.ref x)] [(.ref z)])) rfl (by rw [hml]; rfl) (Steps.refl _) (argsL := []) (rest := []) (lenOf own_pd27 rfl) rfl (by show 2 * 0 + _ ≤ _; exact Nat.le_of_eq rfl) (hb hby own_d31_9) (fun _ _ => ⟨rfl, rfl, (by decide : 1 + 0 ≤ _), (by decide : 2 + 0 ≤ _)⟩)
    dsimp only [Pt.U, Pt.locs, Pt.cells, Pt.slots] at X3 l3 y3 z3 st3 hQ3
    subst l3 y3 z3
    obtain ⟨rfl, Nq3, eq3⟩ := hQ3
    replace N0 := Fr.app N0 Nq3
    refine Out.to (g' := (mkF m 14 #[.val (.ref x)] [w])) st3 ?_
    exact Out.endN X3 (fun h => by rw [Bd.returns] at h; cases h) Bd.notSynchronized (by decide) (by decide) (by rw [eq3]; exact ⟨rfl, N0, Kq2⟩) (fun fs hr => own_retR X3 hx (t := (.object "java/lang/Object")) Bd.returns (own_narR rw_) rfl (rw_) (hb hby own_d31_14) hr)
  · obtain ⟨cq2, kq2, q2a, q2b, q2c⟩ := isOf hZ e1 Eb
    obtain ⟨_, _, ⟨T2, L2, kc2, ks2⟩, -, X2, ⟨Lc2, hQ2, l2, y2, z2⟩, st2⟩ := X1.interfaceBack hx (xi := (⟨"java/util/NavigableMap", "lastEntry", "()Ljava/util/Map$Entry;"⟩ : MethodName)) (y := (⟨"java/util/Collections$UnmodifiableNavigableMap", "lastEntry", "()Ljava/util/Map$Entry;"⟩ : MethodName)) hown (mvT hZ (hw _ (List.mem_of_getElem? (i := 158) rfl))) (mvT hZ (hw _ (List.mem_of_getElem? (i := 159) rfl))) (mvT hZ (hw _ (List.mem_of_getElem? (i := 160) rfl))) (mvT hZ (hw _ (List.mem_of_getElem? (i := 161) rfl))) (mvT hZ (hw _ (List.mem_of_getElem? (i := 162) rfl))) (mvT hZ (hw _ (List.mem_of_getElem? (i := 163) rfl))) (mvT hZ (hw _ (List.mem_of_getElem? (i := 164) rfl))) (mvT hZ (hw _ (List.mem_of_getElem? (i := 165) rfl))) (by decide) (backOf (W := 0) (own_rmLU l Z a0 hw [] b a d w h0 n0 O rw_ Fb Nv) hZ (hw _ (List.mem_of_getElem? (i := 166) rfl)) (hw _ (List.mem_of_getElem? (i := 128) rfl)) (by decide) (by decide)) q2a q2b q2c (g := (mkF m 4 #[.val (.ref x)] [(.ref b)])) rfl (by rw [hml]; rfl) (Steps.refl _) (argsL := []) (rest := []) (lenOf own_pd33 rfl) rfl (by show 2 * 0 + _ ≤ _; exact Nat.le_of_eq rfl) (hb hby own_d31_4) (fun _ _ => ⟨rfl, e1, (by decide : 0 + 2 ≤ _), (by decide : 0 + 3 ≤ _)⟩)
    dsimp only [Pt.U, Pt.locs, Pt.cells, Pt.slots] at X2 l2 y2 z2 st2 hQ2
    subst l2 y2 z2
    obtain ⟨u, z, rfl, Nq2, Kq2, Eu, Fu, Ez, Fz⟩ := hQ2
    replace N0 := Fr.app N0 Nq2
    replace O := O.keep Kq2 all0
    refine Out.to (g' := (mkF m 9 #[.val (.ref x)] [(.ref u)])) st2 ?_
    obtain ⟨cq3, kq3, q3a, q3b, q3c⟩ := isOf hZ rfl Eu
    obtain ⟨_, _, ⟨T3, L3, kc3, ks3⟩, -, X3, ⟨Lc3, hQ3, l3, y3, z3⟩, st3⟩ := X2.interfaceBack hx (xi := (⟨"java/util/Map$Entry", "getValue", "()Ljava/lang/Object;"⟩ : MethodName)) (y := (⟨"java/util/Collections$UnmodifiableMap$UnmodifiableEntrySet$UnmodifiableEntry", "getValue", "()Ljava/lang/Object;"⟩ : MethodName)) hown (mvT hZ (hw _ (List.mem_of_getElem? (i := 228) rfl))) (mvT hZ (hw _ (List.mem_of_getElem? (i := 203) rfl))) (mvT hZ (hw _ (List.mem_of_getElem? (i := 204) rfl))) (mvT hZ (hw _ (List.mem_of_getElem? (i := 229) rfl))) (mvT hZ (hw _ (List.mem_of_getElem? (i := 230) rfl))) (mvT hZ (hw _ (List.mem_of_getElem? (i := 231) rfl))) (mvT hZ (hw _ (List.mem_of_getElem? (i := 232) rfl))) (mvT hZ (hw _ (List.mem_of_getElem? (i := 233) rfl))) (by decide) (backOf (W := 0) (own_rmGU l Z a0 hw [] u z w T2.heap n0 O rw_ Fu Ez Fz) hZ (hw _ (List.mem_of_getElem? (i := 234) rfl)) (hw _ (List.mem_of_getElem? (i := 214) rfl)) (by decide) (by decide)) q3a q3b q3c (g := (mkF m 9 #[.val (.ref x)] [(.ref u)])) rfl (by rw [hml]; rfl) (Steps.refl _) (argsL := []) (rest := []) (lenOf own_pd27 rfl) rfl (by show 2 * 0 + _ ≤ _; exact Nat.le_of_eq rfl) (hb hby own_d31_9) (fun _ _ => ⟨rfl, rfl, (by decide : 2 + 0 ≤ _), (by decide : 3 + 0 ≤ _)⟩)
    dsimp only [Pt.U, Pt.locs, Pt.cells, Pt.slots] at X3 l3 y3 z3 st3 hQ3
    subst l3 y3 z3
    obtain ⟨rfl, Nq3, eq3⟩ := hQ3
    replace N0 := Fr.app N0 Nq3
    refine Out.to (g' := (mkF m 14 #[.val (.ref x)] [w])) st3 ?_
    exact Out.endN X3 (fun h => by rw [Bd.returns] at h; cases h) Bd.notSynchronized (by decide) (by decide) (by rw [eq3]; exact ⟨rfl, N0, Kq2⟩) (fun fs hr => own_retR X3 hx (t := (.object "java/lang/Object")) Bd.returns (own_narR rw_) rfl (rw_) (hb hby own_d31_14) hr)
/-- a boxed int, or null -/
def own_Box (Z : State) (h : Heap) (w : Value) (p1 : Int32) : Prop := w = .null ∨ ∃ i : Addr, w = .ref i ∧ Exa Z h i "java/lang/Integer" ∧ Fld Z h i "java/lang/Integer" "value" "I" (.int p1)
theorem own_Box.isRef {Z : State} {h : Heap} {w : Value} {p1 : Int32} (F : own_Box Z h w p1) : w.isRef = true := by rcases F with rfl | ⟨_, rfl, -⟩ <;> rfl
theorem own_Box.keep {Z : State} {h h' : Heap} {w : Value} {p1 : Int32} (F : own_Box Z h w p1) (K : Keep h h' []) : own_Box Z h' w p1 := F.imp id fun ⟨i, e, f, g⟩ => ⟨i, e, f.keep K, g.keep K nin0⟩
theorem own_pn34 : plainName "com/example/syndicate_ledger/syndicateledger/engine/TimelineOfPinLaw" = true := by first | (simp [plainName, overriddenIn]; done) | decide +kernel
theorem own_pd35 : parseMethodDescriptor "(I)Ljava/lang/Integer;" = some ⟨[.int], some (.object "java/lang/Integer")⟩ := by decide +kernel
theorem own_pd36 : parseMethodDescriptor "(Ljava/lang/Object;)Lcom/example/syndicate_ledger/syndicateledger/engine/Timeline;" = some ⟨[(.object "java/lang/Object")], some (.object "com/example/syndicate_ledger/syndicateledger/engine/Timeline")⟩ := by decide +kernel
theorem own_pd37 : parseMethodDescriptor "()I" = some ⟨[], some .int⟩ := by decide +kernel
theorem own_ef0 (m : MethodId) (x0 : Int32) (x1 : Int32) (x2 : Int32) : entryFrame m #[(.int x0), (.int x1), (.int x2)] maxLocals = mkF m 0 #[.val (.int x0), .val (.int x1), .val (.int x2), .unset, .unset, .unset, .unset, .unset, .unset, .unset, .unset, .unset, .unset] [] := by first | (simp [entryFrame, mkF, argsToLocals, Value.category, maxLocals]; done) | rfl
set_option maxRecDepth 65536 in
set_option maxHeartbeats 40000000 in
theorem own_rm0 (l : Launch) (Z : State) (a0 : Array Value) (hw : ∀ d ∈ tables_1, d.before a0 Z = true) (ws : List Jvm.Cond) (p0 p1 p2 : Int32) (ca : Addr) (cl : Cell) (d mt mu : Addr) (h0 : Heap) (n0 : Nat) (O : Old Z n0 h0) (V_hi : Sta Z Z.heap "java/lang/Integer$IntegerCache" "high" "I" (.int (127 : Int32))) (V_ca : Sta Z Z.heap "java/lang/Integer$IntegerCache" "cache" "[Ljava/lang/Integer;" (.ref ca)) (Cc : own_Cache Z ca cl) (V_d : Sta Z Z.heap "java/time/LocalDate" "MIN" "Ljava/time/LocalDate;" (.ref d)) (Ed : Exa Z Z.heap d "java/time/LocalDate") (D_year : Fld Z Z.heap d "java/time/LocalDate" "year" "I" (.int (-999999999 : Int32))) (D_month : Fld Z Z.heap d "java/time/LocalDate" "month" "S" (.int (1 : Int32))) (D_day : Fld Z Z.heap d "java/time/LocalDate" "day" "S" (.int (1 : Int32))) (M1 : own_Mir Z "java/util/TreeMap" mt) (M2 : own_Mir Z "java/util/Collections$UnmodifiableNavigableMap" mu) :
    MetFree l x (head1 (Jvm.Cond.code x code maxLocals ret :: ws) room_1) (fun aa U => aa = #[(.int p0), (.int p1), (.int p2)] ∧ Z.Warmed39 U.vm ∧ U.heap = h0) (fun _ _ _ _ _ => True) (fun _ U o U' => ∃ v L, o = .returned v ∧ (fun v h L => v = some (.int (1 : Int32)) ∧ Fr n0 L) v U'.heap L ∧ FrameEnd U o U' L room_1.cells room_1.slots) := by
  refine MetFree.of_bodySF (plainFor_of_name own_pn34) hisR ?_
  intro p e s m args below meth c s₁ Bd hml0 hP hK
  obtain ⟨rfl, hZ, hh⟩ := hP
  have hx := Bd.exec
  have hby := Bd.bytes
  have hml : c.maxLocals = 13 := hml0
  have hown : s.vm.findClass "com/example/syndicate_ledger/syndicateledger/engine/TimelineOfPinLaw" = some m.cls := findClass_of_methodNamed Bd.named
  have hnm := (name_of_methodNamed Bd.named Bd.method).1
  have X0 : Stand p l e room_1 s m #[(.int p0), (.int p1), (.int p2)] below meth c s₁ [] 0 0 := Stand.of_body Bd
  have e0 : s₁.heap = h0 := by rw [← hh, Bd.state]; rfl
  have N0 := Fr.nil n0
  refine Out.start (Q := fun v h L => v = some (.int (1 : Int32)) ∧ Fr n0 L) (own_ef0 m p0 p1 p2 ) ?_
  refine Out.via (g' := (mkF m 1 #[.val (.int p0), .val (.int p1), .val (.int p2), .unset, .unset, .unset, .unset, .unset, .unset, .unset, .unset, .unset, .unset] [(.int p2)])) (fun _ k => XS.iloadN X0.here hx rfl (hb hby at_0) rfl k) ?_
  refine Out.via (g' := (mkF m 2 #[.val (.int p0), .val (.int p1), .val (.int p2), .unset, .unset, .unset, .unset, .unset, .unset, .unset, .unset, .unset, .unset] [(.int (1 : Int32)), (.int p2)])) (fun _ k => XS.iconst X0.here hx rfl (hb hby at_1) k) ?_
  refine Out.via (g' := (mkF m 3 #[.val (.int p0), .val (.int p1), .val (.int p2), .unset, .unset, .unset, .unset, .unset, .unset, .unset, .unset, .unset, .unset] [(.int (p2 &&& (1 : Int32)))])) (fun _ k => XS.iand X0.here hx rfl (hb hby at_2) rfl k) ?_
  suffices rest : ∀ (T' : State) (L' : List Loc) (w0 : Value), Stand p l e room_1 s m #[(.int p0), (.int p1), (.int p2)] below meth c T' L' 1 1 → Old Z n0 T'.heap → Fr n0 L' → own_Box Z T'.heap w0 p0 → RoadKit.Out p.tables e below (End s below (fun v h L => v = some (.int (1 : Int32)) ∧ Fr n0 L) room_1.cells room_1.slots) T' (mkF m 14 #[.val (.int p0), .val (.int p1), .val (.int p2), .unset, .unset, .unset, .unset, .unset, .unset, .unset, .unset, .unset, .unset] [w0]) by
    by_cases hf : (p2 &&& (1 : Int32)) = (0 : Int32)
    · refine Out.via (g' := (mkF m 10 #[.val (.int p0), .val (.int p1), .val (.int p2), .unset, .unset, .unset, .unset, .unset, .unset, .unset, .unset, .unset, .unset] [])) (fun _ k => XS.ifYes X0.here hx rfl (pc0 := 3) (pc' := 10) rfl (hb hby at_3) rfl ((if0 _ _).trans (teq hf).1) (by decide) (by decide) k) ?_
      refine Out.via (g' := (mkF m 11 #[.val (.int p0), .val (.int p1), .val (.int p2), .unset, .unset, .unset, .unset, .unset, .unset, .unset, .unset, .unset, .unset] [(.int p0)])) (fun _ k => XS.iloadN X0.here hx rfl (hb hby at_10) rfl k) ?_
      obtain ⟨_, _, ⟨T1, L1, kc1, ks1⟩, -, X1, ⟨Lc1, hQ1, l1, y1, z1⟩, st1⟩ := Jvm.LawKit.callS X0 hx (y := (⟨"java/lang/Integer", "valueOf", "(I)Ljava/lang/Integer;"⟩ : MethodName)) hown (mvT hZ (hw _ (List.mem_of_getElem? (i := 0) rfl))) (mvT hZ (hw _ (List.mem_of_getElem? (i := 1) rfl))) (mvT hZ (hw _ (List.mem_of_getElem? (i := 2) rfl))) (mvT hZ (hw _ (List.mem_of_getElem? (i := 3) rfl))) (by decide) (backOf (W := 0) (own_rmVO l Z a0 hw [] p0 ca cl h0 n0 O V_hi V_ca Cc) hZ (hw _ (List.mem_of_getElem? (i := 3) rfl)) (hw _ (List.mem_of_getElem? (i := 2) rfl)) (by decide) (by decide)) (g := (mkF m 11 #[.val (.int p0), .val (.int p1), .val (.int p2), .unset, .unset, .unset, .unset, .unset, .unset, .unset, .unset, .unset, .unset] [(.int p0)])) rfl (by rw [hml]; rfl) (argsL := [(.int p0)]) (rest := []) (lenOf own_pd35 rfl) rfl (by show 2 * 0 + _ ≤ _; exact Nat.le_of_eq rfl) (hb hby at_11) (fun _ _ => ⟨rfl, e0, (by decide : 0 + 1 ≤ _), (by decide : 0 + 1 ≤ _)⟩)
      dsimp only [Pt.U, Pt.locs, Pt.cells, Pt.slots] at X1 l1 y1 z1 st1 hQ1
      subst l1 y1 z1
      obtain ⟨i, rfl, Nq1, Kq1, Ei, Fi⟩ := hQ1
      refine Out.via (g' := (mkF m 14 #[.val (.int p0), .val (.int p1), .val (.int p2), .unset, .unset, .unset, .unset, .unset, .unset, .unset, .unset, .unset, .unset] [(.ref i)])) st1 ?_
      exact rest _ _ _ X1 (O.keep Kq1 all0) (Fr.app N0 Nq1) (Or.inr ⟨i, rfl, Ei, Fi⟩)
    · refine Out.via (g' := (mkF m 6 #[.val (.int p0), .val (.int p1), .val (.int p2), .unset, .unset, .unset, .unset, .unset, .unset, .unset, .unset, .unset, .unset] [])) (fun _ k => XS.ifNo X0.here hx rfl (hb hby at_3) rfl ((if0 _ _).trans (feq hf).1) k) ?_
      refine Out.via (g' := (mkF m 7 #[.val (.int p0), .val (.int p1), .val (.int p2), .unset, .unset, .unset, .unset, .unset, .unset, .unset, .unset, .unset, .unset] [.null])) (fun _ k => XS.aconstNull X0.here hx rfl (hb hby at_6) k) ?_
      refine Out.via (g' := (mkF m 14 #[.val (.int p0), .val (.int p1), .val (.int p2), .unset, .unset, .unset, .unset, .unset, .unset, .unset, .unset, .unset, .unset] [.null])) (fun _ k => XS.goto X0.here hx rfl (pc0 := 7) (pc' := 14) rfl (hb hby at_7) (by decide) (by decide) k) ?_
      exact rest _ _ _ (own_more X0 (by decide) (by decide)) (by rw [e0]; exact O) N0 (Or.inl rfl)
  clear O N0
  intro Tb0 Lb0 w0 Xb0 O N0 B0
  have rw_0 := B0.isRef
  refine Out.via (g' := (mkF m 15 #[.val (.int p0), .val (.int p1), .val (.int p2), .val w0, .unset, .unset, .unset, .unset, .unset, .unset, .unset, .unset, .unset] [])) (fun _ k => XS.astoreN Xb0.here hx rfl (hb hby at_14) rfl rw_0 (l' := #[.val (.int p0), .val (.int p1), .val (.int p2), .val w0, .unset, .unset, .unset, .unset, .unset, .unset, .unset, .unset, .unset]) (by rcases ref_cases rw_0 with q | ⟨_, q⟩ <;> rw [q] <;> rfl) k) ?_
  refine Out.via (g' := (mkF m 16 #[.val (.int p0), .val (.int p1), .val (.int p2), .val w0, .unset, .unset, .unset, .unset, .unset, .unset, .unset, .unset, .unset] [(.int p2)])) (fun _ k => XS.iloadN Xb0.here hx rfl (hb hby at_15) rfl k) ?_
  refine Out.via (g' := (mkF m 17 #[.val (.int p0), .val (.int p1), .val (.int p2), .val w0, .unset, .unset, .unset, .unset, .unset, .unset, .unset, .unset, .unset] [(.int (2 : Int32)), (.int p2)])) (fun _ k => XS.iconst Xb0.here hx rfl (hb hby at_16) k) ?_
  refine Out.via (g' := (mkF m 18 #[.val (.int p0), .val (.int p1), .val (.int p2), .val w0, .unset, .unset, .unset, .unset, .unset, .unset, .unset, .unset, .unset] [(.int (p2 &&& (2 : Int32)))])) (fun _ k => XS.iand Xb0.here hx rfl (hb hby at_17) rfl k) ?_
  suffices rest : ∀ (T' : State) (L' : List Loc) (w1 : Value), Stand p l e room_1 s m #[(.int p0), (.int p1), (.int p2)] below meth c T' L' 2 2 → Old Z n0 T'.heap → Fr n0 L' → own_Box Z T'.heap w1 p1 → own_Box Z T'.heap w0 p0 → RoadKit.Out p.tables e below (End s below (fun v h L => v = some (.int (1 : Int32)) ∧ Fr n0 L) room_1.cells room_1.slots) T' (mkF m 29 #[.val (.int p0), .val (.int p1), .val (.int p2), .val w0, .unset, .unset, .unset, .unset, .unset, .unset, .unset, .unset, .unset] [w1]) by
    by_cases hf : (p2 &&& (2 : Int32)) = (0 : Int32)
    · refine Out.via (g' := (mkF m 25 #[.val (.int p0), .val (.int p1), .val (.int p2), .val w0, .unset, .unset, .unset, .unset, .unset, .unset, .unset, .unset, .unset] [])) (fun _ k => XS.ifYes Xb0.here hx rfl (pc0 := 18) (pc' := 25) rfl (hb hby at_18) rfl ((if0 _ _).trans (teq hf).1) (by decide) (by decide) k) ?_
      refine Out.via (g' := (mkF m 26 #[.val (.int p0), .val (.int p1), .val (.int p2), .val w0, .unset, .unset, .unset, .unset, .unset, .unset, .unset, .unset, .unset] [(.int p1)])) (fun _ k => XS.iloadN Xb0.here hx rfl (hb hby at_25) rfl k) ?_
      obtain ⟨_, _, ⟨T2, L2, kc2, ks2⟩, -, X2, ⟨Lc2, hQ2, l2, y2, z2⟩, st2⟩ := Jvm.LawKit.callS Xb0 hx (y := (⟨"java/lang/Integer", "valueOf", "(I)Ljava/lang/Integer;"⟩ : MethodName)) hown (mvT hZ (hw _ (List.mem_of_getElem? (i := 0) rfl))) (mvT hZ (hw _ (List.mem_of_getElem? (i := 1) rfl))) (mvT hZ (hw _ (List.mem_of_getElem? (i := 2) rfl))) (mvT hZ (hw _ (List.mem_of_getElem? (i := 3) rfl))) (by decide) (backOf (W := 0) (own_rmVO l Z a0 hw [] p1 ca cl Tb0.heap n0 O V_hi V_ca Cc) hZ (hw _ (List.mem_of_getElem? (i := 3) rfl)) (hw _ (List.mem_of_getElem? (i := 2) rfl)) (by decide) (by decide)) (g := (mkF m 26 #[.val (.int p0), .val (.int p1), .val (.int p2), .val w0, .unset, .unset, .unset, .unset, .unset, .unset, .unset, .unset, .unset] [(.int p1)])) rfl (by rw [hml]; rfl) (argsL := [(.int p1)]) (rest := []) (lenOf own_pd35 rfl) rfl (by show 2 * 0 + _ ≤ _; exact Nat.le_of_eq rfl) (hb hby at_26) (fun _ _ => ⟨rfl, rfl, (by decide : 1 + 1 ≤ _), (by decide : 1 + 1 ≤ _)⟩)
      dsimp only [Pt.U, Pt.locs, Pt.cells, Pt.slots] at X2 l2 y2 z2 st2 hQ2
      subst l2 y2 z2
      obtain ⟨i, rfl, Nq2, Kq2, Ei, Fi⟩ := hQ2
      refine Out.via (g' := (mkF m 29 #[.val (.int p0), .val (.int p1), .val (.int p2), .val w0, .unset, .unset, .unset, .unset, .unset, .unset, .unset, .unset, .unset] [(.ref i)])) st2 ?_
      exact rest _ _ _ X2 (O.keep Kq2 all0) (Fr.app N0 Nq2) (Or.inr ⟨i, rfl, Ei, Fi⟩) (B0.keep Kq2)
    · refine Out.via (g' := (mkF m 21 #[.val (.int p0), .val (.int p1), .val (.int p2), .val w0, .unset, .unset, .unset, .unset, .unset, .unset, .unset, .unset, .unset] [])) (fun _ k => XS.ifNo Xb0.here hx rfl (hb hby at_18) rfl ((if0 _ _).trans (feq hf).1) k) ?_
      refine Out.via (g' := (mkF m 22 #[.val (.int p0), .val (.int p1), .val (.int p2), .val w0, .unset, .unset, .unset, .unset, .unset, .unset, .unset, .unset, .unset] [.null])) (fun _ k => XS.aconstNull Xb0.here hx rfl (hb hby at_21) k) ?_
      refine Out.via (g' := (mkF m 29 #[.val (.int p0), .val (.int p1), .val (.int p2), .val w0, .unset, .unset, .unset, .unset, .unset, .unset, .unset, .unset, .unset] [.null])) (fun _ k => XS.goto Xb0.here hx rfl (pc0 := 22) (pc' := 29) rfl (hb hby at_22) (by decide) (by decide) k) ?_
      exact rest _ _ _ (own_more Xb0 (by decide) (by decide)) O N0 (Or.inl rfl) B0
  clear O N0
  intro Tb1 Lb1 w1 Xb1 O N0 B1 B0'
  replace B0 := B0'
  have rw_1 := B1.isRef
  refine Out.via (g' := (mkF m 31 #[.val (.int p0), .val (.int p1), .val (.int p2), .val w0, .val w1, .unset, .unset, .unset, .unset, .unset, .unset, .unset, .unset] [])) (fun _ k => XS.astore Xb1.here hx rfl (hb hby at_29) rfl rw_1 (l' := #[.val (.int p0), .val (.int p1), .val (.int p2), .val w0, .val w1, .unset, .unset, .unset, .unset, .unset, .unset, .unset, .unset]) (by rcases ref_cases rw_1 with q | ⟨_, q⟩ <;> rw [q] <;> rfl) k) ?_
  refine Out.via (g' := (mkF m 32 #[.val (.int p0), .val (.int p1), .val (.int p2), .val w0, .val w1, .unset, .unset, .unset, .unset, .unset, .unset, .unset, .unset] [w0])) (fun _ k => XS.aloadN Xb1.here hx rfl (hb hby at_31) rfl rw_0 k) ?_
  obtain ⟨_, _, ⟨T3, L3, kc3, ks3⟩, -, X3, ⟨Lc3, hQ3, l3, y3, z3⟩, st3⟩ := Jvm.LawKit.callS Xb1 hx (y := (⟨"com/example/syndicate_ledger/syndicateledger/engine/Timeline", "of", "(Ljava/lang/Object;)Lcom/example/syndicate_ledger/syndicateledger/engine/Timeline;"⟩ : MethodName)) hown (mvT hZ (hw _ (List.mem_of_getElem? (i := 7) rfl))) (mvT hZ (hw _ (List.mem_of_getElem? (i := 8) rfl))) (mvT hZ (hw _ (List.mem_of_getElem? (i := 9) rfl))) (mvT hZ (hw _ (List.mem_of_getElem? (i := 10) rfl))) (by decide) (backOf (W := 0) (own_rmOF l Z a0 hw [] w0 d mt mu Tb1.heap n0 O rw_0 V_d Ed D_year D_month D_day M1 M2) hZ (hw _ (List.mem_of_getElem? (i := 10) rfl)) (hw _ (List.mem_of_getElem? (i := 9) rfl)) (by decide) (by decide)) (g := (mkF m 32 #[.val (.int p0), .val (.int p1), .val (.int p2), .val w0, .val w1, .unset, .unset, .unset, .unset, .unset, .unset, .unset, .unset] [w0])) rfl (by rw [hml]; rfl) (argsL := [w0]) (rest := []) (lenOf own_pd36 rfl) rfl (by show 2 * 0 + _ ≤ _; exact Nat.le_of_eq rfl) (hb hby at_32) (fun _ _ => ⟨rfl, rfl, (by decide : 2 + 4 ≤ _), (by decide : 2 + 22 ≤ _)⟩)
  dsimp only [Pt.U, Pt.locs, Pt.cells, Pt.slots] at X3 l3 y3 z3 st3 hQ3
  subst l3 y3 z3
  obtain ⟨x0, rfl, Nq3, Kq3, Tl0⟩ := hQ3
  replace N0 := Fr.app N0 Nq3
  replace O := O.keep Kq3 all0
  replace B0 := B0.keep Kq3
  replace B1 := B1.keep Kq3
  refine Out.via (g' := (mkF m 35 #[.val (.int p0), .val (.int p1), .val (.int p2), .val w0, .val w1, .unset, .unset, .unset, .unset, .unset, .unset, .unset, .unset] [(.ref x0)])) st3 ?_
  refine Out.via (g' := (mkF m 37 #[.val (.int p0), .val (.int p1), .val (.int p2), .val w0, .val w1, .val (.ref x0), .unset, .unset, .unset, .unset, .unset, .unset, .unset] [])) (fun _ k => XS.astore X3.here hx rfl (hb hby at_35) rfl rfl (l' := #[.val (.int p0), .val (.int p1), .val (.int p2), .val w0, .val w1, .val (.ref x0), .unset, .unset, .unset, .unset, .unset, .unset, .unset]) rfl k) ?_
  refine Out.via (g' := (mkF m 39 #[.val (.int p0), .val (.int p1), .val (.int p2), .val w0, .val w1, .val (.ref x0), .unset, .unset, .unset, .unset, .unset, .unset, .unset] [w1])) (fun _ k => XS.aload X3.here hx rfl (hb hby at_37) rfl rw_1 k) ?_
  obtain ⟨_, _, ⟨T4, L4, kc4, ks4⟩, -, X4, ⟨Lc4, hQ4, l4, y4, z4⟩, st4⟩ := Jvm.LawKit.callS X3 hx (y := (⟨"com/example/syndicate_ledger/syndicateledger/engine/Timeline", "of", "(Ljava/lang/Object;)Lcom/example/syndicate_ledger/syndicateledger/engine/Timeline;"⟩ : MethodName)) hown (mvT hZ (hw _ (List.mem_of_getElem? (i := 7) rfl))) (mvT hZ (hw _ (List.mem_of_getElem? (i := 8) rfl))) (mvT hZ (hw _ (List.mem_of_getElem? (i := 9) rfl))) (mvT hZ (hw _ (List.mem_of_getElem? (i := 10) rfl))) (by decide) (backOf (W := 0) (own_rmOF l Z a0 hw [] w1 d mt mu T3.heap n0 O rw_1 V_d Ed D_year D_month D_day M1 M2) hZ (hw _ (List.mem_of_getElem? (i := 10) rfl)) (hw _ (List.mem_of_getElem? (i := 9) rfl)) (by decide) (by decide)) (g := (mkF m 39 #[.val (.int p0), .val (.int p1), .val (.int p2), .val w0, .val w1, .val (.ref x0), .unset, .unset, .unset, .unset, .unset, .unset, .unset] [w1])) rfl (by rw [hml]; rfl) (argsL := [w1]) (rest := []) (lenOf own_pd36 rfl) rfl (by show 2 * 0 + _ ≤ _; exact Nat.le_of_eq rfl) (hb hby at_39) (fun _ _ => ⟨rfl, rfl, (by decide : 6 + 4 ≤ _), (by decide : 24 + 22 ≤ _)⟩)
  dsimp only [Pt.U, Pt.locs, Pt.cells, Pt.slots] at X4 l4 y4 z4 st4 hQ4
  subst l4 y4 z4
  obtain ⟨x1, rfl, Nq4, Kq4, Tl1⟩ := hQ4
  replace N0 := Fr.app N0 Nq4
  replace O := O.keep Kq4 all0
  replace B0 := B0.keep Kq4
  replace B1 := B1.keep Kq4
  replace Tl0 := Tl0.keep Kq4
  refine Out.via (g' := (mkF m 42 #[.val (.int p0), .val (.int p1), .val (.int p2), .val w0, .val w1, .val (.ref x0), .unset, .unset, .unset, .unset, .unset, .unset, .unset] [(.ref x1)])) st4 ?_
  refine Out.via (g' := (mkF m 44 #[.val (.int p0), .val (.int p1), .val (.int p2), .val w0, .val w1, .val (.ref x0), .val (.ref x1), .unset, .unset, .unset, .unset, .unset, .unset] [])) (fun _ k => XS.astore X4.here hx rfl (hb hby at_42) rfl rfl (l' := #[.val (.int p0), .val (.int p1), .val (.int p2), .val w0, .val w1, .val (.ref x0), .val (.ref x1), .unset, .unset, .unset, .unset, .unset, .unset]) rfl k) ?_
  refine Out.via (g' := (mkF m 46 #[.val (.int p0), .val (.int p1), .val (.int p2), .val w0, .val w1, .val (.ref x0), .val (.ref x1), .unset, .unset, .unset, .unset, .unset, .unset] [(.ref x0)])) (fun _ k => XS.aload X4.here hx rfl (hb hby at_44) rfl rfl k) ?_
  rcases B0 with rfl | ⟨i0, rfl, Ei0, Fi0⟩ <;> rcases B1 with rfl | ⟨i1, rfl, Ei1, Fi1⟩
  · show RoadKit.Out p.tables e below (End s below (fun v h L => v = some (.int (1 : Int32)) ∧ Fr n0 L) room_1.cells room_1.slots) T4 (mkF m 46 #[.val (.int p0), .val (.int p1), .val (.int p2), .val .null, .val .null, .val (.ref x0), .val (.ref x1), .unset, .unset, .unset, .unset, .unset, .unset] [(.ref x0)])
    obtain ⟨cq5, kq5, q5a, q5b, q5c⟩ := isOf hZ rfl Tl0.1
    obtain ⟨_, _, ⟨T5, L5, kc5, ks5⟩, -, X5, ⟨Lc5, hQ5, l5, y5, z5⟩, st5⟩ := X4.virtualBack hx (y := (⟨"com/example/syndicate_ledger/syndicateledger/engine/Timeline", "latest", "()Ljava/lang/Object;"⟩ : MethodName)) (z := (⟨"com/example/syndicate_ledger/syndicateledger/engine/Timeline", "latest", "()Ljava/lang/Object;"⟩ : MethodName)) hown (mvT hZ (hw _ (List.mem_of_getElem? (i := 153) rfl))) (mvT hZ (hw _ (List.mem_of_getElem? (i := 154) rfl))) (notFace_of_selects (args := #[]) (mvT hZ (hw _ (List.mem_of_getElem? (i := 156) rfl)))) (mvT hZ (hw _ (List.mem_of_getElem? (i := 156) rfl))) (mvT hZ (hw _ (List.mem_of_getElem? (i := 155) rfl))) (by decide) (backOf (W := 0) (own_rmLA l Z a0 hw [] x0 d .null T4.heap n0 O rfl Tl0) hZ (hw _ (List.mem_of_getElem? (i := 157) rfl)) (hw _ (List.mem_of_getElem? (i := 9) rfl)) (by decide) (by decide)) q5a q5c (g := (mkF m 46 #[.val (.int p0), .val (.int p1), .val (.int p2), .val .null, .val .null, .val (.ref x0), .val (.ref x1), .unset, .unset, .unset, .unset, .unset, .unset] [(.ref x0)])) rfl (by rw [hml]; rfl) (Steps.refl _) (argsL := []) (rest := []) (lenOf own_pd27 rfl) rfl (by show 2 * 0 + _ ≤ _; exact Nat.le_of_eq rfl) (hb hby at_46) (fun _ _ => ⟨rfl, rfl, (by decide : 10 + 2 ≤ _), (by decide : 46 + 3 ≤ _)⟩)
    dsimp only [Pt.U, Pt.locs, Pt.cells, Pt.slots] at X5 l5 y5 z5 st5 hQ5
    subst l5 y5 z5
    obtain ⟨rfl, Nq5, Kq5⟩ := hQ5
    replace N0 := Fr.app N0 Nq5
    replace O := O.keep Kq5 all0
    replace Tl1 := Tl1.keep Kq5
    refine Out.to (g' := (mkF m 49 #[.val (.int p0), .val (.int p1), .val (.int p2), .val .null, .val .null, .val (.ref x0), .val (.ref x1), .unset, .unset, .unset, .unset, .unset, .unset] [.null])) st5 ?_
    refine Out.via (g' := (mkF m 52 #[.val (.int p0), .val (.int p1), .val (.int p2), .val .null, .val .null, .val (.ref x0), .val (.ref x1), .unset, .unset, .unset, .unset, .unset, .unset] [.null])) (fun _ k => checkcastNull X5 hx (g := (mkF m 49 #[.val (.int p0), .val (.int p1), .val (.int p2), .val .null, .val .null, .val (.ref x0), .val (.ref x1), .unset, .unset, .unset, .unset, .unset, .unset] [.null])) rfl rfl (hb hby at_49) _ k) ?_
    refine Out.via (g' := (mkF m 54 #[.val (.int p0), .val (.int p1), .val (.int p2), .val .null, .val .null, .val (.ref x0), .val (.ref x1), .val .null, .unset, .unset, .unset, .unset, .unset] [])) (fun _ k => XS.astore X5.here hx rfl (hb hby at_52) rfl rfl (l' := #[.val (.int p0), .val (.int p1), .val (.int p2), .val .null, .val .null, .val (.ref x0), .val (.ref x1), .val .null, .unset, .unset, .unset, .unset, .unset]) rfl k) ?_
    refine Out.via (g' := (mkF m 56 #[.val (.int p0), .val (.int p1), .val (.int p2), .val .null, .val .null, .val (.ref x0), .val (.ref x1), .val .null, .unset, .unset, .unset, .unset, .unset] [(.ref x1)])) (fun _ k => XS.aload X5.here hx rfl (hb hby at_54) rfl rfl k) ?_
    obtain ⟨cq6, kq6, q6a, q6b, q6c⟩ := isOf hZ rfl Tl1.1
    obtain ⟨_, _, ⟨T6, L6, kc6, ks6⟩, -, X6, ⟨Lc6, hQ6, l6, y6, z6⟩, st6⟩ := X5.virtualBack hx (y := (⟨"com/example/syndicate_ledger/syndicateledger/engine/Timeline", "latest", "()Ljava/lang/Object;"⟩ : MethodName)) (z := (⟨"com/example/syndicate_ledger/syndicateledger/engine/Timeline", "latest", "()Ljava/lang/Object;"⟩ : MethodName)) hown (mvT hZ (hw _ (List.mem_of_getElem? (i := 153) rfl))) (mvT hZ (hw _ (List.mem_of_getElem? (i := 154) rfl))) (notFace_of_selects (args := #[]) (mvT hZ (hw _ (List.mem_of_getElem? (i := 156) rfl)))) (mvT hZ (hw _ (List.mem_of_getElem? (i := 156) rfl))) (mvT hZ (hw _ (List.mem_of_getElem? (i := 155) rfl))) (by decide) (backOf (W := 0) (own_rmLA l Z a0 hw [] x1 d .null T5.heap n0 O rfl Tl1) hZ (hw _ (List.mem_of_getElem? (i := 157) rfl)) (hw _ (List.mem_of_getElem? (i := 9) rfl)) (by decide) (by decide)) q6a q6c (g := (mkF m 56 #[.val (.int p0), .val (.int p1), .val (.int p2), .val .null, .val .null, .val (.ref x0), .val (.ref x1), .val .null, .unset, .unset, .unset, .unset, .unset] [(.ref x1)])) rfl (by rw [hml]; rfl) (Steps.refl _) (argsL := []) (rest := []) (lenOf own_pd27 rfl) rfl (by show 2 * 0 + _ ≤ _; exact Nat.le_of_eq rfl) (hb hby at_56) (fun _ _ => ⟨rfl, rfl, (by decide : 12 + 2 ≤ _), (by decide : 49 + 3 ≤ _)⟩)
    dsimp only [Pt.U, Pt.locs, Pt.cells, Pt.slots] at X6 l6 y6 z6 st6 hQ6
    subst l6 y6 z6
    obtain ⟨rfl, Nq6, Kq6⟩ := hQ6
    replace N0 := Fr.app N0 Nq6
    replace O := O.keep Kq6 all0
    refine Out.to (g' := (mkF m 59 #[.val (.int p0), .val (.int p1), .val (.int p2), .val .null, .val .null, .val (.ref x0), .val (.ref x1), .val .null, .unset, .unset, .unset, .unset, .unset] [.null])) st6 ?_
    refine Out.via (g' := (mkF m 62 #[.val (.int p0), .val (.int p1), .val (.int p2), .val .null, .val .null, .val (.ref x0), .val (.ref x1), .val .null, .unset, .unset, .unset, .unset, .unset] [.null])) (fun _ k => checkcastNull X6 hx (g := (mkF m 59 #[.val (.int p0), .val (.int p1), .val (.int p2), .val .null, .val .null, .val (.ref x0), .val (.ref x1), .val .null, .unset, .unset, .unset, .unset, .unset] [.null])) rfl rfl (hb hby at_59) _ k) ?_
    refine Out.via (g' := (mkF m 64 #[.val (.int p0), .val (.int p1), .val (.int p2), .val .null, .val .null, .val (.ref x0), .val (.ref x1), .val .null, .val .null, .unset, .unset, .unset, .unset] [])) (fun _ k => XS.astore X6.here hx rfl (hb hby at_62) rfl rfl (l' := #[.val (.int p0), .val (.int p1), .val (.int p2), .val .null, .val .null, .val (.ref x0), .val (.ref x1), .val .null, .val .null, .unset, .unset, .unset, .unset]) rfl k) ?_
    refine Out.via (g' := (mkF m 66 #[.val (.int p0), .val (.int p1), .val (.int p2), .val .null, .val .null, .val (.ref x0), .val (.ref x1), .val .null, .val .null, .unset, .unset, .unset, .unset] [.null])) (fun _ k => XS.aload X6.here hx rfl (hb hby at_64) rfl rfl k) ?_
    refine Out.via (g' := (mkF m 67 #[.val (.int p0), .val (.int p1), .val (.int p2), .val .null, .val .null, .val (.ref x0), .val (.ref x1), .val .null, .val .null, .unset, .unset, .unset, .unset] [.null, .null])) (fun _ k => XS.aloadN X6.here hx rfl (hb hby at_66) rfl rfl k) ?_
    refine Out.via (g' := (mkF m 70 #[.val (.int p0), .val (.int p1), .val (.int p2), .val .null, .val .null, .val (.ref x0), .val (.ref x1), .val .null, .val .null, .unset, .unset, .unset, .unset] [])) (fun _ k => Jvm.RoadKit.acmp (g := (mkF m 67 #[.val (.int p0), .val (.int p1), .val (.int p2), .val .null, .val .null, .val (.ref x0), .val (.ref x1), .val .null, .val .null, .unset, .unset, .unset, .unset] [.null, .null])) X6 hx rfl rfl rfl (pc0 := 67) (pc' := 70) (same := true) rfl (hb hby at_67) rfl (decide_eq_true rfl) (by decide) (by decide) k) ?_
    refine Out.via (g' := (mkF m 71 #[.val (.int p0), .val (.int p1), .val (.int p2), .val .null, .val .null, .val (.ref x0), .val (.ref x1), .val .null, .val .null, .unset, .unset, .unset, .unset] [(.int (1 : Int32))])) (fun _ k => XS.iconst X6.here hx rfl (hb hby at_70) k) ?_
    refine Out.via (g' := (mkF m 75 #[.val (.int p0), .val (.int p1), .val (.int p2), .val .null, .val .null, .val (.ref x0), .val (.ref x1), .val .null, .val .null, .unset, .unset, .unset, .unset] [(.int (1 : Int32))])) (fun _ k => XS.goto X6.here hx rfl (pc0 := 71) (pc' := 75) rfl (hb hby at_71) (by decide) (by decide) k) ?_
    refine Out.via (g' := (mkF m 77 #[.val (.int p0), .val (.int p1), .val (.int p2), .val .null, .val .null, .val (.ref x0), .val (.ref x1), .val .null, .val .null, .val (.int (1 : Int32)), .unset, .unset, .unset] [])) (fun _ k => XS.istore X6.here hx rfl (hb hby at_75) rfl (l' := #[.val (.int p0), .val (.int p1), .val (.int p2), .val .null, .val .null, .val (.ref x0), .val (.ref x1), .val .null, .val .null, .val (.int (1 : Int32)), .unset, .unset, .unset]) rfl k) ?_
    refine Out.via (g' := (mkF m 79 #[.val (.int p0), .val (.int p1), .val (.int p2), .val .null, .val .null, .val (.ref x0), .val (.ref x1), .val .null, .val .null, .val (.int (1 : Int32)), .unset, .unset, .unset] [.null])) (fun _ k => XS.aload X6.here hx rfl (hb hby at_77) rfl rfl k) ?_
    refine Out.via (g' := (mkF m 81 #[.val (.int p0), .val (.int p1), .val (.int p2), .val .null, .val .null, .val (.ref x0), .val (.ref x1), .val .null, .val .null, .val (.int (1 : Int32)), .unset, .unset, .unset] [.null, .null])) (fun _ k => XS.aload X6.here hx rfl (hb hby at_79) rfl rfl k) ?_
    refine Out.via (g' := (mkF m 84 #[.val (.int p0), .val (.int p1), .val (.int p2), .val .null, .val .null, .val (.ref x0), .val (.ref x1), .val .null, .val .null, .val (.int (1 : Int32)), .unset, .unset, .unset] [])) (fun _ k => Jvm.RoadKit.acmp (g := (mkF m 81 #[.val (.int p0), .val (.int p1), .val (.int p2), .val .null, .val .null, .val (.ref x0), .val (.ref x1), .val .null, .val .null, .val (.int (1 : Int32)), .unset, .unset, .unset] [.null, .null])) X6 hx rfl rfl rfl (pc0 := 81) (pc' := 84) (same := true) rfl (hb hby at_81) rfl (decide_eq_true rfl) (by decide) (by decide) k) ?_
    refine Out.via (g' := (mkF m 85 #[.val (.int p0), .val (.int p1), .val (.int p2), .val .null, .val .null, .val (.ref x0), .val (.ref x1), .val .null, .val .null, .val (.int (1 : Int32)), .unset, .unset, .unset] [(.int (1 : Int32))])) (fun _ k => XS.iconst X6.here hx rfl (hb hby at_84) k) ?_
    refine Out.via (g' := (mkF m 89 #[.val (.int p0), .val (.int p1), .val (.int p2), .val .null, .val .null, .val (.ref x0), .val (.ref x1), .val .null, .val .null, .val (.int (1 : Int32)), .unset, .unset, .unset] [(.int (1 : Int32))])) (fun _ k => XS.goto X6.here hx rfl (pc0 := 85) (pc' := 89) rfl (hb hby at_85) (by decide) (by decide) k) ?_
    refine Out.via (g' := (mkF m 91 #[.val (.int p0), .val (.int p1), .val (.int p2), .val .null, .val .null, .val (.ref x0), .val (.ref x1), .val .null, .val .null, .val (.int (1 : Int32)), .val (.int (1 : Int32)), .unset, .unset] [])) (fun _ k => XS.istore X6.here hx rfl (hb hby at_89) rfl (l' := #[.val (.int p0), .val (.int p1), .val (.int p2), .val .null, .val .null, .val (.ref x0), .val (.ref x1), .val .null, .val .null, .val (.int (1 : Int32)), .val (.int (1 : Int32)), .unset, .unset]) rfl k) ?_
    refine Out.via (g' := (mkF m 92 #[.val (.int p0), .val (.int p1), .val (.int p2), .val .null, .val .null, .val (.ref x0), .val (.ref x1), .val .null, .val .null, .val (.int (1 : Int32)), .val (.int (1 : Int32)), .unset, .unset] [.null])) (fun _ k => XS.aloadN X6.here hx rfl (hb hby at_91) rfl rfl k) ?_
    refine Out.via (g' := (mkF m 109 #[.val (.int p0), .val (.int p1), .val (.int p2), .val .null, .val .null, .val (.ref x0), .val (.ref x1), .val .null, .val .null, .val (.int (1 : Int32)), .val (.int (1 : Int32)), .unset, .unset] [])) (fun _ k => XS.ifnullYes X6.here hx rfl (pc0 := 92) (pc' := 109) rfl (hb hby at_92) rfl (by decide) (by decide) k) ?_
    refine Out.via (g' := (mkF m 110 #[.val (.int p0), .val (.int p1), .val (.int p2), .val .null, .val .null, .val (.ref x0), .val (.ref x1), .val .null, .val .null, .val (.int (1 : Int32)), .val (.int (1 : Int32)), .unset, .unset] [(.int (1 : Int32))])) (fun _ k => XS.iconst X6.here hx rfl (hb hby at_109) k) ?_
    refine Out.via (g' := (mkF m 114 #[.val (.int p0), .val (.int p1), .val (.int p2), .val .null, .val .null, .val (.ref x0), .val (.ref x1), .val .null, .val .null, .val (.int (1 : Int32)), .val (.int (1 : Int32)), .unset, .unset] [(.int (1 : Int32))])) (fun _ k => XS.goto X6.here hx rfl (pc0 := 110) (pc' := 114) rfl (hb hby at_110) (by decide) (by decide) k) ?_
    refine Out.via (g' := (mkF m 116 #[.val (.int p0), .val (.int p1), .val (.int p2), .val .null, .val .null, .val (.ref x0), .val (.ref x1), .val .null, .val .null, .val (.int (1 : Int32)), .val (.int (1 : Int32)), .val (.int (1 : Int32)), .unset] [])) (fun _ k => XS.istore X6.here hx rfl (hb hby at_114) rfl (l' := #[.val (.int p0), .val (.int p1), .val (.int p2), .val .null, .val .null, .val (.ref x0), .val (.ref x1), .val .null, .val .null, .val (.int (1 : Int32)), .val (.int (1 : Int32)), .val (.int (1 : Int32)), .unset]) rfl k) ?_
    refine Out.via (g' := (mkF m 118 #[.val (.int p0), .val (.int p1), .val (.int p2), .val .null, .val .null, .val (.ref x0), .val (.ref x1), .val .null, .val .null, .val (.int (1 : Int32)), .val (.int (1 : Int32)), .val (.int (1 : Int32)), .unset] [.null])) (fun _ k => XS.aload X6.here hx rfl (hb hby at_116) rfl rfl k) ?_
    refine Out.via (g' := (mkF m 135 #[.val (.int p0), .val (.int p1), .val (.int p2), .val .null, .val .null, .val (.ref x0), .val (.ref x1), .val .null, .val .null, .val (.int (1 : Int32)), .val (.int (1 : Int32)), .val (.int (1 : Int32)), .unset] [])) (fun _ k => XS.ifnullYes X6.here hx rfl (pc0 := 118) (pc' := 135) rfl (hb hby at_118) rfl (by decide) (by decide) k) ?_
    refine Out.via (g' := (mkF m 136 #[.val (.int p0), .val (.int p1), .val (.int p2), .val .null, .val .null, .val (.ref x0), .val (.ref x1), .val .null, .val .null, .val (.int (1 : Int32)), .val (.int (1 : Int32)), .val (.int (1 : Int32)), .unset] [(.int (1 : Int32))])) (fun _ k => XS.iconst X6.here hx rfl (hb hby at_135) k) ?_
    refine Out.via (g' := (mkF m 140 #[.val (.int p0), .val (.int p1), .val (.int p2), .val .null, .val .null, .val (.ref x0), .val (.ref x1), .val .null, .val .null, .val (.int (1 : Int32)), .val (.int (1 : Int32)), .val (.int (1 : Int32)), .unset] [(.int (1 : Int32))])) (fun _ k => XS.goto X6.here hx rfl (pc0 := 136) (pc' := 140) rfl (hb hby at_136) (by decide) (by decide) k) ?_
    refine Out.via (g' := (mkF m 142 #[.val (.int p0), .val (.int p1), .val (.int p2), .val .null, .val .null, .val (.ref x0), .val (.ref x1), .val .null, .val .null, .val (.int (1 : Int32)), .val (.int (1 : Int32)), .val (.int (1 : Int32)), .val (.int (1 : Int32))] [])) (fun _ k => XS.istore X6.here hx rfl (hb hby at_140) rfl (l' := #[.val (.int p0), .val (.int p1), .val (.int p2), .val .null, .val .null, .val (.ref x0), .val (.ref x1), .val .null, .val .null, .val (.int (1 : Int32)), .val (.int (1 : Int32)), .val (.int (1 : Int32)), .val (.int (1 : Int32))]) rfl k) ?_
    refine Out.via (g' := (mkF m 144 #[.val (.int p0), .val (.int p1), .val (.int p2), .val .null, .val .null, .val (.ref x0), .val (.ref x1), .val .null, .val .null, .val (.int (1 : Int32)), .val (.int (1 : Int32)), .val (.int (1 : Int32)), .val (.int (1 : Int32))] [(.int (1 : Int32))])) (fun _ k => XS.iload X6.here hx rfl (hb hby at_142) rfl k) ?_
    refine Out.via (g' := (mkF m 147 #[.val (.int p0), .val (.int p1), .val (.int p2), .val .null, .val .null, .val (.ref x0), .val (.ref x1), .val .null, .val .null, .val (.int (1 : Int32)), .val (.int (1 : Int32)), .val (.int (1 : Int32)), .val (.int (1 : Int32))] [])) (fun _ k => XS.ifNo X6.here hx rfl (hb hby at_144) rfl ((if0 _ _).trans (feq (by decide)).1) k) ?_
    refine Out.via (g' := (mkF m 149 #[.val (.int p0), .val (.int p1), .val (.int p2), .val .null, .val .null, .val (.ref x0), .val (.ref x1), .val .null, .val .null, .val (.int (1 : Int32)), .val (.int (1 : Int32)), .val (.int (1 : Int32)), .val (.int (1 : Int32))] [(.int (1 : Int32))])) (fun _ k => XS.iload X6.here hx rfl (hb hby at_147) rfl k) ?_
    refine Out.via (g' := (mkF m 152 #[.val (.int p0), .val (.int p1), .val (.int p2), .val .null, .val .null, .val (.ref x0), .val (.ref x1), .val .null, .val .null, .val (.int (1 : Int32)), .val (.int (1 : Int32)), .val (.int (1 : Int32)), .val (.int (1 : Int32))] [])) (fun _ k => XS.ifNo X6.here hx rfl (hb hby at_149) rfl ((if0 _ _).trans (feq (by decide)).1) k) ?_
    refine Out.via (g' := (mkF m 154 #[.val (.int p0), .val (.int p1), .val (.int p2), .val .null, .val .null, .val (.ref x0), .val (.ref x1), .val .null, .val .null, .val (.int (1 : Int32)), .val (.int (1 : Int32)), .val (.int (1 : Int32)), .val (.int (1 : Int32))] [(.int (1 : Int32))])) (fun _ k => XS.iload X6.here hx rfl (hb hby at_152) rfl k) ?_
    refine Out.via (g' := (mkF m 157 #[.val (.int p0), .val (.int p1), .val (.int p2), .val .null, .val .null, .val (.ref x0), .val (.ref x1), .val .null, .val .null, .val (.int (1 : Int32)), .val (.int (1 : Int32)), .val (.int (1 : Int32)), .val (.int (1 : Int32))] [])) (fun _ k => XS.ifNo X6.here hx rfl (hb hby at_154) rfl ((if0 _ _).trans (feq (by decide)).1) k) ?_
    refine Out.via (g' := (mkF m 159 #[.val (.int p0), .val (.int p1), .val (.int p2), .val .null, .val .null, .val (.ref x0), .val (.ref x1), .val .null, .val .null, .val (.int (1 : Int32)), .val (.int (1 : Int32)), .val (.int (1 : Int32)), .val (.int (1 : Int32))] [(.int (1 : Int32))])) (fun _ k => XS.iload X6.here hx rfl (hb hby at_157) rfl k) ?_
    refine Out.via (g' := (mkF m 162 #[.val (.int p0), .val (.int p1), .val (.int p2), .val .null, .val .null, .val (.ref x0), .val (.ref x1), .val .null, .val .null, .val (.int (1 : Int32)), .val (.int (1 : Int32)), .val (.int (1 : Int32)), .val (.int (1 : Int32))] [])) (fun _ k => XS.ifNo X6.here hx rfl (hb hby at_159) rfl ((if0 _ _).trans (feq (by decide)).1) k) ?_
    refine Out.via (g' := (mkF m 163 #[.val (.int p0), .val (.int p1), .val (.int p2), .val .null, .val .null, .val (.ref x0), .val (.ref x1), .val .null, .val .null, .val (.int (1 : Int32)), .val (.int (1 : Int32)), .val (.int (1 : Int32)), .val (.int (1 : Int32))] [(.int (1 : Int32))])) (fun _ k => XS.iconst X6.here hx rfl (hb hby at_162) k) ?_
    refine Out.via (g' := (mkF m 167 #[.val (.int p0), .val (.int p1), .val (.int p2), .val .null, .val .null, .val (.ref x0), .val (.ref x1), .val .null, .val .null, .val (.int (1 : Int32)), .val (.int (1 : Int32)), .val (.int (1 : Int32)), .val (.int (1 : Int32))] [(.int (1 : Int32))])) (fun _ k => XS.goto X6.here hx rfl (pc0 := 163) (pc' := 167) rfl (hb hby at_163) (by decide) (by decide) k) ?_
    exact Out.endN X6 (fun h => by rw [Bd.returns] at h; cases h) Bd.notSynchronized (by decide) (by decide) (⟨rfl, N0⟩) (fun fs hr => Jvm.RoadKit.retN X6 hx (t := .boolean) Bd.returns (by simp) (hb hby at_167) hr)
  · show RoadKit.Out p.tables e below (End s below (fun v h L => v = some (.int (1 : Int32)) ∧ Fr n0 L) room_1.cells room_1.slots) T4 (mkF m 46 #[.val (.int p0), .val (.int p1), .val (.int p2), .val .null, .val (.ref i1), .val (.ref x0), .val (.ref x1), .unset, .unset, .unset, .unset, .unset, .unset] [(.ref x0)])
    obtain ⟨cq5, kq5, q5a, q5b, q5c⟩ := isOf hZ rfl Tl0.1
    obtain ⟨_, _, ⟨T5, L5, kc5, ks5⟩, -, X5, ⟨Lc5, hQ5, l5, y5, z5⟩, st5⟩ := X4.virtualBack hx (y := (⟨"com/example/syndicate_ledger/syndicateledger/engine/Timeline", "latest", "()Ljava/lang/Object;"⟩ : MethodName)) (z := (⟨"com/example/syndicate_ledger/syndicateledger/engine/Timeline", "latest", "()Ljava/lang/Object;"⟩ : MethodName)) hown (mvT hZ (hw _ (List.mem_of_getElem? (i := 153) rfl))) (mvT hZ (hw _ (List.mem_of_getElem? (i := 154) rfl))) (notFace_of_selects (args := #[]) (mvT hZ (hw _ (List.mem_of_getElem? (i := 156) rfl)))) (mvT hZ (hw _ (List.mem_of_getElem? (i := 156) rfl))) (mvT hZ (hw _ (List.mem_of_getElem? (i := 155) rfl))) (by decide) (backOf (W := 0) (own_rmLA l Z a0 hw [] x0 d .null T4.heap n0 O rfl Tl0) hZ (hw _ (List.mem_of_getElem? (i := 157) rfl)) (hw _ (List.mem_of_getElem? (i := 9) rfl)) (by decide) (by decide)) q5a q5c (g := (mkF m 46 #[.val (.int p0), .val (.int p1), .val (.int p2), .val .null, .val (.ref i1), .val (.ref x0), .val (.ref x1), .unset, .unset, .unset, .unset, .unset, .unset] [(.ref x0)])) rfl (by rw [hml]; rfl) (Steps.refl _) (argsL := []) (rest := []) (lenOf own_pd27 rfl) rfl (by show 2 * 0 + _ ≤ _; exact Nat.le_of_eq rfl) (hb hby at_46) (fun _ _ => ⟨rfl, rfl, (by decide : 10 + 2 ≤ _), (by decide : 46 + 3 ≤ _)⟩)
    dsimp only [Pt.U, Pt.locs, Pt.cells, Pt.slots] at X5 l5 y5 z5 st5 hQ5
    subst l5 y5 z5
    obtain ⟨rfl, Nq5, Kq5⟩ := hQ5
    replace N0 := Fr.app N0 Nq5
    replace O := O.keep Kq5 all0
    replace Tl1 := Tl1.keep Kq5
    replace Ei1 := Ei1.keep Kq5
    replace Fi1 := Fi1.keep Kq5 nin0
    refine Out.to (g' := (mkF m 49 #[.val (.int p0), .val (.int p1), .val (.int p2), .val .null, .val (.ref i1), .val (.ref x0), .val (.ref x1), .unset, .unset, .unset, .unset, .unset, .unset] [.null])) st5 ?_
    refine Out.via (g' := (mkF m 52 #[.val (.int p0), .val (.int p1), .val (.int p2), .val .null, .val (.ref i1), .val (.ref x0), .val (.ref x1), .unset, .unset, .unset, .unset, .unset, .unset] [.null])) (fun _ k => checkcastNull X5 hx (g := (mkF m 49 #[.val (.int p0), .val (.int p1), .val (.int p2), .val .null, .val (.ref i1), .val (.ref x0), .val (.ref x1), .unset, .unset, .unset, .unset, .unset, .unset] [.null])) rfl rfl (hb hby at_49) _ k) ?_
    refine Out.via (g' := (mkF m 54 #[.val (.int p0), .val (.int p1), .val (.int p2), .val .null, .val (.ref i1), .val (.ref x0), .val (.ref x1), .val .null, .unset, .unset, .unset, .unset, .unset] [])) (fun _ k => XS.astore X5.here hx rfl (hb hby at_52) rfl rfl (l' := #[.val (.int p0), .val (.int p1), .val (.int p2), .val .null, .val (.ref i1), .val (.ref x0), .val (.ref x1), .val .null, .unset, .unset, .unset, .unset, .unset]) rfl k) ?_
    refine Out.via (g' := (mkF m 56 #[.val (.int p0), .val (.int p1), .val (.int p2), .val .null, .val (.ref i1), .val (.ref x0), .val (.ref x1), .val .null, .unset, .unset, .unset, .unset, .unset] [(.ref x1)])) (fun _ k => XS.aload X5.here hx rfl (hb hby at_54) rfl rfl k) ?_
    obtain ⟨cq6, kq6, q6a, q6b, q6c⟩ := isOf hZ rfl Tl1.1
    obtain ⟨_, _, ⟨T6, L6, kc6, ks6⟩, -, X6, ⟨Lc6, hQ6, l6, y6, z6⟩, st6⟩ := X5.virtualBack hx (y := (⟨"com/example/syndicate_ledger/syndicateledger/engine/Timeline", "latest", "()Ljava/lang/Object;"⟩ : MethodName)) (z := (⟨"com/example/syndicate_ledger/syndicateledger/engine/Timeline", "latest", "()Ljava/lang/Object;"⟩ : MethodName)) hown (mvT hZ (hw _ (List.mem_of_getElem? (i := 153) rfl))) (mvT hZ (hw _ (List.mem_of_getElem? (i := 154) rfl))) (notFace_of_selects (args := #[]) (mvT hZ (hw _ (List.mem_of_getElem? (i := 156) rfl)))) (mvT hZ (hw _ (List.mem_of_getElem? (i := 156) rfl))) (mvT hZ (hw _ (List.mem_of_getElem? (i := 155) rfl))) (by decide) (backOf (W := 0) (own_rmLA l Z a0 hw [] x1 d (.ref i1) T5.heap n0 O rfl Tl1) hZ (hw _ (List.mem_of_getElem? (i := 157) rfl)) (hw _ (List.mem_of_getElem? (i := 9) rfl)) (by decide) (by decide)) q6a q6c (g := (mkF m 56 #[.val (.int p0), .val (.int p1), .val (.int p2), .val .null, .val (.ref i1), .val (.ref x0), .val (.ref x1), .val .null, .unset, .unset, .unset, .unset, .unset] [(.ref x1)])) rfl (by rw [hml]; rfl) (Steps.refl _) (argsL := []) (rest := []) (lenOf own_pd27 rfl) rfl (by show 2 * 0 + _ ≤ _; exact Nat.le_of_eq rfl) (hb hby at_56) (fun _ _ => ⟨rfl, rfl, (by decide : 12 + 2 ≤ _), (by decide : 49 + 3 ≤ _)⟩)
    dsimp only [Pt.U, Pt.locs, Pt.cells, Pt.slots] at X6 l6 y6 z6 st6 hQ6
    subst l6 y6 z6
    obtain ⟨rfl, Nq6, Kq6⟩ := hQ6
    replace N0 := Fr.app N0 Nq6
    replace O := O.keep Kq6 all0
    replace Ei1 := Ei1.keep Kq6
    replace Fi1 := Fi1.keep Kq6 nin0
    refine Out.to (g' := (mkF m 59 #[.val (.int p0), .val (.int p1), .val (.int p2), .val .null, .val (.ref i1), .val (.ref x0), .val (.ref x1), .val .null, .unset, .unset, .unset, .unset, .unset] [(.ref i1)])) st6 ?_
    obtain ⟨T7, X7, e7, st7⟩ := castY X6 hx hZ hown (hw _ (List.mem_of_getElem? (i := 241) rfl)) rfl (Ins.self Ei1) (g := (mkF m 59 #[.val (.int p0), .val (.int p1), .val (.int p2), .val .null, .val (.ref i1), .val (.ref x0), .val (.ref x1), .val .null, .unset, .unset, .unset, .unset, .unset] [(.ref i1)])) rfl rfl (hb hby at_59)
    refine Out.via (g' := (mkF m 62 #[.val (.int p0), .val (.int p1), .val (.int p2), .val .null, .val (.ref i1), .val (.ref x0), .val (.ref x1), .val .null, .unset, .unset, .unset, .unset, .unset] [(.ref i1)])) st7 ?_
    refine Out.via (g' := (mkF m 64 #[.val (.int p0), .val (.int p1), .val (.int p2), .val .null, .val (.ref i1), .val (.ref x0), .val (.ref x1), .val .null, .val (.ref i1), .unset, .unset, .unset, .unset] [])) (fun _ k => XS.astore X7.here hx rfl (hb hby at_62) rfl rfl (l' := #[.val (.int p0), .val (.int p1), .val (.int p2), .val .null, .val (.ref i1), .val (.ref x0), .val (.ref x1), .val .null, .val (.ref i1), .unset, .unset, .unset, .unset]) rfl k) ?_
    refine Out.via (g' := (mkF m 66 #[.val (.int p0), .val (.int p1), .val (.int p2), .val .null, .val (.ref i1), .val (.ref x0), .val (.ref x1), .val .null, .val (.ref i1), .unset, .unset, .unset, .unset] [.null])) (fun _ k => XS.aload X7.here hx rfl (hb hby at_64) rfl rfl k) ?_
    refine Out.via (g' := (mkF m 67 #[.val (.int p0), .val (.int p1), .val (.int p2), .val .null, .val (.ref i1), .val (.ref x0), .val (.ref x1), .val .null, .val (.ref i1), .unset, .unset, .unset, .unset] [.null, .null])) (fun _ k => XS.aloadN X7.here hx rfl (hb hby at_66) rfl rfl k) ?_
    refine Out.via (g' := (mkF m 70 #[.val (.int p0), .val (.int p1), .val (.int p2), .val .null, .val (.ref i1), .val (.ref x0), .val (.ref x1), .val .null, .val (.ref i1), .unset, .unset, .unset, .unset] [])) (fun _ k => Jvm.RoadKit.acmp (g := (mkF m 67 #[.val (.int p0), .val (.int p1), .val (.int p2), .val .null, .val (.ref i1), .val (.ref x0), .val (.ref x1), .val .null, .val (.ref i1), .unset, .unset, .unset, .unset] [.null, .null])) X7 hx rfl rfl rfl (pc0 := 67) (pc' := 70) (same := true) rfl (hb hby at_67) rfl (decide_eq_true rfl) (by decide) (by decide) k) ?_
    refine Out.via (g' := (mkF m 71 #[.val (.int p0), .val (.int p1), .val (.int p2), .val .null, .val (.ref i1), .val (.ref x0), .val (.ref x1), .val .null, .val (.ref i1), .unset, .unset, .unset, .unset] [(.int (1 : Int32))])) (fun _ k => XS.iconst X7.here hx rfl (hb hby at_70) k) ?_
    refine Out.via (g' := (mkF m 75 #[.val (.int p0), .val (.int p1), .val (.int p2), .val .null, .val (.ref i1), .val (.ref x0), .val (.ref x1), .val .null, .val (.ref i1), .unset, .unset, .unset, .unset] [(.int (1 : Int32))])) (fun _ k => XS.goto X7.here hx rfl (pc0 := 71) (pc' := 75) rfl (hb hby at_71) (by decide) (by decide) k) ?_
    refine Out.via (g' := (mkF m 77 #[.val (.int p0), .val (.int p1), .val (.int p2), .val .null, .val (.ref i1), .val (.ref x0), .val (.ref x1), .val .null, .val (.ref i1), .val (.int (1 : Int32)), .unset, .unset, .unset] [])) (fun _ k => XS.istore X7.here hx rfl (hb hby at_75) rfl (l' := #[.val (.int p0), .val (.int p1), .val (.int p2), .val .null, .val (.ref i1), .val (.ref x0), .val (.ref x1), .val .null, .val (.ref i1), .val (.int (1 : Int32)), .unset, .unset, .unset]) rfl k) ?_
    refine Out.via (g' := (mkF m 79 #[.val (.int p0), .val (.int p1), .val (.int p2), .val .null, .val (.ref i1), .val (.ref x0), .val (.ref x1), .val .null, .val (.ref i1), .val (.int (1 : Int32)), .unset, .unset, .unset] [(.ref i1)])) (fun _ k => XS.aload X7.here hx rfl (hb hby at_77) rfl rfl k) ?_
    refine Out.via (g' := (mkF m 81 #[.val (.int p0), .val (.int p1), .val (.int p2), .val .null, .val (.ref i1), .val (.ref x0), .val (.ref x1), .val .null, .val (.ref i1), .val (.int (1 : Int32)), .unset, .unset, .unset] [(.ref i1), (.ref i1)])) (fun _ k => XS.aload X7.here hx rfl (hb hby at_79) rfl rfl k) ?_
    refine Out.via (g' := (mkF m 84 #[.val (.int p0), .val (.int p1), .val (.int p2), .val .null, .val (.ref i1), .val (.ref x0), .val (.ref x1), .val .null, .val (.ref i1), .val (.int (1 : Int32)), .unset, .unset, .unset] [])) (fun _ k => Jvm.RoadKit.acmp (g := (mkF m 81 #[.val (.int p0), .val (.int p1), .val (.int p2), .val .null, .val (.ref i1), .val (.ref x0), .val (.ref x1), .val .null, .val (.ref i1), .val (.int (1 : Int32)), .unset, .unset, .unset] [(.ref i1), (.ref i1)])) X7 hx rfl rfl rfl (pc0 := 81) (pc' := 84) (same := true) rfl (hb hby at_81) rfl (decide_eq_true rfl) (by decide) (by decide) k) ?_
    refine Out.via (g' := (mkF m 85 #[.val (.int p0), .val (.int p1), .val (.int p2), .val .null, .val (.ref i1), .val (.ref x0), .val (.ref x1), .val .null, .val (.ref i1), .val (.int (1 : Int32)), .unset, .unset, .unset] [(.int (1 : Int32))])) (fun _ k => XS.iconst X7.here hx rfl (hb hby at_84) k) ?_
    refine Out.via (g' := (mkF m 89 #[.val (.int p0), .val (.int p1), .val (.int p2), .val .null, .val (.ref i1), .val (.ref x0), .val (.ref x1), .val .null, .val (.ref i1), .val (.int (1 : Int32)), .unset, .unset, .unset] [(.int (1 : Int32))])) (fun _ k => XS.goto X7.here hx rfl (pc0 := 85) (pc' := 89) rfl (hb hby at_85) (by decide) (by decide) k) ?_
    refine Out.via (g' := (mkF m 91 #[.val (.int p0), .val (.int p1), .val (.int p2), .val .null, .val (.ref i1), .val (.ref x0), .val (.ref x1), .val .null, .val (.ref i1), .val (.int (1 : Int32)), .val (.int (1 : Int32)), .unset, .unset] [])) (fun _ k => XS.istore X7.here hx rfl (hb hby at_89) rfl (l' := #[.val (.int p0), .val (.int p1), .val (.int p2), .val .null, .val (.ref i1), .val (.ref x0), .val (.ref x1), .val .null, .val (.ref i1), .val (.int (1 : Int32)), .val (.int (1 : Int32)), .unset, .unset]) rfl k) ?_
    refine Out.via (g' := (mkF m 92 #[.val (.int p0), .val (.int p1), .val (.int p2), .val .null, .val (.ref i1), .val (.ref x0), .val (.ref x1), .val .null, .val (.ref i1), .val (.int (1 : Int32)), .val (.int (1 : Int32)), .unset, .unset] [.null])) (fun _ k => XS.aloadN X7.here hx rfl (hb hby at_91) rfl rfl k) ?_
    refine Out.via (g' := (mkF m 109 #[.val (.int p0), .val (.int p1), .val (.int p2), .val .null, .val (.ref i1), .val (.ref x0), .val (.ref x1), .val .null, .val (.ref i1), .val (.int (1 : Int32)), .val (.int (1 : Int32)), .unset, .unset] [])) (fun _ k => XS.ifnullYes X7.here hx rfl (pc0 := 92) (pc' := 109) rfl (hb hby at_92) rfl (by decide) (by decide) k) ?_
    refine Out.via (g' := (mkF m 110 #[.val (.int p0), .val (.int p1), .val (.int p2), .val .null, .val (.ref i1), .val (.ref x0), .val (.ref x1), .val .null, .val (.ref i1), .val (.int (1 : Int32)), .val (.int (1 : Int32)), .unset, .unset] [(.int (1 : Int32))])) (fun _ k => XS.iconst X7.here hx rfl (hb hby at_109) k) ?_
    refine Out.via (g' := (mkF m 114 #[.val (.int p0), .val (.int p1), .val (.int p2), .val .null, .val (.ref i1), .val (.ref x0), .val (.ref x1), .val .null, .val (.ref i1), .val (.int (1 : Int32)), .val (.int (1 : Int32)), .unset, .unset] [(.int (1 : Int32))])) (fun _ k => XS.goto X7.here hx rfl (pc0 := 110) (pc' := 114) rfl (hb hby at_110) (by decide) (by decide) k) ?_
    refine Out.via (g' := (mkF m 116 #[.val (.int p0), .val (.int p1), .val (.int p2), .val .null, .val (.ref i1), .val (.ref x0), .val (.ref x1), .val .null, .val (.ref i1), .val (.int (1 : Int32)), .val (.int (1 : Int32)), .val (.int (1 : Int32)), .unset] [])) (fun _ k => XS.istore X7.here hx rfl (hb hby at_114) rfl (l' := #[.val (.int p0), .val (.int p1), .val (.int p2), .val .null, .val (.ref i1), .val (.ref x0), .val (.ref x1), .val .null, .val (.ref i1), .val (.int (1 : Int32)), .val (.int (1 : Int32)), .val (.int (1 : Int32)), .unset]) rfl k) ?_
    refine Out.via (g' := (mkF m 118 #[.val (.int p0), .val (.int p1), .val (.int p2), .val .null, .val (.ref i1), .val (.ref x0), .val (.ref x1), .val .null, .val (.ref i1), .val (.int (1 : Int32)), .val (.int (1 : Int32)), .val (.int (1 : Int32)), .unset] [(.ref i1)])) (fun _ k => XS.aload X7.here hx rfl (hb hby at_116) rfl rfl k) ?_
    refine Out.via (g' := (mkF m 121 #[.val (.int p0), .val (.int p1), .val (.int p2), .val .null, .val (.ref i1), .val (.ref x0), .val (.ref x1), .val .null, .val (.ref i1), .val (.int (1 : Int32)), .val (.int (1 : Int32)), .val (.int (1 : Int32)), .unset] [])) (fun _ k => XS.ifnullNo X7.here hx rfl (hb hby at_118) rfl k) ?_
    refine Out.via (g' := (mkF m 123 #[.val (.int p0), .val (.int p1), .val (.int p2), .val .null, .val (.ref i1), .val (.ref x0), .val (.ref x1), .val .null, .val (.ref i1), .val (.int (1 : Int32)), .val (.int (1 : Int32)), .val (.int (1 : Int32)), .unset] [(.ref i1)])) (fun _ k => XS.aload X7.here hx rfl (hb hby at_121) rfl rfl k) ?_
    refine Out.via (g' := (mkF m 126 #[.val (.int p0), .val (.int p1), .val (.int p2), .val .null, .val (.ref i1), .val (.ref x0), .val (.ref x1), .val .null, .val (.ref i1), .val (.int (1 : Int32)), .val (.int (1 : Int32)), .val (.int (1 : Int32)), .unset] [])) (fun _ k => XS.ifnullNo X7.here hx rfl (hb hby at_123) rfl k) ?_
    refine Out.via (g' := (mkF m 128 #[.val (.int p0), .val (.int p1), .val (.int p2), .val .null, .val (.ref i1), .val (.ref x0), .val (.ref x1), .val .null, .val (.ref i1), .val (.int (1 : Int32)), .val (.int (1 : Int32)), .val (.int (1 : Int32)), .unset] [(.ref i1)])) (fun _ k => XS.aload X7.here hx rfl (hb hby at_126) rfl rfl k) ?_
    obtain ⟨cq8, kq8, q8a, q8b, q8c⟩ := isOf hZ e7 Ei1
    obtain ⟨_, _, ⟨T8, L8, kc8, ks8⟩, -, X8, ⟨Lc8, hQ8, l8, y8, z8⟩, st8⟩ := X7.virtualBack hx (y := (⟨"java/lang/Integer", "intValue", "()I"⟩ : MethodName)) (z := (⟨"java/lang/Integer", "intValue", "()I"⟩ : MethodName)) hown (mvT hZ (hw _ (List.mem_of_getElem? (i := 243) rfl))) (mvT hZ (hw _ (List.mem_of_getElem? (i := 244) rfl))) (notFace_of_selects (args := #[]) (mvT hZ (hw _ (List.mem_of_getElem? (i := 246) rfl)))) (mvT hZ (hw _ (List.mem_of_getElem? (i := 246) rfl))) (mvT hZ (hw _ (List.mem_of_getElem? (i := 245) rfl))) (by decide) (backOf (W := 0) (own_rmIV l Z a0 hw [] i1 p1 T6.heap n0 O Fi1) hZ (hw _ (List.mem_of_getElem? (i := 247) rfl)) (hw _ (List.mem_of_getElem? (i := 2) rfl)) (by decide) (by decide)) q8a q8c (g := (mkF m 128 #[.val (.int p0), .val (.int p1), .val (.int p2), .val .null, .val (.ref i1), .val (.ref x0), .val (.ref x1), .val .null, .val (.ref i1), .val (.int (1 : Int32)), .val (.int (1 : Int32)), .val (.int (1 : Int32)), .unset] [(.ref i1)])) rfl (by rw [hml]; rfl) (Steps.refl _) (argsL := []) (rest := []) (lenOf own_pd37 rfl) rfl (by show 2 * 0 + _ ≤ _; exact Nat.le_of_eq rfl) (hb hby at_128) (fun _ _ => ⟨rfl, e7, (by decide : 14 + 0 ≤ _), (by decide : 52 + 0 ≤ _)⟩)
    dsimp only [Pt.U, Pt.locs, Pt.cells, Pt.slots] at X8 l8 y8 z8 st8 hQ8
    subst l8 y8 z8
    obtain ⟨rfl, Nq8, eq8⟩ := hQ8
    replace N0 := Fr.app N0 Nq8
    refine Out.to (g' := (mkF m 131 #[.val (.int p0), .val (.int p1), .val (.int p2), .val .null, .val (.ref i1), .val (.ref x0), .val (.ref x1), .val .null, .val (.ref i1), .val (.int (1 : Int32)), .val (.int (1 : Int32)), .val (.int (1 : Int32)), .unset] [(.int p1)])) st8 ?_
    refine Out.via (g' := (mkF m 132 #[.val (.int p0), .val (.int p1), .val (.int p2), .val .null, .val (.ref i1), .val (.ref x0), .val (.ref x1), .val .null, .val (.ref i1), .val (.int (1 : Int32)), .val (.int (1 : Int32)), .val (.int (1 : Int32)), .unset] [(.int p1), (.int p1)])) (fun _ k => XS.iloadN X8.here hx rfl (hb hby at_131) rfl k) ?_
    refine Out.via (g' := (mkF m 135 #[.val (.int p0), .val (.int p1), .val (.int p2), .val .null, .val (.ref i1), .val (.ref x0), .val (.ref x1), .val .null, .val (.ref i1), .val (.int (1 : Int32)), .val (.int (1 : Int32)), .val (.int (1 : Int32)), .unset] [])) (fun _ k => XS.icmpNo X8.here hx rfl (hb hby at_132) rfl (teq rfl).2 k) ?_
    refine Out.via (g' := (mkF m 136 #[.val (.int p0), .val (.int p1), .val (.int p2), .val .null, .val (.ref i1), .val (.ref x0), .val (.ref x1), .val .null, .val (.ref i1), .val (.int (1 : Int32)), .val (.int (1 : Int32)), .val (.int (1 : Int32)), .unset] [(.int (1 : Int32))])) (fun _ k => XS.iconst X8.here hx rfl (hb hby at_135) k) ?_
    refine Out.via (g' := (mkF m 140 #[.val (.int p0), .val (.int p1), .val (.int p2), .val .null, .val (.ref i1), .val (.ref x0), .val (.ref x1), .val .null, .val (.ref i1), .val (.int (1 : Int32)), .val (.int (1 : Int32)), .val (.int (1 : Int32)), .unset] [(.int (1 : Int32))])) (fun _ k => XS.goto X8.here hx rfl (pc0 := 136) (pc' := 140) rfl (hb hby at_136) (by decide) (by decide) k) ?_
    refine Out.via (g' := (mkF m 142 #[.val (.int p0), .val (.int p1), .val (.int p2), .val .null, .val (.ref i1), .val (.ref x0), .val (.ref x1), .val .null, .val (.ref i1), .val (.int (1 : Int32)), .val (.int (1 : Int32)), .val (.int (1 : Int32)), .val (.int (1 : Int32))] [])) (fun _ k => XS.istore X8.here hx rfl (hb hby at_140) rfl (l' := #[.val (.int p0), .val (.int p1), .val (.int p2), .val .null, .val (.ref i1), .val (.ref x0), .val (.ref x1), .val .null, .val (.ref i1), .val (.int (1 : Int32)), .val (.int (1 : Int32)), .val (.int (1 : Int32)), .val (.int (1 : Int32))]) rfl k) ?_
    refine Out.via (g' := (mkF m 144 #[.val (.int p0), .val (.int p1), .val (.int p2), .val .null, .val (.ref i1), .val (.ref x0), .val (.ref x1), .val .null, .val (.ref i1), .val (.int (1 : Int32)), .val (.int (1 : Int32)), .val (.int (1 : Int32)), .val (.int (1 : Int32))] [(.int (1 : Int32))])) (fun _ k => XS.iload X8.here hx rfl (hb hby at_142) rfl k) ?_
    refine Out.via (g' := (mkF m 147 #[.val (.int p0), .val (.int p1), .val (.int p2), .val .null, .val (.ref i1), .val (.ref x0), .val (.ref x1), .val .null, .val (.ref i1), .val (.int (1 : Int32)), .val (.int (1 : Int32)), .val (.int (1 : Int32)), .val (.int (1 : Int32))] [])) (fun _ k => XS.ifNo X8.here hx rfl (hb hby at_144) rfl ((if0 _ _).trans (feq (by decide)).1) k) ?_
    refine Out.via (g' := (mkF m 149 #[.val (.int p0), .val (.int p1), .val (.int p2), .val .null, .val (.ref i1), .val (.ref x0), .val (.ref x1), .val .null, .val (.ref i1), .val (.int (1 : Int32)), .val (.int (1 : Int32)), .val (.int (1 : Int32)), .val (.int (1 : Int32))] [(.int (1 : Int32))])) (fun _ k => XS.iload X8.here hx rfl (hb hby at_147) rfl k) ?_
    refine Out.via (g' := (mkF m 152 #[.val (.int p0), .val (.int p1), .val (.int p2), .val .null, .val (.ref i1), .val (.ref x0), .val (.ref x1), .val .null, .val (.ref i1), .val (.int (1 : Int32)), .val (.int (1 : Int32)), .val (.int (1 : Int32)), .val (.int (1 : Int32))] [])) (fun _ k => XS.ifNo X8.here hx rfl (hb hby at_149) rfl ((if0 _ _).trans (feq (by decide)).1) k) ?_
    refine Out.via (g' := (mkF m 154 #[.val (.int p0), .val (.int p1), .val (.int p2), .val .null, .val (.ref i1), .val (.ref x0), .val (.ref x1), .val .null, .val (.ref i1), .val (.int (1 : Int32)), .val (.int (1 : Int32)), .val (.int (1 : Int32)), .val (.int (1 : Int32))] [(.int (1 : Int32))])) (fun _ k => XS.iload X8.here hx rfl (hb hby at_152) rfl k) ?_
    refine Out.via (g' := (mkF m 157 #[.val (.int p0), .val (.int p1), .val (.int p2), .val .null, .val (.ref i1), .val (.ref x0), .val (.ref x1), .val .null, .val (.ref i1), .val (.int (1 : Int32)), .val (.int (1 : Int32)), .val (.int (1 : Int32)), .val (.int (1 : Int32))] [])) (fun _ k => XS.ifNo X8.here hx rfl (hb hby at_154) rfl ((if0 _ _).trans (feq (by decide)).1) k) ?_
    refine Out.via (g' := (mkF m 159 #[.val (.int p0), .val (.int p1), .val (.int p2), .val .null, .val (.ref i1), .val (.ref x0), .val (.ref x1), .val .null, .val (.ref i1), .val (.int (1 : Int32)), .val (.int (1 : Int32)), .val (.int (1 : Int32)), .val (.int (1 : Int32))] [(.int (1 : Int32))])) (fun _ k => XS.iload X8.here hx rfl (hb hby at_157) rfl k) ?_
    refine Out.via (g' := (mkF m 162 #[.val (.int p0), .val (.int p1), .val (.int p2), .val .null, .val (.ref i1), .val (.ref x0), .val (.ref x1), .val .null, .val (.ref i1), .val (.int (1 : Int32)), .val (.int (1 : Int32)), .val (.int (1 : Int32)), .val (.int (1 : Int32))] [])) (fun _ k => XS.ifNo X8.here hx rfl (hb hby at_159) rfl ((if0 _ _).trans (feq (by decide)).1) k) ?_
    refine Out.via (g' := (mkF m 163 #[.val (.int p0), .val (.int p1), .val (.int p2), .val .null, .val (.ref i1), .val (.ref x0), .val (.ref x1), .val .null, .val (.ref i1), .val (.int (1 : Int32)), .val (.int (1 : Int32)), .val (.int (1 : Int32)), .val (.int (1 : Int32))] [(.int (1 : Int32))])) (fun _ k => XS.iconst X8.here hx rfl (hb hby at_162) k) ?_
    refine Out.via (g' := (mkF m 167 #[.val (.int p0), .val (.int p1), .val (.int p2), .val .null, .val (.ref i1), .val (.ref x0), .val (.ref x1), .val .null, .val (.ref i1), .val (.int (1 : Int32)), .val (.int (1 : Int32)), .val (.int (1 : Int32)), .val (.int (1 : Int32))] [(.int (1 : Int32))])) (fun _ k => XS.goto X8.here hx rfl (pc0 := 163) (pc' := 167) rfl (hb hby at_163) (by decide) (by decide) k) ?_
    exact Out.endN X8 (fun h => by rw [Bd.returns] at h; cases h) Bd.notSynchronized (by decide) (by decide) (⟨rfl, N0⟩) (fun fs hr => Jvm.RoadKit.retN X8 hx (t := .boolean) Bd.returns (by simp) (hb hby at_167) hr)
  · show RoadKit.Out p.tables e below (End s below (fun v h L => v = some (.int (1 : Int32)) ∧ Fr n0 L) room_1.cells room_1.slots) T4 (mkF m 46 #[.val (.int p0), .val (.int p1), .val (.int p2), .val (.ref i0), .val .null, .val (.ref x0), .val (.ref x1), .unset, .unset, .unset, .unset, .unset, .unset] [(.ref x0)])
    obtain ⟨cq5, kq5, q5a, q5b, q5c⟩ := isOf hZ rfl Tl0.1
    obtain ⟨_, _, ⟨T5, L5, kc5, ks5⟩, -, X5, ⟨Lc5, hQ5, l5, y5, z5⟩, st5⟩ := X4.virtualBack hx (y := (⟨"com/example/syndicate_ledger/syndicateledger/engine/Timeline", "latest", "()Ljava/lang/Object;"⟩ : MethodName)) (z := (⟨"com/example/syndicate_ledger/syndicateledger/engine/Timeline", "latest", "()Ljava/lang/Object;"⟩ : MethodName)) hown (mvT hZ (hw _ (List.mem_of_getElem? (i := 153) rfl))) (mvT hZ (hw _ (List.mem_of_getElem? (i := 154) rfl))) (notFace_of_selects (args := #[]) (mvT hZ (hw _ (List.mem_of_getElem? (i := 156) rfl)))) (mvT hZ (hw _ (List.mem_of_getElem? (i := 156) rfl))) (mvT hZ (hw _ (List.mem_of_getElem? (i := 155) rfl))) (by decide) (backOf (W := 0) (own_rmLA l Z a0 hw [] x0 d (.ref i0) T4.heap n0 O rfl Tl0) hZ (hw _ (List.mem_of_getElem? (i := 157) rfl)) (hw _ (List.mem_of_getElem? (i := 9) rfl)) (by decide) (by decide)) q5a q5c (g := (mkF m 46 #[.val (.int p0), .val (.int p1), .val (.int p2), .val (.ref i0), .val .null, .val (.ref x0), .val (.ref x1), .unset, .unset, .unset, .unset, .unset, .unset] [(.ref x0)])) rfl (by rw [hml]; rfl) (Steps.refl _) (argsL := []) (rest := []) (lenOf own_pd27 rfl) rfl (by show 2 * 0 + _ ≤ _; exact Nat.le_of_eq rfl) (hb hby at_46) (fun _ _ => ⟨rfl, rfl, (by decide : 10 + 2 ≤ _), (by decide : 46 + 3 ≤ _)⟩)
    dsimp only [Pt.U, Pt.locs, Pt.cells, Pt.slots] at X5 l5 y5 z5 st5 hQ5
    subst l5 y5 z5
    obtain ⟨rfl, Nq5, Kq5⟩ := hQ5
    replace N0 := Fr.app N0 Nq5
    replace O := O.keep Kq5 all0
    replace Tl1 := Tl1.keep Kq5
    replace Ei0 := Ei0.keep Kq5
    replace Fi0 := Fi0.keep Kq5 nin0
    refine Out.to (g' := (mkF m 49 #[.val (.int p0), .val (.int p1), .val (.int p2), .val (.ref i0), .val .null, .val (.ref x0), .val (.ref x1), .unset, .unset, .unset, .unset, .unset, .unset] [(.ref i0)])) st5 ?_
    obtain ⟨T6, X6, e6, st6⟩ := castY X5 hx hZ hown (hw _ (List.mem_of_getElem? (i := 241) rfl)) rfl (Ins.self Ei0) (g := (mkF m 49 #[.val (.int p0), .val (.int p1), .val (.int p2), .val (.ref i0), .val .null, .val (.ref x0), .val (.ref x1), .unset, .unset, .unset, .unset, .unset, .unset] [(.ref i0)])) rfl rfl (hb hby at_49)
    refine Out.via (g' := (mkF m 52 #[.val (.int p0), .val (.int p1), .val (.int p2), .val (.ref i0), .val .null, .val (.ref x0), .val (.ref x1), .unset, .unset, .unset, .unset, .unset, .unset] [(.ref i0)])) st6 ?_
    refine Out.via (g' := (mkF m 54 #[.val (.int p0), .val (.int p1), .val (.int p2), .val (.ref i0), .val .null, .val (.ref x0), .val (.ref x1), .val (.ref i0), .unset, .unset, .unset, .unset, .unset] [])) (fun _ k => XS.astore X6.here hx rfl (hb hby at_52) rfl rfl (l' := #[.val (.int p0), .val (.int p1), .val (.int p2), .val (.ref i0), .val .null, .val (.ref x0), .val (.ref x1), .val (.ref i0), .unset, .unset, .unset, .unset, .unset]) rfl k) ?_
    refine Out.via (g' := (mkF m 56 #[.val (.int p0), .val (.int p1), .val (.int p2), .val (.ref i0), .val .null, .val (.ref x0), .val (.ref x1), .val (.ref i0), .unset, .unset, .unset, .unset, .unset] [(.ref x1)])) (fun _ k => XS.aload X6.here hx rfl (hb hby at_54) rfl rfl k) ?_
    obtain ⟨cq7, kq7, q7a, q7b, q7c⟩ := isOf hZ e6 Tl1.1
    obtain ⟨_, _, ⟨T7, L7, kc7, ks7⟩, -, X7, ⟨Lc7, hQ7, l7, y7, z7⟩, st7⟩ := X6.virtualBack hx (y := (⟨"com/example/syndicate_ledger/syndicateledger/engine/Timeline", "latest", "()Ljava/lang/Object;"⟩ : MethodName)) (z := (⟨"com/example/syndicate_ledger/syndicateledger/engine/Timeline", "latest", "()Ljava/lang/Object;"⟩ : MethodName)) hown (mvT hZ (hw _ (List.mem_of_getElem? (i := 153) rfl))) (mvT hZ (hw _ (List.mem_of_getElem? (i := 154) rfl))) (notFace_of_selects (args := #[]) (mvT hZ (hw _ (List.mem_of_getElem? (i := 156) rfl)))) (mvT hZ (hw _ (List.mem_of_getElem? (i := 156) rfl))) (mvT hZ (hw _ (List.mem_of_getElem? (i := 155) rfl))) (by decide) (backOf (W := 0) (own_rmLA l Z a0 hw [] x1 d .null T5.heap n0 O rfl Tl1) hZ (hw _ (List.mem_of_getElem? (i := 157) rfl)) (hw _ (List.mem_of_getElem? (i := 9) rfl)) (by decide) (by decide)) q7a q7c (g := (mkF m 56 #[.val (.int p0), .val (.int p1), .val (.int p2), .val (.ref i0), .val .null, .val (.ref x0), .val (.ref x1), .val (.ref i0), .unset, .unset, .unset, .unset, .unset] [(.ref x1)])) rfl (by rw [hml]; rfl) (Steps.refl _) (argsL := []) (rest := []) (lenOf own_pd27 rfl) rfl (by show 2 * 0 + _ ≤ _; exact Nat.le_of_eq rfl) (hb hby at_56) (fun _ _ => ⟨rfl, e6, (by decide : 12 + 2 ≤ _), (by decide : 49 + 3 ≤ _)⟩)
    dsimp only [Pt.U, Pt.locs, Pt.cells, Pt.slots] at X7 l7 y7 z7 st7 hQ7
    subst l7 y7 z7
    obtain ⟨rfl, Nq7, Kq7⟩ := hQ7
    replace N0 := Fr.app N0 Nq7
    replace O := O.keep Kq7 all0
    replace Ei0 := Ei0.keep Kq7
    replace Fi0 := Fi0.keep Kq7 nin0
    refine Out.to (g' := (mkF m 59 #[.val (.int p0), .val (.int p1), .val (.int p2), .val (.ref i0), .val .null, .val (.ref x0), .val (.ref x1), .val (.ref i0), .unset, .unset, .unset, .unset, .unset] [.null])) st7 ?_
    refine Out.via (g' := (mkF m 62 #[.val (.int p0), .val (.int p1), .val (.int p2), .val (.ref i0), .val .null, .val (.ref x0), .val (.ref x1), .val (.ref i0), .unset, .unset, .unset, .unset, .unset] [.null])) (fun _ k => checkcastNull X7 hx (g := (mkF m 59 #[.val (.int p0), .val (.int p1), .val (.int p2), .val (.ref i0), .val .null, .val (.ref x0), .val (.ref x1), .val (.ref i0), .unset, .unset, .unset, .unset, .unset] [.null])) rfl rfl (hb hby at_59) _ k) ?_
    refine Out.via (g' := (mkF m 64 #[.val (.int p0), .val (.int p1), .val (.int p2), .val (.ref i0), .val .null, .val (.ref x0), .val (.ref x1), .val (.ref i0), .val .null, .unset, .unset, .unset, .unset] [])) (fun _ k => XS.astore X7.here hx rfl (hb hby at_62) rfl rfl (l' := #[.val (.int p0), .val (.int p1), .val (.int p2), .val (.ref i0), .val .null, .val (.ref x0), .val (.ref x1), .val (.ref i0), .val .null, .unset, .unset, .unset, .unset]) rfl k) ?_
    refine Out.via (g' := (mkF m 66 #[.val (.int p0), .val (.int p1), .val (.int p2), .val (.ref i0), .val .null, .val (.ref x0), .val (.ref x1), .val (.ref i0), .val .null, .unset, .unset, .unset, .unset] [(.ref i0)])) (fun _ k => XS.aload X7.here hx rfl (hb hby at_64) rfl rfl k) ?_
    refine Out.via (g' := (mkF m 67 #[.val (.int p0), .val (.int p1), .val (.int p2), .val (.ref i0), .val .null, .val (.ref x0), .val (.ref x1), .val (.ref i0), .val .null, .unset, .unset, .unset, .unset] [(.ref i0), (.ref i0)])) (fun _ k => XS.aloadN X7.here hx rfl (hb hby at_66) rfl rfl k) ?_
    refine Out.via (g' := (mkF m 70 #[.val (.int p0), .val (.int p1), .val (.int p2), .val (.ref i0), .val .null, .val (.ref x0), .val (.ref x1), .val (.ref i0), .val .null, .unset, .unset, .unset, .unset] [])) (fun _ k => Jvm.RoadKit.acmp (g := (mkF m 67 #[.val (.int p0), .val (.int p1), .val (.int p2), .val (.ref i0), .val .null, .val (.ref x0), .val (.ref x1), .val (.ref i0), .val .null, .unset, .unset, .unset, .unset] [(.ref i0), (.ref i0)])) X7 hx rfl rfl rfl (pc0 := 67) (pc' := 70) (same := true) rfl (hb hby at_67) rfl (decide_eq_true rfl) (by decide) (by decide) k) ?_
    refine Out.via (g' := (mkF m 71 #[.val (.int p0), .val (.int p1), .val (.int p2), .val (.ref i0), .val .null, .val (.ref x0), .val (.ref x1), .val (.ref i0), .val .null, .unset, .unset, .unset, .unset] [(.int (1 : Int32))])) (fun _ k => XS.iconst X7.here hx rfl (hb hby at_70) k) ?_
    refine Out.via (g' := (mkF m 75 #[.val (.int p0), .val (.int p1), .val (.int p2), .val (.ref i0), .val .null, .val (.ref x0), .val (.ref x1), .val (.ref i0), .val .null, .unset, .unset, .unset, .unset] [(.int (1 : Int32))])) (fun _ k => XS.goto X7.here hx rfl (pc0 := 71) (pc' := 75) rfl (hb hby at_71) (by decide) (by decide) k) ?_
    refine Out.via (g' := (mkF m 77 #[.val (.int p0), .val (.int p1), .val (.int p2), .val (.ref i0), .val .null, .val (.ref x0), .val (.ref x1), .val (.ref i0), .val .null, .val (.int (1 : Int32)), .unset, .unset, .unset] [])) (fun _ k => XS.istore X7.here hx rfl (hb hby at_75) rfl (l' := #[.val (.int p0), .val (.int p1), .val (.int p2), .val (.ref i0), .val .null, .val (.ref x0), .val (.ref x1), .val (.ref i0), .val .null, .val (.int (1 : Int32)), .unset, .unset, .unset]) rfl k) ?_
    refine Out.via (g' := (mkF m 79 #[.val (.int p0), .val (.int p1), .val (.int p2), .val (.ref i0), .val .null, .val (.ref x0), .val (.ref x1), .val (.ref i0), .val .null, .val (.int (1 : Int32)), .unset, .unset, .unset] [.null])) (fun _ k => XS.aload X7.here hx rfl (hb hby at_77) rfl rfl k) ?_
    refine Out.via (g' := (mkF m 81 #[.val (.int p0), .val (.int p1), .val (.int p2), .val (.ref i0), .val .null, .val (.ref x0), .val (.ref x1), .val (.ref i0), .val .null, .val (.int (1 : Int32)), .unset, .unset, .unset] [.null, .null])) (fun _ k => XS.aload X7.here hx rfl (hb hby at_79) rfl rfl k) ?_
    refine Out.via (g' := (mkF m 84 #[.val (.int p0), .val (.int p1), .val (.int p2), .val (.ref i0), .val .null, .val (.ref x0), .val (.ref x1), .val (.ref i0), .val .null, .val (.int (1 : Int32)), .unset, .unset, .unset] [])) (fun _ k => Jvm.RoadKit.acmp (g := (mkF m 81 #[.val (.int p0), .val (.int p1), .val (.int p2), .val (.ref i0), .val .null, .val (.ref x0), .val (.ref x1), .val (.ref i0), .val .null, .val (.int (1 : Int32)), .unset, .unset, .unset] [.null, .null])) X7 hx rfl rfl rfl (pc0 := 81) (pc' := 84) (same := true) rfl (hb hby at_81) rfl (decide_eq_true rfl) (by decide) (by decide) k) ?_
    refine Out.via (g' := (mkF m 85 #[.val (.int p0), .val (.int p1), .val (.int p2), .val (.ref i0), .val .null, .val (.ref x0), .val (.ref x1), .val (.ref i0), .val .null, .val (.int (1 : Int32)), .unset, .unset, .unset] [(.int (1 : Int32))])) (fun _ k => XS.iconst X7.here hx rfl (hb hby at_84) k) ?_
    refine Out.via (g' := (mkF m 89 #[.val (.int p0), .val (.int p1), .val (.int p2), .val (.ref i0), .val .null, .val (.ref x0), .val (.ref x1), .val (.ref i0), .val .null, .val (.int (1 : Int32)), .unset, .unset, .unset] [(.int (1 : Int32))])) (fun _ k => XS.goto X7.here hx rfl (pc0 := 85) (pc' := 89) rfl (hb hby at_85) (by decide) (by decide) k) ?_
    refine Out.via (g' := (mkF m 91 #[.val (.int p0), .val (.int p1), .val (.int p2), .val (.ref i0), .val .null, .val (.ref x0), .val (.ref x1), .val (.ref i0), .val .null, .val (.int (1 : Int32)), .val (.int (1 : Int32)), .unset, .unset] [])) (fun _ k => XS.istore X7.here hx rfl (hb hby at_89) rfl (l' := #[.val (.int p0), .val (.int p1), .val (.int p2), .val (.ref i0), .val .null, .val (.ref x0), .val (.ref x1), .val (.ref i0), .val .null, .val (.int (1 : Int32)), .val (.int (1 : Int32)), .unset, .unset]) rfl k) ?_
    refine Out.via (g' := (mkF m 92 #[.val (.int p0), .val (.int p1), .val (.int p2), .val (.ref i0), .val .null, .val (.ref x0), .val (.ref x1), .val (.ref i0), .val .null, .val (.int (1 : Int32)), .val (.int (1 : Int32)), .unset, .unset] [(.ref i0)])) (fun _ k => XS.aloadN X7.here hx rfl (hb hby at_91) rfl rfl k) ?_
    refine Out.via (g' := (mkF m 95 #[.val (.int p0), .val (.int p1), .val (.int p2), .val (.ref i0), .val .null, .val (.ref x0), .val (.ref x1), .val (.ref i0), .val .null, .val (.int (1 : Int32)), .val (.int (1 : Int32)), .unset, .unset] [])) (fun _ k => XS.ifnullNo X7.here hx rfl (hb hby at_92) rfl k) ?_
    refine Out.via (g' := (mkF m 97 #[.val (.int p0), .val (.int p1), .val (.int p2), .val (.ref i0), .val .null, .val (.ref x0), .val (.ref x1), .val (.ref i0), .val .null, .val (.int (1 : Int32)), .val (.int (1 : Int32)), .unset, .unset] [(.ref i0)])) (fun _ k => XS.aload X7.here hx rfl (hb hby at_95) rfl rfl k) ?_
    refine Out.via (g' := (mkF m 100 #[.val (.int p0), .val (.int p1), .val (.int p2), .val (.ref i0), .val .null, .val (.ref x0), .val (.ref x1), .val (.ref i0), .val .null, .val (.int (1 : Int32)), .val (.int (1 : Int32)), .unset, .unset] [])) (fun _ k => XS.ifnullNo X7.here hx rfl (hb hby at_97) rfl k) ?_
    refine Out.via (g' := (mkF m 102 #[.val (.int p0), .val (.int p1), .val (.int p2), .val (.ref i0), .val .null, .val (.ref x0), .val (.ref x1), .val (.ref i0), .val .null, .val (.int (1 : Int32)), .val (.int (1 : Int32)), .unset, .unset] [(.ref i0)])) (fun _ k => XS.aload X7.here hx rfl (hb hby at_100) rfl rfl k) ?_
    obtain ⟨cq8, kq8, q8a, q8b, q8c⟩ := isOf hZ rfl Ei0
    obtain ⟨_, _, ⟨T8, L8, kc8, ks8⟩, -, X8, ⟨Lc8, hQ8, l8, y8, z8⟩, st8⟩ := X7.virtualBack hx (y := (⟨"java/lang/Integer", "intValue", "()I"⟩ : MethodName)) (z := (⟨"java/lang/Integer", "intValue", "()I"⟩ : MethodName)) hown (mvT hZ (hw _ (List.mem_of_getElem? (i := 243) rfl))) (mvT hZ (hw _ (List.mem_of_getElem? (i := 244) rfl))) (notFace_of_selects (args := #[]) (mvT hZ (hw _ (List.mem_of_getElem? (i := 246) rfl)))) (mvT hZ (hw _ (List.mem_of_getElem? (i := 246) rfl))) (mvT hZ (hw _ (List.mem_of_getElem? (i := 245) rfl))) (by decide) (backOf (W := 0) (own_rmIV l Z a0 hw [] i0 p0 T7.heap n0 O Fi0) hZ (hw _ (List.mem_of_getElem? (i := 247) rfl)) (hw _ (List.mem_of_getElem? (i := 2) rfl)) (by decide) (by decide)) q8a q8c (g := (mkF m 102 #[.val (.int p0), .val (.int p1), .val (.int p2), .val (.ref i0), .val .null, .val (.ref x0), .val (.ref x1), .val (.ref i0), .val .null, .val (.int (1 : Int32)), .val (.int (1 : Int32)), .unset, .unset] [(.ref i0)])) rfl (by rw [hml]; rfl) (Steps.refl _) (argsL := []) (rest := []) (lenOf own_pd37 rfl) rfl (by show 2 * 0 + _ ≤ _; exact Nat.le_of_eq rfl) (hb hby at_102) (fun _ _ => ⟨rfl, rfl, (by decide : 14 + 0 ≤ _), (by decide : 52 + 0 ≤ _)⟩)
    dsimp only [Pt.U, Pt.locs, Pt.cells, Pt.slots] at X8 l8 y8 z8 st8 hQ8
    subst l8 y8 z8
    obtain ⟨rfl, Nq8, eq8⟩ := hQ8
    replace N0 := Fr.app N0 Nq8
    refine Out.to (g' := (mkF m 105 #[.val (.int p0), .val (.int p1), .val (.int p2), .val (.ref i0), .val .null, .val (.ref x0), .val (.ref x1), .val (.ref i0), .val .null, .val (.int (1 : Int32)), .val (.int (1 : Int32)), .unset, .unset] [(.int p0)])) st8 ?_
    refine Out.via (g' := (mkF m 106 #[.val (.int p0), .val (.int p1), .val (.int p2), .val (.ref i0), .val .null, .val (.ref x0), .val (.ref x1), .val (.ref i0), .val .null, .val (.int (1 : Int32)), .val (.int (1 : Int32)), .unset, .unset] [(.int p0), (.int p0)])) (fun _ k => XS.iloadN X8.here hx rfl (hb hby at_105) rfl k) ?_
    refine Out.via (g' := (mkF m 109 #[.val (.int p0), .val (.int p1), .val (.int p2), .val (.ref i0), .val .null, .val (.ref x0), .val (.ref x1), .val (.ref i0), .val .null, .val (.int (1 : Int32)), .val (.int (1 : Int32)), .unset, .unset] [])) (fun _ k => XS.icmpNo X8.here hx rfl (hb hby at_106) rfl (teq rfl).2 k) ?_
    refine Out.via (g' := (mkF m 110 #[.val (.int p0), .val (.int p1), .val (.int p2), .val (.ref i0), .val .null, .val (.ref x0), .val (.ref x1), .val (.ref i0), .val .null, .val (.int (1 : Int32)), .val (.int (1 : Int32)), .unset, .unset] [(.int (1 : Int32))])) (fun _ k => XS.iconst X8.here hx rfl (hb hby at_109) k) ?_
    refine Out.via (g' := (mkF m 114 #[.val (.int p0), .val (.int p1), .val (.int p2), .val (.ref i0), .val .null, .val (.ref x0), .val (.ref x1), .val (.ref i0), .val .null, .val (.int (1 : Int32)), .val (.int (1 : Int32)), .unset, .unset] [(.int (1 : Int32))])) (fun _ k => XS.goto X8.here hx rfl (pc0 := 110) (pc' := 114) rfl (hb hby at_110) (by decide) (by decide) k) ?_
    refine Out.via (g' := (mkF m 116 #[.val (.int p0), .val (.int p1), .val (.int p2), .val (.ref i0), .val .null, .val (.ref x0), .val (.ref x1), .val (.ref i0), .val .null, .val (.int (1 : Int32)), .val (.int (1 : Int32)), .val (.int (1 : Int32)), .unset] [])) (fun _ k => XS.istore X8.here hx rfl (hb hby at_114) rfl (l' := #[.val (.int p0), .val (.int p1), .val (.int p2), .val (.ref i0), .val .null, .val (.ref x0), .val (.ref x1), .val (.ref i0), .val .null, .val (.int (1 : Int32)), .val (.int (1 : Int32)), .val (.int (1 : Int32)), .unset]) rfl k) ?_
    refine Out.via (g' := (mkF m 118 #[.val (.int p0), .val (.int p1), .val (.int p2), .val (.ref i0), .val .null, .val (.ref x0), .val (.ref x1), .val (.ref i0), .val .null, .val (.int (1 : Int32)), .val (.int (1 : Int32)), .val (.int (1 : Int32)), .unset] [.null])) (fun _ k => XS.aload X8.here hx rfl (hb hby at_116) rfl rfl k) ?_
    refine Out.via (g' := (mkF m 135 #[.val (.int p0), .val (.int p1), .val (.int p2), .val (.ref i0), .val .null, .val (.ref x0), .val (.ref x1), .val (.ref i0), .val .null, .val (.int (1 : Int32)), .val (.int (1 : Int32)), .val (.int (1 : Int32)), .unset] [])) (fun _ k => XS.ifnullYes X8.here hx rfl (pc0 := 118) (pc' := 135) rfl (hb hby at_118) rfl (by decide) (by decide) k) ?_
    refine Out.via (g' := (mkF m 136 #[.val (.int p0), .val (.int p1), .val (.int p2), .val (.ref i0), .val .null, .val (.ref x0), .val (.ref x1), .val (.ref i0), .val .null, .val (.int (1 : Int32)), .val (.int (1 : Int32)), .val (.int (1 : Int32)), .unset] [(.int (1 : Int32))])) (fun _ k => XS.iconst X8.here hx rfl (hb hby at_135) k) ?_
    refine Out.via (g' := (mkF m 140 #[.val (.int p0), .val (.int p1), .val (.int p2), .val (.ref i0), .val .null, .val (.ref x0), .val (.ref x1), .val (.ref i0), .val .null, .val (.int (1 : Int32)), .val (.int (1 : Int32)), .val (.int (1 : Int32)), .unset] [(.int (1 : Int32))])) (fun _ k => XS.goto X8.here hx rfl (pc0 := 136) (pc' := 140) rfl (hb hby at_136) (by decide) (by decide) k) ?_
    refine Out.via (g' := (mkF m 142 #[.val (.int p0), .val (.int p1), .val (.int p2), .val (.ref i0), .val .null, .val (.ref x0), .val (.ref x1), .val (.ref i0), .val .null, .val (.int (1 : Int32)), .val (.int (1 : Int32)), .val (.int (1 : Int32)), .val (.int (1 : Int32))] [])) (fun _ k => XS.istore X8.here hx rfl (hb hby at_140) rfl (l' := #[.val (.int p0), .val (.int p1), .val (.int p2), .val (.ref i0), .val .null, .val (.ref x0), .val (.ref x1), .val (.ref i0), .val .null, .val (.int (1 : Int32)), .val (.int (1 : Int32)), .val (.int (1 : Int32)), .val (.int (1 : Int32))]) rfl k) ?_
    refine Out.via (g' := (mkF m 144 #[.val (.int p0), .val (.int p1), .val (.int p2), .val (.ref i0), .val .null, .val (.ref x0), .val (.ref x1), .val (.ref i0), .val .null, .val (.int (1 : Int32)), .val (.int (1 : Int32)), .val (.int (1 : Int32)), .val (.int (1 : Int32))] [(.int (1 : Int32))])) (fun _ k => XS.iload X8.here hx rfl (hb hby at_142) rfl k) ?_
    refine Out.via (g' := (mkF m 147 #[.val (.int p0), .val (.int p1), .val (.int p2), .val (.ref i0), .val .null, .val (.ref x0), .val (.ref x1), .val (.ref i0), .val .null, .val (.int (1 : Int32)), .val (.int (1 : Int32)), .val (.int (1 : Int32)), .val (.int (1 : Int32))] [])) (fun _ k => XS.ifNo X8.here hx rfl (hb hby at_144) rfl ((if0 _ _).trans (feq (by decide)).1) k) ?_
    refine Out.via (g' := (mkF m 149 #[.val (.int p0), .val (.int p1), .val (.int p2), .val (.ref i0), .val .null, .val (.ref x0), .val (.ref x1), .val (.ref i0), .val .null, .val (.int (1 : Int32)), .val (.int (1 : Int32)), .val (.int (1 : Int32)), .val (.int (1 : Int32))] [(.int (1 : Int32))])) (fun _ k => XS.iload X8.here hx rfl (hb hby at_147) rfl k) ?_
    refine Out.via (g' := (mkF m 152 #[.val (.int p0), .val (.int p1), .val (.int p2), .val (.ref i0), .val .null, .val (.ref x0), .val (.ref x1), .val (.ref i0), .val .null, .val (.int (1 : Int32)), .val (.int (1 : Int32)), .val (.int (1 : Int32)), .val (.int (1 : Int32))] [])) (fun _ k => XS.ifNo X8.here hx rfl (hb hby at_149) rfl ((if0 _ _).trans (feq (by decide)).1) k) ?_
    refine Out.via (g' := (mkF m 154 #[.val (.int p0), .val (.int p1), .val (.int p2), .val (.ref i0), .val .null, .val (.ref x0), .val (.ref x1), .val (.ref i0), .val .null, .val (.int (1 : Int32)), .val (.int (1 : Int32)), .val (.int (1 : Int32)), .val (.int (1 : Int32))] [(.int (1 : Int32))])) (fun _ k => XS.iload X8.here hx rfl (hb hby at_152) rfl k) ?_
    refine Out.via (g' := (mkF m 157 #[.val (.int p0), .val (.int p1), .val (.int p2), .val (.ref i0), .val .null, .val (.ref x0), .val (.ref x1), .val (.ref i0), .val .null, .val (.int (1 : Int32)), .val (.int (1 : Int32)), .val (.int (1 : Int32)), .val (.int (1 : Int32))] [])) (fun _ k => XS.ifNo X8.here hx rfl (hb hby at_154) rfl ((if0 _ _).trans (feq (by decide)).1) k) ?_
    refine Out.via (g' := (mkF m 159 #[.val (.int p0), .val (.int p1), .val (.int p2), .val (.ref i0), .val .null, .val (.ref x0), .val (.ref x1), .val (.ref i0), .val .null, .val (.int (1 : Int32)), .val (.int (1 : Int32)), .val (.int (1 : Int32)), .val (.int (1 : Int32))] [(.int (1 : Int32))])) (fun _ k => XS.iload X8.here hx rfl (hb hby at_157) rfl k) ?_
    refine Out.via (g' := (mkF m 162 #[.val (.int p0), .val (.int p1), .val (.int p2), .val (.ref i0), .val .null, .val (.ref x0), .val (.ref x1), .val (.ref i0), .val .null, .val (.int (1 : Int32)), .val (.int (1 : Int32)), .val (.int (1 : Int32)), .val (.int (1 : Int32))] [])) (fun _ k => XS.ifNo X8.here hx rfl (hb hby at_159) rfl ((if0 _ _).trans (feq (by decide)).1) k) ?_
    refine Out.via (g' := (mkF m 163 #[.val (.int p0), .val (.int p1), .val (.int p2), .val (.ref i0), .val .null, .val (.ref x0), .val (.ref x1), .val (.ref i0), .val .null, .val (.int (1 : Int32)), .val (.int (1 : Int32)), .val (.int (1 : Int32)), .val (.int (1 : Int32))] [(.int (1 : Int32))])) (fun _ k => XS.iconst X8.here hx rfl (hb hby at_162) k) ?_
    refine Out.via (g' := (mkF m 167 #[.val (.int p0), .val (.int p1), .val (.int p2), .val (.ref i0), .val .null, .val (.ref x0), .val (.ref x1), .val (.ref i0), .val .null, .val (.int (1 : Int32)), .val (.int (1 : Int32)), .val (.int (1 : Int32)), .val (.int (1 : Int32))] [(.int (1 : Int32))])) (fun _ k => XS.goto X8.here hx rfl (pc0 := 163) (pc' := 167) rfl (hb hby at_163) (by decide) (by decide) k) ?_
    exact Out.endN X8 (fun h => by rw [Bd.returns] at h; cases h) Bd.notSynchronized (by decide) (by decide) (⟨rfl, N0⟩) (fun fs hr => Jvm.RoadKit.retN X8 hx (t := .boolean) Bd.returns (by simp) (hb hby at_167) hr)
  · show RoadKit.Out p.tables e below (End s below (fun v h L => v = some (.int (1 : Int32)) ∧ Fr n0 L) room_1.cells room_1.slots) T4 (mkF m 46 #[.val (.int p0), .val (.int p1), .val (.int p2), .val (.ref i0), .val (.ref i1), .val (.ref x0), .val (.ref x1), .unset, .unset, .unset, .unset, .unset, .unset] [(.ref x0)])
    obtain ⟨cq5, kq5, q5a, q5b, q5c⟩ := isOf hZ rfl Tl0.1
    obtain ⟨_, _, ⟨T5, L5, kc5, ks5⟩, -, X5, ⟨Lc5, hQ5, l5, y5, z5⟩, st5⟩ := X4.virtualBack hx (y := (⟨"com/example/syndicate_ledger/syndicateledger/engine/Timeline", "latest", "()Ljava/lang/Object;"⟩ : MethodName)) (z := (⟨"com/example/syndicate_ledger/syndicateledger/engine/Timeline", "latest", "()Ljava/lang/Object;"⟩ : MethodName)) hown (mvT hZ (hw _ (List.mem_of_getElem? (i := 153) rfl))) (mvT hZ (hw _ (List.mem_of_getElem? (i := 154) rfl))) (notFace_of_selects (args := #[]) (mvT hZ (hw _ (List.mem_of_getElem? (i := 156) rfl)))) (mvT hZ (hw _ (List.mem_of_getElem? (i := 156) rfl))) (mvT hZ (hw _ (List.mem_of_getElem? (i := 155) rfl))) (by decide) (backOf (W := 0) (own_rmLA l Z a0 hw [] x0 d (.ref i0) T4.heap n0 O rfl Tl0) hZ (hw _ (List.mem_of_getElem? (i := 157) rfl)) (hw _ (List.mem_of_getElem? (i := 9) rfl)) (by decide) (by decide)) q5a q5c (g := (mkF m 46 #[.val (.int p0), .val (.int p1), .val (.int p2), .val (.ref i0), .val (.ref i1), .val (.ref x0), .val (.ref x1), .unset, .unset, .unset, .unset, .unset, .unset] [(.ref x0)])) rfl (by rw [hml]; rfl) (Steps.refl _) (argsL := []) (rest := []) (lenOf own_pd27 rfl) rfl (by show 2 * 0 + _ ≤ _; exact Nat.le_of_eq rfl) (hb hby at_46) (fun _ _ => ⟨rfl, rfl, (by decide : 10 + 2 ≤ _), (by decide : 46 + 3 ≤ _)⟩)
    dsimp only [Pt.U, Pt.locs, Pt.cells, Pt.slots] at X5 l5 y5 z5 st5 hQ5
    subst l5 y5 z5
    obtain ⟨rfl, Nq5, Kq5⟩ := hQ5
    replace N0 := Fr.app N0 Nq5
    replace O := O.keep Kq5 all0
    replace Tl1 := Tl1.keep Kq5
    replace Ei0 := Ei0.keep Kq5
    replace Fi0 := Fi0.keep Kq5 nin0
    replace Ei1 := Ei1.keep Kq5
    replace Fi1 := Fi1.keep Kq5 nin0
    refine Out.to (g' := (mkF m 49 #[.val (.int p0), .val (.int p1), .val (.int p2), .val (.ref i0), .val (.ref i1), .val (.ref x0), .val (.ref x1), .unset, .unset, .unset, .unset, .unset, .unset] [(.ref i0)])) st5 ?_
    obtain ⟨T6, X6, e6, st6⟩ := castY X5 hx hZ hown (hw _ (List.mem_of_getElem? (i := 241) rfl)) rfl (Ins.self Ei0) (g := (mkF m 49 #[.val (.int p0), .val (.int p1), .val (.int p2), .val (.ref i0), .val (.ref i1), .val (.ref x0), .val (.ref x1), .unset, .unset, .unset, .unset, .unset, .unset] [(.ref i0)])) rfl rfl (hb hby at_49)
    refine Out.via (g' := (mkF m 52 #[.val (.int p0), .val (.int p1), .val (.int p2), .val (.ref i0), .val (.ref i1), .val (.ref x0), .val (.ref x1), .unset, .unset, .unset, .unset, .unset, .unset] [(.ref i0)])) st6 ?_
    refine Out.via (g' := (mkF m 54 #[.val (.int p0), .val (.int p1), .val (.int p2), .val (.ref i0), .val (.ref i1), .val (.ref x0), .val (.ref x1), .val (.ref i0), .unset, .unset, .unset, .unset, .unset] [])) (fun _ k => XS.astore X6.here hx rfl (hb hby at_52) rfl rfl (l' := #[.val (.int p0), .val (.int p1), .val (.int p2), .val (.ref i0), .val (.ref i1), .val (.ref x0), .val (.ref x1), .val (.ref i0), .unset, .unset, .unset, .unset, .unset]) rfl k) ?_
    refine Out.via (g' := (mkF m 56 #[.val (.int p0), .val (.int p1), .val (.int p2), .val (.ref i0), .val (.ref i1), .val (.ref x0), .val (.ref x1), .val (.ref i0), .unset, .unset, .unset, .unset, .unset] [(.ref x1)])) (fun _ k => XS.aload X6.here hx rfl (hb hby at_54) rfl rfl k) ?_
    obtain ⟨cq7, kq7, q7a, q7b, q7c⟩ := isOf hZ e6 Tl1.1
    obtain ⟨_, _, ⟨T7, L7, kc7, ks7⟩, -, X7, ⟨Lc7, hQ7, l7, y7, z7⟩, st7⟩ := X6.virtualBack hx (y := (⟨"com/example/syndicate_ledger/syndicateledger/engine/Timeline", "latest", "()Ljava/lang/Object;"⟩ : MethodName)) (z := (⟨"com/example/syndicate_ledger/syndicateledger/engine/Timeline", "latest", "()Ljava/lang/Object;"⟩ : MethodName)) hown (mvT hZ (hw _ (List.mem_of_getElem? (i := 153) rfl))) (mvT hZ (hw _ (List.mem_of_getElem? (i := 154) rfl))) (notFace_of_selects (args := #[]) (mvT hZ (hw _ (List.mem_of_getElem? (i := 156) rfl)))) (mvT hZ (hw _ (List.mem_of_getElem? (i := 156) rfl))) (mvT hZ (hw _ (List.mem_of_getElem? (i := 155) rfl))) (by decide) (backOf (W := 0) (own_rmLA l Z a0 hw [] x1 d (.ref i1) T5.heap n0 O rfl Tl1) hZ (hw _ (List.mem_of_getElem? (i := 157) rfl)) (hw _ (List.mem_of_getElem? (i := 9) rfl)) (by decide) (by decide)) q7a q7c (g := (mkF m 56 #[.val (.int p0), .val (.int p1), .val (.int p2), .val (.ref i0), .val (.ref i1), .val (.ref x0), .val (.ref x1), .val (.ref i0), .unset, .unset, .unset, .unset, .unset] [(.ref x1)])) rfl (by rw [hml]; rfl) (Steps.refl _) (argsL := []) (rest := []) (lenOf own_pd27 rfl) rfl (by show 2 * 0 + _ ≤ _; exact Nat.le_of_eq rfl) (hb hby at_56) (fun _ _ => ⟨rfl, e6, (by decide : 12 + 2 ≤ _), (by decide : 49 + 3 ≤ _)⟩)
    dsimp only [Pt.U, Pt.locs, Pt.cells, Pt.slots] at X7 l7 y7 z7 st7 hQ7
    subst l7 y7 z7
    obtain ⟨rfl, Nq7, Kq7⟩ := hQ7
    replace N0 := Fr.app N0 Nq7
    replace O := O.keep Kq7 all0
    replace Ei0 := Ei0.keep Kq7
    replace Fi0 := Fi0.keep Kq7 nin0
    replace Ei1 := Ei1.keep Kq7
    replace Fi1 := Fi1.keep Kq7 nin0
    refine Out.to (g' := (mkF m 59 #[.val (.int p0), .val (.int p1), .val (.int p2), .val (.ref i0), .val (.ref i1), .val (.ref x0), .val (.ref x1), .val (.ref i0), .unset, .unset, .unset, .unset, .unset] [(.ref i1)])) st7 ?_
    obtain ⟨T8, X8, e8, st8⟩ := castY X7 hx hZ hown (hw _ (List.mem_of_getElem? (i := 241) rfl)) rfl (Ins.self Ei1) (g := (mkF m 59 #[.val (.int p0), .val (.int p1), .val (.int p2), .val (.ref i0), .val (.ref i1), .val (.ref x0), .val (.ref x1), .val (.ref i0), .unset, .unset, .unset, .unset, .unset] [(.ref i1)])) rfl rfl (hb hby at_59)
    refine Out.via (g' := (mkF m 62 #[.val (.int p0), .val (.int p1), .val (.int p2), .val (.ref i0), .val (.ref i1), .val (.ref x0), .val (.ref x1), .val (.ref i0), .unset, .unset, .unset, .unset, .unset] [(.ref i1)])) st8 ?_
    refine Out.via (g' := (mkF m 64 #[.val (.int p0), .val (.int p1), .val (.int p2), .val (.ref i0), .val (.ref i1), .val (.ref x0), .val (.ref x1), .val (.ref i0), .val (.ref i1), .unset, .unset, .unset, .unset] [])) (fun _ k => XS.astore X8.here hx rfl (hb hby at_62) rfl rfl (l' := #[.val (.int p0), .val (.int p1), .val (.int p2), .val (.ref i0), .val (.ref i1), .val (.ref x0), .val (.ref x1), .val (.ref i0), .val (.ref i1), .unset, .unset, .unset, .unset]) rfl k) ?_
    refine Out.via (g' := (mkF m 66 #[.val (.int p0), .val (.int p1), .val (.int p2), .val (.ref i0), .val (.ref i1), .val (.ref x0), .val (.ref x1), .val (.ref i0), .val (.ref i1), .unset, .unset, .unset, .unset] [(.ref i0)])) (fun _ k => XS.aload X8.here hx rfl (hb hby at_64) rfl rfl k) ?_
    refine Out.via (g' := (mkF m 67 #[.val (.int p0), .val (.int p1), .val (.int p2), .val (.ref i0), .val (.ref i1), .val (.ref x0), .val (.ref x1), .val (.ref i0), .val (.ref i1), .unset, .unset, .unset, .unset] [(.ref i0), (.ref i0)])) (fun _ k => XS.aloadN X8.here hx rfl (hb hby at_66) rfl rfl k) ?_
    refine Out.via (g' := (mkF m 70 #[.val (.int p0), .val (.int p1), .val (.int p2), .val (.ref i0), .val (.ref i1), .val (.ref x0), .val (.ref x1), .val (.ref i0), .val (.ref i1), .unset, .unset, .unset, .unset] [])) (fun _ k => Jvm.RoadKit.acmp (g := (mkF m 67 #[.val (.int p0), .val (.int p1), .val (.int p2), .val (.ref i0), .val (.ref i1), .val (.ref x0), .val (.ref x1), .val (.ref i0), .val (.ref i1), .unset, .unset, .unset, .unset] [(.ref i0), (.ref i0)])) X8 hx rfl rfl rfl (pc0 := 67) (pc' := 70) (same := true) rfl (hb hby at_67) rfl (decide_eq_true rfl) (by decide) (by decide) k) ?_
    refine Out.via (g' := (mkF m 71 #[.val (.int p0), .val (.int p1), .val (.int p2), .val (.ref i0), .val (.ref i1), .val (.ref x0), .val (.ref x1), .val (.ref i0), .val (.ref i1), .unset, .unset, .unset, .unset] [(.int (1 : Int32))])) (fun _ k => XS.iconst X8.here hx rfl (hb hby at_70) k) ?_
    refine Out.via (g' := (mkF m 75 #[.val (.int p0), .val (.int p1), .val (.int p2), .val (.ref i0), .val (.ref i1), .val (.ref x0), .val (.ref x1), .val (.ref i0), .val (.ref i1), .unset, .unset, .unset, .unset] [(.int (1 : Int32))])) (fun _ k => XS.goto X8.here hx rfl (pc0 := 71) (pc' := 75) rfl (hb hby at_71) (by decide) (by decide) k) ?_
    refine Out.via (g' := (mkF m 77 #[.val (.int p0), .val (.int p1), .val (.int p2), .val (.ref i0), .val (.ref i1), .val (.ref x0), .val (.ref x1), .val (.ref i0), .val (.ref i1), .val (.int (1 : Int32)), .unset, .unset, .unset] [])) (fun _ k => XS.istore X8.here hx rfl (hb hby at_75) rfl (l' := #[.val (.int p0), .val (.int p1), .val (.int p2), .val (.ref i0), .val (.ref i1), .val (.ref x0), .val (.ref x1), .val (.ref i0), .val (.ref i1), .val (.int (1 : Int32)), .unset, .unset, .unset]) rfl k) ?_
    refine Out.via (g' := (mkF m 79 #[.val (.int p0), .val (.int p1), .val (.int p2), .val (.ref i0), .val (.ref i1), .val (.ref x0), .val (.ref x1), .val (.ref i0), .val (.ref i1), .val (.int (1 : Int32)), .unset, .unset, .unset] [(.ref i1)])) (fun _ k => XS.aload X8.here hx rfl (hb hby at_77) rfl rfl k) ?_
    refine Out.via (g' := (mkF m 81 #[.val (.int p0), .val (.int p1), .val (.int p2), .val (.ref i0), .val (.ref i1), .val (.ref x0), .val (.ref x1), .val (.ref i0), .val (.ref i1), .val (.int (1 : Int32)), .unset, .unset, .unset] [(.ref i1), (.ref i1)])) (fun _ k => XS.aload X8.here hx rfl (hb hby at_79) rfl rfl k) ?_
    refine Out.via (g' := (mkF m 84 #[.val (.int p0), .val (.int p1), .val (.int p2), .val (.ref i0), .val (.ref i1), .val (.ref x0), .val (.ref x1), .val (.ref i0), .val (.ref i1), .val (.int (1 : Int32)), .unset, .unset, .unset] [])) (fun _ k => Jvm.RoadKit.acmp (g := (mkF m 81 #[.val (.int p0), .val (.int p1), .val (.int p2), .val (.ref i0), .val (.ref i1), .val (.ref x0), .val (.ref x1), .val (.ref i0), .val (.ref i1), .val (.int (1 : Int32)), .unset, .unset, .unset] [(.ref i1), (.ref i1)])) X8 hx rfl rfl rfl (pc0 := 81) (pc' := 84) (same := true) rfl (hb hby at_81) rfl (decide_eq_true rfl) (by decide) (by decide) k) ?_
    refine Out.via (g' := (mkF m 85 #[.val (.int p0), .val (.int p1), .val (.int p2), .val (.ref i0), .val (.ref i1), .val (.ref x0), .val (.ref x1), .val (.ref i0), .val (.ref i1), .val (.int (1 : Int32)), .unset, .unset, .unset] [(.int (1 : Int32))])) (fun _ k => XS.iconst X8.here hx rfl (hb hby at_84) k) ?_
    refine Out.via (g' := (mkF m 89 #[.val (.int p0), .val (.int p1), .val (.int p2), .val (.ref i0), .val (.ref i1), .val (.ref x0), .val (.ref x1), .val (.ref i0), .val (.ref i1), .val (.int (1 : Int32)), .unset, .unset, .unset] [(.int (1 : Int32))])) (fun _ k => XS.goto X8.here hx rfl (pc0 := 85) (pc' := 89) rfl (hb hby at_85) (by decide) (by decide) k) ?_
    refine Out.via (g' := (mkF m 91 #[.val (.int p0), .val (.int p1), .val (.int p2), .val (.ref i0), .val (.ref i1), .val (.ref x0), .val (.ref x1), .val (.ref i0), .val (.ref i1), .val (.int (1 : Int32)), .val (.int (1 : Int32)), .unset, .unset] [])) (fun _ k => XS.istore X8.here hx rfl (hb hby at_89) rfl (l' := #[.val (.int p0), .val (.int p1), .val (.int p2), .val (.ref i0), .val (.ref i1), .val (.ref x0), .val (.ref x1), .val (.ref i0), .val (.ref i1), .val (.int (1 : Int32)), .val (.int (1 : Int32)), .unset, .unset]) rfl k) ?_
    refine Out.via (g' := (mkF m 92 #[.val (.int p0), .val (.int p1), .val (.int p2), .val (.ref i0), .val (.ref i1), .val (.ref x0), .val (.ref x1), .val (.ref i0), .val (.ref i1), .val (.int (1 : Int32)), .val (.int (1 : Int32)), .unset, .unset] [(.ref i0)])) (fun _ k => XS.aloadN X8.here hx rfl (hb hby at_91) rfl rfl k) ?_
    refine Out.via (g' := (mkF m 95 #[.val (.int p0), .val (.int p1), .val (.int p2), .val (.ref i0), .val (.ref i1), .val (.ref x0), .val (.ref x1), .val (.ref i0), .val (.ref i1), .val (.int (1 : Int32)), .val (.int (1 : Int32)), .unset, .unset] [])) (fun _ k => XS.ifnullNo X8.here hx rfl (hb hby at_92) rfl k) ?_
    refine Out.via (g' := (mkF m 97 #[.val (.int p0), .val (.int p1), .val (.int p2), .val (.ref i0), .val (.ref i1), .val (.ref x0), .val (.ref x1), .val (.ref i0), .val (.ref i1), .val (.int (1 : Int32)), .val (.int (1 : Int32)), .unset, .unset] [(.ref i0)])) (fun _ k => XS.aload X8.here hx rfl (hb hby at_95) rfl rfl k) ?_
    refine Out.via (g' := (mkF m 100 #[.val (.int p0), .val (.int p1), .val (.int p2), .val (.ref i0), .val (.ref i1), .val (.ref x0), .val (.ref x1), .val (.ref i0), .val (.ref i1), .val (.int (1 : Int32)), .val (.int (1 : Int32)), .unset, .unset] [])) (fun _ k => XS.ifnullNo X8.here hx rfl (hb hby at_97) rfl k) ?_
    refine Out.via (g' := (mkF m 102 #[.val (.int p0), .val (.int p1), .val (.int p2), .val (.ref i0), .val (.ref i1), .val (.ref x0), .val (.ref x1), .val (.ref i0), .val (.ref i1), .val (.int (1 : Int32)), .val (.int (1 : Int32)), .unset, .unset] [(.ref i0)])) (fun _ k => XS.aload X8.here hx rfl (hb hby at_100) rfl rfl k) ?_
    obtain ⟨cq9, kq9, q9a, q9b, q9c⟩ := isOf hZ e8 Ei0
    obtain ⟨_, _, ⟨T9, L9, kc9, ks9⟩, -, X9, ⟨Lc9, hQ9, l9, y9, z9⟩, st9⟩ := X8.virtualBack hx (y := (⟨"java/lang/Integer", "intValue", "()I"⟩ : MethodName)) (z := (⟨"java/lang/Integer", "intValue", "()I"⟩ : MethodName)) hown (mvT hZ (hw _ (List.mem_of_getElem? (i := 243) rfl))) (mvT hZ (hw _ (List.mem_of_getElem? (i := 244) rfl))) (notFace_of_selects (args := #[]) (mvT hZ (hw _ (List.mem_of_getElem? (i := 246) rfl)))) (mvT hZ (hw _ (List.mem_of_getElem? (i := 246) rfl))) (mvT hZ (hw _ (List.mem_of_getElem? (i := 245) rfl))) (by decide) (backOf (W := 0) (own_rmIV l Z a0 hw [] i0 p0 T7.heap n0 O Fi0) hZ (hw _ (List.mem_of_getElem? (i := 247) rfl)) (hw _ (List.mem_of_getElem? (i := 2) rfl)) (by decide) (by decide)) q9a q9c (g := (mkF m 102 #[.val (.int p0), .val (.int p1), .val (.int p2), .val (.ref i0), .val (.ref i1), .val (.ref x0), .val (.ref x1), .val (.ref i0), .val (.ref i1), .val (.int (1 : Int32)), .val (.int (1 : Int32)), .unset, .unset] [(.ref i0)])) rfl (by rw [hml]; rfl) (Steps.refl _) (argsL := []) (rest := []) (lenOf own_pd37 rfl) rfl (by show 2 * 0 + _ ≤ _; exact Nat.le_of_eq rfl) (hb hby at_102) (fun _ _ => ⟨rfl, e8, (by decide : 14 + 0 ≤ _), (by decide : 52 + 0 ≤ _)⟩)
    dsimp only [Pt.U, Pt.locs, Pt.cells, Pt.slots] at X9 l9 y9 z9 st9 hQ9
    subst l9 y9 z9
    obtain ⟨rfl, Nq9, eq9⟩ := hQ9
    replace N0 := Fr.app N0 Nq9
    refine Out.to (g' := (mkF m 105 #[.val (.int p0), .val (.int p1), .val (.int p2), .val (.ref i0), .val (.ref i1), .val (.ref x0), .val (.ref x1), .val (.ref i0), .val (.ref i1), .val (.int (1 : Int32)), .val (.int (1 : Int32)), .unset, .unset] [(.int p0)])) st9 ?_
    refine Out.via (g' := (mkF m 106 #[.val (.int p0), .val (.int p1), .val (.int p2), .val (.ref i0), .val (.ref i1), .val (.ref x0), .val (.ref x1), .val (.ref i0), .val (.ref i1), .val (.int (1 : Int32)), .val (.int (1 : Int32)), .unset, .unset] [(.int p0), (.int p0)])) (fun _ k => XS.iloadN X9.here hx rfl (hb hby at_105) rfl k) ?_
    refine Out.via (g' := (mkF m 109 #[.val (.int p0), .val (.int p1), .val (.int p2), .val (.ref i0), .val (.ref i1), .val (.ref x0), .val (.ref x1), .val (.ref i0), .val (.ref i1), .val (.int (1 : Int32)), .val (.int (1 : Int32)), .unset, .unset] [])) (fun _ k => XS.icmpNo X9.here hx rfl (hb hby at_106) rfl (teq rfl).2 k) ?_
    refine Out.via (g' := (mkF m 110 #[.val (.int p0), .val (.int p1), .val (.int p2), .val (.ref i0), .val (.ref i1), .val (.ref x0), .val (.ref x1), .val (.ref i0), .val (.ref i1), .val (.int (1 : Int32)), .val (.int (1 : Int32)), .unset, .unset] [(.int (1 : Int32))])) (fun _ k => XS.iconst X9.here hx rfl (hb hby at_109) k) ?_
    refine Out.via (g' := (mkF m 114 #[.val (.int p0), .val (.int p1), .val (.int p2), .val (.ref i0), .val (.ref i1), .val (.ref x0), .val (.ref x1), .val (.ref i0), .val (.ref i1), .val (.int (1 : Int32)), .val (.int (1 : Int32)), .unset, .unset] [(.int (1 : Int32))])) (fun _ k => XS.goto X9.here hx rfl (pc0 := 110) (pc' := 114) rfl (hb hby at_110) (by decide) (by decide) k) ?_
    refine Out.via (g' := (mkF m 116 #[.val (.int p0), .val (.int p1), .val (.int p2), .val (.ref i0), .val (.ref i1), .val (.ref x0), .val (.ref x1), .val (.ref i0), .val (.ref i1), .val (.int (1 : Int32)), .val (.int (1 : Int32)), .val (.int (1 : Int32)), .unset] [])) (fun _ k => XS.istore X9.here hx rfl (hb hby at_114) rfl (l' := #[.val (.int p0), .val (.int p1), .val (.int p2), .val (.ref i0), .val (.ref i1), .val (.ref x0), .val (.ref x1), .val (.ref i0), .val (.ref i1), .val (.int (1 : Int32)), .val (.int (1 : Int32)), .val (.int (1 : Int32)), .unset]) rfl k) ?_
    refine Out.via (g' := (mkF m 118 #[.val (.int p0), .val (.int p1), .val (.int p2), .val (.ref i0), .val (.ref i1), .val (.ref x0), .val (.ref x1), .val (.ref i0), .val (.ref i1), .val (.int (1 : Int32)), .val (.int (1 : Int32)), .val (.int (1 : Int32)), .unset] [(.ref i1)])) (fun _ k => XS.aload X9.here hx rfl (hb hby at_116) rfl rfl k) ?_
    refine Out.via (g' := (mkF m 121 #[.val (.int p0), .val (.int p1), .val (.int p2), .val (.ref i0), .val (.ref i1), .val (.ref x0), .val (.ref x1), .val (.ref i0), .val (.ref i1), .val (.int (1 : Int32)), .val (.int (1 : Int32)), .val (.int (1 : Int32)), .unset] [])) (fun _ k => XS.ifnullNo X9.here hx rfl (hb hby at_118) rfl k) ?_
    refine Out.via (g' := (mkF m 123 #[.val (.int p0), .val (.int p1), .val (.int p2), .val (.ref i0), .val (.ref i1), .val (.ref x0), .val (.ref x1), .val (.ref i0), .val (.ref i1), .val (.int (1 : Int32)), .val (.int (1 : Int32)), .val (.int (1 : Int32)), .unset] [(.ref i1)])) (fun _ k => XS.aload X9.here hx rfl (hb hby at_121) rfl rfl k) ?_
    refine Out.via (g' := (mkF m 126 #[.val (.int p0), .val (.int p1), .val (.int p2), .val (.ref i0), .val (.ref i1), .val (.ref x0), .val (.ref x1), .val (.ref i0), .val (.ref i1), .val (.int (1 : Int32)), .val (.int (1 : Int32)), .val (.int (1 : Int32)), .unset] [])) (fun _ k => XS.ifnullNo X9.here hx rfl (hb hby at_123) rfl k) ?_
    refine Out.via (g' := (mkF m 128 #[.val (.int p0), .val (.int p1), .val (.int p2), .val (.ref i0), .val (.ref i1), .val (.ref x0), .val (.ref x1), .val (.ref i0), .val (.ref i1), .val (.int (1 : Int32)), .val (.int (1 : Int32)), .val (.int (1 : Int32)), .unset] [(.ref i1)])) (fun _ k => XS.aload X9.here hx rfl (hb hby at_126) rfl rfl k) ?_
    obtain ⟨cq10, kq10, q10a, q10b, q10c⟩ := isOf hZ eq9 Ei1
    obtain ⟨_, _, ⟨T10, L10, kc10, ks10⟩, -, X10, ⟨Lc10, hQ10, l10, y10, z10⟩, st10⟩ := X9.virtualBack hx (y := (⟨"java/lang/Integer", "intValue", "()I"⟩ : MethodName)) (z := (⟨"java/lang/Integer", "intValue", "()I"⟩ : MethodName)) hown (mvT hZ (hw _ (List.mem_of_getElem? (i := 243) rfl))) (mvT hZ (hw _ (List.mem_of_getElem? (i := 244) rfl))) (notFace_of_selects (args := #[]) (mvT hZ (hw _ (List.mem_of_getElem? (i := 246) rfl)))) (mvT hZ (hw _ (List.mem_of_getElem? (i := 246) rfl))) (mvT hZ (hw _ (List.mem_of_getElem? (i := 245) rfl))) (by decide) (backOf (W := 0) (own_rmIV l Z a0 hw [] i1 p1 T7.heap n0 O Fi1) hZ (hw _ (List.mem_of_getElem? (i := 247) rfl)) (hw _ (List.mem_of_getElem? (i := 2) rfl)) (by decide) (by decide)) q10a q10c (g := (mkF m 128 #[.val (.int p0), .val (.int p1), .val (.int p2), .val (.ref i0), .val (.ref i1), .val (.ref x0), .val (.ref x1), .val (.ref i0), .val (.ref i1), .val (.int (1 : Int32)), .val (.int (1 : Int32)), .val (.int (1 : Int32)), .unset] [(.ref i1)])) rfl (by rw [hml]; rfl) (Steps.refl _) (argsL := []) (rest := []) (lenOf own_pd37 rfl) rfl (by show 2 * 0 + _ ≤ _; exact Nat.le_of_eq rfl) (hb hby at_128) (fun _ _ => ⟨rfl, eq9, (by decide : 14 + 0 ≤ _), (by decide : 52 + 0 ≤ _)⟩)
    dsimp only [Pt.U, Pt.locs, Pt.cells, Pt.slots] at X10 l10 y10 z10 st10 hQ10
    subst l10 y10 z10
    obtain ⟨rfl, Nq10, eq10⟩ := hQ10
    replace N0 := Fr.app N0 Nq10
    refine Out.to (g' := (mkF m 131 #[.val (.int p0), .val (.int p1), .val (.int p2), .val (.ref i0), .val (.ref i1), .val (.ref x0), .val (.ref x1), .val (.ref i0), .val (.ref i1), .val (.int (1 : Int32)), .val (.int (1 : Int32)), .val (.int (1 : Int32)), .unset] [(.int p1)])) st10 ?_
    refine Out.via (g' := (mkF m 132 #[.val (.int p0), .val (.int p1), .val (.int p2), .val (.ref i0), .val (.ref i1), .val (.ref x0), .val (.ref x1), .val (.ref i0), .val (.ref i1), .val (.int (1 : Int32)), .val (.int (1 : Int32)), .val (.int (1 : Int32)), .unset] [(.int p1), (.int p1)])) (fun _ k => XS.iloadN X10.here hx rfl (hb hby at_131) rfl k) ?_
    refine Out.via (g' := (mkF m 135 #[.val (.int p0), .val (.int p1), .val (.int p2), .val (.ref i0), .val (.ref i1), .val (.ref x0), .val (.ref x1), .val (.ref i0), .val (.ref i1), .val (.int (1 : Int32)), .val (.int (1 : Int32)), .val (.int (1 : Int32)), .unset] [])) (fun _ k => XS.icmpNo X10.here hx rfl (hb hby at_132) rfl (teq rfl).2 k) ?_
    refine Out.via (g' := (mkF m 136 #[.val (.int p0), .val (.int p1), .val (.int p2), .val (.ref i0), .val (.ref i1), .val (.ref x0), .val (.ref x1), .val (.ref i0), .val (.ref i1), .val (.int (1 : Int32)), .val (.int (1 : Int32)), .val (.int (1 : Int32)), .unset] [(.int (1 : Int32))])) (fun _ k => XS.iconst X10.here hx rfl (hb hby at_135) k) ?_
    refine Out.via (g' := (mkF m 140 #[.val (.int p0), .val (.int p1), .val (.int p2), .val (.ref i0), .val (.ref i1), .val (.ref x0), .val (.ref x1), .val (.ref i0), .val (.ref i1), .val (.int (1 : Int32)), .val (.int (1 : Int32)), .val (.int (1 : Int32)), .unset] [(.int (1 : Int32))])) (fun _ k => XS.goto X10.here hx rfl (pc0 := 136) (pc' := 140) rfl (hb hby at_136) (by decide) (by decide) k) ?_
    refine Out.via (g' := (mkF m 142 #[.val (.int p0), .val (.int p1), .val (.int p2), .val (.ref i0), .val (.ref i1), .val (.ref x0), .val (.ref x1), .val (.ref i0), .val (.ref i1), .val (.int (1 : Int32)), .val (.int (1 : Int32)), .val (.int (1 : Int32)), .val (.int (1 : Int32))] [])) (fun _ k => XS.istore X10.here hx rfl (hb hby at_140) rfl (l' := #[.val (.int p0), .val (.int p1), .val (.int p2), .val (.ref i0), .val (.ref i1), .val (.ref x0), .val (.ref x1), .val (.ref i0), .val (.ref i1), .val (.int (1 : Int32)), .val (.int (1 : Int32)), .val (.int (1 : Int32)), .val (.int (1 : Int32))]) rfl k) ?_
    refine Out.via (g' := (mkF m 144 #[.val (.int p0), .val (.int p1), .val (.int p2), .val (.ref i0), .val (.ref i1), .val (.ref x0), .val (.ref x1), .val (.ref i0), .val (.ref i1), .val (.int (1 : Int32)), .val (.int (1 : Int32)), .val (.int (1 : Int32)), .val (.int (1 : Int32))] [(.int (1 : Int32))])) (fun _ k => XS.iload X10.here hx rfl (hb hby at_142) rfl k) ?_
    refine Out.via (g' := (mkF m 147 #[.val (.int p0), .val (.int p1), .val (.int p2), .val (.ref i0), .val (.ref i1), .val (.ref x0), .val (.ref x1), .val (.ref i0), .val (.ref i1), .val (.int (1 : Int32)), .val (.int (1 : Int32)), .val (.int (1 : Int32)), .val (.int (1 : Int32))] [])) (fun _ k => XS.ifNo X10.here hx rfl (hb hby at_144) rfl ((if0 _ _).trans (feq (by decide)).1) k) ?_
    refine Out.via (g' := (mkF m 149 #[.val (.int p0), .val (.int p1), .val (.int p2), .val (.ref i0), .val (.ref i1), .val (.ref x0), .val (.ref x1), .val (.ref i0), .val (.ref i1), .val (.int (1 : Int32)), .val (.int (1 : Int32)), .val (.int (1 : Int32)), .val (.int (1 : Int32))] [(.int (1 : Int32))])) (fun _ k => XS.iload X10.here hx rfl (hb hby at_147) rfl k) ?_
    refine Out.via (g' := (mkF m 152 #[.val (.int p0), .val (.int p1), .val (.int p2), .val (.ref i0), .val (.ref i1), .val (.ref x0), .val (.ref x1), .val (.ref i0), .val (.ref i1), .val (.int (1 : Int32)), .val (.int (1 : Int32)), .val (.int (1 : Int32)), .val (.int (1 : Int32))] [])) (fun _ k => XS.ifNo X10.here hx rfl (hb hby at_149) rfl ((if0 _ _).trans (feq (by decide)).1) k) ?_
    refine Out.via (g' := (mkF m 154 #[.val (.int p0), .val (.int p1), .val (.int p2), .val (.ref i0), .val (.ref i1), .val (.ref x0), .val (.ref x1), .val (.ref i0), .val (.ref i1), .val (.int (1 : Int32)), .val (.int (1 : Int32)), .val (.int (1 : Int32)), .val (.int (1 : Int32))] [(.int (1 : Int32))])) (fun _ k => XS.iload X10.here hx rfl (hb hby at_152) rfl k) ?_
    refine Out.via (g' := (mkF m 157 #[.val (.int p0), .val (.int p1), .val (.int p2), .val (.ref i0), .val (.ref i1), .val (.ref x0), .val (.ref x1), .val (.ref i0), .val (.ref i1), .val (.int (1 : Int32)), .val (.int (1 : Int32)), .val (.int (1 : Int32)), .val (.int (1 : Int32))] [])) (fun _ k => XS.ifNo X10.here hx rfl (hb hby at_154) rfl ((if0 _ _).trans (feq (by decide)).1) k) ?_
    refine Out.via (g' := (mkF m 159 #[.val (.int p0), .val (.int p1), .val (.int p2), .val (.ref i0), .val (.ref i1), .val (.ref x0), .val (.ref x1), .val (.ref i0), .val (.ref i1), .val (.int (1 : Int32)), .val (.int (1 : Int32)), .val (.int (1 : Int32)), .val (.int (1 : Int32))] [(.int (1 : Int32))])) (fun _ k => XS.iload X10.here hx rfl (hb hby at_157) rfl k) ?_
    refine Out.via (g' := (mkF m 162 #[.val (.int p0), .val (.int p1), .val (.int p2), .val (.ref i0), .val (.ref i1), .val (.ref x0), .val (.ref x1), .val (.ref i0), .val (.ref i1), .val (.int (1 : Int32)), .val (.int (1 : Int32)), .val (.int (1 : Int32)), .val (.int (1 : Int32))] [])) (fun _ k => XS.ifNo X10.here hx rfl (hb hby at_159) rfl ((if0 _ _).trans (feq (by decide)).1) k) ?_
    refine Out.via (g' := (mkF m 163 #[.val (.int p0), .val (.int p1), .val (.int p2), .val (.ref i0), .val (.ref i1), .val (.ref x0), .val (.ref x1), .val (.ref i0), .val (.ref i1), .val (.int (1 : Int32)), .val (.int (1 : Int32)), .val (.int (1 : Int32)), .val (.int (1 : Int32))] [(.int (1 : Int32))])) (fun _ k => XS.iconst X10.here hx rfl (hb hby at_162) k) ?_
    refine Out.via (g' := (mkF m 167 #[.val (.int p0), .val (.int p1), .val (.int p2), .val (.ref i0), .val (.ref i1), .val (.ref x0), .val (.ref x1), .val (.ref i0), .val (.ref i1), .val (.int (1 : Int32)), .val (.int (1 : Int32)), .val (.int (1 : Int32)), .val (.int (1 : Int32))] [(.int (1 : Int32))])) (fun _ k => XS.goto X10.here hx rfl (pc0 := 163) (pc' := 167) rfl (hb hby at_163) (by decide) (by decide) k) ?_
    exact Out.endN X10 (fun h => by rw [Bd.returns] at h; cases h) Bd.notSynchronized (by decide) (by decide) (⟨rfl, N0⟩) (fun fs hr => Jvm.RoadKit.retN X10 hx (t := .boolean) Bd.returns (by simp) (hb hby at_167) hr)
theorem own_eqI {args : Array Value} {s : State} {t : Term} {n : Int32} (h : (Jvm.Cond.eq t (.int n)).value args s none s [] = some true) : t.eval args s none [] s = some (.int n) := by
  obtain ⟨x, y, h1, h2, hk, hk'⟩ := cmp_v (Or.inl h)
  obtain rfl : y = .int n := (Option.some.inj ((Term.int_eval n).symm.trans h2)).symm
  obtain ⟨z, rfl⟩ : ∃ z, x = .int z := hk'
  rw [h1, gotT (Cond.eq_ints h1 h2) h]
theorem own_eqR {args : Array Value} {s : State} {t u : Term} {a : Addr} (h : (Jvm.Cond.eq t u).value args s none s [] = some true) (hu : u.eval args s none [] s = some (.ref a)) : t.eval args s none [] s = some (.ref a) := by
  obtain ⟨x, y, h1, h2, hk, hk'⟩ := cmp_v (Or.inl h)
  obtain rfl : y = .ref a := (Option.some.inj (hu.symm.trans h2)).symm
  rw [h1, gotT (eq_R h1 h2 hk'.2 hk'.1) h]
theorem own_len {args : Array Value} {s : State} {t : Term} {n : Int32} {a : Addr} {cl : Cell} {ty : FieldType} (h : (Term.length t).eval args s none [] s = some (.int n)) (ht : t.eval args s none [] s = some (.ref a)) (A : Arr s s.heap a cl ty) : cl.slots.size < 2 ^ 31 ∧ cl.slots.size.toInt32 = n := by
  obtain ⟨b, cell, e1, e2, e3, e4⟩ := Jvm.Lib.length_spec h
  cases ht.symm.trans e1
  cases A.1.symm.trans (State.arrayAt?_spec e2).1
  exact ⟨e3, (Value.int.inj e4).symm⟩
theorem own_cache {args : Array Value} {s : State} {ca : Addr} {cl : Cell} (eca : (Term.static "java/lang/Integer$IntegerCache" "cache" "[Ljava/lang/Integer;").eval args s none [] s = some (.ref ca)) (A : Arr s s.heap ca cl (.object "java/lang/Integer")) (la : cl.slots.size < 2 ^ 31) (lb : cl.slots.size.toInt32 = (256 : Int32))
    (h : (Jvm.Cond.all (Term.static "java/lang/Integer$IntegerCache" "cache" "[Ljava/lang/Integer;") (Jvm.Cond.and (Jvm.Cond.exactly (Term.elem (Term.static "java/lang/Integer$IntegerCache" "cache" "[Ljava/lang/Integer;") (Term.index 0)) "java/lang/Integer") (Jvm.Cond.eq (Term.field (Term.elem (Term.static "java/lang/Integer$IntegerCache" "cache" "[Ljava/lang/Integer;") (Term.index 0)) "java/lang/Integer" "value" "I") (Term.sub (Term.index 0) (Term.int (128 : Int32)))))).value args s none s [] = some true) : own_Cache s ca cl := by
  have hsz : cl.slots.size = 256 := by
    have q := len_toInt la
    rw [lb] at q
    have q2 : (256 : Int32).toInt = 256 := rfl
    omega
  have hall := Cond.all_elim eca (IntBox.arrayAt_of A.1 A.2.1 A.2.2) h
  refine ⟨A, hsz, fun p1 h1 h2 => ?_⟩
  obtain ⟨hb, hlt⟩ := IntBox.place_ok p1 h1 h2
  obtain ⟨j1, j2⟩ := and_e (hall _ (by rw [hsz]; exact hlt))
  have hix : (Term.index 0).eval args s none [(p1 + 128).toNatClampNeg] s = some (.int ((p1 + 128).toNatClampNeg).toInt32) := by simp [Term.eval]
  have evC : (Term.static "java/lang/Integer$IntegerCache" "cache" "[Ljava/lang/Integer;").eval args s none [(p1 + 128).toNatClampNeg] s = some (.ref ca) := by
    have q := eca
    simp only [Term.eval] at q ⊢
    exact q
  obtain ⟨b, c', cell, k, e1, e2, e3, e4, e5, rfl, e7⟩ := Cond.exactly_spec (beq_iff_eq.mpr j1 : (Jvm.Cond.exactly _ _).holds args s none s _ = true)
  have el := (elem_in e1 evC hix A.1).2
  rw [(IntBox.place_nonneg _ hlt).2] at el
  obtain ⟨x, y, q1, q2, hk, hk'⟩ := cmp_v (Or.inl j2)
  have hsub := Term.sub_int hix (Term.int_eval (args := args) (first := s) (o := none) (idx := [(p1 + 128).toNatClampNeg]) (s := s) (128 : Int32))
  rw [IntBox.place_val p1 h1 h2] at hsub
  cases hsub.symm.trans q2
  obtain ⟨z, rfl⟩ : ∃ z, x = .int z := hk'
  cases gotT (Cond.eq_ints q1 hsub) j2
  exact ⟨b, el, ⟨cell, k, e3, e2, e4, e5, e7⟩, Fld.start ((fld_at e1).symm.trans q1)⟩
set_option maxRecDepth 65536 in
set_option maxHeartbeats 40000000 in
theorem comes_1 {Post : Tables → Env → Array Value → State → Outcome → State → Prop} (hpost : ∀ tb e args s v u, (limb_1_1.after args s (.returned v) u = true ∧ limb_1_2.after args s (.returned v) u = true ∧ True) → FrameEnd s (.returned v) u (Jvm.fieldLocs frame_1_writes args s ++ Jvm.arrayLocs frame_1_arrays args s ++ Jvm.staticLocs frame_1_statics s) 40 192 → Post tb e args s (.returned v) u) :
    ArmFor flags0 classFile x code maxLocals ret World_1 tables_1 room_1 Calls_1 rest_1 Pre_1 Post := by
  intro l hfl _ _ p e ha hc hk s m args below hf hA hF happ hP
  obtain ⟨hcalls, hrest, hpre⟩ := hP
  obtain ⟨-, -, -, hnamed, -, -, -, hat⟩ := (Spec.applies_iff hf).mp happ
  obtain ⟨hg, hn⟩ := and_e (Cond.before_iff.mp (show (Jvm.Cond.and given_1 narrow_1).before args s = true from hpre))
  obtain ⟨hcnt, hg⟩ := and_e hg
  obtain ⟨g0, hg⟩ := and_e hg
  obtain ⟨g1, hg⟩ := and_e hg
  have g2 := hg
  obtain ⟨w0, w1, w2, rfl⟩ : ∃ w0 w1 w2 : Value, args = #[w0, w1, w2] := by
    have hs : args.size = 3 := by simpa [Cond.value, given_1] using hcnt
    obtain ⟨L⟩ := args
    match L, hs with
    | [w0, w1, w2], _ => exact ⟨w0, w1, w2, rfl⟩
  have hw := fun d (hd : d ∈ tables_1) => atoms_spec (ws := Jvm.Cond.code x code maxLocals ret :: tables_1) hat d (List.mem_cons_of_mem _ hd)
  obtain ⟨hsets, hown0⟩ := atoms_of _ (rest_1_c_eq ▸ (show rest_1_c.before _ s = true from hrest))
  have hfit : Fit s := fun {y c} hc i hi => by
    obtain ⟨ha, rfl⟩ := Array.getElem?_eq_some_iff.mp hc
    have q := List.all_eq_true.mp ((Array.all_eq_true_iff_forall_mem.mp hF) _ (Array.getElem_mem ha)) i (List.mem_range.mpr hi)
    simpa [Array.getElem?_eq_getElem hi] using q
  obtain ⟨i0, ei0⟩ := is_v g0
  obtain rfl : w0 = (.int i0) := Option.some.inj ei0
  obtain ⟨i1, ei1⟩ := is_v g1
  obtain rfl : w1 = (.int i1) := Option.some.inj ei1
  obtain ⟨i2, ei2⟩ := is_v g2
  obtain rfl : w2 = (.int i2) := Option.some.inj ei2
  have ehi := own_eqI (Cond.before_iff.mp (hsets _ (List.mem_of_getElem? (i := 3) rfl)))
  have V_hi := Sta.start ehi (Or.inl (hsets _ (List.mem_of_getElem? (i := 1) rfl)))
  obtain ⟨ca, eca⟩ := arr_v (Cond.before_iff.mp (hsets _ (List.mem_of_getElem? (i := 4) rfl)))
  have V_ca := Sta.start eca (Or.inr ⟨(hw _ (List.mem_of_getElem? (i := 5) rfl)), (hsets _ (List.mem_of_getElem? (i := 2) rfl))⟩)
  obtain ⟨cl, Acl⟩ := Arr.start eca (Cond.before_iff.mp (hsets _ (List.mem_of_getElem? (i := 4) rfl)))
  obtain ⟨la, lb⟩ := own_len (own_eqI (Cond.before_iff.mp (hsets _ (List.mem_of_getElem? (i := 6) rfl)))) eca Acl
  have Cc : own_Cache s ca cl := own_cache eca Acl la lb (Cond.before_iff.mp (hsets _ (List.mem_of_getElem? (i := 7) rfl)))
  obtain ⟨d, ed⟩ := exa_v (Cond.before_iff.mp (hsets _ (List.mem_of_getElem? (i := 10) rfl)))
  have V_d := Sta.start ed (Or.inl (hsets _ (List.mem_of_getElem? (i := 9) rfl)))
  have Ed := Exa.start ed (Cond.before_iff.mp (hsets _ (List.mem_of_getElem? (i := 10) rfl)))
  have D_year := Fld.start ((fld_at ed).symm.trans (own_eqI (Cond.before_iff.mp (hsets _ (List.mem_of_getElem? (i := 11) rfl)))))
  have D_month := Fld.start ((fld_at ed).symm.trans (own_eqI (Cond.before_iff.mp (hsets _ (List.mem_of_getElem? (i := 12) rfl)))))
  have D_day := Fld.start ((fld_at ed).symm.trans (own_eqI (Cond.before_iff.mp (hsets _ (List.mem_of_getElem? (i := 13) rfl)))))
  obtain ⟨⟨cT, kT, mt, qT1, qT2, qT3⟩, ⟨cU, kU, mu, qU1, qU2, qU3⟩, -⟩ := hcalls
  have M1 : own_Mir s "java/util/TreeMap" mt := ⟨cT, kT, qT1, qT2, qT3.1⟩
  have M2 : own_Mir s "java/util/Collections$UnmodifiableNavigableMap" mu := ⟨cU, kU, qU1, qU2, qU3.1⟩
  obtain ⟨n, o, h1, h2, h3, _, L, rfl, ⟨rfl, N⟩, hq⟩ := own_rm0 l s _ hw tables_1 i0 i1 i2 ca cl d mt mu s.heap s.heap.size (Old.start s) V_hi V_ca Cc V_d Ed D_year D_month D_day M1 M2 p e ha hc hk s m _ below hf ((Spec.applies_iff_loose hf).mp happ).1 ⟨rfl, State.Warmed39.refl s, rfl⟩ trivial
  refine ⟨n, _, h1, h2, h3, hpost _ _ _ _ _ _ ⟨Cond.after_iff.mpr rfl, Cond.after_iff.mpr (eq_i res_at (Term.int_eval (1)) rfl), trivial⟩ ⟨hq.1, hq.2.1, (hq.2.2.sift fun y hy => Or.inr (N y hy)).mono (by decide) (by decide)⟩⟩
theorem main_1_1 : Claimed_1_1 := comes_1 fun _ _ _ _ _ _ h hF => ⟨h.1, hF⟩
theorem main_1_2 : Claimed_1_2 := comes_1 fun _ _ _ _ _ _ h hF => ⟨h.2.1, hF⟩
end Jvm.Pilot.@@N@@
namespace Jvm.Pilot.@@N@@
open Jvm Jvm.ClassFile Sem Op Lib Jvm.Free Jvm.Stand Jvm.Pilot.@@N@@.Jvm.D
/-! MADE BY PROGRAM (witnessworld.py) out of the Statement's table words and the real class files: 36 classes; the members and pool entries that the words name. The judged class is class 1, her method 1. -/
namespace start1
open Jvm.ClassFile
def u (s : String) : CpInfo := .utf8 (stringToUtf16 s)
/-- a pool by its gaps: so many unusable entries, then the entry; so many at the end -/
def gap : Nat → List CpInfo → List CpInfo
  | 0, r => r
  | n + 1, r => .unusable :: gap n r
def poolList (es : List (Nat × CpInfo)) (last : Nat) : List CpInfo := es.foldr (fun e r => gap e.1 (e.2 :: r)) (gap last [])
def pool (es : List (Nat × CpInfo)) (last : Nat) : Array CpInfo := ⟨poolList es last⟩
def fileOf (pool : Array CpInfo) (this : Nat) (attrs : Array Attribute := #[]) (ms : Array MethodInfo := #[]) (fl : Nat := 33) (sup : Nat := 0) (ifs : Array Nat := #[]) (fds : Array FieldInfo := #[]) : ClassFile where
  minorVersion := 0
  majorVersion := 65
  constantPool := pool
  accessFlags := fl
  thisClass := this
  superClass := sup
  interfaces := ifs
  fields := fds
  methods := ms
  attributes := attrs
def plain (name : String) (sup : Option ClassId) : Class where
  name := name
  kind := .ordinary
  loader := none
  accessFlags := 33
  super := sup
  interfaces := #[]
  cf := none
  fields := #[]
  methods := #[]
  instanceTypes := #[]
  staticTypes := #[]
  resolved := #[]
  callSites := []
  init := .initialized
  statics := none
  mirror := none

def pool0 : Array CpInfo := pool [(5, u "<init>"), (0, u "()V"), (1, .class_ 10), (1, u "java/lang/Object"), (0, u "getClass"), (0, u "()Ljava/lang/Class;")] 111

def k0c0 : Code := { maxStack := 0, maxLocals := 1, code := object_method_1_code, exceptionTable := #[], attributes := #[] }
def k0m0 : Method := { name := "<init>", desc := "()V", sig := { parameters := [], returnType := none }, accessFlags := 1, code := some k0c0 }
def k0m1 : Method := { name := "getClass", desc := "()Ljava/lang/Class;", sig := { parameters := [], returnType := some (.object "java/lang/Class") }, accessFlags := 273, code := none }
/-- java/lang/Object -/
def k0 : Class := { plain "java/lang/Object" none with
  accessFlags := 33
  interfaces := #[]
  cf := some (fileOf pool0 8 #[] #[{ accessFlags := 1, nameIndex := 5, descriptorIndex := 6, attributes := #[] }, { accessFlags := 273, nameIndex := 11, descriptorIndex := 12, attributes := #[] }] 33 0 #[] #[])
  fields := #[]
  methods := #[k0m0, k0m1]
  instanceTypes := #[]
  staticTypes := #[]
  resolved := Array.replicate 124 none
  statics := none }

def pool1 : Array CpInfo := pool [(2, .class_ 4), (1, u "java/lang/Object"), (0, u "<init>"), (0, u "()V"), (0, .methodref 8 9), (0, .class_ 10), (0, .nameAndType 11 12), (0, u "java/lang/Integer"), (0, u "valueOf"), (0, u "(I)Ljava/lang/Integer;"), (0, .methodref 14 15), (0, .class_ 16), (0, .nameAndType 17 18), (0, u "com/example/syndicate_ledger/syndicateledger/engine/Timeline"), (0, u "of"), (0, u "(Ljava/lang/Object;)Lcom/example/syndicate_ledger/syndicateledger/engine/Timeline;"), (0, .methodref 14 20), (0, .nameAndType 21 22), (0, u "latest"), (0, u "()Ljava/lang/Object;"), (0, .methodref 8 24), (0, .nameAndType 25 26), (0, u "intValue"), (0, u "()I"), (0, .class_ 28), (0, u "com/example/syndicate_ledger/syndicateledger/engine/TimelineOfPinLaw"), (2, u "law"), (0, u "(III)Z")] 3

def k1m0 : Method := { name := "<init>", desc := "()V", sig := { parameters := [], returnType := none }, accessFlags := 2, code := none }
def k1c1 : Code := { maxStack := 2, maxLocals := 13, code := code, exceptionTable := #[], attributes := #[] }
def k1m1 : Method := { name := "law", desc := "(III)Z", sig := { parameters := [.int, .int, .int], returnType := some .boolean }, accessFlags := 9, code := some k1c1 }
/-- com/example/syndicate_ledger/syndicateledger/engine/TimelineOfPinLaw -/
def k1 : Class := { plain "com/example/syndicate_ledger/syndicateledger/engine/TimelineOfPinLaw" (some 0) with
  accessFlags := 49
  interfaces := #[]
  cf := some (fileOf pool1 27 #[] #[{ accessFlags := 2, nameIndex := 5, descriptorIndex := 6, attributes := #[] }, { accessFlags := 9, nameIndex := 31, descriptorIndex := 32, attributes := #[] }] 49 2 #[] #[])
  fields := #[]
  methods := #[k1m0, k1m1]
  instanceTypes := #[]
  staticTypes := #[]
  resolved := Array.replicate 36 none
  statics := none }

def pool2 : Array CpInfo := pool [(1, .class_ 2), (0, u "java/io/Serializable"), (0, .class_ 4), (0, u "java/lang/Object")] 2

/-- java/io/Serializable -/
def k2 : Class := { plain "java/io/Serializable" (some 0) with
  accessFlags := 1537
  interfaces := #[]
  cf := some (fileOf pool2 1 #[] #[] 1537 3 #[] #[])
  fields := #[]
  methods := #[]
  instanceTypes := #[]
  staticTypes := #[]
  resolved := Array.replicate 7 none
  statics := none }

def pool3 : Array CpInfo := pool [(1, .methodref 2 3), (0, .class_ 4), (0, .nameAndType 5 6), (0, u "java/lang/Object"), (0, u "<init>"), (0, u "()V"), (1, .class_ 10), (1, u "java/lang/Number"), (2, .class_ 14), (0, u "java/io/Serializable"), (0, u "serialVersionUID"), (0, u "J")] 20

def k3c0 : Code := { maxStack := 1, maxLocals := 1, code := jdk_18_method_1_code, exceptionTable := #[], attributes := #[] }
def k3m0 : Method := { name := "<init>", desc := "()V", sig := { parameters := [], returnType := none }, accessFlags := 1, code := some k3c0 }
/-- java/lang/Number -/
def k3 : Class := { plain "java/lang/Number" (some 0) with
  accessFlags := 1057
  interfaces := #[2]
  cf := some (fileOf pool3 8 #[] #[{ accessFlags := 1, nameIndex := 5, descriptorIndex := 6, attributes := #[] }] 1057 2 #[13] #[{ accessFlags := 26, nameIndex := 15, descriptorIndex := 16, attributes := #[] }])
  fields := #[{ name := "serialVersionUID", type := .long, accessFlags := 26, slot := 0, constantValue := 0 }]
  methods := #[k3m0]
  instanceTypes := #[]
  staticTypes := #[.long]
  resolved := Array.replicate 37 none
  statics := none }

def pool4 : Array CpInfo := pool [(1, .class_ 2), (0, u "java/lang/Comparable"), (0, .class_ 4), (0, u "java/lang/Object"), (0, u "compareTo"), (0, u "(Ljava/lang/Object;)I")] 5

def k4m0 : Method := { name := "compareTo", desc := "(Ljava/lang/Object;)I", sig := { parameters := [(.object "java/lang/Object")], returnType := some .int }, accessFlags := 1025, code := none }
/-- java/lang/Comparable -/
def k4 : Class := { plain "java/lang/Comparable" (some 0) with
  accessFlags := 1537
  interfaces := #[]
  cf := some (fileOf pool4 1 #[] #[{ accessFlags := 1025, nameIndex := 5, descriptorIndex := 6, attributes := #[] }] 1537 3 #[] #[])
  fields := #[]
  methods := #[k4m0]
  instanceTypes := #[]
  staticTypes := #[]
  resolved := Array.replicate 12 none
  statics := none }

def pool5 : Array CpInfo := pool [(1, .class_ 2), (0, u "java/lang/constant/Constable"), (0, .class_ 4), (0, u "java/lang/Object")] 6

/-- java/lang/constant/Constable -/
def k5 : Class := { plain "java/lang/constant/Constable" (some 0) with
  accessFlags := 1537
  interfaces := #[]
  cf := some (fileOf pool5 1 #[] #[] 1537 3 #[] #[])
  fields := #[]
  methods := #[]
  instanceTypes := #[]
  staticTypes := #[]
  resolved := Array.replicate 11 none
  statics := none }

def pool6 : Array CpInfo := pool [(1, .class_ 2), (0, u "java/lang/constant/ConstantDesc"), (0, .class_ 4), (0, u "java/lang/Object")] 32

/-- java/lang/constant/ConstantDesc -/
def k6 : Class := { plain "java/lang/constant/ConstantDesc" (some 0) with
  accessFlags := 1537
  interfaces := #[]
  cf := some (fileOf pool6 1 #[] #[] 1537 3 #[] #[])
  fields := #[]
  methods := #[]
  instanceTypes := #[]
  staticTypes := #[]
  resolved := Array.replicate 37 none
  statics := none }

def pool7 : Array CpInfo := pool [(1, .class_ 2), (0, u "java/lang/Integer"), (16, u "digits"), (0, u "[C"), (46, u "<init>"), (17, u "DigitOnes"), (0, u "[B"), (2, u "DigitTens"), (10, .nameAndType 67 101), (0, u "()V"), (19, u "()I"), (65, u "valueOf"), (0, u "(I)Ljava/lang/Integer;"), (0, .class_ 190), (0, u "java/lang/Integer$IntegerCache"), (0, .fieldref 189 192), (0, .nameAndType 193 194), (0, u "high"), (0, u "I"), (0, .fieldref 189 196), (0, .nameAndType 197 198), (0, u "cache"), (0, u "[Ljava/lang/Integer;"), (0, .methodref 1 200), (0, .nameAndType 67 201), (0, u "(I)V"), (0, .methodref 203 100), (0, .class_ 204), (0, u "java/lang/Number"), (0, .fieldref 1 206), (0, .nameAndType 207 194), (0, u "value"), (5, u "intValue"), (88, u "TYPE"), (0, u "Ljava/lang/Class;"), (0, .class_ 305), (0, u "java/lang/Comparable"), (0, .class_ 307), (0, u "java/lang/constant/Constable"), (0, .class_ 309), (0, u "java/lang/constant/ConstantDesc"), (0, u "MIN_VALUE"), (1, u "MAX_VALUE"), (3, u "SIZE"), (1, u "BYTES"), (1, u "serialVersionUID"), (0, u "J")] 131

def k7c0 : Code := { maxStack := 3, maxLocals := 1, code := jdk_33_method_22_code, exceptionTable := #[], attributes := #[] }
def k7m0 : Method := { name := "valueOf", desc := "(I)Ljava/lang/Integer;", sig := { parameters := [.int], returnType := some (.object "java/lang/Integer") }, accessFlags := 9, code := some k7c0 }
def k7c1 : Code := { maxStack := 2, maxLocals := 2, code := jdk_33_method_23_code, exceptionTable := #[], attributes := #[] }
def k7m1 : Method := { name := "<init>", desc := "(I)V", sig := { parameters := [.int], returnType := none }, accessFlags := 1, code := some k7c1 }
def k7c2 : Code := { maxStack := 1, maxLocals := 1, code := jdk_33_method_27_code, exceptionTable := #[], attributes := #[] }
def k7m2 : Method := { name := "intValue", desc := "()I", sig := { parameters := [], returnType := some .int }, accessFlags := 1, code := some k7c2 }
/-- java/lang/Integer -/
def k7 : Class := { plain "java/lang/Integer" (some 3) with
  accessFlags := 49
  interfaces := #[4, 5, 6]
  cf := some (fileOf pool7 1 #[.nestMembers #[189]] #[{ accessFlags := 9, nameIndex := 187, descriptorIndex := 188, attributes := #[] }, { accessFlags := 1, nameIndex := 67, descriptorIndex := 201, attributes := #[] }, { accessFlags := 1, nameIndex := 213, descriptorIndex := 121, attributes := #[] }] 49 203 #[304, 306, 308] #[{ accessFlags := 25, nameIndex := 310, descriptorIndex := 194, attributes := #[] }, { accessFlags := 25, nameIndex := 312, descriptorIndex := 194, attributes := #[] }, { accessFlags := 25, nameIndex := 302, descriptorIndex := 303, attributes := #[] }, { accessFlags := 24, nameIndex := 19, descriptorIndex := 20, attributes := #[] }, { accessFlags := 24, nameIndex := 89, descriptorIndex := 86, attributes := #[] }, { accessFlags := 24, nameIndex := 85, descriptorIndex := 86, attributes := #[] }, { accessFlags := 18, nameIndex := 207, descriptorIndex := 194, attributes := #[] }, { accessFlags := 25, nameIndex := 316, descriptorIndex := 194, attributes := #[] }, { accessFlags := 25, nameIndex := 318, descriptorIndex := 194, attributes := #[] }, { accessFlags := 26, nameIndex := 320, descriptorIndex := 321, attributes := #[] }])
  fields := #[{ name := "MIN_VALUE", type := .int, accessFlags := 25, slot := 0, constantValue := 0 }, { name := "MAX_VALUE", type := .int, accessFlags := 25, slot := 1, constantValue := 0 }, { name := "TYPE", type := (.object "java/lang/Class"), accessFlags := 25, slot := 2, constantValue := 0 }, { name := "digits", type := (.array .char), accessFlags := 24, slot := 3, constantValue := 0 }, { name := "DigitTens", type := (.array .byte), accessFlags := 24, slot := 4, constantValue := 0 }, { name := "DigitOnes", type := (.array .byte), accessFlags := 24, slot := 5, constantValue := 0 }, { name := "value", type := .int, accessFlags := 18, slot := 0, constantValue := 0 }, { name := "SIZE", type := .int, accessFlags := 25, slot := 6, constantValue := 0 }, { name := "BYTES", type := .int, accessFlags := 25, slot := 7, constantValue := 0 }, { name := "serialVersionUID", type := .long, accessFlags := 26, slot := 8, constantValue := 0 }]
  methods := #[k7m0, k7m1, k7m2]
  instanceTypes := #[.int]
  staticTypes := #[.int, .int, (.object "java/lang/Class"), (.array .char), (.array .byte), (.array .byte), .int, .int, .long]
  resolved := Array.replicate 453 none
  statics := none }

def pool8 : Array CpInfo := pool [(2, .class_ 4), (1, u "java/lang/Object"), (0, u "<init>"), (0, u "()V"), (0, .class_ 8), (0, u "java/lang/Integer"), (7, .class_ 18), (1, u "java/lang/Integer$IntegerCache"), (0, u "$assertionsDisabled"), (0, u "Z"), (26, u "high"), (0, u "I"), (8, u "archivedCache"), (0, u "[Ljava/lang/Integer;"), (12, u "cache"), (0, u "low")] 27

def k8m0 : Method := { name := "<init>", desc := "()V", sig := { parameters := [], returnType := none }, accessFlags := 2, code := none }
/-- java/lang/Integer$IntegerCache -/
def k8 : Class := { plain "java/lang/Integer$IntegerCache" (some 0) with
  accessFlags := 48
  interfaces := #[]
  cf := some (fileOf pool8 16 #[.nestHost 7] #[{ accessFlags := 2, nameIndex := 5, descriptorIndex := 6, attributes := #[] }] 48 2 #[] #[{ accessFlags := 24, nameIndex := 72, descriptorIndex := 48, attributes := #[] }, { accessFlags := 24, nameIndex := 47, descriptorIndex := 48, attributes := #[] }, { accessFlags := 24, nameIndex := 71, descriptorIndex := 58, attributes := #[] }, { accessFlags := 8, nameIndex := 57, descriptorIndex := 58, attributes := #[] }, { accessFlags := 4120, nameIndex := 19, descriptorIndex := 20, attributes := #[] }])
  fields := #[{ name := "low", type := .int, accessFlags := 24, slot := 0, constantValue := 0 }, { name := "high", type := .int, accessFlags := 24, slot := 1, constantValue := 0 }, { name := "cache", type := (.array (.object "java/lang/Integer")), accessFlags := 24, slot := 2, constantValue := 0 }, { name := "archivedCache", type := (.array (.object "java/lang/Integer")), accessFlags := 8, slot := 3, constantValue := 0 }, { name := "$assertionsDisabled", type := .boolean, accessFlags := 4120, slot := 4, constantValue := 0 }]
  methods := #[k8m0]
  instanceTypes := #[]
  staticTypes := #[.int, .int, (.array (.object "java/lang/Integer")), (.array (.object "java/lang/Integer")), .boolean]
  resolved := Array.replicate 100 none
  statics := some 0 }

def pool9 : Array CpInfo := pool [(1, .methodref 2 3), (0, .class_ 4), (0, .nameAndType 5 6), (0, u "java/lang/Object"), (0, u "<init>"), (0, u "()V"), (0, .methodref 8 9), (0, .class_ 10), (0, .nameAndType 11 12), (0, u "java/util/Collections"), (0, u "unmodifiableNavigableMap"), (0, u "(Ljava/util/NavigableMap;)Ljava/util/NavigableMap;"), (0, .fieldref 14 15), (0, .class_ 16), (0, .nameAndType 17 18), (0, u "com/example/syndicate_ledger/syndicateledger/engine/Timeline"), (0, u "values"), (0, u "Ljava/util/NavigableMap;"), (0, .class_ 20), (0, u "java/util/TreeMap"), (0, .methodref 19 3), (0, .fieldref 23 24), (0, .class_ 25), (0, .nameAndType 26 27), (0, u "java/time/LocalDate"), (0, u "MIN"), (0, u "Ljava/time/LocalDate;"), (0, .interfaceMethodref 29 30), (0, .class_ 31), (0, .nameAndType 32 33), (0, u "java/util/NavigableMap"), (0, u "put"), (0, u "(Ljava/lang/Object;Ljava/lang/Object;)Ljava/lang/Object;"), (0, .methodref 14 35), (0, .nameAndType 5 36), (0, u "(Ljava/util/NavigableMap;)V"), (3, u "()Ljava/lang/Object;"), (28, .interfaceMethodref 70 71), (0, .class_ 72), (0, .nameAndType 73 40), (0, u "java/util/Map$Entry"), (0, u "getValue"), (0, .interfaceMethodref 29 75), (0, .nameAndType 76 77), (0, u "lastEntry"), (0, u "()Ljava/util/Map$Entry;"), (10, .class_ 89), (0, u "com/example/syndicate_ledger/syndicateledger/engine/Timeline$Run"), (18, u "of"), (0, u "(Ljava/lang/Object;)Lcom/example/syndicate_ledger/syndicateledger/engine/Timeline;"), (6, u "latest")] 27

def k9c0 : Code := { maxStack := 2, maxLocals := 2, code := prog_22_method_1_code, exceptionTable := #[], attributes := #[] }
def k9m0 : Method := { name := "<init>", desc := "(Ljava/util/NavigableMap;)V", sig := { parameters := [(.object "java/util/NavigableMap")], returnType := none }, accessFlags := 2, code := some k9c0 }
def k9c1 : Code := { maxStack := 3, maxLocals := 2, code := prog_22_method_2_code, exceptionTable := #[], attributes := #[] }
def k9m1 : Method := { name := "of", desc := "(Ljava/lang/Object;)Lcom/example/syndicate_ledger/syndicateledger/engine/Timeline;", sig := { parameters := [(.object "java/lang/Object")], returnType := some (.object "com/example/syndicate_ledger/syndicateledger/engine/Timeline") }, accessFlags := 8, code := some k9c1 }
def k9c2 : Code := { maxStack := 1, maxLocals := 1, code := prog_22_method_5_code, exceptionTable := #[], attributes := #[] }
def k9m2 : Method := { name := "latest", desc := "()Ljava/lang/Object;", sig := { parameters := [], returnType := some (.object "java/lang/Object") }, accessFlags := 0, code := some k9c2 }
/-- com/example/syndicate_ledger/syndicateledger/engine/Timeline -/
def k9 : Class := { plain "com/example/syndicate_ledger/syndicateledger/engine/Timeline" (some 0) with
  accessFlags := 48
  interfaces := #[]
  cf := some (fileOf pool9 14 #[.nestMembers #[88]] #[{ accessFlags := 2, nameIndex := 5, descriptorIndex := 36, attributes := #[] }, { accessFlags := 8, nameIndex := 108, descriptorIndex := 109, attributes := #[] }, { accessFlags := 0, nameIndex := 116, descriptorIndex := 40, attributes := #[] }] 48 2 #[] #[{ accessFlags := 18, nameIndex := 17, descriptorIndex := 18, attributes := #[] }])
  fields := #[{ name := "values", type := (.object "java/util/NavigableMap"), accessFlags := 18, slot := 0, constantValue := 0 }]
  methods := #[k9m0, k9m1, k9m2]
  instanceTypes := #[(.object "java/util/NavigableMap")]
  staticTypes := #[]
  resolved := Array.replicate 144 none
  statics := none }

def pool10 : Array CpInfo := pool [(2, .class_ 4), (1, u "java/util/Map"), (31, .class_ 37), (0, u "java/util/Map$Entry"), (25, u "(Ljava/lang/Object;Ljava/lang/Object;)Ljava/lang/Object;"), (5, u "put"), (23, .class_ 94), (0, u "java/lang/Object")] 168

def k10m0 : Method := { name := "put", desc := "(Ljava/lang/Object;Ljava/lang/Object;)Ljava/lang/Object;", sig := { parameters := [(.object "java/lang/Object"), (.object "java/lang/Object")], returnType := some (.object "java/lang/Object") }, accessFlags := 1025, code := none }
/-- java/util/Map -/
def k10 : Class := { plain "java/util/Map" (some 0) with
  accessFlags := 1537
  interfaces := #[]
  cf := some (fileOf pool10 2 #[.nestMembers #[36]] #[{ accessFlags := 1025, nameIndex := 69, descriptorIndex := 63, attributes := #[] }] 1537 93 #[] #[])
  fields := #[]
  methods := #[k10m0]
  instanceTypes := #[]
  staticTypes := #[]
  resolved := Array.replicate 263 none
  statics := none }

def pool11 : Array CpInfo := pool [(1, .methodref 2 3), (0, .class_ 4), (0, .nameAndType 5 6), (0, u "java/lang/Object"), (0, u "<init>"), (0, u "()V"), (1, .class_ 10), (1, u "java/util/AbstractMap"), (42, .class_ 54), (0, u "java/util/Map"), (9, u "keySet"), (0, u "Ljava/util/Set;"), (0, .class_ 67), (0, u "java/util/AbstractMap$1"), (5, u "values"), (0, u "Ljava/util/Collection;"), (0, .class_ 76), (0, u "java/util/AbstractMap$2"), (104, .class_ 182), (0, u "java/util/AbstractMap$ViewCollection"), (0, .class_ 184), (0, u "java/util/AbstractMap$SimpleImmutableEntry"), (0, .class_ 186), (0, u "java/util/AbstractMap$SimpleEntry"), (0, .class_ 188), (0, u "java/util/AbstractMap$2$1"), (0, .class_ 190), (0, u "java/util/AbstractMap$1$1")] 5

def k11c0 : Code := { maxStack := 1, maxLocals := 1, code := jdk_71_method_1_code, exceptionTable := #[], attributes := #[] }
def k11m0 : Method := { name := "<init>", desc := "()V", sig := { parameters := [], returnType := none }, accessFlags := 4, code := some k11c0 }
/-- java/util/AbstractMap -/
def k11 : Class := { plain "java/util/AbstractMap" (some 0) with
  accessFlags := 1057
  interfaces := #[10]
  cf := some (fileOf pool11 8 #[.nestMembers #[181, 183, 185, 75, 187, 66, 189]] #[{ accessFlags := 4, nameIndex := 5, descriptorIndex := 6, attributes := #[] }] 1057 2 #[53] #[{ accessFlags := 128, nameIndex := 64, descriptorIndex := 65, attributes := #[] }, { accessFlags := 128, nameIndex := 73, descriptorIndex := 74, attributes := #[] }])
  fields := #[{ name := "keySet", type := (.object "java/util/Set"), accessFlags := 128, slot := 0, constantValue := 0 }, { name := "values", type := (.object "java/util/Collection"), accessFlags := 128, slot := 1, constantValue := 0 }]
  methods := #[k11m0]
  instanceTypes := #[(.object "java/util/Set"), (.object "java/util/Collection")]
  staticTypes := #[]
  resolved := Array.replicate 196 none
  statics := none }

def pool12 : Array CpInfo := pool [(2, .class_ 4), (1, u "java/util/SequencedMap"), (38, .class_ 44), (0, u "java/util/SequencedMap$1SeqKeySet"), (3, .class_ 49), (0, u "java/util/SequencedMap$1SeqValues"), (1, .class_ 52), (0, u "java/util/SequencedMap$1SeqEntrySet"), (1, .class_ 55), (0, u "java/lang/Object"), (0, .class_ 57), (0, u "java/util/Map")] 48

/-- java/util/SequencedMap -/
def k12 : Class := { plain "java/util/SequencedMap" (some 0) with
  accessFlags := 1537
  interfaces := #[10]
  cf := some (fileOf pool12 2 #[.nestMembers #[51, 48, 43]] #[] 1537 54 #[56] #[])
  fields := #[]
  methods := #[]
  instanceTypes := #[]
  staticTypes := #[]
  resolved := Array.replicate 106 none
  statics := none }

def pool13 : Array CpInfo := pool [(14, .class_ 16), (1, u "java/util/SortedMap"), (2, .class_ 20), (0, u "java/lang/Object"), (0, .class_ 22), (0, u "java/util/SequencedMap")] 50

/-- java/util/SortedMap -/
def k13 : Class := { plain "java/util/SortedMap" (some 0) with
  accessFlags := 1537
  interfaces := #[12]
  cf := some (fileOf pool13 14 #[] #[] 1537 19 #[21] #[])
  fields := #[]
  methods := #[]
  instanceTypes := #[]
  staticTypes := #[]
  resolved := Array.replicate 73 none
  statics := none }

def pool14 : Array CpInfo := pool [(2, .class_ 4), (1, u "java/util/NavigableMap"), (5, .class_ 11), (0, u "java/lang/Object"), (0, .class_ 13), (0, u "java/util/SortedMap"), (14, u "()Ljava/util/Map$Entry;"), (1, u "lastEntry")] 36

def k14m0 : Method := { name := "lastEntry", desc := "()Ljava/util/Map$Entry;", sig := { parameters := [], returnType := some (.object "java/util/Map$Entry") }, accessFlags := 1025, code := none }
/-- java/util/NavigableMap -/
def k14 : Class := { plain "java/util/NavigableMap" (some 0) with
  accessFlags := 1537
  interfaces := #[13]
  cf := some (fileOf pool14 2 #[] #[{ accessFlags := 1025, nameIndex := 30, descriptorIndex := 28, attributes := #[] }] 1537 10 #[12] #[])
  fields := #[]
  methods := #[k14m0]
  instanceTypes := #[]
  staticTypes := #[]
  resolved := Array.replicate 67 none
  statics := none }

def pool15 : Array CpInfo := pool [(1, .class_ 2), (0, u "java/lang/Cloneable"), (0, .class_ 4), (0, u "java/lang/Object")] 2

/-- java/lang/Cloneable -/
def k15 : Class := { plain "java/lang/Cloneable" (some 0) with
  accessFlags := 1537
  interfaces := #[]
  cf := some (fileOf pool15 1 #[] #[] 1537 3 #[] #[])
  fields := #[]
  methods := #[]
  instanceTypes := #[]
  staticTypes := #[]
  resolved := Array.replicate 7 none
  statics := none }

def pool16 : Array CpInfo := pool [(1, .methodref 2 3), (0, .class_ 4), (0, .nameAndType 5 6), (0, u "java/util/AbstractMap"), (0, u "<init>"), (0, u "()V"), (0, .fieldref 8 9), (0, .class_ 10), (0, .nameAndType 11 12), (0, u "java/util/TreeMap"), (0, u "size"), (0, u "I"), (0, .fieldref 8 14), (0, .nameAndType 15 12), (0, u "modCount"), (0, .fieldref 8 17), (0, .nameAndType 18 19), (0, u "comparator"), (0, u "Ljava/util/Comparator;"), (14, u "entrySet"), (22, u "()Ljava/util/TreeMap$Entry;"), (1, .class_ 61), (1, u "java/util/TreeMap$Entry"), (1, u "Ljava/lang/Object;"), (12, .methodref 8 77), (0, .nameAndType 78 57), (0, u "getLastEntry"), (20, .class_ 100), (0, u "java/lang/Comparable"), (0, .fieldref 8 102), (0, .nameAndType 103 104), (0, u "root"), (0, u "Ljava/util/TreeMap$Entry;"), (2, .interfaceMethodref 99 108), (0, .nameAndType 109 110), (0, u "compareTo"), (0, u "(Ljava/lang/Object;)I"), (3, .fieldref 59 115), (0, .nameAndType 116 104), (0, u "right"), (2, .nameAndType 121 122), (1, u "compare"), (0, u "(Ljava/lang/Object;Ljava/lang/Object;)I"), (0, .methodref 8 119), (3, .methodref 8 128), (0, .nameAndType 129 130), (0, u "put"), (0, u "(Ljava/lang/Object;Ljava/lang/Object;Z)Ljava/lang/Object;"), (4, .methodref 8 136), (0, .nameAndType 137 138), (0, u "addEntryToEmptyMap"), (0, u "(Ljava/lang/Object;Ljava/lang/Object;)V"), (27, u "(Ljava/lang/Object;Ljava/lang/Object;)Ljava/lang/Object;"), (0, .methodref 59 168), (0, .nameAndType 5 169), (0, u "(Ljava/lang/Object;Ljava/lang/Object;Ljava/util/TreeMap$Entry;)V"), (20, u "Ljava/util/TreeMap$EntrySet;"), (2, u "navigableKeySet"), (0, u "Ljava/util/TreeMap$KeySet;"), (2, u "descendingMap"), (0, u "Ljava/util/NavigableMap;"), (1, .methodref 8 201), (0, .nameAndType 202 203), (0, u "exportEntry"), (0, u "(Ljava/util/TreeMap$Entry;)Ljava/util/Map$Entry;"), (18, .class_ 223), (0, u "java/util/TreeMap$KeySet"), (7, .class_ 232), (0, u "java/util/NavigableMap"), (4, .class_ 238), (0, u "java/util/TreeMap$Values"), (3, .class_ 243), (0, u "java/util/TreeMap$EntrySet"), (1, .class_ 246), (0, u "java/util/TreeMap$DescendingSubMap"), (3, .class_ 251), (0, u "java/util/TreeMap$AscendingSubMap"), (17, .class_ 270), (0, u "java/util/TreeMap$KeyIterator"), (3, .class_ 275), (0, u "java/util/TreeMap$DescendingKeyIterator"), (6, .class_ 283), (0, u "java/util/AbstractMap$SimpleImmutableEntry"), (0, .methodref 282 285), (0, .nameAndType 5 286), (0, u "(Ljava/util/Map$Entry;)V"), (6, u "Z"), (94, .class_ 389), (0, u "java/util/TreeMap$NavigableSubMap"), (1, .class_ 392), (0, u "java/util/TreeMap$KeySpliterator"), (3, .class_ 397), (0, u "java/util/TreeMap$DescendingKeySpliterator"), (4, u "UNBOUNDED"), (0, .class_ 404), (0, u "java/lang/Cloneable"), (0, .class_ 406), (0, u "java/io/Serializable"), (6, u "RED"), (2, u "BLACK"), (1, u "serialVersionUID"), (0, u "J"), (80, u "()Ljava/util/Map$Entry;"), (1, u "lastEntry"), (131, .class_ 635), (0, u "java/util/TreeMap$EntrySpliterator"), (0, .class_ 637), (0, u "java/util/TreeMap$ValueSpliterator"), (0, .class_ 639), (0, u "java/util/TreeMap$TreeMapSpliterator"), (0, .class_ 641), (0, u "java/util/TreeMap$SubMap"), (0, .class_ 643), (0, u "java/util/TreeMap$DescendingSubMap$DescendingEntrySetView"), (0, .class_ 645), (0, u "java/util/TreeMap$AscendingSubMap$AscendingEntrySetView"), (0, .class_ 647), (0, u "java/util/TreeMap$NavigableSubMap$DescendingSubMapKeyIterator"), (0, .class_ 649), (0, u "java/util/TreeMap$NavigableSubMap$SubMapKeyIterator"), (0, .class_ 651), (0, u "java/util/TreeMap$NavigableSubMap$DescendingSubMapEntryIterator"), (0, .class_ 653), (0, u "java/util/TreeMap$NavigableSubMap$SubMapEntryIterator"), (0, .class_ 655), (0, u "java/util/TreeMap$NavigableSubMap$SubMapIterator"), (0, .class_ 657), (0, u "java/util/TreeMap$NavigableSubMap$EntrySetView"), (0, .class_ 659), (0, u "java/util/TreeMap$ValueIterator"), (0, .class_ 661), (0, u "java/util/TreeMap$EntryIterator"), (0, .class_ 663), (0, u "java/util/TreeMap$PrivateEntryIterator")] 28

def k16c0 : Code := { maxStack := 2, maxLocals := 1, code := jdk_2729_method_1_code, exceptionTable := #[], attributes := #[] }
def k16m0 : Method := { name := "<init>", desc := "()V", sig := { parameters := [], returnType := none }, accessFlags := 1, code := some k16c0 }
def k16c1 : Code := { maxStack := 4, maxLocals := 3, code := jdk_2729_method_21_code, exceptionTable := #[], attributes := #[] }
def k16m1 : Method := { name := "put", desc := "(Ljava/lang/Object;Ljava/lang/Object;)Ljava/lang/Object;", sig := { parameters := [(.object "java/lang/Object"), (.object "java/lang/Object")], returnType := some (.object "java/lang/Object") }, accessFlags := 1, code := some k16c1 }
def k16c2 : Code := { maxStack := 6, maxLocals := 3, code := jdk_2729_method_30_code, exceptionTable := #[], attributes := #[] }
def k16m2 : Method := { name := "addEntryToEmptyMap", desc := "(Ljava/lang/Object;Ljava/lang/Object;)V", sig := { parameters := [(.object "java/lang/Object"), (.object "java/lang/Object")], returnType := none }, accessFlags := 2, code := some k16c2 }
def k16c3 : Code := { maxStack := 5, maxLocals := 10, code := jdk_2729_method_31_code, exceptionTable := #[], attributes := #[] }
def k16m3 : Method := { name := "put", desc := "(Ljava/lang/Object;Ljava/lang/Object;Z)Ljava/lang/Object;", sig := { parameters := [(.object "java/lang/Object"), (.object "java/lang/Object"), .boolean], returnType := some (.object "java/lang/Object") }, accessFlags := 2, code := some k16c3 }
def k16c4 : Code := { maxStack := 1, maxLocals := 1, code := jdk_2729_method_38_code, exceptionTable := #[], attributes := #[] }
def k16m4 : Method := { name := "lastEntry", desc := "()Ljava/util/Map$Entry;", sig := { parameters := [], returnType := some (.object "java/util/Map$Entry") }, accessFlags := 1, code := some k16c4 }
def k16c5 : Code := { maxStack := 3, maxLocals := 3, code := jdk_2729_method_67_code, exceptionTable := #[], attributes := #[] }
def k16m5 : Method := { name := "compare", desc := "(Ljava/lang/Object;Ljava/lang/Object;)I", sig := { parameters := [(.object "java/lang/Object"), (.object "java/lang/Object")], returnType := some .int }, accessFlags := 16, code := some k16c5 }
def k16c6 : Code := { maxStack := 3, maxLocals := 1, code := jdk_2729_method_69_code, exceptionTable := #[], attributes := #[] }
def k16m6 : Method := { name := "exportEntry", desc := "(Ljava/util/TreeMap$Entry;)Ljava/util/Map$Entry;", sig := { parameters := [(.object "java/util/TreeMap$Entry")], returnType := some (.object "java/util/Map$Entry") }, accessFlags := 8, code := some k16c6 }
def k16c7 : Code := { maxStack := 1, maxLocals := 2, code := jdk_2729_method_73_code, exceptionTable := #[], attributes := #[] }
def k16m7 : Method := { name := "getLastEntry", desc := "()Ljava/util/TreeMap$Entry;", sig := { parameters := [], returnType := some (.object "java/util/TreeMap$Entry") }, accessFlags := 16, code := some k16c7 }
/-- java/util/TreeMap -/
def k16 : Class := { plain "java/util/TreeMap" (some 11) with
  accessFlags := 33
  interfaces := #[14, 15, 2]
  cf := some (fileOf pool16 8 #[.nestMembers #[634, 636, 396, 391, 638, 59, 640, 245, 642, 250, 644, 388, 646, 648, 650, 652, 654, 656, 274, 269, 658, 660, 662, 222, 242, 237]] #[{ accessFlags := 1, nameIndex := 5, descriptorIndex := 6, attributes := #[] }, { accessFlags := 1, nameIndex := 129, descriptorIndex := 166, attributes := #[] }, { accessFlags := 2, nameIndex := 137, descriptorIndex := 138, attributes := #[] }, { accessFlags := 2, nameIndex := 129, descriptorIndex := 130, attributes := #[] }, { accessFlags := 1, nameIndex := 502, descriptorIndex := 500, attributes := #[] }, { accessFlags := 16, nameIndex := 121, descriptorIndex := 122, attributes := #[] }, { accessFlags := 8, nameIndex := 202, descriptorIndex := 203, attributes := #[] }, { accessFlags := 16, nameIndex := 78, descriptorIndex := 57, attributes := #[] }] 33 2 #[231, 403, 405] #[{ accessFlags := 18, nameIndex := 18, descriptorIndex := 19, attributes := #[] }, { accessFlags := 130, nameIndex := 103, descriptorIndex := 104, attributes := #[] }, { accessFlags := 130, nameIndex := 11, descriptorIndex := 12, attributes := #[] }, { accessFlags := 130, nameIndex := 15, descriptorIndex := 12, attributes := #[] }, { accessFlags := 130, nameIndex := 34, descriptorIndex := 190, attributes := #[] }, { accessFlags := 130, nameIndex := 193, descriptorIndex := 194, attributes := #[] }, { accessFlags := 130, nameIndex := 197, descriptorIndex := 198, attributes := #[] }, { accessFlags := 26, nameIndex := 402, descriptorIndex := 63, attributes := #[] }, { accessFlags := 26, nameIndex := 413, descriptorIndex := 293, attributes := #[] }, { accessFlags := 26, nameIndex := 416, descriptorIndex := 293, attributes := #[] }, { accessFlags := 26, nameIndex := 418, descriptorIndex := 419, attributes := #[] }])
  fields := #[{ name := "comparator", type := (.object "java/util/Comparator"), accessFlags := 18, slot := 2, constantValue := 0 }, { name := "root", type := (.object "java/util/TreeMap$Entry"), accessFlags := 130, slot := 3, constantValue := 0 }, { name := "size", type := .int, accessFlags := 130, slot := 4, constantValue := 0 }, { name := "modCount", type := .int, accessFlags := 130, slot := 5, constantValue := 0 }, { name := "entrySet", type := (.object "java/util/TreeMap$EntrySet"), accessFlags := 130, slot := 6, constantValue := 0 }, { name := "navigableKeySet", type := (.object "java/util/TreeMap$KeySet"), accessFlags := 130, slot := 7, constantValue := 0 }, { name := "descendingMap", type := (.object "java/util/NavigableMap"), accessFlags := 130, slot := 8, constantValue := 0 }, { name := "UNBOUNDED", type := (.object "java/lang/Object"), accessFlags := 26, slot := 0, constantValue := 0 }, { name := "RED", type := .boolean, accessFlags := 26, slot := 1, constantValue := 0 }, { name := "BLACK", type := .boolean, accessFlags := 26, slot := 2, constantValue := 0 }, { name := "serialVersionUID", type := .long, accessFlags := 26, slot := 3, constantValue := 0 }]
  methods := #[k16m0, k16m1, k16m2, k16m3, k16m4, k16m5, k16m6, k16m7]
  instanceTypes := #[(.object "java/util/Set"), (.object "java/util/Collection"), (.object "java/util/Comparator"), (.object "java/util/TreeMap$Entry"), .int, .int, (.object "java/util/TreeMap$EntrySet"), (.object "java/util/TreeMap$KeySet"), (.object "java/util/NavigableMap")]
  staticTypes := #[(.object "java/lang/Object"), .boolean, .boolean, .long]
  resolved := Array.replicate 692 none
  mirror := some 2
  statics := none }

def pool17 : Array CpInfo := pool [(4, .class_ 6), (1, u "java/time/temporal/TemporalAccessor"), (95, .class_ 103), (0, u "java/lang/Object")] 21

/-- java/time/temporal/TemporalAccessor -/
def k17 : Class := { plain "java/time/temporal/TemporalAccessor" (some 0) with
  accessFlags := 1537
  interfaces := #[]
  cf := some (fileOf pool17 4 #[] #[] 1537 102 #[] #[])
  fields := #[]
  methods := #[]
  instanceTypes := #[]
  staticTypes := #[]
  resolved := Array.replicate 125 none
  statics := none }

def pool18 : Array CpInfo := pool [(22, .class_ 24), (1, u "java/time/temporal/Temporal"), (2, .class_ 28), (0, u "java/lang/Object"), (0, .class_ 30), (0, u "java/time/temporal/TemporalAccessor")] 25

/-- java/time/temporal/Temporal -/
def k18 : Class := { plain "java/time/temporal/Temporal" (some 0) with
  accessFlags := 1537
  interfaces := #[17]
  cf := some (fileOf pool18 22 #[] #[] 1537 27 #[29] #[])
  fields := #[]
  methods := #[]
  instanceTypes := #[]
  staticTypes := #[]
  resolved := Array.replicate 56 none
  statics := none }

def pool19 : Array CpInfo := pool [(1, .class_ 2), (0, u "java/time/temporal/TemporalAdjuster"), (0, .class_ 4), (0, u "java/lang/Object")] 6

/-- java/time/temporal/TemporalAdjuster -/
def k19 : Class := { plain "java/time/temporal/TemporalAdjuster" (some 0) with
  accessFlags := 1537
  interfaces := #[]
  cf := some (fileOf pool19 1 #[] #[] 1537 3 #[] #[])
  fields := #[]
  methods := #[]
  instanceTypes := #[]
  staticTypes := #[]
  resolved := Array.replicate 11 none
  statics := none }

def pool20 : Array CpInfo := pool [(9, .class_ 10), (0, u "java/time/chrono/ChronoLocalDate"), (104, .class_ 117), (1, u "java/time/temporal/Temporal"), (134, .class_ 253), (0, u "java/lang/Object"), (23, .class_ 278), (0, u "java/time/temporal/TemporalAdjuster"), (0, .class_ 280), (0, u "java/lang/Comparable")] 86

/-- java/time/chrono/ChronoLocalDate -/
def k20 : Class := { plain "java/time/chrono/ChronoLocalDate" (some 0) with
  accessFlags := 1537
  interfaces := #[18, 19, 4]
  cf := some (fileOf pool20 9 #[] #[] 1537 252 #[115, 277, 279] #[])
  fields := #[]
  methods := #[]
  instanceTypes := #[]
  staticTypes := #[]
  resolved := Array.replicate 367 none
  statics := none }

def pool21 : Array CpInfo := pool [(1, .class_ 2), (0, u "java/time/LocalDate"), (47, u "month"), (193, .class_ 245), (0, u "java/lang/Object"), (0, .fieldref 1 247), (0, .nameAndType 248 249), (0, u "year"), (0, u "I"), (0, .fieldref 1 251), (0, .nameAndType 50 252), (0, u "S"), (0, .fieldref 1 254), (0, .nameAndType 255 252), (0, u "day"), (1, .class_ 259), (1, u "java/time/chrono/ChronoLocalDate"), (10, .class_ 272), (1, u "java/time/LocalDate$1"), (107, .class_ 382), (1, u "java/time/temporal/TemporalAdjuster"), (205, u "MAX"), (0, u "Ljava/time/LocalDate;"), (2, u "MIN"), (86, .methodref 1 680), (0, .nameAndType 681 682), (0, u "compareTo0"), (0, u "(Ljava/time/LocalDate;)I"), (1, .nameAndType 685 686), (0, u "compareTo"), (0, u "(Ljava/time/chrono/ChronoLocalDate;)I"), (77, .methodref 1 684), (4, u "EPOCH"), (0, .class_ 771), (0, u "java/time/temporal/Temporal"), (0, .class_ 773), (0, u "java/io/Serializable"), (0, u "serialVersionUID"), (0, u "J"), (3, u "DAYS_PER_CYCLE"), (1, u "DAYS_0000_TO_1970"), (167, u "(Ljava/lang/Object;)I")] 38

def k21c0 : Code := { maxStack := 2, maxLocals := 2, code := jdk_2323_method_69_code, exceptionTable := #[], attributes := #[] }
def k21m0 : Method := { name := "compareTo", desc := "(Ljava/time/chrono/ChronoLocalDate;)I", sig := { parameters := [(.object "java/time/chrono/ChronoLocalDate")], returnType := some .int }, accessFlags := 1, code := some k21c0 }
def k21c1 : Code := { maxStack := 2, maxLocals := 3, code := jdk_2323_method_70_code, exceptionTable := #[], attributes := #[] }
def k21m1 : Method := { name := "compareTo0", desc := "(Ljava/time/LocalDate;)I", sig := { parameters := [(.object "java/time/LocalDate")], returnType := some .int }, accessFlags := 0, code := some k21c1 }
def k21c2 : Code := { maxStack := 2, maxLocals := 2, code := jdk_2323_method_97_code, exceptionTable := #[], attributes := #[] }
def k21m2 : Method := { name := "compareTo", desc := "(Ljava/lang/Object;)I", sig := { parameters := [(.object "java/lang/Object")], returnType := some .int }, accessFlags := 4161, code := some k21c2 }
/-- java/time/LocalDate -/
def k21 : Class := { plain "java/time/LocalDate" (some 0) with
  accessFlags := 49
  interfaces := #[18, 19, 20, 2]
  cf := some (fileOf pool21 1 #[.nestMembers #[270]] #[{ accessFlags := 1, nameIndex := 685, descriptorIndex := 686, attributes := #[] }, { accessFlags := 0, nameIndex := 681, descriptorIndex := 682, attributes := #[] }, { accessFlags := 4161, nameIndex := 685, descriptorIndex := 949, attributes := #[] }] 49 244 #[770, 380, 257, 772] #[{ accessFlags := 25, nameIndex := 592, descriptorIndex := 589, attributes := #[] }, { accessFlags := 25, nameIndex := 588, descriptorIndex := 589, attributes := #[] }, { accessFlags := 25, nameIndex := 769, descriptorIndex := 589, attributes := #[] }, { accessFlags := 26, nameIndex := 774, descriptorIndex := 775, attributes := #[] }, { accessFlags := 26, nameIndex := 779, descriptorIndex := 249, attributes := #[] }, { accessFlags := 24, nameIndex := 781, descriptorIndex := 775, attributes := #[] }, { accessFlags := 18, nameIndex := 248, descriptorIndex := 249, attributes := #[] }, { accessFlags := 18, nameIndex := 50, descriptorIndex := 252, attributes := #[] }, { accessFlags := 18, nameIndex := 255, descriptorIndex := 252, attributes := #[] }])
  fields := #[{ name := "MIN", type := (.object "java/time/LocalDate"), accessFlags := 25, slot := 0, constantValue := 0 }, { name := "MAX", type := (.object "java/time/LocalDate"), accessFlags := 25, slot := 1, constantValue := 0 }, { name := "EPOCH", type := (.object "java/time/LocalDate"), accessFlags := 25, slot := 2, constantValue := 0 }, { name := "serialVersionUID", type := .long, accessFlags := 26, slot := 3, constantValue := 0 }, { name := "DAYS_PER_CYCLE", type := .int, accessFlags := 26, slot := 4, constantValue := 0 }, { name := "DAYS_0000_TO_1970", type := .long, accessFlags := 24, slot := 5, constantValue := 0 }, { name := "year", type := .int, accessFlags := 18, slot := 0, constantValue := 0 }, { name := "month", type := .short, accessFlags := 18, slot := 1, constantValue := 0 }, { name := "day", type := .short, accessFlags := 18, slot := 2, constantValue := 0 }]
  methods := #[k21m0, k21m1, k21m2]
  instanceTypes := #[.int, .short, .short]
  staticTypes := #[(.object "java/time/LocalDate"), (.object "java/time/LocalDate"), (.object "java/time/LocalDate"), .long, .int, .long]
  resolved := Array.replicate 988 none
  statics := some 1 }

def pool22 : Array CpInfo := pool [(23, .class_ 25), (1, u "java/util/Map$Entry"), (0, u "getKey"), (0, u "()Ljava/lang/Object;"), (2, u "getValue"), (1, .class_ 34), (1, u "java/util/Map"), (34, .class_ 70), (0, u "java/lang/Object")] 107

def k22m0 : Method := { name := "getKey", desc := "()Ljava/lang/Object;", sig := { parameters := [], returnType := some (.object "java/lang/Object") }, accessFlags := 1025, code := none }
def k22m1 : Method := { name := "getValue", desc := "()Ljava/lang/Object;", sig := { parameters := [], returnType := some (.object "java/lang/Object") }, accessFlags := 1025, code := none }
/-- java/util/Map$Entry -/
def k22 : Class := { plain "java/util/Map$Entry" (some 0) with
  accessFlags := 1537
  interfaces := #[]
  cf := some (fileOf pool22 23 #[.nestHost 32] #[{ accessFlags := 1025, nameIndex := 26, descriptorIndex := 27, attributes := #[] }, { accessFlags := 1025, nameIndex := 30, descriptorIndex := 27, attributes := #[] }] 1537 69 #[] #[])
  fields := #[]
  methods := #[k22m0, k22m1]
  instanceTypes := #[]
  staticTypes := #[]
  resolved := Array.replicate 178 none
  statics := none }

def pool23 : Array CpInfo := pool [(1, .class_ 2), (0, u "java/util/TreeMap"), (0, .methodref 4 5), (0, .class_ 6), (0, .nameAndType 7 8), (0, u "java/lang/Object"), (0, u "<init>"), (0, u "()V"), (0, .fieldref 10 11), (0, .class_ 12), (0, .nameAndType 13 14), (0, u "java/util/TreeMap$Entry"), (0, u "color"), (0, u "Z"), (0, .fieldref 10 16), (0, .nameAndType 17 18), (0, u "key"), (0, u "Ljava/lang/Object;"), (0, .fieldref 10 20), (0, .nameAndType 21 18), (0, u "value"), (0, .fieldref 10 23), (0, .nameAndType 24 25), (0, u "parent"), (0, u "Ljava/util/TreeMap$Entry;"), (0, .class_ 27), (0, u "java/util/Map$Entry"), (2, u "getKey"), (0, u "()Ljava/lang/Object;"), (6, u "getValue"), (23, u "left"), (1, u "right"), (0, u "(Ljava/lang/Object;Ljava/lang/Object;Ljava/util/TreeMap$Entry;)V")] 30

def k23c0 : Code := { maxStack := 2, maxLocals := 4, code := jdk_2736_method_1_code, exceptionTable := #[], attributes := #[] }
def k23m0 : Method := { name := "<init>", desc := "(Ljava/lang/Object;Ljava/lang/Object;Ljava/util/TreeMap$Entry;)V", sig := { parameters := [(.object "java/lang/Object"), (.object "java/lang/Object"), (.object "java/util/TreeMap$Entry")], returnType := none }, accessFlags := 0, code := some k23c0 }
def k23c1 : Code := { maxStack := 1, maxLocals := 1, code := jdk_2736_method_2_code, exceptionTable := #[], attributes := #[] }
def k23m1 : Method := { name := "getKey", desc := "()Ljava/lang/Object;", sig := { parameters := [], returnType := some (.object "java/lang/Object") }, accessFlags := 1, code := some k23c1 }
def k23c2 : Code := { maxStack := 1, maxLocals := 1, code := jdk_2736_method_3_code, exceptionTable := #[], attributes := #[] }
def k23m2 : Method := { name := "getValue", desc := "()Ljava/lang/Object;", sig := { parameters := [], returnType := some (.object "java/lang/Object") }, accessFlags := 1, code := some k23c2 }
/-- java/util/TreeMap$Entry -/
def k23 : Class := { plain "java/util/TreeMap$Entry" (some 0) with
  accessFlags := 48
  interfaces := #[22]
  cf := some (fileOf pool23 10 #[.nestHost 1] #[{ accessFlags := 0, nameIndex := 7, descriptorIndex := 65, attributes := #[] }, { accessFlags := 1, nameIndex := 30, descriptorIndex := 31, attributes := #[] }, { accessFlags := 1, nameIndex := 38, descriptorIndex := 31, attributes := #[] }] 48 4 #[26] #[{ accessFlags := 0, nameIndex := 17, descriptorIndex := 18, attributes := #[] }, { accessFlags := 0, nameIndex := 21, descriptorIndex := 18, attributes := #[] }, { accessFlags := 0, nameIndex := 62, descriptorIndex := 25, attributes := #[] }, { accessFlags := 0, nameIndex := 64, descriptorIndex := 25, attributes := #[] }, { accessFlags := 0, nameIndex := 24, descriptorIndex := 25, attributes := #[] }, { accessFlags := 0, nameIndex := 13, descriptorIndex := 14, attributes := #[] }])
  fields := #[{ name := "key", type := (.object "java/lang/Object"), accessFlags := 0, slot := 0, constantValue := 0 }, { name := "value", type := (.object "java/lang/Object"), accessFlags := 0, slot := 1, constantValue := 0 }, { name := "left", type := (.object "java/util/TreeMap$Entry"), accessFlags := 0, slot := 2, constantValue := 0 }, { name := "right", type := (.object "java/util/TreeMap$Entry"), accessFlags := 0, slot := 3, constantValue := 0 }, { name := "parent", type := (.object "java/util/TreeMap$Entry"), accessFlags := 0, slot := 4, constantValue := 0 }, { name := "color", type := .boolean, accessFlags := 0, slot := 5, constantValue := 0 }]
  methods := #[k23m0, k23m1, k23m2]
  instanceTypes := #[(.object "java/lang/Object"), (.object "java/lang/Object"), (.object "java/util/TreeMap$Entry"), (.object "java/util/TreeMap$Entry"), (.object "java/util/TreeMap$Entry"), .boolean]
  staticTypes := #[]
  resolved := Array.replicate 96 none
  statics := none }

def pool24 : Array CpInfo := pool [(2, .class_ 4), (1, u "java/lang/Object"), (0, u "<init>"), (0, u "()V"), (12, .class_ 20), (0, u "java/util/Collections"), (63, u "r"), (0, u "Ljava/util/Random;"), (77, .nameAndType 164 165), (0, u "getClass"), (0, u "()Ljava/lang/Class;"), (0, .class_ 167), (0, u "java/util/Collections$UnmodifiableCollection"), (6, .class_ 175), (0, u "java/util/Collections$UnmodifiableSequencedCollection"), (6, .class_ 183), (0, u "java/util/Collections$UnmodifiableSet"), (6, .class_ 191), (0, u "java/util/Collections$UnmodifiableSequencedSet"), (6, .class_ 199), (0, u "java/util/Collections$UnmodifiableSortedSet"), (6, .class_ 207), (0, u "java/util/Collections$UnmodifiableNavigableSet"), (4, .class_ 213), (0, u "java/util/Collections$UnmodifiableList"), (1, .class_ 216), (0, u "java/util/Collections$UnmodifiableRandomAccessList"), (6, .class_ 224), (0, u "java/util/Collections$UnmodifiableMap"), (6, .class_ 232), (0, u "java/util/Collections$UnmodifiableSequencedMap"), (4, .class_ 238), (0, u "java/util/Collections$UnmodifiableSortedMap"), (3, .interfaceMethodref 243 163), (0, .class_ 244), (0, u "java/util/NavigableMap"), (0, .class_ 246), (0, u "java/util/Collections$UnmodifiableNavigableMap"), (0, .methodref 245 248), (0, .nameAndType 5 249), (0, u "(Ljava/util/NavigableMap;)V"), (0, .class_ 251), (0, u "java/util/Collections$SynchronizedCollection"), (4, .class_ 257), (0, u "java/util/Collections$SynchronizedSet"), (4, .class_ 263), (0, u "java/util/Collections$SynchronizedSortedSet"), (1, .class_ 266), (0, u "java/util/Collections$SynchronizedNavigableSet"), (1, .class_ 269), (0, u "java/util/Collections$SynchronizedRandomAccessList"), (1, .class_ 272), (0, u "java/util/Collections$SynchronizedList"), (5, .class_ 279), (0, u "java/util/Collections$SynchronizedMap"), (1, .class_ 282), (0, u "java/util/Collections$SynchronizedSortedMap"), (1, .class_ 285), (0, u "java/util/Collections$SynchronizedNavigableMap"), (1, .class_ 288), (0, u "java/util/Collections$CheckedCollection"), (11, .class_ 301), (0, u "java/util/Collections$CheckedQueue"), (3, .class_ 306), (0, u "java/util/Collections$CheckedSet"), (3, .class_ 311), (0, u "java/util/Collections$CheckedSortedSet"), (3, .class_ 316), (0, u "java/util/Collections$CheckedNavigableSet"), (3, .class_ 321), (0, u "java/util/Collections$CheckedRandomAccessList"), (3, .class_ 326), (0, u "java/util/Collections$CheckedList"), (1, .class_ 329), (0, u "java/util/Collections$CheckedMap"), (3, .class_ 334), (0, u "java/util/Collections$CheckedSortedMap"), (3, .class_ 339), (0, u "java/util/Collections$CheckedNavigableMap"), (4, .class_ 346), (1, u "java/util/Collections$EmptyIterator"), (3, .class_ 352), (1, u "java/util/Collections$EmptyListIterator"), (2, .class_ 357), (1, u "java/util/Collections$EmptyEnumeration"), (4, u "EMPTY_SET"), (0, u "Ljava/util/Set;"), (6, u "EMPTY_LIST"), (0, u "Ljava/util/List;"), (2, u "EMPTY_MAP"), (0, u "Ljava/util/Map;"), (4, .class_ 381), (0, u "java/util/Collections$SingletonSet"), (2, .class_ 385), (0, u "java/util/Collections$1"), (1, .class_ 388), (0, u "java/util/Collections$2"), (1, .class_ 391), (0, u "java/util/Collections$SingletonList"), (1, .class_ 394), (0, u "java/util/Collections$SingletonMap"), (22, .class_ 418), (0, u "java/util/Collections$CopiesList"), (4, .class_ 425), (1, u "java/util/Collections$ReverseComparator"), (8, .class_ 435), (0, u "java/util/Collections$ReverseComparator2"), (6, .class_ 443), (0, u "java/util/Collections$3"), (25, .class_ 470), (0, u "java/util/Collections$SetFromMap"), (2, .class_ 474), (0, u "java/util/Collections$SequencedSetFromMap"), (3, .class_ 479), (0, u "java/util/Collections$AsLIFOQueue"), (11, .class_ 492), (0, u "java/util/Collections$EmptySet"), (1, .class_ 495), (0, u "java/util/Collections$EmptyList"), (1, .class_ 498), (0, u "java/util/Collections$EmptyMap"), (1, u "BINARYSEARCH_THRESHOLD"), (0, u "I"), (2, u "REVERSE_THRESHOLD"), (1, u "SHUFFLE_THRESHOLD"), (1, u "FILL_THRESHOLD"), (1, u "ROTATE_THRESHOLD"), (1, u "COPY_THRESHOLD"), (1, u "REPLACEALL_THRESHOLD"), (1, u "INDEXOFSUBLIST_THRESHOLD"), (147, u "unmodifiableNavigableMap"), (0, u "(Ljava/util/NavigableMap;)Ljava/util/NavigableMap;"), (184, .class_ 851), (0, u "java/util/Collections$CheckedMap$CheckedEntrySet"), (0, .class_ 853), (0, u "java/util/Collections$CheckedMap$CheckedEntrySet$CheckedEntry"), (0, .class_ 855), (0, u "java/util/Collections$CheckedMap$CheckedEntrySet$1"), (0, .class_ 857), (0, u "java/util/Collections$CheckedList$1"), (0, .class_ 859), (0, u "java/util/Collections$CheckedCollection$1"), (0, .class_ 861), (0, u "java/util/Collections$UnmodifiableNavigableMap$EmptyNavigableMap"), (0, .class_ 863), (0, u "java/util/Collections$UnmodifiableMap$UnmodifiableEntrySet"), (0, .class_ 865), (0, u "java/util/Collections$UnmodifiableMap$UnmodifiableEntrySet$UnmodifiableEntry"), (0, .class_ 867), (0, u "java/util/Collections$UnmodifiableMap$UnmodifiableEntrySet$UnmodifiableEntrySetSpliterator"), (0, .class_ 869), (0, u "java/util/Collections$UnmodifiableMap$UnmodifiableEntrySet$1"), (0, .class_ 871), (0, u "java/util/Collections$UnmodifiableList$1"), (0, .class_ 873), (0, u "java/util/Collections$UnmodifiableNavigableSet$EmptyNavigableSet"), (0, .class_ 875), (0, u "java/util/Collections$UnmodifiableCollection$1")] 57

def k24m0 : Method := { name := "<init>", desc := "()V", sig := { parameters := [], returnType := none }, accessFlags := 2, code := none }
def k24c1 : Code := { maxStack := 3, maxLocals := 1, code := jdk_79_method_39_code, exceptionTable := #[], attributes := #[] }
def k24m1 : Method := { name := "unmodifiableNavigableMap", desc := "(Ljava/util/NavigableMap;)Ljava/util/NavigableMap;", sig := { parameters := [(.object "java/util/NavigableMap")], returnType := some (.object "java/util/NavigableMap") }, accessFlags := 9, code := some k24c1 }
/-- java/util/Collections -/
def k24 : Class := { plain "java/util/Collections" (some 0) with
  accessFlags := 33
  interfaces := #[]
  cf := some (fileOf pool24 19 #[.nestMembers #[478, 473, 469, 434, 423, 417, 393, 390, 380, 497, 494, 491, 355, 350, 344, 338, 333, 328, 850, 852, 854, 320, 325, 856, 315, 310, 305, 300, 287, 858, 284, 281, 278, 268, 271, 265, 262, 256, 250, 245, 860, 237, 231, 223, 862, 864, 866, 868, 215, 212, 870, 206, 872, 198, 190, 182, 174, 166, 874, 442, 387, 384]] #[{ accessFlags := 2, nameIndex := 5, descriptorIndex := 6, attributes := #[] }, { accessFlags := 9, nameIndex := 664, descriptorIndex := 665, attributes := #[] }] 33 2 #[] #[{ accessFlags := 26, nameIndex := 500, descriptorIndex := 501, attributes := #[] }, { accessFlags := 26, nameIndex := 504, descriptorIndex := 501, attributes := #[] }, { accessFlags := 26, nameIndex := 506, descriptorIndex := 501, attributes := #[] }, { accessFlags := 26, nameIndex := 508, descriptorIndex := 501, attributes := #[] }, { accessFlags := 26, nameIndex := 510, descriptorIndex := 501, attributes := #[] }, { accessFlags := 26, nameIndex := 512, descriptorIndex := 501, attributes := #[] }, { accessFlags := 26, nameIndex := 514, descriptorIndex := 501, attributes := #[] }, { accessFlags := 26, nameIndex := 516, descriptorIndex := 501, attributes := #[] }, { accessFlags := 10, nameIndex := 84, descriptorIndex := 85, attributes := #[] }, { accessFlags := 25, nameIndex := 362, descriptorIndex := 363, attributes := #[] }, { accessFlags := 25, nameIndex := 370, descriptorIndex := 371, attributes := #[] }, { accessFlags := 25, nameIndex := 374, descriptorIndex := 375, attributes := #[] }])
  fields := #[{ name := "BINARYSEARCH_THRESHOLD", type := .int, accessFlags := 26, slot := 0, constantValue := 0 }, { name := "REVERSE_THRESHOLD", type := .int, accessFlags := 26, slot := 1, constantValue := 0 }, { name := "SHUFFLE_THRESHOLD", type := .int, accessFlags := 26, slot := 2, constantValue := 0 }, { name := "FILL_THRESHOLD", type := .int, accessFlags := 26, slot := 3, constantValue := 0 }, { name := "ROTATE_THRESHOLD", type := .int, accessFlags := 26, slot := 4, constantValue := 0 }, { name := "COPY_THRESHOLD", type := .int, accessFlags := 26, slot := 5, constantValue := 0 }, { name := "REPLACEALL_THRESHOLD", type := .int, accessFlags := 26, slot := 6, constantValue := 0 }, { name := "INDEXOFSUBLIST_THRESHOLD", type := .int, accessFlags := 26, slot := 7, constantValue := 0 }, { name := "r", type := (.object "java/util/Random"), accessFlags := 10, slot := 8, constantValue := 0 }, { name := "EMPTY_SET", type := (.object "java/util/Set"), accessFlags := 25, slot := 9, constantValue := 0 }, { name := "EMPTY_LIST", type := (.object "java/util/List"), accessFlags := 25, slot := 10, constantValue := 0 }, { name := "EMPTY_MAP", type := (.object "java/util/Map"), accessFlags := 25, slot := 11, constantValue := 0 }]
  methods := #[k24m0, k24m1]
  instanceTypes := #[]
  staticTypes := #[.int, .int, .int, .int, .int, .int, .int, .int, (.object "java/util/Random"), (.object "java/util/Set"), (.object "java/util/List"), (.object "java/util/Map")]
  resolved := Array.replicate 933 none
  statics := none }

def pool25 : Array CpInfo := pool [(1, .methodref 2 3), (0, .class_ 4), (0, .nameAndType 5 6), (0, u "java/lang/Object"), (0, u "<init>"), (0, u "()V"), (3, .fieldref 11 12), (0, .class_ 13), (0, .nameAndType 14 15), (0, u "java/util/Collections$UnmodifiableMap"), (0, u "m"), (0, u "Ljava/util/Map;"), (1, .class_ 19), (1, u "java/util/Map"), (22, u "keySet"), (0, u "Ljava/util/Set;"), (4, .class_ 50), (1, u "java/util/Collections"), (4, u "entrySet"), (9, u "values"), (0, u "Ljava/util/Collection;"), (25, .class_ 93), (0, u "java/io/Serializable"), (0, u "serialVersionUID"), (0, u "J"), (8, u "(Ljava/util/Map;)V")] 70

def k25c0 : Code := { maxStack := 2, maxLocals := 2, code := jdk_2500_method_1_code, exceptionTable := #[], attributes := #[] }
def k25m0 : Method := { name := "<init>", desc := "(Ljava/util/Map;)V", sig := { parameters := [(.object "java/util/Map")], returnType := none }, accessFlags := 0, code := some k25c0 }
/-- java/util/Collections$UnmodifiableMap -/
def k25 : Class := { plain "java/util/Collections$UnmodifiableMap" (some 0) with
  accessFlags := 32
  interfaces := #[10, 2]
  cf := some (fileOf pool25 11 #[.nestHost 48] #[{ accessFlags := 0, nameIndex := 5, descriptorIndex := 104, attributes := #[] }] 32 2 #[17, 92] #[{ accessFlags := 26, nameIndex := 94, descriptorIndex := 95, attributes := #[] }, { accessFlags := 16, nameIndex := 14, descriptorIndex := 15, attributes := #[] }, { accessFlags := 130, nameIndex := 42, descriptorIndex := 43, attributes := #[] }, { accessFlags := 130, nameIndex := 55, descriptorIndex := 43, attributes := #[] }, { accessFlags := 130, nameIndex := 65, descriptorIndex := 66, attributes := #[] }])
  fields := #[{ name := "serialVersionUID", type := .long, accessFlags := 26, slot := 0, constantValue := 0 }, { name := "m", type := (.object "java/util/Map"), accessFlags := 16, slot := 0, constantValue := 0 }, { name := "keySet", type := (.object "java/util/Set"), accessFlags := 130, slot := 1, constantValue := 0 }, { name := "entrySet", type := (.object "java/util/Set"), accessFlags := 130, slot := 2, constantValue := 0 }, { name := "values", type := (.object "java/util/Collection"), accessFlags := 130, slot := 3, constantValue := 0 }]
  methods := #[k25m0]
  instanceTypes := #[(.object "java/util/Map"), (.object "java/util/Set"), (.object "java/util/Set"), (.object "java/util/Collection")]
  staticTypes := #[.long]
  resolved := Array.replicate 175 none
  statics := none }

def pool26 : Array CpInfo := pool [(1, .methodref 2 3), (0, .class_ 4), (0, .nameAndType 5 6), (0, u "java/util/Collections$UnmodifiableMap"), (0, u "<init>"), (0, u "(Ljava/util/Map;)V"), (0, .fieldref 8 9), (0, .class_ 10), (0, .nameAndType 11 12), (0, u "java/util/Collections$UnmodifiableSortedMap"), (0, u "sm"), (0, u "Ljava/util/SortedMap;"), (1, .class_ 16), (1, u "java/util/SortedMap"), (8, u "(Ljava/util/SortedMap;)V"), (14, .class_ 41), (0, u "java/io/Serializable"), (0, u "serialVersionUID"), (0, u "J"), (26, .class_ 71), (0, u "java/util/Collections")] 3

def k26c0 : Code := { maxStack := 2, maxLocals := 2, code := jdk_2512_method_1_code, exceptionTable := #[], attributes := #[] }
def k26m0 : Method := { name := "<init>", desc := "(Ljava/util/SortedMap;)V", sig := { parameters := [(.object "java/util/SortedMap")], returnType := none }, accessFlags := 0, code := some k26c0 }
/-- java/util/Collections$UnmodifiableSortedMap -/
def k26 : Class := { plain "java/util/Collections$UnmodifiableSortedMap" (some 25) with
  accessFlags := 32
  interfaces := #[13, 2]
  cf := some (fileOf pool26 8 #[.nestHost 70] #[{ accessFlags := 0, nameIndex := 5, descriptorIndex := 25, attributes := #[] }] 32 2 #[14, 40] #[{ accessFlags := 26, nameIndex := 42, descriptorIndex := 43, attributes := #[] }, { accessFlags := 18, nameIndex := 11, descriptorIndex := 12, attributes := #[] }])
  fields := #[{ name := "serialVersionUID", type := .long, accessFlags := 26, slot := 0, constantValue := 0 }, { name := "sm", type := (.object "java/util/SortedMap"), accessFlags := 18, slot := 4, constantValue := 0 }]
  methods := #[k26m0]
  instanceTypes := #[(.object "java/util/Map"), (.object "java/util/Set"), (.object "java/util/Set"), (.object "java/util/Collection"), (.object "java/util/SortedMap")]
  staticTypes := #[.long]
  resolved := Array.replicate 75 none
  statics := none }

def pool27 : Array CpInfo := pool [(1, .methodref 2 3), (0, .class_ 4), (0, .nameAndType 5 6), (0, u "java/util/Collections$UnmodifiableSortedMap"), (0, u "<init>"), (0, u "(Ljava/util/SortedMap;)V"), (0, .fieldref 8 9), (0, .class_ 10), (0, .nameAndType 11 12), (0, u "java/util/Collections$UnmodifiableNavigableMap"), (0, u "nm"), (0, u "Ljava/util/NavigableMap;"), (1, .class_ 16), (1, u "java/util/NavigableMap"), (15, .class_ 33), (0, u "java/util/Collections$UnmodifiableMap$UnmodifiableEntrySet$UnmodifiableEntry"), (0, .methodref 32 35), (0, .nameAndType 5 36), (0, u "(Ljava/util/Map$Entry;)V"), (12, u "()Ljava/util/Map$Entry;"), (0, .interfaceMethodref 14 51), (0, .nameAndType 52 49), (0, u "lastEntry"), (10, .class_ 65), (1, u "java/util/Collections"), (29, u "EMPTY_NAVIGABLE_MAP"), (0, u "Ljava/util/Collections$UnmodifiableNavigableMap$EmptyNavigableMap;"), (0, .class_ 98), (0, u "java/io/Serializable"), (0, u "serialVersionUID"), (0, u "J"), (6, u "(Ljava/util/NavigableMap;)V")] 57

def k27c0 : Code := { maxStack := 2, maxLocals := 2, code := jdk_2505_method_1_code, exceptionTable := #[], attributes := #[] }
def k27m0 : Method := { name := "<init>", desc := "(Ljava/util/NavigableMap;)V", sig := { parameters := [(.object "java/util/NavigableMap")], returnType := none }, accessFlags := 0, code := some k27c0 }
def k27c1 : Code := { maxStack := 3, maxLocals := 2, code := jdk_2505_method_11_code, exceptionTable := #[], attributes := #[] }
def k27m1 : Method := { name := "lastEntry", desc := "()Ljava/util/Map$Entry;", sig := { parameters := [], returnType := some (.object "java/util/Map$Entry") }, accessFlags := 1, code := some k27c1 }
/-- java/util/Collections$UnmodifiableNavigableMap -/
def k27 : Class := { plain "java/util/Collections$UnmodifiableNavigableMap" (some 26) with
  accessFlags := 32
  interfaces := #[14, 2]
  cf := some (fileOf pool27 8 #[.nestHost 63] #[{ accessFlags := 0, nameIndex := 5, descriptorIndex := 107, attributes := #[] }, { accessFlags := 1, nameIndex := 52, descriptorIndex := 49, attributes := #[] }] 32 2 #[14, 97] #[{ accessFlags := 26, nameIndex := 99, descriptorIndex := 100, attributes := #[] }, { accessFlags := 26, nameIndex := 95, descriptorIndex := 96, attributes := #[] }, { accessFlags := 18, nameIndex := 11, descriptorIndex := 12, attributes := #[] }])
  fields := #[{ name := "serialVersionUID", type := .long, accessFlags := 26, slot := 0, constantValue := 0 }, { name := "EMPTY_NAVIGABLE_MAP", type := (.object "java/util/Collections$UnmodifiableNavigableMap$EmptyNavigableMap"), accessFlags := 26, slot := 1, constantValue := 0 }, { name := "nm", type := (.object "java/util/NavigableMap"), accessFlags := 18, slot := 5, constantValue := 0 }]
  methods := #[k27m0, k27m1]
  instanceTypes := #[(.object "java/util/Map"), (.object "java/util/Set"), (.object "java/util/Set"), (.object "java/util/Collection"), (.object "java/util/SortedMap"), (.object "java/util/NavigableMap")]
  staticTypes := #[.long, (.object "java/util/Collections$UnmodifiableNavigableMap$EmptyNavigableMap")]
  resolved := Array.replicate 165 none
  mirror := some 3
  statics := none }

def pool28 : Array CpInfo := pool [(1, .methodref 2 3), (0, .class_ 4), (0, .nameAndType 5 6), (0, u "java/lang/Object"), (0, u "<init>"), (0, u "()V"), (0, .fieldref 8 9), (0, .class_ 10), (0, .nameAndType 11 12), (0, u "java/util/AbstractMap$SimpleImmutableEntry"), (0, u "key"), (0, u "Ljava/lang/Object;"), (0, .fieldref 8 14), (0, .nameAndType 15 12), (0, u "value"), (0, .interfaceMethodref 17 18), (0, .class_ 19), (0, .nameAndType 20 21), (0, u "java/util/Map$Entry"), (0, u "getKey"), (0, u "()Ljava/lang/Object;"), (0, .interfaceMethodref 17 23), (0, .nameAndType 24 21), (0, u "getValue"), (4, .class_ 31), (1, u "java/util/AbstractMap"), (22, .class_ 55), (0, u "java/io/Serializable"), (0, u "serialVersionUID"), (0, u "J"), (15, u "(Ljava/util/Map$Entry;)V")] 24

def k28c0 : Code := { maxStack := 2, maxLocals := 2, code := jdk_140_method_2_code, exceptionTable := #[], attributes := #[] }
def k28m0 : Method := { name := "<init>", desc := "(Ljava/util/Map$Entry;)V", sig := { parameters := [(.object "java/util/Map$Entry")], returnType := none }, accessFlags := 1, code := some k28c0 }
def k28c1 : Code := { maxStack := 1, maxLocals := 1, code := jdk_140_method_4_code, exceptionTable := #[], attributes := #[] }
def k28m1 : Method := { name := "getValue", desc := "()Ljava/lang/Object;", sig := { parameters := [], returnType := some (.object "java/lang/Object") }, accessFlags := 1, code := some k28c1 }
/-- java/util/AbstractMap$SimpleImmutableEntry -/
def k28 : Class := { plain "java/util/AbstractMap$SimpleImmutableEntry" (some 0) with
  accessFlags := 33
  interfaces := #[22, 2]
  cf := some (fileOf pool28 8 #[.nestHost 29] #[{ accessFlags := 1, nameIndex := 5, descriptorIndex := 73, attributes := #[] }, { accessFlags := 1, nameIndex := 24, descriptorIndex := 21, attributes := #[] }] 33 2 #[17, 54] #[{ accessFlags := 26, nameIndex := 56, descriptorIndex := 57, attributes := #[] }, { accessFlags := 18, nameIndex := 11, descriptorIndex := 12, attributes := #[] }, { accessFlags := 18, nameIndex := 15, descriptorIndex := 12, attributes := #[] }])
  fields := #[{ name := "serialVersionUID", type := .long, accessFlags := 26, slot := 0, constantValue := 0 }, { name := "key", type := (.object "java/lang/Object"), accessFlags := 18, slot := 0, constantValue := 0 }, { name := "value", type := (.object "java/lang/Object"), accessFlags := 18, slot := 1, constantValue := 0 }]
  methods := #[k28m0, k28m1]
  instanceTypes := #[(.object "java/lang/Object"), (.object "java/lang/Object")]
  staticTypes := #[.long]
  resolved := Array.replicate 98 none
  statics := none }

def pool29 : Array CpInfo := pool [(1, .methodref 2 3), (0, .class_ 4), (0, .nameAndType 5 6), (0, u "java/lang/Object"), (0, u "<init>"), (0, u "()V"), (0, .methodref 8 9), (0, .class_ 10), (0, .nameAndType 11 12), (0, u "java/util/Objects"), (0, u "requireNonNull"), (0, u "(Ljava/lang/Object;)Ljava/lang/Object;"), (0, .class_ 14), (0, u "java/util/Map$Entry"), (0, .fieldref 16 17), (0, .class_ 18), (0, .nameAndType 19 20), (0, u "java/util/Collections$UnmodifiableMap$UnmodifiableEntrySet$UnmodifiableEntry"), (0, u "e"), (0, u "Ljava/util/Map$Entry;"), (3, u "()Ljava/lang/Object;"), (0, .interfaceMethodref 13 26), (0, .nameAndType 27 24), (0, u "getValue"), (8, .class_ 38), (1, u "java/util/Collections"), (8, u "(Ljava/util/Map$Entry;)V")] 36

def k29c0 : Code := { maxStack := 2, maxLocals := 2, code := jdk_2503_method_1_code, exceptionTable := #[], attributes := #[] }
def k29m0 : Method := { name := "<init>", desc := "(Ljava/util/Map$Entry;)V", sig := { parameters := [(.object "java/util/Map$Entry")], returnType := none }, accessFlags := 0, code := some k29c0 }
def k29c1 : Code := { maxStack := 1, maxLocals := 1, code := jdk_2503_method_3_code, exceptionTable := #[], attributes := #[] }
def k29m1 : Method := { name := "getValue", desc := "()Ljava/lang/Object;", sig := { parameters := [], returnType := some (.object "java/lang/Object") }, accessFlags := 1, code := some k29c1 }
/-- java/util/Collections$UnmodifiableMap$UnmodifiableEntrySet$UnmodifiableEntry -/
def k29 : Class := { plain "java/util/Collections$UnmodifiableMap$UnmodifiableEntrySet$UnmodifiableEntry" (some 0) with
  accessFlags := 32
  interfaces := #[22]
  cf := some (fileOf pool29 16 #[.nestHost 36] #[{ accessFlags := 0, nameIndex := 5, descriptorIndex := 47, attributes := #[] }, { accessFlags := 1, nameIndex := 27, descriptorIndex := 24, attributes := #[] }] 32 2 #[13] #[{ accessFlags := 2, nameIndex := 19, descriptorIndex := 20, attributes := #[] }])
  fields := #[{ name := "e", type := (.object "java/util/Map$Entry"), accessFlags := 2, slot := 0, constantValue := 0 }]
  methods := #[k29m0, k29m1]
  instanceTypes := #[(.object "java/util/Map$Entry")]
  staticTypes := #[]
  resolved := Array.replicate 84 none
  statics := none }

def pool30 : Array CpInfo := pool [(2, .class_ 4), (1, u "java/lang/Object"), (0, u "<init>"), (0, u "()V"), (35, .class_ 44), (1, u "java/util/Objects"), (0, u "requireNonNull"), (0, u "(Ljava/lang/Object;)Ljava/lang/Object;")] 137

def k30m0 : Method := { name := "<init>", desc := "()V", sig := { parameters := [], returnType := none }, accessFlags := 2, code := none }
def k30c1 : Code := { maxStack := 2, maxLocals := 1, code := jdk_31_method_10_code, exceptionTable := #[], attributes := #[] }
def k30m1 : Method := { name := "requireNonNull", desc := "(Ljava/lang/Object;)Ljava/lang/Object;", sig := { parameters := [(.object "java/lang/Object")], returnType := some (.object "java/lang/Object") }, accessFlags := 9, code := some k30c1 }
/-- java/util/Objects -/
def k30 : Class := { plain "java/util/Objects" (some 0) with
  accessFlags := 49
  interfaces := #[]
  cf := some (fileOf pool30 42 #[] #[{ accessFlags := 2, nameIndex := 5, descriptorIndex := 6, attributes := #[] }, { accessFlags := 9, nameIndex := 45, descriptorIndex := 46, attributes := #[] }] 49 2 #[] #[])
  fields := #[]
  methods := #[k30m0, k30m1]
  instanceTypes := #[]
  staticTypes := #[]
  resolved := Array.replicate 184 none
  statics := none }

/-- the primitive byte -/
def k31 : Class := { plain "byte" none with kind := .primitive 'B', accessFlags := 0x411 }
/-- [B -/
def k32 : Class := { plain "[B" (some 0) with kind := .array 31 .byte, interfaces := #[15, 2], accessFlags := 1041 }

/-- the primitive int -/
def k33 : Class := { plain "int" none with kind := .primitive 'I', accessFlags := 0x411 }
/-- [I -/
def k34 : Class := { plain "[I" (some 0) with kind := .array 33 .int, interfaces := #[15, 2], accessFlags := 1041 }

/-- [Ljava/lang/Integer; -/
def k35 : Class := { plain "[Ljava/lang/Integer;" (some 0) with kind := .array 7 (.object "java/lang/Integer"), interfaces := #[15, 2], accessFlags := 1041 }

def heap : Heap := #[{ cls := 8, slots := #[.int 0, .int 127, .ref 4, .null, .int 0], vm := .statics 8 },
  { cls := 21, slots := #[.ref 261, .null, .null, .long 0, .int 0, .long 0], vm := .statics 21 },
  { cls := 0, slots := #[], vm := .mirror 16 },
  { cls := 0, slots := #[], vm := .mirror 27 },
  { cls := 35, slots := #[.ref 5, .ref 6, .ref 7, .ref 8, .ref 9, .ref 10, .ref 11, .ref 12, .ref 13, .ref 14, .ref 15, .ref 16, .ref 17, .ref 18, .ref 19, .ref 20, .ref 21, .ref 22, .ref 23, .ref 24, .ref 25, .ref 26, .ref 27, .ref 28, .ref 29, .ref 30, .ref 31, .ref 32, .ref 33, .ref 34, .ref 35, .ref 36, .ref 37, .ref 38, .ref 39, .ref 40, .ref 41, .ref 42, .ref 43, .ref 44, .ref 45, .ref 46, .ref 47, .ref 48, .ref 49, .ref 50, .ref 51, .ref 52, .ref 53, .ref 54, .ref 55, .ref 56, .ref 57, .ref 58, .ref 59, .ref 60, .ref 61, .ref 62, .ref 63, .ref 64, .ref 65, .ref 66, .ref 67, .ref 68, .ref 69, .ref 70, .ref 71, .ref 72, .ref 73, .ref 74, .ref 75, .ref 76, .ref 77, .ref 78, .ref 79, .ref 80, .ref 81, .ref 82, .ref 83, .ref 84, .ref 85, .ref 86, .ref 87, .ref 88, .ref 89, .ref 90, .ref 91, .ref 92, .ref 93, .ref 94, .ref 95, .ref 96, .ref 97, .ref 98, .ref 99, .ref 100, .ref 101, .ref 102, .ref 103, .ref 104, .ref 105, .ref 106, .ref 107, .ref 108, .ref 109, .ref 110, .ref 111, .ref 112, .ref 113, .ref 114, .ref 115, .ref 116, .ref 117, .ref 118, .ref 119, .ref 120, .ref 121, .ref 122, .ref 123, .ref 124, .ref 125, .ref 126, .ref 127, .ref 128, .ref 129, .ref 130, .ref 131, .ref 132, .ref 133, .ref 134, .ref 135, .ref 136, .ref 137, .ref 138, .ref 139, .ref 140, .ref 141, .ref 142, .ref 143, .ref 144, .ref 145, .ref 146, .ref 147, .ref 148, .ref 149, .ref 150, .ref 151, .ref 152, .ref 153, .ref 154, .ref 155, .ref 156, .ref 157, .ref 158, .ref 159, .ref 160, .ref 161, .ref 162, .ref 163, .ref 164, .ref 165, .ref 166, .ref 167, .ref 168, .ref 169, .ref 170, .ref 171, .ref 172, .ref 173, .ref 174, .ref 175, .ref 176, .ref 177, .ref 178, .ref 179, .ref 180, .ref 181, .ref 182, .ref 183, .ref 184, .ref 185, .ref 186, .ref 187, .ref 188, .ref 189, .ref 190, .ref 191, .ref 192, .ref 193, .ref 194, .ref 195, .ref 196, .ref 197, .ref 198, .ref 199, .ref 200, .ref 201, .ref 202, .ref 203, .ref 204, .ref 205, .ref 206, .ref 207, .ref 208, .ref 209, .ref 210, .ref 211, .ref 212, .ref 213, .ref 214, .ref 215, .ref 216, .ref 217, .ref 218, .ref 219, .ref 220, .ref 221, .ref 222, .ref 223, .ref 224, .ref 225, .ref 226, .ref 227, .ref 228, .ref 229, .ref 230, .ref 231, .ref 232, .ref 233, .ref 234, .ref 235, .ref 236, .ref 237, .ref 238, .ref 239, .ref 240, .ref 241, .ref 242, .ref 243, .ref 244, .ref 245, .ref 246, .ref 247, .ref 248, .ref 249, .ref 250, .ref 251, .ref 252, .ref 253, .ref 254, .ref 255, .ref 256, .ref 257, .ref 258, .ref 259, .ref 260], vm := .none },
  { cls := 7, slots := #[.int (-128)], vm := .none },
  { cls := 7, slots := #[.int (-127)], vm := .none },
  { cls := 7, slots := #[.int (-126)], vm := .none },
  { cls := 7, slots := #[.int (-125)], vm := .none },
  { cls := 7, slots := #[.int (-124)], vm := .none },
  { cls := 7, slots := #[.int (-123)], vm := .none },
  { cls := 7, slots := #[.int (-122)], vm := .none },
  { cls := 7, slots := #[.int (-121)], vm := .none },
  { cls := 7, slots := #[.int (-120)], vm := .none },
  { cls := 7, slots := #[.int (-119)], vm := .none },
  { cls := 7, slots := #[.int (-118)], vm := .none },
  { cls := 7, slots := #[.int (-117)], vm := .none },
  { cls := 7, slots := #[.int (-116)], vm := .none },
  { cls := 7, slots := #[.int (-115)], vm := .none },
  { cls := 7, slots := #[.int (-114)], vm := .none },
  { cls := 7, slots := #[.int (-113)], vm := .none },
  { cls := 7, slots := #[.int (-112)], vm := .none },
  { cls := 7, slots := #[.int (-111)], vm := .none },
  { cls := 7, slots := #[.int (-110)], vm := .none },
  { cls := 7, slots := #[.int (-109)], vm := .none },
  { cls := 7, slots := #[.int (-108)], vm := .none },
  { cls := 7, slots := #[.int (-107)], vm := .none },
  { cls := 7, slots := #[.int (-106)], vm := .none },
  { cls := 7, slots := #[.int (-105)], vm := .none },
  { cls := 7, slots := #[.int (-104)], vm := .none },
  { cls := 7, slots := #[.int (-103)], vm := .none },
  { cls := 7, slots := #[.int (-102)], vm := .none },
  { cls := 7, slots := #[.int (-101)], vm := .none },
  { cls := 7, slots := #[.int (-100)], vm := .none },
  { cls := 7, slots := #[.int (-99)], vm := .none },
  { cls := 7, slots := #[.int (-98)], vm := .none },
  { cls := 7, slots := #[.int (-97)], vm := .none },
  { cls := 7, slots := #[.int (-96)], vm := .none },
  { cls := 7, slots := #[.int (-95)], vm := .none },
  { cls := 7, slots := #[.int (-94)], vm := .none },
  { cls := 7, slots := #[.int (-93)], vm := .none },
  { cls := 7, slots := #[.int (-92)], vm := .none },
  { cls := 7, slots := #[.int (-91)], vm := .none },
  { cls := 7, slots := #[.int (-90)], vm := .none },
  { cls := 7, slots := #[.int (-89)], vm := .none },
  { cls := 7, slots := #[.int (-88)], vm := .none },
  { cls := 7, slots := #[.int (-87)], vm := .none },
  { cls := 7, slots := #[.int (-86)], vm := .none },
  { cls := 7, slots := #[.int (-85)], vm := .none },
  { cls := 7, slots := #[.int (-84)], vm := .none },
  { cls := 7, slots := #[.int (-83)], vm := .none },
  { cls := 7, slots := #[.int (-82)], vm := .none },
  { cls := 7, slots := #[.int (-81)], vm := .none },
  { cls := 7, slots := #[.int (-80)], vm := .none },
  { cls := 7, slots := #[.int (-79)], vm := .none },
  { cls := 7, slots := #[.int (-78)], vm := .none },
  { cls := 7, slots := #[.int (-77)], vm := .none },
  { cls := 7, slots := #[.int (-76)], vm := .none },
  { cls := 7, slots := #[.int (-75)], vm := .none },
  { cls := 7, slots := #[.int (-74)], vm := .none },
  { cls := 7, slots := #[.int (-73)], vm := .none },
  { cls := 7, slots := #[.int (-72)], vm := .none },
  { cls := 7, slots := #[.int (-71)], vm := .none },
  { cls := 7, slots := #[.int (-70)], vm := .none },
  { cls := 7, slots := #[.int (-69)], vm := .none },
  { cls := 7, slots := #[.int (-68)], vm := .none },
  { cls := 7, slots := #[.int (-67)], vm := .none },
  { cls := 7, slots := #[.int (-66)], vm := .none },
  { cls := 7, slots := #[.int (-65)], vm := .none },
  { cls := 7, slots := #[.int (-64)], vm := .none },
  { cls := 7, slots := #[.int (-63)], vm := .none },
  { cls := 7, slots := #[.int (-62)], vm := .none },
  { cls := 7, slots := #[.int (-61)], vm := .none },
  { cls := 7, slots := #[.int (-60)], vm := .none },
  { cls := 7, slots := #[.int (-59)], vm := .none },
  { cls := 7, slots := #[.int (-58)], vm := .none },
  { cls := 7, slots := #[.int (-57)], vm := .none },
  { cls := 7, slots := #[.int (-56)], vm := .none },
  { cls := 7, slots := #[.int (-55)], vm := .none },
  { cls := 7, slots := #[.int (-54)], vm := .none },
  { cls := 7, slots := #[.int (-53)], vm := .none },
  { cls := 7, slots := #[.int (-52)], vm := .none },
  { cls := 7, slots := #[.int (-51)], vm := .none },
  { cls := 7, slots := #[.int (-50)], vm := .none },
  { cls := 7, slots := #[.int (-49)], vm := .none },
  { cls := 7, slots := #[.int (-48)], vm := .none },
  { cls := 7, slots := #[.int (-47)], vm := .none },
  { cls := 7, slots := #[.int (-46)], vm := .none },
  { cls := 7, slots := #[.int (-45)], vm := .none },
  { cls := 7, slots := #[.int (-44)], vm := .none },
  { cls := 7, slots := #[.int (-43)], vm := .none },
  { cls := 7, slots := #[.int (-42)], vm := .none },
  { cls := 7, slots := #[.int (-41)], vm := .none },
  { cls := 7, slots := #[.int (-40)], vm := .none },
  { cls := 7, slots := #[.int (-39)], vm := .none },
  { cls := 7, slots := #[.int (-38)], vm := .none },
  { cls := 7, slots := #[.int (-37)], vm := .none },
  { cls := 7, slots := #[.int (-36)], vm := .none },
  { cls := 7, slots := #[.int (-35)], vm := .none },
  { cls := 7, slots := #[.int (-34)], vm := .none },
  { cls := 7, slots := #[.int (-33)], vm := .none },
  { cls := 7, slots := #[.int (-32)], vm := .none },
  { cls := 7, slots := #[.int (-31)], vm := .none },
  { cls := 7, slots := #[.int (-30)], vm := .none },
  { cls := 7, slots := #[.int (-29)], vm := .none },
  { cls := 7, slots := #[.int (-28)], vm := .none },
  { cls := 7, slots := #[.int (-27)], vm := .none },
  { cls := 7, slots := #[.int (-26)], vm := .none },
  { cls := 7, slots := #[.int (-25)], vm := .none },
  { cls := 7, slots := #[.int (-24)], vm := .none },
  { cls := 7, slots := #[.int (-23)], vm := .none },
  { cls := 7, slots := #[.int (-22)], vm := .none },
  { cls := 7, slots := #[.int (-21)], vm := .none },
  { cls := 7, slots := #[.int (-20)], vm := .none },
  { cls := 7, slots := #[.int (-19)], vm := .none },
  { cls := 7, slots := #[.int (-18)], vm := .none },
  { cls := 7, slots := #[.int (-17)], vm := .none },
  { cls := 7, slots := #[.int (-16)], vm := .none },
  { cls := 7, slots := #[.int (-15)], vm := .none },
  { cls := 7, slots := #[.int (-14)], vm := .none },
  { cls := 7, slots := #[.int (-13)], vm := .none },
  { cls := 7, slots := #[.int (-12)], vm := .none },
  { cls := 7, slots := #[.int (-11)], vm := .none },
  { cls := 7, slots := #[.int (-10)], vm := .none },
  { cls := 7, slots := #[.int (-9)], vm := .none },
  { cls := 7, slots := #[.int (-8)], vm := .none },
  { cls := 7, slots := #[.int (-7)], vm := .none },
  { cls := 7, slots := #[.int (-6)], vm := .none },
  { cls := 7, slots := #[.int (-5)], vm := .none },
  { cls := 7, slots := #[.int (-4)], vm := .none },
  { cls := 7, slots := #[.int (-3)], vm := .none },
  { cls := 7, slots := #[.int (-2)], vm := .none },
  { cls := 7, slots := #[.int (-1)], vm := .none },
  { cls := 7, slots := #[.int 0], vm := .none },
  { cls := 7, slots := #[.int 1], vm := .none },
  { cls := 7, slots := #[.int 2], vm := .none },
  { cls := 7, slots := #[.int 3], vm := .none },
  { cls := 7, slots := #[.int 4], vm := .none },
  { cls := 7, slots := #[.int 5], vm := .none },
  { cls := 7, slots := #[.int 6], vm := .none },
  { cls := 7, slots := #[.int 7], vm := .none },
  { cls := 7, slots := #[.int 8], vm := .none },
  { cls := 7, slots := #[.int 9], vm := .none },
  { cls := 7, slots := #[.int 10], vm := .none },
  { cls := 7, slots := #[.int 11], vm := .none },
  { cls := 7, slots := #[.int 12], vm := .none },
  { cls := 7, slots := #[.int 13], vm := .none },
  { cls := 7, slots := #[.int 14], vm := .none },
  { cls := 7, slots := #[.int 15], vm := .none },
  { cls := 7, slots := #[.int 16], vm := .none },
  { cls := 7, slots := #[.int 17], vm := .none },
  { cls := 7, slots := #[.int 18], vm := .none },
  { cls := 7, slots := #[.int 19], vm := .none },
  { cls := 7, slots := #[.int 20], vm := .none },
  { cls := 7, slots := #[.int 21], vm := .none },
  { cls := 7, slots := #[.int 22], vm := .none },
  { cls := 7, slots := #[.int 23], vm := .none },
  { cls := 7, slots := #[.int 24], vm := .none },
  { cls := 7, slots := #[.int 25], vm := .none },
  { cls := 7, slots := #[.int 26], vm := .none },
  { cls := 7, slots := #[.int 27], vm := .none },
  { cls := 7, slots := #[.int 28], vm := .none },
  { cls := 7, slots := #[.int 29], vm := .none },
  { cls := 7, slots := #[.int 30], vm := .none },
  { cls := 7, slots := #[.int 31], vm := .none },
  { cls := 7, slots := #[.int 32], vm := .none },
  { cls := 7, slots := #[.int 33], vm := .none },
  { cls := 7, slots := #[.int 34], vm := .none },
  { cls := 7, slots := #[.int 35], vm := .none },
  { cls := 7, slots := #[.int 36], vm := .none },
  { cls := 7, slots := #[.int 37], vm := .none },
  { cls := 7, slots := #[.int 38], vm := .none },
  { cls := 7, slots := #[.int 39], vm := .none },
  { cls := 7, slots := #[.int 40], vm := .none },
  { cls := 7, slots := #[.int 41], vm := .none },
  { cls := 7, slots := #[.int 42], vm := .none },
  { cls := 7, slots := #[.int 43], vm := .none },
  { cls := 7, slots := #[.int 44], vm := .none },
  { cls := 7, slots := #[.int 45], vm := .none },
  { cls := 7, slots := #[.int 46], vm := .none },
  { cls := 7, slots := #[.int 47], vm := .none },
  { cls := 7, slots := #[.int 48], vm := .none },
  { cls := 7, slots := #[.int 49], vm := .none },
  { cls := 7, slots := #[.int 50], vm := .none },
  { cls := 7, slots := #[.int 51], vm := .none },
  { cls := 7, slots := #[.int 52], vm := .none },
  { cls := 7, slots := #[.int 53], vm := .none },
  { cls := 7, slots := #[.int 54], vm := .none },
  { cls := 7, slots := #[.int 55], vm := .none },
  { cls := 7, slots := #[.int 56], vm := .none },
  { cls := 7, slots := #[.int 57], vm := .none },
  { cls := 7, slots := #[.int 58], vm := .none },
  { cls := 7, slots := #[.int 59], vm := .none },
  { cls := 7, slots := #[.int 60], vm := .none },
  { cls := 7, slots := #[.int 61], vm := .none },
  { cls := 7, slots := #[.int 62], vm := .none },
  { cls := 7, slots := #[.int 63], vm := .none },
  { cls := 7, slots := #[.int 64], vm := .none },
  { cls := 7, slots := #[.int 65], vm := .none },
  { cls := 7, slots := #[.int 66], vm := .none },
  { cls := 7, slots := #[.int 67], vm := .none },
  { cls := 7, slots := #[.int 68], vm := .none },
  { cls := 7, slots := #[.int 69], vm := .none },
  { cls := 7, slots := #[.int 70], vm := .none },
  { cls := 7, slots := #[.int 71], vm := .none },
  { cls := 7, slots := #[.int 72], vm := .none },
  { cls := 7, slots := #[.int 73], vm := .none },
  { cls := 7, slots := #[.int 74], vm := .none },
  { cls := 7, slots := #[.int 75], vm := .none },
  { cls := 7, slots := #[.int 76], vm := .none },
  { cls := 7, slots := #[.int 77], vm := .none },
  { cls := 7, slots := #[.int 78], vm := .none },
  { cls := 7, slots := #[.int 79], vm := .none },
  { cls := 7, slots := #[.int 80], vm := .none },
  { cls := 7, slots := #[.int 81], vm := .none },
  { cls := 7, slots := #[.int 82], vm := .none },
  { cls := 7, slots := #[.int 83], vm := .none },
  { cls := 7, slots := #[.int 84], vm := .none },
  { cls := 7, slots := #[.int 85], vm := .none },
  { cls := 7, slots := #[.int 86], vm := .none },
  { cls := 7, slots := #[.int 87], vm := .none },
  { cls := 7, slots := #[.int 88], vm := .none },
  { cls := 7, slots := #[.int 89], vm := .none },
  { cls := 7, slots := #[.int 90], vm := .none },
  { cls := 7, slots := #[.int 91], vm := .none },
  { cls := 7, slots := #[.int 92], vm := .none },
  { cls := 7, slots := #[.int 93], vm := .none },
  { cls := 7, slots := #[.int 94], vm := .none },
  { cls := 7, slots := #[.int 95], vm := .none },
  { cls := 7, slots := #[.int 96], vm := .none },
  { cls := 7, slots := #[.int 97], vm := .none },
  { cls := 7, slots := #[.int 98], vm := .none },
  { cls := 7, slots := #[.int 99], vm := .none },
  { cls := 7, slots := #[.int 100], vm := .none },
  { cls := 7, slots := #[.int 101], vm := .none },
  { cls := 7, slots := #[.int 102], vm := .none },
  { cls := 7, slots := #[.int 103], vm := .none },
  { cls := 7, slots := #[.int 104], vm := .none },
  { cls := 7, slots := #[.int 105], vm := .none },
  { cls := 7, slots := #[.int 106], vm := .none },
  { cls := 7, slots := #[.int 107], vm := .none },
  { cls := 7, slots := #[.int 108], vm := .none },
  { cls := 7, slots := #[.int 109], vm := .none },
  { cls := 7, slots := #[.int 110], vm := .none },
  { cls := 7, slots := #[.int 111], vm := .none },
  { cls := 7, slots := #[.int 112], vm := .none },
  { cls := 7, slots := #[.int 113], vm := .none },
  { cls := 7, slots := #[.int 114], vm := .none },
  { cls := 7, slots := #[.int 115], vm := .none },
  { cls := 7, slots := #[.int 116], vm := .none },
  { cls := 7, slots := #[.int 117], vm := .none },
  { cls := 7, slots := #[.int 118], vm := .none },
  { cls := 7, slots := #[.int 119], vm := .none },
  { cls := 7, slots := #[.int 120], vm := .none },
  { cls := 7, slots := #[.int 121], vm := .none },
  { cls := 7, slots := #[.int 122], vm := .none },
  { cls := 7, slots := #[.int 123], vm := .none },
  { cls := 7, slots := #[.int 124], vm := .none },
  { cls := 7, slots := #[.int 125], vm := .none },
  { cls := 7, slots := #[.int 126], vm := .none },
  { cls := 7, slots := #[.int 127], vm := .none },
  { cls := 21, slots := #[.int (-999999999), .int 1, .int 1], vm := .none }]
def classes : Array Class := #[k0, k1, k2, k3, k4, k5, k6, k7, k8, k9, k10, k11, k12, k13, k14, k15, k16, k17, k18, k19, k20, k21, k22, k23, k24, k25, k26, k27, k28, k29, k30, k31, k32, k33, k34, k35]
def interned : List (Array UInt16 × Addr) := []
def slotsUsed : Nat := 526
def theMethod : MethodId := ⟨1, 1⟩
def args0 : Array Value := #[.int 5, .int 1000, .int 2]
def aboutOver (below : List Frame) : State where
  vm := { classes := classes, interned := interned.toArray }
  heap := heap
  slotsUsed := slotsUsed
  threads := #[{ frames := .invoking theMethod args0 :: below }]
def below0 : List Frame := [.native { method := ⟨0, 0⟩, args := #[] }]
def about1 : State := aboutOver below0
def p0 : Program := .bare "" "" ""
def e0 : Env := launch0.env 0 0 0
theorem w_frames : about1.frames = Frame.invoking theMethod args0 :: below0 := rfl
set_option maxRecDepth 65536 in
theorem w_args : argsFit about1.vm theMethod args0 = true := by decide +kernel
set_option maxRecDepth 65536 in
theorem w_heap : heapFits about1 = true := by decide +kernel
set_option maxRecDepth 65536 in
theorem w_runnable : about1.curStatus? = some .runnable := by decide +kernel
set_option maxRecDepth 65536 in
theorem w_alone : about1.alone = true := by decide +kernel
set_option maxRecDepth 65536 in
theorem w_named : about1.methodNamed? x = some theMethod := by decide +kernel
set_option maxRecDepth 65536 in
theorem w_hears : about1.hears theMethod below0 = true := by decide +kernel
set_option maxRecDepth 65536 in
theorem w_ripe : about1.ripe theMethod args0 below0 = true := by decide +kernel
theorem w_running : about1.status = .running := rfl
set_option maxRecDepth 65536 in
theorem w_room : about1.hasRoom e0.platform room_1 = true :=
  launch0.hasRoom_least _ room_1 (by decide +kernel) (by decide +kernel) (by decide +kernel) (by decide +kernel) (by decide +kernel) (by decide +kernel)
theorem allAtoms_all (ts : List Jvm.Cond) (a : Array Jvm.Value) (st : Jvm.State) : (allAtoms ts).before a st = ts.all (fun c => c.before a st) := by
  induction ts with
  | nil => rfl
  | cons c t ih =>
    show (Jvm.Cond.and c (allAtoms t)).before a st = _
    rw [Jvm.Cond.before_and, ih, List.all_cons]
def words1 : List Jvm.Cond := Jvm.Cond.code x code maxLocals ret :: tables_1
/-- a 'code' word, met by the world's own term for the bytes: nothing is compared byte by byte -/
theorem code_word {y : MethodName} {bytes : ByteArray} {mx : Nat} {rt : Option FieldType} {a : Array Value} {s : State} {m : MethodId} {meth : Method} {c : Code} (h1 : s.methodNamed? y = some m) (h2 : s.vm.method? m = some meth) (h3 : meth.code = some c) (h4 : c.code = bytes)
    (h5 : (c.maxLocals == mx && c.exceptionTable.isEmpty && decide (c.maxStack ≤ mostOperands) && decide (meth.sig.returnType = rt) && !meth.locks && decide (parseMethodDescriptor y.desc = some meth.sig)) = true) : (Jvm.Cond.code y bytes mx rt).before a s = true := by
  simp only [Bool.and_eq_true, beq_iff_eq, Bool.not_eq_true', decide_eq_true_eq] at h5
  obtain ⟨⟨⟨⟨⟨g1, g2⟩, g3⟩, g4⟩, g5⟩, g6⟩ := h5
  simp [Cond.before, Cond.holds, Cond.value, h1, h2, h3, h4, g1, g2, g3, g4, g5, g6]
def isCode : Jvm.Cond → Bool
  | .code _ _ _ _ => true
  | _ => false
theorem all_split {L : List Jvm.Cond} {P : Jvm.Cond → Bool} (h1 : L.all (fun c => isCode c || P c) = true) (h2 : ∀ c ∈ L.filter isCode, P c = true) : L.all P = true := by
  refine List.all_eq_true.mpr fun c hc => ?_
  have h := List.all_eq_true.mp h1 c hc
  rcases Bool.eq_false_or_eq_true (isCode c) with hi | hi
  · exact h2 c (List.mem_filter.mpr ⟨hc, hi⟩)
  · simpa [hi] using h
set_option maxRecDepth 65536 in
theorem w_c0 : (Jvm.Cond.code x code maxLocals ret).before args0 about1 = true := code_word (m := ⟨1, 1⟩) (meth := k1m1) (c := k1c1) (by decide +kernel) rfl rfl rfl (by decide +kernel)
set_option maxRecDepth 65536 in
theorem w_c1 : (Jvm.Cond.code ({ cls := "java/lang/Integer", name := "valueOf", desc := "(I)Ljava/lang/Integer;" } : Jvm.MethodName) jdk_33_method_22_code (1 : Nat) (Option.some (Jvm.ClassFile.FieldType.object "java/lang/Integer"))).before args0 about1 = true := code_word (m := ⟨7, 0⟩) (meth := k7m0) (c := k7c0) (by decide +kernel) rfl rfl rfl (by decide +kernel)
set_option maxRecDepth 65536 in
theorem w_c2 : (Jvm.Cond.code ({ cls := "com/example/syndicate_ledger/syndicateledger/engine/Timeline", name := "of", desc := "(Ljava/lang/Object;)Lcom/example/syndicate_ledger/syndicateledger/engine/Timeline;" } : Jvm.MethodName) prog_22_method_2_code (2 : Nat) (Option.some (Jvm.ClassFile.FieldType.object "com/example/syndicate_ledger/syndicateledger/engine/Timeline"))).before args0 about1 = true := code_word (m := ⟨9, 1⟩) (meth := k9m1) (c := k9c1) (by decide +kernel) rfl rfl rfl (by decide +kernel)
set_option maxRecDepth 65536 in
theorem w_c3 : (Jvm.Cond.code ({ cls := "java/util/TreeMap", name := "<init>", desc := "()V" } : Jvm.MethodName) jdk_2729_method_1_code (1 : Nat) (Option.none : Option Jvm.ClassFile.FieldType)).before args0 about1 = true := code_word (m := ⟨16, 0⟩) (meth := k16m0) (c := k16c0) (by decide +kernel) rfl rfl rfl (by decide +kernel)
set_option maxRecDepth 65536 in
theorem w_c4 : (Jvm.Cond.code ({ cls := "java/util/AbstractMap", name := "<init>", desc := "()V" } : Jvm.MethodName) jdk_71_method_1_code (1 : Nat) (Option.none : Option Jvm.ClassFile.FieldType)).before args0 about1 = true := code_word (m := ⟨11, 0⟩) (meth := k11m0) (c := k11c0) (by decide +kernel) rfl rfl rfl (by decide +kernel)
set_option maxRecDepth 65536 in
theorem w_c5 : (Jvm.Cond.code ({ cls := "java/lang/Object", name := "<init>", desc := "()V" } : Jvm.MethodName) object_method_1_code (1 : Nat) (Option.none : Option Jvm.ClassFile.FieldType)).before args0 about1 = true := code_word (m := ⟨0, 0⟩) (meth := k0m0) (c := k0c0) (by decide +kernel) rfl rfl rfl (by decide +kernel)
set_option maxRecDepth 65536 in
theorem w_c6 : (Jvm.Cond.code ({ cls := "java/util/TreeMap", name := "put", desc := "(Ljava/lang/Object;Ljava/lang/Object;)Ljava/lang/Object;" } : Jvm.MethodName) jdk_2729_method_21_code (3 : Nat) (Option.some (Jvm.ClassFile.FieldType.object "java/lang/Object"))).before args0 about1 = true := code_word (m := ⟨16, 1⟩) (meth := k16m1) (c := k16c1) (by decide +kernel) rfl rfl rfl (by decide +kernel)
set_option maxRecDepth 65536 in
theorem w_c7 : (Jvm.Cond.code ({ cls := "java/util/TreeMap", name := "put", desc := "(Ljava/lang/Object;Ljava/lang/Object;Z)Ljava/lang/Object;" } : Jvm.MethodName) jdk_2729_method_31_code (10 : Nat) (Option.some (Jvm.ClassFile.FieldType.object "java/lang/Object"))).before args0 about1 = true := code_word (m := ⟨16, 3⟩) (meth := k16m3) (c := k16c3) (by decide +kernel) rfl rfl rfl (by decide +kernel)
set_option maxRecDepth 65536 in
theorem w_c8 : (Jvm.Cond.code ({ cls := "java/util/TreeMap", name := "addEntryToEmptyMap", desc := "(Ljava/lang/Object;Ljava/lang/Object;)V" } : Jvm.MethodName) jdk_2729_method_30_code (3 : Nat) (Option.none : Option Jvm.ClassFile.FieldType)).before args0 about1 = true := code_word (m := ⟨16, 2⟩) (meth := k16m2) (c := k16c2) (by decide +kernel) rfl rfl rfl (by decide +kernel)
set_option maxRecDepth 65536 in
theorem w_c9 : (Jvm.Cond.code ({ cls := "java/util/TreeMap", name := "compare", desc := "(Ljava/lang/Object;Ljava/lang/Object;)I" } : Jvm.MethodName) jdk_2729_method_67_code (3 : Nat) (Option.some Jvm.ClassFile.FieldType.int)).before args0 about1 = true := code_word (m := ⟨16, 5⟩) (meth := k16m5) (c := k16c5) (by decide +kernel) rfl rfl rfl (by decide +kernel)
set_option maxRecDepth 65536 in
theorem w_c10 : (Jvm.Cond.code ({ cls := "java/time/LocalDate", name := "compareTo", desc := "(Ljava/lang/Object;)I" } : Jvm.MethodName) jdk_2323_method_97_code (2 : Nat) (Option.some Jvm.ClassFile.FieldType.int)).before args0 about1 = true := code_word (m := ⟨21, 2⟩) (meth := k21m2) (c := k21c2) (by decide +kernel) rfl rfl rfl (by decide +kernel)
set_option maxRecDepth 65536 in
theorem w_c11 : (Jvm.Cond.code ({ cls := "java/time/LocalDate", name := "compareTo", desc := "(Ljava/time/chrono/ChronoLocalDate;)I" } : Jvm.MethodName) jdk_2323_method_69_code (2 : Nat) (Option.some Jvm.ClassFile.FieldType.int)).before args0 about1 = true := code_word (m := ⟨21, 0⟩) (meth := k21m0) (c := k21c0) (by decide +kernel) rfl rfl rfl (by decide +kernel)
set_option maxRecDepth 65536 in
theorem w_c12 : (Jvm.Cond.code ({ cls := "java/time/LocalDate", name := "compareTo0", desc := "(Ljava/time/LocalDate;)I" } : Jvm.MethodName) jdk_2323_method_70_code (3 : Nat) (Option.some Jvm.ClassFile.FieldType.int)).before args0 about1 = true := code_word (m := ⟨21, 1⟩) (meth := k21m1) (c := k21c1) (by decide +kernel) rfl rfl rfl (by decide +kernel)
set_option maxRecDepth 65536 in
theorem w_c13 : (Jvm.Cond.code ({ cls := "java/util/TreeMap$Entry", name := "<init>", desc := "(Ljava/lang/Object;Ljava/lang/Object;Ljava/util/TreeMap$Entry;)V" } : Jvm.MethodName) jdk_2736_method_1_code (4 : Nat) (Option.none : Option Jvm.ClassFile.FieldType)).before args0 about1 = true := code_word (m := ⟨23, 0⟩) (meth := k23m0) (c := k23c0) (by decide +kernel) rfl rfl rfl (by decide +kernel)
set_option maxRecDepth 65536 in
theorem w_c14 : (Jvm.Cond.code ({ cls := "com/example/syndicate_ledger/syndicateledger/engine/Timeline", name := "<init>", desc := "(Ljava/util/NavigableMap;)V" } : Jvm.MethodName) prog_22_method_1_code (2 : Nat) (Option.none : Option Jvm.ClassFile.FieldType)).before args0 about1 = true := code_word (m := ⟨9, 0⟩) (meth := k9m0) (c := k9c0) (by decide +kernel) rfl rfl rfl (by decide +kernel)
set_option maxRecDepth 65536 in
theorem w_c15 : (Jvm.Cond.code ({ cls := "java/util/Collections", name := "unmodifiableNavigableMap", desc := "(Ljava/util/NavigableMap;)Ljava/util/NavigableMap;" } : Jvm.MethodName) jdk_79_method_39_code (1 : Nat) (Option.some (Jvm.ClassFile.FieldType.object "java/util/NavigableMap"))).before args0 about1 = true := code_word (m := ⟨24, 1⟩) (meth := k24m1) (c := k24c1) (by decide +kernel) rfl rfl rfl (by decide +kernel)
set_option maxRecDepth 65536 in
theorem w_c16 : (Jvm.Cond.code ({ cls := "java/util/Collections$UnmodifiableNavigableMap", name := "<init>", desc := "(Ljava/util/NavigableMap;)V" } : Jvm.MethodName) jdk_2505_method_1_code (2 : Nat) (Option.none : Option Jvm.ClassFile.FieldType)).before args0 about1 = true := code_word (m := ⟨27, 0⟩) (meth := k27m0) (c := k27c0) (by decide +kernel) rfl rfl rfl (by decide +kernel)
set_option maxRecDepth 65536 in
theorem w_c17 : (Jvm.Cond.code ({ cls := "java/util/Collections$UnmodifiableSortedMap", name := "<init>", desc := "(Ljava/util/SortedMap;)V" } : Jvm.MethodName) jdk_2512_method_1_code (2 : Nat) (Option.none : Option Jvm.ClassFile.FieldType)).before args0 about1 = true := code_word (m := ⟨26, 0⟩) (meth := k26m0) (c := k26c0) (by decide +kernel) rfl rfl rfl (by decide +kernel)
set_option maxRecDepth 65536 in
theorem w_c18 : (Jvm.Cond.code ({ cls := "java/util/Collections$UnmodifiableMap", name := "<init>", desc := "(Ljava/util/Map;)V" } : Jvm.MethodName) jdk_2500_method_1_code (2 : Nat) (Option.none : Option Jvm.ClassFile.FieldType)).before args0 about1 = true := code_word (m := ⟨25, 0⟩) (meth := k25m0) (c := k25c0) (by decide +kernel) rfl rfl rfl (by decide +kernel)
set_option maxRecDepth 65536 in
theorem w_c19 : (Jvm.Cond.code ({ cls := "com/example/syndicate_ledger/syndicateledger/engine/Timeline", name := "latest", desc := "()Ljava/lang/Object;" } : Jvm.MethodName) prog_22_method_5_code (1 : Nat) (Option.some (Jvm.ClassFile.FieldType.object "java/lang/Object"))).before args0 about1 = true := code_word (m := ⟨9, 2⟩) (meth := k9m2) (c := k9c2) (by decide +kernel) rfl rfl rfl (by decide +kernel)
set_option maxRecDepth 65536 in
theorem w_c20 : (Jvm.Cond.code ({ cls := "java/util/Collections$UnmodifiableNavigableMap", name := "lastEntry", desc := "()Ljava/util/Map$Entry;" } : Jvm.MethodName) jdk_2505_method_11_code (2 : Nat) (Option.some (Jvm.ClassFile.FieldType.object "java/util/Map$Entry"))).before args0 about1 = true := code_word (m := ⟨27, 1⟩) (meth := k27m1) (c := k27c1) (by decide +kernel) rfl rfl rfl (by decide +kernel)
set_option maxRecDepth 65536 in
theorem w_c21 : (Jvm.Cond.code ({ cls := "java/util/TreeMap", name := "lastEntry", desc := "()Ljava/util/Map$Entry;" } : Jvm.MethodName) jdk_2729_method_38_code (1 : Nat) (Option.some (Jvm.ClassFile.FieldType.object "java/util/Map$Entry"))).before args0 about1 = true := code_word (m := ⟨16, 4⟩) (meth := k16m4) (c := k16c4) (by decide +kernel) rfl rfl rfl (by decide +kernel)
set_option maxRecDepth 65536 in
theorem w_c22 : (Jvm.Cond.code ({ cls := "java/util/TreeMap", name := "getLastEntry", desc := "()Ljava/util/TreeMap$Entry;" } : Jvm.MethodName) jdk_2729_method_73_code (2 : Nat) (Option.some (Jvm.ClassFile.FieldType.object "java/util/TreeMap$Entry"))).before args0 about1 = true := code_word (m := ⟨16, 7⟩) (meth := k16m7) (c := k16c7) (by decide +kernel) rfl rfl rfl (by decide +kernel)
set_option maxRecDepth 65536 in
theorem w_c23 : (Jvm.Cond.code ({ cls := "java/util/TreeMap", name := "exportEntry", desc := "(Ljava/util/TreeMap$Entry;)Ljava/util/Map$Entry;" } : Jvm.MethodName) jdk_2729_method_69_code (1 : Nat) (Option.some (Jvm.ClassFile.FieldType.object "java/util/Map$Entry"))).before args0 about1 = true := code_word (m := ⟨16, 6⟩) (meth := k16m6) (c := k16c6) (by decide +kernel) rfl rfl rfl (by decide +kernel)
set_option maxRecDepth 65536 in
theorem w_c24 : (Jvm.Cond.code ({ cls := "java/util/AbstractMap$SimpleImmutableEntry", name := "<init>", desc := "(Ljava/util/Map$Entry;)V" } : Jvm.MethodName) jdk_140_method_2_code (2 : Nat) (Option.none : Option Jvm.ClassFile.FieldType)).before args0 about1 = true := code_word (m := ⟨28, 0⟩) (meth := k28m0) (c := k28c0) (by decide +kernel) rfl rfl rfl (by decide +kernel)
set_option maxRecDepth 65536 in
theorem w_c25 : (Jvm.Cond.code ({ cls := "java/util/TreeMap$Entry", name := "getKey", desc := "()Ljava/lang/Object;" } : Jvm.MethodName) jdk_2736_method_2_code (1 : Nat) (Option.some (Jvm.ClassFile.FieldType.object "java/lang/Object"))).before args0 about1 = true := code_word (m := ⟨23, 1⟩) (meth := k23m1) (c := k23c1) (by decide +kernel) rfl rfl rfl (by decide +kernel)
set_option maxRecDepth 65536 in
theorem w_c26 : (Jvm.Cond.code ({ cls := "java/util/TreeMap$Entry", name := "getValue", desc := "()Ljava/lang/Object;" } : Jvm.MethodName) jdk_2736_method_3_code (1 : Nat) (Option.some (Jvm.ClassFile.FieldType.object "java/lang/Object"))).before args0 about1 = true := code_word (m := ⟨23, 2⟩) (meth := k23m2) (c := k23c2) (by decide +kernel) rfl rfl rfl (by decide +kernel)
set_option maxRecDepth 65536 in
theorem w_c27 : (Jvm.Cond.code ({ cls := "java/util/Collections$UnmodifiableMap$UnmodifiableEntrySet$UnmodifiableEntry", name := "<init>", desc := "(Ljava/util/Map$Entry;)V" } : Jvm.MethodName) jdk_2503_method_1_code (2 : Nat) (Option.none : Option Jvm.ClassFile.FieldType)).before args0 about1 = true := code_word (m := ⟨29, 0⟩) (meth := k29m0) (c := k29c0) (by decide +kernel) rfl rfl rfl (by decide +kernel)
set_option maxRecDepth 65536 in
theorem w_c28 : (Jvm.Cond.code ({ cls := "java/util/Objects", name := "requireNonNull", desc := "(Ljava/lang/Object;)Ljava/lang/Object;" } : Jvm.MethodName) jdk_31_method_10_code (1 : Nat) (Option.some (Jvm.ClassFile.FieldType.object "java/lang/Object"))).before args0 about1 = true := code_word (m := ⟨30, 1⟩) (meth := k30m1) (c := k30c1) (by decide +kernel) rfl rfl rfl (by decide +kernel)
set_option maxRecDepth 65536 in
theorem w_c29 : (Jvm.Cond.code ({ cls := "java/util/Collections$UnmodifiableMap$UnmodifiableEntrySet$UnmodifiableEntry", name := "getValue", desc := "()Ljava/lang/Object;" } : Jvm.MethodName) jdk_2503_method_3_code (1 : Nat) (Option.some (Jvm.ClassFile.FieldType.object "java/lang/Object"))).before args0 about1 = true := code_word (m := ⟨29, 1⟩) (meth := k29m1) (c := k29c1) (by decide +kernel) rfl rfl rfl (by decide +kernel)
set_option maxRecDepth 65536 in
theorem w_c30 : (Jvm.Cond.code ({ cls := "java/util/AbstractMap$SimpleImmutableEntry", name := "getValue", desc := "()Ljava/lang/Object;" } : Jvm.MethodName) jdk_140_method_4_code (1 : Nat) (Option.some (Jvm.ClassFile.FieldType.object "java/lang/Object"))).before args0 about1 = true := code_word (m := ⟨28, 1⟩) (meth := k28m1) (c := k28c1) (by decide +kernel) rfl rfl rfl (by decide +kernel)
set_option maxRecDepth 65536 in
theorem w_c31 : (Jvm.Cond.code ({ cls := "java/lang/Integer", name := "intValue", desc := "()I" } : Jvm.MethodName) jdk_33_method_27_code (1 : Nat) (Option.some Jvm.ClassFile.FieldType.int)).before args0 about1 = true := code_word (m := ⟨7, 2⟩) (meth := k7m2) (c := k7c2) (by decide +kernel) rfl rfl rfl (by decide +kernel)
set_option maxRecDepth 65536 in
theorem w_c32 : (Jvm.Cond.code ({ cls := "java/lang/Integer", name := "<init>", desc := "(I)V" } : Jvm.MethodName) jdk_33_method_23_code (2 : Nat) (Option.none : Option Jvm.ClassFile.FieldType)).before args0 about1 = true := code_word (m := ⟨7, 1⟩) (meth := k7m1) (c := k7c1) (by decide +kernel) rfl rfl rfl (by decide +kernel)
set_option maxRecDepth 65536 in
theorem w_c33 : (Jvm.Cond.code ({ cls := "java/lang/Number", name := "<init>", desc := "()V" } : Jvm.MethodName) jdk_18_method_1_code (1 : Nat) (Option.none : Option Jvm.ClassFile.FieldType)).before args0 about1 = true := code_word (m := ⟨3, 0⟩) (meth := k3m0) (c := k3c0) (by decide +kernel) rfl rfl rfl (by decide +kernel)
def codes1 : List Jvm.Cond := [Jvm.Cond.code x code maxLocals ret, Jvm.Cond.code ({ cls := "java/lang/Integer", name := "valueOf", desc := "(I)Ljava/lang/Integer;" } : Jvm.MethodName) jdk_33_method_22_code (1 : Nat) (Option.some (Jvm.ClassFile.FieldType.object "java/lang/Integer")), Jvm.Cond.code ({ cls := "com/example/syndicate_ledger/syndicateledger/engine/Timeline", name := "of", desc := "(Ljava/lang/Object;)Lcom/example/syndicate_ledger/syndicateledger/engine/Timeline;" } : Jvm.MethodName) prog_22_method_2_code (2 : Nat) (Option.some (Jvm.ClassFile.FieldType.object "com/example/syndicate_ledger/syndicateledger/engine/Timeline")), Jvm.Cond.code ({ cls := "java/util/TreeMap", name := "<init>", desc := "()V" } : Jvm.MethodName) jdk_2729_method_1_code (1 : Nat) (Option.none : Option Jvm.ClassFile.FieldType), Jvm.Cond.code ({ cls := "java/util/AbstractMap", name := "<init>", desc := "()V" } : Jvm.MethodName) jdk_71_method_1_code (1 : Nat) (Option.none : Option Jvm.ClassFile.FieldType), Jvm.Cond.code ({ cls := "java/lang/Object", name := "<init>", desc := "()V" } : Jvm.MethodName) object_method_1_code (1 : Nat) (Option.none : Option Jvm.ClassFile.FieldType), Jvm.Cond.code ({ cls := "java/util/TreeMap", name := "put", desc := "(Ljava/lang/Object;Ljava/lang/Object;)Ljava/lang/Object;" } : Jvm.MethodName) jdk_2729_method_21_code (3 : Nat) (Option.some (Jvm.ClassFile.FieldType.object "java/lang/Object")), Jvm.Cond.code ({ cls := "java/util/TreeMap", name := "put", desc := "(Ljava/lang/Object;Ljava/lang/Object;Z)Ljava/lang/Object;" } : Jvm.MethodName) jdk_2729_method_31_code (10 : Nat) (Option.some (Jvm.ClassFile.FieldType.object "java/lang/Object")), Jvm.Cond.code ({ cls := "java/util/TreeMap", name := "addEntryToEmptyMap", desc := "(Ljava/lang/Object;Ljava/lang/Object;)V" } : Jvm.MethodName) jdk_2729_method_30_code (3 : Nat) (Option.none : Option Jvm.ClassFile.FieldType), Jvm.Cond.code ({ cls := "java/util/TreeMap", name := "compare", desc := "(Ljava/lang/Object;Ljava/lang/Object;)I" } : Jvm.MethodName) jdk_2729_method_67_code (3 : Nat) (Option.some Jvm.ClassFile.FieldType.int), Jvm.Cond.code ({ cls := "java/time/LocalDate", name := "compareTo", desc := "(Ljava/lang/Object;)I" } : Jvm.MethodName) jdk_2323_method_97_code (2 : Nat) (Option.some Jvm.ClassFile.FieldType.int), Jvm.Cond.code ({ cls := "java/time/LocalDate", name := "compareTo", desc := "(Ljava/time/chrono/ChronoLocalDate;)I" } : Jvm.MethodName) jdk_2323_method_69_code (2 : Nat) (Option.some Jvm.ClassFile.FieldType.int), Jvm.Cond.code ({ cls := "java/time/LocalDate", name := "compareTo0", desc := "(Ljava/time/LocalDate;)I" } : Jvm.MethodName) jdk_2323_method_70_code (3 : Nat) (Option.some Jvm.ClassFile.FieldType.int), Jvm.Cond.code ({ cls := "java/util/TreeMap$Entry", name := "<init>", desc := "(Ljava/lang/Object;Ljava/lang/Object;Ljava/util/TreeMap$Entry;)V" } : Jvm.MethodName) jdk_2736_method_1_code (4 : Nat) (Option.none : Option Jvm.ClassFile.FieldType), Jvm.Cond.code ({ cls := "com/example/syndicate_ledger/syndicateledger/engine/Timeline", name := "<init>", desc := "(Ljava/util/NavigableMap;)V" } : Jvm.MethodName) prog_22_method_1_code (2 : Nat) (Option.none : Option Jvm.ClassFile.FieldType), Jvm.Cond.code ({ cls := "java/util/Collections", name := "unmodifiableNavigableMap", desc := "(Ljava/util/NavigableMap;)Ljava/util/NavigableMap;" } : Jvm.MethodName) jdk_79_method_39_code (1 : Nat) (Option.some (Jvm.ClassFile.FieldType.object "java/util/NavigableMap")), Jvm.Cond.code ({ cls := "java/util/Collections$UnmodifiableNavigableMap", name := "<init>", desc := "(Ljava/util/NavigableMap;)V" } : Jvm.MethodName) jdk_2505_method_1_code (2 : Nat) (Option.none : Option Jvm.ClassFile.FieldType), Jvm.Cond.code ({ cls := "java/util/Collections$UnmodifiableSortedMap", name := "<init>", desc := "(Ljava/util/SortedMap;)V" } : Jvm.MethodName) jdk_2512_method_1_code (2 : Nat) (Option.none : Option Jvm.ClassFile.FieldType), Jvm.Cond.code ({ cls := "java/util/Collections$UnmodifiableMap", name := "<init>", desc := "(Ljava/util/Map;)V" } : Jvm.MethodName) jdk_2500_method_1_code (2 : Nat) (Option.none : Option Jvm.ClassFile.FieldType), Jvm.Cond.code ({ cls := "com/example/syndicate_ledger/syndicateledger/engine/Timeline", name := "latest", desc := "()Ljava/lang/Object;" } : Jvm.MethodName) prog_22_method_5_code (1 : Nat) (Option.some (Jvm.ClassFile.FieldType.object "java/lang/Object")), Jvm.Cond.code ({ cls := "java/util/Collections$UnmodifiableNavigableMap", name := "lastEntry", desc := "()Ljava/util/Map$Entry;" } : Jvm.MethodName) jdk_2505_method_11_code (2 : Nat) (Option.some (Jvm.ClassFile.FieldType.object "java/util/Map$Entry")), Jvm.Cond.code ({ cls := "java/util/TreeMap", name := "lastEntry", desc := "()Ljava/util/Map$Entry;" } : Jvm.MethodName) jdk_2729_method_38_code (1 : Nat) (Option.some (Jvm.ClassFile.FieldType.object "java/util/Map$Entry")), Jvm.Cond.code ({ cls := "java/util/TreeMap", name := "getLastEntry", desc := "()Ljava/util/TreeMap$Entry;" } : Jvm.MethodName) jdk_2729_method_73_code (2 : Nat) (Option.some (Jvm.ClassFile.FieldType.object "java/util/TreeMap$Entry")), Jvm.Cond.code ({ cls := "java/util/TreeMap", name := "exportEntry", desc := "(Ljava/util/TreeMap$Entry;)Ljava/util/Map$Entry;" } : Jvm.MethodName) jdk_2729_method_69_code (1 : Nat) (Option.some (Jvm.ClassFile.FieldType.object "java/util/Map$Entry")), Jvm.Cond.code ({ cls := "java/util/AbstractMap$SimpleImmutableEntry", name := "<init>", desc := "(Ljava/util/Map$Entry;)V" } : Jvm.MethodName) jdk_140_method_2_code (2 : Nat) (Option.none : Option Jvm.ClassFile.FieldType), Jvm.Cond.code ({ cls := "java/util/TreeMap$Entry", name := "getKey", desc := "()Ljava/lang/Object;" } : Jvm.MethodName) jdk_2736_method_2_code (1 : Nat) (Option.some (Jvm.ClassFile.FieldType.object "java/lang/Object")), Jvm.Cond.code ({ cls := "java/util/TreeMap$Entry", name := "getValue", desc := "()Ljava/lang/Object;" } : Jvm.MethodName) jdk_2736_method_3_code (1 : Nat) (Option.some (Jvm.ClassFile.FieldType.object "java/lang/Object")), Jvm.Cond.code ({ cls := "java/util/Collections$UnmodifiableMap$UnmodifiableEntrySet$UnmodifiableEntry", name := "<init>", desc := "(Ljava/util/Map$Entry;)V" } : Jvm.MethodName) jdk_2503_method_1_code (2 : Nat) (Option.none : Option Jvm.ClassFile.FieldType), Jvm.Cond.code ({ cls := "java/util/Objects", name := "requireNonNull", desc := "(Ljava/lang/Object;)Ljava/lang/Object;" } : Jvm.MethodName) jdk_31_method_10_code (1 : Nat) (Option.some (Jvm.ClassFile.FieldType.object "java/lang/Object")), Jvm.Cond.code ({ cls := "java/util/Collections$UnmodifiableMap$UnmodifiableEntrySet$UnmodifiableEntry", name := "getValue", desc := "()Ljava/lang/Object;" } : Jvm.MethodName) jdk_2503_method_3_code (1 : Nat) (Option.some (Jvm.ClassFile.FieldType.object "java/lang/Object")), Jvm.Cond.code ({ cls := "java/util/AbstractMap$SimpleImmutableEntry", name := "getValue", desc := "()Ljava/lang/Object;" } : Jvm.MethodName) jdk_140_method_4_code (1 : Nat) (Option.some (Jvm.ClassFile.FieldType.object "java/lang/Object")), Jvm.Cond.code ({ cls := "java/lang/Integer", name := "intValue", desc := "()I" } : Jvm.MethodName) jdk_33_method_27_code (1 : Nat) (Option.some Jvm.ClassFile.FieldType.int), Jvm.Cond.code ({ cls := "java/lang/Integer", name := "<init>", desc := "(I)V" } : Jvm.MethodName) jdk_33_method_23_code (2 : Nat) (Option.none : Option Jvm.ClassFile.FieldType), Jvm.Cond.code ({ cls := "java/lang/Number", name := "<init>", desc := "()V" } : Jvm.MethodName) jdk_18_method_1_code (1 : Nat) (Option.none : Option Jvm.ClassFile.FieldType)]
set_option maxRecDepth 65536 in
theorem codes_eq : words1.filter isCode = codes1 := rfl
theorem w_codes : ∀ c ∈ words1.filter isCode, c.before args0 about1 = true := by
  rw [codes_eq]
  intro c hc
  simp only [codes1, List.mem_cons, List.not_mem_nil, or_false] at hc
  rcases hc with rfl | rfl | rfl | rfl | rfl | rfl | rfl | rfl | rfl | rfl | rfl | rfl | rfl | rfl | rfl | rfl | rfl | rfl | rfl | rfl | rfl | rfl | rfl | rfl | rfl | rfl | rfl | rfl | rfl | rfl | rfl | rfl | rfl | rfl
  · exact w_c0
  · exact w_c1
  · exact w_c2
  · exact w_c3
  · exact w_c4
  · exact w_c5
  · exact w_c6
  · exact w_c7
  · exact w_c8
  · exact w_c9
  · exact w_c10
  · exact w_c11
  · exact w_c12
  · exact w_c13
  · exact w_c14
  · exact w_c15
  · exact w_c16
  · exact w_c17
  · exact w_c18
  · exact w_c19
  · exact w_c20
  · exact w_c21
  · exact w_c22
  · exact w_c23
  · exact w_c24
  · exact w_c25
  · exact w_c26
  · exact w_c27
  · exact w_c28
  · exact w_c29
  · exact w_c30
  · exact w_c31
  · exact w_c32
  · exact w_c33
set_option maxRecDepth 65536 in
theorem w_t1 : (words1.take 24).all (fun c => isCode c || c.before args0 about1) = true := by decide +kernel
set_option maxRecDepth 65536 in
theorem w_t2 : ((words1.drop 24).take 24).all (fun c => isCode c || c.before args0 about1) = true := by decide +kernel
set_option maxRecDepth 65536 in
theorem w_t3 : (((words1.drop 24).drop 24).take 24).all (fun c => isCode c || c.before args0 about1) = true := by decide +kernel
set_option maxRecDepth 65536 in
theorem w_t4 : ((((words1.drop 24).drop 24).drop 24).take 24).all (fun c => isCode c || c.before args0 about1) = true := by decide +kernel
set_option maxRecDepth 65536 in
theorem w_t5 : (((((words1.drop 24).drop 24).drop 24).drop 24).take 24).all (fun c => isCode c || c.before args0 about1) = true := by decide +kernel
set_option maxRecDepth 65536 in
theorem w_t6 : ((((((words1.drop 24).drop 24).drop 24).drop 24).drop 24).take 24).all (fun c => isCode c || c.before args0 about1) = true := by decide +kernel
set_option maxRecDepth 65536 in
theorem w_t7 : (((((((words1.drop 24).drop 24).drop 24).drop 24).drop 24).drop 24).take 24).all (fun c => isCode c || c.before args0 about1) = true := by decide +kernel
set_option maxRecDepth 65536 in
theorem w_t8 : ((((((((words1.drop 24).drop 24).drop 24).drop 24).drop 24).drop 24).drop 24).take 24).all (fun c => isCode c || c.before args0 about1) = true := by decide +kernel
set_option maxRecDepth 65536 in
theorem w_t9 : (((((((((words1.drop 24).drop 24).drop 24).drop 24).drop 24).drop 24).drop 24).drop 24).take 24).all (fun c => isCode c || c.before args0 about1) = true := by decide +kernel
set_option maxRecDepth 65536 in
theorem w_t10 : ((((((((((words1.drop 24).drop 24).drop 24).drop 24).drop 24).drop 24).drop 24).drop 24).drop 24).take 24).all (fun c => isCode c || c.before args0 about1) = true := by decide +kernel
set_option maxRecDepth 65536 in
theorem w_t11 : ((((((((((words1.drop 24).drop 24).drop 24).drop 24).drop 24).drop 24).drop 24).drop 24).drop 24).drop 24).all (fun c => isCode c || c.before args0 about1) = true := by decide +kernel
theorem w_tables : (allAtoms (Jvm.Cond.code x code maxLocals ret :: tables_1)).before args0 about1 = true := by
  rw [allAtoms_all]
  show words1.all (fun c => c.before args0 about1) = true
  refine all_split ?_ w_codes
  rw [← List.take_append_drop 24 words1, List.all_append, w_t1, ← List.take_append_drop 24 (words1.drop 24), List.all_append, w_t2, ← List.take_append_drop 24 ((words1.drop 24).drop 24), List.all_append, w_t3, ← List.take_append_drop 24 (((words1.drop 24).drop 24).drop 24), List.all_append, w_t4, ← List.take_append_drop 24 ((((words1.drop 24).drop 24).drop 24).drop 24), List.all_append, w_t5, ← List.take_append_drop 24 (((((words1.drop 24).drop 24).drop 24).drop 24).drop 24), List.all_append, w_t6, ← List.take_append_drop 24 ((((((words1.drop 24).drop 24).drop 24).drop 24).drop 24).drop 24), List.all_append, w_t7, ← List.take_append_drop 24 (((((((words1.drop 24).drop 24).drop 24).drop 24).drop 24).drop 24).drop 24), List.all_append, w_t8, ← List.take_append_drop 24 ((((((((words1.drop 24).drop 24).drop 24).drop 24).drop 24).drop 24).drop 24).drop 24), List.all_append, w_t9, ← List.take_append_drop 24 (((((((((words1.drop 24).drop 24).drop 24).drop 24).drop 24).drop 24).drop 24).drop 24).drop 24), List.all_append, w_t10, w_t11]
  rfl
set_option maxRecDepth 65536 in
theorem w_rest : rest_1_c.before args0 about1 = true := by decide +kernel
set_option maxRecDepth 65536 in
theorem w_case : (Jvm.Cond.and given_1 narrow_1).before args0 about1 = true := by decide +kernel
theorem w_applies : (headSpec (Jvm.Cond.code x code maxLocals ret :: tables_1) room_1).applies x e0.platform about1 = true :=
  (Spec.applies_iff w_frames).mpr ⟨w_running, w_runnable, w_alone, w_named, w_hears, w_ripe, w_room, w_tables⟩
set_option maxRecDepth 65536 in
theorem atStart : AtStart classFile x code maxLocals ret World_1 tables_1 room_1 Calls_1 rest_1 Pre_1 launch0 p0 e0 about1 theMethod args0 below0 :=
  ⟨lists_1, trivial, launch0.admits_env _ _ _, launch0.least_env, fairChoices_fair.cas, fairChoices_fair.clock, w_frames, w_args, w_heap, w_applies, ⟨⟨16, k16, 2, by decide +kernel, rfl, rfl, _, rfl, rfl⟩, ⟨⟨27, k27, 3, by decide +kernel, rfl, rfl, _, rfl, rfl⟩, trivial⟩⟩, w_rest, w_case⟩
end start1
theorem witness_1 : WitnessClaimed_1 := ⟨start1.p0, start1.e0, start1.about1, start1.theMethod, start1.args0, start1.below0, start1.atStart⟩
end Jvm.Pilot.@@N@@
