import JvmDerived
import JvmDerived.Pilot.@@N@@Statement
import JvmDerived.Pilot.@@N@@Code
set_option linter.unusedVariables false
set_option linter.unusedSimpArgs false
namespace Jvm.RoadKit
open Sem ClassFile Op Lib Jvm.Stand Jvm.Free Jvm.LawKit
section New
variable {p : Program} {l : Launch} {e : Env} {R : Room} {s : State} {m : MethodId} {args : Array Value} {below : List Frame} {meth : Method} {c : Code} {T : State} {locs : List Loc} {cells slots : Nat}
theorem own_retI (X : Stand p l e R s m args below meth c T locs cells slots) (hx : p.tables.exec = Jvm.exec) {pc : Nat} {Ls : Array Slot} {z : Int32} {rest : List Value} (hret : meth.sig.returnType = some .int) (hd : decode c.code pc = .ok (.ireturn, 1)) {fs : List Frame}
    (hl : ∀ (f : JFrame) (acts : List Action), f.method = m → f.locked = none → f.entered = [] → (doReturn e (T.setTop f) acts (some (.int z))).1 = T.setFrames fs) : Steps p.tables e below (T.setTop (mkF m pc Ls (.int z :: rest))) (T.setFrames fs) := by
  have hm' : T.vm.method? m = some meth := X.method'
  have hn : narrow .int (.int z) = .int z := rfl
  show Steps p.tables e below (T.setTop { method := m, pc := pc, locals := Ls, stack := _ :: rest, locked := none }) _
  jvm_step X.here [X.here.top, hx, hd, hm', hret, hn]
  first | (intro acts; rw [hl _ acts rfl rfl rfl]) | rw [hl _ _ rfl rfl rfl]
  exact Steps.refl _
theorem own_retL (X : Stand p l e R s m args below meth c T locs cells slots) (hx : p.tables.exec = Jvm.exec) {pc : Nat} {Ls : Array Slot} {z : Int64} {rest : List Value} (hret : meth.sig.returnType = some .long) (hd : decode c.code pc = .ok (.lreturn, 1)) {fs : List Frame}
    (hl : ∀ (f : JFrame) (acts : List Action), f.method = m → f.locked = none → f.entered = [] → (doReturn e (T.setTop f) acts (some (.long z))).1 = T.setFrames fs) : Steps p.tables e below (T.setTop (mkF m pc Ls (.long z :: rest))) (T.setFrames fs) := by
  have hm' : T.vm.method? m = some meth := X.method'
  have hn : narrow .long (.long z) = .long z := rfl
  show Steps p.tables e below (T.setTop { method := m, pc := pc, locals := Ls, stack := _ :: rest, locked := none }) _
  jvm_step X.here [X.here.top, hx, hd, hm', hret, hn]
  first | (intro acts; rw [hl _ acts rfl rfl rfl]) | rw [hl _ _ rfl rfl rfl]
  exact Steps.refl _
theorem own_retR (X : Stand p l e R s m args below meth c T locs cells slots) (hx : p.tables.exec = Jvm.exec) {pc : Nat} {Ls : Array Slot} {w : Value} {t : FieldType} {rest : List Value} (hret : meth.sig.returnType = some t) (hn : narrow t w = w) (ht : t.isReference = true) (hw : w.isRef = true) (hd : decode c.code pc = .ok (.areturn, 1)) {fs : List Frame}
    (hl : ∀ (f : JFrame) (acts : List Action), f.method = m → f.locked = none → f.entered = [] → (doReturn e (T.setTop f) acts (some w)).1 = T.setFrames fs) : Steps p.tables e below (T.setTop (mkF m pc Ls (w :: rest))) (T.setFrames fs) := by
  have hm' : T.vm.method? m = some meth := X.method'
  show Steps p.tables e below (T.setTop { method := m, pc := pc, locals := Ls, stack := _ :: rest, locked := none }) _
  jvm_step X.here [X.here.top, hx, hd, hm', hret, hn, hw]
  try (refine ⟨ht, ?_⟩)
  first | (intro acts; rw [hl _ acts rfl rfl rfl]) | rw [hl _ _ rfl rfl rfl]
  exact Steps.refl _
/-- from here the run comes to a state of which G holds -/
def Out (tb : Tables) (e : Env) (below : List Frame) (G : State → Prop) (T : State) (g : JFrame) : Prop := ∃ U, Steps tb e below (T.setTop g) U ∧ G U
theorem Out.via {tb : Tables} {G : State → Prop} {T' : State} {g g' : JFrame} (h : ∀ target, Steps tb e below (T'.setTop g') target → Steps tb e below (T.setTop g) target) (k : Out tb e below G T' g') : Out tb e below G T g := by
  obtain ⟨U, h1, h2⟩ := k
  exact ⟨U, h _ h1, h2⟩
theorem Out.to {tb : Tables} {G : State → Prop} {T' : State} {g g' : JFrame} (h : Steps tb e below (T.setTop g) (T'.setTop g')) (k : Out tb e below G T' g') : Out tb e below G T g := by
  obtain ⟨U, h1, h2⟩ := k
  exact ⟨U, h.trans h1, h2⟩
/-- what a contract asks of the end -/
def End (s : State) (below : List Frame) (Q : Option Value → Heap → List Loc → Prop) (kc ks : Nat) (U : State) : Prop := U.status = .running ∧ ∃ o, Ended U below o ∧ ∃ v L, o = .returned v ∧ Q v U.heap L ∧ FrameEnd s o U L kc ks
theorem Out.start {tb : Tables} {Q : Option Value → Heap → List Loc → Prop} {kc ks : Nat} {g g' : JFrame} (q : g = g') (k : Out tb e below (End s below Q kc ks) T g') : ∃ s₂ o, Steps tb e below (T.setTop g) s₂ ∧ s₂.status = .running ∧ Ended s₂ below o ∧ ∃ v L, o = .returned v ∧ Q v s₂.heap L ∧ FrameEnd s o s₂ L kc ks := by
  subst q
  obtain ⟨U, h1, h2, o, h3, h4⟩ := k
  exact ⟨U, o, h1, h2, h3, h4⟩
/-- the end of a narrow walk, whatever the return's kind -/
theorem Out.endN (X : Stand p l e R s m args below meth c T locs cells slots) {g : JFrame} {v : Option Value} {Q : Option Value → Heap → List Loc → Prop} {kc ks : Nat} (hv : meth.sig.returnType = none → v = none) (hk : meth.locks = false) (hc : cells ≤ kc) (hs : slots ≤ ks) (hq : Q v T.heap locs)
    (st : ∀ fs : List Frame, (∀ (f : JFrame) (acts : List Action), f.method = m → f.locked = none → f.entered = [] → (doReturn e (T.setTop f) acts v).1 = T.setFrames fs) → Steps p.tables e below (T.setTop g) (T.setFrames fs)) : Out p.tables e below (End s below Q kc ks) T g := by
  obtain ⟨fs, hr, hrun, hended, hW, hsame⟩ := X.leave (v := v) hv hk
  exact ⟨_, st fs hr, hrun, _, hended, _, _, rfl, hq, ⟨_, rfl⟩, hW, hsame.mono hc hs⟩
/-- what a contract asks of the end, where literals may have been interned -/
def EndW (s : State) (below : List Frame) (Q : Option Value → Heap → List Loc → Prop) (kc ks : Nat) (U : State) : Prop := U.status = .running ∧ ∃ o, Ended U below o ∧ ∃ v L, o = .returned v ∧ Q v U.heap L ∧ ReturnedEndW s o U L kc ks
theorem Out.startW {tb : Tables} {Q : Option Value → Heap → List Loc → Prop} {kc ks : Nat} {g g' : JFrame} (q : g = g') (k : Out tb e below (EndW s below Q kc ks) T g') : ∃ s₂ o, Steps tb e below (T.setTop g) s₂ ∧ s₂.status = .running ∧ Ended s₂ below o ∧ ∃ v L, o = .returned v ∧ Q v s₂.heap L ∧ ReturnedEndW s o s₂ L kc ks := by
  subst q
  obtain ⟨U, h1, h2, o, h3, h4⟩ := k
  exact ⟨U, o, h1, h2, h3, h4⟩
theorem Out.endW {vm0 : Vm} {n : Nat} (X : Stand p l e R (s.setVm vm0) m args below meth c T locs cells slots) (hS : s.Since vm0 n) (hn : n ≤ T.heap.size) {g : JFrame} {v : Option Value} {Q : Option Value → Heap → List Loc → Prop} {kc ks : Nat} (hv : meth.sig.returnType = none → v = none) (hk : meth.locks = false) (hc : cells ≤ kc) (hs : slots ≤ ks) (hq : Q v T.heap locs)
    (st : ∀ fs : List Frame, (∀ (f : JFrame) (acts : List Action), f.method = m → f.locked = none → f.entered = [] → (doReturn e (T.setTop f) acts v).1 = T.setFrames fs) → Steps p.tables e below (T.setTop g) (T.setFrames fs)) : Out p.tables e below (EndW s below Q kc ks) T g := by
  obtain ⟨fs, hr, hrun, hended, h1, h2, h3, h4⟩ := X.leaveW hS hn (v := v) hv hk
  exact ⟨_, st fs hr, hrun, _, hended, _, _, rfl, hq, h1, h2, h3, h4.mono hc hs⟩
/-- .. and the assumed word on the literals goes on -/
def EndH (Z : State) (EL : List (String × Nat)) (s : State) (below : List Frame) (Q : Option Value → Heap → List Loc → Prop) (kc ks : Nat) (U : State) : Prop := U.status = .running ∧ ∃ o, Ended U below o ∧ ∃ v L, o = .returned v ∧ Q v U.heap L ∧ CHr Z EL s.vm s.heap U.vm U.heap ∧ ReturnedEndW s o U L kc ks
theorem Out.startH {tb : Tables} {Z : State} {EL : List (String × Nat)} {Q : Option Value → Heap → List Loc → Prop} {kc ks : Nat} {g g' : JFrame} (q : g = g') (k : Out tb e below (EndH Z EL s below Q kc ks) T g') : ∃ s₂ o, Steps tb e below (T.setTop g) s₂ ∧ s₂.status = .running ∧ Ended s₂ below o ∧ ∃ v L, o = .returned v ∧ Q v s₂.heap L ∧ CHr Z EL s.vm s.heap s₂.vm s₂.heap ∧ ReturnedEndW s o s₂ L kc ks := by
  subst q
  obtain ⟨U, h1, h2, o, h3, h4⟩ := k
  exact ⟨U, o, h1, h2, h3, h4⟩
theorem Out.endH {Z : State} {a0 : Array Value} {EL : List (String × Nat)} {vm0 : Vm} {n : Nat} (X : Stand p l e R (s.setVm vm0) m args below meth c T locs cells slots) (hS : s.Since vm0 n) (hn : n ≤ T.heap.size) (hZ : Z.Warmed39 (s.setVm vm0).vm) (w : EW Z a0 EL) (CR : CHr Z EL s.vm s.heap vm0 T.heap) {g : JFrame} {v : Option Value} {Q : Option Value → Heap → List Loc → Prop} {kc ks : Nat} (hv : meth.sig.returnType = none → v = none) (hk : meth.locks = false) (hc : cells ≤ kc) (hs : slots ≤ ks) (hq : Q v T.heap locs)
    (st : ∀ fs : List Frame, (∀ (f : JFrame) (acts : List Action), f.method = m → f.locked = none → f.entered = [] → (doReturn e (T.setTop f) acts v).1 = T.setFrames fs) → Steps p.tables e below (T.setTop g) (T.setFrames fs)) : Out p.tables e below (EndH Z EL s below Q kc ks) T g := by
  obtain ⟨fs, hr, hrun, hended, h1, h2, h3, h4⟩ := X.leaveW hS hn (v := v) hv hk
  have q : CHr Z EL vm0 T.heap T.vm T.heap := CHv.at X hZ w CR.1
  exact ⟨_, st fs hr, hrun, _, hended, _, _, rfl, hq, CR.trans q, h1, h2, h3, h4.mono hc hs⟩
theorem own_since0 (s : State) (n : Nat) : s.Since s.vm n := (State.WarmedH.refl s).since n
/-- castore into an array whose values are known: what stands behind it -/
theorem own_stC (X : Stand p l e R s m args below meth c T locs cells slots) (hx : p.tables.exec = Jvm.exec) {Z : State} (hZ : Z.Warmed39 s.vm) {h h1 : Heap} (eT : T.heap = h) {a : Addr} {k : ClassId} {z : Int32} {vs : List Value} {dv : Value} (V : Arv Z h a k .char z vs dv) {j x : Int32} (hj : ¬ j < 0 ∧ j < z) (i : Nat) (hi : j.toNatClampNeg = i) (hl : i < vs.length)
    {n0 : Nat} (ga : n0 ≤ a) (N : Fr n0 locs) (O : Old Z n0 h) {ws : List Addr} (K : Keep h1 h ws) (hK : a ∈ ws ∨ h1.size ≤ a) {g : JFrame} (hg : g.method = m) {rest : List Value} (hs : g.stack = .int x :: .int j :: .ref a :: rest) (hd : decode c.code g.pc = .ok (.castore, 1)) :
    ∃ T' h' L', Stand p l e R s m args below meth c T' L' cells slots ∧ T'.heap = h' ∧ Arv Z h' a k .char z (vs.set i (.int (nar .char x))) dv ∧ Fr n0 L' ∧ Old Z n0 h' ∧ Keep h1 h' ws ∧ ∀ target, Steps p.tables e below (T'.setTop { g with pc := g.pc + 1, stack := rest }) target → Steps p.tables e below (T.setTop g) target := by
  obtain ⟨cl, Ar, q, S, M, H, G⟩ := V
  obtain ⟨T', h', X', e', W, st⟩ := stC X hx hZ eT Ar (j := j) (inb_of S hj) hg hs hd
  exact ⟨T', h', _, X', e', Arv.set Ar q S M H G (fits_nar_char _) W i hi hl, Fr.snoc X' N ga, O.wr W ga, K.wr W hK, st⟩
theorem own_z0 {Z : State} {n0 : Nat} {h : Heap} (O : Old Z n0 h) : n0 ≤ h.size := O.1 ▸ O.2.1
end New
end Jvm.RoadKit
/- laws to paste: Road.backV, Road.eqW, Road.codOf (cut by pick.py; bodies as the Statement names them) -/
namespace Jvm.Pilot.@@N@@
namespace StrChars
open Jvm Sem ClassFile Op Lib Jvm.Stand Jvm.Free.XT Jvm.Free.ALB Jvm.Free.JM Jvm.Free
open Jvm.Lib.Cold (StaticIs)
/-- a char array whose places are chars -/
def Ch (a : Addr) (A : Cell) (U : State) : Prop := Arr .char a A U ∧ Typed .char A
theorem Ch.mv {a : Addr} {A : Cell} {U U' : State} (h : Ch a A U) (hal : U.vm.Alike U'.vm) (hh : U'.heap = U.heap) : Ch a A U' := ⟨h.1.mv hal hh, h.2⟩
theorem Ch.keep {a : Addr} {A : Cell} {U U' : State} (h : Ch a A U) (hal : U.vm.Alike U'.vm) (hk : U'.heap[a]? = some A) : Ch a A U' := ⟨h.1.keep hal hk, h.2⟩
/-- what place i of a char[]'s cell holds -/
def cv (A : Cell) (i : Nat) : Int32 := match A.slots[i]? with | some (.int x) => x | _ => 0
theorem Ch.get {a : Addr} {A : Cell} {U : State} (h : Ch a A U) {i : Nat} (hi : i < A.slots.size) : A.slots[i]? = some (.int (cv A i)) := by
  have e := Array.getElem?_eq_getElem hi
  have f := h.2 i _ e
  unfold cv; rw [e]
  generalize A.slots[i] = v at f
  cases v <;> simp [fits] at f ⊢
/-- the byte that i2b leaves of a char -/
def lo8 (x : Int32) : Int32 := x.toInt8.toInt32
theorem fits_lo8 (y : Int32) : fits .byte (.int (lo8 y)) = true := by
  have h1 := y.toInt8.le_toInt
  have h2 := y.toInt8.toInt_lt
  simp only [lo8, fits, Bool.and_eq_true, decide_eq_true_eq, Int32.le_iff_toInt_le, Int8.toInt_toInt32, show (-128 : Int32).toInt = -128 from by decide, show (127 : Int32).toInt = 127 from by decide]
  omega
/-- A' is A but that each place j of lo .. hi - 1 holds f j -/
def Laid (A A' : Cell) (lo hi : Nat) (f : Nat → Value) : Prop := A'.cls = A.cls ∧ A'.vm = A.vm ∧ A'.slots.size = A.slots.size ∧ ∀ i, A'.slots[i]? = if lo ≤ i ∧ i < hi then some (f i) else A.slots[i]?
theorem Laid.zero (A : Cell) (lo : Nat) (f : Nat → Value) : Laid A A lo (lo + 0) f := ⟨rfl, rfl, rfl, fun i => by rw [if_neg (by omega)]⟩
theorem Laid.step {A Ak : Cell} {lo k : Nat} {f : Nat → Value} {v : Value} (h : Laid A Ak lo k f) (hlo : lo ≤ k) (hk : k < Ak.slots.size) (hv : v = f k) : Laid A (Ak.setSlot k v) lo (k + 1) f := by
  refine ⟨h.1, h.2.1, by simpa [Cell.setSlot] using h.2.2.1, fun i => ?_⟩
  by_cases e : k = i
  · subst e; rw [Cell.slots_setSlot_self v hk, if_pos (by omega), hv]
  · rw [Cell.slots_setSlot_ne v e, h.2.2.2 i]
    by_cases q : lo ≤ i ∧ i < k
    · rw [if_pos q, if_pos (by omega)]
    · rw [if_neg q, if_neg (by omega)]
def U16 : String := "java/lang/StringUTF16"
namespace Cmp5
def yN : MethodName := ⟨"java/lang/StringUTF16", "compress", "([CI[BII)I"⟩
abbrev yB : ByteArray := jdk_52_method_21_code
theorem d0 : decode yB 0 = .ok (.iconst 0, 1) := by decide +kernel
theorem d1 : decode yB 1 = .ok (.istore 5, 2) := by decide +kernel
theorem d3 : decode yB 3 = .ok (.iload 5, 2) := by decide +kernel
theorem d5 : decode yB 5 = .ok (.iload 4, 2) := by decide +kernel
theorem d7 : decode yB 7 = .ok (.if_icmp (.ge) 37, 3) := by decide +kernel
theorem d10 : decode yB 10 = .ok (.aload_n 0, 1) := by decide +kernel
theorem d11 : decode yB 11 = .ok (.iload_n 1, 1) := by decide +kernel
theorem d12 : decode yB 12 = .ok (.caload, 1) := by decide +kernel
theorem d13 : decode yB 13 = .ok (.istore 6, 2) := by decide +kernel
theorem d15 : decode yB 15 = .ok (.iload 6, 2) := by decide +kernel
theorem d17 : decode yB 17 = .ok (.sipush 255, 3) := by decide +kernel
theorem d20 : decode yB 20 = .ok (.if_icmp (.le) 6, 3) := by decide +kernel
theorem d26 : decode yB 26 = .ok (.aload_n 2, 1) := by decide +kernel
theorem d27 : decode yB 27 = .ok (.iload_n 3, 1) := by decide +kernel
theorem d28 : decode yB 28 = .ok (.iload 6, 2) := by decide +kernel
theorem d30 : decode yB 30 = .ok (.i2b, 1) := by decide +kernel
theorem d31 : decode yB 31 = .ok (.bastore, 1) := by decide +kernel
theorem d32 : decode yB 32 = .ok (.iinc 1 1, 3) := by decide +kernel
theorem d35 : decode yB 35 = .ok (.iinc 3 1, 3) := by decide +kernel
theorem d38 : decode yB 38 = .ok (.iinc 5 1, 3) := by decide +kernel
theorem d41 : decode yB 41 = .ok (.goto (-38), 3) := by decide +kernel
theorem d44 : decode yB 44 = .ok (.iload 4, 2) := by decide +kernel
theorem d46 : decode yB 46 = .ok (.ireturn, 1) := by decide +kernel
def site : List Cond := []
def tab : Cond := tabOf yN yB 7 (some .int) site
def P (b : Addr) (A : Cell) (d : Addr) (B : Cell) (o q len : Nat) (args : Array Value) (s : State) : Prop := args = #[.ref b, .int (Int32.ofNat o), .ref d, .int (Int32.ofNat q), .int (Int32.ofNat len)] ∧ Ch b A s ∧ Arr .byte d B s ∧ b ≠ d ∧ o + len ≤ A.slots.size ∧ q + len ≤ B.slots.size ∧ ∀ i, i < len → ¬ 255 < cv A (o + i)
def E (b : Addr) (A : Cell) (d : Addr) (B : Cell) (o q len : Nat) (r : Option Value) (s u : State) : Prop := r = some (.int (Int32.ofNat len)) ∧ ∃ B', Put d B' s u ∧ Laid B B' q (q + len) (fun j => Value.int (lo8 (cv A (o + (j - q)))))
/-- no char of the range above 255: len; the places written hold each char's low byte -/
theorem law (l : Launch) (b : Addr) (A : Cell) (d : Addr) (B : Cell) (o q len : Nat) : Law l yN 5 5 0 0 yB 7 (some .int) site (P b A d B o q len) (E b A d B o q len) (copyLocs d q len) 0 0 := by
  refine Law.of_walk (plainFor_of_name (by decide +kernel)) (by decide +kernel) (by decide +kernel) (by decide) (fun _ _ h => by rw [h.1]; rfl) (fun _ U U' hal hh h => ⟨h.1, h.2.1.mv hal hh, h.2.2.1.mv hal hh, h.2.2.2⟩) (fun r U U' V V' h1 hal h2 h => ⟨h.1, h.2.elim fun B' q => ⟨B', q.1.mv h1 h2, q.2⟩⟩) ?_
  intro p e s m args below meth c s₁ X0 hexec hbytes hml hret hlk hnm hown hh0 W hP
  obtain ⟨rfl, hA, hB, hne, l1, l2, hp⟩ := hP
  have c1 : Steps p.tables e below (s₁.setTop (entryFrame m #[.ref b, .int (Int32.ofNat o), .ref d, .int (Int32.ofNat q), .int (Int32.ofNat len)] 7)) (s₁.setTop (mkF m 0 #[.val (.ref b), .val (.int (Int32.ofNat o)), .val (.ref d), .val (.int (Int32.ofNat q)), .val (.int (Int32.ofNat len)), .unset, .unset] [])) := entry rfl
  have hA0 := hA.1.mv X0.warmed.alike hh0
  have hB0 := hB.mv X0.warmed.alike hh0
  have a31 := hA.1.2.2.2
  have c2 : Steps p.tables e below (s₁.setTop (entryFrame m #[.ref b, .int (Int32.ofNat o), .ref d, .int (Int32.ofNat q), .int (Int32.ofNat len)] 7)) (s₁.setTop (mkF m 3 #[.val (.ref b), .val (.int (Int32.ofNat o)), .val (.ref d), .val (.int (Int32.ofNat q)), .val (.int (Int32.ofNat len)), .val (.int 0), .unset] [])) := c1.trans (by
    refine iconstV X0.here hexec rfl 0 (hb hbytes d0) (by decide) ?_
    refine XS.istore X0.here hexec rfl (hb hbytes d1) rfl rfl ?_
    exact Steps.refl _)
  have loop : ∀ (r i : Nat), i + r = len → ∀ (z : Slot), (z = .unset ∨ ∃ w, z = .val w ∧ w.category = 1) → ∀ (Tl : State) (Bk : Cell), Stand p l e { frames := 0, locals := 0, cells := 0, slots := 0 } s m #[.ref b, .int (Int32.ofNat o), .ref d, .int (Int32.ofNat q), .int (Int32.ofNat len)] below meth c Tl ([] ++ copyLocs d q i) 0 0 → Put d Bk s₁ Tl → Laid B Bk q (q + i) (fun j => Value.int (lo8 (cv A (o + (j - q))))) →
      Steps p.tables e below (s₁.setTop (entryFrame m #[.ref b, .int (Int32.ofNat o), .ref d, .int (Int32.ofNat q), .int (Int32.ofNat len)] 7)) (Tl.setTop (mkF m 3 #[.val (.ref b), .val (.int (Int32.ofNat (o + i))), .val (.ref d), .val (.int (Int32.ofNat (q + i))), .val (.int (Int32.ofNat len)), .val (.int (Int32.ofNat i)), z] [])) → ∃ (T' : State) (B' : Cell) (z' : Slot), Stand p l e { frames := 0, locals := 0, cells := 0, slots := 0 } s m #[.ref b, .int (Int32.ofNat o), .ref d, .int (Int32.ofNat q), .int (Int32.ofNat len)] below meth c T' ([] ++ copyLocs d q len) 0 0 ∧ Put d B' s₁ T' ∧ Laid B B' q (q + len) (fun j => Value.int (lo8 (cv A (o + (j - q))))) ∧
      Steps p.tables e below (s₁.setTop (entryFrame m #[.ref b, .int (Int32.ofNat o), .ref d, .int (Int32.ofNat q), .int (Int32.ofNat len)] 7)) (T'.setTop (mkF m 3 #[.val (.ref b), .val (.int (Int32.ofNat (o + len))), .val (.ref d), .val (.int (Int32.ofNat (q + len))), .val (.int (Int32.ofNat len)), .val (.int (Int32.ofNat len)), z'] [])) := by
    intro r
    induction r with
    | zero =>
      intro i hi z hz Tl Bk Xl pl fl cl
      have hil : i = len := by omega
      rw [hil] at Xl fl cl
      exact ⟨Tl, Bk, z, Xl, pl, fl, cl⟩
    | succ r ih =>
      intro i hi z hz Tl Bk Xl pl fl cl
      have all := X0.warmed.alike.symm.trans Xl.warmed.alike
      have hAl := hA0.keep all (pl.other hne hA0.1)
      have hBk := hB0.like all pl.1 fl.1 fl.2.1 fl.2.2.1
      have hlt : q + i < Bk.slots.size := by rw [fl.2.2.1]; omega
      have c3 : Steps p.tables e below (s₁.setTop (entryFrame m #[.ref b, .int (Int32.ofNat o), .ref d, .int (Int32.ofNat q), .int (Int32.ofNat len)] 7)) (Tl.setTop (mkF m 12 #[.val (.ref b), .val (.int (Int32.ofNat (o + i))), .val (.ref d), .val (.int (Int32.ofNat (q + i))), .val (.int (Int32.ofNat len)), .val (.int (Int32.ofNat i)), z] [.int (Int32.ofNat (o + i)), .ref b])) := cl.trans (by
        refine XS.iload Xl.here hexec rfl (hb hbytes d3) rfl ?_
        refine XS.iload Xl.here hexec rfl (hb hbytes d5) rfl ?_
        refine XS.icmpNo Xl.here hexec rfl (hb hbytes d7) rfl (ii_ge_f (lt32 (by omega) (by omega))) ?_
        refine XS.aloadN Xl.here hexec rfl (hb hbytes d10) rfl rfl ?_
        refine XS.iloadN Xl.here hexec rfl (hb hbytes d11) rfl ?_
        exact Steps.refl _)
      have c4 : Steps p.tables e below (s₁.setTop (entryFrame m #[.ref b, .int (Int32.ofNat o), .ref d, .int (Int32.ofNat q), .int (Int32.ofNat len)] 7)) (Tl.setTop (mkF m 13 #[.val (.ref b), .val (.int (Int32.ofNat (o + i))), .val (.ref d), .val (.int (Int32.ofNat (q + i))), .val (.int (Int32.ofNat len)), .val (.int (Int32.ofNat i)), z] [.int (cv A (o + i))])) := c3.trans (by
        refine Xl.aget hexec hAl rfl (hA.get (i := o + i) (by omega)) rfl rfl (hb hbytes d12) ?_
        exact Steps.refl _)
      have c5 : Steps p.tables e below (s₁.setTop (entryFrame m #[.ref b, .int (Int32.ofNat o), .ref d, .int (Int32.ofNat q), .int (Int32.ofNat len)] 7)) (Tl.setTop (mkF m 15 #[.val (.ref b), .val (.int (Int32.ofNat (o + i))), .val (.ref d), .val (.int (Int32.ofNat (q + i))), .val (.int (Int32.ofNat len)), .val (.int (Int32.ofNat i)), .val (.int (cv A (o + i)))] [])) := c4.trans (by
        refine XS.istoreS Xl.here hexec rfl (hb hbytes d13) rfl rfl hz ?_
        exact Steps.refl _)
      have c6 : Steps p.tables e below (s₁.setTop (entryFrame m #[.ref b, .int (Int32.ofNat o), .ref d, .int (Int32.ofNat q), .int (Int32.ofNat len)] 7)) (Tl.setTop (mkF m 31 #[.val (.ref b), .val (.int (Int32.ofNat (o + i))), .val (.ref d), .val (.int (Int32.ofNat (q + i))), .val (.int (Int32.ofNat len)), .val (.int (Int32.ofNat i)), .val (.int (cv A (o + i)))] [.int (lo8 (cv A (o + i))), .int (Int32.ofNat (q + i)), .ref d])) := c5.trans (by
        refine XS.iload Xl.here hexec rfl (hb hbytes d15) rfl ?_
        refine sipushV Xl.here hexec rfl 255 (hb hbytes d17) (by decide) ?_
        refine XS.icmpYes Xl.here hexec rfl (pc0 := 20) rfl (hb hbytes d20) rfl (ii_le_t (hp i (by omega))) (by decide) rfl ?_
        refine XS.aloadN Xl.here hexec rfl (hb hbytes d26) rfl rfl ?_
        refine XS.iloadN Xl.here hexec rfl (hb hbytes d27) rfl ?_
        refine XS.iload Xl.here hexec rfl (hb hbytes d28) rfl ?_
        refine i2b Xl.here hexec rfl (hb hbytes d30) rfl ?_
        exact Steps.refl _)
      obtain ⟨T7, X7, p7, st7⟩ := Xl.aput hexec hBk rfl hlt rfl (fits_lo8 (cv A (o + i))) (g := (mkF m 31 #[.val (.ref b), .val (.int (Int32.ofNat (o + i))), .val (.ref d), .val (.int (Int32.ofNat (q + i))), .val (.int (Int32.ofNat len)), .val (.int (Int32.ofNat i)), .val (.int (cv A (o + i)))] [.int (lo8 (cv A (o + i))), .int (Int32.ofNat (q + i)), .ref d])) rfl (rest := []) rfl (hb hbytes d31)
      have c8 : Steps p.tables e below (s₁.setTop (entryFrame m #[.ref b, .int (Int32.ofNat o), .ref d, .int (Int32.ofNat q), .int (Int32.ofNat len)] 7)) (T7.setTop (mkF m 32 #[.val (.ref b), .val (.int (Int32.ofNat (o + i))), .val (.ref d), .val (.int (Int32.ofNat (q + i))), .val (.int (Int32.ofNat len)), .val (.int (Int32.ofNat i)), .val (.int (cv A (o + i)))] [])) := c6.trans (st7 _ (Steps.refl _))
      have c9 : Steps p.tables e below (s₁.setTop (entryFrame m #[.ref b, .int (Int32.ofNat o), .ref d, .int (Int32.ofNat q), .int (Int32.ofNat len)] 7)) (T7.setTop (mkF m 3 #[.val (.ref b), .val (.int (Int32.ofNat (o + i) + 1)), .val (.ref d), .val (.int (Int32.ofNat (q + i) + 1)), .val (.int (Int32.ofNat len)), .val (.int (Int32.ofNat i + 1)), .val (.int (cv A (o + i)))] [])) := c8.trans (by
        refine iincV X7.here hexec rfl 1 (hb hbytes d32) (by decide) rfl rfl ?_
        refine iincV X7.here hexec rfl 1 (hb hbytes d35) (by decide) rfl rfl ?_
        refine iincV X7.here hexec rfl 1 (hb hbytes d38) (by decide) rfl rfl ?_
        refine XS.goto X7.here hexec rfl (pc0 := 41) rfl (hb hbytes d41) (by decide) rfl ?_
        exact Steps.refl _)
      have c10 : Steps p.tables e below (s₁.setTop (entryFrame m #[.ref b, .int (Int32.ofNat o), .ref d, .int (Int32.ofNat q), .int (Int32.ofNat len)] 7)) (T7.setTop (mkF m 3 #[.val (.ref b), .val (.int (Int32.ofNat (o + (i + 1)))), .val (.ref d), .val (.int (Int32.ofNat (q + (i + 1)))), .val (.int (Int32.ofNat len)), .val (.int (Int32.ofNat (i + 1))), .val (.int (cv A (o + i)))] [])) := by
        have := c9
        rw [succ32, succ32, succ32] at this
        exact this
      exact ih (i + 1) (by omega) _ (Or.inr ⟨_, rfl, rfl⟩) T7 _ (by rw [copyLocs_step, ← List.append_assoc]; exact X7) (pl.trans p7) (fl.step (by omega) hlt (by simp)) c10
  obtain ⟨T9, B9, z9, X9, p9, f9, g9⟩ := loop len 0 (by omega) .unset (Or.inl rfl) s₁ B (by simpa [copyLocs] using X0) ⟨hB0.1, fun _ _ => rfl, rfl⟩ (Laid.zero _ _ _) c2
  have c11 : Steps p.tables e below (s₁.setTop (entryFrame m #[.ref b, .int (Int32.ofNat o), .ref d, .int (Int32.ofNat q), .int (Int32.ofNat len)] 7)) (T9.setTop (mkF m 46 #[.val (.ref b), .val (.int (Int32.ofNat (o + len))), .val (.ref d), .val (.int (Int32.ofNat (q + len))), .val (.int (Int32.ofNat len)), .val (.int (Int32.ofNat len)), z9] [.int (Int32.ofNat len)])) := g9.trans (by
    refine XS.iload X9.here hexec rfl (hb hbytes d3) rfl ?_
    refine XS.iload X9.here hexec rfl (hb hbytes d5) rfl ?_
    refine XS.icmpYes X9.here hexec rfl (pc0 := 7) rfl (hb hbytes d7) rfl (ii_ge_t (nlt32 (by omega) (Nat.le_refl _))) (by decide) rfl ?_
    refine XS.iload X9.here hexec rfl (hb hbytes d44) rfl ?_
    exact Steps.refl _)
  exact ⟨T9, some (.int (Int32.ofNat len)), _, _, _, X9, by simp, rfl, rfl, (fun h => by cases h), ⟨rfl, B9, p9.from hh0, f9⟩, fun fs hl => c11.trans (X9.ireturnOut hexec hret rfl (Or.inl rfl) (hb hbytes d46) hl)⟩
end Cmp5
namespace Cmp3
def yN : MethodName := ⟨"java/lang/StringUTF16", "compress", "([CII)[B"⟩
abbrev yB : ByteArray := jdk_52_method_16_code
theorem d0 : decode yB 0 = .ok (.iload_n 2, 1) := by decide +kernel
theorem d1 : decode yB 1 = .ok (.newarray .byte, 2) := by decide +kernel
theorem d3 : decode yB 3 = .ok (.astore_n 3, 1) := by decide +kernel
theorem d4 : decode yB 4 = .ok (.aload_n 0, 1) := by decide +kernel
theorem d5 : decode yB 5 = .ok (.iload_n 1, 1) := by decide +kernel
theorem d6 : decode yB 6 = .ok (.aload_n 3, 1) := by decide +kernel
theorem d7 : decode yB 7 = .ok (.iconst 0, 1) := by decide +kernel
theorem d8 : decode yB 8 = .ok (.iload_n 2, 1) := by decide +kernel
theorem d9 : decode yB 9 = .ok (.invokestatic 115, 3) := by decide +kernel
theorem d12 : decode yB 12 = .ok (.istore 4, 2) := by decide +kernel
theorem d14 : decode yB 14 = .ok (.iload 4, 2) := by decide +kernel
theorem d16 : decode yB 16 = .ok (.iload_n 2, 1) := by decide +kernel
theorem d17 : decode yB 17 = .ok (.if_icmp (.eq) 40, 3) := by decide +kernel
theorem d57 : decode yB 57 = .ok (.aload_n 3, 1) := by decide +kernel
theorem d58 : decode yB 58 = .ok (.areturn, 1) := by decide +kernel
def site : List Cond := [.arrayClass .byte, Cmp5.tab] ++ staticW U16 115 Cmp5.yN
def tab : Cond := tabOf yN yB 6 (some (.array .byte)) site
def P (b : Addr) (A : Cell) (o len : Nat) (args : Array Value) (s : State) : Prop := args = #[.ref b, .int (Int32.ofNat o), .int (Int32.ofNat len)] ∧ Ch b A s ∧ o + len ≤ A.slots.size ∧ len ≤ 536870912 ∧ ∀ i, i < len → ¬ 255 < cv A (o + i)
def E (b : Addr) (A : Cell) (o len : Nat) (r : Option Value) (s u : State) : Prop := NewArr .byte "[B" len (fun j => .int (lo8 (cv A (o + j)))) r s u ∧ u.heap.size = s.heap.size + 1
/-- no char of the range above 255: a new byte[] of their low bytes -/
theorem law (l : Launch) (b : Addr) (A : Cell) (o len : Nat) : Law l yN 3 3 1 18 yB 6 (some (.array .byte)) site (P b A o len) (E b A o len) [] 1 len := by
  refine Law.of_walk (plainFor_of_name (by decide +kernel)) (by decide +kernel) (by decide +kernel) (by decide) (fun _ _ h => by rw [h.1]; rfl) (fun _ U U' hal hh h => ⟨h.1, h.2.1.mv hal hh, h.2.2⟩) (fun r U U' V V' h1 hal h2 h => ⟨NewArr.mv r U U' V V' h1 hal h2 h.1, by rw [h1, h2]; exact h.2⟩) ?_
  intro p e s m args below meth c s₁ X0 hexec hbytes hml hret hlk hnm hown hh0 W hP
  obtain ⟨rfl, hA, l1, l2, hp⟩ := hP
  have a31 := hA.1.2.2.2
  have c1 : Steps p.tables e below (s₁.setTop (entryFrame m #[.ref b, .int (Int32.ofNat o), .int (Int32.ofNat len)] 6)) (s₁.setTop (mkF m 0 #[.val (.ref b), .val (.int (Int32.ofNat o)), .val (.int (Int32.ofNat len)), .unset, .unset, .unset] [])) := entry rfl
  have c2 : Steps p.tables e below (s₁.setTop (entryFrame m #[.ref b, .int (Int32.ofNat o), .int (Int32.ofNat len)] 6)) (s₁.setTop (mkF m 1 #[.val (.ref b), .val (.int (Int32.ofNat o)), .val (.int (Int32.ofNat len)), .unset, .unset, .unset] [.int (Int32.ofNat len)])) := c1.trans (by
    refine XS.iloadN X0.here hexec rfl (hb hbytes d0) rfl ?_
    exact Steps.refl _)
  obtain ⟨T3, B3, X3, ba3, bs3, bv3, bh3, bf3, st3⟩ := X0.anew hexec (atype := .byte) (wk W (.arrayClass .byte)) rfl (by show len * 1 ≤ _; omega) (by omega) (g := (mkF m 1 #[.val (.ref b), .val (.int (Int32.ofNat o)), .val (.int (Int32.ofNat len)), .unset, .unset, .unset] [.int (Int32.ofNat len)])) rfl (hb hbytes d1) (rest := []) rfl (Nat.le_refl _) (by show 0 + len ≤ len; omega)
  rw [hh0] at ba3 st3
  have kp3 : XT.Kept s T3 := (XT.Kept.of_eq hh0).push bh3
  have hA3 := hA.keep X3.warmed.alike (kp3 _ _ hA.1.1)
  have hne : b ≠ s.heap.size := hA.1.ne
  have c4 : Steps p.tables e below (s₁.setTop (entryFrame m #[.ref b, .int (Int32.ofNat o), .int (Int32.ofNat len)] 6)) (T3.setTop (mkF m 3 #[.val (.ref b), .val (.int (Int32.ofNat o)), .val (.int (Int32.ofNat len)), .unset, .unset, .unset] [.ref s.heap.size])) := c2.trans (st3 _ (Steps.refl _))
  have c5 : Steps p.tables e below (s₁.setTop (entryFrame m #[.ref b, .int (Int32.ofNat o), .int (Int32.ofNat len)] 6)) (T3.setTop (mkF m 9 #[.val (.ref b), .val (.int (Int32.ofNat o)), .val (.int (Int32.ofNat len)), .val (.ref s.heap.size), .unset, .unset] [.int (Int32.ofNat len), .int 0, .ref s.heap.size, .int (Int32.ofNat o), .ref b])) := c4.trans (by
    refine XS.astoreN X3.here hexec rfl (hb hbytes d3) rfl rfl rfl ?_
    refine XS.aloadN X3.here hexec rfl (hb hbytes d4) rfl rfl ?_
    refine XS.iloadN X3.here hexec rfl (hb hbytes d5) rfl ?_
    refine XS.aloadN X3.here hexec rfl (hb hbytes d6) rfl rfl ?_
    refine iconstV X3.here hexec rfl 0 (hb hbytes d7) (by decide) ?_
    refine XS.iloadN X3.here hexec rfl (hb hbytes d8) rfl ?_
    exact Steps.refl _)
  obtain ⟨v6, T6, X6, E6, g6⟩ := X3.callS hexec (Cmp5.law l b A s.heap.size B3 o 0 len) hown (wks W (staticW U16 115 Cmp5.yN)) (wk W Cmp5.tab) (W := 0) (Nat.le_of_ble_eq_true rfl) (Nat.le_of_ble_eq_true rfl) (Nat.le_refl _) (by show 0 + len + 0 ≤ len; omega) (g := (mkF m 9 #[.val (.ref b), .val (.int (Int32.ofNat o)), .val (.int (Int32.ofNat len)), .val (.ref s.heap.size), .unset, .unset] [.int (Int32.ofNat len), .int (Int32.ofNat 0), .ref s.heap.size, .int (Int32.ofNat o), .ref b])) rfl (by rw [hml]; rfl) c5 (argsL := [.ref b, .int (Int32.ofNat o), .ref s.heap.size, .int (Int32.ofNat 0), .int (Int32.ofNat len)]) (rest := []) rfl rfl (by show 2 * 0 + 0 ≤ _; decide) (hb hbytes d9) (⟨rfl, hA3, ba3, hne, l1, by rw [bs3]; simp, hp⟩)
  obtain ⟨rfl, B6, p6, f6⟩ := E6
  have c7 : Steps p.tables e below (s₁.setTop (entryFrame m #[.ref b, .int (Int32.ofNat o), .int (Int32.ofNat len)] 6)) (T6.setTop (mkF m 12 #[.val (.ref b), .val (.int (Int32.ofNat o)), .val (.int (Int32.ofNat len)), .val (.ref s.heap.size), .unset, .unset] [.int (Int32.ofNat len)])) := g6
  have c8 : Steps p.tables e below (s₁.setTop (entryFrame m #[.ref b, .int (Int32.ofNat o), .int (Int32.ofNat len)] 6)) (T6.setTop (mkF m 58 #[.val (.ref b), .val (.int (Int32.ofNat o)), .val (.int (Int32.ofNat len)), .val (.ref s.heap.size), .val (.int (Int32.ofNat len)), .unset] [.ref s.heap.size])) := c7.trans (by
    refine XS.istore X6.here hexec rfl (hb hbytes d12) rfl rfl ?_
    refine XS.iload X6.here hexec rfl (hb hbytes d14) rfl ?_
    refine XS.iloadN X6.here hexec rfl (hb hbytes d16) rfl ?_
    refine XS.icmpYes X6.here hexec rfl (pc0 := 17) rfl (hb hbytes d17) rfl (ii_eq_t rfl) (by decide) rfl ?_
    refine XS.aloadN X6.here hexec rfl (hb hbytes d57) rfl rfl ?_
    exact Steps.refl _)
  have X8 := X6.wide (L' := []) (cells' := 1) (slots' := len) (fun x hx hlt => by
    simp only [List.nil_append, copyLocs, List.mem_map, List.mem_range] at hx
    obtain ⟨i, -, rfl⟩ := hx
    exact absurd hlt (Nat.lt_irrefl _)) (Nat.le_refl _) (by omega)
  exact ⟨T6, some (.ref s.heap.size), _, _, _, X8, rfl, rfl, rfl, (fun h => by cases h), ⟨⟨rfl, B6, ba3.like (X3.warmed.alike.symm.trans X6.warmed.alike) p6.1 f6.1 f6.2.1 f6.2.2.1, f6.2.1.trans bv3, by rw [X6.warmed.alike.findClass, f6.1]; exact bf3, by rw [f6.2.2.1, bs3]; simp, fun j hj => by rw [f6.2.2.2 j, if_pos (by omega)]; rfl, kp3.put p6 (Nat.le_refl _)⟩, by rw [p6.2.2, bh3, hh0]; simp⟩, fun fs hl => c8.trans (X8.areturnOut hexec rfl hret rfl (hb hbytes d58) hl)⟩
end Cmp3
namespace CodL
def yN : MethodName := ⟨"java/lang/StringUTF16", "coderFromArrayLen", "([BI)B"⟩
abbrev yB : ByteArray := jdk_52_method_15_code
theorem d0 : decode yB 0 = .ok (.iload_n 1, 1) := by decide +kernel
theorem d1 : decode yB 1 = .ok (.aload_n 0, 1) := by decide +kernel
theorem d2 : decode yB 2 = .ok (.arraylength, 1) := by decide +kernel
theorem d3 : decode yB 3 = .ok (.isub, 1) := by decide +kernel
theorem d4 : decode yB 4 = .ok (.bipush 31, 2) := by decide +kernel
theorem d6 : decode yB 6 = .ok (.iushr, 1) := by decide +kernel
theorem d7 : decode yB 7 = .ok (.i2b, 1) := by decide +kernel
theorem d8 : decode yB 8 = .ok (.ireturn, 1) := by decide +kernel
def site : List Cond := []
def tab : Cond := tabOf yN yB 2 (some .byte) site
def P (d : Addr) (B : Cell) (args : Array Value) (s : State) : Prop := args = #[.ref d, .int (Int32.ofNat B.slots.size)] ∧ Arr .byte d B s
def E (r : Option Value) (s u : State) : Prop := XT.PureE (some (.int 0)) r s u
/-- an array as long as the number of chars: LATIN1 -/
theorem law (l : Launch) (d : Addr) (B : Cell) : Law l yN 2 2 0 0 yB 2 (some .byte) site (P d B) E [] 0 0 := by
  refine Law.of_walk (plainFor_of_name (by decide +kernel)) (by decide +kernel) (by decide +kernel) (by decide) (fun _ _ h => by rw [h.1]; rfl) (fun _ U U' hal hh h => ⟨h.1, h.2.mv hal hh⟩) (fun r U U' V V' h1 hal h2 h => XT.PureE.mv r U U' V V' h1 hal h2 h) ?_
  intro p e s m args below meth c s₁ X0 hexec hbytes hml hret hlk hnm hown hh0 W hP
  obtain ⟨rfl, hB⟩ := hP
  have hB0 := hB.mv X0.warmed.alike hh0
  have c1 : Steps p.tables e below (s₁.setTop (entryFrame m #[.ref d, .int (Int32.ofNat B.slots.size)] 2)) (s₁.setTop (mkF m 0 #[.val (.ref d), .val (.int (Int32.ofNat B.slots.size))] [])) := entry rfl
  have c2 : Steps p.tables e below (s₁.setTop (entryFrame m #[.ref d, .int (Int32.ofNat B.slots.size)] 2)) (s₁.setTop (mkF m 2 #[.val (.ref d), .val (.int (Int32.ofNat B.slots.size))] [.ref d, .int (Int32.ofNat B.slots.size)])) := c1.trans (by
    refine XS.iloadN X0.here hexec rfl (hb hbytes d0) rfl ?_
    refine XS.aloadN X0.here hexec rfl (hb hbytes d1) rfl rfl ?_
    exact Steps.refl _)
  have c3 : Steps p.tables e below (s₁.setTop (entryFrame m #[.ref d, .int (Int32.ofNat B.slots.size)] 2)) (s₁.setTop (mkF m 8 #[.val (.ref d), .val (.int (Int32.ofNat B.slots.size))] [.int (lo8 (ushr (Int32.ofNat B.slots.size - Int32.ofNat B.slots.size) 31))])) := c2.trans (by
    refine X0.alen hexec hB0 rfl rfl (hb hbytes d2) ?_
    refine XS.isub X0.here hexec rfl (hb hbytes d3) rfl ?_
    refine bipushV X0.here hexec rfl 31 (hb hbytes d4) (by decide) ?_
    refine iushr X0.here hexec rfl (hb hbytes d6) rfl ?_
    refine i2b X0.here hexec rfl (hb hbytes d7) rfl ?_
    exact Steps.refl _)
  have e0 : lo8 (ushr (Int32.ofNat B.slots.size - Int32.ofNat B.slots.size) 31) = 0 := by rw [Int32.sub_self]; decide
  rw [e0] at c3
  exact ⟨s₁, some (.int 0), _, _, _, X0, rfl, rfl, rfl, (fun h => by cases h), ⟨rfl, hh0⟩, fun fs hl => c3.trans (X0.ireturnOut hexec hret rfl (Or.inr (Or.inr (Or.inl rfl))) (hb hbytes d8) hl)⟩
end CodL
/-- the String at a is Latin-1 over a new byte[] (the heap's one new cell): the low bytes of the len chars of A from o on; every cell but a is kept -/
def Got (a : Addr) (D : Cell) (fV fC : Field) (A : Cell) (o len : Nat) (r : Option Value) (s u : State) : Prop := r = none ∧ ∃ D' V : Cell, Blank "java/lang/String" a D' u ∧ Same D D' [fV.slot, fC.slot] ∧ D'.slots[fV.slot]? = some (.ref s.heap.size) ∧ D'.slots[fC.slot]? = some (.int 0) ∧ Arr .byte s.heap.size V u ∧ V.vm = .none ∧ u.vm.findClass "[B" = some V.cls ∧ V.slots.size = len ∧ (∀ j, j < len → V.slots[j]? = some (.int (lo8 (cv A (o + j))))) ∧ (∀ (y : Addr) (c : Cell), y ≠ a → s.heap[y]? = some c → u.heap[y]? = some c) ∧ u.heap.size = s.heap.size + 1
theorem Got.mv {a : Addr} {D A : Cell} {fV fC : Field} {o len : Nat} : ∀ r (U U' V V' : State), U'.heap = U.heap → V.vm.Alike V'.vm → V'.heap = V.heap → Got a D fV fC A o len r U V → Got a D fV fC A o len r U' V' :=
  fun r U U' V V' h1 hal h2 ⟨e0, D', X, a1, a2, a3, a4, a5, a6, a7, a8, a9, a10, a11⟩ => ⟨e0, D', X, a1.mv hal h2, a2, by rw [h1]; exact a3, a4, by rw [h1]; exact a5.mv hal h2, a6, by rw [hal.findClass]; exact a7, a8, a9, by rw [h1, h2]; exact a10, by rw [h1, h2]; exact a11⟩
namespace New4
def yN : MethodName := ⟨"java/lang/String", "<init>", "([CIILjava/lang/Void;)V"⟩
abbrev yB : ByteArray := jdk_42_method_149_code
theorem d0 : decode yB 0 = .ok (.aload_n 0, 1) := by decide +kernel
theorem d1 : decode yB 1 = .ok (.invokespecial 1, 3) := by decide +kernel
theorem d4 : decode yB 4 = .ok (.iload_n 3, 1) := by decide +kernel
theorem d5 : decode yB 5 = .ok (.ifCond (.ne) 22, 3) := by decide +kernel
theorem d27 : decode yB 27 = .ok (.getstatic 38, 3) := by decide +kernel
theorem d30 : decode yB 30 = .ok (.ifCond (.eq) 28, 3) := by decide +kernel
theorem d33 : decode yB 33 = .ok (.aload_n 1, 1) := by decide +kernel
theorem d34 : decode yB 34 = .ok (.iload_n 2, 1) := by decide +kernel
theorem d35 : decode yB 35 = .ok (.iload_n 3, 1) := by decide +kernel
theorem d36 : decode yB 36 = .ok (.invokestatic 177, 3) := by decide +kernel
theorem d39 : decode yB 39 = .ok (.astore 5, 2) := by decide +kernel
theorem d41 : decode yB 41 = .ok (.aload_n 0, 1) := by decide +kernel
theorem d42 : decode yB 42 = .ok (.aload 5, 2) := by decide +kernel
theorem d44 : decode yB 44 = .ok (.iload_n 3, 1) := by decide +kernel
theorem d45 : decode yB 45 = .ok (.invokestatic 47, 3) := by decide +kernel
theorem d48 : decode yB 48 = .ok (.putfield 15, 3) := by decide +kernel
theorem d51 : decode yB 51 = .ok (.aload_n 0, 1) := by decide +kernel
theorem d52 : decode yB 52 = .ok (.aload 5, 2) := by decide +kernel
theorem d54 : decode yB 54 = .ok (.putfield 9, 3) := by decide +kernel
theorem d57 : decode yB 57 = .ok (.return_, 1) := by decide +kernel
def site : List Cond := [.fieldLink "java/lang/String" 38 "java/lang/String" "COMPACT_STRINGS" "Z", Cmp3.tab, CodL.tab, .laysFinal "java/lang/String" "java/lang/String" "value" "[B", .fieldLink "java/lang/String" 9 "java/lang/String" "value" "[B", .laysFinal "java/lang/String" "java/lang/String" "coder" "B", .fieldLink "java/lang/String" 15 "java/lang/String" "coder" "B"] ++ objW "java/lang/String" 1 ++ staticW "java/lang/String" 177 Cmp3.yN ++ staticW "java/lang/String" 47 CodL.yN
def tab : Cond := tabOf yN yB 6 none site
def P (a : Addr) (D : Cell) (fV fC : Field) (b : Addr) (A : Cell) (z : Int32) (o len : Nat) (args : Array Value) (s : State) : Prop := args = #[.ref a, .ref b, .int (Int32.ofNat o), .int (Int32.ofNat len), .null] ∧ Blank "java/lang/String" a D s ∧ Found "java/lang/String" "value" "[B" fV s ∧ Found "java/lang/String" "coder" "B" fC s ∧ Ch b A s ∧ StaticIs s "java/lang/String" "COMPACT_STRINGS" "Z" (.int z) ∧ ¬ z = 0 ∧ 0 < len ∧ o + len ≤ A.slots.size ∧ len ≤ 536870912 ∧ ∀ i, i < len → ¬ 255 < cv A (o + i)
def E (a : Addr) (D : Cell) (fV fC : Field) (A : Cell) (o len : Nat) (r : Option Value) (s u : State) : Prop := Got a D fV fC A o len r s u
/-- len > 0, no char of the range above 255: a Latin-1 String of their low bytes -/
theorem law (l : Launch) (a : Addr) (D : Cell) (fV fC : Field) (b : Addr) (A : Cell) (z : Int32) (o len : Nat) : Law l yN 5 4 2 35 yB 6 none site (P a D fV fC b A z o len) (E a D fV fC A o len) [⟨a, fC.slot⟩, ⟨a, fV.slot⟩] 1 len := by
  refine Law.of_walk (plainFor_of_name (by decide +kernel)) (by decide +kernel) (by decide +kernel) (by decide) (fun _ _ h => by rw [h.1]; rfl) (fun _ U U' hal hh h => ⟨h.1, h.2.1.mv hal hh, h.2.2.1.al hal, h.2.2.2.1.al hal, h.2.2.2.2.1.mv hal hh, h.2.2.2.2.2.1.there hal hh, h.2.2.2.2.2.2⟩) (fun r U U' V V' h1 hal h2 h => Got.mv r U U' V V' h1 hal h2 h) ?_
  intro p e s m args below meth c s₁ X0 hexec hbytes hml hret hlk hnm hown hh0 W hP
  obtain ⟨rfl, hB, f1, f2, hA, s1, hz, l0, l1, l2, hp⟩ := hP
  have a31 := hA.1.2.2.2
  have c1 : Steps p.tables e below (s₁.setTop (entryFrame m #[.ref a, .ref b, .int (Int32.ofNat o), .int (Int32.ofNat len), .null] 6)) (s₁.setTop (mkF m 0 #[.val (.ref a), .val (.ref b), .val (.int (Int32.ofNat o)), .val (.int (Int32.ofNat len)), .val .null, .unset] [])) := entry rfl
  have c2 : Steps p.tables e below (s₁.setTop (entryFrame m #[.ref a, .ref b, .int (Int32.ofNat o), .int (Int32.ofNat len), .null] 6)) (s₁.setTop (mkF m 1 #[.val (.ref a), .val (.ref b), .val (.int (Int32.ofNat o)), .val (.int (Int32.ofNat len)), .val .null, .unset] [.ref a])) := c1.trans (by
    refine XS.aloadN X0.here hexec rfl (hb hbytes d0) rfl rfl ?_
    exact Steps.refl _)
  obtain ⟨T3, X3, q3, st3⟩ := X0.oinit hexec hown (wks W (objW "java/lang/String" 1)) (g := (mkF m 1 #[.val (.ref a), .val (.ref b), .val (.int (Int32.ofNat o)), .val (.int (Int32.ofNat len)), .val .null, .unset] [.ref a])) rfl (by rw [hml]; rfl) (rest := []) rfl (hb hbytes d1) (W := 0) (by show 2 * 0 + 0 ≤ _; decide) (Nat.le_of_ble_eq_true rfl) (Nat.le_of_ble_eq_true rfl)
  have hh3 := q3.trans hh0
  have c4 : Steps p.tables e below (s₁.setTop (entryFrame m #[.ref a, .ref b, .int (Int32.ofNat o), .int (Int32.ofNat len), .null] 6)) (T3.setTop (mkF m 27 #[.val (.ref a), .val (.ref b), .val (.int (Int32.ofNat o)), .val (.int (Int32.ofNat len)), .val .null, .unset] [])) := (c2.trans (st3 _ (Steps.refl _))).trans (by
    refine XS.iloadN X3.here hexec rfl (hb hbytes d4) rfl ?_
    refine XS.ifYes X3.here hexec rfl (pc0 := 5) rfl (hb hbytes d5) rfl (i0_ne_t (nz32 (by omega) l0)) (by decide) rfl ?_
    exact Steps.refl _)
  obtain ⟨T5, X5, q5, st5⟩ := X3.sget hexec hown (wk W (.fieldLink "java/lang/String" 38 "java/lang/String" "COMPACT_STRINGS" "Z")) s1 (fun _ _ h => by rw [hh3]; exact h) (g := (mkF m 27 #[.val (.ref a), .val (.ref b), .val (.int (Int32.ofNat o)), .val (.int (Int32.ofNat len)), .val .null, .unset] [])) rfl (hb hbytes d27)
  have hh5 := q5.trans hh3
  have c6 : Steps p.tables e below (s₁.setTop (entryFrame m #[.ref a, .ref b, .int (Int32.ofNat o), .int (Int32.ofNat len), .null] 6)) (T5.setTop (mkF m 30 #[.val (.ref a), .val (.ref b), .val (.int (Int32.ofNat o)), .val (.int (Int32.ofNat len)), .val .null, .unset] [.int z])) := c4.trans (st5 _ (Steps.refl _))
  have c7 : Steps p.tables e below (s₁.setTop (entryFrame m #[.ref a, .ref b, .int (Int32.ofNat o), .int (Int32.ofNat len), .null] 6)) (T5.setTop (mkF m 36 #[.val (.ref a), .val (.ref b), .val (.int (Int32.ofNat o)), .val (.int (Int32.ofNat len)), .val .null, .unset] [.int (Int32.ofNat len), .int (Int32.ofNat o), .ref b])) := c6.trans (by
    refine XS.ifNo X5.here hexec rfl (hb hbytes d30) rfl (i0_eq_f hz) ?_
    refine XS.aloadN X5.here hexec rfl (hb hbytes d33) rfl rfl ?_
    refine XS.iloadN X5.here hexec rfl (hb hbytes d34) rfl ?_
    refine XS.iloadN X5.here hexec rfl (hb hbytes d35) rfl ?_
    exact Steps.refl _)
  obtain ⟨v8, T8, X8, E8, g8⟩ := X5.callS hexec (Cmp3.law l b A o len) hown (wks W (staticW "java/lang/String" 177 Cmp3.yN)) (wk W Cmp3.tab) (W := 0) (Nat.le_of_ble_eq_true rfl) (Nat.le_of_ble_eq_true rfl) (Nat.le_refl _) (by show 0 + len ≤ len; omega) (g := (mkF m 36 #[.val (.ref a), .val (.ref b), .val (.int (Int32.ofNat o)), .val (.int (Int32.ofNat len)), .val .null, .unset] [.int (Int32.ofNat len), .int (Int32.ofNat o), .ref b])) rfl (by rw [hml]; rfl) c7 (argsL := [.ref b, .int (Int32.ofNat o), .int (Int32.ofNat len)]) (rest := []) rfl rfl (by show 2 * 0 + 0 ≤ _; decide) (hb hbytes d36) (⟨rfl, hA.mv X5.warmed.alike hh5, l1, l2, hp⟩)
  obtain ⟨e8, z8⟩ := E8
  obtain ⟨rfl, N, n1, n2, n3, n4, n5, n6⟩ := NewArr.mv _ T5 s _ _ hh5.symm (Vm.Alike.refl _) rfl e8
  rw [hh5] at z8
  have hB1 := hB.keep X8.warmed.alike (n6 _ _ hB.1)
  have hne : s.heap.size ≠ a := (Nat.ne_of_lt (Array.getElem?_eq_some_iff.mp hB.1).1).symm
  have c9 : Steps p.tables e below (s₁.setTop (entryFrame m #[.ref a, .ref b, .int (Int32.ofNat o), .int (Int32.ofNat len), .null] 6)) (T8.setTop (mkF m 39 #[.val (.ref a), .val (.ref b), .val (.int (Int32.ofNat o)), .val (.int (Int32.ofNat len)), .val .null, .unset] [.ref s.heap.size])) := g8
  have c10 : Steps p.tables e below (s₁.setTop (entryFrame m #[.ref a, .ref b, .int (Int32.ofNat o), .int (Int32.ofNat len), .null] 6)) (T8.setTop (mkF m 45 #[.val (.ref a), .val (.ref b), .val (.int (Int32.ofNat o)), .val (.int (Int32.ofNat len)), .val .null, .val (.ref s.heap.size)] [.int (Int32.ofNat N.slots.size), .ref s.heap.size, .ref a])) := by
    have hc : Steps p.tables e below (s₁.setTop (entryFrame m #[.ref a, .ref b, .int (Int32.ofNat o), .int (Int32.ofNat len), .null] 6)) (T8.setTop (mkF m 45 #[.val (.ref a), .val (.ref b), .val (.int (Int32.ofNat o)), .val (.int (Int32.ofNat len)), .val .null, .val (.ref s.heap.size)] [.int (Int32.ofNat len), .ref s.heap.size, .ref a])) := c9.trans (by
      refine XS.astore X8.here hexec rfl (hb hbytes d39) rfl rfl rfl ?_
      refine XS.aloadN X8.here hexec rfl (hb hbytes d41) rfl rfl ?_
      refine XS.aload X8.here hexec rfl (hb hbytes d42) rfl rfl ?_
      refine XS.iloadN X8.here hexec rfl (hb hbytes d44) rfl ?_
      exact Steps.refl _)
    rw [n4]; exact hc
  obtain ⟨v11, T11, X11, E11, g11⟩ := X8.callS hexec (CodL.law l s.heap.size N) hown (wks W (staticW "java/lang/String" 47 CodL.yN)) (wk W CodL.tab) (W := 1) (Nat.le_of_ble_eq_true rfl) (Nat.le_of_ble_eq_true rfl) (Nat.le_refl _) (by show 0 + len + 0 ≤ len; omega) (g := (mkF m 45 #[.val (.ref a), .val (.ref b), .val (.int (Int32.ofNat o)), .val (.int (Int32.ofNat len)), .val .null, .val (.ref s.heap.size)] [.int (Int32.ofNat N.slots.size), .ref s.heap.size, .ref a])) rfl (by rw [hml]; rfl) c10 (argsL := [.ref s.heap.size, .int (Int32.ofNat N.slots.size)]) (rest := [.ref a]) rfl rfl (by show 2 * 0 + (1 + 0) ≤ _; decide) (hb hbytes d45) (⟨rfl, n1⟩)
  obtain ⟨rfl, q11⟩ := E11
  have hB11 := hB1.mv (X8.warmed.alike.symm.trans X11.warmed.alike) q11
  have c12 : Steps p.tables e below (s₁.setTop (entryFrame m #[.ref a, .ref b, .int (Int32.ofNat o), .int (Int32.ofNat len), .null] 6)) (T11.setTop (mkF m 48 #[.val (.ref a), .val (.ref b), .val (.int (Int32.ofNat o)), .val (.int (Int32.ofNat len)), .val .null, .val (.ref s.heap.size)] [.int 0, .ref a])) := g11
  obtain ⟨T13, X13, p13, bl13, sl13, st13⟩ := X11.finit hexec hown (wk W (.fieldLink "java/lang/String" 15 "java/lang/String" "coder" "B")) (Or.inr ⟨_, (wk W (.laysFinal "java/lang/String" "java/lang/String" "coder" "B"))⟩) (Or.inl ⟨rfl, hnm⟩) f2 (Or.inl rfl) hB11 (t := .byte) (by decide +kernel) rfl (g := (mkF m 48 #[.val (.ref a), .val (.ref b), .val (.int (Int32.ofNat o)), .val (.int (Int32.ofNat len)), .val .null, .val (.ref s.heap.size)] [.int 0, .ref a])) rfl (rest := []) rfl (hb hbytes d48)
  have c14 : Steps p.tables e below (s₁.setTop (entryFrame m #[.ref a, .ref b, .int (Int32.ofNat o), .int (Int32.ofNat len), .null] 6)) (T13.setTop (mkF m 54 #[.val (.ref a), .val (.ref b), .val (.int (Int32.ofNat o)), .val (.int (Int32.ofNat len)), .val .null, .val (.ref s.heap.size)] [.ref s.heap.size, .ref a])) := (c12.trans (st13 _ (Steps.refl _))).trans (by
    refine XS.aloadN X13.here hexec rfl (hb hbytes d51) rfl rfl ?_
    refine XS.aload X13.here hexec rfl (hb hbytes d52) rfl rfl ?_
    exact Steps.refl _)
  obtain ⟨T15, X15, p15, bl15, sl15, st15⟩ := X13.finit hexec hown (wk W (.fieldLink "java/lang/String" 9 "java/lang/String" "value" "[B")) (Or.inr ⟨_, (wk W (.laysFinal "java/lang/String" "java/lang/String" "value" "[B"))⟩) (Or.inl ⟨rfl, hnm⟩) f1 (Or.inl rfl) bl13 (t := (.array .byte)) (by decide +kernel) rfl (g := (mkF m 54 #[.val (.ref a), .val (.ref b), .val (.int (Int32.ofNat o)), .val (.int (Int32.ofNat len)), .val .null, .val (.ref s.heap.size)] [.ref s.heap.size, .ref a])) rfl (rest := []) rfl (hb hbytes d54)
  have c16 : Steps p.tables e below (s₁.setTop (entryFrame m #[.ref a, .ref b, .int (Int32.ofNat o), .int (Int32.ofNat len), .null] 6)) (T15.setTop (mkF m 57 #[.val (.ref a), .val (.ref b), .val (.int (Int32.ofNat o)), .val (.int (Int32.ofNat len)), .val .null, .val (.ref s.heap.size)] [])) := c14.trans (st15 _ (Steps.refl _))
  have ap := apart (Or.inr ⟨_, (wk W (.laysFinal "java/lang/String" "java/lang/String" "value" "[B"))⟩) (Or.inr ⟨_, (wk W (.laysFinal "java/lang/String" "java/lang/String" "coder" "B"))⟩) f1 f2 (t₁ := .array .byte) (t₂ := .byte) (by decide +kernel) (by decide +kernel) (by decide)
  have al := X8.warmed.alike.symm.trans X15.warmed.alike
  have n7 : T11.heap[s.heap.size]? = some N := by rw [q11]; exact n1.1
  exact ⟨T15, none, _, _, _, X15, by simp, rfl, by omega, (fun _ => rfl), ⟨rfl, _, N, bl15, ((Same.refl D _).set _ (by simp)).set _ (by simp), sl15, (Cell.slots_setSlot_ne _ ap).trans sl13, n1.keep al (p15.other hne (p13.other hne n7)), n2, by rw [al.findClass]; exact n3, n4, n5, fun y c h1 h2 => p15.other h1 (p13.other h1 (by rw [q11]; exact n6 y c h2)), by rw [p15.2.2, p13.2.2, q11]; exact z8⟩, fun fs hl => c16.trans (X15.returnOut hexec hret (hb hbytes d57) hl)⟩
end New4
namespace New1
def yN : MethodName := ⟨"java/lang/String", "<init>", "([C)V"⟩
abbrev yB : ByteArray := jdk_42_method_3_code
theorem d0 : decode yB 0 = .ok (.aload_n 0, 1) := by decide +kernel
theorem d1 : decode yB 1 = .ok (.aload_n 1, 1) := by decide +kernel
theorem d2 : decode yB 2 = .ok (.iconst 0, 1) := by decide +kernel
theorem d3 : decode yB 3 = .ok (.aload_n 1, 1) := by decide +kernel
theorem d4 : decode yB 4 = .ok (.arraylength, 1) := by decide +kernel
theorem d5 : decode yB 5 = .ok (.aconst_null, 1) := by decide +kernel
theorem d6 : decode yB 6 = .ok (.invokespecial 27, 3) := by decide +kernel
theorem d9 : decode yB 9 = .ok (.return_, 1) := by decide +kernel
def site : List Cond := [New4.tab] ++ initW "java/lang/String" 27 New4.yN
def tab : Cond := tabOf yN yB 2 none site
def P (a : Addr) (D : Cell) (fV fC : Field) (b : Addr) (A : Cell) (z : Int32) (args : Array Value) (s : State) : Prop := args = #[.ref a, .ref b] ∧ Blank "java/lang/String" a D s ∧ Found "java/lang/String" "value" "[B" fV s ∧ Found "java/lang/String" "coder" "B" fC s ∧ Ch b A s ∧ StaticIs s "java/lang/String" "COMPACT_STRINGS" "Z" (.int z) ∧ ¬ z = 0 ∧ 0 < A.slots.size ∧ A.slots.size ≤ 536870912 ∧ ∀ i, i < A.slots.size → ¬ 255 < cv A i
def E (a : Addr) (D : Cell) (fV fC : Field) (A : Cell) (r : Option Value) (s u : State) : Prop := Got a D fV fC A 0 A.slots.size r s u
/-- new String(chars), not empty, no char above 255: a Latin-1 String of their low bytes -/
theorem law (l : Launch) (a : Addr) (D : Cell) (fV fC : Field) (b : Addr) (A : Cell) (z : Int32) : Law l yN 2 1 3 52 yB 2 none site (P a D fV fC b A z) (E a D fV fC A) [⟨a, fC.slot⟩, ⟨a, fV.slot⟩] 1 A.slots.size := by
  refine Law.of_walk (plainFor_of_name (by decide +kernel)) (by decide +kernel) (by decide +kernel) (by decide) (fun _ _ h => by rw [h.1]; rfl) (fun _ U U' hal hh h => ⟨h.1, h.2.1.mv hal hh, h.2.2.1.al hal, h.2.2.2.1.al hal, h.2.2.2.2.1.mv hal hh, h.2.2.2.2.2.1.there hal hh, h.2.2.2.2.2.2⟩) (fun r U U' V V' h1 hal h2 h => Got.mv r U U' V V' h1 hal h2 h) ?_
  intro p e s m args below meth c s₁ X0 hexec hbytes hml hret hlk hnm hown hh0 W hP
  obtain ⟨rfl, hB, f1, f2, hA, s1, hz, l0, l2, hp⟩ := hP
  have c1 : Steps p.tables e below (s₁.setTop (entryFrame m #[.ref a, .ref b] 2)) (s₁.setTop (mkF m 0 #[.val (.ref a), .val (.ref b)] [])) := entry rfl
  have c2 : Steps p.tables e below (s₁.setTop (entryFrame m #[.ref a, .ref b] 2)) (s₁.setTop (mkF m 6 #[.val (.ref a), .val (.ref b)] [.null, .int (Int32.ofNat A.slots.size), .int 0, .ref b, .ref a])) := c1.trans (by
    refine XS.aloadN X0.here hexec rfl (hb hbytes d0) rfl rfl ?_
    refine XS.aloadN X0.here hexec rfl (hb hbytes d1) rfl rfl ?_
    refine iconstV X0.here hexec rfl 0 (hb hbytes d2) (by decide) ?_
    refine XS.aloadN X0.here hexec rfl (hb hbytes d3) rfl rfl ?_
    refine X0.alen hexec (hA.1.mv X0.warmed.alike hh0) rfl rfl (hb hbytes d4) ?_
    refine XS.aconstNull X0.here hexec rfl (hb hbytes d5) ?_
    exact Steps.refl _)
  obtain ⟨v3, T3, X3, E3, g3⟩ := X0.callN hexec (New4.law l a D fV fC b A z 0 A.slots.size) rfl hown (wks W (initW "java/lang/String" 27 New4.yN)) (W New4.tab (by simp only [site, List.mem_cons, List.mem_append, true_or, or_true])) (W := 0) (Nat.le_of_ble_eq_true rfl) (Nat.le_of_ble_eq_true rfl) (Nat.le_refl _) (by show 0 + A.slots.size ≤ A.slots.size; omega) (g := (mkF m 6 #[.val (.ref a), .val (.ref b)] [.null, .int (Int32.ofNat A.slots.size), .int (Int32.ofNat 0), .ref b, .ref a])) rfl (by rw [hml]; rfl) c2 (argsL := [.ref b, .int (Int32.ofNat 0), .int (Int32.ofNat A.slots.size), .null]) (rest := []) rfl rfl (by show 2 * 0 + 0 ≤ _; decide) (hb hbytes d6) (⟨rfl, hB.mv X0.warmed.alike hh0, f1.al X0.warmed.alike, f2.al X0.warmed.alike, hA.mv X0.warmed.alike hh0, s1.there X0.warmed.alike hh0, hz, l0, by omega, l2, fun i hi => by rw [Nat.zero_add]; exact hp i hi⟩)
  have e0 := Got.mv _ s₁ s _ _ hh0.symm (Vm.Alike.refl _) rfl E3
  obtain rfl := e0.1
  have c4 : Steps p.tables e below (s₁.setTop (entryFrame m #[.ref a, .ref b] 2)) (T3.setTop (mkF m 9 #[.val (.ref a), .val (.ref b)] [])) := g3
  exact ⟨T3, none, _, _, _, X3, by simp, rfl, by omega, (fun _ => rfl), e0, fun fs hl => c4.trans (X3.returnOut hexec hret (hb hbytes d9) hl)⟩
theorem pays {l : Launch} {R : Room} {p : Program} {e : Env} {below : List Frame} {s : State} {sargs : Array Value} {len W : Nat} (a : Addr) (D : Cell) (fV fC : Field) (b : Addr) (A : Cell) (z : Int32) (htab : tab.before sargs s = true) (hfr : 4 ≤ R.frames) (hlo : W + 65 ≤ R.locals) :
    Back l R p e below s sargs yN len W (fun A₁ a₁ => A₁.cells + 1 ≤ R.cells ∧ A₁.slots + A.slots.size ≤ R.slots ∧ P a D fV fC b A z a₁ A₁.U) (fun A₁ _ v₁ B₁ => E a D fV fC A v₁ A₁.U B₁.U ∧ B₁.locs = A₁.locs ++ [⟨a, fC.slot⟩, ⟨a, fV.slot⟩] ∧ B₁.cells = A₁.cells + 1 ∧ B₁.slots = A₁.slots + A.slots.size) :=
  (law l a D fV fC b A z).pays htab hfr (by omega)
end New1
/-- the byte, read back as charAt reads it, is the char -/
theorem lo8_mask {x : Int32} (h0 : ¬ x < 0) (h1 : ¬ 255 < x) : lo8 x &&& 255 = x := by
  have t : ∀ k : Fin 256, lo8 (Int32.ofNat k.val) &&& 255 = Int32.ofNat k.val := by decide +kernel
  rw [Int32.lt_iff_toInt_lt] at h0 h1
  have e0 : (0 : Int32).toInt = 0 := rfl
  have e1 : (255 : Int32).toInt = 255 := rfl
  obtain ⟨k, hk⟩ : ∃ k : Nat, x.toInt = k := ⟨x.toInt.toNat, by omega⟩
  have hx : x = Int32.ofNat k := Int32.toInt_inj.mp (by rw [hk, Int32.toInt_ofNat_small (by omega)])
  rw [hx]
  exact t ⟨k, by omega⟩
end StrChars
namespace StrChars.Road
open Jvm Sem ClassFile Op Lib Jvm.Stand Jvm.Free Jvm.Free.XT
open Jvm.Lib.Cold (StaticIs)
abbrev ST : String := "java/lang/String"
/-- every table word that New1's law asks, flat -/
abbrev words : List Jvm.Cond := [.code New1.yN New1.yB 2 none, .initialized ST, .methodLink ST 27 New4.yN, .instanceMethod New4.yN,
  .code New4.yN New4.yB 6 none, .fieldLink ST 38 ST "COMPACT_STRINGS" "Z", .laysFinal ST ST "value" "[B", .fieldLink ST 9 ST "value" "[B", .laysFinal ST ST "coder" "B", .fieldLink ST 15 ST "coder" "B",
  .methodLink ST 1 Lib.objectInit, .instanceMethod Lib.objectInit, .code Lib.objectInit ⟨#[0xb1]⟩ 1 none, .methodLink ST 177 Cmp3.yN, .static Cmp3.yN, .methodLink ST 47 CodL.yN, .static CodL.yN,
  .code Cmp3.yN Cmp3.yB 6 (some (.array .byte)), .initialized U16, .arrayClass .byte, .methodLink U16 115 Cmp5.yN, .static Cmp5.yN, .code Cmp5.yN Cmp5.yB 7 (some .int), .code CodL.yN CodL.yB 2 (some .byte)]
theorem tab_of {a : Array Value} {s : State} (h : ∀ w ∈ words, w.before a s = true) : New1.tab.before a s = true := by
  have h5 : Cmp5.tab.before a s = true := unparts (wk h (.code Cmp5.yN Cmp5.yB 7 (some .int))) (wks h (.initialized Cmp5.yN.cls :: Cmp5.site))
  have hc : CodL.tab.before a s = true := unparts (wk h (.code CodL.yN CodL.yB 2 (some .byte))) (wks h (.initialized CodL.yN.cls :: CodL.site))
  have q5 : ∀ w ∈ Cmp5.tab :: words, w.before a s = true := fun w hw => (List.mem_cons.mp hw).elim (fun e => e ▸ h5) (h w)
  have h3 : Cmp3.tab.before a s = true := unparts (wk q5 (.code Cmp3.yN Cmp3.yB 6 (some (.array .byte)))) (wks q5 (.initialized Cmp3.yN.cls :: Cmp3.site))
  have q3 : ∀ w ∈ Cmp3.tab :: CodL.tab :: words, w.before a s = true := fun w hw => (List.mem_cons.mp hw).elim (fun e => e ▸ h3) fun hw => (List.mem_cons.mp hw).elim (fun e => e ▸ hc) (h w)
  have h4 : New4.tab.before a s = true := unparts (wk q3 (.code New4.yN New4.yB 6 none)) (wks q3 (.initialized New4.yN.cls :: New4.site))
  have q4 : ∀ w ∈ New4.tab :: words, w.before a s = true := fun w hw => (List.mem_cons.mp hw).elim (fun e => e ▸ h4) (h w)
  exact unparts (wk q4 (.code New1.yN New1.yB 2 none)) (wks q4 (.initialized New1.yN.cls :: New1.site))
/-- the words ride from the start Z to the walk's own state -/
theorem moved {Z s : State} {a0 args : Array Value} (hZ : Z.Warmed39 s.vm) (hw : ∀ d ∈ words, d.before a0 Z = true) : ∀ d ∈ words, d.before args s = true := fun d hd => by
  have q := hw d hd
  have t : ∀ d ∈ words, d = .arrayClass .byte ∨ (d.onTables && d.keepsFace) = true := by decide +kernel
  rcases t d hd with rfl | t
  · exact RoadKit.mvA hZ q
  · exact RoadKit.mv hZ q t
/-- WHAT COMES BACK, over the tables of the start Z: h the heap at the call, h' behind it -/
def Q (Z : State) (x : Addr) (A : Cell) (h : Heap) (v : Option Value) (h' : Heap) (L : List Loc) : Prop := v = none ∧ (∀ y ∈ L, y.base = x) ∧ RoadKit.Keep h h' [x] ∧ h'.size = h.size + 1 ∧ RoadKit.Exa Z h' x ST ∧ RoadKit.Fld Z h' x ST "value" "[B" (.ref h.size) ∧ RoadKit.Fld Z h' x ST "coder" "B" (.int 0) ∧
  (∃ V : Cell, RoadKit.Arr Z h' h.size V .byte ∧ V.vm = .none ∧ Z.vm.findClass "[B" = some V.cls ∧ V.slots.size = A.slots.size ∧ ∀ j, j < A.slots.size → V.slots[j]? = some (.int (lo8 (cv A j)))) ∧
  ∀ (O n d : String) (w : Value), RoadKit.Fld Z h x O n d w → RoadKit.slotOf Z O n d ≠ RoadKit.slotOf Z ST "value" "[B" → RoadKit.slotOf Z O n d ≠ RoadKit.slotOf Z ST "coder" "B" → RoadKit.Fld Z h' x O n d w
/-- **new String(chars) AT A CALL, IN THE ROAD'S FORM**: for specialBack behind newO: x the fresh String, b the char[] with the cell A -/
theorem back {p : Program} {l : Launch} {e : Env} {R : Room} {s : State} {args : Array Value} {below : List Frame} {len W : Nat} {Z : State} {a0 : Array Value} {h : Heap} (hZ : Z.Warmed39 s.vm) (hw : ∀ d ∈ words, d.before a0 Z = true) {kI : Nat} (wi : (Jvm.Cond.instantiable ST kI).before a0 Z = true)
    {x b : Addr} {A : Cell} {z : Int32} {v0 c0 : Value} (E : RoadKit.Exa Z h x ST) (V : RoadKit.Fld Z h x ST "value" "[B" v0) (C : RoadKit.Fld Z h x ST "coder" "B" c0) (K : RoadKit.Arr Z h b A .char) (hty : Typed .char A) (S : RoadKit.Sta Z h ST "COMPACT_STRINGS" "Z" (.int z)) (hz : ¬ z = 0)
    (l0 : 0 < A.slots.size) (l2 : A.slots.size ≤ 536870912) (hp : ∀ i, i < A.slots.size → ¬ 255 < cv A i) (hfr : 4 ≤ R.frames) (hlo : W + 65 ≤ R.locals) :
    Back l R p e below s args New1.yN len W (fun P a => a = #[.ref x, .ref b] ∧ P.U.heap = h ∧ P.cells + 1 ≤ R.cells ∧ P.slots + A.slots.size ≤ R.slots)
      (fun P _ v B => ∃ L, Q Z x A h v B.U.heap L ∧ B.locs = P.locs ++ L ∧ B.cells = P.cells + 1 ∧ B.slots = P.slots + A.slots.size) := by
  intro m meth c P g ig mk a X hg hsize hdg hW hn hp'
  obtain ⟨rfl, rfl, r1, r2⟩ := hp'
  have al : Z.vm.Alike P.U.vm := hZ.alike.trans X.warmed.alike
  obtain ⟨D, cfV, kV, iV, fV, hD, gV, stV, knV, obV, asV, slV⟩ := id V
  obtain ⟨D', cfC, kC, iC, fC, hD', gC, stC, -, -, asC, slC⟩ := id C
  cases hD.symm.trans hD'
  obtain ⟨D2, kD, e1, e2, e3, e4, e5⟩ := id E
  cases hD.symm.trans e1
  obtain ⟨c2, k2, i1, i2, i3, -⟩ := Cond.instantiable_spec wi
  cases e2.symm.trans i1
  cases e3.symm.trans i2
  obtain ⟨kU, u1, u2⟩ := al.2.2 _ _ e3
  have hB : Blank ST x D P.U := ⟨hD, ⟨knV, fun q hq => by rw [hq] at obV; cases obV⟩, by rw [al.findClass]; exact e2, kU, u1, by rw [u2]; exact i3, by rw [u2]; exact e5 i3⟩
  have F1 : Found ST "value" "[B" fV P.U := ⟨SBG.found_only al ⟨cfV, kV, iV, gV⟩, stV⟩
  have F2 : Found ST "coder" "B" fC P.U := ⟨SBG.found_only al ⟨cfC, kC, iC, gC⟩, stC⟩
  have hA : Ch b A P.U := ⟨⟨K.1, State.isArrayOf_alike al K.2.1, K.2.2, by omega⟩, hty⟩
  have hS : StaticIs P.U ST "COMPACT_STRINGS" "Z" (.int z) := by
    obtain ⟨cfS, iS, kS, fS, st, cS, t1, t2, t3, t4, t5, t6, t7⟩ := S
    exact StaticIs.there (s := { Z with heap := P.U.heap }) ⟨cfS, iS, kS, fS, st, cS, t1, t2, t3, t4, t5, (fun q => by rw [q] at t6; cases t6), t7⟩ al rfl
  obtain ⟨v, B, X', ⟨⟨hv, E', V', q1, q2, q3, q4, q5, q6, q7, q8, q9, q10, q11⟩, hl, hc, hs⟩, st⟩ := New1.pays x D fV fC b A z (tab_of (moved hZ hw)) hfr hlo m meth c P g ig mk _ X hg hsize hdg hW hn ⟨r1, r2, rfl, hB, F1, F2, hA, hS, hz, l0, l2, hp⟩
  have al' : Z.vm.Alike B.U.vm := hZ.alike.trans X'.warmed.alike
  have hsz : E'.slots.size = D.slots.size := by
    obtain ⟨-, -, -, kB, w1, w2, w3⟩ := q1
    obtain ⟨kB', y1, y2⟩ := al'.2.2 _ _ e3
    rw [q2.2.1] at w1
    cases w1.symm.trans y1
    rw [w3, e5 i3, y2]
  refine ⟨v, B, X', ⟨_, ⟨hv, ?_, ⟨by omega, fun y cy hy hn' => q10 y cy (by simpa using hn') hy, fun y cy hy => ?_⟩, q11, ⟨E', _, q1.1, by rw [q2.2.1]; exact e2, by rw [q2.2.1]; exact e3, by rw [q2.1]; exact obV, fun _ => by rw [hsz]; exact e5 i3⟩,
    ⟨E', cfV, kV, iV, fV, q1.1, gV, stV, by rw [q2.1]; exact knV, by rw [q2.1]; exact obV, by rw [q2.2.1]; exact asV, q3⟩, ⟨E', cfC, kC, iC, fC, q1.1, gC, stC, by rw [q2.1]; exact knV, by rw [q2.1]; exact obV, by rw [q2.2.1]; exact asC, q4⟩,
    ⟨V', ⟨q5.1, State.isArrayOf_alike al'.symm q5.2.1, q5.2.2.1⟩, q6, by rw [← al'.findClass]; exact q7, q8, fun j hj => by have := q9 j hj; rwa [Nat.zero_add] at this⟩, fun O n d w F n1 n2 => ?_⟩, hl, hc, hs⟩, st⟩
  · intro y hy
    simp only [List.mem_cons, List.not_mem_nil, or_false] at hy
    rcases hy with rfl | rfl <;> rfl
  · by_cases q : y = x
    · subst q
      cases hD.symm.trans hy
      exact ⟨E', q1.1, q2.2.1, q2.1, hsz⟩
    · exact ⟨cy, q10 y cy q hy, rfl, rfl, rfl⟩
  · obtain ⟨D3, cf, k, i, f, g1, g2, g3, g4, g5, g6, g7⟩ := F
    cases hD.symm.trans g1
    simp only [RoadKit.slotOf, g2, gV, gC, Option.map_some, Option.getD_some] at n1 n2
    exact ⟨E', cf, k, i, f, q1.1, g2, g3, by rw [q2.1]; exact g4, by rw [q2.1]; exact g5, by rw [q2.2.1]; exact g6, by rw [q2.2.2 f.slot (by simp [n1, n2])]; exact g7⟩
end StrChars.Road
namespace StrChars.Road
open Jvm Sem ClassFile Op Lib Jvm.Stand Jvm.Free Jvm.Free.XT
/-- WHAT COMES BACK, the byte[] as a list of values -/
def QA (Z : State) (x : Addr) (zn : Int32) (cs : List Int32) (h : Heap) (v : Option Value) (h' : Heap) (L : List Loc) : Prop := v = none ∧ (∀ y ∈ L, y.base = x) ∧ RoadKit.Keep h h' [x] ∧ h'.size = h.size + 1 ∧ RoadKit.Exa Z h' x ST ∧ RoadKit.Fld Z h' x ST "value" "[B" (.ref h.size) ∧ RoadKit.Fld Z h' x ST "coder" "B" (.int 0) ∧
  (∃ kb, Z.vm.findClass "[B" = some kb ∧ RoadKit.Arv Z h' h.size kb .byte zn (cs.map fun c => .int (lo8 c)) (.int 0)) ∧
  ∀ (O n d : String) (w : Value), RoadKit.Fld Z h x O n d w → RoadKit.slotOf Z O n d ≠ RoadKit.slotOf Z ST "value" "[B" → RoadKit.slotOf Z O n d ≠ RoadKit.slotOf Z ST "coder" "B" → RoadKit.Fld Z h' x O n d w
/-- **new String(chars) AT A CALL, THE ARRAYS AS LISTS**: the char[] at b holds cs, not empty, no char above 255 -/
theorem backArv {p : Program} {l : Launch} {e : Env} {R : Room} {s : State} {args : Array Value} {below : List Frame} {len W : Nat} {Z : State} {a0 : Array Value} {h : Heap} (hZ : Z.Warmed39 s.vm) (hw : ∀ d ∈ words, d.before a0 Z = true) {kI : Nat} (wi : (Jvm.Cond.instantiable ST kI).before a0 Z = true)
    {x b : Addr} {k : ClassId} {zn z : Int32} {cs : List Int32} {dv v0 c0 : Value} (E : RoadKit.Exa Z h x ST) (V : RoadKit.Fld Z h x ST "value" "[B" v0) (C : RoadKit.Fld Z h x ST "coder" "B" c0) (K : RoadKit.Arv Z h b k .char zn (cs.map Value.int) dv) (S : RoadKit.Sta Z h ST "COMPACT_STRINGS" "Z" (.int z)) (hz : ¬ z = 0)
    (hlen : zn.toNatClampNeg = cs.length) (h0 : 0 < cs.length) (hbig : cs.length ≤ 536870912) (hall : ∀ c ∈ cs, ¬ 255 < c) (hfr : 4 ≤ R.frames) (hlo : W + 65 ≤ R.locals) :
    Back l R p e below s args New1.yN len W (fun P a => a = #[.ref x, .ref b] ∧ P.U.heap = h ∧ P.cells + 1 ≤ R.cells ∧ P.slots + cs.length ≤ R.slots)
      (fun P _ v B => ∃ L, QA Z x zn cs h v B.U.heap L ∧ B.locs = P.locs ++ L ∧ B.cells = P.cells + 1 ∧ B.slots = P.slots + cs.length) := by
  obtain ⟨A, K1, K2, K3, K4, K5, K6⟩ := K
  have e : A.slots.size = cs.length := K3.trans hlen
  have hat : ∀ (i : Nat) (hi : i < cs.length), A.slots[i]? = some (.int cs[i]) := fun i hi => by rw [K5 i (by omega)]; simp [List.getD_eq_getElem?_getD, hi]
  have hcv : ∀ (i : Nat) (hi : i < cs.length), cv A i = cs[i] := fun i hi => by unfold cv; rw [hat i hi]
  have hty : Typed .char A := fun i v hv => by
    have hi : i < A.slots.size := (Array.getElem?_eq_some_iff.mp hv).1
    have q := K5 i hi
    rw [hv] at q
    rw [Option.some.inj q]
    exact K6 i hi
  refine Back.mono (back hZ hw wi E V C K1 hty S hz (by omega) (by omega) (fun i hi => by rw [hcv i (by omega)]; exact hall _ (List.getElem_mem _)) hfr hlo) (fun P a hp => ⟨hp.1, hp.2.1, hp.2.2.1, by rw [e]; exact hp.2.2.2⟩) (fun P a v B hp hq => ?_)
  obtain ⟨L, ⟨q1, q2, q3, q4, q5, q6, q7, ⟨V', v1, v2, v3, v4, v5⟩, q9⟩, hl, hc, hs⟩ := hq
  refine ⟨L, ⟨q1, q2, q3, q4, q5, q6, q7, ⟨V'.cls, v3, V', v1, rfl, by rw [v4, e, hlen], K4, fun i hi => ?_, fun i hi => ?_⟩, q9⟩, hl, hc, by rw [hs, e]⟩
  · have hi' : i < cs.length := by omega
    rw [v5 i (by omega), hcv i hi']; simp [List.getD_eq_getElem?_getD, hi']
  · have hi' : i < cs.length := by omega
    simp only [List.getD_eq_getElem?_getD, List.getElem?_map, List.getElem?_eq_getElem hi', Option.map_some, Option.getD_some]
    exact fits_lo8 _
end StrChars.Road
namespace StrChars.Road
open Jvm Sem ClassFile Op Lib Jvm.Stand Jvm.Free Jvm.Free.XT
/-- WHAT COMES BACK, in the writer's own shape -/
def QV (Z : State) (x : Addr) (N : Int32) (bs : List Int32) (h : Heap) (n0 : Nat) (v : Option Value) (h' : Heap) (L : List Loc) : Prop := v = none ∧ RoadKit.Fr n0 L ∧ RoadKit.Keep h h' [x] ∧ RoadKit.Exa Z h' x ST ∧ RoadKit.Fld Z h' x ST "coder" "B" (.int 0) ∧
  ∃ (t : Addr) (kb : ClassId), n0 ≤ t ∧ h.size ≤ t ∧ ¬ t = x ∧ RoadKit.Fld Z h' x ST "value" "[B" (.ref t) ∧ RoadKit.Arv Z h' t kb .byte N (bs.map Value.int) (.int 0)
/-- **new String(chars) AT A CALL, FOR THE WRITER**: a char[] of n known ints, each 0 to 255 -/
theorem backV {p : Program} {l : Launch} {e : Env} {R : Room} {s : State} {args : Array Value} {below : List Frame} {len W : Nat} {Z : State} {a0 : Array Value} {h : Heap} (hZ : Z.Warmed39 s.vm) (hw : ∀ d ∈ words, d.before a0 Z = true) {kI : Nat} (wi : (Jvm.Cond.instantiable ST kI).before a0 Z = true)
    {x b : Addr} {kC : ClassId} {cs bs : List Int32} {d v0 c0 : Value} {z N : Int32} {n n0 : Nat} (hx0 : n0 ≤ x) (hh0 : n0 ≤ h.size) (E : RoadKit.Exa Z h x ST) (V : RoadKit.Fld Z h x ST "value" "[B" v0) (C : RoadKit.Fld Z h x ST "coder" "B" c0) (K : RoadKit.Arv Z h b kC .char N (cs.map Value.int) d) (S : RoadKit.Sta Z h ST "COMPACT_STRINGS" "Z" (.int z)) (hz : ¬ z = 0)
    (hn : cs.length = n) (hN : N = Int32.ofNat n) (l0 : 0 < n) (l2 : n ≤ 4000) (hp : ∀ c ∈ cs, ¬ c < 0 ∧ ¬ (255 : Int32) < c) (hb : bs = cs.map (fun c => c.toInt8.toInt32)) (hfr : 4 ≤ R.frames) (hlo : W + 65 ≤ R.locals) :
    Back l R p e below s args (⟨"java/lang/String", "<init>", "([C)V"⟩ : MethodName) len W (fun P a => a = #[.ref x, .ref b] ∧ P.U.heap = h ∧ P.cells + 1 ≤ R.cells ∧ P.slots + n ≤ R.slots)
      (fun P _ v B => ∃ L, QV Z x N bs h n0 v B.U.heap L ∧ B.locs = P.locs ++ L ∧ B.cells = P.cells + 1 ∧ B.slots = P.slots + n) := by
  subst hn hN hb
  refine Back.mono (backArv hZ hw wi E V C K S hz (n32 (by omega)) l0 (by omega) (fun c hc => (hp c hc).2) hfr hlo) (fun P a hp => hp) (fun P a v B hp hq => ?_)
  obtain ⟨L, ⟨q1, q2, q3, q4, q5, q6, q7, ⟨kb, v1, v2⟩, q9⟩, hl, hc, hs⟩ := hq
  exact ⟨L, ⟨q1, fun y hy => by rw [q2 y hy]; exact hx0, q3, q5, q7, h.size, kb, hh0, Nat.le_refl _, Nat.ne_of_gt E.lt, q6, by rw [List.map_map]; exact v2⟩, hl, hc, hs⟩
end StrChars.Road
namespace StrChars
open Jvm Sem ClassFile Op Lib Jvm.Stand Jvm.Free.XT Jvm.Free.ALB Jvm.Free.JM Jvm.Free
open Jvm.Lib.Cold (StaticIs)
def hi8 (x : Int32) : Int32 := lo8 (x >>> ((8 : Int32) &&& 31))
/-- what StringUTF16.getChar makes of two bytes -/
def pairCh (u v : Int32) : Int32 := (((u &&& 255) <<< ((0 : Int32) &&& 31)) ||| ((v &&& 255) <<< ((8 : Int32) &&& 31))).toUInt32.toUInt16.toUInt32.toInt32
theorem lo8_and (x : Int32) : (lo8 x &&& 255).toBitVec.toNat = x.toBitVec.toNat % 256 := by
  have h : (lo8 x).toBitVec = (x.toBitVec.signExtend 8).signExtend 32 := by rw [lo8, Int8.toBitVec_toInt32, Int32.toBitVec_toInt8]
  rw [Int32.toBitVec_and, BitVec.toNat_and, h]
  have e : ((x.toBitVec.signExtend 8).signExtend 32).toNat % 256 = x.toBitVec.toNat % 256 := by
    rw [BitVec.toNat_signExtend]
    have hlt := x.toBitVec.isLt
    simp only [BitVec.toNat_setWidth, BitVec.toNat_signExtend]
    split <;> split <;> omega
  rw [← e]
  exact Nat.and_two_pow_sub_one_eq_mod _ 8
theorem pair_says {c : Int32} (h0 : ¬ c < 0) (h1 : ¬ 65535 < c) : pairCh (lo8 c) (hi8 c) = c := by
  rw [Int32.lt_iff_toInt_lt] at h0 h1
  have e0 : (0 : Int32).toInt = 0 := rfl
  have e1 : (65535 : Int32).toInt = 65535 := rfl
  have hc : c.toInt = c.toBitVec.toNat := by
    have := c.toBitVec.isLt
    have e : c.toInt = c.toBitVec.toInt := rfl
    rw [e] at h0 h1
    rw [e]
    rw [BitVec.toInt_eq_toNat_cond] at h0 h1 ⊢
    split at h0 <;> split <;> omega
  have hn : c.toBitVec.toNat < 65536 := by omega
  have a1 := lo8_and c
  have a2 : (hi8 c &&& 255).toBitVec.toNat = c.toBitVec.toNat / 256 := by
    rw [hi8, lo8_and]
    have e : ((8 : Int32) &&& 31) = 8 := by decide
    rw [e, Int32.toBitVec_shiftRight]
    have e2 : ((8 : Int32).toBitVec.smod 32) = 8#32 := by decide
    rw [e2, BitVec.sshiftRight_eq', BitVec.toNat_sshiftRight_of_msb_false (by rw [BitVec.msb_eq_false_iff_two_mul_lt]; omega)]
    show c.toBitVec.toNat >>> 8 % 256 = _
    rw [Nat.shiftRight_eq_div_pow]
    omega
  unfold pairCh
  apply Int32.toBitVec_inj.mp
  apply BitVec.eq_of_toNat_eq
  have f0 : ((0 : Int32) &&& 31) = 0 := by decide
  have f8 : ((8 : Int32) &&& 31) = 8 := by decide
  rw [f0, f8]
  have g : (((lo8 c &&& 255) <<< (0 : Int32)) ||| ((hi8 c &&& 255) <<< (8 : Int32))).toBitVec.toNat = c.toBitVec.toNat := by
    rw [Int32.toBitVec_or, Int32.toBitVec_shiftLeft, Int32.toBitVec_shiftLeft]
    have s0 : ((0 : Int32).toBitVec.smod 32) = 0#32 := by decide
    have s8 : ((8 : Int32).toBitVec.smod 32) = 8#32 := by decide
    rw [s0, s8, BitVec.toNat_or]
    simp only [BitVec.shiftLeft_eq', BitVec.toNat_shiftLeft, a1, a2]
    show (c.toBitVec.toNat % 256) <<< 0 % 2 ^ 32 ||| (c.toBitVec.toNat / 256) <<< 8 % 2 ^ 32 = _
    rw [Nat.shiftLeft_zero, Nat.mod_eq_of_lt (show c.toBitVec.toNat % 256 < 2 ^ 32 by omega), Nat.mod_eq_of_lt (show (c.toBitVec.toNat / 256) <<< 8 < 2 ^ 32 by rw [Nat.shiftLeft_eq]; omega), Nat.or_comm, ← Nat.shiftLeft_add_eq_or_of_lt (by omega), Nat.shiftLeft_eq]
    omega
  show BitVec.toNat (((((lo8 c &&& 255) <<< (0 : Int32)) ||| ((hi8 c &&& 255) <<< (8 : Int32))).toBitVec.setWidth 16).setWidth 32) = _
  rw [BitVec.toNat_setWidth, BitVec.toNat_setWidth, g]
  omega
end StrChars
namespace StrChars
open Jvm Sem ClassFile Op Lib Jvm.Stand Jvm.Free.XT Jvm.Free.ALB Jvm.Free.JM Jvm.Free
open Jvm.Lib.Cold (StaticIs)
/-- the array's cell V codes the n chars f 0 .. f (n - 1) by the coder cd, as the JDK does: coder 1 just where some char is above 255 -/
def Cod (cd : Int32) (n : Nat) (f : Nat → Int32) (V : Cell) : Prop := (cd = 0 ∧ V.slots.size = n ∧ ∀ j, j < n → V.slots[j]? = some (.int (lo8 (f j))) ∧ ¬ 255 < f j) ∨ (cd = 1 ∧ V.slots.size = 2 * n ∧ (∀ j, j < n → V.slots[2 * j]? = some (.int (lo8 (f j))) ∧ V.slots[2 * j + 1]? = some (.int (hi8 (f j)))) ∧ ∃ j, j < n ∧ 255 < f j)
/-- **x is a String of the n chars f 0 .. f (n - 1)**, Latin-1 or UTF-16; its array at t has the cell V -/
def Txt (x t : Addr) (V : Cell) (cd : Int32) (n : Nat) (f : Nat → Int32) (U : State) : Prop := Exact "java/lang/String" x U ∧ Has x "java/lang/String" "value" "[B" (.ref t) U ∧ Has x "java/lang/String" "coder" "B" (.int cd) U ∧ XT.Arr .byte t V U ∧ Cod cd n f V ∧ ∀ j, j < n → ¬ f j < 0 ∧ ¬ 65535 < f j
theorem Txt.mv {x t : Addr} {V : Cell} {cd : Int32} {n : Nat} {f : Nat → Int32} {U U' : State} (h : Txt x t V cd n f U) (hal : U.vm.Alike U'.vm) (hh : U'.heap = U.heap) : Txt x t V cd n f U' := ⟨h.1.mv hal hh, h.2.1.mv hal hh, h.2.2.1.mv hal hh, h.2.2.2.1.mv hal hh, h.2.2.2.2⟩
end StrChars
namespace StrChars.Road
open Jvm Sem ClassFile Op Lib Jvm.Stand Jvm.Free Jvm.Free.XT
open Jvm.Lib.Cold (StaticIs)
theorem consq {a : Array Value} {s : State} {c : Jvm.Cond} {L : List Jvm.Cond} (h0 : c.before a s = true) (h : ∀ w ∈ L, w.before a s = true) : ∀ w ∈ c :: L, w.before a s = true := fun w hw => (List.mem_cons.mp hw).elim (fun e => e ▸ h0) (h w)
/-- the bytes of the chars cs, low before high -/
def wideBytes : List Int32 → List Value
  | [] => []
  | c :: cs => .int (lo8 c) :: .int (hi8 c) :: wideBytes cs
theorem wide_lo (d : Value) : ∀ (cs : List Int32) (j : Nat), j < cs.length → (wideBytes cs).getD (2 * j) d = .int (lo8 (cs.getD j 0))
  | [], j, h => absurd h (Nat.not_lt_zero j)
  | c :: cs, 0, _ => rfl
  | c :: cs, j + 1, h => by
    have q := wide_lo d cs j (by simpa using h)
    rw [show 2 * (j + 1) = 2 * j + 1 + 1 from by omega]
    simpa [wideBytes] using q
theorem wide_hi (d : Value) : ∀ (cs : List Int32) (j : Nat), j < cs.length → (wideBytes cs).getD (2 * j + 1) d = .int (hi8 (cs.getD j 0))
  | [], j, h => absurd h (Nat.not_lt_zero j)
  | c :: cs, 0, _ => rfl
  | c :: cs, j + 1, h => by
    have q := wide_hi d cs j (by simpa using h)
    rw [show 2 * (j + 1) + 1 = 2 * j + 1 + 1 + 1 from by omega]
    simpa [wideBytes] using q
theorem low_at (d : Value) (cs : List Int32) (j : Nat) (h : j < cs.length) : (cs.map fun c => Value.int (lo8 c)).getD j d = .int (lo8 (cs.getD j 0)) := by
  simp [List.getD_eq_getElem?_getD, h]
/-- an array of N2 bytes vs codes the chars cs by the coder cd -/
def CodA (cs : List Int32) (cd N2 : Int32) (vs : List Value) : Prop := (cd = 0 ∧ N2 = Int32.ofNat cs.length ∧ vs = (cs.map fun c => Value.int (lo8 c)) ∧ ∀ c ∈ cs, ¬ 255 < c) ∨ (cd = 1 ∧ N2 = Int32.ofNat (2 * cs.length) ∧ vs = wideBytes cs ∧ ∃ c ∈ cs, 255 < c)
theorem CodA.cod {cs : List Int32} {cd N2 : Int32} {vs : List Value} {V : Cell} (h : CodA cs cd N2 vs) (hn : 2 * cs.length < 2 ^ 31) (hs : V.slots.size = N2.toNatClampNeg) (hv : RoadKit.Has V vs (.int 0)) : Cod cd cs.length (fun j => cs.getD j 0) V := by
  rcases h with ⟨rfl, rfl, rfl, h⟩ | ⟨rfl, rfl, rfl, c, hc, hw⟩
  · rw [n32 (by omega)] at hs
    exact Or.inl ⟨rfl, hs, fun j hj => ⟨by rw [hv j (by omega), low_at _ _ _ hj], by
      have e : cs.getD j 0 = cs[j] := by simp [List.getD_eq_getElem?_getD, hj]
      show ¬ 255 < cs.getD j 0
      rw [e]; exact h _ (List.getElem_mem _)⟩⟩
  · rw [n32 (by omega)] at hs
    obtain ⟨j, hj, rfl⟩ := List.getElem_of_mem hc
    exact Or.inr ⟨rfl, hs, fun j hj => ⟨by rw [hv _ (by omega), wide_lo _ _ _ hj], by rw [hv _ (by omega), wide_hi _ _ _ hj]⟩, j, hj, by
      have e : cs.getD j 0 = cs[j] := by simp [List.getD_eq_getElem?_getD, hj]
      show 255 < cs.getD j 0
      rw [e]; exact hw⟩
/-- an object of exactly java/lang/String, its two fields found: as the laws ask it -/
theorem strObj {Z U : State} {a0 : Array Value} {kI : Nat} (wi : (Jvm.Cond.instantiable ST kI).before a0 Z = true) (al : Z.vm.Alike U.vm) {x : Addr} {v0 c0 : Value} (E : RoadKit.Exa Z U.heap x ST) (V : RoadKit.Fld Z U.heap x ST "value" "[B" v0) (C : RoadKit.Fld Z U.heap x ST "coder" "B" c0) :
    ∃ (D : Cell) (fV fC : Field), Blank ST x D U ∧ Found ST "value" "[B" fV U ∧ Found ST "coder" "B" fC U ∧ D.slots[fV.slot]? = some v0 ∧ D.slots[fC.slot]? = some c0 ∧ RoadKit.slotOf Z ST "value" "[B" = fV.slot ∧ RoadKit.slotOf Z ST "coder" "B" = fC.slot := by
  obtain ⟨D, cfV, kV, iV, fV, hD, gV, stV, knV, obV, asV, slV⟩ := V
  obtain ⟨D', cfC, kC, iC, fC, hD', gC, stC, -, -, asC, slC⟩ := C
  cases hD.symm.trans hD'
  obtain ⟨D2, kD, e1, e2, e3, e4, e5⟩ := E
  cases hD.symm.trans e1
  obtain ⟨c2, k2, i1, i2, i3, -⟩ := Cond.instantiable_spec wi
  cases e2.symm.trans i1
  cases e3.symm.trans i2
  obtain ⟨kU, u1, u2⟩ := al.2.2 _ _ e3
  exact ⟨D, fV, fC, ⟨hD, ⟨knV, fun q hq => by rw [hq] at obV; cases obV⟩, by rw [al.findClass]; exact e2, kU, u1, by rw [u2]; exact i3, by rw [u2]; exact e5 i3⟩, ⟨SBG.found_only al ⟨cfV, kV, iV, gV⟩, stV⟩, ⟨SBG.found_only al ⟨cfC, kC, iC, gC⟩, stC⟩, slV, slC, by simp [RoadKit.slotOf, gV], by simp [RoadKit.slotOf, gC]⟩
theorem sta_is {Z U : State} (al : Z.vm.Alike U.vm) {C n d : String} {v : Value} (S : RoadKit.Sta Z U.heap C n d v) : StaticIs U C n d v := by
  obtain ⟨cfS, iS, kS, fS, st, cS, t1, t2, t3, t4, t5, t6, t7⟩ := S
  exact StaticIs.there (s := { Z with heap := U.heap }) ⟨cfS, iS, kS, fS, st, cS, t1, t2, t3, t4, t5, (fun q => by rw [q] at t6; cases t6), t7⟩ al rfl
end StrChars.Road
namespace StrChars
open Jvm Sem ClassFile Op Lib Jvm.Stand Jvm.Free.XT Jvm.Free.ALB Jvm.Free.JM Jvm.Free
open Jvm.Lib.Cold (StaticIs)
/-- what place i of a byte[]'s cell holds -/
def yv (A : Cell) (i : Nat) : Int32 := match A.slots[i]? with | some (.int x) => x | _ => 0
theorem yv_get {a : Addr} {A : Cell} {U : State} (h : XT.Arr .byte a A U) (ht : Typed .byte A) {i : Nat} (hi : i < A.slots.size) : A.slots[i]? = some (.int (yv A i)) := by
  have e := Array.getElem?_eq_getElem hi
  have f := ht i _ e
  unfold yv; rw [e]
  generalize A.slots[i] = v at f
  cases v <;> simp [fits] at f ⊢
/-- the two arrays are equal, place for place -/
def EqC (A B : Cell) : Prop := A.slots.size = B.slots.size ∧ ∀ i, i < A.slots.size → yv A i = yv B i
/-- a boolean that says whether p -/
def Says01 (q : Prop) (r : Option Value) (s u : State) : Prop := ∃ v : Int32, r = some (.int v) ∧ u.heap = s.heap ∧ ((v = 1 ∧ q) ∨ (v = 0 ∧ ¬ q))
theorem Says01.mv {q : Prop} : ∀ r (U U' V V' : State), U'.heap = U.heap → V.vm.Alike V'.vm → V'.heap = V.heap → Says01 q r U V → Says01 q r U' V' :=
  fun r U U' V V' h1 _ h2 ⟨v, a, b, c⟩ => ⟨v, a, by rw [h1, h2]; exact b, c⟩
namespace LEq
def yN : MethodName := ⟨"java/lang/StringLatin1", "equals", "([B[B)Z"⟩
abbrev yB : ByteArray := jdk_43_method_13_code
theorem d0 : decode yB 0 = .ok (.aload_n 0, 1) := by decide +kernel
theorem d1 : decode yB 1 = .ok (.arraylength, 1) := by decide +kernel
theorem d2 : decode yB 2 = .ok (.aload_n 1, 1) := by decide +kernel
theorem d3 : decode yB 3 = .ok (.arraylength, 1) := by decide +kernel
theorem d4 : decode yB 4 = .ok (.if_icmp (.ne) 30, 3) := by decide +kernel
theorem d7 : decode yB 7 = .ok (.iconst 0, 1) := by decide +kernel
theorem d8 : decode yB 8 = .ok (.istore_n 2, 1) := by decide +kernel
theorem d9 : decode yB 9 = .ok (.iload_n 2, 1) := by decide +kernel
theorem d10 : decode yB 10 = .ok (.aload_n 0, 1) := by decide +kernel
theorem d11 : decode yB 11 = .ok (.arraylength, 1) := by decide +kernel
theorem d12 : decode yB 12 = .ok (.if_icmp (.ge) 20, 3) := by decide +kernel
theorem d15 : decode yB 15 = .ok (.aload_n 0, 1) := by decide +kernel
theorem d16 : decode yB 16 = .ok (.iload_n 2, 1) := by decide +kernel
theorem d17 : decode yB 17 = .ok (.baload, 1) := by decide +kernel
theorem d18 : decode yB 18 = .ok (.aload_n 1, 1) := by decide +kernel
theorem d19 : decode yB 19 = .ok (.iload_n 2, 1) := by decide +kernel
theorem d20 : decode yB 20 = .ok (.baload, 1) := by decide +kernel
theorem d21 : decode yB 21 = .ok (.if_icmp (.eq) 5, 3) := by decide +kernel
theorem d24 : decode yB 24 = .ok (.iconst 0, 1) := by decide +kernel
theorem d25 : decode yB 25 = .ok (.ireturn, 1) := by decide +kernel
theorem d26 : decode yB 26 = .ok (.iinc 2 1, 3) := by decide +kernel
theorem d29 : decode yB 29 = .ok (.goto (-20), 3) := by decide +kernel
theorem d32 : decode yB 32 = .ok (.iconst 1, 1) := by decide +kernel
theorem d33 : decode yB 33 = .ok (.ireturn, 1) := by decide +kernel
theorem d34 : decode yB 34 = .ok (.iconst 0, 1) := by decide +kernel
theorem d35 : decode yB 35 = .ok (.ireturn, 1) := by decide +kernel
def site : List Cond := []
def tab : Cond := tabOf yN yB 3 (some .boolean) site
def P (a : Addr) (A : Cell) (b : Addr) (B : Cell) (args : Array Value) (s : State) : Prop := args = #[.ref a, .ref b] ∧ XT.Arr .byte a A s ∧ Typed .byte A ∧ XT.Arr .byte b B s ∧ Typed .byte B
/-- whether two byte[] are equal, place for place -/
theorem law (l : Launch) (a : Addr) (A : Cell) (b : Addr) (B : Cell) : Law l yN 2 2 0 0 yB 3 (some .boolean) site (P a A b B) (Says01 (EqC A B)) [] 0 0 := by
  refine Law.of_walk (plainFor_of_name (by decide +kernel)) (by decide +kernel) (by decide +kernel) (by decide) (fun _ _ h => by rw [h.1]; rfl) (fun _ U U' hal hh h => ⟨h.1, h.2.1.mv hal hh, h.2.2.1, h.2.2.2.1.mv hal hh, h.2.2.2.2⟩) (fun r U U' V V' h1 hal h2 h => Says01.mv r U U' V V' h1 hal h2 h) ?_
  intro p e s m args below meth c s₁ X0 hexec hbytes hml hret hlk hnm hown hh0 W hP
  obtain ⟨rfl, hA, tA, hB, tB⟩ := hP
  have a31 := hA.2.2.2
  have b31 := hB.2.2.2
  have hA0 := hA.mv X0.warmed.alike hh0
  have hB0 := hB.mv X0.warmed.alike hh0
  have c1 : Steps p.tables e below (s₁.setTop (entryFrame m #[.ref a, .ref b] 3)) (s₁.setTop (mkF m 0 #[.val (.ref a), .val (.ref b), .unset] [])) := entry rfl
  have c2 : Steps p.tables e below (s₁.setTop (entryFrame m #[.ref a, .ref b] 3)) (s₁.setTop (mkF m 4 #[.val (.ref a), .val (.ref b), .unset] [.int (Int32.ofNat B.slots.size), .int (Int32.ofNat A.slots.size)])) := c1.trans (by
    refine XS.aloadN X0.here hexec rfl (hb hbytes d0) rfl rfl ?_
    refine X0.alen hexec hA0 rfl rfl (hb hbytes d1) ?_
    refine XS.aloadN X0.here hexec rfl (hb hbytes d2) rfl rfl ?_
    refine X0.alen hexec hB0 rfl rfl (hb hbytes d3) ?_
    exact Steps.refl _)
  by_cases hs : A.slots.size = B.slots.size
  · have c3 : Steps p.tables e below (s₁.setTop (entryFrame m #[.ref a, .ref b] 3)) (s₁.setTop (mkF m 9 #[.val (.ref a), .val (.ref b), .val (.int 0)] [])) := c2.trans (by
      refine XS.icmpNo X0.here hexec rfl (hb hbytes d4) rfl (ii_ne_f (by rw [hs])) ?_
      refine iconstV X0.here hexec rfl 0 (hb hbytes d7) (by decide) ?_
      refine XS.istoreN X0.here hexec rfl (hb hbytes d8) rfl rfl ?_
      exact Steps.refl _)
    have loop : ∀ (r i : Nat), i + r = A.slots.size → (∀ j, j < i → yv A j = yv B j) → Steps p.tables e below (s₁.setTop (entryFrame m #[.ref a, .ref b] 3)) (s₁.setTop (mkF m 9 #[.val (.ref a), .val (.ref b), .val (.int (Int32.ofNat i))] [])) → ∃ (pc : Nat) (Ls : Array Slot) (v : Int32), (pc = 25 ∨ pc = 33) ∧ ((v = 1 ∧ EqC A B) ∨ (v = 0 ∧ ¬ EqC A B)) ∧ Steps p.tables e below (s₁.setTop (entryFrame m #[.ref a, .ref b] 3)) (s₁.setTop (mkF m pc Ls [.int v])) := by
      intro r
      induction r with
      | zero =>
        intro i hi he cl
        exact ⟨33, _, 1, Or.inr rfl, Or.inl ⟨rfl, hs, fun j hj => he j (by omega)⟩, cl.trans (by
          refine XS.iloadN X0.here hexec rfl (hb hbytes d9) rfl ?_
          refine XS.aloadN X0.here hexec rfl (hb hbytes d10) rfl rfl ?_
          refine X0.alen hexec hA0 rfl rfl (hb hbytes d11) ?_
          refine XS.icmpYes X0.here hexec rfl (pc0 := 12) rfl (hb hbytes d12) rfl (ii_ge_t (nlt32 (by omega) (by omega))) (by decide) rfl ?_
          refine iconstV X0.here hexec rfl 1 (hb hbytes d32) (by decide) ?_
          exact Steps.refl _)⟩
      | succ r ih =>
        intro i hi he cl
        have c4 : Steps p.tables e below (s₁.setTop (entryFrame m #[.ref a, .ref b] 3)) (s₁.setTop (mkF m 21 #[.val (.ref a), .val (.ref b), .val (.int (Int32.ofNat i))] [.int (yv B i), .int (yv A i)])) := cl.trans (by
          refine XS.iloadN X0.here hexec rfl (hb hbytes d9) rfl ?_
          refine XS.aloadN X0.here hexec rfl (hb hbytes d10) rfl rfl ?_
          refine X0.alen hexec hA0 rfl rfl (hb hbytes d11) ?_
          refine XS.icmpNo X0.here hexec rfl (hb hbytes d12) rfl (ii_ge_f (lt32 (by omega) (by omega))) ?_
          refine XS.aloadN X0.here hexec rfl (hb hbytes d15) rfl rfl ?_
          refine XS.iloadN X0.here hexec rfl (hb hbytes d16) rfl ?_
          refine X0.aget hexec hA0 rfl (yv_get hA tA (i := i) (by omega)) rfl rfl (hb hbytes d17) ?_
          refine XS.aloadN X0.here hexec rfl (hb hbytes d18) rfl rfl ?_
          refine XS.iloadN X0.here hexec rfl (hb hbytes d19) rfl ?_
          refine X0.aget hexec hB0 rfl (yv_get hB tB (i := i) (by omega)) rfl rfl (hb hbytes d20) ?_
          exact Steps.refl _)
        by_cases hv : yv A i = yv B i
        · have c5 : Steps p.tables e below (s₁.setTop (entryFrame m #[.ref a, .ref b] 3)) (s₁.setTop (mkF m 9 #[.val (.ref a), .val (.ref b), .val (.int (Int32.ofNat i + 1))] [])) := c4.trans (by
            refine XS.icmpYes X0.here hexec rfl (pc0 := 21) rfl (hb hbytes d21) rfl (ii_eq_t hv) (by decide) rfl ?_
            refine iincV X0.here hexec rfl 1 (hb hbytes d26) (by decide) rfl rfl ?_
            refine XS.goto X0.here hexec rfl (pc0 := 29) rfl (hb hbytes d29) (by decide) rfl ?_
            exact Steps.refl _)
          rw [succ32] at c5
          exact ih (i + 1) (by omega) (fun j hj => by
            by_cases e : j = i
            · rw [e]; exact hv
            · exact he j (by omega)) c5
        · exact ⟨25, _, 0, Or.inl rfl, Or.inr ⟨rfl, fun q => hv (q.2 i (by omega))⟩, c4.trans (by
            refine XS.icmpNo X0.here hexec rfl (hb hbytes d21) rfl (ii_eq_f hv) ?_
            refine iconstV X0.here hexec rfl 0 (hb hbytes d24) (by decide) ?_
            exact Steps.refl _)⟩
    obtain ⟨pc, Ls, v, hpc, hv, cz⟩ := loop A.slots.size 0 (by omega) (fun j hj => absurd hj (Nat.not_lt_zero j)) c3
    have nv : narrow .boolean (.int v) = .int v := by rcases hv with ⟨rfl, -⟩ | ⟨rfl, -⟩ <;> rfl
    rcases hpc with rfl | rfl
    · exact ⟨s₁, some (.int v), _, _, _, X0, rfl, rfl, rfl, (fun h => by cases h), ⟨v, rfl, hh0, hv⟩, fun fs hl => cz.trans (X0.ireturnOut hexec hret nv (Or.inr (Or.inl rfl)) (hb hbytes d25) hl)⟩
    · exact ⟨s₁, some (.int v), _, _, _, X0, rfl, rfl, rfl, (fun h => by cases h), ⟨v, rfl, hh0, hv⟩, fun fs hl => cz.trans (X0.ireturnOut hexec hret nv (Or.inr (Or.inl rfl)) (hb hbytes d33) hl)⟩
  · have c3 : Steps p.tables e below (s₁.setTop (entryFrame m #[.ref a, .ref b] 3)) (s₁.setTop (mkF m 35 #[.val (.ref a), .val (.ref b), .unset] [.int 0])) := c2.trans (by
      refine XS.icmpYes X0.here hexec rfl (pc0 := 4) rfl (hb hbytes d4) rfl (ii_ne_t (ne32 a31 b31 hs)) (by decide) rfl ?_
      refine iconstV X0.here hexec rfl 0 (hb hbytes d34) (by decide) ?_
      exact Steps.refl _)
    exact ⟨s₁, some (.int 0), _, _, _, X0, rfl, rfl, rfl, (fun h => by cases h), ⟨0, rfl, hh0, Or.inr ⟨rfl, fun q => hs q.1⟩⟩, fun fs hl => c3.trans (X0.ireturnOut hexec hret rfl (Or.inr (Or.inl rfl)) (hb hbytes d35) hl)⟩
end LEq
theorem Cod.ty {cd : Int32} {n : Nat} {f : Nat → Int32} {V : Cell} (h : Cod cd n f V) : Typed .byte V := fun i v hv => by
  have hi : i < V.slots.size := (Array.getElem?_eq_some_iff.mp hv).1
  rcases h with ⟨-, k1, k2⟩ | ⟨-, k1, k2, -⟩
  · rw [(k2 i (by omega)).1] at hv; cases hv; exact fits_lo8 _
  · rcases Nat.mod_two_eq_zero_or_one i with e | e
    · obtain ⟨j, rfl⟩ : ∃ j, i = 2 * j := ⟨i / 2, by omega⟩
      rw [(k2 j (by omega)).1] at hv; cases hv; exact fits_lo8 _
    · obtain ⟨j, rfl⟩ : ∃ j, i = 2 * j + 1 := ⟨i / 2, by omega⟩
      rw [(k2 j (by omega)).2] at hv; cases hv; exact fits_lo8 _
/-- the same text -/
def SameT (n : Nat) (f : Nat → Int32) (k : Nat) (g : Nat → Int32) : Prop := n = k ∧ ∀ j, j < n → f j = g j
theorem lo8_inj {x y : Int32} (h0 : ¬ x < 0) (h1 : ¬ 255 < x) (k0 : ¬ y < 0) (k1 : ¬ 255 < y) (h : lo8 x = lo8 y) : x = y := by
  rw [← lo8_mask h0 h1, ← lo8_mask k0 k1, h]
/-- arrays coded by one coder are equal just where the texts are -/
theorem Cod.eqv {cd : Int32} {n k : Nat} {f g : Nat → Int32} {V V' : Cell} (h : Cod cd n f V) (h' : Cod cd k g V') (hf : ∀ j, j < n → ¬ f j < 0 ∧ ¬ 65535 < f j) (hg : ∀ j, j < k → ¬ g j < 0 ∧ ¬ 65535 < g j) : EqC V V' ↔ SameT n f k g := by
  have yvv : ∀ {W : Cell} {i : Nat} {x : Int32}, W.slots[i]? = some (.int x) → yv W i = x := fun q => by unfold yv; rw [q]
  rcases h with ⟨rfl, k1, k2⟩ | ⟨rfl, k1, k2, -⟩
  · rcases h' with ⟨-, m1, m2⟩ | ⟨e, -⟩
    · constructor
      · rintro ⟨e1, e2⟩
        refine ⟨by omega, fun j hj => ?_⟩
        have q := e2 j (by omega)
        rw [yvv (k2 j hj).1, yvv (m2 j (by omega)).1] at q
        exact lo8_inj (hf j hj).1 (k2 j hj).2 (hg j (by omega)).1 (m2 j (by omega)).2 q
      · rintro ⟨rfl, e2⟩
        refine ⟨by omega, fun j hj => ?_⟩
        rw [yvv (k2 j (by omega)).1, yvv (m2 j (by omega)).1, e2 j (by omega)]
    · exact absurd e (by decide)
  · rcases h' with ⟨e, -⟩ | ⟨-, m1, m2, -⟩
    · exact absurd e (by decide)
    · constructor
      · rintro ⟨e1, e2⟩
        refine ⟨by omega, fun j hj => ?_⟩
        have q1 := e2 (2 * j) (by omega)
        have q2 := e2 (2 * j + 1) (by omega)
        rw [yvv (k2 j hj).1, yvv (m2 j (by omega)).1] at q1
        rw [yvv (k2 j hj).2, yvv (m2 j (by omega)).2] at q2
        rw [← pair_says (hf j hj).1 (hf j hj).2, ← pair_says (hg j (by omega)).1 (hg j (by omega)).2, q1, q2]
      · rintro ⟨rfl, e2⟩
        refine ⟨by omega, fun i hi => ?_⟩
        rcases Nat.mod_two_eq_zero_or_one i with e | e
        · obtain ⟨j, rfl⟩ : ∃ j, i = 2 * j := ⟨i / 2, by omega⟩
          rw [yvv (k2 j (by omega)).1, yvv (m2 j (by omega)).1, e2 j (by omega)]
        · obtain ⟨j, rfl⟩ : ∃ j, i = 2 * j + 1 := ⟨i / 2, by omega⟩
          rw [yvv (k2 j (by omega)).2, yvv (m2 j (by omega)).2, e2 j (by omega)]
/-- two codings differ: so do the texts -/
theorem Cod.dif {cd cd' : Int32} {n k : Nat} {f g : Nat → Int32} {V V' : Cell} (h : Cod cd n f V) (h' : Cod cd' k g V') (hne : ¬ cd = cd') : ¬ SameT n f k g := by
  rintro ⟨rfl, e⟩
  rcases h with ⟨rfl, -, k2⟩ | ⟨rfl, -, -, j, hj, hw⟩
  · rcases h' with ⟨rfl, -⟩ | ⟨-, -, -, j, hj, hw⟩
    · exact hne rfl
    · exact (k2 j hj).2 (by rw [e j hj]; exact hw)
  · rcases h' with ⟨-, -, m2⟩ | ⟨rfl, -⟩
    · exact (m2 j hj).2 (by rw [← e j hj]; exact hw)
    · exact hne rfl
/-- an object of exactly C is an instance of C -/
theorem cinst {p : Program} {l : Launch} {e : Env} {R : Room} {s : State} {m : MethodId} {args : Array Value} {below : List Frame} {meth : Method} {c : Code} {T : State} {locs : List Loc} {cells slots : Nat} (X : Stand p l e R s m args below meth c T locs cells slots) (hexec : p.tables.exec = Jvm.exec) {own C : String} {index : Nat} (hown : s.vm.findClass own = some m.cls) (hlink : (Cond.classLink own index C).before args s = true) {a : Addr} (hE : Exact C a T)
    {g : JFrame} (hg : g.method = m) {rest : List Value} (hstack : g.stack = .ref a :: rest) (hdg : decode c.code g.pc = .ok (.instanceof index, 3)) :
    ∃ T', Stand p l e R s m args below meth c T' locs cells slots ∧ T'.heap = T.heap ∧ ∀ target, Steps p.tables e below (T'.setTop { g with pc := g.pc + 3, stack := .int 1 :: rest }) target → Steps p.tables e below (T.setTop g) target := by
  obtain ⟨cB, h1, D, h2, h3, h4⟩ := hE
  have h1' : s.vm.findClass C = some cB := by rw [← X.warmed.alike.findClass]; exact h1
  obtain ⟨vm', X', st⟩ := X.instanceofYes hexec hown hlink h2 h4 h1' (by rw [h3]; exact Jvm.Free.SB.assignable_self _ _) hg hstack hdg
  exact ⟨_, X', rfl, st⟩
theorem cself {p : Program} {l : Launch} {e : Env} {R : Room} {s : State} {m : MethodId} {args : Array Value} {below : List Frame} {meth : Method} {c : Code} {T : State} {locs : List Loc} {cells slots : Nat} (X : Stand p l e R s m args below meth c T locs cells slots) (hexec : p.tables.exec = Jvm.exec) {own C : String} {index : Nat} (hown : s.vm.findClass own = some m.cls) (hlink : (Cond.classLink own index C).before args s = true) {a : Addr} (hE : Exact C a T)
    {g : JFrame} (hg : g.method = m) {rest : List Value} (hstack : g.stack = .ref a :: rest) (hdg : decode c.code g.pc = .ok (.checkcast index, 3)) :
    ∃ T', Stand p l e R s m args below meth c T' locs cells slots ∧ T'.heap = T.heap ∧ ∀ target, Steps p.tables e below (T'.setTop { g with pc := g.pc + 3, stack := .ref a :: rest }) target → Steps p.tables e below (T.setTop g) target := by
  obtain ⟨cB, h1, D, h2, h3, h4⟩ := hE
  have h1' : s.vm.findClass C = some cB := by rw [← X.warmed.alike.findClass]; exact h1
  obtain ⟨vm', X', st⟩ := X.checkcastYes hexec hown hlink h2 h4 h1' (by rw [h3]; exact Jvm.Free.SB.assignable_self _ _) hg hstack hdg
  exact ⟨_, X', rfl, fun t h => st t (by rw [← hstack] at h; exact h)⟩
namespace SEq
def yN : MethodName := ⟨"java/lang/String", "equals", "(Ljava/lang/Object;)Z"⟩
abbrev yB : ByteArray := jdk_42_method_66_code
theorem d0 : decode yB 0 = .ok (.aload_n 0, 1) := by decide +kernel
theorem d1 : decode yB 1 = .ok (.aload_n 1, 1) := by decide +kernel
theorem d2 : decode yB 2 = .ok (.if_acmp (.ne) 5, 3) := by decide +kernel
theorem d5 : decode yB 5 = .ok (.iconst 1, 1) := by decide +kernel
theorem d6 : decode yB 6 = .ok (.ireturn, 1) := by decide +kernel
theorem d7 : decode yB 7 = .ok (.aload_n 1, 1) := by decide +kernel
theorem d8 : decode yB 8 = .ok (.instanceof 10, 3) := by decide +kernel
theorem d11 : decode yB 11 = .ok (.ifCond (.eq) 43, 3) := by decide +kernel
theorem d14 : decode yB 14 = .ok (.aload_n 1, 1) := by decide +kernel
theorem d15 : decode yB 15 = .ok (.checkcast 10, 3) := by decide +kernel
theorem d18 : decode yB 18 = .ok (.astore_n 2, 1) := by decide +kernel
theorem d19 : decode yB 19 = .ok (.getstatic 38, 3) := by decide +kernel
theorem d22 : decode yB 22 = .ok (.ifCond (.eq) 14, 3) := by decide +kernel
theorem d25 : decode yB 25 = .ok (.aload_n 0, 1) := by decide +kernel
theorem d26 : decode yB 26 = .ok (.getfield 15, 3) := by decide +kernel
theorem d29 : decode yB 29 = .ok (.aload_n 2, 1) := by decide +kernel
theorem d30 : decode yB 30 = .ok (.getfield 15, 3) := by decide +kernel
theorem d33 : decode yB 33 = .ok (.if_icmp (.ne) 21, 3) := by decide +kernel
theorem d36 : decode yB 36 = .ok (.aload_n 0, 1) := by decide +kernel
theorem d37 : decode yB 37 = .ok (.getfield 9, 3) := by decide +kernel
theorem d40 : decode yB 40 = .ok (.aload_n 2, 1) := by decide +kernel
theorem d41 : decode yB 41 = .ok (.getfield 9, 3) := by decide +kernel
theorem d44 : decode yB 44 = .ok (.invokestatic 541, 3) := by decide +kernel
theorem d47 : decode yB 47 = .ok (.ifCond (.eq) 7, 3) := by decide +kernel
theorem d50 : decode yB 50 = .ok (.iconst 1, 1) := by decide +kernel
theorem d51 : decode yB 51 = .ok (.goto 4, 3) := by decide +kernel
theorem d54 : decode yB 54 = .ok (.iconst 0, 1) := by decide +kernel
theorem d55 : decode yB 55 = .ok (.ireturn, 1) := by decide +kernel
def site : List Cond := [.classLink "java/lang/String" 10 "java/lang/String", .fieldLink "java/lang/String" 38 "java/lang/String" "COMPACT_STRINGS" "Z", .fieldLink "java/lang/String" 15 "java/lang/String" "coder" "B", .fieldLink "java/lang/String" 9 "java/lang/String" "value" "[B", LEq.tab] ++ staticW "java/lang/String" 541 LEq.yN
def tab : Cond := tabOf yN yB 3 (some .boolean) site
def P (x t : Addr) (V : Cell) (cd : Int32) (n : Nat) (f : Nat → Int32) (y t' : Addr) (V' : Cell) (cd' : Int32) (k : Nat) (g : Nat → Int32) (z : Int32) (args : Array Value) (s : State) : Prop := args = #[.ref x, .ref y] ∧ Txt x t V cd n f s ∧ Txt y t' V' cd' k g s ∧ StaticIs s "java/lang/String" "COMPACT_STRINGS" "Z" (.int z) ∧ ¬ z = 0
/-- equals(Object) of two Strings: whether the texts are the same -/
theorem law (l : Launch) (x t : Addr) (V : Cell) (cd : Int32) (n : Nat) (f : Nat → Int32) (y t' : Addr) (V' : Cell) (cd' : Int32) (k : Nat) (g : Nat → Int32) (z : Int32) : Law l yN 2 1 1 14 yB 3 (some .boolean) site (P x t V cd n f y t' V' cd' k g z) (Says01 (SameT n f k g)) [] 0 0 := by
  refine Law.of_walk (plainFor_of_name (by decide +kernel)) (by decide +kernel) (by decide +kernel) (by decide) (fun _ _ h => by rw [h.1]; rfl) (fun _ U U' hal hh h => ⟨h.1, h.2.1.mv hal hh, h.2.2.1.mv hal hh, h.2.2.2.1.there hal hh, h.2.2.2.2⟩) (fun r U U' V V' h1 hal h2 h => Says01.mv r U U' V V' h1 hal h2 h) ?_
  intro p e s m args below meth c s₁ X0 hexec hbytes hml hret hlk hnm hown hh0 W hP
  obtain ⟨rfl, hx, hy, s1, hz⟩ := hP
  have c1 : Steps p.tables e below (s₁.setTop (entryFrame m #[.ref x, .ref y] 3)) (s₁.setTop (mkF m 2 #[.val (.ref x), .val (.ref y), .unset] [.ref y, .ref x])) := Steps.trans (entry rfl) (by
    show Steps p.tables e below (s₁.setTop (mkF m 0 #[.val (.ref x), .val (.ref y), .unset] [])) _
    refine XS.aloadN X0.here hexec rfl (hb hbytes d0) rfl rfl ?_
    refine XS.aloadN X0.here hexec rfl (hb hbytes d1) rfl rfl ?_
    exact Steps.refl _)
  by_cases hxy : x = y
  · have c2 : Steps p.tables e below (s₁.setTop (entryFrame m #[.ref x, .ref y] 3)) (s₁.setTop (mkF m 6 #[.val (.ref x), .val (.ref y), .unset] [.int 1])) := c1.trans (by
      refine acmpNo X0.here hexec rfl (hb hbytes d2) rfl rfl rfl (by simp [acmp, hxy]) ?_
      refine iconstV X0.here hexec rfl 1 (hb hbytes d5) (by decide) ?_
      exact Steps.refl _)
    subst hxy
    have ec : cd = cd' := by
      obtain ⟨D, fd, a1, a2, a3⟩ := hx.2.2.1
      obtain ⟨D', fd', b1, b2, b3⟩ := hy.2.2.1
      cases a1.symm.trans b1
      obtain ⟨q1, q2, q3, q4⟩ := a2.1
      obtain ⟨r1, r2, r3, r4⟩ := b2.1
      cases q4.symm.trans r4
      cases a3.symm.trans b3; rfl
    have et : t = t' := by
      obtain ⟨D, fd, a1, a2, a3⟩ := hx.2.1
      obtain ⟨D', fd', b1, b2, b3⟩ := hy.2.1
      cases a1.symm.trans b1
      obtain ⟨q1, q2, q3, q4⟩ := a2.1
      obtain ⟨r1, r2, r3, r4⟩ := b2.1
      cases q4.symm.trans r4
      cases a3.symm.trans b3; rfl
    subst ec et
    have ev : V = V' := by cases hx.2.2.2.1.1.symm.trans hy.2.2.2.1.1; rfl
    subst ev
    have hs : SameT n f k g := (Cod.eqv hx.2.2.2.2.1 hy.2.2.2.2.1 hx.2.2.2.2.2 hy.2.2.2.2.2).mp ⟨rfl, fun _ _ => rfl⟩
    exact ⟨s₁, some (.int 1), _, _, _, X0, rfl, rfl, rfl, (fun h => by cases h), ⟨1, rfl, hh0, Or.inl ⟨rfl, hs⟩⟩, fun fs hl => c2.trans (X0.ireturnOut hexec hret rfl (Or.inr (Or.inl rfl)) (hb hbytes d6) hl)⟩
  · have c2 : Steps p.tables e below (s₁.setTop (entryFrame m #[.ref x, .ref y] 3)) (s₁.setTop (mkF m 8 #[.val (.ref x), .val (.ref y), .unset] [.ref y])) := c1.trans (by
      refine acmpYes X0.here hexec rfl (pc0 := 2) rfl (hb hbytes d2) rfl rfl rfl (by simp [acmp, hxy]) (by decide) rfl ?_
      refine XS.aloadN X0.here hexec rfl (hb hbytes d7) rfl rfl ?_
      exact Steps.refl _)
    obtain ⟨T3, X3, q3, st3⟩ := cinst X0 hexec hown (wk W (.classLink "java/lang/String" 10 "java/lang/String")) (hy.mv X0.warmed.alike hh0).1 (g := (mkF m 8 #[.val (.ref x), .val (.ref y), .unset] [.ref y])) rfl (rest := []) rfl (hb hbytes d8)
    have hh3 := q3.trans hh0
    have c4 : Steps p.tables e below (s₁.setTop (entryFrame m #[.ref x, .ref y] 3)) (T3.setTop (mkF m 15 #[.val (.ref x), .val (.ref y), .unset] [.ref y])) := (c2.trans (st3 _ (Steps.refl _))).trans (by
      refine XS.ifNo X3.here hexec rfl (hb hbytes d11) rfl (i0_eq_f (by decide)) ?_
      refine XS.aloadN X3.here hexec rfl (hb hbytes d14) rfl rfl ?_
      exact Steps.refl _)
    obtain ⟨T5, X5, q5, st5⟩ := cself X3 hexec hown (wk W (.classLink "java/lang/String" 10 "java/lang/String")) (hy.mv X3.warmed.alike hh3).1 (g := (mkF m 15 #[.val (.ref x), .val (.ref y), .unset] [.ref y])) rfl (rest := []) rfl (hb hbytes d15)
    have hh5 := q5.trans hh3
    have c6 : Steps p.tables e below (s₁.setTop (entryFrame m #[.ref x, .ref y] 3)) (T5.setTop (mkF m 19 #[.val (.ref x), .val (.ref y), .val (.ref y)] [])) := (c4.trans (st5 _ (Steps.refl _))).trans (by
      refine XS.astoreN X5.here hexec rfl (hb hbytes d18) rfl rfl rfl ?_
      exact Steps.refl _)
    obtain ⟨T7, X7, q7, st7⟩ := X5.sget hexec hown (wk W (.fieldLink "java/lang/String" 38 "java/lang/String" "COMPACT_STRINGS" "Z")) s1 (fun _ _ h => by rw [hh5]; exact h) (g := (mkF m 19 #[.val (.ref x), .val (.ref y), .val (.ref y)] [])) rfl (hb hbytes d19)
    have hh7 := q7.trans hh5
    have c8 : Steps p.tables e below (s₁.setTop (entryFrame m #[.ref x, .ref y] 3)) (T7.setTop (mkF m 26 #[.val (.ref x), .val (.ref y), .val (.ref y)] [.ref x])) := (c6.trans (st7 _ (Steps.refl _))).trans (by
      refine XS.ifNo X7.here hexec rfl (hb hbytes d22) rfl (i0_eq_f hz) ?_
      refine XS.aloadN X7.here hexec rfl (hb hbytes d25) rfl rfl ?_
      exact Steps.refl _)
    obtain ⟨T9, X9, q9, st9⟩ := X7.hget hexec hown (wk W (.fieldLink "java/lang/String" 15 "java/lang/String" "coder" "B")) (hx.mv X7.warmed.alike hh7).2.2.1 (g := (mkF m 26 #[.val (.ref x), .val (.ref y), .val (.ref y)] [.ref x])) rfl (rest := []) rfl (hb hbytes d26)
    have hh9 := q9.trans hh7
    have c10 : Steps p.tables e below (s₁.setTop (entryFrame m #[.ref x, .ref y] 3)) (T9.setTop (mkF m 30 #[.val (.ref x), .val (.ref y), .val (.ref y)] [.ref y, .int cd])) := (c8.trans (st9 _ (Steps.refl _))).trans (by
      refine XS.aloadN X9.here hexec rfl (hb hbytes d29) rfl rfl ?_
      exact Steps.refl _)
    obtain ⟨T11, X11, q11, st11⟩ := X9.hget hexec hown (wk W (.fieldLink "java/lang/String" 15 "java/lang/String" "coder" "B")) (hy.mv X9.warmed.alike hh9).2.2.1 (g := (mkF m 30 #[.val (.ref x), .val (.ref y), .val (.ref y)] [.ref y, .int cd])) rfl (rest := [.int cd]) rfl (hb hbytes d30)
    have hh11 := q11.trans hh9
    have c12 : Steps p.tables e below (s₁.setTop (entryFrame m #[.ref x, .ref y] 3)) (T11.setTop (mkF m 33 #[.val (.ref x), .val (.ref y), .val (.ref y)] [.int cd', .int cd])) := c10.trans (st11 _ (Steps.refl _))
    by_cases hcd : cd = cd'
    · subst hcd
      have c13 : Steps p.tables e below (s₁.setTop (entryFrame m #[.ref x, .ref y] 3)) (T11.setTop (mkF m 37 #[.val (.ref x), .val (.ref y), .val (.ref y)] [.ref x])) := c12.trans (by
        refine XS.icmpNo X11.here hexec rfl (hb hbytes d33) rfl (ii_ne_f rfl) ?_
        refine XS.aloadN X11.here hexec rfl (hb hbytes d36) rfl rfl ?_
        exact Steps.refl _)
      obtain ⟨T14, X14, q14, st14⟩ := X11.hget hexec hown (wk W (.fieldLink "java/lang/String" 9 "java/lang/String" "value" "[B")) (hx.mv X11.warmed.alike hh11).2.1 (g := (mkF m 37 #[.val (.ref x), .val (.ref y), .val (.ref y)] [.ref x])) rfl (rest := []) rfl (hb hbytes d37)
      have hh14 := q14.trans hh11
      have c15 : Steps p.tables e below (s₁.setTop (entryFrame m #[.ref x, .ref y] 3)) (T14.setTop (mkF m 41 #[.val (.ref x), .val (.ref y), .val (.ref y)] [.ref y, .ref t])) := (c13.trans (st14 _ (Steps.refl _))).trans (by
        refine XS.aloadN X14.here hexec rfl (hb hbytes d40) rfl rfl ?_
        exact Steps.refl _)
      obtain ⟨T16, X16, q16, st16⟩ := X14.hget hexec hown (wk W (.fieldLink "java/lang/String" 9 "java/lang/String" "value" "[B")) (hy.mv X14.warmed.alike hh14).2.1 (g := (mkF m 41 #[.val (.ref x), .val (.ref y), .val (.ref y)] [.ref y, .ref t])) rfl (rest := [.ref t]) rfl (hb hbytes d41)
      have hh16 := q16.trans hh14
      have c17 : Steps p.tables e below (s₁.setTop (entryFrame m #[.ref x, .ref y] 3)) (T16.setTop (mkF m 44 #[.val (.ref x), .val (.ref y), .val (.ref y)] [.ref t', .ref t])) := c15.trans (st16 _ (Steps.refl _))
      obtain ⟨v18, T18, X18, E18, g18⟩ := X16.callS hexec (LEq.law l t V t' V') hown (wks W (staticW "java/lang/String" 541 LEq.yN)) (wk W LEq.tab) (W := 0) (Nat.le_of_ble_eq_true rfl) (Nat.le_of_ble_eq_true rfl) (Nat.le_refl _) (Nat.le_refl _) (g := (mkF m 44 #[.val (.ref x), .val (.ref y), .val (.ref y)] [.ref t', .ref t])) rfl (by rw [hml]; rfl) c17 (argsL := [.ref t, .ref t']) (rest := []) rfl rfl (by show 2 * 0 + 0 ≤ _; decide) (hb hbytes d44) (⟨rfl, hx.2.2.2.1.mv X16.warmed.alike hh16, hx.2.2.2.2.1.ty, hy.2.2.2.1.mv X16.warmed.alike hh16, hy.2.2.2.2.1.ty⟩)
      obtain ⟨v, rfl, q18, hv⟩ := E18
      have iff := Cod.eqv hx.2.2.2.2.1 hy.2.2.2.2.1 hx.2.2.2.2.2 hy.2.2.2.2.2
      rcases hv with ⟨rfl, he⟩ | ⟨rfl, he⟩
      · have c19 : Steps p.tables e below (s₁.setTop (entryFrame m #[.ref x, .ref y] 3)) (T18.setTop (mkF m 55 #[.val (.ref x), .val (.ref y), .val (.ref y)] [.int 1])) := Steps.trans g18 (by
          refine XS.ifNo X18.here hexec rfl (hb hbytes d47) rfl (i0_eq_f (by decide)) ?_
          refine iconstV X18.here hexec rfl 1 (hb hbytes d50) (by decide) ?_
          refine XS.goto X18.here hexec rfl (pc0 := 51) rfl (hb hbytes d51) (by decide) rfl ?_
          exact Steps.refl _)
        exact ⟨T18, some (.int 1), _, _, _, X18, rfl, rfl, rfl, (fun h => by cases h), ⟨1, rfl, q18.trans hh16, Or.inl ⟨rfl, iff.mp he⟩⟩, fun fs hl => c19.trans (X18.ireturnOut hexec hret rfl (Or.inr (Or.inl rfl)) (hb hbytes d55) hl)⟩
      · have c19 : Steps p.tables e below (s₁.setTop (entryFrame m #[.ref x, .ref y] 3)) (T18.setTop (mkF m 55 #[.val (.ref x), .val (.ref y), .val (.ref y)] [.int 0])) := Steps.trans g18 (by
          refine XS.ifYes X18.here hexec rfl (pc0 := 47) rfl (hb hbytes d47) rfl (i0_eq_t rfl) (by decide) rfl ?_
          refine iconstV X18.here hexec rfl 0 (hb hbytes d54) (by decide) ?_
          exact Steps.refl _)
        exact ⟨T18, some (.int 0), _, _, _, X18, rfl, rfl, rfl, (fun h => by cases h), ⟨0, rfl, q18.trans hh16, Or.inr ⟨rfl, fun q => he (iff.mpr q)⟩⟩, fun fs hl => c19.trans (X18.ireturnOut hexec hret rfl (Or.inr (Or.inl rfl)) (hb hbytes d55) hl)⟩
    · have c13 : Steps p.tables e below (s₁.setTop (entryFrame m #[.ref x, .ref y] 3)) (T11.setTop (mkF m 55 #[.val (.ref x), .val (.ref y), .val (.ref y)] [.int 0])) := c12.trans (by
        refine XS.icmpYes X11.here hexec rfl (pc0 := 33) rfl (hb hbytes d33) rfl (ii_ne_t hcd) (by decide) rfl ?_
        refine iconstV X11.here hexec rfl 0 (hb hbytes d54) (by decide) ?_
        exact Steps.refl _)
      exact ⟨T11, some (.int 0), _, _, _, X11, rfl, rfl, rfl, (fun h => by cases h), ⟨0, rfl, hh11, Or.inr ⟨rfl, Cod.dif hx.2.2.2.2.1 hy.2.2.2.2.1 hcd⟩⟩, fun fs hl => c13.trans (X11.ireturnOut hexec hret rfl (Or.inr (Or.inl rfl)) (hb hbytes d55) hl)⟩
theorem pays {l : Launch} {R : Room} {p : Program} {e : Env} {below : List Frame} {s : State} {sargs : Array Value} {len W : Nat} (x t : Addr) (V : Cell) (cd : Int32) (n : Nat) (f : Nat → Int32) (y t' : Addr) (V' : Cell) (cd' : Int32) (k : Nat) (g : Nat → Int32) (z : Int32) (htab : tab.before sargs s = true) (hfr : 2 ≤ R.frames) (hlo : W + 28 ≤ R.locals) :
    Back l R p e below s sargs yN len W (fun A₁ a₁ => A₁.cells + 0 ≤ R.cells ∧ A₁.slots + 0 ≤ R.slots ∧ P x t V cd n f y t' V' cd' k g z a₁ A₁.U) (fun A₁ _ v₁ B₁ => Says01 (SameT n f k g) v₁ A₁.U B₁.U ∧ B₁.locs = A₁.locs ++ [] ∧ B₁.cells = A₁.cells + 0 ∧ B₁.slots = A₁.slots + 0) :=
  (law l x t V cd n f y t' V' cd' k g z).pays htab hfr (by omega)
end SEq
end StrChars
namespace StrChars.Road
open Jvm Sem ClassFile Op Lib Jvm.Stand Jvm.Free Jvm.Free.XT
open Jvm.Lib.Cold (StaticIs)
/-- the words of String.equals(Object) -/
abbrev wordsEq : List Jvm.Cond := [.code SEq.yN SEq.yB 3 (some .boolean), .initialized ST, .classLink ST 10 ST, .fieldLink ST 38 ST "COMPACT_STRINGS" "Z", .fieldLink ST 15 ST "coder" "B", .fieldLink ST 9 ST "value" "[B", .methodLink ST 541 LEq.yN, .static LEq.yN, .code LEq.yN LEq.yB 3 (some .boolean), .initialized "java/lang/StringLatin1"]
theorem tabEq_of {a : Array Value} {s : State} (h : ∀ w ∈ wordsEq, w.before a s = true) : SEq.tab.before a s = true := by
  have hl : LEq.tab.before a s = true := unparts (wk h (.code LEq.yN LEq.yB 3 (some .boolean))) (wks h (.initialized LEq.yN.cls :: LEq.site))
  have q := consq hl h
  exact unparts (wk q (.code SEq.yN SEq.yB 3 (some .boolean))) (wks q (.initialized SEq.yN.cls :: SEq.site))
theorem movedEq {Z s : State} {a0 args : Array Value} (hZ : Z.Warmed39 s.vm) (hw : ∀ d ∈ wordsEq, d.before a0 Z = true) : ∀ d ∈ wordsEq, d.before args s = true := fun d hd => by
  have t : ∀ d ∈ wordsEq, (d.onTables && d.keepsFace) = true := by decide +kernel
  exact RoadKit.mv hZ (hw d hd) (t d hd)
/-- the road's facts of a String, as the laws ask it -/
theorem txt_of {Z U : State} {a0 : Array Value} {kI : Nat} (wi : (Jvm.Cond.instantiable ST kI).before a0 Z = true) (al : Z.vm.Alike U.vm) {x t : Addr} {kb : ClassId} {cs : List Int32} {cd N2 : Int32} {vs : List Value} (E : RoadKit.Exa Z U.heap x ST) (V : RoadKit.Fld Z U.heap x ST "value" "[B" (.ref t)) (C : RoadKit.Fld Z U.heap x ST "coder" "B" (.int cd)) (K : RoadKit.Arv Z U.heap t kb .byte N2 vs (.int 0)) (hc : CodA cs cd N2 vs) (hb : ∀ c ∈ cs, ¬ c < 0 ∧ ¬ (65535 : Int32) < c) (l2 : cs.length ≤ 4000) :
    ∃ A, Txt x t A cd cs.length (fun j => cs.getD j 0) U := by
  obtain ⟨A, K1, K2, K3, K4, K5, K6⟩ := K
  have hcod := hc.cod (by omega) K3 K5
  obtain ⟨D, fV, fC, hB, F1, F2, g1, g2, -, -⟩ := strObj wi al E V C
  exact ⟨A, ⟨_, hB.2.2.1, D, hB.1, rfl, by cases q : D.vm <;> first | rfl | exact absurd q (hB.2.1.2 _)⟩, Has.of hB F1 g1, Has.of hB F2 g2, ⟨K1.1, State.isArrayOf_alike al K1.2.1, K1.2.2, by rcases hcod with ⟨-, q, -⟩ | ⟨-, q, -⟩ <;> omega⟩, hcod, fun j hj => by
    have e : cs.getD j 0 = cs[j] := by simp [List.getD_eq_getElem?_getD, hj]
    show ¬ cs.getD j 0 < 0 ∧ ¬ 65535 < cs.getD j 0
    rw [e]; exact hb _ (List.getElem_mem _)⟩
theorem same_list (cs ds : List Int32) : SameT cs.length (fun j => cs.getD j 0) ds.length (fun j => ds.getD j 0) ↔ cs = ds := by
  constructor
  · rintro ⟨e, q⟩
    refine List.ext_getElem e fun j h1 h2 => ?_
    have := q j h1
    simpa [List.getD_eq_getElem?_getD, h1, h2] using this
  · rintro rfl
    exact ⟨rfl, fun _ _ => rfl⟩
/-- **equals(Object) OF TWO SUCH STRINGS**: 1 just where the chars are the same -/
theorem eqW {p : Program} {l : Launch} {e : Env} {R : Room} {s : State} {args : Array Value} {below : List Frame} {len W : Nat} {Z : State} {a0 : Array Value} {h : Heap} (hZ : Z.Warmed39 s.vm) (hw : ∀ d ∈ wordsEq, d.before a0 Z = true) {kI : Nat} (wi : (Jvm.Cond.instantiable ST kI).before a0 Z = true)
    {x t : Addr} {kb : ClassId} {cs : List Int32} {cd N2 : Int32} {vs : List Value} (E : RoadKit.Exa Z h x ST) (V : RoadKit.Fld Z h x ST "value" "[B" (.ref t)) (C : RoadKit.Fld Z h x ST "coder" "B" (.int cd)) (K : RoadKit.Arv Z h t kb .byte N2 vs (.int 0)) (hc : CodA cs cd N2 vs) (hb : ∀ c ∈ cs, ¬ c < 0 ∧ ¬ (65535 : Int32) < c) (l2 : cs.length ≤ 4000)
    {y t' : Addr} {kb' : ClassId} {ds : List Int32} {cd' N2' : Int32} {vs' : List Value} (E' : RoadKit.Exa Z h y ST) (V' : RoadKit.Fld Z h y ST "value" "[B" (.ref t')) (C' : RoadKit.Fld Z h y ST "coder" "B" (.int cd')) (K' : RoadKit.Arv Z h t' kb' .byte N2' vs' (.int 0)) (hc' : CodA ds cd' N2' vs') (hb' : ∀ c ∈ ds, ¬ c < 0 ∧ ¬ (65535 : Int32) < c) (l2' : ds.length ≤ 4000)
    {z : Int32} (S : RoadKit.Sta Z h ST "COMPACT_STRINGS" "Z" (.int z)) (hz : ¬ z = 0) (hfr : 2 ≤ R.frames) (hlo : W + 28 ≤ R.locals) :
    Back l R p e below s args (⟨"java/lang/String", "equals", "(Ljava/lang/Object;)Z"⟩ : MethodName) len W (fun P a => a = #[.ref x, .ref y] ∧ P.U.heap = h ∧ P.cells + 0 ≤ R.cells ∧ P.slots + 0 ≤ R.slots)
      (fun P _ v B => ∃ L, (((v = some (.int 1) ∧ cs = ds) ∨ (v = some (.int 0) ∧ ¬ cs = ds)) ∧ L = [] ∧ B.U.heap = h) ∧ B.locs = P.locs ++ L ∧ B.cells = P.cells + 0 ∧ B.slots = P.slots + 0) := by
  intro m meth c P g ig mk a X hg hsize hdg hW hn hp'
  obtain ⟨rfl, rfl, r1, r2⟩ := hp'
  have al : Z.vm.Alike P.U.vm := hZ.alike.trans X.warmed.alike
  obtain ⟨A, hx⟩ := txt_of wi al E V C K hc hb l2
  obtain ⟨A', hy⟩ := txt_of wi al E' V' C' K' hc' hb' l2'
  obtain ⟨v, B, X', ⟨⟨w, hv, hh, hq⟩, hl, hk, hs⟩, st⟩ := SEq.pays x t A cd cs.length (fun j => cs.getD j 0) y t' A' cd' ds.length (fun j => ds.getD j 0) z (tabEq_of (movedEq hZ hw)) hfr hlo m meth c P g ig mk _ X hg hsize hdg hW hn ⟨r1, r2, rfl, hx, hy, sta_is al S, hz⟩
  refine ⟨v, B, X', ⟨[], ⟨?_, rfl, hh⟩, hl, hk, hs⟩, st⟩
  rcases hq with ⟨rfl, q⟩ | ⟨rfl, q⟩
  · exact Or.inl ⟨hv, (same_list cs ds).mp q⟩
  · exact Or.inr ⟨hv, fun e => q ((same_list cs ds).mpr e)⟩
end StrChars.Road
namespace StrChars.Road
open Jvm Sem ClassFile Op Lib Jvm.Stand Jvm.Free Jvm.Free.XT
open Jvm.Lib.Cold (StaticIs)
/-- what backV says of its String, as the contracts of this text ask it: cs's low bytes, coder 0 -/
theorem codOf {cs : List Int32} {n : Nat} (hn : cs.length = n) (hb : ∀ c ∈ cs, ¬ 255 < c) : CodA cs 0 (Int32.ofNat n) ((cs.map lo8).map Value.int) := Or.inl ⟨rfl, by rw [hn], by simp [List.map_map, Function.comp_def], hb⟩
end StrChars.Road
end Jvm.Pilot.@@N@@
namespace Jvm.Pilot.@@N@@
open Jvm Jvm.ClassFile Sem Op Lib Jvm.Free Jvm.Stand Jvm.LawKit Jvm.RoadKit Bundle Jvm.Pilot.@@N@@.Jvm.D
/-- a char of Latin-1 -/
def own_lat (c : Int32) : Prop := ¬ c < 0 ∧ ¬ (255 : Int32) < c
theorem own_lat_cases {c : Int32} (h : own_lat c) : ∃ k : Fin 256, c = Int32.ofNat k.val := by
  obtain ⟨h0, h1⟩ := h
  rw [Int32.lt_iff_toInt_lt] at h0 h1
  have e0 : (0 : Int32).toInt = 0 := rfl
  have e1 : (255 : Int32).toInt = 255 := rfl
  refine ⟨⟨c.toInt.toNat, by omega⟩, Int32.toInt_inj.mp ?_⟩
  show c.toInt = (Int32.ofNat c.toInt.toNat).toInt
  rw [Int32.toInt_ofNat_small (by omega)]
  omega
theorem own_lat_nar {c : Int32} (h : own_lat c) : nar .char c = c := by
  obtain ⟨k, rfl⟩ := own_lat_cases h
  exact (by decide +kernel : ∀ k : Fin 256, nar .char (Int32.ofNat k.val) = Int32.ofNat k.val) k
theorem own_lat_ofNat (k : Fin 256) : own_lat ((Int32.ofNat k.val).toUInt32.toUInt16.toUInt32.toInt32) := by
  unfold own_lat
  revert k
  decide +kernel
theorem own_mask (x : Int32) : own_lat ((x &&& (255 : Int32)).toUInt32.toUInt16.toUInt32.toInt32) := by
  have h : (x &&& 255).toBitVec.toNat < 256 := by
    simp only [Int32.toBitVec_and, BitVec.toNat_and]
    exact Nat.lt_succ_of_le Nat.and_le_right
  have e : (x &&& 255) = Int32.ofNat (x &&& 255).toBitVec.toNat := by
    apply Int32.toBitVec_inj.mp
    show _ = BitVec.ofNat 32 _
    rw [BitVec.ofNat_toNat]; simp
  rw [e]
  exact own_lat_ofNat ⟨_, h⟩
theorem own_up (cs : List Int32) (h : ∀ c ∈ cs, own_lat c) : ∀ c ∈ cs, ¬ c < 0 ∧ ¬ (65535 : Int32) < c := fun c hc => ⟨(h c hc).1, fun q => (h c hc).2 (by rw [Int32.lt_iff_toInt_lt] at q ⊢; have e1 : (65535 : Int32).toInt = 65535 := rfl; have e2 : (255 : Int32).toInt = 255 := rfl; omega)⟩
theorem own_fitsR {v : Value} {C : String} (h : v.isRef = true) : fits (.object C) v = true := by rcases ref_cases h with rfl | ⟨_, rfl⟩ <;> rfl
theorem own_all0 {P : Int32 → Prop} : ∀ x ∈ ([] : List Int32), P x := fun _ q => nomatch q
theorem own_allS {P : Int32 → Prop} {y : Int32} {L : List Int32} (q : P y) (r : ∀ x ∈ L, P x) : ∀ x ∈ y :: L, P x := fun x z => (List.mem_cons.mp z).elim (fun u => u ▸ q) (r x)
/-- the String at x is compact and spells cs -/
def own_Str (Z : State) (h : Heap) (x : Addr) (cs : List Int32) : Prop := (∀ c ∈ cs, own_lat c) ∧ Exa Z h x "java/lang/String" ∧ Fld Z h x "java/lang/String" "coder" "B" (.int (0 : Int32)) ∧
  ∃ (t : Addr) (kb : ClassId), Fld Z h x "java/lang/String" "value" "[B" (.ref t) ∧ Arv Z h t kb .byte (Int32.ofNat cs.length) ((cs.map (fun c => c.toInt8.toInt32)).map Value.int) (.int (0 : Int32))
theorem own_Str.ext {Z : State} {h h' : Heap} {x : Addr} {cs : List Int32} (S : own_Str Z h x cs) (E : Ext h h') : own_Str Z h' x cs := by
  obtain ⟨h1, h2, h3, t, kb, h4, h5⟩ := S
  exact ⟨h1, h2.ext E, h3.ext E, t, kb, h4.ext E, h5.ext E⟩
theorem own_Str.keep {Z : State} {h h' : Heap} {x : Addr} {cs : List Int32} (S : own_Str Z h x cs) (K : Keep h h' []) : own_Str Z h' x cs := by
  obtain ⟨h1, h2, h3, t, kb, h4, h5⟩ := S
  exact ⟨h1, h2.keep K, h3.keep K nin0, t, kb, h4.keep K nin0, h5.keep K nin0⟩
theorem own_Str.keepS {Z : State} {h h' : Heap} {x a : Addr} {cs : List Int32} {a0 : Array Value} {C : String} {n : Nat} (S : own_Str Z h x cs) (K : Keep h h' [a]) (E : Exa Z h a C) (w : (Jvm.Cond.instantiable C n).before a0 Z = true) (q : x ≠ a) : own_Str Z h' x cs := by
  obtain ⟨h1, h2, h3, t, kb, h4, h5⟩ := S
  exact ⟨h1, h2.keep K, h3.keep K (ninS q nin0), t, kb, h4.keep K (ninS q nin0), h5.keep K (ninS (Ne.symm (E.neArv h5 w)) nin0)⟩
theorem own_Str.lt {Z : State} {h : Heap} {x : Addr} {cs : List Int32} (S : own_Str Z h x cs) : x < h.size := S.2.1.lt
def own_T11 : List Int32 := ([116, 101, 120, 116, 47, 120, 109, 108] : List Int32)
def own_T12 : List Int32 := ([97, 112, 112, 108, 105, 99, 97, 116, 105, 111, 110, 47, 115, 111, 97, 112, 43, 120, 109, 108] : List Int32)
theorem own_T11_lat : ∀ c ∈ own_T11, own_lat c := by unfold own_lat; decide +kernel
theorem own_T12_lat : ∀ c ∈ own_T12, own_lat c := by unfold own_lat; decide +kernel
/-- equals() of two such Strings, at a call -/
theorem own_eqB {p : Program} {l : Launch} {e : Env} {R : Room} {s : State} {args : Array Value} {below : List Frame} {len W : Nat} {Z : State} {a0 : Array Value} {h : Heap} (hZ : Z.Warmed39 s.vm) (hw : ∀ d ∈ tables_1, d.before a0 Z = true) {kI : Nat} (wi : (Jvm.Cond.instantiable "java/lang/String" kI).before a0 Z = true)
    {x y : Addr} {cs ds : List Int32} {z : Int32} (S : own_Str Z h x cs) (l2 : cs.length ≤ 4000) (S' : own_Str Z h y ds) (l2' : ds.length ≤ 4000) (C : Sta Z h "java/lang/String" "COMPACT_STRINGS" "Z" (.int z)) (hz : ¬ z = 0) (hfr : 2 ≤ R.frames) (hlo : W + 28 ≤ R.locals) :
    Back l R p e below s args (⟨"java/lang/String", "equals", "(Ljava/lang/Object;)Z"⟩ : MethodName) len W (fun P a => a = #[.ref x, .ref y] ∧ P.U.heap = h ∧ P.cells + 0 ≤ R.cells ∧ P.slots + 0 ≤ R.slots)
      (fun P _ v B => ∃ L, (((v = some (.int 1) ∧ cs = ds) ∨ (v = some (.int 0) ∧ ¬ cs = ds)) ∧ L = [] ∧ B.U.heap = h) ∧ B.locs = P.locs ++ L ∧ B.cells = P.cells + 0 ∧ B.slots = P.slots + 0) := by
  obtain ⟨h1, h2, h3, t, kb, h4, h5⟩ := S
  obtain ⟨g1, g2, g3, t', kb', g4, g5⟩ := S'
  exact StrChars.Road.eqW hZ (fun d hd => hw d ((by decide +kernel : ∀ d ∈ StrChars.Road.wordsEq, d ∈ tables_1) d hd)) wi h2 h4 h3 h5 (StrChars.Road.codOf rfl (fun x hx => (h1 x hx).2)) (own_up _ h1) l2 g2 g4 g3 g5 (StrChars.Road.codOf rfl (fun x hx => (g1 x hx).2)) (own_up _ g1) l2' C hz hfr hlo
theorem own_getD (cs : List Int32) (i : Nat) : (cs.map Value.int).getD i (.int (0 : Int32)) = .int (cs.getD i 0) := by
  simp [List.getD_eq_getElem?_getD, List.getElem?_map]
theorem own_set_lat {cs : List Int32} {i : Nat} {c : Int32} (h : ∀ x ∈ cs, own_lat x) (hc : own_lat c) : ∀ x ∈ cs.set i c, own_lat x := fun x hx => by
  rcases List.mem_or_eq_of_mem_set hx with q | rfl
  · exact h x q
  · exact hc
theorem own_set_same {cs : List Int32} {i : Nat} (hi : i < cs.length) : cs.set i (cs.getD i 0) = cs := by
  rw [List.getD_eq_getElem?_getD, List.getElem?_eq_getElem hi]
  exact List.set_getElem_self hi
theorem own_set_ne {cs : List Int32} {i : Nat} {c : Int32} (hi : i < cs.length) (hc : ¬ c = cs.getD i 0) : ¬ cs.set i c = cs := fun q => hc (by
  have e : (cs.set i c)[i]? = cs[i]? := by rw [q]
  rw [List.getElem?_set_self hi, List.getElem?_eq_getElem hi] at e
  rw [List.getD_eq_getElem?_getD, List.getElem?_eq_getElem hi]
  exact Option.some.inj e)
theorem own_pos (a z : Int32) (d : Int) (hz : z.toInt = d) (hd : 0 < d) : ¬ ((a &&& (2147483647 : Int32)) % z) < 0 ∧ ((a &&& (2147483647 : Int32)) % z) < z := by
  have q0 := (c_and a (2147483647 : Int32) (by decide)).1
  have q := (c_irem (a &&& (2147483647 : Int32)) z d hz).1 q0
  have r := Int.emod_nonneg (a &&& (2147483647 : Int32)).toInt (show d ≠ 0 by omega)
  have r' := Int.emod_lt_of_pos (a &&& (2147483647 : Int32)).toInt hd
  rw [Int32.lt_iff_toInt_lt, Int32.lt_iff_toInt_lt]
  have e0 : (0 : Int32).toInt = 0 := rfl
  omega
theorem own_nat {j z : Int32} (h : ¬ j < 0 ∧ j < z) : j.toNatClampNeg < z.toNatClampNeg := by
  obtain ⟨h0, h1⟩ := h
  rw [Int32.lt_iff_toInt_lt] at h0 h1
  have e0 : (0 : Int32).toInt = 0 := rfl
  show j.toInt.toNat < z.toInt.toNat
  omega
/-- what ofMediaType answers to a String that spells cs -/
def own_Ans (s11 s12 : Addr) (cs : List Int32) (v : Value) : Prop := (cs = own_T11 ∧ v = .ref s11) ∨ (¬ cs = own_T11 ∧ cs = own_T12 ∧ v = .ref s12) ∨ (¬ cs = own_T11 ∧ ¬ cs = own_T12 ∧ v = .null)
theorem own_Ans.one {s11 s12 : Addr} {cs : List Int32} {v w : Value} (A : own_Ans s11 s12 cs v) (B : own_Ans s11 s12 cs w) : v = w := by
  rcases A with ⟨a, rfl⟩ | ⟨a, b, rfl⟩ | ⟨a, b, rfl⟩ <;> rcases B with ⟨a', rfl⟩ | ⟨a', b', rfl⟩ | ⟨a', b', rfl⟩ <;> first | rfl | (exfalso; first | exact a a' | exact a' a | exact b b' | exact b' b)
theorem own_Ans.isRef {s11 s12 : Addr} {cs : List Int32} {v : Value} (A : own_Ans s11 s12 cs v) : v.isRef = true := by
  rcases A with ⟨a, rfl⟩ | ⟨a, b, rfl⟩ | ⟨a, b, rfl⟩ <;> rfl
theorem own_Ans.len {s11 s12 : Addr} {cs : List Int32} (h1 : cs.length ≠ 8) (h2 : cs.length ≠ 20) : own_Ans s11 s12 cs .null := Or.inr (Or.inr ⟨fun q => h1 (by rw [q]; rfl), fun q => h2 (by rw [q]; rfl), rfl⟩)
theorem own_pn0 : plainName "java/lang/String" = true := by first | (simp [plainName, overriddenIn]; done) | decide +kernel
theorem own_d0_0 : decode jdk_42_method_151_code 0 = .ok (.aload_n 0, 1) := by decide +kernel
theorem own_d0_1 : decode jdk_42_method_151_code 1 = .ok (.invokespecial 1, 3) := by decide +kernel
theorem own_d0_4 : decode jdk_42_method_151_code 4 = .ok (.aload_n 0, 1) := by decide +kernel
theorem own_d0_5 : decode jdk_42_method_151_code 5 = .ok (.aload_n 1, 1) := by decide +kernel
theorem own_d0_6 : decode jdk_42_method_151_code 6 = .ok (.putfield 9, 3) := by decide +kernel
theorem own_d0_9 : decode jdk_42_method_151_code 9 = .ok (.aload_n 0, 1) := by decide +kernel
theorem own_d0_10 : decode jdk_42_method_151_code 10 = .ok (.iload_n 2, 1) := by decide +kernel
theorem own_d0_11 : decode jdk_42_method_151_code 11 = .ok (.putfield 15, 3) := by decide +kernel
theorem own_d0_14 : decode jdk_42_method_151_code 14 = .ok (.return_, 1) := by decide +kernel
theorem own_ef19 (m : MethodId) (x0 : Addr) (x1 : Addr) (x2 : Int32) : entryFrame m #[(.ref x0), (.ref x1), (.int x2)] 3 = mkF m 0 #[.val (.ref x0), .val (.ref x1), .val (.int x2)] [] := by first | (simp [entryFrame, mkF, argsToLocals, Value.category]; done) | rfl
abbrev own_Q19 (Z : State) (a b : Addr) (h0 : Heap) (n0 : Nat) : Option Value → Heap → List Loc → Prop := fun v h L => v = none ∧ Fr n0 L ∧ Keep h0 h [a] ∧ Exa Z h a "java/lang/String" ∧ Fld Z h a "java/lang/String" "value" "[B" (.ref b) ∧ Fld Z h a "java/lang/String" "coder" "B" (.int (0 : Int32))
set_option maxRecDepth 65536 in
set_option maxHeartbeats 40000000 in
theorem own_rm19 (l : Launch) (Z : State) (a0 : Array Value) (hw : ∀ d ∈ tables_1, d.before a0 Z = true) (ws : List Jvm.Cond) (a b : Addr) (h0 : Heap) (n0 : Nat) (O : Old Z n0 h0) (g_a : n0 ≤ a) (E1 : Exa Z h0 a "java/lang/String") (F_value_a : Fld Z h0 a "java/lang/String" "value" "[B" .null) (F_coder_a : Fld Z h0 a "java/lang/String" "coder" "B" (.int (0 : Int32))) :
    MetFree l (⟨"java/lang/String", "<init>", "([BB)V"⟩ : MethodName) (head1 (Jvm.Cond.code (⟨"java/lang/String", "<init>", "([BB)V"⟩ : MethodName) jdk_42_method_151_code 3 none :: ws) ({ frames := 1, cells := 0, slots := 0, locals := 12 } : Room)) (fun aa U => aa = #[(.ref a), (.ref b), (.int (0 : Int32))] ∧ Z.Warmed39 U.vm ∧ U.heap = h0) (fun _ _ _ _ _ => True) (fun _ U o U' => ∃ v L, o = .returned v ∧ (own_Q19 Z a b h0 n0) v U'.heap L ∧ FrameEnd U o U' L ({ frames := 1, cells := 0, slots := 0, locals := 12 } : Room).cells ({ frames := 1, cells := 0, slots := 0, locals := 12 } : Room).slots) := by
  refine MetFree.of_bodySF (plainFor_of_name own_pn0) hisR ?_
  intro p e s m args below meth c s₁ Bd hml0 hP hK
  obtain ⟨rfl, hZ, hh⟩ := hP
  have hx := Bd.exec
  have hby := Bd.bytes
  have hml : c.maxLocals = 3 := hml0
  have hown : s.vm.findClass "java/lang/String" = some m.cls := findClass_of_methodNamed Bd.named
  have hnm := (name_of_methodNamed Bd.named Bd.method).1
  have X0 : Stand p l e ({ frames := 1, cells := 0, slots := 0, locals := 12 } : Room) s m #[(.ref a), (.ref b), (.int (0 : Int32))] below meth c s₁ [] 0 0 := Stand.of_body Bd
  have e0 : s₁.heap = h0 := by rw [← hh, Bd.state]; rfl
  have N0 := Fr.nil n0
  refine Out.start (Q := own_Q19 Z a b h0 n0) (own_ef19 m a b (0 : Int32) ) ?_
  have Kp := Keep.refl h0 [a]
  refine Out.via (g' := (mkF m 1 #[.val (.ref a), .val (.ref b), .val (.int (0 : Int32))] [(.ref a)])) (fun _ k => XS.aloadN X0.here hx rfl (hb hby own_d0_0) rfl rfl k) ?_
  obtain ⟨T1, X1, e1, st1⟩ := initO X0 hx hZ hown (hw _ (List.mem_of_getElem? (i := 56) rfl)) (hw _ (List.mem_of_getElem? (i := 57) rfl)) (hw _ (List.mem_of_getElem? (i := 58) rfl)) e0 (g := (mkF m 1 #[.val (.ref a), .val (.ref b), .val (.int (0 : Int32))] [(.ref a)])) rfl (by rw [hml]; rfl) rfl (hb hby own_d0_1) (by decide) (W := 0) (by show 2 * 0 + _ ≤ _; exact Nat.le_of_eq rfl) (by decide)
  refine Out.via (g' := (mkF m 4 #[.val (.ref a), .val (.ref b), .val (.int (0 : Int32))] [])) st1 ?_
  refine Out.via (g' := (mkF m 5 #[.val (.ref a), .val (.ref b), .val (.int (0 : Int32))] [(.ref a)])) (fun _ k => XS.aloadN X1.here hx rfl (hb hby own_d0_4) rfl rfl k) ?_
  refine Out.via (g' := (mkF m 6 #[.val (.ref a), .val (.ref b), .val (.int (0 : Int32))] [(.ref b), (.ref a)])) (fun _ k => XS.aloadN X1.here hx rfl (hb hby own_d0_5) rfl rfl k) ?_
  obtain ⟨T2, h2, X2, e2, W2, st2⟩ := putF X1 hx hZ hown (host := "") (Or.inl (hw _ (List.mem_of_getElem? (i := 41) rfl))) Via.refl e1 F_value_a E1 (Or.inr ⟨(hw _ (List.mem_of_getElem? (i := 7) rfl)), rfl, hnm⟩) (hw _ (List.mem_of_getElem? (i := 5) rfl)) (ty := (.array .byte)) (by decide) rfl rfl (g := (mkF m 6 #[.val (.ref a), .val (.ref b), .val (.int (0 : Int32))] [(.ref b), (.ref a)])) rfl rfl (hb hby own_d0_6)
  replace F_value_a := F_value_a.same W2
  replace F_coder_a := F_coder_a.other W2 (Or.inr (slot_ne (Or.inr (hw _ (List.mem_of_getElem? (i := 8) rfl))) (Or.inr (hw _ (List.mem_of_getElem? (i := 7) rfl))) (by decide) (t := .byte) (t' := (.array .byte)) (by decide) (by decide)))
  replace E1 := E1.wr W2
  replace O := O.wr W2 g_a
  replace Kp := Kp.wr W2 (Or.inl (List.mem_of_getElem? (i := 0) rfl))
  replace N0 := Fr.snoc X2 N0 g_a
  refine Out.via (g' := (mkF m 9 #[.val (.ref a), .val (.ref b), .val (.int (0 : Int32))] [])) st2 ?_
  refine Out.via (g' := (mkF m 10 #[.val (.ref a), .val (.ref b), .val (.int (0 : Int32))] [(.ref a)])) (fun _ k => XS.aloadN X2.here hx rfl (hb hby own_d0_9) rfl rfl k) ?_
  refine Out.via (g' := (mkF m 11 #[.val (.ref a), .val (.ref b), .val (.int (0 : Int32))] [(.int (0 : Int32)), (.ref a)])) (fun _ k => XS.iloadN X2.here hx rfl (hb hby own_d0_10) rfl k) ?_
  obtain ⟨T3, h3, X3, e3, W3, st3⟩ := putFN X2 hx hZ hown (hw _ (List.mem_of_getElem? (i := 40) rfl)) Via.refl e2 F_coder_a E1 (Or.inr ⟨(hw _ (List.mem_of_getElem? (i := 8) rfl)), rfl, hnm⟩) (hw _ (List.mem_of_getElem? (i := 5) rfl)) (ty := .byte) (v' := (.int (0 : Int32))) (by decide) rfl (by decide) (g := (mkF m 11 #[.val (.ref a), .val (.ref b), .val (.int (0 : Int32))] [(.int (0 : Int32)), (.ref a)])) rfl rfl (hb hby own_d0_11)
  replace F_coder_a := F_coder_a.same W3
  replace F_value_a := F_value_a.other W3 (Or.inr (slot_ne (Or.inr (hw _ (List.mem_of_getElem? (i := 7) rfl))) (Or.inr (hw _ (List.mem_of_getElem? (i := 8) rfl))) (by decide) (t := (.array .byte)) (t' := .byte) (by decide) (by decide)))
  replace E1 := E1.wr W3
  replace O := O.wr W3 g_a
  replace Kp := Kp.wr W3 (Or.inl (List.mem_of_getElem? (i := 0) rfl))
  replace N0 := Fr.snoc X3 N0 g_a
  refine Out.via (g' := (mkF m 14 #[.val (.ref a), .val (.ref b), .val (.int (0 : Int32))] [])) st3 ?_
  exact Out.endN X3 (fun _ => rfl) Bd.notSynchronized (by decide) (by decide) (by rw [e3]; exact ⟨rfl, N0, Kp, E1, F_value_a, F_coder_a⟩) (fun fs hr => X3.returnOut hx Bd.returns (hb hby own_d0_14) hr)
theorem own_pn1 : plainName "java/lang/StringLatin1" = true := by first | (simp [plainName, overriddenIn]; done) | decide +kernel
theorem own_d1_0 : decode jdk_43_method_3_code 0 = .ok (.iload_n 0, 1) := by decide +kernel
theorem own_d1_1 : decode jdk_43_method_3_code 1 = .ok (.sipush 255, 3) := by decide +kernel
theorem own_d1_4 : decode jdk_43_method_3_code 4 = .ok (.if_icmp .gt 7, 3) := by decide +kernel
theorem own_d1_7 : decode jdk_43_method_3_code 7 = .ok (.iconst 1, 1) := by decide +kernel
theorem own_d1_8 : decode jdk_43_method_3_code 8 = .ok (.goto 4, 3) := by decide +kernel
theorem own_d1_12 : decode jdk_43_method_3_code 12 = .ok (.ireturn, 1) := by decide +kernel
theorem own_ef17 (m : MethodId) (x0 : Int32) : entryFrame m #[(.int x0)] 1 = mkF m 0 #[.val (.int x0)] [] := by first | (simp [entryFrame, mkF, argsToLocals, Value.category]; done) | rfl
abbrev own_Q17 (Z : State) (c0 : Int32) (h0 : Heap) (n0 : Nat) : Option Value → Heap → List Loc → Prop := fun v h L => v = some (.int (1 : Int32)) ∧ Fr n0 L ∧ h = h0
set_option maxRecDepth 65536 in
set_option maxHeartbeats 40000000 in
theorem own_rm17 (l : Launch) (Z : State) (a0 : Array Value) (hw : ∀ d ∈ tables_1, d.before a0 Z = true) (ws : List Jvm.Cond) (c0 : Int32) (h0 : Heap) (n0 : Nat) (O : Old Z n0 h0) (hc : own_lat c0) :
    MetFree l (⟨"java/lang/StringLatin1", "canEncode", "(C)Z"⟩ : MethodName) (head1 (Jvm.Cond.code (⟨"java/lang/StringLatin1", "canEncode", "(C)Z"⟩ : MethodName) jdk_43_method_3_code 1 (some .boolean) :: ws) ({ frames := 0, cells := 0, slots := 0, locals := 0 } : Room)) (fun aa U => aa = #[(.int c0)] ∧ Z.Warmed39 U.vm ∧ U.heap = h0) (fun _ _ _ _ _ => True) (fun _ U o U' => ∃ v L, o = .returned v ∧ (own_Q17 Z c0 h0 n0) v U'.heap L ∧ FrameEnd U o U' L ({ frames := 0, cells := 0, slots := 0, locals := 0 } : Room).cells ({ frames := 0, cells := 0, slots := 0, locals := 0 } : Room).slots) := by
  refine MetFree.of_bodySF (plainFor_of_name own_pn1) hisR ?_
  intro p e s m args below meth c s₁ Bd hml0 hP hK
  obtain ⟨rfl, hZ, hh⟩ := hP
  have hx := Bd.exec
  have hby := Bd.bytes
  have hml : c.maxLocals = 1 := hml0
  have hown : s.vm.findClass "java/lang/StringLatin1" = some m.cls := findClass_of_methodNamed Bd.named
  have hnm := (name_of_methodNamed Bd.named Bd.method).1
  have X0 : Stand p l e ({ frames := 0, cells := 0, slots := 0, locals := 0 } : Room) s m #[(.int c0)] below meth c s₁ [] 0 0 := Stand.of_body Bd
  have e0 : s₁.heap = h0 := by rw [← hh, Bd.state]; rfl
  have N0 := Fr.nil n0
  refine Out.start (Q := own_Q17 Z c0 h0 n0) (own_ef17 m c0 ) ?_
  refine Out.via (g' := (mkF m 1 #[.val (.int c0)] [(.int c0)])) (fun _ k => XS.iloadN X0.here hx rfl (hb hby own_d1_0) rfl k) ?_
  refine Out.via (g' := (mkF m 4 #[.val (.int c0)] [(.int (255 : Int32)), (.int c0)])) (fun _ k => XS.sipush X0.here hx rfl (hb hby own_d1_1) k) ?_
  refine Out.via (g' := (mkF m 7 #[.val (.int c0)] [])) (fun _ k => XS.icmpNo X0.here hx rfl (hb hby own_d1_4) rfl (flt hc.2).2.2.1 k) ?_
  refine Out.via (g' := (mkF m 8 #[.val (.int c0)] [(.int (1 : Int32))])) (fun _ k => XS.iconst X0.here hx rfl (hb hby own_d1_7) k) ?_
  refine Out.via (g' := (mkF m 12 #[.val (.int c0)] [(.int (1 : Int32))])) (fun _ k => XS.goto X0.here hx rfl (pc0 := 8) (pc' := 12) rfl (hb hby own_d1_8) (by decide) (by decide) k) ?_
  exact Out.endN X0 (fun h => by rw [Bd.returns] at h; cases h) Bd.notSynchronized (by decide) (by decide) (by rw [e0]; exact ⟨rfl, N0, rfl⟩) (fun fs hr => Jvm.RoadKit.retN X0 hx (t := .boolean) Bd.returns (by simp) (hb hby own_d1_12) hr)
theorem own_d2_0 : decode jdk_43_method_46_code 0 = .ok (.iconst 1, 1) := by decide +kernel
theorem own_d2_1 : decode jdk_43_method_46_code 1 = .ok (.newarray .byte, 2) := by decide +kernel
theorem own_d2_3 : decode jdk_43_method_46_code 3 = .ok (.dup, 1) := by decide +kernel
theorem own_d2_4 : decode jdk_43_method_46_code 4 = .ok (.iconst 0, 1) := by decide +kernel
theorem own_d2_5 : decode jdk_43_method_46_code 5 = .ok (.iload_n 0, 1) := by decide +kernel
theorem own_d2_6 : decode jdk_43_method_46_code 6 = .ok (.i2b, 1) := by decide +kernel
theorem own_d2_7 : decode jdk_43_method_46_code 7 = .ok (.bastore, 1) := by decide +kernel
theorem own_d2_8 : decode jdk_43_method_46_code 8 = .ok (.areturn, 1) := by decide +kernel
theorem own_ef18 (m : MethodId) (x0 : Int32) : entryFrame m #[(.int x0)] 1 = mkF m 0 #[.val (.int x0)] [] := by first | (simp [entryFrame, mkF, argsToLocals, Value.category]; done) | rfl
abbrev own_Q18 (Z : State) (c0 : Int32) (h0 : Heap) (n0 : Nat) : Option Value → Heap → List Loc → Prop := fun v h L => ∃ (b : Addr) (k : ClassId), v = some (.ref b) ∧ Fr n0 L ∧ Keep h0 h [] ∧ h0.size ≤ b ∧ Arv Z h b k .byte (1 : Int32) [.int c0.toInt8.toInt32] (.int (0 : Int32))
set_option maxRecDepth 65536 in
set_option maxHeartbeats 40000000 in
theorem own_rm18 (l : Launch) (Z : State) (a0 : Array Value) (hw : ∀ d ∈ tables_1, d.before a0 Z = true) (ws : List Jvm.Cond) (c0 : Int32) (h0 : Heap) (n0 : Nat) (O : Old Z n0 h0) :
    MetFree l (⟨"java/lang/StringLatin1", "toBytes", "(C)[B"⟩ : MethodName) (head1 (Jvm.Cond.code (⟨"java/lang/StringLatin1", "toBytes", "(C)[B"⟩ : MethodName) jdk_43_method_46_code 1 (some (.array .byte)) :: ws) ({ frames := 0, cells := 1, slots := 1, locals := 0 } : Room)) (fun aa U => aa = #[(.int c0)] ∧ Z.Warmed39 U.vm ∧ U.heap = h0) (fun _ _ _ _ _ => True) (fun _ U o U' => ∃ v L, o = .returned v ∧ (own_Q18 Z c0 h0 n0) v U'.heap L ∧ FrameEnd U o U' L ({ frames := 0, cells := 1, slots := 1, locals := 0 } : Room).cells ({ frames := 0, cells := 1, slots := 1, locals := 0 } : Room).slots) := by
  refine MetFree.of_bodySF (plainFor_of_name own_pn1) hisR ?_
  intro p e s m args below meth c s₁ Bd hml0 hP hK
  obtain ⟨rfl, hZ, hh⟩ := hP
  have hx := Bd.exec
  have hby := Bd.bytes
  have hml : c.maxLocals = 1 := hml0
  have hown : s.vm.findClass "java/lang/StringLatin1" = some m.cls := findClass_of_methodNamed Bd.named
  have hnm := (name_of_methodNamed Bd.named Bd.method).1
  have X0 : Stand p l e ({ frames := 0, cells := 1, slots := 1, locals := 0 } : Room) s m #[(.int c0)] below meth c s₁ [] 0 0 := Stand.of_body Bd
  have e0 : s₁.heap = h0 := by rw [← hh, Bd.state]; rfl
  have N0 := Fr.nil n0
  refine Out.start (Q := own_Q18 Z c0 h0 n0) (own_ef18 m c0 ) ?_
  have Kp := Keep.refl h0 []
  refine Out.via (g' := (mkF m 1 #[.val (.int c0)] [(.int (1 : Int32))])) (fun _ k => XS.iconst X0.here hx rfl (hb hby own_d2_0) k) ?_
  obtain ⟨T1, h1, kA1, X1, e1, E1, A1, st1⟩ := newP X0 hx hZ (hw _ (List.mem_of_getElem? (i := 6) rfl)) e0 (g := (mkF m 1 #[.val (.int c0)] [(.int (1 : Int32))])) rfl (hb hby own_d2_1) rfl (by decide) (cap := 1) (by decide) (by decide) (by decide) (by decide)
  obtain ⟨b, gq1⟩ : ∃ z, z = h0.size := ⟨_, rfl⟩
  rw [← gq1] at A1 st1
  have g_b : n0 ≤ b := Nat.le_trans (own_z0 O) (Nat.le_of_eq gq1.symm)
  have sz_b : h0.size ≤ b := Nat.le_trans Kp.1 (Nat.le_of_eq gq1.symm)
  replace O := O.ext E1
  replace Kp := Kp.ext E1
  have V_b : Arv Z h1 b kA1 .byte (1 : Int32) [(.int (0 : Int32))] (.int (0 : Int32)) := (Arv.new A1 (by decide)).pad (pad_rep [] (.int (0 : Int32)) 1)
  refine Out.via (g' := (mkF m 3 #[.val (.int c0)] [(.ref b)])) st1 ?_
  refine Out.via (g' := (mkF m 4 #[.val (.int c0)] [(.ref b), (.ref b)])) (fun _ k => XS.dup X1.here hx rfl (hb hby own_d2_3) rfl rfl k) ?_
  refine Out.via (g' := (mkF m 5 #[.val (.int c0)] [(.int (0 : Int32)), (.ref b), (.ref b)])) (fun _ k => XS.iconst X1.here hx rfl (hb hby own_d2_4) k) ?_
  refine Out.via (g' := (mkF m 6 #[.val (.int c0)] [(.int c0), (.int (0 : Int32)), (.ref b), (.ref b)])) (fun _ k => XS.iloadN X1.here hx rfl (hb hby own_d2_5) rfl k) ?_
  refine Out.via (g' := (mkF m 7 #[.val (.int c0)] [(.int (c0.toInt8.toInt32)), (.int (0 : Int32)), (.ref b), (.ref b)])) (fun _ k => XS.i2b X1.here hx rfl (hb hby own_d2_6) rfl k) ?_
  obtain ⟨clz2, Arz2, qz2, Sz2, Mz2, Hz2, Gz2⟩ := V_b
  have hin2 : ¬ ((0 : Int32) < 0 ∨ clz2.slots.size ≤ ((0 : Int32)).toNatClampNeg) := inb_of Sz2 ⟨by decide, by decide⟩
  obtain ⟨T2, h2, X2, e2, W2, st2⟩ := stB X1 hx hZ e1 Arz2 (j := (0 : Int32)) hin2 (g := (mkF m 7 #[.val (.int c0)] [(.int (c0.toInt8.toInt32)), (.int (0 : Int32)), (.ref b), (.ref b)])) rfl rfl (hb hby own_d2_7)
  have V_b : Arv Z h2 b kA1 .byte (1 : Int32) [(.int (nar .byte (c0.toInt8.toInt32)))] (.int (0 : Int32)) := Arv.set Arz2 qz2 Sz2 Mz2 Hz2 Gz2 (fits_nar_byte _) W2 0 rfl (Nat.le_of_ble_eq_true rfl)
  replace O := O.wr W2 g_b
  replace Kp := Kp.wr W2 (Or.inr sz_b)
  replace N0 := Fr.snoc X2 N0 g_b
  refine Out.via (g' := (mkF m 8 #[.val (.int c0)] [(.ref b)])) st2 ?_
  have hbb : nar .byte c0.toInt8.toInt32 = c0.toInt8.toInt32 := by simp [nar]
  rw [hbb] at V_b
  exact Out.endN X2 (fun h => by rw [Bd.returns] at h; cases h) Bd.notSynchronized (by decide) (by decide) (by rw [e2]; exact ⟨b, _, rfl, N0, Kp, sz_b, V_b⟩) (fun fs hr => own_retR X2 hx (t := (.array .byte)) Bd.returns rfl rfl rfl (hb hby own_d2_8) hr)
theorem own_d3_0 : decode jdk_42_method_139_code 0 = .ok (.getstatic 38, 3) := by decide +kernel
theorem own_d3_3 : decode jdk_42_method_139_code 3 = .ok (.ifCond .eq 23, 3) := by decide +kernel
theorem own_d3_6 : decode jdk_42_method_139_code 6 = .ok (.iload_n 0, 1) := by decide +kernel
theorem own_d3_7 : decode jdk_42_method_139_code 7 = .ok (.invokestatic 1015, 3) := by decide +kernel
theorem own_pd2 : parseMethodDescriptor "(C)Z" = some ⟨[.char], some .boolean⟩ := by decide +kernel
theorem own_d3_10 : decode jdk_42_method_139_code 10 = .ok (.ifCond .eq 16, 3) := by decide +kernel
theorem own_d3_13 : decode jdk_42_method_139_code 13 = .ok (.new 10, 3) := by decide +kernel
theorem own_d3_16 : decode jdk_42_method_139_code 16 = .ok (.dup, 1) := by decide +kernel
theorem own_d3_17 : decode jdk_42_method_139_code 17 = .ok (.iload_n 0, 1) := by decide +kernel
theorem own_d3_18 : decode jdk_42_method_139_code 18 = .ok (.invokestatic 1018, 3) := by decide +kernel
theorem own_pd3 : parseMethodDescriptor "(C)[B" = some ⟨[.char], some (.array .byte)⟩ := by decide +kernel
theorem own_d3_21 : decode jdk_42_method_139_code 21 = .ok (.iconst 0, 1) := by decide +kernel
theorem own_d3_22 : decode jdk_42_method_139_code 22 = .ok (.invokespecial 209, 3) := by decide +kernel
theorem own_pd4 : parseMethodDescriptor "([BB)V" = some ⟨[(.array .byte), .byte], none⟩ := by decide +kernel
theorem own_d3_25 : decode jdk_42_method_139_code 25 = .ok (.areturn, 1) := by decide +kernel
theorem own_ef16 (m : MethodId) (x0 : Int32) : entryFrame m #[(.int x0)] 1 = mkF m 0 #[.val (.int x0)] [] := by first | (simp [entryFrame, mkF, argsToLocals, Value.category]; done) | rfl
abbrev own_Q16 (Z : State) (c0 G1 : Int32) (h0 : Heap) (n0 : Nat) : Option Value → Heap → List Loc → Prop := fun v h L => ∃ b : Addr, v = some (.ref b) ∧ Fr n0 L ∧ Keep h0 h [] ∧ h0.size ≤ b ∧ own_Str Z h b [c0]
set_option maxRecDepth 65536 in
set_option maxHeartbeats 40000000 in
theorem own_rm16 (l : Launch) (Z : State) (a0 : Array Value) (hw : ∀ d ∈ tables_1, d.before a0 Z = true) (ws : List Jvm.Cond) (c0 G1 : Int32) (h0 : Heap) (n0 : Nat) (O : Old Z n0 h0) (hc : own_lat c0) (O2 : Sta Z Z.heap "java/lang/String" "COMPACT_STRINGS" "Z" (.int G1)) (P5 : ¬ (G1 = (0 : Int32))) :
    MetFree l (⟨"java/lang/String", "valueOf", "(C)Ljava/lang/String;"⟩ : MethodName) (head1 (Jvm.Cond.code (⟨"java/lang/String", "valueOf", "(C)Ljava/lang/String;"⟩ : MethodName) jdk_42_method_139_code 1 (some (.object "java/lang/String")) :: ws) ({ frames := 2, cells := 2, slots := 5, locals := 27 } : Room)) (fun aa U => aa = #[(.int c0)] ∧ Z.Warmed39 U.vm ∧ U.heap = h0) (fun _ _ _ _ _ => True) (fun _ U o U' => ∃ v L, o = .returned v ∧ (own_Q16 Z c0 G1 h0 n0) v U'.heap L ∧ FrameEnd U o U' L ({ frames := 2, cells := 2, slots := 5, locals := 27 } : Room).cells ({ frames := 2, cells := 2, slots := 5, locals := 27 } : Room).slots) := by
  refine MetFree.of_bodySF (plainFor_of_name own_pn0) hisR ?_
  intro p e s m args below meth c s₁ Bd hml0 hP hK
  obtain ⟨rfl, hZ, hh⟩ := hP
  have hx := Bd.exec
  have hby := Bd.bytes
  have hml : c.maxLocals = 1 := hml0
  have hown : s.vm.findClass "java/lang/String" = some m.cls := findClass_of_methodNamed Bd.named
  have hnm := (name_of_methodNamed Bd.named Bd.method).1
  have X0 : Stand p l e ({ frames := 2, cells := 2, slots := 5, locals := 27 } : Room) s m #[(.int c0)] below meth c s₁ [] 0 0 := Stand.of_body Bd
  have e0 : s₁.heap = h0 := by rw [← hh, Bd.state]; rfl
  have N0 := Fr.nil n0
  refine Out.start (Q := own_Q16 Z c0 G1 h0 n0) (own_ef16 m c0 ) ?_
  have Kp := Keep.refl h0 []
  obtain ⟨T1, X1, e1, st1⟩ := getS2 X0 hx hZ hown (host := "") (Or.inl (hw _ (List.mem_of_getElem? (i := 39) rfl))) Via.refl e0 (O2.ext O.2) (g := (mkF m 0 #[.val (.int c0)] [])) rfl (hb hby own_d3_0)
  refine Out.via (g' := (mkF m 3 #[.val (.int c0)] [(.int G1)])) st1 ?_
  refine Out.via (g' := (mkF m 6 #[.val (.int c0)] [])) (fun _ k => XS.ifNo X1.here hx rfl (hb hby own_d3_3) rfl ((if0 _ _).trans (feq P5).1) k) ?_
  refine Out.via (g' := (mkF m 7 #[.val (.int c0)] [(.int c0)])) (fun _ k => XS.iloadN X1.here hx rfl (hb hby own_d3_6) rfl k) ?_
  obtain ⟨_, _, ⟨T2, L2, kc2, ks2⟩, -, X2, ⟨Lc2, hQ2, l2, y2, z2⟩, st2⟩ := Jvm.LawKit.callS X1 hx (y := (⟨"java/lang/StringLatin1", "canEncode", "(C)Z"⟩ : MethodName)) hown (mvT hZ (hw _ (List.mem_of_getElem? (i := 78) rfl))) (mvT hZ (hw _ (List.mem_of_getElem? (i := 79) rfl))) (mvT hZ (hw _ (List.mem_of_getElem? (i := 44) rfl))) (mvT hZ (hw _ (List.mem_of_getElem? (i := 80) rfl))) (by decide) (backOf (W := 0) (own_rm17 l Z a0 hw [] c0 h0 n0 O hc) hZ (hw _ (List.mem_of_getElem? (i := 80) rfl)) (hw _ (List.mem_of_getElem? (i := 44) rfl)) (by decide) (by decide)) (g := (mkF m 7 #[.val (.int c0)] [(.int c0)])) rfl (by rw [hml]; rfl) (argsL := [(.int c0)]) (rest := []) (lenOf own_pd2 rfl) rfl (by show 2 * 0 + _ ≤ _; exact Nat.le_of_eq rfl) (hb hby own_d3_7) (fun _ _ => ⟨rfl, e1, (by decide : 0 + 0 ≤ _), (by decide : 0 + 0 ≤ _)⟩)
  dsimp only [Pt.U, Pt.locs, Pt.cells, Pt.slots] at X2 l2 y2 z2 st2 hQ2
  subst l2 y2 z2
  obtain ⟨rfl, Nq2, eq2⟩ := hQ2
  replace N0 := Fr.app N0 Nq2
  refine Out.via (g' := (mkF m 10 #[.val (.int c0)] [(.int (1 : Int32))])) st2 ?_
  refine Out.via (g' := (mkF m 13 #[.val (.int c0)] [])) (fun _ k => XS.ifNo X2.here hx rfl (hb hby own_d3_10) rfl ((if0 _ _).trans (feq (by decide)).1) k) ?_
  obtain ⟨T3, h3, X3, e3, E3, A3, D3, -, st3⟩ := newO X2 hx hZ hown (hw _ (List.mem_of_getElem? (i := 37) rfl)) (hw _ (List.mem_of_getElem? (i := 5) rfl)) (hw _ (List.mem_of_getElem? (i := 4) rfl)) eq2 (g := (mkF m 13 #[.val (.int c0)] [])) rfl (hb hby own_d3_13) (by decide) (by decide)
  obtain ⟨b, gq3⟩ : ∃ z, z = h0.size := ⟨_, rfl⟩
  rw [← gq3] at A3 D3 st3
  have g_b : n0 ≤ b := Nat.le_trans (own_z0 O) (Nat.le_of_eq gq3.symm)
  have sz_b : h0.size ≤ b := Nat.le_trans Kp.1 (Nat.le_of_eq gq3.symm)
  replace O := O.ext E3
  replace Kp := Kp.ext E3
  have F_value_b : Fld Z h3 b "java/lang/String" "value" "[B" .null := D3 (Or.inr (hw _ (List.mem_of_getElem? (i := 7) rfl))) (ty := (.array .byte)) (by decide)
  have F_coder_b : Fld Z h3 b "java/lang/String" "coder" "B" (.int (0 : Int32)) := D3 (Or.inr (hw _ (List.mem_of_getElem? (i := 8) rfl))) (ty := .byte) (by decide)
  refine Out.via (g' := (mkF m 16 #[.val (.int c0)] [(.ref b)])) st3 ?_
  refine Out.via (g' := (mkF m 17 #[.val (.int c0)] [(.ref b), (.ref b)])) (fun _ k => XS.dup X3.here hx rfl (hb hby own_d3_16) rfl rfl k) ?_
  refine Out.via (g' := (mkF m 18 #[.val (.int c0)] [(.int c0), (.ref b), (.ref b)])) (fun _ k => XS.iloadN X3.here hx rfl (hb hby own_d3_17) rfl k) ?_
  obtain ⟨_, _, ⟨T4, L4, kc4, ks4⟩, -, X4, ⟨Lc4, hQ4, l4, y4, z4⟩, st4⟩ := Jvm.LawKit.callS X3 hx (y := (⟨"java/lang/StringLatin1", "toBytes", "(C)[B"⟩ : MethodName)) hown (mvT hZ (hw _ (List.mem_of_getElem? (i := 81) rfl))) (mvT hZ (hw _ (List.mem_of_getElem? (i := 82) rfl))) (mvT hZ (hw _ (List.mem_of_getElem? (i := 44) rfl))) (mvT hZ (hw _ (List.mem_of_getElem? (i := 83) rfl))) (by decide) (backOf (W := 2) (own_rm18 l Z a0 hw [] c0 h3 n0 O) hZ (hw _ (List.mem_of_getElem? (i := 83) rfl)) (hw _ (List.mem_of_getElem? (i := 44) rfl)) (by decide) (by decide)) (g := (mkF m 18 #[.val (.int c0)] [(.int c0), (.ref b), (.ref b)])) rfl (by rw [hml]; rfl) (argsL := [(.int c0)]) (rest := [(.ref b), (.ref b)]) (lenOf own_pd3 rfl) rfl (by show 2 * 0 + _ ≤ _; exact Nat.le_of_eq rfl) (hb hby own_d3_18) (fun _ _ => ⟨rfl, e3, (by decide : 1 + 1 ≤ _), (by decide : 4 + 1 ≤ _)⟩)
  dsimp only [Pt.U, Pt.locs, Pt.cells, Pt.slots] at X4 l4 y4 z4 st4 hQ4
  subst l4 y4 z4
  obtain ⟨t, kt, rfl, Nq4, Kq4, le_t, At⟩ := hQ4
  replace N0 := Fr.app N0 Nq4
  have ne_b_t : b ≠ t := Nat.ne_of_lt (Nat.lt_of_lt_of_le A3.lt le_t)
  replace F_value_b := F_value_b.keep Kq4 nin0
  replace F_coder_b := F_coder_b.keep Kq4 nin0
  replace A3 := A3.keep Kq4
  replace O := O.keep Kq4 all0
  replace Kp := Kp.trans Kq4 all0
  refine Out.via (g' := (mkF m 21 #[.val (.int c0)] [(.ref t), (.ref b), (.ref b)])) st4 ?_
  refine Out.via (g' := (mkF m 22 #[.val (.int c0)] [(.int (0 : Int32)), (.ref t), (.ref b), (.ref b)])) (fun _ k => XS.iconst X4.here hx rfl (hb hby own_d3_21) k) ?_
  obtain ⟨_, _, ⟨T5, L5, kc5, ks5⟩, -, X5, ⟨Lc5, hQ5, l5, y5, z5⟩, st5⟩ := X4.specialBack hx (y := (⟨"java/lang/String", "<init>", "([BB)V"⟩ : MethodName)) rfl hown (mvT hZ (hw _ (List.mem_of_getElem? (i := 84) rfl))) (mvT hZ (hw _ (List.mem_of_getElem? (i := 85) rfl))) (mvT hZ (hw _ (List.mem_of_getElem? (i := 86) rfl))) (by decide) (backOf (W := 1) (own_rm19 l Z a0 hw [] b t T4.heap n0 O g_b A3 F_value_b F_coder_b) hZ (hw _ (List.mem_of_getElem? (i := 86) rfl)) (hw _ (List.mem_of_getElem? (i := 4) rfl)) (by decide) (by decide)) (g := (mkF m 22 #[.val (.int c0)] [(.int (0 : Int32)), (.ref t), (.ref b), (.ref b)])) rfl (by rw [hml]; rfl) (Steps.refl _) (a := b) (argsL := [(.ref t), (.int (0 : Int32))]) (rest := [(.ref b)]) (lenOf own_pd4 rfl) rfl (by show 2 * 0 + _ ≤ _; exact Nat.le_of_eq rfl) (hb hby own_d3_22) (fun _ _ => ⟨rfl, rfl, (by decide : 2 + 0 ≤ _), (by decide : 5 + 0 ≤ _)⟩)
  dsimp only [Pt.U, Pt.locs, Pt.cells, Pt.slots] at X5 l5 y5 z5 st5 hQ5
  subst l5 y5 z5
  obtain ⟨rfl, Nq5, Kq5, Eb, Vb, Cb⟩ := hQ5
  replace N0 := Fr.app N0 Nq5
  replace A3 := A3.keep Kq5
  replace At := At.keep Kq5 (ninS (Ne.symm ne_b_t) nin0)
  replace O := O.keep Kq5 (allS g_b all0)
  replace Kp := Kp.trans Kq5 (allS (Or.inr sz_b) all0)
  refine Out.to (g' := (mkF m 25 #[.val (.int c0)] [(.ref b)])) st5 ?_
  exact Out.endN X5 (fun h => by rw [Bd.returns] at h; cases h) Bd.notSynchronized (by decide) (by decide) (⟨b, rfl, N0, Kp, sz_b, own_allS hc own_all0, Eb, Cb, t, kt, Vb, At⟩) (fun fs hr => own_retR X5 hx (t := (.object "java/lang/String")) Bd.returns rfl rfl rfl (hb hby own_d3_25) hr)
theorem own_pn5 : plainName "com/example/queuebind/queuebind/SoapVersionOfMediaTypePinLaw" = true := by first | (simp [plainName, overriddenIn]; done) | decide +kernel
theorem own_d4_0 : decode method_2_code 0 = .ok (.bipush 8, 2) := by decide +kernel
theorem own_d4_2 : decode method_2_code 2 = .ok (.newarray .char, 2) := by decide +kernel
theorem own_d4_4 : decode method_2_code 4 = .ok (.dup, 1) := by decide +kernel
theorem own_d4_5 : decode method_2_code 5 = .ok (.iconst 0, 1) := by decide +kernel
theorem own_d4_6 : decode method_2_code 6 = .ok (.bipush 116, 2) := by decide +kernel
theorem own_d4_8 : decode method_2_code 8 = .ok (.castore, 1) := by decide +kernel
theorem own_d4_9 : decode method_2_code 9 = .ok (.dup, 1) := by decide +kernel
theorem own_d4_10 : decode method_2_code 10 = .ok (.iconst 1, 1) := by decide +kernel
theorem own_d4_11 : decode method_2_code 11 = .ok (.bipush 101, 2) := by decide +kernel
theorem own_d4_13 : decode method_2_code 13 = .ok (.castore, 1) := by decide +kernel
theorem own_d4_14 : decode method_2_code 14 = .ok (.dup, 1) := by decide +kernel
theorem own_d4_15 : decode method_2_code 15 = .ok (.iconst 2, 1) := by decide +kernel
theorem own_d4_16 : decode method_2_code 16 = .ok (.bipush 120, 2) := by decide +kernel
theorem own_d4_18 : decode method_2_code 18 = .ok (.castore, 1) := by decide +kernel
theorem own_d4_19 : decode method_2_code 19 = .ok (.dup, 1) := by decide +kernel
theorem own_d4_20 : decode method_2_code 20 = .ok (.iconst 3, 1) := by decide +kernel
theorem own_d4_21 : decode method_2_code 21 = .ok (.bipush 116, 2) := by decide +kernel
theorem own_d4_23 : decode method_2_code 23 = .ok (.castore, 1) := by decide +kernel
theorem own_d4_24 : decode method_2_code 24 = .ok (.dup, 1) := by decide +kernel
theorem own_d4_25 : decode method_2_code 25 = .ok (.iconst 4, 1) := by decide +kernel
theorem own_d4_26 : decode method_2_code 26 = .ok (.bipush 47, 2) := by decide +kernel
theorem own_d4_28 : decode method_2_code 28 = .ok (.castore, 1) := by decide +kernel
theorem own_d4_29 : decode method_2_code 29 = .ok (.dup, 1) := by decide +kernel
theorem own_d4_30 : decode method_2_code 30 = .ok (.iconst 5, 1) := by decide +kernel
theorem own_d4_31 : decode method_2_code 31 = .ok (.bipush 120, 2) := by decide +kernel
theorem own_d4_33 : decode method_2_code 33 = .ok (.castore, 1) := by decide +kernel
theorem own_d4_34 : decode method_2_code 34 = .ok (.dup, 1) := by decide +kernel
theorem own_d4_35 : decode method_2_code 35 = .ok (.bipush 6, 2) := by decide +kernel
theorem own_d4_37 : decode method_2_code 37 = .ok (.bipush 109, 2) := by decide +kernel
theorem own_d4_39 : decode method_2_code 39 = .ok (.castore, 1) := by decide +kernel
theorem own_d4_40 : decode method_2_code 40 = .ok (.dup, 1) := by decide +kernel
theorem own_d4_41 : decode method_2_code 41 = .ok (.bipush 7, 2) := by decide +kernel
theorem own_d4_43 : decode method_2_code 43 = .ok (.bipush 108, 2) := by decide +kernel
theorem own_d4_45 : decode method_2_code 45 = .ok (.castore, 1) := by decide +kernel
theorem own_d4_46 : decode method_2_code 46 = .ok (.areturn, 1) := by decide +kernel
theorem own_efT (m : MethodId)  : entryFrame m #[] 0 = mkF m 0 #[] [] := by first | (simp [entryFrame, mkF, argsToLocals, Value.category]; done) | rfl
abbrev own_QT (Z : State)  (h0 : Heap) (n0 : Nat) : Option Value → Heap → List Loc → Prop := fun v h L => ∃ (b : Addr) (k : ClassId), v = some (.ref b) ∧ Fr n0 L ∧ Keep h0 h [] ∧ h0.size ≤ b ∧ Arv Z h b k .char (8 : Int32) (own_T11.map Value.int) (.int (0 : Int32))
set_option maxRecDepth 65536 in
set_option maxHeartbeats 40000000 in
theorem own_rmT (l : Launch) (Z : State) (a0 : Array Value) (hw : ∀ d ∈ tables_1, d.before a0 Z = true) (ws : List Jvm.Cond)  (h0 : Heap) (n0 : Nat) (O : Old Z n0 h0) :
    MetFree l (⟨"com/example/queuebind/queuebind/SoapVersionOfMediaTypePinLaw", "textChars", "()[C"⟩ : MethodName) (head1 (Jvm.Cond.code (⟨"com/example/queuebind/queuebind/SoapVersionOfMediaTypePinLaw", "textChars", "()[C"⟩ : MethodName) method_2_code 0 (some (.array .char)) :: ws) ({ frames := 0, cells := 1, slots := 8, locals := 0 } : Room)) (fun aa U => aa = #[] ∧ Z.Warmed39 U.vm ∧ U.heap = h0) (fun _ _ _ _ _ => True) (fun _ U o U' => ∃ v L, o = .returned v ∧ (own_QT Z  h0 n0) v U'.heap L ∧ FrameEnd U o U' L ({ frames := 0, cells := 1, slots := 8, locals := 0 } : Room).cells ({ frames := 0, cells := 1, slots := 8, locals := 0 } : Room).slots) := by
  refine MetFree.of_bodySF (plainFor_of_name own_pn5) hisR ?_
  intro p e s m args below meth c s₁ Bd hml0 hP hK
  obtain ⟨rfl, hZ, hh⟩ := hP
  have hx := Bd.exec
  have hby := Bd.bytes
  have hml : c.maxLocals = 0 := hml0
  have hown : s.vm.findClass "com/example/queuebind/queuebind/SoapVersionOfMediaTypePinLaw" = some m.cls := findClass_of_methodNamed Bd.named
  have hnm := (name_of_methodNamed Bd.named Bd.method).1
  have X0 : Stand p l e ({ frames := 0, cells := 1, slots := 8, locals := 0 } : Room) s m #[] below meth c s₁ [] 0 0 := Stand.of_body Bd
  have e0 : s₁.heap = h0 := by rw [← hh, Bd.state]; rfl
  have N0 := Fr.nil n0
  refine Out.start (Q := own_QT Z  h0 n0) (own_efT m  ) ?_
  have Kp := Keep.refl h0 []
  refine Out.via (g' := (mkF m 2 #[] [(.int (8 : Int32))])) (fun _ k => XS.bipush X0.here hx rfl (hb hby own_d4_0) k) ?_
  obtain ⟨T1, h1, kA1, X1, e1, E1, A1, st1⟩ := newP X0 hx hZ (hw _ (List.mem_of_getElem? (i := 49) rfl)) e0 (g := (mkF m 2 #[] [(.int (8 : Int32))])) rfl (hb hby own_d4_2) rfl (by decide) (cap := 8) (by decide) (by decide) (by decide) (by decide)
  obtain ⟨b, gq1⟩ : ∃ z, z = h0.size := ⟨_, rfl⟩
  rw [← gq1] at A1 st1
  have g_b : n0 ≤ b := Nat.le_trans (own_z0 O) (Nat.le_of_eq gq1.symm)
  have sz_b : h0.size ≤ b := Nat.le_trans Kp.1 (Nat.le_of_eq gq1.symm)
  replace O := O.ext E1
  replace Kp := Kp.ext E1
  have V_b : Arv Z h1 b kA1 .char (8 : Int32) [(.int (0 : Int32)), (.int (0 : Int32)), (.int (0 : Int32)), (.int (0 : Int32)), (.int (0 : Int32)), (.int (0 : Int32)), (.int (0 : Int32)), (.int (0 : Int32))] (.int (0 : Int32)) := (Arv.new A1 (by decide)).pad (pad_rep [] (.int (0 : Int32)) 8)
  refine Out.via (g' := (mkF m 4 #[] [(.ref b)])) st1 ?_
  have Kf2 := Keep.refl h1 [b]
  refine Out.via (g' := (mkF m 5 #[] [(.ref b), (.ref b)])) (fun _ k => XS.dup X1.here hx rfl (hb hby own_d4_4) rfl rfl k) ?_
  refine Out.via (g' := (mkF m 6 #[] [(.int (0 : Int32)), (.ref b), (.ref b)])) (fun _ k => XS.iconst X1.here hx rfl (hb hby own_d4_5) k) ?_
  refine Out.via (g' := (mkF m 8 #[] [(.int (116 : Int32)), (.int (0 : Int32)), (.ref b), (.ref b)])) (fun _ k => XS.bipush X1.here hx rfl (hb hby own_d4_6) k) ?_
  obtain ⟨T3, h3, L3, X3, e3, V_b, N0, O, Kf2, st3⟩ := own_stC X1 hx hZ e1 V_b (j := (0 : Int32)) ⟨by decide, by decide⟩ 0 rfl (Nat.le_of_ble_eq_true rfl) g_b N0 O Kf2 (Or.inl (List.mem_of_getElem? (i := 0) rfl)) (g := (mkF m 8 #[] [(.int (116 : Int32)), (.int (0 : Int32)), (.ref b), (.ref b)])) rfl rfl (hb hby own_d4_8)
  refine Out.via (g' := (mkF m 9 #[] [(.ref b)])) st3 ?_
  refine Out.via (g' := (mkF m 10 #[] [(.ref b), (.ref b)])) (fun _ k => XS.dup X3.here hx rfl (hb hby own_d4_9) rfl rfl k) ?_
  refine Out.via (g' := (mkF m 11 #[] [(.int (1 : Int32)), (.ref b), (.ref b)])) (fun _ k => XS.iconst X3.here hx rfl (hb hby own_d4_10) k) ?_
  refine Out.via (g' := (mkF m 13 #[] [(.int (101 : Int32)), (.int (1 : Int32)), (.ref b), (.ref b)])) (fun _ k => XS.bipush X3.here hx rfl (hb hby own_d4_11) k) ?_
  obtain ⟨T4, h4, L4, X4, e4, V_b, N0, O, Kf2, st4⟩ := own_stC X3 hx hZ e3 V_b (j := (1 : Int32)) ⟨by decide, by decide⟩ 1 rfl (Nat.le_of_ble_eq_true rfl) g_b N0 O Kf2 (Or.inl (List.mem_of_getElem? (i := 0) rfl)) (g := (mkF m 13 #[] [(.int (101 : Int32)), (.int (1 : Int32)), (.ref b), (.ref b)])) rfl rfl (hb hby own_d4_13)
  refine Out.via (g' := (mkF m 14 #[] [(.ref b)])) st4 ?_
  refine Out.via (g' := (mkF m 15 #[] [(.ref b), (.ref b)])) (fun _ k => XS.dup X4.here hx rfl (hb hby own_d4_14) rfl rfl k) ?_
  refine Out.via (g' := (mkF m 16 #[] [(.int (2 : Int32)), (.ref b), (.ref b)])) (fun _ k => XS.iconst X4.here hx rfl (hb hby own_d4_15) k) ?_
  refine Out.via (g' := (mkF m 18 #[] [(.int (120 : Int32)), (.int (2 : Int32)), (.ref b), (.ref b)])) (fun _ k => XS.bipush X4.here hx rfl (hb hby own_d4_16) k) ?_
  obtain ⟨T5, h5, L5, X5, e5, V_b, N0, O, Kf2, st5⟩ := own_stC X4 hx hZ e4 V_b (j := (2 : Int32)) ⟨by decide, by decide⟩ 2 rfl (Nat.le_of_ble_eq_true rfl) g_b N0 O Kf2 (Or.inl (List.mem_of_getElem? (i := 0) rfl)) (g := (mkF m 18 #[] [(.int (120 : Int32)), (.int (2 : Int32)), (.ref b), (.ref b)])) rfl rfl (hb hby own_d4_18)
  refine Out.via (g' := (mkF m 19 #[] [(.ref b)])) st5 ?_
  refine Out.via (g' := (mkF m 20 #[] [(.ref b), (.ref b)])) (fun _ k => XS.dup X5.here hx rfl (hb hby own_d4_19) rfl rfl k) ?_
  refine Out.via (g' := (mkF m 21 #[] [(.int (3 : Int32)), (.ref b), (.ref b)])) (fun _ k => XS.iconst X5.here hx rfl (hb hby own_d4_20) k) ?_
  refine Out.via (g' := (mkF m 23 #[] [(.int (116 : Int32)), (.int (3 : Int32)), (.ref b), (.ref b)])) (fun _ k => XS.bipush X5.here hx rfl (hb hby own_d4_21) k) ?_
  obtain ⟨T6, h6, L6, X6, e6, V_b, N0, O, Kf2, st6⟩ := own_stC X5 hx hZ e5 V_b (j := (3 : Int32)) ⟨by decide, by decide⟩ 3 rfl (Nat.le_of_ble_eq_true rfl) g_b N0 O Kf2 (Or.inl (List.mem_of_getElem? (i := 0) rfl)) (g := (mkF m 23 #[] [(.int (116 : Int32)), (.int (3 : Int32)), (.ref b), (.ref b)])) rfl rfl (hb hby own_d4_23)
  refine Out.via (g' := (mkF m 24 #[] [(.ref b)])) st6 ?_
  refine Out.via (g' := (mkF m 25 #[] [(.ref b), (.ref b)])) (fun _ k => XS.dup X6.here hx rfl (hb hby own_d4_24) rfl rfl k) ?_
  refine Out.via (g' := (mkF m 26 #[] [(.int (4 : Int32)), (.ref b), (.ref b)])) (fun _ k => XS.iconst X6.here hx rfl (hb hby own_d4_25) k) ?_
  refine Out.via (g' := (mkF m 28 #[] [(.int (47 : Int32)), (.int (4 : Int32)), (.ref b), (.ref b)])) (fun _ k => XS.bipush X6.here hx rfl (hb hby own_d4_26) k) ?_
  obtain ⟨T7, h7, L7, X7, e7, V_b, N0, O, Kf2, st7⟩ := own_stC X6 hx hZ e6 V_b (j := (4 : Int32)) ⟨by decide, by decide⟩ 4 rfl (Nat.le_of_ble_eq_true rfl) g_b N0 O Kf2 (Or.inl (List.mem_of_getElem? (i := 0) rfl)) (g := (mkF m 28 #[] [(.int (47 : Int32)), (.int (4 : Int32)), (.ref b), (.ref b)])) rfl rfl (hb hby own_d4_28)
  refine Out.via (g' := (mkF m 29 #[] [(.ref b)])) st7 ?_
  refine Out.via (g' := (mkF m 30 #[] [(.ref b), (.ref b)])) (fun _ k => XS.dup X7.here hx rfl (hb hby own_d4_29) rfl rfl k) ?_
  refine Out.via (g' := (mkF m 31 #[] [(.int (5 : Int32)), (.ref b), (.ref b)])) (fun _ k => XS.iconst X7.here hx rfl (hb hby own_d4_30) k) ?_
  refine Out.via (g' := (mkF m 33 #[] [(.int (120 : Int32)), (.int (5 : Int32)), (.ref b), (.ref b)])) (fun _ k => XS.bipush X7.here hx rfl (hb hby own_d4_31) k) ?_
  obtain ⟨T8, h8, L8, X8, e8, V_b, N0, O, Kf2, st8⟩ := own_stC X7 hx hZ e7 V_b (j := (5 : Int32)) ⟨by decide, by decide⟩ 5 rfl (Nat.le_of_ble_eq_true rfl) g_b N0 O Kf2 (Or.inl (List.mem_of_getElem? (i := 0) rfl)) (g := (mkF m 33 #[] [(.int (120 : Int32)), (.int (5 : Int32)), (.ref b), (.ref b)])) rfl rfl (hb hby own_d4_33)
  refine Out.via (g' := (mkF m 34 #[] [(.ref b)])) st8 ?_
  refine Out.via (g' := (mkF m 35 #[] [(.ref b), (.ref b)])) (fun _ k => XS.dup X8.here hx rfl (hb hby own_d4_34) rfl rfl k) ?_
  refine Out.via (g' := (mkF m 37 #[] [(.int (6 : Int32)), (.ref b), (.ref b)])) (fun _ k => XS.bipush X8.here hx rfl (hb hby own_d4_35) k) ?_
  refine Out.via (g' := (mkF m 39 #[] [(.int (109 : Int32)), (.int (6 : Int32)), (.ref b), (.ref b)])) (fun _ k => XS.bipush X8.here hx rfl (hb hby own_d4_37) k) ?_
  obtain ⟨T9, h9, L9, X9, e9, V_b, N0, O, Kf2, st9⟩ := own_stC X8 hx hZ e8 V_b (j := (6 : Int32)) ⟨by decide, by decide⟩ 6 rfl (Nat.le_of_ble_eq_true rfl) g_b N0 O Kf2 (Or.inl (List.mem_of_getElem? (i := 0) rfl)) (g := (mkF m 39 #[] [(.int (109 : Int32)), (.int (6 : Int32)), (.ref b), (.ref b)])) rfl rfl (hb hby own_d4_39)
  refine Out.via (g' := (mkF m 40 #[] [(.ref b)])) st9 ?_
  refine Out.via (g' := (mkF m 41 #[] [(.ref b), (.ref b)])) (fun _ k => XS.dup X9.here hx rfl (hb hby own_d4_40) rfl rfl k) ?_
  refine Out.via (g' := (mkF m 43 #[] [(.int (7 : Int32)), (.ref b), (.ref b)])) (fun _ k => XS.bipush X9.here hx rfl (hb hby own_d4_41) k) ?_
  refine Out.via (g' := (mkF m 45 #[] [(.int (108 : Int32)), (.int (7 : Int32)), (.ref b), (.ref b)])) (fun _ k => XS.bipush X9.here hx rfl (hb hby own_d4_43) k) ?_
  obtain ⟨T10, h10, L10, X10, e10, V_b, N0, O, Kf2, st10⟩ := own_stC X9 hx hZ e9 V_b (j := (7 : Int32)) ⟨by decide, by decide⟩ 7 rfl (Nat.le_of_ble_eq_true rfl) g_b N0 O Kf2 (Or.inl (List.mem_of_getElem? (i := 0) rfl)) (g := (mkF m 45 #[] [(.int (108 : Int32)), (.int (7 : Int32)), (.ref b), (.ref b)])) rfl rfl (hb hby own_d4_45)
  refine Out.via (g' := (mkF m 46 #[] [(.ref b)])) st10 ?_
  replace V_b : Arv Z h10 b kA1 .char (8 : Int32) [(.int (nar .char (116 : Int32))), (.int (nar .char (101 : Int32))), (.int (nar .char (120 : Int32))), (.int (nar .char (116 : Int32))), (.int (nar .char (47 : Int32))), (.int (nar .char (120 : Int32))), (.int (nar .char (109 : Int32))), (.int (nar .char (108 : Int32)))] (.int (0 : Int32)) := V_b
  replace Kp := Kp.trans Kf2 (allS (Or.inr sz_b) all0)
  have hvs : ([(.int (nar .char (116 : Int32))), (.int (nar .char (101 : Int32))), (.int (nar .char (120 : Int32))), (.int (nar .char (116 : Int32))), (.int (nar .char (47 : Int32))), (.int (nar .char (120 : Int32))), (.int (nar .char (109 : Int32))), (.int (nar .char (108 : Int32)))] : List Value) = own_T11.map Value.int := by decide +kernel
  rw [hvs] at V_b
  exact Out.endN X10 (fun h => by rw [Bd.returns] at h; cases h) Bd.notSynchronized (by decide) (by decide) (by rw [e10]; exact ⟨b, _, rfl, N0, Kp, sz_b, V_b⟩) (fun fs hr => own_retR X10 hx (t := (.array .char)) Bd.returns rfl rfl rfl (hb hby own_d4_46) hr)
theorem own_d5_0 : decode method_3_code 0 = .ok (.bipush 20, 2) := by decide +kernel
theorem own_d5_2 : decode method_3_code 2 = .ok (.newarray .char, 2) := by decide +kernel
theorem own_d5_4 : decode method_3_code 4 = .ok (.dup, 1) := by decide +kernel
theorem own_d5_5 : decode method_3_code 5 = .ok (.iconst 0, 1) := by decide +kernel
theorem own_d5_6 : decode method_3_code 6 = .ok (.bipush 97, 2) := by decide +kernel
theorem own_d5_8 : decode method_3_code 8 = .ok (.castore, 1) := by decide +kernel
theorem own_d5_9 : decode method_3_code 9 = .ok (.dup, 1) := by decide +kernel
theorem own_d5_10 : decode method_3_code 10 = .ok (.iconst 1, 1) := by decide +kernel
theorem own_d5_11 : decode method_3_code 11 = .ok (.bipush 112, 2) := by decide +kernel
theorem own_d5_13 : decode method_3_code 13 = .ok (.castore, 1) := by decide +kernel
theorem own_d5_14 : decode method_3_code 14 = .ok (.dup, 1) := by decide +kernel
theorem own_d5_15 : decode method_3_code 15 = .ok (.iconst 2, 1) := by decide +kernel
theorem own_d5_16 : decode method_3_code 16 = .ok (.bipush 112, 2) := by decide +kernel
theorem own_d5_18 : decode method_3_code 18 = .ok (.castore, 1) := by decide +kernel
theorem own_d5_19 : decode method_3_code 19 = .ok (.dup, 1) := by decide +kernel
theorem own_d5_20 : decode method_3_code 20 = .ok (.iconst 3, 1) := by decide +kernel
theorem own_d5_21 : decode method_3_code 21 = .ok (.bipush 108, 2) := by decide +kernel
theorem own_d5_23 : decode method_3_code 23 = .ok (.castore, 1) := by decide +kernel
theorem own_d5_24 : decode method_3_code 24 = .ok (.dup, 1) := by decide +kernel
theorem own_d5_25 : decode method_3_code 25 = .ok (.iconst 4, 1) := by decide +kernel
theorem own_d5_26 : decode method_3_code 26 = .ok (.bipush 105, 2) := by decide +kernel
theorem own_d5_28 : decode method_3_code 28 = .ok (.castore, 1) := by decide +kernel
theorem own_d5_29 : decode method_3_code 29 = .ok (.dup, 1) := by decide +kernel
theorem own_d5_30 : decode method_3_code 30 = .ok (.iconst 5, 1) := by decide +kernel
theorem own_d5_31 : decode method_3_code 31 = .ok (.bipush 99, 2) := by decide +kernel
theorem own_d5_33 : decode method_3_code 33 = .ok (.castore, 1) := by decide +kernel
theorem own_d5_34 : decode method_3_code 34 = .ok (.dup, 1) := by decide +kernel
theorem own_d5_35 : decode method_3_code 35 = .ok (.bipush 6, 2) := by decide +kernel
theorem own_d5_37 : decode method_3_code 37 = .ok (.bipush 97, 2) := by decide +kernel
theorem own_d5_39 : decode method_3_code 39 = .ok (.castore, 1) := by decide +kernel
theorem own_d5_40 : decode method_3_code 40 = .ok (.dup, 1) := by decide +kernel
theorem own_d5_41 : decode method_3_code 41 = .ok (.bipush 7, 2) := by decide +kernel
theorem own_d5_43 : decode method_3_code 43 = .ok (.bipush 116, 2) := by decide +kernel
theorem own_d5_45 : decode method_3_code 45 = .ok (.castore, 1) := by decide +kernel
theorem own_d5_46 : decode method_3_code 46 = .ok (.dup, 1) := by decide +kernel
theorem own_d5_47 : decode method_3_code 47 = .ok (.bipush 8, 2) := by decide +kernel
theorem own_d5_49 : decode method_3_code 49 = .ok (.bipush 105, 2) := by decide +kernel
theorem own_d5_51 : decode method_3_code 51 = .ok (.castore, 1) := by decide +kernel
theorem own_d5_52 : decode method_3_code 52 = .ok (.dup, 1) := by decide +kernel
theorem own_d5_53 : decode method_3_code 53 = .ok (.bipush 9, 2) := by decide +kernel
theorem own_d5_55 : decode method_3_code 55 = .ok (.bipush 111, 2) := by decide +kernel
theorem own_d5_57 : decode method_3_code 57 = .ok (.castore, 1) := by decide +kernel
theorem own_d5_58 : decode method_3_code 58 = .ok (.dup, 1) := by decide +kernel
theorem own_d5_59 : decode method_3_code 59 = .ok (.bipush 10, 2) := by decide +kernel
theorem own_d5_61 : decode method_3_code 61 = .ok (.bipush 110, 2) := by decide +kernel
theorem own_d5_63 : decode method_3_code 63 = .ok (.castore, 1) := by decide +kernel
theorem own_d5_64 : decode method_3_code 64 = .ok (.dup, 1) := by decide +kernel
theorem own_d5_65 : decode method_3_code 65 = .ok (.bipush 11, 2) := by decide +kernel
theorem own_d5_67 : decode method_3_code 67 = .ok (.bipush 47, 2) := by decide +kernel
theorem own_d5_69 : decode method_3_code 69 = .ok (.castore, 1) := by decide +kernel
theorem own_d5_70 : decode method_3_code 70 = .ok (.dup, 1) := by decide +kernel
theorem own_d5_71 : decode method_3_code 71 = .ok (.bipush 12, 2) := by decide +kernel
theorem own_d5_73 : decode method_3_code 73 = .ok (.bipush 115, 2) := by decide +kernel
theorem own_d5_75 : decode method_3_code 75 = .ok (.castore, 1) := by decide +kernel
theorem own_d5_76 : decode method_3_code 76 = .ok (.dup, 1) := by decide +kernel
theorem own_d5_77 : decode method_3_code 77 = .ok (.bipush 13, 2) := by decide +kernel
theorem own_d5_79 : decode method_3_code 79 = .ok (.bipush 111, 2) := by decide +kernel
theorem own_d5_81 : decode method_3_code 81 = .ok (.castore, 1) := by decide +kernel
theorem own_d5_82 : decode method_3_code 82 = .ok (.dup, 1) := by decide +kernel
theorem own_d5_83 : decode method_3_code 83 = .ok (.bipush 14, 2) := by decide +kernel
theorem own_d5_85 : decode method_3_code 85 = .ok (.bipush 97, 2) := by decide +kernel
theorem own_d5_87 : decode method_3_code 87 = .ok (.castore, 1) := by decide +kernel
theorem own_d5_88 : decode method_3_code 88 = .ok (.dup, 1) := by decide +kernel
theorem own_d5_89 : decode method_3_code 89 = .ok (.bipush 15, 2) := by decide +kernel
theorem own_d5_91 : decode method_3_code 91 = .ok (.bipush 112, 2) := by decide +kernel
theorem own_d5_93 : decode method_3_code 93 = .ok (.castore, 1) := by decide +kernel
theorem own_d5_94 : decode method_3_code 94 = .ok (.dup, 1) := by decide +kernel
theorem own_d5_95 : decode method_3_code 95 = .ok (.bipush 16, 2) := by decide +kernel
theorem own_d5_97 : decode method_3_code 97 = .ok (.bipush 43, 2) := by decide +kernel
theorem own_d5_99 : decode method_3_code 99 = .ok (.castore, 1) := by decide +kernel
theorem own_d5_100 : decode method_3_code 100 = .ok (.dup, 1) := by decide +kernel
theorem own_d5_101 : decode method_3_code 101 = .ok (.bipush 17, 2) := by decide +kernel
theorem own_d5_103 : decode method_3_code 103 = .ok (.bipush 120, 2) := by decide +kernel
theorem own_d5_105 : decode method_3_code 105 = .ok (.castore, 1) := by decide +kernel
theorem own_d5_106 : decode method_3_code 106 = .ok (.dup, 1) := by decide +kernel
theorem own_d5_107 : decode method_3_code 107 = .ok (.bipush 18, 2) := by decide +kernel
theorem own_d5_109 : decode method_3_code 109 = .ok (.bipush 109, 2) := by decide +kernel
theorem own_d5_111 : decode method_3_code 111 = .ok (.castore, 1) := by decide +kernel
theorem own_d5_112 : decode method_3_code 112 = .ok (.dup, 1) := by decide +kernel
theorem own_d5_113 : decode method_3_code 113 = .ok (.bipush 19, 2) := by decide +kernel
theorem own_d5_115 : decode method_3_code 115 = .ok (.bipush 108, 2) := by decide +kernel
theorem own_d5_117 : decode method_3_code 117 = .ok (.castore, 1) := by decide +kernel
theorem own_d5_118 : decode method_3_code 118 = .ok (.areturn, 1) := by decide +kernel
theorem own_efS (m : MethodId)  : entryFrame m #[] 0 = mkF m 0 #[] [] := by first | (simp [entryFrame, mkF, argsToLocals, Value.category]; done) | rfl
abbrev own_QS (Z : State)  (h0 : Heap) (n0 : Nat) : Option Value → Heap → List Loc → Prop := fun v h L => ∃ (b : Addr) (k : ClassId), v = some (.ref b) ∧ Fr n0 L ∧ Keep h0 h [] ∧ h0.size ≤ b ∧ Arv Z h b k .char (20 : Int32) (own_T12.map Value.int) (.int (0 : Int32))
set_option maxRecDepth 65536 in
set_option maxHeartbeats 40000000 in
theorem own_rmS (l : Launch) (Z : State) (a0 : Array Value) (hw : ∀ d ∈ tables_1, d.before a0 Z = true) (ws : List Jvm.Cond)  (h0 : Heap) (n0 : Nat) (O : Old Z n0 h0) :
    MetFree l (⟨"com/example/queuebind/queuebind/SoapVersionOfMediaTypePinLaw", "soapChars", "()[C"⟩ : MethodName) (head1 (Jvm.Cond.code (⟨"com/example/queuebind/queuebind/SoapVersionOfMediaTypePinLaw", "soapChars", "()[C"⟩ : MethodName) method_3_code 0 (some (.array .char)) :: ws) ({ frames := 0, cells := 1, slots := 20, locals := 0 } : Room)) (fun aa U => aa = #[] ∧ Z.Warmed39 U.vm ∧ U.heap = h0) (fun _ _ _ _ _ => True) (fun _ U o U' => ∃ v L, o = .returned v ∧ (own_QS Z  h0 n0) v U'.heap L ∧ FrameEnd U o U' L ({ frames := 0, cells := 1, slots := 20, locals := 0 } : Room).cells ({ frames := 0, cells := 1, slots := 20, locals := 0 } : Room).slots) := by
  refine MetFree.of_bodySF (plainFor_of_name own_pn5) hisR ?_
  intro p e s m args below meth c s₁ Bd hml0 hP hK
  obtain ⟨rfl, hZ, hh⟩ := hP
  have hx := Bd.exec
  have hby := Bd.bytes
  have hml : c.maxLocals = 0 := hml0
  have hown : s.vm.findClass "com/example/queuebind/queuebind/SoapVersionOfMediaTypePinLaw" = some m.cls := findClass_of_methodNamed Bd.named
  have hnm := (name_of_methodNamed Bd.named Bd.method).1
  have X0 : Stand p l e ({ frames := 0, cells := 1, slots := 20, locals := 0 } : Room) s m #[] below meth c s₁ [] 0 0 := Stand.of_body Bd
  have e0 : s₁.heap = h0 := by rw [← hh, Bd.state]; rfl
  have N0 := Fr.nil n0
  refine Out.start (Q := own_QS Z  h0 n0) (own_efS m  ) ?_
  have Kp := Keep.refl h0 []
  refine Out.via (g' := (mkF m 2 #[] [(.int (20 : Int32))])) (fun _ k => XS.bipush X0.here hx rfl (hb hby own_d5_0) k) ?_
  obtain ⟨T1, h1, kA1, X1, e1, E1, A1, st1⟩ := newP X0 hx hZ (hw _ (List.mem_of_getElem? (i := 49) rfl)) e0 (g := (mkF m 2 #[] [(.int (20 : Int32))])) rfl (hb hby own_d5_2) rfl (by decide) (cap := 20) (by decide) (by decide) (by decide) (by decide)
  obtain ⟨b, gq1⟩ : ∃ z, z = h0.size := ⟨_, rfl⟩
  rw [← gq1] at A1 st1
  have g_b : n0 ≤ b := Nat.le_trans (own_z0 O) (Nat.le_of_eq gq1.symm)
  have sz_b : h0.size ≤ b := Nat.le_trans Kp.1 (Nat.le_of_eq gq1.symm)
  replace O := O.ext E1
  replace Kp := Kp.ext E1
  have V_b : Arv Z h1 b kA1 .char (20 : Int32) [(.int (0 : Int32)), (.int (0 : Int32)), (.int (0 : Int32)), (.int (0 : Int32)), (.int (0 : Int32)), (.int (0 : Int32)), (.int (0 : Int32)), (.int (0 : Int32)), (.int (0 : Int32)), (.int (0 : Int32)), (.int (0 : Int32)), (.int (0 : Int32)), (.int (0 : Int32)), (.int (0 : Int32)), (.int (0 : Int32)), (.int (0 : Int32)), (.int (0 : Int32)), (.int (0 : Int32)), (.int (0 : Int32)), (.int (0 : Int32))] (.int (0 : Int32)) := (Arv.new A1 (by decide)).pad (pad_rep [] (.int (0 : Int32)) 20)
  refine Out.via (g' := (mkF m 4 #[] [(.ref b)])) st1 ?_
  have Kf2 := Keep.refl h1 [b]
  refine Out.via (g' := (mkF m 5 #[] [(.ref b), (.ref b)])) (fun _ k => XS.dup X1.here hx rfl (hb hby own_d5_4) rfl rfl k) ?_
  refine Out.via (g' := (mkF m 6 #[] [(.int (0 : Int32)), (.ref b), (.ref b)])) (fun _ k => XS.iconst X1.here hx rfl (hb hby own_d5_5) k) ?_
  refine Out.via (g' := (mkF m 8 #[] [(.int (97 : Int32)), (.int (0 : Int32)), (.ref b), (.ref b)])) (fun _ k => XS.bipush X1.here hx rfl (hb hby own_d5_6) k) ?_
  obtain ⟨T3, h3, L3, X3, e3, V_b, N0, O, Kf2, st3⟩ := own_stC X1 hx hZ e1 V_b (j := (0 : Int32)) ⟨by decide, by decide⟩ 0 rfl (Nat.le_of_ble_eq_true rfl) g_b N0 O Kf2 (Or.inl (List.mem_of_getElem? (i := 0) rfl)) (g := (mkF m 8 #[] [(.int (97 : Int32)), (.int (0 : Int32)), (.ref b), (.ref b)])) rfl rfl (hb hby own_d5_8)
  replace V_b : Arv Z h3 b kA1 .char (20 : Int32) [(.int (nar .char (97 : Int32))), (.int (0 : Int32)), (.int (0 : Int32)), (.int (0 : Int32)), (.int (0 : Int32)), (.int (0 : Int32)), (.int (0 : Int32)), (.int (0 : Int32)), (.int (0 : Int32)), (.int (0 : Int32)), (.int (0 : Int32)), (.int (0 : Int32)), (.int (0 : Int32)), (.int (0 : Int32)), (.int (0 : Int32)), (.int (0 : Int32)), (.int (0 : Int32)), (.int (0 : Int32)), (.int (0 : Int32)), (.int (0 : Int32))] (.int (0 : Int32)) := V_b
  refine Out.via (g' := (mkF m 9 #[] [(.ref b)])) st3 ?_
  refine Out.via (g' := (mkF m 10 #[] [(.ref b), (.ref b)])) (fun _ k => XS.dup X3.here hx rfl (hb hby own_d5_9) rfl rfl k) ?_
  refine Out.via (g' := (mkF m 11 #[] [(.int (1 : Int32)), (.ref b), (.ref b)])) (fun _ k => XS.iconst X3.here hx rfl (hb hby own_d5_10) k) ?_
  refine Out.via (g' := (mkF m 13 #[] [(.int (112 : Int32)), (.int (1 : Int32)), (.ref b), (.ref b)])) (fun _ k => XS.bipush X3.here hx rfl (hb hby own_d5_11) k) ?_
  obtain ⟨T4, h4, L4, X4, e4, V_b, N0, O, Kf2, st4⟩ := own_stC X3 hx hZ e3 V_b (j := (1 : Int32)) ⟨by decide, by decide⟩ 1 rfl (Nat.le_of_ble_eq_true rfl) g_b N0 O Kf2 (Or.inl (List.mem_of_getElem? (i := 0) rfl)) (g := (mkF m 13 #[] [(.int (112 : Int32)), (.int (1 : Int32)), (.ref b), (.ref b)])) rfl rfl (hb hby own_d5_13)
  replace V_b : Arv Z h4 b kA1 .char (20 : Int32) [(.int (nar .char (97 : Int32))), (.int (nar .char (112 : Int32))), (.int (0 : Int32)), (.int (0 : Int32)), (.int (0 : Int32)), (.int (0 : Int32)), (.int (0 : Int32)), (.int (0 : Int32)), (.int (0 : Int32)), (.int (0 : Int32)), (.int (0 : Int32)), (.int (0 : Int32)), (.int (0 : Int32)), (.int (0 : Int32)), (.int (0 : Int32)), (.int (0 : Int32)), (.int (0 : Int32)), (.int (0 : Int32)), (.int (0 : Int32)), (.int (0 : Int32))] (.int (0 : Int32)) := V_b
  refine Out.via (g' := (mkF m 14 #[] [(.ref b)])) st4 ?_
  refine Out.via (g' := (mkF m 15 #[] [(.ref b), (.ref b)])) (fun _ k => XS.dup X4.here hx rfl (hb hby own_d5_14) rfl rfl k) ?_
  refine Out.via (g' := (mkF m 16 #[] [(.int (2 : Int32)), (.ref b), (.ref b)])) (fun _ k => XS.iconst X4.here hx rfl (hb hby own_d5_15) k) ?_
  refine Out.via (g' := (mkF m 18 #[] [(.int (112 : Int32)), (.int (2 : Int32)), (.ref b), (.ref b)])) (fun _ k => XS.bipush X4.here hx rfl (hb hby own_d5_16) k) ?_
  obtain ⟨T5, h5, L5, X5, e5, V_b, N0, O, Kf2, st5⟩ := own_stC X4 hx hZ e4 V_b (j := (2 : Int32)) ⟨by decide, by decide⟩ 2 rfl (Nat.le_of_ble_eq_true rfl) g_b N0 O Kf2 (Or.inl (List.mem_of_getElem? (i := 0) rfl)) (g := (mkF m 18 #[] [(.int (112 : Int32)), (.int (2 : Int32)), (.ref b), (.ref b)])) rfl rfl (hb hby own_d5_18)
  replace V_b : Arv Z h5 b kA1 .char (20 : Int32) [(.int (nar .char (97 : Int32))), (.int (nar .char (112 : Int32))), (.int (nar .char (112 : Int32))), (.int (0 : Int32)), (.int (0 : Int32)), (.int (0 : Int32)), (.int (0 : Int32)), (.int (0 : Int32)), (.int (0 : Int32)), (.int (0 : Int32)), (.int (0 : Int32)), (.int (0 : Int32)), (.int (0 : Int32)), (.int (0 : Int32)), (.int (0 : Int32)), (.int (0 : Int32)), (.int (0 : Int32)), (.int (0 : Int32)), (.int (0 : Int32)), (.int (0 : Int32))] (.int (0 : Int32)) := V_b
  refine Out.via (g' := (mkF m 19 #[] [(.ref b)])) st5 ?_
  refine Out.via (g' := (mkF m 20 #[] [(.ref b), (.ref b)])) (fun _ k => XS.dup X5.here hx rfl (hb hby own_d5_19) rfl rfl k) ?_
  refine Out.via (g' := (mkF m 21 #[] [(.int (3 : Int32)), (.ref b), (.ref b)])) (fun _ k => XS.iconst X5.here hx rfl (hb hby own_d5_20) k) ?_
  refine Out.via (g' := (mkF m 23 #[] [(.int (108 : Int32)), (.int (3 : Int32)), (.ref b), (.ref b)])) (fun _ k => XS.bipush X5.here hx rfl (hb hby own_d5_21) k) ?_
  obtain ⟨T6, h6, L6, X6, e6, V_b, N0, O, Kf2, st6⟩ := own_stC X5 hx hZ e5 V_b (j := (3 : Int32)) ⟨by decide, by decide⟩ 3 rfl (Nat.le_of_ble_eq_true rfl) g_b N0 O Kf2 (Or.inl (List.mem_of_getElem? (i := 0) rfl)) (g := (mkF m 23 #[] [(.int (108 : Int32)), (.int (3 : Int32)), (.ref b), (.ref b)])) rfl rfl (hb hby own_d5_23)
  replace V_b : Arv Z h6 b kA1 .char (20 : Int32) [(.int (nar .char (97 : Int32))), (.int (nar .char (112 : Int32))), (.int (nar .char (112 : Int32))), (.int (nar .char (108 : Int32))), (.int (0 : Int32)), (.int (0 : Int32)), (.int (0 : Int32)), (.int (0 : Int32)), (.int (0 : Int32)), (.int (0 : Int32)), (.int (0 : Int32)), (.int (0 : Int32)), (.int (0 : Int32)), (.int (0 : Int32)), (.int (0 : Int32)), (.int (0 : Int32)), (.int (0 : Int32)), (.int (0 : Int32)), (.int (0 : Int32)), (.int (0 : Int32))] (.int (0 : Int32)) := V_b
  refine Out.via (g' := (mkF m 24 #[] [(.ref b)])) st6 ?_
  refine Out.via (g' := (mkF m 25 #[] [(.ref b), (.ref b)])) (fun _ k => XS.dup X6.here hx rfl (hb hby own_d5_24) rfl rfl k) ?_
  refine Out.via (g' := (mkF m 26 #[] [(.int (4 : Int32)), (.ref b), (.ref b)])) (fun _ k => XS.iconst X6.here hx rfl (hb hby own_d5_25) k) ?_
  refine Out.via (g' := (mkF m 28 #[] [(.int (105 : Int32)), (.int (4 : Int32)), (.ref b), (.ref b)])) (fun _ k => XS.bipush X6.here hx rfl (hb hby own_d5_26) k) ?_
  obtain ⟨T7, h7, L7, X7, e7, V_b, N0, O, Kf2, st7⟩ := own_stC X6 hx hZ e6 V_b (j := (4 : Int32)) ⟨by decide, by decide⟩ 4 rfl (Nat.le_of_ble_eq_true rfl) g_b N0 O Kf2 (Or.inl (List.mem_of_getElem? (i := 0) rfl)) (g := (mkF m 28 #[] [(.int (105 : Int32)), (.int (4 : Int32)), (.ref b), (.ref b)])) rfl rfl (hb hby own_d5_28)
  replace V_b : Arv Z h7 b kA1 .char (20 : Int32) [(.int (nar .char (97 : Int32))), (.int (nar .char (112 : Int32))), (.int (nar .char (112 : Int32))), (.int (nar .char (108 : Int32))), (.int (nar .char (105 : Int32))), (.int (0 : Int32)), (.int (0 : Int32)), (.int (0 : Int32)), (.int (0 : Int32)), (.int (0 : Int32)), (.int (0 : Int32)), (.int (0 : Int32)), (.int (0 : Int32)), (.int (0 : Int32)), (.int (0 : Int32)), (.int (0 : Int32)), (.int (0 : Int32)), (.int (0 : Int32)), (.int (0 : Int32)), (.int (0 : Int32))] (.int (0 : Int32)) := V_b
  refine Out.via (g' := (mkF m 29 #[] [(.ref b)])) st7 ?_
  refine Out.via (g' := (mkF m 30 #[] [(.ref b), (.ref b)])) (fun _ k => XS.dup X7.here hx rfl (hb hby own_d5_29) rfl rfl k) ?_
  refine Out.via (g' := (mkF m 31 #[] [(.int (5 : Int32)), (.ref b), (.ref b)])) (fun _ k => XS.iconst X7.here hx rfl (hb hby own_d5_30) k) ?_
  refine Out.via (g' := (mkF m 33 #[] [(.int (99 : Int32)), (.int (5 : Int32)), (.ref b), (.ref b)])) (fun _ k => XS.bipush X7.here hx rfl (hb hby own_d5_31) k) ?_
  obtain ⟨T8, h8, L8, X8, e8, V_b, N0, O, Kf2, st8⟩ := own_stC X7 hx hZ e7 V_b (j := (5 : Int32)) ⟨by decide, by decide⟩ 5 rfl (Nat.le_of_ble_eq_true rfl) g_b N0 O Kf2 (Or.inl (List.mem_of_getElem? (i := 0) rfl)) (g := (mkF m 33 #[] [(.int (99 : Int32)), (.int (5 : Int32)), (.ref b), (.ref b)])) rfl rfl (hb hby own_d5_33)
  replace V_b : Arv Z h8 b kA1 .char (20 : Int32) [(.int (nar .char (97 : Int32))), (.int (nar .char (112 : Int32))), (.int (nar .char (112 : Int32))), (.int (nar .char (108 : Int32))), (.int (nar .char (105 : Int32))), (.int (nar .char (99 : Int32))), (.int (0 : Int32)), (.int (0 : Int32)), (.int (0 : Int32)), (.int (0 : Int32)), (.int (0 : Int32)), (.int (0 : Int32)), (.int (0 : Int32)), (.int (0 : Int32)), (.int (0 : Int32)), (.int (0 : Int32)), (.int (0 : Int32)), (.int (0 : Int32)), (.int (0 : Int32)), (.int (0 : Int32))] (.int (0 : Int32)) := V_b
  refine Out.via (g' := (mkF m 34 #[] [(.ref b)])) st8 ?_
  refine Out.via (g' := (mkF m 35 #[] [(.ref b), (.ref b)])) (fun _ k => XS.dup X8.here hx rfl (hb hby own_d5_34) rfl rfl k) ?_
  refine Out.via (g' := (mkF m 37 #[] [(.int (6 : Int32)), (.ref b), (.ref b)])) (fun _ k => XS.bipush X8.here hx rfl (hb hby own_d5_35) k) ?_
  refine Out.via (g' := (mkF m 39 #[] [(.int (97 : Int32)), (.int (6 : Int32)), (.ref b), (.ref b)])) (fun _ k => XS.bipush X8.here hx rfl (hb hby own_d5_37) k) ?_
  obtain ⟨T9, h9, L9, X9, e9, V_b, N0, O, Kf2, st9⟩ := own_stC X8 hx hZ e8 V_b (j := (6 : Int32)) ⟨by decide, by decide⟩ 6 rfl (Nat.le_of_ble_eq_true rfl) g_b N0 O Kf2 (Or.inl (List.mem_of_getElem? (i := 0) rfl)) (g := (mkF m 39 #[] [(.int (97 : Int32)), (.int (6 : Int32)), (.ref b), (.ref b)])) rfl rfl (hb hby own_d5_39)
  replace V_b : Arv Z h9 b kA1 .char (20 : Int32) [(.int (nar .char (97 : Int32))), (.int (nar .char (112 : Int32))), (.int (nar .char (112 : Int32))), (.int (nar .char (108 : Int32))), (.int (nar .char (105 : Int32))), (.int (nar .char (99 : Int32))), (.int (nar .char (97 : Int32))), (.int (0 : Int32)), (.int (0 : Int32)), (.int (0 : Int32)), (.int (0 : Int32)), (.int (0 : Int32)), (.int (0 : Int32)), (.int (0 : Int32)), (.int (0 : Int32)), (.int (0 : Int32)), (.int (0 : Int32)), (.int (0 : Int32)), (.int (0 : Int32)), (.int (0 : Int32))] (.int (0 : Int32)) := V_b
  refine Out.via (g' := (mkF m 40 #[] [(.ref b)])) st9 ?_
  refine Out.via (g' := (mkF m 41 #[] [(.ref b), (.ref b)])) (fun _ k => XS.dup X9.here hx rfl (hb hby own_d5_40) rfl rfl k) ?_
  refine Out.via (g' := (mkF m 43 #[] [(.int (7 : Int32)), (.ref b), (.ref b)])) (fun _ k => XS.bipush X9.here hx rfl (hb hby own_d5_41) k) ?_
  refine Out.via (g' := (mkF m 45 #[] [(.int (116 : Int32)), (.int (7 : Int32)), (.ref b), (.ref b)])) (fun _ k => XS.bipush X9.here hx rfl (hb hby own_d5_43) k) ?_
  obtain ⟨T10, h10, L10, X10, e10, V_b, N0, O, Kf2, st10⟩ := own_stC X9 hx hZ e9 V_b (j := (7 : Int32)) ⟨by decide, by decide⟩ 7 rfl (Nat.le_of_ble_eq_true rfl) g_b N0 O Kf2 (Or.inl (List.mem_of_getElem? (i := 0) rfl)) (g := (mkF m 45 #[] [(.int (116 : Int32)), (.int (7 : Int32)), (.ref b), (.ref b)])) rfl rfl (hb hby own_d5_45)
  replace V_b : Arv Z h10 b kA1 .char (20 : Int32) [(.int (nar .char (97 : Int32))), (.int (nar .char (112 : Int32))), (.int (nar .char (112 : Int32))), (.int (nar .char (108 : Int32))), (.int (nar .char (105 : Int32))), (.int (nar .char (99 : Int32))), (.int (nar .char (97 : Int32))), (.int (nar .char (116 : Int32))), (.int (0 : Int32)), (.int (0 : Int32)), (.int (0 : Int32)), (.int (0 : Int32)), (.int (0 : Int32)), (.int (0 : Int32)), (.int (0 : Int32)), (.int (0 : Int32)), (.int (0 : Int32)), (.int (0 : Int32)), (.int (0 : Int32)), (.int (0 : Int32))] (.int (0 : Int32)) := V_b
  refine Out.via (g' := (mkF m 46 #[] [(.ref b)])) st10 ?_
  refine Out.via (g' := (mkF m 47 #[] [(.ref b), (.ref b)])) (fun _ k => XS.dup X10.here hx rfl (hb hby own_d5_46) rfl rfl k) ?_
  refine Out.via (g' := (mkF m 49 #[] [(.int (8 : Int32)), (.ref b), (.ref b)])) (fun _ k => XS.bipush X10.here hx rfl (hb hby own_d5_47) k) ?_
  refine Out.via (g' := (mkF m 51 #[] [(.int (105 : Int32)), (.int (8 : Int32)), (.ref b), (.ref b)])) (fun _ k => XS.bipush X10.here hx rfl (hb hby own_d5_49) k) ?_
  obtain ⟨T11, h11, L11, X11, e11, V_b, N0, O, Kf2, st11⟩ := own_stC X10 hx hZ e10 V_b (j := (8 : Int32)) ⟨by decide, by decide⟩ 8 rfl (Nat.le_of_ble_eq_true rfl) g_b N0 O Kf2 (Or.inl (List.mem_of_getElem? (i := 0) rfl)) (g := (mkF m 51 #[] [(.int (105 : Int32)), (.int (8 : Int32)), (.ref b), (.ref b)])) rfl rfl (hb hby own_d5_51)
  replace V_b : Arv Z h11 b kA1 .char (20 : Int32) [(.int (nar .char (97 : Int32))), (.int (nar .char (112 : Int32))), (.int (nar .char (112 : Int32))), (.int (nar .char (108 : Int32))), (.int (nar .char (105 : Int32))), (.int (nar .char (99 : Int32))), (.int (nar .char (97 : Int32))), (.int (nar .char (116 : Int32))), (.int (nar .char (105 : Int32))), (.int (0 : Int32)), (.int (0 : Int32)), (.int (0 : Int32)), (.int (0 : Int32)), (.int (0 : Int32)), (.int (0 : Int32)), (.int (0 : Int32)), (.int (0 : Int32)), (.int (0 : Int32)), (.int (0 : Int32)), (.int (0 : Int32))] (.int (0 : Int32)) := V_b
  refine Out.via (g' := (mkF m 52 #[] [(.ref b)])) st11 ?_
  refine Out.via (g' := (mkF m 53 #[] [(.ref b), (.ref b)])) (fun _ k => XS.dup X11.here hx rfl (hb hby own_d5_52) rfl rfl k) ?_
  refine Out.via (g' := (mkF m 55 #[] [(.int (9 : Int32)), (.ref b), (.ref b)])) (fun _ k => XS.bipush X11.here hx rfl (hb hby own_d5_53) k) ?_
  refine Out.via (g' := (mkF m 57 #[] [(.int (111 : Int32)), (.int (9 : Int32)), (.ref b), (.ref b)])) (fun _ k => XS.bipush X11.here hx rfl (hb hby own_d5_55) k) ?_
  obtain ⟨T12, h12, L12, X12, e12, V_b, N0, O, Kf2, st12⟩ := own_stC X11 hx hZ e11 V_b (j := (9 : Int32)) ⟨by decide, by decide⟩ 9 rfl (Nat.le_of_ble_eq_true rfl) g_b N0 O Kf2 (Or.inl (List.mem_of_getElem? (i := 0) rfl)) (g := (mkF m 57 #[] [(.int (111 : Int32)), (.int (9 : Int32)), (.ref b), (.ref b)])) rfl rfl (hb hby own_d5_57)
  replace V_b : Arv Z h12 b kA1 .char (20 : Int32) [(.int (nar .char (97 : Int32))), (.int (nar .char (112 : Int32))), (.int (nar .char (112 : Int32))), (.int (nar .char (108 : Int32))), (.int (nar .char (105 : Int32))), (.int (nar .char (99 : Int32))), (.int (nar .char (97 : Int32))), (.int (nar .char (116 : Int32))), (.int (nar .char (105 : Int32))), (.int (nar .char (111 : Int32))), (.int (0 : Int32)), (.int (0 : Int32)), (.int (0 : Int32)), (.int (0 : Int32)), (.int (0 : Int32)), (.int (0 : Int32)), (.int (0 : Int32)), (.int (0 : Int32)), (.int (0 : Int32)), (.int (0 : Int32))] (.int (0 : Int32)) := V_b
  refine Out.via (g' := (mkF m 58 #[] [(.ref b)])) st12 ?_
  refine Out.via (g' := (mkF m 59 #[] [(.ref b), (.ref b)])) (fun _ k => XS.dup X12.here hx rfl (hb hby own_d5_58) rfl rfl k) ?_
  refine Out.via (g' := (mkF m 61 #[] [(.int (10 : Int32)), (.ref b), (.ref b)])) (fun _ k => XS.bipush X12.here hx rfl (hb hby own_d5_59) k) ?_
  refine Out.via (g' := (mkF m 63 #[] [(.int (110 : Int32)), (.int (10 : Int32)), (.ref b), (.ref b)])) (fun _ k => XS.bipush X12.here hx rfl (hb hby own_d5_61) k) ?_
  obtain ⟨T13, h13, L13, X13, e13, V_b, N0, O, Kf2, st13⟩ := own_stC X12 hx hZ e12 V_b (j := (10 : Int32)) ⟨by decide, by decide⟩ 10 rfl (Nat.le_of_ble_eq_true rfl) g_b N0 O Kf2 (Or.inl (List.mem_of_getElem? (i := 0) rfl)) (g := (mkF m 63 #[] [(.int (110 : Int32)), (.int (10 : Int32)), (.ref b), (.ref b)])) rfl rfl (hb hby own_d5_63)
  replace V_b : Arv Z h13 b kA1 .char (20 : Int32) [(.int (nar .char (97 : Int32))), (.int (nar .char (112 : Int32))), (.int (nar .char (112 : Int32))), (.int (nar .char (108 : Int32))), (.int (nar .char (105 : Int32))), (.int (nar .char (99 : Int32))), (.int (nar .char (97 : Int32))), (.int (nar .char (116 : Int32))), (.int (nar .char (105 : Int32))), (.int (nar .char (111 : Int32))), (.int (nar .char (110 : Int32))), (.int (0 : Int32)), (.int (0 : Int32)), (.int (0 : Int32)), (.int (0 : Int32)), (.int (0 : Int32)), (.int (0 : Int32)), (.int (0 : Int32)), (.int (0 : Int32)), (.int (0 : Int32))] (.int (0 : Int32)) := V_b
  refine Out.via (g' := (mkF m 64 #[] [(.ref b)])) st13 ?_
  refine Out.via (g' := (mkF m 65 #[] [(.ref b), (.ref b)])) (fun _ k => XS.dup X13.here hx rfl (hb hby own_d5_64) rfl rfl k) ?_
  refine Out.via (g' := (mkF m 67 #[] [(.int (11 : Int32)), (.ref b), (.ref b)])) (fun _ k => XS.bipush X13.here hx rfl (hb hby own_d5_65) k) ?_
  refine Out.via (g' := (mkF m 69 #[] [(.int (47 : Int32)), (.int (11 : Int32)), (.ref b), (.ref b)])) (fun _ k => XS.bipush X13.here hx rfl (hb hby own_d5_67) k) ?_
  obtain ⟨T14, h14, L14, X14, e14, V_b, N0, O, Kf2, st14⟩ := own_stC X13 hx hZ e13 V_b (j := (11 : Int32)) ⟨by decide, by decide⟩ 11 rfl (Nat.le_of_ble_eq_true rfl) g_b N0 O Kf2 (Or.inl (List.mem_of_getElem? (i := 0) rfl)) (g := (mkF m 69 #[] [(.int (47 : Int32)), (.int (11 : Int32)), (.ref b), (.ref b)])) rfl rfl (hb hby own_d5_69)
  replace V_b : Arv Z h14 b kA1 .char (20 : Int32) [(.int (nar .char (97 : Int32))), (.int (nar .char (112 : Int32))), (.int (nar .char (112 : Int32))), (.int (nar .char (108 : Int32))), (.int (nar .char (105 : Int32))), (.int (nar .char (99 : Int32))), (.int (nar .char (97 : Int32))), (.int (nar .char (116 : Int32))), (.int (nar .char (105 : Int32))), (.int (nar .char (111 : Int32))), (.int (nar .char (110 : Int32))), (.int (nar .char (47 : Int32))), (.int (0 : Int32)), (.int (0 : Int32)), (.int (0 : Int32)), (.int (0 : Int32)), (.int (0 : Int32)), (.int (0 : Int32)), (.int (0 : Int32)), (.int (0 : Int32))] (.int (0 : Int32)) := V_b
  refine Out.via (g' := (mkF m 70 #[] [(.ref b)])) st14 ?_
  refine Out.via (g' := (mkF m 71 #[] [(.ref b), (.ref b)])) (fun _ k => XS.dup X14.here hx rfl (hb hby own_d5_70) rfl rfl k) ?_
  refine Out.via (g' := (mkF m 73 #[] [(.int (12 : Int32)), (.ref b), (.ref b)])) (fun _ k => XS.bipush X14.here hx rfl (hb hby own_d5_71) k) ?_
  refine Out.via (g' := (mkF m 75 #[] [(.int (115 : Int32)), (.int (12 : Int32)), (.ref b), (.ref b)])) (fun _ k => XS.bipush X14.here hx rfl (hb hby own_d5_73) k) ?_
  obtain ⟨T15, h15, L15, X15, e15, V_b, N0, O, Kf2, st15⟩ := own_stC X14 hx hZ e14 V_b (j := (12 : Int32)) ⟨by decide, by decide⟩ 12 rfl (Nat.le_of_ble_eq_true rfl) g_b N0 O Kf2 (Or.inl (List.mem_of_getElem? (i := 0) rfl)) (g := (mkF m 75 #[] [(.int (115 : Int32)), (.int (12 : Int32)), (.ref b), (.ref b)])) rfl rfl (hb hby own_d5_75)
  replace V_b : Arv Z h15 b kA1 .char (20 : Int32) [(.int (nar .char (97 : Int32))), (.int (nar .char (112 : Int32))), (.int (nar .char (112 : Int32))), (.int (nar .char (108 : Int32))), (.int (nar .char (105 : Int32))), (.int (nar .char (99 : Int32))), (.int (nar .char (97 : Int32))), (.int (nar .char (116 : Int32))), (.int (nar .char (105 : Int32))), (.int (nar .char (111 : Int32))), (.int (nar .char (110 : Int32))), (.int (nar .char (47 : Int32))), (.int (nar .char (115 : Int32))), (.int (0 : Int32)), (.int (0 : Int32)), (.int (0 : Int32)), (.int (0 : Int32)), (.int (0 : Int32)), (.int (0 : Int32)), (.int (0 : Int32))] (.int (0 : Int32)) := V_b
  refine Out.via (g' := (mkF m 76 #[] [(.ref b)])) st15 ?_
  refine Out.via (g' := (mkF m 77 #[] [(.ref b), (.ref b)])) (fun _ k => XS.dup X15.here hx rfl (hb hby own_d5_76) rfl rfl k) ?_
  refine Out.via (g' := (mkF m 79 #[] [(.int (13 : Int32)), (.ref b), (.ref b)])) (fun _ k => XS.bipush X15.here hx rfl (hb hby own_d5_77) k) ?_
  refine Out.via (g' := (mkF m 81 #[] [(.int (111 : Int32)), (.int (13 : Int32)), (.ref b), (.ref b)])) (fun _ k => XS.bipush X15.here hx rfl (hb hby own_d5_79) k) ?_
  obtain ⟨T16, h16, L16, X16, e16, V_b, N0, O, Kf2, st16⟩ := own_stC X15 hx hZ e15 V_b (j := (13 : Int32)) ⟨by decide, by decide⟩ 13 rfl (Nat.le_of_ble_eq_true rfl) g_b N0 O Kf2 (Or.inl (List.mem_of_getElem? (i := 0) rfl)) (g := (mkF m 81 #[] [(.int (111 : Int32)), (.int (13 : Int32)), (.ref b), (.ref b)])) rfl rfl (hb hby own_d5_81)
  replace V_b : Arv Z h16 b kA1 .char (20 : Int32) [(.int (nar .char (97 : Int32))), (.int (nar .char (112 : Int32))), (.int (nar .char (112 : Int32))), (.int (nar .char (108 : Int32))), (.int (nar .char (105 : Int32))), (.int (nar .char (99 : Int32))), (.int (nar .char (97 : Int32))), (.int (nar .char (116 : Int32))), (.int (nar .char (105 : Int32))), (.int (nar .char (111 : Int32))), (.int (nar .char (110 : Int32))), (.int (nar .char (47 : Int32))), (.int (nar .char (115 : Int32))), (.int (nar .char (111 : Int32))), (.int (0 : Int32)), (.int (0 : Int32)), (.int (0 : Int32)), (.int (0 : Int32)), (.int (0 : Int32)), (.int (0 : Int32))] (.int (0 : Int32)) := V_b
  refine Out.via (g' := (mkF m 82 #[] [(.ref b)])) st16 ?_
  refine Out.via (g' := (mkF m 83 #[] [(.ref b), (.ref b)])) (fun _ k => XS.dup X16.here hx rfl (hb hby own_d5_82) rfl rfl k) ?_
  refine Out.via (g' := (mkF m 85 #[] [(.int (14 : Int32)), (.ref b), (.ref b)])) (fun _ k => XS.bipush X16.here hx rfl (hb hby own_d5_83) k) ?_
  refine Out.via (g' := (mkF m 87 #[] [(.int (97 : Int32)), (.int (14 : Int32)), (.ref b), (.ref b)])) (fun _ k => XS.bipush X16.here hx rfl (hb hby own_d5_85) k) ?_
  obtain ⟨T17, h17, L17, X17, e17, V_b, N0, O, Kf2, st17⟩ := own_stC X16 hx hZ e16 V_b (j := (14 : Int32)) ⟨by decide, by decide⟩ 14 rfl (Nat.le_of_ble_eq_true rfl) g_b N0 O Kf2 (Or.inl (List.mem_of_getElem? (i := 0) rfl)) (g := (mkF m 87 #[] [(.int (97 : Int32)), (.int (14 : Int32)), (.ref b), (.ref b)])) rfl rfl (hb hby own_d5_87)
  replace V_b : Arv Z h17 b kA1 .char (20 : Int32) [(.int (nar .char (97 : Int32))), (.int (nar .char (112 : Int32))), (.int (nar .char (112 : Int32))), (.int (nar .char (108 : Int32))), (.int (nar .char (105 : Int32))), (.int (nar .char (99 : Int32))), (.int (nar .char (97 : Int32))), (.int (nar .char (116 : Int32))), (.int (nar .char (105 : Int32))), (.int (nar .char (111 : Int32))), (.int (nar .char (110 : Int32))), (.int (nar .char (47 : Int32))), (.int (nar .char (115 : Int32))), (.int (nar .char (111 : Int32))), (.int (nar .char (97 : Int32))), (.int (0 : Int32)), (.int (0 : Int32)), (.int (0 : Int32)), (.int (0 : Int32)), (.int (0 : Int32))] (.int (0 : Int32)) := V_b
  refine Out.via (g' := (mkF m 88 #[] [(.ref b)])) st17 ?_
  refine Out.via (g' := (mkF m 89 #[] [(.ref b), (.ref b)])) (fun _ k => XS.dup X17.here hx rfl (hb hby own_d5_88) rfl rfl k) ?_
  refine Out.via (g' := (mkF m 91 #[] [(.int (15 : Int32)), (.ref b), (.ref b)])) (fun _ k => XS.bipush X17.here hx rfl (hb hby own_d5_89) k) ?_
  refine Out.via (g' := (mkF m 93 #[] [(.int (112 : Int32)), (.int (15 : Int32)), (.ref b), (.ref b)])) (fun _ k => XS.bipush X17.here hx rfl (hb hby own_d5_91) k) ?_
  obtain ⟨T18, h18, L18, X18, e18, V_b, N0, O, Kf2, st18⟩ := own_stC X17 hx hZ e17 V_b (j := (15 : Int32)) ⟨by decide, by decide⟩ 15 rfl (Nat.le_of_ble_eq_true rfl) g_b N0 O Kf2 (Or.inl (List.mem_of_getElem? (i := 0) rfl)) (g := (mkF m 93 #[] [(.int (112 : Int32)), (.int (15 : Int32)), (.ref b), (.ref b)])) rfl rfl (hb hby own_d5_93)
  replace V_b : Arv Z h18 b kA1 .char (20 : Int32) [(.int (nar .char (97 : Int32))), (.int (nar .char (112 : Int32))), (.int (nar .char (112 : Int32))), (.int (nar .char (108 : Int32))), (.int (nar .char (105 : Int32))), (.int (nar .char (99 : Int32))), (.int (nar .char (97 : Int32))), (.int (nar .char (116 : Int32))), (.int (nar .char (105 : Int32))), (.int (nar .char (111 : Int32))), (.int (nar .char (110 : Int32))), (.int (nar .char (47 : Int32))), (.int (nar .char (115 : Int32))), (.int (nar .char (111 : Int32))), (.int (nar .char (97 : Int32))), (.int (nar .char (112 : Int32))), (.int (0 : Int32)), (.int (0 : Int32)), (.int (0 : Int32)), (.int (0 : Int32))] (.int (0 : Int32)) := V_b
  refine Out.via (g' := (mkF m 94 #[] [(.ref b)])) st18 ?_
  refine Out.via (g' := (mkF m 95 #[] [(.ref b), (.ref b)])) (fun _ k => XS.dup X18.here hx rfl (hb hby own_d5_94) rfl rfl k) ?_
  refine Out.via (g' := (mkF m 97 #[] [(.int (16 : Int32)), (.ref b), (.ref b)])) (fun _ k => XS.bipush X18.here hx rfl (hb hby own_d5_95) k) ?_
  refine Out.via (g' := (mkF m 99 #[] [(.int (43 : Int32)), (.int (16 : Int32)), (.ref b), (.ref b)])) (fun _ k => XS.bipush X18.here hx rfl (hb hby own_d5_97) k) ?_
  obtain ⟨T19, h19, L19, X19, e19, V_b, N0, O, Kf2, st19⟩ := own_stC X18 hx hZ e18 V_b (j := (16 : Int32)) ⟨by decide, by decide⟩ 16 rfl (Nat.le_of_ble_eq_true rfl) g_b N0 O Kf2 (Or.inl (List.mem_of_getElem? (i := 0) rfl)) (g := (mkF m 99 #[] [(.int (43 : Int32)), (.int (16 : Int32)), (.ref b), (.ref b)])) rfl rfl (hb hby own_d5_99)
  replace V_b : Arv Z h19 b kA1 .char (20 : Int32) [(.int (nar .char (97 : Int32))), (.int (nar .char (112 : Int32))), (.int (nar .char (112 : Int32))), (.int (nar .char (108 : Int32))), (.int (nar .char (105 : Int32))), (.int (nar .char (99 : Int32))), (.int (nar .char (97 : Int32))), (.int (nar .char (116 : Int32))), (.int (nar .char (105 : Int32))), (.int (nar .char (111 : Int32))), (.int (nar .char (110 : Int32))), (.int (nar .char (47 : Int32))), (.int (nar .char (115 : Int32))), (.int (nar .char (111 : Int32))), (.int (nar .char (97 : Int32))), (.int (nar .char (112 : Int32))), (.int (nar .char (43 : Int32))), (.int (0 : Int32)), (.int (0 : Int32)), (.int (0 : Int32))] (.int (0 : Int32)) := V_b
  refine Out.via (g' := (mkF m 100 #[] [(.ref b)])) st19 ?_
  refine Out.via (g' := (mkF m 101 #[] [(.ref b), (.ref b)])) (fun _ k => XS.dup X19.here hx rfl (hb hby own_d5_100) rfl rfl k) ?_
  refine Out.via (g' := (mkF m 103 #[] [(.int (17 : Int32)), (.ref b), (.ref b)])) (fun _ k => XS.bipush X19.here hx rfl (hb hby own_d5_101) k) ?_
  refine Out.via (g' := (mkF m 105 #[] [(.int (120 : Int32)), (.int (17 : Int32)), (.ref b), (.ref b)])) (fun _ k => XS.bipush X19.here hx rfl (hb hby own_d5_103) k) ?_
  obtain ⟨T20, h20, L20, X20, e20, V_b, N0, O, Kf2, st20⟩ := own_stC X19 hx hZ e19 V_b (j := (17 : Int32)) ⟨by decide, by decide⟩ 17 rfl (Nat.le_of_ble_eq_true rfl) g_b N0 O Kf2 (Or.inl (List.mem_of_getElem? (i := 0) rfl)) (g := (mkF m 105 #[] [(.int (120 : Int32)), (.int (17 : Int32)), (.ref b), (.ref b)])) rfl rfl (hb hby own_d5_105)
  replace V_b : Arv Z h20 b kA1 .char (20 : Int32) [(.int (nar .char (97 : Int32))), (.int (nar .char (112 : Int32))), (.int (nar .char (112 : Int32))), (.int (nar .char (108 : Int32))), (.int (nar .char (105 : Int32))), (.int (nar .char (99 : Int32))), (.int (nar .char (97 : Int32))), (.int (nar .char (116 : Int32))), (.int (nar .char (105 : Int32))), (.int (nar .char (111 : Int32))), (.int (nar .char (110 : Int32))), (.int (nar .char (47 : Int32))), (.int (nar .char (115 : Int32))), (.int (nar .char (111 : Int32))), (.int (nar .char (97 : Int32))), (.int (nar .char (112 : Int32))), (.int (nar .char (43 : Int32))), (.int (nar .char (120 : Int32))), (.int (0 : Int32)), (.int (0 : Int32))] (.int (0 : Int32)) := V_b
  refine Out.via (g' := (mkF m 106 #[] [(.ref b)])) st20 ?_
  refine Out.via (g' := (mkF m 107 #[] [(.ref b), (.ref b)])) (fun _ k => XS.dup X20.here hx rfl (hb hby own_d5_106) rfl rfl k) ?_
  refine Out.via (g' := (mkF m 109 #[] [(.int (18 : Int32)), (.ref b), (.ref b)])) (fun _ k => XS.bipush X20.here hx rfl (hb hby own_d5_107) k) ?_
  refine Out.via (g' := (mkF m 111 #[] [(.int (109 : Int32)), (.int (18 : Int32)), (.ref b), (.ref b)])) (fun _ k => XS.bipush X20.here hx rfl (hb hby own_d5_109) k) ?_
  obtain ⟨T21, h21, L21, X21, e21, V_b, N0, O, Kf2, st21⟩ := own_stC X20 hx hZ e20 V_b (j := (18 : Int32)) ⟨by decide, by decide⟩ 18 rfl (Nat.le_of_ble_eq_true rfl) g_b N0 O Kf2 (Or.inl (List.mem_of_getElem? (i := 0) rfl)) (g := (mkF m 111 #[] [(.int (109 : Int32)), (.int (18 : Int32)), (.ref b), (.ref b)])) rfl rfl (hb hby own_d5_111)
  replace V_b : Arv Z h21 b kA1 .char (20 : Int32) [(.int (nar .char (97 : Int32))), (.int (nar .char (112 : Int32))), (.int (nar .char (112 : Int32))), (.int (nar .char (108 : Int32))), (.int (nar .char (105 : Int32))), (.int (nar .char (99 : Int32))), (.int (nar .char (97 : Int32))), (.int (nar .char (116 : Int32))), (.int (nar .char (105 : Int32))), (.int (nar .char (111 : Int32))), (.int (nar .char (110 : Int32))), (.int (nar .char (47 : Int32))), (.int (nar .char (115 : Int32))), (.int (nar .char (111 : Int32))), (.int (nar .char (97 : Int32))), (.int (nar .char (112 : Int32))), (.int (nar .char (43 : Int32))), (.int (nar .char (120 : Int32))), (.int (nar .char (109 : Int32))), (.int (0 : Int32))] (.int (0 : Int32)) := V_b
  refine Out.via (g' := (mkF m 112 #[] [(.ref b)])) st21 ?_
  refine Out.via (g' := (mkF m 113 #[] [(.ref b), (.ref b)])) (fun _ k => XS.dup X21.here hx rfl (hb hby own_d5_112) rfl rfl k) ?_
  refine Out.via (g' := (mkF m 115 #[] [(.int (19 : Int32)), (.ref b), (.ref b)])) (fun _ k => XS.bipush X21.here hx rfl (hb hby own_d5_113) k) ?_
  refine Out.via (g' := (mkF m 117 #[] [(.int (108 : Int32)), (.int (19 : Int32)), (.ref b), (.ref b)])) (fun _ k => XS.bipush X21.here hx rfl (hb hby own_d5_115) k) ?_
  obtain ⟨T22, h22, L22, X22, e22, V_b, N0, O, Kf2, st22⟩ := own_stC X21 hx hZ e21 V_b (j := (19 : Int32)) ⟨by decide, by decide⟩ 19 rfl (Nat.le_of_ble_eq_true rfl) g_b N0 O Kf2 (Or.inl (List.mem_of_getElem? (i := 0) rfl)) (g := (mkF m 117 #[] [(.int (108 : Int32)), (.int (19 : Int32)), (.ref b), (.ref b)])) rfl rfl (hb hby own_d5_117)
  replace V_b : Arv Z h22 b kA1 .char (20 : Int32) [(.int (nar .char (97 : Int32))), (.int (nar .char (112 : Int32))), (.int (nar .char (112 : Int32))), (.int (nar .char (108 : Int32))), (.int (nar .char (105 : Int32))), (.int (nar .char (99 : Int32))), (.int (nar .char (97 : Int32))), (.int (nar .char (116 : Int32))), (.int (nar .char (105 : Int32))), (.int (nar .char (111 : Int32))), (.int (nar .char (110 : Int32))), (.int (nar .char (47 : Int32))), (.int (nar .char (115 : Int32))), (.int (nar .char (111 : Int32))), (.int (nar .char (97 : Int32))), (.int (nar .char (112 : Int32))), (.int (nar .char (43 : Int32))), (.int (nar .char (120 : Int32))), (.int (nar .char (109 : Int32))), (.int (nar .char (108 : Int32)))] (.int (0 : Int32)) := V_b
  refine Out.via (g' := (mkF m 118 #[] [(.ref b)])) st22 ?_
  replace V_b : Arv Z h22 b kA1 .char (20 : Int32) [(.int (nar .char (97 : Int32))), (.int (nar .char (112 : Int32))), (.int (nar .char (112 : Int32))), (.int (nar .char (108 : Int32))), (.int (nar .char (105 : Int32))), (.int (nar .char (99 : Int32))), (.int (nar .char (97 : Int32))), (.int (nar .char (116 : Int32))), (.int (nar .char (105 : Int32))), (.int (nar .char (111 : Int32))), (.int (nar .char (110 : Int32))), (.int (nar .char (47 : Int32))), (.int (nar .char (115 : Int32))), (.int (nar .char (111 : Int32))), (.int (nar .char (97 : Int32))), (.int (nar .char (112 : Int32))), (.int (nar .char (43 : Int32))), (.int (nar .char (120 : Int32))), (.int (nar .char (109 : Int32))), (.int (nar .char (108 : Int32)))] (.int (0 : Int32)) := V_b
  replace Kp := Kp.trans Kf2 (allS (Or.inr sz_b) all0)
  have hvs : ([(.int (nar .char (97 : Int32))), (.int (nar .char (112 : Int32))), (.int (nar .char (112 : Int32))), (.int (nar .char (108 : Int32))), (.int (nar .char (105 : Int32))), (.int (nar .char (99 : Int32))), (.int (nar .char (97 : Int32))), (.int (nar .char (116 : Int32))), (.int (nar .char (105 : Int32))), (.int (nar .char (111 : Int32))), (.int (nar .char (110 : Int32))), (.int (nar .char (47 : Int32))), (.int (nar .char (115 : Int32))), (.int (nar .char (111 : Int32))), (.int (nar .char (97 : Int32))), (.int (nar .char (112 : Int32))), (.int (nar .char (43 : Int32))), (.int (nar .char (120 : Int32))), (.int (nar .char (109 : Int32))), (.int (nar .char (108 : Int32)))] : List Value) = own_T12.map Value.int := by decide +kernel
  rw [hvs] at V_b
  exact Out.endN X22 (fun h => by rw [Bd.returns] at h; cases h) Bd.notSynchronized (by decide) (by decide) (by rw [e22]; exact ⟨b, _, rfl, N0, Kp, sz_b, V_b⟩) (fun fs hr => own_retR X22 hx (t := (.array .char)) Bd.returns rfl rfl rfl (hb hby own_d5_118) hr)
theorem own_pn6 : plainName "com/example/queuebind/queuebind/SoapVersion" = true := by first | (simp [plainName, overriddenIn]; done) | decide +kernel
theorem own_d6_0 : decode prog_21_method_1_code 0 = .ok (.getstatic 10, 3) := by decide +kernel
theorem own_d6_3 : decode prog_21_method_1_code 3 = .ok (.invokevirtual 14, 3) := by decide +kernel
theorem own_d6_6 : decode prog_21_method_1_code 6 = .ok (.checkcast 15, 3) := by decide +kernel
theorem own_d6_9 : decode prog_21_method_1_code 9 = .ok (.areturn, 1) := by decide +kernel
theorem own_ef2 (m : MethodId)  : entryFrame m #[] 0 = mkF m 0 #[] [] := by first | (simp [entryFrame, mkF, argsToLocals, Value.category]; done) | rfl
abbrev own_Q2 (Z : State) (va s11 s12 : Addr) (kv : ClassId) (h0 : Heap) (n0 : Nat) : Option Value → Heap → List Loc → Prop := fun v h L => ∃ b : Addr, v = some (.ref b) ∧ Fr n0 L ∧ Keep h0 h [] ∧ Arv Z h b kv (.object "com/example/queuebind/queuebind/SoapVersion") (2 : Int32) [.ref s11, .ref s12] .null
set_option maxRecDepth 65536 in
set_option maxHeartbeats 40000000 in
theorem own_rm2 (l : Launch) (Z : State) (a0 : Array Value) (hw : ∀ d ∈ tables_1, d.before a0 Z = true) (ws : List Jvm.Cond) (va s11 s12 : Addr) (kv : ClassId) (h0 : Heap) (n0 : Nat) (O : Old Z n0 h0) (SVA : Sta Z Z.heap "com/example/queuebind/queuebind/SoapVersion" "$VALUES" "[Lcom/example/queuebind/queuebind/SoapVersion;" (.ref va)) (EVA : Exa Z Z.heap va "[Lcom/example/queuebind/queuebind/SoapVersion;") (AVA : Arv Z Z.heap va kv (.object "com/example/queuebind/queuebind/SoapVersion") (2 : Int32) [.ref s11, .ref s12] .null) :
    MetFree l (⟨"com/example/queuebind/queuebind/SoapVersion", "values", "()[Lcom/example/queuebind/queuebind/SoapVersion;"⟩ : MethodName) (head1 (Jvm.Cond.code (⟨"com/example/queuebind/queuebind/SoapVersion", "values", "()[Lcom/example/queuebind/queuebind/SoapVersion;"⟩ : MethodName) prog_21_method_1_code 0 (some (.array (.object "com/example/queuebind/queuebind/SoapVersion"))) :: ws) ({ frames := 1, cells := 1, slots := 2, locals := 14 } : Room)) (fun aa U => aa = #[] ∧ Z.Warmed39 U.vm ∧ U.heap = h0) (fun _ _ _ _ _ => True) (fun _ U o U' => ∃ v L, o = .returned v ∧ (own_Q2 Z va s11 s12 kv h0 n0) v U'.heap L ∧ FrameEnd U o U' L ({ frames := 1, cells := 1, slots := 2, locals := 14 } : Room).cells ({ frames := 1, cells := 1, slots := 2, locals := 14 } : Room).slots) := by
  refine MetFree.of_bodySF (plainFor_of_name own_pn6) hisR ?_
  intro p e s m args below meth c s₁ Bd hml0 hP hK
  obtain ⟨rfl, hZ, hh⟩ := hP
  have hx := Bd.exec
  have hby := Bd.bytes
  have hml : c.maxLocals = 0 := hml0
  have hown : s.vm.findClass "com/example/queuebind/queuebind/SoapVersion" = some m.cls := findClass_of_methodNamed Bd.named
  have hnm := (name_of_methodNamed Bd.named Bd.method).1
  have X0 : Stand p l e ({ frames := 1, cells := 1, slots := 2, locals := 14 } : Room) s m #[] below meth c s₁ [] 0 0 := Stand.of_body Bd
  have e0 : s₁.heap = h0 := by rw [← hh, Bd.state]; rfl
  have N0 := Fr.nil n0
  refine Out.start (Q := own_Q2 Z va s11 s12 kv h0 n0) (own_ef2 m  ) ?_
  have Kp := Keep.refl h0 []
  obtain ⟨T1, X1, e1, st1⟩ := getS2 X0 hx hZ hown (host := "") (Or.inl (hw _ (List.mem_of_getElem? (i := 17) rfl))) Via.refl e0 (SVA.ext O.2) (g := (mkF m 0 #[] [])) rfl (hb hby own_d6_0)
  refine Out.via (g' := (mkF m 3 #[] [(.ref va)])) st1 ?_
  obtain ⟨T9, h9, X9, e9, E9, A9, B9, st9⟩ := cloneH X1 hx hZ hown (hw _ (List.mem_of_getElem? (i := 19) rfl)) (hw _ (List.mem_of_getElem? (i := 20) rfl)) (hw _ (List.mem_of_getElem? (i := 24) rfl)) (hw _ (List.mem_of_getElem? (i := 22) rfl)) (hw _ (List.mem_of_getElem? (i := 23) rfl)) (hw _ (List.mem_of_getElem? (i := 25) rfl)) e1 (AVA.ext O.2).arh (EVA.ext O.2) (g := (mkF m 3 #[] [(.ref va)])) rfl (by rw [hml]; rfl) rfl (hb hby own_d6_3) (by decide) (W := 0) (cap := 2) (by show 2 * 0 + _ ≤ _; exact Nat.le_of_eq rfl) (by decide) (by decide) (by decide) (by decide)
  obtain ⟨b, gb⟩ : ∃ z, z = h0.size := ⟨_, rfl⟩
  rw [← gb] at A9 B9 st9
  replace Kp := Kp.ext E9
  refine Out.via (g' := (mkF m 6 #[] [(.ref b)])) st9 ?_
  obtain ⟨T8, X8, e8, st8⟩ := castY X9 hx hZ hown (hw _ (List.mem_of_getElem? (i := 28) rfl)) e9 (Ins.self B9) (g := (mkF m 6 #[] [(.ref b)])) rfl rfl (hb hby own_d6_6)
  refine Out.via (g' := (mkF m 9 #[] [(.ref b)])) st8 ?_
  exact Out.endN X8 (fun h => by rw [Bd.returns] at h; cases h) Bd.notSynchronized (by decide) (by decide) (by rw [e8]; exact ⟨b, rfl, N0, Kp, A9⟩) (fun fs hr => own_retR X8 hx (t := (.array (.object "com/example/queuebind/queuebind/SoapVersion"))) Bd.returns rfl rfl rfl (hb hby own_d6_9) hr)
theorem own_d7_0 : decode prog_21_method_14_code 0 = .ok (.invokestatic 64, 3) := by decide +kernel
theorem own_pd7 : parseMethodDescriptor "()[Lcom/example/queuebind/queuebind/SoapVersion;" = some ⟨[], some (.array (.object "com/example/queuebind/queuebind/SoapVersion"))⟩ := by decide +kernel
theorem own_d7_3 : decode prog_21_method_14_code 3 = .ok (.astore_n 1, 1) := by decide +kernel
theorem own_d7_4 : decode prog_21_method_14_code 4 = .ok (.aload_n 1, 1) := by decide +kernel
theorem own_d7_5 : decode prog_21_method_14_code 5 = .ok (.arraylength, 1) := by decide +kernel
theorem own_d7_6 : decode prog_21_method_14_code 6 = .ok (.istore_n 2, 1) := by decide +kernel
theorem own_d7_7 : decode prog_21_method_14_code 7 = .ok (.iconst 0, 1) := by decide +kernel
theorem own_d7_8 : decode prog_21_method_14_code 8 = .ok (.istore_n 3, 1) := by decide +kernel
theorem own_d7_9 : decode prog_21_method_14_code 9 = .ok (.iload_n 3, 1) := by decide +kernel
theorem own_d7_10 : decode prog_21_method_14_code 10 = .ok (.iload_n 2, 1) := by decide +kernel
theorem own_d7_11 : decode prog_21_method_14_code 11 = .ok (.if_icmp .ge 29, 3) := by decide +kernel
theorem own_d7_14 : decode prog_21_method_14_code 14 = .ok (.aload_n 1, 1) := by decide +kernel
theorem own_d7_15 : decode prog_21_method_14_code 15 = .ok (.iload_n 3, 1) := by decide +kernel
theorem own_d7_16 : decode prog_21_method_14_code 16 = .ok (.aaload, 1) := by decide +kernel
theorem own_d7_17 : decode prog_21_method_14_code 17 = .ok (.astore 4, 2) := by decide +kernel
theorem own_d7_19 : decode prog_21_method_14_code 19 = .ok (.aload 4, 2) := by decide +kernel
theorem own_d7_21 : decode prog_21_method_14_code 21 = .ok (.getfield 39, 3) := by decide +kernel
theorem own_d7_24 : decode prog_21_method_14_code 24 = .ok (.aload_n 0, 1) := by decide +kernel
theorem own_d7_25 : decode prog_21_method_14_code 25 = .ok (.invokevirtual 68, 3) := by decide +kernel
theorem own_pd8 : parseMethodDescriptor "(Ljava/lang/Object;)Z" = some ⟨[(.object "java/lang/Object")], some .boolean⟩ := by decide +kernel
theorem own_d7_28 : decode prog_21_method_14_code 28 = .ok (.ifCond .eq 6, 3) := by decide +kernel
theorem own_d7_31 : decode prog_21_method_14_code 31 = .ok (.aload 4, 2) := by decide +kernel
theorem own_d7_33 : decode prog_21_method_14_code 33 = .ok (.areturn, 1) := by decide +kernel
theorem own_d7_34 : decode prog_21_method_14_code 34 = .ok (.iinc 3 1, 3) := by decide +kernel
theorem own_d7_37 : decode prog_21_method_14_code 37 = .ok (.goto (-28), 3) := by decide +kernel
theorem own_d7_40 : decode prog_21_method_14_code 40 = .ok (.aconst_null, 1) := by decide +kernel
theorem own_d7_41 : decode prog_21_method_14_code 41 = .ok (.areturn, 1) := by decide +kernel
theorem own_ef1 (m : MethodId) (x0 : Addr) : entryFrame m #[(.ref x0)] 5 = mkF m 0 #[.val (.ref x0), .unset, .unset, .unset, .unset] [] := by first | (simp [entryFrame, mkF, argsToLocals, Value.category]; done) | rfl
abbrev own_Q1 (Z : State) (x va s11 s12 m11 m12 : Addr) (kv : ClassId) (cs : List Int32) (G1 : Int32) (h0 : Heap) (n0 : Nat) : Option Value → Heap → List Loc → Prop := fun v h L => ∃ u : Value, v = some u ∧ Fr n0 L ∧ Keep h0 h [] ∧ own_Ans s11 s12 cs u
set_option maxRecDepth 65536 in
set_option maxHeartbeats 40000000 in
theorem own_rm1 (l : Launch) (Z : State) (a0 : Array Value) (hw : ∀ d ∈ tables_1, d.before a0 Z = true) (ws : List Jvm.Cond) (x va s11 s12 m11 m12 : Addr) (kv : ClassId) (cs : List Int32) (G1 : Int32) (h0 : Heap) (n0 : Nat) (O : Old Z n0 h0) (Sx : own_Str Z h0 x cs) (lx : cs.length ≤ 4000) (SVA : Sta Z Z.heap "com/example/queuebind/queuebind/SoapVersion" "$VALUES" "[Lcom/example/queuebind/queuebind/SoapVersion;" (.ref va)) (EVA : Exa Z Z.heap va "[Lcom/example/queuebind/queuebind/SoapVersion;") (AVA : Arv Z Z.heap va kv (.object "com/example/queuebind/queuebind/SoapVersion") (2 : Int32) [.ref s11, .ref s12] .null) (F11 : Fld Z Z.heap s11 "com/example/queuebind/queuebind/SoapVersion" "mediaType" "Ljava/lang/String;" (.ref m11)) (S11 : own_Str Z Z.heap m11 own_T11) (F12 : Fld Z Z.heap s12 "com/example/queuebind/queuebind/SoapVersion" "mediaType" "Ljava/lang/String;" (.ref m12)) (S12 : own_Str Z Z.heap m12 own_T12) (O2 : Sta Z Z.heap "java/lang/String" "COMPACT_STRINGS" "Z" (.int G1)) (P5 : ¬ (G1 = (0 : Int32))) :
    MetFree l (⟨"com/example/queuebind/queuebind/SoapVersion", "ofMediaType", "(Ljava/lang/String;)Lcom/example/queuebind/queuebind/SoapVersion;"⟩ : MethodName) (head1 (Jvm.Cond.code (⟨"com/example/queuebind/queuebind/SoapVersion", "ofMediaType", "(Ljava/lang/String;)Lcom/example/queuebind/queuebind/SoapVersion;"⟩ : MethodName) prog_21_method_14_code 5 (some (.object "com/example/queuebind/queuebind/SoapVersion")) :: ws) ({ frames := 2, cells := 1, slots := 2, locals := 29 } : Room)) (fun aa U => aa = #[(.ref x)] ∧ Z.Warmed39 U.vm ∧ U.heap = h0) (fun _ _ _ _ _ => True) (fun _ U o U' => ∃ v L, o = .returned v ∧ (own_Q1 Z x va s11 s12 m11 m12 kv cs G1 h0 n0) v U'.heap L ∧ FrameEnd U o U' L ({ frames := 2, cells := 1, slots := 2, locals := 29 } : Room).cells ({ frames := 2, cells := 1, slots := 2, locals := 29 } : Room).slots) := by
  refine MetFree.of_bodySF (plainFor_of_name own_pn6) hisR ?_
  intro p e s m args below meth c s₁ Bd hml0 hP hK
  obtain ⟨rfl, hZ, hh⟩ := hP
  have hx := Bd.exec
  have hby := Bd.bytes
  have hml : c.maxLocals = 5 := hml0
  have hown : s.vm.findClass "com/example/queuebind/queuebind/SoapVersion" = some m.cls := findClass_of_methodNamed Bd.named
  have hnm := (name_of_methodNamed Bd.named Bd.method).1
  have X0 : Stand p l e ({ frames := 2, cells := 1, slots := 2, locals := 29 } : Room) s m #[(.ref x)] below meth c s₁ [] 0 0 := Stand.of_body Bd
  have e0 : s₁.heap = h0 := by rw [← hh, Bd.state]; rfl
  have N0 := Fr.nil n0
  refine Out.start (Q := own_Q1 Z x va s11 s12 m11 m12 kv cs G1 h0 n0) (own_ef1 m x ) ?_
  have Kp := Keep.refl h0 []
  obtain ⟨_, _, ⟨T1, L1, kc1, ks1⟩, -, X1, ⟨Lc1, hQ1, l1, y1, z1⟩, st1⟩ := Jvm.LawKit.callS X0 hx (y := (⟨"com/example/queuebind/queuebind/SoapVersion", "values", "()[Lcom/example/queuebind/queuebind/SoapVersion;"⟩ : MethodName)) hown (mvT hZ (hw _ (List.mem_of_getElem? (i := 14) rfl))) (mvT hZ (hw _ (List.mem_of_getElem? (i := 15) rfl))) (mvT hZ (hw _ (List.mem_of_getElem? (i := 1) rfl))) (mvT hZ (hw _ (List.mem_of_getElem? (i := 16) rfl))) (by decide) (backOf (W := 0) (own_rm2 l Z a0 hw [] va s11 s12 kv h0 n0 O SVA EVA AVA) hZ (hw _ (List.mem_of_getElem? (i := 16) rfl)) (hw _ (List.mem_of_getElem? (i := 1) rfl)) (by decide) (by decide)) (g := (mkF m 0 #[.val (.ref x), .unset, .unset, .unset, .unset] [])) rfl (by rw [hml]; rfl) (argsL := []) (rest := []) (lenOf own_pd7 rfl) rfl (by show 2 * 0 + _ ≤ _; exact Nat.le_of_eq rfl) (hb hby own_d7_0) (fun _ _ => ⟨rfl, e0, (by decide : 0 + 1 ≤ _), (by decide : 0 + 2 ≤ _)⟩)
  dsimp only [Pt.U, Pt.locs, Pt.cells, Pt.slots] at X1 l1 y1 z1 st1 hQ1
  subst l1 y1 z1
  obtain ⟨b, rfl, Nq, Kq, Ab⟩ := hQ1
  replace N0 := Fr.app N0 Nq
  replace Sx := Sx.keep Kq
  replace O := O.keep Kq all0
  replace Kp := Kp.trans Kq all0
  refine Out.via (g' := (mkF m 3 #[.val (.ref x), .unset, .unset, .unset, .unset] [(.ref b)])) st1 ?_
  obtain ⟨cl_b, Ar_b, q_b, S_b, M_b, H_b, G_b⟩ := id Ab
  refine Out.via (g' := (mkF m 4 #[.val (.ref x), .val (.ref b), .unset, .unset, .unset] [])) (fun _ k => XS.astoreN X1.here hx rfl (hb hby own_d7_3) rfl rfl (l' := #[.val (.ref x), .val (.ref b), .unset, .unset, .unset]) rfl k) ?_
  refine Out.via (g' := (mkF m 5 #[.val (.ref x), .val (.ref b), .unset, .unset, .unset] [(.ref b)])) (fun _ k => XS.aloadN X1.here hx rfl (hb hby own_d7_4) rfl rfl k) ?_
  refine Out.via (g' := (mkF m 6 #[.val (.ref x), .val (.ref b), .unset, .unset, .unset] [(.int cl_b.slots.size.toInt32)])) (fun _ k => X1.arraylength hx Ar_b.1 (State.isArrayOf_alike hZ.alike Ar_b.2.1) (g := (mkF m 5 #[.val (.ref x), .val (.ref b), .unset, .unset, .unset] [(.ref b)])) rfl rfl (hb hby own_d7_5) _ k) ?_
  rw [len_of S_b M_b]
  refine Out.via (g' := (mkF m 7 #[.val (.ref x), .val (.ref b), .val (.int (2 : Int32)), .unset, .unset] [])) (fun _ k => XS.istoreN X1.here hx rfl (hb hby own_d7_6) rfl (l' := #[.val (.ref x), .val (.ref b), .val (.int (2 : Int32)), .unset, .unset]) rfl k) ?_
  refine Out.via (g' := (mkF m 8 #[.val (.ref x), .val (.ref b), .val (.int (2 : Int32)), .unset, .unset] [(.int (0 : Int32))])) (fun _ k => XS.iconst X1.here hx rfl (hb hby own_d7_7) k) ?_
  refine Out.via (g' := (mkF m 9 #[.val (.ref x), .val (.ref b), .val (.int (2 : Int32)), .val (.int (0 : Int32)), .unset] [])) (fun _ k => XS.istoreN X1.here hx rfl (hb hby own_d7_8) rfl (l' := #[.val (.ref x), .val (.ref b), .val (.int (2 : Int32)), .val (.int (0 : Int32)), .unset]) rfl k) ?_
  refine Out.via (g' := (mkF m 10 #[.val (.ref x), .val (.ref b), .val (.int (2 : Int32)), .val (.int (0 : Int32)), .unset] [(.int (0 : Int32))])) (fun _ k => XS.iloadN X1.here hx rfl (hb hby own_d7_9) rfl k) ?_
  refine Out.via (g' := (mkF m 11 #[.val (.ref x), .val (.ref b), .val (.int (2 : Int32)), .val (.int (0 : Int32)), .unset] [(.int (2 : Int32)), (.int (0 : Int32))])) (fun _ k => XS.iloadN X1.here hx rfl (hb hby own_d7_10) rfl k) ?_
  refine Out.via (g' := (mkF m 14 #[.val (.ref x), .val (.ref b), .val (.int (2 : Int32)), .val (.int (0 : Int32)), .unset] [])) (fun _ k => XS.icmpNo X1.here hx rfl (hb hby own_d7_11) rfl (tlt (by decide)).2.1 k) ?_
  refine Out.via (g' := (mkF m 15 #[.val (.ref x), .val (.ref b), .val (.int (2 : Int32)), .val (.int (0 : Int32)), .unset] [(.ref b)])) (fun _ k => XS.aloadN X1.here hx rfl (hb hby own_d7_14) rfl rfl k) ?_
  refine Out.via (g' := (mkF m 16 #[.val (.ref x), .val (.ref b), .val (.int (2 : Int32)), .val (.int (0 : Int32)), .unset] [(.int (0 : Int32)), (.ref b)])) (fun _ k => XS.iloadN X1.here hx rfl (hb hby own_d7_15) rfl k) ?_
  have hin0 : ¬ ((0 : Int32) < 0 ∨ cl_b.slots.size ≤ ((0 : Int32)).toNatClampNeg) := inb_of S_b ⟨by decide, by decide⟩
  refine Out.via (g' := (mkF m 17 #[.val (.ref x), .val (.ref b), .val (.int (2 : Int32)), .val (.int (0 : Int32)), .unset] [(.ref s11)])) (fun _ k => X1.aaload hx (j := (0 : Int32)) (v := (.ref s11)) Ar_b.1 (State.isArrayOf_alike hZ.alike Ar_b.2.1) rfl Ar_b.2.2 hin0 (H_b.at hin0 rfl) (g := (mkF m 16 #[.val (.ref x), .val (.ref b), .val (.int (2 : Int32)), .val (.int (0 : Int32)), .unset] [(.int (0 : Int32)), (.ref b)])) rfl rfl (hb hby own_d7_16) _ k) ?_
  refine Out.via (g' := (mkF m 19 #[.val (.ref x), .val (.ref b), .val (.int (2 : Int32)), .val (.int (0 : Int32)), .val (.ref s11)] [])) (fun _ k => XS.astore X1.here hx rfl (hb hby own_d7_17) rfl rfl (l' := #[.val (.ref x), .val (.ref b), .val (.int (2 : Int32)), .val (.int (0 : Int32)), .val (.ref s11)]) rfl k) ?_
  refine Out.via (g' := (mkF m 21 #[.val (.ref x), .val (.ref b), .val (.int (2 : Int32)), .val (.int (0 : Int32)), .val (.ref s11)] [(.ref s11)])) (fun _ k => XS.aload X1.here hx rfl (hb hby own_d7_19) rfl rfl k) ?_
  obtain ⟨T2, X2, e2, st2⟩ := getF X1 hx hZ hown (host := "") (Or.inl (hw _ (List.mem_of_getElem? (i := 30) rfl))) Via.refl rfl (F11.ext O.2) (g := (mkF m 21 #[.val (.ref x), .val (.ref b), .val (.int (2 : Int32)), .val (.int (0 : Int32)), .val (.ref s11)] [(.ref s11)])) rfl rfl (hb hby own_d7_21)
  refine Out.via (g' := (mkF m 24 #[.val (.ref x), .val (.ref b), .val (.int (2 : Int32)), .val (.int (0 : Int32)), .val (.ref s11)] [(.ref m11)])) st2 ?_
  refine Out.via (g' := (mkF m 25 #[.val (.ref x), .val (.ref b), .val (.int (2 : Int32)), .val (.int (0 : Int32)), .val (.ref s11)] [(.ref x), (.ref m11)])) (fun _ k => XS.aloadN X2.here hx rfl (hb hby own_d7_24) rfl rfl k) ?_
  have Sm0 := S11.ext O.2
  obtain ⟨cq3, kq3, q3a, q3b, q3c⟩ := isOf hZ e2 Sm0.2.1
  obtain ⟨_, _, ⟨T3, L3, kc3, ks3⟩, -, X3, ⟨Lc3, hQ3, l3, y3, z3⟩, st3⟩ := X2.virtualBack hx (y := (⟨"java/lang/String", "equals", "(Ljava/lang/Object;)Z"⟩ : MethodName)) (z := (⟨"java/lang/String", "equals", "(Ljava/lang/Object;)Z"⟩ : MethodName)) hown (mvT hZ (hw _ (List.mem_of_getElem? (i := 32) rfl))) (mvT hZ (hw _ (List.mem_of_getElem? (i := 33) rfl))) (notFace_of_selects (args := #[]) (mvT hZ (hw _ (List.mem_of_getElem? (i := 35) rfl)))) (mvT hZ (hw _ (List.mem_of_getElem? (i := 35) rfl))) (mvT hZ (hw _ (List.mem_of_getElem? (i := 34) rfl))) (by decide) (own_eqB (W := 0) hZ hw (kI := 4) (hw _ (List.mem_of_getElem? (i := 5) rfl)) Sm0 (by decide) Sx lx (O2.ext O.2) P5 (by decide) (by decide)) q3a q3c (g := (mkF m 25 #[.val (.ref x), .val (.ref b), .val (.int (2 : Int32)), .val (.int (0 : Int32)), .val (.ref s11)] [(.ref x), (.ref m11)])) rfl (by rw [hml]; rfl) (Steps.refl _) (argsL := [(.ref x)]) (rest := []) (lenOf own_pd8 rfl) rfl (by show 2 * 0 + _ ≤ _; exact Nat.le_of_eq rfl) (hb hby own_d7_25) (fun _ _ => ⟨rfl, e2, (by decide : 1 + 0 ≤ _), (by decide : 2 + 0 ≤ _)⟩)
  dsimp only [Pt.U, Pt.locs, Pt.cells, Pt.slots] at X3 l3 y3 z3 st3 hQ3
  subst l3 y3 z3
  obtain ⟨hc0, rfl, eq3⟩ := hQ3
  replace N0 := Fr.app N0 (Fr.nil n0)
  rcases hc0 with ⟨rfl, hc0⟩ | ⟨rfl, hc0⟩
  · refine Out.to (g' := (mkF m 28 #[.val (.ref x), .val (.ref b), .val (.int (2 : Int32)), .val (.int (0 : Int32)), .val (.ref s11)] [(.int (1 : Int32))])) st3 ?_
    refine Out.via (g' := (mkF m 31 #[.val (.ref x), .val (.ref b), .val (.int (2 : Int32)), .val (.int (0 : Int32)), .val (.ref s11)] [])) (fun _ k => XS.ifNo X3.here hx rfl (hb hby own_d7_28) rfl ((if0 _ _).trans (feq (by decide)).1) k) ?_
    refine Out.via (g' := (mkF m 33 #[.val (.ref x), .val (.ref b), .val (.int (2 : Int32)), .val (.int (0 : Int32)), .val (.ref s11)] [(.ref s11)])) (fun _ k => XS.aload X3.here hx rfl (hb hby own_d7_31) rfl rfl k) ?_
    exact Out.endN X3 (fun h => by rw [Bd.returns] at h; cases h) Bd.notSynchronized (by decide) (by decide) (by rw [eq3]; exact ⟨_, rfl, N0, Kp, Or.inl ⟨hc0.symm, rfl⟩⟩) (fun fs hr => own_retR X3 hx (t := (.object "com/example/queuebind/queuebind/SoapVersion")) Bd.returns rfl rfl rfl (hb hby own_d7_33) hr)
  · refine Out.to (g' := (mkF m 28 #[.val (.ref x), .val (.ref b), .val (.int (2 : Int32)), .val (.int (0 : Int32)), .val (.ref s11)] [(.int (0 : Int32))])) st3 ?_
    refine Out.via (g' := (mkF m 34 #[.val (.ref x), .val (.ref b), .val (.int (2 : Int32)), .val (.int (0 : Int32)), .val (.ref s11)] [])) (fun _ k => XS.ifYes X3.here hx rfl (pc0 := 28) (pc' := 34) rfl (hb hby own_d7_28) rfl ((if0 _ _).trans (teq rfl).1) (by decide) (by decide) k) ?_
    refine Out.via (g' := (mkF m 37 #[.val (.ref x), .val (.ref b), .val (.int (2 : Int32)), .val (.int ((0 : Int32) + (1 : Int32))), .val (.ref s11)] [])) (fun _ k => XS.iinc X3.here hx rfl (hb hby own_d7_34) rfl (l' := #[.val (.ref x), .val (.ref b), .val (.int (2 : Int32)), .val (.int ((0 : Int32) + (1 : Int32))), .val (.ref s11)]) rfl k) ?_
    refine Out.via (g' := (mkF m 9 #[.val (.ref x), .val (.ref b), .val (.int (2 : Int32)), .val (.int ((0 : Int32) + (1 : Int32))), .val (.ref s11)] [])) (fun _ k => XS.goto X3.here hx rfl (pc0 := 37) (pc' := 9) rfl (hb hby own_d7_37) (by decide) (by decide) k) ?_
    show RoadKit.Out p.tables e below _ T3 (mkF m 9 #[.val (.ref x), .val (.ref b), .val (.int (2 : Int32)), .val (.int (1 : Int32)), .val (.ref s11)] [])
    refine Out.via (g' := (mkF m 10 #[.val (.ref x), .val (.ref b), .val (.int (2 : Int32)), .val (.int (1 : Int32)), .val (.ref s11)] [(.int (1 : Int32))])) (fun _ k => XS.iloadN X3.here hx rfl (hb hby own_d7_9) rfl k) ?_
    refine Out.via (g' := (mkF m 11 #[.val (.ref x), .val (.ref b), .val (.int (2 : Int32)), .val (.int (1 : Int32)), .val (.ref s11)] [(.int (2 : Int32)), (.int (1 : Int32))])) (fun _ k => XS.iloadN X3.here hx rfl (hb hby own_d7_10) rfl k) ?_
    refine Out.via (g' := (mkF m 14 #[.val (.ref x), .val (.ref b), .val (.int (2 : Int32)), .val (.int (1 : Int32)), .val (.ref s11)] [])) (fun _ k => XS.icmpNo X3.here hx rfl (hb hby own_d7_11) rfl (tlt (by decide)).2.1 k) ?_
    refine Out.via (g' := (mkF m 15 #[.val (.ref x), .val (.ref b), .val (.int (2 : Int32)), .val (.int (1 : Int32)), .val (.ref s11)] [(.ref b)])) (fun _ k => XS.aloadN X3.here hx rfl (hb hby own_d7_14) rfl rfl k) ?_
    refine Out.via (g' := (mkF m 16 #[.val (.ref x), .val (.ref b), .val (.int (2 : Int32)), .val (.int (1 : Int32)), .val (.ref s11)] [(.int (1 : Int32)), (.ref b)])) (fun _ k => XS.iloadN X3.here hx rfl (hb hby own_d7_15) rfl k) ?_
    have hin1 : ¬ ((1 : Int32) < 0 ∨ cl_b.slots.size ≤ ((1 : Int32)).toNatClampNeg) := inb_of S_b ⟨by decide, by decide⟩
    refine Out.via (g' := (mkF m 17 #[.val (.ref x), .val (.ref b), .val (.int (2 : Int32)), .val (.int (1 : Int32)), .val (.ref s11)] [(.ref s12)])) (fun _ k => X3.aaload hx (j := (1 : Int32)) (v := (.ref s12)) (by rw [eq3]; exact Ar_b.1) (State.isArrayOf_alike hZ.alike Ar_b.2.1) rfl Ar_b.2.2 hin1 (H_b.at hin1 rfl) (g := (mkF m 16 #[.val (.ref x), .val (.ref b), .val (.int (2 : Int32)), .val (.int (1 : Int32)), .val (.ref s11)] [(.int (1 : Int32)), (.ref b)])) rfl rfl (hb hby own_d7_16) _ k) ?_
    refine Out.via (g' := (mkF m 19 #[.val (.ref x), .val (.ref b), .val (.int (2 : Int32)), .val (.int (1 : Int32)), .val (.ref s12)] [])) (fun _ k => XS.astore X3.here hx rfl (hb hby own_d7_17) rfl rfl (l' := #[.val (.ref x), .val (.ref b), .val (.int (2 : Int32)), .val (.int (1 : Int32)), .val (.ref s12)]) rfl k) ?_
    refine Out.via (g' := (mkF m 21 #[.val (.ref x), .val (.ref b), .val (.int (2 : Int32)), .val (.int (1 : Int32)), .val (.ref s12)] [(.ref s12)])) (fun _ k => XS.aload X3.here hx rfl (hb hby own_d7_19) rfl rfl k) ?_
    obtain ⟨T4, X4, e4, st4⟩ := getF X3 hx hZ hown (host := "") (Or.inl (hw _ (List.mem_of_getElem? (i := 30) rfl))) Via.refl eq3 (F12.ext O.2) (g := (mkF m 21 #[.val (.ref x), .val (.ref b), .val (.int (2 : Int32)), .val (.int (1 : Int32)), .val (.ref s12)] [(.ref s12)])) rfl rfl (hb hby own_d7_21)
    refine Out.via (g' := (mkF m 24 #[.val (.ref x), .val (.ref b), .val (.int (2 : Int32)), .val (.int (1 : Int32)), .val (.ref s12)] [(.ref m12)])) st4 ?_
    refine Out.via (g' := (mkF m 25 #[.val (.ref x), .val (.ref b), .val (.int (2 : Int32)), .val (.int (1 : Int32)), .val (.ref s12)] [(.ref x), (.ref m12)])) (fun _ k => XS.aloadN X4.here hx rfl (hb hby own_d7_24) rfl rfl k) ?_
    have Sm1 := S12.ext O.2
    obtain ⟨cq5, kq5, q5a, q5b, q5c⟩ := isOf hZ e4 Sm1.2.1
    obtain ⟨_, _, ⟨T5, L5, kc5, ks5⟩, -, X5, ⟨Lc5, hQ5, l5, y5, z5⟩, st5⟩ := X4.virtualBack hx (y := (⟨"java/lang/String", "equals", "(Ljava/lang/Object;)Z"⟩ : MethodName)) (z := (⟨"java/lang/String", "equals", "(Ljava/lang/Object;)Z"⟩ : MethodName)) hown (mvT hZ (hw _ (List.mem_of_getElem? (i := 32) rfl))) (mvT hZ (hw _ (List.mem_of_getElem? (i := 33) rfl))) (notFace_of_selects (args := #[]) (mvT hZ (hw _ (List.mem_of_getElem? (i := 35) rfl)))) (mvT hZ (hw _ (List.mem_of_getElem? (i := 35) rfl))) (mvT hZ (hw _ (List.mem_of_getElem? (i := 34) rfl))) (by decide) (own_eqB (W := 0) hZ hw (kI := 4) (hw _ (List.mem_of_getElem? (i := 5) rfl)) Sm1 (by decide) Sx lx (O2.ext O.2) P5 (by decide) (by decide)) q5a q5c (g := (mkF m 25 #[.val (.ref x), .val (.ref b), .val (.int (2 : Int32)), .val (.int (1 : Int32)), .val (.ref s12)] [(.ref x), (.ref m12)])) rfl (by rw [hml]; rfl) (Steps.refl _) (argsL := [(.ref x)]) (rest := []) (lenOf own_pd8 rfl) rfl (by show 2 * 0 + _ ≤ _; exact Nat.le_of_eq rfl) (hb hby own_d7_25) (fun _ _ => ⟨rfl, e4, (by decide : 1 + 0 ≤ _), (by decide : 2 + 0 ≤ _)⟩)
    dsimp only [Pt.U, Pt.locs, Pt.cells, Pt.slots] at X5 l5 y5 z5 st5 hQ5
    subst l5 y5 z5
    obtain ⟨hc1, rfl, eq5⟩ := hQ5
    replace N0 := Fr.app N0 (Fr.nil n0)
    rcases hc1 with ⟨rfl, hc1⟩ | ⟨rfl, hc1⟩
    · refine Out.to (g' := (mkF m 28 #[.val (.ref x), .val (.ref b), .val (.int (2 : Int32)), .val (.int (1 : Int32)), .val (.ref s12)] [(.int (1 : Int32))])) st5 ?_
      refine Out.via (g' := (mkF m 31 #[.val (.ref x), .val (.ref b), .val (.int (2 : Int32)), .val (.int (1 : Int32)), .val (.ref s12)] [])) (fun _ k => XS.ifNo X5.here hx rfl (hb hby own_d7_28) rfl ((if0 _ _).trans (feq (by decide)).1) k) ?_
      refine Out.via (g' := (mkF m 33 #[.val (.ref x), .val (.ref b), .val (.int (2 : Int32)), .val (.int (1 : Int32)), .val (.ref s12)] [(.ref s12)])) (fun _ k => XS.aload X5.here hx rfl (hb hby own_d7_31) rfl rfl k) ?_
      exact Out.endN X5 (fun h => by rw [Bd.returns] at h; cases h) Bd.notSynchronized (by decide) (by decide) (by rw [eq5]; exact ⟨_, rfl, N0, Kp, Or.inr (Or.inl ⟨fun q => hc0 q.symm, hc1.symm, rfl⟩)⟩) (fun fs hr => own_retR X5 hx (t := (.object "com/example/queuebind/queuebind/SoapVersion")) Bd.returns rfl rfl rfl (hb hby own_d7_33) hr)
    · refine Out.to (g' := (mkF m 28 #[.val (.ref x), .val (.ref b), .val (.int (2 : Int32)), .val (.int (1 : Int32)), .val (.ref s12)] [(.int (0 : Int32))])) st5 ?_
      refine Out.via (g' := (mkF m 34 #[.val (.ref x), .val (.ref b), .val (.int (2 : Int32)), .val (.int (1 : Int32)), .val (.ref s12)] [])) (fun _ k => XS.ifYes X5.here hx rfl (pc0 := 28) (pc' := 34) rfl (hb hby own_d7_28) rfl ((if0 _ _).trans (teq rfl).1) (by decide) (by decide) k) ?_
      refine Out.via (g' := (mkF m 37 #[.val (.ref x), .val (.ref b), .val (.int (2 : Int32)), .val (.int ((1 : Int32) + (1 : Int32))), .val (.ref s12)] [])) (fun _ k => XS.iinc X5.here hx rfl (hb hby own_d7_34) rfl (l' := #[.val (.ref x), .val (.ref b), .val (.int (2 : Int32)), .val (.int ((1 : Int32) + (1 : Int32))), .val (.ref s12)]) rfl k) ?_
      refine Out.via (g' := (mkF m 9 #[.val (.ref x), .val (.ref b), .val (.int (2 : Int32)), .val (.int ((1 : Int32) + (1 : Int32))), .val (.ref s12)] [])) (fun _ k => XS.goto X5.here hx rfl (pc0 := 37) (pc' := 9) rfl (hb hby own_d7_37) (by decide) (by decide) k) ?_
      show RoadKit.Out p.tables e below _ T5 (mkF m 9 #[.val (.ref x), .val (.ref b), .val (.int (2 : Int32)), .val (.int (2 : Int32)), .val (.ref s12)] [])
      refine Out.via (g' := (mkF m 10 #[.val (.ref x), .val (.ref b), .val (.int (2 : Int32)), .val (.int (2 : Int32)), .val (.ref s12)] [(.int (2 : Int32))])) (fun _ k => XS.iloadN X5.here hx rfl (hb hby own_d7_9) rfl k) ?_
      refine Out.via (g' := (mkF m 11 #[.val (.ref x), .val (.ref b), .val (.int (2 : Int32)), .val (.int (2 : Int32)), .val (.ref s12)] [(.int (2 : Int32)), (.int (2 : Int32))])) (fun _ k => XS.iloadN X5.here hx rfl (hb hby own_d7_10) rfl k) ?_
      refine Out.via (g' := (mkF m 40 #[.val (.ref x), .val (.ref b), .val (.int (2 : Int32)), .val (.int (2 : Int32)), .val (.ref s12)] [])) (fun _ k => XS.icmpYes X5.here hx rfl (pc0 := 11) (pc' := 40) rfl (hb hby own_d7_11) rfl (flt (by decide)).2.1 (by decide) (by decide) k) ?_
      refine Out.via (g' := (mkF m 41 #[.val (.ref x), .val (.ref b), .val (.int (2 : Int32)), .val (.int (2 : Int32)), .val (.ref s12)] [.null])) (fun _ k => XS.aconstNull X5.here hx rfl (hb hby own_d7_40) k) ?_
      exact Out.endN X5 (fun h => by rw [Bd.returns] at h; cases h) Bd.notSynchronized (by decide) (by decide) (by rw [eq5]; exact ⟨_, rfl, N0, Kp, Or.inr (Or.inr ⟨fun q => hc0 q.symm, fun q => hc1 q.symm, rfl⟩)⟩) (fun fs hr => own_retR X5 hx (t := (.object "com/example/queuebind/queuebind/SoapVersion")) Bd.returns rfl rfl rfl (hb hby own_d7_41) hr)
theorem own_pd9 : parseMethodDescriptor "(Ljava/lang/String;)Lcom/example/queuebind/queuebind/SoapVersion;" = some ⟨[(.object "java/lang/String")], some (.object "com/example/queuebind/queuebind/SoapVersion")⟩ := by decide +kernel
set_option maxRecDepth 65536 in
set_option maxHeartbeats 40000000 in
theorem own_tail {p : Program} {l : Launch} {e : Env} {s : State} {vm0 : Vm} {kk : Nat} {m : MethodId} {args : Array Value} {below : List Frame} {meth : Method} {c : Code} {T0 : State} {locs : List Loc} {cells slots : Nat} {Z : State} {a0 : Array Value} {h0 : Heap} {n0 : Nat} (Ls : Array Slot) (x va s11 s12 m11 m12 : Addr) (kv : ClassId) (cs : List Int32) (G1 : Int32) (w : Value)
    (X0 : Stand p l e room_1 (s.setVm vm0) m args below meth c T0 locs cells slots) (hx : p.tables.exec = Jvm.exec) (hS : s.Since vm0 kk) (hk : kk ≤ h0.size) (hZ : Z.Warmed39 (s.setVm vm0).vm) (hw : ∀ d ∈ tables_1, d.before a0 Z = true) (hby : c.code = code) (hml : c.maxLocals = 14) (hown : (s.setVm vm0).vm.findClass "com/example/queuebind/queuebind/SoapVersionOfMediaTypePinLaw" = some m.cls) (hret : meth.sig.returnType = some .boolean) (hns : meth.locks = false) (e0 : T0.heap = h0) (O : Old Z n0 h0) (N0 : Fr n0 locs) (Sx : own_Str Z h0 x cs) (lx : cs.length ≤ 4000) (SVA : Sta Z Z.heap "com/example/queuebind/queuebind/SoapVersion" "$VALUES" "[Lcom/example/queuebind/queuebind/SoapVersion;" (.ref va)) (EVA : Exa Z Z.heap va "[Lcom/example/queuebind/queuebind/SoapVersion;") (AVA : Arv Z Z.heap va kv (.object "com/example/queuebind/queuebind/SoapVersion") (2 : Int32) [.ref s11, .ref s12] .null) (F11 : Fld Z Z.heap s11 "com/example/queuebind/queuebind/SoapVersion" "mediaType" "Ljava/lang/String;" (.ref m11)) (S11 : own_Str Z Z.heap m11 own_T11) (F12 : Fld Z Z.heap s12 "com/example/queuebind/queuebind/SoapVersion" "mediaType" "Ljava/lang/String;" (.ref m12)) (S12 : own_Str Z Z.heap m12 own_T12) (O2 : Sta Z Z.heap "java/lang/String" "COMPACT_STRINGS" "Z" (.int G1)) (P5 : ¬ (G1 = (0 : Int32))) (Aw : own_Ans s11 s12 cs w) (h9 : Ls[9]? = some (.val (.ref x))) (h10 : Ls[10]? = some (.val w)) (hsz : Ls.size = 14) (hc : cells + 1 ≤ room_1.cells) (hs : slots + 2 ≤ room_1.slots) :
    RoadKit.Out p.tables e below (EndW s below (fun v h L => v = some (.int (1 : Int32)) ∧ Fr n0 L) room_1.cells room_1.slots) T0 (mkF m 995 Ls []) := by
  refine Out.via (g' := (mkF m 997 Ls [(.ref x)])) (fun _ k => XS.aload X0.here hx rfl (hb hby at_995) h9 rfl k) ?_
  obtain ⟨_, _, ⟨T1, L1, kc1, ks1⟩, -, X1, ⟨Lc1, hQ1, l1, y1, z1⟩, st1⟩ := Jvm.LawKit.callS X0 hx (y := (⟨"com/example/queuebind/queuebind/SoapVersion", "ofMediaType", "(Ljava/lang/String;)Lcom/example/queuebind/queuebind/SoapVersion;"⟩ : MethodName)) hown (mvT hZ (hw _ (List.mem_of_getElem? (i := 11) rfl))) (mvT hZ (hw _ (List.mem_of_getElem? (i := 12) rfl))) (mvT hZ (hw _ (List.mem_of_getElem? (i := 1) rfl))) (mvT hZ (hw _ (List.mem_of_getElem? (i := 13) rfl))) (by decide) (backOf (W := 0) (own_rm1 l Z a0 hw [] x va s11 s12 m11 m12 kv cs G1 h0 n0 O Sx lx SVA EVA AVA F11 S11 F12 S12 O2 P5) hZ (hw _ (List.mem_of_getElem? (i := 13) rfl)) (hw _ (List.mem_of_getElem? (i := 1) rfl)) (by decide) (by decide)) (g := (mkF m 997 Ls [(.ref x)])) rfl (by rw [hml]; exact hsz) (argsL := [(.ref x)]) (rest := []) (lenOf own_pd9 rfl) rfl (by show 2 * 0 + _ ≤ _; exact Nat.le_of_eq rfl) (hb hby at_997) (fun _ _ => ⟨rfl, e0, hc, hs⟩)
  dsimp only [Pt.U, Pt.locs, Pt.cells, Pt.slots] at X1 l1 y1 z1 st1 hQ1
  subst l1 y1 z1
  obtain ⟨u, rfl, Nq, Kq, Au⟩ := hQ1
  obtain rfl := Au.one Aw
  replace N0 := Fr.app N0 Nq
  replace hk := Nat.le_trans hk Kq.1
  refine Out.via (g' := (mkF m 1000 Ls [u])) st1 ?_
  refine Out.via (g' := (mkF m 1002 Ls [u, u])) (fun _ k => XS.aload X1.here hx rfl (hb hby at_1000) h10 Au.isRef k) ?_
  refine Out.via (g' := (mkF m 1005 Ls [])) (fun _ k => Jvm.RoadKit.acmp (g := (mkF m 1002 Ls [u, u])) X1 hx rfl Au.isRef Au.isRef (pc0 := 1002) (pc' := 1005) (same := true) rfl (hb hby at_1002) rfl (decide_eq_true rfl) (by decide) (by decide) k) ?_
  refine Out.via (g' := (mkF m 1006 Ls [(.int (1 : Int32))])) (fun _ k => XS.iconst X1.here hx rfl (hb hby at_1005) k) ?_
  refine Out.via (g' := (mkF m 1010 Ls [(.int (1 : Int32))])) (fun _ k => XS.goto X1.here hx rfl (pc0 := 1006) (pc' := 1010) rfl (hb hby at_1006) (by decide) (by decide) k) ?_
  exact Out.endW X1 hS hk (fun h => by rw [hret] at h; cases h) hns hc hs (⟨rfl, N0⟩) (fun fs hr => Jvm.RoadKit.retN X1 hx (t := .boolean) hret (by simp) (hb hby at_1010) hr)
def own_EL : List (String × Nat) := [("com/example/queuebind/queuebind/SoapVersionOfMediaTypePinLaw", 16), ("com/example/queuebind/queuebind/SoapVersionOfMediaTypePinLaw", 18), ("com/example/queuebind/queuebind/SoapVersionOfMediaTypePinLaw", 35)]
theorem own_hEL {Z : State} {a0 : Array Value} (hw : ∀ d ∈ tables_1, d.before a0 Z = true) : EW Z a0 own_EL := EW.cons (hw _ (List.mem_of_getElem? (i := 69) rfl)) (by decide) (EW.cons (hw _ (List.mem_of_getElem? (i := 3) rfl)) (by decide) (EW.cons (hw _ (List.mem_of_getElem? (i := 46) rfl)) (by decide) EW.nil))
theorem own_wS {Z : State} {a0 : Array Value} (hw : ∀ d ∈ tables_1, d.before a0 Z = true) : ∀ a ∈ Bundle.stringAtoms, a.before a0 Z = true := fun d hd => hw d ((by decide +kernel : ∀ d ∈ Bundle.stringAtoms, d ∈ tables_1) d hd)
theorem own_pd10 : parseMethodDescriptor "()[C" = some ⟨[], some (.array .char)⟩ := by decide +kernel
theorem own_pd11 : parseMethodDescriptor "([C)V" = some ⟨[(.array .char)], none⟩ := by decide +kernel
theorem own_pd12 : parseMethodDescriptor "(C)Ljava/lang/String;" = some ⟨[.char], some (.object "java/lang/String")⟩ := by decide +kernel
theorem own_ef0 (m : MethodId) (x0 : Int32) (x1 : Int32) (x2 : Int32) (x3 : Int32) : entryFrame m #[(.int x0), (.int x1), (.int x2), (.int x3)] maxLocals = mkF m 0 #[.val (.int x0), .val (.int x1), .val (.int x2), .val (.int x3), .unset, .unset, .unset, .unset, .unset, .unset, .unset, .unset, .unset, .unset] [] := by first | (simp [entryFrame, mkF, argsToLocals, Value.category, maxLocals]; done) | rfl
set_option maxRecDepth 65536 in
set_option maxHeartbeats 40000000 in
theorem own_rm0 (l : Launch) (Z : State) (a0 : Array Value) (hw : ∀ d ∈ tables_1, d.before a0 Z = true) (ws : List Jvm.Cond) (p0 p1 p2 p3 : Int32) (va s11 s12 m11 m12 : Addr) (kv : ClassId) (G1 : Int32) (h0 : Heap) (n0 : Nat) (O : Old Z n0 h0) (V11 : Sta Z Z.heap "com/example/queuebind/queuebind/SoapVersion" "SOAP_11" "Lcom/example/queuebind/queuebind/SoapVersion;" (.ref s11)) (V12 : Sta Z Z.heap "com/example/queuebind/queuebind/SoapVersion" "SOAP_12" "Lcom/example/queuebind/queuebind/SoapVersion;" (.ref s12)) (SVA : Sta Z Z.heap "com/example/queuebind/queuebind/SoapVersion" "$VALUES" "[Lcom/example/queuebind/queuebind/SoapVersion;" (.ref va)) (EVA : Exa Z Z.heap va "[Lcom/example/queuebind/queuebind/SoapVersion;") (AVA : Arv Z Z.heap va kv (.object "com/example/queuebind/queuebind/SoapVersion") (2 : Int32) [.ref s11, .ref s12] .null) (F11 : Fld Z Z.heap s11 "com/example/queuebind/queuebind/SoapVersion" "mediaType" "Ljava/lang/String;" (.ref m11)) (S11 : own_Str Z Z.heap m11 own_T11) (F12 : Fld Z Z.heap s12 "com/example/queuebind/queuebind/SoapVersion" "mediaType" "Ljava/lang/String;" (.ref m12)) (S12 : own_Str Z Z.heap m12 own_T12) (O2 : Sta Z Z.heap "java/lang/String" "COMPACT_STRINGS" "Z" (.int G1)) (P5 : ¬ (G1 = (0 : Int32))) :
    MetFree l x (head1 (Jvm.Cond.code x code maxLocals ret :: ws) room_1) (fun aa U => aa = #[(.int p0), (.int p1), (.int p2), (.int p3)] ∧ Z.Warmed39 U.vm ∧ U.heap = h0 ∧ CHv Z own_EL U.vm h0) (fun _ _ _ _ _ => True) (fun _ U o U' => ∃ v L, o = .returned v ∧ (fun v h L => v = some (.int (1 : Int32)) ∧ Fr n0 L) v U'.heap L ∧ ReturnedEndW U o U' L room_1.cells room_1.slots) := by
  refine MetFree.of_bodySF (plainFor_of_name own_pn5) hisR ?_
  intro p e s m args below meth c s₁ Bd hml0 hP hK
  obtain ⟨rfl, hZ, hh, hCH⟩ := hP
  have hx := Bd.exec
  have hby := Bd.bytes
  have hml : c.maxLocals = 14 := hml0
  have hown : s.vm.findClass "com/example/queuebind/queuebind/SoapVersionOfMediaTypePinLaw" = some m.cls := findClass_of_methodNamed Bd.named
  have hnm := (name_of_methodNamed Bd.named Bd.method).1
  have X0 : Stand p l e room_1 (s.setVm s.vm) m #[(.int p0), (.int p1), (.int p2), (.int p3)] below meth c s₁ [] 0 0 := Stand.of_body Bd
  have e0 : s₁.heap = h0 := by rw [← hh, Bd.state]; rfl
  have N0 := Fr.nil n0
  have hS := own_since0 s 0
  have hk : 0 ≤ h0.size := Nat.zero_le _
  have CR : CHr Z own_EL s.vm h0 s.vm h0 := CHr.refl hCH
  refine Out.startW (Q := fun v h L => v = some (.int (1 : Int32)) ∧ Fr n0 L) (own_ef0 m p0 p1 p2 p3 ) ?_
  have hEL := own_hEL hw
  have wS := own_wS hw
  have hws : ∀ d ∈ StrChars.Road.words, d.before a0 Z = true := fun d hd => hw d ((by decide +kernel : ∀ d ∈ StrChars.Road.words, d ∈ tables_1) d hd)
  refine Out.via (g' := (mkF m 1 #[.val (.int p0), .val (.int p1), .val (.int p2), .val (.int p3), .unset, .unset, .unset, .unset, .unset, .unset, .unset, .unset, .unset, .unset] [(.int p0)])) (fun _ k => XS.iloadN X0.here hx rfl (hb hby at_0) rfl k) ?_
  refine Out.via (g' := (mkF m 2 #[.val (.int p0), .val (.int p1), .val (.int p2), .val (.int p3), .unset, .unset, .unset, .unset, .unset, .unset, .unset, .unset, .unset, .unset] [(.int (1 : Int32)), (.int p0)])) (fun _ k => XS.iconst X0.here hx rfl (hb hby at_1) k) ?_
  refine Out.via (g' := (mkF m 3 #[.val (.int p0), .val (.int p1), .val (.int p2), .val (.int p3), .unset, .unset, .unset, .unset, .unset, .unset, .unset, .unset, .unset, .unset] [(.int (p0 &&& (1 : Int32)))])) (fun _ k => XS.iand X0.here hx rfl (hb hby at_2) rfl k) ?_
  by_cases hf : (p0 &&& (1 : Int32)) = (0 : Int32)
  · refine Out.via (g' := (mkF m 10 #[.val (.int p0), .val (.int p1), .val (.int p2), .val (.int p3), .unset, .unset, .unset, .unset, .unset, .unset, .unset, .unset, .unset, .unset] [])) (fun _ k => XS.ifYes X0.here hx rfl (pc0 := 3) (pc' := 10) rfl (hb hby at_3) rfl ((if0 _ _).trans (teq hf).1) (by decide) (by decide) k) ?_
    refine Out.via (g' := (mkF m 11 #[.val (.int p0), .val (.int p1), .val (.int p2), .val (.int p3), .unset, .unset, .unset, .unset, .unset, .unset, .unset, .unset, .unset, .unset] [(.int (0 : Int32))])) (fun _ k => XS.iconst X0.here hx rfl (hb hby at_10) k) ?_
    refine Out.via (g' := (mkF m 13 #[.val (.int p0), .val (.int p1), .val (.int p2), .val (.int p3), .val (.int (0 : Int32)), .unset, .unset, .unset, .unset, .unset, .unset, .unset, .unset, .unset] [])) (fun _ k => XS.istore X0.here hx rfl (hb hby at_11) rfl (l' := #[.val (.int p0), .val (.int p1), .val (.int p2), .val (.int p3), .val (.int (0 : Int32)), .unset, .unset, .unset, .unset, .unset, .unset, .unset, .unset, .unset]) rfl k) ?_
    refine Out.via (g' := (mkF m 14 #[.val (.int p0), .val (.int p1), .val (.int p2), .val (.int p3), .val (.int (0 : Int32)), .unset, .unset, .unset, .unset, .unset, .unset, .unset, .unset, .unset] [(.int p0)])) (fun _ k => XS.iloadN X0.here hx rfl (hb hby at_13) rfl k) ?_
    refine Out.via (g' := (mkF m 15 #[.val (.int p0), .val (.int p1), .val (.int p2), .val (.int p3), .val (.int (0 : Int32)), .unset, .unset, .unset, .unset, .unset, .unset, .unset, .unset, .unset] [(.int (1 : Int32)), (.int p0)])) (fun _ k => XS.iconst X0.here hx rfl (hb hby at_14) k) ?_
    refine Out.via (g' := (mkF m 16 #[.val (.int p0), .val (.int p1), .val (.int p2), .val (.int p3), .val (.int (0 : Int32)), .unset, .unset, .unset, .unset, .unset, .unset, .unset, .unset, .unset] [(.int ((p0.toUInt32 >>> ((1 : Int32) &&& 31).toUInt32).toInt32))])) (fun _ k => XS.iushr X0.here hx rfl (hb hby at_15) rfl k) ?_
    refine Out.via (g' := (mkF m 18 #[.val (.int p0), .val (.int p1), .val (.int p2), .val (.int p3), .val (.int (0 : Int32)), .unset, .unset, .unset, .unset, .unset, .unset, .unset, .unset, .unset] [(.int (7 : Int32)), (.int ((p0.toUInt32 >>> ((1 : Int32) &&& 31).toUInt32).toInt32))])) (fun _ k => XS.bipush X0.here hx rfl (hb hby at_16) k) ?_
    refine Out.via (g' := (mkF m 19 #[.val (.int p0), .val (.int p1), .val (.int p2), .val (.int p3), .val (.int (0 : Int32)), .unset, .unset, .unset, .unset, .unset, .unset, .unset, .unset, .unset] [(.int (((p0.toUInt32 >>> ((1 : Int32) &&& 31).toUInt32).toInt32) &&& (7 : Int32)))])) (fun _ k => XS.iand X0.here hx rfl (hb hby at_18) rfl k) ?_
    refine Out.via (g' := (mkF m 21 #[.val (.int p0), .val (.int p1), .val (.int p2), .val (.int p3), .val (.int (0 : Int32)), .val (.int (((p0.toUInt32 >>> ((1 : Int32) &&& 31).toUInt32).toInt32) &&& (7 : Int32))), .unset, .unset, .unset, .unset, .unset, .unset, .unset, .unset] [])) (fun _ k => XS.istore X0.here hx rfl (hb hby at_19) rfl (l' := #[.val (.int p0), .val (.int p1), .val (.int p2), .val (.int p3), .val (.int (0 : Int32)), .val (.int (((p0.toUInt32 >>> ((1 : Int32) &&& 31).toUInt32).toInt32) &&& (7 : Int32))), .unset, .unset, .unset, .unset, .unset, .unset, .unset, .unset]) rfl k) ?_
    generalize hq_sh : (((p0.toUInt32 >>> ((1 : Int32) &&& 31).toUInt32).toInt32) &&& (7 : Int32)) = sh
    refine Out.via (g' := (mkF m 22 #[.val (.int p0), .val (.int p1), .val (.int p2), .val (.int p3), .val (.int (0 : Int32)), .val (.int sh), .unset, .unset, .unset, .unset, .unset, .unset, .unset, .unset] [(.int p1)])) (fun _ k => XS.iloadN X0.here hx rfl (hb hby at_21) rfl k) ?_
    refine Out.via (g' := (mkF m 25 #[.val (.int p0), .val (.int p1), .val (.int p2), .val (.int p3), .val (.int (0 : Int32)), .val (.int sh), .unset, .unset, .unset, .unset, .unset, .unset, .unset, .unset] [(.int (255 : Int32)), (.int p1)])) (fun _ k => XS.sipush X0.here hx rfl (hb hby at_22) k) ?_
    refine Out.via (g' := (mkF m 26 #[.val (.int p0), .val (.int p1), .val (.int p2), .val (.int p3), .val (.int (0 : Int32)), .val (.int sh), .unset, .unset, .unset, .unset, .unset, .unset, .unset, .unset] [(.int (p1 &&& (255 : Int32)))])) (fun _ k => XS.iand X0.here hx rfl (hb hby at_25) rfl k) ?_
    refine Out.via (g' := (mkF m 27 #[.val (.int p0), .val (.int p1), .val (.int p2), .val (.int p3), .val (.int (0 : Int32)), .val (.int sh), .unset, .unset, .unset, .unset, .unset, .unset, .unset, .unset] [(.int ((p1 &&& (255 : Int32)).toUInt32.toUInt16.toUInt32.toInt32))])) (fun _ k => XS.i2c X0.here hx rfl (hb hby at_26) rfl k) ?_
    refine Out.via (g' := (mkF m 29 #[.val (.int p0), .val (.int p1), .val (.int p2), .val (.int p3), .val (.int (0 : Int32)), .val (.int sh), .val (.int ((p1 &&& (255 : Int32)).toUInt32.toUInt16.toUInt32.toInt32)), .unset, .unset, .unset, .unset, .unset, .unset, .unset] [])) (fun _ k => XS.istore X0.here hx rfl (hb hby at_27) rfl (l' := #[.val (.int p0), .val (.int p1), .val (.int p2), .val (.int p3), .val (.int (0 : Int32)), .val (.int sh), .val (.int ((p1 &&& (255 : Int32)).toUInt32.toUInt16.toUInt32.toInt32)), .unset, .unset, .unset, .unset, .unset, .unset, .unset]) rfl k) ?_
    generalize hq_c1 : ((p1 &&& (255 : Int32)).toUInt32.toUInt16.toUInt32.toInt32) = c1
    have D_c1 : own_lat c1 := hq_c1 ▸ own_mask _
    refine Out.via (g' := (mkF m 30 #[.val (.int p0), .val (.int p1), .val (.int p2), .val (.int p3), .val (.int (0 : Int32)), .val (.int sh), .val (.int c1), .unset, .unset, .unset, .unset, .unset, .unset, .unset] [(.int p3)])) (fun _ k => XS.iloadN X0.here hx rfl (hb hby at_29) rfl k) ?_
    refine Out.via (g' := (mkF m 33 #[.val (.int p0), .val (.int p1), .val (.int p2), .val (.int p3), .val (.int (0 : Int32)), .val (.int sh), .val (.int c1), .unset, .unset, .unset, .unset, .unset, .unset, .unset] [(.int (255 : Int32)), (.int p3)])) (fun _ k => XS.sipush X0.here hx rfl (hb hby at_30) k) ?_
    refine Out.via (g' := (mkF m 34 #[.val (.int p0), .val (.int p1), .val (.int p2), .val (.int p3), .val (.int (0 : Int32)), .val (.int sh), .val (.int c1), .unset, .unset, .unset, .unset, .unset, .unset, .unset] [(.int (p3 &&& (255 : Int32)))])) (fun _ k => XS.iand X0.here hx rfl (hb hby at_33) rfl k) ?_
    refine Out.via (g' := (mkF m 35 #[.val (.int p0), .val (.int p1), .val (.int p2), .val (.int p3), .val (.int (0 : Int32)), .val (.int sh), .val (.int c1), .unset, .unset, .unset, .unset, .unset, .unset, .unset] [(.int ((p3 &&& (255 : Int32)).toUInt32.toUInt16.toUInt32.toInt32))])) (fun _ k => XS.i2c X0.here hx rfl (hb hby at_34) rfl k) ?_
    refine Out.via (g' := (mkF m 37 #[.val (.int p0), .val (.int p1), .val (.int p2), .val (.int p3), .val (.int (0 : Int32)), .val (.int sh), .val (.int c1), .val (.int ((p3 &&& (255 : Int32)).toUInt32.toUInt16.toUInt32.toInt32)), .unset, .unset, .unset, .unset, .unset, .unset] [])) (fun _ k => XS.istore X0.here hx rfl (hb hby at_35) rfl (l' := #[.val (.int p0), .val (.int p1), .val (.int p2), .val (.int p3), .val (.int (0 : Int32)), .val (.int sh), .val (.int c1), .val (.int ((p3 &&& (255 : Int32)).toUInt32.toUInt16.toUInt32.toInt32)), .unset, .unset, .unset, .unset, .unset, .unset]) rfl k) ?_
    generalize hq_c2 : ((p3 &&& (255 : Int32)).toUInt32.toUInt16.toUInt32.toInt32) = c2
    have D_c2 : own_lat c2 := hq_c2 ▸ own_mask _
    refine Out.via (g' := (mkF m 39 #[.val (.int p0), .val (.int p1), .val (.int p2), .val (.int p3), .val (.int (0 : Int32)), .val (.int sh), .val (.int c1), .val (.int c2), .unset, .unset, .unset, .unset, .unset, .unset] [(.int (0 : Int32))])) (fun _ k => XS.iload X0.here hx rfl (hb hby at_37) rfl k) ?_
    refine Out.via (g' := (mkF m 48 #[.val (.int p0), .val (.int p1), .val (.int p2), .val (.int p3), .val (.int (0 : Int32)), .val (.int sh), .val (.int c1), .val (.int c2), .unset, .unset, .unset, .unset, .unset, .unset] [])) (fun _ k => XS.ifYes X0.here hx rfl (pc0 := 39) (pc' := 48) rfl (hb hby at_39) rfl ((if0 _ _).trans (teq (by decide)).1) (by decide) (by decide) k) ?_
    obtain ⟨T1, X1, e1, st1⟩ := getS2 X0 hx hZ hown (host := "") (Or.inl (hw _ (List.mem_of_getElem? (i := 0) rfl))) Via.refl e0 (V11.ext O.2) (g := (mkF m 48 #[.val (.int p0), .val (.int p1), .val (.int p2), .val (.int p3), .val (.int (0 : Int32)), .val (.int sh), .val (.int c1), .val (.int c2), .unset, .unset, .unset, .unset, .unset, .unset] [])) rfl (hb hby at_48)
    refine Out.via (g' := (mkF m 51 #[.val (.int p0), .val (.int p1), .val (.int p2), .val (.int p3), .val (.int (0 : Int32)), .val (.int sh), .val (.int c1), .val (.int c2), .unset, .unset, .unset, .unset, .unset, .unset] [(.ref s11)])) st1 ?_
    refine Out.via (g' := (mkF m 53 #[.val (.int p0), .val (.int p1), .val (.int p2), .val (.int p3), .val (.int (0 : Int32)), .val (.int sh), .val (.int c1), .val (.int c2), .val (.ref s11), .unset, .unset, .unset, .unset, .unset] [])) (fun _ k => XS.astore X1.here hx rfl (hb hby at_51) rfl rfl (l' := #[.val (.int p0), .val (.int p1), .val (.int p2), .val (.int p3), .val (.int (0 : Int32)), .val (.int sh), .val (.int c1), .val (.int c2), .val (.ref s11), .unset, .unset, .unset, .unset, .unset]) rfl k) ?_
    refine Out.via (g' := (mkF m 54 #[.val (.int p0), .val (.int p1), .val (.int p2), .val (.int p3), .val (.int (0 : Int32)), .val (.int sh), .val (.int c1), .val (.int c2), .val (.ref s11), .unset, .unset, .unset, .unset, .unset] [.null])) (fun _ k => XS.aconstNull X1.here hx rfl (hb hby at_53) k) ?_
    refine Out.via (g' := (mkF m 56 #[.val (.int p0), .val (.int p1), .val (.int p2), .val (.int p3), .val (.int (0 : Int32)), .val (.int sh), .val (.int c1), .val (.int c2), .val (.ref s11), .unset, .val .null, .unset, .unset, .unset] [])) (fun _ k => XS.astore X1.here hx rfl (hb hby at_54) rfl rfl (l' := #[.val (.int p0), .val (.int p1), .val (.int p2), .val (.int p3), .val (.int (0 : Int32)), .val (.int sh), .val (.int c1), .val (.int c2), .val (.ref s11), .unset, .val .null, .unset, .unset, .unset]) rfl k) ?_
    refine Out.via (g' := (mkF m 58 #[.val (.int p0), .val (.int p1), .val (.int p2), .val (.int p3), .val (.int (0 : Int32)), .val (.int sh), .val (.int c1), .val (.int c2), .val (.ref s11), .unset, .val .null, .unset, .unset, .unset] [(.int sh)])) (fun _ k => XS.iload X1.here hx rfl (hb hby at_56) rfl k) ?_
    by_cases h0c : sh = (0 : Int32)
    · refine Out.via (g' := (mkF m 61 #[.val (.int p0), .val (.int p1), .val (.int p2), .val (.int p3), .val (.int (0 : Int32)), .val (.int sh), .val (.int c1), .val (.int c2), .val (.ref s11), .unset, .val .null, .unset, .unset, .unset] [])) (fun _ k => XS.ifNo X1.here hx rfl (hb hby at_58) rfl ((if0 _ _).trans (teq h0c).2) k) ?_
      refine Out.via (g' := (mkF m 63 #[.val (.int p0), .val (.int p1), .val (.int p2), .val (.int p3), .val (.int (0 : Int32)), .val (.int sh), .val (.int c1), .val (.int c2), .val (.ref s11), .unset, .val .null, .unset, .unset, .unset] [(.int (0 : Int32))])) (fun _ k => XS.iload X1.here hx rfl (hb hby at_61) rfl k) ?_
      refine Out.via (g' := (mkF m 71 #[.val (.int p0), .val (.int p1), .val (.int p2), .val (.int p3), .val (.int (0 : Int32)), .val (.int sh), .val (.int c1), .val (.int c2), .val (.ref s11), .unset, .val .null, .unset, .unset, .unset] [])) (fun _ k => XS.ifYes X1.here hx rfl (pc0 := 63) (pc' := 71) rfl (hb hby at_63) rfl ((if0 _ _).trans (teq (by decide)).1) (by decide) (by decide) k) ?_
      obtain ⟨la, T2, h2, kk2, lb, kb_la, X2, e2, E2, hS, hk, hZ, hown, Eq_la, Cq_la, Vq_la, Aq_la, lt_la, lt_lb, CR2, Lit_la, nes_la, st2⟩ := ldcCH X1 hx hZ hown (hw _ (List.mem_of_getElem? (i := 3) rfl)) wS e1 hS hk hEL (by decide) CR.1 (vs := [(.int (116 : Int32)), (.int (101 : Int32)), (.int (120 : Int32)), (.int (116 : Int32)), (.int (47 : Int32)), (.int (120 : Int32)), (.int (109 : Int32)), (.int (108 : Int32))]) (z := (8 : Int32)) ⟨by decide, rfl⟩ (by decide) rfl (g := (mkF m 71 #[.val (.int p0), .val (.int p1), .val (.int p2), .val (.int p3), .val (.int (0 : Int32)), .val (.int sh), .val (.int c1), .val (.int c2), .val (.ref s11), .unset, .val .null, .unset, .unset, .unset] [])) rfl (hb hby at_71) (n := 32) (by decide) (by decide) (by decide) (by decide)
      replace O := O.ext E2
      have Sl : own_Str Z h2 la own_T11 := ⟨own_T11_lat, Eq_la, Cq_la, lb, kb_la, Vq_la, Aq_la⟩
      refine Out.via (g' := (mkF m 73 #[.val (.int p0), .val (.int p1), .val (.int p2), .val (.int p3), .val (.int (0 : Int32)), .val (.int sh), .val (.int c1), .val (.int c2), .val (.ref s11), .unset, .val .null, .unset, .unset, .unset] [(.ref la)])) st2 ?_
      refine Out.via (g' := (mkF m 75 #[.val (.int p0), .val (.int p1), .val (.int p2), .val (.int p3), .val (.int (0 : Int32)), .val (.int sh), .val (.int c1), .val (.int c2), .val (.ref s11), .val (.ref la), .val .null, .unset, .unset, .unset] [])) (fun _ k => XS.astore X2.here hx rfl (hb hby at_73) rfl rfl (l' := #[.val (.int p0), .val (.int p1), .val (.int p2), .val (.int p3), .val (.int (0 : Int32)), .val (.int sh), .val (.int c1), .val (.int c2), .val (.ref s11), .val (.ref la), .val .null, .unset, .unset, .unset]) rfl k) ?_
      refine Out.via (g' := (mkF m 77 #[.val (.int p0), .val (.int p1), .val (.int p2), .val (.int p3), .val (.int (0 : Int32)), .val (.int sh), .val (.int c1), .val (.int c2), .val (.ref s11), .val (.ref la), .val .null, .unset, .unset, .unset] [(.ref s11)])) (fun _ k => XS.aload X2.here hx rfl (hb hby at_75) rfl rfl k) ?_
      refine Out.via (g' := (mkF m 79 #[.val (.int p0), .val (.int p1), .val (.int p2), .val (.int p3), .val (.int (0 : Int32)), .val (.int sh), .val (.int c1), .val (.int c2), .val (.ref s11), .val (.ref la), .val (.ref s11), .unset, .unset, .unset] [])) (fun _ k => XS.astore X2.here hx rfl (hb hby at_77) rfl rfl (l' := #[.val (.int p0), .val (.int p1), .val (.int p2), .val (.int p3), .val (.int (0 : Int32)), .val (.int sh), .val (.int c1), .val (.int c2), .val (.ref s11), .val (.ref la), .val (.ref s11), .unset, .unset, .unset]) rfl k) ?_
      refine Out.via (g' := (mkF m 995 #[.val (.int p0), .val (.int p1), .val (.int p2), .val (.int p3), .val (.int (0 : Int32)), .val (.int sh), .val (.int c1), .val (.int c2), .val (.ref s11), .val (.ref la), .val (.ref s11), .unset, .unset, .unset] [])) (fun _ k => XS.goto X2.here hx rfl (pc0 := 79) (pc' := 995) rfl (hb hby at_79) (by decide) (by decide) k) ?_
      exact own_tail #[.val (.int p0), .val (.int p1), .val (.int p2), .val (.int p3), .val (.int (0 : Int32)), .val (.int sh), .val (.int c1), .val (.int c2), .val (.ref s11), .val (.ref la), .val (.ref s11), .unset, .unset, .unset] la va s11 s12 m11 m12 kv own_T11 G1 (.ref s11) X2 hx hS hk hZ hw hby hml hown Bd.returns Bd.notSynchronized e2 O N0 Sl (by decide) SVA EVA AVA F11 S11 F12 S12 O2 P5 (Or.inl ⟨rfl, rfl⟩) rfl rfl rfl (by decide) (by decide)
    · refine Out.via (g' := (mkF m 82 #[.val (.int p0), .val (.int p1), .val (.int p2), .val (.int p3), .val (.int (0 : Int32)), .val (.int sh), .val (.int c1), .val (.int c2), .val (.ref s11), .unset, .val .null, .unset, .unset, .unset] [])) (fun _ k => XS.ifYes X1.here hx rfl (pc0 := 58) (pc' := 82) rfl (hb hby at_58) rfl ((if0 _ _).trans (feq h0c).2) (by decide) (by decide) k) ?_
      refine Out.via (g' := (mkF m 84 #[.val (.int p0), .val (.int p1), .val (.int p2), .val (.int p3), .val (.int (0 : Int32)), .val (.int sh), .val (.int c1), .val (.int c2), .val (.ref s11), .unset, .val .null, .unset, .unset, .unset] [(.int sh)])) (fun _ k => XS.iload X1.here hx rfl (hb hby at_82) rfl k) ?_
      refine Out.via (g' := (mkF m 85 #[.val (.int p0), .val (.int p1), .val (.int p2), .val (.int p3), .val (.int (0 : Int32)), .val (.int sh), .val (.int c1), .val (.int c2), .val (.ref s11), .unset, .val .null, .unset, .unset, .unset] [(.int (1 : Int32)), (.int sh)])) (fun _ k => XS.iconst X1.here hx rfl (hb hby at_84) k) ?_
      by_cases h1c : sh = (1 : Int32)
      · refine Out.via (g' := (mkF m 88 #[.val (.int p0), .val (.int p1), .val (.int p2), .val (.int p3), .val (.int (0 : Int32)), .val (.int sh), .val (.int c1), .val (.int c2), .val (.ref s11), .unset, .val .null, .unset, .unset, .unset] [])) (fun _ k => XS.icmpNo X1.here hx rfl (hb hby at_85) rfl (teq h1c).2 k) ?_
        refine Out.via (g' := (mkF m 90 #[.val (.int p0), .val (.int p1), .val (.int p2), .val (.int p3), .val (.int (0 : Int32)), .val (.int sh), .val (.int c1), .val (.int c2), .val (.ref s11), .unset, .val .null, .unset, .unset, .unset] [(.int (0 : Int32))])) (fun _ k => XS.iload X1.here hx rfl (hb hby at_88) rfl k) ?_
        refine Out.via (g' := (mkF m 99 #[.val (.int p0), .val (.int p1), .val (.int p2), .val (.int p3), .val (.int (0 : Int32)), .val (.int sh), .val (.int c1), .val (.int c2), .val (.ref s11), .unset, .val .null, .unset, .unset, .unset] [])) (fun _ k => XS.ifYes X1.here hx rfl (pc0 := 90) (pc' := 99) rfl (hb hby at_90) rfl ((if0 _ _).trans (teq (by decide)).1) (by decide) (by decide) k) ?_
        obtain ⟨_, _, ⟨T2, L2, kc2, ks2⟩, -, X2, ⟨Lc2, hQ2, l2, y2, z2⟩, st2⟩ := Jvm.LawKit.callS X1 hx (y := (⟨"com/example/queuebind/queuebind/SoapVersionOfMediaTypePinLaw", "textChars", "()[C"⟩ : MethodName)) hown (mvT hZ (hw _ (List.mem_of_getElem? (i := 87) rfl))) (mvT hZ (hw _ (List.mem_of_getElem? (i := 88) rfl))) (mvT hZ (hw _ (List.mem_of_getElem? (i := 72) rfl))) (mvT hZ (hw _ (List.mem_of_getElem? (i := 89) rfl))) (by decide) (backOf (W := 0) (own_rmT l Z a0 hw [] h0 n0 O) hZ (hw _ (List.mem_of_getElem? (i := 89) rfl)) (hw _ (List.mem_of_getElem? (i := 72) rfl)) (by decide) (by decide)) (g := (mkF m 99 #[.val (.int p0), .val (.int p1), .val (.int p2), .val (.int p3), .val (.int (0 : Int32)), .val (.int sh), .val (.int c1), .val (.int c2), .val (.ref s11), .unset, .val .null, .unset, .unset, .unset] [])) rfl (by rw [hml]; rfl) (argsL := []) (rest := []) (lenOf own_pd10 rfl) rfl (by show 2 * 0 + _ ≤ _; exact Nat.le_of_eq rfl) (hb hby at_99) (fun _ _ => ⟨rfl, e1, (by decide : 0 + 1 ≤ _), (by decide : 0 + 8 ≤ _)⟩)
        dsimp only [Pt.U, Pt.locs, Pt.cells, Pt.slots] at X2 l2 y2 z2 st2 hQ2
        subst l2 y2 z2
        obtain ⟨ca, kca, rfl, Nq2, Kq2, le_ca, V_ca⟩ := hQ2
        replace N0 := Fr.app N0 Nq2
        have g_ca : n0 ≤ ca := Nat.le_trans (own_z0 O) le_ca
        replace hk : _ ≤ T2.heap.size := Nat.le_trans hk Kq2.1
        replace O := O.keep Kq2 all0
        refine Out.via (g' := (mkF m 102 #[.val (.int p0), .val (.int p1), .val (.int p2), .val (.int p3), .val (.int (0 : Int32)), .val (.int sh), .val (.int c1), .val (.int c2), .val (.ref s11), .unset, .val .null, .unset, .unset, .unset] [(.ref ca)])) st2 ?_
        refine Out.via (g' := (mkF m 104 #[.val (.int p0), .val (.int p1), .val (.int p2), .val (.int p3), .val (.int (0 : Int32)), .val (.int sh), .val (.int c1), .val (.int c2), .val (.ref s11), .unset, .val .null, .val (.ref ca), .unset, .unset] [])) (fun _ k => XS.astore X2.here hx rfl (hb hby at_102) rfl rfl (l' := #[.val (.int p0), .val (.int p1), .val (.int p2), .val (.int p3), .val (.int (0 : Int32)), .val (.int sh), .val (.int c1), .val (.int c2), .val (.ref s11), .unset, .val .null, .val (.ref ca), .unset, .unset]) rfl k) ?_
        refine Out.via (g' := (mkF m 105 #[.val (.int p0), .val (.int p1), .val (.int p2), .val (.int p3), .val (.int (0 : Int32)), .val (.int sh), .val (.int c1), .val (.int c2), .val (.ref s11), .unset, .val .null, .val (.ref ca), .unset, .unset] [(.int p2)])) (fun _ k => XS.iloadN X2.here hx rfl (hb hby at_104) rfl k) ?_
        refine Out.via (g' := (mkF m 107 #[.val (.int p0), .val (.int p1), .val (.int p2), .val (.int p3), .val (.int (0 : Int32)), .val (.int sh), .val (.int c1), .val (.int c2), .val (.ref s11), .unset, .val .null, .val (.ref ca), .unset, .unset] [(.int (2147483647 : Int32)), (.int p2)])) (fun _ k => X2.ldcInt hx hown (mvT hZ (hw _ (List.mem_of_getElem? (i := 74) rfl))) (g := (mkF m 105 #[.val (.int p0), .val (.int p1), .val (.int p2), .val (.int p3), .val (.int (0 : Int32)), .val (.int sh), .val (.int c1), .val (.int c2), .val (.ref s11), .unset, .val .null, .val (.ref ca), .unset, .unset] [(.int p2)])) rfl (hb hby at_105) _ k) ?_
        refine Out.via (g' := (mkF m 108 #[.val (.int p0), .val (.int p1), .val (.int p2), .val (.int p3), .val (.int (0 : Int32)), .val (.int sh), .val (.int c1), .val (.int c2), .val (.ref s11), .unset, .val .null, .val (.ref ca), .unset, .unset] [(.int (p2 &&& (2147483647 : Int32)))])) (fun _ k => XS.iand X2.here hx rfl (hb hby at_107) rfl k) ?_
        refine Out.via (g' := (mkF m 110 #[.val (.int p0), .val (.int p1), .val (.int p2), .val (.int p3), .val (.int (0 : Int32)), .val (.int sh), .val (.int c1), .val (.int c2), .val (.ref s11), .unset, .val .null, .val (.ref ca), .unset, .unset] [(.ref ca), (.int (p2 &&& (2147483647 : Int32)))])) (fun _ k => XS.aload X2.here hx rfl (hb hby at_108) rfl rfl k) ?_
        obtain ⟨cl_ca, Ar_ca, q_ca, S_ca, M_ca, H_ca, G_ca⟩ := id V_ca
        refine Out.via (g' := (mkF m 111 #[.val (.int p0), .val (.int p1), .val (.int p2), .val (.int p3), .val (.int (0 : Int32)), .val (.int sh), .val (.int c1), .val (.int c2), .val (.ref s11), .unset, .val .null, .val (.ref ca), .unset, .unset] [(.int cl_ca.slots.size.toInt32), (.int (p2 &&& (2147483647 : Int32)))])) (fun _ k => X2.arraylength hx Ar_ca.1 (State.isArrayOf_alike hZ.alike Ar_ca.2.1) (g := (mkF m 110 #[.val (.int p0), .val (.int p1), .val (.int p2), .val (.int p3), .val (.int (0 : Int32)), .val (.int sh), .val (.int c1), .val (.int c2), .val (.ref s11), .unset, .val .null, .val (.ref ca), .unset, .unset] [(.ref ca), (.int (p2 &&& (2147483647 : Int32)))])) rfl rfl (hb hby at_110) _ k) ?_
        rw [len_of S_ca M_ca]
        refine Out.via (g' := (mkF m 112 #[.val (.int p0), .val (.int p1), .val (.int p2), .val (.int p3), .val (.int (0 : Int32)), .val (.int sh), .val (.int c1), .val (.int c2), .val (.ref s11), .unset, .val .null, .val (.ref ca), .unset, .unset] [(.int ((p2 &&& (2147483647 : Int32)) % (8 : Int32)))])) (fun _ k => iremM (g := (mkF m 111 #[.val (.int p0), .val (.int p1), .val (.int p2), .val (.int p3), .val (.int (0 : Int32)), .val (.int sh), .val (.int c1), .val (.int c2), .val (.ref s11), .unset, .val .null, .val (.ref ca), .unset, .unset] [(.int (8 : Int32)), (.int (p2 &&& (2147483647 : Int32)))])) X2 hx rfl (hb hby at_111) rfl (by decide) k) ?_
        refine Out.via (g' := (mkF m 114 #[.val (.int p0), .val (.int p1), .val (.int p2), .val (.int p3), .val (.int (0 : Int32)), .val (.int sh), .val (.int c1), .val (.int c2), .val (.ref s11), .unset, .val .null, .val (.ref ca), .val (.int ((p2 &&& (2147483647 : Int32)) % (8 : Int32))), .unset] [])) (fun _ k => XS.istore X2.here hx rfl (hb hby at_112) rfl (l' := #[.val (.int p0), .val (.int p1), .val (.int p2), .val (.int p3), .val (.int (0 : Int32)), .val (.int sh), .val (.int c1), .val (.int c2), .val (.ref s11), .unset, .val .null, .val (.ref ca), .val (.int ((p2 &&& (2147483647 : Int32)) % (8 : Int32))), .unset]) rfl k) ?_
        have hpos := own_pos p2 (8 : Int32) 8 rfl (by decide)
        generalize hq_ps : ((p2 &&& (2147483647 : Int32)) % (8 : Int32)) = ps at hpos
        have hi : ps.toNatClampNeg < own_T11.length := own_nat hpos
        refine Out.via (g' := (mkF m 116 #[.val (.int p0), .val (.int p1), .val (.int p2), .val (.int p3), .val (.int (0 : Int32)), .val (.int sh), .val (.int c1), .val (.int c2), .val (.ref s11), .unset, .val .null, .val (.ref ca), .val (.int ps), .unset] [(.ref ca)])) (fun _ k => XS.aload X2.here hx rfl (hb hby at_114) rfl rfl k) ?_
        refine Out.via (g' := (mkF m 118 #[.val (.int p0), .val (.int p1), .val (.int p2), .val (.int p3), .val (.int (0 : Int32)), .val (.int sh), .val (.int c1), .val (.int c2), .val (.ref s11), .unset, .val .null, .val (.ref ca), .val (.int ps), .unset] [(.int ps), (.ref ca)])) (fun _ k => XS.iload X2.here hx rfl (hb hby at_116) rfl k) ?_
        have hin : ¬ (ps < 0 ∨ cl_ca.slots.size ≤ ps.toNatClampNeg) := inb_of S_ca hpos
        refine Out.via (g' := (mkF m 119 #[.val (.int p0), .val (.int p1), .val (.int p2), .val (.int p3), .val (.int (0 : Int32)), .val (.int sh), .val (.int c1), .val (.int c2), .val (.ref s11), .unset, .val .null, .val (.ref ca), .val (.int ps), .unset] [(.int (own_T11.getD ps.toNatClampNeg 0))])) (fun _ k => X2.caload hx (j := ps) (v := (.int (own_T11.getD ps.toNatClampNeg 0))) Ar_ca.1 (State.isArrayOf_alike hZ.alike Ar_ca.2.1) Ar_ca.2.2 hin (H_ca.at hin (own_getD own_T11 _)) (g := (mkF m 118 #[.val (.int p0), .val (.int p1), .val (.int p2), .val (.int p3), .val (.int (0 : Int32)), .val (.int sh), .val (.int c1), .val (.int c2), .val (.ref s11), .unset, .val .null, .val (.ref ca), .val (.int ps), .unset] [(.int ps), (.ref ca)])) rfl rfl (hb hby at_118) _ k) ?_
        refine Out.via (g' := (mkF m 121 #[.val (.int p0), .val (.int p1), .val (.int p2), .val (.int p3), .val (.int (0 : Int32)), .val (.int sh), .val (.int c1), .val (.int c2), .val (.ref s11), .unset, .val .null, .val (.ref ca), .val (.int ps), .val (.int (own_T11.getD ps.toNatClampNeg 0))] [])) (fun _ k => XS.istore X2.here hx rfl (hb hby at_119) rfl (l' := #[.val (.int p0), .val (.int p1), .val (.int p2), .val (.int p3), .val (.int (0 : Int32)), .val (.int sh), .val (.int c1), .val (.int c2), .val (.ref s11), .unset, .val .null, .val (.ref ca), .val (.int ps), .val (.int (own_T11.getD ps.toNatClampNeg 0))]) rfl k) ?_
        refine Out.via (g' := (mkF m 123 #[.val (.int p0), .val (.int p1), .val (.int p2), .val (.int p3), .val (.int (0 : Int32)), .val (.int sh), .val (.int c1), .val (.int c2), .val (.ref s11), .unset, .val .null, .val (.ref ca), .val (.int ps), .val (.int (own_T11.getD ps.toNatClampNeg 0))] [(.ref ca)])) (fun _ k => XS.aload X2.here hx rfl (hb hby at_121) rfl rfl k) ?_
        refine Out.via (g' := (mkF m 125 #[.val (.int p0), .val (.int p1), .val (.int p2), .val (.int p3), .val (.int (0 : Int32)), .val (.int sh), .val (.int c1), .val (.int c2), .val (.ref s11), .unset, .val .null, .val (.ref ca), .val (.int ps), .val (.int (own_T11.getD ps.toNatClampNeg 0))] [(.int ps), (.ref ca)])) (fun _ k => XS.iload X2.here hx rfl (hb hby at_123) rfl k) ?_
        refine Out.via (g' := (mkF m 127 #[.val (.int p0), .val (.int p1), .val (.int p2), .val (.int p3), .val (.int (0 : Int32)), .val (.int sh), .val (.int c1), .val (.int c2), .val (.ref s11), .unset, .val .null, .val (.ref ca), .val (.int ps), .val (.int (own_T11.getD ps.toNatClampNeg 0))] [(.int c1), (.int ps), (.ref ca)])) (fun _ k => XS.iload X2.here hx rfl (hb hby at_125) rfl k) ?_
        have Kf := Keep.refl T2.heap [ca]
        obtain ⟨T3, h3, L3, X3, e3, V_ca, N0, O, Kf, st3⟩ := own_stC X2 hx hZ rfl V_ca (j := ps) hpos ps.toNatClampNeg rfl (by rw [List.length_map]; exact hi) g_ca N0 O Kf (Or.inl (List.mem_of_getElem? (i := 0) rfl)) (g := (mkF m 127 #[.val (.int p0), .val (.int p1), .val (.int p2), .val (.int p3), .val (.int (0 : Int32)), .val (.int sh), .val (.int c1), .val (.int c2), .val (.ref s11), .unset, .val .null, .val (.ref ca), .val (.int ps), .val (.int (own_T11.getD ps.toNatClampNeg 0))] [(.int c1), (.int ps), (.ref ca)])) rfl rfl (hb hby at_127)
        rw [own_lat_nar D_c1, ← List.map_set] at V_ca
        replace hk := Nat.le_trans hk Kf.1
        refine Out.via (g' := (mkF m 128 #[.val (.int p0), .val (.int p1), .val (.int p2), .val (.int p3), .val (.int (0 : Int32)), .val (.int sh), .val (.int c1), .val (.int c2), .val (.ref s11), .unset, .val .null, .val (.ref ca), .val (.int ps), .val (.int (own_T11.getD ps.toNatClampNeg 0))] [])) st3 ?_
        obtain ⟨T4, h4, X4, e4, E4, A4, D4, -, st4⟩ := newO X3 hx hZ hown (hw _ (List.mem_of_getElem? (i := 48) rfl)) (hw _ (List.mem_of_getElem? (i := 5) rfl)) (hw _ (List.mem_of_getElem? (i := 4) rfl)) e3 (g := (mkF m 128 #[.val (.int p0), .val (.int p1), .val (.int p2), .val (.int p3), .val (.int (0 : Int32)), .val (.int sh), .val (.int c1), .val (.int c2), .val (.ref s11), .unset, .val .null, .val (.ref ca), .val (.int ps), .val (.int (own_T11.getD ps.toNatClampNeg 0))] [])) rfl (hb hby at_128) (by decide) (by decide)
        obtain ⟨xs, gq4⟩ : ∃ z, z = h3.size := ⟨_, rfl⟩
        rw [← gq4] at A4 D4 st4
        have ne_ca_xs : ca ≠ xs := Nat.ne_of_lt (Nat.lt_of_lt_of_le V_ca.lt (Nat.le_of_eq gq4.symm))
        have g_xs : n0 ≤ xs := Nat.le_trans (own_z0 O) (Nat.le_of_eq gq4.symm)
        replace V_ca := V_ca.ext E4
        replace O := O.ext E4
        replace hk := Nat.le_trans hk E4.1
        have F_value_xs : Fld Z h4 xs "java/lang/String" "value" "[B" .null := D4 (Or.inr (hw _ (List.mem_of_getElem? (i := 7) rfl))) (ty := (.array .byte)) (by decide)
        have F_coder_xs : Fld Z h4 xs "java/lang/String" "coder" "B" (.int (0 : Int32)) := D4 (Or.inr (hw _ (List.mem_of_getElem? (i := 8) rfl))) (ty := .byte) (by decide)
        refine Out.via (g' := (mkF m 131 #[.val (.int p0), .val (.int p1), .val (.int p2), .val (.int p3), .val (.int (0 : Int32)), .val (.int sh), .val (.int c1), .val (.int c2), .val (.ref s11), .unset, .val .null, .val (.ref ca), .val (.int ps), .val (.int (own_T11.getD ps.toNatClampNeg 0))] [(.ref xs)])) st4 ?_
        refine Out.via (g' := (mkF m 132 #[.val (.int p0), .val (.int p1), .val (.int p2), .val (.int p3), .val (.int (0 : Int32)), .val (.int sh), .val (.int c1), .val (.int c2), .val (.ref s11), .unset, .val .null, .val (.ref ca), .val (.int ps), .val (.int (own_T11.getD ps.toNatClampNeg 0))] [(.ref xs), (.ref xs)])) (fun _ k => XS.dup X4.here hx rfl (hb hby at_131) rfl rfl k) ?_
        refine Out.via (g' := (mkF m 134 #[.val (.int p0), .val (.int p1), .val (.int p2), .val (.int p3), .val (.int (0 : Int32)), .val (.int sh), .val (.int c1), .val (.int c2), .val (.ref s11), .unset, .val .null, .val (.ref ca), .val (.int ps), .val (.int (own_T11.getD ps.toNatClampNeg 0))] [(.ref ca), (.ref xs), (.ref xs)])) (fun _ k => XS.aload X4.here hx rfl (hb hby at_132) rfl rfl k) ?_
        have hp := own_set_lat (i := ps.toNatClampNeg) own_T11_lat D_c1
        obtain ⟨_, _, ⟨T5, L5, kc5, ks5⟩, -, X5, ⟨Lc5, hQ5, l5, y5, z5⟩, st5⟩ := X4.specialBack hx (y := (⟨"java/lang/String", "<init>", "([C)V"⟩ : MethodName)) rfl hown (mvT hZ (hw _ (List.mem_of_getElem? (i := 50) rfl))) (mvT hZ (hw _ (List.mem_of_getElem? (i := 51) rfl))) (mvT hZ (hw _ (List.mem_of_getElem? (i := 52) rfl))) (by decide) (StrChars.Road.backV (W := 1) hZ hws (kI := 4) (hw _ (List.mem_of_getElem? (i := 5) rfl)) (cs := (own_T11.set ps.toNatClampNeg c1)) (bs := (own_T11.set ps.toNatClampNeg c1).map (fun c => c.toInt8.toInt32)) (n := 8) g_xs (own_z0 O) A4 F_value_xs F_coder_xs V_ca (O2.ext O.2) P5 (by rw [List.length_set]; rfl) rfl (by decide) (by decide) hp rfl (by decide) (by decide)) (g := (mkF m 134 #[.val (.int p0), .val (.int p1), .val (.int p2), .val (.int p3), .val (.int (0 : Int32)), .val (.int sh), .val (.int c1), .val (.int c2), .val (.ref s11), .unset, .val .null, .val (.ref ca), .val (.int ps), .val (.int (own_T11.getD ps.toNatClampNeg 0))] [(.ref ca), (.ref xs), (.ref xs)])) rfl (by rw [hml]; rfl) (Steps.refl _) (a := xs) (argsL := [(.ref ca)]) (rest := [(.ref xs)]) (lenOf own_pd11 rfl) rfl (by show 2 * 0 + _ ≤ _; exact Nat.le_of_eq rfl) (hb hby at_134) (fun _ _ => ⟨rfl, e4, (by decide : 2 + 1 ≤ _), (by decide : 12 + 8 ≤ _)⟩)
        dsimp only [Pt.U, Pt.locs, Pt.cells, Pt.slots] at X5 l5 y5 z5 st5 hQ5
        subst l5 y5 z5
        obtain ⟨rfl, Nq5, Kq5, Eq, Cq, tb, kb, ut, vt, wt, Vq, Aq⟩ := hQ5
        replace N0 := Fr.app N0 Nq5
        replace hk : _ ≤ T5.heap.size := Nat.le_trans hk Kq5.1
        replace A4 := A4.keep Kq5
        replace V_ca := V_ca.keep Kq5 (ninS ne_ca_xs nin0)
        replace O := O.keep Kq5 (allS g_xs all0)
        refine Out.to (g' := (mkF m 137 #[.val (.int p0), .val (.int p1), .val (.int p2), .val (.int p3), .val (.int (0 : Int32)), .val (.int sh), .val (.int c1), .val (.int c2), .val (.ref s11), .unset, .val .null, .val (.ref ca), .val (.int ps), .val (.int (own_T11.getD ps.toNatClampNeg 0))] [(.ref xs)])) st5 ?_
        have Sx : own_Str Z T5.heap xs (own_T11.set ps.toNatClampNeg c1) := ⟨hp, Eq, Cq, tb, kb, Vq, (by rw [List.length_set]; exact Aq)⟩
        refine Out.via (g' := (mkF m 139 #[.val (.int p0), .val (.int p1), .val (.int p2), .val (.int p3), .val (.int (0 : Int32)), .val (.int sh), .val (.int c1), .val (.int c2), .val (.ref s11), .val (.ref xs), .val .null, .val (.ref ca), .val (.int ps), .val (.int (own_T11.getD ps.toNatClampNeg 0))] [])) (fun _ k => XS.astore X5.here hx rfl (hb hby at_137) rfl rfl (l' := #[.val (.int p0), .val (.int p1), .val (.int p2), .val (.int p3), .val (.int (0 : Int32)), .val (.int sh), .val (.int c1), .val (.int c2), .val (.ref s11), .val (.ref xs), .val .null, .val (.ref ca), .val (.int ps), .val (.int (own_T11.getD ps.toNatClampNeg 0))]) rfl k) ?_
        refine Out.via (g' := (mkF m 141 #[.val (.int p0), .val (.int p1), .val (.int p2), .val (.int p3), .val (.int (0 : Int32)), .val (.int sh), .val (.int c1), .val (.int c2), .val (.ref s11), .val (.ref xs), .val .null, .val (.ref ca), .val (.int ps), .val (.int (own_T11.getD ps.toNatClampNeg 0))] [(.int c1)])) (fun _ k => XS.iload X5.here hx rfl (hb hby at_139) rfl k) ?_
        refine Out.via (g' := (mkF m 143 #[.val (.int p0), .val (.int p1), .val (.int p2), .val (.int p3), .val (.int (0 : Int32)), .val (.int sh), .val (.int c1), .val (.int c2), .val (.ref s11), .val (.ref xs), .val .null, .val (.ref ca), .val (.int ps), .val (.int (own_T11.getD ps.toNatClampNeg 0))] [(.int (own_T11.getD ps.toNatClampNeg 0)), (.int c1)])) (fun _ k => XS.iload X5.here hx rfl (hb hby at_141) rfl k) ?_
        by_cases hce : c1 = (own_T11.getD ps.toNatClampNeg 0)
        · refine Out.via (g' := (mkF m 146 #[.val (.int p0), .val (.int p1), .val (.int p2), .val (.int p3), .val (.int (0 : Int32)), .val (.int sh), .val (.int c1), .val (.int c2), .val (.ref s11), .val (.ref xs), .val .null, .val (.ref ca), .val (.int ps), .val (.int (own_T11.getD ps.toNatClampNeg 0))] [])) (fun _ k => XS.icmpNo X5.here hx rfl (hb hby at_143) rfl (teq hce).2 k) ?_
          refine Out.via (g' := (mkF m 148 #[.val (.int p0), .val (.int p1), .val (.int p2), .val (.int p3), .val (.int (0 : Int32)), .val (.int sh), .val (.int c1), .val (.int c2), .val (.ref s11), .val (.ref xs), .val .null, .val (.ref ca), .val (.int ps), .val (.int (own_T11.getD ps.toNatClampNeg 0))] [(.ref s11)])) (fun _ k => XS.aload X5.here hx rfl (hb hby at_146) rfl rfl k) ?_
          refine Out.via (g' := (mkF m 152 #[.val (.int p0), .val (.int p1), .val (.int p2), .val (.int p3), .val (.int (0 : Int32)), .val (.int sh), .val (.int c1), .val (.int c2), .val (.ref s11), .val (.ref xs), .val .null, .val (.ref ca), .val (.int ps), .val (.int (own_T11.getD ps.toNatClampNeg 0))] [(.ref s11)])) (fun _ k => XS.goto X5.here hx rfl (pc0 := 148) (pc' := 152) rfl (hb hby at_148) (by decide) (by decide) k) ?_
          refine Out.via (g' := (mkF m 154 #[.val (.int p0), .val (.int p1), .val (.int p2), .val (.int p3), .val (.int (0 : Int32)), .val (.int sh), .val (.int c1), .val (.int c2), .val (.ref s11), .val (.ref xs), .val (.ref s11), .val (.ref ca), .val (.int ps), .val (.int (own_T11.getD ps.toNatClampNeg 0))] [])) (fun _ k => XS.astore X5.here hx rfl (hb hby at_152) rfl rfl (l' := #[.val (.int p0), .val (.int p1), .val (.int p2), .val (.int p3), .val (.int (0 : Int32)), .val (.int sh), .val (.int c1), .val (.int c2), .val (.ref s11), .val (.ref xs), .val (.ref s11), .val (.ref ca), .val (.int ps), .val (.int (own_T11.getD ps.toNatClampNeg 0))]) rfl k) ?_
          refine Out.via (g' := (mkF m 995 #[.val (.int p0), .val (.int p1), .val (.int p2), .val (.int p3), .val (.int (0 : Int32)), .val (.int sh), .val (.int c1), .val (.int c2), .val (.ref s11), .val (.ref xs), .val (.ref s11), .val (.ref ca), .val (.int ps), .val (.int (own_T11.getD ps.toNatClampNeg 0))] [])) (fun _ k => XS.goto X5.here hx rfl (pc0 := 154) (pc' := 995) rfl (hb hby at_154) (by decide) (by decide) k) ?_
          have lS : (own_T11.set ps.toNatClampNeg c1).length ≤ 4000 := by rw [List.length_set]; decide
          exact own_tail #[.val (.int p0), .val (.int p1), .val (.int p2), .val (.int p3), .val (.int (0 : Int32)), .val (.int sh), .val (.int c1), .val (.int c2), .val (.ref s11), .val (.ref xs), .val (.ref s11), .val (.ref ca), .val (.int ps), .val (.int (own_T11.getD ps.toNatClampNeg 0))] xs va s11 s12 m11 m12 kv (own_T11.set ps.toNatClampNeg c1) G1 (.ref s11) X5 hx hS hk hZ hw hby hml hown Bd.returns Bd.notSynchronized rfl O N0 Sx lS SVA EVA AVA F11 S11 F12 S12 O2 P5 (by rw [hce, own_set_same hi]; exact Or.inl ⟨rfl, rfl⟩) rfl rfl rfl (by decide) (by decide)
        · refine Out.via (g' := (mkF m 151 #[.val (.int p0), .val (.int p1), .val (.int p2), .val (.int p3), .val (.int (0 : Int32)), .val (.int sh), .val (.int c1), .val (.int c2), .val (.ref s11), .val (.ref xs), .val .null, .val (.ref ca), .val (.int ps), .val (.int (own_T11.getD ps.toNatClampNeg 0))] [])) (fun _ k => XS.icmpYes X5.here hx rfl (pc0 := 143) (pc' := 151) rfl (hb hby at_143) rfl (feq hce).2 (by decide) (by decide) k) ?_
          refine Out.via (g' := (mkF m 152 #[.val (.int p0), .val (.int p1), .val (.int p2), .val (.int p3), .val (.int (0 : Int32)), .val (.int sh), .val (.int c1), .val (.int c2), .val (.ref s11), .val (.ref xs), .val .null, .val (.ref ca), .val (.int ps), .val (.int (own_T11.getD ps.toNatClampNeg 0))] [.null])) (fun _ k => XS.aconstNull X5.here hx rfl (hb hby at_151) k) ?_
          refine Out.via (g' := (mkF m 154 #[.val (.int p0), .val (.int p1), .val (.int p2), .val (.int p3), .val (.int (0 : Int32)), .val (.int sh), .val (.int c1), .val (.int c2), .val (.ref s11), .val (.ref xs), .val .null, .val (.ref ca), .val (.int ps), .val (.int (own_T11.getD ps.toNatClampNeg 0))] [])) (fun _ k => XS.astore X5.here hx rfl (hb hby at_152) rfl rfl (l' := #[.val (.int p0), .val (.int p1), .val (.int p2), .val (.int p3), .val (.int (0 : Int32)), .val (.int sh), .val (.int c1), .val (.int c2), .val (.ref s11), .val (.ref xs), .val .null, .val (.ref ca), .val (.int ps), .val (.int (own_T11.getD ps.toNatClampNeg 0))]) rfl k) ?_
          refine Out.via (g' := (mkF m 995 #[.val (.int p0), .val (.int p1), .val (.int p2), .val (.int p3), .val (.int (0 : Int32)), .val (.int sh), .val (.int c1), .val (.int c2), .val (.ref s11), .val (.ref xs), .val .null, .val (.ref ca), .val (.int ps), .val (.int (own_T11.getD ps.toNatClampNeg 0))] [])) (fun _ k => XS.goto X5.here hx rfl (pc0 := 154) (pc' := 995) rfl (hb hby at_154) (by decide) (by decide) k) ?_
          have lS : (own_T11.set ps.toNatClampNeg c1).length ≤ 4000 := by rw [List.length_set]; decide
          exact own_tail #[.val (.int p0), .val (.int p1), .val (.int p2), .val (.int p3), .val (.int (0 : Int32)), .val (.int sh), .val (.int c1), .val (.int c2), .val (.ref s11), .val (.ref xs), .val .null, .val (.ref ca), .val (.int ps), .val (.int (own_T11.getD ps.toNatClampNeg 0))] xs va s11 s12 m11 m12 kv (own_T11.set ps.toNatClampNeg c1) G1 .null X5 hx hS hk hZ hw hby hml hown Bd.returns Bd.notSynchronized rfl O N0 Sx lS SVA EVA AVA F11 S11 F12 S12 O2 P5 (Or.inr (Or.inr ⟨own_set_ne hi hce, fun q => absurd (congrArg List.length q) (by rw [List.length_set]; decide), rfl⟩)) rfl rfl rfl (by decide) (by decide)
      · refine Out.via (g' := (mkF m 157 #[.val (.int p0), .val (.int p1), .val (.int p2), .val (.int p3), .val (.int (0 : Int32)), .val (.int sh), .val (.int c1), .val (.int c2), .val (.ref s11), .unset, .val .null, .unset, .unset, .unset] [])) (fun _ k => XS.icmpYes X1.here hx rfl (pc0 := 85) (pc' := 157) rfl (hb hby at_85) rfl (feq h1c).2 (by decide) (by decide) k) ?_
        refine Out.via (g' := (mkF m 159 #[.val (.int p0), .val (.int p1), .val (.int p2), .val (.int p3), .val (.int (0 : Int32)), .val (.int sh), .val (.int c1), .val (.int c2), .val (.ref s11), .unset, .val .null, .unset, .unset, .unset] [(.int sh)])) (fun _ k => XS.iload X1.here hx rfl (hb hby at_157) rfl k) ?_
        refine Out.via (g' := (mkF m 160 #[.val (.int p0), .val (.int p1), .val (.int p2), .val (.int p3), .val (.int (0 : Int32)), .val (.int sh), .val (.int c1), .val (.int c2), .val (.ref s11), .unset, .val .null, .unset, .unset, .unset] [(.int (2 : Int32)), (.int sh)])) (fun _ k => XS.iconst X1.here hx rfl (hb hby at_159) k) ?_
        by_cases h2c : sh = (2 : Int32)
        · refine Out.via (g' := (mkF m 163 #[.val (.int p0), .val (.int p1), .val (.int p2), .val (.int p3), .val (.int (0 : Int32)), .val (.int sh), .val (.int c1), .val (.int c2), .val (.ref s11), .unset, .val .null, .unset, .unset, .unset] [])) (fun _ k => XS.icmpNo X1.here hx rfl (hb hby at_160) rfl (teq h2c).2 k) ?_
          refine Out.via (g' := (mkF m 165 #[.val (.int p0), .val (.int p1), .val (.int p2), .val (.int p3), .val (.int (0 : Int32)), .val (.int sh), .val (.int c1), .val (.int c2), .val (.ref s11), .unset, .val .null, .unset, .unset, .unset] [(.int (0 : Int32))])) (fun _ k => XS.iload X1.here hx rfl (hb hby at_163) rfl k) ?_
          refine Out.via (g' := (mkF m 302 #[.val (.int p0), .val (.int p1), .val (.int p2), .val (.int p3), .val (.int (0 : Int32)), .val (.int sh), .val (.int c1), .val (.int c2), .val (.ref s11), .unset, .val .null, .unset, .unset, .unset] [])) (fun _ k => XS.ifYes X1.here hx rfl (pc0 := 165) (pc' := 302) rfl (hb hby at_165) rfl ((if0 _ _).trans (teq (by decide)).1) (by decide) (by decide) k) ?_
          obtain ⟨T2, h2, X2, e2, E2, A2, D2, -, st2⟩ := newO X1 hx hZ hown (hw _ (List.mem_of_getElem? (i := 48) rfl)) (hw _ (List.mem_of_getElem? (i := 5) rfl)) (hw _ (List.mem_of_getElem? (i := 4) rfl)) e1 (g := (mkF m 302 #[.val (.int p0), .val (.int p1), .val (.int p2), .val (.int p3), .val (.int (0 : Int32)), .val (.int sh), .val (.int c1), .val (.int c2), .val (.ref s11), .unset, .val .null, .unset, .unset, .unset] [])) rfl (hb hby at_302) (by decide) (by decide)
          obtain ⟨xs, gq2⟩ : ∃ z, z = h0.size := ⟨_, rfl⟩
          rw [← gq2] at A2 D2 st2
          have g_xs : n0 ≤ xs := Nat.le_trans (own_z0 O) (Nat.le_of_eq gq2.symm)
          replace O := O.ext E2
          replace hk := Nat.le_trans hk E2.1
          have F_value_xs : Fld Z h2 xs "java/lang/String" "value" "[B" .null := D2 (Or.inr (hw _ (List.mem_of_getElem? (i := 7) rfl))) (ty := (.array .byte)) (by decide)
          have F_coder_xs : Fld Z h2 xs "java/lang/String" "coder" "B" (.int (0 : Int32)) := D2 (Or.inr (hw _ (List.mem_of_getElem? (i := 8) rfl))) (ty := .byte) (by decide)
          refine Out.via (g' := (mkF m 305 #[.val (.int p0), .val (.int p1), .val (.int p2), .val (.int p3), .val (.int (0 : Int32)), .val (.int sh), .val (.int c1), .val (.int c2), .val (.ref s11), .unset, .val .null, .unset, .unset, .unset] [(.ref xs)])) st2 ?_
          refine Out.via (g' := (mkF m 306 #[.val (.int p0), .val (.int p1), .val (.int p2), .val (.int p3), .val (.int (0 : Int32)), .val (.int sh), .val (.int c1), .val (.int c2), .val (.ref s11), .unset, .val .null, .unset, .unset, .unset] [(.ref xs), (.ref xs)])) (fun _ k => XS.dup X2.here hx rfl (hb hby at_305) rfl rfl k) ?_
          refine Out.via (g' := (mkF m 308 #[.val (.int p0), .val (.int p1), .val (.int p2), .val (.int p3), .val (.int (0 : Int32)), .val (.int sh), .val (.int c1), .val (.int c2), .val (.ref s11), .unset, .val .null, .unset, .unset, .unset] [(.int (9 : Int32)), (.ref xs), (.ref xs)])) (fun _ k => XS.bipush X2.here hx rfl (hb hby at_306) k) ?_
          obtain ⟨T3, h3, kA3, X3, e3, E3, A3, st3⟩ := newP X2 hx hZ (hw _ (List.mem_of_getElem? (i := 49) rfl)) e2 (g := (mkF m 308 #[.val (.int p0), .val (.int p1), .val (.int p2), .val (.int p3), .val (.int (0 : Int32)), .val (.int sh), .val (.int c1), .val (.int c2), .val (.ref s11), .unset, .val .null, .unset, .unset, .unset] [(.int (9 : Int32)), (.ref xs), (.ref xs)])) rfl (hb hby at_308) rfl (by decide) (cap := 9) (by decide) (by decide) (by decide) (by decide)
          obtain ⟨ca, gq3⟩ : ∃ z, z = h2.size := ⟨_, rfl⟩
          rw [← gq3] at A3 st3
          have ne_xs_ca : xs ≠ ca := Nat.ne_of_lt (Nat.lt_of_lt_of_le A2.lt (Nat.le_of_eq gq3.symm))
          have g_ca : n0 ≤ ca := Nat.le_trans (own_z0 O) (Nat.le_of_eq gq3.symm)
          replace F_value_xs := F_value_xs.ext E3
          replace F_coder_xs := F_coder_xs.ext E3
          replace A2 := A2.ext E3
          replace O := O.ext E3
          replace hk := Nat.le_trans hk E3.1
          have V_ca : Arv Z h3 ca kA3 .char (9 : Int32) [(.int (0 : Int32)), (.int (0 : Int32)), (.int (0 : Int32)), (.int (0 : Int32)), (.int (0 : Int32)), (.int (0 : Int32)), (.int (0 : Int32)), (.int (0 : Int32)), (.int (0 : Int32))] (.int (0 : Int32)) := (Arv.new A3 (by decide)).pad (pad_rep [] (.int (0 : Int32)) 9)
          refine Out.via (g' := (mkF m 310 #[.val (.int p0), .val (.int p1), .val (.int p2), .val (.int p3), .val (.int (0 : Int32)), .val (.int sh), .val (.int c1), .val (.int c2), .val (.ref s11), .unset, .val .null, .unset, .unset, .unset] [(.ref ca), (.ref xs), (.ref xs)])) st3 ?_
          have Kf4 := Keep.refl h3 [ca]
          refine Out.via (g' := (mkF m 311 #[.val (.int p0), .val (.int p1), .val (.int p2), .val (.int p3), .val (.int (0 : Int32)), .val (.int sh), .val (.int c1), .val (.int c2), .val (.ref s11), .unset, .val .null, .unset, .unset, .unset] [(.ref ca), (.ref ca), (.ref xs), (.ref xs)])) (fun _ k => XS.dup X3.here hx rfl (hb hby at_310) rfl rfl k) ?_
          refine Out.via (g' := (mkF m 312 #[.val (.int p0), .val (.int p1), .val (.int p2), .val (.int p3), .val (.int (0 : Int32)), .val (.int sh), .val (.int c1), .val (.int c2), .val (.ref s11), .unset, .val .null, .unset, .unset, .unset] [(.int (0 : Int32)), (.ref ca), (.ref ca), (.ref xs), (.ref xs)])) (fun _ k => XS.iconst X3.here hx rfl (hb hby at_311) k) ?_
          refine Out.via (g' := (mkF m 314 #[.val (.int p0), .val (.int p1), .val (.int p2), .val (.int p3), .val (.int (0 : Int32)), .val (.int sh), .val (.int c1), .val (.int c2), .val (.ref s11), .unset, .val .null, .unset, .unset, .unset] [(.int (116 : Int32)), (.int (0 : Int32)), (.ref ca), (.ref ca), (.ref xs), (.ref xs)])) (fun _ k => XS.bipush X3.here hx rfl (hb hby at_312) k) ?_
          obtain ⟨T5, h5, L5, X5, e5, V_ca, N0, O, Kf4, st5⟩ := own_stC X3 hx hZ e3 V_ca (j := (0 : Int32)) ⟨by decide, by decide⟩ 0 rfl (Nat.le_of_ble_eq_true rfl) g_ca N0 O Kf4 (Or.inl (List.mem_of_getElem? (i := 0) rfl)) (g := (mkF m 314 #[.val (.int p0), .val (.int p1), .val (.int p2), .val (.int p3), .val (.int (0 : Int32)), .val (.int sh), .val (.int c1), .val (.int c2), .val (.ref s11), .unset, .val .null, .unset, .unset, .unset] [(.int (116 : Int32)), (.int (0 : Int32)), (.ref ca), (.ref ca), (.ref xs), (.ref xs)])) rfl rfl (hb hby at_314)
          refine Out.via (g' := (mkF m 315 #[.val (.int p0), .val (.int p1), .val (.int p2), .val (.int p3), .val (.int (0 : Int32)), .val (.int sh), .val (.int c1), .val (.int c2), .val (.ref s11), .unset, .val .null, .unset, .unset, .unset] [(.ref ca), (.ref xs), (.ref xs)])) st5 ?_
          refine Out.via (g' := (mkF m 316 #[.val (.int p0), .val (.int p1), .val (.int p2), .val (.int p3), .val (.int (0 : Int32)), .val (.int sh), .val (.int c1), .val (.int c2), .val (.ref s11), .unset, .val .null, .unset, .unset, .unset] [(.ref ca), (.ref ca), (.ref xs), (.ref xs)])) (fun _ k => XS.dup X5.here hx rfl (hb hby at_315) rfl rfl k) ?_
          refine Out.via (g' := (mkF m 317 #[.val (.int p0), .val (.int p1), .val (.int p2), .val (.int p3), .val (.int (0 : Int32)), .val (.int sh), .val (.int c1), .val (.int c2), .val (.ref s11), .unset, .val .null, .unset, .unset, .unset] [(.int (1 : Int32)), (.ref ca), (.ref ca), (.ref xs), (.ref xs)])) (fun _ k => XS.iconst X5.here hx rfl (hb hby at_316) k) ?_
          refine Out.via (g' := (mkF m 319 #[.val (.int p0), .val (.int p1), .val (.int p2), .val (.int p3), .val (.int (0 : Int32)), .val (.int sh), .val (.int c1), .val (.int c2), .val (.ref s11), .unset, .val .null, .unset, .unset, .unset] [(.int (101 : Int32)), (.int (1 : Int32)), (.ref ca), (.ref ca), (.ref xs), (.ref xs)])) (fun _ k => XS.bipush X5.here hx rfl (hb hby at_317) k) ?_
          obtain ⟨T6, h6, L6, X6, e6, V_ca, N0, O, Kf4, st6⟩ := own_stC X5 hx hZ e5 V_ca (j := (1 : Int32)) ⟨by decide, by decide⟩ 1 rfl (Nat.le_of_ble_eq_true rfl) g_ca N0 O Kf4 (Or.inl (List.mem_of_getElem? (i := 0) rfl)) (g := (mkF m 319 #[.val (.int p0), .val (.int p1), .val (.int p2), .val (.int p3), .val (.int (0 : Int32)), .val (.int sh), .val (.int c1), .val (.int c2), .val (.ref s11), .unset, .val .null, .unset, .unset, .unset] [(.int (101 : Int32)), (.int (1 : Int32)), (.ref ca), (.ref ca), (.ref xs), (.ref xs)])) rfl rfl (hb hby at_319)
          refine Out.via (g' := (mkF m 320 #[.val (.int p0), .val (.int p1), .val (.int p2), .val (.int p3), .val (.int (0 : Int32)), .val (.int sh), .val (.int c1), .val (.int c2), .val (.ref s11), .unset, .val .null, .unset, .unset, .unset] [(.ref ca), (.ref xs), (.ref xs)])) st6 ?_
          refine Out.via (g' := (mkF m 321 #[.val (.int p0), .val (.int p1), .val (.int p2), .val (.int p3), .val (.int (0 : Int32)), .val (.int sh), .val (.int c1), .val (.int c2), .val (.ref s11), .unset, .val .null, .unset, .unset, .unset] [(.ref ca), (.ref ca), (.ref xs), (.ref xs)])) (fun _ k => XS.dup X6.here hx rfl (hb hby at_320) rfl rfl k) ?_
          refine Out.via (g' := (mkF m 322 #[.val (.int p0), .val (.int p1), .val (.int p2), .val (.int p3), .val (.int (0 : Int32)), .val (.int sh), .val (.int c1), .val (.int c2), .val (.ref s11), .unset, .val .null, .unset, .unset, .unset] [(.int (2 : Int32)), (.ref ca), (.ref ca), (.ref xs), (.ref xs)])) (fun _ k => XS.iconst X6.here hx rfl (hb hby at_321) k) ?_
          refine Out.via (g' := (mkF m 324 #[.val (.int p0), .val (.int p1), .val (.int p2), .val (.int p3), .val (.int (0 : Int32)), .val (.int sh), .val (.int c1), .val (.int c2), .val (.ref s11), .unset, .val .null, .unset, .unset, .unset] [(.int (120 : Int32)), (.int (2 : Int32)), (.ref ca), (.ref ca), (.ref xs), (.ref xs)])) (fun _ k => XS.bipush X6.here hx rfl (hb hby at_322) k) ?_
          obtain ⟨T7, h7, L7, X7, e7, V_ca, N0, O, Kf4, st7⟩ := own_stC X6 hx hZ e6 V_ca (j := (2 : Int32)) ⟨by decide, by decide⟩ 2 rfl (Nat.le_of_ble_eq_true rfl) g_ca N0 O Kf4 (Or.inl (List.mem_of_getElem? (i := 0) rfl)) (g := (mkF m 324 #[.val (.int p0), .val (.int p1), .val (.int p2), .val (.int p3), .val (.int (0 : Int32)), .val (.int sh), .val (.int c1), .val (.int c2), .val (.ref s11), .unset, .val .null, .unset, .unset, .unset] [(.int (120 : Int32)), (.int (2 : Int32)), (.ref ca), (.ref ca), (.ref xs), (.ref xs)])) rfl rfl (hb hby at_324)
          refine Out.via (g' := (mkF m 325 #[.val (.int p0), .val (.int p1), .val (.int p2), .val (.int p3), .val (.int (0 : Int32)), .val (.int sh), .val (.int c1), .val (.int c2), .val (.ref s11), .unset, .val .null, .unset, .unset, .unset] [(.ref ca), (.ref xs), (.ref xs)])) st7 ?_
          refine Out.via (g' := (mkF m 326 #[.val (.int p0), .val (.int p1), .val (.int p2), .val (.int p3), .val (.int (0 : Int32)), .val (.int sh), .val (.int c1), .val (.int c2), .val (.ref s11), .unset, .val .null, .unset, .unset, .unset] [(.ref ca), (.ref ca), (.ref xs), (.ref xs)])) (fun _ k => XS.dup X7.here hx rfl (hb hby at_325) rfl rfl k) ?_
          refine Out.via (g' := (mkF m 327 #[.val (.int p0), .val (.int p1), .val (.int p2), .val (.int p3), .val (.int (0 : Int32)), .val (.int sh), .val (.int c1), .val (.int c2), .val (.ref s11), .unset, .val .null, .unset, .unset, .unset] [(.int (3 : Int32)), (.ref ca), (.ref ca), (.ref xs), (.ref xs)])) (fun _ k => XS.iconst X7.here hx rfl (hb hby at_326) k) ?_
          refine Out.via (g' := (mkF m 329 #[.val (.int p0), .val (.int p1), .val (.int p2), .val (.int p3), .val (.int (0 : Int32)), .val (.int sh), .val (.int c1), .val (.int c2), .val (.ref s11), .unset, .val .null, .unset, .unset, .unset] [(.int (116 : Int32)), (.int (3 : Int32)), (.ref ca), (.ref ca), (.ref xs), (.ref xs)])) (fun _ k => XS.bipush X7.here hx rfl (hb hby at_327) k) ?_
          obtain ⟨T8, h8, L8, X8, e8, V_ca, N0, O, Kf4, st8⟩ := own_stC X7 hx hZ e7 V_ca (j := (3 : Int32)) ⟨by decide, by decide⟩ 3 rfl (Nat.le_of_ble_eq_true rfl) g_ca N0 O Kf4 (Or.inl (List.mem_of_getElem? (i := 0) rfl)) (g := (mkF m 329 #[.val (.int p0), .val (.int p1), .val (.int p2), .val (.int p3), .val (.int (0 : Int32)), .val (.int sh), .val (.int c1), .val (.int c2), .val (.ref s11), .unset, .val .null, .unset, .unset, .unset] [(.int (116 : Int32)), (.int (3 : Int32)), (.ref ca), (.ref ca), (.ref xs), (.ref xs)])) rfl rfl (hb hby at_329)
          refine Out.via (g' := (mkF m 330 #[.val (.int p0), .val (.int p1), .val (.int p2), .val (.int p3), .val (.int (0 : Int32)), .val (.int sh), .val (.int c1), .val (.int c2), .val (.ref s11), .unset, .val .null, .unset, .unset, .unset] [(.ref ca), (.ref xs), (.ref xs)])) st8 ?_
          refine Out.via (g' := (mkF m 331 #[.val (.int p0), .val (.int p1), .val (.int p2), .val (.int p3), .val (.int (0 : Int32)), .val (.int sh), .val (.int c1), .val (.int c2), .val (.ref s11), .unset, .val .null, .unset, .unset, .unset] [(.ref ca), (.ref ca), (.ref xs), (.ref xs)])) (fun _ k => XS.dup X8.here hx rfl (hb hby at_330) rfl rfl k) ?_
          refine Out.via (g' := (mkF m 332 #[.val (.int p0), .val (.int p1), .val (.int p2), .val (.int p3), .val (.int (0 : Int32)), .val (.int sh), .val (.int c1), .val (.int c2), .val (.ref s11), .unset, .val .null, .unset, .unset, .unset] [(.int (4 : Int32)), (.ref ca), (.ref ca), (.ref xs), (.ref xs)])) (fun _ k => XS.iconst X8.here hx rfl (hb hby at_331) k) ?_
          refine Out.via (g' := (mkF m 334 #[.val (.int p0), .val (.int p1), .val (.int p2), .val (.int p3), .val (.int (0 : Int32)), .val (.int sh), .val (.int c1), .val (.int c2), .val (.ref s11), .unset, .val .null, .unset, .unset, .unset] [(.int (47 : Int32)), (.int (4 : Int32)), (.ref ca), (.ref ca), (.ref xs), (.ref xs)])) (fun _ k => XS.bipush X8.here hx rfl (hb hby at_332) k) ?_
          obtain ⟨T9, h9, L9, X9, e9, V_ca, N0, O, Kf4, st9⟩ := own_stC X8 hx hZ e8 V_ca (j := (4 : Int32)) ⟨by decide, by decide⟩ 4 rfl (Nat.le_of_ble_eq_true rfl) g_ca N0 O Kf4 (Or.inl (List.mem_of_getElem? (i := 0) rfl)) (g := (mkF m 334 #[.val (.int p0), .val (.int p1), .val (.int p2), .val (.int p3), .val (.int (0 : Int32)), .val (.int sh), .val (.int c1), .val (.int c2), .val (.ref s11), .unset, .val .null, .unset, .unset, .unset] [(.int (47 : Int32)), (.int (4 : Int32)), (.ref ca), (.ref ca), (.ref xs), (.ref xs)])) rfl rfl (hb hby at_334)
          refine Out.via (g' := (mkF m 335 #[.val (.int p0), .val (.int p1), .val (.int p2), .val (.int p3), .val (.int (0 : Int32)), .val (.int sh), .val (.int c1), .val (.int c2), .val (.ref s11), .unset, .val .null, .unset, .unset, .unset] [(.ref ca), (.ref xs), (.ref xs)])) st9 ?_
          refine Out.via (g' := (mkF m 336 #[.val (.int p0), .val (.int p1), .val (.int p2), .val (.int p3), .val (.int (0 : Int32)), .val (.int sh), .val (.int c1), .val (.int c2), .val (.ref s11), .unset, .val .null, .unset, .unset, .unset] [(.ref ca), (.ref ca), (.ref xs), (.ref xs)])) (fun _ k => XS.dup X9.here hx rfl (hb hby at_335) rfl rfl k) ?_
          refine Out.via (g' := (mkF m 337 #[.val (.int p0), .val (.int p1), .val (.int p2), .val (.int p3), .val (.int (0 : Int32)), .val (.int sh), .val (.int c1), .val (.int c2), .val (.ref s11), .unset, .val .null, .unset, .unset, .unset] [(.int (5 : Int32)), (.ref ca), (.ref ca), (.ref xs), (.ref xs)])) (fun _ k => XS.iconst X9.here hx rfl (hb hby at_336) k) ?_
          refine Out.via (g' := (mkF m 339 #[.val (.int p0), .val (.int p1), .val (.int p2), .val (.int p3), .val (.int (0 : Int32)), .val (.int sh), .val (.int c1), .val (.int c2), .val (.ref s11), .unset, .val .null, .unset, .unset, .unset] [(.int (120 : Int32)), (.int (5 : Int32)), (.ref ca), (.ref ca), (.ref xs), (.ref xs)])) (fun _ k => XS.bipush X9.here hx rfl (hb hby at_337) k) ?_
          obtain ⟨T10, h10, L10, X10, e10, V_ca, N0, O, Kf4, st10⟩ := own_stC X9 hx hZ e9 V_ca (j := (5 : Int32)) ⟨by decide, by decide⟩ 5 rfl (Nat.le_of_ble_eq_true rfl) g_ca N0 O Kf4 (Or.inl (List.mem_of_getElem? (i := 0) rfl)) (g := (mkF m 339 #[.val (.int p0), .val (.int p1), .val (.int p2), .val (.int p3), .val (.int (0 : Int32)), .val (.int sh), .val (.int c1), .val (.int c2), .val (.ref s11), .unset, .val .null, .unset, .unset, .unset] [(.int (120 : Int32)), (.int (5 : Int32)), (.ref ca), (.ref ca), (.ref xs), (.ref xs)])) rfl rfl (hb hby at_339)
          refine Out.via (g' := (mkF m 340 #[.val (.int p0), .val (.int p1), .val (.int p2), .val (.int p3), .val (.int (0 : Int32)), .val (.int sh), .val (.int c1), .val (.int c2), .val (.ref s11), .unset, .val .null, .unset, .unset, .unset] [(.ref ca), (.ref xs), (.ref xs)])) st10 ?_
          refine Out.via (g' := (mkF m 341 #[.val (.int p0), .val (.int p1), .val (.int p2), .val (.int p3), .val (.int (0 : Int32)), .val (.int sh), .val (.int c1), .val (.int c2), .val (.ref s11), .unset, .val .null, .unset, .unset, .unset] [(.ref ca), (.ref ca), (.ref xs), (.ref xs)])) (fun _ k => XS.dup X10.here hx rfl (hb hby at_340) rfl rfl k) ?_
          refine Out.via (g' := (mkF m 343 #[.val (.int p0), .val (.int p1), .val (.int p2), .val (.int p3), .val (.int (0 : Int32)), .val (.int sh), .val (.int c1), .val (.int c2), .val (.ref s11), .unset, .val .null, .unset, .unset, .unset] [(.int (6 : Int32)), (.ref ca), (.ref ca), (.ref xs), (.ref xs)])) (fun _ k => XS.bipush X10.here hx rfl (hb hby at_341) k) ?_
          refine Out.via (g' := (mkF m 345 #[.val (.int p0), .val (.int p1), .val (.int p2), .val (.int p3), .val (.int (0 : Int32)), .val (.int sh), .val (.int c1), .val (.int c2), .val (.ref s11), .unset, .val .null, .unset, .unset, .unset] [(.int (109 : Int32)), (.int (6 : Int32)), (.ref ca), (.ref ca), (.ref xs), (.ref xs)])) (fun _ k => XS.bipush X10.here hx rfl (hb hby at_343) k) ?_
          obtain ⟨T11, h11, L11, X11, e11, V_ca, N0, O, Kf4, st11⟩ := own_stC X10 hx hZ e10 V_ca (j := (6 : Int32)) ⟨by decide, by decide⟩ 6 rfl (Nat.le_of_ble_eq_true rfl) g_ca N0 O Kf4 (Or.inl (List.mem_of_getElem? (i := 0) rfl)) (g := (mkF m 345 #[.val (.int p0), .val (.int p1), .val (.int p2), .val (.int p3), .val (.int (0 : Int32)), .val (.int sh), .val (.int c1), .val (.int c2), .val (.ref s11), .unset, .val .null, .unset, .unset, .unset] [(.int (109 : Int32)), (.int (6 : Int32)), (.ref ca), (.ref ca), (.ref xs), (.ref xs)])) rfl rfl (hb hby at_345)
          refine Out.via (g' := (mkF m 346 #[.val (.int p0), .val (.int p1), .val (.int p2), .val (.int p3), .val (.int (0 : Int32)), .val (.int sh), .val (.int c1), .val (.int c2), .val (.ref s11), .unset, .val .null, .unset, .unset, .unset] [(.ref ca), (.ref xs), (.ref xs)])) st11 ?_
          refine Out.via (g' := (mkF m 347 #[.val (.int p0), .val (.int p1), .val (.int p2), .val (.int p3), .val (.int (0 : Int32)), .val (.int sh), .val (.int c1), .val (.int c2), .val (.ref s11), .unset, .val .null, .unset, .unset, .unset] [(.ref ca), (.ref ca), (.ref xs), (.ref xs)])) (fun _ k => XS.dup X11.here hx rfl (hb hby at_346) rfl rfl k) ?_
          refine Out.via (g' := (mkF m 349 #[.val (.int p0), .val (.int p1), .val (.int p2), .val (.int p3), .val (.int (0 : Int32)), .val (.int sh), .val (.int c1), .val (.int c2), .val (.ref s11), .unset, .val .null, .unset, .unset, .unset] [(.int (7 : Int32)), (.ref ca), (.ref ca), (.ref xs), (.ref xs)])) (fun _ k => XS.bipush X11.here hx rfl (hb hby at_347) k) ?_
          refine Out.via (g' := (mkF m 351 #[.val (.int p0), .val (.int p1), .val (.int p2), .val (.int p3), .val (.int (0 : Int32)), .val (.int sh), .val (.int c1), .val (.int c2), .val (.ref s11), .unset, .val .null, .unset, .unset, .unset] [(.int (108 : Int32)), (.int (7 : Int32)), (.ref ca), (.ref ca), (.ref xs), (.ref xs)])) (fun _ k => XS.bipush X11.here hx rfl (hb hby at_349) k) ?_
          obtain ⟨T12, h12, L12, X12, e12, V_ca, N0, O, Kf4, st12⟩ := own_stC X11 hx hZ e11 V_ca (j := (7 : Int32)) ⟨by decide, by decide⟩ 7 rfl (Nat.le_of_ble_eq_true rfl) g_ca N0 O Kf4 (Or.inl (List.mem_of_getElem? (i := 0) rfl)) (g := (mkF m 351 #[.val (.int p0), .val (.int p1), .val (.int p2), .val (.int p3), .val (.int (0 : Int32)), .val (.int sh), .val (.int c1), .val (.int c2), .val (.ref s11), .unset, .val .null, .unset, .unset, .unset] [(.int (108 : Int32)), (.int (7 : Int32)), (.ref ca), (.ref ca), (.ref xs), (.ref xs)])) rfl rfl (hb hby at_351)
          refine Out.via (g' := (mkF m 352 #[.val (.int p0), .val (.int p1), .val (.int p2), .val (.int p3), .val (.int (0 : Int32)), .val (.int sh), .val (.int c1), .val (.int c2), .val (.ref s11), .unset, .val .null, .unset, .unset, .unset] [(.ref ca), (.ref xs), (.ref xs)])) st12 ?_
          refine Out.via (g' := (mkF m 353 #[.val (.int p0), .val (.int p1), .val (.int p2), .val (.int p3), .val (.int (0 : Int32)), .val (.int sh), .val (.int c1), .val (.int c2), .val (.ref s11), .unset, .val .null, .unset, .unset, .unset] [(.ref ca), (.ref ca), (.ref xs), (.ref xs)])) (fun _ k => XS.dup X12.here hx rfl (hb hby at_352) rfl rfl k) ?_
          refine Out.via (g' := (mkF m 355 #[.val (.int p0), .val (.int p1), .val (.int p2), .val (.int p3), .val (.int (0 : Int32)), .val (.int sh), .val (.int c1), .val (.int c2), .val (.ref s11), .unset, .val .null, .unset, .unset, .unset] [(.int (8 : Int32)), (.ref ca), (.ref ca), (.ref xs), (.ref xs)])) (fun _ k => XS.bipush X12.here hx rfl (hb hby at_353) k) ?_
          refine Out.via (g' := (mkF m 357 #[.val (.int p0), .val (.int p1), .val (.int p2), .val (.int p3), .val (.int (0 : Int32)), .val (.int sh), .val (.int c1), .val (.int c2), .val (.ref s11), .unset, .val .null, .unset, .unset, .unset] [(.int c1), (.int (8 : Int32)), (.ref ca), (.ref ca), (.ref xs), (.ref xs)])) (fun _ k => XS.iload X12.here hx rfl (hb hby at_355) rfl k) ?_
          obtain ⟨T13, h13, L13, X13, e13, V_ca, N0, O, Kf4, st13⟩ := own_stC X12 hx hZ e12 V_ca (j := (8 : Int32)) ⟨by decide, by decide⟩ 8 rfl (Nat.le_of_ble_eq_true rfl) g_ca N0 O Kf4 (Or.inl (List.mem_of_getElem? (i := 0) rfl)) (g := (mkF m 357 #[.val (.int p0), .val (.int p1), .val (.int p2), .val (.int p3), .val (.int (0 : Int32)), .val (.int sh), .val (.int c1), .val (.int c2), .val (.ref s11), .unset, .val .null, .unset, .unset, .unset] [(.int c1), (.int (8 : Int32)), (.ref ca), (.ref ca), (.ref xs), (.ref xs)])) rfl rfl (hb hby at_357)
          refine Out.via (g' := (mkF m 358 #[.val (.int p0), .val (.int p1), .val (.int p2), .val (.int p3), .val (.int (0 : Int32)), .val (.int sh), .val (.int c1), .val (.int c2), .val (.ref s11), .unset, .val .null, .unset, .unset, .unset] [(.ref ca), (.ref xs), (.ref xs)])) st13 ?_
          replace V_ca : Arv Z h13 ca kA3 .char (9 : Int32) [(.int (nar .char (116 : Int32))), (.int (nar .char (101 : Int32))), (.int (nar .char (120 : Int32))), (.int (nar .char (116 : Int32))), (.int (nar .char (47 : Int32))), (.int (nar .char (120 : Int32))), (.int (nar .char (109 : Int32))), (.int (nar .char (108 : Int32))), (.int (nar .char c1))] (.int (0 : Int32)) := V_ca
          replace hk : _ ≤ h13.size := Nat.le_trans hk Kf4.1
          replace F_value_xs := F_value_xs.keep Kf4 (ninS ne_xs_ca nin0)
          replace F_coder_xs := F_coder_xs.keep Kf4 (ninS ne_xs_ca nin0)
          replace A2 := A2.keep Kf4
          have hp : ∀ c ∈ ([(nar .char (116 : Int32)), (nar .char (101 : Int32)), (nar .char (120 : Int32)), (nar .char (116 : Int32)), (nar .char (47 : Int32)), (nar .char (120 : Int32)), (nar .char (109 : Int32)), (nar .char (108 : Int32)), (nar .char c1)] : List Int32), own_lat c := own_allS (by unfold own_lat; decide) (own_allS (by unfold own_lat; decide) (own_allS (by unfold own_lat; decide) (own_allS (by unfold own_lat; decide) (own_allS (by unfold own_lat; decide) (own_allS (by unfold own_lat; decide) (own_allS (by unfold own_lat; decide) (own_allS (by unfold own_lat; decide) (own_allS (by rw [own_lat_nar D_c1]; exact D_c1) (own_all0)))))))))
          obtain ⟨_, _, ⟨T14, L14, kc14, ks14⟩, -, X14, ⟨Lc14, hQ14, l14, y14, z14⟩, st14⟩ := X13.specialBack hx (y := (⟨"java/lang/String", "<init>", "([C)V"⟩ : MethodName)) rfl hown (mvT hZ (hw _ (List.mem_of_getElem? (i := 50) rfl))) (mvT hZ (hw _ (List.mem_of_getElem? (i := 51) rfl))) (mvT hZ (hw _ (List.mem_of_getElem? (i := 52) rfl))) (by decide) (StrChars.Road.backV (W := 1) hZ hws (kI := 4) (hw _ (List.mem_of_getElem? (i := 5) rfl)) (cs := ([(nar .char (116 : Int32)), (nar .char (101 : Int32)), (nar .char (120 : Int32)), (nar .char (116 : Int32)), (nar .char (47 : Int32)), (nar .char (120 : Int32)), (nar .char (109 : Int32)), (nar .char (108 : Int32)), (nar .char c1)] : List Int32)) (bs := ([(nar .char (116 : Int32)), (nar .char (101 : Int32)), (nar .char (120 : Int32)), (nar .char (116 : Int32)), (nar .char (47 : Int32)), (nar .char (120 : Int32)), (nar .char (109 : Int32)), (nar .char (108 : Int32)), (nar .char c1)] : List Int32).map (fun c => c.toInt8.toInt32)) (n := 9) g_xs (own_z0 O) A2 F_value_xs F_coder_xs V_ca (O2.ext O.2) P5 rfl rfl (by decide) (by decide) hp rfl (by decide) (by decide)) (g := (mkF m 358 #[.val (.int p0), .val (.int p1), .val (.int p2), .val (.int p3), .val (.int (0 : Int32)), .val (.int sh), .val (.int c1), .val (.int c2), .val (.ref s11), .unset, .val .null, .unset, .unset, .unset] [(.ref ca), (.ref xs), (.ref xs)])) rfl (by rw [hml]; rfl) (Steps.refl _) (a := xs) (argsL := [(.ref ca)]) (rest := [(.ref xs)]) (lenOf own_pd11 rfl) rfl (by show 2 * 0 + _ ≤ _; exact Nat.le_of_eq rfl) (hb hby at_358) (fun _ _ => ⟨rfl, e13, (by decide : 2 + 1 ≤ _), (by decide : 13 + 9 ≤ _)⟩)
          dsimp only [Pt.U, Pt.locs, Pt.cells, Pt.slots] at X14 l14 y14 z14 st14 hQ14
          subst l14 y14 z14
          obtain ⟨rfl, Nq14, Kq14, Eq, Cq, tb, kb, ut, vt, wt, Vq, Aq⟩ := hQ14
          replace N0 := Fr.app N0 Nq14
          replace hk : _ ≤ T14.heap.size := Nat.le_trans hk Kq14.1
          replace A2 := A2.keep Kq14
          replace V_ca := V_ca.keep Kq14 (ninS (Ne.symm ne_xs_ca) nin0)
          replace O := O.keep Kq14 (allS g_xs all0)
          refine Out.to (g' := (mkF m 361 #[.val (.int p0), .val (.int p1), .val (.int p2), .val (.int p3), .val (.int (0 : Int32)), .val (.int sh), .val (.int c1), .val (.int c2), .val (.ref s11), .unset, .val .null, .unset, .unset, .unset] [(.ref xs)])) st14 ?_
          have Sx : own_Str Z T14.heap xs ([(nar .char (116 : Int32)), (nar .char (101 : Int32)), (nar .char (120 : Int32)), (nar .char (116 : Int32)), (nar .char (47 : Int32)), (nar .char (120 : Int32)), (nar .char (109 : Int32)), (nar .char (108 : Int32)), (nar .char c1)] : List Int32) := ⟨hp, Eq, Cq, tb, kb, Vq, Aq⟩
          refine Out.via (g' := (mkF m 363 #[.val (.int p0), .val (.int p1), .val (.int p2), .val (.int p3), .val (.int (0 : Int32)), .val (.int sh), .val (.int c1), .val (.int c2), .val (.ref s11), .val (.ref xs), .val .null, .unset, .unset, .unset] [])) (fun _ k => XS.astore X14.here hx rfl (hb hby at_361) rfl rfl (l' := #[.val (.int p0), .val (.int p1), .val (.int p2), .val (.int p3), .val (.int (0 : Int32)), .val (.int sh), .val (.int c1), .val (.int c2), .val (.ref s11), .val (.ref xs), .val .null, .unset, .unset, .unset]) rfl k) ?_
          refine Out.via (g' := (mkF m 995 #[.val (.int p0), .val (.int p1), .val (.int p2), .val (.int p3), .val (.int (0 : Int32)), .val (.int sh), .val (.int c1), .val (.int c2), .val (.ref s11), .val (.ref xs), .val .null, .unset, .unset, .unset] [])) (fun _ k => XS.goto X14.here hx rfl (pc0 := 363) (pc' := 995) rfl (hb hby at_363) (by decide) (by decide) k) ?_
          exact own_tail #[.val (.int p0), .val (.int p1), .val (.int p2), .val (.int p3), .val (.int (0 : Int32)), .val (.int sh), .val (.int c1), .val (.int c2), .val (.ref s11), .val (.ref xs), .val .null, .unset, .unset, .unset] xs va s11 s12 m11 m12 kv ([(nar .char (116 : Int32)), (nar .char (101 : Int32)), (nar .char (120 : Int32)), (nar .char (116 : Int32)), (nar .char (47 : Int32)), (nar .char (120 : Int32)), (nar .char (109 : Int32)), (nar .char (108 : Int32)), (nar .char c1)] : List Int32) G1 .null X14 hx hS hk hZ hw hby hml hown Bd.returns Bd.notSynchronized rfl O N0 Sx (Nat.le_of_ble_eq_true rfl) SVA EVA AVA F11 S11 F12 S12 O2 P5 (own_Ans.len (by show 9 ≠ 8; decide) (by show 9 ≠ 20; decide)) rfl rfl rfl (by decide) (by decide)
        · refine Out.via (g' := (mkF m 366 #[.val (.int p0), .val (.int p1), .val (.int p2), .val (.int p3), .val (.int (0 : Int32)), .val (.int sh), .val (.int c1), .val (.int c2), .val (.ref s11), .unset, .val .null, .unset, .unset, .unset] [])) (fun _ k => XS.icmpYes X1.here hx rfl (pc0 := 160) (pc' := 366) rfl (hb hby at_160) rfl (feq h2c).2 (by decide) (by decide) k) ?_
          refine Out.via (g' := (mkF m 368 #[.val (.int p0), .val (.int p1), .val (.int p2), .val (.int p3), .val (.int (0 : Int32)), .val (.int sh), .val (.int c1), .val (.int c2), .val (.ref s11), .unset, .val .null, .unset, .unset, .unset] [(.int sh)])) (fun _ k => XS.iload X1.here hx rfl (hb hby at_366) rfl k) ?_
          refine Out.via (g' := (mkF m 369 #[.val (.int p0), .val (.int p1), .val (.int p2), .val (.int p3), .val (.int (0 : Int32)), .val (.int sh), .val (.int c1), .val (.int c2), .val (.ref s11), .unset, .val .null, .unset, .unset, .unset] [(.int (3 : Int32)), (.int sh)])) (fun _ k => XS.iconst X1.here hx rfl (hb hby at_368) k) ?_
          by_cases h3c : sh = (3 : Int32)
          · refine Out.via (g' := (mkF m 372 #[.val (.int p0), .val (.int p1), .val (.int p2), .val (.int p3), .val (.int (0 : Int32)), .val (.int sh), .val (.int c1), .val (.int c2), .val (.ref s11), .unset, .val .null, .unset, .unset, .unset] [])) (fun _ k => XS.icmpNo X1.here hx rfl (hb hby at_369) rfl (teq h3c).2 k) ?_
            refine Out.via (g' := (mkF m 374 #[.val (.int p0), .val (.int p1), .val (.int p2), .val (.int p3), .val (.int (0 : Int32)), .val (.int sh), .val (.int c1), .val (.int c2), .val (.ref s11), .unset, .val .null, .unset, .unset, .unset] [(.int (0 : Int32))])) (fun _ k => XS.iload X1.here hx rfl (hb hby at_372) rfl k) ?_
            refine Out.via (g' := (mkF m 499 #[.val (.int p0), .val (.int p1), .val (.int p2), .val (.int p3), .val (.int (0 : Int32)), .val (.int sh), .val (.int c1), .val (.int c2), .val (.ref s11), .unset, .val .null, .unset, .unset, .unset] [])) (fun _ k => XS.ifYes X1.here hx rfl (pc0 := 374) (pc' := 499) rfl (hb hby at_374) rfl ((if0 _ _).trans (teq (by decide)).1) (by decide) (by decide) k) ?_
            obtain ⟨T2, h2, X2, e2, E2, A2, D2, -, st2⟩ := newO X1 hx hZ hown (hw _ (List.mem_of_getElem? (i := 48) rfl)) (hw _ (List.mem_of_getElem? (i := 5) rfl)) (hw _ (List.mem_of_getElem? (i := 4) rfl)) e1 (g := (mkF m 499 #[.val (.int p0), .val (.int p1), .val (.int p2), .val (.int p3), .val (.int (0 : Int32)), .val (.int sh), .val (.int c1), .val (.int c2), .val (.ref s11), .unset, .val .null, .unset, .unset, .unset] [])) rfl (hb hby at_499) (by decide) (by decide)
            obtain ⟨xs, gq2⟩ : ∃ z, z = h0.size := ⟨_, rfl⟩
            rw [← gq2] at A2 D2 st2
            have g_xs : n0 ≤ xs := Nat.le_trans (own_z0 O) (Nat.le_of_eq gq2.symm)
            replace O := O.ext E2
            replace hk := Nat.le_trans hk E2.1
            have F_value_xs : Fld Z h2 xs "java/lang/String" "value" "[B" .null := D2 (Or.inr (hw _ (List.mem_of_getElem? (i := 7) rfl))) (ty := (.array .byte)) (by decide)
            have F_coder_xs : Fld Z h2 xs "java/lang/String" "coder" "B" (.int (0 : Int32)) := D2 (Or.inr (hw _ (List.mem_of_getElem? (i := 8) rfl))) (ty := .byte) (by decide)
            refine Out.via (g' := (mkF m 502 #[.val (.int p0), .val (.int p1), .val (.int p2), .val (.int p3), .val (.int (0 : Int32)), .val (.int sh), .val (.int c1), .val (.int c2), .val (.ref s11), .unset, .val .null, .unset, .unset, .unset] [(.ref xs)])) st2 ?_
            refine Out.via (g' := (mkF m 503 #[.val (.int p0), .val (.int p1), .val (.int p2), .val (.int p3), .val (.int (0 : Int32)), .val (.int sh), .val (.int c1), .val (.int c2), .val (.ref s11), .unset, .val .null, .unset, .unset, .unset] [(.ref xs), (.ref xs)])) (fun _ k => XS.dup X2.here hx rfl (hb hby at_502) rfl rfl k) ?_
            refine Out.via (g' := (mkF m 505 #[.val (.int p0), .val (.int p1), .val (.int p2), .val (.int p3), .val (.int (0 : Int32)), .val (.int sh), .val (.int c1), .val (.int c2), .val (.ref s11), .unset, .val .null, .unset, .unset, .unset] [(.int (7 : Int32)), (.ref xs), (.ref xs)])) (fun _ k => XS.bipush X2.here hx rfl (hb hby at_503) k) ?_
            obtain ⟨T3, h3, kA3, X3, e3, E3, A3, st3⟩ := newP X2 hx hZ (hw _ (List.mem_of_getElem? (i := 49) rfl)) e2 (g := (mkF m 505 #[.val (.int p0), .val (.int p1), .val (.int p2), .val (.int p3), .val (.int (0 : Int32)), .val (.int sh), .val (.int c1), .val (.int c2), .val (.ref s11), .unset, .val .null, .unset, .unset, .unset] [(.int (7 : Int32)), (.ref xs), (.ref xs)])) rfl (hb hby at_505) rfl (by decide) (cap := 7) (by decide) (by decide) (by decide) (by decide)
            obtain ⟨ca, gq3⟩ : ∃ z, z = h2.size := ⟨_, rfl⟩
            rw [← gq3] at A3 st3
            have ne_xs_ca : xs ≠ ca := Nat.ne_of_lt (Nat.lt_of_lt_of_le A2.lt (Nat.le_of_eq gq3.symm))
            have g_ca : n0 ≤ ca := Nat.le_trans (own_z0 O) (Nat.le_of_eq gq3.symm)
            replace F_value_xs := F_value_xs.ext E3
            replace F_coder_xs := F_coder_xs.ext E3
            replace A2 := A2.ext E3
            replace O := O.ext E3
            replace hk := Nat.le_trans hk E3.1
            have V_ca : Arv Z h3 ca kA3 .char (7 : Int32) [(.int (0 : Int32)), (.int (0 : Int32)), (.int (0 : Int32)), (.int (0 : Int32)), (.int (0 : Int32)), (.int (0 : Int32)), (.int (0 : Int32))] (.int (0 : Int32)) := (Arv.new A3 (by decide)).pad (pad_rep [] (.int (0 : Int32)) 7)
            refine Out.via (g' := (mkF m 507 #[.val (.int p0), .val (.int p1), .val (.int p2), .val (.int p3), .val (.int (0 : Int32)), .val (.int sh), .val (.int c1), .val (.int c2), .val (.ref s11), .unset, .val .null, .unset, .unset, .unset] [(.ref ca), (.ref xs), (.ref xs)])) st3 ?_
            have Kf4 := Keep.refl h3 [ca]
            refine Out.via (g' := (mkF m 508 #[.val (.int p0), .val (.int p1), .val (.int p2), .val (.int p3), .val (.int (0 : Int32)), .val (.int sh), .val (.int c1), .val (.int c2), .val (.ref s11), .unset, .val .null, .unset, .unset, .unset] [(.ref ca), (.ref ca), (.ref xs), (.ref xs)])) (fun _ k => XS.dup X3.here hx rfl (hb hby at_507) rfl rfl k) ?_
            refine Out.via (g' := (mkF m 509 #[.val (.int p0), .val (.int p1), .val (.int p2), .val (.int p3), .val (.int (0 : Int32)), .val (.int sh), .val (.int c1), .val (.int c2), .val (.ref s11), .unset, .val .null, .unset, .unset, .unset] [(.int (0 : Int32)), (.ref ca), (.ref ca), (.ref xs), (.ref xs)])) (fun _ k => XS.iconst X3.here hx rfl (hb hby at_508) k) ?_
            refine Out.via (g' := (mkF m 511 #[.val (.int p0), .val (.int p1), .val (.int p2), .val (.int p3), .val (.int (0 : Int32)), .val (.int sh), .val (.int c1), .val (.int c2), .val (.ref s11), .unset, .val .null, .unset, .unset, .unset] [(.int (116 : Int32)), (.int (0 : Int32)), (.ref ca), (.ref ca), (.ref xs), (.ref xs)])) (fun _ k => XS.bipush X3.here hx rfl (hb hby at_509) k) ?_
            obtain ⟨T5, h5, L5, X5, e5, V_ca, N0, O, Kf4, st5⟩ := own_stC X3 hx hZ e3 V_ca (j := (0 : Int32)) ⟨by decide, by decide⟩ 0 rfl (Nat.le_of_ble_eq_true rfl) g_ca N0 O Kf4 (Or.inl (List.mem_of_getElem? (i := 0) rfl)) (g := (mkF m 511 #[.val (.int p0), .val (.int p1), .val (.int p2), .val (.int p3), .val (.int (0 : Int32)), .val (.int sh), .val (.int c1), .val (.int c2), .val (.ref s11), .unset, .val .null, .unset, .unset, .unset] [(.int (116 : Int32)), (.int (0 : Int32)), (.ref ca), (.ref ca), (.ref xs), (.ref xs)])) rfl rfl (hb hby at_511)
            refine Out.via (g' := (mkF m 512 #[.val (.int p0), .val (.int p1), .val (.int p2), .val (.int p3), .val (.int (0 : Int32)), .val (.int sh), .val (.int c1), .val (.int c2), .val (.ref s11), .unset, .val .null, .unset, .unset, .unset] [(.ref ca), (.ref xs), (.ref xs)])) st5 ?_
            refine Out.via (g' := (mkF m 513 #[.val (.int p0), .val (.int p1), .val (.int p2), .val (.int p3), .val (.int (0 : Int32)), .val (.int sh), .val (.int c1), .val (.int c2), .val (.ref s11), .unset, .val .null, .unset, .unset, .unset] [(.ref ca), (.ref ca), (.ref xs), (.ref xs)])) (fun _ k => XS.dup X5.here hx rfl (hb hby at_512) rfl rfl k) ?_
            refine Out.via (g' := (mkF m 514 #[.val (.int p0), .val (.int p1), .val (.int p2), .val (.int p3), .val (.int (0 : Int32)), .val (.int sh), .val (.int c1), .val (.int c2), .val (.ref s11), .unset, .val .null, .unset, .unset, .unset] [(.int (1 : Int32)), (.ref ca), (.ref ca), (.ref xs), (.ref xs)])) (fun _ k => XS.iconst X5.here hx rfl (hb hby at_513) k) ?_
            refine Out.via (g' := (mkF m 516 #[.val (.int p0), .val (.int p1), .val (.int p2), .val (.int p3), .val (.int (0 : Int32)), .val (.int sh), .val (.int c1), .val (.int c2), .val (.ref s11), .unset, .val .null, .unset, .unset, .unset] [(.int (101 : Int32)), (.int (1 : Int32)), (.ref ca), (.ref ca), (.ref xs), (.ref xs)])) (fun _ k => XS.bipush X5.here hx rfl (hb hby at_514) k) ?_
            obtain ⟨T6, h6, L6, X6, e6, V_ca, N0, O, Kf4, st6⟩ := own_stC X5 hx hZ e5 V_ca (j := (1 : Int32)) ⟨by decide, by decide⟩ 1 rfl (Nat.le_of_ble_eq_true rfl) g_ca N0 O Kf4 (Or.inl (List.mem_of_getElem? (i := 0) rfl)) (g := (mkF m 516 #[.val (.int p0), .val (.int p1), .val (.int p2), .val (.int p3), .val (.int (0 : Int32)), .val (.int sh), .val (.int c1), .val (.int c2), .val (.ref s11), .unset, .val .null, .unset, .unset, .unset] [(.int (101 : Int32)), (.int (1 : Int32)), (.ref ca), (.ref ca), (.ref xs), (.ref xs)])) rfl rfl (hb hby at_516)
            refine Out.via (g' := (mkF m 517 #[.val (.int p0), .val (.int p1), .val (.int p2), .val (.int p3), .val (.int (0 : Int32)), .val (.int sh), .val (.int c1), .val (.int c2), .val (.ref s11), .unset, .val .null, .unset, .unset, .unset] [(.ref ca), (.ref xs), (.ref xs)])) st6 ?_
            refine Out.via (g' := (mkF m 518 #[.val (.int p0), .val (.int p1), .val (.int p2), .val (.int p3), .val (.int (0 : Int32)), .val (.int sh), .val (.int c1), .val (.int c2), .val (.ref s11), .unset, .val .null, .unset, .unset, .unset] [(.ref ca), (.ref ca), (.ref xs), (.ref xs)])) (fun _ k => XS.dup X6.here hx rfl (hb hby at_517) rfl rfl k) ?_
            refine Out.via (g' := (mkF m 519 #[.val (.int p0), .val (.int p1), .val (.int p2), .val (.int p3), .val (.int (0 : Int32)), .val (.int sh), .val (.int c1), .val (.int c2), .val (.ref s11), .unset, .val .null, .unset, .unset, .unset] [(.int (2 : Int32)), (.ref ca), (.ref ca), (.ref xs), (.ref xs)])) (fun _ k => XS.iconst X6.here hx rfl (hb hby at_518) k) ?_
            refine Out.via (g' := (mkF m 521 #[.val (.int p0), .val (.int p1), .val (.int p2), .val (.int p3), .val (.int (0 : Int32)), .val (.int sh), .val (.int c1), .val (.int c2), .val (.ref s11), .unset, .val .null, .unset, .unset, .unset] [(.int (120 : Int32)), (.int (2 : Int32)), (.ref ca), (.ref ca), (.ref xs), (.ref xs)])) (fun _ k => XS.bipush X6.here hx rfl (hb hby at_519) k) ?_
            obtain ⟨T7, h7, L7, X7, e7, V_ca, N0, O, Kf4, st7⟩ := own_stC X6 hx hZ e6 V_ca (j := (2 : Int32)) ⟨by decide, by decide⟩ 2 rfl (Nat.le_of_ble_eq_true rfl) g_ca N0 O Kf4 (Or.inl (List.mem_of_getElem? (i := 0) rfl)) (g := (mkF m 521 #[.val (.int p0), .val (.int p1), .val (.int p2), .val (.int p3), .val (.int (0 : Int32)), .val (.int sh), .val (.int c1), .val (.int c2), .val (.ref s11), .unset, .val .null, .unset, .unset, .unset] [(.int (120 : Int32)), (.int (2 : Int32)), (.ref ca), (.ref ca), (.ref xs), (.ref xs)])) rfl rfl (hb hby at_521)
            refine Out.via (g' := (mkF m 522 #[.val (.int p0), .val (.int p1), .val (.int p2), .val (.int p3), .val (.int (0 : Int32)), .val (.int sh), .val (.int c1), .val (.int c2), .val (.ref s11), .unset, .val .null, .unset, .unset, .unset] [(.ref ca), (.ref xs), (.ref xs)])) st7 ?_
            refine Out.via (g' := (mkF m 523 #[.val (.int p0), .val (.int p1), .val (.int p2), .val (.int p3), .val (.int (0 : Int32)), .val (.int sh), .val (.int c1), .val (.int c2), .val (.ref s11), .unset, .val .null, .unset, .unset, .unset] [(.ref ca), (.ref ca), (.ref xs), (.ref xs)])) (fun _ k => XS.dup X7.here hx rfl (hb hby at_522) rfl rfl k) ?_
            refine Out.via (g' := (mkF m 524 #[.val (.int p0), .val (.int p1), .val (.int p2), .val (.int p3), .val (.int (0 : Int32)), .val (.int sh), .val (.int c1), .val (.int c2), .val (.ref s11), .unset, .val .null, .unset, .unset, .unset] [(.int (3 : Int32)), (.ref ca), (.ref ca), (.ref xs), (.ref xs)])) (fun _ k => XS.iconst X7.here hx rfl (hb hby at_523) k) ?_
            refine Out.via (g' := (mkF m 526 #[.val (.int p0), .val (.int p1), .val (.int p2), .val (.int p3), .val (.int (0 : Int32)), .val (.int sh), .val (.int c1), .val (.int c2), .val (.ref s11), .unset, .val .null, .unset, .unset, .unset] [(.int (116 : Int32)), (.int (3 : Int32)), (.ref ca), (.ref ca), (.ref xs), (.ref xs)])) (fun _ k => XS.bipush X7.here hx rfl (hb hby at_524) k) ?_
            obtain ⟨T8, h8, L8, X8, e8, V_ca, N0, O, Kf4, st8⟩ := own_stC X7 hx hZ e7 V_ca (j := (3 : Int32)) ⟨by decide, by decide⟩ 3 rfl (Nat.le_of_ble_eq_true rfl) g_ca N0 O Kf4 (Or.inl (List.mem_of_getElem? (i := 0) rfl)) (g := (mkF m 526 #[.val (.int p0), .val (.int p1), .val (.int p2), .val (.int p3), .val (.int (0 : Int32)), .val (.int sh), .val (.int c1), .val (.int c2), .val (.ref s11), .unset, .val .null, .unset, .unset, .unset] [(.int (116 : Int32)), (.int (3 : Int32)), (.ref ca), (.ref ca), (.ref xs), (.ref xs)])) rfl rfl (hb hby at_526)
            refine Out.via (g' := (mkF m 527 #[.val (.int p0), .val (.int p1), .val (.int p2), .val (.int p3), .val (.int (0 : Int32)), .val (.int sh), .val (.int c1), .val (.int c2), .val (.ref s11), .unset, .val .null, .unset, .unset, .unset] [(.ref ca), (.ref xs), (.ref xs)])) st8 ?_
            refine Out.via (g' := (mkF m 528 #[.val (.int p0), .val (.int p1), .val (.int p2), .val (.int p3), .val (.int (0 : Int32)), .val (.int sh), .val (.int c1), .val (.int c2), .val (.ref s11), .unset, .val .null, .unset, .unset, .unset] [(.ref ca), (.ref ca), (.ref xs), (.ref xs)])) (fun _ k => XS.dup X8.here hx rfl (hb hby at_527) rfl rfl k) ?_
            refine Out.via (g' := (mkF m 529 #[.val (.int p0), .val (.int p1), .val (.int p2), .val (.int p3), .val (.int (0 : Int32)), .val (.int sh), .val (.int c1), .val (.int c2), .val (.ref s11), .unset, .val .null, .unset, .unset, .unset] [(.int (4 : Int32)), (.ref ca), (.ref ca), (.ref xs), (.ref xs)])) (fun _ k => XS.iconst X8.here hx rfl (hb hby at_528) k) ?_
            refine Out.via (g' := (mkF m 531 #[.val (.int p0), .val (.int p1), .val (.int p2), .val (.int p3), .val (.int (0 : Int32)), .val (.int sh), .val (.int c1), .val (.int c2), .val (.ref s11), .unset, .val .null, .unset, .unset, .unset] [(.int (47 : Int32)), (.int (4 : Int32)), (.ref ca), (.ref ca), (.ref xs), (.ref xs)])) (fun _ k => XS.bipush X8.here hx rfl (hb hby at_529) k) ?_
            obtain ⟨T9, h9, L9, X9, e9, V_ca, N0, O, Kf4, st9⟩ := own_stC X8 hx hZ e8 V_ca (j := (4 : Int32)) ⟨by decide, by decide⟩ 4 rfl (Nat.le_of_ble_eq_true rfl) g_ca N0 O Kf4 (Or.inl (List.mem_of_getElem? (i := 0) rfl)) (g := (mkF m 531 #[.val (.int p0), .val (.int p1), .val (.int p2), .val (.int p3), .val (.int (0 : Int32)), .val (.int sh), .val (.int c1), .val (.int c2), .val (.ref s11), .unset, .val .null, .unset, .unset, .unset] [(.int (47 : Int32)), (.int (4 : Int32)), (.ref ca), (.ref ca), (.ref xs), (.ref xs)])) rfl rfl (hb hby at_531)
            refine Out.via (g' := (mkF m 532 #[.val (.int p0), .val (.int p1), .val (.int p2), .val (.int p3), .val (.int (0 : Int32)), .val (.int sh), .val (.int c1), .val (.int c2), .val (.ref s11), .unset, .val .null, .unset, .unset, .unset] [(.ref ca), (.ref xs), (.ref xs)])) st9 ?_
            refine Out.via (g' := (mkF m 533 #[.val (.int p0), .val (.int p1), .val (.int p2), .val (.int p3), .val (.int (0 : Int32)), .val (.int sh), .val (.int c1), .val (.int c2), .val (.ref s11), .unset, .val .null, .unset, .unset, .unset] [(.ref ca), (.ref ca), (.ref xs), (.ref xs)])) (fun _ k => XS.dup X9.here hx rfl (hb hby at_532) rfl rfl k) ?_
            refine Out.via (g' := (mkF m 534 #[.val (.int p0), .val (.int p1), .val (.int p2), .val (.int p3), .val (.int (0 : Int32)), .val (.int sh), .val (.int c1), .val (.int c2), .val (.ref s11), .unset, .val .null, .unset, .unset, .unset] [(.int (5 : Int32)), (.ref ca), (.ref ca), (.ref xs), (.ref xs)])) (fun _ k => XS.iconst X9.here hx rfl (hb hby at_533) k) ?_
            refine Out.via (g' := (mkF m 536 #[.val (.int p0), .val (.int p1), .val (.int p2), .val (.int p3), .val (.int (0 : Int32)), .val (.int sh), .val (.int c1), .val (.int c2), .val (.ref s11), .unset, .val .null, .unset, .unset, .unset] [(.int (120 : Int32)), (.int (5 : Int32)), (.ref ca), (.ref ca), (.ref xs), (.ref xs)])) (fun _ k => XS.bipush X9.here hx rfl (hb hby at_534) k) ?_
            obtain ⟨T10, h10, L10, X10, e10, V_ca, N0, O, Kf4, st10⟩ := own_stC X9 hx hZ e9 V_ca (j := (5 : Int32)) ⟨by decide, by decide⟩ 5 rfl (Nat.le_of_ble_eq_true rfl) g_ca N0 O Kf4 (Or.inl (List.mem_of_getElem? (i := 0) rfl)) (g := (mkF m 536 #[.val (.int p0), .val (.int p1), .val (.int p2), .val (.int p3), .val (.int (0 : Int32)), .val (.int sh), .val (.int c1), .val (.int c2), .val (.ref s11), .unset, .val .null, .unset, .unset, .unset] [(.int (120 : Int32)), (.int (5 : Int32)), (.ref ca), (.ref ca), (.ref xs), (.ref xs)])) rfl rfl (hb hby at_536)
            refine Out.via (g' := (mkF m 537 #[.val (.int p0), .val (.int p1), .val (.int p2), .val (.int p3), .val (.int (0 : Int32)), .val (.int sh), .val (.int c1), .val (.int c2), .val (.ref s11), .unset, .val .null, .unset, .unset, .unset] [(.ref ca), (.ref xs), (.ref xs)])) st10 ?_
            refine Out.via (g' := (mkF m 538 #[.val (.int p0), .val (.int p1), .val (.int p2), .val (.int p3), .val (.int (0 : Int32)), .val (.int sh), .val (.int c1), .val (.int c2), .val (.ref s11), .unset, .val .null, .unset, .unset, .unset] [(.ref ca), (.ref ca), (.ref xs), (.ref xs)])) (fun _ k => XS.dup X10.here hx rfl (hb hby at_537) rfl rfl k) ?_
            refine Out.via (g' := (mkF m 540 #[.val (.int p0), .val (.int p1), .val (.int p2), .val (.int p3), .val (.int (0 : Int32)), .val (.int sh), .val (.int c1), .val (.int c2), .val (.ref s11), .unset, .val .null, .unset, .unset, .unset] [(.int (6 : Int32)), (.ref ca), (.ref ca), (.ref xs), (.ref xs)])) (fun _ k => XS.bipush X10.here hx rfl (hb hby at_538) k) ?_
            refine Out.via (g' := (mkF m 542 #[.val (.int p0), .val (.int p1), .val (.int p2), .val (.int p3), .val (.int (0 : Int32)), .val (.int sh), .val (.int c1), .val (.int c2), .val (.ref s11), .unset, .val .null, .unset, .unset, .unset] [(.int (109 : Int32)), (.int (6 : Int32)), (.ref ca), (.ref ca), (.ref xs), (.ref xs)])) (fun _ k => XS.bipush X10.here hx rfl (hb hby at_540) k) ?_
            obtain ⟨T11, h11, L11, X11, e11, V_ca, N0, O, Kf4, st11⟩ := own_stC X10 hx hZ e10 V_ca (j := (6 : Int32)) ⟨by decide, by decide⟩ 6 rfl (Nat.le_of_ble_eq_true rfl) g_ca N0 O Kf4 (Or.inl (List.mem_of_getElem? (i := 0) rfl)) (g := (mkF m 542 #[.val (.int p0), .val (.int p1), .val (.int p2), .val (.int p3), .val (.int (0 : Int32)), .val (.int sh), .val (.int c1), .val (.int c2), .val (.ref s11), .unset, .val .null, .unset, .unset, .unset] [(.int (109 : Int32)), (.int (6 : Int32)), (.ref ca), (.ref ca), (.ref xs), (.ref xs)])) rfl rfl (hb hby at_542)
            refine Out.via (g' := (mkF m 543 #[.val (.int p0), .val (.int p1), .val (.int p2), .val (.int p3), .val (.int (0 : Int32)), .val (.int sh), .val (.int c1), .val (.int c2), .val (.ref s11), .unset, .val .null, .unset, .unset, .unset] [(.ref ca), (.ref xs), (.ref xs)])) st11 ?_
            replace V_ca : Arv Z h11 ca kA3 .char (7 : Int32) [(.int (nar .char (116 : Int32))), (.int (nar .char (101 : Int32))), (.int (nar .char (120 : Int32))), (.int (nar .char (116 : Int32))), (.int (nar .char (47 : Int32))), (.int (nar .char (120 : Int32))), (.int (nar .char (109 : Int32)))] (.int (0 : Int32)) := V_ca
            replace hk : _ ≤ h11.size := Nat.le_trans hk Kf4.1
            replace F_value_xs := F_value_xs.keep Kf4 (ninS ne_xs_ca nin0)
            replace F_coder_xs := F_coder_xs.keep Kf4 (ninS ne_xs_ca nin0)
            replace A2 := A2.keep Kf4
            have hp : ∀ c ∈ ([(nar .char (116 : Int32)), (nar .char (101 : Int32)), (nar .char (120 : Int32)), (nar .char (116 : Int32)), (nar .char (47 : Int32)), (nar .char (120 : Int32)), (nar .char (109 : Int32))] : List Int32), own_lat c := own_allS (by unfold own_lat; decide) (own_allS (by unfold own_lat; decide) (own_allS (by unfold own_lat; decide) (own_allS (by unfold own_lat; decide) (own_allS (by unfold own_lat; decide) (own_allS (by unfold own_lat; decide) (own_allS (by unfold own_lat; decide) (own_all0)))))))
            obtain ⟨_, _, ⟨T12, L12, kc12, ks12⟩, -, X12, ⟨Lc12, hQ12, l12, y12, z12⟩, st12⟩ := X11.specialBack hx (y := (⟨"java/lang/String", "<init>", "([C)V"⟩ : MethodName)) rfl hown (mvT hZ (hw _ (List.mem_of_getElem? (i := 50) rfl))) (mvT hZ (hw _ (List.mem_of_getElem? (i := 51) rfl))) (mvT hZ (hw _ (List.mem_of_getElem? (i := 52) rfl))) (by decide) (StrChars.Road.backV (W := 1) hZ hws (kI := 4) (hw _ (List.mem_of_getElem? (i := 5) rfl)) (cs := ([(nar .char (116 : Int32)), (nar .char (101 : Int32)), (nar .char (120 : Int32)), (nar .char (116 : Int32)), (nar .char (47 : Int32)), (nar .char (120 : Int32)), (nar .char (109 : Int32))] : List Int32)) (bs := ([(nar .char (116 : Int32)), (nar .char (101 : Int32)), (nar .char (120 : Int32)), (nar .char (116 : Int32)), (nar .char (47 : Int32)), (nar .char (120 : Int32)), (nar .char (109 : Int32))] : List Int32).map (fun c => c.toInt8.toInt32)) (n := 7) g_xs (own_z0 O) A2 F_value_xs F_coder_xs V_ca (O2.ext O.2) P5 rfl rfl (by decide) (by decide) hp rfl (by decide) (by decide)) (g := (mkF m 543 #[.val (.int p0), .val (.int p1), .val (.int p2), .val (.int p3), .val (.int (0 : Int32)), .val (.int sh), .val (.int c1), .val (.int c2), .val (.ref s11), .unset, .val .null, .unset, .unset, .unset] [(.ref ca), (.ref xs), (.ref xs)])) rfl (by rw [hml]; rfl) (Steps.refl _) (a := xs) (argsL := [(.ref ca)]) (rest := [(.ref xs)]) (lenOf own_pd11 rfl) rfl (by show 2 * 0 + _ ≤ _; exact Nat.le_of_eq rfl) (hb hby at_543) (fun _ _ => ⟨rfl, e11, (by decide : 2 + 1 ≤ _), (by decide : 11 + 7 ≤ _)⟩)
            dsimp only [Pt.U, Pt.locs, Pt.cells, Pt.slots] at X12 l12 y12 z12 st12 hQ12
            subst l12 y12 z12
            obtain ⟨rfl, Nq12, Kq12, Eq, Cq, tb, kb, ut, vt, wt, Vq, Aq⟩ := hQ12
            replace N0 := Fr.app N0 Nq12
            replace hk : _ ≤ T12.heap.size := Nat.le_trans hk Kq12.1
            replace A2 := A2.keep Kq12
            replace V_ca := V_ca.keep Kq12 (ninS (Ne.symm ne_xs_ca) nin0)
            replace O := O.keep Kq12 (allS g_xs all0)
            refine Out.to (g' := (mkF m 546 #[.val (.int p0), .val (.int p1), .val (.int p2), .val (.int p3), .val (.int (0 : Int32)), .val (.int sh), .val (.int c1), .val (.int c2), .val (.ref s11), .unset, .val .null, .unset, .unset, .unset] [(.ref xs)])) st12 ?_
            have Sx : own_Str Z T12.heap xs ([(nar .char (116 : Int32)), (nar .char (101 : Int32)), (nar .char (120 : Int32)), (nar .char (116 : Int32)), (nar .char (47 : Int32)), (nar .char (120 : Int32)), (nar .char (109 : Int32))] : List Int32) := ⟨hp, Eq, Cq, tb, kb, Vq, Aq⟩
            refine Out.via (g' := (mkF m 548 #[.val (.int p0), .val (.int p1), .val (.int p2), .val (.int p3), .val (.int (0 : Int32)), .val (.int sh), .val (.int c1), .val (.int c2), .val (.ref s11), .val (.ref xs), .val .null, .unset, .unset, .unset] [])) (fun _ k => XS.astore X12.here hx rfl (hb hby at_546) rfl rfl (l' := #[.val (.int p0), .val (.int p1), .val (.int p2), .val (.int p3), .val (.int (0 : Int32)), .val (.int sh), .val (.int c1), .val (.int c2), .val (.ref s11), .val (.ref xs), .val .null, .unset, .unset, .unset]) rfl k) ?_
            refine Out.via (g' := (mkF m 995 #[.val (.int p0), .val (.int p1), .val (.int p2), .val (.int p3), .val (.int (0 : Int32)), .val (.int sh), .val (.int c1), .val (.int c2), .val (.ref s11), .val (.ref xs), .val .null, .unset, .unset, .unset] [])) (fun _ k => XS.goto X12.here hx rfl (pc0 := 548) (pc' := 995) rfl (hb hby at_548) (by decide) (by decide) k) ?_
            exact own_tail #[.val (.int p0), .val (.int p1), .val (.int p2), .val (.int p3), .val (.int (0 : Int32)), .val (.int sh), .val (.int c1), .val (.int c2), .val (.ref s11), .val (.ref xs), .val .null, .unset, .unset, .unset] xs va s11 s12 m11 m12 kv ([(nar .char (116 : Int32)), (nar .char (101 : Int32)), (nar .char (120 : Int32)), (nar .char (116 : Int32)), (nar .char (47 : Int32)), (nar .char (120 : Int32)), (nar .char (109 : Int32))] : List Int32) G1 .null X12 hx hS hk hZ hw hby hml hown Bd.returns Bd.notSynchronized rfl O N0 Sx (Nat.le_of_ble_eq_true rfl) SVA EVA AVA F11 S11 F12 S12 O2 P5 (own_Ans.len (by show 7 ≠ 8; decide) (by show 7 ≠ 20; decide)) rfl rfl rfl (by decide) (by decide)
          · refine Out.via (g' := (mkF m 551 #[.val (.int p0), .val (.int p1), .val (.int p2), .val (.int p3), .val (.int (0 : Int32)), .val (.int sh), .val (.int c1), .val (.int c2), .val (.ref s11), .unset, .val .null, .unset, .unset, .unset] [])) (fun _ k => XS.icmpYes X1.here hx rfl (pc0 := 369) (pc' := 551) rfl (hb hby at_369) rfl (feq h3c).2 (by decide) (by decide) k) ?_
            refine Out.via (g' := (mkF m 553 #[.val (.int p0), .val (.int p1), .val (.int p2), .val (.int p3), .val (.int (0 : Int32)), .val (.int sh), .val (.int c1), .val (.int c2), .val (.ref s11), .unset, .val .null, .unset, .unset, .unset] [(.int sh)])) (fun _ k => XS.iload X1.here hx rfl (hb hby at_551) rfl k) ?_
            refine Out.via (g' := (mkF m 554 #[.val (.int p0), .val (.int p1), .val (.int p2), .val (.int p3), .val (.int (0 : Int32)), .val (.int sh), .val (.int c1), .val (.int c2), .val (.ref s11), .unset, .val .null, .unset, .unset, .unset] [(.int (4 : Int32)), (.int sh)])) (fun _ k => XS.iconst X1.here hx rfl (hb hby at_553) k) ?_
            by_cases h4c : sh = (4 : Int32)
            · refine Out.via (g' := (mkF m 557 #[.val (.int p0), .val (.int p1), .val (.int p2), .val (.int p3), .val (.int (0 : Int32)), .val (.int sh), .val (.int c1), .val (.int c2), .val (.ref s11), .unset, .val .null, .unset, .unset, .unset] [])) (fun _ k => XS.icmpNo X1.here hx rfl (hb hby at_554) rfl (teq h4c).2 k) ?_
              refine Out.via (g' := (mkF m 559 #[.val (.int p0), .val (.int p1), .val (.int p2), .val (.int p3), .val (.int (0 : Int32)), .val (.int sh), .val (.int c1), .val (.int c2), .val (.ref s11), .unset, .val .null, .unset, .unset, .unset] [(.int (0 : Int32))])) (fun _ k => XS.iload X1.here hx rfl (hb hby at_557) rfl k) ?_
              refine Out.via (g' := (mkF m 684 #[.val (.int p0), .val (.int p1), .val (.int p2), .val (.int p3), .val (.int (0 : Int32)), .val (.int sh), .val (.int c1), .val (.int c2), .val (.ref s11), .unset, .val .null, .unset, .unset, .unset] [])) (fun _ k => XS.ifYes X1.here hx rfl (pc0 := 559) (pc' := 684) rfl (hb hby at_559) rfl ((if0 _ _).trans (teq (by decide)).1) (by decide) (by decide) k) ?_
              obtain ⟨T2, h2, X2, e2, E2, A2, D2, -, st2⟩ := newO X1 hx hZ hown (hw _ (List.mem_of_getElem? (i := 48) rfl)) (hw _ (List.mem_of_getElem? (i := 5) rfl)) (hw _ (List.mem_of_getElem? (i := 4) rfl)) e1 (g := (mkF m 684 #[.val (.int p0), .val (.int p1), .val (.int p2), .val (.int p3), .val (.int (0 : Int32)), .val (.int sh), .val (.int c1), .val (.int c2), .val (.ref s11), .unset, .val .null, .unset, .unset, .unset] [])) rfl (hb hby at_684) (by decide) (by decide)
              obtain ⟨xs, gq2⟩ : ∃ z, z = h0.size := ⟨_, rfl⟩
              rw [← gq2] at A2 D2 st2
              have g_xs : n0 ≤ xs := Nat.le_trans (own_z0 O) (Nat.le_of_eq gq2.symm)
              replace O := O.ext E2
              replace hk := Nat.le_trans hk E2.1
              have F_value_xs : Fld Z h2 xs "java/lang/String" "value" "[B" .null := D2 (Or.inr (hw _ (List.mem_of_getElem? (i := 7) rfl))) (ty := (.array .byte)) (by decide)
              have F_coder_xs : Fld Z h2 xs "java/lang/String" "coder" "B" (.int (0 : Int32)) := D2 (Or.inr (hw _ (List.mem_of_getElem? (i := 8) rfl))) (ty := .byte) (by decide)
              refine Out.via (g' := (mkF m 687 #[.val (.int p0), .val (.int p1), .val (.int p2), .val (.int p3), .val (.int (0 : Int32)), .val (.int sh), .val (.int c1), .val (.int c2), .val (.ref s11), .unset, .val .null, .unset, .unset, .unset] [(.ref xs)])) st2 ?_
              refine Out.via (g' := (mkF m 688 #[.val (.int p0), .val (.int p1), .val (.int p2), .val (.int p3), .val (.int (0 : Int32)), .val (.int sh), .val (.int c1), .val (.int c2), .val (.ref s11), .unset, .val .null, .unset, .unset, .unset] [(.ref xs), (.ref xs)])) (fun _ k => XS.dup X2.here hx rfl (hb hby at_687) rfl rfl k) ?_
              refine Out.via (g' := (mkF m 690 #[.val (.int p0), .val (.int p1), .val (.int p2), .val (.int p3), .val (.int (0 : Int32)), .val (.int sh), .val (.int c1), .val (.int c2), .val (.ref s11), .unset, .val .null, .unset, .unset, .unset] [(.int (7 : Int32)), (.ref xs), (.ref xs)])) (fun _ k => XS.bipush X2.here hx rfl (hb hby at_688) k) ?_
              obtain ⟨T3, h3, kA3, X3, e3, E3, A3, st3⟩ := newP X2 hx hZ (hw _ (List.mem_of_getElem? (i := 49) rfl)) e2 (g := (mkF m 690 #[.val (.int p0), .val (.int p1), .val (.int p2), .val (.int p3), .val (.int (0 : Int32)), .val (.int sh), .val (.int c1), .val (.int c2), .val (.ref s11), .unset, .val .null, .unset, .unset, .unset] [(.int (7 : Int32)), (.ref xs), (.ref xs)])) rfl (hb hby at_690) rfl (by decide) (cap := 7) (by decide) (by decide) (by decide) (by decide)
              obtain ⟨ca, gq3⟩ : ∃ z, z = h2.size := ⟨_, rfl⟩
              rw [← gq3] at A3 st3
              have ne_xs_ca : xs ≠ ca := Nat.ne_of_lt (Nat.lt_of_lt_of_le A2.lt (Nat.le_of_eq gq3.symm))
              have g_ca : n0 ≤ ca := Nat.le_trans (own_z0 O) (Nat.le_of_eq gq3.symm)
              replace F_value_xs := F_value_xs.ext E3
              replace F_coder_xs := F_coder_xs.ext E3
              replace A2 := A2.ext E3
              replace O := O.ext E3
              replace hk := Nat.le_trans hk E3.1
              have V_ca : Arv Z h3 ca kA3 .char (7 : Int32) [(.int (0 : Int32)), (.int (0 : Int32)), (.int (0 : Int32)), (.int (0 : Int32)), (.int (0 : Int32)), (.int (0 : Int32)), (.int (0 : Int32))] (.int (0 : Int32)) := (Arv.new A3 (by decide)).pad (pad_rep [] (.int (0 : Int32)) 7)
              refine Out.via (g' := (mkF m 692 #[.val (.int p0), .val (.int p1), .val (.int p2), .val (.int p3), .val (.int (0 : Int32)), .val (.int sh), .val (.int c1), .val (.int c2), .val (.ref s11), .unset, .val .null, .unset, .unset, .unset] [(.ref ca), (.ref xs), (.ref xs)])) st3 ?_
              have Kf4 := Keep.refl h3 [ca]
              refine Out.via (g' := (mkF m 693 #[.val (.int p0), .val (.int p1), .val (.int p2), .val (.int p3), .val (.int (0 : Int32)), .val (.int sh), .val (.int c1), .val (.int c2), .val (.ref s11), .unset, .val .null, .unset, .unset, .unset] [(.ref ca), (.ref ca), (.ref xs), (.ref xs)])) (fun _ k => XS.dup X3.here hx rfl (hb hby at_692) rfl rfl k) ?_
              refine Out.via (g' := (mkF m 694 #[.val (.int p0), .val (.int p1), .val (.int p2), .val (.int p3), .val (.int (0 : Int32)), .val (.int sh), .val (.int c1), .val (.int c2), .val (.ref s11), .unset, .val .null, .unset, .unset, .unset] [(.int (0 : Int32)), (.ref ca), (.ref ca), (.ref xs), (.ref xs)])) (fun _ k => XS.iconst X3.here hx rfl (hb hby at_693) k) ?_
              refine Out.via (g' := (mkF m 696 #[.val (.int p0), .val (.int p1), .val (.int p2), .val (.int p3), .val (.int (0 : Int32)), .val (.int sh), .val (.int c1), .val (.int c2), .val (.ref s11), .unset, .val .null, .unset, .unset, .unset] [(.int (101 : Int32)), (.int (0 : Int32)), (.ref ca), (.ref ca), (.ref xs), (.ref xs)])) (fun _ k => XS.bipush X3.here hx rfl (hb hby at_694) k) ?_
              obtain ⟨T5, h5, L5, X5, e5, V_ca, N0, O, Kf4, st5⟩ := own_stC X3 hx hZ e3 V_ca (j := (0 : Int32)) ⟨by decide, by decide⟩ 0 rfl (Nat.le_of_ble_eq_true rfl) g_ca N0 O Kf4 (Or.inl (List.mem_of_getElem? (i := 0) rfl)) (g := (mkF m 696 #[.val (.int p0), .val (.int p1), .val (.int p2), .val (.int p3), .val (.int (0 : Int32)), .val (.int sh), .val (.int c1), .val (.int c2), .val (.ref s11), .unset, .val .null, .unset, .unset, .unset] [(.int (101 : Int32)), (.int (0 : Int32)), (.ref ca), (.ref ca), (.ref xs), (.ref xs)])) rfl rfl (hb hby at_696)
              refine Out.via (g' := (mkF m 697 #[.val (.int p0), .val (.int p1), .val (.int p2), .val (.int p3), .val (.int (0 : Int32)), .val (.int sh), .val (.int c1), .val (.int c2), .val (.ref s11), .unset, .val .null, .unset, .unset, .unset] [(.ref ca), (.ref xs), (.ref xs)])) st5 ?_
              refine Out.via (g' := (mkF m 698 #[.val (.int p0), .val (.int p1), .val (.int p2), .val (.int p3), .val (.int (0 : Int32)), .val (.int sh), .val (.int c1), .val (.int c2), .val (.ref s11), .unset, .val .null, .unset, .unset, .unset] [(.ref ca), (.ref ca), (.ref xs), (.ref xs)])) (fun _ k => XS.dup X5.here hx rfl (hb hby at_697) rfl rfl k) ?_
              refine Out.via (g' := (mkF m 699 #[.val (.int p0), .val (.int p1), .val (.int p2), .val (.int p3), .val (.int (0 : Int32)), .val (.int sh), .val (.int c1), .val (.int c2), .val (.ref s11), .unset, .val .null, .unset, .unset, .unset] [(.int (1 : Int32)), (.ref ca), (.ref ca), (.ref xs), (.ref xs)])) (fun _ k => XS.iconst X5.here hx rfl (hb hby at_698) k) ?_
              refine Out.via (g' := (mkF m 701 #[.val (.int p0), .val (.int p1), .val (.int p2), .val (.int p3), .val (.int (0 : Int32)), .val (.int sh), .val (.int c1), .val (.int c2), .val (.ref s11), .unset, .val .null, .unset, .unset, .unset] [(.int (120 : Int32)), (.int (1 : Int32)), (.ref ca), (.ref ca), (.ref xs), (.ref xs)])) (fun _ k => XS.bipush X5.here hx rfl (hb hby at_699) k) ?_
              obtain ⟨T6, h6, L6, X6, e6, V_ca, N0, O, Kf4, st6⟩ := own_stC X5 hx hZ e5 V_ca (j := (1 : Int32)) ⟨by decide, by decide⟩ 1 rfl (Nat.le_of_ble_eq_true rfl) g_ca N0 O Kf4 (Or.inl (List.mem_of_getElem? (i := 0) rfl)) (g := (mkF m 701 #[.val (.int p0), .val (.int p1), .val (.int p2), .val (.int p3), .val (.int (0 : Int32)), .val (.int sh), .val (.int c1), .val (.int c2), .val (.ref s11), .unset, .val .null, .unset, .unset, .unset] [(.int (120 : Int32)), (.int (1 : Int32)), (.ref ca), (.ref ca), (.ref xs), (.ref xs)])) rfl rfl (hb hby at_701)
              refine Out.via (g' := (mkF m 702 #[.val (.int p0), .val (.int p1), .val (.int p2), .val (.int p3), .val (.int (0 : Int32)), .val (.int sh), .val (.int c1), .val (.int c2), .val (.ref s11), .unset, .val .null, .unset, .unset, .unset] [(.ref ca), (.ref xs), (.ref xs)])) st6 ?_
              refine Out.via (g' := (mkF m 703 #[.val (.int p0), .val (.int p1), .val (.int p2), .val (.int p3), .val (.int (0 : Int32)), .val (.int sh), .val (.int c1), .val (.int c2), .val (.ref s11), .unset, .val .null, .unset, .unset, .unset] [(.ref ca), (.ref ca), (.ref xs), (.ref xs)])) (fun _ k => XS.dup X6.here hx rfl (hb hby at_702) rfl rfl k) ?_
              refine Out.via (g' := (mkF m 704 #[.val (.int p0), .val (.int p1), .val (.int p2), .val (.int p3), .val (.int (0 : Int32)), .val (.int sh), .val (.int c1), .val (.int c2), .val (.ref s11), .unset, .val .null, .unset, .unset, .unset] [(.int (2 : Int32)), (.ref ca), (.ref ca), (.ref xs), (.ref xs)])) (fun _ k => XS.iconst X6.here hx rfl (hb hby at_703) k) ?_
              refine Out.via (g' := (mkF m 706 #[.val (.int p0), .val (.int p1), .val (.int p2), .val (.int p3), .val (.int (0 : Int32)), .val (.int sh), .val (.int c1), .val (.int c2), .val (.ref s11), .unset, .val .null, .unset, .unset, .unset] [(.int (116 : Int32)), (.int (2 : Int32)), (.ref ca), (.ref ca), (.ref xs), (.ref xs)])) (fun _ k => XS.bipush X6.here hx rfl (hb hby at_704) k) ?_
              obtain ⟨T7, h7, L7, X7, e7, V_ca, N0, O, Kf4, st7⟩ := own_stC X6 hx hZ e6 V_ca (j := (2 : Int32)) ⟨by decide, by decide⟩ 2 rfl (Nat.le_of_ble_eq_true rfl) g_ca N0 O Kf4 (Or.inl (List.mem_of_getElem? (i := 0) rfl)) (g := (mkF m 706 #[.val (.int p0), .val (.int p1), .val (.int p2), .val (.int p3), .val (.int (0 : Int32)), .val (.int sh), .val (.int c1), .val (.int c2), .val (.ref s11), .unset, .val .null, .unset, .unset, .unset] [(.int (116 : Int32)), (.int (2 : Int32)), (.ref ca), (.ref ca), (.ref xs), (.ref xs)])) rfl rfl (hb hby at_706)
              refine Out.via (g' := (mkF m 707 #[.val (.int p0), .val (.int p1), .val (.int p2), .val (.int p3), .val (.int (0 : Int32)), .val (.int sh), .val (.int c1), .val (.int c2), .val (.ref s11), .unset, .val .null, .unset, .unset, .unset] [(.ref ca), (.ref xs), (.ref xs)])) st7 ?_
              refine Out.via (g' := (mkF m 708 #[.val (.int p0), .val (.int p1), .val (.int p2), .val (.int p3), .val (.int (0 : Int32)), .val (.int sh), .val (.int c1), .val (.int c2), .val (.ref s11), .unset, .val .null, .unset, .unset, .unset] [(.ref ca), (.ref ca), (.ref xs), (.ref xs)])) (fun _ k => XS.dup X7.here hx rfl (hb hby at_707) rfl rfl k) ?_
              refine Out.via (g' := (mkF m 709 #[.val (.int p0), .val (.int p1), .val (.int p2), .val (.int p3), .val (.int (0 : Int32)), .val (.int sh), .val (.int c1), .val (.int c2), .val (.ref s11), .unset, .val .null, .unset, .unset, .unset] [(.int (3 : Int32)), (.ref ca), (.ref ca), (.ref xs), (.ref xs)])) (fun _ k => XS.iconst X7.here hx rfl (hb hby at_708) k) ?_
              refine Out.via (g' := (mkF m 711 #[.val (.int p0), .val (.int p1), .val (.int p2), .val (.int p3), .val (.int (0 : Int32)), .val (.int sh), .val (.int c1), .val (.int c2), .val (.ref s11), .unset, .val .null, .unset, .unset, .unset] [(.int (47 : Int32)), (.int (3 : Int32)), (.ref ca), (.ref ca), (.ref xs), (.ref xs)])) (fun _ k => XS.bipush X7.here hx rfl (hb hby at_709) k) ?_
              obtain ⟨T8, h8, L8, X8, e8, V_ca, N0, O, Kf4, st8⟩ := own_stC X7 hx hZ e7 V_ca (j := (3 : Int32)) ⟨by decide, by decide⟩ 3 rfl (Nat.le_of_ble_eq_true rfl) g_ca N0 O Kf4 (Or.inl (List.mem_of_getElem? (i := 0) rfl)) (g := (mkF m 711 #[.val (.int p0), .val (.int p1), .val (.int p2), .val (.int p3), .val (.int (0 : Int32)), .val (.int sh), .val (.int c1), .val (.int c2), .val (.ref s11), .unset, .val .null, .unset, .unset, .unset] [(.int (47 : Int32)), (.int (3 : Int32)), (.ref ca), (.ref ca), (.ref xs), (.ref xs)])) rfl rfl (hb hby at_711)
              refine Out.via (g' := (mkF m 712 #[.val (.int p0), .val (.int p1), .val (.int p2), .val (.int p3), .val (.int (0 : Int32)), .val (.int sh), .val (.int c1), .val (.int c2), .val (.ref s11), .unset, .val .null, .unset, .unset, .unset] [(.ref ca), (.ref xs), (.ref xs)])) st8 ?_
              refine Out.via (g' := (mkF m 713 #[.val (.int p0), .val (.int p1), .val (.int p2), .val (.int p3), .val (.int (0 : Int32)), .val (.int sh), .val (.int c1), .val (.int c2), .val (.ref s11), .unset, .val .null, .unset, .unset, .unset] [(.ref ca), (.ref ca), (.ref xs), (.ref xs)])) (fun _ k => XS.dup X8.here hx rfl (hb hby at_712) rfl rfl k) ?_
              refine Out.via (g' := (mkF m 714 #[.val (.int p0), .val (.int p1), .val (.int p2), .val (.int p3), .val (.int (0 : Int32)), .val (.int sh), .val (.int c1), .val (.int c2), .val (.ref s11), .unset, .val .null, .unset, .unset, .unset] [(.int (4 : Int32)), (.ref ca), (.ref ca), (.ref xs), (.ref xs)])) (fun _ k => XS.iconst X8.here hx rfl (hb hby at_713) k) ?_
              refine Out.via (g' := (mkF m 716 #[.val (.int p0), .val (.int p1), .val (.int p2), .val (.int p3), .val (.int (0 : Int32)), .val (.int sh), .val (.int c1), .val (.int c2), .val (.ref s11), .unset, .val .null, .unset, .unset, .unset] [(.int (120 : Int32)), (.int (4 : Int32)), (.ref ca), (.ref ca), (.ref xs), (.ref xs)])) (fun _ k => XS.bipush X8.here hx rfl (hb hby at_714) k) ?_
              obtain ⟨T9, h9, L9, X9, e9, V_ca, N0, O, Kf4, st9⟩ := own_stC X8 hx hZ e8 V_ca (j := (4 : Int32)) ⟨by decide, by decide⟩ 4 rfl (Nat.le_of_ble_eq_true rfl) g_ca N0 O Kf4 (Or.inl (List.mem_of_getElem? (i := 0) rfl)) (g := (mkF m 716 #[.val (.int p0), .val (.int p1), .val (.int p2), .val (.int p3), .val (.int (0 : Int32)), .val (.int sh), .val (.int c1), .val (.int c2), .val (.ref s11), .unset, .val .null, .unset, .unset, .unset] [(.int (120 : Int32)), (.int (4 : Int32)), (.ref ca), (.ref ca), (.ref xs), (.ref xs)])) rfl rfl (hb hby at_716)
              refine Out.via (g' := (mkF m 717 #[.val (.int p0), .val (.int p1), .val (.int p2), .val (.int p3), .val (.int (0 : Int32)), .val (.int sh), .val (.int c1), .val (.int c2), .val (.ref s11), .unset, .val .null, .unset, .unset, .unset] [(.ref ca), (.ref xs), (.ref xs)])) st9 ?_
              refine Out.via (g' := (mkF m 718 #[.val (.int p0), .val (.int p1), .val (.int p2), .val (.int p3), .val (.int (0 : Int32)), .val (.int sh), .val (.int c1), .val (.int c2), .val (.ref s11), .unset, .val .null, .unset, .unset, .unset] [(.ref ca), (.ref ca), (.ref xs), (.ref xs)])) (fun _ k => XS.dup X9.here hx rfl (hb hby at_717) rfl rfl k) ?_
              refine Out.via (g' := (mkF m 719 #[.val (.int p0), .val (.int p1), .val (.int p2), .val (.int p3), .val (.int (0 : Int32)), .val (.int sh), .val (.int c1), .val (.int c2), .val (.ref s11), .unset, .val .null, .unset, .unset, .unset] [(.int (5 : Int32)), (.ref ca), (.ref ca), (.ref xs), (.ref xs)])) (fun _ k => XS.iconst X9.here hx rfl (hb hby at_718) k) ?_
              refine Out.via (g' := (mkF m 721 #[.val (.int p0), .val (.int p1), .val (.int p2), .val (.int p3), .val (.int (0 : Int32)), .val (.int sh), .val (.int c1), .val (.int c2), .val (.ref s11), .unset, .val .null, .unset, .unset, .unset] [(.int (109 : Int32)), (.int (5 : Int32)), (.ref ca), (.ref ca), (.ref xs), (.ref xs)])) (fun _ k => XS.bipush X9.here hx rfl (hb hby at_719) k) ?_
              obtain ⟨T10, h10, L10, X10, e10, V_ca, N0, O, Kf4, st10⟩ := own_stC X9 hx hZ e9 V_ca (j := (5 : Int32)) ⟨by decide, by decide⟩ 5 rfl (Nat.le_of_ble_eq_true rfl) g_ca N0 O Kf4 (Or.inl (List.mem_of_getElem? (i := 0) rfl)) (g := (mkF m 721 #[.val (.int p0), .val (.int p1), .val (.int p2), .val (.int p3), .val (.int (0 : Int32)), .val (.int sh), .val (.int c1), .val (.int c2), .val (.ref s11), .unset, .val .null, .unset, .unset, .unset] [(.int (109 : Int32)), (.int (5 : Int32)), (.ref ca), (.ref ca), (.ref xs), (.ref xs)])) rfl rfl (hb hby at_721)
              refine Out.via (g' := (mkF m 722 #[.val (.int p0), .val (.int p1), .val (.int p2), .val (.int p3), .val (.int (0 : Int32)), .val (.int sh), .val (.int c1), .val (.int c2), .val (.ref s11), .unset, .val .null, .unset, .unset, .unset] [(.ref ca), (.ref xs), (.ref xs)])) st10 ?_
              refine Out.via (g' := (mkF m 723 #[.val (.int p0), .val (.int p1), .val (.int p2), .val (.int p3), .val (.int (0 : Int32)), .val (.int sh), .val (.int c1), .val (.int c2), .val (.ref s11), .unset, .val .null, .unset, .unset, .unset] [(.ref ca), (.ref ca), (.ref xs), (.ref xs)])) (fun _ k => XS.dup X10.here hx rfl (hb hby at_722) rfl rfl k) ?_
              refine Out.via (g' := (mkF m 725 #[.val (.int p0), .val (.int p1), .val (.int p2), .val (.int p3), .val (.int (0 : Int32)), .val (.int sh), .val (.int c1), .val (.int c2), .val (.ref s11), .unset, .val .null, .unset, .unset, .unset] [(.int (6 : Int32)), (.ref ca), (.ref ca), (.ref xs), (.ref xs)])) (fun _ k => XS.bipush X10.here hx rfl (hb hby at_723) k) ?_
              refine Out.via (g' := (mkF m 727 #[.val (.int p0), .val (.int p1), .val (.int p2), .val (.int p3), .val (.int (0 : Int32)), .val (.int sh), .val (.int c1), .val (.int c2), .val (.ref s11), .unset, .val .null, .unset, .unset, .unset] [(.int (108 : Int32)), (.int (6 : Int32)), (.ref ca), (.ref ca), (.ref xs), (.ref xs)])) (fun _ k => XS.bipush X10.here hx rfl (hb hby at_725) k) ?_
              obtain ⟨T11, h11, L11, X11, e11, V_ca, N0, O, Kf4, st11⟩ := own_stC X10 hx hZ e10 V_ca (j := (6 : Int32)) ⟨by decide, by decide⟩ 6 rfl (Nat.le_of_ble_eq_true rfl) g_ca N0 O Kf4 (Or.inl (List.mem_of_getElem? (i := 0) rfl)) (g := (mkF m 727 #[.val (.int p0), .val (.int p1), .val (.int p2), .val (.int p3), .val (.int (0 : Int32)), .val (.int sh), .val (.int c1), .val (.int c2), .val (.ref s11), .unset, .val .null, .unset, .unset, .unset] [(.int (108 : Int32)), (.int (6 : Int32)), (.ref ca), (.ref ca), (.ref xs), (.ref xs)])) rfl rfl (hb hby at_727)
              refine Out.via (g' := (mkF m 728 #[.val (.int p0), .val (.int p1), .val (.int p2), .val (.int p3), .val (.int (0 : Int32)), .val (.int sh), .val (.int c1), .val (.int c2), .val (.ref s11), .unset, .val .null, .unset, .unset, .unset] [(.ref ca), (.ref xs), (.ref xs)])) st11 ?_
              replace V_ca : Arv Z h11 ca kA3 .char (7 : Int32) [(.int (nar .char (101 : Int32))), (.int (nar .char (120 : Int32))), (.int (nar .char (116 : Int32))), (.int (nar .char (47 : Int32))), (.int (nar .char (120 : Int32))), (.int (nar .char (109 : Int32))), (.int (nar .char (108 : Int32)))] (.int (0 : Int32)) := V_ca
              replace hk : _ ≤ h11.size := Nat.le_trans hk Kf4.1
              replace F_value_xs := F_value_xs.keep Kf4 (ninS ne_xs_ca nin0)
              replace F_coder_xs := F_coder_xs.keep Kf4 (ninS ne_xs_ca nin0)
              replace A2 := A2.keep Kf4
              have hp : ∀ c ∈ ([(nar .char (101 : Int32)), (nar .char (120 : Int32)), (nar .char (116 : Int32)), (nar .char (47 : Int32)), (nar .char (120 : Int32)), (nar .char (109 : Int32)), (nar .char (108 : Int32))] : List Int32), own_lat c := own_allS (by unfold own_lat; decide) (own_allS (by unfold own_lat; decide) (own_allS (by unfold own_lat; decide) (own_allS (by unfold own_lat; decide) (own_allS (by unfold own_lat; decide) (own_allS (by unfold own_lat; decide) (own_allS (by unfold own_lat; decide) (own_all0)))))))
              obtain ⟨_, _, ⟨T12, L12, kc12, ks12⟩, -, X12, ⟨Lc12, hQ12, l12, y12, z12⟩, st12⟩ := X11.specialBack hx (y := (⟨"java/lang/String", "<init>", "([C)V"⟩ : MethodName)) rfl hown (mvT hZ (hw _ (List.mem_of_getElem? (i := 50) rfl))) (mvT hZ (hw _ (List.mem_of_getElem? (i := 51) rfl))) (mvT hZ (hw _ (List.mem_of_getElem? (i := 52) rfl))) (by decide) (StrChars.Road.backV (W := 1) hZ hws (kI := 4) (hw _ (List.mem_of_getElem? (i := 5) rfl)) (cs := ([(nar .char (101 : Int32)), (nar .char (120 : Int32)), (nar .char (116 : Int32)), (nar .char (47 : Int32)), (nar .char (120 : Int32)), (nar .char (109 : Int32)), (nar .char (108 : Int32))] : List Int32)) (bs := ([(nar .char (101 : Int32)), (nar .char (120 : Int32)), (nar .char (116 : Int32)), (nar .char (47 : Int32)), (nar .char (120 : Int32)), (nar .char (109 : Int32)), (nar .char (108 : Int32))] : List Int32).map (fun c => c.toInt8.toInt32)) (n := 7) g_xs (own_z0 O) A2 F_value_xs F_coder_xs V_ca (O2.ext O.2) P5 rfl rfl (by decide) (by decide) hp rfl (by decide) (by decide)) (g := (mkF m 728 #[.val (.int p0), .val (.int p1), .val (.int p2), .val (.int p3), .val (.int (0 : Int32)), .val (.int sh), .val (.int c1), .val (.int c2), .val (.ref s11), .unset, .val .null, .unset, .unset, .unset] [(.ref ca), (.ref xs), (.ref xs)])) rfl (by rw [hml]; rfl) (Steps.refl _) (a := xs) (argsL := [(.ref ca)]) (rest := [(.ref xs)]) (lenOf own_pd11 rfl) rfl (by show 2 * 0 + _ ≤ _; exact Nat.le_of_eq rfl) (hb hby at_728) (fun _ _ => ⟨rfl, e11, (by decide : 2 + 1 ≤ _), (by decide : 11 + 7 ≤ _)⟩)
              dsimp only [Pt.U, Pt.locs, Pt.cells, Pt.slots] at X12 l12 y12 z12 st12 hQ12
              subst l12 y12 z12
              obtain ⟨rfl, Nq12, Kq12, Eq, Cq, tb, kb, ut, vt, wt, Vq, Aq⟩ := hQ12
              replace N0 := Fr.app N0 Nq12
              replace hk : _ ≤ T12.heap.size := Nat.le_trans hk Kq12.1
              replace A2 := A2.keep Kq12
              replace V_ca := V_ca.keep Kq12 (ninS (Ne.symm ne_xs_ca) nin0)
              replace O := O.keep Kq12 (allS g_xs all0)
              refine Out.to (g' := (mkF m 731 #[.val (.int p0), .val (.int p1), .val (.int p2), .val (.int p3), .val (.int (0 : Int32)), .val (.int sh), .val (.int c1), .val (.int c2), .val (.ref s11), .unset, .val .null, .unset, .unset, .unset] [(.ref xs)])) st12 ?_
              have Sx : own_Str Z T12.heap xs ([(nar .char (101 : Int32)), (nar .char (120 : Int32)), (nar .char (116 : Int32)), (nar .char (47 : Int32)), (nar .char (120 : Int32)), (nar .char (109 : Int32)), (nar .char (108 : Int32))] : List Int32) := ⟨hp, Eq, Cq, tb, kb, Vq, Aq⟩
              refine Out.via (g' := (mkF m 733 #[.val (.int p0), .val (.int p1), .val (.int p2), .val (.int p3), .val (.int (0 : Int32)), .val (.int sh), .val (.int c1), .val (.int c2), .val (.ref s11), .val (.ref xs), .val .null, .unset, .unset, .unset] [])) (fun _ k => XS.astore X12.here hx rfl (hb hby at_731) rfl rfl (l' := #[.val (.int p0), .val (.int p1), .val (.int p2), .val (.int p3), .val (.int (0 : Int32)), .val (.int sh), .val (.int c1), .val (.int c2), .val (.ref s11), .val (.ref xs), .val .null, .unset, .unset, .unset]) rfl k) ?_
              refine Out.via (g' := (mkF m 995 #[.val (.int p0), .val (.int p1), .val (.int p2), .val (.int p3), .val (.int (0 : Int32)), .val (.int sh), .val (.int c1), .val (.int c2), .val (.ref s11), .val (.ref xs), .val .null, .unset, .unset, .unset] [])) (fun _ k => XS.goto X12.here hx rfl (pc0 := 733) (pc' := 995) rfl (hb hby at_733) (by decide) (by decide) k) ?_
              exact own_tail #[.val (.int p0), .val (.int p1), .val (.int p2), .val (.int p3), .val (.int (0 : Int32)), .val (.int sh), .val (.int c1), .val (.int c2), .val (.ref s11), .val (.ref xs), .val .null, .unset, .unset, .unset] xs va s11 s12 m11 m12 kv ([(nar .char (101 : Int32)), (nar .char (120 : Int32)), (nar .char (116 : Int32)), (nar .char (47 : Int32)), (nar .char (120 : Int32)), (nar .char (109 : Int32)), (nar .char (108 : Int32))] : List Int32) G1 .null X12 hx hS hk hZ hw hby hml hown Bd.returns Bd.notSynchronized rfl O N0 Sx (Nat.le_of_ble_eq_true rfl) SVA EVA AVA F11 S11 F12 S12 O2 P5 (own_Ans.len (by show 7 ≠ 8; decide) (by show 7 ≠ 20; decide)) rfl rfl rfl (by decide) (by decide)
            · refine Out.via (g' := (mkF m 736 #[.val (.int p0), .val (.int p1), .val (.int p2), .val (.int p3), .val (.int (0 : Int32)), .val (.int sh), .val (.int c1), .val (.int c2), .val (.ref s11), .unset, .val .null, .unset, .unset, .unset] [])) (fun _ k => XS.icmpYes X1.here hx rfl (pc0 := 554) (pc' := 736) rfl (hb hby at_554) rfl (feq h4c).2 (by decide) (by decide) k) ?_
              refine Out.via (g' := (mkF m 738 #[.val (.int p0), .val (.int p1), .val (.int p2), .val (.int p3), .val (.int (0 : Int32)), .val (.int sh), .val (.int c1), .val (.int c2), .val (.ref s11), .unset, .val .null, .unset, .unset, .unset] [(.int sh)])) (fun _ k => XS.iload X1.here hx rfl (hb hby at_736) rfl k) ?_
              refine Out.via (g' := (mkF m 739 #[.val (.int p0), .val (.int p1), .val (.int p2), .val (.int p3), .val (.int (0 : Int32)), .val (.int sh), .val (.int c1), .val (.int c2), .val (.ref s11), .unset, .val .null, .unset, .unset, .unset] [(.int (5 : Int32)), (.int sh)])) (fun _ k => XS.iconst X1.here hx rfl (hb hby at_738) k) ?_
              by_cases h5c : sh = (5 : Int32)
              · refine Out.via (g' := (mkF m 742 #[.val (.int p0), .val (.int p1), .val (.int p2), .val (.int p3), .val (.int (0 : Int32)), .val (.int sh), .val (.int c1), .val (.int c2), .val (.ref s11), .unset, .val .null, .unset, .unset, .unset] [])) (fun _ k => XS.icmpNo X1.here hx rfl (hb hby at_739) rfl (teq h5c).2 k) ?_
                refine Out.via (g' := (mkF m 744 #[.val (.int p0), .val (.int p1), .val (.int p2), .val (.int p3), .val (.int (0 : Int32)), .val (.int sh), .val (.int c1), .val (.int c2), .val (.ref s11), .unset, .val .null, .unset, .unset, .unset] [(.int (0 : Int32))])) (fun _ k => XS.iload X1.here hx rfl (hb hby at_742) rfl k) ?_
                refine Out.via (g' := (mkF m 881 #[.val (.int p0), .val (.int p1), .val (.int p2), .val (.int p3), .val (.int (0 : Int32)), .val (.int sh), .val (.int c1), .val (.int c2), .val (.ref s11), .unset, .val .null, .unset, .unset, .unset] [])) (fun _ k => XS.ifYes X1.here hx rfl (pc0 := 744) (pc' := 881) rfl (hb hby at_744) rfl ((if0 _ _).trans (teq (by decide)).1) (by decide) (by decide) k) ?_
                obtain ⟨T2, h2, X2, e2, E2, A2, D2, -, st2⟩ := newO X1 hx hZ hown (hw _ (List.mem_of_getElem? (i := 48) rfl)) (hw _ (List.mem_of_getElem? (i := 5) rfl)) (hw _ (List.mem_of_getElem? (i := 4) rfl)) e1 (g := (mkF m 881 #[.val (.int p0), .val (.int p1), .val (.int p2), .val (.int p3), .val (.int (0 : Int32)), .val (.int sh), .val (.int c1), .val (.int c2), .val (.ref s11), .unset, .val .null, .unset, .unset, .unset] [])) rfl (hb hby at_881) (by decide) (by decide)
                obtain ⟨xs, gq2⟩ : ∃ z, z = h0.size := ⟨_, rfl⟩
                rw [← gq2] at A2 D2 st2
                have g_xs : n0 ≤ xs := Nat.le_trans (own_z0 O) (Nat.le_of_eq gq2.symm)
                replace O := O.ext E2
                replace hk := Nat.le_trans hk E2.1
                have F_value_xs : Fld Z h2 xs "java/lang/String" "value" "[B" .null := D2 (Or.inr (hw _ (List.mem_of_getElem? (i := 7) rfl))) (ty := (.array .byte)) (by decide)
                have F_coder_xs : Fld Z h2 xs "java/lang/String" "coder" "B" (.int (0 : Int32)) := D2 (Or.inr (hw _ (List.mem_of_getElem? (i := 8) rfl))) (ty := .byte) (by decide)
                refine Out.via (g' := (mkF m 884 #[.val (.int p0), .val (.int p1), .val (.int p2), .val (.int p3), .val (.int (0 : Int32)), .val (.int sh), .val (.int c1), .val (.int c2), .val (.ref s11), .unset, .val .null, .unset, .unset, .unset] [(.ref xs)])) st2 ?_
                refine Out.via (g' := (mkF m 885 #[.val (.int p0), .val (.int p1), .val (.int p2), .val (.int p3), .val (.int (0 : Int32)), .val (.int sh), .val (.int c1), .val (.int c2), .val (.ref s11), .unset, .val .null, .unset, .unset, .unset] [(.ref xs), (.ref xs)])) (fun _ k => XS.dup X2.here hx rfl (hb hby at_884) rfl rfl k) ?_
                refine Out.via (g' := (mkF m 887 #[.val (.int p0), .val (.int p1), .val (.int p2), .val (.int p3), .val (.int (0 : Int32)), .val (.int sh), .val (.int c1), .val (.int c2), .val (.ref s11), .unset, .val .null, .unset, .unset, .unset] [(.int (9 : Int32)), (.ref xs), (.ref xs)])) (fun _ k => XS.bipush X2.here hx rfl (hb hby at_885) k) ?_
                obtain ⟨T3, h3, kA3, X3, e3, E3, A3, st3⟩ := newP X2 hx hZ (hw _ (List.mem_of_getElem? (i := 49) rfl)) e2 (g := (mkF m 887 #[.val (.int p0), .val (.int p1), .val (.int p2), .val (.int p3), .val (.int (0 : Int32)), .val (.int sh), .val (.int c1), .val (.int c2), .val (.ref s11), .unset, .val .null, .unset, .unset, .unset] [(.int (9 : Int32)), (.ref xs), (.ref xs)])) rfl (hb hby at_887) rfl (by decide) (cap := 9) (by decide) (by decide) (by decide) (by decide)
                obtain ⟨ca, gq3⟩ : ∃ z, z = h2.size := ⟨_, rfl⟩
                rw [← gq3] at A3 st3
                have ne_xs_ca : xs ≠ ca := Nat.ne_of_lt (Nat.lt_of_lt_of_le A2.lt (Nat.le_of_eq gq3.symm))
                have g_ca : n0 ≤ ca := Nat.le_trans (own_z0 O) (Nat.le_of_eq gq3.symm)
                replace F_value_xs := F_value_xs.ext E3
                replace F_coder_xs := F_coder_xs.ext E3
                replace A2 := A2.ext E3
                replace O := O.ext E3
                replace hk := Nat.le_trans hk E3.1
                have V_ca : Arv Z h3 ca kA3 .char (9 : Int32) [(.int (0 : Int32)), (.int (0 : Int32)), (.int (0 : Int32)), (.int (0 : Int32)), (.int (0 : Int32)), (.int (0 : Int32)), (.int (0 : Int32)), (.int (0 : Int32)), (.int (0 : Int32))] (.int (0 : Int32)) := (Arv.new A3 (by decide)).pad (pad_rep [] (.int (0 : Int32)) 9)
                refine Out.via (g' := (mkF m 889 #[.val (.int p0), .val (.int p1), .val (.int p2), .val (.int p3), .val (.int (0 : Int32)), .val (.int sh), .val (.int c1), .val (.int c2), .val (.ref s11), .unset, .val .null, .unset, .unset, .unset] [(.ref ca), (.ref xs), (.ref xs)])) st3 ?_
                have Kf4 := Keep.refl h3 [ca]
                refine Out.via (g' := (mkF m 890 #[.val (.int p0), .val (.int p1), .val (.int p2), .val (.int p3), .val (.int (0 : Int32)), .val (.int sh), .val (.int c1), .val (.int c2), .val (.ref s11), .unset, .val .null, .unset, .unset, .unset] [(.ref ca), (.ref ca), (.ref xs), (.ref xs)])) (fun _ k => XS.dup X3.here hx rfl (hb hby at_889) rfl rfl k) ?_
                refine Out.via (g' := (mkF m 891 #[.val (.int p0), .val (.int p1), .val (.int p2), .val (.int p3), .val (.int (0 : Int32)), .val (.int sh), .val (.int c1), .val (.int c2), .val (.ref s11), .unset, .val .null, .unset, .unset, .unset] [(.int (0 : Int32)), (.ref ca), (.ref ca), (.ref xs), (.ref xs)])) (fun _ k => XS.iconst X3.here hx rfl (hb hby at_890) k) ?_
                refine Out.via (g' := (mkF m 893 #[.val (.int p0), .val (.int p1), .val (.int p2), .val (.int p3), .val (.int (0 : Int32)), .val (.int sh), .val (.int c1), .val (.int c2), .val (.ref s11), .unset, .val .null, .unset, .unset, .unset] [(.int c1), (.int (0 : Int32)), (.ref ca), (.ref ca), (.ref xs), (.ref xs)])) (fun _ k => XS.iload X3.here hx rfl (hb hby at_891) rfl k) ?_
                obtain ⟨T5, h5, L5, X5, e5, V_ca, N0, O, Kf4, st5⟩ := own_stC X3 hx hZ e3 V_ca (j := (0 : Int32)) ⟨by decide, by decide⟩ 0 rfl (Nat.le_of_ble_eq_true rfl) g_ca N0 O Kf4 (Or.inl (List.mem_of_getElem? (i := 0) rfl)) (g := (mkF m 893 #[.val (.int p0), .val (.int p1), .val (.int p2), .val (.int p3), .val (.int (0 : Int32)), .val (.int sh), .val (.int c1), .val (.int c2), .val (.ref s11), .unset, .val .null, .unset, .unset, .unset] [(.int c1), (.int (0 : Int32)), (.ref ca), (.ref ca), (.ref xs), (.ref xs)])) rfl rfl (hb hby at_893)
                refine Out.via (g' := (mkF m 894 #[.val (.int p0), .val (.int p1), .val (.int p2), .val (.int p3), .val (.int (0 : Int32)), .val (.int sh), .val (.int c1), .val (.int c2), .val (.ref s11), .unset, .val .null, .unset, .unset, .unset] [(.ref ca), (.ref xs), (.ref xs)])) st5 ?_
                refine Out.via (g' := (mkF m 895 #[.val (.int p0), .val (.int p1), .val (.int p2), .val (.int p3), .val (.int (0 : Int32)), .val (.int sh), .val (.int c1), .val (.int c2), .val (.ref s11), .unset, .val .null, .unset, .unset, .unset] [(.ref ca), (.ref ca), (.ref xs), (.ref xs)])) (fun _ k => XS.dup X5.here hx rfl (hb hby at_894) rfl rfl k) ?_
                refine Out.via (g' := (mkF m 896 #[.val (.int p0), .val (.int p1), .val (.int p2), .val (.int p3), .val (.int (0 : Int32)), .val (.int sh), .val (.int c1), .val (.int c2), .val (.ref s11), .unset, .val .null, .unset, .unset, .unset] [(.int (1 : Int32)), (.ref ca), (.ref ca), (.ref xs), (.ref xs)])) (fun _ k => XS.iconst X5.here hx rfl (hb hby at_895) k) ?_
                refine Out.via (g' := (mkF m 898 #[.val (.int p0), .val (.int p1), .val (.int p2), .val (.int p3), .val (.int (0 : Int32)), .val (.int sh), .val (.int c1), .val (.int c2), .val (.ref s11), .unset, .val .null, .unset, .unset, .unset] [(.int (116 : Int32)), (.int (1 : Int32)), (.ref ca), (.ref ca), (.ref xs), (.ref xs)])) (fun _ k => XS.bipush X5.here hx rfl (hb hby at_896) k) ?_
                obtain ⟨T6, h6, L6, X6, e6, V_ca, N0, O, Kf4, st6⟩ := own_stC X5 hx hZ e5 V_ca (j := (1 : Int32)) ⟨by decide, by decide⟩ 1 rfl (Nat.le_of_ble_eq_true rfl) g_ca N0 O Kf4 (Or.inl (List.mem_of_getElem? (i := 0) rfl)) (g := (mkF m 898 #[.val (.int p0), .val (.int p1), .val (.int p2), .val (.int p3), .val (.int (0 : Int32)), .val (.int sh), .val (.int c1), .val (.int c2), .val (.ref s11), .unset, .val .null, .unset, .unset, .unset] [(.int (116 : Int32)), (.int (1 : Int32)), (.ref ca), (.ref ca), (.ref xs), (.ref xs)])) rfl rfl (hb hby at_898)
                refine Out.via (g' := (mkF m 899 #[.val (.int p0), .val (.int p1), .val (.int p2), .val (.int p3), .val (.int (0 : Int32)), .val (.int sh), .val (.int c1), .val (.int c2), .val (.ref s11), .unset, .val .null, .unset, .unset, .unset] [(.ref ca), (.ref xs), (.ref xs)])) st6 ?_
                refine Out.via (g' := (mkF m 900 #[.val (.int p0), .val (.int p1), .val (.int p2), .val (.int p3), .val (.int (0 : Int32)), .val (.int sh), .val (.int c1), .val (.int c2), .val (.ref s11), .unset, .val .null, .unset, .unset, .unset] [(.ref ca), (.ref ca), (.ref xs), (.ref xs)])) (fun _ k => XS.dup X6.here hx rfl (hb hby at_899) rfl rfl k) ?_
                refine Out.via (g' := (mkF m 901 #[.val (.int p0), .val (.int p1), .val (.int p2), .val (.int p3), .val (.int (0 : Int32)), .val (.int sh), .val (.int c1), .val (.int c2), .val (.ref s11), .unset, .val .null, .unset, .unset, .unset] [(.int (2 : Int32)), (.ref ca), (.ref ca), (.ref xs), (.ref xs)])) (fun _ k => XS.iconst X6.here hx rfl (hb hby at_900) k) ?_
                refine Out.via (g' := (mkF m 903 #[.val (.int p0), .val (.int p1), .val (.int p2), .val (.int p3), .val (.int (0 : Int32)), .val (.int sh), .val (.int c1), .val (.int c2), .val (.ref s11), .unset, .val .null, .unset, .unset, .unset] [(.int (101 : Int32)), (.int (2 : Int32)), (.ref ca), (.ref ca), (.ref xs), (.ref xs)])) (fun _ k => XS.bipush X6.here hx rfl (hb hby at_901) k) ?_
                obtain ⟨T7, h7, L7, X7, e7, V_ca, N0, O, Kf4, st7⟩ := own_stC X6 hx hZ e6 V_ca (j := (2 : Int32)) ⟨by decide, by decide⟩ 2 rfl (Nat.le_of_ble_eq_true rfl) g_ca N0 O Kf4 (Or.inl (List.mem_of_getElem? (i := 0) rfl)) (g := (mkF m 903 #[.val (.int p0), .val (.int p1), .val (.int p2), .val (.int p3), .val (.int (0 : Int32)), .val (.int sh), .val (.int c1), .val (.int c2), .val (.ref s11), .unset, .val .null, .unset, .unset, .unset] [(.int (101 : Int32)), (.int (2 : Int32)), (.ref ca), (.ref ca), (.ref xs), (.ref xs)])) rfl rfl (hb hby at_903)
                refine Out.via (g' := (mkF m 904 #[.val (.int p0), .val (.int p1), .val (.int p2), .val (.int p3), .val (.int (0 : Int32)), .val (.int sh), .val (.int c1), .val (.int c2), .val (.ref s11), .unset, .val .null, .unset, .unset, .unset] [(.ref ca), (.ref xs), (.ref xs)])) st7 ?_
                refine Out.via (g' := (mkF m 905 #[.val (.int p0), .val (.int p1), .val (.int p2), .val (.int p3), .val (.int (0 : Int32)), .val (.int sh), .val (.int c1), .val (.int c2), .val (.ref s11), .unset, .val .null, .unset, .unset, .unset] [(.ref ca), (.ref ca), (.ref xs), (.ref xs)])) (fun _ k => XS.dup X7.here hx rfl (hb hby at_904) rfl rfl k) ?_
                refine Out.via (g' := (mkF m 906 #[.val (.int p0), .val (.int p1), .val (.int p2), .val (.int p3), .val (.int (0 : Int32)), .val (.int sh), .val (.int c1), .val (.int c2), .val (.ref s11), .unset, .val .null, .unset, .unset, .unset] [(.int (3 : Int32)), (.ref ca), (.ref ca), (.ref xs), (.ref xs)])) (fun _ k => XS.iconst X7.here hx rfl (hb hby at_905) k) ?_
                refine Out.via (g' := (mkF m 908 #[.val (.int p0), .val (.int p1), .val (.int p2), .val (.int p3), .val (.int (0 : Int32)), .val (.int sh), .val (.int c1), .val (.int c2), .val (.ref s11), .unset, .val .null, .unset, .unset, .unset] [(.int (120 : Int32)), (.int (3 : Int32)), (.ref ca), (.ref ca), (.ref xs), (.ref xs)])) (fun _ k => XS.bipush X7.here hx rfl (hb hby at_906) k) ?_
                obtain ⟨T8, h8, L8, X8, e8, V_ca, N0, O, Kf4, st8⟩ := own_stC X7 hx hZ e7 V_ca (j := (3 : Int32)) ⟨by decide, by decide⟩ 3 rfl (Nat.le_of_ble_eq_true rfl) g_ca N0 O Kf4 (Or.inl (List.mem_of_getElem? (i := 0) rfl)) (g := (mkF m 908 #[.val (.int p0), .val (.int p1), .val (.int p2), .val (.int p3), .val (.int (0 : Int32)), .val (.int sh), .val (.int c1), .val (.int c2), .val (.ref s11), .unset, .val .null, .unset, .unset, .unset] [(.int (120 : Int32)), (.int (3 : Int32)), (.ref ca), (.ref ca), (.ref xs), (.ref xs)])) rfl rfl (hb hby at_908)
                refine Out.via (g' := (mkF m 909 #[.val (.int p0), .val (.int p1), .val (.int p2), .val (.int p3), .val (.int (0 : Int32)), .val (.int sh), .val (.int c1), .val (.int c2), .val (.ref s11), .unset, .val .null, .unset, .unset, .unset] [(.ref ca), (.ref xs), (.ref xs)])) st8 ?_
                refine Out.via (g' := (mkF m 910 #[.val (.int p0), .val (.int p1), .val (.int p2), .val (.int p3), .val (.int (0 : Int32)), .val (.int sh), .val (.int c1), .val (.int c2), .val (.ref s11), .unset, .val .null, .unset, .unset, .unset] [(.ref ca), (.ref ca), (.ref xs), (.ref xs)])) (fun _ k => XS.dup X8.here hx rfl (hb hby at_909) rfl rfl k) ?_
                refine Out.via (g' := (mkF m 911 #[.val (.int p0), .val (.int p1), .val (.int p2), .val (.int p3), .val (.int (0 : Int32)), .val (.int sh), .val (.int c1), .val (.int c2), .val (.ref s11), .unset, .val .null, .unset, .unset, .unset] [(.int (4 : Int32)), (.ref ca), (.ref ca), (.ref xs), (.ref xs)])) (fun _ k => XS.iconst X8.here hx rfl (hb hby at_910) k) ?_
                refine Out.via (g' := (mkF m 913 #[.val (.int p0), .val (.int p1), .val (.int p2), .val (.int p3), .val (.int (0 : Int32)), .val (.int sh), .val (.int c1), .val (.int c2), .val (.ref s11), .unset, .val .null, .unset, .unset, .unset] [(.int (116 : Int32)), (.int (4 : Int32)), (.ref ca), (.ref ca), (.ref xs), (.ref xs)])) (fun _ k => XS.bipush X8.here hx rfl (hb hby at_911) k) ?_
                obtain ⟨T9, h9, L9, X9, e9, V_ca, N0, O, Kf4, st9⟩ := own_stC X8 hx hZ e8 V_ca (j := (4 : Int32)) ⟨by decide, by decide⟩ 4 rfl (Nat.le_of_ble_eq_true rfl) g_ca N0 O Kf4 (Or.inl (List.mem_of_getElem? (i := 0) rfl)) (g := (mkF m 913 #[.val (.int p0), .val (.int p1), .val (.int p2), .val (.int p3), .val (.int (0 : Int32)), .val (.int sh), .val (.int c1), .val (.int c2), .val (.ref s11), .unset, .val .null, .unset, .unset, .unset] [(.int (116 : Int32)), (.int (4 : Int32)), (.ref ca), (.ref ca), (.ref xs), (.ref xs)])) rfl rfl (hb hby at_913)
                refine Out.via (g' := (mkF m 914 #[.val (.int p0), .val (.int p1), .val (.int p2), .val (.int p3), .val (.int (0 : Int32)), .val (.int sh), .val (.int c1), .val (.int c2), .val (.ref s11), .unset, .val .null, .unset, .unset, .unset] [(.ref ca), (.ref xs), (.ref xs)])) st9 ?_
                refine Out.via (g' := (mkF m 915 #[.val (.int p0), .val (.int p1), .val (.int p2), .val (.int p3), .val (.int (0 : Int32)), .val (.int sh), .val (.int c1), .val (.int c2), .val (.ref s11), .unset, .val .null, .unset, .unset, .unset] [(.ref ca), (.ref ca), (.ref xs), (.ref xs)])) (fun _ k => XS.dup X9.here hx rfl (hb hby at_914) rfl rfl k) ?_
                refine Out.via (g' := (mkF m 916 #[.val (.int p0), .val (.int p1), .val (.int p2), .val (.int p3), .val (.int (0 : Int32)), .val (.int sh), .val (.int c1), .val (.int c2), .val (.ref s11), .unset, .val .null, .unset, .unset, .unset] [(.int (5 : Int32)), (.ref ca), (.ref ca), (.ref xs), (.ref xs)])) (fun _ k => XS.iconst X9.here hx rfl (hb hby at_915) k) ?_
                refine Out.via (g' := (mkF m 918 #[.val (.int p0), .val (.int p1), .val (.int p2), .val (.int p3), .val (.int (0 : Int32)), .val (.int sh), .val (.int c1), .val (.int c2), .val (.ref s11), .unset, .val .null, .unset, .unset, .unset] [(.int (47 : Int32)), (.int (5 : Int32)), (.ref ca), (.ref ca), (.ref xs), (.ref xs)])) (fun _ k => XS.bipush X9.here hx rfl (hb hby at_916) k) ?_
                obtain ⟨T10, h10, L10, X10, e10, V_ca, N0, O, Kf4, st10⟩ := own_stC X9 hx hZ e9 V_ca (j := (5 : Int32)) ⟨by decide, by decide⟩ 5 rfl (Nat.le_of_ble_eq_true rfl) g_ca N0 O Kf4 (Or.inl (List.mem_of_getElem? (i := 0) rfl)) (g := (mkF m 918 #[.val (.int p0), .val (.int p1), .val (.int p2), .val (.int p3), .val (.int (0 : Int32)), .val (.int sh), .val (.int c1), .val (.int c2), .val (.ref s11), .unset, .val .null, .unset, .unset, .unset] [(.int (47 : Int32)), (.int (5 : Int32)), (.ref ca), (.ref ca), (.ref xs), (.ref xs)])) rfl rfl (hb hby at_918)
                refine Out.via (g' := (mkF m 919 #[.val (.int p0), .val (.int p1), .val (.int p2), .val (.int p3), .val (.int (0 : Int32)), .val (.int sh), .val (.int c1), .val (.int c2), .val (.ref s11), .unset, .val .null, .unset, .unset, .unset] [(.ref ca), (.ref xs), (.ref xs)])) st10 ?_
                refine Out.via (g' := (mkF m 920 #[.val (.int p0), .val (.int p1), .val (.int p2), .val (.int p3), .val (.int (0 : Int32)), .val (.int sh), .val (.int c1), .val (.int c2), .val (.ref s11), .unset, .val .null, .unset, .unset, .unset] [(.ref ca), (.ref ca), (.ref xs), (.ref xs)])) (fun _ k => XS.dup X10.here hx rfl (hb hby at_919) rfl rfl k) ?_
                refine Out.via (g' := (mkF m 922 #[.val (.int p0), .val (.int p1), .val (.int p2), .val (.int p3), .val (.int (0 : Int32)), .val (.int sh), .val (.int c1), .val (.int c2), .val (.ref s11), .unset, .val .null, .unset, .unset, .unset] [(.int (6 : Int32)), (.ref ca), (.ref ca), (.ref xs), (.ref xs)])) (fun _ k => XS.bipush X10.here hx rfl (hb hby at_920) k) ?_
                refine Out.via (g' := (mkF m 924 #[.val (.int p0), .val (.int p1), .val (.int p2), .val (.int p3), .val (.int (0 : Int32)), .val (.int sh), .val (.int c1), .val (.int c2), .val (.ref s11), .unset, .val .null, .unset, .unset, .unset] [(.int (120 : Int32)), (.int (6 : Int32)), (.ref ca), (.ref ca), (.ref xs), (.ref xs)])) (fun _ k => XS.bipush X10.here hx rfl (hb hby at_922) k) ?_
                obtain ⟨T11, h11, L11, X11, e11, V_ca, N0, O, Kf4, st11⟩ := own_stC X10 hx hZ e10 V_ca (j := (6 : Int32)) ⟨by decide, by decide⟩ 6 rfl (Nat.le_of_ble_eq_true rfl) g_ca N0 O Kf4 (Or.inl (List.mem_of_getElem? (i := 0) rfl)) (g := (mkF m 924 #[.val (.int p0), .val (.int p1), .val (.int p2), .val (.int p3), .val (.int (0 : Int32)), .val (.int sh), .val (.int c1), .val (.int c2), .val (.ref s11), .unset, .val .null, .unset, .unset, .unset] [(.int (120 : Int32)), (.int (6 : Int32)), (.ref ca), (.ref ca), (.ref xs), (.ref xs)])) rfl rfl (hb hby at_924)
                refine Out.via (g' := (mkF m 925 #[.val (.int p0), .val (.int p1), .val (.int p2), .val (.int p3), .val (.int (0 : Int32)), .val (.int sh), .val (.int c1), .val (.int c2), .val (.ref s11), .unset, .val .null, .unset, .unset, .unset] [(.ref ca), (.ref xs), (.ref xs)])) st11 ?_
                refine Out.via (g' := (mkF m 926 #[.val (.int p0), .val (.int p1), .val (.int p2), .val (.int p3), .val (.int (0 : Int32)), .val (.int sh), .val (.int c1), .val (.int c2), .val (.ref s11), .unset, .val .null, .unset, .unset, .unset] [(.ref ca), (.ref ca), (.ref xs), (.ref xs)])) (fun _ k => XS.dup X11.here hx rfl (hb hby at_925) rfl rfl k) ?_
                refine Out.via (g' := (mkF m 928 #[.val (.int p0), .val (.int p1), .val (.int p2), .val (.int p3), .val (.int (0 : Int32)), .val (.int sh), .val (.int c1), .val (.int c2), .val (.ref s11), .unset, .val .null, .unset, .unset, .unset] [(.int (7 : Int32)), (.ref ca), (.ref ca), (.ref xs), (.ref xs)])) (fun _ k => XS.bipush X11.here hx rfl (hb hby at_926) k) ?_
                refine Out.via (g' := (mkF m 930 #[.val (.int p0), .val (.int p1), .val (.int p2), .val (.int p3), .val (.int (0 : Int32)), .val (.int sh), .val (.int c1), .val (.int c2), .val (.ref s11), .unset, .val .null, .unset, .unset, .unset] [(.int (109 : Int32)), (.int (7 : Int32)), (.ref ca), (.ref ca), (.ref xs), (.ref xs)])) (fun _ k => XS.bipush X11.here hx rfl (hb hby at_928) k) ?_
                obtain ⟨T12, h12, L12, X12, e12, V_ca, N0, O, Kf4, st12⟩ := own_stC X11 hx hZ e11 V_ca (j := (7 : Int32)) ⟨by decide, by decide⟩ 7 rfl (Nat.le_of_ble_eq_true rfl) g_ca N0 O Kf4 (Or.inl (List.mem_of_getElem? (i := 0) rfl)) (g := (mkF m 930 #[.val (.int p0), .val (.int p1), .val (.int p2), .val (.int p3), .val (.int (0 : Int32)), .val (.int sh), .val (.int c1), .val (.int c2), .val (.ref s11), .unset, .val .null, .unset, .unset, .unset] [(.int (109 : Int32)), (.int (7 : Int32)), (.ref ca), (.ref ca), (.ref xs), (.ref xs)])) rfl rfl (hb hby at_930)
                refine Out.via (g' := (mkF m 931 #[.val (.int p0), .val (.int p1), .val (.int p2), .val (.int p3), .val (.int (0 : Int32)), .val (.int sh), .val (.int c1), .val (.int c2), .val (.ref s11), .unset, .val .null, .unset, .unset, .unset] [(.ref ca), (.ref xs), (.ref xs)])) st12 ?_
                refine Out.via (g' := (mkF m 932 #[.val (.int p0), .val (.int p1), .val (.int p2), .val (.int p3), .val (.int (0 : Int32)), .val (.int sh), .val (.int c1), .val (.int c2), .val (.ref s11), .unset, .val .null, .unset, .unset, .unset] [(.ref ca), (.ref ca), (.ref xs), (.ref xs)])) (fun _ k => XS.dup X12.here hx rfl (hb hby at_931) rfl rfl k) ?_
                refine Out.via (g' := (mkF m 934 #[.val (.int p0), .val (.int p1), .val (.int p2), .val (.int p3), .val (.int (0 : Int32)), .val (.int sh), .val (.int c1), .val (.int c2), .val (.ref s11), .unset, .val .null, .unset, .unset, .unset] [(.int (8 : Int32)), (.ref ca), (.ref ca), (.ref xs), (.ref xs)])) (fun _ k => XS.bipush X12.here hx rfl (hb hby at_932) k) ?_
                refine Out.via (g' := (mkF m 936 #[.val (.int p0), .val (.int p1), .val (.int p2), .val (.int p3), .val (.int (0 : Int32)), .val (.int sh), .val (.int c1), .val (.int c2), .val (.ref s11), .unset, .val .null, .unset, .unset, .unset] [(.int (108 : Int32)), (.int (8 : Int32)), (.ref ca), (.ref ca), (.ref xs), (.ref xs)])) (fun _ k => XS.bipush X12.here hx rfl (hb hby at_934) k) ?_
                obtain ⟨T13, h13, L13, X13, e13, V_ca, N0, O, Kf4, st13⟩ := own_stC X12 hx hZ e12 V_ca (j := (8 : Int32)) ⟨by decide, by decide⟩ 8 rfl (Nat.le_of_ble_eq_true rfl) g_ca N0 O Kf4 (Or.inl (List.mem_of_getElem? (i := 0) rfl)) (g := (mkF m 936 #[.val (.int p0), .val (.int p1), .val (.int p2), .val (.int p3), .val (.int (0 : Int32)), .val (.int sh), .val (.int c1), .val (.int c2), .val (.ref s11), .unset, .val .null, .unset, .unset, .unset] [(.int (108 : Int32)), (.int (8 : Int32)), (.ref ca), (.ref ca), (.ref xs), (.ref xs)])) rfl rfl (hb hby at_936)
                refine Out.via (g' := (mkF m 937 #[.val (.int p0), .val (.int p1), .val (.int p2), .val (.int p3), .val (.int (0 : Int32)), .val (.int sh), .val (.int c1), .val (.int c2), .val (.ref s11), .unset, .val .null, .unset, .unset, .unset] [(.ref ca), (.ref xs), (.ref xs)])) st13 ?_
                replace V_ca : Arv Z h13 ca kA3 .char (9 : Int32) [(.int (nar .char c1)), (.int (nar .char (116 : Int32))), (.int (nar .char (101 : Int32))), (.int (nar .char (120 : Int32))), (.int (nar .char (116 : Int32))), (.int (nar .char (47 : Int32))), (.int (nar .char (120 : Int32))), (.int (nar .char (109 : Int32))), (.int (nar .char (108 : Int32)))] (.int (0 : Int32)) := V_ca
                replace hk : _ ≤ h13.size := Nat.le_trans hk Kf4.1
                replace F_value_xs := F_value_xs.keep Kf4 (ninS ne_xs_ca nin0)
                replace F_coder_xs := F_coder_xs.keep Kf4 (ninS ne_xs_ca nin0)
                replace A2 := A2.keep Kf4
                have hp : ∀ c ∈ ([(nar .char c1), (nar .char (116 : Int32)), (nar .char (101 : Int32)), (nar .char (120 : Int32)), (nar .char (116 : Int32)), (nar .char (47 : Int32)), (nar .char (120 : Int32)), (nar .char (109 : Int32)), (nar .char (108 : Int32))] : List Int32), own_lat c := own_allS (by rw [own_lat_nar D_c1]; exact D_c1) (own_allS (by unfold own_lat; decide) (own_allS (by unfold own_lat; decide) (own_allS (by unfold own_lat; decide) (own_allS (by unfold own_lat; decide) (own_allS (by unfold own_lat; decide) (own_allS (by unfold own_lat; decide) (own_allS (by unfold own_lat; decide) (own_allS (by unfold own_lat; decide) (own_all0)))))))))
                obtain ⟨_, _, ⟨T14, L14, kc14, ks14⟩, -, X14, ⟨Lc14, hQ14, l14, y14, z14⟩, st14⟩ := X13.specialBack hx (y := (⟨"java/lang/String", "<init>", "([C)V"⟩ : MethodName)) rfl hown (mvT hZ (hw _ (List.mem_of_getElem? (i := 50) rfl))) (mvT hZ (hw _ (List.mem_of_getElem? (i := 51) rfl))) (mvT hZ (hw _ (List.mem_of_getElem? (i := 52) rfl))) (by decide) (StrChars.Road.backV (W := 1) hZ hws (kI := 4) (hw _ (List.mem_of_getElem? (i := 5) rfl)) (cs := ([(nar .char c1), (nar .char (116 : Int32)), (nar .char (101 : Int32)), (nar .char (120 : Int32)), (nar .char (116 : Int32)), (nar .char (47 : Int32)), (nar .char (120 : Int32)), (nar .char (109 : Int32)), (nar .char (108 : Int32))] : List Int32)) (bs := ([(nar .char c1), (nar .char (116 : Int32)), (nar .char (101 : Int32)), (nar .char (120 : Int32)), (nar .char (116 : Int32)), (nar .char (47 : Int32)), (nar .char (120 : Int32)), (nar .char (109 : Int32)), (nar .char (108 : Int32))] : List Int32).map (fun c => c.toInt8.toInt32)) (n := 9) g_xs (own_z0 O) A2 F_value_xs F_coder_xs V_ca (O2.ext O.2) P5 rfl rfl (by decide) (by decide) hp rfl (by decide) (by decide)) (g := (mkF m 937 #[.val (.int p0), .val (.int p1), .val (.int p2), .val (.int p3), .val (.int (0 : Int32)), .val (.int sh), .val (.int c1), .val (.int c2), .val (.ref s11), .unset, .val .null, .unset, .unset, .unset] [(.ref ca), (.ref xs), (.ref xs)])) rfl (by rw [hml]; rfl) (Steps.refl _) (a := xs) (argsL := [(.ref ca)]) (rest := [(.ref xs)]) (lenOf own_pd11 rfl) rfl (by show 2 * 0 + _ ≤ _; exact Nat.le_of_eq rfl) (hb hby at_937) (fun _ _ => ⟨rfl, e13, (by decide : 2 + 1 ≤ _), (by decide : 13 + 9 ≤ _)⟩)
                dsimp only [Pt.U, Pt.locs, Pt.cells, Pt.slots] at X14 l14 y14 z14 st14 hQ14
                subst l14 y14 z14
                obtain ⟨rfl, Nq14, Kq14, Eq, Cq, tb, kb, ut, vt, wt, Vq, Aq⟩ := hQ14
                replace N0 := Fr.app N0 Nq14
                replace hk : _ ≤ T14.heap.size := Nat.le_trans hk Kq14.1
                replace A2 := A2.keep Kq14
                replace V_ca := V_ca.keep Kq14 (ninS (Ne.symm ne_xs_ca) nin0)
                replace O := O.keep Kq14 (allS g_xs all0)
                refine Out.to (g' := (mkF m 940 #[.val (.int p0), .val (.int p1), .val (.int p2), .val (.int p3), .val (.int (0 : Int32)), .val (.int sh), .val (.int c1), .val (.int c2), .val (.ref s11), .unset, .val .null, .unset, .unset, .unset] [(.ref xs)])) st14 ?_
                have Sx : own_Str Z T14.heap xs ([(nar .char c1), (nar .char (116 : Int32)), (nar .char (101 : Int32)), (nar .char (120 : Int32)), (nar .char (116 : Int32)), (nar .char (47 : Int32)), (nar .char (120 : Int32)), (nar .char (109 : Int32)), (nar .char (108 : Int32))] : List Int32) := ⟨hp, Eq, Cq, tb, kb, Vq, Aq⟩
                refine Out.via (g' := (mkF m 942 #[.val (.int p0), .val (.int p1), .val (.int p2), .val (.int p3), .val (.int (0 : Int32)), .val (.int sh), .val (.int c1), .val (.int c2), .val (.ref s11), .val (.ref xs), .val .null, .unset, .unset, .unset] [])) (fun _ k => XS.astore X14.here hx rfl (hb hby at_940) rfl rfl (l' := #[.val (.int p0), .val (.int p1), .val (.int p2), .val (.int p3), .val (.int (0 : Int32)), .val (.int sh), .val (.int c1), .val (.int c2), .val (.ref s11), .val (.ref xs), .val .null, .unset, .unset, .unset]) rfl k) ?_
                refine Out.via (g' := (mkF m 995 #[.val (.int p0), .val (.int p1), .val (.int p2), .val (.int p3), .val (.int (0 : Int32)), .val (.int sh), .val (.int c1), .val (.int c2), .val (.ref s11), .val (.ref xs), .val .null, .unset, .unset, .unset] [])) (fun _ k => XS.goto X14.here hx rfl (pc0 := 942) (pc' := 995) rfl (hb hby at_942) (by decide) (by decide) k) ?_
                exact own_tail #[.val (.int p0), .val (.int p1), .val (.int p2), .val (.int p3), .val (.int (0 : Int32)), .val (.int sh), .val (.int c1), .val (.int c2), .val (.ref s11), .val (.ref xs), .val .null, .unset, .unset, .unset] xs va s11 s12 m11 m12 kv ([(nar .char c1), (nar .char (116 : Int32)), (nar .char (101 : Int32)), (nar .char (120 : Int32)), (nar .char (116 : Int32)), (nar .char (47 : Int32)), (nar .char (120 : Int32)), (nar .char (109 : Int32)), (nar .char (108 : Int32))] : List Int32) G1 .null X14 hx hS hk hZ hw hby hml hown Bd.returns Bd.notSynchronized rfl O N0 Sx (Nat.le_of_ble_eq_true rfl) SVA EVA AVA F11 S11 F12 S12 O2 P5 (own_Ans.len (by show 9 ≠ 8; decide) (by show 9 ≠ 20; decide)) rfl rfl rfl (by decide) (by decide)
              · refine Out.via (g' := (mkF m 945 #[.val (.int p0), .val (.int p1), .val (.int p2), .val (.int p3), .val (.int (0 : Int32)), .val (.int sh), .val (.int c1), .val (.int c2), .val (.ref s11), .unset, .val .null, .unset, .unset, .unset] [])) (fun _ k => XS.icmpYes X1.here hx rfl (pc0 := 739) (pc' := 945) rfl (hb hby at_739) rfl (feq h5c).2 (by decide) (by decide) k) ?_
                refine Out.via (g' := (mkF m 947 #[.val (.int p0), .val (.int p1), .val (.int p2), .val (.int p3), .val (.int (0 : Int32)), .val (.int sh), .val (.int c1), .val (.int c2), .val (.ref s11), .unset, .val .null, .unset, .unset, .unset] [(.int sh)])) (fun _ k => XS.iload X1.here hx rfl (hb hby at_945) rfl k) ?_
                refine Out.via (g' := (mkF m 949 #[.val (.int p0), .val (.int p1), .val (.int p2), .val (.int p3), .val (.int (0 : Int32)), .val (.int sh), .val (.int c1), .val (.int c2), .val (.ref s11), .unset, .val .null, .unset, .unset, .unset] [(.int (6 : Int32)), (.int sh)])) (fun _ k => XS.bipush X1.here hx rfl (hb hby at_947) k) ?_
                by_cases h6c : sh = (6 : Int32)
                · refine Out.via (g' := (mkF m 952 #[.val (.int p0), .val (.int p1), .val (.int p2), .val (.int p3), .val (.int (0 : Int32)), .val (.int sh), .val (.int c1), .val (.int c2), .val (.ref s11), .unset, .val .null, .unset, .unset, .unset] [])) (fun _ k => XS.icmpNo X1.here hx rfl (hb hby at_949) rfl (teq h6c).2 k) ?_
                  refine Out.via (g' := (mkF m 953 #[.val (.int p0), .val (.int p1), .val (.int p2), .val (.int p3), .val (.int (0 : Int32)), .val (.int sh), .val (.int c1), .val (.int c2), .val (.ref s11), .unset, .val .null, .unset, .unset, .unset] [(.int p2)])) (fun _ k => XS.iloadN X1.here hx rfl (hb hby at_952) rfl k) ?_
                  refine Out.via (g' := (mkF m 954 #[.val (.int p0), .val (.int p1), .val (.int p2), .val (.int p3), .val (.int (0 : Int32)), .val (.int sh), .val (.int c1), .val (.int c2), .val (.ref s11), .unset, .val .null, .unset, .unset, .unset] [(.int (1 : Int32)), (.int p2)])) (fun _ k => XS.iconst X1.here hx rfl (hb hby at_953) k) ?_
                  refine Out.via (g' := (mkF m 955 #[.val (.int p0), .val (.int p1), .val (.int p2), .val (.int p3), .val (.int (0 : Int32)), .val (.int sh), .val (.int c1), .val (.int c2), .val (.ref s11), .unset, .val .null, .unset, .unset, .unset] [(.int (p2 &&& (1 : Int32)))])) (fun _ k => XS.iand X1.here hx rfl (hb hby at_954) rfl k) ?_
                  by_cases hat : (p2 &&& (1 : Int32)) = (0 : Int32)
                  · refine Out.via (g' := (mkF m 958 #[.val (.int p0), .val (.int p1), .val (.int p2), .val (.int p3), .val (.int (0 : Int32)), .val (.int sh), .val (.int c1), .val (.int c2), .val (.ref s11), .unset, .val .null, .unset, .unset, .unset] [])) (fun _ k => XS.ifNo X1.here hx rfl (hb hby at_955) rfl ((if0 _ _).trans (teq hat).2) k) ?_
                    obtain ⟨la, T2, h2, kk2, lb, kb_la, X2, e2, E2, hS, hk, hZ, hown, Eq_la, Cq_la, Vq_la, Aq_la, lt_la, lt_lb, CR2, Lit_la, nes_la, st2⟩ := ldcCH X1 hx hZ hown (hw _ (List.mem_of_getElem? (i := 46) rfl)) wS e1 hS hk hEL (by decide) CR.1 (vs := []) (z := (0 : Int32)) ⟨by decide, rfl⟩ (by decide) rfl (g := (mkF m 958 #[.val (.int p0), .val (.int p1), .val (.int p2), .val (.int p3), .val (.int (0 : Int32)), .val (.int sh), .val (.int c1), .val (.int c2), .val (.ref s11), .unset, .val .null, .unset, .unset, .unset] [])) rfl (hb hby at_958) (n := 0) (by decide) (by decide) (by decide) (by decide)
                    replace O := O.ext E2
                    have Sl : own_Str Z h2 la [] := ⟨own_all0, Eq_la, Cq_la, lb, kb_la, Vq_la, Aq_la⟩
                    refine Out.via (g' := (mkF m 960 #[.val (.int p0), .val (.int p1), .val (.int p2), .val (.int p3), .val (.int (0 : Int32)), .val (.int sh), .val (.int c1), .val (.int c2), .val (.ref s11), .unset, .val .null, .unset, .unset, .unset] [(.ref la)])) st2 ?_
                    refine Out.via (g' := (mkF m 968 #[.val (.int p0), .val (.int p1), .val (.int p2), .val (.int p3), .val (.int (0 : Int32)), .val (.int sh), .val (.int c1), .val (.int c2), .val (.ref s11), .unset, .val .null, .unset, .unset, .unset] [(.ref la)])) (fun _ k => XS.goto X2.here hx rfl (pc0 := 960) (pc' := 968) rfl (hb hby at_960) (by decide) (by decide) k) ?_
                    refine Out.via (g' := (mkF m 970 #[.val (.int p0), .val (.int p1), .val (.int p2), .val (.int p3), .val (.int (0 : Int32)), .val (.int sh), .val (.int c1), .val (.int c2), .val (.ref s11), .val (.ref la), .val .null, .unset, .unset, .unset] [])) (fun _ k => XS.astore X2.here hx rfl (hb hby at_968) rfl rfl (l' := #[.val (.int p0), .val (.int p1), .val (.int p2), .val (.int p3), .val (.int (0 : Int32)), .val (.int sh), .val (.int c1), .val (.int c2), .val (.ref s11), .val (.ref la), .val .null, .unset, .unset, .unset]) rfl k) ?_
                    refine Out.via (g' := (mkF m 995 #[.val (.int p0), .val (.int p1), .val (.int p2), .val (.int p3), .val (.int (0 : Int32)), .val (.int sh), .val (.int c1), .val (.int c2), .val (.ref s11), .val (.ref la), .val .null, .unset, .unset, .unset] [])) (fun _ k => XS.goto X2.here hx rfl (pc0 := 970) (pc' := 995) rfl (hb hby at_970) (by decide) (by decide) k) ?_
                    exact own_tail #[.val (.int p0), .val (.int p1), .val (.int p2), .val (.int p3), .val (.int (0 : Int32)), .val (.int sh), .val (.int c1), .val (.int c2), .val (.ref s11), .val (.ref la), .val .null, .unset, .unset, .unset] la va s11 s12 m11 m12 kv [] G1 .null X2 hx hS hk hZ hw hby hml hown Bd.returns Bd.notSynchronized e2 O N0 Sl (by decide) SVA EVA AVA F11 S11 F12 S12 O2 P5 (own_Ans.len (by decide) (by decide)) rfl rfl rfl (by decide) (by decide)
                  · refine Out.via (g' := (mkF m 963 #[.val (.int p0), .val (.int p1), .val (.int p2), .val (.int p3), .val (.int (0 : Int32)), .val (.int sh), .val (.int c1), .val (.int c2), .val (.ref s11), .unset, .val .null, .unset, .unset, .unset] [])) (fun _ k => XS.ifYes X1.here hx rfl (pc0 := 955) (pc' := 963) rfl (hb hby at_955) rfl ((if0 _ _).trans (feq hat).2) (by decide) (by decide) k) ?_
                    refine Out.via (g' := (mkF m 965 #[.val (.int p0), .val (.int p1), .val (.int p2), .val (.int p3), .val (.int (0 : Int32)), .val (.int sh), .val (.int c1), .val (.int c2), .val (.ref s11), .unset, .val .null, .unset, .unset, .unset] [(.int c1)])) (fun _ k => XS.iload X1.here hx rfl (hb hby at_963) rfl k) ?_
                    obtain ⟨_, _, ⟨T2, L2, kc2, ks2⟩, -, X2, ⟨Lc2, hQ2, l2, y2, z2⟩, st2⟩ := Jvm.LawKit.callS X1 hx (y := (⟨"java/lang/String", "valueOf", "(C)Ljava/lang/String;"⟩ : MethodName)) hown (mvT hZ (hw _ (List.mem_of_getElem? (i := 75) rfl))) (mvT hZ (hw _ (List.mem_of_getElem? (i := 76) rfl))) (mvT hZ (hw _ (List.mem_of_getElem? (i := 4) rfl))) (mvT hZ (hw _ (List.mem_of_getElem? (i := 77) rfl))) (by decide) (backOf (W := 0) (own_rm16 l Z a0 hw [] c1 G1 h0 n0 O D_c1 O2 P5) hZ (hw _ (List.mem_of_getElem? (i := 77) rfl)) (hw _ (List.mem_of_getElem? (i := 4) rfl)) (by decide) (by decide)) (g := (mkF m 965 #[.val (.int p0), .val (.int p1), .val (.int p2), .val (.int p3), .val (.int (0 : Int32)), .val (.int sh), .val (.int c1), .val (.int c2), .val (.ref s11), .unset, .val .null, .unset, .unset, .unset] [(.int c1)])) rfl (by rw [hml]; rfl) (argsL := [(.int c1)]) (rest := []) (lenOf own_pd12 rfl) rfl (by show 2 * 0 + _ ≤ _; exact Nat.le_of_eq rfl) (hb hby at_965) (fun _ _ => ⟨rfl, e1, (by decide : 0 + 2 ≤ _), (by decide : 0 + 5 ≤ _)⟩)
                    dsimp only [Pt.U, Pt.locs, Pt.cells, Pt.slots] at X2 l2 y2 z2 st2 hQ2
                    subst l2 y2 z2
                    obtain ⟨xs, rfl, Nq2, Kq2, le_xs, Sx⟩ := hQ2
                    replace N0 := Fr.app N0 Nq2
                    replace hk : _ ≤ T2.heap.size := Nat.le_trans hk Kq2.1
                    replace O := O.keep Kq2 all0
                    refine Out.via (g' := (mkF m 968 #[.val (.int p0), .val (.int p1), .val (.int p2), .val (.int p3), .val (.int (0 : Int32)), .val (.int sh), .val (.int c1), .val (.int c2), .val (.ref s11), .unset, .val .null, .unset, .unset, .unset] [(.ref xs)])) st2 ?_
                    refine Out.via (g' := (mkF m 970 #[.val (.int p0), .val (.int p1), .val (.int p2), .val (.int p3), .val (.int (0 : Int32)), .val (.int sh), .val (.int c1), .val (.int c2), .val (.ref s11), .val (.ref xs), .val .null, .unset, .unset, .unset] [])) (fun _ k => XS.astore X2.here hx rfl (hb hby at_968) rfl rfl (l' := #[.val (.int p0), .val (.int p1), .val (.int p2), .val (.int p3), .val (.int (0 : Int32)), .val (.int sh), .val (.int c1), .val (.int c2), .val (.ref s11), .val (.ref xs), .val .null, .unset, .unset, .unset]) rfl k) ?_
                    refine Out.via (g' := (mkF m 995 #[.val (.int p0), .val (.int p1), .val (.int p2), .val (.int p3), .val (.int (0 : Int32)), .val (.int sh), .val (.int c1), .val (.int c2), .val (.ref s11), .val (.ref xs), .val .null, .unset, .unset, .unset] [])) (fun _ k => XS.goto X2.here hx rfl (pc0 := 970) (pc' := 995) rfl (hb hby at_970) (by decide) (by decide) k) ?_
                    exact own_tail #[.val (.int p0), .val (.int p1), .val (.int p2), .val (.int p3), .val (.int (0 : Int32)), .val (.int sh), .val (.int c1), .val (.int c2), .val (.ref s11), .val (.ref xs), .val .null, .unset, .unset, .unset] xs va s11 s12 m11 m12 kv [c1] G1 .null X2 hx hS hk hZ hw hby hml hown Bd.returns Bd.notSynchronized rfl O N0 Sx (Nat.le_of_ble_eq_true rfl) SVA EVA AVA F11 S11 F12 S12 O2 P5 (own_Ans.len (by show 1 ≠ 8; decide) (by show 1 ≠ 20; decide)) rfl rfl rfl (by decide) (by decide)
                · refine Out.via (g' := (mkF m 973 #[.val (.int p0), .val (.int p1), .val (.int p2), .val (.int p3), .val (.int (0 : Int32)), .val (.int sh), .val (.int c1), .val (.int c2), .val (.ref s11), .unset, .val .null, .unset, .unset, .unset] [])) (fun _ k => XS.icmpYes X1.here hx rfl (pc0 := 949) (pc' := 973) rfl (hb hby at_949) rfl (feq h6c).2 (by decide) (by decide) k) ?_
                  obtain ⟨T2, h2, X2, e2, E2, A2, D2, -, st2⟩ := newO X1 hx hZ hown (hw _ (List.mem_of_getElem? (i := 48) rfl)) (hw _ (List.mem_of_getElem? (i := 5) rfl)) (hw _ (List.mem_of_getElem? (i := 4) rfl)) e1 (g := (mkF m 973 #[.val (.int p0), .val (.int p1), .val (.int p2), .val (.int p3), .val (.int (0 : Int32)), .val (.int sh), .val (.int c1), .val (.int c2), .val (.ref s11), .unset, .val .null, .unset, .unset, .unset] [])) rfl (hb hby at_973) (by decide) (by decide)
                  obtain ⟨xs, gq2⟩ : ∃ z, z = h0.size := ⟨_, rfl⟩
                  rw [← gq2] at A2 D2 st2
                  have g_xs : n0 ≤ xs := Nat.le_trans (own_z0 O) (Nat.le_of_eq gq2.symm)
                  replace O := O.ext E2
                  replace hk := Nat.le_trans hk E2.1
                  have F_value_xs : Fld Z h2 xs "java/lang/String" "value" "[B" .null := D2 (Or.inr (hw _ (List.mem_of_getElem? (i := 7) rfl))) (ty := (.array .byte)) (by decide)
                  have F_coder_xs : Fld Z h2 xs "java/lang/String" "coder" "B" (.int (0 : Int32)) := D2 (Or.inr (hw _ (List.mem_of_getElem? (i := 8) rfl))) (ty := .byte) (by decide)
                  refine Out.via (g' := (mkF m 976 #[.val (.int p0), .val (.int p1), .val (.int p2), .val (.int p3), .val (.int (0 : Int32)), .val (.int sh), .val (.int c1), .val (.int c2), .val (.ref s11), .unset, .val .null, .unset, .unset, .unset] [(.ref xs)])) st2 ?_
                  refine Out.via (g' := (mkF m 977 #[.val (.int p0), .val (.int p1), .val (.int p2), .val (.int p3), .val (.int (0 : Int32)), .val (.int sh), .val (.int c1), .val (.int c2), .val (.ref s11), .unset, .val .null, .unset, .unset, .unset] [(.ref xs), (.ref xs)])) (fun _ k => XS.dup X2.here hx rfl (hb hby at_976) rfl rfl k) ?_
                  refine Out.via (g' := (mkF m 978 #[.val (.int p0), .val (.int p1), .val (.int p2), .val (.int p3), .val (.int (0 : Int32)), .val (.int sh), .val (.int c1), .val (.int c2), .val (.ref s11), .unset, .val .null, .unset, .unset, .unset] [(.int (2 : Int32)), (.ref xs), (.ref xs)])) (fun _ k => XS.iconst X2.here hx rfl (hb hby at_977) k) ?_
                  obtain ⟨T3, h3, kA3, X3, e3, E3, A3, st3⟩ := newP X2 hx hZ (hw _ (List.mem_of_getElem? (i := 49) rfl)) e2 (g := (mkF m 978 #[.val (.int p0), .val (.int p1), .val (.int p2), .val (.int p3), .val (.int (0 : Int32)), .val (.int sh), .val (.int c1), .val (.int c2), .val (.ref s11), .unset, .val .null, .unset, .unset, .unset] [(.int (2 : Int32)), (.ref xs), (.ref xs)])) rfl (hb hby at_978) rfl (by decide) (cap := 2) (by decide) (by decide) (by decide) (by decide)
                  obtain ⟨ca, gq3⟩ : ∃ z, z = h2.size := ⟨_, rfl⟩
                  rw [← gq3] at A3 st3
                  have ne_xs_ca : xs ≠ ca := Nat.ne_of_lt (Nat.lt_of_lt_of_le A2.lt (Nat.le_of_eq gq3.symm))
                  have g_ca : n0 ≤ ca := Nat.le_trans (own_z0 O) (Nat.le_of_eq gq3.symm)
                  replace F_value_xs := F_value_xs.ext E3
                  replace F_coder_xs := F_coder_xs.ext E3
                  replace A2 := A2.ext E3
                  replace O := O.ext E3
                  replace hk := Nat.le_trans hk E3.1
                  have V_ca : Arv Z h3 ca kA3 .char (2 : Int32) [(.int (0 : Int32)), (.int (0 : Int32))] (.int (0 : Int32)) := (Arv.new A3 (by decide)).pad (pad_rep [] (.int (0 : Int32)) 2)
                  refine Out.via (g' := (mkF m 980 #[.val (.int p0), .val (.int p1), .val (.int p2), .val (.int p3), .val (.int (0 : Int32)), .val (.int sh), .val (.int c1), .val (.int c2), .val (.ref s11), .unset, .val .null, .unset, .unset, .unset] [(.ref ca), (.ref xs), (.ref xs)])) st3 ?_
                  have Kf4 := Keep.refl h3 [ca]
                  refine Out.via (g' := (mkF m 981 #[.val (.int p0), .val (.int p1), .val (.int p2), .val (.int p3), .val (.int (0 : Int32)), .val (.int sh), .val (.int c1), .val (.int c2), .val (.ref s11), .unset, .val .null, .unset, .unset, .unset] [(.ref ca), (.ref ca), (.ref xs), (.ref xs)])) (fun _ k => XS.dup X3.here hx rfl (hb hby at_980) rfl rfl k) ?_
                  refine Out.via (g' := (mkF m 982 #[.val (.int p0), .val (.int p1), .val (.int p2), .val (.int p3), .val (.int (0 : Int32)), .val (.int sh), .val (.int c1), .val (.int c2), .val (.ref s11), .unset, .val .null, .unset, .unset, .unset] [(.int (0 : Int32)), (.ref ca), (.ref ca), (.ref xs), (.ref xs)])) (fun _ k => XS.iconst X3.here hx rfl (hb hby at_981) k) ?_
                  refine Out.via (g' := (mkF m 984 #[.val (.int p0), .val (.int p1), .val (.int p2), .val (.int p3), .val (.int (0 : Int32)), .val (.int sh), .val (.int c1), .val (.int c2), .val (.ref s11), .unset, .val .null, .unset, .unset, .unset] [(.int c1), (.int (0 : Int32)), (.ref ca), (.ref ca), (.ref xs), (.ref xs)])) (fun _ k => XS.iload X3.here hx rfl (hb hby at_982) rfl k) ?_
                  obtain ⟨T5, h5, L5, X5, e5, V_ca, N0, O, Kf4, st5⟩ := own_stC X3 hx hZ e3 V_ca (j := (0 : Int32)) ⟨by decide, by decide⟩ 0 rfl (Nat.le_of_ble_eq_true rfl) g_ca N0 O Kf4 (Or.inl (List.mem_of_getElem? (i := 0) rfl)) (g := (mkF m 984 #[.val (.int p0), .val (.int p1), .val (.int p2), .val (.int p3), .val (.int (0 : Int32)), .val (.int sh), .val (.int c1), .val (.int c2), .val (.ref s11), .unset, .val .null, .unset, .unset, .unset] [(.int c1), (.int (0 : Int32)), (.ref ca), (.ref ca), (.ref xs), (.ref xs)])) rfl rfl (hb hby at_984)
                  refine Out.via (g' := (mkF m 985 #[.val (.int p0), .val (.int p1), .val (.int p2), .val (.int p3), .val (.int (0 : Int32)), .val (.int sh), .val (.int c1), .val (.int c2), .val (.ref s11), .unset, .val .null, .unset, .unset, .unset] [(.ref ca), (.ref xs), (.ref xs)])) st5 ?_
                  refine Out.via (g' := (mkF m 986 #[.val (.int p0), .val (.int p1), .val (.int p2), .val (.int p3), .val (.int (0 : Int32)), .val (.int sh), .val (.int c1), .val (.int c2), .val (.ref s11), .unset, .val .null, .unset, .unset, .unset] [(.ref ca), (.ref ca), (.ref xs), (.ref xs)])) (fun _ k => XS.dup X5.here hx rfl (hb hby at_985) rfl rfl k) ?_
                  refine Out.via (g' := (mkF m 987 #[.val (.int p0), .val (.int p1), .val (.int p2), .val (.int p3), .val (.int (0 : Int32)), .val (.int sh), .val (.int c1), .val (.int c2), .val (.ref s11), .unset, .val .null, .unset, .unset, .unset] [(.int (1 : Int32)), (.ref ca), (.ref ca), (.ref xs), (.ref xs)])) (fun _ k => XS.iconst X5.here hx rfl (hb hby at_986) k) ?_
                  refine Out.via (g' := (mkF m 989 #[.val (.int p0), .val (.int p1), .val (.int p2), .val (.int p3), .val (.int (0 : Int32)), .val (.int sh), .val (.int c1), .val (.int c2), .val (.ref s11), .unset, .val .null, .unset, .unset, .unset] [(.int c2), (.int (1 : Int32)), (.ref ca), (.ref ca), (.ref xs), (.ref xs)])) (fun _ k => XS.iload X5.here hx rfl (hb hby at_987) rfl k) ?_
                  obtain ⟨T6, h6, L6, X6, e6, V_ca, N0, O, Kf4, st6⟩ := own_stC X5 hx hZ e5 V_ca (j := (1 : Int32)) ⟨by decide, by decide⟩ 1 rfl (Nat.le_of_ble_eq_true rfl) g_ca N0 O Kf4 (Or.inl (List.mem_of_getElem? (i := 0) rfl)) (g := (mkF m 989 #[.val (.int p0), .val (.int p1), .val (.int p2), .val (.int p3), .val (.int (0 : Int32)), .val (.int sh), .val (.int c1), .val (.int c2), .val (.ref s11), .unset, .val .null, .unset, .unset, .unset] [(.int c2), (.int (1 : Int32)), (.ref ca), (.ref ca), (.ref xs), (.ref xs)])) rfl rfl (hb hby at_989)
                  refine Out.via (g' := (mkF m 990 #[.val (.int p0), .val (.int p1), .val (.int p2), .val (.int p3), .val (.int (0 : Int32)), .val (.int sh), .val (.int c1), .val (.int c2), .val (.ref s11), .unset, .val .null, .unset, .unset, .unset] [(.ref ca), (.ref xs), (.ref xs)])) st6 ?_
                  replace V_ca : Arv Z h6 ca kA3 .char (2 : Int32) [(.int (nar .char c1)), (.int (nar .char c2))] (.int (0 : Int32)) := V_ca
                  replace hk : _ ≤ h6.size := Nat.le_trans hk Kf4.1
                  replace F_value_xs := F_value_xs.keep Kf4 (ninS ne_xs_ca nin0)
                  replace F_coder_xs := F_coder_xs.keep Kf4 (ninS ne_xs_ca nin0)
                  replace A2 := A2.keep Kf4
                  have hp : ∀ c ∈ ([nar .char c1, nar .char c2] : List Int32), own_lat c := own_allS (by rw [own_lat_nar D_c1]; exact D_c1) (own_allS (by rw [own_lat_nar D_c2]; exact D_c2) own_all0)
                  obtain ⟨_, _, ⟨T7, L7, kc7, ks7⟩, -, X7, ⟨Lc7, hQ7, l7, y7, z7⟩, st7⟩ := X6.specialBack hx (y := (⟨"java/lang/String", "<init>", "([C)V"⟩ : MethodName)) rfl hown (mvT hZ (hw _ (List.mem_of_getElem? (i := 50) rfl))) (mvT hZ (hw _ (List.mem_of_getElem? (i := 51) rfl))) (mvT hZ (hw _ (List.mem_of_getElem? (i := 52) rfl))) (by decide) (StrChars.Road.backV (W := 1) hZ hws (kI := 4) (hw _ (List.mem_of_getElem? (i := 5) rfl)) (cs := ([nar .char c1, nar .char c2] : List Int32)) (bs := ([nar .char c1, nar .char c2] : List Int32).map (fun c => c.toInt8.toInt32)) (n := 2) g_xs (own_z0 O) A2 F_value_xs F_coder_xs V_ca (O2.ext O.2) P5 rfl rfl (by decide) (by decide) hp rfl (by decide) (by decide)) (g := (mkF m 990 #[.val (.int p0), .val (.int p1), .val (.int p2), .val (.int p3), .val (.int (0 : Int32)), .val (.int sh), .val (.int c1), .val (.int c2), .val (.ref s11), .unset, .val .null, .unset, .unset, .unset] [(.ref ca), (.ref xs), (.ref xs)])) rfl (by rw [hml]; rfl) (Steps.refl _) (a := xs) (argsL := [(.ref ca)]) (rest := [(.ref xs)]) (lenOf own_pd11 rfl) rfl (by show 2 * 0 + _ ≤ _; exact Nat.le_of_eq rfl) (hb hby at_990) (fun _ _ => ⟨rfl, e6, (by decide : 2 + 1 ≤ _), (by decide : 6 + 2 ≤ _)⟩)
                  dsimp only [Pt.U, Pt.locs, Pt.cells, Pt.slots] at X7 l7 y7 z7 st7 hQ7
                  subst l7 y7 z7
                  obtain ⟨rfl, Nq7, Kq7, Eq, Cq, tb, kb, ut, vt, wt, Vq, Aq⟩ := hQ7
                  replace N0 := Fr.app N0 Nq7
                  replace hk : _ ≤ T7.heap.size := Nat.le_trans hk Kq7.1
                  replace A2 := A2.keep Kq7
                  replace V_ca := V_ca.keep Kq7 (ninS (Ne.symm ne_xs_ca) nin0)
                  replace O := O.keep Kq7 (allS g_xs all0)
                  refine Out.to (g' := (mkF m 993 #[.val (.int p0), .val (.int p1), .val (.int p2), .val (.int p3), .val (.int (0 : Int32)), .val (.int sh), .val (.int c1), .val (.int c2), .val (.ref s11), .unset, .val .null, .unset, .unset, .unset] [(.ref xs)])) st7 ?_
                  have Sx : own_Str Z T7.heap xs ([nar .char c1, nar .char c2] : List Int32) := ⟨hp, Eq, Cq, tb, kb, Vq, Aq⟩
                  refine Out.via (g' := (mkF m 995 #[.val (.int p0), .val (.int p1), .val (.int p2), .val (.int p3), .val (.int (0 : Int32)), .val (.int sh), .val (.int c1), .val (.int c2), .val (.ref s11), .val (.ref xs), .val .null, .unset, .unset, .unset] [])) (fun _ k => XS.astore X7.here hx rfl (hb hby at_993) rfl rfl (l' := #[.val (.int p0), .val (.int p1), .val (.int p2), .val (.int p3), .val (.int (0 : Int32)), .val (.int sh), .val (.int c1), .val (.int c2), .val (.ref s11), .val (.ref xs), .val .null, .unset, .unset, .unset]) rfl k) ?_
                  exact own_tail #[.val (.int p0), .val (.int p1), .val (.int p2), .val (.int p3), .val (.int (0 : Int32)), .val (.int sh), .val (.int c1), .val (.int c2), .val (.ref s11), .val (.ref xs), .val .null, .unset, .unset, .unset] xs va s11 s12 m11 m12 kv ([nar .char c1, nar .char c2] : List Int32) G1 .null X7 hx hS hk hZ hw hby hml hown Bd.returns Bd.notSynchronized rfl O N0 Sx (Nat.le_of_ble_eq_true rfl) SVA EVA AVA F11 S11 F12 S12 O2 P5 (own_Ans.len (by show 2 ≠ 8; decide) (by show 2 ≠ 20; decide)) rfl rfl rfl (by decide) (by decide)
  · refine Out.via (g' := (mkF m 6 #[.val (.int p0), .val (.int p1), .val (.int p2), .val (.int p3), .unset, .unset, .unset, .unset, .unset, .unset, .unset, .unset, .unset, .unset] [])) (fun _ k => XS.ifNo X0.here hx rfl (hb hby at_3) rfl ((if0 _ _).trans (feq hf).1) k) ?_
    refine Out.via (g' := (mkF m 7 #[.val (.int p0), .val (.int p1), .val (.int p2), .val (.int p3), .unset, .unset, .unset, .unset, .unset, .unset, .unset, .unset, .unset, .unset] [(.int (1 : Int32))])) (fun _ k => XS.iconst X0.here hx rfl (hb hby at_6) k) ?_
    refine Out.via (g' := (mkF m 11 #[.val (.int p0), .val (.int p1), .val (.int p2), .val (.int p3), .unset, .unset, .unset, .unset, .unset, .unset, .unset, .unset, .unset, .unset] [(.int (1 : Int32))])) (fun _ k => XS.goto X0.here hx rfl (pc0 := 7) (pc' := 11) rfl (hb hby at_7) (by decide) (by decide) k) ?_
    refine Out.via (g' := (mkF m 13 #[.val (.int p0), .val (.int p1), .val (.int p2), .val (.int p3), .val (.int (1 : Int32)), .unset, .unset, .unset, .unset, .unset, .unset, .unset, .unset, .unset] [])) (fun _ k => XS.istore X0.here hx rfl (hb hby at_11) rfl (l' := #[.val (.int p0), .val (.int p1), .val (.int p2), .val (.int p3), .val (.int (1 : Int32)), .unset, .unset, .unset, .unset, .unset, .unset, .unset, .unset, .unset]) rfl k) ?_
    refine Out.via (g' := (mkF m 14 #[.val (.int p0), .val (.int p1), .val (.int p2), .val (.int p3), .val (.int (1 : Int32)), .unset, .unset, .unset, .unset, .unset, .unset, .unset, .unset, .unset] [(.int p0)])) (fun _ k => XS.iloadN X0.here hx rfl (hb hby at_13) rfl k) ?_
    refine Out.via (g' := (mkF m 15 #[.val (.int p0), .val (.int p1), .val (.int p2), .val (.int p3), .val (.int (1 : Int32)), .unset, .unset, .unset, .unset, .unset, .unset, .unset, .unset, .unset] [(.int (1 : Int32)), (.int p0)])) (fun _ k => XS.iconst X0.here hx rfl (hb hby at_14) k) ?_
    refine Out.via (g' := (mkF m 16 #[.val (.int p0), .val (.int p1), .val (.int p2), .val (.int p3), .val (.int (1 : Int32)), .unset, .unset, .unset, .unset, .unset, .unset, .unset, .unset, .unset] [(.int ((p0.toUInt32 >>> ((1 : Int32) &&& 31).toUInt32).toInt32))])) (fun _ k => XS.iushr X0.here hx rfl (hb hby at_15) rfl k) ?_
    refine Out.via (g' := (mkF m 18 #[.val (.int p0), .val (.int p1), .val (.int p2), .val (.int p3), .val (.int (1 : Int32)), .unset, .unset, .unset, .unset, .unset, .unset, .unset, .unset, .unset] [(.int (7 : Int32)), (.int ((p0.toUInt32 >>> ((1 : Int32) &&& 31).toUInt32).toInt32))])) (fun _ k => XS.bipush X0.here hx rfl (hb hby at_16) k) ?_
    refine Out.via (g' := (mkF m 19 #[.val (.int p0), .val (.int p1), .val (.int p2), .val (.int p3), .val (.int (1 : Int32)), .unset, .unset, .unset, .unset, .unset, .unset, .unset, .unset, .unset] [(.int (((p0.toUInt32 >>> ((1 : Int32) &&& 31).toUInt32).toInt32) &&& (7 : Int32)))])) (fun _ k => XS.iand X0.here hx rfl (hb hby at_18) rfl k) ?_
    refine Out.via (g' := (mkF m 21 #[.val (.int p0), .val (.int p1), .val (.int p2), .val (.int p3), .val (.int (1 : Int32)), .val (.int (((p0.toUInt32 >>> ((1 : Int32) &&& 31).toUInt32).toInt32) &&& (7 : Int32))), .unset, .unset, .unset, .unset, .unset, .unset, .unset, .unset] [])) (fun _ k => XS.istore X0.here hx rfl (hb hby at_19) rfl (l' := #[.val (.int p0), .val (.int p1), .val (.int p2), .val (.int p3), .val (.int (1 : Int32)), .val (.int (((p0.toUInt32 >>> ((1 : Int32) &&& 31).toUInt32).toInt32) &&& (7 : Int32))), .unset, .unset, .unset, .unset, .unset, .unset, .unset, .unset]) rfl k) ?_
    generalize hq_sh : (((p0.toUInt32 >>> ((1 : Int32) &&& 31).toUInt32).toInt32) &&& (7 : Int32)) = sh
    refine Out.via (g' := (mkF m 22 #[.val (.int p0), .val (.int p1), .val (.int p2), .val (.int p3), .val (.int (1 : Int32)), .val (.int sh), .unset, .unset, .unset, .unset, .unset, .unset, .unset, .unset] [(.int p1)])) (fun _ k => XS.iloadN X0.here hx rfl (hb hby at_21) rfl k) ?_
    refine Out.via (g' := (mkF m 25 #[.val (.int p0), .val (.int p1), .val (.int p2), .val (.int p3), .val (.int (1 : Int32)), .val (.int sh), .unset, .unset, .unset, .unset, .unset, .unset, .unset, .unset] [(.int (255 : Int32)), (.int p1)])) (fun _ k => XS.sipush X0.here hx rfl (hb hby at_22) k) ?_
    refine Out.via (g' := (mkF m 26 #[.val (.int p0), .val (.int p1), .val (.int p2), .val (.int p3), .val (.int (1 : Int32)), .val (.int sh), .unset, .unset, .unset, .unset, .unset, .unset, .unset, .unset] [(.int (p1 &&& (255 : Int32)))])) (fun _ k => XS.iand X0.here hx rfl (hb hby at_25) rfl k) ?_
    refine Out.via (g' := (mkF m 27 #[.val (.int p0), .val (.int p1), .val (.int p2), .val (.int p3), .val (.int (1 : Int32)), .val (.int sh), .unset, .unset, .unset, .unset, .unset, .unset, .unset, .unset] [(.int ((p1 &&& (255 : Int32)).toUInt32.toUInt16.toUInt32.toInt32))])) (fun _ k => XS.i2c X0.here hx rfl (hb hby at_26) rfl k) ?_
    refine Out.via (g' := (mkF m 29 #[.val (.int p0), .val (.int p1), .val (.int p2), .val (.int p3), .val (.int (1 : Int32)), .val (.int sh), .val (.int ((p1 &&& (255 : Int32)).toUInt32.toUInt16.toUInt32.toInt32)), .unset, .unset, .unset, .unset, .unset, .unset, .unset] [])) (fun _ k => XS.istore X0.here hx rfl (hb hby at_27) rfl (l' := #[.val (.int p0), .val (.int p1), .val (.int p2), .val (.int p3), .val (.int (1 : Int32)), .val (.int sh), .val (.int ((p1 &&& (255 : Int32)).toUInt32.toUInt16.toUInt32.toInt32)), .unset, .unset, .unset, .unset, .unset, .unset, .unset]) rfl k) ?_
    generalize hq_c1 : ((p1 &&& (255 : Int32)).toUInt32.toUInt16.toUInt32.toInt32) = c1
    have D_c1 : own_lat c1 := hq_c1 ▸ own_mask _
    refine Out.via (g' := (mkF m 30 #[.val (.int p0), .val (.int p1), .val (.int p2), .val (.int p3), .val (.int (1 : Int32)), .val (.int sh), .val (.int c1), .unset, .unset, .unset, .unset, .unset, .unset, .unset] [(.int p3)])) (fun _ k => XS.iloadN X0.here hx rfl (hb hby at_29) rfl k) ?_
    refine Out.via (g' := (mkF m 33 #[.val (.int p0), .val (.int p1), .val (.int p2), .val (.int p3), .val (.int (1 : Int32)), .val (.int sh), .val (.int c1), .unset, .unset, .unset, .unset, .unset, .unset, .unset] [(.int (255 : Int32)), (.int p3)])) (fun _ k => XS.sipush X0.here hx rfl (hb hby at_30) k) ?_
    refine Out.via (g' := (mkF m 34 #[.val (.int p0), .val (.int p1), .val (.int p2), .val (.int p3), .val (.int (1 : Int32)), .val (.int sh), .val (.int c1), .unset, .unset, .unset, .unset, .unset, .unset, .unset] [(.int (p3 &&& (255 : Int32)))])) (fun _ k => XS.iand X0.here hx rfl (hb hby at_33) rfl k) ?_
    refine Out.via (g' := (mkF m 35 #[.val (.int p0), .val (.int p1), .val (.int p2), .val (.int p3), .val (.int (1 : Int32)), .val (.int sh), .val (.int c1), .unset, .unset, .unset, .unset, .unset, .unset, .unset] [(.int ((p3 &&& (255 : Int32)).toUInt32.toUInt16.toUInt32.toInt32))])) (fun _ k => XS.i2c X0.here hx rfl (hb hby at_34) rfl k) ?_
    refine Out.via (g' := (mkF m 37 #[.val (.int p0), .val (.int p1), .val (.int p2), .val (.int p3), .val (.int (1 : Int32)), .val (.int sh), .val (.int c1), .val (.int ((p3 &&& (255 : Int32)).toUInt32.toUInt16.toUInt32.toInt32)), .unset, .unset, .unset, .unset, .unset, .unset] [])) (fun _ k => XS.istore X0.here hx rfl (hb hby at_35) rfl (l' := #[.val (.int p0), .val (.int p1), .val (.int p2), .val (.int p3), .val (.int (1 : Int32)), .val (.int sh), .val (.int c1), .val (.int ((p3 &&& (255 : Int32)).toUInt32.toUInt16.toUInt32.toInt32)), .unset, .unset, .unset, .unset, .unset, .unset]) rfl k) ?_
    generalize hq_c2 : ((p3 &&& (255 : Int32)).toUInt32.toUInt16.toUInt32.toInt32) = c2
    have D_c2 : own_lat c2 := hq_c2 ▸ own_mask _
    refine Out.via (g' := (mkF m 39 #[.val (.int p0), .val (.int p1), .val (.int p2), .val (.int p3), .val (.int (1 : Int32)), .val (.int sh), .val (.int c1), .val (.int c2), .unset, .unset, .unset, .unset, .unset, .unset] [(.int (1 : Int32))])) (fun _ k => XS.iload X0.here hx rfl (hb hby at_37) rfl k) ?_
    refine Out.via (g' := (mkF m 42 #[.val (.int p0), .val (.int p1), .val (.int p2), .val (.int p3), .val (.int (1 : Int32)), .val (.int sh), .val (.int c1), .val (.int c2), .unset, .unset, .unset, .unset, .unset, .unset] [])) (fun _ k => XS.ifNo X0.here hx rfl (hb hby at_39) rfl ((if0 _ _).trans (feq (by decide)).1) k) ?_
    obtain ⟨T1, X1, e1, st1⟩ := getS2 X0 hx hZ hown (host := "") (Or.inl (hw _ (List.mem_of_getElem? (i := 47) rfl))) Via.refl e0 (V12.ext O.2) (g := (mkF m 42 #[.val (.int p0), .val (.int p1), .val (.int p2), .val (.int p3), .val (.int (1 : Int32)), .val (.int sh), .val (.int c1), .val (.int c2), .unset, .unset, .unset, .unset, .unset, .unset] [])) rfl (hb hby at_42)
    refine Out.via (g' := (mkF m 45 #[.val (.int p0), .val (.int p1), .val (.int p2), .val (.int p3), .val (.int (1 : Int32)), .val (.int sh), .val (.int c1), .val (.int c2), .unset, .unset, .unset, .unset, .unset, .unset] [(.ref s12)])) st1 ?_
    refine Out.via (g' := (mkF m 51 #[.val (.int p0), .val (.int p1), .val (.int p2), .val (.int p3), .val (.int (1 : Int32)), .val (.int sh), .val (.int c1), .val (.int c2), .unset, .unset, .unset, .unset, .unset, .unset] [(.ref s12)])) (fun _ k => XS.goto X1.here hx rfl (pc0 := 45) (pc' := 51) rfl (hb hby at_45) (by decide) (by decide) k) ?_
    refine Out.via (g' := (mkF m 53 #[.val (.int p0), .val (.int p1), .val (.int p2), .val (.int p3), .val (.int (1 : Int32)), .val (.int sh), .val (.int c1), .val (.int c2), .val (.ref s12), .unset, .unset, .unset, .unset, .unset] [])) (fun _ k => XS.astore X1.here hx rfl (hb hby at_51) rfl rfl (l' := #[.val (.int p0), .val (.int p1), .val (.int p2), .val (.int p3), .val (.int (1 : Int32)), .val (.int sh), .val (.int c1), .val (.int c2), .val (.ref s12), .unset, .unset, .unset, .unset, .unset]) rfl k) ?_
    refine Out.via (g' := (mkF m 54 #[.val (.int p0), .val (.int p1), .val (.int p2), .val (.int p3), .val (.int (1 : Int32)), .val (.int sh), .val (.int c1), .val (.int c2), .val (.ref s12), .unset, .unset, .unset, .unset, .unset] [.null])) (fun _ k => XS.aconstNull X1.here hx rfl (hb hby at_53) k) ?_
    refine Out.via (g' := (mkF m 56 #[.val (.int p0), .val (.int p1), .val (.int p2), .val (.int p3), .val (.int (1 : Int32)), .val (.int sh), .val (.int c1), .val (.int c2), .val (.ref s12), .unset, .val .null, .unset, .unset, .unset] [])) (fun _ k => XS.astore X1.here hx rfl (hb hby at_54) rfl rfl (l' := #[.val (.int p0), .val (.int p1), .val (.int p2), .val (.int p3), .val (.int (1 : Int32)), .val (.int sh), .val (.int c1), .val (.int c2), .val (.ref s12), .unset, .val .null, .unset, .unset, .unset]) rfl k) ?_
    refine Out.via (g' := (mkF m 58 #[.val (.int p0), .val (.int p1), .val (.int p2), .val (.int p3), .val (.int (1 : Int32)), .val (.int sh), .val (.int c1), .val (.int c2), .val (.ref s12), .unset, .val .null, .unset, .unset, .unset] [(.int sh)])) (fun _ k => XS.iload X1.here hx rfl (hb hby at_56) rfl k) ?_
    by_cases h0c : sh = (0 : Int32)
    · refine Out.via (g' := (mkF m 61 #[.val (.int p0), .val (.int p1), .val (.int p2), .val (.int p3), .val (.int (1 : Int32)), .val (.int sh), .val (.int c1), .val (.int c2), .val (.ref s12), .unset, .val .null, .unset, .unset, .unset] [])) (fun _ k => XS.ifNo X1.here hx rfl (hb hby at_58) rfl ((if0 _ _).trans (teq h0c).2) k) ?_
      refine Out.via (g' := (mkF m 63 #[.val (.int p0), .val (.int p1), .val (.int p2), .val (.int p3), .val (.int (1 : Int32)), .val (.int sh), .val (.int c1), .val (.int c2), .val (.ref s12), .unset, .val .null, .unset, .unset, .unset] [(.int (1 : Int32))])) (fun _ k => XS.iload X1.here hx rfl (hb hby at_61) rfl k) ?_
      refine Out.via (g' := (mkF m 66 #[.val (.int p0), .val (.int p1), .val (.int p2), .val (.int p3), .val (.int (1 : Int32)), .val (.int sh), .val (.int c1), .val (.int c2), .val (.ref s12), .unset, .val .null, .unset, .unset, .unset] [])) (fun _ k => XS.ifNo X1.here hx rfl (hb hby at_63) rfl ((if0 _ _).trans (feq (by decide)).1) k) ?_
      obtain ⟨la, T2, h2, kk2, lb, kb_la, X2, e2, E2, hS, hk, hZ, hown, Eq_la, Cq_la, Vq_la, Aq_la, lt_la, lt_lb, CR2, Lit_la, nes_la, st2⟩ := ldcCH X1 hx hZ hown (hw _ (List.mem_of_getElem? (i := 69) rfl)) wS e1 hS hk hEL (by decide) CR.1 (vs := [(.int (97 : Int32)), (.int (112 : Int32)), (.int (112 : Int32)), (.int (108 : Int32)), (.int (105 : Int32)), (.int (99 : Int32)), (.int (97 : Int32)), (.int (116 : Int32)), (.int (105 : Int32)), (.int (111 : Int32)), (.int (110 : Int32)), (.int (47 : Int32)), (.int (115 : Int32)), (.int (111 : Int32)), (.int (97 : Int32)), (.int (112 : Int32)), (.int (43 : Int32)), (.int (120 : Int32)), (.int (109 : Int32)), (.int (108 : Int32))]) (z := (20 : Int32)) ⟨by decide, rfl⟩ (by decide) rfl (g := (mkF m 66 #[.val (.int p0), .val (.int p1), .val (.int p2), .val (.int p3), .val (.int (1 : Int32)), .val (.int sh), .val (.int c1), .val (.int c2), .val (.ref s12), .unset, .val .null, .unset, .unset, .unset] [])) rfl (hb hby at_66) (n := 80) (by decide) (by decide) (by decide) (by decide)
      replace O := O.ext E2
      have Sl : own_Str Z h2 la own_T12 := ⟨own_T12_lat, Eq_la, Cq_la, lb, kb_la, Vq_la, Aq_la⟩
      refine Out.via (g' := (mkF m 68 #[.val (.int p0), .val (.int p1), .val (.int p2), .val (.int p3), .val (.int (1 : Int32)), .val (.int sh), .val (.int c1), .val (.int c2), .val (.ref s12), .unset, .val .null, .unset, .unset, .unset] [(.ref la)])) st2 ?_
      refine Out.via (g' := (mkF m 73 #[.val (.int p0), .val (.int p1), .val (.int p2), .val (.int p3), .val (.int (1 : Int32)), .val (.int sh), .val (.int c1), .val (.int c2), .val (.ref s12), .unset, .val .null, .unset, .unset, .unset] [(.ref la)])) (fun _ k => XS.goto X2.here hx rfl (pc0 := 68) (pc' := 73) rfl (hb hby at_68) (by decide) (by decide) k) ?_
      refine Out.via (g' := (mkF m 75 #[.val (.int p0), .val (.int p1), .val (.int p2), .val (.int p3), .val (.int (1 : Int32)), .val (.int sh), .val (.int c1), .val (.int c2), .val (.ref s12), .val (.ref la), .val .null, .unset, .unset, .unset] [])) (fun _ k => XS.astore X2.here hx rfl (hb hby at_73) rfl rfl (l' := #[.val (.int p0), .val (.int p1), .val (.int p2), .val (.int p3), .val (.int (1 : Int32)), .val (.int sh), .val (.int c1), .val (.int c2), .val (.ref s12), .val (.ref la), .val .null, .unset, .unset, .unset]) rfl k) ?_
      refine Out.via (g' := (mkF m 77 #[.val (.int p0), .val (.int p1), .val (.int p2), .val (.int p3), .val (.int (1 : Int32)), .val (.int sh), .val (.int c1), .val (.int c2), .val (.ref s12), .val (.ref la), .val .null, .unset, .unset, .unset] [(.ref s12)])) (fun _ k => XS.aload X2.here hx rfl (hb hby at_75) rfl rfl k) ?_
      refine Out.via (g' := (mkF m 79 #[.val (.int p0), .val (.int p1), .val (.int p2), .val (.int p3), .val (.int (1 : Int32)), .val (.int sh), .val (.int c1), .val (.int c2), .val (.ref s12), .val (.ref la), .val (.ref s12), .unset, .unset, .unset] [])) (fun _ k => XS.astore X2.here hx rfl (hb hby at_77) rfl rfl (l' := #[.val (.int p0), .val (.int p1), .val (.int p2), .val (.int p3), .val (.int (1 : Int32)), .val (.int sh), .val (.int c1), .val (.int c2), .val (.ref s12), .val (.ref la), .val (.ref s12), .unset, .unset, .unset]) rfl k) ?_
      refine Out.via (g' := (mkF m 995 #[.val (.int p0), .val (.int p1), .val (.int p2), .val (.int p3), .val (.int (1 : Int32)), .val (.int sh), .val (.int c1), .val (.int c2), .val (.ref s12), .val (.ref la), .val (.ref s12), .unset, .unset, .unset] [])) (fun _ k => XS.goto X2.here hx rfl (pc0 := 79) (pc' := 995) rfl (hb hby at_79) (by decide) (by decide) k) ?_
      exact own_tail #[.val (.int p0), .val (.int p1), .val (.int p2), .val (.int p3), .val (.int (1 : Int32)), .val (.int sh), .val (.int c1), .val (.int c2), .val (.ref s12), .val (.ref la), .val (.ref s12), .unset, .unset, .unset] la va s11 s12 m11 m12 kv own_T12 G1 (.ref s12) X2 hx hS hk hZ hw hby hml hown Bd.returns Bd.notSynchronized e2 O N0 Sl (by decide) SVA EVA AVA F11 S11 F12 S12 O2 P5 (Or.inr (Or.inl ⟨by decide, rfl, rfl⟩)) rfl rfl rfl (by decide) (by decide)
    · refine Out.via (g' := (mkF m 82 #[.val (.int p0), .val (.int p1), .val (.int p2), .val (.int p3), .val (.int (1 : Int32)), .val (.int sh), .val (.int c1), .val (.int c2), .val (.ref s12), .unset, .val .null, .unset, .unset, .unset] [])) (fun _ k => XS.ifYes X1.here hx rfl (pc0 := 58) (pc' := 82) rfl (hb hby at_58) rfl ((if0 _ _).trans (feq h0c).2) (by decide) (by decide) k) ?_
      refine Out.via (g' := (mkF m 84 #[.val (.int p0), .val (.int p1), .val (.int p2), .val (.int p3), .val (.int (1 : Int32)), .val (.int sh), .val (.int c1), .val (.int c2), .val (.ref s12), .unset, .val .null, .unset, .unset, .unset] [(.int sh)])) (fun _ k => XS.iload X1.here hx rfl (hb hby at_82) rfl k) ?_
      refine Out.via (g' := (mkF m 85 #[.val (.int p0), .val (.int p1), .val (.int p2), .val (.int p3), .val (.int (1 : Int32)), .val (.int sh), .val (.int c1), .val (.int c2), .val (.ref s12), .unset, .val .null, .unset, .unset, .unset] [(.int (1 : Int32)), (.int sh)])) (fun _ k => XS.iconst X1.here hx rfl (hb hby at_84) k) ?_
      by_cases h1c : sh = (1 : Int32)
      · refine Out.via (g' := (mkF m 88 #[.val (.int p0), .val (.int p1), .val (.int p2), .val (.int p3), .val (.int (1 : Int32)), .val (.int sh), .val (.int c1), .val (.int c2), .val (.ref s12), .unset, .val .null, .unset, .unset, .unset] [])) (fun _ k => XS.icmpNo X1.here hx rfl (hb hby at_85) rfl (teq h1c).2 k) ?_
        refine Out.via (g' := (mkF m 90 #[.val (.int p0), .val (.int p1), .val (.int p2), .val (.int p3), .val (.int (1 : Int32)), .val (.int sh), .val (.int c1), .val (.int c2), .val (.ref s12), .unset, .val .null, .unset, .unset, .unset] [(.int (1 : Int32))])) (fun _ k => XS.iload X1.here hx rfl (hb hby at_88) rfl k) ?_
        refine Out.via (g' := (mkF m 93 #[.val (.int p0), .val (.int p1), .val (.int p2), .val (.int p3), .val (.int (1 : Int32)), .val (.int sh), .val (.int c1), .val (.int c2), .val (.ref s12), .unset, .val .null, .unset, .unset, .unset] [])) (fun _ k => XS.ifNo X1.here hx rfl (hb hby at_90) rfl ((if0 _ _).trans (feq (by decide)).1) k) ?_
        obtain ⟨_, _, ⟨T2, L2, kc2, ks2⟩, -, X2, ⟨Lc2, hQ2, l2, y2, z2⟩, st2⟩ := Jvm.LawKit.callS X1 hx (y := (⟨"com/example/queuebind/queuebind/SoapVersionOfMediaTypePinLaw", "soapChars", "()[C"⟩ : MethodName)) hown (mvT hZ (hw _ (List.mem_of_getElem? (i := 70) rfl))) (mvT hZ (hw _ (List.mem_of_getElem? (i := 71) rfl))) (mvT hZ (hw _ (List.mem_of_getElem? (i := 72) rfl))) (mvT hZ (hw _ (List.mem_of_getElem? (i := 73) rfl))) (by decide) (backOf (W := 0) (own_rmS l Z a0 hw [] h0 n0 O) hZ (hw _ (List.mem_of_getElem? (i := 73) rfl)) (hw _ (List.mem_of_getElem? (i := 72) rfl)) (by decide) (by decide)) (g := (mkF m 93 #[.val (.int p0), .val (.int p1), .val (.int p2), .val (.int p3), .val (.int (1 : Int32)), .val (.int sh), .val (.int c1), .val (.int c2), .val (.ref s12), .unset, .val .null, .unset, .unset, .unset] [])) rfl (by rw [hml]; rfl) (argsL := []) (rest := []) (lenOf own_pd10 rfl) rfl (by show 2 * 0 + _ ≤ _; exact Nat.le_of_eq rfl) (hb hby at_93) (fun _ _ => ⟨rfl, e1, (by decide : 0 + 1 ≤ _), (by decide : 0 + 20 ≤ _)⟩)
        dsimp only [Pt.U, Pt.locs, Pt.cells, Pt.slots] at X2 l2 y2 z2 st2 hQ2
        subst l2 y2 z2
        obtain ⟨ca, kca, rfl, Nq2, Kq2, le_ca, V_ca⟩ := hQ2
        replace N0 := Fr.app N0 Nq2
        have g_ca : n0 ≤ ca := Nat.le_trans (own_z0 O) le_ca
        replace hk : _ ≤ T2.heap.size := Nat.le_trans hk Kq2.1
        replace O := O.keep Kq2 all0
        refine Out.via (g' := (mkF m 96 #[.val (.int p0), .val (.int p1), .val (.int p2), .val (.int p3), .val (.int (1 : Int32)), .val (.int sh), .val (.int c1), .val (.int c2), .val (.ref s12), .unset, .val .null, .unset, .unset, .unset] [(.ref ca)])) st2 ?_
        refine Out.via (g' := (mkF m 102 #[.val (.int p0), .val (.int p1), .val (.int p2), .val (.int p3), .val (.int (1 : Int32)), .val (.int sh), .val (.int c1), .val (.int c2), .val (.ref s12), .unset, .val .null, .unset, .unset, .unset] [(.ref ca)])) (fun _ k => XS.goto X2.here hx rfl (pc0 := 96) (pc' := 102) rfl (hb hby at_96) (by decide) (by decide) k) ?_
        refine Out.via (g' := (mkF m 104 #[.val (.int p0), .val (.int p1), .val (.int p2), .val (.int p3), .val (.int (1 : Int32)), .val (.int sh), .val (.int c1), .val (.int c2), .val (.ref s12), .unset, .val .null, .val (.ref ca), .unset, .unset] [])) (fun _ k => XS.astore X2.here hx rfl (hb hby at_102) rfl rfl (l' := #[.val (.int p0), .val (.int p1), .val (.int p2), .val (.int p3), .val (.int (1 : Int32)), .val (.int sh), .val (.int c1), .val (.int c2), .val (.ref s12), .unset, .val .null, .val (.ref ca), .unset, .unset]) rfl k) ?_
        refine Out.via (g' := (mkF m 105 #[.val (.int p0), .val (.int p1), .val (.int p2), .val (.int p3), .val (.int (1 : Int32)), .val (.int sh), .val (.int c1), .val (.int c2), .val (.ref s12), .unset, .val .null, .val (.ref ca), .unset, .unset] [(.int p2)])) (fun _ k => XS.iloadN X2.here hx rfl (hb hby at_104) rfl k) ?_
        refine Out.via (g' := (mkF m 107 #[.val (.int p0), .val (.int p1), .val (.int p2), .val (.int p3), .val (.int (1 : Int32)), .val (.int sh), .val (.int c1), .val (.int c2), .val (.ref s12), .unset, .val .null, .val (.ref ca), .unset, .unset] [(.int (2147483647 : Int32)), (.int p2)])) (fun _ k => X2.ldcInt hx hown (mvT hZ (hw _ (List.mem_of_getElem? (i := 74) rfl))) (g := (mkF m 105 #[.val (.int p0), .val (.int p1), .val (.int p2), .val (.int p3), .val (.int (1 : Int32)), .val (.int sh), .val (.int c1), .val (.int c2), .val (.ref s12), .unset, .val .null, .val (.ref ca), .unset, .unset] [(.int p2)])) rfl (hb hby at_105) _ k) ?_
        refine Out.via (g' := (mkF m 108 #[.val (.int p0), .val (.int p1), .val (.int p2), .val (.int p3), .val (.int (1 : Int32)), .val (.int sh), .val (.int c1), .val (.int c2), .val (.ref s12), .unset, .val .null, .val (.ref ca), .unset, .unset] [(.int (p2 &&& (2147483647 : Int32)))])) (fun _ k => XS.iand X2.here hx rfl (hb hby at_107) rfl k) ?_
        refine Out.via (g' := (mkF m 110 #[.val (.int p0), .val (.int p1), .val (.int p2), .val (.int p3), .val (.int (1 : Int32)), .val (.int sh), .val (.int c1), .val (.int c2), .val (.ref s12), .unset, .val .null, .val (.ref ca), .unset, .unset] [(.ref ca), (.int (p2 &&& (2147483647 : Int32)))])) (fun _ k => XS.aload X2.here hx rfl (hb hby at_108) rfl rfl k) ?_
        obtain ⟨cl_ca, Ar_ca, q_ca, S_ca, M_ca, H_ca, G_ca⟩ := id V_ca
        refine Out.via (g' := (mkF m 111 #[.val (.int p0), .val (.int p1), .val (.int p2), .val (.int p3), .val (.int (1 : Int32)), .val (.int sh), .val (.int c1), .val (.int c2), .val (.ref s12), .unset, .val .null, .val (.ref ca), .unset, .unset] [(.int cl_ca.slots.size.toInt32), (.int (p2 &&& (2147483647 : Int32)))])) (fun _ k => X2.arraylength hx Ar_ca.1 (State.isArrayOf_alike hZ.alike Ar_ca.2.1) (g := (mkF m 110 #[.val (.int p0), .val (.int p1), .val (.int p2), .val (.int p3), .val (.int (1 : Int32)), .val (.int sh), .val (.int c1), .val (.int c2), .val (.ref s12), .unset, .val .null, .val (.ref ca), .unset, .unset] [(.ref ca), (.int (p2 &&& (2147483647 : Int32)))])) rfl rfl (hb hby at_110) _ k) ?_
        rw [len_of S_ca M_ca]
        refine Out.via (g' := (mkF m 112 #[.val (.int p0), .val (.int p1), .val (.int p2), .val (.int p3), .val (.int (1 : Int32)), .val (.int sh), .val (.int c1), .val (.int c2), .val (.ref s12), .unset, .val .null, .val (.ref ca), .unset, .unset] [(.int ((p2 &&& (2147483647 : Int32)) % (20 : Int32)))])) (fun _ k => iremM (g := (mkF m 111 #[.val (.int p0), .val (.int p1), .val (.int p2), .val (.int p3), .val (.int (1 : Int32)), .val (.int sh), .val (.int c1), .val (.int c2), .val (.ref s12), .unset, .val .null, .val (.ref ca), .unset, .unset] [(.int (20 : Int32)), (.int (p2 &&& (2147483647 : Int32)))])) X2 hx rfl (hb hby at_111) rfl (by decide) k) ?_
        refine Out.via (g' := (mkF m 114 #[.val (.int p0), .val (.int p1), .val (.int p2), .val (.int p3), .val (.int (1 : Int32)), .val (.int sh), .val (.int c1), .val (.int c2), .val (.ref s12), .unset, .val .null, .val (.ref ca), .val (.int ((p2 &&& (2147483647 : Int32)) % (20 : Int32))), .unset] [])) (fun _ k => XS.istore X2.here hx rfl (hb hby at_112) rfl (l' := #[.val (.int p0), .val (.int p1), .val (.int p2), .val (.int p3), .val (.int (1 : Int32)), .val (.int sh), .val (.int c1), .val (.int c2), .val (.ref s12), .unset, .val .null, .val (.ref ca), .val (.int ((p2 &&& (2147483647 : Int32)) % (20 : Int32))), .unset]) rfl k) ?_
        have hpos := own_pos p2 (20 : Int32) 20 rfl (by decide)
        generalize hq_ps : ((p2 &&& (2147483647 : Int32)) % (20 : Int32)) = ps at hpos
        have hi : ps.toNatClampNeg < own_T12.length := own_nat hpos
        refine Out.via (g' := (mkF m 116 #[.val (.int p0), .val (.int p1), .val (.int p2), .val (.int p3), .val (.int (1 : Int32)), .val (.int sh), .val (.int c1), .val (.int c2), .val (.ref s12), .unset, .val .null, .val (.ref ca), .val (.int ps), .unset] [(.ref ca)])) (fun _ k => XS.aload X2.here hx rfl (hb hby at_114) rfl rfl k) ?_
        refine Out.via (g' := (mkF m 118 #[.val (.int p0), .val (.int p1), .val (.int p2), .val (.int p3), .val (.int (1 : Int32)), .val (.int sh), .val (.int c1), .val (.int c2), .val (.ref s12), .unset, .val .null, .val (.ref ca), .val (.int ps), .unset] [(.int ps), (.ref ca)])) (fun _ k => XS.iload X2.here hx rfl (hb hby at_116) rfl k) ?_
        have hin : ¬ (ps < 0 ∨ cl_ca.slots.size ≤ ps.toNatClampNeg) := inb_of S_ca hpos
        refine Out.via (g' := (mkF m 119 #[.val (.int p0), .val (.int p1), .val (.int p2), .val (.int p3), .val (.int (1 : Int32)), .val (.int sh), .val (.int c1), .val (.int c2), .val (.ref s12), .unset, .val .null, .val (.ref ca), .val (.int ps), .unset] [(.int (own_T12.getD ps.toNatClampNeg 0))])) (fun _ k => X2.caload hx (j := ps) (v := (.int (own_T12.getD ps.toNatClampNeg 0))) Ar_ca.1 (State.isArrayOf_alike hZ.alike Ar_ca.2.1) Ar_ca.2.2 hin (H_ca.at hin (own_getD own_T12 _)) (g := (mkF m 118 #[.val (.int p0), .val (.int p1), .val (.int p2), .val (.int p3), .val (.int (1 : Int32)), .val (.int sh), .val (.int c1), .val (.int c2), .val (.ref s12), .unset, .val .null, .val (.ref ca), .val (.int ps), .unset] [(.int ps), (.ref ca)])) rfl rfl (hb hby at_118) _ k) ?_
        refine Out.via (g' := (mkF m 121 #[.val (.int p0), .val (.int p1), .val (.int p2), .val (.int p3), .val (.int (1 : Int32)), .val (.int sh), .val (.int c1), .val (.int c2), .val (.ref s12), .unset, .val .null, .val (.ref ca), .val (.int ps), .val (.int (own_T12.getD ps.toNatClampNeg 0))] [])) (fun _ k => XS.istore X2.here hx rfl (hb hby at_119) rfl (l' := #[.val (.int p0), .val (.int p1), .val (.int p2), .val (.int p3), .val (.int (1 : Int32)), .val (.int sh), .val (.int c1), .val (.int c2), .val (.ref s12), .unset, .val .null, .val (.ref ca), .val (.int ps), .val (.int (own_T12.getD ps.toNatClampNeg 0))]) rfl k) ?_
        refine Out.via (g' := (mkF m 123 #[.val (.int p0), .val (.int p1), .val (.int p2), .val (.int p3), .val (.int (1 : Int32)), .val (.int sh), .val (.int c1), .val (.int c2), .val (.ref s12), .unset, .val .null, .val (.ref ca), .val (.int ps), .val (.int (own_T12.getD ps.toNatClampNeg 0))] [(.ref ca)])) (fun _ k => XS.aload X2.here hx rfl (hb hby at_121) rfl rfl k) ?_
        refine Out.via (g' := (mkF m 125 #[.val (.int p0), .val (.int p1), .val (.int p2), .val (.int p3), .val (.int (1 : Int32)), .val (.int sh), .val (.int c1), .val (.int c2), .val (.ref s12), .unset, .val .null, .val (.ref ca), .val (.int ps), .val (.int (own_T12.getD ps.toNatClampNeg 0))] [(.int ps), (.ref ca)])) (fun _ k => XS.iload X2.here hx rfl (hb hby at_123) rfl k) ?_
        refine Out.via (g' := (mkF m 127 #[.val (.int p0), .val (.int p1), .val (.int p2), .val (.int p3), .val (.int (1 : Int32)), .val (.int sh), .val (.int c1), .val (.int c2), .val (.ref s12), .unset, .val .null, .val (.ref ca), .val (.int ps), .val (.int (own_T12.getD ps.toNatClampNeg 0))] [(.int c1), (.int ps), (.ref ca)])) (fun _ k => XS.iload X2.here hx rfl (hb hby at_125) rfl k) ?_
        have Kf := Keep.refl T2.heap [ca]
        obtain ⟨T3, h3, L3, X3, e3, V_ca, N0, O, Kf, st3⟩ := own_stC X2 hx hZ rfl V_ca (j := ps) hpos ps.toNatClampNeg rfl (by rw [List.length_map]; exact hi) g_ca N0 O Kf (Or.inl (List.mem_of_getElem? (i := 0) rfl)) (g := (mkF m 127 #[.val (.int p0), .val (.int p1), .val (.int p2), .val (.int p3), .val (.int (1 : Int32)), .val (.int sh), .val (.int c1), .val (.int c2), .val (.ref s12), .unset, .val .null, .val (.ref ca), .val (.int ps), .val (.int (own_T12.getD ps.toNatClampNeg 0))] [(.int c1), (.int ps), (.ref ca)])) rfl rfl (hb hby at_127)
        rw [own_lat_nar D_c1, ← List.map_set] at V_ca
        replace hk := Nat.le_trans hk Kf.1
        refine Out.via (g' := (mkF m 128 #[.val (.int p0), .val (.int p1), .val (.int p2), .val (.int p3), .val (.int (1 : Int32)), .val (.int sh), .val (.int c1), .val (.int c2), .val (.ref s12), .unset, .val .null, .val (.ref ca), .val (.int ps), .val (.int (own_T12.getD ps.toNatClampNeg 0))] [])) st3 ?_
        obtain ⟨T4, h4, X4, e4, E4, A4, D4, -, st4⟩ := newO X3 hx hZ hown (hw _ (List.mem_of_getElem? (i := 48) rfl)) (hw _ (List.mem_of_getElem? (i := 5) rfl)) (hw _ (List.mem_of_getElem? (i := 4) rfl)) e3 (g := (mkF m 128 #[.val (.int p0), .val (.int p1), .val (.int p2), .val (.int p3), .val (.int (1 : Int32)), .val (.int sh), .val (.int c1), .val (.int c2), .val (.ref s12), .unset, .val .null, .val (.ref ca), .val (.int ps), .val (.int (own_T12.getD ps.toNatClampNeg 0))] [])) rfl (hb hby at_128) (by decide) (by decide)
        obtain ⟨xs, gq4⟩ : ∃ z, z = h3.size := ⟨_, rfl⟩
        rw [← gq4] at A4 D4 st4
        have ne_ca_xs : ca ≠ xs := Nat.ne_of_lt (Nat.lt_of_lt_of_le V_ca.lt (Nat.le_of_eq gq4.symm))
        have g_xs : n0 ≤ xs := Nat.le_trans (own_z0 O) (Nat.le_of_eq gq4.symm)
        replace V_ca := V_ca.ext E4
        replace O := O.ext E4
        replace hk := Nat.le_trans hk E4.1
        have F_value_xs : Fld Z h4 xs "java/lang/String" "value" "[B" .null := D4 (Or.inr (hw _ (List.mem_of_getElem? (i := 7) rfl))) (ty := (.array .byte)) (by decide)
        have F_coder_xs : Fld Z h4 xs "java/lang/String" "coder" "B" (.int (0 : Int32)) := D4 (Or.inr (hw _ (List.mem_of_getElem? (i := 8) rfl))) (ty := .byte) (by decide)
        refine Out.via (g' := (mkF m 131 #[.val (.int p0), .val (.int p1), .val (.int p2), .val (.int p3), .val (.int (1 : Int32)), .val (.int sh), .val (.int c1), .val (.int c2), .val (.ref s12), .unset, .val .null, .val (.ref ca), .val (.int ps), .val (.int (own_T12.getD ps.toNatClampNeg 0))] [(.ref xs)])) st4 ?_
        refine Out.via (g' := (mkF m 132 #[.val (.int p0), .val (.int p1), .val (.int p2), .val (.int p3), .val (.int (1 : Int32)), .val (.int sh), .val (.int c1), .val (.int c2), .val (.ref s12), .unset, .val .null, .val (.ref ca), .val (.int ps), .val (.int (own_T12.getD ps.toNatClampNeg 0))] [(.ref xs), (.ref xs)])) (fun _ k => XS.dup X4.here hx rfl (hb hby at_131) rfl rfl k) ?_
        refine Out.via (g' := (mkF m 134 #[.val (.int p0), .val (.int p1), .val (.int p2), .val (.int p3), .val (.int (1 : Int32)), .val (.int sh), .val (.int c1), .val (.int c2), .val (.ref s12), .unset, .val .null, .val (.ref ca), .val (.int ps), .val (.int (own_T12.getD ps.toNatClampNeg 0))] [(.ref ca), (.ref xs), (.ref xs)])) (fun _ k => XS.aload X4.here hx rfl (hb hby at_132) rfl rfl k) ?_
        have hp := own_set_lat (i := ps.toNatClampNeg) own_T12_lat D_c1
        obtain ⟨_, _, ⟨T5, L5, kc5, ks5⟩, -, X5, ⟨Lc5, hQ5, l5, y5, z5⟩, st5⟩ := X4.specialBack hx (y := (⟨"java/lang/String", "<init>", "([C)V"⟩ : MethodName)) rfl hown (mvT hZ (hw _ (List.mem_of_getElem? (i := 50) rfl))) (mvT hZ (hw _ (List.mem_of_getElem? (i := 51) rfl))) (mvT hZ (hw _ (List.mem_of_getElem? (i := 52) rfl))) (by decide) (StrChars.Road.backV (W := 1) hZ hws (kI := 4) (hw _ (List.mem_of_getElem? (i := 5) rfl)) (cs := (own_T12.set ps.toNatClampNeg c1)) (bs := (own_T12.set ps.toNatClampNeg c1).map (fun c => c.toInt8.toInt32)) (n := 20) g_xs (own_z0 O) A4 F_value_xs F_coder_xs V_ca (O2.ext O.2) P5 (by rw [List.length_set]; rfl) rfl (by decide) (by decide) hp rfl (by decide) (by decide)) (g := (mkF m 134 #[.val (.int p0), .val (.int p1), .val (.int p2), .val (.int p3), .val (.int (1 : Int32)), .val (.int sh), .val (.int c1), .val (.int c2), .val (.ref s12), .unset, .val .null, .val (.ref ca), .val (.int ps), .val (.int (own_T12.getD ps.toNatClampNeg 0))] [(.ref ca), (.ref xs), (.ref xs)])) rfl (by rw [hml]; rfl) (Steps.refl _) (a := xs) (argsL := [(.ref ca)]) (rest := [(.ref xs)]) (lenOf own_pd11 rfl) rfl (by show 2 * 0 + _ ≤ _; exact Nat.le_of_eq rfl) (hb hby at_134) (fun _ _ => ⟨rfl, e4, (by decide : 2 + 1 ≤ _), (by decide : 24 + 20 ≤ _)⟩)
        dsimp only [Pt.U, Pt.locs, Pt.cells, Pt.slots] at X5 l5 y5 z5 st5 hQ5
        subst l5 y5 z5
        obtain ⟨rfl, Nq5, Kq5, Eq, Cq, tb, kb, ut, vt, wt, Vq, Aq⟩ := hQ5
        replace N0 := Fr.app N0 Nq5
        replace hk : _ ≤ T5.heap.size := Nat.le_trans hk Kq5.1
        replace A4 := A4.keep Kq5
        replace V_ca := V_ca.keep Kq5 (ninS ne_ca_xs nin0)
        replace O := O.keep Kq5 (allS g_xs all0)
        refine Out.to (g' := (mkF m 137 #[.val (.int p0), .val (.int p1), .val (.int p2), .val (.int p3), .val (.int (1 : Int32)), .val (.int sh), .val (.int c1), .val (.int c2), .val (.ref s12), .unset, .val .null, .val (.ref ca), .val (.int ps), .val (.int (own_T12.getD ps.toNatClampNeg 0))] [(.ref xs)])) st5 ?_
        have Sx : own_Str Z T5.heap xs (own_T12.set ps.toNatClampNeg c1) := ⟨hp, Eq, Cq, tb, kb, Vq, (by rw [List.length_set]; exact Aq)⟩
        refine Out.via (g' := (mkF m 139 #[.val (.int p0), .val (.int p1), .val (.int p2), .val (.int p3), .val (.int (1 : Int32)), .val (.int sh), .val (.int c1), .val (.int c2), .val (.ref s12), .val (.ref xs), .val .null, .val (.ref ca), .val (.int ps), .val (.int (own_T12.getD ps.toNatClampNeg 0))] [])) (fun _ k => XS.astore X5.here hx rfl (hb hby at_137) rfl rfl (l' := #[.val (.int p0), .val (.int p1), .val (.int p2), .val (.int p3), .val (.int (1 : Int32)), .val (.int sh), .val (.int c1), .val (.int c2), .val (.ref s12), .val (.ref xs), .val .null, .val (.ref ca), .val (.int ps), .val (.int (own_T12.getD ps.toNatClampNeg 0))]) rfl k) ?_
        refine Out.via (g' := (mkF m 141 #[.val (.int p0), .val (.int p1), .val (.int p2), .val (.int p3), .val (.int (1 : Int32)), .val (.int sh), .val (.int c1), .val (.int c2), .val (.ref s12), .val (.ref xs), .val .null, .val (.ref ca), .val (.int ps), .val (.int (own_T12.getD ps.toNatClampNeg 0))] [(.int c1)])) (fun _ k => XS.iload X5.here hx rfl (hb hby at_139) rfl k) ?_
        refine Out.via (g' := (mkF m 143 #[.val (.int p0), .val (.int p1), .val (.int p2), .val (.int p3), .val (.int (1 : Int32)), .val (.int sh), .val (.int c1), .val (.int c2), .val (.ref s12), .val (.ref xs), .val .null, .val (.ref ca), .val (.int ps), .val (.int (own_T12.getD ps.toNatClampNeg 0))] [(.int (own_T12.getD ps.toNatClampNeg 0)), (.int c1)])) (fun _ k => XS.iload X5.here hx rfl (hb hby at_141) rfl k) ?_
        by_cases hce : c1 = (own_T12.getD ps.toNatClampNeg 0)
        · refine Out.via (g' := (mkF m 146 #[.val (.int p0), .val (.int p1), .val (.int p2), .val (.int p3), .val (.int (1 : Int32)), .val (.int sh), .val (.int c1), .val (.int c2), .val (.ref s12), .val (.ref xs), .val .null, .val (.ref ca), .val (.int ps), .val (.int (own_T12.getD ps.toNatClampNeg 0))] [])) (fun _ k => XS.icmpNo X5.here hx rfl (hb hby at_143) rfl (teq hce).2 k) ?_
          refine Out.via (g' := (mkF m 148 #[.val (.int p0), .val (.int p1), .val (.int p2), .val (.int p3), .val (.int (1 : Int32)), .val (.int sh), .val (.int c1), .val (.int c2), .val (.ref s12), .val (.ref xs), .val .null, .val (.ref ca), .val (.int ps), .val (.int (own_T12.getD ps.toNatClampNeg 0))] [(.ref s12)])) (fun _ k => XS.aload X5.here hx rfl (hb hby at_146) rfl rfl k) ?_
          refine Out.via (g' := (mkF m 152 #[.val (.int p0), .val (.int p1), .val (.int p2), .val (.int p3), .val (.int (1 : Int32)), .val (.int sh), .val (.int c1), .val (.int c2), .val (.ref s12), .val (.ref xs), .val .null, .val (.ref ca), .val (.int ps), .val (.int (own_T12.getD ps.toNatClampNeg 0))] [(.ref s12)])) (fun _ k => XS.goto X5.here hx rfl (pc0 := 148) (pc' := 152) rfl (hb hby at_148) (by decide) (by decide) k) ?_
          refine Out.via (g' := (mkF m 154 #[.val (.int p0), .val (.int p1), .val (.int p2), .val (.int p3), .val (.int (1 : Int32)), .val (.int sh), .val (.int c1), .val (.int c2), .val (.ref s12), .val (.ref xs), .val (.ref s12), .val (.ref ca), .val (.int ps), .val (.int (own_T12.getD ps.toNatClampNeg 0))] [])) (fun _ k => XS.astore X5.here hx rfl (hb hby at_152) rfl rfl (l' := #[.val (.int p0), .val (.int p1), .val (.int p2), .val (.int p3), .val (.int (1 : Int32)), .val (.int sh), .val (.int c1), .val (.int c2), .val (.ref s12), .val (.ref xs), .val (.ref s12), .val (.ref ca), .val (.int ps), .val (.int (own_T12.getD ps.toNatClampNeg 0))]) rfl k) ?_
          refine Out.via (g' := (mkF m 995 #[.val (.int p0), .val (.int p1), .val (.int p2), .val (.int p3), .val (.int (1 : Int32)), .val (.int sh), .val (.int c1), .val (.int c2), .val (.ref s12), .val (.ref xs), .val (.ref s12), .val (.ref ca), .val (.int ps), .val (.int (own_T12.getD ps.toNatClampNeg 0))] [])) (fun _ k => XS.goto X5.here hx rfl (pc0 := 154) (pc' := 995) rfl (hb hby at_154) (by decide) (by decide) k) ?_
          have lS : (own_T12.set ps.toNatClampNeg c1).length ≤ 4000 := by rw [List.length_set]; decide
          exact own_tail #[.val (.int p0), .val (.int p1), .val (.int p2), .val (.int p3), .val (.int (1 : Int32)), .val (.int sh), .val (.int c1), .val (.int c2), .val (.ref s12), .val (.ref xs), .val (.ref s12), .val (.ref ca), .val (.int ps), .val (.int (own_T12.getD ps.toNatClampNeg 0))] xs va s11 s12 m11 m12 kv (own_T12.set ps.toNatClampNeg c1) G1 (.ref s12) X5 hx hS hk hZ hw hby hml hown Bd.returns Bd.notSynchronized rfl O N0 Sx lS SVA EVA AVA F11 S11 F12 S12 O2 P5 (by rw [hce, own_set_same hi]; exact Or.inr (Or.inl ⟨by decide, rfl, rfl⟩)) rfl rfl rfl (by decide) (by decide)
        · refine Out.via (g' := (mkF m 151 #[.val (.int p0), .val (.int p1), .val (.int p2), .val (.int p3), .val (.int (1 : Int32)), .val (.int sh), .val (.int c1), .val (.int c2), .val (.ref s12), .val (.ref xs), .val .null, .val (.ref ca), .val (.int ps), .val (.int (own_T12.getD ps.toNatClampNeg 0))] [])) (fun _ k => XS.icmpYes X5.here hx rfl (pc0 := 143) (pc' := 151) rfl (hb hby at_143) rfl (feq hce).2 (by decide) (by decide) k) ?_
          refine Out.via (g' := (mkF m 152 #[.val (.int p0), .val (.int p1), .val (.int p2), .val (.int p3), .val (.int (1 : Int32)), .val (.int sh), .val (.int c1), .val (.int c2), .val (.ref s12), .val (.ref xs), .val .null, .val (.ref ca), .val (.int ps), .val (.int (own_T12.getD ps.toNatClampNeg 0))] [.null])) (fun _ k => XS.aconstNull X5.here hx rfl (hb hby at_151) k) ?_
          refine Out.via (g' := (mkF m 154 #[.val (.int p0), .val (.int p1), .val (.int p2), .val (.int p3), .val (.int (1 : Int32)), .val (.int sh), .val (.int c1), .val (.int c2), .val (.ref s12), .val (.ref xs), .val .null, .val (.ref ca), .val (.int ps), .val (.int (own_T12.getD ps.toNatClampNeg 0))] [])) (fun _ k => XS.astore X5.here hx rfl (hb hby at_152) rfl rfl (l' := #[.val (.int p0), .val (.int p1), .val (.int p2), .val (.int p3), .val (.int (1 : Int32)), .val (.int sh), .val (.int c1), .val (.int c2), .val (.ref s12), .val (.ref xs), .val .null, .val (.ref ca), .val (.int ps), .val (.int (own_T12.getD ps.toNatClampNeg 0))]) rfl k) ?_
          refine Out.via (g' := (mkF m 995 #[.val (.int p0), .val (.int p1), .val (.int p2), .val (.int p3), .val (.int (1 : Int32)), .val (.int sh), .val (.int c1), .val (.int c2), .val (.ref s12), .val (.ref xs), .val .null, .val (.ref ca), .val (.int ps), .val (.int (own_T12.getD ps.toNatClampNeg 0))] [])) (fun _ k => XS.goto X5.here hx rfl (pc0 := 154) (pc' := 995) rfl (hb hby at_154) (by decide) (by decide) k) ?_
          have lS : (own_T12.set ps.toNatClampNeg c1).length ≤ 4000 := by rw [List.length_set]; decide
          exact own_tail #[.val (.int p0), .val (.int p1), .val (.int p2), .val (.int p3), .val (.int (1 : Int32)), .val (.int sh), .val (.int c1), .val (.int c2), .val (.ref s12), .val (.ref xs), .val .null, .val (.ref ca), .val (.int ps), .val (.int (own_T12.getD ps.toNatClampNeg 0))] xs va s11 s12 m11 m12 kv (own_T12.set ps.toNatClampNeg c1) G1 .null X5 hx hS hk hZ hw hby hml hown Bd.returns Bd.notSynchronized rfl O N0 Sx lS SVA EVA AVA F11 S11 F12 S12 O2 P5 (Or.inr (Or.inr ⟨fun q => absurd (congrArg List.length q) (by rw [List.length_set]; decide), own_set_ne hi hce, rfl⟩)) rfl rfl rfl (by decide) (by decide)
      · refine Out.via (g' := (mkF m 157 #[.val (.int p0), .val (.int p1), .val (.int p2), .val (.int p3), .val (.int (1 : Int32)), .val (.int sh), .val (.int c1), .val (.int c2), .val (.ref s12), .unset, .val .null, .unset, .unset, .unset] [])) (fun _ k => XS.icmpYes X1.here hx rfl (pc0 := 85) (pc' := 157) rfl (hb hby at_85) rfl (feq h1c).2 (by decide) (by decide) k) ?_
        refine Out.via (g' := (mkF m 159 #[.val (.int p0), .val (.int p1), .val (.int p2), .val (.int p3), .val (.int (1 : Int32)), .val (.int sh), .val (.int c1), .val (.int c2), .val (.ref s12), .unset, .val .null, .unset, .unset, .unset] [(.int sh)])) (fun _ k => XS.iload X1.here hx rfl (hb hby at_157) rfl k) ?_
        refine Out.via (g' := (mkF m 160 #[.val (.int p0), .val (.int p1), .val (.int p2), .val (.int p3), .val (.int (1 : Int32)), .val (.int sh), .val (.int c1), .val (.int c2), .val (.ref s12), .unset, .val .null, .unset, .unset, .unset] [(.int (2 : Int32)), (.int sh)])) (fun _ k => XS.iconst X1.here hx rfl (hb hby at_159) k) ?_
        by_cases h2c : sh = (2 : Int32)
        · refine Out.via (g' := (mkF m 163 #[.val (.int p0), .val (.int p1), .val (.int p2), .val (.int p3), .val (.int (1 : Int32)), .val (.int sh), .val (.int c1), .val (.int c2), .val (.ref s12), .unset, .val .null, .unset, .unset, .unset] [])) (fun _ k => XS.icmpNo X1.here hx rfl (hb hby at_160) rfl (teq h2c).2 k) ?_
          refine Out.via (g' := (mkF m 165 #[.val (.int p0), .val (.int p1), .val (.int p2), .val (.int p3), .val (.int (1 : Int32)), .val (.int sh), .val (.int c1), .val (.int c2), .val (.ref s12), .unset, .val .null, .unset, .unset, .unset] [(.int (1 : Int32))])) (fun _ k => XS.iload X1.here hx rfl (hb hby at_163) rfl k) ?_
          refine Out.via (g' := (mkF m 168 #[.val (.int p0), .val (.int p1), .val (.int p2), .val (.int p3), .val (.int (1 : Int32)), .val (.int sh), .val (.int c1), .val (.int c2), .val (.ref s12), .unset, .val .null, .unset, .unset, .unset] [])) (fun _ k => XS.ifNo X1.here hx rfl (hb hby at_165) rfl ((if0 _ _).trans (feq (by decide)).1) k) ?_
          obtain ⟨T2, h2, X2, e2, E2, A2, D2, -, st2⟩ := newO X1 hx hZ hown (hw _ (List.mem_of_getElem? (i := 48) rfl)) (hw _ (List.mem_of_getElem? (i := 5) rfl)) (hw _ (List.mem_of_getElem? (i := 4) rfl)) e1 (g := (mkF m 168 #[.val (.int p0), .val (.int p1), .val (.int p2), .val (.int p3), .val (.int (1 : Int32)), .val (.int sh), .val (.int c1), .val (.int c2), .val (.ref s12), .unset, .val .null, .unset, .unset, .unset] [])) rfl (hb hby at_168) (by decide) (by decide)
          obtain ⟨xs, gq2⟩ : ∃ z, z = h0.size := ⟨_, rfl⟩
          rw [← gq2] at A2 D2 st2
          have g_xs : n0 ≤ xs := Nat.le_trans (own_z0 O) (Nat.le_of_eq gq2.symm)
          replace O := O.ext E2
          replace hk := Nat.le_trans hk E2.1
          have F_value_xs : Fld Z h2 xs "java/lang/String" "value" "[B" .null := D2 (Or.inr (hw _ (List.mem_of_getElem? (i := 7) rfl))) (ty := (.array .byte)) (by decide)
          have F_coder_xs : Fld Z h2 xs "java/lang/String" "coder" "B" (.int (0 : Int32)) := D2 (Or.inr (hw _ (List.mem_of_getElem? (i := 8) rfl))) (ty := .byte) (by decide)
          refine Out.via (g' := (mkF m 171 #[.val (.int p0), .val (.int p1), .val (.int p2), .val (.int p3), .val (.int (1 : Int32)), .val (.int sh), .val (.int c1), .val (.int c2), .val (.ref s12), .unset, .val .null, .unset, .unset, .unset] [(.ref xs)])) st2 ?_
          refine Out.via (g' := (mkF m 172 #[.val (.int p0), .val (.int p1), .val (.int p2), .val (.int p3), .val (.int (1 : Int32)), .val (.int sh), .val (.int c1), .val (.int c2), .val (.ref s12), .unset, .val .null, .unset, .unset, .unset] [(.ref xs), (.ref xs)])) (fun _ k => XS.dup X2.here hx rfl (hb hby at_171) rfl rfl k) ?_
          refine Out.via (g' := (mkF m 174 #[.val (.int p0), .val (.int p1), .val (.int p2), .val (.int p3), .val (.int (1 : Int32)), .val (.int sh), .val (.int c1), .val (.int c2), .val (.ref s12), .unset, .val .null, .unset, .unset, .unset] [(.int (21 : Int32)), (.ref xs), (.ref xs)])) (fun _ k => XS.bipush X2.here hx rfl (hb hby at_172) k) ?_
          obtain ⟨T3, h3, kA3, X3, e3, E3, A3, st3⟩ := newP X2 hx hZ (hw _ (List.mem_of_getElem? (i := 49) rfl)) e2 (g := (mkF m 174 #[.val (.int p0), .val (.int p1), .val (.int p2), .val (.int p3), .val (.int (1 : Int32)), .val (.int sh), .val (.int c1), .val (.int c2), .val (.ref s12), .unset, .val .null, .unset, .unset, .unset] [(.int (21 : Int32)), (.ref xs), (.ref xs)])) rfl (hb hby at_174) rfl (by decide) (cap := 21) (by decide) (by decide) (by decide) (by decide)
          obtain ⟨ca, gq3⟩ : ∃ z, z = h2.size := ⟨_, rfl⟩
          rw [← gq3] at A3 st3
          have ne_xs_ca : xs ≠ ca := Nat.ne_of_lt (Nat.lt_of_lt_of_le A2.lt (Nat.le_of_eq gq3.symm))
          have g_ca : n0 ≤ ca := Nat.le_trans (own_z0 O) (Nat.le_of_eq gq3.symm)
          replace F_value_xs := F_value_xs.ext E3
          replace F_coder_xs := F_coder_xs.ext E3
          replace A2 := A2.ext E3
          replace O := O.ext E3
          replace hk := Nat.le_trans hk E3.1
          have V_ca : Arv Z h3 ca kA3 .char (21 : Int32) [(.int (0 : Int32)), (.int (0 : Int32)), (.int (0 : Int32)), (.int (0 : Int32)), (.int (0 : Int32)), (.int (0 : Int32)), (.int (0 : Int32)), (.int (0 : Int32)), (.int (0 : Int32)), (.int (0 : Int32)), (.int (0 : Int32)), (.int (0 : Int32)), (.int (0 : Int32)), (.int (0 : Int32)), (.int (0 : Int32)), (.int (0 : Int32)), (.int (0 : Int32)), (.int (0 : Int32)), (.int (0 : Int32)), (.int (0 : Int32)), (.int (0 : Int32))] (.int (0 : Int32)) := (Arv.new A3 (by decide)).pad (pad_rep [] (.int (0 : Int32)) 21)
          refine Out.via (g' := (mkF m 176 #[.val (.int p0), .val (.int p1), .val (.int p2), .val (.int p3), .val (.int (1 : Int32)), .val (.int sh), .val (.int c1), .val (.int c2), .val (.ref s12), .unset, .val .null, .unset, .unset, .unset] [(.ref ca), (.ref xs), (.ref xs)])) st3 ?_
          have Kf4 := Keep.refl h3 [ca]
          refine Out.via (g' := (mkF m 177 #[.val (.int p0), .val (.int p1), .val (.int p2), .val (.int p3), .val (.int (1 : Int32)), .val (.int sh), .val (.int c1), .val (.int c2), .val (.ref s12), .unset, .val .null, .unset, .unset, .unset] [(.ref ca), (.ref ca), (.ref xs), (.ref xs)])) (fun _ k => XS.dup X3.here hx rfl (hb hby at_176) rfl rfl k) ?_
          refine Out.via (g' := (mkF m 178 #[.val (.int p0), .val (.int p1), .val (.int p2), .val (.int p3), .val (.int (1 : Int32)), .val (.int sh), .val (.int c1), .val (.int c2), .val (.ref s12), .unset, .val .null, .unset, .unset, .unset] [(.int (0 : Int32)), (.ref ca), (.ref ca), (.ref xs), (.ref xs)])) (fun _ k => XS.iconst X3.here hx rfl (hb hby at_177) k) ?_
          refine Out.via (g' := (mkF m 180 #[.val (.int p0), .val (.int p1), .val (.int p2), .val (.int p3), .val (.int (1 : Int32)), .val (.int sh), .val (.int c1), .val (.int c2), .val (.ref s12), .unset, .val .null, .unset, .unset, .unset] [(.int (97 : Int32)), (.int (0 : Int32)), (.ref ca), (.ref ca), (.ref xs), (.ref xs)])) (fun _ k => XS.bipush X3.here hx rfl (hb hby at_178) k) ?_
          obtain ⟨T5, h5, L5, X5, e5, V_ca, N0, O, Kf4, st5⟩ := own_stC X3 hx hZ e3 V_ca (j := (0 : Int32)) ⟨by decide, by decide⟩ 0 rfl (Nat.le_of_ble_eq_true rfl) g_ca N0 O Kf4 (Or.inl (List.mem_of_getElem? (i := 0) rfl)) (g := (mkF m 180 #[.val (.int p0), .val (.int p1), .val (.int p2), .val (.int p3), .val (.int (1 : Int32)), .val (.int sh), .val (.int c1), .val (.int c2), .val (.ref s12), .unset, .val .null, .unset, .unset, .unset] [(.int (97 : Int32)), (.int (0 : Int32)), (.ref ca), (.ref ca), (.ref xs), (.ref xs)])) rfl rfl (hb hby at_180)
          replace V_ca : Arv Z h5 ca kA3 .char (21 : Int32) [(.int (nar .char (97 : Int32))), (.int (0 : Int32)), (.int (0 : Int32)), (.int (0 : Int32)), (.int (0 : Int32)), (.int (0 : Int32)), (.int (0 : Int32)), (.int (0 : Int32)), (.int (0 : Int32)), (.int (0 : Int32)), (.int (0 : Int32)), (.int (0 : Int32)), (.int (0 : Int32)), (.int (0 : Int32)), (.int (0 : Int32)), (.int (0 : Int32)), (.int (0 : Int32)), (.int (0 : Int32)), (.int (0 : Int32)), (.int (0 : Int32)), (.int (0 : Int32))] (.int (0 : Int32)) := V_ca
          refine Out.via (g' := (mkF m 181 #[.val (.int p0), .val (.int p1), .val (.int p2), .val (.int p3), .val (.int (1 : Int32)), .val (.int sh), .val (.int c1), .val (.int c2), .val (.ref s12), .unset, .val .null, .unset, .unset, .unset] [(.ref ca), (.ref xs), (.ref xs)])) st5 ?_
          refine Out.via (g' := (mkF m 182 #[.val (.int p0), .val (.int p1), .val (.int p2), .val (.int p3), .val (.int (1 : Int32)), .val (.int sh), .val (.int c1), .val (.int c2), .val (.ref s12), .unset, .val .null, .unset, .unset, .unset] [(.ref ca), (.ref ca), (.ref xs), (.ref xs)])) (fun _ k => XS.dup X5.here hx rfl (hb hby at_181) rfl rfl k) ?_
          refine Out.via (g' := (mkF m 183 #[.val (.int p0), .val (.int p1), .val (.int p2), .val (.int p3), .val (.int (1 : Int32)), .val (.int sh), .val (.int c1), .val (.int c2), .val (.ref s12), .unset, .val .null, .unset, .unset, .unset] [(.int (1 : Int32)), (.ref ca), (.ref ca), (.ref xs), (.ref xs)])) (fun _ k => XS.iconst X5.here hx rfl (hb hby at_182) k) ?_
          refine Out.via (g' := (mkF m 185 #[.val (.int p0), .val (.int p1), .val (.int p2), .val (.int p3), .val (.int (1 : Int32)), .val (.int sh), .val (.int c1), .val (.int c2), .val (.ref s12), .unset, .val .null, .unset, .unset, .unset] [(.int (112 : Int32)), (.int (1 : Int32)), (.ref ca), (.ref ca), (.ref xs), (.ref xs)])) (fun _ k => XS.bipush X5.here hx rfl (hb hby at_183) k) ?_
          obtain ⟨T6, h6, L6, X6, e6, V_ca, N0, O, Kf4, st6⟩ := own_stC X5 hx hZ e5 V_ca (j := (1 : Int32)) ⟨by decide, by decide⟩ 1 rfl (Nat.le_of_ble_eq_true rfl) g_ca N0 O Kf4 (Or.inl (List.mem_of_getElem? (i := 0) rfl)) (g := (mkF m 185 #[.val (.int p0), .val (.int p1), .val (.int p2), .val (.int p3), .val (.int (1 : Int32)), .val (.int sh), .val (.int c1), .val (.int c2), .val (.ref s12), .unset, .val .null, .unset, .unset, .unset] [(.int (112 : Int32)), (.int (1 : Int32)), (.ref ca), (.ref ca), (.ref xs), (.ref xs)])) rfl rfl (hb hby at_185)
          replace V_ca : Arv Z h6 ca kA3 .char (21 : Int32) [(.int (nar .char (97 : Int32))), (.int (nar .char (112 : Int32))), (.int (0 : Int32)), (.int (0 : Int32)), (.int (0 : Int32)), (.int (0 : Int32)), (.int (0 : Int32)), (.int (0 : Int32)), (.int (0 : Int32)), (.int (0 : Int32)), (.int (0 : Int32)), (.int (0 : Int32)), (.int (0 : Int32)), (.int (0 : Int32)), (.int (0 : Int32)), (.int (0 : Int32)), (.int (0 : Int32)), (.int (0 : Int32)), (.int (0 : Int32)), (.int (0 : Int32)), (.int (0 : Int32))] (.int (0 : Int32)) := V_ca
          refine Out.via (g' := (mkF m 186 #[.val (.int p0), .val (.int p1), .val (.int p2), .val (.int p3), .val (.int (1 : Int32)), .val (.int sh), .val (.int c1), .val (.int c2), .val (.ref s12), .unset, .val .null, .unset, .unset, .unset] [(.ref ca), (.ref xs), (.ref xs)])) st6 ?_
          refine Out.via (g' := (mkF m 187 #[.val (.int p0), .val (.int p1), .val (.int p2), .val (.int p3), .val (.int (1 : Int32)), .val (.int sh), .val (.int c1), .val (.int c2), .val (.ref s12), .unset, .val .null, .unset, .unset, .unset] [(.ref ca), (.ref ca), (.ref xs), (.ref xs)])) (fun _ k => XS.dup X6.here hx rfl (hb hby at_186) rfl rfl k) ?_
          refine Out.via (g' := (mkF m 188 #[.val (.int p0), .val (.int p1), .val (.int p2), .val (.int p3), .val (.int (1 : Int32)), .val (.int sh), .val (.int c1), .val (.int c2), .val (.ref s12), .unset, .val .null, .unset, .unset, .unset] [(.int (2 : Int32)), (.ref ca), (.ref ca), (.ref xs), (.ref xs)])) (fun _ k => XS.iconst X6.here hx rfl (hb hby at_187) k) ?_
          refine Out.via (g' := (mkF m 190 #[.val (.int p0), .val (.int p1), .val (.int p2), .val (.int p3), .val (.int (1 : Int32)), .val (.int sh), .val (.int c1), .val (.int c2), .val (.ref s12), .unset, .val .null, .unset, .unset, .unset] [(.int (112 : Int32)), (.int (2 : Int32)), (.ref ca), (.ref ca), (.ref xs), (.ref xs)])) (fun _ k => XS.bipush X6.here hx rfl (hb hby at_188) k) ?_
          obtain ⟨T7, h7, L7, X7, e7, V_ca, N0, O, Kf4, st7⟩ := own_stC X6 hx hZ e6 V_ca (j := (2 : Int32)) ⟨by decide, by decide⟩ 2 rfl (Nat.le_of_ble_eq_true rfl) g_ca N0 O Kf4 (Or.inl (List.mem_of_getElem? (i := 0) rfl)) (g := (mkF m 190 #[.val (.int p0), .val (.int p1), .val (.int p2), .val (.int p3), .val (.int (1 : Int32)), .val (.int sh), .val (.int c1), .val (.int c2), .val (.ref s12), .unset, .val .null, .unset, .unset, .unset] [(.int (112 : Int32)), (.int (2 : Int32)), (.ref ca), (.ref ca), (.ref xs), (.ref xs)])) rfl rfl (hb hby at_190)
          replace V_ca : Arv Z h7 ca kA3 .char (21 : Int32) [(.int (nar .char (97 : Int32))), (.int (nar .char (112 : Int32))), (.int (nar .char (112 : Int32))), (.int (0 : Int32)), (.int (0 : Int32)), (.int (0 : Int32)), (.int (0 : Int32)), (.int (0 : Int32)), (.int (0 : Int32)), (.int (0 : Int32)), (.int (0 : Int32)), (.int (0 : Int32)), (.int (0 : Int32)), (.int (0 : Int32)), (.int (0 : Int32)), (.int (0 : Int32)), (.int (0 : Int32)), (.int (0 : Int32)), (.int (0 : Int32)), (.int (0 : Int32)), (.int (0 : Int32))] (.int (0 : Int32)) := V_ca
          refine Out.via (g' := (mkF m 191 #[.val (.int p0), .val (.int p1), .val (.int p2), .val (.int p3), .val (.int (1 : Int32)), .val (.int sh), .val (.int c1), .val (.int c2), .val (.ref s12), .unset, .val .null, .unset, .unset, .unset] [(.ref ca), (.ref xs), (.ref xs)])) st7 ?_
          refine Out.via (g' := (mkF m 192 #[.val (.int p0), .val (.int p1), .val (.int p2), .val (.int p3), .val (.int (1 : Int32)), .val (.int sh), .val (.int c1), .val (.int c2), .val (.ref s12), .unset, .val .null, .unset, .unset, .unset] [(.ref ca), (.ref ca), (.ref xs), (.ref xs)])) (fun _ k => XS.dup X7.here hx rfl (hb hby at_191) rfl rfl k) ?_
          refine Out.via (g' := (mkF m 193 #[.val (.int p0), .val (.int p1), .val (.int p2), .val (.int p3), .val (.int (1 : Int32)), .val (.int sh), .val (.int c1), .val (.int c2), .val (.ref s12), .unset, .val .null, .unset, .unset, .unset] [(.int (3 : Int32)), (.ref ca), (.ref ca), (.ref xs), (.ref xs)])) (fun _ k => XS.iconst X7.here hx rfl (hb hby at_192) k) ?_
          refine Out.via (g' := (mkF m 195 #[.val (.int p0), .val (.int p1), .val (.int p2), .val (.int p3), .val (.int (1 : Int32)), .val (.int sh), .val (.int c1), .val (.int c2), .val (.ref s12), .unset, .val .null, .unset, .unset, .unset] [(.int (108 : Int32)), (.int (3 : Int32)), (.ref ca), (.ref ca), (.ref xs), (.ref xs)])) (fun _ k => XS.bipush X7.here hx rfl (hb hby at_193) k) ?_
          obtain ⟨T8, h8, L8, X8, e8, V_ca, N0, O, Kf4, st8⟩ := own_stC X7 hx hZ e7 V_ca (j := (3 : Int32)) ⟨by decide, by decide⟩ 3 rfl (Nat.le_of_ble_eq_true rfl) g_ca N0 O Kf4 (Or.inl (List.mem_of_getElem? (i := 0) rfl)) (g := (mkF m 195 #[.val (.int p0), .val (.int p1), .val (.int p2), .val (.int p3), .val (.int (1 : Int32)), .val (.int sh), .val (.int c1), .val (.int c2), .val (.ref s12), .unset, .val .null, .unset, .unset, .unset] [(.int (108 : Int32)), (.int (3 : Int32)), (.ref ca), (.ref ca), (.ref xs), (.ref xs)])) rfl rfl (hb hby at_195)
          replace V_ca : Arv Z h8 ca kA3 .char (21 : Int32) [(.int (nar .char (97 : Int32))), (.int (nar .char (112 : Int32))), (.int (nar .char (112 : Int32))), (.int (nar .char (108 : Int32))), (.int (0 : Int32)), (.int (0 : Int32)), (.int (0 : Int32)), (.int (0 : Int32)), (.int (0 : Int32)), (.int (0 : Int32)), (.int (0 : Int32)), (.int (0 : Int32)), (.int (0 : Int32)), (.int (0 : Int32)), (.int (0 : Int32)), (.int (0 : Int32)), (.int (0 : Int32)), (.int (0 : Int32)), (.int (0 : Int32)), (.int (0 : Int32)), (.int (0 : Int32))] (.int (0 : Int32)) := V_ca
          refine Out.via (g' := (mkF m 196 #[.val (.int p0), .val (.int p1), .val (.int p2), .val (.int p3), .val (.int (1 : Int32)), .val (.int sh), .val (.int c1), .val (.int c2), .val (.ref s12), .unset, .val .null, .unset, .unset, .unset] [(.ref ca), (.ref xs), (.ref xs)])) st8 ?_
          refine Out.via (g' := (mkF m 197 #[.val (.int p0), .val (.int p1), .val (.int p2), .val (.int p3), .val (.int (1 : Int32)), .val (.int sh), .val (.int c1), .val (.int c2), .val (.ref s12), .unset, .val .null, .unset, .unset, .unset] [(.ref ca), (.ref ca), (.ref xs), (.ref xs)])) (fun _ k => XS.dup X8.here hx rfl (hb hby at_196) rfl rfl k) ?_
          refine Out.via (g' := (mkF m 198 #[.val (.int p0), .val (.int p1), .val (.int p2), .val (.int p3), .val (.int (1 : Int32)), .val (.int sh), .val (.int c1), .val (.int c2), .val (.ref s12), .unset, .val .null, .unset, .unset, .unset] [(.int (4 : Int32)), (.ref ca), (.ref ca), (.ref xs), (.ref xs)])) (fun _ k => XS.iconst X8.here hx rfl (hb hby at_197) k) ?_
          refine Out.via (g' := (mkF m 200 #[.val (.int p0), .val (.int p1), .val (.int p2), .val (.int p3), .val (.int (1 : Int32)), .val (.int sh), .val (.int c1), .val (.int c2), .val (.ref s12), .unset, .val .null, .unset, .unset, .unset] [(.int (105 : Int32)), (.int (4 : Int32)), (.ref ca), (.ref ca), (.ref xs), (.ref xs)])) (fun _ k => XS.bipush X8.here hx rfl (hb hby at_198) k) ?_
          obtain ⟨T9, h9, L9, X9, e9, V_ca, N0, O, Kf4, st9⟩ := own_stC X8 hx hZ e8 V_ca (j := (4 : Int32)) ⟨by decide, by decide⟩ 4 rfl (Nat.le_of_ble_eq_true rfl) g_ca N0 O Kf4 (Or.inl (List.mem_of_getElem? (i := 0) rfl)) (g := (mkF m 200 #[.val (.int p0), .val (.int p1), .val (.int p2), .val (.int p3), .val (.int (1 : Int32)), .val (.int sh), .val (.int c1), .val (.int c2), .val (.ref s12), .unset, .val .null, .unset, .unset, .unset] [(.int (105 : Int32)), (.int (4 : Int32)), (.ref ca), (.ref ca), (.ref xs), (.ref xs)])) rfl rfl (hb hby at_200)
          replace V_ca : Arv Z h9 ca kA3 .char (21 : Int32) [(.int (nar .char (97 : Int32))), (.int (nar .char (112 : Int32))), (.int (nar .char (112 : Int32))), (.int (nar .char (108 : Int32))), (.int (nar .char (105 : Int32))), (.int (0 : Int32)), (.int (0 : Int32)), (.int (0 : Int32)), (.int (0 : Int32)), (.int (0 : Int32)), (.int (0 : Int32)), (.int (0 : Int32)), (.int (0 : Int32)), (.int (0 : Int32)), (.int (0 : Int32)), (.int (0 : Int32)), (.int (0 : Int32)), (.int (0 : Int32)), (.int (0 : Int32)), (.int (0 : Int32)), (.int (0 : Int32))] (.int (0 : Int32)) := V_ca
          refine Out.via (g' := (mkF m 201 #[.val (.int p0), .val (.int p1), .val (.int p2), .val (.int p3), .val (.int (1 : Int32)), .val (.int sh), .val (.int c1), .val (.int c2), .val (.ref s12), .unset, .val .null, .unset, .unset, .unset] [(.ref ca), (.ref xs), (.ref xs)])) st9 ?_
          refine Out.via (g' := (mkF m 202 #[.val (.int p0), .val (.int p1), .val (.int p2), .val (.int p3), .val (.int (1 : Int32)), .val (.int sh), .val (.int c1), .val (.int c2), .val (.ref s12), .unset, .val .null, .unset, .unset, .unset] [(.ref ca), (.ref ca), (.ref xs), (.ref xs)])) (fun _ k => XS.dup X9.here hx rfl (hb hby at_201) rfl rfl k) ?_
          refine Out.via (g' := (mkF m 203 #[.val (.int p0), .val (.int p1), .val (.int p2), .val (.int p3), .val (.int (1 : Int32)), .val (.int sh), .val (.int c1), .val (.int c2), .val (.ref s12), .unset, .val .null, .unset, .unset, .unset] [(.int (5 : Int32)), (.ref ca), (.ref ca), (.ref xs), (.ref xs)])) (fun _ k => XS.iconst X9.here hx rfl (hb hby at_202) k) ?_
          refine Out.via (g' := (mkF m 205 #[.val (.int p0), .val (.int p1), .val (.int p2), .val (.int p3), .val (.int (1 : Int32)), .val (.int sh), .val (.int c1), .val (.int c2), .val (.ref s12), .unset, .val .null, .unset, .unset, .unset] [(.int (99 : Int32)), (.int (5 : Int32)), (.ref ca), (.ref ca), (.ref xs), (.ref xs)])) (fun _ k => XS.bipush X9.here hx rfl (hb hby at_203) k) ?_
          obtain ⟨T10, h10, L10, X10, e10, V_ca, N0, O, Kf4, st10⟩ := own_stC X9 hx hZ e9 V_ca (j := (5 : Int32)) ⟨by decide, by decide⟩ 5 rfl (Nat.le_of_ble_eq_true rfl) g_ca N0 O Kf4 (Or.inl (List.mem_of_getElem? (i := 0) rfl)) (g := (mkF m 205 #[.val (.int p0), .val (.int p1), .val (.int p2), .val (.int p3), .val (.int (1 : Int32)), .val (.int sh), .val (.int c1), .val (.int c2), .val (.ref s12), .unset, .val .null, .unset, .unset, .unset] [(.int (99 : Int32)), (.int (5 : Int32)), (.ref ca), (.ref ca), (.ref xs), (.ref xs)])) rfl rfl (hb hby at_205)
          replace V_ca : Arv Z h10 ca kA3 .char (21 : Int32) [(.int (nar .char (97 : Int32))), (.int (nar .char (112 : Int32))), (.int (nar .char (112 : Int32))), (.int (nar .char (108 : Int32))), (.int (nar .char (105 : Int32))), (.int (nar .char (99 : Int32))), (.int (0 : Int32)), (.int (0 : Int32)), (.int (0 : Int32)), (.int (0 : Int32)), (.int (0 : Int32)), (.int (0 : Int32)), (.int (0 : Int32)), (.int (0 : Int32)), (.int (0 : Int32)), (.int (0 : Int32)), (.int (0 : Int32)), (.int (0 : Int32)), (.int (0 : Int32)), (.int (0 : Int32)), (.int (0 : Int32))] (.int (0 : Int32)) := V_ca
          refine Out.via (g' := (mkF m 206 #[.val (.int p0), .val (.int p1), .val (.int p2), .val (.int p3), .val (.int (1 : Int32)), .val (.int sh), .val (.int c1), .val (.int c2), .val (.ref s12), .unset, .val .null, .unset, .unset, .unset] [(.ref ca), (.ref xs), (.ref xs)])) st10 ?_
          refine Out.via (g' := (mkF m 207 #[.val (.int p0), .val (.int p1), .val (.int p2), .val (.int p3), .val (.int (1 : Int32)), .val (.int sh), .val (.int c1), .val (.int c2), .val (.ref s12), .unset, .val .null, .unset, .unset, .unset] [(.ref ca), (.ref ca), (.ref xs), (.ref xs)])) (fun _ k => XS.dup X10.here hx rfl (hb hby at_206) rfl rfl k) ?_
          refine Out.via (g' := (mkF m 209 #[.val (.int p0), .val (.int p1), .val (.int p2), .val (.int p3), .val (.int (1 : Int32)), .val (.int sh), .val (.int c1), .val (.int c2), .val (.ref s12), .unset, .val .null, .unset, .unset, .unset] [(.int (6 : Int32)), (.ref ca), (.ref ca), (.ref xs), (.ref xs)])) (fun _ k => XS.bipush X10.here hx rfl (hb hby at_207) k) ?_
          refine Out.via (g' := (mkF m 211 #[.val (.int p0), .val (.int p1), .val (.int p2), .val (.int p3), .val (.int (1 : Int32)), .val (.int sh), .val (.int c1), .val (.int c2), .val (.ref s12), .unset, .val .null, .unset, .unset, .unset] [(.int (97 : Int32)), (.int (6 : Int32)), (.ref ca), (.ref ca), (.ref xs), (.ref xs)])) (fun _ k => XS.bipush X10.here hx rfl (hb hby at_209) k) ?_
          obtain ⟨T11, h11, L11, X11, e11, V_ca, N0, O, Kf4, st11⟩ := own_stC X10 hx hZ e10 V_ca (j := (6 : Int32)) ⟨by decide, by decide⟩ 6 rfl (Nat.le_of_ble_eq_true rfl) g_ca N0 O Kf4 (Or.inl (List.mem_of_getElem? (i := 0) rfl)) (g := (mkF m 211 #[.val (.int p0), .val (.int p1), .val (.int p2), .val (.int p3), .val (.int (1 : Int32)), .val (.int sh), .val (.int c1), .val (.int c2), .val (.ref s12), .unset, .val .null, .unset, .unset, .unset] [(.int (97 : Int32)), (.int (6 : Int32)), (.ref ca), (.ref ca), (.ref xs), (.ref xs)])) rfl rfl (hb hby at_211)
          replace V_ca : Arv Z h11 ca kA3 .char (21 : Int32) [(.int (nar .char (97 : Int32))), (.int (nar .char (112 : Int32))), (.int (nar .char (112 : Int32))), (.int (nar .char (108 : Int32))), (.int (nar .char (105 : Int32))), (.int (nar .char (99 : Int32))), (.int (nar .char (97 : Int32))), (.int (0 : Int32)), (.int (0 : Int32)), (.int (0 : Int32)), (.int (0 : Int32)), (.int (0 : Int32)), (.int (0 : Int32)), (.int (0 : Int32)), (.int (0 : Int32)), (.int (0 : Int32)), (.int (0 : Int32)), (.int (0 : Int32)), (.int (0 : Int32)), (.int (0 : Int32)), (.int (0 : Int32))] (.int (0 : Int32)) := V_ca
          refine Out.via (g' := (mkF m 212 #[.val (.int p0), .val (.int p1), .val (.int p2), .val (.int p3), .val (.int (1 : Int32)), .val (.int sh), .val (.int c1), .val (.int c2), .val (.ref s12), .unset, .val .null, .unset, .unset, .unset] [(.ref ca), (.ref xs), (.ref xs)])) st11 ?_
          refine Out.via (g' := (mkF m 213 #[.val (.int p0), .val (.int p1), .val (.int p2), .val (.int p3), .val (.int (1 : Int32)), .val (.int sh), .val (.int c1), .val (.int c2), .val (.ref s12), .unset, .val .null, .unset, .unset, .unset] [(.ref ca), (.ref ca), (.ref xs), (.ref xs)])) (fun _ k => XS.dup X11.here hx rfl (hb hby at_212) rfl rfl k) ?_
          refine Out.via (g' := (mkF m 215 #[.val (.int p0), .val (.int p1), .val (.int p2), .val (.int p3), .val (.int (1 : Int32)), .val (.int sh), .val (.int c1), .val (.int c2), .val (.ref s12), .unset, .val .null, .unset, .unset, .unset] [(.int (7 : Int32)), (.ref ca), (.ref ca), (.ref xs), (.ref xs)])) (fun _ k => XS.bipush X11.here hx rfl (hb hby at_213) k) ?_
          refine Out.via (g' := (mkF m 217 #[.val (.int p0), .val (.int p1), .val (.int p2), .val (.int p3), .val (.int (1 : Int32)), .val (.int sh), .val (.int c1), .val (.int c2), .val (.ref s12), .unset, .val .null, .unset, .unset, .unset] [(.int (116 : Int32)), (.int (7 : Int32)), (.ref ca), (.ref ca), (.ref xs), (.ref xs)])) (fun _ k => XS.bipush X11.here hx rfl (hb hby at_215) k) ?_
          obtain ⟨T12, h12, L12, X12, e12, V_ca, N0, O, Kf4, st12⟩ := own_stC X11 hx hZ e11 V_ca (j := (7 : Int32)) ⟨by decide, by decide⟩ 7 rfl (Nat.le_of_ble_eq_true rfl) g_ca N0 O Kf4 (Or.inl (List.mem_of_getElem? (i := 0) rfl)) (g := (mkF m 217 #[.val (.int p0), .val (.int p1), .val (.int p2), .val (.int p3), .val (.int (1 : Int32)), .val (.int sh), .val (.int c1), .val (.int c2), .val (.ref s12), .unset, .val .null, .unset, .unset, .unset] [(.int (116 : Int32)), (.int (7 : Int32)), (.ref ca), (.ref ca), (.ref xs), (.ref xs)])) rfl rfl (hb hby at_217)
          replace V_ca : Arv Z h12 ca kA3 .char (21 : Int32) [(.int (nar .char (97 : Int32))), (.int (nar .char (112 : Int32))), (.int (nar .char (112 : Int32))), (.int (nar .char (108 : Int32))), (.int (nar .char (105 : Int32))), (.int (nar .char (99 : Int32))), (.int (nar .char (97 : Int32))), (.int (nar .char (116 : Int32))), (.int (0 : Int32)), (.int (0 : Int32)), (.int (0 : Int32)), (.int (0 : Int32)), (.int (0 : Int32)), (.int (0 : Int32)), (.int (0 : Int32)), (.int (0 : Int32)), (.int (0 : Int32)), (.int (0 : Int32)), (.int (0 : Int32)), (.int (0 : Int32)), (.int (0 : Int32))] (.int (0 : Int32)) := V_ca
          refine Out.via (g' := (mkF m 218 #[.val (.int p0), .val (.int p1), .val (.int p2), .val (.int p3), .val (.int (1 : Int32)), .val (.int sh), .val (.int c1), .val (.int c2), .val (.ref s12), .unset, .val .null, .unset, .unset, .unset] [(.ref ca), (.ref xs), (.ref xs)])) st12 ?_
          refine Out.via (g' := (mkF m 219 #[.val (.int p0), .val (.int p1), .val (.int p2), .val (.int p3), .val (.int (1 : Int32)), .val (.int sh), .val (.int c1), .val (.int c2), .val (.ref s12), .unset, .val .null, .unset, .unset, .unset] [(.ref ca), (.ref ca), (.ref xs), (.ref xs)])) (fun _ k => XS.dup X12.here hx rfl (hb hby at_218) rfl rfl k) ?_
          refine Out.via (g' := (mkF m 221 #[.val (.int p0), .val (.int p1), .val (.int p2), .val (.int p3), .val (.int (1 : Int32)), .val (.int sh), .val (.int c1), .val (.int c2), .val (.ref s12), .unset, .val .null, .unset, .unset, .unset] [(.int (8 : Int32)), (.ref ca), (.ref ca), (.ref xs), (.ref xs)])) (fun _ k => XS.bipush X12.here hx rfl (hb hby at_219) k) ?_
          refine Out.via (g' := (mkF m 223 #[.val (.int p0), .val (.int p1), .val (.int p2), .val (.int p3), .val (.int (1 : Int32)), .val (.int sh), .val (.int c1), .val (.int c2), .val (.ref s12), .unset, .val .null, .unset, .unset, .unset] [(.int (105 : Int32)), (.int (8 : Int32)), (.ref ca), (.ref ca), (.ref xs), (.ref xs)])) (fun _ k => XS.bipush X12.here hx rfl (hb hby at_221) k) ?_
          obtain ⟨T13, h13, L13, X13, e13, V_ca, N0, O, Kf4, st13⟩ := own_stC X12 hx hZ e12 V_ca (j := (8 : Int32)) ⟨by decide, by decide⟩ 8 rfl (Nat.le_of_ble_eq_true rfl) g_ca N0 O Kf4 (Or.inl (List.mem_of_getElem? (i := 0) rfl)) (g := (mkF m 223 #[.val (.int p0), .val (.int p1), .val (.int p2), .val (.int p3), .val (.int (1 : Int32)), .val (.int sh), .val (.int c1), .val (.int c2), .val (.ref s12), .unset, .val .null, .unset, .unset, .unset] [(.int (105 : Int32)), (.int (8 : Int32)), (.ref ca), (.ref ca), (.ref xs), (.ref xs)])) rfl rfl (hb hby at_223)
          replace V_ca : Arv Z h13 ca kA3 .char (21 : Int32) [(.int (nar .char (97 : Int32))), (.int (nar .char (112 : Int32))), (.int (nar .char (112 : Int32))), (.int (nar .char (108 : Int32))), (.int (nar .char (105 : Int32))), (.int (nar .char (99 : Int32))), (.int (nar .char (97 : Int32))), (.int (nar .char (116 : Int32))), (.int (nar .char (105 : Int32))), (.int (0 : Int32)), (.int (0 : Int32)), (.int (0 : Int32)), (.int (0 : Int32)), (.int (0 : Int32)), (.int (0 : Int32)), (.int (0 : Int32)), (.int (0 : Int32)), (.int (0 : Int32)), (.int (0 : Int32)), (.int (0 : Int32)), (.int (0 : Int32))] (.int (0 : Int32)) := V_ca
          refine Out.via (g' := (mkF m 224 #[.val (.int p0), .val (.int p1), .val (.int p2), .val (.int p3), .val (.int (1 : Int32)), .val (.int sh), .val (.int c1), .val (.int c2), .val (.ref s12), .unset, .val .null, .unset, .unset, .unset] [(.ref ca), (.ref xs), (.ref xs)])) st13 ?_
          refine Out.via (g' := (mkF m 225 #[.val (.int p0), .val (.int p1), .val (.int p2), .val (.int p3), .val (.int (1 : Int32)), .val (.int sh), .val (.int c1), .val (.int c2), .val (.ref s12), .unset, .val .null, .unset, .unset, .unset] [(.ref ca), (.ref ca), (.ref xs), (.ref xs)])) (fun _ k => XS.dup X13.here hx rfl (hb hby at_224) rfl rfl k) ?_
          refine Out.via (g' := (mkF m 227 #[.val (.int p0), .val (.int p1), .val (.int p2), .val (.int p3), .val (.int (1 : Int32)), .val (.int sh), .val (.int c1), .val (.int c2), .val (.ref s12), .unset, .val .null, .unset, .unset, .unset] [(.int (9 : Int32)), (.ref ca), (.ref ca), (.ref xs), (.ref xs)])) (fun _ k => XS.bipush X13.here hx rfl (hb hby at_225) k) ?_
          refine Out.via (g' := (mkF m 229 #[.val (.int p0), .val (.int p1), .val (.int p2), .val (.int p3), .val (.int (1 : Int32)), .val (.int sh), .val (.int c1), .val (.int c2), .val (.ref s12), .unset, .val .null, .unset, .unset, .unset] [(.int (111 : Int32)), (.int (9 : Int32)), (.ref ca), (.ref ca), (.ref xs), (.ref xs)])) (fun _ k => XS.bipush X13.here hx rfl (hb hby at_227) k) ?_
          obtain ⟨T14, h14, L14, X14, e14, V_ca, N0, O, Kf4, st14⟩ := own_stC X13 hx hZ e13 V_ca (j := (9 : Int32)) ⟨by decide, by decide⟩ 9 rfl (Nat.le_of_ble_eq_true rfl) g_ca N0 O Kf4 (Or.inl (List.mem_of_getElem? (i := 0) rfl)) (g := (mkF m 229 #[.val (.int p0), .val (.int p1), .val (.int p2), .val (.int p3), .val (.int (1 : Int32)), .val (.int sh), .val (.int c1), .val (.int c2), .val (.ref s12), .unset, .val .null, .unset, .unset, .unset] [(.int (111 : Int32)), (.int (9 : Int32)), (.ref ca), (.ref ca), (.ref xs), (.ref xs)])) rfl rfl (hb hby at_229)
          replace V_ca : Arv Z h14 ca kA3 .char (21 : Int32) [(.int (nar .char (97 : Int32))), (.int (nar .char (112 : Int32))), (.int (nar .char (112 : Int32))), (.int (nar .char (108 : Int32))), (.int (nar .char (105 : Int32))), (.int (nar .char (99 : Int32))), (.int (nar .char (97 : Int32))), (.int (nar .char (116 : Int32))), (.int (nar .char (105 : Int32))), (.int (nar .char (111 : Int32))), (.int (0 : Int32)), (.int (0 : Int32)), (.int (0 : Int32)), (.int (0 : Int32)), (.int (0 : Int32)), (.int (0 : Int32)), (.int (0 : Int32)), (.int (0 : Int32)), (.int (0 : Int32)), (.int (0 : Int32)), (.int (0 : Int32))] (.int (0 : Int32)) := V_ca
          refine Out.via (g' := (mkF m 230 #[.val (.int p0), .val (.int p1), .val (.int p2), .val (.int p3), .val (.int (1 : Int32)), .val (.int sh), .val (.int c1), .val (.int c2), .val (.ref s12), .unset, .val .null, .unset, .unset, .unset] [(.ref ca), (.ref xs), (.ref xs)])) st14 ?_
          refine Out.via (g' := (mkF m 231 #[.val (.int p0), .val (.int p1), .val (.int p2), .val (.int p3), .val (.int (1 : Int32)), .val (.int sh), .val (.int c1), .val (.int c2), .val (.ref s12), .unset, .val .null, .unset, .unset, .unset] [(.ref ca), (.ref ca), (.ref xs), (.ref xs)])) (fun _ k => XS.dup X14.here hx rfl (hb hby at_230) rfl rfl k) ?_
          refine Out.via (g' := (mkF m 233 #[.val (.int p0), .val (.int p1), .val (.int p2), .val (.int p3), .val (.int (1 : Int32)), .val (.int sh), .val (.int c1), .val (.int c2), .val (.ref s12), .unset, .val .null, .unset, .unset, .unset] [(.int (10 : Int32)), (.ref ca), (.ref ca), (.ref xs), (.ref xs)])) (fun _ k => XS.bipush X14.here hx rfl (hb hby at_231) k) ?_
          refine Out.via (g' := (mkF m 235 #[.val (.int p0), .val (.int p1), .val (.int p2), .val (.int p3), .val (.int (1 : Int32)), .val (.int sh), .val (.int c1), .val (.int c2), .val (.ref s12), .unset, .val .null, .unset, .unset, .unset] [(.int (110 : Int32)), (.int (10 : Int32)), (.ref ca), (.ref ca), (.ref xs), (.ref xs)])) (fun _ k => XS.bipush X14.here hx rfl (hb hby at_233) k) ?_
          obtain ⟨T15, h15, L15, X15, e15, V_ca, N0, O, Kf4, st15⟩ := own_stC X14 hx hZ e14 V_ca (j := (10 : Int32)) ⟨by decide, by decide⟩ 10 rfl (Nat.le_of_ble_eq_true rfl) g_ca N0 O Kf4 (Or.inl (List.mem_of_getElem? (i := 0) rfl)) (g := (mkF m 235 #[.val (.int p0), .val (.int p1), .val (.int p2), .val (.int p3), .val (.int (1 : Int32)), .val (.int sh), .val (.int c1), .val (.int c2), .val (.ref s12), .unset, .val .null, .unset, .unset, .unset] [(.int (110 : Int32)), (.int (10 : Int32)), (.ref ca), (.ref ca), (.ref xs), (.ref xs)])) rfl rfl (hb hby at_235)
          replace V_ca : Arv Z h15 ca kA3 .char (21 : Int32) [(.int (nar .char (97 : Int32))), (.int (nar .char (112 : Int32))), (.int (nar .char (112 : Int32))), (.int (nar .char (108 : Int32))), (.int (nar .char (105 : Int32))), (.int (nar .char (99 : Int32))), (.int (nar .char (97 : Int32))), (.int (nar .char (116 : Int32))), (.int (nar .char (105 : Int32))), (.int (nar .char (111 : Int32))), (.int (nar .char (110 : Int32))), (.int (0 : Int32)), (.int (0 : Int32)), (.int (0 : Int32)), (.int (0 : Int32)), (.int (0 : Int32)), (.int (0 : Int32)), (.int (0 : Int32)), (.int (0 : Int32)), (.int (0 : Int32)), (.int (0 : Int32))] (.int (0 : Int32)) := V_ca
          refine Out.via (g' := (mkF m 236 #[.val (.int p0), .val (.int p1), .val (.int p2), .val (.int p3), .val (.int (1 : Int32)), .val (.int sh), .val (.int c1), .val (.int c2), .val (.ref s12), .unset, .val .null, .unset, .unset, .unset] [(.ref ca), (.ref xs), (.ref xs)])) st15 ?_
          refine Out.via (g' := (mkF m 237 #[.val (.int p0), .val (.int p1), .val (.int p2), .val (.int p3), .val (.int (1 : Int32)), .val (.int sh), .val (.int c1), .val (.int c2), .val (.ref s12), .unset, .val .null, .unset, .unset, .unset] [(.ref ca), (.ref ca), (.ref xs), (.ref xs)])) (fun _ k => XS.dup X15.here hx rfl (hb hby at_236) rfl rfl k) ?_
          refine Out.via (g' := (mkF m 239 #[.val (.int p0), .val (.int p1), .val (.int p2), .val (.int p3), .val (.int (1 : Int32)), .val (.int sh), .val (.int c1), .val (.int c2), .val (.ref s12), .unset, .val .null, .unset, .unset, .unset] [(.int (11 : Int32)), (.ref ca), (.ref ca), (.ref xs), (.ref xs)])) (fun _ k => XS.bipush X15.here hx rfl (hb hby at_237) k) ?_
          refine Out.via (g' := (mkF m 241 #[.val (.int p0), .val (.int p1), .val (.int p2), .val (.int p3), .val (.int (1 : Int32)), .val (.int sh), .val (.int c1), .val (.int c2), .val (.ref s12), .unset, .val .null, .unset, .unset, .unset] [(.int (47 : Int32)), (.int (11 : Int32)), (.ref ca), (.ref ca), (.ref xs), (.ref xs)])) (fun _ k => XS.bipush X15.here hx rfl (hb hby at_239) k) ?_
          obtain ⟨T16, h16, L16, X16, e16, V_ca, N0, O, Kf4, st16⟩ := own_stC X15 hx hZ e15 V_ca (j := (11 : Int32)) ⟨by decide, by decide⟩ 11 rfl (Nat.le_of_ble_eq_true rfl) g_ca N0 O Kf4 (Or.inl (List.mem_of_getElem? (i := 0) rfl)) (g := (mkF m 241 #[.val (.int p0), .val (.int p1), .val (.int p2), .val (.int p3), .val (.int (1 : Int32)), .val (.int sh), .val (.int c1), .val (.int c2), .val (.ref s12), .unset, .val .null, .unset, .unset, .unset] [(.int (47 : Int32)), (.int (11 : Int32)), (.ref ca), (.ref ca), (.ref xs), (.ref xs)])) rfl rfl (hb hby at_241)
          replace V_ca : Arv Z h16 ca kA3 .char (21 : Int32) [(.int (nar .char (97 : Int32))), (.int (nar .char (112 : Int32))), (.int (nar .char (112 : Int32))), (.int (nar .char (108 : Int32))), (.int (nar .char (105 : Int32))), (.int (nar .char (99 : Int32))), (.int (nar .char (97 : Int32))), (.int (nar .char (116 : Int32))), (.int (nar .char (105 : Int32))), (.int (nar .char (111 : Int32))), (.int (nar .char (110 : Int32))), (.int (nar .char (47 : Int32))), (.int (0 : Int32)), (.int (0 : Int32)), (.int (0 : Int32)), (.int (0 : Int32)), (.int (0 : Int32)), (.int (0 : Int32)), (.int (0 : Int32)), (.int (0 : Int32)), (.int (0 : Int32))] (.int (0 : Int32)) := V_ca
          refine Out.via (g' := (mkF m 242 #[.val (.int p0), .val (.int p1), .val (.int p2), .val (.int p3), .val (.int (1 : Int32)), .val (.int sh), .val (.int c1), .val (.int c2), .val (.ref s12), .unset, .val .null, .unset, .unset, .unset] [(.ref ca), (.ref xs), (.ref xs)])) st16 ?_
          refine Out.via (g' := (mkF m 243 #[.val (.int p0), .val (.int p1), .val (.int p2), .val (.int p3), .val (.int (1 : Int32)), .val (.int sh), .val (.int c1), .val (.int c2), .val (.ref s12), .unset, .val .null, .unset, .unset, .unset] [(.ref ca), (.ref ca), (.ref xs), (.ref xs)])) (fun _ k => XS.dup X16.here hx rfl (hb hby at_242) rfl rfl k) ?_
          refine Out.via (g' := (mkF m 245 #[.val (.int p0), .val (.int p1), .val (.int p2), .val (.int p3), .val (.int (1 : Int32)), .val (.int sh), .val (.int c1), .val (.int c2), .val (.ref s12), .unset, .val .null, .unset, .unset, .unset] [(.int (12 : Int32)), (.ref ca), (.ref ca), (.ref xs), (.ref xs)])) (fun _ k => XS.bipush X16.here hx rfl (hb hby at_243) k) ?_
          refine Out.via (g' := (mkF m 247 #[.val (.int p0), .val (.int p1), .val (.int p2), .val (.int p3), .val (.int (1 : Int32)), .val (.int sh), .val (.int c1), .val (.int c2), .val (.ref s12), .unset, .val .null, .unset, .unset, .unset] [(.int (115 : Int32)), (.int (12 : Int32)), (.ref ca), (.ref ca), (.ref xs), (.ref xs)])) (fun _ k => XS.bipush X16.here hx rfl (hb hby at_245) k) ?_
          obtain ⟨T17, h17, L17, X17, e17, V_ca, N0, O, Kf4, st17⟩ := own_stC X16 hx hZ e16 V_ca (j := (12 : Int32)) ⟨by decide, by decide⟩ 12 rfl (Nat.le_of_ble_eq_true rfl) g_ca N0 O Kf4 (Or.inl (List.mem_of_getElem? (i := 0) rfl)) (g := (mkF m 247 #[.val (.int p0), .val (.int p1), .val (.int p2), .val (.int p3), .val (.int (1 : Int32)), .val (.int sh), .val (.int c1), .val (.int c2), .val (.ref s12), .unset, .val .null, .unset, .unset, .unset] [(.int (115 : Int32)), (.int (12 : Int32)), (.ref ca), (.ref ca), (.ref xs), (.ref xs)])) rfl rfl (hb hby at_247)
          replace V_ca : Arv Z h17 ca kA3 .char (21 : Int32) [(.int (nar .char (97 : Int32))), (.int (nar .char (112 : Int32))), (.int (nar .char (112 : Int32))), (.int (nar .char (108 : Int32))), (.int (nar .char (105 : Int32))), (.int (nar .char (99 : Int32))), (.int (nar .char (97 : Int32))), (.int (nar .char (116 : Int32))), (.int (nar .char (105 : Int32))), (.int (nar .char (111 : Int32))), (.int (nar .char (110 : Int32))), (.int (nar .char (47 : Int32))), (.int (nar .char (115 : Int32))), (.int (0 : Int32)), (.int (0 : Int32)), (.int (0 : Int32)), (.int (0 : Int32)), (.int (0 : Int32)), (.int (0 : Int32)), (.int (0 : Int32)), (.int (0 : Int32))] (.int (0 : Int32)) := V_ca
          refine Out.via (g' := (mkF m 248 #[.val (.int p0), .val (.int p1), .val (.int p2), .val (.int p3), .val (.int (1 : Int32)), .val (.int sh), .val (.int c1), .val (.int c2), .val (.ref s12), .unset, .val .null, .unset, .unset, .unset] [(.ref ca), (.ref xs), (.ref xs)])) st17 ?_
          refine Out.via (g' := (mkF m 249 #[.val (.int p0), .val (.int p1), .val (.int p2), .val (.int p3), .val (.int (1 : Int32)), .val (.int sh), .val (.int c1), .val (.int c2), .val (.ref s12), .unset, .val .null, .unset, .unset, .unset] [(.ref ca), (.ref ca), (.ref xs), (.ref xs)])) (fun _ k => XS.dup X17.here hx rfl (hb hby at_248) rfl rfl k) ?_
          refine Out.via (g' := (mkF m 251 #[.val (.int p0), .val (.int p1), .val (.int p2), .val (.int p3), .val (.int (1 : Int32)), .val (.int sh), .val (.int c1), .val (.int c2), .val (.ref s12), .unset, .val .null, .unset, .unset, .unset] [(.int (13 : Int32)), (.ref ca), (.ref ca), (.ref xs), (.ref xs)])) (fun _ k => XS.bipush X17.here hx rfl (hb hby at_249) k) ?_
          refine Out.via (g' := (mkF m 253 #[.val (.int p0), .val (.int p1), .val (.int p2), .val (.int p3), .val (.int (1 : Int32)), .val (.int sh), .val (.int c1), .val (.int c2), .val (.ref s12), .unset, .val .null, .unset, .unset, .unset] [(.int (111 : Int32)), (.int (13 : Int32)), (.ref ca), (.ref ca), (.ref xs), (.ref xs)])) (fun _ k => XS.bipush X17.here hx rfl (hb hby at_251) k) ?_
          obtain ⟨T18, h18, L18, X18, e18, V_ca, N0, O, Kf4, st18⟩ := own_stC X17 hx hZ e17 V_ca (j := (13 : Int32)) ⟨by decide, by decide⟩ 13 rfl (Nat.le_of_ble_eq_true rfl) g_ca N0 O Kf4 (Or.inl (List.mem_of_getElem? (i := 0) rfl)) (g := (mkF m 253 #[.val (.int p0), .val (.int p1), .val (.int p2), .val (.int p3), .val (.int (1 : Int32)), .val (.int sh), .val (.int c1), .val (.int c2), .val (.ref s12), .unset, .val .null, .unset, .unset, .unset] [(.int (111 : Int32)), (.int (13 : Int32)), (.ref ca), (.ref ca), (.ref xs), (.ref xs)])) rfl rfl (hb hby at_253)
          replace V_ca : Arv Z h18 ca kA3 .char (21 : Int32) [(.int (nar .char (97 : Int32))), (.int (nar .char (112 : Int32))), (.int (nar .char (112 : Int32))), (.int (nar .char (108 : Int32))), (.int (nar .char (105 : Int32))), (.int (nar .char (99 : Int32))), (.int (nar .char (97 : Int32))), (.int (nar .char (116 : Int32))), (.int (nar .char (105 : Int32))), (.int (nar .char (111 : Int32))), (.int (nar .char (110 : Int32))), (.int (nar .char (47 : Int32))), (.int (nar .char (115 : Int32))), (.int (nar .char (111 : Int32))), (.int (0 : Int32)), (.int (0 : Int32)), (.int (0 : Int32)), (.int (0 : Int32)), (.int (0 : Int32)), (.int (0 : Int32)), (.int (0 : Int32))] (.int (0 : Int32)) := V_ca
          refine Out.via (g' := (mkF m 254 #[.val (.int p0), .val (.int p1), .val (.int p2), .val (.int p3), .val (.int (1 : Int32)), .val (.int sh), .val (.int c1), .val (.int c2), .val (.ref s12), .unset, .val .null, .unset, .unset, .unset] [(.ref ca), (.ref xs), (.ref xs)])) st18 ?_
          refine Out.via (g' := (mkF m 255 #[.val (.int p0), .val (.int p1), .val (.int p2), .val (.int p3), .val (.int (1 : Int32)), .val (.int sh), .val (.int c1), .val (.int c2), .val (.ref s12), .unset, .val .null, .unset, .unset, .unset] [(.ref ca), (.ref ca), (.ref xs), (.ref xs)])) (fun _ k => XS.dup X18.here hx rfl (hb hby at_254) rfl rfl k) ?_
          refine Out.via (g' := (mkF m 257 #[.val (.int p0), .val (.int p1), .val (.int p2), .val (.int p3), .val (.int (1 : Int32)), .val (.int sh), .val (.int c1), .val (.int c2), .val (.ref s12), .unset, .val .null, .unset, .unset, .unset] [(.int (14 : Int32)), (.ref ca), (.ref ca), (.ref xs), (.ref xs)])) (fun _ k => XS.bipush X18.here hx rfl (hb hby at_255) k) ?_
          refine Out.via (g' := (mkF m 259 #[.val (.int p0), .val (.int p1), .val (.int p2), .val (.int p3), .val (.int (1 : Int32)), .val (.int sh), .val (.int c1), .val (.int c2), .val (.ref s12), .unset, .val .null, .unset, .unset, .unset] [(.int (97 : Int32)), (.int (14 : Int32)), (.ref ca), (.ref ca), (.ref xs), (.ref xs)])) (fun _ k => XS.bipush X18.here hx rfl (hb hby at_257) k) ?_
          obtain ⟨T19, h19, L19, X19, e19, V_ca, N0, O, Kf4, st19⟩ := own_stC X18 hx hZ e18 V_ca (j := (14 : Int32)) ⟨by decide, by decide⟩ 14 rfl (Nat.le_of_ble_eq_true rfl) g_ca N0 O Kf4 (Or.inl (List.mem_of_getElem? (i := 0) rfl)) (g := (mkF m 259 #[.val (.int p0), .val (.int p1), .val (.int p2), .val (.int p3), .val (.int (1 : Int32)), .val (.int sh), .val (.int c1), .val (.int c2), .val (.ref s12), .unset, .val .null, .unset, .unset, .unset] [(.int (97 : Int32)), (.int (14 : Int32)), (.ref ca), (.ref ca), (.ref xs), (.ref xs)])) rfl rfl (hb hby at_259)
          replace V_ca : Arv Z h19 ca kA3 .char (21 : Int32) [(.int (nar .char (97 : Int32))), (.int (nar .char (112 : Int32))), (.int (nar .char (112 : Int32))), (.int (nar .char (108 : Int32))), (.int (nar .char (105 : Int32))), (.int (nar .char (99 : Int32))), (.int (nar .char (97 : Int32))), (.int (nar .char (116 : Int32))), (.int (nar .char (105 : Int32))), (.int (nar .char (111 : Int32))), (.int (nar .char (110 : Int32))), (.int (nar .char (47 : Int32))), (.int (nar .char (115 : Int32))), (.int (nar .char (111 : Int32))), (.int (nar .char (97 : Int32))), (.int (0 : Int32)), (.int (0 : Int32)), (.int (0 : Int32)), (.int (0 : Int32)), (.int (0 : Int32)), (.int (0 : Int32))] (.int (0 : Int32)) := V_ca
          refine Out.via (g' := (mkF m 260 #[.val (.int p0), .val (.int p1), .val (.int p2), .val (.int p3), .val (.int (1 : Int32)), .val (.int sh), .val (.int c1), .val (.int c2), .val (.ref s12), .unset, .val .null, .unset, .unset, .unset] [(.ref ca), (.ref xs), (.ref xs)])) st19 ?_
          refine Out.via (g' := (mkF m 261 #[.val (.int p0), .val (.int p1), .val (.int p2), .val (.int p3), .val (.int (1 : Int32)), .val (.int sh), .val (.int c1), .val (.int c2), .val (.ref s12), .unset, .val .null, .unset, .unset, .unset] [(.ref ca), (.ref ca), (.ref xs), (.ref xs)])) (fun _ k => XS.dup X19.here hx rfl (hb hby at_260) rfl rfl k) ?_
          refine Out.via (g' := (mkF m 263 #[.val (.int p0), .val (.int p1), .val (.int p2), .val (.int p3), .val (.int (1 : Int32)), .val (.int sh), .val (.int c1), .val (.int c2), .val (.ref s12), .unset, .val .null, .unset, .unset, .unset] [(.int (15 : Int32)), (.ref ca), (.ref ca), (.ref xs), (.ref xs)])) (fun _ k => XS.bipush X19.here hx rfl (hb hby at_261) k) ?_
          refine Out.via (g' := (mkF m 265 #[.val (.int p0), .val (.int p1), .val (.int p2), .val (.int p3), .val (.int (1 : Int32)), .val (.int sh), .val (.int c1), .val (.int c2), .val (.ref s12), .unset, .val .null, .unset, .unset, .unset] [(.int (112 : Int32)), (.int (15 : Int32)), (.ref ca), (.ref ca), (.ref xs), (.ref xs)])) (fun _ k => XS.bipush X19.here hx rfl (hb hby at_263) k) ?_
          obtain ⟨T20, h20, L20, X20, e20, V_ca, N0, O, Kf4, st20⟩ := own_stC X19 hx hZ e19 V_ca (j := (15 : Int32)) ⟨by decide, by decide⟩ 15 rfl (Nat.le_of_ble_eq_true rfl) g_ca N0 O Kf4 (Or.inl (List.mem_of_getElem? (i := 0) rfl)) (g := (mkF m 265 #[.val (.int p0), .val (.int p1), .val (.int p2), .val (.int p3), .val (.int (1 : Int32)), .val (.int sh), .val (.int c1), .val (.int c2), .val (.ref s12), .unset, .val .null, .unset, .unset, .unset] [(.int (112 : Int32)), (.int (15 : Int32)), (.ref ca), (.ref ca), (.ref xs), (.ref xs)])) rfl rfl (hb hby at_265)
          replace V_ca : Arv Z h20 ca kA3 .char (21 : Int32) [(.int (nar .char (97 : Int32))), (.int (nar .char (112 : Int32))), (.int (nar .char (112 : Int32))), (.int (nar .char (108 : Int32))), (.int (nar .char (105 : Int32))), (.int (nar .char (99 : Int32))), (.int (nar .char (97 : Int32))), (.int (nar .char (116 : Int32))), (.int (nar .char (105 : Int32))), (.int (nar .char (111 : Int32))), (.int (nar .char (110 : Int32))), (.int (nar .char (47 : Int32))), (.int (nar .char (115 : Int32))), (.int (nar .char (111 : Int32))), (.int (nar .char (97 : Int32))), (.int (nar .char (112 : Int32))), (.int (0 : Int32)), (.int (0 : Int32)), (.int (0 : Int32)), (.int (0 : Int32)), (.int (0 : Int32))] (.int (0 : Int32)) := V_ca
          refine Out.via (g' := (mkF m 266 #[.val (.int p0), .val (.int p1), .val (.int p2), .val (.int p3), .val (.int (1 : Int32)), .val (.int sh), .val (.int c1), .val (.int c2), .val (.ref s12), .unset, .val .null, .unset, .unset, .unset] [(.ref ca), (.ref xs), (.ref xs)])) st20 ?_
          refine Out.via (g' := (mkF m 267 #[.val (.int p0), .val (.int p1), .val (.int p2), .val (.int p3), .val (.int (1 : Int32)), .val (.int sh), .val (.int c1), .val (.int c2), .val (.ref s12), .unset, .val .null, .unset, .unset, .unset] [(.ref ca), (.ref ca), (.ref xs), (.ref xs)])) (fun _ k => XS.dup X20.here hx rfl (hb hby at_266) rfl rfl k) ?_
          refine Out.via (g' := (mkF m 269 #[.val (.int p0), .val (.int p1), .val (.int p2), .val (.int p3), .val (.int (1 : Int32)), .val (.int sh), .val (.int c1), .val (.int c2), .val (.ref s12), .unset, .val .null, .unset, .unset, .unset] [(.int (16 : Int32)), (.ref ca), (.ref ca), (.ref xs), (.ref xs)])) (fun _ k => XS.bipush X20.here hx rfl (hb hby at_267) k) ?_
          refine Out.via (g' := (mkF m 271 #[.val (.int p0), .val (.int p1), .val (.int p2), .val (.int p3), .val (.int (1 : Int32)), .val (.int sh), .val (.int c1), .val (.int c2), .val (.ref s12), .unset, .val .null, .unset, .unset, .unset] [(.int (43 : Int32)), (.int (16 : Int32)), (.ref ca), (.ref ca), (.ref xs), (.ref xs)])) (fun _ k => XS.bipush X20.here hx rfl (hb hby at_269) k) ?_
          obtain ⟨T21, h21, L21, X21, e21, V_ca, N0, O, Kf4, st21⟩ := own_stC X20 hx hZ e20 V_ca (j := (16 : Int32)) ⟨by decide, by decide⟩ 16 rfl (Nat.le_of_ble_eq_true rfl) g_ca N0 O Kf4 (Or.inl (List.mem_of_getElem? (i := 0) rfl)) (g := (mkF m 271 #[.val (.int p0), .val (.int p1), .val (.int p2), .val (.int p3), .val (.int (1 : Int32)), .val (.int sh), .val (.int c1), .val (.int c2), .val (.ref s12), .unset, .val .null, .unset, .unset, .unset] [(.int (43 : Int32)), (.int (16 : Int32)), (.ref ca), (.ref ca), (.ref xs), (.ref xs)])) rfl rfl (hb hby at_271)
          replace V_ca : Arv Z h21 ca kA3 .char (21 : Int32) [(.int (nar .char (97 : Int32))), (.int (nar .char (112 : Int32))), (.int (nar .char (112 : Int32))), (.int (nar .char (108 : Int32))), (.int (nar .char (105 : Int32))), (.int (nar .char (99 : Int32))), (.int (nar .char (97 : Int32))), (.int (nar .char (116 : Int32))), (.int (nar .char (105 : Int32))), (.int (nar .char (111 : Int32))), (.int (nar .char (110 : Int32))), (.int (nar .char (47 : Int32))), (.int (nar .char (115 : Int32))), (.int (nar .char (111 : Int32))), (.int (nar .char (97 : Int32))), (.int (nar .char (112 : Int32))), (.int (nar .char (43 : Int32))), (.int (0 : Int32)), (.int (0 : Int32)), (.int (0 : Int32)), (.int (0 : Int32))] (.int (0 : Int32)) := V_ca
          refine Out.via (g' := (mkF m 272 #[.val (.int p0), .val (.int p1), .val (.int p2), .val (.int p3), .val (.int (1 : Int32)), .val (.int sh), .val (.int c1), .val (.int c2), .val (.ref s12), .unset, .val .null, .unset, .unset, .unset] [(.ref ca), (.ref xs), (.ref xs)])) st21 ?_
          refine Out.via (g' := (mkF m 273 #[.val (.int p0), .val (.int p1), .val (.int p2), .val (.int p3), .val (.int (1 : Int32)), .val (.int sh), .val (.int c1), .val (.int c2), .val (.ref s12), .unset, .val .null, .unset, .unset, .unset] [(.ref ca), (.ref ca), (.ref xs), (.ref xs)])) (fun _ k => XS.dup X21.here hx rfl (hb hby at_272) rfl rfl k) ?_
          refine Out.via (g' := (mkF m 275 #[.val (.int p0), .val (.int p1), .val (.int p2), .val (.int p3), .val (.int (1 : Int32)), .val (.int sh), .val (.int c1), .val (.int c2), .val (.ref s12), .unset, .val .null, .unset, .unset, .unset] [(.int (17 : Int32)), (.ref ca), (.ref ca), (.ref xs), (.ref xs)])) (fun _ k => XS.bipush X21.here hx rfl (hb hby at_273) k) ?_
          refine Out.via (g' := (mkF m 277 #[.val (.int p0), .val (.int p1), .val (.int p2), .val (.int p3), .val (.int (1 : Int32)), .val (.int sh), .val (.int c1), .val (.int c2), .val (.ref s12), .unset, .val .null, .unset, .unset, .unset] [(.int (120 : Int32)), (.int (17 : Int32)), (.ref ca), (.ref ca), (.ref xs), (.ref xs)])) (fun _ k => XS.bipush X21.here hx rfl (hb hby at_275) k) ?_
          obtain ⟨T22, h22, L22, X22, e22, V_ca, N0, O, Kf4, st22⟩ := own_stC X21 hx hZ e21 V_ca (j := (17 : Int32)) ⟨by decide, by decide⟩ 17 rfl (Nat.le_of_ble_eq_true rfl) g_ca N0 O Kf4 (Or.inl (List.mem_of_getElem? (i := 0) rfl)) (g := (mkF m 277 #[.val (.int p0), .val (.int p1), .val (.int p2), .val (.int p3), .val (.int (1 : Int32)), .val (.int sh), .val (.int c1), .val (.int c2), .val (.ref s12), .unset, .val .null, .unset, .unset, .unset] [(.int (120 : Int32)), (.int (17 : Int32)), (.ref ca), (.ref ca), (.ref xs), (.ref xs)])) rfl rfl (hb hby at_277)
          replace V_ca : Arv Z h22 ca kA3 .char (21 : Int32) [(.int (nar .char (97 : Int32))), (.int (nar .char (112 : Int32))), (.int (nar .char (112 : Int32))), (.int (nar .char (108 : Int32))), (.int (nar .char (105 : Int32))), (.int (nar .char (99 : Int32))), (.int (nar .char (97 : Int32))), (.int (nar .char (116 : Int32))), (.int (nar .char (105 : Int32))), (.int (nar .char (111 : Int32))), (.int (nar .char (110 : Int32))), (.int (nar .char (47 : Int32))), (.int (nar .char (115 : Int32))), (.int (nar .char (111 : Int32))), (.int (nar .char (97 : Int32))), (.int (nar .char (112 : Int32))), (.int (nar .char (43 : Int32))), (.int (nar .char (120 : Int32))), (.int (0 : Int32)), (.int (0 : Int32)), (.int (0 : Int32))] (.int (0 : Int32)) := V_ca
          refine Out.via (g' := (mkF m 278 #[.val (.int p0), .val (.int p1), .val (.int p2), .val (.int p3), .val (.int (1 : Int32)), .val (.int sh), .val (.int c1), .val (.int c2), .val (.ref s12), .unset, .val .null, .unset, .unset, .unset] [(.ref ca), (.ref xs), (.ref xs)])) st22 ?_
          refine Out.via (g' := (mkF m 279 #[.val (.int p0), .val (.int p1), .val (.int p2), .val (.int p3), .val (.int (1 : Int32)), .val (.int sh), .val (.int c1), .val (.int c2), .val (.ref s12), .unset, .val .null, .unset, .unset, .unset] [(.ref ca), (.ref ca), (.ref xs), (.ref xs)])) (fun _ k => XS.dup X22.here hx rfl (hb hby at_278) rfl rfl k) ?_
          refine Out.via (g' := (mkF m 281 #[.val (.int p0), .val (.int p1), .val (.int p2), .val (.int p3), .val (.int (1 : Int32)), .val (.int sh), .val (.int c1), .val (.int c2), .val (.ref s12), .unset, .val .null, .unset, .unset, .unset] [(.int (18 : Int32)), (.ref ca), (.ref ca), (.ref xs), (.ref xs)])) (fun _ k => XS.bipush X22.here hx rfl (hb hby at_279) k) ?_
          refine Out.via (g' := (mkF m 283 #[.val (.int p0), .val (.int p1), .val (.int p2), .val (.int p3), .val (.int (1 : Int32)), .val (.int sh), .val (.int c1), .val (.int c2), .val (.ref s12), .unset, .val .null, .unset, .unset, .unset] [(.int (109 : Int32)), (.int (18 : Int32)), (.ref ca), (.ref ca), (.ref xs), (.ref xs)])) (fun _ k => XS.bipush X22.here hx rfl (hb hby at_281) k) ?_
          obtain ⟨T23, h23, L23, X23, e23, V_ca, N0, O, Kf4, st23⟩ := own_stC X22 hx hZ e22 V_ca (j := (18 : Int32)) ⟨by decide, by decide⟩ 18 rfl (Nat.le_of_ble_eq_true rfl) g_ca N0 O Kf4 (Or.inl (List.mem_of_getElem? (i := 0) rfl)) (g := (mkF m 283 #[.val (.int p0), .val (.int p1), .val (.int p2), .val (.int p3), .val (.int (1 : Int32)), .val (.int sh), .val (.int c1), .val (.int c2), .val (.ref s12), .unset, .val .null, .unset, .unset, .unset] [(.int (109 : Int32)), (.int (18 : Int32)), (.ref ca), (.ref ca), (.ref xs), (.ref xs)])) rfl rfl (hb hby at_283)
          replace V_ca : Arv Z h23 ca kA3 .char (21 : Int32) [(.int (nar .char (97 : Int32))), (.int (nar .char (112 : Int32))), (.int (nar .char (112 : Int32))), (.int (nar .char (108 : Int32))), (.int (nar .char (105 : Int32))), (.int (nar .char (99 : Int32))), (.int (nar .char (97 : Int32))), (.int (nar .char (116 : Int32))), (.int (nar .char (105 : Int32))), (.int (nar .char (111 : Int32))), (.int (nar .char (110 : Int32))), (.int (nar .char (47 : Int32))), (.int (nar .char (115 : Int32))), (.int (nar .char (111 : Int32))), (.int (nar .char (97 : Int32))), (.int (nar .char (112 : Int32))), (.int (nar .char (43 : Int32))), (.int (nar .char (120 : Int32))), (.int (nar .char (109 : Int32))), (.int (0 : Int32)), (.int (0 : Int32))] (.int (0 : Int32)) := V_ca
          refine Out.via (g' := (mkF m 284 #[.val (.int p0), .val (.int p1), .val (.int p2), .val (.int p3), .val (.int (1 : Int32)), .val (.int sh), .val (.int c1), .val (.int c2), .val (.ref s12), .unset, .val .null, .unset, .unset, .unset] [(.ref ca), (.ref xs), (.ref xs)])) st23 ?_
          refine Out.via (g' := (mkF m 285 #[.val (.int p0), .val (.int p1), .val (.int p2), .val (.int p3), .val (.int (1 : Int32)), .val (.int sh), .val (.int c1), .val (.int c2), .val (.ref s12), .unset, .val .null, .unset, .unset, .unset] [(.ref ca), (.ref ca), (.ref xs), (.ref xs)])) (fun _ k => XS.dup X23.here hx rfl (hb hby at_284) rfl rfl k) ?_
          refine Out.via (g' := (mkF m 287 #[.val (.int p0), .val (.int p1), .val (.int p2), .val (.int p3), .val (.int (1 : Int32)), .val (.int sh), .val (.int c1), .val (.int c2), .val (.ref s12), .unset, .val .null, .unset, .unset, .unset] [(.int (19 : Int32)), (.ref ca), (.ref ca), (.ref xs), (.ref xs)])) (fun _ k => XS.bipush X23.here hx rfl (hb hby at_285) k) ?_
          refine Out.via (g' := (mkF m 289 #[.val (.int p0), .val (.int p1), .val (.int p2), .val (.int p3), .val (.int (1 : Int32)), .val (.int sh), .val (.int c1), .val (.int c2), .val (.ref s12), .unset, .val .null, .unset, .unset, .unset] [(.int (108 : Int32)), (.int (19 : Int32)), (.ref ca), (.ref ca), (.ref xs), (.ref xs)])) (fun _ k => XS.bipush X23.here hx rfl (hb hby at_287) k) ?_
          obtain ⟨T24, h24, L24, X24, e24, V_ca, N0, O, Kf4, st24⟩ := own_stC X23 hx hZ e23 V_ca (j := (19 : Int32)) ⟨by decide, by decide⟩ 19 rfl (Nat.le_of_ble_eq_true rfl) g_ca N0 O Kf4 (Or.inl (List.mem_of_getElem? (i := 0) rfl)) (g := (mkF m 289 #[.val (.int p0), .val (.int p1), .val (.int p2), .val (.int p3), .val (.int (1 : Int32)), .val (.int sh), .val (.int c1), .val (.int c2), .val (.ref s12), .unset, .val .null, .unset, .unset, .unset] [(.int (108 : Int32)), (.int (19 : Int32)), (.ref ca), (.ref ca), (.ref xs), (.ref xs)])) rfl rfl (hb hby at_289)
          replace V_ca : Arv Z h24 ca kA3 .char (21 : Int32) [(.int (nar .char (97 : Int32))), (.int (nar .char (112 : Int32))), (.int (nar .char (112 : Int32))), (.int (nar .char (108 : Int32))), (.int (nar .char (105 : Int32))), (.int (nar .char (99 : Int32))), (.int (nar .char (97 : Int32))), (.int (nar .char (116 : Int32))), (.int (nar .char (105 : Int32))), (.int (nar .char (111 : Int32))), (.int (nar .char (110 : Int32))), (.int (nar .char (47 : Int32))), (.int (nar .char (115 : Int32))), (.int (nar .char (111 : Int32))), (.int (nar .char (97 : Int32))), (.int (nar .char (112 : Int32))), (.int (nar .char (43 : Int32))), (.int (nar .char (120 : Int32))), (.int (nar .char (109 : Int32))), (.int (nar .char (108 : Int32))), (.int (0 : Int32))] (.int (0 : Int32)) := V_ca
          refine Out.via (g' := (mkF m 290 #[.val (.int p0), .val (.int p1), .val (.int p2), .val (.int p3), .val (.int (1 : Int32)), .val (.int sh), .val (.int c1), .val (.int c2), .val (.ref s12), .unset, .val .null, .unset, .unset, .unset] [(.ref ca), (.ref xs), (.ref xs)])) st24 ?_
          refine Out.via (g' := (mkF m 291 #[.val (.int p0), .val (.int p1), .val (.int p2), .val (.int p3), .val (.int (1 : Int32)), .val (.int sh), .val (.int c1), .val (.int c2), .val (.ref s12), .unset, .val .null, .unset, .unset, .unset] [(.ref ca), (.ref ca), (.ref xs), (.ref xs)])) (fun _ k => XS.dup X24.here hx rfl (hb hby at_290) rfl rfl k) ?_
          refine Out.via (g' := (mkF m 293 #[.val (.int p0), .val (.int p1), .val (.int p2), .val (.int p3), .val (.int (1 : Int32)), .val (.int sh), .val (.int c1), .val (.int c2), .val (.ref s12), .unset, .val .null, .unset, .unset, .unset] [(.int (20 : Int32)), (.ref ca), (.ref ca), (.ref xs), (.ref xs)])) (fun _ k => XS.bipush X24.here hx rfl (hb hby at_291) k) ?_
          refine Out.via (g' := (mkF m 295 #[.val (.int p0), .val (.int p1), .val (.int p2), .val (.int p3), .val (.int (1 : Int32)), .val (.int sh), .val (.int c1), .val (.int c2), .val (.ref s12), .unset, .val .null, .unset, .unset, .unset] [(.int c1), (.int (20 : Int32)), (.ref ca), (.ref ca), (.ref xs), (.ref xs)])) (fun _ k => XS.iload X24.here hx rfl (hb hby at_293) rfl k) ?_
          obtain ⟨T25, h25, L25, X25, e25, V_ca, N0, O, Kf4, st25⟩ := own_stC X24 hx hZ e24 V_ca (j := (20 : Int32)) ⟨by decide, by decide⟩ 20 rfl (Nat.le_of_ble_eq_true rfl) g_ca N0 O Kf4 (Or.inl (List.mem_of_getElem? (i := 0) rfl)) (g := (mkF m 295 #[.val (.int p0), .val (.int p1), .val (.int p2), .val (.int p3), .val (.int (1 : Int32)), .val (.int sh), .val (.int c1), .val (.int c2), .val (.ref s12), .unset, .val .null, .unset, .unset, .unset] [(.int c1), (.int (20 : Int32)), (.ref ca), (.ref ca), (.ref xs), (.ref xs)])) rfl rfl (hb hby at_295)
          replace V_ca : Arv Z h25 ca kA3 .char (21 : Int32) [(.int (nar .char (97 : Int32))), (.int (nar .char (112 : Int32))), (.int (nar .char (112 : Int32))), (.int (nar .char (108 : Int32))), (.int (nar .char (105 : Int32))), (.int (nar .char (99 : Int32))), (.int (nar .char (97 : Int32))), (.int (nar .char (116 : Int32))), (.int (nar .char (105 : Int32))), (.int (nar .char (111 : Int32))), (.int (nar .char (110 : Int32))), (.int (nar .char (47 : Int32))), (.int (nar .char (115 : Int32))), (.int (nar .char (111 : Int32))), (.int (nar .char (97 : Int32))), (.int (nar .char (112 : Int32))), (.int (nar .char (43 : Int32))), (.int (nar .char (120 : Int32))), (.int (nar .char (109 : Int32))), (.int (nar .char (108 : Int32))), (.int (nar .char c1))] (.int (0 : Int32)) := V_ca
          refine Out.via (g' := (mkF m 296 #[.val (.int p0), .val (.int p1), .val (.int p2), .val (.int p3), .val (.int (1 : Int32)), .val (.int sh), .val (.int c1), .val (.int c2), .val (.ref s12), .unset, .val .null, .unset, .unset, .unset] [(.ref ca), (.ref xs), (.ref xs)])) st25 ?_
          replace V_ca : Arv Z h25 ca kA3 .char (21 : Int32) [(.int (nar .char (97 : Int32))), (.int (nar .char (112 : Int32))), (.int (nar .char (112 : Int32))), (.int (nar .char (108 : Int32))), (.int (nar .char (105 : Int32))), (.int (nar .char (99 : Int32))), (.int (nar .char (97 : Int32))), (.int (nar .char (116 : Int32))), (.int (nar .char (105 : Int32))), (.int (nar .char (111 : Int32))), (.int (nar .char (110 : Int32))), (.int (nar .char (47 : Int32))), (.int (nar .char (115 : Int32))), (.int (nar .char (111 : Int32))), (.int (nar .char (97 : Int32))), (.int (nar .char (112 : Int32))), (.int (nar .char (43 : Int32))), (.int (nar .char (120 : Int32))), (.int (nar .char (109 : Int32))), (.int (nar .char (108 : Int32))), (.int (nar .char c1))] (.int (0 : Int32)) := V_ca
          replace hk : _ ≤ h25.size := Nat.le_trans hk Kf4.1
          replace F_value_xs := F_value_xs.keep Kf4 (ninS ne_xs_ca nin0)
          replace F_coder_xs := F_coder_xs.keep Kf4 (ninS ne_xs_ca nin0)
          replace A2 := A2.keep Kf4
          have hp : ∀ c ∈ ([(nar .char (97 : Int32)), (nar .char (112 : Int32)), (nar .char (112 : Int32)), (nar .char (108 : Int32)), (nar .char (105 : Int32)), (nar .char (99 : Int32)), (nar .char (97 : Int32)), (nar .char (116 : Int32)), (nar .char (105 : Int32)), (nar .char (111 : Int32)), (nar .char (110 : Int32)), (nar .char (47 : Int32)), (nar .char (115 : Int32)), (nar .char (111 : Int32)), (nar .char (97 : Int32)), (nar .char (112 : Int32)), (nar .char (43 : Int32)), (nar .char (120 : Int32)), (nar .char (109 : Int32)), (nar .char (108 : Int32)), (nar .char c1)] : List Int32), own_lat c := own_allS (by unfold own_lat; decide) (own_allS (by unfold own_lat; decide) (own_allS (by unfold own_lat; decide) (own_allS (by unfold own_lat; decide) (own_allS (by unfold own_lat; decide) (own_allS (by unfold own_lat; decide) (own_allS (by unfold own_lat; decide) (own_allS (by unfold own_lat; decide) (own_allS (by unfold own_lat; decide) (own_allS (by unfold own_lat; decide) (own_allS (by unfold own_lat; decide) (own_allS (by unfold own_lat; decide) (own_allS (by unfold own_lat; decide) (own_allS (by unfold own_lat; decide) (own_allS (by unfold own_lat; decide) (own_allS (by unfold own_lat; decide) (own_allS (by unfold own_lat; decide) (own_allS (by unfold own_lat; decide) (own_allS (by unfold own_lat; decide) (own_allS (by unfold own_lat; decide) (own_allS (by rw [own_lat_nar D_c1]; exact D_c1) (own_all0)))))))))))))))))))))
          obtain ⟨_, _, ⟨T26, L26, kc26, ks26⟩, -, X26, ⟨Lc26, hQ26, l26, y26, z26⟩, st26⟩ := X25.specialBack hx (y := (⟨"java/lang/String", "<init>", "([C)V"⟩ : MethodName)) rfl hown (mvT hZ (hw _ (List.mem_of_getElem? (i := 50) rfl))) (mvT hZ (hw _ (List.mem_of_getElem? (i := 51) rfl))) (mvT hZ (hw _ (List.mem_of_getElem? (i := 52) rfl))) (by decide) (StrChars.Road.backV (W := 1) hZ hws (kI := 4) (hw _ (List.mem_of_getElem? (i := 5) rfl)) (cs := ([(nar .char (97 : Int32)), (nar .char (112 : Int32)), (nar .char (112 : Int32)), (nar .char (108 : Int32)), (nar .char (105 : Int32)), (nar .char (99 : Int32)), (nar .char (97 : Int32)), (nar .char (116 : Int32)), (nar .char (105 : Int32)), (nar .char (111 : Int32)), (nar .char (110 : Int32)), (nar .char (47 : Int32)), (nar .char (115 : Int32)), (nar .char (111 : Int32)), (nar .char (97 : Int32)), (nar .char (112 : Int32)), (nar .char (43 : Int32)), (nar .char (120 : Int32)), (nar .char (109 : Int32)), (nar .char (108 : Int32)), (nar .char c1)] : List Int32)) (bs := ([(nar .char (97 : Int32)), (nar .char (112 : Int32)), (nar .char (112 : Int32)), (nar .char (108 : Int32)), (nar .char (105 : Int32)), (nar .char (99 : Int32)), (nar .char (97 : Int32)), (nar .char (116 : Int32)), (nar .char (105 : Int32)), (nar .char (111 : Int32)), (nar .char (110 : Int32)), (nar .char (47 : Int32)), (nar .char (115 : Int32)), (nar .char (111 : Int32)), (nar .char (97 : Int32)), (nar .char (112 : Int32)), (nar .char (43 : Int32)), (nar .char (120 : Int32)), (nar .char (109 : Int32)), (nar .char (108 : Int32)), (nar .char c1)] : List Int32).map (fun c => c.toInt8.toInt32)) (n := 21) g_xs (own_z0 O) A2 F_value_xs F_coder_xs V_ca (O2.ext O.2) P5 rfl rfl (by decide) (by decide) hp rfl (by decide) (by decide)) (g := (mkF m 296 #[.val (.int p0), .val (.int p1), .val (.int p2), .val (.int p3), .val (.int (1 : Int32)), .val (.int sh), .val (.int c1), .val (.int c2), .val (.ref s12), .unset, .val .null, .unset, .unset, .unset] [(.ref ca), (.ref xs), (.ref xs)])) rfl (by rw [hml]; rfl) (Steps.refl _) (a := xs) (argsL := [(.ref ca)]) (rest := [(.ref xs)]) (lenOf own_pd11 rfl) rfl (by show 2 * 0 + _ ≤ _; exact Nat.le_of_eq rfl) (hb hby at_296) (fun _ _ => ⟨rfl, e25, (by decide : 2 + 1 ≤ _), (by decide : 25 + 21 ≤ _)⟩)
          dsimp only [Pt.U, Pt.locs, Pt.cells, Pt.slots] at X26 l26 y26 z26 st26 hQ26
          subst l26 y26 z26
          obtain ⟨rfl, Nq26, Kq26, Eq, Cq, tb, kb, ut, vt, wt, Vq, Aq⟩ := hQ26
          replace N0 := Fr.app N0 Nq26
          replace hk : _ ≤ T26.heap.size := Nat.le_trans hk Kq26.1
          replace A2 := A2.keep Kq26
          replace V_ca := V_ca.keep Kq26 (ninS (Ne.symm ne_xs_ca) nin0)
          replace O := O.keep Kq26 (allS g_xs all0)
          refine Out.to (g' := (mkF m 299 #[.val (.int p0), .val (.int p1), .val (.int p2), .val (.int p3), .val (.int (1 : Int32)), .val (.int sh), .val (.int c1), .val (.int c2), .val (.ref s12), .unset, .val .null, .unset, .unset, .unset] [(.ref xs)])) st26 ?_
          have Sx : own_Str Z T26.heap xs ([(nar .char (97 : Int32)), (nar .char (112 : Int32)), (nar .char (112 : Int32)), (nar .char (108 : Int32)), (nar .char (105 : Int32)), (nar .char (99 : Int32)), (nar .char (97 : Int32)), (nar .char (116 : Int32)), (nar .char (105 : Int32)), (nar .char (111 : Int32)), (nar .char (110 : Int32)), (nar .char (47 : Int32)), (nar .char (115 : Int32)), (nar .char (111 : Int32)), (nar .char (97 : Int32)), (nar .char (112 : Int32)), (nar .char (43 : Int32)), (nar .char (120 : Int32)), (nar .char (109 : Int32)), (nar .char (108 : Int32)), (nar .char c1)] : List Int32) := ⟨hp, Eq, Cq, tb, kb, Vq, Aq⟩
          refine Out.via (g' := (mkF m 361 #[.val (.int p0), .val (.int p1), .val (.int p2), .val (.int p3), .val (.int (1 : Int32)), .val (.int sh), .val (.int c1), .val (.int c2), .val (.ref s12), .unset, .val .null, .unset, .unset, .unset] [(.ref xs)])) (fun _ k => XS.goto X26.here hx rfl (pc0 := 299) (pc' := 361) rfl (hb hby at_299) (by decide) (by decide) k) ?_
          refine Out.via (g' := (mkF m 363 #[.val (.int p0), .val (.int p1), .val (.int p2), .val (.int p3), .val (.int (1 : Int32)), .val (.int sh), .val (.int c1), .val (.int c2), .val (.ref s12), .val (.ref xs), .val .null, .unset, .unset, .unset] [])) (fun _ k => XS.astore X26.here hx rfl (hb hby at_361) rfl rfl (l' := #[.val (.int p0), .val (.int p1), .val (.int p2), .val (.int p3), .val (.int (1 : Int32)), .val (.int sh), .val (.int c1), .val (.int c2), .val (.ref s12), .val (.ref xs), .val .null, .unset, .unset, .unset]) rfl k) ?_
          refine Out.via (g' := (mkF m 995 #[.val (.int p0), .val (.int p1), .val (.int p2), .val (.int p3), .val (.int (1 : Int32)), .val (.int sh), .val (.int c1), .val (.int c2), .val (.ref s12), .val (.ref xs), .val .null, .unset, .unset, .unset] [])) (fun _ k => XS.goto X26.here hx rfl (pc0 := 363) (pc' := 995) rfl (hb hby at_363) (by decide) (by decide) k) ?_
          exact own_tail #[.val (.int p0), .val (.int p1), .val (.int p2), .val (.int p3), .val (.int (1 : Int32)), .val (.int sh), .val (.int c1), .val (.int c2), .val (.ref s12), .val (.ref xs), .val .null, .unset, .unset, .unset] xs va s11 s12 m11 m12 kv ([(nar .char (97 : Int32)), (nar .char (112 : Int32)), (nar .char (112 : Int32)), (nar .char (108 : Int32)), (nar .char (105 : Int32)), (nar .char (99 : Int32)), (nar .char (97 : Int32)), (nar .char (116 : Int32)), (nar .char (105 : Int32)), (nar .char (111 : Int32)), (nar .char (110 : Int32)), (nar .char (47 : Int32)), (nar .char (115 : Int32)), (nar .char (111 : Int32)), (nar .char (97 : Int32)), (nar .char (112 : Int32)), (nar .char (43 : Int32)), (nar .char (120 : Int32)), (nar .char (109 : Int32)), (nar .char (108 : Int32)), (nar .char c1)] : List Int32) G1 .null X26 hx hS hk hZ hw hby hml hown Bd.returns Bd.notSynchronized rfl O N0 Sx (Nat.le_of_ble_eq_true rfl) SVA EVA AVA F11 S11 F12 S12 O2 P5 (own_Ans.len (by show 21 ≠ 8; decide) (by show 21 ≠ 20; decide)) rfl rfl rfl (by decide) (by decide)
        · refine Out.via (g' := (mkF m 366 #[.val (.int p0), .val (.int p1), .val (.int p2), .val (.int p3), .val (.int (1 : Int32)), .val (.int sh), .val (.int c1), .val (.int c2), .val (.ref s12), .unset, .val .null, .unset, .unset, .unset] [])) (fun _ k => XS.icmpYes X1.here hx rfl (pc0 := 160) (pc' := 366) rfl (hb hby at_160) rfl (feq h2c).2 (by decide) (by decide) k) ?_
          refine Out.via (g' := (mkF m 368 #[.val (.int p0), .val (.int p1), .val (.int p2), .val (.int p3), .val (.int (1 : Int32)), .val (.int sh), .val (.int c1), .val (.int c2), .val (.ref s12), .unset, .val .null, .unset, .unset, .unset] [(.int sh)])) (fun _ k => XS.iload X1.here hx rfl (hb hby at_366) rfl k) ?_
          refine Out.via (g' := (mkF m 369 #[.val (.int p0), .val (.int p1), .val (.int p2), .val (.int p3), .val (.int (1 : Int32)), .val (.int sh), .val (.int c1), .val (.int c2), .val (.ref s12), .unset, .val .null, .unset, .unset, .unset] [(.int (3 : Int32)), (.int sh)])) (fun _ k => XS.iconst X1.here hx rfl (hb hby at_368) k) ?_
          by_cases h3c : sh = (3 : Int32)
          · refine Out.via (g' := (mkF m 372 #[.val (.int p0), .val (.int p1), .val (.int p2), .val (.int p3), .val (.int (1 : Int32)), .val (.int sh), .val (.int c1), .val (.int c2), .val (.ref s12), .unset, .val .null, .unset, .unset, .unset] [])) (fun _ k => XS.icmpNo X1.here hx rfl (hb hby at_369) rfl (teq h3c).2 k) ?_
            refine Out.via (g' := (mkF m 374 #[.val (.int p0), .val (.int p1), .val (.int p2), .val (.int p3), .val (.int (1 : Int32)), .val (.int sh), .val (.int c1), .val (.int c2), .val (.ref s12), .unset, .val .null, .unset, .unset, .unset] [(.int (1 : Int32))])) (fun _ k => XS.iload X1.here hx rfl (hb hby at_372) rfl k) ?_
            refine Out.via (g' := (mkF m 377 #[.val (.int p0), .val (.int p1), .val (.int p2), .val (.int p3), .val (.int (1 : Int32)), .val (.int sh), .val (.int c1), .val (.int c2), .val (.ref s12), .unset, .val .null, .unset, .unset, .unset] [])) (fun _ k => XS.ifNo X1.here hx rfl (hb hby at_374) rfl ((if0 _ _).trans (feq (by decide)).1) k) ?_
            obtain ⟨T2, h2, X2, e2, E2, A2, D2, -, st2⟩ := newO X1 hx hZ hown (hw _ (List.mem_of_getElem? (i := 48) rfl)) (hw _ (List.mem_of_getElem? (i := 5) rfl)) (hw _ (List.mem_of_getElem? (i := 4) rfl)) e1 (g := (mkF m 377 #[.val (.int p0), .val (.int p1), .val (.int p2), .val (.int p3), .val (.int (1 : Int32)), .val (.int sh), .val (.int c1), .val (.int c2), .val (.ref s12), .unset, .val .null, .unset, .unset, .unset] [])) rfl (hb hby at_377) (by decide) (by decide)
            obtain ⟨xs, gq2⟩ : ∃ z, z = h0.size := ⟨_, rfl⟩
            rw [← gq2] at A2 D2 st2
            have g_xs : n0 ≤ xs := Nat.le_trans (own_z0 O) (Nat.le_of_eq gq2.symm)
            replace O := O.ext E2
            replace hk := Nat.le_trans hk E2.1
            have F_value_xs : Fld Z h2 xs "java/lang/String" "value" "[B" .null := D2 (Or.inr (hw _ (List.mem_of_getElem? (i := 7) rfl))) (ty := (.array .byte)) (by decide)
            have F_coder_xs : Fld Z h2 xs "java/lang/String" "coder" "B" (.int (0 : Int32)) := D2 (Or.inr (hw _ (List.mem_of_getElem? (i := 8) rfl))) (ty := .byte) (by decide)
            refine Out.via (g' := (mkF m 380 #[.val (.int p0), .val (.int p1), .val (.int p2), .val (.int p3), .val (.int (1 : Int32)), .val (.int sh), .val (.int c1), .val (.int c2), .val (.ref s12), .unset, .val .null, .unset, .unset, .unset] [(.ref xs)])) st2 ?_
            refine Out.via (g' := (mkF m 381 #[.val (.int p0), .val (.int p1), .val (.int p2), .val (.int p3), .val (.int (1 : Int32)), .val (.int sh), .val (.int c1), .val (.int c2), .val (.ref s12), .unset, .val .null, .unset, .unset, .unset] [(.ref xs), (.ref xs)])) (fun _ k => XS.dup X2.here hx rfl (hb hby at_380) rfl rfl k) ?_
            refine Out.via (g' := (mkF m 383 #[.val (.int p0), .val (.int p1), .val (.int p2), .val (.int p3), .val (.int (1 : Int32)), .val (.int sh), .val (.int c1), .val (.int c2), .val (.ref s12), .unset, .val .null, .unset, .unset, .unset] [(.int (19 : Int32)), (.ref xs), (.ref xs)])) (fun _ k => XS.bipush X2.here hx rfl (hb hby at_381) k) ?_
            obtain ⟨T3, h3, kA3, X3, e3, E3, A3, st3⟩ := newP X2 hx hZ (hw _ (List.mem_of_getElem? (i := 49) rfl)) e2 (g := (mkF m 383 #[.val (.int p0), .val (.int p1), .val (.int p2), .val (.int p3), .val (.int (1 : Int32)), .val (.int sh), .val (.int c1), .val (.int c2), .val (.ref s12), .unset, .val .null, .unset, .unset, .unset] [(.int (19 : Int32)), (.ref xs), (.ref xs)])) rfl (hb hby at_383) rfl (by decide) (cap := 19) (by decide) (by decide) (by decide) (by decide)
            obtain ⟨ca, gq3⟩ : ∃ z, z = h2.size := ⟨_, rfl⟩
            rw [← gq3] at A3 st3
            have ne_xs_ca : xs ≠ ca := Nat.ne_of_lt (Nat.lt_of_lt_of_le A2.lt (Nat.le_of_eq gq3.symm))
            have g_ca : n0 ≤ ca := Nat.le_trans (own_z0 O) (Nat.le_of_eq gq3.symm)
            replace F_value_xs := F_value_xs.ext E3
            replace F_coder_xs := F_coder_xs.ext E3
            replace A2 := A2.ext E3
            replace O := O.ext E3
            replace hk := Nat.le_trans hk E3.1
            have V_ca : Arv Z h3 ca kA3 .char (19 : Int32) [(.int (0 : Int32)), (.int (0 : Int32)), (.int (0 : Int32)), (.int (0 : Int32)), (.int (0 : Int32)), (.int (0 : Int32)), (.int (0 : Int32)), (.int (0 : Int32)), (.int (0 : Int32)), (.int (0 : Int32)), (.int (0 : Int32)), (.int (0 : Int32)), (.int (0 : Int32)), (.int (0 : Int32)), (.int (0 : Int32)), (.int (0 : Int32)), (.int (0 : Int32)), (.int (0 : Int32)), (.int (0 : Int32))] (.int (0 : Int32)) := (Arv.new A3 (by decide)).pad (pad_rep [] (.int (0 : Int32)) 19)
            refine Out.via (g' := (mkF m 385 #[.val (.int p0), .val (.int p1), .val (.int p2), .val (.int p3), .val (.int (1 : Int32)), .val (.int sh), .val (.int c1), .val (.int c2), .val (.ref s12), .unset, .val .null, .unset, .unset, .unset] [(.ref ca), (.ref xs), (.ref xs)])) st3 ?_
            have Kf4 := Keep.refl h3 [ca]
            refine Out.via (g' := (mkF m 386 #[.val (.int p0), .val (.int p1), .val (.int p2), .val (.int p3), .val (.int (1 : Int32)), .val (.int sh), .val (.int c1), .val (.int c2), .val (.ref s12), .unset, .val .null, .unset, .unset, .unset] [(.ref ca), (.ref ca), (.ref xs), (.ref xs)])) (fun _ k => XS.dup X3.here hx rfl (hb hby at_385) rfl rfl k) ?_
            refine Out.via (g' := (mkF m 387 #[.val (.int p0), .val (.int p1), .val (.int p2), .val (.int p3), .val (.int (1 : Int32)), .val (.int sh), .val (.int c1), .val (.int c2), .val (.ref s12), .unset, .val .null, .unset, .unset, .unset] [(.int (0 : Int32)), (.ref ca), (.ref ca), (.ref xs), (.ref xs)])) (fun _ k => XS.iconst X3.here hx rfl (hb hby at_386) k) ?_
            refine Out.via (g' := (mkF m 389 #[.val (.int p0), .val (.int p1), .val (.int p2), .val (.int p3), .val (.int (1 : Int32)), .val (.int sh), .val (.int c1), .val (.int c2), .val (.ref s12), .unset, .val .null, .unset, .unset, .unset] [(.int (97 : Int32)), (.int (0 : Int32)), (.ref ca), (.ref ca), (.ref xs), (.ref xs)])) (fun _ k => XS.bipush X3.here hx rfl (hb hby at_387) k) ?_
            obtain ⟨T5, h5, L5, X5, e5, V_ca, N0, O, Kf4, st5⟩ := own_stC X3 hx hZ e3 V_ca (j := (0 : Int32)) ⟨by decide, by decide⟩ 0 rfl (Nat.le_of_ble_eq_true rfl) g_ca N0 O Kf4 (Or.inl (List.mem_of_getElem? (i := 0) rfl)) (g := (mkF m 389 #[.val (.int p0), .val (.int p1), .val (.int p2), .val (.int p3), .val (.int (1 : Int32)), .val (.int sh), .val (.int c1), .val (.int c2), .val (.ref s12), .unset, .val .null, .unset, .unset, .unset] [(.int (97 : Int32)), (.int (0 : Int32)), (.ref ca), (.ref ca), (.ref xs), (.ref xs)])) rfl rfl (hb hby at_389)
            replace V_ca : Arv Z h5 ca kA3 .char (19 : Int32) [(.int (nar .char (97 : Int32))), (.int (0 : Int32)), (.int (0 : Int32)), (.int (0 : Int32)), (.int (0 : Int32)), (.int (0 : Int32)), (.int (0 : Int32)), (.int (0 : Int32)), (.int (0 : Int32)), (.int (0 : Int32)), (.int (0 : Int32)), (.int (0 : Int32)), (.int (0 : Int32)), (.int (0 : Int32)), (.int (0 : Int32)), (.int (0 : Int32)), (.int (0 : Int32)), (.int (0 : Int32)), (.int (0 : Int32))] (.int (0 : Int32)) := V_ca
            refine Out.via (g' := (mkF m 390 #[.val (.int p0), .val (.int p1), .val (.int p2), .val (.int p3), .val (.int (1 : Int32)), .val (.int sh), .val (.int c1), .val (.int c2), .val (.ref s12), .unset, .val .null, .unset, .unset, .unset] [(.ref ca), (.ref xs), (.ref xs)])) st5 ?_
            refine Out.via (g' := (mkF m 391 #[.val (.int p0), .val (.int p1), .val (.int p2), .val (.int p3), .val (.int (1 : Int32)), .val (.int sh), .val (.int c1), .val (.int c2), .val (.ref s12), .unset, .val .null, .unset, .unset, .unset] [(.ref ca), (.ref ca), (.ref xs), (.ref xs)])) (fun _ k => XS.dup X5.here hx rfl (hb hby at_390) rfl rfl k) ?_
            refine Out.via (g' := (mkF m 392 #[.val (.int p0), .val (.int p1), .val (.int p2), .val (.int p3), .val (.int (1 : Int32)), .val (.int sh), .val (.int c1), .val (.int c2), .val (.ref s12), .unset, .val .null, .unset, .unset, .unset] [(.int (1 : Int32)), (.ref ca), (.ref ca), (.ref xs), (.ref xs)])) (fun _ k => XS.iconst X5.here hx rfl (hb hby at_391) k) ?_
            refine Out.via (g' := (mkF m 394 #[.val (.int p0), .val (.int p1), .val (.int p2), .val (.int p3), .val (.int (1 : Int32)), .val (.int sh), .val (.int c1), .val (.int c2), .val (.ref s12), .unset, .val .null, .unset, .unset, .unset] [(.int (112 : Int32)), (.int (1 : Int32)), (.ref ca), (.ref ca), (.ref xs), (.ref xs)])) (fun _ k => XS.bipush X5.here hx rfl (hb hby at_392) k) ?_
            obtain ⟨T6, h6, L6, X6, e6, V_ca, N0, O, Kf4, st6⟩ := own_stC X5 hx hZ e5 V_ca (j := (1 : Int32)) ⟨by decide, by decide⟩ 1 rfl (Nat.le_of_ble_eq_true rfl) g_ca N0 O Kf4 (Or.inl (List.mem_of_getElem? (i := 0) rfl)) (g := (mkF m 394 #[.val (.int p0), .val (.int p1), .val (.int p2), .val (.int p3), .val (.int (1 : Int32)), .val (.int sh), .val (.int c1), .val (.int c2), .val (.ref s12), .unset, .val .null, .unset, .unset, .unset] [(.int (112 : Int32)), (.int (1 : Int32)), (.ref ca), (.ref ca), (.ref xs), (.ref xs)])) rfl rfl (hb hby at_394)
            replace V_ca : Arv Z h6 ca kA3 .char (19 : Int32) [(.int (nar .char (97 : Int32))), (.int (nar .char (112 : Int32))), (.int (0 : Int32)), (.int (0 : Int32)), (.int (0 : Int32)), (.int (0 : Int32)), (.int (0 : Int32)), (.int (0 : Int32)), (.int (0 : Int32)), (.int (0 : Int32)), (.int (0 : Int32)), (.int (0 : Int32)), (.int (0 : Int32)), (.int (0 : Int32)), (.int (0 : Int32)), (.int (0 : Int32)), (.int (0 : Int32)), (.int (0 : Int32)), (.int (0 : Int32))] (.int (0 : Int32)) := V_ca
            refine Out.via (g' := (mkF m 395 #[.val (.int p0), .val (.int p1), .val (.int p2), .val (.int p3), .val (.int (1 : Int32)), .val (.int sh), .val (.int c1), .val (.int c2), .val (.ref s12), .unset, .val .null, .unset, .unset, .unset] [(.ref ca), (.ref xs), (.ref xs)])) st6 ?_
            refine Out.via (g' := (mkF m 396 #[.val (.int p0), .val (.int p1), .val (.int p2), .val (.int p3), .val (.int (1 : Int32)), .val (.int sh), .val (.int c1), .val (.int c2), .val (.ref s12), .unset, .val .null, .unset, .unset, .unset] [(.ref ca), (.ref ca), (.ref xs), (.ref xs)])) (fun _ k => XS.dup X6.here hx rfl (hb hby at_395) rfl rfl k) ?_
            refine Out.via (g' := (mkF m 397 #[.val (.int p0), .val (.int p1), .val (.int p2), .val (.int p3), .val (.int (1 : Int32)), .val (.int sh), .val (.int c1), .val (.int c2), .val (.ref s12), .unset, .val .null, .unset, .unset, .unset] [(.int (2 : Int32)), (.ref ca), (.ref ca), (.ref xs), (.ref xs)])) (fun _ k => XS.iconst X6.here hx rfl (hb hby at_396) k) ?_
            refine Out.via (g' := (mkF m 399 #[.val (.int p0), .val (.int p1), .val (.int p2), .val (.int p3), .val (.int (1 : Int32)), .val (.int sh), .val (.int c1), .val (.int c2), .val (.ref s12), .unset, .val .null, .unset, .unset, .unset] [(.int (112 : Int32)), (.int (2 : Int32)), (.ref ca), (.ref ca), (.ref xs), (.ref xs)])) (fun _ k => XS.bipush X6.here hx rfl (hb hby at_397) k) ?_
            obtain ⟨T7, h7, L7, X7, e7, V_ca, N0, O, Kf4, st7⟩ := own_stC X6 hx hZ e6 V_ca (j := (2 : Int32)) ⟨by decide, by decide⟩ 2 rfl (Nat.le_of_ble_eq_true rfl) g_ca N0 O Kf4 (Or.inl (List.mem_of_getElem? (i := 0) rfl)) (g := (mkF m 399 #[.val (.int p0), .val (.int p1), .val (.int p2), .val (.int p3), .val (.int (1 : Int32)), .val (.int sh), .val (.int c1), .val (.int c2), .val (.ref s12), .unset, .val .null, .unset, .unset, .unset] [(.int (112 : Int32)), (.int (2 : Int32)), (.ref ca), (.ref ca), (.ref xs), (.ref xs)])) rfl rfl (hb hby at_399)
            replace V_ca : Arv Z h7 ca kA3 .char (19 : Int32) [(.int (nar .char (97 : Int32))), (.int (nar .char (112 : Int32))), (.int (nar .char (112 : Int32))), (.int (0 : Int32)), (.int (0 : Int32)), (.int (0 : Int32)), (.int (0 : Int32)), (.int (0 : Int32)), (.int (0 : Int32)), (.int (0 : Int32)), (.int (0 : Int32)), (.int (0 : Int32)), (.int (0 : Int32)), (.int (0 : Int32)), (.int (0 : Int32)), (.int (0 : Int32)), (.int (0 : Int32)), (.int (0 : Int32)), (.int (0 : Int32))] (.int (0 : Int32)) := V_ca
            refine Out.via (g' := (mkF m 400 #[.val (.int p0), .val (.int p1), .val (.int p2), .val (.int p3), .val (.int (1 : Int32)), .val (.int sh), .val (.int c1), .val (.int c2), .val (.ref s12), .unset, .val .null, .unset, .unset, .unset] [(.ref ca), (.ref xs), (.ref xs)])) st7 ?_
            refine Out.via (g' := (mkF m 401 #[.val (.int p0), .val (.int p1), .val (.int p2), .val (.int p3), .val (.int (1 : Int32)), .val (.int sh), .val (.int c1), .val (.int c2), .val (.ref s12), .unset, .val .null, .unset, .unset, .unset] [(.ref ca), (.ref ca), (.ref xs), (.ref xs)])) (fun _ k => XS.dup X7.here hx rfl (hb hby at_400) rfl rfl k) ?_
            refine Out.via (g' := (mkF m 402 #[.val (.int p0), .val (.int p1), .val (.int p2), .val (.int p3), .val (.int (1 : Int32)), .val (.int sh), .val (.int c1), .val (.int c2), .val (.ref s12), .unset, .val .null, .unset, .unset, .unset] [(.int (3 : Int32)), (.ref ca), (.ref ca), (.ref xs), (.ref xs)])) (fun _ k => XS.iconst X7.here hx rfl (hb hby at_401) k) ?_
            refine Out.via (g' := (mkF m 404 #[.val (.int p0), .val (.int p1), .val (.int p2), .val (.int p3), .val (.int (1 : Int32)), .val (.int sh), .val (.int c1), .val (.int c2), .val (.ref s12), .unset, .val .null, .unset, .unset, .unset] [(.int (108 : Int32)), (.int (3 : Int32)), (.ref ca), (.ref ca), (.ref xs), (.ref xs)])) (fun _ k => XS.bipush X7.here hx rfl (hb hby at_402) k) ?_
            obtain ⟨T8, h8, L8, X8, e8, V_ca, N0, O, Kf4, st8⟩ := own_stC X7 hx hZ e7 V_ca (j := (3 : Int32)) ⟨by decide, by decide⟩ 3 rfl (Nat.le_of_ble_eq_true rfl) g_ca N0 O Kf4 (Or.inl (List.mem_of_getElem? (i := 0) rfl)) (g := (mkF m 404 #[.val (.int p0), .val (.int p1), .val (.int p2), .val (.int p3), .val (.int (1 : Int32)), .val (.int sh), .val (.int c1), .val (.int c2), .val (.ref s12), .unset, .val .null, .unset, .unset, .unset] [(.int (108 : Int32)), (.int (3 : Int32)), (.ref ca), (.ref ca), (.ref xs), (.ref xs)])) rfl rfl (hb hby at_404)
            replace V_ca : Arv Z h8 ca kA3 .char (19 : Int32) [(.int (nar .char (97 : Int32))), (.int (nar .char (112 : Int32))), (.int (nar .char (112 : Int32))), (.int (nar .char (108 : Int32))), (.int (0 : Int32)), (.int (0 : Int32)), (.int (0 : Int32)), (.int (0 : Int32)), (.int (0 : Int32)), (.int (0 : Int32)), (.int (0 : Int32)), (.int (0 : Int32)), (.int (0 : Int32)), (.int (0 : Int32)), (.int (0 : Int32)), (.int (0 : Int32)), (.int (0 : Int32)), (.int (0 : Int32)), (.int (0 : Int32))] (.int (0 : Int32)) := V_ca
            refine Out.via (g' := (mkF m 405 #[.val (.int p0), .val (.int p1), .val (.int p2), .val (.int p3), .val (.int (1 : Int32)), .val (.int sh), .val (.int c1), .val (.int c2), .val (.ref s12), .unset, .val .null, .unset, .unset, .unset] [(.ref ca), (.ref xs), (.ref xs)])) st8 ?_
            refine Out.via (g' := (mkF m 406 #[.val (.int p0), .val (.int p1), .val (.int p2), .val (.int p3), .val (.int (1 : Int32)), .val (.int sh), .val (.int c1), .val (.int c2), .val (.ref s12), .unset, .val .null, .unset, .unset, .unset] [(.ref ca), (.ref ca), (.ref xs), (.ref xs)])) (fun _ k => XS.dup X8.here hx rfl (hb hby at_405) rfl rfl k) ?_
            refine Out.via (g' := (mkF m 407 #[.val (.int p0), .val (.int p1), .val (.int p2), .val (.int p3), .val (.int (1 : Int32)), .val (.int sh), .val (.int c1), .val (.int c2), .val (.ref s12), .unset, .val .null, .unset, .unset, .unset] [(.int (4 : Int32)), (.ref ca), (.ref ca), (.ref xs), (.ref xs)])) (fun _ k => XS.iconst X8.here hx rfl (hb hby at_406) k) ?_
            refine Out.via (g' := (mkF m 409 #[.val (.int p0), .val (.int p1), .val (.int p2), .val (.int p3), .val (.int (1 : Int32)), .val (.int sh), .val (.int c1), .val (.int c2), .val (.ref s12), .unset, .val .null, .unset, .unset, .unset] [(.int (105 : Int32)), (.int (4 : Int32)), (.ref ca), (.ref ca), (.ref xs), (.ref xs)])) (fun _ k => XS.bipush X8.here hx rfl (hb hby at_407) k) ?_
            obtain ⟨T9, h9, L9, X9, e9, V_ca, N0, O, Kf4, st9⟩ := own_stC X8 hx hZ e8 V_ca (j := (4 : Int32)) ⟨by decide, by decide⟩ 4 rfl (Nat.le_of_ble_eq_true rfl) g_ca N0 O Kf4 (Or.inl (List.mem_of_getElem? (i := 0) rfl)) (g := (mkF m 409 #[.val (.int p0), .val (.int p1), .val (.int p2), .val (.int p3), .val (.int (1 : Int32)), .val (.int sh), .val (.int c1), .val (.int c2), .val (.ref s12), .unset, .val .null, .unset, .unset, .unset] [(.int (105 : Int32)), (.int (4 : Int32)), (.ref ca), (.ref ca), (.ref xs), (.ref xs)])) rfl rfl (hb hby at_409)
            replace V_ca : Arv Z h9 ca kA3 .char (19 : Int32) [(.int (nar .char (97 : Int32))), (.int (nar .char (112 : Int32))), (.int (nar .char (112 : Int32))), (.int (nar .char (108 : Int32))), (.int (nar .char (105 : Int32))), (.int (0 : Int32)), (.int (0 : Int32)), (.int (0 : Int32)), (.int (0 : Int32)), (.int (0 : Int32)), (.int (0 : Int32)), (.int (0 : Int32)), (.int (0 : Int32)), (.int (0 : Int32)), (.int (0 : Int32)), (.int (0 : Int32)), (.int (0 : Int32)), (.int (0 : Int32)), (.int (0 : Int32))] (.int (0 : Int32)) := V_ca
            refine Out.via (g' := (mkF m 410 #[.val (.int p0), .val (.int p1), .val (.int p2), .val (.int p3), .val (.int (1 : Int32)), .val (.int sh), .val (.int c1), .val (.int c2), .val (.ref s12), .unset, .val .null, .unset, .unset, .unset] [(.ref ca), (.ref xs), (.ref xs)])) st9 ?_
            refine Out.via (g' := (mkF m 411 #[.val (.int p0), .val (.int p1), .val (.int p2), .val (.int p3), .val (.int (1 : Int32)), .val (.int sh), .val (.int c1), .val (.int c2), .val (.ref s12), .unset, .val .null, .unset, .unset, .unset] [(.ref ca), (.ref ca), (.ref xs), (.ref xs)])) (fun _ k => XS.dup X9.here hx rfl (hb hby at_410) rfl rfl k) ?_
            refine Out.via (g' := (mkF m 412 #[.val (.int p0), .val (.int p1), .val (.int p2), .val (.int p3), .val (.int (1 : Int32)), .val (.int sh), .val (.int c1), .val (.int c2), .val (.ref s12), .unset, .val .null, .unset, .unset, .unset] [(.int (5 : Int32)), (.ref ca), (.ref ca), (.ref xs), (.ref xs)])) (fun _ k => XS.iconst X9.here hx rfl (hb hby at_411) k) ?_
            refine Out.via (g' := (mkF m 414 #[.val (.int p0), .val (.int p1), .val (.int p2), .val (.int p3), .val (.int (1 : Int32)), .val (.int sh), .val (.int c1), .val (.int c2), .val (.ref s12), .unset, .val .null, .unset, .unset, .unset] [(.int (99 : Int32)), (.int (5 : Int32)), (.ref ca), (.ref ca), (.ref xs), (.ref xs)])) (fun _ k => XS.bipush X9.here hx rfl (hb hby at_412) k) ?_
            obtain ⟨T10, h10, L10, X10, e10, V_ca, N0, O, Kf4, st10⟩ := own_stC X9 hx hZ e9 V_ca (j := (5 : Int32)) ⟨by decide, by decide⟩ 5 rfl (Nat.le_of_ble_eq_true rfl) g_ca N0 O Kf4 (Or.inl (List.mem_of_getElem? (i := 0) rfl)) (g := (mkF m 414 #[.val (.int p0), .val (.int p1), .val (.int p2), .val (.int p3), .val (.int (1 : Int32)), .val (.int sh), .val (.int c1), .val (.int c2), .val (.ref s12), .unset, .val .null, .unset, .unset, .unset] [(.int (99 : Int32)), (.int (5 : Int32)), (.ref ca), (.ref ca), (.ref xs), (.ref xs)])) rfl rfl (hb hby at_414)
            replace V_ca : Arv Z h10 ca kA3 .char (19 : Int32) [(.int (nar .char (97 : Int32))), (.int (nar .char (112 : Int32))), (.int (nar .char (112 : Int32))), (.int (nar .char (108 : Int32))), (.int (nar .char (105 : Int32))), (.int (nar .char (99 : Int32))), (.int (0 : Int32)), (.int (0 : Int32)), (.int (0 : Int32)), (.int (0 : Int32)), (.int (0 : Int32)), (.int (0 : Int32)), (.int (0 : Int32)), (.int (0 : Int32)), (.int (0 : Int32)), (.int (0 : Int32)), (.int (0 : Int32)), (.int (0 : Int32)), (.int (0 : Int32))] (.int (0 : Int32)) := V_ca
            refine Out.via (g' := (mkF m 415 #[.val (.int p0), .val (.int p1), .val (.int p2), .val (.int p3), .val (.int (1 : Int32)), .val (.int sh), .val (.int c1), .val (.int c2), .val (.ref s12), .unset, .val .null, .unset, .unset, .unset] [(.ref ca), (.ref xs), (.ref xs)])) st10 ?_
            refine Out.via (g' := (mkF m 416 #[.val (.int p0), .val (.int p1), .val (.int p2), .val (.int p3), .val (.int (1 : Int32)), .val (.int sh), .val (.int c1), .val (.int c2), .val (.ref s12), .unset, .val .null, .unset, .unset, .unset] [(.ref ca), (.ref ca), (.ref xs), (.ref xs)])) (fun _ k => XS.dup X10.here hx rfl (hb hby at_415) rfl rfl k) ?_
            refine Out.via (g' := (mkF m 418 #[.val (.int p0), .val (.int p1), .val (.int p2), .val (.int p3), .val (.int (1 : Int32)), .val (.int sh), .val (.int c1), .val (.int c2), .val (.ref s12), .unset, .val .null, .unset, .unset, .unset] [(.int (6 : Int32)), (.ref ca), (.ref ca), (.ref xs), (.ref xs)])) (fun _ k => XS.bipush X10.here hx rfl (hb hby at_416) k) ?_
            refine Out.via (g' := (mkF m 420 #[.val (.int p0), .val (.int p1), .val (.int p2), .val (.int p3), .val (.int (1 : Int32)), .val (.int sh), .val (.int c1), .val (.int c2), .val (.ref s12), .unset, .val .null, .unset, .unset, .unset] [(.int (97 : Int32)), (.int (6 : Int32)), (.ref ca), (.ref ca), (.ref xs), (.ref xs)])) (fun _ k => XS.bipush X10.here hx rfl (hb hby at_418) k) ?_
            obtain ⟨T11, h11, L11, X11, e11, V_ca, N0, O, Kf4, st11⟩ := own_stC X10 hx hZ e10 V_ca (j := (6 : Int32)) ⟨by decide, by decide⟩ 6 rfl (Nat.le_of_ble_eq_true rfl) g_ca N0 O Kf4 (Or.inl (List.mem_of_getElem? (i := 0) rfl)) (g := (mkF m 420 #[.val (.int p0), .val (.int p1), .val (.int p2), .val (.int p3), .val (.int (1 : Int32)), .val (.int sh), .val (.int c1), .val (.int c2), .val (.ref s12), .unset, .val .null, .unset, .unset, .unset] [(.int (97 : Int32)), (.int (6 : Int32)), (.ref ca), (.ref ca), (.ref xs), (.ref xs)])) rfl rfl (hb hby at_420)
            replace V_ca : Arv Z h11 ca kA3 .char (19 : Int32) [(.int (nar .char (97 : Int32))), (.int (nar .char (112 : Int32))), (.int (nar .char (112 : Int32))), (.int (nar .char (108 : Int32))), (.int (nar .char (105 : Int32))), (.int (nar .char (99 : Int32))), (.int (nar .char (97 : Int32))), (.int (0 : Int32)), (.int (0 : Int32)), (.int (0 : Int32)), (.int (0 : Int32)), (.int (0 : Int32)), (.int (0 : Int32)), (.int (0 : Int32)), (.int (0 : Int32)), (.int (0 : Int32)), (.int (0 : Int32)), (.int (0 : Int32)), (.int (0 : Int32))] (.int (0 : Int32)) := V_ca
            refine Out.via (g' := (mkF m 421 #[.val (.int p0), .val (.int p1), .val (.int p2), .val (.int p3), .val (.int (1 : Int32)), .val (.int sh), .val (.int c1), .val (.int c2), .val (.ref s12), .unset, .val .null, .unset, .unset, .unset] [(.ref ca), (.ref xs), (.ref xs)])) st11 ?_
            refine Out.via (g' := (mkF m 422 #[.val (.int p0), .val (.int p1), .val (.int p2), .val (.int p3), .val (.int (1 : Int32)), .val (.int sh), .val (.int c1), .val (.int c2), .val (.ref s12), .unset, .val .null, .unset, .unset, .unset] [(.ref ca), (.ref ca), (.ref xs), (.ref xs)])) (fun _ k => XS.dup X11.here hx rfl (hb hby at_421) rfl rfl k) ?_
            refine Out.via (g' := (mkF m 424 #[.val (.int p0), .val (.int p1), .val (.int p2), .val (.int p3), .val (.int (1 : Int32)), .val (.int sh), .val (.int c1), .val (.int c2), .val (.ref s12), .unset, .val .null, .unset, .unset, .unset] [(.int (7 : Int32)), (.ref ca), (.ref ca), (.ref xs), (.ref xs)])) (fun _ k => XS.bipush X11.here hx rfl (hb hby at_422) k) ?_
            refine Out.via (g' := (mkF m 426 #[.val (.int p0), .val (.int p1), .val (.int p2), .val (.int p3), .val (.int (1 : Int32)), .val (.int sh), .val (.int c1), .val (.int c2), .val (.ref s12), .unset, .val .null, .unset, .unset, .unset] [(.int (116 : Int32)), (.int (7 : Int32)), (.ref ca), (.ref ca), (.ref xs), (.ref xs)])) (fun _ k => XS.bipush X11.here hx rfl (hb hby at_424) k) ?_
            obtain ⟨T12, h12, L12, X12, e12, V_ca, N0, O, Kf4, st12⟩ := own_stC X11 hx hZ e11 V_ca (j := (7 : Int32)) ⟨by decide, by decide⟩ 7 rfl (Nat.le_of_ble_eq_true rfl) g_ca N0 O Kf4 (Or.inl (List.mem_of_getElem? (i := 0) rfl)) (g := (mkF m 426 #[.val (.int p0), .val (.int p1), .val (.int p2), .val (.int p3), .val (.int (1 : Int32)), .val (.int sh), .val (.int c1), .val (.int c2), .val (.ref s12), .unset, .val .null, .unset, .unset, .unset] [(.int (116 : Int32)), (.int (7 : Int32)), (.ref ca), (.ref ca), (.ref xs), (.ref xs)])) rfl rfl (hb hby at_426)
            replace V_ca : Arv Z h12 ca kA3 .char (19 : Int32) [(.int (nar .char (97 : Int32))), (.int (nar .char (112 : Int32))), (.int (nar .char (112 : Int32))), (.int (nar .char (108 : Int32))), (.int (nar .char (105 : Int32))), (.int (nar .char (99 : Int32))), (.int (nar .char (97 : Int32))), (.int (nar .char (116 : Int32))), (.int (0 : Int32)), (.int (0 : Int32)), (.int (0 : Int32)), (.int (0 : Int32)), (.int (0 : Int32)), (.int (0 : Int32)), (.int (0 : Int32)), (.int (0 : Int32)), (.int (0 : Int32)), (.int (0 : Int32)), (.int (0 : Int32))] (.int (0 : Int32)) := V_ca
            refine Out.via (g' := (mkF m 427 #[.val (.int p0), .val (.int p1), .val (.int p2), .val (.int p3), .val (.int (1 : Int32)), .val (.int sh), .val (.int c1), .val (.int c2), .val (.ref s12), .unset, .val .null, .unset, .unset, .unset] [(.ref ca), (.ref xs), (.ref xs)])) st12 ?_
            refine Out.via (g' := (mkF m 428 #[.val (.int p0), .val (.int p1), .val (.int p2), .val (.int p3), .val (.int (1 : Int32)), .val (.int sh), .val (.int c1), .val (.int c2), .val (.ref s12), .unset, .val .null, .unset, .unset, .unset] [(.ref ca), (.ref ca), (.ref xs), (.ref xs)])) (fun _ k => XS.dup X12.here hx rfl (hb hby at_427) rfl rfl k) ?_
            refine Out.via (g' := (mkF m 430 #[.val (.int p0), .val (.int p1), .val (.int p2), .val (.int p3), .val (.int (1 : Int32)), .val (.int sh), .val (.int c1), .val (.int c2), .val (.ref s12), .unset, .val .null, .unset, .unset, .unset] [(.int (8 : Int32)), (.ref ca), (.ref ca), (.ref xs), (.ref xs)])) (fun _ k => XS.bipush X12.here hx rfl (hb hby at_428) k) ?_
            refine Out.via (g' := (mkF m 432 #[.val (.int p0), .val (.int p1), .val (.int p2), .val (.int p3), .val (.int (1 : Int32)), .val (.int sh), .val (.int c1), .val (.int c2), .val (.ref s12), .unset, .val .null, .unset, .unset, .unset] [(.int (105 : Int32)), (.int (8 : Int32)), (.ref ca), (.ref ca), (.ref xs), (.ref xs)])) (fun _ k => XS.bipush X12.here hx rfl (hb hby at_430) k) ?_
            obtain ⟨T13, h13, L13, X13, e13, V_ca, N0, O, Kf4, st13⟩ := own_stC X12 hx hZ e12 V_ca (j := (8 : Int32)) ⟨by decide, by decide⟩ 8 rfl (Nat.le_of_ble_eq_true rfl) g_ca N0 O Kf4 (Or.inl (List.mem_of_getElem? (i := 0) rfl)) (g := (mkF m 432 #[.val (.int p0), .val (.int p1), .val (.int p2), .val (.int p3), .val (.int (1 : Int32)), .val (.int sh), .val (.int c1), .val (.int c2), .val (.ref s12), .unset, .val .null, .unset, .unset, .unset] [(.int (105 : Int32)), (.int (8 : Int32)), (.ref ca), (.ref ca), (.ref xs), (.ref xs)])) rfl rfl (hb hby at_432)
            replace V_ca : Arv Z h13 ca kA3 .char (19 : Int32) [(.int (nar .char (97 : Int32))), (.int (nar .char (112 : Int32))), (.int (nar .char (112 : Int32))), (.int (nar .char (108 : Int32))), (.int (nar .char (105 : Int32))), (.int (nar .char (99 : Int32))), (.int (nar .char (97 : Int32))), (.int (nar .char (116 : Int32))), (.int (nar .char (105 : Int32))), (.int (0 : Int32)), (.int (0 : Int32)), (.int (0 : Int32)), (.int (0 : Int32)), (.int (0 : Int32)), (.int (0 : Int32)), (.int (0 : Int32)), (.int (0 : Int32)), (.int (0 : Int32)), (.int (0 : Int32))] (.int (0 : Int32)) := V_ca
            refine Out.via (g' := (mkF m 433 #[.val (.int p0), .val (.int p1), .val (.int p2), .val (.int p3), .val (.int (1 : Int32)), .val (.int sh), .val (.int c1), .val (.int c2), .val (.ref s12), .unset, .val .null, .unset, .unset, .unset] [(.ref ca), (.ref xs), (.ref xs)])) st13 ?_
            refine Out.via (g' := (mkF m 434 #[.val (.int p0), .val (.int p1), .val (.int p2), .val (.int p3), .val (.int (1 : Int32)), .val (.int sh), .val (.int c1), .val (.int c2), .val (.ref s12), .unset, .val .null, .unset, .unset, .unset] [(.ref ca), (.ref ca), (.ref xs), (.ref xs)])) (fun _ k => XS.dup X13.here hx rfl (hb hby at_433) rfl rfl k) ?_
            refine Out.via (g' := (mkF m 436 #[.val (.int p0), .val (.int p1), .val (.int p2), .val (.int p3), .val (.int (1 : Int32)), .val (.int sh), .val (.int c1), .val (.int c2), .val (.ref s12), .unset, .val .null, .unset, .unset, .unset] [(.int (9 : Int32)), (.ref ca), (.ref ca), (.ref xs), (.ref xs)])) (fun _ k => XS.bipush X13.here hx rfl (hb hby at_434) k) ?_
            refine Out.via (g' := (mkF m 438 #[.val (.int p0), .val (.int p1), .val (.int p2), .val (.int p3), .val (.int (1 : Int32)), .val (.int sh), .val (.int c1), .val (.int c2), .val (.ref s12), .unset, .val .null, .unset, .unset, .unset] [(.int (111 : Int32)), (.int (9 : Int32)), (.ref ca), (.ref ca), (.ref xs), (.ref xs)])) (fun _ k => XS.bipush X13.here hx rfl (hb hby at_436) k) ?_
            obtain ⟨T14, h14, L14, X14, e14, V_ca, N0, O, Kf4, st14⟩ := own_stC X13 hx hZ e13 V_ca (j := (9 : Int32)) ⟨by decide, by decide⟩ 9 rfl (Nat.le_of_ble_eq_true rfl) g_ca N0 O Kf4 (Or.inl (List.mem_of_getElem? (i := 0) rfl)) (g := (mkF m 438 #[.val (.int p0), .val (.int p1), .val (.int p2), .val (.int p3), .val (.int (1 : Int32)), .val (.int sh), .val (.int c1), .val (.int c2), .val (.ref s12), .unset, .val .null, .unset, .unset, .unset] [(.int (111 : Int32)), (.int (9 : Int32)), (.ref ca), (.ref ca), (.ref xs), (.ref xs)])) rfl rfl (hb hby at_438)
            replace V_ca : Arv Z h14 ca kA3 .char (19 : Int32) [(.int (nar .char (97 : Int32))), (.int (nar .char (112 : Int32))), (.int (nar .char (112 : Int32))), (.int (nar .char (108 : Int32))), (.int (nar .char (105 : Int32))), (.int (nar .char (99 : Int32))), (.int (nar .char (97 : Int32))), (.int (nar .char (116 : Int32))), (.int (nar .char (105 : Int32))), (.int (nar .char (111 : Int32))), (.int (0 : Int32)), (.int (0 : Int32)), (.int (0 : Int32)), (.int (0 : Int32)), (.int (0 : Int32)), (.int (0 : Int32)), (.int (0 : Int32)), (.int (0 : Int32)), (.int (0 : Int32))] (.int (0 : Int32)) := V_ca
            refine Out.via (g' := (mkF m 439 #[.val (.int p0), .val (.int p1), .val (.int p2), .val (.int p3), .val (.int (1 : Int32)), .val (.int sh), .val (.int c1), .val (.int c2), .val (.ref s12), .unset, .val .null, .unset, .unset, .unset] [(.ref ca), (.ref xs), (.ref xs)])) st14 ?_
            refine Out.via (g' := (mkF m 440 #[.val (.int p0), .val (.int p1), .val (.int p2), .val (.int p3), .val (.int (1 : Int32)), .val (.int sh), .val (.int c1), .val (.int c2), .val (.ref s12), .unset, .val .null, .unset, .unset, .unset] [(.ref ca), (.ref ca), (.ref xs), (.ref xs)])) (fun _ k => XS.dup X14.here hx rfl (hb hby at_439) rfl rfl k) ?_
            refine Out.via (g' := (mkF m 442 #[.val (.int p0), .val (.int p1), .val (.int p2), .val (.int p3), .val (.int (1 : Int32)), .val (.int sh), .val (.int c1), .val (.int c2), .val (.ref s12), .unset, .val .null, .unset, .unset, .unset] [(.int (10 : Int32)), (.ref ca), (.ref ca), (.ref xs), (.ref xs)])) (fun _ k => XS.bipush X14.here hx rfl (hb hby at_440) k) ?_
            refine Out.via (g' := (mkF m 444 #[.val (.int p0), .val (.int p1), .val (.int p2), .val (.int p3), .val (.int (1 : Int32)), .val (.int sh), .val (.int c1), .val (.int c2), .val (.ref s12), .unset, .val .null, .unset, .unset, .unset] [(.int (110 : Int32)), (.int (10 : Int32)), (.ref ca), (.ref ca), (.ref xs), (.ref xs)])) (fun _ k => XS.bipush X14.here hx rfl (hb hby at_442) k) ?_
            obtain ⟨T15, h15, L15, X15, e15, V_ca, N0, O, Kf4, st15⟩ := own_stC X14 hx hZ e14 V_ca (j := (10 : Int32)) ⟨by decide, by decide⟩ 10 rfl (Nat.le_of_ble_eq_true rfl) g_ca N0 O Kf4 (Or.inl (List.mem_of_getElem? (i := 0) rfl)) (g := (mkF m 444 #[.val (.int p0), .val (.int p1), .val (.int p2), .val (.int p3), .val (.int (1 : Int32)), .val (.int sh), .val (.int c1), .val (.int c2), .val (.ref s12), .unset, .val .null, .unset, .unset, .unset] [(.int (110 : Int32)), (.int (10 : Int32)), (.ref ca), (.ref ca), (.ref xs), (.ref xs)])) rfl rfl (hb hby at_444)
            replace V_ca : Arv Z h15 ca kA3 .char (19 : Int32) [(.int (nar .char (97 : Int32))), (.int (nar .char (112 : Int32))), (.int (nar .char (112 : Int32))), (.int (nar .char (108 : Int32))), (.int (nar .char (105 : Int32))), (.int (nar .char (99 : Int32))), (.int (nar .char (97 : Int32))), (.int (nar .char (116 : Int32))), (.int (nar .char (105 : Int32))), (.int (nar .char (111 : Int32))), (.int (nar .char (110 : Int32))), (.int (0 : Int32)), (.int (0 : Int32)), (.int (0 : Int32)), (.int (0 : Int32)), (.int (0 : Int32)), (.int (0 : Int32)), (.int (0 : Int32)), (.int (0 : Int32))] (.int (0 : Int32)) := V_ca
            refine Out.via (g' := (mkF m 445 #[.val (.int p0), .val (.int p1), .val (.int p2), .val (.int p3), .val (.int (1 : Int32)), .val (.int sh), .val (.int c1), .val (.int c2), .val (.ref s12), .unset, .val .null, .unset, .unset, .unset] [(.ref ca), (.ref xs), (.ref xs)])) st15 ?_
            refine Out.via (g' := (mkF m 446 #[.val (.int p0), .val (.int p1), .val (.int p2), .val (.int p3), .val (.int (1 : Int32)), .val (.int sh), .val (.int c1), .val (.int c2), .val (.ref s12), .unset, .val .null, .unset, .unset, .unset] [(.ref ca), (.ref ca), (.ref xs), (.ref xs)])) (fun _ k => XS.dup X15.here hx rfl (hb hby at_445) rfl rfl k) ?_
            refine Out.via (g' := (mkF m 448 #[.val (.int p0), .val (.int p1), .val (.int p2), .val (.int p3), .val (.int (1 : Int32)), .val (.int sh), .val (.int c1), .val (.int c2), .val (.ref s12), .unset, .val .null, .unset, .unset, .unset] [(.int (11 : Int32)), (.ref ca), (.ref ca), (.ref xs), (.ref xs)])) (fun _ k => XS.bipush X15.here hx rfl (hb hby at_446) k) ?_
            refine Out.via (g' := (mkF m 450 #[.val (.int p0), .val (.int p1), .val (.int p2), .val (.int p3), .val (.int (1 : Int32)), .val (.int sh), .val (.int c1), .val (.int c2), .val (.ref s12), .unset, .val .null, .unset, .unset, .unset] [(.int (47 : Int32)), (.int (11 : Int32)), (.ref ca), (.ref ca), (.ref xs), (.ref xs)])) (fun _ k => XS.bipush X15.here hx rfl (hb hby at_448) k) ?_
            obtain ⟨T16, h16, L16, X16, e16, V_ca, N0, O, Kf4, st16⟩ := own_stC X15 hx hZ e15 V_ca (j := (11 : Int32)) ⟨by decide, by decide⟩ 11 rfl (Nat.le_of_ble_eq_true rfl) g_ca N0 O Kf4 (Or.inl (List.mem_of_getElem? (i := 0) rfl)) (g := (mkF m 450 #[.val (.int p0), .val (.int p1), .val (.int p2), .val (.int p3), .val (.int (1 : Int32)), .val (.int sh), .val (.int c1), .val (.int c2), .val (.ref s12), .unset, .val .null, .unset, .unset, .unset] [(.int (47 : Int32)), (.int (11 : Int32)), (.ref ca), (.ref ca), (.ref xs), (.ref xs)])) rfl rfl (hb hby at_450)
            replace V_ca : Arv Z h16 ca kA3 .char (19 : Int32) [(.int (nar .char (97 : Int32))), (.int (nar .char (112 : Int32))), (.int (nar .char (112 : Int32))), (.int (nar .char (108 : Int32))), (.int (nar .char (105 : Int32))), (.int (nar .char (99 : Int32))), (.int (nar .char (97 : Int32))), (.int (nar .char (116 : Int32))), (.int (nar .char (105 : Int32))), (.int (nar .char (111 : Int32))), (.int (nar .char (110 : Int32))), (.int (nar .char (47 : Int32))), (.int (0 : Int32)), (.int (0 : Int32)), (.int (0 : Int32)), (.int (0 : Int32)), (.int (0 : Int32)), (.int (0 : Int32)), (.int (0 : Int32))] (.int (0 : Int32)) := V_ca
            refine Out.via (g' := (mkF m 451 #[.val (.int p0), .val (.int p1), .val (.int p2), .val (.int p3), .val (.int (1 : Int32)), .val (.int sh), .val (.int c1), .val (.int c2), .val (.ref s12), .unset, .val .null, .unset, .unset, .unset] [(.ref ca), (.ref xs), (.ref xs)])) st16 ?_
            refine Out.via (g' := (mkF m 452 #[.val (.int p0), .val (.int p1), .val (.int p2), .val (.int p3), .val (.int (1 : Int32)), .val (.int sh), .val (.int c1), .val (.int c2), .val (.ref s12), .unset, .val .null, .unset, .unset, .unset] [(.ref ca), (.ref ca), (.ref xs), (.ref xs)])) (fun _ k => XS.dup X16.here hx rfl (hb hby at_451) rfl rfl k) ?_
            refine Out.via (g' := (mkF m 454 #[.val (.int p0), .val (.int p1), .val (.int p2), .val (.int p3), .val (.int (1 : Int32)), .val (.int sh), .val (.int c1), .val (.int c2), .val (.ref s12), .unset, .val .null, .unset, .unset, .unset] [(.int (12 : Int32)), (.ref ca), (.ref ca), (.ref xs), (.ref xs)])) (fun _ k => XS.bipush X16.here hx rfl (hb hby at_452) k) ?_
            refine Out.via (g' := (mkF m 456 #[.val (.int p0), .val (.int p1), .val (.int p2), .val (.int p3), .val (.int (1 : Int32)), .val (.int sh), .val (.int c1), .val (.int c2), .val (.ref s12), .unset, .val .null, .unset, .unset, .unset] [(.int (115 : Int32)), (.int (12 : Int32)), (.ref ca), (.ref ca), (.ref xs), (.ref xs)])) (fun _ k => XS.bipush X16.here hx rfl (hb hby at_454) k) ?_
            obtain ⟨T17, h17, L17, X17, e17, V_ca, N0, O, Kf4, st17⟩ := own_stC X16 hx hZ e16 V_ca (j := (12 : Int32)) ⟨by decide, by decide⟩ 12 rfl (Nat.le_of_ble_eq_true rfl) g_ca N0 O Kf4 (Or.inl (List.mem_of_getElem? (i := 0) rfl)) (g := (mkF m 456 #[.val (.int p0), .val (.int p1), .val (.int p2), .val (.int p3), .val (.int (1 : Int32)), .val (.int sh), .val (.int c1), .val (.int c2), .val (.ref s12), .unset, .val .null, .unset, .unset, .unset] [(.int (115 : Int32)), (.int (12 : Int32)), (.ref ca), (.ref ca), (.ref xs), (.ref xs)])) rfl rfl (hb hby at_456)
            replace V_ca : Arv Z h17 ca kA3 .char (19 : Int32) [(.int (nar .char (97 : Int32))), (.int (nar .char (112 : Int32))), (.int (nar .char (112 : Int32))), (.int (nar .char (108 : Int32))), (.int (nar .char (105 : Int32))), (.int (nar .char (99 : Int32))), (.int (nar .char (97 : Int32))), (.int (nar .char (116 : Int32))), (.int (nar .char (105 : Int32))), (.int (nar .char (111 : Int32))), (.int (nar .char (110 : Int32))), (.int (nar .char (47 : Int32))), (.int (nar .char (115 : Int32))), (.int (0 : Int32)), (.int (0 : Int32)), (.int (0 : Int32)), (.int (0 : Int32)), (.int (0 : Int32)), (.int (0 : Int32))] (.int (0 : Int32)) := V_ca
            refine Out.via (g' := (mkF m 457 #[.val (.int p0), .val (.int p1), .val (.int p2), .val (.int p3), .val (.int (1 : Int32)), .val (.int sh), .val (.int c1), .val (.int c2), .val (.ref s12), .unset, .val .null, .unset, .unset, .unset] [(.ref ca), (.ref xs), (.ref xs)])) st17 ?_
            refine Out.via (g' := (mkF m 458 #[.val (.int p0), .val (.int p1), .val (.int p2), .val (.int p3), .val (.int (1 : Int32)), .val (.int sh), .val (.int c1), .val (.int c2), .val (.ref s12), .unset, .val .null, .unset, .unset, .unset] [(.ref ca), (.ref ca), (.ref xs), (.ref xs)])) (fun _ k => XS.dup X17.here hx rfl (hb hby at_457) rfl rfl k) ?_
            refine Out.via (g' := (mkF m 460 #[.val (.int p0), .val (.int p1), .val (.int p2), .val (.int p3), .val (.int (1 : Int32)), .val (.int sh), .val (.int c1), .val (.int c2), .val (.ref s12), .unset, .val .null, .unset, .unset, .unset] [(.int (13 : Int32)), (.ref ca), (.ref ca), (.ref xs), (.ref xs)])) (fun _ k => XS.bipush X17.here hx rfl (hb hby at_458) k) ?_
            refine Out.via (g' := (mkF m 462 #[.val (.int p0), .val (.int p1), .val (.int p2), .val (.int p3), .val (.int (1 : Int32)), .val (.int sh), .val (.int c1), .val (.int c2), .val (.ref s12), .unset, .val .null, .unset, .unset, .unset] [(.int (111 : Int32)), (.int (13 : Int32)), (.ref ca), (.ref ca), (.ref xs), (.ref xs)])) (fun _ k => XS.bipush X17.here hx rfl (hb hby at_460) k) ?_
            obtain ⟨T18, h18, L18, X18, e18, V_ca, N0, O, Kf4, st18⟩ := own_stC X17 hx hZ e17 V_ca (j := (13 : Int32)) ⟨by decide, by decide⟩ 13 rfl (Nat.le_of_ble_eq_true rfl) g_ca N0 O Kf4 (Or.inl (List.mem_of_getElem? (i := 0) rfl)) (g := (mkF m 462 #[.val (.int p0), .val (.int p1), .val (.int p2), .val (.int p3), .val (.int (1 : Int32)), .val (.int sh), .val (.int c1), .val (.int c2), .val (.ref s12), .unset, .val .null, .unset, .unset, .unset] [(.int (111 : Int32)), (.int (13 : Int32)), (.ref ca), (.ref ca), (.ref xs), (.ref xs)])) rfl rfl (hb hby at_462)
            replace V_ca : Arv Z h18 ca kA3 .char (19 : Int32) [(.int (nar .char (97 : Int32))), (.int (nar .char (112 : Int32))), (.int (nar .char (112 : Int32))), (.int (nar .char (108 : Int32))), (.int (nar .char (105 : Int32))), (.int (nar .char (99 : Int32))), (.int (nar .char (97 : Int32))), (.int (nar .char (116 : Int32))), (.int (nar .char (105 : Int32))), (.int (nar .char (111 : Int32))), (.int (nar .char (110 : Int32))), (.int (nar .char (47 : Int32))), (.int (nar .char (115 : Int32))), (.int (nar .char (111 : Int32))), (.int (0 : Int32)), (.int (0 : Int32)), (.int (0 : Int32)), (.int (0 : Int32)), (.int (0 : Int32))] (.int (0 : Int32)) := V_ca
            refine Out.via (g' := (mkF m 463 #[.val (.int p0), .val (.int p1), .val (.int p2), .val (.int p3), .val (.int (1 : Int32)), .val (.int sh), .val (.int c1), .val (.int c2), .val (.ref s12), .unset, .val .null, .unset, .unset, .unset] [(.ref ca), (.ref xs), (.ref xs)])) st18 ?_
            refine Out.via (g' := (mkF m 464 #[.val (.int p0), .val (.int p1), .val (.int p2), .val (.int p3), .val (.int (1 : Int32)), .val (.int sh), .val (.int c1), .val (.int c2), .val (.ref s12), .unset, .val .null, .unset, .unset, .unset] [(.ref ca), (.ref ca), (.ref xs), (.ref xs)])) (fun _ k => XS.dup X18.here hx rfl (hb hby at_463) rfl rfl k) ?_
            refine Out.via (g' := (mkF m 466 #[.val (.int p0), .val (.int p1), .val (.int p2), .val (.int p3), .val (.int (1 : Int32)), .val (.int sh), .val (.int c1), .val (.int c2), .val (.ref s12), .unset, .val .null, .unset, .unset, .unset] [(.int (14 : Int32)), (.ref ca), (.ref ca), (.ref xs), (.ref xs)])) (fun _ k => XS.bipush X18.here hx rfl (hb hby at_464) k) ?_
            refine Out.via (g' := (mkF m 468 #[.val (.int p0), .val (.int p1), .val (.int p2), .val (.int p3), .val (.int (1 : Int32)), .val (.int sh), .val (.int c1), .val (.int c2), .val (.ref s12), .unset, .val .null, .unset, .unset, .unset] [(.int (97 : Int32)), (.int (14 : Int32)), (.ref ca), (.ref ca), (.ref xs), (.ref xs)])) (fun _ k => XS.bipush X18.here hx rfl (hb hby at_466) k) ?_
            obtain ⟨T19, h19, L19, X19, e19, V_ca, N0, O, Kf4, st19⟩ := own_stC X18 hx hZ e18 V_ca (j := (14 : Int32)) ⟨by decide, by decide⟩ 14 rfl (Nat.le_of_ble_eq_true rfl) g_ca N0 O Kf4 (Or.inl (List.mem_of_getElem? (i := 0) rfl)) (g := (mkF m 468 #[.val (.int p0), .val (.int p1), .val (.int p2), .val (.int p3), .val (.int (1 : Int32)), .val (.int sh), .val (.int c1), .val (.int c2), .val (.ref s12), .unset, .val .null, .unset, .unset, .unset] [(.int (97 : Int32)), (.int (14 : Int32)), (.ref ca), (.ref ca), (.ref xs), (.ref xs)])) rfl rfl (hb hby at_468)
            replace V_ca : Arv Z h19 ca kA3 .char (19 : Int32) [(.int (nar .char (97 : Int32))), (.int (nar .char (112 : Int32))), (.int (nar .char (112 : Int32))), (.int (nar .char (108 : Int32))), (.int (nar .char (105 : Int32))), (.int (nar .char (99 : Int32))), (.int (nar .char (97 : Int32))), (.int (nar .char (116 : Int32))), (.int (nar .char (105 : Int32))), (.int (nar .char (111 : Int32))), (.int (nar .char (110 : Int32))), (.int (nar .char (47 : Int32))), (.int (nar .char (115 : Int32))), (.int (nar .char (111 : Int32))), (.int (nar .char (97 : Int32))), (.int (0 : Int32)), (.int (0 : Int32)), (.int (0 : Int32)), (.int (0 : Int32))] (.int (0 : Int32)) := V_ca
            refine Out.via (g' := (mkF m 469 #[.val (.int p0), .val (.int p1), .val (.int p2), .val (.int p3), .val (.int (1 : Int32)), .val (.int sh), .val (.int c1), .val (.int c2), .val (.ref s12), .unset, .val .null, .unset, .unset, .unset] [(.ref ca), (.ref xs), (.ref xs)])) st19 ?_
            refine Out.via (g' := (mkF m 470 #[.val (.int p0), .val (.int p1), .val (.int p2), .val (.int p3), .val (.int (1 : Int32)), .val (.int sh), .val (.int c1), .val (.int c2), .val (.ref s12), .unset, .val .null, .unset, .unset, .unset] [(.ref ca), (.ref ca), (.ref xs), (.ref xs)])) (fun _ k => XS.dup X19.here hx rfl (hb hby at_469) rfl rfl k) ?_
            refine Out.via (g' := (mkF m 472 #[.val (.int p0), .val (.int p1), .val (.int p2), .val (.int p3), .val (.int (1 : Int32)), .val (.int sh), .val (.int c1), .val (.int c2), .val (.ref s12), .unset, .val .null, .unset, .unset, .unset] [(.int (15 : Int32)), (.ref ca), (.ref ca), (.ref xs), (.ref xs)])) (fun _ k => XS.bipush X19.here hx rfl (hb hby at_470) k) ?_
            refine Out.via (g' := (mkF m 474 #[.val (.int p0), .val (.int p1), .val (.int p2), .val (.int p3), .val (.int (1 : Int32)), .val (.int sh), .val (.int c1), .val (.int c2), .val (.ref s12), .unset, .val .null, .unset, .unset, .unset] [(.int (112 : Int32)), (.int (15 : Int32)), (.ref ca), (.ref ca), (.ref xs), (.ref xs)])) (fun _ k => XS.bipush X19.here hx rfl (hb hby at_472) k) ?_
            obtain ⟨T20, h20, L20, X20, e20, V_ca, N0, O, Kf4, st20⟩ := own_stC X19 hx hZ e19 V_ca (j := (15 : Int32)) ⟨by decide, by decide⟩ 15 rfl (Nat.le_of_ble_eq_true rfl) g_ca N0 O Kf4 (Or.inl (List.mem_of_getElem? (i := 0) rfl)) (g := (mkF m 474 #[.val (.int p0), .val (.int p1), .val (.int p2), .val (.int p3), .val (.int (1 : Int32)), .val (.int sh), .val (.int c1), .val (.int c2), .val (.ref s12), .unset, .val .null, .unset, .unset, .unset] [(.int (112 : Int32)), (.int (15 : Int32)), (.ref ca), (.ref ca), (.ref xs), (.ref xs)])) rfl rfl (hb hby at_474)
            replace V_ca : Arv Z h20 ca kA3 .char (19 : Int32) [(.int (nar .char (97 : Int32))), (.int (nar .char (112 : Int32))), (.int (nar .char (112 : Int32))), (.int (nar .char (108 : Int32))), (.int (nar .char (105 : Int32))), (.int (nar .char (99 : Int32))), (.int (nar .char (97 : Int32))), (.int (nar .char (116 : Int32))), (.int (nar .char (105 : Int32))), (.int (nar .char (111 : Int32))), (.int (nar .char (110 : Int32))), (.int (nar .char (47 : Int32))), (.int (nar .char (115 : Int32))), (.int (nar .char (111 : Int32))), (.int (nar .char (97 : Int32))), (.int (nar .char (112 : Int32))), (.int (0 : Int32)), (.int (0 : Int32)), (.int (0 : Int32))] (.int (0 : Int32)) := V_ca
            refine Out.via (g' := (mkF m 475 #[.val (.int p0), .val (.int p1), .val (.int p2), .val (.int p3), .val (.int (1 : Int32)), .val (.int sh), .val (.int c1), .val (.int c2), .val (.ref s12), .unset, .val .null, .unset, .unset, .unset] [(.ref ca), (.ref xs), (.ref xs)])) st20 ?_
            refine Out.via (g' := (mkF m 476 #[.val (.int p0), .val (.int p1), .val (.int p2), .val (.int p3), .val (.int (1 : Int32)), .val (.int sh), .val (.int c1), .val (.int c2), .val (.ref s12), .unset, .val .null, .unset, .unset, .unset] [(.ref ca), (.ref ca), (.ref xs), (.ref xs)])) (fun _ k => XS.dup X20.here hx rfl (hb hby at_475) rfl rfl k) ?_
            refine Out.via (g' := (mkF m 478 #[.val (.int p0), .val (.int p1), .val (.int p2), .val (.int p3), .val (.int (1 : Int32)), .val (.int sh), .val (.int c1), .val (.int c2), .val (.ref s12), .unset, .val .null, .unset, .unset, .unset] [(.int (16 : Int32)), (.ref ca), (.ref ca), (.ref xs), (.ref xs)])) (fun _ k => XS.bipush X20.here hx rfl (hb hby at_476) k) ?_
            refine Out.via (g' := (mkF m 480 #[.val (.int p0), .val (.int p1), .val (.int p2), .val (.int p3), .val (.int (1 : Int32)), .val (.int sh), .val (.int c1), .val (.int c2), .val (.ref s12), .unset, .val .null, .unset, .unset, .unset] [(.int (43 : Int32)), (.int (16 : Int32)), (.ref ca), (.ref ca), (.ref xs), (.ref xs)])) (fun _ k => XS.bipush X20.here hx rfl (hb hby at_478) k) ?_
            obtain ⟨T21, h21, L21, X21, e21, V_ca, N0, O, Kf4, st21⟩ := own_stC X20 hx hZ e20 V_ca (j := (16 : Int32)) ⟨by decide, by decide⟩ 16 rfl (Nat.le_of_ble_eq_true rfl) g_ca N0 O Kf4 (Or.inl (List.mem_of_getElem? (i := 0) rfl)) (g := (mkF m 480 #[.val (.int p0), .val (.int p1), .val (.int p2), .val (.int p3), .val (.int (1 : Int32)), .val (.int sh), .val (.int c1), .val (.int c2), .val (.ref s12), .unset, .val .null, .unset, .unset, .unset] [(.int (43 : Int32)), (.int (16 : Int32)), (.ref ca), (.ref ca), (.ref xs), (.ref xs)])) rfl rfl (hb hby at_480)
            replace V_ca : Arv Z h21 ca kA3 .char (19 : Int32) [(.int (nar .char (97 : Int32))), (.int (nar .char (112 : Int32))), (.int (nar .char (112 : Int32))), (.int (nar .char (108 : Int32))), (.int (nar .char (105 : Int32))), (.int (nar .char (99 : Int32))), (.int (nar .char (97 : Int32))), (.int (nar .char (116 : Int32))), (.int (nar .char (105 : Int32))), (.int (nar .char (111 : Int32))), (.int (nar .char (110 : Int32))), (.int (nar .char (47 : Int32))), (.int (nar .char (115 : Int32))), (.int (nar .char (111 : Int32))), (.int (nar .char (97 : Int32))), (.int (nar .char (112 : Int32))), (.int (nar .char (43 : Int32))), (.int (0 : Int32)), (.int (0 : Int32))] (.int (0 : Int32)) := V_ca
            refine Out.via (g' := (mkF m 481 #[.val (.int p0), .val (.int p1), .val (.int p2), .val (.int p3), .val (.int (1 : Int32)), .val (.int sh), .val (.int c1), .val (.int c2), .val (.ref s12), .unset, .val .null, .unset, .unset, .unset] [(.ref ca), (.ref xs), (.ref xs)])) st21 ?_
            refine Out.via (g' := (mkF m 482 #[.val (.int p0), .val (.int p1), .val (.int p2), .val (.int p3), .val (.int (1 : Int32)), .val (.int sh), .val (.int c1), .val (.int c2), .val (.ref s12), .unset, .val .null, .unset, .unset, .unset] [(.ref ca), (.ref ca), (.ref xs), (.ref xs)])) (fun _ k => XS.dup X21.here hx rfl (hb hby at_481) rfl rfl k) ?_
            refine Out.via (g' := (mkF m 484 #[.val (.int p0), .val (.int p1), .val (.int p2), .val (.int p3), .val (.int (1 : Int32)), .val (.int sh), .val (.int c1), .val (.int c2), .val (.ref s12), .unset, .val .null, .unset, .unset, .unset] [(.int (17 : Int32)), (.ref ca), (.ref ca), (.ref xs), (.ref xs)])) (fun _ k => XS.bipush X21.here hx rfl (hb hby at_482) k) ?_
            refine Out.via (g' := (mkF m 486 #[.val (.int p0), .val (.int p1), .val (.int p2), .val (.int p3), .val (.int (1 : Int32)), .val (.int sh), .val (.int c1), .val (.int c2), .val (.ref s12), .unset, .val .null, .unset, .unset, .unset] [(.int (120 : Int32)), (.int (17 : Int32)), (.ref ca), (.ref ca), (.ref xs), (.ref xs)])) (fun _ k => XS.bipush X21.here hx rfl (hb hby at_484) k) ?_
            obtain ⟨T22, h22, L22, X22, e22, V_ca, N0, O, Kf4, st22⟩ := own_stC X21 hx hZ e21 V_ca (j := (17 : Int32)) ⟨by decide, by decide⟩ 17 rfl (Nat.le_of_ble_eq_true rfl) g_ca N0 O Kf4 (Or.inl (List.mem_of_getElem? (i := 0) rfl)) (g := (mkF m 486 #[.val (.int p0), .val (.int p1), .val (.int p2), .val (.int p3), .val (.int (1 : Int32)), .val (.int sh), .val (.int c1), .val (.int c2), .val (.ref s12), .unset, .val .null, .unset, .unset, .unset] [(.int (120 : Int32)), (.int (17 : Int32)), (.ref ca), (.ref ca), (.ref xs), (.ref xs)])) rfl rfl (hb hby at_486)
            replace V_ca : Arv Z h22 ca kA3 .char (19 : Int32) [(.int (nar .char (97 : Int32))), (.int (nar .char (112 : Int32))), (.int (nar .char (112 : Int32))), (.int (nar .char (108 : Int32))), (.int (nar .char (105 : Int32))), (.int (nar .char (99 : Int32))), (.int (nar .char (97 : Int32))), (.int (nar .char (116 : Int32))), (.int (nar .char (105 : Int32))), (.int (nar .char (111 : Int32))), (.int (nar .char (110 : Int32))), (.int (nar .char (47 : Int32))), (.int (nar .char (115 : Int32))), (.int (nar .char (111 : Int32))), (.int (nar .char (97 : Int32))), (.int (nar .char (112 : Int32))), (.int (nar .char (43 : Int32))), (.int (nar .char (120 : Int32))), (.int (0 : Int32))] (.int (0 : Int32)) := V_ca
            refine Out.via (g' := (mkF m 487 #[.val (.int p0), .val (.int p1), .val (.int p2), .val (.int p3), .val (.int (1 : Int32)), .val (.int sh), .val (.int c1), .val (.int c2), .val (.ref s12), .unset, .val .null, .unset, .unset, .unset] [(.ref ca), (.ref xs), (.ref xs)])) st22 ?_
            refine Out.via (g' := (mkF m 488 #[.val (.int p0), .val (.int p1), .val (.int p2), .val (.int p3), .val (.int (1 : Int32)), .val (.int sh), .val (.int c1), .val (.int c2), .val (.ref s12), .unset, .val .null, .unset, .unset, .unset] [(.ref ca), (.ref ca), (.ref xs), (.ref xs)])) (fun _ k => XS.dup X22.here hx rfl (hb hby at_487) rfl rfl k) ?_
            refine Out.via (g' := (mkF m 490 #[.val (.int p0), .val (.int p1), .val (.int p2), .val (.int p3), .val (.int (1 : Int32)), .val (.int sh), .val (.int c1), .val (.int c2), .val (.ref s12), .unset, .val .null, .unset, .unset, .unset] [(.int (18 : Int32)), (.ref ca), (.ref ca), (.ref xs), (.ref xs)])) (fun _ k => XS.bipush X22.here hx rfl (hb hby at_488) k) ?_
            refine Out.via (g' := (mkF m 492 #[.val (.int p0), .val (.int p1), .val (.int p2), .val (.int p3), .val (.int (1 : Int32)), .val (.int sh), .val (.int c1), .val (.int c2), .val (.ref s12), .unset, .val .null, .unset, .unset, .unset] [(.int (109 : Int32)), (.int (18 : Int32)), (.ref ca), (.ref ca), (.ref xs), (.ref xs)])) (fun _ k => XS.bipush X22.here hx rfl (hb hby at_490) k) ?_
            obtain ⟨T23, h23, L23, X23, e23, V_ca, N0, O, Kf4, st23⟩ := own_stC X22 hx hZ e22 V_ca (j := (18 : Int32)) ⟨by decide, by decide⟩ 18 rfl (Nat.le_of_ble_eq_true rfl) g_ca N0 O Kf4 (Or.inl (List.mem_of_getElem? (i := 0) rfl)) (g := (mkF m 492 #[.val (.int p0), .val (.int p1), .val (.int p2), .val (.int p3), .val (.int (1 : Int32)), .val (.int sh), .val (.int c1), .val (.int c2), .val (.ref s12), .unset, .val .null, .unset, .unset, .unset] [(.int (109 : Int32)), (.int (18 : Int32)), (.ref ca), (.ref ca), (.ref xs), (.ref xs)])) rfl rfl (hb hby at_492)
            replace V_ca : Arv Z h23 ca kA3 .char (19 : Int32) [(.int (nar .char (97 : Int32))), (.int (nar .char (112 : Int32))), (.int (nar .char (112 : Int32))), (.int (nar .char (108 : Int32))), (.int (nar .char (105 : Int32))), (.int (nar .char (99 : Int32))), (.int (nar .char (97 : Int32))), (.int (nar .char (116 : Int32))), (.int (nar .char (105 : Int32))), (.int (nar .char (111 : Int32))), (.int (nar .char (110 : Int32))), (.int (nar .char (47 : Int32))), (.int (nar .char (115 : Int32))), (.int (nar .char (111 : Int32))), (.int (nar .char (97 : Int32))), (.int (nar .char (112 : Int32))), (.int (nar .char (43 : Int32))), (.int (nar .char (120 : Int32))), (.int (nar .char (109 : Int32)))] (.int (0 : Int32)) := V_ca
            refine Out.via (g' := (mkF m 493 #[.val (.int p0), .val (.int p1), .val (.int p2), .val (.int p3), .val (.int (1 : Int32)), .val (.int sh), .val (.int c1), .val (.int c2), .val (.ref s12), .unset, .val .null, .unset, .unset, .unset] [(.ref ca), (.ref xs), (.ref xs)])) st23 ?_
            replace V_ca : Arv Z h23 ca kA3 .char (19 : Int32) [(.int (nar .char (97 : Int32))), (.int (nar .char (112 : Int32))), (.int (nar .char (112 : Int32))), (.int (nar .char (108 : Int32))), (.int (nar .char (105 : Int32))), (.int (nar .char (99 : Int32))), (.int (nar .char (97 : Int32))), (.int (nar .char (116 : Int32))), (.int (nar .char (105 : Int32))), (.int (nar .char (111 : Int32))), (.int (nar .char (110 : Int32))), (.int (nar .char (47 : Int32))), (.int (nar .char (115 : Int32))), (.int (nar .char (111 : Int32))), (.int (nar .char (97 : Int32))), (.int (nar .char (112 : Int32))), (.int (nar .char (43 : Int32))), (.int (nar .char (120 : Int32))), (.int (nar .char (109 : Int32)))] (.int (0 : Int32)) := V_ca
            replace hk : _ ≤ h23.size := Nat.le_trans hk Kf4.1
            replace F_value_xs := F_value_xs.keep Kf4 (ninS ne_xs_ca nin0)
            replace F_coder_xs := F_coder_xs.keep Kf4 (ninS ne_xs_ca nin0)
            replace A2 := A2.keep Kf4
            have hp : ∀ c ∈ ([(nar .char (97 : Int32)), (nar .char (112 : Int32)), (nar .char (112 : Int32)), (nar .char (108 : Int32)), (nar .char (105 : Int32)), (nar .char (99 : Int32)), (nar .char (97 : Int32)), (nar .char (116 : Int32)), (nar .char (105 : Int32)), (nar .char (111 : Int32)), (nar .char (110 : Int32)), (nar .char (47 : Int32)), (nar .char (115 : Int32)), (nar .char (111 : Int32)), (nar .char (97 : Int32)), (nar .char (112 : Int32)), (nar .char (43 : Int32)), (nar .char (120 : Int32)), (nar .char (109 : Int32))] : List Int32), own_lat c := own_allS (by unfold own_lat; decide) (own_allS (by unfold own_lat; decide) (own_allS (by unfold own_lat; decide) (own_allS (by unfold own_lat; decide) (own_allS (by unfold own_lat; decide) (own_allS (by unfold own_lat; decide) (own_allS (by unfold own_lat; decide) (own_allS (by unfold own_lat; decide) (own_allS (by unfold own_lat; decide) (own_allS (by unfold own_lat; decide) (own_allS (by unfold own_lat; decide) (own_allS (by unfold own_lat; decide) (own_allS (by unfold own_lat; decide) (own_allS (by unfold own_lat; decide) (own_allS (by unfold own_lat; decide) (own_allS (by unfold own_lat; decide) (own_allS (by unfold own_lat; decide) (own_allS (by unfold own_lat; decide) (own_allS (by unfold own_lat; decide) (own_all0)))))))))))))))))))
            obtain ⟨_, _, ⟨T24, L24, kc24, ks24⟩, -, X24, ⟨Lc24, hQ24, l24, y24, z24⟩, st24⟩ := X23.specialBack hx (y := (⟨"java/lang/String", "<init>", "([C)V"⟩ : MethodName)) rfl hown (mvT hZ (hw _ (List.mem_of_getElem? (i := 50) rfl))) (mvT hZ (hw _ (List.mem_of_getElem? (i := 51) rfl))) (mvT hZ (hw _ (List.mem_of_getElem? (i := 52) rfl))) (by decide) (StrChars.Road.backV (W := 1) hZ hws (kI := 4) (hw _ (List.mem_of_getElem? (i := 5) rfl)) (cs := ([(nar .char (97 : Int32)), (nar .char (112 : Int32)), (nar .char (112 : Int32)), (nar .char (108 : Int32)), (nar .char (105 : Int32)), (nar .char (99 : Int32)), (nar .char (97 : Int32)), (nar .char (116 : Int32)), (nar .char (105 : Int32)), (nar .char (111 : Int32)), (nar .char (110 : Int32)), (nar .char (47 : Int32)), (nar .char (115 : Int32)), (nar .char (111 : Int32)), (nar .char (97 : Int32)), (nar .char (112 : Int32)), (nar .char (43 : Int32)), (nar .char (120 : Int32)), (nar .char (109 : Int32))] : List Int32)) (bs := ([(nar .char (97 : Int32)), (nar .char (112 : Int32)), (nar .char (112 : Int32)), (nar .char (108 : Int32)), (nar .char (105 : Int32)), (nar .char (99 : Int32)), (nar .char (97 : Int32)), (nar .char (116 : Int32)), (nar .char (105 : Int32)), (nar .char (111 : Int32)), (nar .char (110 : Int32)), (nar .char (47 : Int32)), (nar .char (115 : Int32)), (nar .char (111 : Int32)), (nar .char (97 : Int32)), (nar .char (112 : Int32)), (nar .char (43 : Int32)), (nar .char (120 : Int32)), (nar .char (109 : Int32))] : List Int32).map (fun c => c.toInt8.toInt32)) (n := 19) g_xs (own_z0 O) A2 F_value_xs F_coder_xs V_ca (O2.ext O.2) P5 rfl rfl (by decide) (by decide) hp rfl (by decide) (by decide)) (g := (mkF m 493 #[.val (.int p0), .val (.int p1), .val (.int p2), .val (.int p3), .val (.int (1 : Int32)), .val (.int sh), .val (.int c1), .val (.int c2), .val (.ref s12), .unset, .val .null, .unset, .unset, .unset] [(.ref ca), (.ref xs), (.ref xs)])) rfl (by rw [hml]; rfl) (Steps.refl _) (a := xs) (argsL := [(.ref ca)]) (rest := [(.ref xs)]) (lenOf own_pd11 rfl) rfl (by show 2 * 0 + _ ≤ _; exact Nat.le_of_eq rfl) (hb hby at_493) (fun _ _ => ⟨rfl, e23, (by decide : 2 + 1 ≤ _), (by decide : 23 + 19 ≤ _)⟩)
            dsimp only [Pt.U, Pt.locs, Pt.cells, Pt.slots] at X24 l24 y24 z24 st24 hQ24
            subst l24 y24 z24
            obtain ⟨rfl, Nq24, Kq24, Eq, Cq, tb, kb, ut, vt, wt, Vq, Aq⟩ := hQ24
            replace N0 := Fr.app N0 Nq24
            replace hk : _ ≤ T24.heap.size := Nat.le_trans hk Kq24.1
            replace A2 := A2.keep Kq24
            replace V_ca := V_ca.keep Kq24 (ninS (Ne.symm ne_xs_ca) nin0)
            replace O := O.keep Kq24 (allS g_xs all0)
            refine Out.to (g' := (mkF m 496 #[.val (.int p0), .val (.int p1), .val (.int p2), .val (.int p3), .val (.int (1 : Int32)), .val (.int sh), .val (.int c1), .val (.int c2), .val (.ref s12), .unset, .val .null, .unset, .unset, .unset] [(.ref xs)])) st24 ?_
            have Sx : own_Str Z T24.heap xs ([(nar .char (97 : Int32)), (nar .char (112 : Int32)), (nar .char (112 : Int32)), (nar .char (108 : Int32)), (nar .char (105 : Int32)), (nar .char (99 : Int32)), (nar .char (97 : Int32)), (nar .char (116 : Int32)), (nar .char (105 : Int32)), (nar .char (111 : Int32)), (nar .char (110 : Int32)), (nar .char (47 : Int32)), (nar .char (115 : Int32)), (nar .char (111 : Int32)), (nar .char (97 : Int32)), (nar .char (112 : Int32)), (nar .char (43 : Int32)), (nar .char (120 : Int32)), (nar .char (109 : Int32))] : List Int32) := ⟨hp, Eq, Cq, tb, kb, Vq, Aq⟩
            refine Out.via (g' := (mkF m 546 #[.val (.int p0), .val (.int p1), .val (.int p2), .val (.int p3), .val (.int (1 : Int32)), .val (.int sh), .val (.int c1), .val (.int c2), .val (.ref s12), .unset, .val .null, .unset, .unset, .unset] [(.ref xs)])) (fun _ k => XS.goto X24.here hx rfl (pc0 := 496) (pc' := 546) rfl (hb hby at_496) (by decide) (by decide) k) ?_
            refine Out.via (g' := (mkF m 548 #[.val (.int p0), .val (.int p1), .val (.int p2), .val (.int p3), .val (.int (1 : Int32)), .val (.int sh), .val (.int c1), .val (.int c2), .val (.ref s12), .val (.ref xs), .val .null, .unset, .unset, .unset] [])) (fun _ k => XS.astore X24.here hx rfl (hb hby at_546) rfl rfl (l' := #[.val (.int p0), .val (.int p1), .val (.int p2), .val (.int p3), .val (.int (1 : Int32)), .val (.int sh), .val (.int c1), .val (.int c2), .val (.ref s12), .val (.ref xs), .val .null, .unset, .unset, .unset]) rfl k) ?_
            refine Out.via (g' := (mkF m 995 #[.val (.int p0), .val (.int p1), .val (.int p2), .val (.int p3), .val (.int (1 : Int32)), .val (.int sh), .val (.int c1), .val (.int c2), .val (.ref s12), .val (.ref xs), .val .null, .unset, .unset, .unset] [])) (fun _ k => XS.goto X24.here hx rfl (pc0 := 548) (pc' := 995) rfl (hb hby at_548) (by decide) (by decide) k) ?_
            exact own_tail #[.val (.int p0), .val (.int p1), .val (.int p2), .val (.int p3), .val (.int (1 : Int32)), .val (.int sh), .val (.int c1), .val (.int c2), .val (.ref s12), .val (.ref xs), .val .null, .unset, .unset, .unset] xs va s11 s12 m11 m12 kv ([(nar .char (97 : Int32)), (nar .char (112 : Int32)), (nar .char (112 : Int32)), (nar .char (108 : Int32)), (nar .char (105 : Int32)), (nar .char (99 : Int32)), (nar .char (97 : Int32)), (nar .char (116 : Int32)), (nar .char (105 : Int32)), (nar .char (111 : Int32)), (nar .char (110 : Int32)), (nar .char (47 : Int32)), (nar .char (115 : Int32)), (nar .char (111 : Int32)), (nar .char (97 : Int32)), (nar .char (112 : Int32)), (nar .char (43 : Int32)), (nar .char (120 : Int32)), (nar .char (109 : Int32))] : List Int32) G1 .null X24 hx hS hk hZ hw hby hml hown Bd.returns Bd.notSynchronized rfl O N0 Sx (Nat.le_of_ble_eq_true rfl) SVA EVA AVA F11 S11 F12 S12 O2 P5 (own_Ans.len (by show 19 ≠ 8; decide) (by show 19 ≠ 20; decide)) rfl rfl rfl (by decide) (by decide)
          · refine Out.via (g' := (mkF m 551 #[.val (.int p0), .val (.int p1), .val (.int p2), .val (.int p3), .val (.int (1 : Int32)), .val (.int sh), .val (.int c1), .val (.int c2), .val (.ref s12), .unset, .val .null, .unset, .unset, .unset] [])) (fun _ k => XS.icmpYes X1.here hx rfl (pc0 := 369) (pc' := 551) rfl (hb hby at_369) rfl (feq h3c).2 (by decide) (by decide) k) ?_
            refine Out.via (g' := (mkF m 553 #[.val (.int p0), .val (.int p1), .val (.int p2), .val (.int p3), .val (.int (1 : Int32)), .val (.int sh), .val (.int c1), .val (.int c2), .val (.ref s12), .unset, .val .null, .unset, .unset, .unset] [(.int sh)])) (fun _ k => XS.iload X1.here hx rfl (hb hby at_551) rfl k) ?_
            refine Out.via (g' := (mkF m 554 #[.val (.int p0), .val (.int p1), .val (.int p2), .val (.int p3), .val (.int (1 : Int32)), .val (.int sh), .val (.int c1), .val (.int c2), .val (.ref s12), .unset, .val .null, .unset, .unset, .unset] [(.int (4 : Int32)), (.int sh)])) (fun _ k => XS.iconst X1.here hx rfl (hb hby at_553) k) ?_
            by_cases h4c : sh = (4 : Int32)
            · refine Out.via (g' := (mkF m 557 #[.val (.int p0), .val (.int p1), .val (.int p2), .val (.int p3), .val (.int (1 : Int32)), .val (.int sh), .val (.int c1), .val (.int c2), .val (.ref s12), .unset, .val .null, .unset, .unset, .unset] [])) (fun _ k => XS.icmpNo X1.here hx rfl (hb hby at_554) rfl (teq h4c).2 k) ?_
              refine Out.via (g' := (mkF m 559 #[.val (.int p0), .val (.int p1), .val (.int p2), .val (.int p3), .val (.int (1 : Int32)), .val (.int sh), .val (.int c1), .val (.int c2), .val (.ref s12), .unset, .val .null, .unset, .unset, .unset] [(.int (1 : Int32))])) (fun _ k => XS.iload X1.here hx rfl (hb hby at_557) rfl k) ?_
              refine Out.via (g' := (mkF m 562 #[.val (.int p0), .val (.int p1), .val (.int p2), .val (.int p3), .val (.int (1 : Int32)), .val (.int sh), .val (.int c1), .val (.int c2), .val (.ref s12), .unset, .val .null, .unset, .unset, .unset] [])) (fun _ k => XS.ifNo X1.here hx rfl (hb hby at_559) rfl ((if0 _ _).trans (feq (by decide)).1) k) ?_
              obtain ⟨T2, h2, X2, e2, E2, A2, D2, -, st2⟩ := newO X1 hx hZ hown (hw _ (List.mem_of_getElem? (i := 48) rfl)) (hw _ (List.mem_of_getElem? (i := 5) rfl)) (hw _ (List.mem_of_getElem? (i := 4) rfl)) e1 (g := (mkF m 562 #[.val (.int p0), .val (.int p1), .val (.int p2), .val (.int p3), .val (.int (1 : Int32)), .val (.int sh), .val (.int c1), .val (.int c2), .val (.ref s12), .unset, .val .null, .unset, .unset, .unset] [])) rfl (hb hby at_562) (by decide) (by decide)
              obtain ⟨xs, gq2⟩ : ∃ z, z = h0.size := ⟨_, rfl⟩
              rw [← gq2] at A2 D2 st2
              have g_xs : n0 ≤ xs := Nat.le_trans (own_z0 O) (Nat.le_of_eq gq2.symm)
              replace O := O.ext E2
              replace hk := Nat.le_trans hk E2.1
              have F_value_xs : Fld Z h2 xs "java/lang/String" "value" "[B" .null := D2 (Or.inr (hw _ (List.mem_of_getElem? (i := 7) rfl))) (ty := (.array .byte)) (by decide)
              have F_coder_xs : Fld Z h2 xs "java/lang/String" "coder" "B" (.int (0 : Int32)) := D2 (Or.inr (hw _ (List.mem_of_getElem? (i := 8) rfl))) (ty := .byte) (by decide)
              refine Out.via (g' := (mkF m 565 #[.val (.int p0), .val (.int p1), .val (.int p2), .val (.int p3), .val (.int (1 : Int32)), .val (.int sh), .val (.int c1), .val (.int c2), .val (.ref s12), .unset, .val .null, .unset, .unset, .unset] [(.ref xs)])) st2 ?_
              refine Out.via (g' := (mkF m 566 #[.val (.int p0), .val (.int p1), .val (.int p2), .val (.int p3), .val (.int (1 : Int32)), .val (.int sh), .val (.int c1), .val (.int c2), .val (.ref s12), .unset, .val .null, .unset, .unset, .unset] [(.ref xs), (.ref xs)])) (fun _ k => XS.dup X2.here hx rfl (hb hby at_565) rfl rfl k) ?_
              refine Out.via (g' := (mkF m 568 #[.val (.int p0), .val (.int p1), .val (.int p2), .val (.int p3), .val (.int (1 : Int32)), .val (.int sh), .val (.int c1), .val (.int c2), .val (.ref s12), .unset, .val .null, .unset, .unset, .unset] [(.int (19 : Int32)), (.ref xs), (.ref xs)])) (fun _ k => XS.bipush X2.here hx rfl (hb hby at_566) k) ?_
              obtain ⟨T3, h3, kA3, X3, e3, E3, A3, st3⟩ := newP X2 hx hZ (hw _ (List.mem_of_getElem? (i := 49) rfl)) e2 (g := (mkF m 568 #[.val (.int p0), .val (.int p1), .val (.int p2), .val (.int p3), .val (.int (1 : Int32)), .val (.int sh), .val (.int c1), .val (.int c2), .val (.ref s12), .unset, .val .null, .unset, .unset, .unset] [(.int (19 : Int32)), (.ref xs), (.ref xs)])) rfl (hb hby at_568) rfl (by decide) (cap := 19) (by decide) (by decide) (by decide) (by decide)
              obtain ⟨ca, gq3⟩ : ∃ z, z = h2.size := ⟨_, rfl⟩
              rw [← gq3] at A3 st3
              have ne_xs_ca : xs ≠ ca := Nat.ne_of_lt (Nat.lt_of_lt_of_le A2.lt (Nat.le_of_eq gq3.symm))
              have g_ca : n0 ≤ ca := Nat.le_trans (own_z0 O) (Nat.le_of_eq gq3.symm)
              replace F_value_xs := F_value_xs.ext E3
              replace F_coder_xs := F_coder_xs.ext E3
              replace A2 := A2.ext E3
              replace O := O.ext E3
              replace hk := Nat.le_trans hk E3.1
              have V_ca : Arv Z h3 ca kA3 .char (19 : Int32) [(.int (0 : Int32)), (.int (0 : Int32)), (.int (0 : Int32)), (.int (0 : Int32)), (.int (0 : Int32)), (.int (0 : Int32)), (.int (0 : Int32)), (.int (0 : Int32)), (.int (0 : Int32)), (.int (0 : Int32)), (.int (0 : Int32)), (.int (0 : Int32)), (.int (0 : Int32)), (.int (0 : Int32)), (.int (0 : Int32)), (.int (0 : Int32)), (.int (0 : Int32)), (.int (0 : Int32)), (.int (0 : Int32))] (.int (0 : Int32)) := (Arv.new A3 (by decide)).pad (pad_rep [] (.int (0 : Int32)) 19)
              refine Out.via (g' := (mkF m 570 #[.val (.int p0), .val (.int p1), .val (.int p2), .val (.int p3), .val (.int (1 : Int32)), .val (.int sh), .val (.int c1), .val (.int c2), .val (.ref s12), .unset, .val .null, .unset, .unset, .unset] [(.ref ca), (.ref xs), (.ref xs)])) st3 ?_
              have Kf4 := Keep.refl h3 [ca]
              refine Out.via (g' := (mkF m 571 #[.val (.int p0), .val (.int p1), .val (.int p2), .val (.int p3), .val (.int (1 : Int32)), .val (.int sh), .val (.int c1), .val (.int c2), .val (.ref s12), .unset, .val .null, .unset, .unset, .unset] [(.ref ca), (.ref ca), (.ref xs), (.ref xs)])) (fun _ k => XS.dup X3.here hx rfl (hb hby at_570) rfl rfl k) ?_
              refine Out.via (g' := (mkF m 572 #[.val (.int p0), .val (.int p1), .val (.int p2), .val (.int p3), .val (.int (1 : Int32)), .val (.int sh), .val (.int c1), .val (.int c2), .val (.ref s12), .unset, .val .null, .unset, .unset, .unset] [(.int (0 : Int32)), (.ref ca), (.ref ca), (.ref xs), (.ref xs)])) (fun _ k => XS.iconst X3.here hx rfl (hb hby at_571) k) ?_
              refine Out.via (g' := (mkF m 574 #[.val (.int p0), .val (.int p1), .val (.int p2), .val (.int p3), .val (.int (1 : Int32)), .val (.int sh), .val (.int c1), .val (.int c2), .val (.ref s12), .unset, .val .null, .unset, .unset, .unset] [(.int (112 : Int32)), (.int (0 : Int32)), (.ref ca), (.ref ca), (.ref xs), (.ref xs)])) (fun _ k => XS.bipush X3.here hx rfl (hb hby at_572) k) ?_
              obtain ⟨T5, h5, L5, X5, e5, V_ca, N0, O, Kf4, st5⟩ := own_stC X3 hx hZ e3 V_ca (j := (0 : Int32)) ⟨by decide, by decide⟩ 0 rfl (Nat.le_of_ble_eq_true rfl) g_ca N0 O Kf4 (Or.inl (List.mem_of_getElem? (i := 0) rfl)) (g := (mkF m 574 #[.val (.int p0), .val (.int p1), .val (.int p2), .val (.int p3), .val (.int (1 : Int32)), .val (.int sh), .val (.int c1), .val (.int c2), .val (.ref s12), .unset, .val .null, .unset, .unset, .unset] [(.int (112 : Int32)), (.int (0 : Int32)), (.ref ca), (.ref ca), (.ref xs), (.ref xs)])) rfl rfl (hb hby at_574)
              replace V_ca : Arv Z h5 ca kA3 .char (19 : Int32) [(.int (nar .char (112 : Int32))), (.int (0 : Int32)), (.int (0 : Int32)), (.int (0 : Int32)), (.int (0 : Int32)), (.int (0 : Int32)), (.int (0 : Int32)), (.int (0 : Int32)), (.int (0 : Int32)), (.int (0 : Int32)), (.int (0 : Int32)), (.int (0 : Int32)), (.int (0 : Int32)), (.int (0 : Int32)), (.int (0 : Int32)), (.int (0 : Int32)), (.int (0 : Int32)), (.int (0 : Int32)), (.int (0 : Int32))] (.int (0 : Int32)) := V_ca
              refine Out.via (g' := (mkF m 575 #[.val (.int p0), .val (.int p1), .val (.int p2), .val (.int p3), .val (.int (1 : Int32)), .val (.int sh), .val (.int c1), .val (.int c2), .val (.ref s12), .unset, .val .null, .unset, .unset, .unset] [(.ref ca), (.ref xs), (.ref xs)])) st5 ?_
              refine Out.via (g' := (mkF m 576 #[.val (.int p0), .val (.int p1), .val (.int p2), .val (.int p3), .val (.int (1 : Int32)), .val (.int sh), .val (.int c1), .val (.int c2), .val (.ref s12), .unset, .val .null, .unset, .unset, .unset] [(.ref ca), (.ref ca), (.ref xs), (.ref xs)])) (fun _ k => XS.dup X5.here hx rfl (hb hby at_575) rfl rfl k) ?_
              refine Out.via (g' := (mkF m 577 #[.val (.int p0), .val (.int p1), .val (.int p2), .val (.int p3), .val (.int (1 : Int32)), .val (.int sh), .val (.int c1), .val (.int c2), .val (.ref s12), .unset, .val .null, .unset, .unset, .unset] [(.int (1 : Int32)), (.ref ca), (.ref ca), (.ref xs), (.ref xs)])) (fun _ k => XS.iconst X5.here hx rfl (hb hby at_576) k) ?_
              refine Out.via (g' := (mkF m 579 #[.val (.int p0), .val (.int p1), .val (.int p2), .val (.int p3), .val (.int (1 : Int32)), .val (.int sh), .val (.int c1), .val (.int c2), .val (.ref s12), .unset, .val .null, .unset, .unset, .unset] [(.int (112 : Int32)), (.int (1 : Int32)), (.ref ca), (.ref ca), (.ref xs), (.ref xs)])) (fun _ k => XS.bipush X5.here hx rfl (hb hby at_577) k) ?_
              obtain ⟨T6, h6, L6, X6, e6, V_ca, N0, O, Kf4, st6⟩ := own_stC X5 hx hZ e5 V_ca (j := (1 : Int32)) ⟨by decide, by decide⟩ 1 rfl (Nat.le_of_ble_eq_true rfl) g_ca N0 O Kf4 (Or.inl (List.mem_of_getElem? (i := 0) rfl)) (g := (mkF m 579 #[.val (.int p0), .val (.int p1), .val (.int p2), .val (.int p3), .val (.int (1 : Int32)), .val (.int sh), .val (.int c1), .val (.int c2), .val (.ref s12), .unset, .val .null, .unset, .unset, .unset] [(.int (112 : Int32)), (.int (1 : Int32)), (.ref ca), (.ref ca), (.ref xs), (.ref xs)])) rfl rfl (hb hby at_579)
              replace V_ca : Arv Z h6 ca kA3 .char (19 : Int32) [(.int (nar .char (112 : Int32))), (.int (nar .char (112 : Int32))), (.int (0 : Int32)), (.int (0 : Int32)), (.int (0 : Int32)), (.int (0 : Int32)), (.int (0 : Int32)), (.int (0 : Int32)), (.int (0 : Int32)), (.int (0 : Int32)), (.int (0 : Int32)), (.int (0 : Int32)), (.int (0 : Int32)), (.int (0 : Int32)), (.int (0 : Int32)), (.int (0 : Int32)), (.int (0 : Int32)), (.int (0 : Int32)), (.int (0 : Int32))] (.int (0 : Int32)) := V_ca
              refine Out.via (g' := (mkF m 580 #[.val (.int p0), .val (.int p1), .val (.int p2), .val (.int p3), .val (.int (1 : Int32)), .val (.int sh), .val (.int c1), .val (.int c2), .val (.ref s12), .unset, .val .null, .unset, .unset, .unset] [(.ref ca), (.ref xs), (.ref xs)])) st6 ?_
              refine Out.via (g' := (mkF m 581 #[.val (.int p0), .val (.int p1), .val (.int p2), .val (.int p3), .val (.int (1 : Int32)), .val (.int sh), .val (.int c1), .val (.int c2), .val (.ref s12), .unset, .val .null, .unset, .unset, .unset] [(.ref ca), (.ref ca), (.ref xs), (.ref xs)])) (fun _ k => XS.dup X6.here hx rfl (hb hby at_580) rfl rfl k) ?_
              refine Out.via (g' := (mkF m 582 #[.val (.int p0), .val (.int p1), .val (.int p2), .val (.int p3), .val (.int (1 : Int32)), .val (.int sh), .val (.int c1), .val (.int c2), .val (.ref s12), .unset, .val .null, .unset, .unset, .unset] [(.int (2 : Int32)), (.ref ca), (.ref ca), (.ref xs), (.ref xs)])) (fun _ k => XS.iconst X6.here hx rfl (hb hby at_581) k) ?_
              refine Out.via (g' := (mkF m 584 #[.val (.int p0), .val (.int p1), .val (.int p2), .val (.int p3), .val (.int (1 : Int32)), .val (.int sh), .val (.int c1), .val (.int c2), .val (.ref s12), .unset, .val .null, .unset, .unset, .unset] [(.int (108 : Int32)), (.int (2 : Int32)), (.ref ca), (.ref ca), (.ref xs), (.ref xs)])) (fun _ k => XS.bipush X6.here hx rfl (hb hby at_582) k) ?_
              obtain ⟨T7, h7, L7, X7, e7, V_ca, N0, O, Kf4, st7⟩ := own_stC X6 hx hZ e6 V_ca (j := (2 : Int32)) ⟨by decide, by decide⟩ 2 rfl (Nat.le_of_ble_eq_true rfl) g_ca N0 O Kf4 (Or.inl (List.mem_of_getElem? (i := 0) rfl)) (g := (mkF m 584 #[.val (.int p0), .val (.int p1), .val (.int p2), .val (.int p3), .val (.int (1 : Int32)), .val (.int sh), .val (.int c1), .val (.int c2), .val (.ref s12), .unset, .val .null, .unset, .unset, .unset] [(.int (108 : Int32)), (.int (2 : Int32)), (.ref ca), (.ref ca), (.ref xs), (.ref xs)])) rfl rfl (hb hby at_584)
              replace V_ca : Arv Z h7 ca kA3 .char (19 : Int32) [(.int (nar .char (112 : Int32))), (.int (nar .char (112 : Int32))), (.int (nar .char (108 : Int32))), (.int (0 : Int32)), (.int (0 : Int32)), (.int (0 : Int32)), (.int (0 : Int32)), (.int (0 : Int32)), (.int (0 : Int32)), (.int (0 : Int32)), (.int (0 : Int32)), (.int (0 : Int32)), (.int (0 : Int32)), (.int (0 : Int32)), (.int (0 : Int32)), (.int (0 : Int32)), (.int (0 : Int32)), (.int (0 : Int32)), (.int (0 : Int32))] (.int (0 : Int32)) := V_ca
              refine Out.via (g' := (mkF m 585 #[.val (.int p0), .val (.int p1), .val (.int p2), .val (.int p3), .val (.int (1 : Int32)), .val (.int sh), .val (.int c1), .val (.int c2), .val (.ref s12), .unset, .val .null, .unset, .unset, .unset] [(.ref ca), (.ref xs), (.ref xs)])) st7 ?_
              refine Out.via (g' := (mkF m 586 #[.val (.int p0), .val (.int p1), .val (.int p2), .val (.int p3), .val (.int (1 : Int32)), .val (.int sh), .val (.int c1), .val (.int c2), .val (.ref s12), .unset, .val .null, .unset, .unset, .unset] [(.ref ca), (.ref ca), (.ref xs), (.ref xs)])) (fun _ k => XS.dup X7.here hx rfl (hb hby at_585) rfl rfl k) ?_
              refine Out.via (g' := (mkF m 587 #[.val (.int p0), .val (.int p1), .val (.int p2), .val (.int p3), .val (.int (1 : Int32)), .val (.int sh), .val (.int c1), .val (.int c2), .val (.ref s12), .unset, .val .null, .unset, .unset, .unset] [(.int (3 : Int32)), (.ref ca), (.ref ca), (.ref xs), (.ref xs)])) (fun _ k => XS.iconst X7.here hx rfl (hb hby at_586) k) ?_
              refine Out.via (g' := (mkF m 589 #[.val (.int p0), .val (.int p1), .val (.int p2), .val (.int p3), .val (.int (1 : Int32)), .val (.int sh), .val (.int c1), .val (.int c2), .val (.ref s12), .unset, .val .null, .unset, .unset, .unset] [(.int (105 : Int32)), (.int (3 : Int32)), (.ref ca), (.ref ca), (.ref xs), (.ref xs)])) (fun _ k => XS.bipush X7.here hx rfl (hb hby at_587) k) ?_
              obtain ⟨T8, h8, L8, X8, e8, V_ca, N0, O, Kf4, st8⟩ := own_stC X7 hx hZ e7 V_ca (j := (3 : Int32)) ⟨by decide, by decide⟩ 3 rfl (Nat.le_of_ble_eq_true rfl) g_ca N0 O Kf4 (Or.inl (List.mem_of_getElem? (i := 0) rfl)) (g := (mkF m 589 #[.val (.int p0), .val (.int p1), .val (.int p2), .val (.int p3), .val (.int (1 : Int32)), .val (.int sh), .val (.int c1), .val (.int c2), .val (.ref s12), .unset, .val .null, .unset, .unset, .unset] [(.int (105 : Int32)), (.int (3 : Int32)), (.ref ca), (.ref ca), (.ref xs), (.ref xs)])) rfl rfl (hb hby at_589)
              replace V_ca : Arv Z h8 ca kA3 .char (19 : Int32) [(.int (nar .char (112 : Int32))), (.int (nar .char (112 : Int32))), (.int (nar .char (108 : Int32))), (.int (nar .char (105 : Int32))), (.int (0 : Int32)), (.int (0 : Int32)), (.int (0 : Int32)), (.int (0 : Int32)), (.int (0 : Int32)), (.int (0 : Int32)), (.int (0 : Int32)), (.int (0 : Int32)), (.int (0 : Int32)), (.int (0 : Int32)), (.int (0 : Int32)), (.int (0 : Int32)), (.int (0 : Int32)), (.int (0 : Int32)), (.int (0 : Int32))] (.int (0 : Int32)) := V_ca
              refine Out.via (g' := (mkF m 590 #[.val (.int p0), .val (.int p1), .val (.int p2), .val (.int p3), .val (.int (1 : Int32)), .val (.int sh), .val (.int c1), .val (.int c2), .val (.ref s12), .unset, .val .null, .unset, .unset, .unset] [(.ref ca), (.ref xs), (.ref xs)])) st8 ?_
              refine Out.via (g' := (mkF m 591 #[.val (.int p0), .val (.int p1), .val (.int p2), .val (.int p3), .val (.int (1 : Int32)), .val (.int sh), .val (.int c1), .val (.int c2), .val (.ref s12), .unset, .val .null, .unset, .unset, .unset] [(.ref ca), (.ref ca), (.ref xs), (.ref xs)])) (fun _ k => XS.dup X8.here hx rfl (hb hby at_590) rfl rfl k) ?_
              refine Out.via (g' := (mkF m 592 #[.val (.int p0), .val (.int p1), .val (.int p2), .val (.int p3), .val (.int (1 : Int32)), .val (.int sh), .val (.int c1), .val (.int c2), .val (.ref s12), .unset, .val .null, .unset, .unset, .unset] [(.int (4 : Int32)), (.ref ca), (.ref ca), (.ref xs), (.ref xs)])) (fun _ k => XS.iconst X8.here hx rfl (hb hby at_591) k) ?_
              refine Out.via (g' := (mkF m 594 #[.val (.int p0), .val (.int p1), .val (.int p2), .val (.int p3), .val (.int (1 : Int32)), .val (.int sh), .val (.int c1), .val (.int c2), .val (.ref s12), .unset, .val .null, .unset, .unset, .unset] [(.int (99 : Int32)), (.int (4 : Int32)), (.ref ca), (.ref ca), (.ref xs), (.ref xs)])) (fun _ k => XS.bipush X8.here hx rfl (hb hby at_592) k) ?_
              obtain ⟨T9, h9, L9, X9, e9, V_ca, N0, O, Kf4, st9⟩ := own_stC X8 hx hZ e8 V_ca (j := (4 : Int32)) ⟨by decide, by decide⟩ 4 rfl (Nat.le_of_ble_eq_true rfl) g_ca N0 O Kf4 (Or.inl (List.mem_of_getElem? (i := 0) rfl)) (g := (mkF m 594 #[.val (.int p0), .val (.int p1), .val (.int p2), .val (.int p3), .val (.int (1 : Int32)), .val (.int sh), .val (.int c1), .val (.int c2), .val (.ref s12), .unset, .val .null, .unset, .unset, .unset] [(.int (99 : Int32)), (.int (4 : Int32)), (.ref ca), (.ref ca), (.ref xs), (.ref xs)])) rfl rfl (hb hby at_594)
              replace V_ca : Arv Z h9 ca kA3 .char (19 : Int32) [(.int (nar .char (112 : Int32))), (.int (nar .char (112 : Int32))), (.int (nar .char (108 : Int32))), (.int (nar .char (105 : Int32))), (.int (nar .char (99 : Int32))), (.int (0 : Int32)), (.int (0 : Int32)), (.int (0 : Int32)), (.int (0 : Int32)), (.int (0 : Int32)), (.int (0 : Int32)), (.int (0 : Int32)), (.int (0 : Int32)), (.int (0 : Int32)), (.int (0 : Int32)), (.int (0 : Int32)), (.int (0 : Int32)), (.int (0 : Int32)), (.int (0 : Int32))] (.int (0 : Int32)) := V_ca
              refine Out.via (g' := (mkF m 595 #[.val (.int p0), .val (.int p1), .val (.int p2), .val (.int p3), .val (.int (1 : Int32)), .val (.int sh), .val (.int c1), .val (.int c2), .val (.ref s12), .unset, .val .null, .unset, .unset, .unset] [(.ref ca), (.ref xs), (.ref xs)])) st9 ?_
              refine Out.via (g' := (mkF m 596 #[.val (.int p0), .val (.int p1), .val (.int p2), .val (.int p3), .val (.int (1 : Int32)), .val (.int sh), .val (.int c1), .val (.int c2), .val (.ref s12), .unset, .val .null, .unset, .unset, .unset] [(.ref ca), (.ref ca), (.ref xs), (.ref xs)])) (fun _ k => XS.dup X9.here hx rfl (hb hby at_595) rfl rfl k) ?_
              refine Out.via (g' := (mkF m 597 #[.val (.int p0), .val (.int p1), .val (.int p2), .val (.int p3), .val (.int (1 : Int32)), .val (.int sh), .val (.int c1), .val (.int c2), .val (.ref s12), .unset, .val .null, .unset, .unset, .unset] [(.int (5 : Int32)), (.ref ca), (.ref ca), (.ref xs), (.ref xs)])) (fun _ k => XS.iconst X9.here hx rfl (hb hby at_596) k) ?_
              refine Out.via (g' := (mkF m 599 #[.val (.int p0), .val (.int p1), .val (.int p2), .val (.int p3), .val (.int (1 : Int32)), .val (.int sh), .val (.int c1), .val (.int c2), .val (.ref s12), .unset, .val .null, .unset, .unset, .unset] [(.int (97 : Int32)), (.int (5 : Int32)), (.ref ca), (.ref ca), (.ref xs), (.ref xs)])) (fun _ k => XS.bipush X9.here hx rfl (hb hby at_597) k) ?_
              obtain ⟨T10, h10, L10, X10, e10, V_ca, N0, O, Kf4, st10⟩ := own_stC X9 hx hZ e9 V_ca (j := (5 : Int32)) ⟨by decide, by decide⟩ 5 rfl (Nat.le_of_ble_eq_true rfl) g_ca N0 O Kf4 (Or.inl (List.mem_of_getElem? (i := 0) rfl)) (g := (mkF m 599 #[.val (.int p0), .val (.int p1), .val (.int p2), .val (.int p3), .val (.int (1 : Int32)), .val (.int sh), .val (.int c1), .val (.int c2), .val (.ref s12), .unset, .val .null, .unset, .unset, .unset] [(.int (97 : Int32)), (.int (5 : Int32)), (.ref ca), (.ref ca), (.ref xs), (.ref xs)])) rfl rfl (hb hby at_599)
              replace V_ca : Arv Z h10 ca kA3 .char (19 : Int32) [(.int (nar .char (112 : Int32))), (.int (nar .char (112 : Int32))), (.int (nar .char (108 : Int32))), (.int (nar .char (105 : Int32))), (.int (nar .char (99 : Int32))), (.int (nar .char (97 : Int32))), (.int (0 : Int32)), (.int (0 : Int32)), (.int (0 : Int32)), (.int (0 : Int32)), (.int (0 : Int32)), (.int (0 : Int32)), (.int (0 : Int32)), (.int (0 : Int32)), (.int (0 : Int32)), (.int (0 : Int32)), (.int (0 : Int32)), (.int (0 : Int32)), (.int (0 : Int32))] (.int (0 : Int32)) := V_ca
              refine Out.via (g' := (mkF m 600 #[.val (.int p0), .val (.int p1), .val (.int p2), .val (.int p3), .val (.int (1 : Int32)), .val (.int sh), .val (.int c1), .val (.int c2), .val (.ref s12), .unset, .val .null, .unset, .unset, .unset] [(.ref ca), (.ref xs), (.ref xs)])) st10 ?_
              refine Out.via (g' := (mkF m 601 #[.val (.int p0), .val (.int p1), .val (.int p2), .val (.int p3), .val (.int (1 : Int32)), .val (.int sh), .val (.int c1), .val (.int c2), .val (.ref s12), .unset, .val .null, .unset, .unset, .unset] [(.ref ca), (.ref ca), (.ref xs), (.ref xs)])) (fun _ k => XS.dup X10.here hx rfl (hb hby at_600) rfl rfl k) ?_
              refine Out.via (g' := (mkF m 603 #[.val (.int p0), .val (.int p1), .val (.int p2), .val (.int p3), .val (.int (1 : Int32)), .val (.int sh), .val (.int c1), .val (.int c2), .val (.ref s12), .unset, .val .null, .unset, .unset, .unset] [(.int (6 : Int32)), (.ref ca), (.ref ca), (.ref xs), (.ref xs)])) (fun _ k => XS.bipush X10.here hx rfl (hb hby at_601) k) ?_
              refine Out.via (g' := (mkF m 605 #[.val (.int p0), .val (.int p1), .val (.int p2), .val (.int p3), .val (.int (1 : Int32)), .val (.int sh), .val (.int c1), .val (.int c2), .val (.ref s12), .unset, .val .null, .unset, .unset, .unset] [(.int (116 : Int32)), (.int (6 : Int32)), (.ref ca), (.ref ca), (.ref xs), (.ref xs)])) (fun _ k => XS.bipush X10.here hx rfl (hb hby at_603) k) ?_
              obtain ⟨T11, h11, L11, X11, e11, V_ca, N0, O, Kf4, st11⟩ := own_stC X10 hx hZ e10 V_ca (j := (6 : Int32)) ⟨by decide, by decide⟩ 6 rfl (Nat.le_of_ble_eq_true rfl) g_ca N0 O Kf4 (Or.inl (List.mem_of_getElem? (i := 0) rfl)) (g := (mkF m 605 #[.val (.int p0), .val (.int p1), .val (.int p2), .val (.int p3), .val (.int (1 : Int32)), .val (.int sh), .val (.int c1), .val (.int c2), .val (.ref s12), .unset, .val .null, .unset, .unset, .unset] [(.int (116 : Int32)), (.int (6 : Int32)), (.ref ca), (.ref ca), (.ref xs), (.ref xs)])) rfl rfl (hb hby at_605)
              replace V_ca : Arv Z h11 ca kA3 .char (19 : Int32) [(.int (nar .char (112 : Int32))), (.int (nar .char (112 : Int32))), (.int (nar .char (108 : Int32))), (.int (nar .char (105 : Int32))), (.int (nar .char (99 : Int32))), (.int (nar .char (97 : Int32))), (.int (nar .char (116 : Int32))), (.int (0 : Int32)), (.int (0 : Int32)), (.int (0 : Int32)), (.int (0 : Int32)), (.int (0 : Int32)), (.int (0 : Int32)), (.int (0 : Int32)), (.int (0 : Int32)), (.int (0 : Int32)), (.int (0 : Int32)), (.int (0 : Int32)), (.int (0 : Int32))] (.int (0 : Int32)) := V_ca
              refine Out.via (g' := (mkF m 606 #[.val (.int p0), .val (.int p1), .val (.int p2), .val (.int p3), .val (.int (1 : Int32)), .val (.int sh), .val (.int c1), .val (.int c2), .val (.ref s12), .unset, .val .null, .unset, .unset, .unset] [(.ref ca), (.ref xs), (.ref xs)])) st11 ?_
              refine Out.via (g' := (mkF m 607 #[.val (.int p0), .val (.int p1), .val (.int p2), .val (.int p3), .val (.int (1 : Int32)), .val (.int sh), .val (.int c1), .val (.int c2), .val (.ref s12), .unset, .val .null, .unset, .unset, .unset] [(.ref ca), (.ref ca), (.ref xs), (.ref xs)])) (fun _ k => XS.dup X11.here hx rfl (hb hby at_606) rfl rfl k) ?_
              refine Out.via (g' := (mkF m 609 #[.val (.int p0), .val (.int p1), .val (.int p2), .val (.int p3), .val (.int (1 : Int32)), .val (.int sh), .val (.int c1), .val (.int c2), .val (.ref s12), .unset, .val .null, .unset, .unset, .unset] [(.int (7 : Int32)), (.ref ca), (.ref ca), (.ref xs), (.ref xs)])) (fun _ k => XS.bipush X11.here hx rfl (hb hby at_607) k) ?_
              refine Out.via (g' := (mkF m 611 #[.val (.int p0), .val (.int p1), .val (.int p2), .val (.int p3), .val (.int (1 : Int32)), .val (.int sh), .val (.int c1), .val (.int c2), .val (.ref s12), .unset, .val .null, .unset, .unset, .unset] [(.int (105 : Int32)), (.int (7 : Int32)), (.ref ca), (.ref ca), (.ref xs), (.ref xs)])) (fun _ k => XS.bipush X11.here hx rfl (hb hby at_609) k) ?_
              obtain ⟨T12, h12, L12, X12, e12, V_ca, N0, O, Kf4, st12⟩ := own_stC X11 hx hZ e11 V_ca (j := (7 : Int32)) ⟨by decide, by decide⟩ 7 rfl (Nat.le_of_ble_eq_true rfl) g_ca N0 O Kf4 (Or.inl (List.mem_of_getElem? (i := 0) rfl)) (g := (mkF m 611 #[.val (.int p0), .val (.int p1), .val (.int p2), .val (.int p3), .val (.int (1 : Int32)), .val (.int sh), .val (.int c1), .val (.int c2), .val (.ref s12), .unset, .val .null, .unset, .unset, .unset] [(.int (105 : Int32)), (.int (7 : Int32)), (.ref ca), (.ref ca), (.ref xs), (.ref xs)])) rfl rfl (hb hby at_611)
              replace V_ca : Arv Z h12 ca kA3 .char (19 : Int32) [(.int (nar .char (112 : Int32))), (.int (nar .char (112 : Int32))), (.int (nar .char (108 : Int32))), (.int (nar .char (105 : Int32))), (.int (nar .char (99 : Int32))), (.int (nar .char (97 : Int32))), (.int (nar .char (116 : Int32))), (.int (nar .char (105 : Int32))), (.int (0 : Int32)), (.int (0 : Int32)), (.int (0 : Int32)), (.int (0 : Int32)), (.int (0 : Int32)), (.int (0 : Int32)), (.int (0 : Int32)), (.int (0 : Int32)), (.int (0 : Int32)), (.int (0 : Int32)), (.int (0 : Int32))] (.int (0 : Int32)) := V_ca
              refine Out.via (g' := (mkF m 612 #[.val (.int p0), .val (.int p1), .val (.int p2), .val (.int p3), .val (.int (1 : Int32)), .val (.int sh), .val (.int c1), .val (.int c2), .val (.ref s12), .unset, .val .null, .unset, .unset, .unset] [(.ref ca), (.ref xs), (.ref xs)])) st12 ?_
              refine Out.via (g' := (mkF m 613 #[.val (.int p0), .val (.int p1), .val (.int p2), .val (.int p3), .val (.int (1 : Int32)), .val (.int sh), .val (.int c1), .val (.int c2), .val (.ref s12), .unset, .val .null, .unset, .unset, .unset] [(.ref ca), (.ref ca), (.ref xs), (.ref xs)])) (fun _ k => XS.dup X12.here hx rfl (hb hby at_612) rfl rfl k) ?_
              refine Out.via (g' := (mkF m 615 #[.val (.int p0), .val (.int p1), .val (.int p2), .val (.int p3), .val (.int (1 : Int32)), .val (.int sh), .val (.int c1), .val (.int c2), .val (.ref s12), .unset, .val .null, .unset, .unset, .unset] [(.int (8 : Int32)), (.ref ca), (.ref ca), (.ref xs), (.ref xs)])) (fun _ k => XS.bipush X12.here hx rfl (hb hby at_613) k) ?_
              refine Out.via (g' := (mkF m 617 #[.val (.int p0), .val (.int p1), .val (.int p2), .val (.int p3), .val (.int (1 : Int32)), .val (.int sh), .val (.int c1), .val (.int c2), .val (.ref s12), .unset, .val .null, .unset, .unset, .unset] [(.int (111 : Int32)), (.int (8 : Int32)), (.ref ca), (.ref ca), (.ref xs), (.ref xs)])) (fun _ k => XS.bipush X12.here hx rfl (hb hby at_615) k) ?_
              obtain ⟨T13, h13, L13, X13, e13, V_ca, N0, O, Kf4, st13⟩ := own_stC X12 hx hZ e12 V_ca (j := (8 : Int32)) ⟨by decide, by decide⟩ 8 rfl (Nat.le_of_ble_eq_true rfl) g_ca N0 O Kf4 (Or.inl (List.mem_of_getElem? (i := 0) rfl)) (g := (mkF m 617 #[.val (.int p0), .val (.int p1), .val (.int p2), .val (.int p3), .val (.int (1 : Int32)), .val (.int sh), .val (.int c1), .val (.int c2), .val (.ref s12), .unset, .val .null, .unset, .unset, .unset] [(.int (111 : Int32)), (.int (8 : Int32)), (.ref ca), (.ref ca), (.ref xs), (.ref xs)])) rfl rfl (hb hby at_617)
              replace V_ca : Arv Z h13 ca kA3 .char (19 : Int32) [(.int (nar .char (112 : Int32))), (.int (nar .char (112 : Int32))), (.int (nar .char (108 : Int32))), (.int (nar .char (105 : Int32))), (.int (nar .char (99 : Int32))), (.int (nar .char (97 : Int32))), (.int (nar .char (116 : Int32))), (.int (nar .char (105 : Int32))), (.int (nar .char (111 : Int32))), (.int (0 : Int32)), (.int (0 : Int32)), (.int (0 : Int32)), (.int (0 : Int32)), (.int (0 : Int32)), (.int (0 : Int32)), (.int (0 : Int32)), (.int (0 : Int32)), (.int (0 : Int32)), (.int (0 : Int32))] (.int (0 : Int32)) := V_ca
              refine Out.via (g' := (mkF m 618 #[.val (.int p0), .val (.int p1), .val (.int p2), .val (.int p3), .val (.int (1 : Int32)), .val (.int sh), .val (.int c1), .val (.int c2), .val (.ref s12), .unset, .val .null, .unset, .unset, .unset] [(.ref ca), (.ref xs), (.ref xs)])) st13 ?_
              refine Out.via (g' := (mkF m 619 #[.val (.int p0), .val (.int p1), .val (.int p2), .val (.int p3), .val (.int (1 : Int32)), .val (.int sh), .val (.int c1), .val (.int c2), .val (.ref s12), .unset, .val .null, .unset, .unset, .unset] [(.ref ca), (.ref ca), (.ref xs), (.ref xs)])) (fun _ k => XS.dup X13.here hx rfl (hb hby at_618) rfl rfl k) ?_
              refine Out.via (g' := (mkF m 621 #[.val (.int p0), .val (.int p1), .val (.int p2), .val (.int p3), .val (.int (1 : Int32)), .val (.int sh), .val (.int c1), .val (.int c2), .val (.ref s12), .unset, .val .null, .unset, .unset, .unset] [(.int (9 : Int32)), (.ref ca), (.ref ca), (.ref xs), (.ref xs)])) (fun _ k => XS.bipush X13.here hx rfl (hb hby at_619) k) ?_
              refine Out.via (g' := (mkF m 623 #[.val (.int p0), .val (.int p1), .val (.int p2), .val (.int p3), .val (.int (1 : Int32)), .val (.int sh), .val (.int c1), .val (.int c2), .val (.ref s12), .unset, .val .null, .unset, .unset, .unset] [(.int (110 : Int32)), (.int (9 : Int32)), (.ref ca), (.ref ca), (.ref xs), (.ref xs)])) (fun _ k => XS.bipush X13.here hx rfl (hb hby at_621) k) ?_
              obtain ⟨T14, h14, L14, X14, e14, V_ca, N0, O, Kf4, st14⟩ := own_stC X13 hx hZ e13 V_ca (j := (9 : Int32)) ⟨by decide, by decide⟩ 9 rfl (Nat.le_of_ble_eq_true rfl) g_ca N0 O Kf4 (Or.inl (List.mem_of_getElem? (i := 0) rfl)) (g := (mkF m 623 #[.val (.int p0), .val (.int p1), .val (.int p2), .val (.int p3), .val (.int (1 : Int32)), .val (.int sh), .val (.int c1), .val (.int c2), .val (.ref s12), .unset, .val .null, .unset, .unset, .unset] [(.int (110 : Int32)), (.int (9 : Int32)), (.ref ca), (.ref ca), (.ref xs), (.ref xs)])) rfl rfl (hb hby at_623)
              replace V_ca : Arv Z h14 ca kA3 .char (19 : Int32) [(.int (nar .char (112 : Int32))), (.int (nar .char (112 : Int32))), (.int (nar .char (108 : Int32))), (.int (nar .char (105 : Int32))), (.int (nar .char (99 : Int32))), (.int (nar .char (97 : Int32))), (.int (nar .char (116 : Int32))), (.int (nar .char (105 : Int32))), (.int (nar .char (111 : Int32))), (.int (nar .char (110 : Int32))), (.int (0 : Int32)), (.int (0 : Int32)), (.int (0 : Int32)), (.int (0 : Int32)), (.int (0 : Int32)), (.int (0 : Int32)), (.int (0 : Int32)), (.int (0 : Int32)), (.int (0 : Int32))] (.int (0 : Int32)) := V_ca
              refine Out.via (g' := (mkF m 624 #[.val (.int p0), .val (.int p1), .val (.int p2), .val (.int p3), .val (.int (1 : Int32)), .val (.int sh), .val (.int c1), .val (.int c2), .val (.ref s12), .unset, .val .null, .unset, .unset, .unset] [(.ref ca), (.ref xs), (.ref xs)])) st14 ?_
              refine Out.via (g' := (mkF m 625 #[.val (.int p0), .val (.int p1), .val (.int p2), .val (.int p3), .val (.int (1 : Int32)), .val (.int sh), .val (.int c1), .val (.int c2), .val (.ref s12), .unset, .val .null, .unset, .unset, .unset] [(.ref ca), (.ref ca), (.ref xs), (.ref xs)])) (fun _ k => XS.dup X14.here hx rfl (hb hby at_624) rfl rfl k) ?_
              refine Out.via (g' := (mkF m 627 #[.val (.int p0), .val (.int p1), .val (.int p2), .val (.int p3), .val (.int (1 : Int32)), .val (.int sh), .val (.int c1), .val (.int c2), .val (.ref s12), .unset, .val .null, .unset, .unset, .unset] [(.int (10 : Int32)), (.ref ca), (.ref ca), (.ref xs), (.ref xs)])) (fun _ k => XS.bipush X14.here hx rfl (hb hby at_625) k) ?_
              refine Out.via (g' := (mkF m 629 #[.val (.int p0), .val (.int p1), .val (.int p2), .val (.int p3), .val (.int (1 : Int32)), .val (.int sh), .val (.int c1), .val (.int c2), .val (.ref s12), .unset, .val .null, .unset, .unset, .unset] [(.int (47 : Int32)), (.int (10 : Int32)), (.ref ca), (.ref ca), (.ref xs), (.ref xs)])) (fun _ k => XS.bipush X14.here hx rfl (hb hby at_627) k) ?_
              obtain ⟨T15, h15, L15, X15, e15, V_ca, N0, O, Kf4, st15⟩ := own_stC X14 hx hZ e14 V_ca (j := (10 : Int32)) ⟨by decide, by decide⟩ 10 rfl (Nat.le_of_ble_eq_true rfl) g_ca N0 O Kf4 (Or.inl (List.mem_of_getElem? (i := 0) rfl)) (g := (mkF m 629 #[.val (.int p0), .val (.int p1), .val (.int p2), .val (.int p3), .val (.int (1 : Int32)), .val (.int sh), .val (.int c1), .val (.int c2), .val (.ref s12), .unset, .val .null, .unset, .unset, .unset] [(.int (47 : Int32)), (.int (10 : Int32)), (.ref ca), (.ref ca), (.ref xs), (.ref xs)])) rfl rfl (hb hby at_629)
              replace V_ca : Arv Z h15 ca kA3 .char (19 : Int32) [(.int (nar .char (112 : Int32))), (.int (nar .char (112 : Int32))), (.int (nar .char (108 : Int32))), (.int (nar .char (105 : Int32))), (.int (nar .char (99 : Int32))), (.int (nar .char (97 : Int32))), (.int (nar .char (116 : Int32))), (.int (nar .char (105 : Int32))), (.int (nar .char (111 : Int32))), (.int (nar .char (110 : Int32))), (.int (nar .char (47 : Int32))), (.int (0 : Int32)), (.int (0 : Int32)), (.int (0 : Int32)), (.int (0 : Int32)), (.int (0 : Int32)), (.int (0 : Int32)), (.int (0 : Int32)), (.int (0 : Int32))] (.int (0 : Int32)) := V_ca
              refine Out.via (g' := (mkF m 630 #[.val (.int p0), .val (.int p1), .val (.int p2), .val (.int p3), .val (.int (1 : Int32)), .val (.int sh), .val (.int c1), .val (.int c2), .val (.ref s12), .unset, .val .null, .unset, .unset, .unset] [(.ref ca), (.ref xs), (.ref xs)])) st15 ?_
              refine Out.via (g' := (mkF m 631 #[.val (.int p0), .val (.int p1), .val (.int p2), .val (.int p3), .val (.int (1 : Int32)), .val (.int sh), .val (.int c1), .val (.int c2), .val (.ref s12), .unset, .val .null, .unset, .unset, .unset] [(.ref ca), (.ref ca), (.ref xs), (.ref xs)])) (fun _ k => XS.dup X15.here hx rfl (hb hby at_630) rfl rfl k) ?_
              refine Out.via (g' := (mkF m 633 #[.val (.int p0), .val (.int p1), .val (.int p2), .val (.int p3), .val (.int (1 : Int32)), .val (.int sh), .val (.int c1), .val (.int c2), .val (.ref s12), .unset, .val .null, .unset, .unset, .unset] [(.int (11 : Int32)), (.ref ca), (.ref ca), (.ref xs), (.ref xs)])) (fun _ k => XS.bipush X15.here hx rfl (hb hby at_631) k) ?_
              refine Out.via (g' := (mkF m 635 #[.val (.int p0), .val (.int p1), .val (.int p2), .val (.int p3), .val (.int (1 : Int32)), .val (.int sh), .val (.int c1), .val (.int c2), .val (.ref s12), .unset, .val .null, .unset, .unset, .unset] [(.int (115 : Int32)), (.int (11 : Int32)), (.ref ca), (.ref ca), (.ref xs), (.ref xs)])) (fun _ k => XS.bipush X15.here hx rfl (hb hby at_633) k) ?_
              obtain ⟨T16, h16, L16, X16, e16, V_ca, N0, O, Kf4, st16⟩ := own_stC X15 hx hZ e15 V_ca (j := (11 : Int32)) ⟨by decide, by decide⟩ 11 rfl (Nat.le_of_ble_eq_true rfl) g_ca N0 O Kf4 (Or.inl (List.mem_of_getElem? (i := 0) rfl)) (g := (mkF m 635 #[.val (.int p0), .val (.int p1), .val (.int p2), .val (.int p3), .val (.int (1 : Int32)), .val (.int sh), .val (.int c1), .val (.int c2), .val (.ref s12), .unset, .val .null, .unset, .unset, .unset] [(.int (115 : Int32)), (.int (11 : Int32)), (.ref ca), (.ref ca), (.ref xs), (.ref xs)])) rfl rfl (hb hby at_635)
              replace V_ca : Arv Z h16 ca kA3 .char (19 : Int32) [(.int (nar .char (112 : Int32))), (.int (nar .char (112 : Int32))), (.int (nar .char (108 : Int32))), (.int (nar .char (105 : Int32))), (.int (nar .char (99 : Int32))), (.int (nar .char (97 : Int32))), (.int (nar .char (116 : Int32))), (.int (nar .char (105 : Int32))), (.int (nar .char (111 : Int32))), (.int (nar .char (110 : Int32))), (.int (nar .char (47 : Int32))), (.int (nar .char (115 : Int32))), (.int (0 : Int32)), (.int (0 : Int32)), (.int (0 : Int32)), (.int (0 : Int32)), (.int (0 : Int32)), (.int (0 : Int32)), (.int (0 : Int32))] (.int (0 : Int32)) := V_ca
              refine Out.via (g' := (mkF m 636 #[.val (.int p0), .val (.int p1), .val (.int p2), .val (.int p3), .val (.int (1 : Int32)), .val (.int sh), .val (.int c1), .val (.int c2), .val (.ref s12), .unset, .val .null, .unset, .unset, .unset] [(.ref ca), (.ref xs), (.ref xs)])) st16 ?_
              refine Out.via (g' := (mkF m 637 #[.val (.int p0), .val (.int p1), .val (.int p2), .val (.int p3), .val (.int (1 : Int32)), .val (.int sh), .val (.int c1), .val (.int c2), .val (.ref s12), .unset, .val .null, .unset, .unset, .unset] [(.ref ca), (.ref ca), (.ref xs), (.ref xs)])) (fun _ k => XS.dup X16.here hx rfl (hb hby at_636) rfl rfl k) ?_
              refine Out.via (g' := (mkF m 639 #[.val (.int p0), .val (.int p1), .val (.int p2), .val (.int p3), .val (.int (1 : Int32)), .val (.int sh), .val (.int c1), .val (.int c2), .val (.ref s12), .unset, .val .null, .unset, .unset, .unset] [(.int (12 : Int32)), (.ref ca), (.ref ca), (.ref xs), (.ref xs)])) (fun _ k => XS.bipush X16.here hx rfl (hb hby at_637) k) ?_
              refine Out.via (g' := (mkF m 641 #[.val (.int p0), .val (.int p1), .val (.int p2), .val (.int p3), .val (.int (1 : Int32)), .val (.int sh), .val (.int c1), .val (.int c2), .val (.ref s12), .unset, .val .null, .unset, .unset, .unset] [(.int (111 : Int32)), (.int (12 : Int32)), (.ref ca), (.ref ca), (.ref xs), (.ref xs)])) (fun _ k => XS.bipush X16.here hx rfl (hb hby at_639) k) ?_
              obtain ⟨T17, h17, L17, X17, e17, V_ca, N0, O, Kf4, st17⟩ := own_stC X16 hx hZ e16 V_ca (j := (12 : Int32)) ⟨by decide, by decide⟩ 12 rfl (Nat.le_of_ble_eq_true rfl) g_ca N0 O Kf4 (Or.inl (List.mem_of_getElem? (i := 0) rfl)) (g := (mkF m 641 #[.val (.int p0), .val (.int p1), .val (.int p2), .val (.int p3), .val (.int (1 : Int32)), .val (.int sh), .val (.int c1), .val (.int c2), .val (.ref s12), .unset, .val .null, .unset, .unset, .unset] [(.int (111 : Int32)), (.int (12 : Int32)), (.ref ca), (.ref ca), (.ref xs), (.ref xs)])) rfl rfl (hb hby at_641)
              replace V_ca : Arv Z h17 ca kA3 .char (19 : Int32) [(.int (nar .char (112 : Int32))), (.int (nar .char (112 : Int32))), (.int (nar .char (108 : Int32))), (.int (nar .char (105 : Int32))), (.int (nar .char (99 : Int32))), (.int (nar .char (97 : Int32))), (.int (nar .char (116 : Int32))), (.int (nar .char (105 : Int32))), (.int (nar .char (111 : Int32))), (.int (nar .char (110 : Int32))), (.int (nar .char (47 : Int32))), (.int (nar .char (115 : Int32))), (.int (nar .char (111 : Int32))), (.int (0 : Int32)), (.int (0 : Int32)), (.int (0 : Int32)), (.int (0 : Int32)), (.int (0 : Int32)), (.int (0 : Int32))] (.int (0 : Int32)) := V_ca
              refine Out.via (g' := (mkF m 642 #[.val (.int p0), .val (.int p1), .val (.int p2), .val (.int p3), .val (.int (1 : Int32)), .val (.int sh), .val (.int c1), .val (.int c2), .val (.ref s12), .unset, .val .null, .unset, .unset, .unset] [(.ref ca), (.ref xs), (.ref xs)])) st17 ?_
              refine Out.via (g' := (mkF m 643 #[.val (.int p0), .val (.int p1), .val (.int p2), .val (.int p3), .val (.int (1 : Int32)), .val (.int sh), .val (.int c1), .val (.int c2), .val (.ref s12), .unset, .val .null, .unset, .unset, .unset] [(.ref ca), (.ref ca), (.ref xs), (.ref xs)])) (fun _ k => XS.dup X17.here hx rfl (hb hby at_642) rfl rfl k) ?_
              refine Out.via (g' := (mkF m 645 #[.val (.int p0), .val (.int p1), .val (.int p2), .val (.int p3), .val (.int (1 : Int32)), .val (.int sh), .val (.int c1), .val (.int c2), .val (.ref s12), .unset, .val .null, .unset, .unset, .unset] [(.int (13 : Int32)), (.ref ca), (.ref ca), (.ref xs), (.ref xs)])) (fun _ k => XS.bipush X17.here hx rfl (hb hby at_643) k) ?_
              refine Out.via (g' := (mkF m 647 #[.val (.int p0), .val (.int p1), .val (.int p2), .val (.int p3), .val (.int (1 : Int32)), .val (.int sh), .val (.int c1), .val (.int c2), .val (.ref s12), .unset, .val .null, .unset, .unset, .unset] [(.int (97 : Int32)), (.int (13 : Int32)), (.ref ca), (.ref ca), (.ref xs), (.ref xs)])) (fun _ k => XS.bipush X17.here hx rfl (hb hby at_645) k) ?_
              obtain ⟨T18, h18, L18, X18, e18, V_ca, N0, O, Kf4, st18⟩ := own_stC X17 hx hZ e17 V_ca (j := (13 : Int32)) ⟨by decide, by decide⟩ 13 rfl (Nat.le_of_ble_eq_true rfl) g_ca N0 O Kf4 (Or.inl (List.mem_of_getElem? (i := 0) rfl)) (g := (mkF m 647 #[.val (.int p0), .val (.int p1), .val (.int p2), .val (.int p3), .val (.int (1 : Int32)), .val (.int sh), .val (.int c1), .val (.int c2), .val (.ref s12), .unset, .val .null, .unset, .unset, .unset] [(.int (97 : Int32)), (.int (13 : Int32)), (.ref ca), (.ref ca), (.ref xs), (.ref xs)])) rfl rfl (hb hby at_647)
              replace V_ca : Arv Z h18 ca kA3 .char (19 : Int32) [(.int (nar .char (112 : Int32))), (.int (nar .char (112 : Int32))), (.int (nar .char (108 : Int32))), (.int (nar .char (105 : Int32))), (.int (nar .char (99 : Int32))), (.int (nar .char (97 : Int32))), (.int (nar .char (116 : Int32))), (.int (nar .char (105 : Int32))), (.int (nar .char (111 : Int32))), (.int (nar .char (110 : Int32))), (.int (nar .char (47 : Int32))), (.int (nar .char (115 : Int32))), (.int (nar .char (111 : Int32))), (.int (nar .char (97 : Int32))), (.int (0 : Int32)), (.int (0 : Int32)), (.int (0 : Int32)), (.int (0 : Int32)), (.int (0 : Int32))] (.int (0 : Int32)) := V_ca
              refine Out.via (g' := (mkF m 648 #[.val (.int p0), .val (.int p1), .val (.int p2), .val (.int p3), .val (.int (1 : Int32)), .val (.int sh), .val (.int c1), .val (.int c2), .val (.ref s12), .unset, .val .null, .unset, .unset, .unset] [(.ref ca), (.ref xs), (.ref xs)])) st18 ?_
              refine Out.via (g' := (mkF m 649 #[.val (.int p0), .val (.int p1), .val (.int p2), .val (.int p3), .val (.int (1 : Int32)), .val (.int sh), .val (.int c1), .val (.int c2), .val (.ref s12), .unset, .val .null, .unset, .unset, .unset] [(.ref ca), (.ref ca), (.ref xs), (.ref xs)])) (fun _ k => XS.dup X18.here hx rfl (hb hby at_648) rfl rfl k) ?_
              refine Out.via (g' := (mkF m 651 #[.val (.int p0), .val (.int p1), .val (.int p2), .val (.int p3), .val (.int (1 : Int32)), .val (.int sh), .val (.int c1), .val (.int c2), .val (.ref s12), .unset, .val .null, .unset, .unset, .unset] [(.int (14 : Int32)), (.ref ca), (.ref ca), (.ref xs), (.ref xs)])) (fun _ k => XS.bipush X18.here hx rfl (hb hby at_649) k) ?_
              refine Out.via (g' := (mkF m 653 #[.val (.int p0), .val (.int p1), .val (.int p2), .val (.int p3), .val (.int (1 : Int32)), .val (.int sh), .val (.int c1), .val (.int c2), .val (.ref s12), .unset, .val .null, .unset, .unset, .unset] [(.int (112 : Int32)), (.int (14 : Int32)), (.ref ca), (.ref ca), (.ref xs), (.ref xs)])) (fun _ k => XS.bipush X18.here hx rfl (hb hby at_651) k) ?_
              obtain ⟨T19, h19, L19, X19, e19, V_ca, N0, O, Kf4, st19⟩ := own_stC X18 hx hZ e18 V_ca (j := (14 : Int32)) ⟨by decide, by decide⟩ 14 rfl (Nat.le_of_ble_eq_true rfl) g_ca N0 O Kf4 (Or.inl (List.mem_of_getElem? (i := 0) rfl)) (g := (mkF m 653 #[.val (.int p0), .val (.int p1), .val (.int p2), .val (.int p3), .val (.int (1 : Int32)), .val (.int sh), .val (.int c1), .val (.int c2), .val (.ref s12), .unset, .val .null, .unset, .unset, .unset] [(.int (112 : Int32)), (.int (14 : Int32)), (.ref ca), (.ref ca), (.ref xs), (.ref xs)])) rfl rfl (hb hby at_653)
              replace V_ca : Arv Z h19 ca kA3 .char (19 : Int32) [(.int (nar .char (112 : Int32))), (.int (nar .char (112 : Int32))), (.int (nar .char (108 : Int32))), (.int (nar .char (105 : Int32))), (.int (nar .char (99 : Int32))), (.int (nar .char (97 : Int32))), (.int (nar .char (116 : Int32))), (.int (nar .char (105 : Int32))), (.int (nar .char (111 : Int32))), (.int (nar .char (110 : Int32))), (.int (nar .char (47 : Int32))), (.int (nar .char (115 : Int32))), (.int (nar .char (111 : Int32))), (.int (nar .char (97 : Int32))), (.int (nar .char (112 : Int32))), (.int (0 : Int32)), (.int (0 : Int32)), (.int (0 : Int32)), (.int (0 : Int32))] (.int (0 : Int32)) := V_ca
              refine Out.via (g' := (mkF m 654 #[.val (.int p0), .val (.int p1), .val (.int p2), .val (.int p3), .val (.int (1 : Int32)), .val (.int sh), .val (.int c1), .val (.int c2), .val (.ref s12), .unset, .val .null, .unset, .unset, .unset] [(.ref ca), (.ref xs), (.ref xs)])) st19 ?_
              refine Out.via (g' := (mkF m 655 #[.val (.int p0), .val (.int p1), .val (.int p2), .val (.int p3), .val (.int (1 : Int32)), .val (.int sh), .val (.int c1), .val (.int c2), .val (.ref s12), .unset, .val .null, .unset, .unset, .unset] [(.ref ca), (.ref ca), (.ref xs), (.ref xs)])) (fun _ k => XS.dup X19.here hx rfl (hb hby at_654) rfl rfl k) ?_
              refine Out.via (g' := (mkF m 657 #[.val (.int p0), .val (.int p1), .val (.int p2), .val (.int p3), .val (.int (1 : Int32)), .val (.int sh), .val (.int c1), .val (.int c2), .val (.ref s12), .unset, .val .null, .unset, .unset, .unset] [(.int (15 : Int32)), (.ref ca), (.ref ca), (.ref xs), (.ref xs)])) (fun _ k => XS.bipush X19.here hx rfl (hb hby at_655) k) ?_
              refine Out.via (g' := (mkF m 659 #[.val (.int p0), .val (.int p1), .val (.int p2), .val (.int p3), .val (.int (1 : Int32)), .val (.int sh), .val (.int c1), .val (.int c2), .val (.ref s12), .unset, .val .null, .unset, .unset, .unset] [(.int (43 : Int32)), (.int (15 : Int32)), (.ref ca), (.ref ca), (.ref xs), (.ref xs)])) (fun _ k => XS.bipush X19.here hx rfl (hb hby at_657) k) ?_
              obtain ⟨T20, h20, L20, X20, e20, V_ca, N0, O, Kf4, st20⟩ := own_stC X19 hx hZ e19 V_ca (j := (15 : Int32)) ⟨by decide, by decide⟩ 15 rfl (Nat.le_of_ble_eq_true rfl) g_ca N0 O Kf4 (Or.inl (List.mem_of_getElem? (i := 0) rfl)) (g := (mkF m 659 #[.val (.int p0), .val (.int p1), .val (.int p2), .val (.int p3), .val (.int (1 : Int32)), .val (.int sh), .val (.int c1), .val (.int c2), .val (.ref s12), .unset, .val .null, .unset, .unset, .unset] [(.int (43 : Int32)), (.int (15 : Int32)), (.ref ca), (.ref ca), (.ref xs), (.ref xs)])) rfl rfl (hb hby at_659)
              replace V_ca : Arv Z h20 ca kA3 .char (19 : Int32) [(.int (nar .char (112 : Int32))), (.int (nar .char (112 : Int32))), (.int (nar .char (108 : Int32))), (.int (nar .char (105 : Int32))), (.int (nar .char (99 : Int32))), (.int (nar .char (97 : Int32))), (.int (nar .char (116 : Int32))), (.int (nar .char (105 : Int32))), (.int (nar .char (111 : Int32))), (.int (nar .char (110 : Int32))), (.int (nar .char (47 : Int32))), (.int (nar .char (115 : Int32))), (.int (nar .char (111 : Int32))), (.int (nar .char (97 : Int32))), (.int (nar .char (112 : Int32))), (.int (nar .char (43 : Int32))), (.int (0 : Int32)), (.int (0 : Int32)), (.int (0 : Int32))] (.int (0 : Int32)) := V_ca
              refine Out.via (g' := (mkF m 660 #[.val (.int p0), .val (.int p1), .val (.int p2), .val (.int p3), .val (.int (1 : Int32)), .val (.int sh), .val (.int c1), .val (.int c2), .val (.ref s12), .unset, .val .null, .unset, .unset, .unset] [(.ref ca), (.ref xs), (.ref xs)])) st20 ?_
              refine Out.via (g' := (mkF m 661 #[.val (.int p0), .val (.int p1), .val (.int p2), .val (.int p3), .val (.int (1 : Int32)), .val (.int sh), .val (.int c1), .val (.int c2), .val (.ref s12), .unset, .val .null, .unset, .unset, .unset] [(.ref ca), (.ref ca), (.ref xs), (.ref xs)])) (fun _ k => XS.dup X20.here hx rfl (hb hby at_660) rfl rfl k) ?_
              refine Out.via (g' := (mkF m 663 #[.val (.int p0), .val (.int p1), .val (.int p2), .val (.int p3), .val (.int (1 : Int32)), .val (.int sh), .val (.int c1), .val (.int c2), .val (.ref s12), .unset, .val .null, .unset, .unset, .unset] [(.int (16 : Int32)), (.ref ca), (.ref ca), (.ref xs), (.ref xs)])) (fun _ k => XS.bipush X20.here hx rfl (hb hby at_661) k) ?_
              refine Out.via (g' := (mkF m 665 #[.val (.int p0), .val (.int p1), .val (.int p2), .val (.int p3), .val (.int (1 : Int32)), .val (.int sh), .val (.int c1), .val (.int c2), .val (.ref s12), .unset, .val .null, .unset, .unset, .unset] [(.int (120 : Int32)), (.int (16 : Int32)), (.ref ca), (.ref ca), (.ref xs), (.ref xs)])) (fun _ k => XS.bipush X20.here hx rfl (hb hby at_663) k) ?_
              obtain ⟨T21, h21, L21, X21, e21, V_ca, N0, O, Kf4, st21⟩ := own_stC X20 hx hZ e20 V_ca (j := (16 : Int32)) ⟨by decide, by decide⟩ 16 rfl (Nat.le_of_ble_eq_true rfl) g_ca N0 O Kf4 (Or.inl (List.mem_of_getElem? (i := 0) rfl)) (g := (mkF m 665 #[.val (.int p0), .val (.int p1), .val (.int p2), .val (.int p3), .val (.int (1 : Int32)), .val (.int sh), .val (.int c1), .val (.int c2), .val (.ref s12), .unset, .val .null, .unset, .unset, .unset] [(.int (120 : Int32)), (.int (16 : Int32)), (.ref ca), (.ref ca), (.ref xs), (.ref xs)])) rfl rfl (hb hby at_665)
              replace V_ca : Arv Z h21 ca kA3 .char (19 : Int32) [(.int (nar .char (112 : Int32))), (.int (nar .char (112 : Int32))), (.int (nar .char (108 : Int32))), (.int (nar .char (105 : Int32))), (.int (nar .char (99 : Int32))), (.int (nar .char (97 : Int32))), (.int (nar .char (116 : Int32))), (.int (nar .char (105 : Int32))), (.int (nar .char (111 : Int32))), (.int (nar .char (110 : Int32))), (.int (nar .char (47 : Int32))), (.int (nar .char (115 : Int32))), (.int (nar .char (111 : Int32))), (.int (nar .char (97 : Int32))), (.int (nar .char (112 : Int32))), (.int (nar .char (43 : Int32))), (.int (nar .char (120 : Int32))), (.int (0 : Int32)), (.int (0 : Int32))] (.int (0 : Int32)) := V_ca
              refine Out.via (g' := (mkF m 666 #[.val (.int p0), .val (.int p1), .val (.int p2), .val (.int p3), .val (.int (1 : Int32)), .val (.int sh), .val (.int c1), .val (.int c2), .val (.ref s12), .unset, .val .null, .unset, .unset, .unset] [(.ref ca), (.ref xs), (.ref xs)])) st21 ?_
              refine Out.via (g' := (mkF m 667 #[.val (.int p0), .val (.int p1), .val (.int p2), .val (.int p3), .val (.int (1 : Int32)), .val (.int sh), .val (.int c1), .val (.int c2), .val (.ref s12), .unset, .val .null, .unset, .unset, .unset] [(.ref ca), (.ref ca), (.ref xs), (.ref xs)])) (fun _ k => XS.dup X21.here hx rfl (hb hby at_666) rfl rfl k) ?_
              refine Out.via (g' := (mkF m 669 #[.val (.int p0), .val (.int p1), .val (.int p2), .val (.int p3), .val (.int (1 : Int32)), .val (.int sh), .val (.int c1), .val (.int c2), .val (.ref s12), .unset, .val .null, .unset, .unset, .unset] [(.int (17 : Int32)), (.ref ca), (.ref ca), (.ref xs), (.ref xs)])) (fun _ k => XS.bipush X21.here hx rfl (hb hby at_667) k) ?_
              refine Out.via (g' := (mkF m 671 #[.val (.int p0), .val (.int p1), .val (.int p2), .val (.int p3), .val (.int (1 : Int32)), .val (.int sh), .val (.int c1), .val (.int c2), .val (.ref s12), .unset, .val .null, .unset, .unset, .unset] [(.int (109 : Int32)), (.int (17 : Int32)), (.ref ca), (.ref ca), (.ref xs), (.ref xs)])) (fun _ k => XS.bipush X21.here hx rfl (hb hby at_669) k) ?_
              obtain ⟨T22, h22, L22, X22, e22, V_ca, N0, O, Kf4, st22⟩ := own_stC X21 hx hZ e21 V_ca (j := (17 : Int32)) ⟨by decide, by decide⟩ 17 rfl (Nat.le_of_ble_eq_true rfl) g_ca N0 O Kf4 (Or.inl (List.mem_of_getElem? (i := 0) rfl)) (g := (mkF m 671 #[.val (.int p0), .val (.int p1), .val (.int p2), .val (.int p3), .val (.int (1 : Int32)), .val (.int sh), .val (.int c1), .val (.int c2), .val (.ref s12), .unset, .val .null, .unset, .unset, .unset] [(.int (109 : Int32)), (.int (17 : Int32)), (.ref ca), (.ref ca), (.ref xs), (.ref xs)])) rfl rfl (hb hby at_671)
              replace V_ca : Arv Z h22 ca kA3 .char (19 : Int32) [(.int (nar .char (112 : Int32))), (.int (nar .char (112 : Int32))), (.int (nar .char (108 : Int32))), (.int (nar .char (105 : Int32))), (.int (nar .char (99 : Int32))), (.int (nar .char (97 : Int32))), (.int (nar .char (116 : Int32))), (.int (nar .char (105 : Int32))), (.int (nar .char (111 : Int32))), (.int (nar .char (110 : Int32))), (.int (nar .char (47 : Int32))), (.int (nar .char (115 : Int32))), (.int (nar .char (111 : Int32))), (.int (nar .char (97 : Int32))), (.int (nar .char (112 : Int32))), (.int (nar .char (43 : Int32))), (.int (nar .char (120 : Int32))), (.int (nar .char (109 : Int32))), (.int (0 : Int32))] (.int (0 : Int32)) := V_ca
              refine Out.via (g' := (mkF m 672 #[.val (.int p0), .val (.int p1), .val (.int p2), .val (.int p3), .val (.int (1 : Int32)), .val (.int sh), .val (.int c1), .val (.int c2), .val (.ref s12), .unset, .val .null, .unset, .unset, .unset] [(.ref ca), (.ref xs), (.ref xs)])) st22 ?_
              refine Out.via (g' := (mkF m 673 #[.val (.int p0), .val (.int p1), .val (.int p2), .val (.int p3), .val (.int (1 : Int32)), .val (.int sh), .val (.int c1), .val (.int c2), .val (.ref s12), .unset, .val .null, .unset, .unset, .unset] [(.ref ca), (.ref ca), (.ref xs), (.ref xs)])) (fun _ k => XS.dup X22.here hx rfl (hb hby at_672) rfl rfl k) ?_
              refine Out.via (g' := (mkF m 675 #[.val (.int p0), .val (.int p1), .val (.int p2), .val (.int p3), .val (.int (1 : Int32)), .val (.int sh), .val (.int c1), .val (.int c2), .val (.ref s12), .unset, .val .null, .unset, .unset, .unset] [(.int (18 : Int32)), (.ref ca), (.ref ca), (.ref xs), (.ref xs)])) (fun _ k => XS.bipush X22.here hx rfl (hb hby at_673) k) ?_
              refine Out.via (g' := (mkF m 677 #[.val (.int p0), .val (.int p1), .val (.int p2), .val (.int p3), .val (.int (1 : Int32)), .val (.int sh), .val (.int c1), .val (.int c2), .val (.ref s12), .unset, .val .null, .unset, .unset, .unset] [(.int (108 : Int32)), (.int (18 : Int32)), (.ref ca), (.ref ca), (.ref xs), (.ref xs)])) (fun _ k => XS.bipush X22.here hx rfl (hb hby at_675) k) ?_
              obtain ⟨T23, h23, L23, X23, e23, V_ca, N0, O, Kf4, st23⟩ := own_stC X22 hx hZ e22 V_ca (j := (18 : Int32)) ⟨by decide, by decide⟩ 18 rfl (Nat.le_of_ble_eq_true rfl) g_ca N0 O Kf4 (Or.inl (List.mem_of_getElem? (i := 0) rfl)) (g := (mkF m 677 #[.val (.int p0), .val (.int p1), .val (.int p2), .val (.int p3), .val (.int (1 : Int32)), .val (.int sh), .val (.int c1), .val (.int c2), .val (.ref s12), .unset, .val .null, .unset, .unset, .unset] [(.int (108 : Int32)), (.int (18 : Int32)), (.ref ca), (.ref ca), (.ref xs), (.ref xs)])) rfl rfl (hb hby at_677)
              replace V_ca : Arv Z h23 ca kA3 .char (19 : Int32) [(.int (nar .char (112 : Int32))), (.int (nar .char (112 : Int32))), (.int (nar .char (108 : Int32))), (.int (nar .char (105 : Int32))), (.int (nar .char (99 : Int32))), (.int (nar .char (97 : Int32))), (.int (nar .char (116 : Int32))), (.int (nar .char (105 : Int32))), (.int (nar .char (111 : Int32))), (.int (nar .char (110 : Int32))), (.int (nar .char (47 : Int32))), (.int (nar .char (115 : Int32))), (.int (nar .char (111 : Int32))), (.int (nar .char (97 : Int32))), (.int (nar .char (112 : Int32))), (.int (nar .char (43 : Int32))), (.int (nar .char (120 : Int32))), (.int (nar .char (109 : Int32))), (.int (nar .char (108 : Int32)))] (.int (0 : Int32)) := V_ca
              refine Out.via (g' := (mkF m 678 #[.val (.int p0), .val (.int p1), .val (.int p2), .val (.int p3), .val (.int (1 : Int32)), .val (.int sh), .val (.int c1), .val (.int c2), .val (.ref s12), .unset, .val .null, .unset, .unset, .unset] [(.ref ca), (.ref xs), (.ref xs)])) st23 ?_
              replace V_ca : Arv Z h23 ca kA3 .char (19 : Int32) [(.int (nar .char (112 : Int32))), (.int (nar .char (112 : Int32))), (.int (nar .char (108 : Int32))), (.int (nar .char (105 : Int32))), (.int (nar .char (99 : Int32))), (.int (nar .char (97 : Int32))), (.int (nar .char (116 : Int32))), (.int (nar .char (105 : Int32))), (.int (nar .char (111 : Int32))), (.int (nar .char (110 : Int32))), (.int (nar .char (47 : Int32))), (.int (nar .char (115 : Int32))), (.int (nar .char (111 : Int32))), (.int (nar .char (97 : Int32))), (.int (nar .char (112 : Int32))), (.int (nar .char (43 : Int32))), (.int (nar .char (120 : Int32))), (.int (nar .char (109 : Int32))), (.int (nar .char (108 : Int32)))] (.int (0 : Int32)) := V_ca
              replace hk : _ ≤ h23.size := Nat.le_trans hk Kf4.1
              replace F_value_xs := F_value_xs.keep Kf4 (ninS ne_xs_ca nin0)
              replace F_coder_xs := F_coder_xs.keep Kf4 (ninS ne_xs_ca nin0)
              replace A2 := A2.keep Kf4
              have hp : ∀ c ∈ ([(nar .char (112 : Int32)), (nar .char (112 : Int32)), (nar .char (108 : Int32)), (nar .char (105 : Int32)), (nar .char (99 : Int32)), (nar .char (97 : Int32)), (nar .char (116 : Int32)), (nar .char (105 : Int32)), (nar .char (111 : Int32)), (nar .char (110 : Int32)), (nar .char (47 : Int32)), (nar .char (115 : Int32)), (nar .char (111 : Int32)), (nar .char (97 : Int32)), (nar .char (112 : Int32)), (nar .char (43 : Int32)), (nar .char (120 : Int32)), (nar .char (109 : Int32)), (nar .char (108 : Int32))] : List Int32), own_lat c := own_allS (by unfold own_lat; decide) (own_allS (by unfold own_lat; decide) (own_allS (by unfold own_lat; decide) (own_allS (by unfold own_lat; decide) (own_allS (by unfold own_lat; decide) (own_allS (by unfold own_lat; decide) (own_allS (by unfold own_lat; decide) (own_allS (by unfold own_lat; decide) (own_allS (by unfold own_lat; decide) (own_allS (by unfold own_lat; decide) (own_allS (by unfold own_lat; decide) (own_allS (by unfold own_lat; decide) (own_allS (by unfold own_lat; decide) (own_allS (by unfold own_lat; decide) (own_allS (by unfold own_lat; decide) (own_allS (by unfold own_lat; decide) (own_allS (by unfold own_lat; decide) (own_allS (by unfold own_lat; decide) (own_allS (by unfold own_lat; decide) (own_all0)))))))))))))))))))
              obtain ⟨_, _, ⟨T24, L24, kc24, ks24⟩, -, X24, ⟨Lc24, hQ24, l24, y24, z24⟩, st24⟩ := X23.specialBack hx (y := (⟨"java/lang/String", "<init>", "([C)V"⟩ : MethodName)) rfl hown (mvT hZ (hw _ (List.mem_of_getElem? (i := 50) rfl))) (mvT hZ (hw _ (List.mem_of_getElem? (i := 51) rfl))) (mvT hZ (hw _ (List.mem_of_getElem? (i := 52) rfl))) (by decide) (StrChars.Road.backV (W := 1) hZ hws (kI := 4) (hw _ (List.mem_of_getElem? (i := 5) rfl)) (cs := ([(nar .char (112 : Int32)), (nar .char (112 : Int32)), (nar .char (108 : Int32)), (nar .char (105 : Int32)), (nar .char (99 : Int32)), (nar .char (97 : Int32)), (nar .char (116 : Int32)), (nar .char (105 : Int32)), (nar .char (111 : Int32)), (nar .char (110 : Int32)), (nar .char (47 : Int32)), (nar .char (115 : Int32)), (nar .char (111 : Int32)), (nar .char (97 : Int32)), (nar .char (112 : Int32)), (nar .char (43 : Int32)), (nar .char (120 : Int32)), (nar .char (109 : Int32)), (nar .char (108 : Int32))] : List Int32)) (bs := ([(nar .char (112 : Int32)), (nar .char (112 : Int32)), (nar .char (108 : Int32)), (nar .char (105 : Int32)), (nar .char (99 : Int32)), (nar .char (97 : Int32)), (nar .char (116 : Int32)), (nar .char (105 : Int32)), (nar .char (111 : Int32)), (nar .char (110 : Int32)), (nar .char (47 : Int32)), (nar .char (115 : Int32)), (nar .char (111 : Int32)), (nar .char (97 : Int32)), (nar .char (112 : Int32)), (nar .char (43 : Int32)), (nar .char (120 : Int32)), (nar .char (109 : Int32)), (nar .char (108 : Int32))] : List Int32).map (fun c => c.toInt8.toInt32)) (n := 19) g_xs (own_z0 O) A2 F_value_xs F_coder_xs V_ca (O2.ext O.2) P5 rfl rfl (by decide) (by decide) hp rfl (by decide) (by decide)) (g := (mkF m 678 #[.val (.int p0), .val (.int p1), .val (.int p2), .val (.int p3), .val (.int (1 : Int32)), .val (.int sh), .val (.int c1), .val (.int c2), .val (.ref s12), .unset, .val .null, .unset, .unset, .unset] [(.ref ca), (.ref xs), (.ref xs)])) rfl (by rw [hml]; rfl) (Steps.refl _) (a := xs) (argsL := [(.ref ca)]) (rest := [(.ref xs)]) (lenOf own_pd11 rfl) rfl (by show 2 * 0 + _ ≤ _; exact Nat.le_of_eq rfl) (hb hby at_678) (fun _ _ => ⟨rfl, e23, (by decide : 2 + 1 ≤ _), (by decide : 23 + 19 ≤ _)⟩)
              dsimp only [Pt.U, Pt.locs, Pt.cells, Pt.slots] at X24 l24 y24 z24 st24 hQ24
              subst l24 y24 z24
              obtain ⟨rfl, Nq24, Kq24, Eq, Cq, tb, kb, ut, vt, wt, Vq, Aq⟩ := hQ24
              replace N0 := Fr.app N0 Nq24
              replace hk : _ ≤ T24.heap.size := Nat.le_trans hk Kq24.1
              replace A2 := A2.keep Kq24
              replace V_ca := V_ca.keep Kq24 (ninS (Ne.symm ne_xs_ca) nin0)
              replace O := O.keep Kq24 (allS g_xs all0)
              refine Out.to (g' := (mkF m 681 #[.val (.int p0), .val (.int p1), .val (.int p2), .val (.int p3), .val (.int (1 : Int32)), .val (.int sh), .val (.int c1), .val (.int c2), .val (.ref s12), .unset, .val .null, .unset, .unset, .unset] [(.ref xs)])) st24 ?_
              have Sx : own_Str Z T24.heap xs ([(nar .char (112 : Int32)), (nar .char (112 : Int32)), (nar .char (108 : Int32)), (nar .char (105 : Int32)), (nar .char (99 : Int32)), (nar .char (97 : Int32)), (nar .char (116 : Int32)), (nar .char (105 : Int32)), (nar .char (111 : Int32)), (nar .char (110 : Int32)), (nar .char (47 : Int32)), (nar .char (115 : Int32)), (nar .char (111 : Int32)), (nar .char (97 : Int32)), (nar .char (112 : Int32)), (nar .char (43 : Int32)), (nar .char (120 : Int32)), (nar .char (109 : Int32)), (nar .char (108 : Int32))] : List Int32) := ⟨hp, Eq, Cq, tb, kb, Vq, Aq⟩
              refine Out.via (g' := (mkF m 731 #[.val (.int p0), .val (.int p1), .val (.int p2), .val (.int p3), .val (.int (1 : Int32)), .val (.int sh), .val (.int c1), .val (.int c2), .val (.ref s12), .unset, .val .null, .unset, .unset, .unset] [(.ref xs)])) (fun _ k => XS.goto X24.here hx rfl (pc0 := 681) (pc' := 731) rfl (hb hby at_681) (by decide) (by decide) k) ?_
              refine Out.via (g' := (mkF m 733 #[.val (.int p0), .val (.int p1), .val (.int p2), .val (.int p3), .val (.int (1 : Int32)), .val (.int sh), .val (.int c1), .val (.int c2), .val (.ref s12), .val (.ref xs), .val .null, .unset, .unset, .unset] [])) (fun _ k => XS.astore X24.here hx rfl (hb hby at_731) rfl rfl (l' := #[.val (.int p0), .val (.int p1), .val (.int p2), .val (.int p3), .val (.int (1 : Int32)), .val (.int sh), .val (.int c1), .val (.int c2), .val (.ref s12), .val (.ref xs), .val .null, .unset, .unset, .unset]) rfl k) ?_
              refine Out.via (g' := (mkF m 995 #[.val (.int p0), .val (.int p1), .val (.int p2), .val (.int p3), .val (.int (1 : Int32)), .val (.int sh), .val (.int c1), .val (.int c2), .val (.ref s12), .val (.ref xs), .val .null, .unset, .unset, .unset] [])) (fun _ k => XS.goto X24.here hx rfl (pc0 := 733) (pc' := 995) rfl (hb hby at_733) (by decide) (by decide) k) ?_
              exact own_tail #[.val (.int p0), .val (.int p1), .val (.int p2), .val (.int p3), .val (.int (1 : Int32)), .val (.int sh), .val (.int c1), .val (.int c2), .val (.ref s12), .val (.ref xs), .val .null, .unset, .unset, .unset] xs va s11 s12 m11 m12 kv ([(nar .char (112 : Int32)), (nar .char (112 : Int32)), (nar .char (108 : Int32)), (nar .char (105 : Int32)), (nar .char (99 : Int32)), (nar .char (97 : Int32)), (nar .char (116 : Int32)), (nar .char (105 : Int32)), (nar .char (111 : Int32)), (nar .char (110 : Int32)), (nar .char (47 : Int32)), (nar .char (115 : Int32)), (nar .char (111 : Int32)), (nar .char (97 : Int32)), (nar .char (112 : Int32)), (nar .char (43 : Int32)), (nar .char (120 : Int32)), (nar .char (109 : Int32)), (nar .char (108 : Int32))] : List Int32) G1 .null X24 hx hS hk hZ hw hby hml hown Bd.returns Bd.notSynchronized rfl O N0 Sx (Nat.le_of_ble_eq_true rfl) SVA EVA AVA F11 S11 F12 S12 O2 P5 (own_Ans.len (by show 19 ≠ 8; decide) (by show 19 ≠ 20; decide)) rfl rfl rfl (by decide) (by decide)
            · refine Out.via (g' := (mkF m 736 #[.val (.int p0), .val (.int p1), .val (.int p2), .val (.int p3), .val (.int (1 : Int32)), .val (.int sh), .val (.int c1), .val (.int c2), .val (.ref s12), .unset, .val .null, .unset, .unset, .unset] [])) (fun _ k => XS.icmpYes X1.here hx rfl (pc0 := 554) (pc' := 736) rfl (hb hby at_554) rfl (feq h4c).2 (by decide) (by decide) k) ?_
              refine Out.via (g' := (mkF m 738 #[.val (.int p0), .val (.int p1), .val (.int p2), .val (.int p3), .val (.int (1 : Int32)), .val (.int sh), .val (.int c1), .val (.int c2), .val (.ref s12), .unset, .val .null, .unset, .unset, .unset] [(.int sh)])) (fun _ k => XS.iload X1.here hx rfl (hb hby at_736) rfl k) ?_
              refine Out.via (g' := (mkF m 739 #[.val (.int p0), .val (.int p1), .val (.int p2), .val (.int p3), .val (.int (1 : Int32)), .val (.int sh), .val (.int c1), .val (.int c2), .val (.ref s12), .unset, .val .null, .unset, .unset, .unset] [(.int (5 : Int32)), (.int sh)])) (fun _ k => XS.iconst X1.here hx rfl (hb hby at_738) k) ?_
              by_cases h5c : sh = (5 : Int32)
              · refine Out.via (g' := (mkF m 742 #[.val (.int p0), .val (.int p1), .val (.int p2), .val (.int p3), .val (.int (1 : Int32)), .val (.int sh), .val (.int c1), .val (.int c2), .val (.ref s12), .unset, .val .null, .unset, .unset, .unset] [])) (fun _ k => XS.icmpNo X1.here hx rfl (hb hby at_739) rfl (teq h5c).2 k) ?_
                refine Out.via (g' := (mkF m 744 #[.val (.int p0), .val (.int p1), .val (.int p2), .val (.int p3), .val (.int (1 : Int32)), .val (.int sh), .val (.int c1), .val (.int c2), .val (.ref s12), .unset, .val .null, .unset, .unset, .unset] [(.int (1 : Int32))])) (fun _ k => XS.iload X1.here hx rfl (hb hby at_742) rfl k) ?_
                refine Out.via (g' := (mkF m 747 #[.val (.int p0), .val (.int p1), .val (.int p2), .val (.int p3), .val (.int (1 : Int32)), .val (.int sh), .val (.int c1), .val (.int c2), .val (.ref s12), .unset, .val .null, .unset, .unset, .unset] [])) (fun _ k => XS.ifNo X1.here hx rfl (hb hby at_744) rfl ((if0 _ _).trans (feq (by decide)).1) k) ?_
                obtain ⟨T2, h2, X2, e2, E2, A2, D2, -, st2⟩ := newO X1 hx hZ hown (hw _ (List.mem_of_getElem? (i := 48) rfl)) (hw _ (List.mem_of_getElem? (i := 5) rfl)) (hw _ (List.mem_of_getElem? (i := 4) rfl)) e1 (g := (mkF m 747 #[.val (.int p0), .val (.int p1), .val (.int p2), .val (.int p3), .val (.int (1 : Int32)), .val (.int sh), .val (.int c1), .val (.int c2), .val (.ref s12), .unset, .val .null, .unset, .unset, .unset] [])) rfl (hb hby at_747) (by decide) (by decide)
                obtain ⟨xs, gq2⟩ : ∃ z, z = h0.size := ⟨_, rfl⟩
                rw [← gq2] at A2 D2 st2
                have g_xs : n0 ≤ xs := Nat.le_trans (own_z0 O) (Nat.le_of_eq gq2.symm)
                replace O := O.ext E2
                replace hk := Nat.le_trans hk E2.1
                have F_value_xs : Fld Z h2 xs "java/lang/String" "value" "[B" .null := D2 (Or.inr (hw _ (List.mem_of_getElem? (i := 7) rfl))) (ty := (.array .byte)) (by decide)
                have F_coder_xs : Fld Z h2 xs "java/lang/String" "coder" "B" (.int (0 : Int32)) := D2 (Or.inr (hw _ (List.mem_of_getElem? (i := 8) rfl))) (ty := .byte) (by decide)
                refine Out.via (g' := (mkF m 750 #[.val (.int p0), .val (.int p1), .val (.int p2), .val (.int p3), .val (.int (1 : Int32)), .val (.int sh), .val (.int c1), .val (.int c2), .val (.ref s12), .unset, .val .null, .unset, .unset, .unset] [(.ref xs)])) st2 ?_
                refine Out.via (g' := (mkF m 751 #[.val (.int p0), .val (.int p1), .val (.int p2), .val (.int p3), .val (.int (1 : Int32)), .val (.int sh), .val (.int c1), .val (.int c2), .val (.ref s12), .unset, .val .null, .unset, .unset, .unset] [(.ref xs), (.ref xs)])) (fun _ k => XS.dup X2.here hx rfl (hb hby at_750) rfl rfl k) ?_
                refine Out.via (g' := (mkF m 753 #[.val (.int p0), .val (.int p1), .val (.int p2), .val (.int p3), .val (.int (1 : Int32)), .val (.int sh), .val (.int c1), .val (.int c2), .val (.ref s12), .unset, .val .null, .unset, .unset, .unset] [(.int (21 : Int32)), (.ref xs), (.ref xs)])) (fun _ k => XS.bipush X2.here hx rfl (hb hby at_751) k) ?_
                obtain ⟨T3, h3, kA3, X3, e3, E3, A3, st3⟩ := newP X2 hx hZ (hw _ (List.mem_of_getElem? (i := 49) rfl)) e2 (g := (mkF m 753 #[.val (.int p0), .val (.int p1), .val (.int p2), .val (.int p3), .val (.int (1 : Int32)), .val (.int sh), .val (.int c1), .val (.int c2), .val (.ref s12), .unset, .val .null, .unset, .unset, .unset] [(.int (21 : Int32)), (.ref xs), (.ref xs)])) rfl (hb hby at_753) rfl (by decide) (cap := 21) (by decide) (by decide) (by decide) (by decide)
                obtain ⟨ca, gq3⟩ : ∃ z, z = h2.size := ⟨_, rfl⟩
                rw [← gq3] at A3 st3
                have ne_xs_ca : xs ≠ ca := Nat.ne_of_lt (Nat.lt_of_lt_of_le A2.lt (Nat.le_of_eq gq3.symm))
                have g_ca : n0 ≤ ca := Nat.le_trans (own_z0 O) (Nat.le_of_eq gq3.symm)
                replace F_value_xs := F_value_xs.ext E3
                replace F_coder_xs := F_coder_xs.ext E3
                replace A2 := A2.ext E3
                replace O := O.ext E3
                replace hk := Nat.le_trans hk E3.1
                have V_ca : Arv Z h3 ca kA3 .char (21 : Int32) [(.int (0 : Int32)), (.int (0 : Int32)), (.int (0 : Int32)), (.int (0 : Int32)), (.int (0 : Int32)), (.int (0 : Int32)), (.int (0 : Int32)), (.int (0 : Int32)), (.int (0 : Int32)), (.int (0 : Int32)), (.int (0 : Int32)), (.int (0 : Int32)), (.int (0 : Int32)), (.int (0 : Int32)), (.int (0 : Int32)), (.int (0 : Int32)), (.int (0 : Int32)), (.int (0 : Int32)), (.int (0 : Int32)), (.int (0 : Int32)), (.int (0 : Int32))] (.int (0 : Int32)) := (Arv.new A3 (by decide)).pad (pad_rep [] (.int (0 : Int32)) 21)
                refine Out.via (g' := (mkF m 755 #[.val (.int p0), .val (.int p1), .val (.int p2), .val (.int p3), .val (.int (1 : Int32)), .val (.int sh), .val (.int c1), .val (.int c2), .val (.ref s12), .unset, .val .null, .unset, .unset, .unset] [(.ref ca), (.ref xs), (.ref xs)])) st3 ?_
                have Kf4 := Keep.refl h3 [ca]
                refine Out.via (g' := (mkF m 756 #[.val (.int p0), .val (.int p1), .val (.int p2), .val (.int p3), .val (.int (1 : Int32)), .val (.int sh), .val (.int c1), .val (.int c2), .val (.ref s12), .unset, .val .null, .unset, .unset, .unset] [(.ref ca), (.ref ca), (.ref xs), (.ref xs)])) (fun _ k => XS.dup X3.here hx rfl (hb hby at_755) rfl rfl k) ?_
                refine Out.via (g' := (mkF m 757 #[.val (.int p0), .val (.int p1), .val (.int p2), .val (.int p3), .val (.int (1 : Int32)), .val (.int sh), .val (.int c1), .val (.int c2), .val (.ref s12), .unset, .val .null, .unset, .unset, .unset] [(.int (0 : Int32)), (.ref ca), (.ref ca), (.ref xs), (.ref xs)])) (fun _ k => XS.iconst X3.here hx rfl (hb hby at_756) k) ?_
                refine Out.via (g' := (mkF m 759 #[.val (.int p0), .val (.int p1), .val (.int p2), .val (.int p3), .val (.int (1 : Int32)), .val (.int sh), .val (.int c1), .val (.int c2), .val (.ref s12), .unset, .val .null, .unset, .unset, .unset] [(.int c1), (.int (0 : Int32)), (.ref ca), (.ref ca), (.ref xs), (.ref xs)])) (fun _ k => XS.iload X3.here hx rfl (hb hby at_757) rfl k) ?_
                obtain ⟨T5, h5, L5, X5, e5, V_ca, N0, O, Kf4, st5⟩ := own_stC X3 hx hZ e3 V_ca (j := (0 : Int32)) ⟨by decide, by decide⟩ 0 rfl (Nat.le_of_ble_eq_true rfl) g_ca N0 O Kf4 (Or.inl (List.mem_of_getElem? (i := 0) rfl)) (g := (mkF m 759 #[.val (.int p0), .val (.int p1), .val (.int p2), .val (.int p3), .val (.int (1 : Int32)), .val (.int sh), .val (.int c1), .val (.int c2), .val (.ref s12), .unset, .val .null, .unset, .unset, .unset] [(.int c1), (.int (0 : Int32)), (.ref ca), (.ref ca), (.ref xs), (.ref xs)])) rfl rfl (hb hby at_759)
                replace V_ca : Arv Z h5 ca kA3 .char (21 : Int32) [(.int (nar .char c1)), (.int (0 : Int32)), (.int (0 : Int32)), (.int (0 : Int32)), (.int (0 : Int32)), (.int (0 : Int32)), (.int (0 : Int32)), (.int (0 : Int32)), (.int (0 : Int32)), (.int (0 : Int32)), (.int (0 : Int32)), (.int (0 : Int32)), (.int (0 : Int32)), (.int (0 : Int32)), (.int (0 : Int32)), (.int (0 : Int32)), (.int (0 : Int32)), (.int (0 : Int32)), (.int (0 : Int32)), (.int (0 : Int32)), (.int (0 : Int32))] (.int (0 : Int32)) := V_ca
                refine Out.via (g' := (mkF m 760 #[.val (.int p0), .val (.int p1), .val (.int p2), .val (.int p3), .val (.int (1 : Int32)), .val (.int sh), .val (.int c1), .val (.int c2), .val (.ref s12), .unset, .val .null, .unset, .unset, .unset] [(.ref ca), (.ref xs), (.ref xs)])) st5 ?_
                refine Out.via (g' := (mkF m 761 #[.val (.int p0), .val (.int p1), .val (.int p2), .val (.int p3), .val (.int (1 : Int32)), .val (.int sh), .val (.int c1), .val (.int c2), .val (.ref s12), .unset, .val .null, .unset, .unset, .unset] [(.ref ca), (.ref ca), (.ref xs), (.ref xs)])) (fun _ k => XS.dup X5.here hx rfl (hb hby at_760) rfl rfl k) ?_
                refine Out.via (g' := (mkF m 762 #[.val (.int p0), .val (.int p1), .val (.int p2), .val (.int p3), .val (.int (1 : Int32)), .val (.int sh), .val (.int c1), .val (.int c2), .val (.ref s12), .unset, .val .null, .unset, .unset, .unset] [(.int (1 : Int32)), (.ref ca), (.ref ca), (.ref xs), (.ref xs)])) (fun _ k => XS.iconst X5.here hx rfl (hb hby at_761) k) ?_
                refine Out.via (g' := (mkF m 764 #[.val (.int p0), .val (.int p1), .val (.int p2), .val (.int p3), .val (.int (1 : Int32)), .val (.int sh), .val (.int c1), .val (.int c2), .val (.ref s12), .unset, .val .null, .unset, .unset, .unset] [(.int (97 : Int32)), (.int (1 : Int32)), (.ref ca), (.ref ca), (.ref xs), (.ref xs)])) (fun _ k => XS.bipush X5.here hx rfl (hb hby at_762) k) ?_
                obtain ⟨T6, h6, L6, X6, e6, V_ca, N0, O, Kf4, st6⟩ := own_stC X5 hx hZ e5 V_ca (j := (1 : Int32)) ⟨by decide, by decide⟩ 1 rfl (Nat.le_of_ble_eq_true rfl) g_ca N0 O Kf4 (Or.inl (List.mem_of_getElem? (i := 0) rfl)) (g := (mkF m 764 #[.val (.int p0), .val (.int p1), .val (.int p2), .val (.int p3), .val (.int (1 : Int32)), .val (.int sh), .val (.int c1), .val (.int c2), .val (.ref s12), .unset, .val .null, .unset, .unset, .unset] [(.int (97 : Int32)), (.int (1 : Int32)), (.ref ca), (.ref ca), (.ref xs), (.ref xs)])) rfl rfl (hb hby at_764)
                replace V_ca : Arv Z h6 ca kA3 .char (21 : Int32) [(.int (nar .char c1)), (.int (nar .char (97 : Int32))), (.int (0 : Int32)), (.int (0 : Int32)), (.int (0 : Int32)), (.int (0 : Int32)), (.int (0 : Int32)), (.int (0 : Int32)), (.int (0 : Int32)), (.int (0 : Int32)), (.int (0 : Int32)), (.int (0 : Int32)), (.int (0 : Int32)), (.int (0 : Int32)), (.int (0 : Int32)), (.int (0 : Int32)), (.int (0 : Int32)), (.int (0 : Int32)), (.int (0 : Int32)), (.int (0 : Int32)), (.int (0 : Int32))] (.int (0 : Int32)) := V_ca
                refine Out.via (g' := (mkF m 765 #[.val (.int p0), .val (.int p1), .val (.int p2), .val (.int p3), .val (.int (1 : Int32)), .val (.int sh), .val (.int c1), .val (.int c2), .val (.ref s12), .unset, .val .null, .unset, .unset, .unset] [(.ref ca), (.ref xs), (.ref xs)])) st6 ?_
                refine Out.via (g' := (mkF m 766 #[.val (.int p0), .val (.int p1), .val (.int p2), .val (.int p3), .val (.int (1 : Int32)), .val (.int sh), .val (.int c1), .val (.int c2), .val (.ref s12), .unset, .val .null, .unset, .unset, .unset] [(.ref ca), (.ref ca), (.ref xs), (.ref xs)])) (fun _ k => XS.dup X6.here hx rfl (hb hby at_765) rfl rfl k) ?_
                refine Out.via (g' := (mkF m 767 #[.val (.int p0), .val (.int p1), .val (.int p2), .val (.int p3), .val (.int (1 : Int32)), .val (.int sh), .val (.int c1), .val (.int c2), .val (.ref s12), .unset, .val .null, .unset, .unset, .unset] [(.int (2 : Int32)), (.ref ca), (.ref ca), (.ref xs), (.ref xs)])) (fun _ k => XS.iconst X6.here hx rfl (hb hby at_766) k) ?_
                refine Out.via (g' := (mkF m 769 #[.val (.int p0), .val (.int p1), .val (.int p2), .val (.int p3), .val (.int (1 : Int32)), .val (.int sh), .val (.int c1), .val (.int c2), .val (.ref s12), .unset, .val .null, .unset, .unset, .unset] [(.int (112 : Int32)), (.int (2 : Int32)), (.ref ca), (.ref ca), (.ref xs), (.ref xs)])) (fun _ k => XS.bipush X6.here hx rfl (hb hby at_767) k) ?_
                obtain ⟨T7, h7, L7, X7, e7, V_ca, N0, O, Kf4, st7⟩ := own_stC X6 hx hZ e6 V_ca (j := (2 : Int32)) ⟨by decide, by decide⟩ 2 rfl (Nat.le_of_ble_eq_true rfl) g_ca N0 O Kf4 (Or.inl (List.mem_of_getElem? (i := 0) rfl)) (g := (mkF m 769 #[.val (.int p0), .val (.int p1), .val (.int p2), .val (.int p3), .val (.int (1 : Int32)), .val (.int sh), .val (.int c1), .val (.int c2), .val (.ref s12), .unset, .val .null, .unset, .unset, .unset] [(.int (112 : Int32)), (.int (2 : Int32)), (.ref ca), (.ref ca), (.ref xs), (.ref xs)])) rfl rfl (hb hby at_769)
                replace V_ca : Arv Z h7 ca kA3 .char (21 : Int32) [(.int (nar .char c1)), (.int (nar .char (97 : Int32))), (.int (nar .char (112 : Int32))), (.int (0 : Int32)), (.int (0 : Int32)), (.int (0 : Int32)), (.int (0 : Int32)), (.int (0 : Int32)), (.int (0 : Int32)), (.int (0 : Int32)), (.int (0 : Int32)), (.int (0 : Int32)), (.int (0 : Int32)), (.int (0 : Int32)), (.int (0 : Int32)), (.int (0 : Int32)), (.int (0 : Int32)), (.int (0 : Int32)), (.int (0 : Int32)), (.int (0 : Int32)), (.int (0 : Int32))] (.int (0 : Int32)) := V_ca
                refine Out.via (g' := (mkF m 770 #[.val (.int p0), .val (.int p1), .val (.int p2), .val (.int p3), .val (.int (1 : Int32)), .val (.int sh), .val (.int c1), .val (.int c2), .val (.ref s12), .unset, .val .null, .unset, .unset, .unset] [(.ref ca), (.ref xs), (.ref xs)])) st7 ?_
                refine Out.via (g' := (mkF m 771 #[.val (.int p0), .val (.int p1), .val (.int p2), .val (.int p3), .val (.int (1 : Int32)), .val (.int sh), .val (.int c1), .val (.int c2), .val (.ref s12), .unset, .val .null, .unset, .unset, .unset] [(.ref ca), (.ref ca), (.ref xs), (.ref xs)])) (fun _ k => XS.dup X7.here hx rfl (hb hby at_770) rfl rfl k) ?_
                refine Out.via (g' := (mkF m 772 #[.val (.int p0), .val (.int p1), .val (.int p2), .val (.int p3), .val (.int (1 : Int32)), .val (.int sh), .val (.int c1), .val (.int c2), .val (.ref s12), .unset, .val .null, .unset, .unset, .unset] [(.int (3 : Int32)), (.ref ca), (.ref ca), (.ref xs), (.ref xs)])) (fun _ k => XS.iconst X7.here hx rfl (hb hby at_771) k) ?_
                refine Out.via (g' := (mkF m 774 #[.val (.int p0), .val (.int p1), .val (.int p2), .val (.int p3), .val (.int (1 : Int32)), .val (.int sh), .val (.int c1), .val (.int c2), .val (.ref s12), .unset, .val .null, .unset, .unset, .unset] [(.int (112 : Int32)), (.int (3 : Int32)), (.ref ca), (.ref ca), (.ref xs), (.ref xs)])) (fun _ k => XS.bipush X7.here hx rfl (hb hby at_772) k) ?_
                obtain ⟨T8, h8, L8, X8, e8, V_ca, N0, O, Kf4, st8⟩ := own_stC X7 hx hZ e7 V_ca (j := (3 : Int32)) ⟨by decide, by decide⟩ 3 rfl (Nat.le_of_ble_eq_true rfl) g_ca N0 O Kf4 (Or.inl (List.mem_of_getElem? (i := 0) rfl)) (g := (mkF m 774 #[.val (.int p0), .val (.int p1), .val (.int p2), .val (.int p3), .val (.int (1 : Int32)), .val (.int sh), .val (.int c1), .val (.int c2), .val (.ref s12), .unset, .val .null, .unset, .unset, .unset] [(.int (112 : Int32)), (.int (3 : Int32)), (.ref ca), (.ref ca), (.ref xs), (.ref xs)])) rfl rfl (hb hby at_774)
                replace V_ca : Arv Z h8 ca kA3 .char (21 : Int32) [(.int (nar .char c1)), (.int (nar .char (97 : Int32))), (.int (nar .char (112 : Int32))), (.int (nar .char (112 : Int32))), (.int (0 : Int32)), (.int (0 : Int32)), (.int (0 : Int32)), (.int (0 : Int32)), (.int (0 : Int32)), (.int (0 : Int32)), (.int (0 : Int32)), (.int (0 : Int32)), (.int (0 : Int32)), (.int (0 : Int32)), (.int (0 : Int32)), (.int (0 : Int32)), (.int (0 : Int32)), (.int (0 : Int32)), (.int (0 : Int32)), (.int (0 : Int32)), (.int (0 : Int32))] (.int (0 : Int32)) := V_ca
                refine Out.via (g' := (mkF m 775 #[.val (.int p0), .val (.int p1), .val (.int p2), .val (.int p3), .val (.int (1 : Int32)), .val (.int sh), .val (.int c1), .val (.int c2), .val (.ref s12), .unset, .val .null, .unset, .unset, .unset] [(.ref ca), (.ref xs), (.ref xs)])) st8 ?_
                refine Out.via (g' := (mkF m 776 #[.val (.int p0), .val (.int p1), .val (.int p2), .val (.int p3), .val (.int (1 : Int32)), .val (.int sh), .val (.int c1), .val (.int c2), .val (.ref s12), .unset, .val .null, .unset, .unset, .unset] [(.ref ca), (.ref ca), (.ref xs), (.ref xs)])) (fun _ k => XS.dup X8.here hx rfl (hb hby at_775) rfl rfl k) ?_
                refine Out.via (g' := (mkF m 777 #[.val (.int p0), .val (.int p1), .val (.int p2), .val (.int p3), .val (.int (1 : Int32)), .val (.int sh), .val (.int c1), .val (.int c2), .val (.ref s12), .unset, .val .null, .unset, .unset, .unset] [(.int (4 : Int32)), (.ref ca), (.ref ca), (.ref xs), (.ref xs)])) (fun _ k => XS.iconst X8.here hx rfl (hb hby at_776) k) ?_
                refine Out.via (g' := (mkF m 779 #[.val (.int p0), .val (.int p1), .val (.int p2), .val (.int p3), .val (.int (1 : Int32)), .val (.int sh), .val (.int c1), .val (.int c2), .val (.ref s12), .unset, .val .null, .unset, .unset, .unset] [(.int (108 : Int32)), (.int (4 : Int32)), (.ref ca), (.ref ca), (.ref xs), (.ref xs)])) (fun _ k => XS.bipush X8.here hx rfl (hb hby at_777) k) ?_
                obtain ⟨T9, h9, L9, X9, e9, V_ca, N0, O, Kf4, st9⟩ := own_stC X8 hx hZ e8 V_ca (j := (4 : Int32)) ⟨by decide, by decide⟩ 4 rfl (Nat.le_of_ble_eq_true rfl) g_ca N0 O Kf4 (Or.inl (List.mem_of_getElem? (i := 0) rfl)) (g := (mkF m 779 #[.val (.int p0), .val (.int p1), .val (.int p2), .val (.int p3), .val (.int (1 : Int32)), .val (.int sh), .val (.int c1), .val (.int c2), .val (.ref s12), .unset, .val .null, .unset, .unset, .unset] [(.int (108 : Int32)), (.int (4 : Int32)), (.ref ca), (.ref ca), (.ref xs), (.ref xs)])) rfl rfl (hb hby at_779)
                replace V_ca : Arv Z h9 ca kA3 .char (21 : Int32) [(.int (nar .char c1)), (.int (nar .char (97 : Int32))), (.int (nar .char (112 : Int32))), (.int (nar .char (112 : Int32))), (.int (nar .char (108 : Int32))), (.int (0 : Int32)), (.int (0 : Int32)), (.int (0 : Int32)), (.int (0 : Int32)), (.int (0 : Int32)), (.int (0 : Int32)), (.int (0 : Int32)), (.int (0 : Int32)), (.int (0 : Int32)), (.int (0 : Int32)), (.int (0 : Int32)), (.int (0 : Int32)), (.int (0 : Int32)), (.int (0 : Int32)), (.int (0 : Int32)), (.int (0 : Int32))] (.int (0 : Int32)) := V_ca
                refine Out.via (g' := (mkF m 780 #[.val (.int p0), .val (.int p1), .val (.int p2), .val (.int p3), .val (.int (1 : Int32)), .val (.int sh), .val (.int c1), .val (.int c2), .val (.ref s12), .unset, .val .null, .unset, .unset, .unset] [(.ref ca), (.ref xs), (.ref xs)])) st9 ?_
                refine Out.via (g' := (mkF m 781 #[.val (.int p0), .val (.int p1), .val (.int p2), .val (.int p3), .val (.int (1 : Int32)), .val (.int sh), .val (.int c1), .val (.int c2), .val (.ref s12), .unset, .val .null, .unset, .unset, .unset] [(.ref ca), (.ref ca), (.ref xs), (.ref xs)])) (fun _ k => XS.dup X9.here hx rfl (hb hby at_780) rfl rfl k) ?_
                refine Out.via (g' := (mkF m 782 #[.val (.int p0), .val (.int p1), .val (.int p2), .val (.int p3), .val (.int (1 : Int32)), .val (.int sh), .val (.int c1), .val (.int c2), .val (.ref s12), .unset, .val .null, .unset, .unset, .unset] [(.int (5 : Int32)), (.ref ca), (.ref ca), (.ref xs), (.ref xs)])) (fun _ k => XS.iconst X9.here hx rfl (hb hby at_781) k) ?_
                refine Out.via (g' := (mkF m 784 #[.val (.int p0), .val (.int p1), .val (.int p2), .val (.int p3), .val (.int (1 : Int32)), .val (.int sh), .val (.int c1), .val (.int c2), .val (.ref s12), .unset, .val .null, .unset, .unset, .unset] [(.int (105 : Int32)), (.int (5 : Int32)), (.ref ca), (.ref ca), (.ref xs), (.ref xs)])) (fun _ k => XS.bipush X9.here hx rfl (hb hby at_782) k) ?_
                obtain ⟨T10, h10, L10, X10, e10, V_ca, N0, O, Kf4, st10⟩ := own_stC X9 hx hZ e9 V_ca (j := (5 : Int32)) ⟨by decide, by decide⟩ 5 rfl (Nat.le_of_ble_eq_true rfl) g_ca N0 O Kf4 (Or.inl (List.mem_of_getElem? (i := 0) rfl)) (g := (mkF m 784 #[.val (.int p0), .val (.int p1), .val (.int p2), .val (.int p3), .val (.int (1 : Int32)), .val (.int sh), .val (.int c1), .val (.int c2), .val (.ref s12), .unset, .val .null, .unset, .unset, .unset] [(.int (105 : Int32)), (.int (5 : Int32)), (.ref ca), (.ref ca), (.ref xs), (.ref xs)])) rfl rfl (hb hby at_784)
                replace V_ca : Arv Z h10 ca kA3 .char (21 : Int32) [(.int (nar .char c1)), (.int (nar .char (97 : Int32))), (.int (nar .char (112 : Int32))), (.int (nar .char (112 : Int32))), (.int (nar .char (108 : Int32))), (.int (nar .char (105 : Int32))), (.int (0 : Int32)), (.int (0 : Int32)), (.int (0 : Int32)), (.int (0 : Int32)), (.int (0 : Int32)), (.int (0 : Int32)), (.int (0 : Int32)), (.int (0 : Int32)), (.int (0 : Int32)), (.int (0 : Int32)), (.int (0 : Int32)), (.int (0 : Int32)), (.int (0 : Int32)), (.int (0 : Int32)), (.int (0 : Int32))] (.int (0 : Int32)) := V_ca
                refine Out.via (g' := (mkF m 785 #[.val (.int p0), .val (.int p1), .val (.int p2), .val (.int p3), .val (.int (1 : Int32)), .val (.int sh), .val (.int c1), .val (.int c2), .val (.ref s12), .unset, .val .null, .unset, .unset, .unset] [(.ref ca), (.ref xs), (.ref xs)])) st10 ?_
                refine Out.via (g' := (mkF m 786 #[.val (.int p0), .val (.int p1), .val (.int p2), .val (.int p3), .val (.int (1 : Int32)), .val (.int sh), .val (.int c1), .val (.int c2), .val (.ref s12), .unset, .val .null, .unset, .unset, .unset] [(.ref ca), (.ref ca), (.ref xs), (.ref xs)])) (fun _ k => XS.dup X10.here hx rfl (hb hby at_785) rfl rfl k) ?_
                refine Out.via (g' := (mkF m 788 #[.val (.int p0), .val (.int p1), .val (.int p2), .val (.int p3), .val (.int (1 : Int32)), .val (.int sh), .val (.int c1), .val (.int c2), .val (.ref s12), .unset, .val .null, .unset, .unset, .unset] [(.int (6 : Int32)), (.ref ca), (.ref ca), (.ref xs), (.ref xs)])) (fun _ k => XS.bipush X10.here hx rfl (hb hby at_786) k) ?_
                refine Out.via (g' := (mkF m 790 #[.val (.int p0), .val (.int p1), .val (.int p2), .val (.int p3), .val (.int (1 : Int32)), .val (.int sh), .val (.int c1), .val (.int c2), .val (.ref s12), .unset, .val .null, .unset, .unset, .unset] [(.int (99 : Int32)), (.int (6 : Int32)), (.ref ca), (.ref ca), (.ref xs), (.ref xs)])) (fun _ k => XS.bipush X10.here hx rfl (hb hby at_788) k) ?_
                obtain ⟨T11, h11, L11, X11, e11, V_ca, N0, O, Kf4, st11⟩ := own_stC X10 hx hZ e10 V_ca (j := (6 : Int32)) ⟨by decide, by decide⟩ 6 rfl (Nat.le_of_ble_eq_true rfl) g_ca N0 O Kf4 (Or.inl (List.mem_of_getElem? (i := 0) rfl)) (g := (mkF m 790 #[.val (.int p0), .val (.int p1), .val (.int p2), .val (.int p3), .val (.int (1 : Int32)), .val (.int sh), .val (.int c1), .val (.int c2), .val (.ref s12), .unset, .val .null, .unset, .unset, .unset] [(.int (99 : Int32)), (.int (6 : Int32)), (.ref ca), (.ref ca), (.ref xs), (.ref xs)])) rfl rfl (hb hby at_790)
                replace V_ca : Arv Z h11 ca kA3 .char (21 : Int32) [(.int (nar .char c1)), (.int (nar .char (97 : Int32))), (.int (nar .char (112 : Int32))), (.int (nar .char (112 : Int32))), (.int (nar .char (108 : Int32))), (.int (nar .char (105 : Int32))), (.int (nar .char (99 : Int32))), (.int (0 : Int32)), (.int (0 : Int32)), (.int (0 : Int32)), (.int (0 : Int32)), (.int (0 : Int32)), (.int (0 : Int32)), (.int (0 : Int32)), (.int (0 : Int32)), (.int (0 : Int32)), (.int (0 : Int32)), (.int (0 : Int32)), (.int (0 : Int32)), (.int (0 : Int32)), (.int (0 : Int32))] (.int (0 : Int32)) := V_ca
                refine Out.via (g' := (mkF m 791 #[.val (.int p0), .val (.int p1), .val (.int p2), .val (.int p3), .val (.int (1 : Int32)), .val (.int sh), .val (.int c1), .val (.int c2), .val (.ref s12), .unset, .val .null, .unset, .unset, .unset] [(.ref ca), (.ref xs), (.ref xs)])) st11 ?_
                refine Out.via (g' := (mkF m 792 #[.val (.int p0), .val (.int p1), .val (.int p2), .val (.int p3), .val (.int (1 : Int32)), .val (.int sh), .val (.int c1), .val (.int c2), .val (.ref s12), .unset, .val .null, .unset, .unset, .unset] [(.ref ca), (.ref ca), (.ref xs), (.ref xs)])) (fun _ k => XS.dup X11.here hx rfl (hb hby at_791) rfl rfl k) ?_
                refine Out.via (g' := (mkF m 794 #[.val (.int p0), .val (.int p1), .val (.int p2), .val (.int p3), .val (.int (1 : Int32)), .val (.int sh), .val (.int c1), .val (.int c2), .val (.ref s12), .unset, .val .null, .unset, .unset, .unset] [(.int (7 : Int32)), (.ref ca), (.ref ca), (.ref xs), (.ref xs)])) (fun _ k => XS.bipush X11.here hx rfl (hb hby at_792) k) ?_
                refine Out.via (g' := (mkF m 796 #[.val (.int p0), .val (.int p1), .val (.int p2), .val (.int p3), .val (.int (1 : Int32)), .val (.int sh), .val (.int c1), .val (.int c2), .val (.ref s12), .unset, .val .null, .unset, .unset, .unset] [(.int (97 : Int32)), (.int (7 : Int32)), (.ref ca), (.ref ca), (.ref xs), (.ref xs)])) (fun _ k => XS.bipush X11.here hx rfl (hb hby at_794) k) ?_
                obtain ⟨T12, h12, L12, X12, e12, V_ca, N0, O, Kf4, st12⟩ := own_stC X11 hx hZ e11 V_ca (j := (7 : Int32)) ⟨by decide, by decide⟩ 7 rfl (Nat.le_of_ble_eq_true rfl) g_ca N0 O Kf4 (Or.inl (List.mem_of_getElem? (i := 0) rfl)) (g := (mkF m 796 #[.val (.int p0), .val (.int p1), .val (.int p2), .val (.int p3), .val (.int (1 : Int32)), .val (.int sh), .val (.int c1), .val (.int c2), .val (.ref s12), .unset, .val .null, .unset, .unset, .unset] [(.int (97 : Int32)), (.int (7 : Int32)), (.ref ca), (.ref ca), (.ref xs), (.ref xs)])) rfl rfl (hb hby at_796)
                replace V_ca : Arv Z h12 ca kA3 .char (21 : Int32) [(.int (nar .char c1)), (.int (nar .char (97 : Int32))), (.int (nar .char (112 : Int32))), (.int (nar .char (112 : Int32))), (.int (nar .char (108 : Int32))), (.int (nar .char (105 : Int32))), (.int (nar .char (99 : Int32))), (.int (nar .char (97 : Int32))), (.int (0 : Int32)), (.int (0 : Int32)), (.int (0 : Int32)), (.int (0 : Int32)), (.int (0 : Int32)), (.int (0 : Int32)), (.int (0 : Int32)), (.int (0 : Int32)), (.int (0 : Int32)), (.int (0 : Int32)), (.int (0 : Int32)), (.int (0 : Int32)), (.int (0 : Int32))] (.int (0 : Int32)) := V_ca
                refine Out.via (g' := (mkF m 797 #[.val (.int p0), .val (.int p1), .val (.int p2), .val (.int p3), .val (.int (1 : Int32)), .val (.int sh), .val (.int c1), .val (.int c2), .val (.ref s12), .unset, .val .null, .unset, .unset, .unset] [(.ref ca), (.ref xs), (.ref xs)])) st12 ?_
                refine Out.via (g' := (mkF m 798 #[.val (.int p0), .val (.int p1), .val (.int p2), .val (.int p3), .val (.int (1 : Int32)), .val (.int sh), .val (.int c1), .val (.int c2), .val (.ref s12), .unset, .val .null, .unset, .unset, .unset] [(.ref ca), (.ref ca), (.ref xs), (.ref xs)])) (fun _ k => XS.dup X12.here hx rfl (hb hby at_797) rfl rfl k) ?_
                refine Out.via (g' := (mkF m 800 #[.val (.int p0), .val (.int p1), .val (.int p2), .val (.int p3), .val (.int (1 : Int32)), .val (.int sh), .val (.int c1), .val (.int c2), .val (.ref s12), .unset, .val .null, .unset, .unset, .unset] [(.int (8 : Int32)), (.ref ca), (.ref ca), (.ref xs), (.ref xs)])) (fun _ k => XS.bipush X12.here hx rfl (hb hby at_798) k) ?_
                refine Out.via (g' := (mkF m 802 #[.val (.int p0), .val (.int p1), .val (.int p2), .val (.int p3), .val (.int (1 : Int32)), .val (.int sh), .val (.int c1), .val (.int c2), .val (.ref s12), .unset, .val .null, .unset, .unset, .unset] [(.int (116 : Int32)), (.int (8 : Int32)), (.ref ca), (.ref ca), (.ref xs), (.ref xs)])) (fun _ k => XS.bipush X12.here hx rfl (hb hby at_800) k) ?_
                obtain ⟨T13, h13, L13, X13, e13, V_ca, N0, O, Kf4, st13⟩ := own_stC X12 hx hZ e12 V_ca (j := (8 : Int32)) ⟨by decide, by decide⟩ 8 rfl (Nat.le_of_ble_eq_true rfl) g_ca N0 O Kf4 (Or.inl (List.mem_of_getElem? (i := 0) rfl)) (g := (mkF m 802 #[.val (.int p0), .val (.int p1), .val (.int p2), .val (.int p3), .val (.int (1 : Int32)), .val (.int sh), .val (.int c1), .val (.int c2), .val (.ref s12), .unset, .val .null, .unset, .unset, .unset] [(.int (116 : Int32)), (.int (8 : Int32)), (.ref ca), (.ref ca), (.ref xs), (.ref xs)])) rfl rfl (hb hby at_802)
                replace V_ca : Arv Z h13 ca kA3 .char (21 : Int32) [(.int (nar .char c1)), (.int (nar .char (97 : Int32))), (.int (nar .char (112 : Int32))), (.int (nar .char (112 : Int32))), (.int (nar .char (108 : Int32))), (.int (nar .char (105 : Int32))), (.int (nar .char (99 : Int32))), (.int (nar .char (97 : Int32))), (.int (nar .char (116 : Int32))), (.int (0 : Int32)), (.int (0 : Int32)), (.int (0 : Int32)), (.int (0 : Int32)), (.int (0 : Int32)), (.int (0 : Int32)), (.int (0 : Int32)), (.int (0 : Int32)), (.int (0 : Int32)), (.int (0 : Int32)), (.int (0 : Int32)), (.int (0 : Int32))] (.int (0 : Int32)) := V_ca
                refine Out.via (g' := (mkF m 803 #[.val (.int p0), .val (.int p1), .val (.int p2), .val (.int p3), .val (.int (1 : Int32)), .val (.int sh), .val (.int c1), .val (.int c2), .val (.ref s12), .unset, .val .null, .unset, .unset, .unset] [(.ref ca), (.ref xs), (.ref xs)])) st13 ?_
                refine Out.via (g' := (mkF m 804 #[.val (.int p0), .val (.int p1), .val (.int p2), .val (.int p3), .val (.int (1 : Int32)), .val (.int sh), .val (.int c1), .val (.int c2), .val (.ref s12), .unset, .val .null, .unset, .unset, .unset] [(.ref ca), (.ref ca), (.ref xs), (.ref xs)])) (fun _ k => XS.dup X13.here hx rfl (hb hby at_803) rfl rfl k) ?_
                refine Out.via (g' := (mkF m 806 #[.val (.int p0), .val (.int p1), .val (.int p2), .val (.int p3), .val (.int (1 : Int32)), .val (.int sh), .val (.int c1), .val (.int c2), .val (.ref s12), .unset, .val .null, .unset, .unset, .unset] [(.int (9 : Int32)), (.ref ca), (.ref ca), (.ref xs), (.ref xs)])) (fun _ k => XS.bipush X13.here hx rfl (hb hby at_804) k) ?_
                refine Out.via (g' := (mkF m 808 #[.val (.int p0), .val (.int p1), .val (.int p2), .val (.int p3), .val (.int (1 : Int32)), .val (.int sh), .val (.int c1), .val (.int c2), .val (.ref s12), .unset, .val .null, .unset, .unset, .unset] [(.int (105 : Int32)), (.int (9 : Int32)), (.ref ca), (.ref ca), (.ref xs), (.ref xs)])) (fun _ k => XS.bipush X13.here hx rfl (hb hby at_806) k) ?_
                obtain ⟨T14, h14, L14, X14, e14, V_ca, N0, O, Kf4, st14⟩ := own_stC X13 hx hZ e13 V_ca (j := (9 : Int32)) ⟨by decide, by decide⟩ 9 rfl (Nat.le_of_ble_eq_true rfl) g_ca N0 O Kf4 (Or.inl (List.mem_of_getElem? (i := 0) rfl)) (g := (mkF m 808 #[.val (.int p0), .val (.int p1), .val (.int p2), .val (.int p3), .val (.int (1 : Int32)), .val (.int sh), .val (.int c1), .val (.int c2), .val (.ref s12), .unset, .val .null, .unset, .unset, .unset] [(.int (105 : Int32)), (.int (9 : Int32)), (.ref ca), (.ref ca), (.ref xs), (.ref xs)])) rfl rfl (hb hby at_808)
                replace V_ca : Arv Z h14 ca kA3 .char (21 : Int32) [(.int (nar .char c1)), (.int (nar .char (97 : Int32))), (.int (nar .char (112 : Int32))), (.int (nar .char (112 : Int32))), (.int (nar .char (108 : Int32))), (.int (nar .char (105 : Int32))), (.int (nar .char (99 : Int32))), (.int (nar .char (97 : Int32))), (.int (nar .char (116 : Int32))), (.int (nar .char (105 : Int32))), (.int (0 : Int32)), (.int (0 : Int32)), (.int (0 : Int32)), (.int (0 : Int32)), (.int (0 : Int32)), (.int (0 : Int32)), (.int (0 : Int32)), (.int (0 : Int32)), (.int (0 : Int32)), (.int (0 : Int32)), (.int (0 : Int32))] (.int (0 : Int32)) := V_ca
                refine Out.via (g' := (mkF m 809 #[.val (.int p0), .val (.int p1), .val (.int p2), .val (.int p3), .val (.int (1 : Int32)), .val (.int sh), .val (.int c1), .val (.int c2), .val (.ref s12), .unset, .val .null, .unset, .unset, .unset] [(.ref ca), (.ref xs), (.ref xs)])) st14 ?_
                refine Out.via (g' := (mkF m 810 #[.val (.int p0), .val (.int p1), .val (.int p2), .val (.int p3), .val (.int (1 : Int32)), .val (.int sh), .val (.int c1), .val (.int c2), .val (.ref s12), .unset, .val .null, .unset, .unset, .unset] [(.ref ca), (.ref ca), (.ref xs), (.ref xs)])) (fun _ k => XS.dup X14.here hx rfl (hb hby at_809) rfl rfl k) ?_
                refine Out.via (g' := (mkF m 812 #[.val (.int p0), .val (.int p1), .val (.int p2), .val (.int p3), .val (.int (1 : Int32)), .val (.int sh), .val (.int c1), .val (.int c2), .val (.ref s12), .unset, .val .null, .unset, .unset, .unset] [(.int (10 : Int32)), (.ref ca), (.ref ca), (.ref xs), (.ref xs)])) (fun _ k => XS.bipush X14.here hx rfl (hb hby at_810) k) ?_
                refine Out.via (g' := (mkF m 814 #[.val (.int p0), .val (.int p1), .val (.int p2), .val (.int p3), .val (.int (1 : Int32)), .val (.int sh), .val (.int c1), .val (.int c2), .val (.ref s12), .unset, .val .null, .unset, .unset, .unset] [(.int (111 : Int32)), (.int (10 : Int32)), (.ref ca), (.ref ca), (.ref xs), (.ref xs)])) (fun _ k => XS.bipush X14.here hx rfl (hb hby at_812) k) ?_
                obtain ⟨T15, h15, L15, X15, e15, V_ca, N0, O, Kf4, st15⟩ := own_stC X14 hx hZ e14 V_ca (j := (10 : Int32)) ⟨by decide, by decide⟩ 10 rfl (Nat.le_of_ble_eq_true rfl) g_ca N0 O Kf4 (Or.inl (List.mem_of_getElem? (i := 0) rfl)) (g := (mkF m 814 #[.val (.int p0), .val (.int p1), .val (.int p2), .val (.int p3), .val (.int (1 : Int32)), .val (.int sh), .val (.int c1), .val (.int c2), .val (.ref s12), .unset, .val .null, .unset, .unset, .unset] [(.int (111 : Int32)), (.int (10 : Int32)), (.ref ca), (.ref ca), (.ref xs), (.ref xs)])) rfl rfl (hb hby at_814)
                replace V_ca : Arv Z h15 ca kA3 .char (21 : Int32) [(.int (nar .char c1)), (.int (nar .char (97 : Int32))), (.int (nar .char (112 : Int32))), (.int (nar .char (112 : Int32))), (.int (nar .char (108 : Int32))), (.int (nar .char (105 : Int32))), (.int (nar .char (99 : Int32))), (.int (nar .char (97 : Int32))), (.int (nar .char (116 : Int32))), (.int (nar .char (105 : Int32))), (.int (nar .char (111 : Int32))), (.int (0 : Int32)), (.int (0 : Int32)), (.int (0 : Int32)), (.int (0 : Int32)), (.int (0 : Int32)), (.int (0 : Int32)), (.int (0 : Int32)), (.int (0 : Int32)), (.int (0 : Int32)), (.int (0 : Int32))] (.int (0 : Int32)) := V_ca
                refine Out.via (g' := (mkF m 815 #[.val (.int p0), .val (.int p1), .val (.int p2), .val (.int p3), .val (.int (1 : Int32)), .val (.int sh), .val (.int c1), .val (.int c2), .val (.ref s12), .unset, .val .null, .unset, .unset, .unset] [(.ref ca), (.ref xs), (.ref xs)])) st15 ?_
                refine Out.via (g' := (mkF m 816 #[.val (.int p0), .val (.int p1), .val (.int p2), .val (.int p3), .val (.int (1 : Int32)), .val (.int sh), .val (.int c1), .val (.int c2), .val (.ref s12), .unset, .val .null, .unset, .unset, .unset] [(.ref ca), (.ref ca), (.ref xs), (.ref xs)])) (fun _ k => XS.dup X15.here hx rfl (hb hby at_815) rfl rfl k) ?_
                refine Out.via (g' := (mkF m 818 #[.val (.int p0), .val (.int p1), .val (.int p2), .val (.int p3), .val (.int (1 : Int32)), .val (.int sh), .val (.int c1), .val (.int c2), .val (.ref s12), .unset, .val .null, .unset, .unset, .unset] [(.int (11 : Int32)), (.ref ca), (.ref ca), (.ref xs), (.ref xs)])) (fun _ k => XS.bipush X15.here hx rfl (hb hby at_816) k) ?_
                refine Out.via (g' := (mkF m 820 #[.val (.int p0), .val (.int p1), .val (.int p2), .val (.int p3), .val (.int (1 : Int32)), .val (.int sh), .val (.int c1), .val (.int c2), .val (.ref s12), .unset, .val .null, .unset, .unset, .unset] [(.int (110 : Int32)), (.int (11 : Int32)), (.ref ca), (.ref ca), (.ref xs), (.ref xs)])) (fun _ k => XS.bipush X15.here hx rfl (hb hby at_818) k) ?_
                obtain ⟨T16, h16, L16, X16, e16, V_ca, N0, O, Kf4, st16⟩ := own_stC X15 hx hZ e15 V_ca (j := (11 : Int32)) ⟨by decide, by decide⟩ 11 rfl (Nat.le_of_ble_eq_true rfl) g_ca N0 O Kf4 (Or.inl (List.mem_of_getElem? (i := 0) rfl)) (g := (mkF m 820 #[.val (.int p0), .val (.int p1), .val (.int p2), .val (.int p3), .val (.int (1 : Int32)), .val (.int sh), .val (.int c1), .val (.int c2), .val (.ref s12), .unset, .val .null, .unset, .unset, .unset] [(.int (110 : Int32)), (.int (11 : Int32)), (.ref ca), (.ref ca), (.ref xs), (.ref xs)])) rfl rfl (hb hby at_820)
                replace V_ca : Arv Z h16 ca kA3 .char (21 : Int32) [(.int (nar .char c1)), (.int (nar .char (97 : Int32))), (.int (nar .char (112 : Int32))), (.int (nar .char (112 : Int32))), (.int (nar .char (108 : Int32))), (.int (nar .char (105 : Int32))), (.int (nar .char (99 : Int32))), (.int (nar .char (97 : Int32))), (.int (nar .char (116 : Int32))), (.int (nar .char (105 : Int32))), (.int (nar .char (111 : Int32))), (.int (nar .char (110 : Int32))), (.int (0 : Int32)), (.int (0 : Int32)), (.int (0 : Int32)), (.int (0 : Int32)), (.int (0 : Int32)), (.int (0 : Int32)), (.int (0 : Int32)), (.int (0 : Int32)), (.int (0 : Int32))] (.int (0 : Int32)) := V_ca
                refine Out.via (g' := (mkF m 821 #[.val (.int p0), .val (.int p1), .val (.int p2), .val (.int p3), .val (.int (1 : Int32)), .val (.int sh), .val (.int c1), .val (.int c2), .val (.ref s12), .unset, .val .null, .unset, .unset, .unset] [(.ref ca), (.ref xs), (.ref xs)])) st16 ?_
                refine Out.via (g' := (mkF m 822 #[.val (.int p0), .val (.int p1), .val (.int p2), .val (.int p3), .val (.int (1 : Int32)), .val (.int sh), .val (.int c1), .val (.int c2), .val (.ref s12), .unset, .val .null, .unset, .unset, .unset] [(.ref ca), (.ref ca), (.ref xs), (.ref xs)])) (fun _ k => XS.dup X16.here hx rfl (hb hby at_821) rfl rfl k) ?_
                refine Out.via (g' := (mkF m 824 #[.val (.int p0), .val (.int p1), .val (.int p2), .val (.int p3), .val (.int (1 : Int32)), .val (.int sh), .val (.int c1), .val (.int c2), .val (.ref s12), .unset, .val .null, .unset, .unset, .unset] [(.int (12 : Int32)), (.ref ca), (.ref ca), (.ref xs), (.ref xs)])) (fun _ k => XS.bipush X16.here hx rfl (hb hby at_822) k) ?_
                refine Out.via (g' := (mkF m 826 #[.val (.int p0), .val (.int p1), .val (.int p2), .val (.int p3), .val (.int (1 : Int32)), .val (.int sh), .val (.int c1), .val (.int c2), .val (.ref s12), .unset, .val .null, .unset, .unset, .unset] [(.int (47 : Int32)), (.int (12 : Int32)), (.ref ca), (.ref ca), (.ref xs), (.ref xs)])) (fun _ k => XS.bipush X16.here hx rfl (hb hby at_824) k) ?_
                obtain ⟨T17, h17, L17, X17, e17, V_ca, N0, O, Kf4, st17⟩ := own_stC X16 hx hZ e16 V_ca (j := (12 : Int32)) ⟨by decide, by decide⟩ 12 rfl (Nat.le_of_ble_eq_true rfl) g_ca N0 O Kf4 (Or.inl (List.mem_of_getElem? (i := 0) rfl)) (g := (mkF m 826 #[.val (.int p0), .val (.int p1), .val (.int p2), .val (.int p3), .val (.int (1 : Int32)), .val (.int sh), .val (.int c1), .val (.int c2), .val (.ref s12), .unset, .val .null, .unset, .unset, .unset] [(.int (47 : Int32)), (.int (12 : Int32)), (.ref ca), (.ref ca), (.ref xs), (.ref xs)])) rfl rfl (hb hby at_826)
                replace V_ca : Arv Z h17 ca kA3 .char (21 : Int32) [(.int (nar .char c1)), (.int (nar .char (97 : Int32))), (.int (nar .char (112 : Int32))), (.int (nar .char (112 : Int32))), (.int (nar .char (108 : Int32))), (.int (nar .char (105 : Int32))), (.int (nar .char (99 : Int32))), (.int (nar .char (97 : Int32))), (.int (nar .char (116 : Int32))), (.int (nar .char (105 : Int32))), (.int (nar .char (111 : Int32))), (.int (nar .char (110 : Int32))), (.int (nar .char (47 : Int32))), (.int (0 : Int32)), (.int (0 : Int32)), (.int (0 : Int32)), (.int (0 : Int32)), (.int (0 : Int32)), (.int (0 : Int32)), (.int (0 : Int32)), (.int (0 : Int32))] (.int (0 : Int32)) := V_ca
                refine Out.via (g' := (mkF m 827 #[.val (.int p0), .val (.int p1), .val (.int p2), .val (.int p3), .val (.int (1 : Int32)), .val (.int sh), .val (.int c1), .val (.int c2), .val (.ref s12), .unset, .val .null, .unset, .unset, .unset] [(.ref ca), (.ref xs), (.ref xs)])) st17 ?_
                refine Out.via (g' := (mkF m 828 #[.val (.int p0), .val (.int p1), .val (.int p2), .val (.int p3), .val (.int (1 : Int32)), .val (.int sh), .val (.int c1), .val (.int c2), .val (.ref s12), .unset, .val .null, .unset, .unset, .unset] [(.ref ca), (.ref ca), (.ref xs), (.ref xs)])) (fun _ k => XS.dup X17.here hx rfl (hb hby at_827) rfl rfl k) ?_
                refine Out.via (g' := (mkF m 830 #[.val (.int p0), .val (.int p1), .val (.int p2), .val (.int p3), .val (.int (1 : Int32)), .val (.int sh), .val (.int c1), .val (.int c2), .val (.ref s12), .unset, .val .null, .unset, .unset, .unset] [(.int (13 : Int32)), (.ref ca), (.ref ca), (.ref xs), (.ref xs)])) (fun _ k => XS.bipush X17.here hx rfl (hb hby at_828) k) ?_
                refine Out.via (g' := (mkF m 832 #[.val (.int p0), .val (.int p1), .val (.int p2), .val (.int p3), .val (.int (1 : Int32)), .val (.int sh), .val (.int c1), .val (.int c2), .val (.ref s12), .unset, .val .null, .unset, .unset, .unset] [(.int (115 : Int32)), (.int (13 : Int32)), (.ref ca), (.ref ca), (.ref xs), (.ref xs)])) (fun _ k => XS.bipush X17.here hx rfl (hb hby at_830) k) ?_
                obtain ⟨T18, h18, L18, X18, e18, V_ca, N0, O, Kf4, st18⟩ := own_stC X17 hx hZ e17 V_ca (j := (13 : Int32)) ⟨by decide, by decide⟩ 13 rfl (Nat.le_of_ble_eq_true rfl) g_ca N0 O Kf4 (Or.inl (List.mem_of_getElem? (i := 0) rfl)) (g := (mkF m 832 #[.val (.int p0), .val (.int p1), .val (.int p2), .val (.int p3), .val (.int (1 : Int32)), .val (.int sh), .val (.int c1), .val (.int c2), .val (.ref s12), .unset, .val .null, .unset, .unset, .unset] [(.int (115 : Int32)), (.int (13 : Int32)), (.ref ca), (.ref ca), (.ref xs), (.ref xs)])) rfl rfl (hb hby at_832)
                replace V_ca : Arv Z h18 ca kA3 .char (21 : Int32) [(.int (nar .char c1)), (.int (nar .char (97 : Int32))), (.int (nar .char (112 : Int32))), (.int (nar .char (112 : Int32))), (.int (nar .char (108 : Int32))), (.int (nar .char (105 : Int32))), (.int (nar .char (99 : Int32))), (.int (nar .char (97 : Int32))), (.int (nar .char (116 : Int32))), (.int (nar .char (105 : Int32))), (.int (nar .char (111 : Int32))), (.int (nar .char (110 : Int32))), (.int (nar .char (47 : Int32))), (.int (nar .char (115 : Int32))), (.int (0 : Int32)), (.int (0 : Int32)), (.int (0 : Int32)), (.int (0 : Int32)), (.int (0 : Int32)), (.int (0 : Int32)), (.int (0 : Int32))] (.int (0 : Int32)) := V_ca
                refine Out.via (g' := (mkF m 833 #[.val (.int p0), .val (.int p1), .val (.int p2), .val (.int p3), .val (.int (1 : Int32)), .val (.int sh), .val (.int c1), .val (.int c2), .val (.ref s12), .unset, .val .null, .unset, .unset, .unset] [(.ref ca), (.ref xs), (.ref xs)])) st18 ?_
                refine Out.via (g' := (mkF m 834 #[.val (.int p0), .val (.int p1), .val (.int p2), .val (.int p3), .val (.int (1 : Int32)), .val (.int sh), .val (.int c1), .val (.int c2), .val (.ref s12), .unset, .val .null, .unset, .unset, .unset] [(.ref ca), (.ref ca), (.ref xs), (.ref xs)])) (fun _ k => XS.dup X18.here hx rfl (hb hby at_833) rfl rfl k) ?_
                refine Out.via (g' := (mkF m 836 #[.val (.int p0), .val (.int p1), .val (.int p2), .val (.int p3), .val (.int (1 : Int32)), .val (.int sh), .val (.int c1), .val (.int c2), .val (.ref s12), .unset, .val .null, .unset, .unset, .unset] [(.int (14 : Int32)), (.ref ca), (.ref ca), (.ref xs), (.ref xs)])) (fun _ k => XS.bipush X18.here hx rfl (hb hby at_834) k) ?_
                refine Out.via (g' := (mkF m 838 #[.val (.int p0), .val (.int p1), .val (.int p2), .val (.int p3), .val (.int (1 : Int32)), .val (.int sh), .val (.int c1), .val (.int c2), .val (.ref s12), .unset, .val .null, .unset, .unset, .unset] [(.int (111 : Int32)), (.int (14 : Int32)), (.ref ca), (.ref ca), (.ref xs), (.ref xs)])) (fun _ k => XS.bipush X18.here hx rfl (hb hby at_836) k) ?_
                obtain ⟨T19, h19, L19, X19, e19, V_ca, N0, O, Kf4, st19⟩ := own_stC X18 hx hZ e18 V_ca (j := (14 : Int32)) ⟨by decide, by decide⟩ 14 rfl (Nat.le_of_ble_eq_true rfl) g_ca N0 O Kf4 (Or.inl (List.mem_of_getElem? (i := 0) rfl)) (g := (mkF m 838 #[.val (.int p0), .val (.int p1), .val (.int p2), .val (.int p3), .val (.int (1 : Int32)), .val (.int sh), .val (.int c1), .val (.int c2), .val (.ref s12), .unset, .val .null, .unset, .unset, .unset] [(.int (111 : Int32)), (.int (14 : Int32)), (.ref ca), (.ref ca), (.ref xs), (.ref xs)])) rfl rfl (hb hby at_838)
                replace V_ca : Arv Z h19 ca kA3 .char (21 : Int32) [(.int (nar .char c1)), (.int (nar .char (97 : Int32))), (.int (nar .char (112 : Int32))), (.int (nar .char (112 : Int32))), (.int (nar .char (108 : Int32))), (.int (nar .char (105 : Int32))), (.int (nar .char (99 : Int32))), (.int (nar .char (97 : Int32))), (.int (nar .char (116 : Int32))), (.int (nar .char (105 : Int32))), (.int (nar .char (111 : Int32))), (.int (nar .char (110 : Int32))), (.int (nar .char (47 : Int32))), (.int (nar .char (115 : Int32))), (.int (nar .char (111 : Int32))), (.int (0 : Int32)), (.int (0 : Int32)), (.int (0 : Int32)), (.int (0 : Int32)), (.int (0 : Int32)), (.int (0 : Int32))] (.int (0 : Int32)) := V_ca
                refine Out.via (g' := (mkF m 839 #[.val (.int p0), .val (.int p1), .val (.int p2), .val (.int p3), .val (.int (1 : Int32)), .val (.int sh), .val (.int c1), .val (.int c2), .val (.ref s12), .unset, .val .null, .unset, .unset, .unset] [(.ref ca), (.ref xs), (.ref xs)])) st19 ?_
                refine Out.via (g' := (mkF m 840 #[.val (.int p0), .val (.int p1), .val (.int p2), .val (.int p3), .val (.int (1 : Int32)), .val (.int sh), .val (.int c1), .val (.int c2), .val (.ref s12), .unset, .val .null, .unset, .unset, .unset] [(.ref ca), (.ref ca), (.ref xs), (.ref xs)])) (fun _ k => XS.dup X19.here hx rfl (hb hby at_839) rfl rfl k) ?_
                refine Out.via (g' := (mkF m 842 #[.val (.int p0), .val (.int p1), .val (.int p2), .val (.int p3), .val (.int (1 : Int32)), .val (.int sh), .val (.int c1), .val (.int c2), .val (.ref s12), .unset, .val .null, .unset, .unset, .unset] [(.int (15 : Int32)), (.ref ca), (.ref ca), (.ref xs), (.ref xs)])) (fun _ k => XS.bipush X19.here hx rfl (hb hby at_840) k) ?_
                refine Out.via (g' := (mkF m 844 #[.val (.int p0), .val (.int p1), .val (.int p2), .val (.int p3), .val (.int (1 : Int32)), .val (.int sh), .val (.int c1), .val (.int c2), .val (.ref s12), .unset, .val .null, .unset, .unset, .unset] [(.int (97 : Int32)), (.int (15 : Int32)), (.ref ca), (.ref ca), (.ref xs), (.ref xs)])) (fun _ k => XS.bipush X19.here hx rfl (hb hby at_842) k) ?_
                obtain ⟨T20, h20, L20, X20, e20, V_ca, N0, O, Kf4, st20⟩ := own_stC X19 hx hZ e19 V_ca (j := (15 : Int32)) ⟨by decide, by decide⟩ 15 rfl (Nat.le_of_ble_eq_true rfl) g_ca N0 O Kf4 (Or.inl (List.mem_of_getElem? (i := 0) rfl)) (g := (mkF m 844 #[.val (.int p0), .val (.int p1), .val (.int p2), .val (.int p3), .val (.int (1 : Int32)), .val (.int sh), .val (.int c1), .val (.int c2), .val (.ref s12), .unset, .val .null, .unset, .unset, .unset] [(.int (97 : Int32)), (.int (15 : Int32)), (.ref ca), (.ref ca), (.ref xs), (.ref xs)])) rfl rfl (hb hby at_844)
                replace V_ca : Arv Z h20 ca kA3 .char (21 : Int32) [(.int (nar .char c1)), (.int (nar .char (97 : Int32))), (.int (nar .char (112 : Int32))), (.int (nar .char (112 : Int32))), (.int (nar .char (108 : Int32))), (.int (nar .char (105 : Int32))), (.int (nar .char (99 : Int32))), (.int (nar .char (97 : Int32))), (.int (nar .char (116 : Int32))), (.int (nar .char (105 : Int32))), (.int (nar .char (111 : Int32))), (.int (nar .char (110 : Int32))), (.int (nar .char (47 : Int32))), (.int (nar .char (115 : Int32))), (.int (nar .char (111 : Int32))), (.int (nar .char (97 : Int32))), (.int (0 : Int32)), (.int (0 : Int32)), (.int (0 : Int32)), (.int (0 : Int32)), (.int (0 : Int32))] (.int (0 : Int32)) := V_ca
                refine Out.via (g' := (mkF m 845 #[.val (.int p0), .val (.int p1), .val (.int p2), .val (.int p3), .val (.int (1 : Int32)), .val (.int sh), .val (.int c1), .val (.int c2), .val (.ref s12), .unset, .val .null, .unset, .unset, .unset] [(.ref ca), (.ref xs), (.ref xs)])) st20 ?_
                refine Out.via (g' := (mkF m 846 #[.val (.int p0), .val (.int p1), .val (.int p2), .val (.int p3), .val (.int (1 : Int32)), .val (.int sh), .val (.int c1), .val (.int c2), .val (.ref s12), .unset, .val .null, .unset, .unset, .unset] [(.ref ca), (.ref ca), (.ref xs), (.ref xs)])) (fun _ k => XS.dup X20.here hx rfl (hb hby at_845) rfl rfl k) ?_
                refine Out.via (g' := (mkF m 848 #[.val (.int p0), .val (.int p1), .val (.int p2), .val (.int p3), .val (.int (1 : Int32)), .val (.int sh), .val (.int c1), .val (.int c2), .val (.ref s12), .unset, .val .null, .unset, .unset, .unset] [(.int (16 : Int32)), (.ref ca), (.ref ca), (.ref xs), (.ref xs)])) (fun _ k => XS.bipush X20.here hx rfl (hb hby at_846) k) ?_
                refine Out.via (g' := (mkF m 850 #[.val (.int p0), .val (.int p1), .val (.int p2), .val (.int p3), .val (.int (1 : Int32)), .val (.int sh), .val (.int c1), .val (.int c2), .val (.ref s12), .unset, .val .null, .unset, .unset, .unset] [(.int (112 : Int32)), (.int (16 : Int32)), (.ref ca), (.ref ca), (.ref xs), (.ref xs)])) (fun _ k => XS.bipush X20.here hx rfl (hb hby at_848) k) ?_
                obtain ⟨T21, h21, L21, X21, e21, V_ca, N0, O, Kf4, st21⟩ := own_stC X20 hx hZ e20 V_ca (j := (16 : Int32)) ⟨by decide, by decide⟩ 16 rfl (Nat.le_of_ble_eq_true rfl) g_ca N0 O Kf4 (Or.inl (List.mem_of_getElem? (i := 0) rfl)) (g := (mkF m 850 #[.val (.int p0), .val (.int p1), .val (.int p2), .val (.int p3), .val (.int (1 : Int32)), .val (.int sh), .val (.int c1), .val (.int c2), .val (.ref s12), .unset, .val .null, .unset, .unset, .unset] [(.int (112 : Int32)), (.int (16 : Int32)), (.ref ca), (.ref ca), (.ref xs), (.ref xs)])) rfl rfl (hb hby at_850)
                replace V_ca : Arv Z h21 ca kA3 .char (21 : Int32) [(.int (nar .char c1)), (.int (nar .char (97 : Int32))), (.int (nar .char (112 : Int32))), (.int (nar .char (112 : Int32))), (.int (nar .char (108 : Int32))), (.int (nar .char (105 : Int32))), (.int (nar .char (99 : Int32))), (.int (nar .char (97 : Int32))), (.int (nar .char (116 : Int32))), (.int (nar .char (105 : Int32))), (.int (nar .char (111 : Int32))), (.int (nar .char (110 : Int32))), (.int (nar .char (47 : Int32))), (.int (nar .char (115 : Int32))), (.int (nar .char (111 : Int32))), (.int (nar .char (97 : Int32))), (.int (nar .char (112 : Int32))), (.int (0 : Int32)), (.int (0 : Int32)), (.int (0 : Int32)), (.int (0 : Int32))] (.int (0 : Int32)) := V_ca
                refine Out.via (g' := (mkF m 851 #[.val (.int p0), .val (.int p1), .val (.int p2), .val (.int p3), .val (.int (1 : Int32)), .val (.int sh), .val (.int c1), .val (.int c2), .val (.ref s12), .unset, .val .null, .unset, .unset, .unset] [(.ref ca), (.ref xs), (.ref xs)])) st21 ?_
                refine Out.via (g' := (mkF m 852 #[.val (.int p0), .val (.int p1), .val (.int p2), .val (.int p3), .val (.int (1 : Int32)), .val (.int sh), .val (.int c1), .val (.int c2), .val (.ref s12), .unset, .val .null, .unset, .unset, .unset] [(.ref ca), (.ref ca), (.ref xs), (.ref xs)])) (fun _ k => XS.dup X21.here hx rfl (hb hby at_851) rfl rfl k) ?_
                refine Out.via (g' := (mkF m 854 #[.val (.int p0), .val (.int p1), .val (.int p2), .val (.int p3), .val (.int (1 : Int32)), .val (.int sh), .val (.int c1), .val (.int c2), .val (.ref s12), .unset, .val .null, .unset, .unset, .unset] [(.int (17 : Int32)), (.ref ca), (.ref ca), (.ref xs), (.ref xs)])) (fun _ k => XS.bipush X21.here hx rfl (hb hby at_852) k) ?_
                refine Out.via (g' := (mkF m 856 #[.val (.int p0), .val (.int p1), .val (.int p2), .val (.int p3), .val (.int (1 : Int32)), .val (.int sh), .val (.int c1), .val (.int c2), .val (.ref s12), .unset, .val .null, .unset, .unset, .unset] [(.int (43 : Int32)), (.int (17 : Int32)), (.ref ca), (.ref ca), (.ref xs), (.ref xs)])) (fun _ k => XS.bipush X21.here hx rfl (hb hby at_854) k) ?_
                obtain ⟨T22, h22, L22, X22, e22, V_ca, N0, O, Kf4, st22⟩ := own_stC X21 hx hZ e21 V_ca (j := (17 : Int32)) ⟨by decide, by decide⟩ 17 rfl (Nat.le_of_ble_eq_true rfl) g_ca N0 O Kf4 (Or.inl (List.mem_of_getElem? (i := 0) rfl)) (g := (mkF m 856 #[.val (.int p0), .val (.int p1), .val (.int p2), .val (.int p3), .val (.int (1 : Int32)), .val (.int sh), .val (.int c1), .val (.int c2), .val (.ref s12), .unset, .val .null, .unset, .unset, .unset] [(.int (43 : Int32)), (.int (17 : Int32)), (.ref ca), (.ref ca), (.ref xs), (.ref xs)])) rfl rfl (hb hby at_856)
                replace V_ca : Arv Z h22 ca kA3 .char (21 : Int32) [(.int (nar .char c1)), (.int (nar .char (97 : Int32))), (.int (nar .char (112 : Int32))), (.int (nar .char (112 : Int32))), (.int (nar .char (108 : Int32))), (.int (nar .char (105 : Int32))), (.int (nar .char (99 : Int32))), (.int (nar .char (97 : Int32))), (.int (nar .char (116 : Int32))), (.int (nar .char (105 : Int32))), (.int (nar .char (111 : Int32))), (.int (nar .char (110 : Int32))), (.int (nar .char (47 : Int32))), (.int (nar .char (115 : Int32))), (.int (nar .char (111 : Int32))), (.int (nar .char (97 : Int32))), (.int (nar .char (112 : Int32))), (.int (nar .char (43 : Int32))), (.int (0 : Int32)), (.int (0 : Int32)), (.int (0 : Int32))] (.int (0 : Int32)) := V_ca
                refine Out.via (g' := (mkF m 857 #[.val (.int p0), .val (.int p1), .val (.int p2), .val (.int p3), .val (.int (1 : Int32)), .val (.int sh), .val (.int c1), .val (.int c2), .val (.ref s12), .unset, .val .null, .unset, .unset, .unset] [(.ref ca), (.ref xs), (.ref xs)])) st22 ?_
                refine Out.via (g' := (mkF m 858 #[.val (.int p0), .val (.int p1), .val (.int p2), .val (.int p3), .val (.int (1 : Int32)), .val (.int sh), .val (.int c1), .val (.int c2), .val (.ref s12), .unset, .val .null, .unset, .unset, .unset] [(.ref ca), (.ref ca), (.ref xs), (.ref xs)])) (fun _ k => XS.dup X22.here hx rfl (hb hby at_857) rfl rfl k) ?_
                refine Out.via (g' := (mkF m 860 #[.val (.int p0), .val (.int p1), .val (.int p2), .val (.int p3), .val (.int (1 : Int32)), .val (.int sh), .val (.int c1), .val (.int c2), .val (.ref s12), .unset, .val .null, .unset, .unset, .unset] [(.int (18 : Int32)), (.ref ca), (.ref ca), (.ref xs), (.ref xs)])) (fun _ k => XS.bipush X22.here hx rfl (hb hby at_858) k) ?_
                refine Out.via (g' := (mkF m 862 #[.val (.int p0), .val (.int p1), .val (.int p2), .val (.int p3), .val (.int (1 : Int32)), .val (.int sh), .val (.int c1), .val (.int c2), .val (.ref s12), .unset, .val .null, .unset, .unset, .unset] [(.int (120 : Int32)), (.int (18 : Int32)), (.ref ca), (.ref ca), (.ref xs), (.ref xs)])) (fun _ k => XS.bipush X22.here hx rfl (hb hby at_860) k) ?_
                obtain ⟨T23, h23, L23, X23, e23, V_ca, N0, O, Kf4, st23⟩ := own_stC X22 hx hZ e22 V_ca (j := (18 : Int32)) ⟨by decide, by decide⟩ 18 rfl (Nat.le_of_ble_eq_true rfl) g_ca N0 O Kf4 (Or.inl (List.mem_of_getElem? (i := 0) rfl)) (g := (mkF m 862 #[.val (.int p0), .val (.int p1), .val (.int p2), .val (.int p3), .val (.int (1 : Int32)), .val (.int sh), .val (.int c1), .val (.int c2), .val (.ref s12), .unset, .val .null, .unset, .unset, .unset] [(.int (120 : Int32)), (.int (18 : Int32)), (.ref ca), (.ref ca), (.ref xs), (.ref xs)])) rfl rfl (hb hby at_862)
                replace V_ca : Arv Z h23 ca kA3 .char (21 : Int32) [(.int (nar .char c1)), (.int (nar .char (97 : Int32))), (.int (nar .char (112 : Int32))), (.int (nar .char (112 : Int32))), (.int (nar .char (108 : Int32))), (.int (nar .char (105 : Int32))), (.int (nar .char (99 : Int32))), (.int (nar .char (97 : Int32))), (.int (nar .char (116 : Int32))), (.int (nar .char (105 : Int32))), (.int (nar .char (111 : Int32))), (.int (nar .char (110 : Int32))), (.int (nar .char (47 : Int32))), (.int (nar .char (115 : Int32))), (.int (nar .char (111 : Int32))), (.int (nar .char (97 : Int32))), (.int (nar .char (112 : Int32))), (.int (nar .char (43 : Int32))), (.int (nar .char (120 : Int32))), (.int (0 : Int32)), (.int (0 : Int32))] (.int (0 : Int32)) := V_ca
                refine Out.via (g' := (mkF m 863 #[.val (.int p0), .val (.int p1), .val (.int p2), .val (.int p3), .val (.int (1 : Int32)), .val (.int sh), .val (.int c1), .val (.int c2), .val (.ref s12), .unset, .val .null, .unset, .unset, .unset] [(.ref ca), (.ref xs), (.ref xs)])) st23 ?_
                refine Out.via (g' := (mkF m 864 #[.val (.int p0), .val (.int p1), .val (.int p2), .val (.int p3), .val (.int (1 : Int32)), .val (.int sh), .val (.int c1), .val (.int c2), .val (.ref s12), .unset, .val .null, .unset, .unset, .unset] [(.ref ca), (.ref ca), (.ref xs), (.ref xs)])) (fun _ k => XS.dup X23.here hx rfl (hb hby at_863) rfl rfl k) ?_
                refine Out.via (g' := (mkF m 866 #[.val (.int p0), .val (.int p1), .val (.int p2), .val (.int p3), .val (.int (1 : Int32)), .val (.int sh), .val (.int c1), .val (.int c2), .val (.ref s12), .unset, .val .null, .unset, .unset, .unset] [(.int (19 : Int32)), (.ref ca), (.ref ca), (.ref xs), (.ref xs)])) (fun _ k => XS.bipush X23.here hx rfl (hb hby at_864) k) ?_
                refine Out.via (g' := (mkF m 868 #[.val (.int p0), .val (.int p1), .val (.int p2), .val (.int p3), .val (.int (1 : Int32)), .val (.int sh), .val (.int c1), .val (.int c2), .val (.ref s12), .unset, .val .null, .unset, .unset, .unset] [(.int (109 : Int32)), (.int (19 : Int32)), (.ref ca), (.ref ca), (.ref xs), (.ref xs)])) (fun _ k => XS.bipush X23.here hx rfl (hb hby at_866) k) ?_
                obtain ⟨T24, h24, L24, X24, e24, V_ca, N0, O, Kf4, st24⟩ := own_stC X23 hx hZ e23 V_ca (j := (19 : Int32)) ⟨by decide, by decide⟩ 19 rfl (Nat.le_of_ble_eq_true rfl) g_ca N0 O Kf4 (Or.inl (List.mem_of_getElem? (i := 0) rfl)) (g := (mkF m 868 #[.val (.int p0), .val (.int p1), .val (.int p2), .val (.int p3), .val (.int (1 : Int32)), .val (.int sh), .val (.int c1), .val (.int c2), .val (.ref s12), .unset, .val .null, .unset, .unset, .unset] [(.int (109 : Int32)), (.int (19 : Int32)), (.ref ca), (.ref ca), (.ref xs), (.ref xs)])) rfl rfl (hb hby at_868)
                replace V_ca : Arv Z h24 ca kA3 .char (21 : Int32) [(.int (nar .char c1)), (.int (nar .char (97 : Int32))), (.int (nar .char (112 : Int32))), (.int (nar .char (112 : Int32))), (.int (nar .char (108 : Int32))), (.int (nar .char (105 : Int32))), (.int (nar .char (99 : Int32))), (.int (nar .char (97 : Int32))), (.int (nar .char (116 : Int32))), (.int (nar .char (105 : Int32))), (.int (nar .char (111 : Int32))), (.int (nar .char (110 : Int32))), (.int (nar .char (47 : Int32))), (.int (nar .char (115 : Int32))), (.int (nar .char (111 : Int32))), (.int (nar .char (97 : Int32))), (.int (nar .char (112 : Int32))), (.int (nar .char (43 : Int32))), (.int (nar .char (120 : Int32))), (.int (nar .char (109 : Int32))), (.int (0 : Int32))] (.int (0 : Int32)) := V_ca
                refine Out.via (g' := (mkF m 869 #[.val (.int p0), .val (.int p1), .val (.int p2), .val (.int p3), .val (.int (1 : Int32)), .val (.int sh), .val (.int c1), .val (.int c2), .val (.ref s12), .unset, .val .null, .unset, .unset, .unset] [(.ref ca), (.ref xs), (.ref xs)])) st24 ?_
                refine Out.via (g' := (mkF m 870 #[.val (.int p0), .val (.int p1), .val (.int p2), .val (.int p3), .val (.int (1 : Int32)), .val (.int sh), .val (.int c1), .val (.int c2), .val (.ref s12), .unset, .val .null, .unset, .unset, .unset] [(.ref ca), (.ref ca), (.ref xs), (.ref xs)])) (fun _ k => XS.dup X24.here hx rfl (hb hby at_869) rfl rfl k) ?_
                refine Out.via (g' := (mkF m 872 #[.val (.int p0), .val (.int p1), .val (.int p2), .val (.int p3), .val (.int (1 : Int32)), .val (.int sh), .val (.int c1), .val (.int c2), .val (.ref s12), .unset, .val .null, .unset, .unset, .unset] [(.int (20 : Int32)), (.ref ca), (.ref ca), (.ref xs), (.ref xs)])) (fun _ k => XS.bipush X24.here hx rfl (hb hby at_870) k) ?_
                refine Out.via (g' := (mkF m 874 #[.val (.int p0), .val (.int p1), .val (.int p2), .val (.int p3), .val (.int (1 : Int32)), .val (.int sh), .val (.int c1), .val (.int c2), .val (.ref s12), .unset, .val .null, .unset, .unset, .unset] [(.int (108 : Int32)), (.int (20 : Int32)), (.ref ca), (.ref ca), (.ref xs), (.ref xs)])) (fun _ k => XS.bipush X24.here hx rfl (hb hby at_872) k) ?_
                obtain ⟨T25, h25, L25, X25, e25, V_ca, N0, O, Kf4, st25⟩ := own_stC X24 hx hZ e24 V_ca (j := (20 : Int32)) ⟨by decide, by decide⟩ 20 rfl (Nat.le_of_ble_eq_true rfl) g_ca N0 O Kf4 (Or.inl (List.mem_of_getElem? (i := 0) rfl)) (g := (mkF m 874 #[.val (.int p0), .val (.int p1), .val (.int p2), .val (.int p3), .val (.int (1 : Int32)), .val (.int sh), .val (.int c1), .val (.int c2), .val (.ref s12), .unset, .val .null, .unset, .unset, .unset] [(.int (108 : Int32)), (.int (20 : Int32)), (.ref ca), (.ref ca), (.ref xs), (.ref xs)])) rfl rfl (hb hby at_874)
                replace V_ca : Arv Z h25 ca kA3 .char (21 : Int32) [(.int (nar .char c1)), (.int (nar .char (97 : Int32))), (.int (nar .char (112 : Int32))), (.int (nar .char (112 : Int32))), (.int (nar .char (108 : Int32))), (.int (nar .char (105 : Int32))), (.int (nar .char (99 : Int32))), (.int (nar .char (97 : Int32))), (.int (nar .char (116 : Int32))), (.int (nar .char (105 : Int32))), (.int (nar .char (111 : Int32))), (.int (nar .char (110 : Int32))), (.int (nar .char (47 : Int32))), (.int (nar .char (115 : Int32))), (.int (nar .char (111 : Int32))), (.int (nar .char (97 : Int32))), (.int (nar .char (112 : Int32))), (.int (nar .char (43 : Int32))), (.int (nar .char (120 : Int32))), (.int (nar .char (109 : Int32))), (.int (nar .char (108 : Int32)))] (.int (0 : Int32)) := V_ca
                refine Out.via (g' := (mkF m 875 #[.val (.int p0), .val (.int p1), .val (.int p2), .val (.int p3), .val (.int (1 : Int32)), .val (.int sh), .val (.int c1), .val (.int c2), .val (.ref s12), .unset, .val .null, .unset, .unset, .unset] [(.ref ca), (.ref xs), (.ref xs)])) st25 ?_
                replace V_ca : Arv Z h25 ca kA3 .char (21 : Int32) [(.int (nar .char c1)), (.int (nar .char (97 : Int32))), (.int (nar .char (112 : Int32))), (.int (nar .char (112 : Int32))), (.int (nar .char (108 : Int32))), (.int (nar .char (105 : Int32))), (.int (nar .char (99 : Int32))), (.int (nar .char (97 : Int32))), (.int (nar .char (116 : Int32))), (.int (nar .char (105 : Int32))), (.int (nar .char (111 : Int32))), (.int (nar .char (110 : Int32))), (.int (nar .char (47 : Int32))), (.int (nar .char (115 : Int32))), (.int (nar .char (111 : Int32))), (.int (nar .char (97 : Int32))), (.int (nar .char (112 : Int32))), (.int (nar .char (43 : Int32))), (.int (nar .char (120 : Int32))), (.int (nar .char (109 : Int32))), (.int (nar .char (108 : Int32)))] (.int (0 : Int32)) := V_ca
                replace hk : _ ≤ h25.size := Nat.le_trans hk Kf4.1
                replace F_value_xs := F_value_xs.keep Kf4 (ninS ne_xs_ca nin0)
                replace F_coder_xs := F_coder_xs.keep Kf4 (ninS ne_xs_ca nin0)
                replace A2 := A2.keep Kf4
                have hp : ∀ c ∈ ([(nar .char c1), (nar .char (97 : Int32)), (nar .char (112 : Int32)), (nar .char (112 : Int32)), (nar .char (108 : Int32)), (nar .char (105 : Int32)), (nar .char (99 : Int32)), (nar .char (97 : Int32)), (nar .char (116 : Int32)), (nar .char (105 : Int32)), (nar .char (111 : Int32)), (nar .char (110 : Int32)), (nar .char (47 : Int32)), (nar .char (115 : Int32)), (nar .char (111 : Int32)), (nar .char (97 : Int32)), (nar .char (112 : Int32)), (nar .char (43 : Int32)), (nar .char (120 : Int32)), (nar .char (109 : Int32)), (nar .char (108 : Int32))] : List Int32), own_lat c := own_allS (by rw [own_lat_nar D_c1]; exact D_c1) (own_allS (by unfold own_lat; decide) (own_allS (by unfold own_lat; decide) (own_allS (by unfold own_lat; decide) (own_allS (by unfold own_lat; decide) (own_allS (by unfold own_lat; decide) (own_allS (by unfold own_lat; decide) (own_allS (by unfold own_lat; decide) (own_allS (by unfold own_lat; decide) (own_allS (by unfold own_lat; decide) (own_allS (by unfold own_lat; decide) (own_allS (by unfold own_lat; decide) (own_allS (by unfold own_lat; decide) (own_allS (by unfold own_lat; decide) (own_allS (by unfold own_lat; decide) (own_allS (by unfold own_lat; decide) (own_allS (by unfold own_lat; decide) (own_allS (by unfold own_lat; decide) (own_allS (by unfold own_lat; decide) (own_allS (by unfold own_lat; decide) (own_allS (by unfold own_lat; decide) (own_all0)))))))))))))))))))))
                obtain ⟨_, _, ⟨T26, L26, kc26, ks26⟩, -, X26, ⟨Lc26, hQ26, l26, y26, z26⟩, st26⟩ := X25.specialBack hx (y := (⟨"java/lang/String", "<init>", "([C)V"⟩ : MethodName)) rfl hown (mvT hZ (hw _ (List.mem_of_getElem? (i := 50) rfl))) (mvT hZ (hw _ (List.mem_of_getElem? (i := 51) rfl))) (mvT hZ (hw _ (List.mem_of_getElem? (i := 52) rfl))) (by decide) (StrChars.Road.backV (W := 1) hZ hws (kI := 4) (hw _ (List.mem_of_getElem? (i := 5) rfl)) (cs := ([(nar .char c1), (nar .char (97 : Int32)), (nar .char (112 : Int32)), (nar .char (112 : Int32)), (nar .char (108 : Int32)), (nar .char (105 : Int32)), (nar .char (99 : Int32)), (nar .char (97 : Int32)), (nar .char (116 : Int32)), (nar .char (105 : Int32)), (nar .char (111 : Int32)), (nar .char (110 : Int32)), (nar .char (47 : Int32)), (nar .char (115 : Int32)), (nar .char (111 : Int32)), (nar .char (97 : Int32)), (nar .char (112 : Int32)), (nar .char (43 : Int32)), (nar .char (120 : Int32)), (nar .char (109 : Int32)), (nar .char (108 : Int32))] : List Int32)) (bs := ([(nar .char c1), (nar .char (97 : Int32)), (nar .char (112 : Int32)), (nar .char (112 : Int32)), (nar .char (108 : Int32)), (nar .char (105 : Int32)), (nar .char (99 : Int32)), (nar .char (97 : Int32)), (nar .char (116 : Int32)), (nar .char (105 : Int32)), (nar .char (111 : Int32)), (nar .char (110 : Int32)), (nar .char (47 : Int32)), (nar .char (115 : Int32)), (nar .char (111 : Int32)), (nar .char (97 : Int32)), (nar .char (112 : Int32)), (nar .char (43 : Int32)), (nar .char (120 : Int32)), (nar .char (109 : Int32)), (nar .char (108 : Int32))] : List Int32).map (fun c => c.toInt8.toInt32)) (n := 21) g_xs (own_z0 O) A2 F_value_xs F_coder_xs V_ca (O2.ext O.2) P5 rfl rfl (by decide) (by decide) hp rfl (by decide) (by decide)) (g := (mkF m 875 #[.val (.int p0), .val (.int p1), .val (.int p2), .val (.int p3), .val (.int (1 : Int32)), .val (.int sh), .val (.int c1), .val (.int c2), .val (.ref s12), .unset, .val .null, .unset, .unset, .unset] [(.ref ca), (.ref xs), (.ref xs)])) rfl (by rw [hml]; rfl) (Steps.refl _) (a := xs) (argsL := [(.ref ca)]) (rest := [(.ref xs)]) (lenOf own_pd11 rfl) rfl (by show 2 * 0 + _ ≤ _; exact Nat.le_of_eq rfl) (hb hby at_875) (fun _ _ => ⟨rfl, e25, (by decide : 2 + 1 ≤ _), (by decide : 25 + 21 ≤ _)⟩)
                dsimp only [Pt.U, Pt.locs, Pt.cells, Pt.slots] at X26 l26 y26 z26 st26 hQ26
                subst l26 y26 z26
                obtain ⟨rfl, Nq26, Kq26, Eq, Cq, tb, kb, ut, vt, wt, Vq, Aq⟩ := hQ26
                replace N0 := Fr.app N0 Nq26
                replace hk : _ ≤ T26.heap.size := Nat.le_trans hk Kq26.1
                replace A2 := A2.keep Kq26
                replace V_ca := V_ca.keep Kq26 (ninS (Ne.symm ne_xs_ca) nin0)
                replace O := O.keep Kq26 (allS g_xs all0)
                refine Out.to (g' := (mkF m 878 #[.val (.int p0), .val (.int p1), .val (.int p2), .val (.int p3), .val (.int (1 : Int32)), .val (.int sh), .val (.int c1), .val (.int c2), .val (.ref s12), .unset, .val .null, .unset, .unset, .unset] [(.ref xs)])) st26 ?_
                have Sx : own_Str Z T26.heap xs ([(nar .char c1), (nar .char (97 : Int32)), (nar .char (112 : Int32)), (nar .char (112 : Int32)), (nar .char (108 : Int32)), (nar .char (105 : Int32)), (nar .char (99 : Int32)), (nar .char (97 : Int32)), (nar .char (116 : Int32)), (nar .char (105 : Int32)), (nar .char (111 : Int32)), (nar .char (110 : Int32)), (nar .char (47 : Int32)), (nar .char (115 : Int32)), (nar .char (111 : Int32)), (nar .char (97 : Int32)), (nar .char (112 : Int32)), (nar .char (43 : Int32)), (nar .char (120 : Int32)), (nar .char (109 : Int32)), (nar .char (108 : Int32))] : List Int32) := ⟨hp, Eq, Cq, tb, kb, Vq, Aq⟩
                refine Out.via (g' := (mkF m 940 #[.val (.int p0), .val (.int p1), .val (.int p2), .val (.int p3), .val (.int (1 : Int32)), .val (.int sh), .val (.int c1), .val (.int c2), .val (.ref s12), .unset, .val .null, .unset, .unset, .unset] [(.ref xs)])) (fun _ k => XS.goto X26.here hx rfl (pc0 := 878) (pc' := 940) rfl (hb hby at_878) (by decide) (by decide) k) ?_
                refine Out.via (g' := (mkF m 942 #[.val (.int p0), .val (.int p1), .val (.int p2), .val (.int p3), .val (.int (1 : Int32)), .val (.int sh), .val (.int c1), .val (.int c2), .val (.ref s12), .val (.ref xs), .val .null, .unset, .unset, .unset] [])) (fun _ k => XS.astore X26.here hx rfl (hb hby at_940) rfl rfl (l' := #[.val (.int p0), .val (.int p1), .val (.int p2), .val (.int p3), .val (.int (1 : Int32)), .val (.int sh), .val (.int c1), .val (.int c2), .val (.ref s12), .val (.ref xs), .val .null, .unset, .unset, .unset]) rfl k) ?_
                refine Out.via (g' := (mkF m 995 #[.val (.int p0), .val (.int p1), .val (.int p2), .val (.int p3), .val (.int (1 : Int32)), .val (.int sh), .val (.int c1), .val (.int c2), .val (.ref s12), .val (.ref xs), .val .null, .unset, .unset, .unset] [])) (fun _ k => XS.goto X26.here hx rfl (pc0 := 942) (pc' := 995) rfl (hb hby at_942) (by decide) (by decide) k) ?_
                exact own_tail #[.val (.int p0), .val (.int p1), .val (.int p2), .val (.int p3), .val (.int (1 : Int32)), .val (.int sh), .val (.int c1), .val (.int c2), .val (.ref s12), .val (.ref xs), .val .null, .unset, .unset, .unset] xs va s11 s12 m11 m12 kv ([(nar .char c1), (nar .char (97 : Int32)), (nar .char (112 : Int32)), (nar .char (112 : Int32)), (nar .char (108 : Int32)), (nar .char (105 : Int32)), (nar .char (99 : Int32)), (nar .char (97 : Int32)), (nar .char (116 : Int32)), (nar .char (105 : Int32)), (nar .char (111 : Int32)), (nar .char (110 : Int32)), (nar .char (47 : Int32)), (nar .char (115 : Int32)), (nar .char (111 : Int32)), (nar .char (97 : Int32)), (nar .char (112 : Int32)), (nar .char (43 : Int32)), (nar .char (120 : Int32)), (nar .char (109 : Int32)), (nar .char (108 : Int32))] : List Int32) G1 .null X26 hx hS hk hZ hw hby hml hown Bd.returns Bd.notSynchronized rfl O N0 Sx (Nat.le_of_ble_eq_true rfl) SVA EVA AVA F11 S11 F12 S12 O2 P5 (own_Ans.len (by show 21 ≠ 8; decide) (by show 21 ≠ 20; decide)) rfl rfl rfl (by decide) (by decide)
              · refine Out.via (g' := (mkF m 945 #[.val (.int p0), .val (.int p1), .val (.int p2), .val (.int p3), .val (.int (1 : Int32)), .val (.int sh), .val (.int c1), .val (.int c2), .val (.ref s12), .unset, .val .null, .unset, .unset, .unset] [])) (fun _ k => XS.icmpYes X1.here hx rfl (pc0 := 739) (pc' := 945) rfl (hb hby at_739) rfl (feq h5c).2 (by decide) (by decide) k) ?_
                refine Out.via (g' := (mkF m 947 #[.val (.int p0), .val (.int p1), .val (.int p2), .val (.int p3), .val (.int (1 : Int32)), .val (.int sh), .val (.int c1), .val (.int c2), .val (.ref s12), .unset, .val .null, .unset, .unset, .unset] [(.int sh)])) (fun _ k => XS.iload X1.here hx rfl (hb hby at_945) rfl k) ?_
                refine Out.via (g' := (mkF m 949 #[.val (.int p0), .val (.int p1), .val (.int p2), .val (.int p3), .val (.int (1 : Int32)), .val (.int sh), .val (.int c1), .val (.int c2), .val (.ref s12), .unset, .val .null, .unset, .unset, .unset] [(.int (6 : Int32)), (.int sh)])) (fun _ k => XS.bipush X1.here hx rfl (hb hby at_947) k) ?_
                by_cases h6c : sh = (6 : Int32)
                · refine Out.via (g' := (mkF m 952 #[.val (.int p0), .val (.int p1), .val (.int p2), .val (.int p3), .val (.int (1 : Int32)), .val (.int sh), .val (.int c1), .val (.int c2), .val (.ref s12), .unset, .val .null, .unset, .unset, .unset] [])) (fun _ k => XS.icmpNo X1.here hx rfl (hb hby at_949) rfl (teq h6c).2 k) ?_
                  refine Out.via (g' := (mkF m 953 #[.val (.int p0), .val (.int p1), .val (.int p2), .val (.int p3), .val (.int (1 : Int32)), .val (.int sh), .val (.int c1), .val (.int c2), .val (.ref s12), .unset, .val .null, .unset, .unset, .unset] [(.int p2)])) (fun _ k => XS.iloadN X1.here hx rfl (hb hby at_952) rfl k) ?_
                  refine Out.via (g' := (mkF m 954 #[.val (.int p0), .val (.int p1), .val (.int p2), .val (.int p3), .val (.int (1 : Int32)), .val (.int sh), .val (.int c1), .val (.int c2), .val (.ref s12), .unset, .val .null, .unset, .unset, .unset] [(.int (1 : Int32)), (.int p2)])) (fun _ k => XS.iconst X1.here hx rfl (hb hby at_953) k) ?_
                  refine Out.via (g' := (mkF m 955 #[.val (.int p0), .val (.int p1), .val (.int p2), .val (.int p3), .val (.int (1 : Int32)), .val (.int sh), .val (.int c1), .val (.int c2), .val (.ref s12), .unset, .val .null, .unset, .unset, .unset] [(.int (p2 &&& (1 : Int32)))])) (fun _ k => XS.iand X1.here hx rfl (hb hby at_954) rfl k) ?_
                  by_cases hat : (p2 &&& (1 : Int32)) = (0 : Int32)
                  · refine Out.via (g' := (mkF m 958 #[.val (.int p0), .val (.int p1), .val (.int p2), .val (.int p3), .val (.int (1 : Int32)), .val (.int sh), .val (.int c1), .val (.int c2), .val (.ref s12), .unset, .val .null, .unset, .unset, .unset] [])) (fun _ k => XS.ifNo X1.here hx rfl (hb hby at_955) rfl ((if0 _ _).trans (teq hat).2) k) ?_
                    obtain ⟨la, T2, h2, kk2, lb, kb_la, X2, e2, E2, hS, hk, hZ, hown, Eq_la, Cq_la, Vq_la, Aq_la, lt_la, lt_lb, CR2, Lit_la, nes_la, st2⟩ := ldcCH X1 hx hZ hown (hw _ (List.mem_of_getElem? (i := 46) rfl)) wS e1 hS hk hEL (by decide) CR.1 (vs := []) (z := (0 : Int32)) ⟨by decide, rfl⟩ (by decide) rfl (g := (mkF m 958 #[.val (.int p0), .val (.int p1), .val (.int p2), .val (.int p3), .val (.int (1 : Int32)), .val (.int sh), .val (.int c1), .val (.int c2), .val (.ref s12), .unset, .val .null, .unset, .unset, .unset] [])) rfl (hb hby at_958) (n := 0) (by decide) (by decide) (by decide) (by decide)
                    replace O := O.ext E2
                    have Sl : own_Str Z h2 la [] := ⟨own_all0, Eq_la, Cq_la, lb, kb_la, Vq_la, Aq_la⟩
                    refine Out.via (g' := (mkF m 960 #[.val (.int p0), .val (.int p1), .val (.int p2), .val (.int p3), .val (.int (1 : Int32)), .val (.int sh), .val (.int c1), .val (.int c2), .val (.ref s12), .unset, .val .null, .unset, .unset, .unset] [(.ref la)])) st2 ?_
                    refine Out.via (g' := (mkF m 968 #[.val (.int p0), .val (.int p1), .val (.int p2), .val (.int p3), .val (.int (1 : Int32)), .val (.int sh), .val (.int c1), .val (.int c2), .val (.ref s12), .unset, .val .null, .unset, .unset, .unset] [(.ref la)])) (fun _ k => XS.goto X2.here hx rfl (pc0 := 960) (pc' := 968) rfl (hb hby at_960) (by decide) (by decide) k) ?_
                    refine Out.via (g' := (mkF m 970 #[.val (.int p0), .val (.int p1), .val (.int p2), .val (.int p3), .val (.int (1 : Int32)), .val (.int sh), .val (.int c1), .val (.int c2), .val (.ref s12), .val (.ref la), .val .null, .unset, .unset, .unset] [])) (fun _ k => XS.astore X2.here hx rfl (hb hby at_968) rfl rfl (l' := #[.val (.int p0), .val (.int p1), .val (.int p2), .val (.int p3), .val (.int (1 : Int32)), .val (.int sh), .val (.int c1), .val (.int c2), .val (.ref s12), .val (.ref la), .val .null, .unset, .unset, .unset]) rfl k) ?_
                    refine Out.via (g' := (mkF m 995 #[.val (.int p0), .val (.int p1), .val (.int p2), .val (.int p3), .val (.int (1 : Int32)), .val (.int sh), .val (.int c1), .val (.int c2), .val (.ref s12), .val (.ref la), .val .null, .unset, .unset, .unset] [])) (fun _ k => XS.goto X2.here hx rfl (pc0 := 970) (pc' := 995) rfl (hb hby at_970) (by decide) (by decide) k) ?_
                    exact own_tail #[.val (.int p0), .val (.int p1), .val (.int p2), .val (.int p3), .val (.int (1 : Int32)), .val (.int sh), .val (.int c1), .val (.int c2), .val (.ref s12), .val (.ref la), .val .null, .unset, .unset, .unset] la va s11 s12 m11 m12 kv [] G1 .null X2 hx hS hk hZ hw hby hml hown Bd.returns Bd.notSynchronized e2 O N0 Sl (by decide) SVA EVA AVA F11 S11 F12 S12 O2 P5 (own_Ans.len (by decide) (by decide)) rfl rfl rfl (by decide) (by decide)
                  · refine Out.via (g' := (mkF m 963 #[.val (.int p0), .val (.int p1), .val (.int p2), .val (.int p3), .val (.int (1 : Int32)), .val (.int sh), .val (.int c1), .val (.int c2), .val (.ref s12), .unset, .val .null, .unset, .unset, .unset] [])) (fun _ k => XS.ifYes X1.here hx rfl (pc0 := 955) (pc' := 963) rfl (hb hby at_955) rfl ((if0 _ _).trans (feq hat).2) (by decide) (by decide) k) ?_
                    refine Out.via (g' := (mkF m 965 #[.val (.int p0), .val (.int p1), .val (.int p2), .val (.int p3), .val (.int (1 : Int32)), .val (.int sh), .val (.int c1), .val (.int c2), .val (.ref s12), .unset, .val .null, .unset, .unset, .unset] [(.int c1)])) (fun _ k => XS.iload X1.here hx rfl (hb hby at_963) rfl k) ?_
                    obtain ⟨_, _, ⟨T2, L2, kc2, ks2⟩, -, X2, ⟨Lc2, hQ2, l2, y2, z2⟩, st2⟩ := Jvm.LawKit.callS X1 hx (y := (⟨"java/lang/String", "valueOf", "(C)Ljava/lang/String;"⟩ : MethodName)) hown (mvT hZ (hw _ (List.mem_of_getElem? (i := 75) rfl))) (mvT hZ (hw _ (List.mem_of_getElem? (i := 76) rfl))) (mvT hZ (hw _ (List.mem_of_getElem? (i := 4) rfl))) (mvT hZ (hw _ (List.mem_of_getElem? (i := 77) rfl))) (by decide) (backOf (W := 0) (own_rm16 l Z a0 hw [] c1 G1 h0 n0 O D_c1 O2 P5) hZ (hw _ (List.mem_of_getElem? (i := 77) rfl)) (hw _ (List.mem_of_getElem? (i := 4) rfl)) (by decide) (by decide)) (g := (mkF m 965 #[.val (.int p0), .val (.int p1), .val (.int p2), .val (.int p3), .val (.int (1 : Int32)), .val (.int sh), .val (.int c1), .val (.int c2), .val (.ref s12), .unset, .val .null, .unset, .unset, .unset] [(.int c1)])) rfl (by rw [hml]; rfl) (argsL := [(.int c1)]) (rest := []) (lenOf own_pd12 rfl) rfl (by show 2 * 0 + _ ≤ _; exact Nat.le_of_eq rfl) (hb hby at_965) (fun _ _ => ⟨rfl, e1, (by decide : 0 + 2 ≤ _), (by decide : 0 + 5 ≤ _)⟩)
                    dsimp only [Pt.U, Pt.locs, Pt.cells, Pt.slots] at X2 l2 y2 z2 st2 hQ2
                    subst l2 y2 z2
                    obtain ⟨xs, rfl, Nq2, Kq2, le_xs, Sx⟩ := hQ2
                    replace N0 := Fr.app N0 Nq2
                    replace hk : _ ≤ T2.heap.size := Nat.le_trans hk Kq2.1
                    replace O := O.keep Kq2 all0
                    refine Out.via (g' := (mkF m 968 #[.val (.int p0), .val (.int p1), .val (.int p2), .val (.int p3), .val (.int (1 : Int32)), .val (.int sh), .val (.int c1), .val (.int c2), .val (.ref s12), .unset, .val .null, .unset, .unset, .unset] [(.ref xs)])) st2 ?_
                    refine Out.via (g' := (mkF m 970 #[.val (.int p0), .val (.int p1), .val (.int p2), .val (.int p3), .val (.int (1 : Int32)), .val (.int sh), .val (.int c1), .val (.int c2), .val (.ref s12), .val (.ref xs), .val .null, .unset, .unset, .unset] [])) (fun _ k => XS.astore X2.here hx rfl (hb hby at_968) rfl rfl (l' := #[.val (.int p0), .val (.int p1), .val (.int p2), .val (.int p3), .val (.int (1 : Int32)), .val (.int sh), .val (.int c1), .val (.int c2), .val (.ref s12), .val (.ref xs), .val .null, .unset, .unset, .unset]) rfl k) ?_
                    refine Out.via (g' := (mkF m 995 #[.val (.int p0), .val (.int p1), .val (.int p2), .val (.int p3), .val (.int (1 : Int32)), .val (.int sh), .val (.int c1), .val (.int c2), .val (.ref s12), .val (.ref xs), .val .null, .unset, .unset, .unset] [])) (fun _ k => XS.goto X2.here hx rfl (pc0 := 970) (pc' := 995) rfl (hb hby at_970) (by decide) (by decide) k) ?_
                    exact own_tail #[.val (.int p0), .val (.int p1), .val (.int p2), .val (.int p3), .val (.int (1 : Int32)), .val (.int sh), .val (.int c1), .val (.int c2), .val (.ref s12), .val (.ref xs), .val .null, .unset, .unset, .unset] xs va s11 s12 m11 m12 kv [c1] G1 .null X2 hx hS hk hZ hw hby hml hown Bd.returns Bd.notSynchronized rfl O N0 Sx (Nat.le_of_ble_eq_true rfl) SVA EVA AVA F11 S11 F12 S12 O2 P5 (own_Ans.len (by show 1 ≠ 8; decide) (by show 1 ≠ 20; decide)) rfl rfl rfl (by decide) (by decide)
                · refine Out.via (g' := (mkF m 973 #[.val (.int p0), .val (.int p1), .val (.int p2), .val (.int p3), .val (.int (1 : Int32)), .val (.int sh), .val (.int c1), .val (.int c2), .val (.ref s12), .unset, .val .null, .unset, .unset, .unset] [])) (fun _ k => XS.icmpYes X1.here hx rfl (pc0 := 949) (pc' := 973) rfl (hb hby at_949) rfl (feq h6c).2 (by decide) (by decide) k) ?_
                  obtain ⟨T2, h2, X2, e2, E2, A2, D2, -, st2⟩ := newO X1 hx hZ hown (hw _ (List.mem_of_getElem? (i := 48) rfl)) (hw _ (List.mem_of_getElem? (i := 5) rfl)) (hw _ (List.mem_of_getElem? (i := 4) rfl)) e1 (g := (mkF m 973 #[.val (.int p0), .val (.int p1), .val (.int p2), .val (.int p3), .val (.int (1 : Int32)), .val (.int sh), .val (.int c1), .val (.int c2), .val (.ref s12), .unset, .val .null, .unset, .unset, .unset] [])) rfl (hb hby at_973) (by decide) (by decide)
                  obtain ⟨xs, gq2⟩ : ∃ z, z = h0.size := ⟨_, rfl⟩
                  rw [← gq2] at A2 D2 st2
                  have g_xs : n0 ≤ xs := Nat.le_trans (own_z0 O) (Nat.le_of_eq gq2.symm)
                  replace O := O.ext E2
                  replace hk := Nat.le_trans hk E2.1
                  have F_value_xs : Fld Z h2 xs "java/lang/String" "value" "[B" .null := D2 (Or.inr (hw _ (List.mem_of_getElem? (i := 7) rfl))) (ty := (.array .byte)) (by decide)
                  have F_coder_xs : Fld Z h2 xs "java/lang/String" "coder" "B" (.int (0 : Int32)) := D2 (Or.inr (hw _ (List.mem_of_getElem? (i := 8) rfl))) (ty := .byte) (by decide)
                  refine Out.via (g' := (mkF m 976 #[.val (.int p0), .val (.int p1), .val (.int p2), .val (.int p3), .val (.int (1 : Int32)), .val (.int sh), .val (.int c1), .val (.int c2), .val (.ref s12), .unset, .val .null, .unset, .unset, .unset] [(.ref xs)])) st2 ?_
                  refine Out.via (g' := (mkF m 977 #[.val (.int p0), .val (.int p1), .val (.int p2), .val (.int p3), .val (.int (1 : Int32)), .val (.int sh), .val (.int c1), .val (.int c2), .val (.ref s12), .unset, .val .null, .unset, .unset, .unset] [(.ref xs), (.ref xs)])) (fun _ k => XS.dup X2.here hx rfl (hb hby at_976) rfl rfl k) ?_
                  refine Out.via (g' := (mkF m 978 #[.val (.int p0), .val (.int p1), .val (.int p2), .val (.int p3), .val (.int (1 : Int32)), .val (.int sh), .val (.int c1), .val (.int c2), .val (.ref s12), .unset, .val .null, .unset, .unset, .unset] [(.int (2 : Int32)), (.ref xs), (.ref xs)])) (fun _ k => XS.iconst X2.here hx rfl (hb hby at_977) k) ?_
                  obtain ⟨T3, h3, kA3, X3, e3, E3, A3, st3⟩ := newP X2 hx hZ (hw _ (List.mem_of_getElem? (i := 49) rfl)) e2 (g := (mkF m 978 #[.val (.int p0), .val (.int p1), .val (.int p2), .val (.int p3), .val (.int (1 : Int32)), .val (.int sh), .val (.int c1), .val (.int c2), .val (.ref s12), .unset, .val .null, .unset, .unset, .unset] [(.int (2 : Int32)), (.ref xs), (.ref xs)])) rfl (hb hby at_978) rfl (by decide) (cap := 2) (by decide) (by decide) (by decide) (by decide)
                  obtain ⟨ca, gq3⟩ : ∃ z, z = h2.size := ⟨_, rfl⟩
                  rw [← gq3] at A3 st3
                  have ne_xs_ca : xs ≠ ca := Nat.ne_of_lt (Nat.lt_of_lt_of_le A2.lt (Nat.le_of_eq gq3.symm))
                  have g_ca : n0 ≤ ca := Nat.le_trans (own_z0 O) (Nat.le_of_eq gq3.symm)
                  replace F_value_xs := F_value_xs.ext E3
                  replace F_coder_xs := F_coder_xs.ext E3
                  replace A2 := A2.ext E3
                  replace O := O.ext E3
                  replace hk := Nat.le_trans hk E3.1
                  have V_ca : Arv Z h3 ca kA3 .char (2 : Int32) [(.int (0 : Int32)), (.int (0 : Int32))] (.int (0 : Int32)) := (Arv.new A3 (by decide)).pad (pad_rep [] (.int (0 : Int32)) 2)
                  refine Out.via (g' := (mkF m 980 #[.val (.int p0), .val (.int p1), .val (.int p2), .val (.int p3), .val (.int (1 : Int32)), .val (.int sh), .val (.int c1), .val (.int c2), .val (.ref s12), .unset, .val .null, .unset, .unset, .unset] [(.ref ca), (.ref xs), (.ref xs)])) st3 ?_
                  have Kf4 := Keep.refl h3 [ca]
                  refine Out.via (g' := (mkF m 981 #[.val (.int p0), .val (.int p1), .val (.int p2), .val (.int p3), .val (.int (1 : Int32)), .val (.int sh), .val (.int c1), .val (.int c2), .val (.ref s12), .unset, .val .null, .unset, .unset, .unset] [(.ref ca), (.ref ca), (.ref xs), (.ref xs)])) (fun _ k => XS.dup X3.here hx rfl (hb hby at_980) rfl rfl k) ?_
                  refine Out.via (g' := (mkF m 982 #[.val (.int p0), .val (.int p1), .val (.int p2), .val (.int p3), .val (.int (1 : Int32)), .val (.int sh), .val (.int c1), .val (.int c2), .val (.ref s12), .unset, .val .null, .unset, .unset, .unset] [(.int (0 : Int32)), (.ref ca), (.ref ca), (.ref xs), (.ref xs)])) (fun _ k => XS.iconst X3.here hx rfl (hb hby at_981) k) ?_
                  refine Out.via (g' := (mkF m 984 #[.val (.int p0), .val (.int p1), .val (.int p2), .val (.int p3), .val (.int (1 : Int32)), .val (.int sh), .val (.int c1), .val (.int c2), .val (.ref s12), .unset, .val .null, .unset, .unset, .unset] [(.int c1), (.int (0 : Int32)), (.ref ca), (.ref ca), (.ref xs), (.ref xs)])) (fun _ k => XS.iload X3.here hx rfl (hb hby at_982) rfl k) ?_
                  obtain ⟨T5, h5, L5, X5, e5, V_ca, N0, O, Kf4, st5⟩ := own_stC X3 hx hZ e3 V_ca (j := (0 : Int32)) ⟨by decide, by decide⟩ 0 rfl (Nat.le_of_ble_eq_true rfl) g_ca N0 O Kf4 (Or.inl (List.mem_of_getElem? (i := 0) rfl)) (g := (mkF m 984 #[.val (.int p0), .val (.int p1), .val (.int p2), .val (.int p3), .val (.int (1 : Int32)), .val (.int sh), .val (.int c1), .val (.int c2), .val (.ref s12), .unset, .val .null, .unset, .unset, .unset] [(.int c1), (.int (0 : Int32)), (.ref ca), (.ref ca), (.ref xs), (.ref xs)])) rfl rfl (hb hby at_984)
                  refine Out.via (g' := (mkF m 985 #[.val (.int p0), .val (.int p1), .val (.int p2), .val (.int p3), .val (.int (1 : Int32)), .val (.int sh), .val (.int c1), .val (.int c2), .val (.ref s12), .unset, .val .null, .unset, .unset, .unset] [(.ref ca), (.ref xs), (.ref xs)])) st5 ?_
                  refine Out.via (g' := (mkF m 986 #[.val (.int p0), .val (.int p1), .val (.int p2), .val (.int p3), .val (.int (1 : Int32)), .val (.int sh), .val (.int c1), .val (.int c2), .val (.ref s12), .unset, .val .null, .unset, .unset, .unset] [(.ref ca), (.ref ca), (.ref xs), (.ref xs)])) (fun _ k => XS.dup X5.here hx rfl (hb hby at_985) rfl rfl k) ?_
                  refine Out.via (g' := (mkF m 987 #[.val (.int p0), .val (.int p1), .val (.int p2), .val (.int p3), .val (.int (1 : Int32)), .val (.int sh), .val (.int c1), .val (.int c2), .val (.ref s12), .unset, .val .null, .unset, .unset, .unset] [(.int (1 : Int32)), (.ref ca), (.ref ca), (.ref xs), (.ref xs)])) (fun _ k => XS.iconst X5.here hx rfl (hb hby at_986) k) ?_
                  refine Out.via (g' := (mkF m 989 #[.val (.int p0), .val (.int p1), .val (.int p2), .val (.int p3), .val (.int (1 : Int32)), .val (.int sh), .val (.int c1), .val (.int c2), .val (.ref s12), .unset, .val .null, .unset, .unset, .unset] [(.int c2), (.int (1 : Int32)), (.ref ca), (.ref ca), (.ref xs), (.ref xs)])) (fun _ k => XS.iload X5.here hx rfl (hb hby at_987) rfl k) ?_
                  obtain ⟨T6, h6, L6, X6, e6, V_ca, N0, O, Kf4, st6⟩ := own_stC X5 hx hZ e5 V_ca (j := (1 : Int32)) ⟨by decide, by decide⟩ 1 rfl (Nat.le_of_ble_eq_true rfl) g_ca N0 O Kf4 (Or.inl (List.mem_of_getElem? (i := 0) rfl)) (g := (mkF m 989 #[.val (.int p0), .val (.int p1), .val (.int p2), .val (.int p3), .val (.int (1 : Int32)), .val (.int sh), .val (.int c1), .val (.int c2), .val (.ref s12), .unset, .val .null, .unset, .unset, .unset] [(.int c2), (.int (1 : Int32)), (.ref ca), (.ref ca), (.ref xs), (.ref xs)])) rfl rfl (hb hby at_989)
                  refine Out.via (g' := (mkF m 990 #[.val (.int p0), .val (.int p1), .val (.int p2), .val (.int p3), .val (.int (1 : Int32)), .val (.int sh), .val (.int c1), .val (.int c2), .val (.ref s12), .unset, .val .null, .unset, .unset, .unset] [(.ref ca), (.ref xs), (.ref xs)])) st6 ?_
                  replace V_ca : Arv Z h6 ca kA3 .char (2 : Int32) [(.int (nar .char c1)), (.int (nar .char c2))] (.int (0 : Int32)) := V_ca
                  replace hk : _ ≤ h6.size := Nat.le_trans hk Kf4.1
                  replace F_value_xs := F_value_xs.keep Kf4 (ninS ne_xs_ca nin0)
                  replace F_coder_xs := F_coder_xs.keep Kf4 (ninS ne_xs_ca nin0)
                  replace A2 := A2.keep Kf4
                  have hp : ∀ c ∈ ([nar .char c1, nar .char c2] : List Int32), own_lat c := own_allS (by rw [own_lat_nar D_c1]; exact D_c1) (own_allS (by rw [own_lat_nar D_c2]; exact D_c2) own_all0)
                  obtain ⟨_, _, ⟨T7, L7, kc7, ks7⟩, -, X7, ⟨Lc7, hQ7, l7, y7, z7⟩, st7⟩ := X6.specialBack hx (y := (⟨"java/lang/String", "<init>", "([C)V"⟩ : MethodName)) rfl hown (mvT hZ (hw _ (List.mem_of_getElem? (i := 50) rfl))) (mvT hZ (hw _ (List.mem_of_getElem? (i := 51) rfl))) (mvT hZ (hw _ (List.mem_of_getElem? (i := 52) rfl))) (by decide) (StrChars.Road.backV (W := 1) hZ hws (kI := 4) (hw _ (List.mem_of_getElem? (i := 5) rfl)) (cs := ([nar .char c1, nar .char c2] : List Int32)) (bs := ([nar .char c1, nar .char c2] : List Int32).map (fun c => c.toInt8.toInt32)) (n := 2) g_xs (own_z0 O) A2 F_value_xs F_coder_xs V_ca (O2.ext O.2) P5 rfl rfl (by decide) (by decide) hp rfl (by decide) (by decide)) (g := (mkF m 990 #[.val (.int p0), .val (.int p1), .val (.int p2), .val (.int p3), .val (.int (1 : Int32)), .val (.int sh), .val (.int c1), .val (.int c2), .val (.ref s12), .unset, .val .null, .unset, .unset, .unset] [(.ref ca), (.ref xs), (.ref xs)])) rfl (by rw [hml]; rfl) (Steps.refl _) (a := xs) (argsL := [(.ref ca)]) (rest := [(.ref xs)]) (lenOf own_pd11 rfl) rfl (by show 2 * 0 + _ ≤ _; exact Nat.le_of_eq rfl) (hb hby at_990) (fun _ _ => ⟨rfl, e6, (by decide : 2 + 1 ≤ _), (by decide : 6 + 2 ≤ _)⟩)
                  dsimp only [Pt.U, Pt.locs, Pt.cells, Pt.slots] at X7 l7 y7 z7 st7 hQ7
                  subst l7 y7 z7
                  obtain ⟨rfl, Nq7, Kq7, Eq, Cq, tb, kb, ut, vt, wt, Vq, Aq⟩ := hQ7
                  replace N0 := Fr.app N0 Nq7
                  replace hk : _ ≤ T7.heap.size := Nat.le_trans hk Kq7.1
                  replace A2 := A2.keep Kq7
                  replace V_ca := V_ca.keep Kq7 (ninS (Ne.symm ne_xs_ca) nin0)
                  replace O := O.keep Kq7 (allS g_xs all0)
                  refine Out.to (g' := (mkF m 993 #[.val (.int p0), .val (.int p1), .val (.int p2), .val (.int p3), .val (.int (1 : Int32)), .val (.int sh), .val (.int c1), .val (.int c2), .val (.ref s12), .unset, .val .null, .unset, .unset, .unset] [(.ref xs)])) st7 ?_
                  have Sx : own_Str Z T7.heap xs ([nar .char c1, nar .char c2] : List Int32) := ⟨hp, Eq, Cq, tb, kb, Vq, Aq⟩
                  refine Out.via (g' := (mkF m 995 #[.val (.int p0), .val (.int p1), .val (.int p2), .val (.int p3), .val (.int (1 : Int32)), .val (.int sh), .val (.int c1), .val (.int c2), .val (.ref s12), .val (.ref xs), .val .null, .unset, .unset, .unset] [])) (fun _ k => XS.astore X7.here hx rfl (hb hby at_993) rfl rfl (l' := #[.val (.int p0), .val (.int p1), .val (.int p2), .val (.int p3), .val (.int (1 : Int32)), .val (.int sh), .val (.int c1), .val (.int c2), .val (.ref s12), .val (.ref xs), .val .null, .unset, .unset, .unset]) rfl k) ?_
                  exact own_tail #[.val (.int p0), .val (.int p1), .val (.int p2), .val (.int p3), .val (.int (1 : Int32)), .val (.int sh), .val (.int c1), .val (.int c2), .val (.ref s12), .val (.ref xs), .val .null, .unset, .unset, .unset] xs va s11 s12 m11 m12 kv ([nar .char c1, nar .char c2] : List Int32) G1 .null X7 hx hS hk hZ hw hby hml hown Bd.returns Bd.notSynchronized rfl O N0 Sx (Nat.le_of_ble_eq_true rfl) SVA EVA AVA F11 S11 F12 S12 O2 P5 (own_Ans.len (by show 2 ≠ 8; decide) (by show 2 ≠ 20; decide)) rfl rfl rfl (by decide) (by decide)
theorem own_eqI {args : Array Value} {s : State} {t : Term} {n : Int32} (h : (Jvm.Cond.eq t (.int n)).value args s none s [] = some true) : t.eval args s none [] s = some (.int n) := by
  obtain ⟨x, y, h1, h2, hk, hk'⟩ := cmp_v (Or.inl h)
  obtain rfl : y = .int n := (Option.some.inj ((Term.int_eval n).symm.trans h2)).symm
  obtain ⟨z, rfl⟩ : ∃ z, x = .int z := hk'
  rw [h1, gotT (Cond.eq_ints h1 h2) h]
theorem own_eqR {args : Array Value} {s : State} {t u : Term} {a : Addr} (h : (Jvm.Cond.eq t u).value args s none s [] = some true) (hu : u.eval args s none [] s = some (.ref a)) : t.eval args s none [] s = some (.ref a) := by
  obtain ⟨x, y, h1, h2, hk, hk'⟩ := cmp_v (Or.inl h)
  obtain rfl : y = .ref a := (Option.some.inj (hu.symm.trans h2)).symm
  rw [h1, gotT (eq_R h1 h2 hk'.2 hk'.1) h]
theorem own_len {args : Array Value} {s : State} {t : Term} {n : Int32} {a : Addr} {cl : Cell} {ty : FieldType} (h : (Term.length t).eval args s none [] s = some (.int n)) (ht : t.eval args s none [] s = some (.ref a)) (A : Arr s s.heap a cl ty) : cl.slots.size < 2 ^ 31 ∧ cl.slots.size.toInt32 = n := by
  obtain ⟨b, cell, e1, e2, e3, e4⟩ := Jvm.Lib.length_spec h
  cases ht.symm.trans e1
  cases A.1.symm.trans (State.arrayAt?_spec e2).1
  exact ⟨e3, (Value.int.inj e4).symm⟩
set_option maxRecDepth 65536 in
set_option maxHeartbeats 40000000 in
theorem comes_1 {Post : Tables → Env → Array Value → State → Outcome → State → Prop} (hpost : ∀ tb e args s v u, (limb_1_1.after args s (.returned v) u = true ∧ limb_1_2.after args s (.returned v) u = true ∧ True) → ReturnedEndW s (.returned v) u (Jvm.fieldLocs frame_1_writes args s ++ Jvm.arrayLocs frame_1_arrays args s ++ Jvm.staticLocs frame_1_statics s) 24 3264 → Post tb e args s (.returned v) u) :
    ArmFor flags0 classFile x code maxLocals ret World_1 tables_1 room_1 Calls_1 rest_1 Pre_1 Post := by
  intro l hfl _ _ p e ha hc hk s m args below hf hA hF happ hP
  obtain ⟨hcalls, hrest, hpre⟩ := hP
  obtain ⟨-, -, -, hnamed, -, -, -, hat⟩ := (Spec.applies_iff hf).mp happ
  obtain ⟨hg, hn⟩ := and_e (Cond.before_iff.mp (show (Jvm.Cond.and given_1 narrow_1).before args s = true from hpre))
  obtain ⟨hcnt, hg⟩ := and_e hg
  obtain ⟨g0, hg⟩ := and_e hg
  obtain ⟨g1, hg⟩ := and_e hg
  obtain ⟨g2, hg⟩ := and_e hg
  have g3 := hg
  obtain ⟨w0, w1, w2, w3, rfl⟩ : ∃ w0 w1 w2 w3 : Value, args = #[w0, w1, w2, w3] := by
    have hs : args.size = 4 := by simpa [Cond.value, given_1] using hcnt
    obtain ⟨L⟩ := args
    match L, hs with
    | [w0, w1, w2, w3], _ => exact ⟨w0, w1, w2, w3, rfl⟩
  have hw := fun d (hd : d ∈ tables_1) => atoms_spec (ws := Jvm.Cond.code x code maxLocals ret :: tables_1) hat d (List.mem_cons_of_mem _ hd)
  obtain ⟨hsets, hown0⟩ := atoms_of _ (rest_1_c_eq ▸ (show rest_1_c.before _ s = true from hrest))
  have hfit : Fit s := fun {y c} hc i hi => by
    obtain ⟨ha, rfl⟩ := Array.getElem?_eq_some_iff.mp hc
    have q := List.all_eq_true.mp ((Array.all_eq_true_iff_forall_mem.mp hF) _ (Array.getElem_mem ha)) i (List.mem_range.mpr hi)
    simpa [Array.getElem?_eq_getElem hi] using q
  obtain ⟨i0, ei0⟩ := is_v g0
  obtain rfl : w0 = (.int i0) := Option.some.inj ei0
  obtain ⟨i1, ei1⟩ := is_v g1
  obtain rfl : w1 = (.int i1) := Option.some.inj ei1
  obtain ⟨i2, ei2⟩ := is_v g2
  obtain rfl : w2 = (.int i2) := Option.some.inj ei2
  obtain ⟨i3, ei3⟩ := is_v g3
  obtain rfl : w3 = (.int i3) := Option.some.inj ei3
  have n5 := not_v (Cond.before_iff.mp (hsets _ (List.mem_of_getElem? (i := 2) rfl)))
  obtain ⟨i11, e10⟩ := is_v (Cond.before_iff.mp (hsets _ (List.mem_of_getElem? (i := 1) rfl)))
  have S12 : Sta s s.heap "java/lang/String" "COMPACT_STRINGS" "Z" (.int i11) := Sta.start e10 (Or.inl (hsets _ (List.mem_of_getElem? (i := 0) rfl)))
  have cCmp : ¬ (i11 = (0 : Int32)) := gotF (Cond.eq_ints e10 (Term.int_eval (0))) n5
  have hcw := hsets _ (List.mem_of_getElem? (i := 2) rfl)
  obtain ⟨c0, hn⟩ := and_e hn
  obtain ⟨c1, hn⟩ := and_e hn
  obtain ⟨c2, hn⟩ := and_e hn
  obtain ⟨c3, hn⟩ := and_e hn
  obtain ⟨c4, hn⟩ := and_e hn
  obtain ⟨c5, hn⟩ := and_e hn
  obtain ⟨c6, hn⟩ := and_e hn
  obtain ⟨c7, hn⟩ := and_e hn
  obtain ⟨c8, hn⟩ := and_e hn
  obtain ⟨c9, hn⟩ := and_e hn
  obtain ⟨c10, hn⟩ := and_e hn
  obtain ⟨c11, hn⟩ := and_e hn
  obtain ⟨c12, hn⟩ := and_e hn
  obtain ⟨c13, hn⟩ := and_e hn
  obtain ⟨c14, hn⟩ := and_e hn
  obtain ⟨c15, hn⟩ := and_e hn
  obtain ⟨c16, hn⟩ := and_e hn
  obtain ⟨c17, hn⟩ := and_e hn
  obtain ⟨c18, hn⟩ := and_e hn
  obtain ⟨c19, hn⟩ := and_e hn
  obtain ⟨c20, hn⟩ := and_e hn
  obtain ⟨c21, hn⟩ := and_e hn
  obtain ⟨c22, hn⟩ := and_e hn
  obtain ⟨c23, hn⟩ := and_e hn
  obtain ⟨c24, hn⟩ := and_e hn
  obtain ⟨c25, hn⟩ := and_e hn
  obtain ⟨c26, hn⟩ := and_e hn
  obtain ⟨c27, hn⟩ := and_e hn
  obtain ⟨c28, hn⟩ := and_e hn
  obtain ⟨c29, hn⟩ := and_e hn
  obtain ⟨c30, hn⟩ := and_e hn
  obtain ⟨c31, hn⟩ := and_e hn
  obtain ⟨c32, hn⟩ := and_e hn
  obtain ⟨c33, hn⟩ := and_e hn
  obtain ⟨c34, hn⟩ := and_e hn
  obtain ⟨c35, hn⟩ := and_e hn
  obtain ⟨c36, hn⟩ := and_e hn
  obtain ⟨c37, hn⟩ := and_e hn
  obtain ⟨c38, hn⟩ := and_e hn
  obtain ⟨c39, hn⟩ := and_e hn
  obtain ⟨c40, hn⟩ := and_e hn
  obtain ⟨c41, hn⟩ := and_e hn
  have c42 := hn
  obtain ⟨s11, e11⟩ := exa_v c0
  have V11 := Sta.start e11 (Or.inr ⟨(hw _ (List.mem_of_getElem? (i := 1) rfl)), (hw _ (List.mem_of_getElem? (i := 2) rfl))⟩)
  obtain ⟨s12, e12⟩ := exa_v c5
  have V12 := Sta.start e12 (Or.inr ⟨(hw _ (List.mem_of_getElem? (i := 1) rfl)), (hw _ (List.mem_of_getElem? (i := 26) rfl))⟩)
  obtain ⟨va, eva⟩ := arr_v c1
  have SVA := Sta.start eva (Or.inr ⟨(hw _ (List.mem_of_getElem? (i := 1) rfl)), (hw _ (List.mem_of_getElem? (i := 18) rfl))⟩)
  have EVA := Exa.start eva c2
  obtain ⟨clv, Av⟩ := Arr.start eva c1
  obtain ⟨l1, l2⟩ := own_len (own_eqI c3) eva Av
  have v0 := (elem_in (own_eqR c4 e11) eva (Term.int_eval 0) Av.1).2
  have v1 := (elem_in (own_eqR c6 e12) eva (Term.int_eval 1) Av.1).2
  have AVA : Arv s s.heap va clv.cls (.object "com/example/queuebind/queuebind/SoapVersion") (2 : Int32) [.ref s11, .ref s12] .null := Arv.start hfit Av l1 l2 (by decide) rfl ⟨v0, v1, trivial⟩
  obtain ⟨m11, em11⟩ := exa_v c7
  have F11 := Fld.start ((fld_at e11).symm.trans em11)
  have E11 := Exa.start em11 c7
  have C11 := Fld.start ((fld_at em11).symm.trans (own_eqI c8))
  obtain ⟨t11, et11⟩ := arr_v c9
  have W11 := Fld.start ((fld_at em11).symm.trans et11)
  obtain ⟨cl11, Ar11⟩ := Arr.start et11 c9
  obtain ⟨la11, lb11⟩ := own_len (own_eqI c10) et11 Ar11
  have b11_0 := (elem_in (own_eqI c15) et11 (Term.int_eval 0) Ar11.1).2
  have b11_1 := (elem_in (own_eqI c16) et11 (Term.int_eval 1) Ar11.1).2
  have b11_2 := (elem_in (own_eqI c17) et11 (Term.int_eval 2) Ar11.1).2
  have b11_3 := (elem_in (own_eqI c18) et11 (Term.int_eval 3) Ar11.1).2
  have b11_4 := (elem_in (own_eqI c19) et11 (Term.int_eval 4) Ar11.1).2
  have b11_5 := (elem_in (own_eqI c20) et11 (Term.int_eval 5) Ar11.1).2
  have b11_6 := (elem_in (own_eqI c21) et11 (Term.int_eval 6) Ar11.1).2
  have b11_7 := (elem_in (own_eqI c22) et11 (Term.int_eval 7) Ar11.1).2
  have A11 : Arv s s.heap t11 cl11.cls .byte (8 : Int32) [.int (116 : Int32), .int (101 : Int32), .int (120 : Int32), .int (116 : Int32), .int (47 : Int32), .int (120 : Int32), .int (109 : Int32), .int (108 : Int32)] (.int (0 : Int32)) := Arv.start hfit Ar11 la11 lb11 (by decide) rfl ⟨b11_0, b11_1, b11_2, b11_3, b11_4, b11_5, b11_6, b11_7, trivial⟩
  have T11 : own_Str s s.heap m11 own_T11 := ⟨own_T11_lat, E11, C11, t11, cl11.cls, W11, A11⟩
  obtain ⟨m12, em12⟩ := exa_v c11
  have F12 := Fld.start ((fld_at e12).symm.trans em12)
  have E12 := Exa.start em12 c11
  have C12 := Fld.start ((fld_at em12).symm.trans (own_eqI c12))
  obtain ⟨t12, et12⟩ := arr_v c13
  have W12 := Fld.start ((fld_at em12).symm.trans et12)
  obtain ⟨cl12, Ar12⟩ := Arr.start et12 c13
  obtain ⟨la12, lb12⟩ := own_len (own_eqI c14) et12 Ar12
  have b12_0 := (elem_in (own_eqI c23) et12 (Term.int_eval 0) Ar12.1).2
  have b12_1 := (elem_in (own_eqI c24) et12 (Term.int_eval 1) Ar12.1).2
  have b12_2 := (elem_in (own_eqI c25) et12 (Term.int_eval 2) Ar12.1).2
  have b12_3 := (elem_in (own_eqI c26) et12 (Term.int_eval 3) Ar12.1).2
  have b12_4 := (elem_in (own_eqI c27) et12 (Term.int_eval 4) Ar12.1).2
  have b12_5 := (elem_in (own_eqI c28) et12 (Term.int_eval 5) Ar12.1).2
  have b12_6 := (elem_in (own_eqI c29) et12 (Term.int_eval 6) Ar12.1).2
  have b12_7 := (elem_in (own_eqI c30) et12 (Term.int_eval 7) Ar12.1).2
  have b12_8 := (elem_in (own_eqI c31) et12 (Term.int_eval 8) Ar12.1).2
  have b12_9 := (elem_in (own_eqI c32) et12 (Term.int_eval 9) Ar12.1).2
  have b12_10 := (elem_in (own_eqI c33) et12 (Term.int_eval 10) Ar12.1).2
  have b12_11 := (elem_in (own_eqI c34) et12 (Term.int_eval 11) Ar12.1).2
  have b12_12 := (elem_in (own_eqI c35) et12 (Term.int_eval 12) Ar12.1).2
  have b12_13 := (elem_in (own_eqI c36) et12 (Term.int_eval 13) Ar12.1).2
  have b12_14 := (elem_in (own_eqI c37) et12 (Term.int_eval 14) Ar12.1).2
  have b12_15 := (elem_in (own_eqI c38) et12 (Term.int_eval 15) Ar12.1).2
  have b12_16 := (elem_in (own_eqI c39) et12 (Term.int_eval 16) Ar12.1).2
  have b12_17 := (elem_in (own_eqI c40) et12 (Term.int_eval 17) Ar12.1).2
  have b12_18 := (elem_in (own_eqI c41) et12 (Term.int_eval 18) Ar12.1).2
  have b12_19 := (elem_in (own_eqI c42) et12 (Term.int_eval 19) Ar12.1).2
  have A12 : Arv s s.heap t12 cl12.cls .byte (20 : Int32) [.int (97 : Int32), .int (112 : Int32), .int (112 : Int32), .int (108 : Int32), .int (105 : Int32), .int (99 : Int32), .int (97 : Int32), .int (116 : Int32), .int (105 : Int32), .int (111 : Int32), .int (110 : Int32), .int (47 : Int32), .int (115 : Int32), .int (111 : Int32), .int (97 : Int32), .int (112 : Int32), .int (43 : Int32), .int (120 : Int32), .int (109 : Int32), .int (108 : Int32)] (.int (0 : Int32)) := Arv.start hfit Ar12 la12 lb12 (by decide) rfl ⟨b12_0, b12_1, b12_2, b12_3, b12_4, b12_5, b12_6, b12_7, b12_8, b12_9, b12_10, b12_11, b12_12, b12_13, b12_14, b12_15, b12_16, b12_17, b12_18, b12_19, trivial⟩
  have T12 : own_Str s s.heap m12 own_T12 := ⟨own_T12_lat, E12, C12, t12, cl12.cls, W12, A12⟩
  have hCH : CHv s own_EL s.vm s.heap := CHv.start (own_hEL hw) (fun q hq => hcalls.1 q hq) hcw (hw _ (List.mem_of_getElem? (i := 6) rfl)) (hw _ (List.mem_of_getElem? (i := 5) rfl))
  obtain ⟨n, o, h1, h2, h3, _, L, rfl, ⟨rfl, N⟩, hq⟩ := own_rm0 l s _ hw tables_1 i0 i1 i2 i3 va s11 s12 m11 m12 clv.cls i11 s.heap s.heap.size (Old.start s) V11 V12 SVA EVA AVA F11 T11 F12 T12 S12 cCmp p e ha hc hk s m _ below hf ((Spec.applies_iff_loose hf).mp happ).1 ⟨rfl, State.Warmed39.refl s, rfl, hCH⟩ trivial
  refine ⟨n, _, h1, h2, h3, hpost _ _ _ _ _ _ ⟨Cond.after_iff.mpr rfl, Cond.after_iff.mpr (eq_i res_at (Term.int_eval (1)) rfl), trivial⟩ ⟨hq.1, hq.2.1, hq.2.2.1, (hq.2.2.2.sift fun y hy => Or.inr (N y hy)).mono (by decide) (by decide)⟩⟩
theorem main_1_1 : Claimed_1_1 := comes_1 fun _ _ _ _ _ _ h hF => ⟨h.1, hF⟩
theorem main_1_2 : Claimed_1_2 := comes_1 fun _ _ _ _ _ _ h hF => ⟨h.2.1, hF⟩
end Jvm.Pilot.@@N@@
namespace Jvm.Pilot.@@N@@
open Jvm Jvm.ClassFile Sem Op Lib Jvm.Free Jvm.Stand Jvm.Pilot.@@N@@.Jvm.D
/-! MADE BY PROGRAM (witnessworld.py) out of the Statement's table words and the real class files: 22 classes; the members and pool entries that the words name. The judged class is class 1, her method 3. -/
namespace start1
open Jvm.ClassFile
def u (s : String) : CpInfo := .utf8 (stringToUtf16 s)
/-- a pool by its gaps: so many unusable entries, then the entry; so many at the end -/
def gap : Nat → List CpInfo → List CpInfo
  | 0, r => r
  | n + 1, r => .unusable :: gap n r
def poolList (es : List (Nat × CpInfo)) (last : Nat) : List CpInfo := es.foldr (fun e r => gap e.1 (e.2 :: r)) (gap last [])
def pool (es : List (Nat × CpInfo)) (last : Nat) : Array CpInfo := ⟨poolList es last⟩
def fileOf (pool : Array CpInfo) (this : Nat) (attrs : Array Attribute := #[]) (ms : Array MethodInfo := #[]) (fl : Nat := 33) (sup : Nat := 0) (ifs : Array Nat := #[]) (fds : Array FieldInfo := #[]) : ClassFile where
  minorVersion := 0
  majorVersion := 65
  constantPool := pool
  accessFlags := fl
  thisClass := this
  superClass := sup
  interfaces := ifs
  fields := fds
  methods := ms
  attributes := attrs
def plain (name : String) (sup : Option ClassId) : Class where
  name := name
  kind := .ordinary
  loader := none
  accessFlags := 33
  super := sup
  interfaces := #[]
  cf := none
  fields := #[]
  methods := #[]
  instanceTypes := #[]
  staticTypes := #[]
  resolved := #[]
  callSites := []
  init := .initialized
  statics := none
  mirror := none

def pool0 : Array CpInfo := pool [(5, u "<init>"), (0, u "()V"), (1, .class_ 10), (1, u "java/lang/Object"), (85, u "clone"), (0, u "()Ljava/lang/Object;")] 26

def k0c0 : Code := { maxStack := 0, maxLocals := 1, code := object_method_1_code, exceptionTable := #[], attributes := #[] }
def k0m0 : Method := { name := "<init>", desc := "()V", sig := { parameters := [], returnType := none }, accessFlags := 1, code := some k0c0 }
def k0m1 : Method := { name := "clone", desc := "()Ljava/lang/Object;", sig := { parameters := [], returnType := some (.object "java/lang/Object") }, accessFlags := 260, code := none }
/-- java/lang/Object -/
def k0 : Class := { plain "java/lang/Object" none with
  accessFlags := 33
  interfaces := #[]
  cf := some (fileOf pool0 8 #[] #[{ accessFlags := 1, nameIndex := 5, descriptorIndex := 6, attributes := #[] }, { accessFlags := 260, nameIndex := 96, descriptorIndex := 97, attributes := #[] }] 33 0 #[] #[])
  fields := #[]
  methods := #[k0m0, k0m1]
  instanceTypes := #[]
  staticTypes := #[]
  resolved := Array.replicate 124 none
  statics := none }

def pool1 : Array CpInfo := pool [(2, .class_ 4), (1, u "java/lang/Object"), (0, u "<init>"), (0, u "()V"), (0, .fieldref 8 9), (0, .class_ 10), (0, .nameAndType 11 12), (0, u "com/example/queuebind/queuebind/SoapVersion"), (0, u "SOAP_12"), (0, u "Lcom/example/queuebind/queuebind/SoapVersion;"), (0, .fieldref 8 14), (0, .nameAndType 15 12), (0, u "SOAP_11"), (0, .string 17), (0, u "application/soap+xml"), (0, .string 19), (0, u "text/xml"), (0, .methodref 21 22), (0, .class_ 23), (0, .nameAndType 24 25), (0, u "com/example/queuebind/queuebind/SoapVersionOfMediaTypePinLaw"), (0, u "soapChars"), (0, u "()[C"), (0, .methodref 21 27), (0, .nameAndType 28 25), (0, u "textChars"), (0, .integer 2147483647), (0, .class_ 31), (0, u "java/lang/String"), (0, .methodref 30 33), (0, .nameAndType 5 34), (0, u "([C)V"), (0, .string 36), (0, u ""), (0, .methodref 30 38), (0, .nameAndType 39 40), (0, u "valueOf"), (0, u "(C)Ljava/lang/String;"), (0, .methodref 8 42), (0, .nameAndType 43 44), (0, u "ofMediaType"), (0, u "(Ljava/lang/String;)Lcom/example/queuebind/queuebind/SoapVersion;"), (2, u "law"), (0, u "(IIII)Z")] 5

def k1m0 : Method := { name := "<init>", desc := "()V", sig := { parameters := [], returnType := none }, accessFlags := 1, code := none }
def k1c1 : Code := { maxStack := 4, maxLocals := 0, code := method_2_code, exceptionTable := #[], attributes := #[] }
def k1m1 : Method := { name := "textChars", desc := "()[C", sig := { parameters := [], returnType := some (.array .char) }, accessFlags := 10, code := some k1c1 }
def k1c2 : Code := { maxStack := 4, maxLocals := 0, code := method_3_code, exceptionTable := #[], attributes := #[] }
def k1m2 : Method := { name := "soapChars", desc := "()[C", sig := { parameters := [], returnType := some (.array .char) }, accessFlags := 10, code := some k1c2 }
def k1c3 : Code := { maxStack := 6, maxLocals := 14, code := code, exceptionTable := #[], attributes := #[] }
def k1m3 : Method := { name := "law", desc := "(IIII)Z", sig := { parameters := [.int, .int, .int, .int], returnType := some .boolean }, accessFlags := 9, code := some k1c3 }
/-- com/example/queuebind/queuebind/SoapVersionOfMediaTypePinLaw -/
def k1 : Class := { plain "com/example/queuebind/queuebind/SoapVersionOfMediaTypePinLaw" (some 0) with
  accessFlags := 49
  interfaces := #[]
  cf := some (fileOf pool1 21 #[] #[{ accessFlags := 1, nameIndex := 5, descriptorIndex := 6, attributes := #[] }, { accessFlags := 10, nameIndex := 28, descriptorIndex := 25, attributes := #[] }, { accessFlags := 10, nameIndex := 24, descriptorIndex := 25, attributes := #[] }, { accessFlags := 9, nameIndex := 47, descriptorIndex := 48, attributes := #[] }] 49 2 #[] #[])
  fields := #[]
  methods := #[k1m0, k1m1, k1m2, k1m3]
  instanceTypes := #[]
  staticTypes := #[]
  resolved := Array.replicate 54 none
  statics := none }

def pool2 : Array CpInfo := pool [(1, .class_ 2), (0, u "java/lang/constant/Constable"), (0, .class_ 4), (0, u "java/lang/Object")] 6

/-- java/lang/constant/Constable -/
def k2 : Class := { plain "java/lang/constant/Constable" (some 0) with
  accessFlags := 1537
  interfaces := #[]
  cf := some (fileOf pool2 1 #[] #[] 1537 3 #[] #[])
  fields := #[]
  methods := #[]
  instanceTypes := #[]
  staticTypes := #[]
  resolved := Array.replicate 11 none
  statics := none }

def pool3 : Array CpInfo := pool [(1, .class_ 2), (0, u "java/lang/Comparable"), (0, .class_ 4), (0, u "java/lang/Object")] 7

/-- java/lang/Comparable -/
def k3 : Class := { plain "java/lang/Comparable" (some 0) with
  accessFlags := 1537
  interfaces := #[]
  cf := some (fileOf pool3 1 #[] #[] 1537 3 #[] #[])
  fields := #[]
  methods := #[]
  instanceTypes := #[]
  staticTypes := #[]
  resolved := Array.replicate 12 none
  statics := none }

def pool4 : Array CpInfo := pool [(1, .class_ 2), (0, u "java/io/Serializable"), (0, .class_ 4), (0, u "java/lang/Object")] 2

/-- java/io/Serializable -/
def k4 : Class := { plain "java/io/Serializable" (some 0) with
  accessFlags := 1537
  interfaces := #[]
  cf := some (fileOf pool4 1 #[] #[] 1537 3 #[] #[])
  fields := #[]
  methods := #[]
  instanceTypes := #[]
  staticTypes := #[]
  resolved := Array.replicate 7 none
  statics := none }

def pool5 : Array CpInfo := pool [(2, .class_ 4), (1, u "java/lang/Enum"), (0, u "name"), (0, u "Ljava/lang/String;"), (2, u "ordinal"), (0, u "I"), (1, .class_ 14), (1, u "java/lang/Object"), (4, u "hash"), (86, .class_ 108), (1, u "java/lang/Enum$EnumDesc"), (2, .class_ 112), (0, u "java/lang/constant/Constable"), (0, .class_ 114), (0, u "java/lang/Comparable"), (0, .class_ 116), (0, u "java/io/Serializable")] 87

/-- java/lang/Enum -/
def k5 : Class := { plain "java/lang/Enum" (some 0) with
  accessFlags := 1057
  interfaces := #[2, 3, 4]
  cf := some (fileOf pool5 2 #[.nestMembers #[106]] #[] 1057 12 #[111, 113, 115] #[{ accessFlags := 18, nameIndex := 5, descriptorIndex := 6, attributes := #[] }, { accessFlags := 18, nameIndex := 9, descriptorIndex := 10, attributes := #[] }, { accessFlags := 2, nameIndex := 19, descriptorIndex := 10, attributes := #[] }])
  fields := #[{ name := "name", type := (.object "java/lang/String"), accessFlags := 18, slot := 0, constantValue := 0 }, { name := "ordinal", type := .int, accessFlags := 18, slot := 1, constantValue := 0 }, { name := "hash", type := .int, accessFlags := 2, slot := 2, constantValue := 0 }]
  methods := #[]
  instanceTypes := #[(.object "java/lang/String"), .int, .int]
  staticTypes := #[]
  resolved := Array.replicate 204 none
  statics := none }

def pool6 : Array CpInfo := pool [(1, .class_ 2), (0, u "com/example/queuebind/queuebind/SoapVersion"), (2, u "SOAP_11"), (0, u "Lcom/example/queuebind/queuebind/SoapVersion;"), (2, u "SOAP_12"), (0, .fieldref 1 11), (0, .nameAndType 12 13), (0, u "$VALUES"), (0, u "[Lcom/example/queuebind/queuebind/SoapVersion;"), (0, .methodref 15 16), (0, .class_ 13), (0, .nameAndType 17 18), (0, u "clone"), (0, u "()Ljava/lang/Object;"), (1, .class_ 22), (1, u "java/lang/Enum"), (8, u "label"), (0, u "Ljava/lang/String;"), (2, u "envelopeNamespace"), (2, u "wsdlNamespace"), (0, .fieldref 1 40), (0, .nameAndType 41 32), (0, u "mediaType"), (2, u "senderFaultCode"), (2, u "receiverFaultCode"), (2, u "faultCodePath"), (2, u "faultSubcodePath"), (2, u "faultReasonPath"), (7, .methodref 1 65), (0, .nameAndType 66 67), (0, u "values"), (0, u "()[Lcom/example/queuebind/queuebind/SoapVersion;"), (0, .methodref 69 70), (0, .class_ 71), (0, .nameAndType 72 73), (0, u "java/lang/String"), (0, u "equals"), (0, u "(Ljava/lang/Object;)Z"), (99, u "VERSION_MISMATCH"), (3, u "(Ljava/lang/String;)Lcom/example/queuebind/queuebind/SoapVersion;"), (8, u "ofMediaType")] 28

def k6c0 : Code := { maxStack := 1, maxLocals := 0, code := prog_21_method_1_code, exceptionTable := #[], attributes := #[] }
def k6m0 : Method := { name := "values", desc := "()[Lcom/example/queuebind/queuebind/SoapVersion;", sig := { parameters := [], returnType := some (.array (.object "com/example/queuebind/queuebind/SoapVersion")) }, accessFlags := 9, code := some k6c0 }
def k6c1 : Code := { maxStack := 2, maxLocals := 5, code := prog_21_method_14_code, exceptionTable := #[], attributes := #[] }
def k6m1 : Method := { name := "ofMediaType", desc := "(Ljava/lang/String;)Lcom/example/queuebind/queuebind/SoapVersion;", sig := { parameters := [(.object "java/lang/String")], returnType := some (.object "com/example/queuebind/queuebind/SoapVersion") }, accessFlags := 8, code := some k6c1 }
/-- com/example/queuebind/queuebind/SoapVersion -/
def k6 : Class := { plain "com/example/queuebind/queuebind/SoapVersion" (some 5) with
  accessFlags := 16433
  interfaces := #[]
  cf := some (fileOf pool6 1 #[] #[{ accessFlags := 9, nameIndex := 66, descriptorIndex := 67, attributes := #[] }, { accessFlags := 8, nameIndex := 186, descriptorIndex := 177, attributes := #[] }] 16433 20 #[] #[{ accessFlags := 16409, nameIndex := 5, descriptorIndex := 6, attributes := #[] }, { accessFlags := 16409, nameIndex := 9, descriptorIndex := 6, attributes := #[] }, { accessFlags := 26, nameIndex := 173, descriptorIndex := 32, attributes := #[] }, { accessFlags := 18, nameIndex := 31, descriptorIndex := 32, attributes := #[] }, { accessFlags := 18, nameIndex := 35, descriptorIndex := 32, attributes := #[] }, { accessFlags := 18, nameIndex := 38, descriptorIndex := 32, attributes := #[] }, { accessFlags := 18, nameIndex := 41, descriptorIndex := 32, attributes := #[] }, { accessFlags := 18, nameIndex := 44, descriptorIndex := 32, attributes := #[] }, { accessFlags := 18, nameIndex := 47, descriptorIndex := 32, attributes := #[] }, { accessFlags := 18, nameIndex := 50, descriptorIndex := 32, attributes := #[] }, { accessFlags := 18, nameIndex := 53, descriptorIndex := 32, attributes := #[] }, { accessFlags := 18, nameIndex := 56, descriptorIndex := 32, attributes := #[] }, { accessFlags := 4122, nameIndex := 12, descriptorIndex := 13, attributes := #[] }])
  fields := #[{ name := "SOAP_11", type := (.object "com/example/queuebind/queuebind/SoapVersion"), accessFlags := 16409, slot := 0, constantValue := 0 }, { name := "SOAP_12", type := (.object "com/example/queuebind/queuebind/SoapVersion"), accessFlags := 16409, slot := 1, constantValue := 0 }, { name := "VERSION_MISMATCH", type := (.object "java/lang/String"), accessFlags := 26, slot := 2, constantValue := 0 }, { name := "label", type := (.object "java/lang/String"), accessFlags := 18, slot := 3, constantValue := 0 }, { name := "envelopeNamespace", type := (.object "java/lang/String"), accessFlags := 18, slot := 4, constantValue := 0 }, { name := "wsdlNamespace", type := (.object "java/lang/String"), accessFlags := 18, slot := 5, constantValue := 0 }, { name := "mediaType", type := (.object "java/lang/String"), accessFlags := 18, slot := 6, constantValue := 0 }, { name := "senderFaultCode", type := (.object "java/lang/String"), accessFlags := 18, slot := 7, constantValue := 0 }, { name := "receiverFaultCode", type := (.object "java/lang/String"), accessFlags := 18, slot := 8, constantValue := 0 }, { name := "faultCodePath", type := (.object "java/lang/String"), accessFlags := 18, slot := 9, constantValue := 0 }, { name := "faultSubcodePath", type := (.object "java/lang/String"), accessFlags := 18, slot := 10, constantValue := 0 }, { name := "faultReasonPath", type := (.object "java/lang/String"), accessFlags := 18, slot := 11, constantValue := 0 }, { name := "$VALUES", type := (.array (.object "com/example/queuebind/queuebind/SoapVersion")), accessFlags := 4122, slot := 3, constantValue := 0 }]
  methods := #[k6m0, k6m1]
  instanceTypes := #[(.object "java/lang/String"), .int, .int, (.object "java/lang/String"), (.object "java/lang/String"), (.object "java/lang/String"), (.object "java/lang/String"), (.object "java/lang/String"), (.object "java/lang/String"), (.object "java/lang/String"), (.object "java/lang/String"), (.object "java/lang/String")]
  staticTypes := #[(.object "com/example/queuebind/queuebind/SoapVersion"), (.object "com/example/queuebind/queuebind/SoapVersion"), (.object "java/lang/String"), (.array (.object "com/example/queuebind/queuebind/SoapVersion"))]
  resolved := Array.replicate 215 none
  statics := some 0 }

def pool7 : Array CpInfo := pool [(2, .class_ 4), (1, u "java/lang/CharSequence"), (42, .class_ 48), (0, u "java/lang/CharSequence$1CodePointIterator"), (10, .class_ 60), (0, u "java/lang/CharSequence$1CharIterator"), (5, .class_ 67), (0, u "java/lang/Object")] 63

/-- java/lang/CharSequence -/
def k7 : Class := { plain "java/lang/CharSequence" (some 0) with
  accessFlags := 1537
  interfaces := #[]
  cf := some (fileOf pool7 2 #[.nestMembers #[47, 59]] #[] 1537 66 #[] #[])
  fields := #[]
  methods := #[]
  instanceTypes := #[]
  staticTypes := #[]
  resolved := Array.replicate 131 none
  statics := none }

def pool8 : Array CpInfo := pool [(1, .class_ 2), (0, u "java/lang/constant/ConstantDesc"), (0, .class_ 4), (0, u "java/lang/Object")] 32

/-- java/lang/constant/ConstantDesc -/
def k8 : Class := { plain "java/lang/constant/ConstantDesc" (some 0) with
  accessFlags := 1537
  interfaces := #[]
  cf := some (fileOf pool8 1 #[] #[] 1537 3 #[] #[])
  fields := #[]
  methods := #[]
  instanceTypes := #[]
  staticTypes := #[]
  resolved := Array.replicate 37 none
  statics := none }

def pool9 : Array CpInfo := pool [(1, .methodref 2 3), (0, .class_ 4), (0, .nameAndType 5 6), (0, u "java/lang/Object"), (0, u "<init>"), (0, u "()V"), (2, .fieldref 10 11), (0, .class_ 12), (0, .nameAndType 13 14), (0, u "java/lang/String"), (0, u "value"), (0, u "[B"), (0, .fieldref 10 16), (0, .nameAndType 17 18), (0, u "coder"), (0, u "B"), (2, u "hash"), (0, u "I"), (2, u "hashIsZero"), (0, u "Z"), (0, .methodref 10 28), (0, .nameAndType 5 29), (0, u "([CIILjava/lang/Void;)V"), (8, .fieldref 10 39), (0, .nameAndType 40 26), (0, u "COMPACT_STRINGS"), (1, .class_ 44), (1, u "java/lang/StringUTF16"), (0, u "compress"), (1, .methodref 42 48), (0, .nameAndType 49 50), (0, u "coderFromArrayLen"), (0, u "([BI)B"), (2, u "toBytes"), (53, .class_ 109), (1, u "java/lang/StringLatin1"), (67, .methodref 42 178), (0, .nameAndType 45 179), (0, u "([CII)[B"), (29, .methodref 10 210), (0, .nameAndType 5 211), (0, u "([BB)V"), (157, u "(C)Z"), (171, .methodref 107 542), (0, .nameAndType 543 544), (0, u "equals"), (0, u "([B[B)Z"), (28, u "(Ljava/lang/Object;)Z"), (1, .class_ 576), (0, u "java/lang/CharSequence"), (22, u "CASE_INSENSITIVE_ORDER"), (0, u "Ljava/util/Comparator;"), (181, u "valueOf"), (0, u "(C)Ljava/lang/String;"), (226, u "([C)V"), (4, .methodref 107 1016), (0, .nameAndType 1017 369), (0, u "canEncode"), (0, .methodref 107 1019), (0, .nameAndType 53 1020), (0, u "(C)[B"), (80, u "serialPersistentFields"), (0, u "[Ljava/io/ObjectStreamField;"), (0, .class_ 1104), (0, u "java/lang/String$CaseInsensitiveComparator"), (1, .class_ 1107), (0, u "java/io/Serializable"), (0, .class_ 1109), (0, u "java/lang/Comparable"), (0, .class_ 1111), (0, u "java/lang/constant/Constable"), (0, .class_ 1113), (0, u "java/lang/constant/ConstantDesc"), (2, u "serialVersionUID"), (0, u "J"), (3, u "REPL"), (0, u "C"), (2, u "LATIN1"), (1, u "UTF16")] 323

def k9m0 : Method := { name := "<init>", desc := "()V", sig := { parameters := [], returnType := none }, accessFlags := 1, code := none }
def k9c1 : Code := { maxStack := 5, maxLocals := 2, code := jdk_42_method_3_code, exceptionTable := #[], attributes := #[] }
def k9m1 : Method := { name := "<init>", desc := "([C)V", sig := { parameters := [(.array .char)], returnType := none }, accessFlags := 1, code := some k9c1 }
def k9c2 : Code := { maxStack := 2, maxLocals := 3, code := jdk_42_method_66_code, exceptionTable := #[], attributes := #[] }
def k9m2 : Method := { name := "equals", desc := "(Ljava/lang/Object;)Z", sig := { parameters := [(.object "java/lang/Object")], returnType := some .boolean }, accessFlags := 1, code := some k9c2 }
def k9c3 : Code := { maxStack := 4, maxLocals := 1, code := jdk_42_method_139_code, exceptionTable := #[], attributes := #[] }
def k9m3 : Method := { name := "valueOf", desc := "(C)Ljava/lang/String;", sig := { parameters := [.char], returnType := some (.object "java/lang/String") }, accessFlags := 9, code := some k9c3 }
def k9c4 : Code := { maxStack := 4, maxLocals := 6, code := jdk_42_method_149_code, exceptionTable := #[], attributes := #[] }
def k9m4 : Method := { name := "<init>", desc := "([CIILjava/lang/Void;)V", sig := { parameters := [(.array .char), .int, .int, (.object "java/lang/Void")], returnType := none }, accessFlags := 2, code := some k9c4 }
def k9c5 : Code := { maxStack := 2, maxLocals := 3, code := jdk_42_method_151_code, exceptionTable := #[], attributes := #[] }
def k9m5 : Method := { name := "<init>", desc := "([BB)V", sig := { parameters := [(.array .byte), .byte], returnType := none }, accessFlags := 0, code := some k9c5 }
/-- java/lang/String -/
def k9 : Class := { plain "java/lang/String" (some 0) with
  accessFlags := 49
  interfaces := #[4, 3, 7, 2, 8]
  cf := some (fileOf pool9 10 #[.nestMembers #[1103]] #[{ accessFlags := 1, nameIndex := 5, descriptorIndex := 6, attributes := #[] }, { accessFlags := 1, nameIndex := 5, descriptorIndex := 1010, attributes := #[] }, { accessFlags := 1, nameIndex := 543, descriptorIndex := 573, attributes := #[] }, { accessFlags := 9, nameIndex := 782, descriptorIndex := 783, attributes := #[] }, { accessFlags := 2, nameIndex := 5, descriptorIndex := 29, attributes := #[] }, { accessFlags := 0, nameIndex := 5, descriptorIndex := 211, attributes := #[] }] 49 2 #[1106, 1108, 575, 1110, 1112] #[{ accessFlags := 18, nameIndex := 13, descriptorIndex := 14, attributes := #[] }, { accessFlags := 18, nameIndex := 17, descriptorIndex := 18, attributes := #[] }, { accessFlags := 2, nameIndex := 21, descriptorIndex := 22, attributes := #[] }, { accessFlags := 2, nameIndex := 25, descriptorIndex := 26, attributes := #[] }, { accessFlags := 26, nameIndex := 1116, descriptorIndex := 1117, attributes := #[] }, { accessFlags := 24, nameIndex := 40, descriptorIndex := 26, attributes := #[] }, { accessFlags := 26, nameIndex := 1101, descriptorIndex := 1102, attributes := #[] }, { accessFlags := 26, nameIndex := 1121, descriptorIndex := 1122, attributes := #[] }, { accessFlags := 25, nameIndex := 599, descriptorIndex := 600, attributes := #[] }, { accessFlags := 24, nameIndex := 1125, descriptorIndex := 18, attributes := #[] }, { accessFlags := 24, nameIndex := 1127, descriptorIndex := 18, attributes := #[] }])
  fields := #[{ name := "value", type := (.array .byte), accessFlags := 18, slot := 0, constantValue := 0 }, { name := "coder", type := .byte, accessFlags := 18, slot := 1, constantValue := 0 }, { name := "hash", type := .int, accessFlags := 2, slot := 2, constantValue := 0 }, { name := "hashIsZero", type := .boolean, accessFlags := 2, slot := 3, constantValue := 0 }, { name := "serialVersionUID", type := .long, accessFlags := 26, slot := 0, constantValue := 0 }, { name := "COMPACT_STRINGS", type := .boolean, accessFlags := 24, slot := 1, constantValue := 0 }, { name := "serialPersistentFields", type := (.array (.object "java/io/ObjectStreamField")), accessFlags := 26, slot := 2, constantValue := 0 }, { name := "REPL", type := .char, accessFlags := 26, slot := 3, constantValue := 0 }, { name := "CASE_INSENSITIVE_ORDER", type := (.object "java/util/Comparator"), accessFlags := 25, slot := 4, constantValue := 0 }, { name := "LATIN1", type := .byte, accessFlags := 24, slot := 5, constantValue := 0 }, { name := "UTF16", type := .byte, accessFlags := 24, slot := 6, constantValue := 0 }]
  methods := #[k9m0, k9m1, k9m2, k9m3, k9m4, k9m5]
  instanceTypes := #[(.array .byte), .byte, .int, .boolean]
  staticTypes := #[.long, .boolean, (.array (.object "java/io/ObjectStreamField")), .char, (.object "java/util/Comparator"), .byte, .byte]
  resolved := Array.replicate 1451 none
  statics := some 1 }

def pool10 : Array CpInfo := pool [(1, .class_ 2), (0, u "java/lang/Cloneable"), (0, .class_ 4), (0, u "java/lang/Object")] 2

/-- java/lang/Cloneable -/
def k10 : Class := { plain "java/lang/Cloneable" (some 0) with
  accessFlags := 1537
  interfaces := #[]
  cf := some (fileOf pool10 1 #[] #[] 1537 3 #[] #[])
  fields := #[]
  methods := #[]
  instanceTypes := #[]
  staticTypes := #[]
  resolved := Array.replicate 7 none
  statics := none }

def pool11 : Array CpInfo := pool [(4, .class_ 6), (1, u "java/lang/Object"), (0, u "<init>"), (0, u "()V"), (5, .class_ 16), (1, u "java/lang/StringLatin1"), (73, u "canEncode"), (14, u "(C)Z"), (15, u "$assertionsDisabled"), (0, u "Z"), (98, .class_ 223), (1, u "java/lang/StringLatin1$LinesSpliterator"), (57, u "equals"), (0, u "([B[B)Z"), (97, u "toBytes"), (1, u "(C)[B"), (7, .class_ 391), (0, u "java/lang/StringLatin1$CharsSpliterator")] 3

def k11m0 : Method := { name := "<init>", desc := "()V", sig := { parameters := [], returnType := none }, accessFlags := 0, code := none }
def k11c1 : Code := { maxStack := 2, maxLocals := 1, code := jdk_43_method_3_code, exceptionTable := #[], attributes := #[] }
def k11m1 : Method := { name := "canEncode", desc := "(C)Z", sig := { parameters := [.char], returnType := some .boolean }, accessFlags := 9, code := some k11c1 }
def k11c2 : Code := { maxStack := 3, maxLocals := 3, code := jdk_43_method_13_code, exceptionTable := #[], attributes := #[] }
def k11m2 : Method := { name := "equals", desc := "([B[B)Z", sig := { parameters := [(.array .byte), (.array .byte)], returnType := some .boolean }, accessFlags := 9, code := some k11c2 }
def k11c3 : Code := { maxStack := 4, maxLocals := 1, code := jdk_43_method_46_code, exceptionTable := #[], attributes := #[] }
def k11m3 : Method := { name := "toBytes", desc := "(C)[B", sig := { parameters := [.char], returnType := some (.array .byte) }, accessFlags := 9, code := some k11c3 }
/-- java/lang/StringLatin1 -/
def k11 : Class := { plain "java/lang/StringLatin1" (some 0) with
  accessFlags := 48
  interfaces := #[]
  cf := some (fileOf pool11 14 #[.nestMembers #[390, 221]] #[{ accessFlags := 0, nameIndex := 7, descriptorIndex := 8, attributes := #[] }, { accessFlags := 9, nameIndex := 90, descriptorIndex := 105, attributes := #[] }, { accessFlags := 9, nameIndex := 281, descriptorIndex := 282, attributes := #[] }, { accessFlags := 9, nameIndex := 380, descriptorIndex := 382, attributes := #[] }] 48 4 #[] #[{ accessFlags := 4120, nameIndex := 121, descriptorIndex := 122, attributes := #[] }])
  fields := #[{ name := "$assertionsDisabled", type := .boolean, accessFlags := 4120, slot := 0, constantValue := 0 }]
  methods := #[k11m0, k11m1, k11m2, k11m3]
  instanceTypes := #[]
  staticTypes := #[.boolean]
  resolved := Array.replicate 395 none
  statics := none }

def pool12 : Array CpInfo := pool [(6, .class_ 8), (1, u "java/lang/Object"), (0, u "<init>"), (0, u "()V"), (1, .class_ 14), (1, u "java/lang/StringUTF16"), (31, u "$assertionsDisabled"), (0, u "Z"), (13, u "HI_BYTE_SHIFT"), (0, u "I"), (2, u "LO_BYTE_SHIFT"), (49, .methodref 12 116), (0, .nameAndType 117 118), (0, u "compress"), (0, u "([CI[BII)I"), (3, u "([CII)[B"), (138, u "coderFromArrayLen"), (0, u "([BI)B"), (106, .class_ 371), (1, u "java/lang/StringUTF16$LinesSpliterator"), (58, u "MAX_LENGTH"), (196, .class_ 628), (0, u "java/lang/StringUTF16$CodePointsSpliterator"), (0, .class_ 630), (0, u "java/lang/StringUTF16$CharsSpliterator")] 4

def k12m0 : Method := { name := "<init>", desc := "()V", sig := { parameters := [], returnType := none }, accessFlags := 0, code := none }
def k12c1 : Code := { maxStack := 2, maxLocals := 2, code := jdk_52_method_15_code, exceptionTable := #[], attributes := #[] }
def k12m1 : Method := { name := "coderFromArrayLen", desc := "([BI)B", sig := { parameters := [(.array .byte), .int], returnType := some .byte }, accessFlags := 8, code := some k12c1 }
def k12c2 : Code := { maxStack := 5, maxLocals := 6, code := jdk_52_method_16_code, exceptionTable := #[], attributes := #[] }
def k12m2 : Method := { name := "compress", desc := "([CII)[B", sig := { parameters := [(.array .char), .int, .int], returnType := some (.array .byte) }, accessFlags := 9, code := some k12c2 }
def k12c3 : Code := { maxStack := 3, maxLocals := 7, code := jdk_52_method_21_code, exceptionTable := #[], attributes := #[] }
def k12m3 : Method := { name := "compress", desc := "([CI[BII)I", sig := { parameters := [(.array .char), .int, (.array .byte), .int, .int], returnType := some .int }, accessFlags := 9, code := some k12c3 }
/-- java/lang/StringUTF16 -/
def k12 : Class := { plain "java/lang/StringUTF16" (some 0) with
  accessFlags := 48
  interfaces := #[]
  cf := some (fileOf pool12 12 #[.nestMembers #[627, 629, 369]] #[{ accessFlags := 0, nameIndex := 9, descriptorIndex := 10, attributes := #[] }, { accessFlags := 8, nameIndex := 261, descriptorIndex := 262, attributes := #[] }, { accessFlags := 9, nameIndex := 117, descriptorIndex := 122, attributes := #[] }, { accessFlags := 9, nameIndex := 117, descriptorIndex := 118, attributes := #[] }] 48 6 #[] #[{ accessFlags := 26, nameIndex := 61, descriptorIndex := 62, attributes := #[] }, { accessFlags := 26, nameIndex := 65, descriptorIndex := 62, attributes := #[] }, { accessFlags := 24, nameIndex := 430, descriptorIndex := 62, attributes := #[] }, { accessFlags := 4120, nameIndex := 46, descriptorIndex := 47, attributes := #[] }])
  fields := #[{ name := "HI_BYTE_SHIFT", type := .int, accessFlags := 26, slot := 0, constantValue := 0 }, { name := "LO_BYTE_SHIFT", type := .int, accessFlags := 26, slot := 1, constantValue := 0 }, { name := "MAX_LENGTH", type := .int, accessFlags := 24, slot := 2, constantValue := 0 }, { name := "$assertionsDisabled", type := .boolean, accessFlags := 4120, slot := 3, constantValue := 0 }]
  methods := #[k12m0, k12m1, k12m2, k12m3]
  instanceTypes := #[]
  staticTypes := #[.int, .int, .int, .boolean]
  resolved := Array.replicate 635 none
  statics := none }

def pool13 : Array CpInfo := pool [(2, .class_ 4), (1, u "java/lang/Object"), (0, u "<init>"), (0, u "()V"), (17, .class_ 26), (1, u "jdk/internal/util/Preconditions"), (28, .class_ 56), (0, u "jdk/internal/util/Preconditions$4"), (57, .class_ 115), (0, u "jdk/internal/util/Preconditions$1"), (7, u "SIOOBE_FORMATTER"), (0, u "Ljava/util/function/BiFunction;"), (0, .class_ 126), (0, u "jdk/internal/util/Preconditions$2"), (3, u "AIOOBE_FORMATTER"), (0, .class_ 132), (0, u "jdk/internal/util/Preconditions$3"), (3, u "IOOBE_FORMATTER")] 57

def k13m0 : Method := { name := "<init>", desc := "()V", sig := { parameters := [], returnType := none }, accessFlags := 1, code := none }
/-- jdk/internal/util/Preconditions -/
def k13 : Class := { plain "jdk/internal/util/Preconditions" (some 0) with
  accessFlags := 33
  interfaces := #[]
  cf := some (fileOf pool13 24 #[.nestMembers #[55, 131, 125, 114]] #[{ accessFlags := 1, nameIndex := 5, descriptorIndex := 6, attributes := #[] }] 33 2 #[] #[{ accessFlags := 25, nameIndex := 123, descriptorIndex := 124, attributes := #[] }, { accessFlags := 25, nameIndex := 130, descriptorIndex := 124, attributes := #[] }, { accessFlags := 25, nameIndex := 136, descriptorIndex := 124, attributes := #[] }])
  fields := #[{ name := "SIOOBE_FORMATTER", type := (.object "java/util/function/BiFunction"), accessFlags := 25, slot := 0, constantValue := 0 }, { name := "AIOOBE_FORMATTER", type := (.object "java/util/function/BiFunction"), accessFlags := 25, slot := 1, constantValue := 0 }, { name := "IOOBE_FORMATTER", type := (.object "java/util/function/BiFunction"), accessFlags := 25, slot := 2, constantValue := 0 }]
  methods := #[k13m0]
  instanceTypes := #[]
  staticTypes := #[(.object "java/util/function/BiFunction"), (.object "java/util/function/BiFunction"), (.object "java/util/function/BiFunction")]
  resolved := Array.replicate 194 none
  statics := some 2 }

def pool14 : Array CpInfo := pool [(9, u "<init>"), (6, .class_ 18), (1, u "java/lang/Object"), (0, u "()V"), (1, .class_ 23), (1, u "jdk/internal/util/ArraysSupport"), (0, u "LOG2_ARRAY_LONG_INDEX_SCALE"), (0, u "I"), (2, u "U"), (0, u "Ljdk/internal/misc/Unsafe;"), (8, u "BIG_ENDIAN"), (0, u "Z"), (8, u "LOG2_BYTE_BIT_SIZE"), (4, u "LOG2_ARRAY_INT_INDEX_SCALE"), (54, u "JLA"), (0, u "Ljdk/internal/access/JavaLangAccess;"), (11, u "LOG2_ARRAY_BOOLEAN_INDEX_SCALE"), (9, u "LOG2_ARRAY_BYTE_INDEX_SCALE"), (5, u "LOG2_ARRAY_CHAR_INDEX_SCALE"), (5, u "LOG2_ARRAY_SHORT_INDEX_SCALE"), (18, u "LOG2_ARRAY_FLOAT_INDEX_SCALE"), (24, u "LOG2_ARRAY_DOUBLE_INDEX_SCALE"), (89, u "T_BOOLEAN"), (2, u "T_CHAR"), (1, u "T_FLOAT"), (1, u "T_DOUBLE"), (1, u "T_BYTE"), (1, u "T_SHORT"), (1, u "T_INT"), (1, u "T_LONG"), (1, u "SOFT_MAX_ARRAY_LENGTH")] 83

def k14m0 : Method := { name := "<init>", desc := "()V", sig := { parameters := [], returnType := none }, accessFlags := 2, code := none }
/-- jdk/internal/util/ArraysSupport -/
def k14 : Class := { plain "jdk/internal/util/ArraysSupport" (some 0) with
  accessFlags := 33
  interfaces := #[]
  cf := some (fileOf pool14 21 #[] #[{ accessFlags := 2, nameIndex := 9, descriptorIndex := 19, attributes := #[] }] 33 16 #[] #[{ accessFlags := 24, nameIndex := 28, descriptorIndex := 29, attributes := #[] }, { accessFlags := 26, nameIndex := 38, descriptorIndex := 39, attributes := #[] }, { accessFlags := 25, nameIndex := 121, descriptorIndex := 25, attributes := #[] }, { accessFlags := 25, nameIndex := 131, descriptorIndex := 25, attributes := #[] }, { accessFlags := 25, nameIndex := 137, descriptorIndex := 25, attributes := #[] }, { accessFlags := 25, nameIndex := 143, descriptorIndex := 25, attributes := #[] }, { accessFlags := 25, nameIndex := 53, descriptorIndex := 25, attributes := #[] }, { accessFlags := 25, nameIndex := 24, descriptorIndex := 25, attributes := #[] }, { accessFlags := 25, nameIndex := 162, descriptorIndex := 25, attributes := #[] }, { accessFlags := 25, nameIndex := 187, descriptorIndex := 25, attributes := #[] }, { accessFlags := 26, nameIndex := 48, descriptorIndex := 25, attributes := #[] }, { accessFlags := 25, nameIndex := 277, descriptorIndex := 25, attributes := #[] }, { accessFlags := 25, nameIndex := 280, descriptorIndex := 25, attributes := #[] }, { accessFlags := 25, nameIndex := 282, descriptorIndex := 25, attributes := #[] }, { accessFlags := 25, nameIndex := 284, descriptorIndex := 25, attributes := #[] }, { accessFlags := 25, nameIndex := 286, descriptorIndex := 25, attributes := #[] }, { accessFlags := 25, nameIndex := 288, descriptorIndex := 25, attributes := #[] }, { accessFlags := 25, nameIndex := 290, descriptorIndex := 25, attributes := #[] }, { accessFlags := 25, nameIndex := 292, descriptorIndex := 25, attributes := #[] }, { accessFlags := 26, nameIndex := 108, descriptorIndex := 109, attributes := #[] }, { accessFlags := 25, nameIndex := 294, descriptorIndex := 25, attributes := #[] }])
  fields := #[{ name := "U", type := (.object "jdk/internal/misc/Unsafe"), accessFlags := 24, slot := 0, constantValue := 0 }, { name := "BIG_ENDIAN", type := .boolean, accessFlags := 26, slot := 1, constantValue := 0 }, { name := "LOG2_ARRAY_BOOLEAN_INDEX_SCALE", type := .int, accessFlags := 25, slot := 2, constantValue := 0 }, { name := "LOG2_ARRAY_BYTE_INDEX_SCALE", type := .int, accessFlags := 25, slot := 3, constantValue := 0 }, { name := "LOG2_ARRAY_CHAR_INDEX_SCALE", type := .int, accessFlags := 25, slot := 4, constantValue := 0 }, { name := "LOG2_ARRAY_SHORT_INDEX_SCALE", type := .int, accessFlags := 25, slot := 5, constantValue := 0 }, { name := "LOG2_ARRAY_INT_INDEX_SCALE", type := .int, accessFlags := 25, slot := 6, constantValue := 0 }, { name := "LOG2_ARRAY_LONG_INDEX_SCALE", type := .int, accessFlags := 25, slot := 7, constantValue := 0 }, { name := "LOG2_ARRAY_FLOAT_INDEX_SCALE", type := .int, accessFlags := 25, slot := 8, constantValue := 0 }, { name := "LOG2_ARRAY_DOUBLE_INDEX_SCALE", type := .int, accessFlags := 25, slot := 9, constantValue := 0 }, { name := "LOG2_BYTE_BIT_SIZE", type := .int, accessFlags := 26, slot := 10, constantValue := 0 }, { name := "T_BOOLEAN", type := .int, accessFlags := 25, slot := 11, constantValue := 0 }, { name := "T_CHAR", type := .int, accessFlags := 25, slot := 12, constantValue := 0 }, { name := "T_FLOAT", type := .int, accessFlags := 25, slot := 13, constantValue := 0 }, { name := "T_DOUBLE", type := .int, accessFlags := 25, slot := 14, constantValue := 0 }, { name := "T_BYTE", type := .int, accessFlags := 25, slot := 15, constantValue := 0 }, { name := "T_SHORT", type := .int, accessFlags := 25, slot := 16, constantValue := 0 }, { name := "T_INT", type := .int, accessFlags := 25, slot := 17, constantValue := 0 }, { name := "T_LONG", type := .int, accessFlags := 25, slot := 18, constantValue := 0 }, { name := "JLA", type := (.object "jdk/internal/access/JavaLangAccess"), accessFlags := 26, slot := 19, constantValue := 0 }, { name := "SOFT_MAX_ARRAY_LENGTH", type := .int, accessFlags := 25, slot := 20, constantValue := 0 }]
  methods := #[k14m0]
  instanceTypes := #[]
  staticTypes := #[(.object "jdk/internal/misc/Unsafe"), .boolean, .int, .int, .int, .int, .int, .int, .int, .int, .int, .int, .int, .int, .int, .int, .int, .int, .int, (.object "jdk/internal/access/JavaLangAccess"), .int]
  resolved := Array.replicate 378 none
  statics := none }

/-- the primitive byte -/
def k15 : Class := { plain "byte" none with kind := .primitive 'B', accessFlags := 0x411 }
/-- [B -/
def k16 : Class := { plain "[B" (some 0) with kind := .array 15 .byte, interfaces := #[10, 4], accessFlags := 1041 }

/-- the primitive char -/
def k17 : Class := { plain "char" none with kind := .primitive 'C', accessFlags := 0x411 }
/-- [C -/
def k18 : Class := { plain "[C" (some 0) with kind := .array 17 .char, interfaces := #[10, 4], accessFlags := 1041 }

/-- the primitive int -/
def k19 : Class := { plain "int" none with kind := .primitive 'I', accessFlags := 0x411 }
/-- [I -/
def k20 : Class := { plain "[I" (some 0) with kind := .array 19 .int, interfaces := #[10, 4], accessFlags := 1041 }

/-- [Lcom/example/queuebind/queuebind/SoapVersion; -/
def k21 : Class := { plain "[Lcom/example/queuebind/queuebind/SoapVersion;" (some 0) with kind := .array 6 (.object "com/example/queuebind/queuebind/SoapVersion"), interfaces := #[10, 4], accessFlags := 1041 }

def heap : Heap := #[{ cls := 6, slots := #[.ref 8, .ref 9, .null, .ref 3], vm := .statics 6 },
  { cls := 9, slots := #[.long 0, .int 1, .null, .int 0, .null, .int 0, .int 0], vm := .statics 9 },
  { cls := 13, slots := #[.null, .null, .null], vm := .statics 13 },
  { cls := 21, slots := #[.ref 8, .ref 9], vm := .none },
  { cls := 16, slots := #[.int 116, .int 101, .int 120, .int 116, .int 47, .int 120, .int 109, .int 108], vm := .none },
  { cls := 16, slots := #[.int 97, .int 112, .int 112, .int 108, .int 105, .int 99, .int 97, .int 116, .int 105, .int 111, .int 110, .int 47, .int 115, .int 111, .int 97, .int 112, .int 43, .int 120, .int 109, .int 108], vm := .none },
  { cls := 9, slots := #[.ref 4, .int 0, .int 0, .int 0], vm := .none },
  { cls := 9, slots := #[.ref 5, .int 0, .int 0, .int 0], vm := .none },
  { cls := 6, slots := #[.null, .int 0, .int 0, .null, .null, .null, .ref 6, .null, .null, .null, .null, .null], vm := .none },
  { cls := 6, slots := #[.null, .int 1, .int 0, .null, .null, .null, .ref 7, .null, .null, .null, .null, .null], vm := .none }]
def classes : Array Class := #[k0, k1, k2, k3, k4, k5, k6, k7, k8, k9, k10, k11, k12, k13, k14, k15, k16, k17, k18, k19, k20, k21]
def interned : List (Array UInt16 × Addr) := []
def slotsUsed : Nat := 76
def theMethod : MethodId := ⟨1, 3⟩
def args0 : Array Value := #[.int 5, .int 4, .int 3, .int 2]
def aboutOver (below : List Frame) : State where
  vm := { classes := classes, interned := interned.toArray }
  heap := heap
  slotsUsed := slotsUsed
  threads := #[{ frames := .invoking theMethod args0 :: below }]
def below0 : List Frame := [.native { method := ⟨0, 0⟩, args := #[] }]
def about1 : State := aboutOver below0
def p0 : Program := .bare "" "" ""
def e0 : Env := launch0.env 0 0 0
theorem w_frames : about1.frames = Frame.invoking theMethod args0 :: below0 := rfl
set_option maxRecDepth 65536 in
theorem w_args : argsFit about1.vm theMethod args0 = true := by decide +kernel
set_option maxRecDepth 65536 in
theorem w_heap : heapFits about1 = true := by decide +kernel
set_option maxRecDepth 65536 in
theorem w_runnable : about1.curStatus? = some .runnable := by decide +kernel
set_option maxRecDepth 65536 in
theorem w_alone : about1.alone = true := by decide +kernel
set_option maxRecDepth 65536 in
theorem w_named : about1.methodNamed? x = some theMethod := by decide +kernel
set_option maxRecDepth 65536 in
theorem w_hears : about1.hears theMethod below0 = true := by decide +kernel
set_option maxRecDepth 65536 in
theorem w_ripe : about1.ripe theMethod args0 below0 = true := by decide +kernel
theorem w_running : about1.status = .running := rfl
set_option maxRecDepth 65536 in
theorem w_room : about1.hasRoom e0.platform room_1 = true :=
  launch0.hasRoom_least _ room_1 (by decide +kernel) (by decide +kernel) (by decide +kernel) (by decide +kernel) (by decide +kernel) (by decide +kernel)
theorem allAtoms_all (ts : List Jvm.Cond) (a : Array Jvm.Value) (st : Jvm.State) : (allAtoms ts).before a st = ts.all (fun c => c.before a st) := by
  induction ts with
  | nil => rfl
  | cons c t ih =>
    show (Jvm.Cond.and c (allAtoms t)).before a st = _
    rw [Jvm.Cond.before_and, ih, List.all_cons]
def words1 : List Jvm.Cond := Jvm.Cond.code x code maxLocals ret :: tables_1
/-- a 'code' word, met by the world's own term for the bytes: nothing is compared byte by byte -/
theorem code_word {y : MethodName} {bytes : ByteArray} {mx : Nat} {rt : Option FieldType} {a : Array Value} {s : State} {m : MethodId} {meth : Method} {c : Code} (h1 : s.methodNamed? y = some m) (h2 : s.vm.method? m = some meth) (h3 : meth.code = some c) (h4 : c.code = bytes)
    (h5 : (c.maxLocals == mx && c.exceptionTable.isEmpty && decide (c.maxStack ≤ mostOperands) && decide (meth.sig.returnType = rt) && !meth.locks && decide (parseMethodDescriptor y.desc = some meth.sig)) = true) : (Jvm.Cond.code y bytes mx rt).before a s = true := by
  simp only [Bool.and_eq_true, beq_iff_eq, Bool.not_eq_true', decide_eq_true_eq] at h5
  obtain ⟨⟨⟨⟨⟨g1, g2⟩, g3⟩, g4⟩, g5⟩, g6⟩ := h5
  simp [Cond.before, Cond.holds, Cond.value, h1, h2, h3, h4, g1, g2, g3, g4, g5, g6]
def isCode : Jvm.Cond → Bool
  | .code _ _ _ _ => true
  | _ => false
theorem all_split {L : List Jvm.Cond} {P : Jvm.Cond → Bool} (h1 : L.all (fun c => isCode c || P c) = true) (h2 : ∀ c ∈ L.filter isCode, P c = true) : L.all P = true := by
  refine List.all_eq_true.mpr fun c hc => ?_
  have h := List.all_eq_true.mp h1 c hc
  rcases Bool.eq_false_or_eq_true (isCode c) with hi | hi
  · exact h2 c (List.mem_filter.mpr ⟨hc, hi⟩)
  · simpa [hi] using h
set_option maxRecDepth 65536 in
theorem w_c0 : (Jvm.Cond.code x code maxLocals ret).before args0 about1 = true := code_word (m := ⟨1, 3⟩) (meth := k1m3) (c := k1c3) (by decide +kernel) rfl rfl rfl (by decide +kernel)
set_option maxRecDepth 65536 in
theorem w_c1 : (Jvm.Cond.code ({ cls := "com/example/queuebind/queuebind/SoapVersion", name := "ofMediaType", desc := "(Ljava/lang/String;)Lcom/example/queuebind/queuebind/SoapVersion;" } : Jvm.MethodName) prog_21_method_14_code (5 : Nat) (Option.some (Jvm.ClassFile.FieldType.object "com/example/queuebind/queuebind/SoapVersion"))).before args0 about1 = true := code_word (m := ⟨6, 1⟩) (meth := k6m1) (c := k6c1) (by decide +kernel) rfl rfl rfl (by decide +kernel)
set_option maxRecDepth 65536 in
theorem w_c2 : (Jvm.Cond.code ({ cls := "com/example/queuebind/queuebind/SoapVersion", name := "values", desc := "()[Lcom/example/queuebind/queuebind/SoapVersion;" } : Jvm.MethodName) prog_21_method_1_code (0 : Nat) (Option.some (Jvm.ClassFile.FieldType.array (Jvm.ClassFile.FieldType.object "com/example/queuebind/queuebind/SoapVersion")))).before args0 about1 = true := code_word (m := ⟨6, 0⟩) (meth := k6m0) (c := k6c0) (by decide +kernel) rfl rfl rfl (by decide +kernel)
set_option maxRecDepth 65536 in
theorem w_c3 : (Jvm.Cond.code ({ cls := "java/lang/String", name := "equals", desc := "(Ljava/lang/Object;)Z" } : Jvm.MethodName) jdk_42_method_66_code (3 : Nat) (Option.some Jvm.ClassFile.FieldType.boolean)).before args0 about1 = true := code_word (m := ⟨9, 2⟩) (meth := k9m2) (c := k9c2) (by decide +kernel) rfl rfl rfl (by decide +kernel)
set_option maxRecDepth 65536 in
theorem w_c4 : (Jvm.Cond.code ({ cls := "java/lang/StringLatin1", name := "equals", desc := "([B[B)Z" } : Jvm.MethodName) jdk_43_method_13_code (3 : Nat) (Option.some Jvm.ClassFile.FieldType.boolean)).before args0 about1 = true := code_word (m := ⟨11, 2⟩) (meth := k11m2) (c := k11c2) (by decide +kernel) rfl rfl rfl (by decide +kernel)
set_option maxRecDepth 65536 in
theorem w_c5 : (Jvm.Cond.code ({ cls := "java/lang/String", name := "<init>", desc := "([C)V" } : Jvm.MethodName) jdk_42_method_3_code (2 : Nat) (Option.none : Option Jvm.ClassFile.FieldType)).before args0 about1 = true := code_word (m := ⟨9, 1⟩) (meth := k9m1) (c := k9c1) (by decide +kernel) rfl rfl rfl (by decide +kernel)
set_option maxRecDepth 65536 in
theorem w_c6 : (Jvm.Cond.code ({ cls := "java/lang/String", name := "<init>", desc := "([CIILjava/lang/Void;)V" } : Jvm.MethodName) jdk_42_method_149_code (6 : Nat) (Option.none : Option Jvm.ClassFile.FieldType)).before args0 about1 = true := code_word (m := ⟨9, 4⟩) (meth := k9m4) (c := k9c4) (by decide +kernel) rfl rfl rfl (by decide +kernel)
set_option maxRecDepth 65536 in
theorem w_c7 : (Jvm.Cond.code ({ cls := "java/lang/Object", name := "<init>", desc := "()V" } : Jvm.MethodName) object_method_1_code (1 : Nat) (Option.none : Option Jvm.ClassFile.FieldType)).before args0 about1 = true := code_word (m := ⟨0, 0⟩) (meth := k0m0) (c := k0c0) (by decide +kernel) rfl rfl rfl (by decide +kernel)
set_option maxRecDepth 65536 in
theorem w_c8 : (Jvm.Cond.code ({ cls := "java/lang/StringUTF16", name := "compress", desc := "([CII)[B" } : Jvm.MethodName) jdk_52_method_16_code (6 : Nat) (Option.some (Jvm.ClassFile.FieldType.array Jvm.ClassFile.FieldType.byte))).before args0 about1 = true := code_word (m := ⟨12, 2⟩) (meth := k12m2) (c := k12c2) (by decide +kernel) rfl rfl rfl (by decide +kernel)
set_option maxRecDepth 65536 in
theorem w_c9 : (Jvm.Cond.code ({ cls := "java/lang/StringUTF16", name := "compress", desc := "([CI[BII)I" } : Jvm.MethodName) jdk_52_method_21_code (7 : Nat) (Option.some Jvm.ClassFile.FieldType.int)).before args0 about1 = true := code_word (m := ⟨12, 3⟩) (meth := k12m3) (c := k12c3) (by decide +kernel) rfl rfl rfl (by decide +kernel)
set_option maxRecDepth 65536 in
theorem w_c10 : (Jvm.Cond.code ({ cls := "java/lang/StringUTF16", name := "coderFromArrayLen", desc := "([BI)B" } : Jvm.MethodName) jdk_52_method_15_code (2 : Nat) (Option.some Jvm.ClassFile.FieldType.byte)).before args0 about1 = true := code_word (m := ⟨12, 1⟩) (meth := k12m1) (c := k12c1) (by decide +kernel) rfl rfl rfl (by decide +kernel)
set_option maxRecDepth 65536 in
theorem w_c11 : (Jvm.Cond.code ({ cls := "com/example/queuebind/queuebind/SoapVersionOfMediaTypePinLaw", name := "soapChars", desc := "()[C" } : Jvm.MethodName) method_3_code (0 : Nat) (Option.some (Jvm.ClassFile.FieldType.array Jvm.ClassFile.FieldType.char))).before args0 about1 = true := code_word (m := ⟨1, 2⟩) (meth := k1m2) (c := k1c2) (by decide +kernel) rfl rfl rfl (by decide +kernel)
set_option maxRecDepth 65536 in
theorem w_c12 : (Jvm.Cond.code ({ cls := "java/lang/String", name := "valueOf", desc := "(C)Ljava/lang/String;" } : Jvm.MethodName) jdk_42_method_139_code (1 : Nat) (Option.some (Jvm.ClassFile.FieldType.object "java/lang/String"))).before args0 about1 = true := code_word (m := ⟨9, 3⟩) (meth := k9m3) (c := k9c3) (by decide +kernel) rfl rfl rfl (by decide +kernel)
set_option maxRecDepth 65536 in
theorem w_c13 : (Jvm.Cond.code ({ cls := "java/lang/StringLatin1", name := "canEncode", desc := "(C)Z" } : Jvm.MethodName) jdk_43_method_3_code (1 : Nat) (Option.some Jvm.ClassFile.FieldType.boolean)).before args0 about1 = true := code_word (m := ⟨11, 1⟩) (meth := k11m1) (c := k11c1) (by decide +kernel) rfl rfl rfl (by decide +kernel)
set_option maxRecDepth 65536 in
theorem w_c14 : (Jvm.Cond.code ({ cls := "java/lang/StringLatin1", name := "toBytes", desc := "(C)[B" } : Jvm.MethodName) jdk_43_method_46_code (1 : Nat) (Option.some (Jvm.ClassFile.FieldType.array Jvm.ClassFile.FieldType.byte))).before args0 about1 = true := code_word (m := ⟨11, 3⟩) (meth := k11m3) (c := k11c3) (by decide +kernel) rfl rfl rfl (by decide +kernel)
set_option maxRecDepth 65536 in
theorem w_c15 : (Jvm.Cond.code ({ cls := "java/lang/String", name := "<init>", desc := "([BB)V" } : Jvm.MethodName) jdk_42_method_151_code (3 : Nat) (Option.none : Option Jvm.ClassFile.FieldType)).before args0 about1 = true := code_word (m := ⟨9, 5⟩) (meth := k9m5) (c := k9c5) (by decide +kernel) rfl rfl rfl (by decide +kernel)
set_option maxRecDepth 65536 in
theorem w_c16 : (Jvm.Cond.code ({ cls := "com/example/queuebind/queuebind/SoapVersionOfMediaTypePinLaw", name := "textChars", desc := "()[C" } : Jvm.MethodName) method_2_code (0 : Nat) (Option.some (Jvm.ClassFile.FieldType.array Jvm.ClassFile.FieldType.char))).before args0 about1 = true := code_word (m := ⟨1, 1⟩) (meth := k1m1) (c := k1c1) (by decide +kernel) rfl rfl rfl (by decide +kernel)
def codes1 : List Jvm.Cond := [Jvm.Cond.code x code maxLocals ret, Jvm.Cond.code ({ cls := "com/example/queuebind/queuebind/SoapVersion", name := "ofMediaType", desc := "(Ljava/lang/String;)Lcom/example/queuebind/queuebind/SoapVersion;" } : Jvm.MethodName) prog_21_method_14_code (5 : Nat) (Option.some (Jvm.ClassFile.FieldType.object "com/example/queuebind/queuebind/SoapVersion")), Jvm.Cond.code ({ cls := "com/example/queuebind/queuebind/SoapVersion", name := "values", desc := "()[Lcom/example/queuebind/queuebind/SoapVersion;" } : Jvm.MethodName) prog_21_method_1_code (0 : Nat) (Option.some (Jvm.ClassFile.FieldType.array (Jvm.ClassFile.FieldType.object "com/example/queuebind/queuebind/SoapVersion"))), Jvm.Cond.code ({ cls := "java/lang/String", name := "equals", desc := "(Ljava/lang/Object;)Z" } : Jvm.MethodName) jdk_42_method_66_code (3 : Nat) (Option.some Jvm.ClassFile.FieldType.boolean), Jvm.Cond.code ({ cls := "java/lang/StringLatin1", name := "equals", desc := "([B[B)Z" } : Jvm.MethodName) jdk_43_method_13_code (3 : Nat) (Option.some Jvm.ClassFile.FieldType.boolean), Jvm.Cond.code ({ cls := "java/lang/String", name := "<init>", desc := "([C)V" } : Jvm.MethodName) jdk_42_method_3_code (2 : Nat) (Option.none : Option Jvm.ClassFile.FieldType), Jvm.Cond.code ({ cls := "java/lang/String", name := "<init>", desc := "([CIILjava/lang/Void;)V" } : Jvm.MethodName) jdk_42_method_149_code (6 : Nat) (Option.none : Option Jvm.ClassFile.FieldType), Jvm.Cond.code ({ cls := "java/lang/Object", name := "<init>", desc := "()V" } : Jvm.MethodName) object_method_1_code (1 : Nat) (Option.none : Option Jvm.ClassFile.FieldType), Jvm.Cond.code ({ cls := "java/lang/StringUTF16", name := "compress", desc := "([CII)[B" } : Jvm.MethodName) jdk_52_method_16_code (6 : Nat) (Option.some (Jvm.ClassFile.FieldType.array Jvm.ClassFile.FieldType.byte)), Jvm.Cond.code ({ cls := "java/lang/StringUTF16", name := "compress", desc := "([CI[BII)I" } : Jvm.MethodName) jdk_52_method_21_code (7 : Nat) (Option.some Jvm.ClassFile.FieldType.int), Jvm.Cond.code ({ cls := "java/lang/StringUTF16", name := "coderFromArrayLen", desc := "([BI)B" } : Jvm.MethodName) jdk_52_method_15_code (2 : Nat) (Option.some Jvm.ClassFile.FieldType.byte), Jvm.Cond.code ({ cls := "com/example/queuebind/queuebind/SoapVersionOfMediaTypePinLaw", name := "soapChars", desc := "()[C" } : Jvm.MethodName) method_3_code (0 : Nat) (Option.some (Jvm.ClassFile.FieldType.array Jvm.ClassFile.FieldType.char)), Jvm.Cond.code ({ cls := "java/lang/String", name := "valueOf", desc := "(C)Ljava/lang/String;" } : Jvm.MethodName) jdk_42_method_139_code (1 : Nat) (Option.some (Jvm.ClassFile.FieldType.object "java/lang/String")), Jvm.Cond.code ({ cls := "java/lang/StringLatin1", name := "canEncode", desc := "(C)Z" } : Jvm.MethodName) jdk_43_method_3_code (1 : Nat) (Option.some Jvm.ClassFile.FieldType.boolean), Jvm.Cond.code ({ cls := "java/lang/StringLatin1", name := "toBytes", desc := "(C)[B" } : Jvm.MethodName) jdk_43_method_46_code (1 : Nat) (Option.some (Jvm.ClassFile.FieldType.array Jvm.ClassFile.FieldType.byte)), Jvm.Cond.code ({ cls := "java/lang/String", name := "<init>", desc := "([BB)V" } : Jvm.MethodName) jdk_42_method_151_code (3 : Nat) (Option.none : Option Jvm.ClassFile.FieldType), Jvm.Cond.code ({ cls := "com/example/queuebind/queuebind/SoapVersionOfMediaTypePinLaw", name := "textChars", desc := "()[C" } : Jvm.MethodName) method_2_code (0 : Nat) (Option.some (Jvm.ClassFile.FieldType.array Jvm.ClassFile.FieldType.char))]
set_option maxRecDepth 65536 in
theorem codes_eq : words1.filter isCode = codes1 := rfl
theorem w_codes : ∀ c ∈ words1.filter isCode, c.before args0 about1 = true := by
  rw [codes_eq]
  intro c hc
  simp only [codes1, List.mem_cons, List.not_mem_nil, or_false] at hc
  rcases hc with rfl | rfl | rfl | rfl | rfl | rfl | rfl | rfl | rfl | rfl | rfl | rfl | rfl | rfl | rfl | rfl | rfl
  · exact w_c0
  · exact w_c1
  · exact w_c2
  · exact w_c3
  · exact w_c4
  · exact w_c5
  · exact w_c6
  · exact w_c7
  · exact w_c8
  · exact w_c9
  · exact w_c10
  · exact w_c11
  · exact w_c12
  · exact w_c13
  · exact w_c14
  · exact w_c15
  · exact w_c16
set_option maxRecDepth 65536 in
theorem w_t1 : (words1.take 24).all (fun c => isCode c || c.before args0 about1) = true := by decide +kernel
set_option maxRecDepth 65536 in
theorem w_t2 : ((words1.drop 24).take 24).all (fun c => isCode c || c.before args0 about1) = true := by decide +kernel
set_option maxRecDepth 65536 in
theorem w_t3 : (((words1.drop 24).drop 24).take 24).all (fun c => isCode c || c.before args0 about1) = true := by decide +kernel
set_option maxRecDepth 65536 in
theorem w_t4 : (((words1.drop 24).drop 24).drop 24).all (fun c => isCode c || c.before args0 about1) = true := by decide +kernel
theorem w_tables : (allAtoms (Jvm.Cond.code x code maxLocals ret :: tables_1)).before args0 about1 = true := by
  rw [allAtoms_all]
  show words1.all (fun c => c.before args0 about1) = true
  refine all_split ?_ w_codes
  rw [← List.take_append_drop 24 words1, List.all_append, w_t1, ← List.take_append_drop 24 (words1.drop 24), List.all_append, w_t2, ← List.take_append_drop 24 ((words1.drop 24).drop 24), List.all_append, w_t3, w_t4]
  rfl
set_option maxRecDepth 65536 in
theorem w_rest : rest_1_c.before args0 about1 = true := by decide +kernel
set_option maxRecDepth 65536 in
theorem w_case : (Jvm.Cond.and given_1 narrow_1).before args0 about1 = true := by decide +kernel
set_option maxRecDepth 65536 in
theorem w_consts : constsHeld consts_1 about1 := Jvm.Lit.constsHeldB_iff.mp (by decide +kernel)
theorem w_applies : (headSpec (Jvm.Cond.code x code maxLocals ret :: tables_1) room_1).applies x e0.platform about1 = true :=
  (Spec.applies_iff w_frames).mpr ⟨w_running, w_runnable, w_alone, w_named, w_hears, w_ripe, w_room, w_tables⟩
theorem atStart : AtStart classFile x code maxLocals ret World_1 tables_1 room_1 Calls_1 rest_1 Pre_1 launch0 p0 e0 about1 theMethod args0 below0 :=
  ⟨lists_1, trivial, launch0.admits_env _ _ _, launch0.least_env, fairChoices_fair.cas, fairChoices_fair.clock, w_frames, w_args, w_heap, w_applies, ⟨w_consts, trivial⟩, w_rest, w_case⟩
end start1
theorem witness_1 : WitnessClaimed_1 := ⟨start1.p0, start1.e0, start1.about1, start1.theMethod, start1.args0, start1.below0, start1.atStart⟩
end Jvm.Pilot.@@N@@
