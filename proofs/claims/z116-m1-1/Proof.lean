import JvmDerived
import JvmDerived.Pilot.@@N@@Statement
import JvmDerived.Pilot.@@N@@Code
set_option linter.unusedVariables false
set_option linter.unusedSimpArgs false
namespace Jvm.RoadKit
open Sem ClassFile Op Lib Jvm.Stand Jvm.Free Jvm.LawKit
section New
variable {p : Program} {l : Launch} {e : Env} {R : Room} {s : State} {m : MethodId} {args : Array Value} {below : List Frame} {meth : Method} {c : Code} {T : State} {locs : List Loc} {cells slots : Nat}
theorem own_retI (X : Stand p l e R s m args below meth c T locs cells slots) (hx : p.tables.exec = Jvm.exec) {pc : Nat} {Ls : Array Slot} {z : Int32} {rest : List Value} (hret : meth.sig.returnType = some .int) (hd : decode c.code pc = .ok (.ireturn, 1)) {fs : List Frame}
    (hl : ∀ (f : JFrame) (acts : List Action), f.method = m → f.locked = none → f.entered = [] → (doReturn e (T.setTop f) acts (some (.int z))).1 = T.setFrames fs) : Steps p.tables e below (T.setTop (mkF m pc Ls (.int z :: rest))) (T.setFrames fs) := by
  have hm' : T.vm.method? m = some meth := X.method'
  have hn : narrow .int (.int z) = .int z := rfl
  show Steps p.tables e below (T.setTop { method := m, pc := pc, locals := Ls, stack := _ :: rest, locked := none }) _
  jvm_step X.here [X.here.top, hx, hd, hm', hret, hn]
  first | (intro acts; rw [hl _ acts rfl rfl rfl]) | rw [hl _ _ rfl rfl rfl]
  exact Steps.refl _
theorem own_retL (X : Stand p l e R s m args below meth c T locs cells slots) (hx : p.tables.exec = Jvm.exec) {pc : Nat} {Ls : Array Slot} {z : Int64} {rest : List Value} (hret : meth.sig.returnType = some .long) (hd : decode c.code pc = .ok (.lreturn, 1)) {fs : List Frame}
    (hl : ∀ (f : JFrame) (acts : List Action), f.method = m → f.locked = none → f.entered = [] → (doReturn e (T.setTop f) acts (some (.long z))).1 = T.setFrames fs) : Steps p.tables e below (T.setTop (mkF m pc Ls (.long z :: rest))) (T.setFrames fs) := by
  have hm' : T.vm.method? m = some meth := X.method'
  have hn : narrow .long (.long z) = .long z := rfl
  show Steps p.tables e below (T.setTop { method := m, pc := pc, locals := Ls, stack := _ :: rest, locked := none }) _
  jvm_step X.here [X.here.top, hx, hd, hm', hret, hn]
  first | (intro acts; rw [hl _ acts rfl rfl rfl]) | rw [hl _ _ rfl rfl rfl]
  exact Steps.refl _
theorem own_retR (X : Stand p l e R s m args below meth c T locs cells slots) (hx : p.tables.exec = Jvm.exec) {pc : Nat} {Ls : Array Slot} {w : Value} {t : FieldType} {rest : List Value} (hret : meth.sig.returnType = some t) (hn : narrow t w = w) (ht : t.isReference = true) (hw : w.isRef = true) (hd : decode c.code pc = .ok (.areturn, 1)) {fs : List Frame}
    (hl : ∀ (f : JFrame) (acts : List Action), f.method = m → f.locked = none → f.entered = [] → (doReturn e (T.setTop f) acts (some w)).1 = T.setFrames fs) : Steps p.tables e below (T.setTop (mkF m pc Ls (w :: rest))) (T.setFrames fs) := by
  have hm' : T.vm.method? m = some meth := X.method'
  show Steps p.tables e below (T.setTop { method := m, pc := pc, locals := Ls, stack := _ :: rest, locked := none }) _
  jvm_step X.here [X.here.top, hx, hd, hm', hret, hn, hw]
  try (refine ⟨ht, ?_⟩)
  first | (intro acts; rw [hl _ acts rfl rfl rfl]) | rw [hl _ _ rfl rfl rfl]
  exact Steps.refl _
/-- from here the run comes to a state of which G holds -/
def Out (tb : Tables) (e : Env) (below : List Frame) (G : State → Prop) (T : State) (g : JFrame) : Prop := ∃ U, Steps tb e below (T.setTop g) U ∧ G U
theorem Out.via {tb : Tables} {G : State → Prop} {T' : State} {g g' : JFrame} (h : ∀ target, Steps tb e below (T'.setTop g') target → Steps tb e below (T.setTop g) target) (k : Out tb e below G T' g') : Out tb e below G T g := by
  obtain ⟨U, h1, h2⟩ := k
  exact ⟨U, h _ h1, h2⟩
theorem Out.to {tb : Tables} {G : State → Prop} {T' : State} {g g' : JFrame} (h : Steps tb e below (T.setTop g) (T'.setTop g')) (k : Out tb e below G T' g') : Out tb e below G T g := by
  obtain ⟨U, h1, h2⟩ := k
  exact ⟨U, h.trans h1, h2⟩
/-- what a contract asks of the end -/
def End (s : State) (below : List Frame) (Q : Option Value → Heap → List Loc → Prop) (kc ks : Nat) (U : State) : Prop := U.status = .running ∧ ∃ o, Ended U below o ∧ ∃ v L, o = .returned v ∧ Q v U.heap L ∧ FrameEnd s o U L kc ks
theorem Out.start {tb : Tables} {Q : Option Value → Heap → List Loc → Prop} {kc ks : Nat} {g g' : JFrame} (q : g = g') (k : Out tb e below (End s below Q kc ks) T g') : ∃ s₂ o, Steps tb e below (T.setTop g) s₂ ∧ s₂.status = .running ∧ Ended s₂ below o ∧ ∃ v L, o = .returned v ∧ Q v s₂.heap L ∧ FrameEnd s o s₂ L kc ks := by
  subst q
  obtain ⟨U, h1, h2, o, h3, h4⟩ := k
  exact ⟨U, o, h1, h2, h3, h4⟩
/-- the end of a narrow walk, whatever the return's kind -/
theorem Out.endN (X : Stand p l e R s m args below meth c T locs cells slots) {g : JFrame} {v : Option Value} {Q : Option Value → Heap → List Loc → Prop} {kc ks : Nat} (hv : meth.sig.returnType = none → v = none) (hk : meth.locks = false) (hc : cells ≤ kc) (hs : slots ≤ ks) (hq : Q v T.heap locs)
    (st : ∀ fs : List Frame, (∀ (f : JFrame) (acts : List Action), f.method = m → f.locked = none → f.entered = [] → (doReturn e (T.setTop f) acts v).1 = T.setFrames fs) → Steps p.tables e below (T.setTop g) (T.setFrames fs)) : Out p.tables e below (End s below Q kc ks) T g := by
  obtain ⟨fs, hr, hrun, hended, hW, hsame⟩ := X.leave (v := v) hv hk
  exact ⟨_, st fs hr, hrun, _, hended, _, _, rfl, hq, ⟨_, rfl⟩, hW, hsame.mono hc hs⟩
/-- what a contract asks of the end, where literals may have been interned -/
def EndW (s : State) (below : List Frame) (Q : Option Value → Heap → List Loc → Prop) (kc ks : Nat) (U : State) : Prop := U.status = .running ∧ ∃ o, Ended U below o ∧ ∃ v L, o = .returned v ∧ Q v U.heap L ∧ ReturnedEndW s o U L kc ks
theorem Out.startW {tb : Tables} {Q : Option Value → Heap → List Loc → Prop} {kc ks : Nat} {g g' : JFrame} (q : g = g') (k : Out tb e below (EndW s below Q kc ks) T g') : ∃ s₂ o, Steps tb e below (T.setTop g) s₂ ∧ s₂.status = .running ∧ Ended s₂ below o ∧ ∃ v L, o = .returned v ∧ Q v s₂.heap L ∧ ReturnedEndW s o s₂ L kc ks := by
  subst q
  obtain ⟨U, h1, h2, o, h3, h4⟩ := k
  exact ⟨U, o, h1, h2, h3, h4⟩
theorem Out.endW {vm0 : Vm} {n : Nat} (X : Stand p l e R (s.setVm vm0) m args below meth c T locs cells slots) (hS : s.Since vm0 n) (hn : n ≤ T.heap.size) {g : JFrame} {v : Option Value} {Q : Option Value → Heap → List Loc → Prop} {kc ks : Nat} (hv : meth.sig.returnType = none → v = none) (hk : meth.locks = false) (hc : cells ≤ kc) (hs : slots ≤ ks) (hq : Q v T.heap locs)
    (st : ∀ fs : List Frame, (∀ (f : JFrame) (acts : List Action), f.method = m → f.locked = none → f.entered = [] → (doReturn e (T.setTop f) acts v).1 = T.setFrames fs) → Steps p.tables e below (T.setTop g) (T.setFrames fs)) : Out p.tables e below (EndW s below Q kc ks) T g := by
  obtain ⟨fs, hr, hrun, hended, h1, h2, h3, h4⟩ := X.leaveW hS hn (v := v) hv hk
  exact ⟨_, st fs hr, hrun, _, hended, _, _, rfl, hq, h1, h2, h3, h4.mono hc hs⟩
/-- .. and the assumed word on the literals goes on -/
def EndH (Z : State) (EL : List (String × Nat)) (s : State) (below : List Frame) (Q : Option Value → Heap → List Loc → Prop) (kc ks : Nat) (U : State) : Prop := U.status = .running ∧ ∃ o, Ended U below o ∧ ∃ v L, o = .returned v ∧ Q v U.heap L ∧ CHr Z EL s.vm s.heap U.vm U.heap ∧ ReturnedEndW s o U L kc ks
theorem Out.startH {tb : Tables} {Z : State} {EL : List (String × Nat)} {Q : Option Value → Heap → List Loc → Prop} {kc ks : Nat} {g g' : JFrame} (q : g = g') (k : Out tb e below (EndH Z EL s below Q kc ks) T g') : ∃ s₂ o, Steps tb e below (T.setTop g) s₂ ∧ s₂.status = .running ∧ Ended s₂ below o ∧ ∃ v L, o = .returned v ∧ Q v s₂.heap L ∧ CHr Z EL s.vm s.heap s₂.vm s₂.heap ∧ ReturnedEndW s o s₂ L kc ks := by
  subst q
  obtain ⟨U, h1, h2, o, h3, h4⟩ := k
  exact ⟨U, o, h1, h2, h3, h4⟩
theorem Out.endH {Z : State} {a0 : Array Value} {EL : List (String × Nat)} {vm0 : Vm} {n : Nat} (X : Stand p l e R (s.setVm vm0) m args below meth c T locs cells slots) (hS : s.Since vm0 n) (hn : n ≤ T.heap.size) (hZ : Z.Warmed39 (s.setVm vm0).vm) (w : EW Z a0 EL) (CR : CHr Z EL s.vm s.heap vm0 T.heap) {g : JFrame} {v : Option Value} {Q : Option Value → Heap → List Loc → Prop} {kc ks : Nat} (hv : meth.sig.returnType = none → v = none) (hk : meth.locks = false) (hc : cells ≤ kc) (hs : slots ≤ ks) (hq : Q v T.heap locs)
    (st : ∀ fs : List Frame, (∀ (f : JFrame) (acts : List Action), f.method = m → f.locked = none → f.entered = [] → (doReturn e (T.setTop f) acts v).1 = T.setFrames fs) → Steps p.tables e below (T.setTop g) (T.setFrames fs)) : Out p.tables e below (EndH Z EL s below Q kc ks) T g := by
  obtain ⟨fs, hr, hrun, hended, h1, h2, h3, h4⟩ := X.leaveW hS hn (v := v) hv hk
  have q : CHr Z EL vm0 T.heap T.vm T.heap := CHv.at X hZ w CR.1
  exact ⟨_, st fs hr, hrun, _, hended, _, _, rfl, hq, CR.trans q, h1, h2, h3, h4.mono hc hs⟩
theorem own_since0 (s : State) (n : Nat) : s.Since s.vm n := (State.WarmedH.refl s).since n
/-- castore into an array whose values are known: what stands behind it -/
theorem own_stC (X : Stand p l e R s m args below meth c T locs cells slots) (hx : p.tables.exec = Jvm.exec) {Z : State} (hZ : Z.Warmed39 s.vm) {h h1 : Heap} (eT : T.heap = h) {a : Addr} {k : ClassId} {z : Int32} {vs : List Value} {dv : Value} (V : Arv Z h a k .char z vs dv) {j x : Int32} (hj : ¬ j < 0 ∧ j < z) (i : Nat) (hi : j.toNatClampNeg = i) (hl : i < vs.length)
    {n0 : Nat} (ga : n0 ≤ a) (N : Fr n0 locs) (O : Old Z n0 h) {ws : List Addr} (K : Keep h1 h ws) (hK : a ∈ ws ∨ h1.size ≤ a) {g : JFrame} (hg : g.method = m) {rest : List Value} (hs : g.stack = .int x :: .int j :: .ref a :: rest) (hd : decode c.code g.pc = .ok (.castore, 1)) :
    ∃ T' h' L', Stand p l e R s m args below meth c T' L' cells slots ∧ T'.heap = h' ∧ Arv Z h' a k .char z (vs.set i (.int (nar .char x))) dv ∧ Fr n0 L' ∧ Old Z n0 h' ∧ Keep h1 h' ws ∧ ∀ target, Steps p.tables e below (T'.setTop { g with pc := g.pc + 1, stack := rest }) target → Steps p.tables e below (T.setTop g) target := by
  obtain ⟨cl, Ar, q, S, M, H, G⟩ := V
  obtain ⟨T', h', X', e', W, st⟩ := stC X hx hZ eT Ar (j := j) (inb_of S hj) hg hs hd
  exact ⟨T', h', _, X', e', Arv.set Ar q S M H G (fits_nar_char _) W i hi hl, Fr.snoc X' N ga, O.wr W ga, K.wr W hK, st⟩
theorem own_z0 {Z : State} {n0 : Nat} {h : Heap} (O : Old Z n0 h) : n0 ≤ h.size := O.1 ▸ O.2.1
end New
end Jvm.RoadKit
/- laws to paste: Road.backArv, Road.eqW, Road.codOf (cut by pick.py; bodies as the Statement names them) -/
namespace Jvm.Pilot.@@N@@
namespace StrChars
open Jvm Sem ClassFile Op Lib Jvm.Stand Jvm.Free.XT Jvm.Free.ALB Jvm.Free.JM Jvm.Free
open Jvm.Lib.Cold (StaticIs)
/-- a char array whose places are chars -/
def Ch (a : Addr) (A : Cell) (U : State) : Prop := Arr .char a A U ∧ Typed .char A
theorem Ch.mv {a : Addr} {A : Cell} {U U' : State} (h : Ch a A U) (hal : U.vm.Alike U'.vm) (hh : U'.heap = U.heap) : Ch a A U' := ⟨h.1.mv hal hh, h.2⟩
theorem Ch.keep {a : Addr} {A : Cell} {U U' : State} (h : Ch a A U) (hal : U.vm.Alike U'.vm) (hk : U'.heap[a]? = some A) : Ch a A U' := ⟨h.1.keep hal hk, h.2⟩
/-- what place i of a char[]'s cell holds -/
def cv (A : Cell) (i : Nat) : Int32 := match A.slots[i]? with | some (.int x) => x | _ => 0
theorem Ch.get {a : Addr} {A : Cell} {U : State} (h : Ch a A U) {i : Nat} (hi : i < A.slots.size) : A.slots[i]? = some (.int (cv A i)) := by
  have e := Array.getElem?_eq_getElem hi
  have f := h.2 i _ e
  unfold cv; rw [e]
  generalize A.slots[i] = v at f
  cases v <;> simp [fits] at f ⊢
/-- the byte that i2b leaves of a char -/
def lo8 (x : Int32) : Int32 := x.toInt8.toInt32
theorem fits_lo8 (y : Int32) : fits .byte (.int (lo8 y)) = true := by
  have h1 := y.toInt8.le_toInt
  have h2 := y.toInt8.toInt_lt
  simp only [lo8, fits, Bool.and_eq_true, decide_eq_true_eq, Int32.le_iff_toInt_le, Int8.toInt_toInt32, show (-128 : Int32).toInt = -128 from by decide, show (127 : Int32).toInt = 127 from by decide]
  omega
/-- A' is A but that each place j of lo .. hi - 1 holds f j -/
def Laid (A A' : Cell) (lo hi : Nat) (f : Nat → Value) : Prop := A'.cls = A.cls ∧ A'.vm = A.vm ∧ A'.slots.size = A.slots.size ∧ ∀ i, A'.slots[i]? = if lo ≤ i ∧ i < hi then some (f i) else A.slots[i]?
theorem Laid.zero (A : Cell) (lo : Nat) (f : Nat → Value) : Laid A A lo (lo + 0) f := ⟨rfl, rfl, rfl, fun i => by rw [if_neg (by omega)]⟩
theorem Laid.step {A Ak : Cell} {lo k : Nat} {f : Nat → Value} {v : Value} (h : Laid A Ak lo k f) (hlo : lo ≤ k) (hk : k < Ak.slots.size) (hv : v = f k) : Laid A (Ak.setSlot k v) lo (k + 1) f := by
  refine ⟨h.1, h.2.1, by simpa [Cell.setSlot] using h.2.2.1, fun i => ?_⟩
  by_cases e : k = i
  · subst e; rw [Cell.slots_setSlot_self v hk, if_pos (by omega), hv]
  · rw [Cell.slots_setSlot_ne v e, h.2.2.2 i]
    by_cases q : lo ≤ i ∧ i < k
    · rw [if_pos q, if_pos (by omega)]
    · rw [if_neg q, if_neg (by omega)]
def U16 : String := "java/lang/StringUTF16"
namespace Cmp5
def yN : MethodName := ⟨"java/lang/StringUTF16", "compress", "([CI[BII)I"⟩
abbrev yB : ByteArray := jdk_52_method_21_code
theorem d0 : decode yB 0 = .ok (.iconst 0, 1) := by decide +kernel
theorem d1 : decode yB 1 = .ok (.istore 5, 2) := by decide +kernel
theorem d3 : decode yB 3 = .ok (.iload 5, 2) := by decide +kernel
theorem d5 : decode yB 5 = .ok (.iload 4, 2) := by decide +kernel
theorem d7 : decode yB 7 = .ok (.if_icmp (.ge) 37, 3) := by decide +kernel
theorem d10 : decode yB 10 = .ok (.aload_n 0, 1) := by decide +kernel
theorem d11 : decode yB 11 = .ok (.iload_n 1, 1) := by decide +kernel
theorem d12 : decode yB 12 = .ok (.caload, 1) := by decide +kernel
theorem d13 : decode yB 13 = .ok (.istore 6, 2) := by decide +kernel
theorem d15 : decode yB 15 = .ok (.iload 6, 2) := by decide +kernel
theorem d17 : decode yB 17 = .ok (.sipush 255, 3) := by decide +kernel
theorem d20 : decode yB 20 = .ok (.if_icmp (.le) 6, 3) := by decide +kernel
theorem d26 : decode yB 26 = .ok (.aload_n 2, 1) := by decide +kernel
theorem d27 : decode yB 27 = .ok (.iload_n 3, 1) := by decide +kernel
theorem d28 : decode yB 28 = .ok (.iload 6, 2) := by decide +kernel
theorem d30 : decode yB 30 = .ok (.i2b, 1) := by decide +kernel
theorem d31 : decode yB 31 = .ok (.bastore, 1) := by decide +kernel
theorem d32 : decode yB 32 = .ok (.iinc 1 1, 3) := by decide +kernel
theorem d35 : decode yB 35 = .ok (.iinc 3 1, 3) := by decide +kernel
theorem d38 : decode yB 38 = .ok (.iinc 5 1, 3) := by decide +kernel
theorem d41 : decode yB 41 = .ok (.goto (-38), 3) := by decide +kernel
theorem d44 : decode yB 44 = .ok (.iload 4, 2) := by decide +kernel
theorem d46 : decode yB 46 = .ok (.ireturn, 1) := by decide +kernel
def site : List Cond := []
def tab : Cond := tabOf yN yB 7 (some .int) site
def P (b : Addr) (A : Cell) (d : Addr) (B : Cell) (o q len : Nat) (args : Array Value) (s : State) : Prop := args = #[.ref b, .int (Int32.ofNat o), .ref d, .int (Int32.ofNat q), .int (Int32.ofNat len)] ∧ Ch b A s ∧ Arr .byte d B s ∧ b ≠ d ∧ o + len ≤ A.slots.size ∧ q + len ≤ B.slots.size ∧ ∀ i, i < len → ¬ 255 < cv A (o + i)
def E (b : Addr) (A : Cell) (d : Addr) (B : Cell) (o q len : Nat) (r : Option Value) (s u : State) : Prop := r = some (.int (Int32.ofNat len)) ∧ ∃ B', Put d B' s u ∧ Laid B B' q (q + len) (fun j => Value.int (lo8 (cv A (o + (j - q)))))
/-- no char of the range above 255: len; the places written hold each char's low byte -/
theorem law (l : Launch) (b : Addr) (A : Cell) (d : Addr) (B : Cell) (o q len : Nat) : Law l yN 5 5 0 0 yB 7 (some .int) site (P b A d B o q len) (E b A d B o q len) (copyLocs d q len) 0 0 := by
  refine Law.of_walk (plainFor_of_name (by decide +kernel)) (by decide +kernel) (by decide +kernel) (by decide) (fun _ _ h => by rw [h.1]; rfl) (fun _ U U' hal hh h => ⟨h.1, h.2.1.mv hal hh, h.2.2.1.mv hal hh, h.2.2.2⟩) (fun r U U' V V' h1 hal h2 h => ⟨h.1, h.2.elim fun B' q => ⟨B', q.1.mv h1 h2, q.2⟩⟩) ?_
  intro p e s m args below meth c s₁ X0 hexec hbytes hml hret hlk hnm hown hh0 W hP
  obtain ⟨rfl, hA, hB, hne, l1, l2, hp⟩ := hP
  have c1 : Steps p.tables e below (s₁.setTop (entryFrame m #[.ref b, .int (Int32.ofNat o), .ref d, .int (Int32.ofNat q), .int (Int32.ofNat len)] 7)) (s₁.setTop (mkF m 0 #[.val (.ref b), .val (.int (Int32.ofNat o)), .val (.ref d), .val (.int (Int32.ofNat q)), .val (.int (Int32.ofNat len)), .unset, .unset] [])) := entry rfl
  have hA0 := hA.1.mv X0.warmed.alike hh0
  have hB0 := hB.mv X0.warmed.alike hh0
  have a31 := hA.1.2.2.2
  have c2 : Steps p.tables e below (s₁.setTop (entryFrame m #[.ref b, .int (Int32.ofNat o), .ref d, .int (Int32.ofNat q), .int (Int32.ofNat len)] 7)) (s₁.setTop (mkF m 3 #[.val (.ref b), .val (.int (Int32.ofNat o)), .val (.ref d), .val (.int (Int32.ofNat q)), .val (.int (Int32.ofNat len)), .val (.int 0), .unset] [])) := c1.trans (by
    refine iconstV X0.here hexec rfl 0 (hb hbytes d0) (by decide) ?_
    refine XS.istore X0.here hexec rfl (hb hbytes d1) rfl rfl ?_
    exact Steps.refl _)
  have loop : ∀ (r i : Nat), i + r = len → ∀ (z : Slot), (z = .unset ∨ ∃ w, z = .val w ∧ w.category = 1) → ∀ (Tl : State) (Bk : Cell), Stand p l e { frames := 0, locals := 0, cells := 0, slots := 0 } s m #[.ref b, .int (Int32.ofNat o), .ref d, .int (Int32.ofNat q), .int (Int32.ofNat len)] below meth c Tl ([] ++ copyLocs d q i) 0 0 → Put d Bk s₁ Tl → Laid B Bk q (q + i) (fun j => Value.int (lo8 (cv A (o + (j - q))))) →
      Steps p.tables e below (s₁.setTop (entryFrame m #[.ref b, .int (Int32.ofNat o), .ref d, .int (Int32.ofNat q), .int (Int32.ofNat len)] 7)) (Tl.setTop (mkF m 3 #[.val (.ref b), .val (.int (Int32.ofNat (o + i))), .val (.ref d), .val (.int (Int32.ofNat (q + i))), .val (.int (Int32.ofNat len)), .val (.int (Int32.ofNat i)), z] [])) → ∃ (T' : State) (B' : Cell) (z' : Slot), Stand p l e { frames := 0, locals := 0, cells := 0, slots := 0 } s m #[.ref b, .int (Int32.ofNat o), .ref d, .int (Int32.ofNat q), .int (Int32.ofNat len)] below meth c T' ([] ++ copyLocs d q len) 0 0 ∧ Put d B' s₁ T' ∧ Laid B B' q (q + len) (fun j => Value.int (lo8 (cv A (o + (j - q))))) ∧
      Steps p.tables e below (s₁.setTop (entryFrame m #[.ref b, .int (Int32.ofNat o), .ref d, .int (Int32.ofNat q), .int (Int32.ofNat len)] 7)) (T'.setTop (mkF m 3 #[.val (.ref b), .val (.int (Int32.ofNat (o + len))), .val (.ref d), .val (.int (Int32.ofNat (q + len))), .val (.int (Int32.ofNat len)), .val (.int (Int32.ofNat len)), z'] [])) := by
    intro r
    induction r with
    | zero =>
      intro i hi z hz Tl Bk Xl pl fl cl
      have hil : i = len := by omega
      rw [hil] at Xl fl cl
      exact ⟨Tl, Bk, z, Xl, pl, fl, cl⟩
    | succ r ih =>
      intro i hi z hz Tl Bk Xl pl fl cl
      have all := X0.warmed.alike.symm.trans Xl.warmed.alike
      have hAl := hA0.keep all (pl.other hne hA0.1)
      have hBk := hB0.like all pl.1 fl.1 fl.2.1 fl.2.2.1
      have hlt : q + i < Bk.slots.size := by rw [fl.2.2.1]; omega
      have c3 : Steps p.tables e below (s₁.setTop (entryFrame m #[.ref b, .int (Int32.ofNat o), .ref d, .int (Int32.ofNat q), .int (Int32.ofNat len)] 7)) (Tl.setTop (mkF m 12 #[.val (.ref b), .val (.int (Int32.ofNat (o + i))), .val (.ref d), .val (.int (Int32.ofNat (q + i))), .val (.int (Int32.ofNat len)), .val (.int (Int32.ofNat i)), z] [.int (Int32.ofNat (o + i)), .ref b])) := cl.trans (by
        refine XS.iload Xl.here hexec rfl (hb hbytes d3) rfl ?_
        refine XS.iload Xl.here hexec rfl (hb hbytes d5) rfl ?_
        refine XS.icmpNo Xl.here hexec rfl (hb hbytes d7) rfl (ii_ge_f (lt32 (by omega) (by omega))) ?_
        refine XS.aloadN Xl.here hexec rfl (hb hbytes d10) rfl rfl ?_
        refine XS.iloadN Xl.here hexec rfl (hb hbytes d11) rfl ?_
        exact Steps.refl _)
      have c4 : Steps p.tables e below (s₁.setTop (entryFrame m #[.ref b, .int (Int32.ofNat o), .ref d, .int (Int32.ofNat q), .int (Int32.ofNat len)] 7)) (Tl.setTop (mkF m 13 #[.val (.ref b), .val (.int (Int32.ofNat (o + i))), .val (.ref d), .val (.int (Int32.ofNat (q + i))), .val (.int (Int32.ofNat len)), .val (.int (Int32.ofNat i)), z] [.int (cv A (o + i))])) := c3.trans (by
        refine Xl.aget hexec hAl rfl (hA.get (i := o + i) (by omega)) rfl rfl (hb hbytes d12) ?_
        exact Steps.refl _)
      have c5 : Steps p.tables e below (s₁.setTop (entryFrame m #[.ref b, .int (Int32.ofNat o), .ref d, .int (Int32.ofNat q), .int (Int32.ofNat len)] 7)) (Tl.setTop (mkF m 15 #[.val (.ref b), .val (.int (Int32.ofNat (o + i))), .val (.ref d), .val (.int (Int32.ofNat (q + i))), .val (.int (Int32.ofNat len)), .val (.int (Int32.ofNat i)), .val (.int (cv A (o + i)))] [])) := c4.trans (by
        refine XS.istoreS Xl.here hexec rfl (hb hbytes d13) rfl rfl hz ?_
        exact Steps.refl _)
      have c6 : Steps p.tables e below (s₁.setTop (entryFrame m #[.ref b, .int (Int32.ofNat o), .ref d, .int (Int32.ofNat q), .int (Int32.ofNat len)] 7)) (Tl.setTop (mkF m 31 #[.val (.ref b), .val (.int (Int32.ofNat (o + i))), .val (.ref d), .val (.int (Int32.ofNat (q + i))), .val (.int (Int32.ofNat len)), .val (.int (Int32.ofNat i)), .val (.int (cv A (o + i)))] [.int (lo8 (cv A (o + i))), .int (Int32.ofNat (q + i)), .ref d])) := c5.trans (by
        refine XS.iload Xl.here hexec rfl (hb hbytes d15) rfl ?_
        refine sipushV Xl.here hexec rfl 255 (hb hbytes d17) (by decide) ?_
        refine XS.icmpYes Xl.here hexec rfl (pc0 := 20) rfl (hb hbytes d20) rfl (ii_le_t (hp i (by omega))) (by decide) rfl ?_
        refine XS.aloadN Xl.here hexec rfl (hb hbytes d26) rfl rfl ?_
        refine XS.iloadN Xl.here hexec rfl (hb hbytes d27) rfl ?_
        refine XS.iload Xl.here hexec rfl (hb hbytes d28) rfl ?_
        refine i2b Xl.here hexec rfl (hb hbytes d30) rfl ?_
        exact Steps.refl _)
      obtain ⟨T7, X7, p7, st7⟩ := Xl.aput hexec hBk rfl hlt rfl (fits_lo8 (cv A (o + i))) (g := (mkF m 31 #[.val (.ref b), .val (.int (Int32.ofNat (o + i))), .val (.ref d), .val (.int (Int32.ofNat (q + i))), .val (.int (Int32.ofNat len)), .val (.int (Int32.ofNat i)), .val (.int (cv A (o + i)))] [.int (lo8 (cv A (o + i))), .int (Int32.ofNat (q + i)), .ref d])) rfl (rest := []) rfl (hb hbytes d31)
      have c8 : Steps p.tables e below (s₁.setTop (entryFrame m #[.ref b, .int (Int32.ofNat o), .ref d, .int (Int32.ofNat q), .int (Int32.ofNat len)] 7)) (T7.setTop (mkF m 32 #[.val (.ref b), .val (.int (Int32.ofNat (o + i))), .val (.ref d), .val (.int (Int32.ofNat (q + i))), .val (.int (Int32.ofNat len)), .val (.int (Int32.ofNat i)), .val (.int (cv A (o + i)))] [])) := c6.trans (st7 _ (Steps.refl _))
      have c9 : Steps p.tables e below (s₁.setTop (entryFrame m #[.ref b, .int (Int32.ofNat o), .ref d, .int (Int32.ofNat q), .int (Int32.ofNat len)] 7)) (T7.setTop (mkF m 3 #[.val (.ref b), .val (.int (Int32.ofNat (o + i) + 1)), .val (.ref d), .val (.int (Int32.ofNat (q + i) + 1)), .val (.int (Int32.ofNat len)), .val (.int (Int32.ofNat i + 1)), .val (.int (cv A (o + i)))] [])) := c8.trans (by
        refine iincV X7.here hexec rfl 1 (hb hbytes d32) (by decide) rfl rfl ?_
        refine iincV X7.here hexec rfl 1 (hb hbytes d35) (by decide) rfl rfl ?_
        refine iincV X7.here hexec rfl 1 (hb hbytes d38) (by decide) rfl rfl ?_
        refine XS.goto X7.here hexec rfl (pc0 := 41) rfl (hb hbytes d41) (by decide) rfl ?_
        exact Steps.refl _)
      have c10 : Steps p.tables e below (s₁.setTop (entryFrame m #[.ref b, .int (Int32.ofNat o), .ref d, .int (Int32.ofNat q), .int (Int32.ofNat len)] 7)) (T7.setTop (mkF m 3 #[.val (.ref b), .val (.int (Int32.ofNat (o + (i + 1)))), .val (.ref d), .val (.int (Int32.ofNat (q + (i + 1)))), .val (.int (Int32.ofNat len)), .val (.int (Int32.ofNat (i + 1))), .val (.int (cv A (o + i)))] [])) := by
        have := c9
        rw [succ32, succ32, succ32] at this
        exact this
      exact ih (i + 1) (by omega) _ (Or.inr ⟨_, rfl, rfl⟩) T7 _ (by rw [copyLocs_step, ← List.append_assoc]; exact X7) (pl.trans p7) (fl.step (by omega) hlt (by simp)) c10
  obtain ⟨T9, B9, z9, X9, p9, f9, g9⟩ := loop len 0 (by omega) .unset (Or.inl rfl) s₁ B (by simpa [copyLocs] using X0) ⟨hB0.1, fun _ _ => rfl, rfl⟩ (Laid.zero _ _ _) c2
  have c11 : Steps p.tables e below (s₁.setTop (entryFrame m #[.ref b, .int (Int32.ofNat o), .ref d, .int (Int32.ofNat q), .int (Int32.ofNat len)] 7)) (T9.setTop (mkF m 46 #[.val (.ref b), .val (.int (Int32.ofNat (o + len))), .val (.ref d), .val (.int (Int32.ofNat (q + len))), .val (.int (Int32.ofNat len)), .val (.int (Int32.ofNat len)), z9] [.int (Int32.ofNat len)])) := g9.trans (by
    refine XS.iload X9.here hexec rfl (hb hbytes d3) rfl ?_
    refine XS.iload X9.here hexec rfl (hb hbytes d5) rfl ?_
    refine XS.icmpYes X9.here hexec rfl (pc0 := 7) rfl (hb hbytes d7) rfl (ii_ge_t (nlt32 (by omega) (Nat.le_refl _))) (by decide) rfl ?_
    refine XS.iload X9.here hexec rfl (hb hbytes d44) rfl ?_
    exact Steps.refl _)
  exact ⟨T9, some (.int (Int32.ofNat len)), _, _, _, X9, by simp, rfl, rfl, (fun h => by cases h), ⟨rfl, B9, p9.from hh0, f9⟩, fun fs hl => c11.trans (X9.ireturnOut hexec hret rfl (Or.inl rfl) (hb hbytes d46) hl)⟩
end Cmp5
namespace Cmp3
def yN : MethodName := ⟨"java/lang/StringUTF16", "compress", "([CII)[B"⟩
abbrev yB : ByteArray := jdk_52_method_16_code
theorem d0 : decode yB 0 = .ok (.iload_n 2, 1) := by decide +kernel
theorem d1 : decode yB 1 = .ok (.newarray .byte, 2) := by decide +kernel
theorem d3 : decode yB 3 = .ok (.astore_n 3, 1) := by decide +kernel
theorem d4 : decode yB 4 = .ok (.aload_n 0, 1) := by decide +kernel
theorem d5 : decode yB 5 = .ok (.iload_n 1, 1) := by decide +kernel
theorem d6 : decode yB 6 = .ok (.aload_n 3, 1) := by decide +kernel
theorem d7 : decode yB 7 = .ok (.iconst 0, 1) := by decide +kernel
theorem d8 : decode yB 8 = .ok (.iload_n 2, 1) := by decide +kernel
theorem d9 : decode yB 9 = .ok (.invokestatic 115, 3) := by decide +kernel
theorem d12 : decode yB 12 = .ok (.istore 4, 2) := by decide +kernel
theorem d14 : decode yB 14 = .ok (.iload 4, 2) := by decide +kernel
theorem d16 : decode yB 16 = .ok (.iload_n 2, 1) := by decide +kernel
theorem d17 : decode yB 17 = .ok (.if_icmp (.eq) 40, 3) := by decide +kernel
theorem d57 : decode yB 57 = .ok (.aload_n 3, 1) := by decide +kernel
theorem d58 : decode yB 58 = .ok (.areturn, 1) := by decide +kernel
def site : List Cond := [.arrayClass .byte, Cmp5.tab] ++ staticW U16 115 Cmp5.yN
def tab : Cond := tabOf yN yB 6 (some (.array .byte)) site
def P (b : Addr) (A : Cell) (o len : Nat) (args : Array Value) (s : State) : Prop := args = #[.ref b, .int (Int32.ofNat o), .int (Int32.ofNat len)] ∧ Ch b A s ∧ o + len ≤ A.slots.size ∧ len ≤ 536870912 ∧ ∀ i, i < len → ¬ 255 < cv A (o + i)
def E (b : Addr) (A : Cell) (o len : Nat) (r : Option Value) (s u : State) : Prop := NewArr .byte "[B" len (fun j => .int (lo8 (cv A (o + j)))) r s u ∧ u.heap.size = s.heap.size + 1
/-- no char of the range above 255: a new byte[] of their low bytes -/
theorem law (l : Launch) (b : Addr) (A : Cell) (o len : Nat) : Law l yN 3 3 1 18 yB 6 (some (.array .byte)) site (P b A o len) (E b A o len) [] 1 len := by
  refine Law.of_walk (plainFor_of_name (by decide +kernel)) (by decide +kernel) (by decide +kernel) (by decide) (fun _ _ h => by rw [h.1]; rfl) (fun _ U U' hal hh h => ⟨h.1, h.2.1.mv hal hh, h.2.2⟩) (fun r U U' V V' h1 hal h2 h => ⟨NewArr.mv r U U' V V' h1 hal h2 h.1, by rw [h1, h2]; exact h.2⟩) ?_
  intro p e s m args below meth c s₁ X0 hexec hbytes hml hret hlk hnm hown hh0 W hP
  obtain ⟨rfl, hA, l1, l2, hp⟩ := hP
  have a31 := hA.1.2.2.2
  have c1 : Steps p.tables e below (s₁.setTop (entryFrame m #[.ref b, .int (Int32.ofNat o), .int (Int32.ofNat len)] 6)) (s₁.setTop (mkF m 0 #[.val (.ref b), .val (.int (Int32.ofNat o)), .val (.int (Int32.ofNat len)), .unset, .unset, .unset] [])) := entry rfl
  have c2 : Steps p.tables e below (s₁.setTop (entryFrame m #[.ref b, .int (Int32.ofNat o), .int (Int32.ofNat len)] 6)) (s₁.setTop (mkF m 1 #[.val (.ref b), .val (.int (Int32.ofNat o)), .val (.int (Int32.ofNat len)), .unset, .unset, .unset] [.int (Int32.ofNat len)])) := c1.trans (by
    refine XS.iloadN X0.here hexec rfl (hb hbytes d0) rfl ?_
    exact Steps.refl _)
  obtain ⟨T3, B3, X3, ba3, bs3, bv3, bh3, bf3, st3⟩ := X0.anew hexec (atype := .byte) (wk W (.arrayClass .byte)) rfl (by show len * 1 ≤ _; omega) (by omega) (g := (mkF m 1 #[.val (.ref b), .val (.int (Int32.ofNat o)), .val (.int (Int32.ofNat len)), .unset, .unset, .unset] [.int (Int32.ofNat len)])) rfl (hb hbytes d1) (rest := []) rfl (Nat.le_refl _) (by show 0 + len ≤ len; omega)
  rw [hh0] at ba3 st3
  have kp3 : XT.Kept s T3 := (XT.Kept.of_eq hh0).push bh3
  have hA3 := hA.keep X3.warmed.alike (kp3 _ _ hA.1.1)
  have hne : b ≠ s.heap.size := hA.1.ne
  have c4 : Steps p.tables e below (s₁.setTop (entryFrame m #[.ref b, .int (Int32.ofNat o), .int (Int32.ofNat len)] 6)) (T3.setTop (mkF m 3 #[.val (.ref b), .val (.int (Int32.ofNat o)), .val (.int (Int32.ofNat len)), .unset, .unset, .unset] [.ref s.heap.size])) := c2.trans (st3 _ (Steps.refl _))
  have c5 : Steps p.tables e below (s₁.setTop (entryFrame m #[.ref b, .int (Int32.ofNat o), .int (Int32.ofNat len)] 6)) (T3.setTop (mkF m 9 #[.val (.ref b), .val (.int (Int32.ofNat o)), .val (.int (Int32.ofNat len)), .val (.ref s.heap.size), .unset, .unset] [.int (Int32.ofNat len), .int 0, .ref s.heap.size, .int (Int32.ofNat o), .ref b])) := c4.trans (by
    refine XS.astoreN X3.here hexec rfl (hb hbytes d3) rfl rfl rfl ?_
    refine XS.aloadN X3.here hexec rfl (hb hbytes d4) rfl rfl ?_
    refine XS.iloadN X3.here hexec rfl (hb hbytes d5) rfl ?_
    refine XS.aloadN X3.here hexec rfl (hb hbytes d6) rfl rfl ?_
    refine iconstV X3.here hexec rfl 0 (hb hbytes d7) (by decide) ?_
    refine XS.iloadN X3.here hexec rfl (hb hbytes d8) rfl ?_
    exact Steps.refl _)
  obtain ⟨v6, T6, X6, E6, g6⟩ := X3.callS hexec (Cmp5.law l b A s.heap.size B3 o 0 len) hown (wks W (staticW U16 115 Cmp5.yN)) (wk W Cmp5.tab) (W := 0) (Nat.le_of_ble_eq_true rfl) (Nat.le_of_ble_eq_true rfl) (Nat.le_refl _) (by show 0 + len + 0 ≤ len; omega) (g := (mkF m 9 #[.val (.ref b), .val (.int (Int32.ofNat o)), .val (.int (Int32.ofNat len)), .val (.ref s.heap.size), .unset, .unset] [.int (Int32.ofNat len), .int (Int32.ofNat 0), .ref s.heap.size, .int (Int32.ofNat o), .ref b])) rfl (by rw [hml]; rfl) c5 (argsL := [.ref b, .int (Int32.ofNat o), .ref s.heap.size, .int (Int32.ofNat 0), .int (Int32.ofNat len)]) (rest := []) rfl rfl (by show 2 * 0 + 0 ≤ _; decide) (hb hbytes d9) (⟨rfl, hA3, ba3, hne, l1, by rw [bs3]; simp, hp⟩)
  obtain ⟨rfl, B6, p6, f6⟩ := E6
  have c7 : Steps p.tables e below (s₁.setTop (entryFrame m #[.ref b, .int (Int32.ofNat o), .int (Int32.ofNat len)] 6)) (T6.setTop (mkF m 12 #[.val (.ref b), .val (.int (Int32.ofNat o)), .val (.int (Int32.ofNat len)), .val (.ref s.heap.size), .unset, .unset] [.int (Int32.ofNat len)])) := g6
  have c8 : Steps p.tables e below (s₁.setTop (entryFrame m #[.ref b, .int (Int32.ofNat o), .int (Int32.ofNat len)] 6)) (T6.setTop (mkF m 58 #[.val (.ref b), .val (.int (Int32.ofNat o)), .val (.int (Int32.ofNat len)), .val (.ref s.heap.size), .val (.int (Int32.ofNat len)), .unset] [.ref s.heap.size])) := c7.trans (by
    refine XS.istore X6.here hexec rfl (hb hbytes d12) rfl rfl ?_
    refine XS.iload X6.here hexec rfl (hb hbytes d14) rfl ?_
    refine XS.iloadN X6.here hexec rfl (hb hbytes d16) rfl ?_
    refine XS.icmpYes X6.here hexec rfl (pc0 := 17) rfl (hb hbytes d17) rfl (ii_eq_t rfl) (by decide) rfl ?_
    refine XS.aloadN X6.here hexec rfl (hb hbytes d57) rfl rfl ?_
    exact Steps.refl _)
  have X8 := X6.wide (L' := []) (cells' := 1) (slots' := len) (fun x hx hlt => by
    simp only [List.nil_append, copyLocs, List.mem_map, List.mem_range] at hx
    obtain ⟨i, -, rfl⟩ := hx
    exact absurd hlt (Nat.lt_irrefl _)) (Nat.le_refl _) (by omega)
  exact ⟨T6, some (.ref s.heap.size), _, _, _, X8, rfl, rfl, rfl, (fun h => by cases h), ⟨⟨rfl, B6, ba3.like (X3.warmed.alike.symm.trans X6.warmed.alike) p6.1 f6.1 f6.2.1 f6.2.2.1, f6.2.1.trans bv3, by rw [X6.warmed.alike.findClass, f6.1]; exact bf3, by rw [f6.2.2.1, bs3]; simp, fun j hj => by rw [f6.2.2.2 j, if_pos (by omega)]; rfl, kp3.put p6 (Nat.le_refl _)⟩, by rw [p6.2.2, bh3, hh0]; simp⟩, fun fs hl => c8.trans (X8.areturnOut hexec rfl hret rfl (hb hbytes d58) hl)⟩
end Cmp3
namespace CodL
def yN : MethodName := ⟨"java/lang/StringUTF16", "coderFromArrayLen", "([BI)B"⟩
abbrev yB : ByteArray := jdk_52_method_15_code
theorem d0 : decode yB 0 = .ok (.iload_n 1, 1) := by decide +kernel
theorem d1 : decode yB 1 = .ok (.aload_n 0, 1) := by decide +kernel
theorem d2 : decode yB 2 = .ok (.arraylength, 1) := by decide +kernel
theorem d3 : decode yB 3 = .ok (.isub, 1) := by decide +kernel
theorem d4 : decode yB 4 = .ok (.bipush 31, 2) := by decide +kernel
theorem d6 : decode yB 6 = .ok (.iushr, 1) := by decide +kernel
theorem d7 : decode yB 7 = .ok (.i2b, 1) := by decide +kernel
theorem d8 : decode yB 8 = .ok (.ireturn, 1) := by decide +kernel
def site : List Cond := []
def tab : Cond := tabOf yN yB 2 (some .byte) site
def P (d : Addr) (B : Cell) (args : Array Value) (s : State) : Prop := args = #[.ref d, .int (Int32.ofNat B.slots.size)] ∧ Arr .byte d B s
def E (r : Option Value) (s u : State) : Prop := XT.PureE (some (.int 0)) r s u
/-- an array as long as the number of chars: LATIN1 -/
theorem law (l : Launch) (d : Addr) (B : Cell) : Law l yN 2 2 0 0 yB 2 (some .byte) site (P d B) E [] 0 0 := by
  refine Law.of_walk (plainFor_of_name (by decide +kernel)) (by decide +kernel) (by decide +kernel) (by decide) (fun _ _ h => by rw [h.1]; rfl) (fun _ U U' hal hh h => ⟨h.1, h.2.mv hal hh⟩) (fun r U U' V V' h1 hal h2 h => XT.PureE.mv r U U' V V' h1 hal h2 h) ?_
  intro p e s m args below meth c s₁ X0 hexec hbytes hml hret hlk hnm hown hh0 W hP
  obtain ⟨rfl, hB⟩ := hP
  have hB0 := hB.mv X0.warmed.alike hh0
  have c1 : Steps p.tables e below (s₁.setTop (entryFrame m #[.ref d, .int (Int32.ofNat B.slots.size)] 2)) (s₁.setTop (mkF m 0 #[.val (.ref d), .val (.int (Int32.ofNat B.slots.size))] [])) := entry rfl
  have c2 : Steps p.tables e below (s₁.setTop (entryFrame m #[.ref d, .int (Int32.ofNat B.slots.size)] 2)) (s₁.setTop (mkF m 2 #[.val (.ref d), .val (.int (Int32.ofNat B.slots.size))] [.ref d, .int (Int32.ofNat B.slots.size)])) := c1.trans (by
    refine XS.iloadN X0.here hexec rfl (hb hbytes d0) rfl ?_
    refine XS.aloadN X0.here hexec rfl (hb hbytes d1) rfl rfl ?_
    exact Steps.refl _)
  have c3 : Steps p.tables e below (s₁.setTop (entryFrame m #[.ref d, .int (Int32.ofNat B.slots.size)] 2)) (s₁.setTop (mkF m 8 #[.val (.ref d), .val (.int (Int32.ofNat B.slots.size))] [.int (lo8 (ushr (Int32.ofNat B.slots.size - Int32.ofNat B.slots.size) 31))])) := c2.trans (by
    refine X0.alen hexec hB0 rfl rfl (hb hbytes d2) ?_
    refine XS.isub X0.here hexec rfl (hb hbytes d3) rfl ?_
    refine bipushV X0.here hexec rfl 31 (hb hbytes d4) (by decide) ?_
    refine iushr X0.here hexec rfl (hb hbytes d6) rfl ?_
    refine i2b X0.here hexec rfl (hb hbytes d7) rfl ?_
    exact Steps.refl _)
  have e0 : lo8 (ushr (Int32.ofNat B.slots.size - Int32.ofNat B.slots.size) 31) = 0 := by rw [Int32.sub_self]; decide
  rw [e0] at c3
  exact ⟨s₁, some (.int 0), _, _, _, X0, rfl, rfl, rfl, (fun h => by cases h), ⟨rfl, hh0⟩, fun fs hl => c3.trans (X0.ireturnOut hexec hret rfl (Or.inr (Or.inr (Or.inl rfl))) (hb hbytes d8) hl)⟩
end CodL
/-- the String at a is Latin-1 over a new byte[] (the heap's one new cell): the low bytes of the len chars of A from o on; every cell but a is kept -/
def Got (a : Addr) (D : Cell) (fV fC : Field) (A : Cell) (o len : Nat) (r : Option Value) (s u : State) : Prop := r = none ∧ ∃ D' V : Cell, Blank "java/lang/String" a D' u ∧ Same D D' [fV.slot, fC.slot] ∧ D'.slots[fV.slot]? = some (.ref s.heap.size) ∧ D'.slots[fC.slot]? = some (.int 0) ∧ Arr .byte s.heap.size V u ∧ V.vm = .none ∧ u.vm.findClass "[B" = some V.cls ∧ V.slots.size = len ∧ (∀ j, j < len → V.slots[j]? = some (.int (lo8 (cv A (o + j))))) ∧ (∀ (y : Addr) (c : Cell), y ≠ a → s.heap[y]? = some c → u.heap[y]? = some c) ∧ u.heap.size = s.heap.size + 1
theorem Got.mv {a : Addr} {D A : Cell} {fV fC : Field} {o len : Nat} : ∀ r (U U' V V' : State), U'.heap = U.heap → V.vm.Alike V'.vm → V'.heap = V.heap → Got a D fV fC A o len r U V → Got a D fV fC A o len r U' V' :=
  fun r U U' V V' h1 hal h2 ⟨e0, D', X, a1, a2, a3, a4, a5, a6, a7, a8, a9, a10, a11⟩ => ⟨e0, D', X, a1.mv hal h2, a2, by rw [h1]; exact a3, a4, by rw [h1]; exact a5.mv hal h2, a6, by rw [hal.findClass]; exact a7, a8, a9, by rw [h1, h2]; exact a10, by rw [h1, h2]; exact a11⟩
namespace New4
def yN : MethodName := ⟨"java/lang/String", "<init>", "([CIILjava/lang/Void;)V"⟩
abbrev yB : ByteArray := jdk_42_method_149_code
theorem d0 : decode yB 0 = .ok (.aload_n 0, 1) := by decide +kernel
theorem d1 : decode yB 1 = .ok (.invokespecial 1, 3) := by decide +kernel
theorem d4 : decode yB 4 = .ok (.iload_n 3, 1) := by decide +kernel
theorem d5 : decode yB 5 = .ok (.ifCond (.ne) 22, 3) := by decide +kernel
theorem d27 : decode yB 27 = .ok (.getstatic 38, 3) := by decide +kernel
theorem d30 : decode yB 30 = .ok (.ifCond (.eq) 28, 3) := by decide +kernel
theorem d33 : decode yB 33 = .ok (.aload_n 1, 1) := by decide +kernel
theorem d34 : decode yB 34 = .ok (.iload_n 2, 1) := by decide +kernel
theorem d35 : decode yB 35 = .ok (.iload_n 3, 1) := by decide +kernel
theorem d36 : decode yB 36 = .ok (.invokestatic 177, 3) := by decide +kernel
theorem d39 : decode yB 39 = .ok (.astore 5, 2) := by decide +kernel
theorem d41 : decode yB 41 = .ok (.aload_n 0, 1) := by decide +kernel
theorem d42 : decode yB 42 = .ok (.aload 5, 2) := by decide +kernel
theorem d44 : decode yB 44 = .ok (.iload_n 3, 1) := by decide +kernel
theorem d45 : decode yB 45 = .ok (.invokestatic 47, 3) := by decide +kernel
theorem d48 : decode yB 48 = .ok (.putfield 15, 3) := by decide +kernel
theorem d51 : decode yB 51 = .ok (.aload_n 0, 1) := by decide +kernel
theorem d52 : decode yB 52 = .ok (.aload 5, 2) := by decide +kernel
theorem d54 : decode yB 54 = .ok (.putfield 9, 3) := by decide +kernel
theorem d57 : decode yB 57 = .ok (.return_, 1) := by decide +kernel
def site : List Cond := [.fieldLink "java/lang/String" 38 "java/lang/String" "COMPACT_STRINGS" "Z", Cmp3.tab, CodL.tab, .laysFinal "java/lang/String" "java/lang/String" "value" "[B", .fieldLink "java/lang/String" 9 "java/lang/String" "value" "[B", .laysFinal "java/lang/String" "java/lang/String" "coder" "B", .fieldLink "java/lang/String" 15 "java/lang/String" "coder" "B"] ++ objW "java/lang/String" 1 ++ staticW "java/lang/String" 177 Cmp3.yN ++ staticW "java/lang/String" 47 CodL.yN
def tab : Cond := tabOf yN yB 6 none site
def P (a : Addr) (D : Cell) (fV fC : Field) (b : Addr) (A : Cell) (z : Int32) (o len : Nat) (args : Array Value) (s : State) : Prop := args = #[.ref a, .ref b, .int (Int32.ofNat o), .int (Int32.ofNat len), .null] ∧ Blank "java/lang/String" a D s ∧ Found "java/lang/String" "value" "[B" fV s ∧ Found "java/lang/String" "coder" "B" fC s ∧ Ch b A s ∧ StaticIs s "java/lang/String" "COMPACT_STRINGS" "Z" (.int z) ∧ ¬ z = 0 ∧ 0 < len ∧ o + len ≤ A.slots.size ∧ len ≤ 536870912 ∧ ∀ i, i < len → ¬ 255 < cv A (o + i)
def E (a : Addr) (D : Cell) (fV fC : Field) (A : Cell) (o len : Nat) (r : Option Value) (s u : State) : Prop := Got a D fV fC A o len r s u
/-- len > 0, no char of the range above 255: a Latin-1 String of their low bytes -/
theorem law (l : Launch) (a : Addr) (D : Cell) (fV fC : Field) (b : Addr) (A : Cell) (z : Int32) (o len : Nat) : Law l yN 5 4 2 35 yB 6 none site (P a D fV fC b A z o len) (E a D fV fC A o len) [⟨a, fC.slot⟩, ⟨a, fV.slot⟩] 1 len := by
  refine Law.of_walk (plainFor_of_name (by decide +kernel)) (by decide +kernel) (by decide +kernel) (by decide) (fun _ _ h => by rw [h.1]; rfl) (fun _ U U' hal hh h => ⟨h.1, h.2.1.mv hal hh, h.2.2.1.al hal, h.2.2.2.1.al hal, h.2.2.2.2.1.mv hal hh, h.2.2.2.2.2.1.there hal hh, h.2.2.2.2.2.2⟩) (fun r U U' V V' h1 hal h2 h => Got.mv r U U' V V' h1 hal h2 h) ?_
  intro p e s m args below meth c s₁ X0 hexec hbytes hml hret hlk hnm hown hh0 W hP
  obtain ⟨rfl, hB, f1, f2, hA, s1, hz, l0, l1, l2, hp⟩ := hP
  have a31 := hA.1.2.2.2
  have c1 : Steps p.tables e below (s₁.setTop (entryFrame m #[.ref a, .ref b, .int (Int32.ofNat o), .int (Int32.ofNat len), .null] 6)) (s₁.setTop (mkF m 0 #[.val (.ref a), .val (.ref b), .val (.int (Int32.ofNat o)), .val (.int (Int32.ofNat len)), .val .null, .unset] [])) := entry rfl
  have c2 : Steps p.tables e below (s₁.setTop (entryFrame m #[.ref a, .ref b, .int (Int32.ofNat o), .int (Int32.ofNat len), .null] 6)) (s₁.setTop (mkF m 1 #[.val (.ref a), .val (.ref b), .val (.int (Int32.ofNat o)), .val (.int (Int32.ofNat len)), .val .null, .unset] [.ref a])) := c1.trans (by
    refine XS.aloadN X0.here hexec rfl (hb hbytes d0) rfl rfl ?_
    exact Steps.refl _)
  obtain ⟨T3, X3, q3, st3⟩ := X0.oinit hexec hown (wks W (objW "java/lang/String" 1)) (g := (mkF m 1 #[.val (.ref a), .val (.ref b), .val (.int (Int32.ofNat o)), .val (.int (Int32.ofNat len)), .val .null, .unset] [.ref a])) rfl (by rw [hml]; rfl) (rest := []) rfl (hb hbytes d1) (W := 0) (by show 2 * 0 + 0 ≤ _; decide) (Nat.le_of_ble_eq_true rfl) (Nat.le_of_ble_eq_true rfl)
  have hh3 := q3.trans hh0
  have c4 : Steps p.tables e below (s₁.setTop (entryFrame m #[.ref a, .ref b, .int (Int32.ofNat o), .int (Int32.ofNat len), .null] 6)) (T3.setTop (mkF m 27 #[.val (.ref a), .val (.ref b), .val (.int (Int32.ofNat o)), .val (.int (Int32.ofNat len)), .val .null, .unset] [])) := (c2.trans (st3 _ (Steps.refl _))).trans (by
    refine XS.iloadN X3.here hexec rfl (hb hbytes d4) rfl ?_
    refine XS.ifYes X3.here hexec rfl (pc0 := 5) rfl (hb hbytes d5) rfl (i0_ne_t (nz32 (by omega) l0)) (by decide) rfl ?_
    exact Steps.refl _)
  obtain ⟨T5, X5, q5, st5⟩ := X3.sget hexec hown (wk W (.fieldLink "java/lang/String" 38 "java/lang/String" "COMPACT_STRINGS" "Z")) s1 (fun _ _ h => by rw [hh3]; exact h) (g := (mkF m 27 #[.val (.ref a), .val (.ref b), .val (.int (Int32.ofNat o)), .val (.int (Int32.ofNat len)), .val .null, .unset] [])) rfl (hb hbytes d27)
  have hh5 := q5.trans hh3
  have c6 : Steps p.tables e below (s₁.setTop (entryFrame m #[.ref a, .ref b, .int (Int32.ofNat o), .int (Int32.ofNat len), .null] 6)) (T5.setTop (mkF m 30 #[.val (.ref a), .val (.ref b), .val (.int (Int32.ofNat o)), .val (.int (Int32.ofNat len)), .val .null, .unset] [.int z])) := c4.trans (st5 _ (Steps.refl _))
  have c7 : Steps p.tables e below (s₁.setTop (entryFrame m #[.ref a, .ref b, .int (Int32.ofNat o), .int (Int32.ofNat len), .null] 6)) (T5.setTop (mkF m 36 #[.val (.ref a), .val (.ref b), .val (.int (Int32.ofNat o)), .val (.int (Int32.ofNat len)), .val .null, .unset] [.int (Int32.ofNat len), .int (Int32.ofNat o), .ref b])) := c6.trans (by
    refine XS.ifNo X5.here hexec rfl (hb hbytes d30) rfl (i0_eq_f hz) ?_
    refine XS.aloadN X5.here hexec rfl (hb hbytes d33) rfl rfl ?_
    refine XS.iloadN X5.here hexec rfl (hb hbytes d34) rfl ?_
    refine XS.iloadN X5.here hexec rfl (hb hbytes d35) rfl ?_
    exact Steps.refl _)
  obtain ⟨v8, T8, X8, E8, g8⟩ := X5.callS hexec (Cmp3.law l b A o len) hown (wks W (staticW "java/lang/String" 177 Cmp3.yN)) (wk W Cmp3.tab) (W := 0) (Nat.le_of_ble_eq_true rfl) (Nat.le_of_ble_eq_true rfl) (Nat.le_refl _) (by show 0 + len ≤ len; omega) (g := (mkF m 36 #[.val (.ref a), .val (.ref b), .val (.int (Int32.ofNat o)), .val (.int (Int32.ofNat len)), .val .null, .unset] [.int (Int32.ofNat len), .int (Int32.ofNat o), .ref b])) rfl (by rw [hml]; rfl) c7 (argsL := [.ref b, .int (Int32.ofNat o), .int (Int32.ofNat len)]) (rest := []) rfl rfl (by show 2 * 0 + 0 ≤ _; decide) (hb hbytes d36) (⟨rfl, hA.mv X5.warmed.alike hh5, l1, l2, hp⟩)
  obtain ⟨e8, z8⟩ := E8
  obtain ⟨rfl, N, n1, n2, n3, n4, n5, n6⟩ := NewArr.mv _ T5 s _ _ hh5.symm (Vm.Alike.refl _) rfl e8
  rw [hh5] at z8
  have hB1 := hB.keep X8.warmed.alike (n6 _ _ hB.1)
  have hne : s.heap.size ≠ a := (Nat.ne_of_lt (Array.getElem?_eq_some_iff.mp hB.1).1).symm
  have c9 : Steps p.tables e below (s₁.setTop (entryFrame m #[.ref a, .ref b, .int (Int32.ofNat o), .int (Int32.ofNat len), .null] 6)) (T8.setTop (mkF m 39 #[.val (.ref a), .val (.ref b), .val (.int (Int32.ofNat o)), .val (.int (Int32.ofNat len)), .val .null, .unset] [.ref s.heap.size])) := g8
  have c10 : Steps p.tables e below (s₁.setTop (entryFrame m #[.ref a, .ref b, .int (Int32.ofNat o), .int (Int32.ofNat len), .null] 6)) (T8.setTop (mkF m 45 #[.val (.ref a), .val (.ref b), .val (.int (Int32.ofNat o)), .val (.int (Int32.ofNat len)), .val .null, .val (.ref s.heap.size)] [.int (Int32.ofNat N.slots.size), .ref s.heap.size, .ref a])) := by
    have hc : Steps p.tables e below (s₁.setTop (entryFrame m #[.ref a, .ref b, .int (Int32.ofNat o), .int (Int32.ofNat len), .null] 6)) (T8.setTop (mkF m 45 #[.val (.ref a), .val (.ref b), .val (.int (Int32.ofNat o)), .val (.int (Int32.ofNat len)), .val .null, .val (.ref s.heap.size)] [.int (Int32.ofNat len), .ref s.heap.size, .ref a])) := c9.trans (by
      refine XS.astore X8.here hexec rfl (hb hbytes d39) rfl rfl rfl ?_
      refine XS.aloadN X8.here hexec rfl (hb hbytes d41) rfl rfl ?_
      refine XS.aload X8.here hexec rfl (hb hbytes d42) rfl rfl ?_
      refine XS.iloadN X8.here hexec rfl (hb hbytes d44) rfl ?_
      exact Steps.refl _)
    rw [n4]; exact hc
  obtain ⟨v11, T11, X11, E11, g11⟩ := X8.callS hexec (CodL.law l s.heap.size N) hown (wks W (staticW "java/lang/String" 47 CodL.yN)) (wk W CodL.tab) (W := 1) (Nat.le_of_ble_eq_true rfl) (Nat.le_of_ble_eq_true rfl) (Nat.le_refl _) (by show 0 + len + 0 ≤ len; omega) (g := (mkF m 45 #[.val (.ref a), .val (.ref b), .val (.int (Int32.ofNat o)), .val (.int (Int32.ofNat len)), .val .null, .val (.ref s.heap.size)] [.int (Int32.ofNat N.slots.size), .ref s.heap.size, .ref a])) rfl (by rw [hml]; rfl) c10 (argsL := [.ref s.heap.size, .int (Int32.ofNat N.slots.size)]) (rest := [.ref a]) rfl rfl (by show 2 * 0 + (1 + 0) ≤ _; decide) (hb hbytes d45) (⟨rfl, n1⟩)
  obtain ⟨rfl, q11⟩ := E11
  have hB11 := hB1.mv (X8.warmed.alike.symm.trans X11.warmed.alike) q11
  have c12 : Steps p.tables e below (s₁.setTop (entryFrame m #[.ref a, .ref b, .int (Int32.ofNat o), .int (Int32.ofNat len), .null] 6)) (T11.setTop (mkF m 48 #[.val (.ref a), .val (.ref b), .val (.int (Int32.ofNat o)), .val (.int (Int32.ofNat len)), .val .null, .val (.ref s.heap.size)] [.int 0, .ref a])) := g11
  obtain ⟨T13, X13, p13, bl13, sl13, st13⟩ := X11.finit hexec hown (wk W (.fieldLink "java/lang/String" 15 "java/lang/String" "coder" "B")) (Or.inr ⟨_, (wk W (.laysFinal "java/lang/String" "java/lang/String" "coder" "B"))⟩) (Or.inl ⟨rfl, hnm⟩) f2 (Or.inl rfl) hB11 (t := .byte) (by decide +kernel) rfl (g := (mkF m 48 #[.val (.ref a), .val (.ref b), .val (.int (Int32.ofNat o)), .val (.int (Int32.ofNat len)), .val .null, .val (.ref s.heap.size)] [.int 0, .ref a])) rfl (rest := []) rfl (hb hbytes d48)
  have c14 : Steps p.tables e below (s₁.setTop (entryFrame m #[.ref a, .ref b, .int (Int32.ofNat o), .int (Int32.ofNat len), .null] 6)) (T13.setTop (mkF m 54 #[.val (.ref a), .val (.ref b), .val (.int (Int32.ofNat o)), .val (.int (Int32.ofNat len)), .val .null, .val (.ref s.heap.size)] [.ref s.heap.size, .ref a])) := (c12.trans (st13 _ (Steps.refl _))).trans (by
    refine XS.aloadN X13.here hexec rfl (hb hbytes d51) rfl rfl ?_
    refine XS.aload X13.here hexec rfl (hb hbytes d52) rfl rfl ?_
    exact Steps.refl _)
  obtain ⟨T15, X15, p15, bl15, sl15, st15⟩ := X13.finit hexec hown (wk W (.fieldLink "java/lang/String" 9 "java/lang/String" "value" "[B")) (Or.inr ⟨_, (wk W (.laysFinal "java/lang/String" "java/lang/String" "value" "[B"))⟩) (Or.inl ⟨rfl, hnm⟩) f1 (Or.inl rfl) bl13 (t := (.array .byte)) (by decide +kernel) rfl (g := (mkF m 54 #[.val (.ref a), .val (.ref b), .val (.int (Int32.ofNat o)), .val (.int (Int32.ofNat len)), .val .null, .val (.ref s.heap.size)] [.ref s.heap.size, .ref a])) rfl (rest := []) rfl (hb hbytes d54)
  have c16 : Steps p.tables e below (s₁.setTop (entryFrame m #[.ref a, .ref b, .int (Int32.ofNat o), .int (Int32.ofNat len), .null] 6)) (T15.setTop (mkF m 57 #[.val (.ref a), .val (.ref b), .val (.int (Int32.ofNat o)), .val (.int (Int32.ofNat len)), .val .null, .val (.ref s.heap.size)] [])) := c14.trans (st15 _ (Steps.refl _))
  have ap := apart (Or.inr ⟨_, (wk W (.laysFinal "java/lang/String" "java/lang/String" "value" "[B"))⟩) (Or.inr ⟨_, (wk W (.laysFinal "java/lang/String" "java/lang/String" "coder" "B"))⟩) f1 f2 (t₁ := .array .byte) (t₂ := .byte) (by decide +kernel) (by decide +kernel) (by decide)
  have al := X8.warmed.alike.symm.trans X15.warmed.alike
  have n7 : T11.heap[s.heap.size]? = some N := by rw [q11]; exact n1.1
  exact ⟨T15, none, _, _, _, X15, by simp, rfl, by omega, (fun _ => rfl), ⟨rfl, _, N, bl15, ((Same.refl D _).set _ (by simp)).set _ (by simp), sl15, (Cell.slots_setSlot_ne _ ap).trans sl13, n1.keep al (p15.other hne (p13.other hne n7)), n2, by rw [al.findClass]; exact n3, n4, n5, fun y c h1 h2 => p15.other h1 (p13.other h1 (by rw [q11]; exact n6 y c h2)), by rw [p15.2.2, p13.2.2, q11]; exact z8⟩, fun fs hl => c16.trans (X15.returnOut hexec hret (hb hbytes d57) hl)⟩
end New4
namespace New1
def yN : MethodName := ⟨"java/lang/String", "<init>", "([C)V"⟩
abbrev yB : ByteArray := jdk_42_method_3_code
theorem d0 : decode yB 0 = .ok (.aload_n 0, 1) := by decide +kernel
theorem d1 : decode yB 1 = .ok (.aload_n 1, 1) := by decide +kernel
theorem d2 : decode yB 2 = .ok (.iconst 0, 1) := by decide +kernel
theorem d3 : decode yB 3 = .ok (.aload_n 1, 1) := by decide +kernel
theorem d4 : decode yB 4 = .ok (.arraylength, 1) := by decide +kernel
theorem d5 : decode yB 5 = .ok (.aconst_null, 1) := by decide +kernel
theorem d6 : decode yB 6 = .ok (.invokespecial 27, 3) := by decide +kernel
theorem d9 : decode yB 9 = .ok (.return_, 1) := by decide +kernel
def site : List Cond := [New4.tab] ++ initW "java/lang/String" 27 New4.yN
def tab : Cond := tabOf yN yB 2 none site
def P (a : Addr) (D : Cell) (fV fC : Field) (b : Addr) (A : Cell) (z : Int32) (args : Array Value) (s : State) : Prop := args = #[.ref a, .ref b] ∧ Blank "java/lang/String" a D s ∧ Found "java/lang/String" "value" "[B" fV s ∧ Found "java/lang/String" "coder" "B" fC s ∧ Ch b A s ∧ StaticIs s "java/lang/String" "COMPACT_STRINGS" "Z" (.int z) ∧ ¬ z = 0 ∧ 0 < A.slots.size ∧ A.slots.size ≤ 536870912 ∧ ∀ i, i < A.slots.size → ¬ 255 < cv A i
def E (a : Addr) (D : Cell) (fV fC : Field) (A : Cell) (r : Option Value) (s u : State) : Prop := Got a D fV fC A 0 A.slots.size r s u
/-- new String(chars), not empty, no char above 255: a Latin-1 String of their low bytes -/
theorem law (l : Launch) (a : Addr) (D : Cell) (fV fC : Field) (b : Addr) (A : Cell) (z : Int32) : Law l yN 2 1 3 52 yB 2 none site (P a D fV fC b A z) (E a D fV fC A) [⟨a, fC.slot⟩, ⟨a, fV.slot⟩] 1 A.slots.size := by
  refine Law.of_walk (plainFor_of_name (by decide +kernel)) (by decide +kernel) (by decide +kernel) (by decide) (fun _ _ h => by rw [h.1]; rfl) (fun _ U U' hal hh h => ⟨h.1, h.2.1.mv hal hh, h.2.2.1.al hal, h.2.2.2.1.al hal, h.2.2.2.2.1.mv hal hh, h.2.2.2.2.2.1.there hal hh, h.2.2.2.2.2.2⟩) (fun r U U' V V' h1 hal h2 h => Got.mv r U U' V V' h1 hal h2 h) ?_
  intro p e s m args below meth c s₁ X0 hexec hbytes hml hret hlk hnm hown hh0 W hP
  obtain ⟨rfl, hB, f1, f2, hA, s1, hz, l0, l2, hp⟩ := hP
  have c1 : Steps p.tables e below (s₁.setTop (entryFrame m #[.ref a, .ref b] 2)) (s₁.setTop (mkF m 0 #[.val (.ref a), .val (.ref b)] [])) := entry rfl
  have c2 : Steps p.tables e below (s₁.setTop (entryFrame m #[.ref a, .ref b] 2)) (s₁.setTop (mkF m 6 #[.val (.ref a), .val (.ref b)] [.null, .int (Int32.ofNat A.slots.size), .int 0, .ref b, .ref a])) := c1.trans (by
    refine XS.aloadN X0.here hexec rfl (hb hbytes d0) rfl rfl ?_
    refine XS.aloadN X0.here hexec rfl (hb hbytes d1) rfl rfl ?_
    refine iconstV X0.here hexec rfl 0 (hb hbytes d2) (by decide) ?_
    refine XS.aloadN X0.here hexec rfl (hb hbytes d3) rfl rfl ?_
    refine X0.alen hexec (hA.1.mv X0.warmed.alike hh0) rfl rfl (hb hbytes d4) ?_
    refine XS.aconstNull X0.here hexec rfl (hb hbytes d5) ?_
    exact Steps.refl _)
  obtain ⟨v3, T3, X3, E3, g3⟩ := X0.callN hexec (New4.law l a D fV fC b A z 0 A.slots.size) rfl hown (wks W (initW "java/lang/String" 27 New4.yN)) (W New4.tab (by simp only [site, List.mem_cons, List.mem_append, true_or, or_true])) (W := 0) (Nat.le_of_ble_eq_true rfl) (Nat.le_of_ble_eq_true rfl) (Nat.le_refl _) (by show 0 + A.slots.size ≤ A.slots.size; omega) (g := (mkF m 6 #[.val (.ref a), .val (.ref b)] [.null, .int (Int32.ofNat A.slots.size), .int (Int32.ofNat 0), .ref b, .ref a])) rfl (by rw [hml]; rfl) c2 (argsL := [.ref b, .int (Int32.ofNat 0), .int (Int32.ofNat A.slots.size), .null]) (rest := []) rfl rfl (by show 2 * 0 + 0 ≤ _; decide) (hb hbytes d6) (⟨rfl, hB.mv X0.warmed.alike hh0, f1.al X0.warmed.alike, f2.al X0.warmed.alike, hA.mv X0.warmed.alike hh0, s1.there X0.warmed.alike hh0, hz, l0, by omega, l2, fun i hi => by rw [Nat.zero_add]; exact hp i hi⟩)
  have e0 := Got.mv _ s₁ s _ _ hh0.symm (Vm.Alike.refl _) rfl E3
  obtain rfl := e0.1
  have c4 : Steps p.tables e below (s₁.setTop (entryFrame m #[.ref a, .ref b] 2)) (T3.setTop (mkF m 9 #[.val (.ref a), .val (.ref b)] [])) := g3
  exact ⟨T3, none, _, _, _, X3, by simp, rfl, by omega, (fun _ => rfl), e0, fun fs hl => c4.trans (X3.returnOut hexec hret (hb hbytes d9) hl)⟩
theorem pays {l : Launch} {R : Room} {p : Program} {e : Env} {below : List Frame} {s : State} {sargs : Array Value} {len W : Nat} (a : Addr) (D : Cell) (fV fC : Field) (b : Addr) (A : Cell) (z : Int32) (htab : tab.before sargs s = true) (hfr : 4 ≤ R.frames) (hlo : W + 65 ≤ R.locals) :
    Back l R p e below s sargs yN len W (fun A₁ a₁ => A₁.cells + 1 ≤ R.cells ∧ A₁.slots + A.slots.size ≤ R.slots ∧ P a D fV fC b A z a₁ A₁.U) (fun A₁ _ v₁ B₁ => E a D fV fC A v₁ A₁.U B₁.U ∧ B₁.locs = A₁.locs ++ [⟨a, fC.slot⟩, ⟨a, fV.slot⟩] ∧ B₁.cells = A₁.cells + 1 ∧ B₁.slots = A₁.slots + A.slots.size) :=
  (law l a D fV fC b A z).pays htab hfr (by omega)
end New1
/-- the byte, read back as charAt reads it, is the char -/
theorem lo8_mask {x : Int32} (h0 : ¬ x < 0) (h1 : ¬ 255 < x) : lo8 x &&& 255 = x := by
  have t : ∀ k : Fin 256, lo8 (Int32.ofNat k.val) &&& 255 = Int32.ofNat k.val := by decide +kernel
  rw [Int32.lt_iff_toInt_lt] at h0 h1
  have e0 : (0 : Int32).toInt = 0 := rfl
  have e1 : (255 : Int32).toInt = 255 := rfl
  obtain ⟨k, hk⟩ : ∃ k : Nat, x.toInt = k := ⟨x.toInt.toNat, by omega⟩
  have hx : x = Int32.ofNat k := Int32.toInt_inj.mp (by rw [hk, Int32.toInt_ofNat_small (by omega)])
  rw [hx]
  exact t ⟨k, by omega⟩
end StrChars
namespace StrChars.Road
open Jvm Sem ClassFile Op Lib Jvm.Stand Jvm.Free Jvm.Free.XT
open Jvm.Lib.Cold (StaticIs)
abbrev ST : String := "java/lang/String"
/-- every table word that New1's law asks, flat -/
abbrev words : List Jvm.Cond := [.code New1.yN New1.yB 2 none, .initialized ST, .methodLink ST 27 New4.yN, .instanceMethod New4.yN,
  .code New4.yN New4.yB 6 none, .fieldLink ST 38 ST "COMPACT_STRINGS" "Z", .laysFinal ST ST "value" "[B", .fieldLink ST 9 ST "value" "[B", .laysFinal ST ST "coder" "B", .fieldLink ST 15 ST "coder" "B",
  .methodLink ST 1 Lib.objectInit, .instanceMethod Lib.objectInit, .code Lib.objectInit ⟨#[0xb1]⟩ 1 none, .methodLink ST 177 Cmp3.yN, .static Cmp3.yN, .methodLink ST 47 CodL.yN, .static CodL.yN,
  .code Cmp3.yN Cmp3.yB 6 (some (.array .byte)), .initialized U16, .arrayClass .byte, .methodLink U16 115 Cmp5.yN, .static Cmp5.yN, .code Cmp5.yN Cmp5.yB 7 (some .int), .code CodL.yN CodL.yB 2 (some .byte)]
theorem tab_of {a : Array Value} {s : State} (h : ∀ w ∈ words, w.before a s = true) : New1.tab.before a s = true := by
  have h5 : Cmp5.tab.before a s = true := unparts (wk h (.code Cmp5.yN Cmp5.yB 7 (some .int))) (wks h (.initialized Cmp5.yN.cls :: Cmp5.site))
  have hc : CodL.tab.before a s = true := unparts (wk h (.code CodL.yN CodL.yB 2 (some .byte))) (wks h (.initialized CodL.yN.cls :: CodL.site))
  have q5 : ∀ w ∈ Cmp5.tab :: words, w.before a s = true := fun w hw => (List.mem_cons.mp hw).elim (fun e => e ▸ h5) (h w)
  have h3 : Cmp3.tab.before a s = true := unparts (wk q5 (.code Cmp3.yN Cmp3.yB 6 (some (.array .byte)))) (wks q5 (.initialized Cmp3.yN.cls :: Cmp3.site))
  have q3 : ∀ w ∈ Cmp3.tab :: CodL.tab :: words, w.before a s = true := fun w hw => (List.mem_cons.mp hw).elim (fun e => e ▸ h3) fun hw => (List.mem_cons.mp hw).elim (fun e => e ▸ hc) (h w)
  have h4 : New4.tab.before a s = true := unparts (wk q3 (.code New4.yN New4.yB 6 none)) (wks q3 (.initialized New4.yN.cls :: New4.site))
  have q4 : ∀ w ∈ New4.tab :: words, w.before a s = true := fun w hw => (List.mem_cons.mp hw).elim (fun e => e ▸ h4) (h w)
  exact unparts (wk q4 (.code New1.yN New1.yB 2 none)) (wks q4 (.initialized New1.yN.cls :: New1.site))
/-- the words ride from the start Z to the walk's own state -/
theorem moved {Z s : State} {a0 args : Array Value} (hZ : Z.Warmed39 s.vm) (hw : ∀ d ∈ words, d.before a0 Z = true) : ∀ d ∈ words, d.before args s = true := fun d hd => by
  have q := hw d hd
  have t : ∀ d ∈ words, d = .arrayClass .byte ∨ (d.onTables && d.keepsFace) = true := by decide +kernel
  rcases t d hd with rfl | t
  · exact RoadKit.mvA hZ q
  · exact RoadKit.mv hZ q t
/-- WHAT COMES BACK, over the tables of the start Z: h the heap at the call, h' behind it -/
def Q (Z : State) (x : Addr) (A : Cell) (h : Heap) (v : Option Value) (h' : Heap) (L : List Loc) : Prop := v = none ∧ (∀ y ∈ L, y.base = x) ∧ RoadKit.Keep h h' [x] ∧ h'.size = h.size + 1 ∧ RoadKit.Exa Z h' x ST ∧ RoadKit.Fld Z h' x ST "value" "[B" (.ref h.size) ∧ RoadKit.Fld Z h' x ST "coder" "B" (.int 0) ∧
  (∃ V : Cell, RoadKit.Arr Z h' h.size V .byte ∧ V.vm = .none ∧ Z.vm.findClass "[B" = some V.cls ∧ V.slots.size = A.slots.size ∧ ∀ j, j < A.slots.size → V.slots[j]? = some (.int (lo8 (cv A j)))) ∧
  ∀ (O n d : String) (w : Value), RoadKit.Fld Z h x O n d w → RoadKit.slotOf Z O n d ≠ RoadKit.slotOf Z ST "value" "[B" → RoadKit.slotOf Z O n d ≠ RoadKit.slotOf Z ST "coder" "B" → RoadKit.Fld Z h' x O n d w
/-- **new String(chars) AT A CALL, IN THE ROAD'S FORM**: for specialBack behind newO: x the fresh String, b the char[] with the cell A -/
theorem back {p : Program} {l : Launch} {e : Env} {R : Room} {s : State} {args : Array Value} {below : List Frame} {len W : Nat} {Z : State} {a0 : Array Value} {h : Heap} (hZ : Z.Warmed39 s.vm) (hw : ∀ d ∈ words, d.before a0 Z = true) {kI : Nat} (wi : (Jvm.Cond.instantiable ST kI).before a0 Z = true)
    {x b : Addr} {A : Cell} {z : Int32} {v0 c0 : Value} (E : RoadKit.Exa Z h x ST) (V : RoadKit.Fld Z h x ST "value" "[B" v0) (C : RoadKit.Fld Z h x ST "coder" "B" c0) (K : RoadKit.Arr Z h b A .char) (hty : Typed .char A) (S : RoadKit.Sta Z h ST "COMPACT_STRINGS" "Z" (.int z)) (hz : ¬ z = 0)
    (l0 : 0 < A.slots.size) (l2 : A.slots.size ≤ 536870912) (hp : ∀ i, i < A.slots.size → ¬ 255 < cv A i) (hfr : 4 ≤ R.frames) (hlo : W + 65 ≤ R.locals) :
    Back l R p e below s args New1.yN len W (fun P a => a = #[.ref x, .ref b] ∧ P.U.heap = h ∧ P.cells + 1 ≤ R.cells ∧ P.slots + A.slots.size ≤ R.slots)
      (fun P _ v B => ∃ L, Q Z x A h v B.U.heap L ∧ B.locs = P.locs ++ L ∧ B.cells = P.cells + 1 ∧ B.slots = P.slots + A.slots.size) := by
  intro m meth c P g ig mk a X hg hsize hdg hW hn hp'
  obtain ⟨rfl, rfl, r1, r2⟩ := hp'
  have al : Z.vm.Alike P.U.vm := hZ.alike.trans X.warmed.alike
  obtain ⟨D, cfV, kV, iV, fV, hD, gV, stV, knV, obV, asV, slV⟩ := id V
  obtain ⟨D', cfC, kC, iC, fC, hD', gC, stC, -, -, asC, slC⟩ := id C
  cases hD.symm.trans hD'
  obtain ⟨D2, kD, e1, e2, e3, e4, e5⟩ := id E
  cases hD.symm.trans e1
  obtain ⟨c2, k2, i1, i2, i3, -⟩ := Cond.instantiable_spec wi
  cases e2.symm.trans i1
  cases e3.symm.trans i2
  obtain ⟨kU, u1, u2⟩ := al.2.2 _ _ e3
  have hB : Blank ST x D P.U := ⟨hD, ⟨knV, fun q hq => by rw [hq] at obV; cases obV⟩, by rw [al.findClass]; exact e2, kU, u1, by rw [u2]; exact i3, by rw [u2]; exact e5 i3⟩
  have F1 : Found ST "value" "[B" fV P.U := ⟨SBG.found_only al ⟨cfV, kV, iV, gV⟩, stV⟩
  have F2 : Found ST "coder" "B" fC P.U := ⟨SBG.found_only al ⟨cfC, kC, iC, gC⟩, stC⟩
  have hA : Ch b A P.U := ⟨⟨K.1, State.isArrayOf_alike al K.2.1, K.2.2, by omega⟩, hty⟩
  have hS : StaticIs P.U ST "COMPACT_STRINGS" "Z" (.int z) := by
    obtain ⟨cfS, iS, kS, fS, st, cS, t1, t2, t3, t4, t5, t6, t7⟩ := S
    exact StaticIs.there (s := { Z with heap := P.U.heap }) ⟨cfS, iS, kS, fS, st, cS, t1, t2, t3, t4, t5, (fun q => by rw [q] at t6; cases t6), t7⟩ al rfl
  obtain ⟨v, B, X', ⟨⟨hv, E', V', q1, q2, q3, q4, q5, q6, q7, q8, q9, q10, q11⟩, hl, hc, hs⟩, st⟩ := New1.pays x D fV fC b A z (tab_of (moved hZ hw)) hfr hlo m meth c P g ig mk _ X hg hsize hdg hW hn ⟨r1, r2, rfl, hB, F1, F2, hA, hS, hz, l0, l2, hp⟩
  have al' : Z.vm.Alike B.U.vm := hZ.alike.trans X'.warmed.alike
  have hsz : E'.slots.size = D.slots.size := by
    obtain ⟨-, -, -, kB, w1, w2, w3⟩ := q1
    obtain ⟨kB', y1, y2⟩ := al'.2.2 _ _ e3
    rw [q2.2.1] at w1
    cases w1.symm.trans y1
    rw [w3, e5 i3, y2]
  refine ⟨v, B, X', ⟨_, ⟨hv, ?_, ⟨by omega, fun y cy hy hn' => q10 y cy (by simpa using hn') hy, fun y cy hy => ?_⟩, q11, ⟨E', _, q1.1, by rw [q2.2.1]; exact e2, by rw [q2.2.1]; exact e3, by rw [q2.1]; exact obV, fun _ => by rw [hsz]; exact e5 i3⟩,
    ⟨E', cfV, kV, iV, fV, q1.1, gV, stV, by rw [q2.1]; exact knV, by rw [q2.1]; exact obV, by rw [q2.2.1]; exact asV, q3⟩, ⟨E', cfC, kC, iC, fC, q1.1, gC, stC, by rw [q2.1]; exact knV, by rw [q2.1]; exact obV, by rw [q2.2.1]; exact asC, q4⟩,
    ⟨V', ⟨q5.1, State.isArrayOf_alike al'.symm q5.2.1, q5.2.2.1⟩, q6, by rw [← al'.findClass]; exact q7, q8, fun j hj => by have := q9 j hj; rwa [Nat.zero_add] at this⟩, fun O n d w F n1 n2 => ?_⟩, hl, hc, hs⟩, st⟩
  · intro y hy
    simp only [List.mem_cons, List.not_mem_nil, or_false] at hy
    rcases hy with rfl | rfl <;> rfl
  · by_cases q : y = x
    · subst q
      cases hD.symm.trans hy
      exact ⟨E', q1.1, q2.2.1, q2.1, hsz⟩
    · exact ⟨cy, q10 y cy q hy, rfl, rfl, rfl⟩
  · obtain ⟨D3, cf, k, i, f, g1, g2, g3, g4, g5, g6, g7⟩ := F
    cases hD.symm.trans g1
    simp only [RoadKit.slotOf, g2, gV, gC, Option.map_some, Option.getD_some] at n1 n2
    exact ⟨E', cf, k, i, f, q1.1, g2, g3, by rw [q2.1]; exact g4, by rw [q2.1]; exact g5, by rw [q2.2.1]; exact g6, by rw [q2.2.2 f.slot (by simp [n1, n2])]; exact g7⟩
end StrChars.Road
namespace StrChars.Road
open Jvm Sem ClassFile Op Lib Jvm.Stand Jvm.Free Jvm.Free.XT
/-- WHAT COMES BACK, the byte[] as a list of values -/
def QA (Z : State) (x : Addr) (zn : Int32) (cs : List Int32) (h : Heap) (v : Option Value) (h' : Heap) (L : List Loc) : Prop := v = none ∧ (∀ y ∈ L, y.base = x) ∧ RoadKit.Keep h h' [x] ∧ h'.size = h.size + 1 ∧ RoadKit.Exa Z h' x ST ∧ RoadKit.Fld Z h' x ST "value" "[B" (.ref h.size) ∧ RoadKit.Fld Z h' x ST "coder" "B" (.int 0) ∧
  (∃ kb, Z.vm.findClass "[B" = some kb ∧ RoadKit.Arv Z h' h.size kb .byte zn (cs.map fun c => .int (lo8 c)) (.int 0)) ∧
  ∀ (O n d : String) (w : Value), RoadKit.Fld Z h x O n d w → RoadKit.slotOf Z O n d ≠ RoadKit.slotOf Z ST "value" "[B" → RoadKit.slotOf Z O n d ≠ RoadKit.slotOf Z ST "coder" "B" → RoadKit.Fld Z h' x O n d w
/-- **new String(chars) AT A CALL, THE ARRAYS AS LISTS**: the char[] at b holds cs, not empty, no char above 255 -/
theorem backArv {p : Program} {l : Launch} {e : Env} {R : Room} {s : State} {args : Array Value} {below : List Frame} {len W : Nat} {Z : State} {a0 : Array Value} {h : Heap} (hZ : Z.Warmed39 s.vm) (hw : ∀ d ∈ words, d.before a0 Z = true) {kI : Nat} (wi : (Jvm.Cond.instantiable ST kI).before a0 Z = true)
    {x b : Addr} {k : ClassId} {zn z : Int32} {cs : List Int32} {dv v0 c0 : Value} (E : RoadKit.Exa Z h x ST) (V : RoadKit.Fld Z h x ST "value" "[B" v0) (C : RoadKit.Fld Z h x ST "coder" "B" c0) (K : RoadKit.Arv Z h b k .char zn (cs.map Value.int) dv) (S : RoadKit.Sta Z h ST "COMPACT_STRINGS" "Z" (.int z)) (hz : ¬ z = 0)
    (hlen : zn.toNatClampNeg = cs.length) (h0 : 0 < cs.length) (hbig : cs.length ≤ 536870912) (hall : ∀ c ∈ cs, ¬ 255 < c) (hfr : 4 ≤ R.frames) (hlo : W + 65 ≤ R.locals) :
    Back l R p e below s args New1.yN len W (fun P a => a = #[.ref x, .ref b] ∧ P.U.heap = h ∧ P.cells + 1 ≤ R.cells ∧ P.slots + cs.length ≤ R.slots)
      (fun P _ v B => ∃ L, QA Z x zn cs h v B.U.heap L ∧ B.locs = P.locs ++ L ∧ B.cells = P.cells + 1 ∧ B.slots = P.slots + cs.length) := by
  obtain ⟨A, K1, K2, K3, K4, K5, K6⟩ := K
  have e : A.slots.size = cs.length := K3.trans hlen
  have hat : ∀ (i : Nat) (hi : i < cs.length), A.slots[i]? = some (.int cs[i]) := fun i hi => by rw [K5 i (by omega)]; simp [List.getD_eq_getElem?_getD, hi]
  have hcv : ∀ (i : Nat) (hi : i < cs.length), cv A i = cs[i] := fun i hi => by unfold cv; rw [hat i hi]
  have hty : Typed .char A := fun i v hv => by
    have hi : i < A.slots.size := (Array.getElem?_eq_some_iff.mp hv).1
    have q := K5 i hi
    rw [hv] at q
    rw [Option.some.inj q]
    exact K6 i hi
  refine Back.mono (back hZ hw wi E V C K1 hty S hz (by omega) (by omega) (fun i hi => by rw [hcv i (by omega)]; exact hall _ (List.getElem_mem _)) hfr hlo) (fun P a hp => ⟨hp.1, hp.2.1, hp.2.2.1, by rw [e]; exact hp.2.2.2⟩) (fun P a v B hp hq => ?_)
  obtain ⟨L, ⟨q1, q2, q3, q4, q5, q6, q7, ⟨V', v1, v2, v3, v4, v5⟩, q9⟩, hl, hc, hs⟩ := hq
  refine ⟨L, ⟨q1, q2, q3, q4, q5, q6, q7, ⟨V'.cls, v3, V', v1, rfl, by rw [v4, e, hlen], K4, fun i hi => ?_, fun i hi => ?_⟩, q9⟩, hl, hc, by rw [hs, e]⟩
  · have hi' : i < cs.length := by omega
    rw [v5 i (by omega), hcv i hi']; simp [List.getD_eq_getElem?_getD, hi']
  · have hi' : i < cs.length := by omega
    simp only [List.getD_eq_getElem?_getD, List.getElem?_map, List.getElem?_eq_getElem hi', Option.map_some, Option.getD_some]
    exact fits_lo8 _
end StrChars.Road
namespace StrChars.Road
open Jvm Sem ClassFile Op Lib Jvm.Stand Jvm.Free Jvm.Free.XT
/-- WHAT COMES BACK, in the writer's own shape -/
def QV (Z : State) (x : Addr) (N : Int32) (bs : List Int32) (h : Heap) (n0 : Nat) (v : Option Value) (h' : Heap) (L : List Loc) : Prop := v = none ∧ RoadKit.Fr n0 L ∧ RoadKit.Keep h h' [x] ∧ RoadKit.Exa Z h' x ST ∧ RoadKit.Fld Z h' x ST "coder" "B" (.int 0) ∧
  ∃ (t : Addr) (kb : ClassId), n0 ≤ t ∧ h.size ≤ t ∧ ¬ t = x ∧ RoadKit.Fld Z h' x ST "value" "[B" (.ref t) ∧ RoadKit.Arv Z h' t kb .byte N (bs.map Value.int) (.int 0)
/-- **new String(chars) AT A CALL, FOR THE WRITER**: a char[] of n known ints, each 0 to 255 -/
theorem backV {p : Program} {l : Launch} {e : Env} {R : Room} {s : State} {args : Array Value} {below : List Frame} {len W : Nat} {Z : State} {a0 : Array Value} {h : Heap} (hZ : Z.Warmed39 s.vm) (hw : ∀ d ∈ words, d.before a0 Z = true) {kI : Nat} (wi : (Jvm.Cond.instantiable ST kI).before a0 Z = true)
    {x b : Addr} {kC : ClassId} {cs bs : List Int32} {d v0 c0 : Value} {z N : Int32} {n n0 : Nat} (hx0 : n0 ≤ x) (hh0 : n0 ≤ h.size) (E : RoadKit.Exa Z h x ST) (V : RoadKit.Fld Z h x ST "value" "[B" v0) (C : RoadKit.Fld Z h x ST "coder" "B" c0) (K : RoadKit.Arv Z h b kC .char N (cs.map Value.int) d) (S : RoadKit.Sta Z h ST "COMPACT_STRINGS" "Z" (.int z)) (hz : ¬ z = 0)
    (hn : cs.length = n) (hN : N = Int32.ofNat n) (l0 : 0 < n) (l2 : n ≤ 4000) (hp : ∀ c ∈ cs, ¬ c < 0 ∧ ¬ (255 : Int32) < c) (hb : bs = cs.map (fun c => c.toInt8.toInt32)) (hfr : 4 ≤ R.frames) (hlo : W + 65 ≤ R.locals) :
    Back l R p e below s args (⟨"java/lang/String", "<init>", "([C)V"⟩ : MethodName) len W (fun P a => a = #[.ref x, .ref b] ∧ P.U.heap = h ∧ P.cells + 1 ≤ R.cells ∧ P.slots + n ≤ R.slots)
      (fun P _ v B => ∃ L, QV Z x N bs h n0 v B.U.heap L ∧ B.locs = P.locs ++ L ∧ B.cells = P.cells + 1 ∧ B.slots = P.slots + n) := by
  subst hn hN hb
  refine Back.mono (backArv hZ hw wi E V C K S hz (n32 (by omega)) l0 (by omega) (fun c hc => (hp c hc).2) hfr hlo) (fun P a hp => hp) (fun P a v B hp hq => ?_)
  obtain ⟨L, ⟨q1, q2, q3, q4, q5, q6, q7, ⟨kb, v1, v2⟩, q9⟩, hl, hc, hs⟩ := hq
  exact ⟨L, ⟨q1, fun y hy => by rw [q2 y hy]; exact hx0, q3, q5, q7, h.size, kb, hh0, Nat.le_refl _, Nat.ne_of_gt E.lt, q6, by rw [List.map_map]; exact v2⟩, hl, hc, hs⟩
end StrChars.Road
namespace StrChars
open Jvm Sem ClassFile Op Lib Jvm.Stand Jvm.Free.XT Jvm.Free.ALB Jvm.Free.JM Jvm.Free
open Jvm.Lib.Cold (StaticIs)
def hi8 (x : Int32) : Int32 := lo8 (x >>> ((8 : Int32) &&& 31))
/-- what StringUTF16.getChar makes of two bytes -/
def pairCh (u v : Int32) : Int32 := (((u &&& 255) <<< ((0 : Int32) &&& 31)) ||| ((v &&& 255) <<< ((8 : Int32) &&& 31))).toUInt32.toUInt16.toUInt32.toInt32
theorem lo8_and (x : Int32) : (lo8 x &&& 255).toBitVec.toNat = x.toBitVec.toNat % 256 := by
  have h : (lo8 x).toBitVec = (x.toBitVec.signExtend 8).signExtend 32 := by rw [lo8, Int8.toBitVec_toInt32, Int32.toBitVec_toInt8]
  rw [Int32.toBitVec_and, BitVec.toNat_and, h]
  have e : ((x.toBitVec.signExtend 8).signExtend 32).toNat % 256 = x.toBitVec.toNat % 256 := by
    rw [BitVec.toNat_signExtend]
    have hlt := x.toBitVec.isLt
    simp only [BitVec.toNat_setWidth, BitVec.toNat_signExtend]
    split <;> split <;> omega
  rw [← e]
  exact Nat.and_two_pow_sub_one_eq_mod _ 8
theorem pair_says {c : Int32} (h0 : ¬ c < 0) (h1 : ¬ 65535 < c) : pairCh (lo8 c) (hi8 c) = c := by
  rw [Int32.lt_iff_toInt_lt] at h0 h1
  have e0 : (0 : Int32).toInt = 0 := rfl
  have e1 : (65535 : Int32).toInt = 65535 := rfl
  have hc : c.toInt = c.toBitVec.toNat := by
    have := c.toBitVec.isLt
    have e : c.toInt = c.toBitVec.toInt := rfl
    rw [e] at h0 h1
    rw [e]
    rw [BitVec.toInt_eq_toNat_cond] at h0 h1 ⊢
    split at h0 <;> split <;> omega
  have hn : c.toBitVec.toNat < 65536 := by omega
  have a1 := lo8_and c
  have a2 : (hi8 c &&& 255).toBitVec.toNat = c.toBitVec.toNat / 256 := by
    rw [hi8, lo8_and]
    have e : ((8 : Int32) &&& 31) = 8 := by decide
    rw [e, Int32.toBitVec_shiftRight]
    have e2 : ((8 : Int32).toBitVec.smod 32) = 8#32 := by decide
    rw [e2, BitVec.sshiftRight_eq', BitVec.toNat_sshiftRight_of_msb_false (by rw [BitVec.msb_eq_false_iff_two_mul_lt]; omega)]
    show c.toBitVec.toNat >>> 8 % 256 = _
    rw [Nat.shiftRight_eq_div_pow]
    omega
  unfold pairCh
  apply Int32.toBitVec_inj.mp
  apply BitVec.eq_of_toNat_eq
  have f0 : ((0 : Int32) &&& 31) = 0 := by decide
  have f8 : ((8 : Int32) &&& 31) = 8 := by decide
  rw [f0, f8]
  have g : (((lo8 c &&& 255) <<< (0 : Int32)) ||| ((hi8 c &&& 255) <<< (8 : Int32))).toBitVec.toNat = c.toBitVec.toNat := by
    rw [Int32.toBitVec_or, Int32.toBitVec_shiftLeft, Int32.toBitVec_shiftLeft]
    have s0 : ((0 : Int32).toBitVec.smod 32) = 0#32 := by decide
    have s8 : ((8 : Int32).toBitVec.smod 32) = 8#32 := by decide
    rw [s0, s8, BitVec.toNat_or]
    simp only [BitVec.shiftLeft_eq', BitVec.toNat_shiftLeft, a1, a2]
    show (c.toBitVec.toNat % 256) <<< 0 % 2 ^ 32 ||| (c.toBitVec.toNat / 256) <<< 8 % 2 ^ 32 = _
    rw [Nat.shiftLeft_zero, Nat.mod_eq_of_lt (show c.toBitVec.toNat % 256 < 2 ^ 32 by omega), Nat.mod_eq_of_lt (show (c.toBitVec.toNat / 256) <<< 8 < 2 ^ 32 by rw [Nat.shiftLeft_eq]; omega), Nat.or_comm, ← Nat.shiftLeft_add_eq_or_of_lt (by omega), Nat.shiftLeft_eq]
    omega
  show BitVec.toNat (((((lo8 c &&& 255) <<< (0 : Int32)) ||| ((hi8 c &&& 255) <<< (8 : Int32))).toBitVec.setWidth 16).setWidth 32) = _
  rw [BitVec.toNat_setWidth, BitVec.toNat_setWidth, g]
  omega
end StrChars
namespace StrChars
open Jvm Sem ClassFile Op Lib Jvm.Stand Jvm.Free.XT Jvm.Free.ALB Jvm.Free.JM Jvm.Free
open Jvm.Lib.Cold (StaticIs)
/-- the array's cell V codes the n chars f 0 .. f (n - 1) by the coder cd, as the JDK does: coder 1 just where some char is above 255 -/
def Cod (cd : Int32) (n : Nat) (f : Nat → Int32) (V : Cell) : Prop := (cd = 0 ∧ V.slots.size = n ∧ ∀ j, j < n → V.slots[j]? = some (.int (lo8 (f j))) ∧ ¬ 255 < f j) ∨ (cd = 1 ∧ V.slots.size = 2 * n ∧ (∀ j, j < n → V.slots[2 * j]? = some (.int (lo8 (f j))) ∧ V.slots[2 * j + 1]? = some (.int (hi8 (f j)))) ∧ ∃ j, j < n ∧ 255 < f j)
/-- **x is a String of the n chars f 0 .. f (n - 1)**, Latin-1 or UTF-16; its array at t has the cell V -/
def Txt (x t : Addr) (V : Cell) (cd : Int32) (n : Nat) (f : Nat → Int32) (U : State) : Prop := Exact "java/lang/String" x U ∧ Has x "java/lang/String" "value" "[B" (.ref t) U ∧ Has x "java/lang/String" "coder" "B" (.int cd) U ∧ XT.Arr .byte t V U ∧ Cod cd n f V ∧ ∀ j, j < n → ¬ f j < 0 ∧ ¬ 65535 < f j
theorem Txt.mv {x t : Addr} {V : Cell} {cd : Int32} {n : Nat} {f : Nat → Int32} {U U' : State} (h : Txt x t V cd n f U) (hal : U.vm.Alike U'.vm) (hh : U'.heap = U.heap) : Txt x t V cd n f U' := ⟨h.1.mv hal hh, h.2.1.mv hal hh, h.2.2.1.mv hal hh, h.2.2.2.1.mv hal hh, h.2.2.2.2⟩
end StrChars
namespace StrChars.Road
open Jvm Sem ClassFile Op Lib Jvm.Stand Jvm.Free Jvm.Free.XT
open Jvm.Lib.Cold (StaticIs)
theorem consq {a : Array Value} {s : State} {c : Jvm.Cond} {L : List Jvm.Cond} (h0 : c.before a s = true) (h : ∀ w ∈ L, w.before a s = true) : ∀ w ∈ c :: L, w.before a s = true := fun w hw => (List.mem_cons.mp hw).elim (fun e => e ▸ h0) (h w)
/-- the bytes of the chars cs, low before high -/
def wideBytes : List Int32 → List Value
  | [] => []
  | c :: cs => .int (lo8 c) :: .int (hi8 c) :: wideBytes cs
theorem wide_lo (d : Value) : ∀ (cs : List Int32) (j : Nat), j < cs.length → (wideBytes cs).getD (2 * j) d = .int (lo8 (cs.getD j 0))
  | [], j, h => absurd h (Nat.not_lt_zero j)
  | c :: cs, 0, _ => rfl
  | c :: cs, j + 1, h => by
    have q := wide_lo d cs j (by simpa using h)
    rw [show 2 * (j + 1) = 2 * j + 1 + 1 from by omega]
    simpa [wideBytes] using q
theorem wide_hi (d : Value) : ∀ (cs : List Int32) (j : Nat), j < cs.length → (wideBytes cs).getD (2 * j + 1) d = .int (hi8 (cs.getD j 0))
  | [], j, h => absurd h (Nat.not_lt_zero j)
  | c :: cs, 0, _ => rfl
  | c :: cs, j + 1, h => by
    have q := wide_hi d cs j (by simpa using h)
    rw [show 2 * (j + 1) + 1 = 2 * j + 1 + 1 + 1 from by omega]
    simpa [wideBytes] using q
theorem low_at (d : Value) (cs : List Int32) (j : Nat) (h : j < cs.length) : (cs.map fun c => Value.int (lo8 c)).getD j d = .int (lo8 (cs.getD j 0)) := by
  simp [List.getD_eq_getElem?_getD, h]
/-- an array of N2 bytes vs codes the chars cs by the coder cd -/
def CodA (cs : List Int32) (cd N2 : Int32) (vs : List Value) : Prop := (cd = 0 ∧ N2 = Int32.ofNat cs.length ∧ vs = (cs.map fun c => Value.int (lo8 c)) ∧ ∀ c ∈ cs, ¬ 255 < c) ∨ (cd = 1 ∧ N2 = Int32.ofNat (2 * cs.length) ∧ vs = wideBytes cs ∧ ∃ c ∈ cs, 255 < c)
theorem CodA.cod {cs : List Int32} {cd N2 : Int32} {vs : List Value} {V : Cell} (h : CodA cs cd N2 vs) (hn : 2 * cs.length < 2 ^ 31) (hs : V.slots.size = N2.toNatClampNeg) (hv : RoadKit.Has V vs (.int 0)) : Cod cd cs.length (fun j => cs.getD j 0) V := by
  rcases h with ⟨rfl, rfl, rfl, h⟩ | ⟨rfl, rfl, rfl, c, hc, hw⟩
  · rw [n32 (by omega)] at hs
    exact Or.inl ⟨rfl, hs, fun j hj => ⟨by rw [hv j (by omega), low_at _ _ _ hj], by
      have e : cs.getD j 0 = cs[j] := by simp [List.getD_eq_getElem?_getD, hj]
      show ¬ 255 < cs.getD j 0
      rw [e]; exact h _ (List.getElem_mem _)⟩⟩
  · rw [n32 (by omega)] at hs
    obtain ⟨j, hj, rfl⟩ := List.getElem_of_mem hc
    exact Or.inr ⟨rfl, hs, fun j hj => ⟨by rw [hv _ (by omega), wide_lo _ _ _ hj], by rw [hv _ (by omega), wide_hi _ _ _ hj]⟩, j, hj, by
      have e : cs.getD j 0 = cs[j] := by simp [List.getD_eq_getElem?_getD, hj]
      show 255 < cs.getD j 0
      rw [e]; exact hw⟩
/-- an object of exactly java/lang/String, its two fields found: as the laws ask it -/
theorem strObj {Z U : State} {a0 : Array Value} {kI : Nat} (wi : (Jvm.Cond.instantiable ST kI).before a0 Z = true) (al : Z.vm.Alike U.vm) {x : Addr} {v0 c0 : Value} (E : RoadKit.Exa Z U.heap x ST) (V : RoadKit.Fld Z U.heap x ST "value" "[B" v0) (C : RoadKit.Fld Z U.heap x ST "coder" "B" c0) :
    ∃ (D : Cell) (fV fC : Field), Blank ST x D U ∧ Found ST "value" "[B" fV U ∧ Found ST "coder" "B" fC U ∧ D.slots[fV.slot]? = some v0 ∧ D.slots[fC.slot]? = some c0 ∧ RoadKit.slotOf Z ST "value" "[B" = fV.slot ∧ RoadKit.slotOf Z ST "coder" "B" = fC.slot := by
  obtain ⟨D, cfV, kV, iV, fV, hD, gV, stV, knV, obV, asV, slV⟩ := V
  obtain ⟨D', cfC, kC, iC, fC, hD', gC, stC, -, -, asC, slC⟩ := C
  cases hD.symm.trans hD'
  obtain ⟨D2, kD, e1, e2, e3, e4, e5⟩ := E
  cases hD.symm.trans e1
  obtain ⟨c2, k2, i1, i2, i3, -⟩ := Cond.instantiable_spec wi
  cases e2.symm.trans i1
  cases e3.symm.trans i2
  obtain ⟨kU, u1, u2⟩ := al.2.2 _ _ e3
  exact ⟨D, fV, fC, ⟨hD, ⟨knV, fun q hq => by rw [hq] at obV; cases obV⟩, by rw [al.findClass]; exact e2, kU, u1, by rw [u2]; exact i3, by rw [u2]; exact e5 i3⟩, ⟨SBG.found_only al ⟨cfV, kV, iV, gV⟩, stV⟩, ⟨SBG.found_only al ⟨cfC, kC, iC, gC⟩, stC⟩, slV, slC, by simp [RoadKit.slotOf, gV], by simp [RoadKit.slotOf, gC]⟩
theorem sta_is {Z U : State} (al : Z.vm.Alike U.vm) {C n d : String} {v : Value} (S : RoadKit.Sta Z U.heap C n d v) : StaticIs U C n d v := by
  obtain ⟨cfS, iS, kS, fS, st, cS, t1, t2, t3, t4, t5, t6, t7⟩ := S
  exact StaticIs.there (s := { Z with heap := U.heap }) ⟨cfS, iS, kS, fS, st, cS, t1, t2, t3, t4, t5, (fun q => by rw [q] at t6; cases t6), t7⟩ al rfl
end StrChars.Road
namespace StrChars
open Jvm Sem ClassFile Op Lib Jvm.Stand Jvm.Free.XT Jvm.Free.ALB Jvm.Free.JM Jvm.Free
open Jvm.Lib.Cold (StaticIs)
/-- what place i of a byte[]'s cell holds -/
def yv (A : Cell) (i : Nat) : Int32 := match A.slots[i]? with | some (.int x) => x | _ => 0
theorem yv_get {a : Addr} {A : Cell} {U : State} (h : XT.Arr .byte a A U) (ht : Typed .byte A) {i : Nat} (hi : i < A.slots.size) : A.slots[i]? = some (.int (yv A i)) := by
  have e := Array.getElem?_eq_getElem hi
  have f := ht i _ e
  unfold yv; rw [e]
  generalize A.slots[i] = v at f
  cases v <;> simp [fits] at f ⊢
/-- the two arrays are equal, place for place -/
def EqC (A B : Cell) : Prop := A.slots.size = B.slots.size ∧ ∀ i, i < A.slots.size → yv A i = yv B i
/-- a boolean that says whether p -/
def Says01 (q : Prop) (r : Option Value) (s u : State) : Prop := ∃ v : Int32, r = some (.int v) ∧ u.heap = s.heap ∧ ((v = 1 ∧ q) ∨ (v = 0 ∧ ¬ q))
theorem Says01.mv {q : Prop} : ∀ r (U U' V V' : State), U'.heap = U.heap → V.vm.Alike V'.vm → V'.heap = V.heap → Says01 q r U V → Says01 q r U' V' :=
  fun r U U' V V' h1 _ h2 ⟨v, a, b, c⟩ => ⟨v, a, by rw [h1, h2]; exact b, c⟩
namespace LEq
def yN : MethodName := ⟨"java/lang/StringLatin1", "equals", "([B[B)Z"⟩
abbrev yB : ByteArray := jdk_43_method_13_code
theorem d0 : decode yB 0 = .ok (.aload_n 0, 1) := by decide +kernel
theorem d1 : decode yB 1 = .ok (.arraylength, 1) := by decide +kernel
theorem d2 : decode yB 2 = .ok (.aload_n 1, 1) := by decide +kernel
theorem d3 : decode yB 3 = .ok (.arraylength, 1) := by decide +kernel
theorem d4 : decode yB 4 = .ok (.if_icmp (.ne) 30, 3) := by decide +kernel
theorem d7 : decode yB 7 = .ok (.iconst 0, 1) := by decide +kernel
theorem d8 : decode yB 8 = .ok (.istore_n 2, 1) := by decide +kernel
theorem d9 : decode yB 9 = .ok (.iload_n 2, 1) := by decide +kernel
theorem d10 : decode yB 10 = .ok (.aload_n 0, 1) := by decide +kernel
theorem d11 : decode yB 11 = .ok (.arraylength, 1) := by decide +kernel
theorem d12 : decode yB 12 = .ok (.if_icmp (.ge) 20, 3) := by decide +kernel
theorem d15 : decode yB 15 = .ok (.aload_n 0, 1) := by decide +kernel
theorem d16 : decode yB 16 = .ok (.iload_n 2, 1) := by decide +kernel
theorem d17 : decode yB 17 = .ok (.baload, 1) := by decide +kernel
theorem d18 : decode yB 18 = .ok (.aload_n 1, 1) := by decide +kernel
theorem d19 : decode yB 19 = .ok (.iload_n 2, 1) := by decide +kernel
theorem d20 : decode yB 20 = .ok (.baload, 1) := by decide +kernel
theorem d21 : decode yB 21 = .ok (.if_icmp (.eq) 5, 3) := by decide +kernel
theorem d24 : decode yB 24 = .ok (.iconst 0, 1) := by decide +kernel
theorem d25 : decode yB 25 = .ok (.ireturn, 1) := by decide +kernel
theorem d26 : decode yB 26 = .ok (.iinc 2 1, 3) := by decide +kernel
theorem d29 : decode yB 29 = .ok (.goto (-20), 3) := by decide +kernel
theorem d32 : decode yB 32 = .ok (.iconst 1, 1) := by decide +kernel
theorem d33 : decode yB 33 = .ok (.ireturn, 1) := by decide +kernel
theorem d34 : decode yB 34 = .ok (.iconst 0, 1) := by decide +kernel
theorem d35 : decode yB 35 = .ok (.ireturn, 1) := by decide +kernel
def site : List Cond := []
def tab : Cond := tabOf yN yB 3 (some .boolean) site
def P (a : Addr) (A : Cell) (b : Addr) (B : Cell) (args : Array Value) (s : State) : Prop := args = #[.ref a, .ref b] ∧ XT.Arr .byte a A s ∧ Typed .byte A ∧ XT.Arr .byte b B s ∧ Typed .byte B
/-- whether two byte[] are equal, place for place -/
theorem law (l : Launch) (a : Addr) (A : Cell) (b : Addr) (B : Cell) : Law l yN 2 2 0 0 yB 3 (some .boolean) site (P a A b B) (Says01 (EqC A B)) [] 0 0 := by
  refine Law.of_walk (plainFor_of_name (by decide +kernel)) (by decide +kernel) (by decide +kernel) (by decide) (fun _ _ h => by rw [h.1]; rfl) (fun _ U U' hal hh h => ⟨h.1, h.2.1.mv hal hh, h.2.2.1, h.2.2.2.1.mv hal hh, h.2.2.2.2⟩) (fun r U U' V V' h1 hal h2 h => Says01.mv r U U' V V' h1 hal h2 h) ?_
  intro p e s m args below meth c s₁ X0 hexec hbytes hml hret hlk hnm hown hh0 W hP
  obtain ⟨rfl, hA, tA, hB, tB⟩ := hP
  have a31 := hA.2.2.2
  have b31 := hB.2.2.2
  have hA0 := hA.mv X0.warmed.alike hh0
  have hB0 := hB.mv X0.warmed.alike hh0
  have c1 : Steps p.tables e below (s₁.setTop (entryFrame m #[.ref a, .ref b] 3)) (s₁.setTop (mkF m 0 #[.val (.ref a), .val (.ref b), .unset] [])) := entry rfl
  have c2 : Steps p.tables e below (s₁.setTop (entryFrame m #[.ref a, .ref b] 3)) (s₁.setTop (mkF m 4 #[.val (.ref a), .val (.ref b), .unset] [.int (Int32.ofNat B.slots.size), .int (Int32.ofNat A.slots.size)])) := c1.trans (by
    refine XS.aloadN X0.here hexec rfl (hb hbytes d0) rfl rfl ?_
    refine X0.alen hexec hA0 rfl rfl (hb hbytes d1) ?_
    refine XS.aloadN X0.here hexec rfl (hb hbytes d2) rfl rfl ?_
    refine X0.alen hexec hB0 rfl rfl (hb hbytes d3) ?_
    exact Steps.refl _)
  by_cases hs : A.slots.size = B.slots.size
  · have c3 : Steps p.tables e below (s₁.setTop (entryFrame m #[.ref a, .ref b] 3)) (s₁.setTop (mkF m 9 #[.val (.ref a), .val (.ref b), .val (.int 0)] [])) := c2.trans (by
      refine XS.icmpNo X0.here hexec rfl (hb hbytes d4) rfl (ii_ne_f (by rw [hs])) ?_
      refine iconstV X0.here hexec rfl 0 (hb hbytes d7) (by decide) ?_
      refine XS.istoreN X0.here hexec rfl (hb hbytes d8) rfl rfl ?_
      exact Steps.refl _)
    have loop : ∀ (r i : Nat), i + r = A.slots.size → (∀ j, j < i → yv A j = yv B j) → Steps p.tables e below (s₁.setTop (entryFrame m #[.ref a, .ref b] 3)) (s₁.setTop (mkF m 9 #[.val (.ref a), .val (.ref b), .val (.int (Int32.ofNat i))] [])) → ∃ (pc : Nat) (Ls : Array Slot) (v : Int32), (pc = 25 ∨ pc = 33) ∧ ((v = 1 ∧ EqC A B) ∨ (v = 0 ∧ ¬ EqC A B)) ∧ Steps p.tables e below (s₁.setTop (entryFrame m #[.ref a, .ref b] 3)) (s₁.setTop (mkF m pc Ls [.int v])) := by
      intro r
      induction r with
      | zero =>
        intro i hi he cl
        exact ⟨33, _, 1, Or.inr rfl, Or.inl ⟨rfl, hs, fun j hj => he j (by omega)⟩, cl.trans (by
          refine XS.iloadN X0.here hexec rfl (hb hbytes d9) rfl ?_
          refine XS.aloadN X0.here hexec rfl (hb hbytes d10) rfl rfl ?_
          refine X0.alen hexec hA0 rfl rfl (hb hbytes d11) ?_
          refine XS.icmpYes X0.here hexec rfl (pc0 := 12) rfl (hb hbytes d12) rfl (ii_ge_t (nlt32 (by omega) (by omega))) (by decide) rfl ?_
          refine iconstV X0.here hexec rfl 1 (hb hbytes d32) (by decide) ?_
          exact Steps.refl _)⟩
      | succ r ih =>
        intro i hi he cl
        have c4 : Steps p.tables e below (s₁.setTop (entryFrame m #[.ref a, .ref b] 3)) (s₁.setTop (mkF m 21 #[.val (.ref a), .val (.ref b), .val (.int (Int32.ofNat i))] [.int (yv B i), .int (yv A i)])) := cl.trans (by
          refine XS.iloadN X0.here hexec rfl (hb hbytes d9) rfl ?_
          refine XS.aloadN X0.here hexec rfl (hb hbytes d10) rfl rfl ?_
          refine X0.alen hexec hA0 rfl rfl (hb hbytes d11) ?_
          refine XS.icmpNo X0.here hexec rfl (hb hbytes d12) rfl (ii_ge_f (lt32 (by omega) (by omega))) ?_
          refine XS.aloadN X0.here hexec rfl (hb hbytes d15) rfl rfl ?_
          refine XS.iloadN X0.here hexec rfl (hb hbytes d16) rfl ?_
          refine X0.aget hexec hA0 rfl (yv_get hA tA (i := i) (by omega)) rfl rfl (hb hbytes d17) ?_
          refine XS.aloadN X0.here hexec rfl (hb hbytes d18) rfl rfl ?_
          refine XS.iloadN X0.here hexec rfl (hb hbytes d19) rfl ?_
          refine X0.aget hexec hB0 rfl (yv_get hB tB (i := i) (by omega)) rfl rfl (hb hbytes d20) ?_
          exact Steps.refl _)
        by_cases hv : yv A i = yv B i
        · have c5 : Steps p.tables e below (s₁.setTop (entryFrame m #[.ref a, .ref b] 3)) (s₁.setTop (mkF m 9 #[.val (.ref a), .val (.ref b), .val (.int (Int32.ofNat i + 1))] [])) := c4.trans (by
            refine XS.icmpYes X0.here hexec rfl (pc0 := 21) rfl (hb hbytes d21) rfl (ii_eq_t hv) (by decide) rfl ?_
            refine iincV X0.here hexec rfl 1 (hb hbytes d26) (by decide) rfl rfl ?_
            refine XS.goto X0.here hexec rfl (pc0 := 29) rfl (hb hbytes d29) (by decide) rfl ?_
            exact Steps.refl _)
          rw [succ32] at c5
          exact ih (i + 1) (by omega) (fun j hj => by
            by_cases e : j = i
            · rw [e]; exact hv
            · exact he j (by omega)) c5
        · exact ⟨25, _, 0, Or.inl rfl, Or.inr ⟨rfl, fun q => hv (q.2 i (by omega))⟩, c4.trans (by
            refine XS.icmpNo X0.here hexec rfl (hb hbytes d21) rfl (ii_eq_f hv) ?_
            refine iconstV X0.here hexec rfl 0 (hb hbytes d24) (by decide) ?_
            exact Steps.refl _)⟩
    obtain ⟨pc, Ls, v, hpc, hv, cz⟩ := loop A.slots.size 0 (by omega) (fun j hj => absurd hj (Nat.not_lt_zero j)) c3
    have nv : narrow .boolean (.int v) = .int v := by rcases hv with ⟨rfl, -⟩ | ⟨rfl, -⟩ <;> rfl
    rcases hpc with rfl | rfl
    · exact ⟨s₁, some (.int v), _, _, _, X0, rfl, rfl, rfl, (fun h => by cases h), ⟨v, rfl, hh0, hv⟩, fun fs hl => cz.trans (X0.ireturnOut hexec hret nv (Or.inr (Or.inl rfl)) (hb hbytes d25) hl)⟩
    · exact ⟨s₁, some (.int v), _, _, _, X0, rfl, rfl, rfl, (fun h => by cases h), ⟨v, rfl, hh0, hv⟩, fun fs hl => cz.trans (X0.ireturnOut hexec hret nv (Or.inr (Or.inl rfl)) (hb hbytes d33) hl)⟩
  · have c3 : Steps p.tables e below (s₁.setTop (entryFrame m #[.ref a, .ref b] 3)) (s₁.setTop (mkF m 35 #[.val (.ref a), .val (.ref b), .unset] [.int 0])) := c2.trans (by
      refine XS.icmpYes X0.here hexec rfl (pc0 := 4) rfl (hb hbytes d4) rfl (ii_ne_t (ne32 a31 b31 hs)) (by decide) rfl ?_
      refine iconstV X0.here hexec rfl 0 (hb hbytes d34) (by decide) ?_
      exact Steps.refl _)
    exact ⟨s₁, some (.int 0), _, _, _, X0, rfl, rfl, rfl, (fun h => by cases h), ⟨0, rfl, hh0, Or.inr ⟨rfl, fun q => hs q.1⟩⟩, fun fs hl => c3.trans (X0.ireturnOut hexec hret rfl (Or.inr (Or.inl rfl)) (hb hbytes d35) hl)⟩
end LEq
theorem Cod.ty {cd : Int32} {n : Nat} {f : Nat → Int32} {V : Cell} (h : Cod cd n f V) : Typed .byte V := fun i v hv => by
  have hi : i < V.slots.size := (Array.getElem?_eq_some_iff.mp hv).1
  rcases h with ⟨-, k1, k2⟩ | ⟨-, k1, k2, -⟩
  · rw [(k2 i (by omega)).1] at hv; cases hv; exact fits_lo8 _
  · rcases Nat.mod_two_eq_zero_or_one i with e | e
    · obtain ⟨j, rfl⟩ : ∃ j, i = 2 * j := ⟨i / 2, by omega⟩
      rw [(k2 j (by omega)).1] at hv; cases hv; exact fits_lo8 _
    · obtain ⟨j, rfl⟩ : ∃ j, i = 2 * j + 1 := ⟨i / 2, by omega⟩
      rw [(k2 j (by omega)).2] at hv; cases hv; exact fits_lo8 _
/-- the same text -/
def SameT (n : Nat) (f : Nat → Int32) (k : Nat) (g : Nat → Int32) : Prop := n = k ∧ ∀ j, j < n → f j = g j
theorem lo8_inj {x y : Int32} (h0 : ¬ x < 0) (h1 : ¬ 255 < x) (k0 : ¬ y < 0) (k1 : ¬ 255 < y) (h : lo8 x = lo8 y) : x = y := by
  rw [← lo8_mask h0 h1, ← lo8_mask k0 k1, h]
/-- arrays coded by one coder are equal just where the texts are -/
theorem Cod.eqv {cd : Int32} {n k : Nat} {f g : Nat → Int32} {V V' : Cell} (h : Cod cd n f V) (h' : Cod cd k g V') (hf : ∀ j, j < n → ¬ f j < 0 ∧ ¬ 65535 < f j) (hg : ∀ j, j < k → ¬ g j < 0 ∧ ¬ 65535 < g j) : EqC V V' ↔ SameT n f k g := by
  have yvv : ∀ {W : Cell} {i : Nat} {x : Int32}, W.slots[i]? = some (.int x) → yv W i = x := fun q => by unfold yv; rw [q]
  rcases h with ⟨rfl, k1, k2⟩ | ⟨rfl, k1, k2, -⟩
  · rcases h' with ⟨-, m1, m2⟩ | ⟨e, -⟩
    · constructor
      · rintro ⟨e1, e2⟩
        refine ⟨by omega, fun j hj => ?_⟩
        have q := e2 j (by omega)
        rw [yvv (k2 j hj).1, yvv (m2 j (by omega)).1] at q
        exact lo8_inj (hf j hj).1 (k2 j hj).2 (hg j (by omega)).1 (m2 j (by omega)).2 q
      · rintro ⟨rfl, e2⟩
        refine ⟨by omega, fun j hj => ?_⟩
        rw [yvv (k2 j (by omega)).1, yvv (m2 j (by omega)).1, e2 j (by omega)]
    · exact absurd e (by decide)
  · rcases h' with ⟨e, -⟩ | ⟨-, m1, m2, -⟩
    · exact absurd e (by decide)
    · constructor
      · rintro ⟨e1, e2⟩
        refine ⟨by omega, fun j hj => ?_⟩
        have q1 := e2 (2 * j) (by omega)
        have q2 := e2 (2 * j + 1) (by omega)
        rw [yvv (k2 j hj).1, yvv (m2 j (by omega)).1] at q1
        rw [yvv (k2 j hj).2, yvv (m2 j (by omega)).2] at q2
        rw [← pair_says (hf j hj).1 (hf j hj).2, ← pair_says (hg j (by omega)).1 (hg j (by omega)).2, q1, q2]
      · rintro ⟨rfl, e2⟩
        refine ⟨by omega, fun i hi => ?_⟩
        rcases Nat.mod_two_eq_zero_or_one i with e | e
        · obtain ⟨j, rfl⟩ : ∃ j, i = 2 * j := ⟨i / 2, by omega⟩
          rw [yvv (k2 j (by omega)).1, yvv (m2 j (by omega)).1, e2 j (by omega)]
        · obtain ⟨j, rfl⟩ : ∃ j, i = 2 * j + 1 := ⟨i / 2, by omega⟩
          rw [yvv (k2 j (by omega)).2, yvv (m2 j (by omega)).2, e2 j (by omega)]
/-- two codings differ: so do the texts -/
theorem Cod.dif {cd cd' : Int32} {n k : Nat} {f g : Nat → Int32} {V V' : Cell} (h : Cod cd n f V) (h' : Cod cd' k g V') (hne : ¬ cd = cd') : ¬ SameT n f k g := by
  rintro ⟨rfl, e⟩
  rcases h with ⟨rfl, -, k2⟩ | ⟨rfl, -, -, j, hj, hw⟩
  · rcases h' with ⟨rfl, -⟩ | ⟨-, -, -, j, hj, hw⟩
    · exact hne rfl
    · exact (k2 j hj).2 (by rw [e j hj]; exact hw)
  · rcases h' with ⟨-, -, m2⟩ | ⟨rfl, -⟩
    · exact (m2 j hj).2 (by rw [← e j hj]; exact hw)
    · exact hne rfl
/-- an object of exactly C is an instance of C -/
theorem cinst {p : Program} {l : Launch} {e : Env} {R : Room} {s : State} {m : MethodId} {args : Array Value} {below : List Frame} {meth : Method} {c : Code} {T : State} {locs : List Loc} {cells slots : Nat} (X : Stand p l e R s m args below meth c T locs cells slots) (hexec : p.tables.exec = Jvm.exec) {own C : String} {index : Nat} (hown : s.vm.findClass own = some m.cls) (hlink : (Cond.classLink own index C).before args s = true) {a : Addr} (hE : Exact C a T)
    {g : JFrame} (hg : g.method = m) {rest : List Value} (hstack : g.stack = .ref a :: rest) (hdg : decode c.code g.pc = .ok (.instanceof index, 3)) :
    ∃ T', Stand p l e R s m args below meth c T' locs cells slots ∧ T'.heap = T.heap ∧ ∀ target, Steps p.tables e below (T'.setTop { g with pc := g.pc + 3, stack := .int 1 :: rest }) target → Steps p.tables e below (T.setTop g) target := by
  obtain ⟨cB, h1, D, h2, h3, h4⟩ := hE
  have h1' : s.vm.findClass C = some cB := by rw [← X.warmed.alike.findClass]; exact h1
  obtain ⟨vm', X', st⟩ := X.instanceofYes hexec hown hlink h2 h4 h1' (by rw [h3]; exact Jvm.Free.SB.assignable_self _ _) hg hstack hdg
  exact ⟨_, X', rfl, st⟩
theorem cself {p : Program} {l : Launch} {e : Env} {R : Room} {s : State} {m : MethodId} {args : Array Value} {below : List Frame} {meth : Method} {c : Code} {T : State} {locs : List Loc} {cells slots : Nat} (X : Stand p l e R s m args below meth c T locs cells slots) (hexec : p.tables.exec = Jvm.exec) {own C : String} {index : Nat} (hown : s.vm.findClass own = some m.cls) (hlink : (Cond.classLink own index C).before args s = true) {a : Addr} (hE : Exact C a T)
    {g : JFrame} (hg : g.method = m) {rest : List Value} (hstack : g.stack = .ref a :: rest) (hdg : decode c.code g.pc = .ok (.checkcast index, 3)) :
    ∃ T', Stand p l e R s m args below meth c T' locs cells slots ∧ T'.heap = T.heap ∧ ∀ target, Steps p.tables e below (T'.setTop { g with pc := g.pc + 3, stack := .ref a :: rest }) target → Steps p.tables e below (T.setTop g) target := by
  obtain ⟨cB, h1, D, h2, h3, h4⟩ := hE
  have h1' : s.vm.findClass C = some cB := by rw [← X.warmed.alike.findClass]; exact h1
  obtain ⟨vm', X', st⟩ := X.checkcastYes hexec hown hlink h2 h4 h1' (by rw [h3]; exact Jvm.Free.SB.assignable_self _ _) hg hstack hdg
  exact ⟨_, X', rfl, fun t h => st t (by rw [← hstack] at h; exact h)⟩
namespace SEq
def yN : MethodName := ⟨"java/lang/String", "equals", "(Ljava/lang/Object;)Z"⟩
abbrev yB : ByteArray := jdk_42_method_66_code
theorem d0 : decode yB 0 = .ok (.aload_n 0, 1) := by decide +kernel
theorem d1 : decode yB 1 = .ok (.aload_n 1, 1) := by decide +kernel
theorem d2 : decode yB 2 = .ok (.if_acmp (.ne) 5, 3) := by decide +kernel
theorem d5 : decode yB 5 = .ok (.iconst 1, 1) := by decide +kernel
theorem d6 : decode yB 6 = .ok (.ireturn, 1) := by decide +kernel
theorem d7 : decode yB 7 = .ok (.aload_n 1, 1) := by decide +kernel
theorem d8 : decode yB 8 = .ok (.instanceof 10, 3) := by decide +kernel
theorem d11 : decode yB 11 = .ok (.ifCond (.eq) 43, 3) := by decide +kernel
theorem d14 : decode yB 14 = .ok (.aload_n 1, 1) := by decide +kernel
theorem d15 : decode yB 15 = .ok (.checkcast 10, 3) := by decide +kernel
theorem d18 : decode yB 18 = .ok (.astore_n 2, 1) := by decide +kernel
theorem d19 : decode yB 19 = .ok (.getstatic 38, 3) := by decide +kernel
theorem d22 : decode yB 22 = .ok (.ifCond (.eq) 14, 3) := by decide +kernel
theorem d25 : decode yB 25 = .ok (.aload_n 0, 1) := by decide +kernel
theorem d26 : decode yB 26 = .ok (.getfield 15, 3) := by decide +kernel
theorem d29 : decode yB 29 = .ok (.aload_n 2, 1) := by decide +kernel
theorem d30 : decode yB 30 = .ok (.getfield 15, 3) := by decide +kernel
theorem d33 : decode yB 33 = .ok (.if_icmp (.ne) 21, 3) := by decide +kernel
theorem d36 : decode yB 36 = .ok (.aload_n 0, 1) := by decide +kernel
theorem d37 : decode yB 37 = .ok (.getfield 9, 3) := by decide +kernel
theorem d40 : decode yB 40 = .ok (.aload_n 2, 1) := by decide +kernel
theorem d41 : decode yB 41 = .ok (.getfield 9, 3) := by decide +kernel
theorem d44 : decode yB 44 = .ok (.invokestatic 541, 3) := by decide +kernel
theorem d47 : decode yB 47 = .ok (.ifCond (.eq) 7, 3) := by decide +kernel
theorem d50 : decode yB 50 = .ok (.iconst 1, 1) := by decide +kernel
theorem d51 : decode yB 51 = .ok (.goto 4, 3) := by decide +kernel
theorem d54 : decode yB 54 = .ok (.iconst 0, 1) := by decide +kernel
theorem d55 : decode yB 55 = .ok (.ireturn, 1) := by decide +kernel
def site : List Cond := [.classLink "java/lang/String" 10 "java/lang/String", .fieldLink "java/lang/String" 38 "java/lang/String" "COMPACT_STRINGS" "Z", .fieldLink "java/lang/String" 15 "java/lang/String" "coder" "B", .fieldLink "java/lang/String" 9 "java/lang/String" "value" "[B", LEq.tab] ++ staticW "java/lang/String" 541 LEq.yN
def tab : Cond := tabOf yN yB 3 (some .boolean) site
def P (x t : Addr) (V : Cell) (cd : Int32) (n : Nat) (f : Nat → Int32) (y t' : Addr) (V' : Cell) (cd' : Int32) (k : Nat) (g : Nat → Int32) (z : Int32) (args : Array Value) (s : State) : Prop := args = #[.ref x, .ref y] ∧ Txt x t V cd n f s ∧ Txt y t' V' cd' k g s ∧ StaticIs s "java/lang/String" "COMPACT_STRINGS" "Z" (.int z) ∧ ¬ z = 0
/-- equals(Object) of two Strings: whether the texts are the same -/
theorem law (l : Launch) (x t : Addr) (V : Cell) (cd : Int32) (n : Nat) (f : Nat → Int32) (y t' : Addr) (V' : Cell) (cd' : Int32) (k : Nat) (g : Nat → Int32) (z : Int32) : Law l yN 2 1 1 14 yB 3 (some .boolean) site (P x t V cd n f y t' V' cd' k g z) (Says01 (SameT n f k g)) [] 0 0 := by
  refine Law.of_walk (plainFor_of_name (by decide +kernel)) (by decide +kernel) (by decide +kernel) (by decide) (fun _ _ h => by rw [h.1]; rfl) (fun _ U U' hal hh h => ⟨h.1, h.2.1.mv hal hh, h.2.2.1.mv hal hh, h.2.2.2.1.there hal hh, h.2.2.2.2⟩) (fun r U U' V V' h1 hal h2 h => Says01.mv r U U' V V' h1 hal h2 h) ?_
  intro p e s m args below meth c s₁ X0 hexec hbytes hml hret hlk hnm hown hh0 W hP
  obtain ⟨rfl, hx, hy, s1, hz⟩ := hP
  have c1 : Steps p.tables e below (s₁.setTop (entryFrame m #[.ref x, .ref y] 3)) (s₁.setTop (mkF m 2 #[.val (.ref x), .val (.ref y), .unset] [.ref y, .ref x])) := Steps.trans (entry rfl) (by
    show Steps p.tables e below (s₁.setTop (mkF m 0 #[.val (.ref x), .val (.ref y), .unset] [])) _
    refine XS.aloadN X0.here hexec rfl (hb hbytes d0) rfl rfl ?_
    refine XS.aloadN X0.here hexec rfl (hb hbytes d1) rfl rfl ?_
    exact Steps.refl _)
  by_cases hxy : x = y
  · have c2 : Steps p.tables e below (s₁.setTop (entryFrame m #[.ref x, .ref y] 3)) (s₁.setTop (mkF m 6 #[.val (.ref x), .val (.ref y), .unset] [.int 1])) := c1.trans (by
      refine acmpNo X0.here hexec rfl (hb hbytes d2) rfl rfl rfl (by simp [acmp, hxy]) ?_
      refine iconstV X0.here hexec rfl 1 (hb hbytes d5) (by decide) ?_
      exact Steps.refl _)
    subst hxy
    have ec : cd = cd' := by
      obtain ⟨D, fd, a1, a2, a3⟩ := hx.2.2.1
      obtain ⟨D', fd', b1, b2, b3⟩ := hy.2.2.1
      cases a1.symm.trans b1
      obtain ⟨q1, q2, q3, q4⟩ := a2.1
      obtain ⟨r1, r2, r3, r4⟩ := b2.1
      cases q4.symm.trans r4
      cases a3.symm.trans b3; rfl
    have et : t = t' := by
      obtain ⟨D, fd, a1, a2, a3⟩ := hx.2.1
      obtain ⟨D', fd', b1, b2, b3⟩ := hy.2.1
      cases a1.symm.trans b1
      obtain ⟨q1, q2, q3, q4⟩ := a2.1
      obtain ⟨r1, r2, r3, r4⟩ := b2.1
      cases q4.symm.trans r4
      cases a3.symm.trans b3; rfl
    subst ec et
    have ev : V = V' := by cases hx.2.2.2.1.1.symm.trans hy.2.2.2.1.1; rfl
    subst ev
    have hs : SameT n f k g := (Cod.eqv hx.2.2.2.2.1 hy.2.2.2.2.1 hx.2.2.2.2.2 hy.2.2.2.2.2).mp ⟨rfl, fun _ _ => rfl⟩
    exact ⟨s₁, some (.int 1), _, _, _, X0, rfl, rfl, rfl, (fun h => by cases h), ⟨1, rfl, hh0, Or.inl ⟨rfl, hs⟩⟩, fun fs hl => c2.trans (X0.ireturnOut hexec hret rfl (Or.inr (Or.inl rfl)) (hb hbytes d6) hl)⟩
  · have c2 : Steps p.tables e below (s₁.setTop (entryFrame m #[.ref x, .ref y] 3)) (s₁.setTop (mkF m 8 #[.val (.ref x), .val (.ref y), .unset] [.ref y])) := c1.trans (by
      refine acmpYes X0.here hexec rfl (pc0 := 2) rfl (hb hbytes d2) rfl rfl rfl (by simp [acmp, hxy]) (by decide) rfl ?_
      refine XS.aloadN X0.here hexec rfl (hb hbytes d7) rfl rfl ?_
      exact Steps.refl _)
    obtain ⟨T3, X3, q3, st3⟩ := cinst X0 hexec hown (wk W (.classLink "java/lang/String" 10 "java/lang/String")) (hy.mv X0.warmed.alike hh0).1 (g := (mkF m 8 #[.val (.ref x), .val (.ref y), .unset] [.ref y])) rfl (rest := []) rfl (hb hbytes d8)
    have hh3 := q3.trans hh0
    have c4 : Steps p.tables e below (s₁.setTop (entryFrame m #[.ref x, .ref y] 3)) (T3.setTop (mkF m 15 #[.val (.ref x), .val (.ref y), .unset] [.ref y])) := (c2.trans (st3 _ (Steps.refl _))).trans (by
      refine XS.ifNo X3.here hexec rfl (hb hbytes d11) rfl (i0_eq_f (by decide)) ?_
      refine XS.aloadN X3.here hexec rfl (hb hbytes d14) rfl rfl ?_
      exact Steps.refl _)
    obtain ⟨T5, X5, q5, st5⟩ := cself X3 hexec hown (wk W (.classLink "java/lang/String" 10 "java/lang/String")) (hy.mv X3.warmed.alike hh3).1 (g := (mkF m 15 #[.val (.ref x), .val (.ref y), .unset] [.ref y])) rfl (rest := []) rfl (hb hbytes d15)
    have hh5 := q5.trans hh3
    have c6 : Steps p.tables e below (s₁.setTop (entryFrame m #[.ref x, .ref y] 3)) (T5.setTop (mkF m 19 #[.val (.ref x), .val (.ref y), .val (.ref y)] [])) := (c4.trans (st5 _ (Steps.refl _))).trans (by
      refine XS.astoreN X5.here hexec rfl (hb hbytes d18) rfl rfl rfl ?_
      exact Steps.refl _)
    obtain ⟨T7, X7, q7, st7⟩ := X5.sget hexec hown (wk W (.fieldLink "java/lang/String" 38 "java/lang/String" "COMPACT_STRINGS" "Z")) s1 (fun _ _ h => by rw [hh5]; exact h) (g := (mkF m 19 #[.val (.ref x), .val (.ref y), .val (.ref y)] [])) rfl (hb hbytes d19)
    have hh7 := q7.trans hh5
    have c8 : Steps p.tables e below (s₁.setTop (entryFrame m #[.ref x, .ref y] 3)) (T7.setTop (mkF m 26 #[.val (.ref x), .val (.ref y), .val (.ref y)] [.ref x])) := (c6.trans (st7 _ (Steps.refl _))).trans (by
      refine XS.ifNo X7.here hexec rfl (hb hbytes d22) rfl (i0_eq_f hz) ?_
      refine XS.aloadN X7.here hexec rfl (hb hbytes d25) rfl rfl ?_
      exact Steps.refl _)
    obtain ⟨T9, X9, q9, st9⟩ := X7.hget hexec hown (wk W (.fieldLink "java/lang/String" 15 "java/lang/String" "coder" "B")) (hx.mv X7.warmed.alike hh7).2.2.1 (g := (mkF m 26 #[.val (.ref x), .val (.ref y), .val (.ref y)] [.ref x])) rfl (rest := []) rfl (hb hbytes d26)
    have hh9 := q9.trans hh7
    have c10 : Steps p.tables e below (s₁.setTop (entryFrame m #[.ref x, .ref y] 3)) (T9.setTop (mkF m 30 #[.val (.ref x), .val (.ref y), .val (.ref y)] [.ref y, .int cd])) := (c8.trans (st9 _ (Steps.refl _))).trans (by
      refine XS.aloadN X9.here hexec rfl (hb hbytes d29) rfl rfl ?_
      exact Steps.refl _)
    obtain ⟨T11, X11, q11, st11⟩ := X9.hget hexec hown (wk W (.fieldLink "java/lang/String" 15 "java/lang/String" "coder" "B")) (hy.mv X9.warmed.alike hh9).2.2.1 (g := (mkF m 30 #[.val (.ref x), .val (.ref y), .val (.ref y)] [.ref y, .int cd])) rfl (rest := [.int cd]) rfl (hb hbytes d30)
    have hh11 := q11.trans hh9
    have c12 : Steps p.tables e below (s₁.setTop (entryFrame m #[.ref x, .ref y] 3)) (T11.setTop (mkF m 33 #[.val (.ref x), .val (.ref y), .val (.ref y)] [.int cd', .int cd])) := c10.trans (st11 _ (Steps.refl _))
    by_cases hcd : cd = cd'
    · subst hcd
      have c13 : Steps p.tables e below (s₁.setTop (entryFrame m #[.ref x, .ref y] 3)) (T11.setTop (mkF m 37 #[.val (.ref x), .val (.ref y), .val (.ref y)] [.ref x])) := c12.trans (by
        refine XS.icmpNo X11.here hexec rfl (hb hbytes d33) rfl (ii_ne_f rfl) ?_
        refine XS.aloadN X11.here hexec rfl (hb hbytes d36) rfl rfl ?_
        exact Steps.refl _)
      obtain ⟨T14, X14, q14, st14⟩ := X11.hget hexec hown (wk W (.fieldLink "java/lang/String" 9 "java/lang/String" "value" "[B")) (hx.mv X11.warmed.alike hh11).2.1 (g := (mkF m 37 #[.val (.ref x), .val (.ref y), .val (.ref y)] [.ref x])) rfl (rest := []) rfl (hb hbytes d37)
      have hh14 := q14.trans hh11
      have c15 : Steps p.tables e below (s₁.setTop (entryFrame m #[.ref x, .ref y] 3)) (T14.setTop (mkF m 41 #[.val (.ref x), .val (.ref y), .val (.ref y)] [.ref y, .ref t])) := (c13.trans (st14 _ (Steps.refl _))).trans (by
        refine XS.aloadN X14.here hexec rfl (hb hbytes d40) rfl rfl ?_
        exact Steps.refl _)
      obtain ⟨T16, X16, q16, st16⟩ := X14.hget hexec hown (wk W (.fieldLink "java/lang/String" 9 "java/lang/String" "value" "[B")) (hy.mv X14.warmed.alike hh14).2.1 (g := (mkF m 41 #[.val (.ref x), .val (.ref y), .val (.ref y)] [.ref y, .ref t])) rfl (rest := [.ref t]) rfl (hb hbytes d41)
      have hh16 := q16.trans hh14
      have c17 : Steps p.tables e below (s₁.setTop (entryFrame m #[.ref x, .ref y] 3)) (T16.setTop (mkF m 44 #[.val (.ref x), .val (.ref y), .val (.ref y)] [.ref t', .ref t])) := c15.trans (st16 _ (Steps.refl _))
      obtain ⟨v18, T18, X18, E18, g18⟩ := X16.callS hexec (LEq.law l t V t' V') hown (wks W (staticW "java/lang/String" 541 LEq.yN)) (wk W LEq.tab) (W := 0) (Nat.le_of_ble_eq_true rfl) (Nat.le_of_ble_eq_true rfl) (Nat.le_refl _) (Nat.le_refl _) (g := (mkF m 44 #[.val (.ref x), .val (.ref y), .val (.ref y)] [.ref t', .ref t])) rfl (by rw [hml]; rfl) c17 (argsL := [.ref t, .ref t']) (rest := []) rfl rfl (by show 2 * 0 + 0 ≤ _; decide) (hb hbytes d44) (⟨rfl, hx.2.2.2.1.mv X16.warmed.alike hh16, hx.2.2.2.2.1.ty, hy.2.2.2.1.mv X16.warmed.alike hh16, hy.2.2.2.2.1.ty⟩)
      obtain ⟨v, rfl, q18, hv⟩ := E18
      have iff := Cod.eqv hx.2.2.2.2.1 hy.2.2.2.2.1 hx.2.2.2.2.2 hy.2.2.2.2.2
      rcases hv with ⟨rfl, he⟩ | ⟨rfl, he⟩
      · have c19 : Steps p.tables e below (s₁.setTop (entryFrame m #[.ref x, .ref y] 3)) (T18.setTop (mkF m 55 #[.val (.ref x), .val (.ref y), .val (.ref y)] [.int 1])) := Steps.trans g18 (by
          refine XS.ifNo X18.here hexec rfl (hb hbytes d47) rfl (i0_eq_f (by decide)) ?_
          refine iconstV X18.here hexec rfl 1 (hb hbytes d50) (by decide) ?_
          refine XS.goto X18.here hexec rfl (pc0 := 51) rfl (hb hbytes d51) (by decide) rfl ?_
          exact Steps.refl _)
        exact ⟨T18, some (.int 1), _, _, _, X18, rfl, rfl, rfl, (fun h => by cases h), ⟨1, rfl, q18.trans hh16, Or.inl ⟨rfl, iff.mp he⟩⟩, fun fs hl => c19.trans (X18.ireturnOut hexec hret rfl (Or.inr (Or.inl rfl)) (hb hbytes d55) hl)⟩
      · have c19 : Steps p.tables e below (s₁.setTop (entryFrame m #[.ref x, .ref y] 3)) (T18.setTop (mkF m 55 #[.val (.ref x), .val (.ref y), .val (.ref y)] [.int 0])) := Steps.trans g18 (by
          refine XS.ifYes X18.here hexec rfl (pc0 := 47) rfl (hb hbytes d47) rfl (i0_eq_t rfl) (by decide) rfl ?_
          refine iconstV X18.here hexec rfl 0 (hb hbytes d54) (by decide) ?_
          exact Steps.refl _)
        exact ⟨T18, some (.int 0), _, _, _, X18, rfl, rfl, rfl, (fun h => by cases h), ⟨0, rfl, q18.trans hh16, Or.inr ⟨rfl, fun q => he (iff.mpr q)⟩⟩, fun fs hl => c19.trans (X18.ireturnOut hexec hret rfl (Or.inr (Or.inl rfl)) (hb hbytes d55) hl)⟩
    · have c13 : Steps p.tables e below (s₁.setTop (entryFrame m #[.ref x, .ref y] 3)) (T11.setTop (mkF m 55 #[.val (.ref x), .val (.ref y), .val (.ref y)] [.int 0])) := c12.trans (by
        refine XS.icmpYes X11.here hexec rfl (pc0 := 33) rfl (hb hbytes d33) rfl (ii_ne_t hcd) (by decide) rfl ?_
        refine iconstV X11.here hexec rfl 0 (hb hbytes d54) (by decide) ?_
        exact Steps.refl _)
      exact ⟨T11, some (.int 0), _, _, _, X11, rfl, rfl, rfl, (fun h => by cases h), ⟨0, rfl, hh11, Or.inr ⟨rfl, Cod.dif hx.2.2.2.2.1 hy.2.2.2.2.1 hcd⟩⟩, fun fs hl => c13.trans (X11.ireturnOut hexec hret rfl (Or.inr (Or.inl rfl)) (hb hbytes d55) hl)⟩
theorem pays {l : Launch} {R : Room} {p : Program} {e : Env} {below : List Frame} {s : State} {sargs : Array Value} {len W : Nat} (x t : Addr) (V : Cell) (cd : Int32) (n : Nat) (f : Nat → Int32) (y t' : Addr) (V' : Cell) (cd' : Int32) (k : Nat) (g : Nat → Int32) (z : Int32) (htab : tab.before sargs s = true) (hfr : 2 ≤ R.frames) (hlo : W + 28 ≤ R.locals) :
    Back l R p e below s sargs yN len W (fun A₁ a₁ => A₁.cells + 0 ≤ R.cells ∧ A₁.slots + 0 ≤ R.slots ∧ P x t V cd n f y t' V' cd' k g z a₁ A₁.U) (fun A₁ _ v₁ B₁ => Says01 (SameT n f k g) v₁ A₁.U B₁.U ∧ B₁.locs = A₁.locs ++ [] ∧ B₁.cells = A₁.cells + 0 ∧ B₁.slots = A₁.slots + 0) :=
  (law l x t V cd n f y t' V' cd' k g z).pays htab hfr (by omega)
end SEq
end StrChars
namespace StrChars.Road
open Jvm Sem ClassFile Op Lib Jvm.Stand Jvm.Free Jvm.Free.XT
open Jvm.Lib.Cold (StaticIs)
/-- the words of String.equals(Object) -/
abbrev wordsEq : List Jvm.Cond := [.code SEq.yN SEq.yB 3 (some .boolean), .initialized ST, .classLink ST 10 ST, .fieldLink ST 38 ST "COMPACT_STRINGS" "Z", .fieldLink ST 15 ST "coder" "B", .fieldLink ST 9 ST "value" "[B", .methodLink ST 541 LEq.yN, .static LEq.yN, .code LEq.yN LEq.yB 3 (some .boolean), .initialized "java/lang/StringLatin1"]
theorem tabEq_of {a : Array Value} {s : State} (h : ∀ w ∈ wordsEq, w.before a s = true) : SEq.tab.before a s = true := by
  have hl : LEq.tab.before a s = true := unparts (wk h (.code LEq.yN LEq.yB 3 (some .boolean))) (wks h (.initialized LEq.yN.cls :: LEq.site))
  have q := consq hl h
  exact unparts (wk q (.code SEq.yN SEq.yB 3 (some .boolean))) (wks q (.initialized SEq.yN.cls :: SEq.site))
theorem movedEq {Z s : State} {a0 args : Array Value} (hZ : Z.Warmed39 s.vm) (hw : ∀ d ∈ wordsEq, d.before a0 Z = true) : ∀ d ∈ wordsEq, d.before args s = true := fun d hd => by
  have t : ∀ d ∈ wordsEq, (d.onTables && d.keepsFace) = true := by decide +kernel
  exact RoadKit.mv hZ (hw d hd) (t d hd)
/-- the road's facts of a String, as the laws ask it -/
theorem txt_of {Z U : State} {a0 : Array Value} {kI : Nat} (wi : (Jvm.Cond.instantiable ST kI).before a0 Z = true) (al : Z.vm.Alike U.vm) {x t : Addr} {kb : ClassId} {cs : List Int32} {cd N2 : Int32} {vs : List Value} (E : RoadKit.Exa Z U.heap x ST) (V : RoadKit.Fld Z U.heap x ST "value" "[B" (.ref t)) (C : RoadKit.Fld Z U.heap x ST "coder" "B" (.int cd)) (K : RoadKit.Arv Z U.heap t kb .byte N2 vs (.int 0)) (hc : CodA cs cd N2 vs) (hb : ∀ c ∈ cs, ¬ c < 0 ∧ ¬ (65535 : Int32) < c) (l2 : cs.length ≤ 4000) :
    ∃ A, Txt x t A cd cs.length (fun j => cs.getD j 0) U := by
  obtain ⟨A, K1, K2, K3, K4, K5, K6⟩ := K
  have hcod := hc.cod (by omega) K3 K5
  obtain ⟨D, fV, fC, hB, F1, F2, g1, g2, -, -⟩ := strObj wi al E V C
  exact ⟨A, ⟨_, hB.2.2.1, D, hB.1, rfl, by cases q : D.vm <;> first | rfl | exact absurd q (hB.2.1.2 _)⟩, Has.of hB F1 g1, Has.of hB F2 g2, ⟨K1.1, State.isArrayOf_alike al K1.2.1, K1.2.2, by rcases hcod with ⟨-, q, -⟩ | ⟨-, q, -⟩ <;> omega⟩, hcod, fun j hj => by
    have e : cs.getD j 0 = cs[j] := by simp [List.getD_eq_getElem?_getD, hj]
    show ¬ cs.getD j 0 < 0 ∧ ¬ 65535 < cs.getD j 0
    rw [e]; exact hb _ (List.getElem_mem _)⟩
theorem same_list (cs ds : List Int32) : SameT cs.length (fun j => cs.getD j 0) ds.length (fun j => ds.getD j 0) ↔ cs = ds := by
  constructor
  · rintro ⟨e, q⟩
    refine List.ext_getElem e fun j h1 h2 => ?_
    have := q j h1
    simpa [List.getD_eq_getElem?_getD, h1, h2] using this
  · rintro rfl
    exact ⟨rfl, fun _ _ => rfl⟩
/-- **equals(Object) OF TWO SUCH STRINGS**: 1 just where the chars are the same -/
theorem eqW {p : Program} {l : Launch} {e : Env} {R : Room} {s : State} {args : Array Value} {below : List Frame} {len W : Nat} {Z : State} {a0 : Array Value} {h : Heap} (hZ : Z.Warmed39 s.vm) (hw : ∀ d ∈ wordsEq, d.before a0 Z = true) {kI : Nat} (wi : (Jvm.Cond.instantiable ST kI).before a0 Z = true)
    {x t : Addr} {kb : ClassId} {cs : List Int32} {cd N2 : Int32} {vs : List Value} (E : RoadKit.Exa Z h x ST) (V : RoadKit.Fld Z h x ST "value" "[B" (.ref t)) (C : RoadKit.Fld Z h x ST "coder" "B" (.int cd)) (K : RoadKit.Arv Z h t kb .byte N2 vs (.int 0)) (hc : CodA cs cd N2 vs) (hb : ∀ c ∈ cs, ¬ c < 0 ∧ ¬ (65535 : Int32) < c) (l2 : cs.length ≤ 4000)
    {y t' : Addr} {kb' : ClassId} {ds : List Int32} {cd' N2' : Int32} {vs' : List Value} (E' : RoadKit.Exa Z h y ST) (V' : RoadKit.Fld Z h y ST "value" "[B" (.ref t')) (C' : RoadKit.Fld Z h y ST "coder" "B" (.int cd')) (K' : RoadKit.Arv Z h t' kb' .byte N2' vs' (.int 0)) (hc' : CodA ds cd' N2' vs') (hb' : ∀ c ∈ ds, ¬ c < 0 ∧ ¬ (65535 : Int32) < c) (l2' : ds.length ≤ 4000)
    {z : Int32} (S : RoadKit.Sta Z h ST "COMPACT_STRINGS" "Z" (.int z)) (hz : ¬ z = 0) (hfr : 2 ≤ R.frames) (hlo : W + 28 ≤ R.locals) :
    Back l R p e below s args (⟨"java/lang/String", "equals", "(Ljava/lang/Object;)Z"⟩ : MethodName) len W (fun P a => a = #[.ref x, .ref y] ∧ P.U.heap = h ∧ P.cells + 0 ≤ R.cells ∧ P.slots + 0 ≤ R.slots)
      (fun P _ v B => ∃ L, (((v = some (.int 1) ∧ cs = ds) ∨ (v = some (.int 0) ∧ ¬ cs = ds)) ∧ L = [] ∧ B.U.heap = h) ∧ B.locs = P.locs ++ L ∧ B.cells = P.cells + 0 ∧ B.slots = P.slots + 0) := by
  intro m meth c P g ig mk a X hg hsize hdg hW hn hp'
  obtain ⟨rfl, rfl, r1, r2⟩ := hp'
  have al : Z.vm.Alike P.U.vm := hZ.alike.trans X.warmed.alike
  obtain ⟨A, hx⟩ := txt_of wi al E V C K hc hb l2
  obtain ⟨A', hy⟩ := txt_of wi al E' V' C' K' hc' hb' l2'
  obtain ⟨v, B, X', ⟨⟨w, hv, hh, hq⟩, hl, hk, hs⟩, st⟩ := SEq.pays x t A cd cs.length (fun j => cs.getD j 0) y t' A' cd' ds.length (fun j => ds.getD j 0) z (tabEq_of (movedEq hZ hw)) hfr hlo m meth c P g ig mk _ X hg hsize hdg hW hn ⟨r1, r2, rfl, hx, hy, sta_is al S, hz⟩
  refine ⟨v, B, X', ⟨[], ⟨?_, rfl, hh⟩, hl, hk, hs⟩, st⟩
  rcases hq with ⟨rfl, q⟩ | ⟨rfl, q⟩
  · exact Or.inl ⟨hv, (same_list cs ds).mp q⟩
  · exact Or.inr ⟨hv, fun e => q ((same_list cs ds).mpr e)⟩
end StrChars.Road
namespace StrChars.Road
open Jvm Sem ClassFile Op Lib Jvm.Stand Jvm.Free Jvm.Free.XT
open Jvm.Lib.Cold (StaticIs)
/-- what backV says of its String, as the contracts of this text ask it: cs's low bytes, coder 0 -/
theorem codOf {cs : List Int32} {n : Nat} (hn : cs.length = n) (hb : ∀ c ∈ cs, ¬ 255 < c) : CodA cs 0 (Int32.ofNat n) ((cs.map lo8).map Value.int) := Or.inl ⟨rfl, by rw [hn], by simp [List.map_map, Function.comp_def], hb⟩
end StrChars.Road
end Jvm.Pilot.@@N@@
namespace Jvm.Pilot.@@N@@
open Jvm Jvm.ClassFile Sem Op Lib Jvm.Free Jvm.Stand Jvm.LawKit Jvm.RoadKit Bundle Jvm.Pilot.@@N@@.Jvm.D
theorem W_ {Z : State} {a0 : Array Value} (hw : ∀ d ∈ tables_1, d.before a0 Z = true) (i : Nat) {d : Jvm.Cond} (h : tables_1[i]? = some d) : d.before a0 Z = true := hw d (List.mem_of_getElem? h)
abbrev vR (a : Addr) : Slot := .val (.ref a)
abbrev vI (z : Int32) : Slot := .val (.int z)
abbrev vU : Slot := .unset
abbrev own_y0 : MethodName := ⟨"java/lang/String", "equals", "(Ljava/lang/Object;)Z"⟩
abbrev own_y1 : MethodName := ⟨"java/lang/StringCoding", "countPositives", "([BII)I"⟩
abbrev own_y2 : MethodName := ⟨"java/lang/StringCoding", "hasNegatives", "([BII)Z"⟩
abbrev own_y3 : MethodName := ⟨"java/lang/StringUTF16", "newBytesLength", "(I)I"⟩
abbrev own_y4 : MethodName := ⟨"java/lang/StringUTF16", "newBytesFor", "(I)[B"⟩
abbrev own_y5 : MethodName := ⟨"java/lang/Math", "min", "(II)I"⟩
abbrev own_y6 : MethodName := ⟨"java/util/Arrays", "copyOf", "([BI)[B"⟩
abbrev own_y7 : MethodName := ⟨"java/lang/String", "encodeUTF8", "(B[BZ)[B"⟩
abbrev own_y8 : MethodName := ⟨"java/lang/String", "encode", "(Ljava/nio/charset/Charset;B[B)[B"⟩
abbrev own_y9 : MethodName := ⟨"java/lang/String", "coder", "()B"⟩
abbrev own_y10 : MethodName := ⟨"java/lang/String", "getBytes", "(Ljava/nio/charset/Charset;)[B"⟩
abbrev own_y11 : MethodName := ⟨"java/util/Objects", "requireNonNull", "(Ljava/lang/Object;Ljava/lang/String;)Ljava/lang/Object;"⟩
abbrev own_y12 : MethodName := ⟨"java/lang/Record", "<init>", "()V"⟩
abbrev own_y13 : MethodName := ⟨"com/example/commitwright/commitwright/core/Branch", "checkResourceName", "(Ljava/lang/String;)Ljava/lang/String;"⟩
abbrev own_y14 : MethodName := ⟨"com/example/commitwright/commitwright/core/BranchHashCodePinLaw", "key", "(IBB)[B"⟩
abbrev own_y15 : MethodName := ⟨"java/lang/String", "<init>", "([C)V"⟩
abbrev own_y16 : MethodName := ⟨"com/example/commitwright/commitwright/core/BranchHashCodePinLaw", "name", "(ZCC)Ljava/lang/String;"⟩
abbrev own_y17 : MethodName := ⟨"jdk/internal/util/ArraysSupport", "signedHashCode", "(I[BII)I"⟩
abbrev own_y18 : MethodName := ⟨"jdk/internal/util/ArraysSupport", "hashCode", "(I[BII)I"⟩
abbrev own_y19 : MethodName := ⟨"jdk/internal/util/ArraysSupport", "vectorizedHashCode", "(Ljava/lang/Object;IIII)I"⟩
abbrev own_y20 : MethodName := ⟨"java/lang/StringLatin1", "hashCode", "([B)I"⟩
abbrev own_y21 : MethodName := ⟨"java/util/Arrays", "hashCode", "([B)I"⟩
abbrev own_y22 : MethodName := ⟨"java/lang/String", "isLatin1", "()Z"⟩
abbrev own_y23 : MethodName := ⟨"java/lang/String", "hashCode", "()I"⟩
abbrev own_y24 : MethodName := ⟨"jdk/internal/util/ArraysSupport", "mismatch", "([B[BI)I"⟩
abbrev own_y25 : MethodName := ⟨"java/util/Arrays", "equals", "([B[B)Z"⟩
abbrev own_y26 : MethodName := ⟨"com/example/commitwright/commitwright/core/Branch", "<init>", "(Ljava/lang/String;[B)V"⟩
abbrev own_y27 : MethodName := ⟨"com/example/commitwright/commitwright/core/Branch", "hashCode", "()I"⟩
abbrev own_y28 : MethodName := ⟨"com/example/commitwright/commitwright/core/Branch", "equals", "(Ljava/lang/Object;)Z"⟩
/-- a char of Latin-1 -/
def own_lat (c : Int32) : Prop := ¬ c < 0 ∧ ¬ (255 : Int32) < c
theorem own_lat_cases {c : Int32} (h : own_lat c) : ∃ k : Fin 256, c = Int32.ofNat k.val := by
  obtain ⟨h0, h1⟩ := h
  rw [Int32.lt_iff_toInt_lt] at h0 h1
  have e0 : (0 : Int32).toInt = 0 := rfl
  have e1 : (255 : Int32).toInt = 255 := rfl
  refine ⟨⟨c.toInt.toNat, by omega⟩, Int32.toInt_inj.mp ?_⟩
  show c.toInt = (Int32.ofNat c.toInt.toNat).toInt
  rw [Int32.toInt_ofNat_small (by omega)]
  omega
theorem own_lat_nar {c : Int32} (h : own_lat c) : nar .char c = c := by
  obtain ⟨k, rfl⟩ := own_lat_cases h
  exact (by decide +kernel : ∀ k : Fin 256, nar .char (Int32.ofNat k.val) = Int32.ofNat k.val) k
theorem own_lat_ofNat (k : Fin 256) : own_lat ((Int32.ofNat k.val).toUInt32.toUInt16.toUInt32.toInt32) := by
  unfold own_lat
  revert k
  decide +kernel
theorem own_mask (x : Int32) : own_lat ((x &&& (255 : Int32)).toUInt32.toUInt16.toUInt32.toInt32) := by
  have h : (x &&& 255).toBitVec.toNat < 256 := by
    simp only [Int32.toBitVec_and, BitVec.toNat_and]
    exact Nat.lt_succ_of_le Nat.and_le_right
  have e : (x &&& 255) = Int32.ofNat (x &&& 255).toBitVec.toNat := by
    apply Int32.toBitVec_inj.mp
    show _ = BitVec.ofNat 32 _
    rw [BitVec.ofNat_toNat]; simp
  rw [e]
  exact own_lat_ofNat ⟨_, h⟩
theorem own_up (cs : List Int32) (h : ∀ c ∈ cs, own_lat c) : ∀ c ∈ cs, ¬ c < 0 ∧ ¬ (65535 : Int32) < c := fun c hc => ⟨(h c hc).1, fun q => (h c hc).2 (by rw [Int32.lt_iff_toInt_lt] at q ⊢; have e1 : (65535 : Int32).toInt = 65535 := rfl; have e2 : (255 : Int32).toInt = 255 := rfl; omega)⟩
theorem own_fitsR {v : Value} {C : String} (h : v.isRef = true) : fits (.object C) v = true := by rcases ref_cases h with rfl | ⟨_, rfl⟩ <;> rfl
theorem own_all0 {P : Int32 → Prop} : ∀ x ∈ ([] : List Int32), P x := fun _ q => nomatch q
theorem own_allS {P : Int32 → Prop} {y : Int32} {L : List Int32} (q : P y) (r : ∀ x ∈ L, P x) : ∀ x ∈ y :: L, P x := fun x z => (List.mem_cons.mp z).elim (fun u => u ▸ q) (r x)
/-- the String at x is compact and spells cs -/
def own_Str (Z : State) (h : Heap) (x : Addr) (cs : List Int32) : Prop := (∀ c ∈ cs, own_lat c) ∧ Exa Z h x "java/lang/String" ∧ Fld Z h x "java/lang/String" "coder" "B" (.int (0 : Int32)) ∧
  ∃ (t : Addr) (kb : ClassId), Fld Z h x "java/lang/String" "value" "[B" (.ref t) ∧ Arv Z h t kb .byte (Int32.ofNat cs.length) ((cs.map (fun c => c.toInt8.toInt32)).map Value.int) (.int (0 : Int32))
theorem own_Str.ext {Z : State} {h h' : Heap} {x : Addr} {cs : List Int32} (S : own_Str Z h x cs) (E : Ext h h') : own_Str Z h' x cs := by
  obtain ⟨h1, h2, h3, t, kb, h4, h5⟩ := S
  exact ⟨h1, h2.ext E, h3.ext E, t, kb, h4.ext E, h5.ext E⟩
theorem own_Str.keep {Z : State} {h h' : Heap} {x : Addr} {cs : List Int32} (S : own_Str Z h x cs) (K : Keep h h' []) : own_Str Z h' x cs := by
  obtain ⟨h1, h2, h3, t, kb, h4, h5⟩ := S
  exact ⟨h1, h2.keep K, h3.keep K nin0, t, kb, h4.keep K nin0, h5.keep K nin0⟩
theorem own_Str.keepS {Z : State} {h h' : Heap} {x a : Addr} {cs : List Int32} {a0 : Array Value} {C : String} {n : Nat} (S : own_Str Z h x cs) (K : Keep h h' [a]) (E : Exa Z h a C) (w : (Jvm.Cond.instantiable C n).before a0 Z = true) (q : x ≠ a) : own_Str Z h' x cs := by
  obtain ⟨h1, h2, h3, t, kb, h4, h5⟩ := S
  exact ⟨h1, h2.keep K, h3.keep K (ninS q nin0), t, kb, h4.keep K (ninS q nin0), h5.keep K (ninS (Ne.symm (E.neArv h5 w)) nin0)⟩
theorem own_Str.lt {Z : State} {h : Heap} {x : Addr} {cs : List Int32} (S : own_Str Z h x cs) : x < h.size := S.2.1.lt
/-- equals() of two such Strings, at a call -/
theorem own_eqB {p : Program} {l : Launch} {e : Env} {R : Room} {s : State} {args : Array Value} {below : List Frame} {len W : Nat} {Z : State} {a0 : Array Value} {h : Heap} (hZ : Z.Warmed39 s.vm) (hw : ∀ d ∈ tables_1, d.before a0 Z = true) {kI : Nat} (wi : (Jvm.Cond.instantiable "java/lang/String" kI).before a0 Z = true)
    {x y : Addr} {cs ds : List Int32} {z : Int32} (S : own_Str Z h x cs) (l2 : cs.length ≤ 4000) (S' : own_Str Z h y ds) (l2' : ds.length ≤ 4000) (C : Sta Z h "java/lang/String" "COMPACT_STRINGS" "Z" (.int z)) (hz : ¬ z = 0) (hfr : 2 ≤ R.frames) (hlo : W + 28 ≤ R.locals) :
    Back l R p e below s args own_y0 len W (fun P a => a = #[.ref x, .ref y] ∧ P.U.heap = h ∧ P.cells + 0 ≤ R.cells ∧ P.slots + 0 ≤ R.slots)
      (fun P _ v B => ∃ L, (((v = some (.int 1) ∧ cs = ds) ∨ (v = some (.int 0) ∧ ¬ cs = ds)) ∧ L = [] ∧ B.U.heap = h) ∧ B.locs = P.locs ++ L ∧ B.cells = P.cells + 0 ∧ B.slots = P.slots + 0) := by
  obtain ⟨h1, h2, h3, t, kb, h4, h5⟩ := S
  obtain ⟨g1, g2, g3, t', kb', g4, g5⟩ := S'
  exact StrChars.Road.eqW hZ (fun d hd => hw d ((by decide +kernel : ∀ d ∈ StrChars.Road.wordsEq, d ∈ tables_1) d hd)) wi h2 h4 h3 h5 (StrChars.Road.codOf rfl (fun x hx => (h1 x hx).2)) (own_up _ h1) l2 g2 g4 g3 g5 (StrChars.Road.codOf rfl (fun x hx => (g1 x hx).2)) (own_up _ g1) l2' C hz hfr hlo
theorem own_wS {Z : State} {a0 : Array Value} (hw : ∀ d ∈ tables_1, d.before a0 Z = true) : ∀ a ∈ Bundle.stringAtoms, a.before a0 Z = true := fun d hd => hw d ((by decide +kernel : ∀ d ∈ Bundle.stringAtoms, d ∈ tables_1) d hd)
theorem own_arvExa {Z : State} {h : Heap} {a : Addr} {kb : ClassId} {N : Int32} {vs : List Value} {d : Value} (A : Arv Z h a kb .byte N vs d) (hf : Z.vm.findClass "[B" = some kb) : Exa Z h a "[B" := by
  obtain ⟨c, Ar, rfl, -⟩ := id A
  obtain ⟨k, hk, comp, hkind⟩ := Ar.2.1.2
  exact ⟨c, k, Ar.1, hf, hk, A.nostat c Ar.1, fun q => by rw [hkind] at q; cases q⟩
theorem own_pn0 : plainName "java/lang/StringCoding" = true := by first | (simp [plainName, overriddenIn]; done) | decide +kernel
theorem own_d0_0 : decode jdk_123_method_3_code 0 = .ok (.iload_n 1, 1) := by decide +kernel
theorem own_d0_1 : decode jdk_123_method_3_code 1 = .ok (.iload_n 2, 1) := by decide +kernel
theorem own_d0_2 : decode jdk_123_method_3_code 2 = .ok (.iadd, 1) := by decide +kernel
theorem own_d0_3 : decode jdk_123_method_3_code 3 = .ok (.istore_n 3, 1) := by decide +kernel
theorem own_d0_4 : decode jdk_123_method_3_code 4 = .ok (.iload_n 1, 1) := by decide +kernel
theorem own_d0_5 : decode jdk_123_method_3_code 5 = .ok (.istore 4, 2) := by decide +kernel
theorem own_d0_7 : decode jdk_123_method_3_code 7 = .ok (.iload 4, 2) := by decide +kernel
theorem own_d0_9 : decode jdk_123_method_3_code 9 = .ok (.iload_n 3, 1) := by decide +kernel
theorem own_d0_10 : decode jdk_123_method_3_code 10 = .ok (.if_icmp .ge 21, 3) := by decide +kernel
theorem own_d0_13 : decode jdk_123_method_3_code 13 = .ok (.aload_n 0, 1) := by decide +kernel
theorem own_d0_14 : decode jdk_123_method_3_code 14 = .ok (.iload 4, 2) := by decide +kernel
theorem own_d0_16 : decode jdk_123_method_3_code 16 = .ok (.baload, 1) := by decide +kernel
theorem own_d0_17 : decode jdk_123_method_3_code 17 = .ok (.ifCond .ge 8, 3) := by decide +kernel
theorem own_d0_20 : decode jdk_123_method_3_code 20 = .ok (.iload 4, 2) := by decide +kernel
theorem own_d0_22 : decode jdk_123_method_3_code 22 = .ok (.iload_n 1, 1) := by decide +kernel
theorem own_d0_23 : decode jdk_123_method_3_code 23 = .ok (.isub, 1) := by decide +kernel
theorem own_d0_24 : decode jdk_123_method_3_code 24 = .ok (.ireturn, 1) := by decide +kernel
theorem own_d0_25 : decode jdk_123_method_3_code 25 = .ok (.iinc 4 1, 3) := by decide +kernel
theorem own_d0_28 : decode jdk_123_method_3_code 28 = .ok (.goto (-21), 3) := by decide +kernel
theorem own_d0_31 : decode jdk_123_method_3_code 31 = .ok (.iload_n 2, 1) := by decide +kernel
theorem own_d0_32 : decode jdk_123_method_3_code 32 = .ok (.ireturn, 1) := by decide +kernel
theorem own_efCP1 (m : MethodId) (x0 : Addr) (x1 : Int32) (x2 : Int32) : entryFrame m #[(.ref x0), (.int x1), (.int x2)] 5 = mkF m 0 #[.val (.ref x0), .val (.int x1), .val (.int x2), .unset, .unset] [] := by first | (simp [entryFrame, mkF, argsToLocals, Value.category]; done) | rfl
abbrev own_QCP1 (Z : State) (b : Addr) (kb : ClassId) (x0 x1 : Int32) (h0 : Heap) (n0 : Nat) : Option Value → Heap → List Loc → Prop := fun v h L => ((v = some (.int (1 : Int32)) ∧ ¬ x0 < 0) ∨ (∃ r : Int32, v = some (.int r) ∧ ¬ r = (1 : Int32) ∧ x0 < 0)) ∧ Fr n0 L ∧ h = h0
set_option maxRecDepth 65536 in
set_option maxHeartbeats 40000000 in
theorem own_rmCP1 (l : Launch) (Z : State) (a0 : Array Value) (hw : ∀ d ∈ tables_1, d.before a0 Z = true) (ws : List Jvm.Cond) (b : Addr) (kb : ClassId) (x0 x1 : Int32) (h0 : Heap) (n0 : Nat) (O : Old Z n0 h0) (Ab : Arv Z h0 b kb .byte (1 : Int32) [(.int x0)] (.int (0 : Int32))) :
    MetFree l own_y1 (head1 (Jvm.Cond.code own_y1 jdk_123_method_3_code 5 (some .int) :: ws) ({ frames := 0, cells := 0, slots := 0, locals := 0 } : Room)) (fun aa U => aa = #[(.ref b), (.int (0 : Int32)), (.int (1 : Int32))] ∧ Z.Warmed39 U.vm ∧ U.heap = h0) (fun _ _ _ _ _ => True) (fun _ U o U' => ∃ v L, o = .returned v ∧ (own_QCP1 Z b kb x0 x1 h0 n0) v U'.heap L ∧ FrameEnd U o U' L ({ frames := 0, cells := 0, slots := 0, locals := 0 } : Room).cells ({ frames := 0, cells := 0, slots := 0, locals := 0 } : Room).slots) := by
  refine MetFree.of_bodySF (plainFor_of_name own_pn0) hisR ?_
  intro p e s m args below meth c s₁ Bd hml0 hP hK
  obtain ⟨rfl, hZ, hh⟩ := hP
  have hx := Bd.exec
  have hby := Bd.bytes
  have hml : c.maxLocals = 5 := hml0
  have hown : s.vm.findClass "java/lang/StringCoding" = some m.cls := findClass_of_methodNamed Bd.named
  have hnm := (name_of_methodNamed Bd.named Bd.method).1
  have X0 : Stand p l e ({ frames := 0, cells := 0, slots := 0, locals := 0 } : Room) s m #[(.ref b), (.int (0 : Int32)), (.int (1 : Int32))] below meth c s₁ [] 0 0 := Stand.of_body Bd
  have e0 : s₁.heap = h0 := by rw [← hh, Bd.state]; rfl
  have N0 := Fr.nil n0
  refine Out.start (Q := own_QCP1 Z b kb x0 x1 h0 n0) (own_efCP1 m b (0 : Int32) (1 : Int32) ) ?_
  refine Out.via (g' := (mkF m 1 #[vR b, vI 0, vI 1, vU, vU] [(.int (0 : Int32))])) (fun _ k => XS.iloadN X0.here hx rfl (hb hby own_d0_0) rfl k) ?_
  refine Out.via (g' := (mkF m 2 #[vR b, vI 0, vI 1, vU, vU] [(.int (1 : Int32)), (.int (0 : Int32))])) (fun _ k => XS.iloadN X0.here hx rfl (hb hby own_d0_1) rfl k) ?_
  refine Out.via (g' := (mkF m 3 #[vR b, vI 0, vI 1, vU, vU] [(.int ((0 : Int32) + (1 : Int32)))])) (fun _ k => XS.iadd X0.here hx rfl (hb hby own_d0_2) rfl k) ?_
  refine Out.via (g' := (mkF m 4 #[vR b, vI 0, vI 1, .val (.int ((0 : Int32) + (1 : Int32))), vU] [])) (fun _ k => XS.istoreN X0.here hx rfl (hb hby own_d0_3) rfl (l' := #[.val (.ref b), .val (.int (0 : Int32)), .val (.int (1 : Int32)), .val (.int ((0 : Int32) + (1 : Int32))), .unset]) rfl k) ?_
  refine Out.via (g' := (mkF m 5 #[vR b, vI 0, vI 1, .val (.int ((0 : Int32) + (1 : Int32))), vU] [(.int (0 : Int32))])) (fun _ k => XS.iloadN X0.here hx rfl (hb hby own_d0_4) rfl k) ?_
  refine Out.via (g' := (mkF m 7 #[vR b, vI 0, vI 1, .val (.int ((0 : Int32) + (1 : Int32))), vI 0] [])) (fun _ k => XS.istore X0.here hx rfl (hb hby own_d0_5) rfl (l' := #[.val (.ref b), .val (.int (0 : Int32)), .val (.int (1 : Int32)), .val (.int ((0 : Int32) + (1 : Int32))), .val (.int (0 : Int32))]) rfl k) ?_
  refine Out.via (g' := (mkF m 9 #[vR b, vI 0, vI 1, .val (.int ((0 : Int32) + (1 : Int32))), vI 0] [(.int (0 : Int32))])) (fun _ k => XS.iload X0.here hx rfl (hb hby own_d0_7) rfl k) ?_
  refine Out.via (g' := (mkF m 10 #[vR b, vI 0, vI 1, .val (.int ((0 : Int32) + (1 : Int32))), vI 0] [(.int ((0 : Int32) + (1 : Int32))), (.int (0 : Int32))])) (fun _ k => XS.iloadN X0.here hx rfl (hb hby own_d0_9) rfl k) ?_
  refine Out.via (g' := (mkF m 13 #[vR b, vI 0, vI 1, .val (.int ((0 : Int32) + (1 : Int32))), vI 0] [])) (fun _ k => XS.icmpNo X0.here hx rfl (hb hby own_d0_10) rfl (tlt (by decide)).2.1 k) ?_
  refine Out.via (g' := (mkF m 14 #[vR b, vI 0, vI 1, .val (.int ((0 : Int32) + (1 : Int32))), vI 0] [(.ref b)])) (fun _ k => XS.aloadN X0.here hx rfl (hb hby own_d0_13) rfl rfl k) ?_
  refine Out.via (g' := (mkF m 16 #[vR b, vI 0, vI 1, .val (.int ((0 : Int32) + (1 : Int32))), vI 0] [(.int (0 : Int32)), (.ref b)])) (fun _ k => XS.iload X0.here hx rfl (hb hby own_d0_14) rfl k) ?_
  obtain ⟨cl_c0, Ar_c0, q_c0, S_c0, M_c0, H_c0, G_c0⟩ := id Ab
  have hin_c0 : ¬ ((0 : Int32) < 0 ∨ cl_c0.slots.size ≤ ((0 : Int32)).toNatClampNeg) := inb_of S_c0 ⟨by decide, by decide⟩
  refine Out.via (g' := (mkF m 17 #[vR b, vI 0, vI 1, .val (.int ((0 : Int32) + (1 : Int32))), vI 0] [(.int x0)])) (fun _ k => X0.baloadBytes hx (j := (0 : Int32)) (v := (.int x0)) (by rw [e0]; exact Ar_c0.1) (State.isArrayOf_alike hZ.alike Ar_c0.2.1) Ar_c0.2.2 hin_c0 (H_c0.at hin_c0 rfl) (g := (mkF m 16 #[vR b, vI 0, vI 1, .val (.int ((0 : Int32) + (1 : Int32))), vI 0] [(.int (0 : Int32)), (.ref b)])) rfl rfl (hb hby own_d0_16) _ k) ?_
  by_cases hz0 : x0 < (0 : Int32)
  · refine Out.via (g' := (mkF m 20 #[vR b, vI 0, vI 1, .val (.int ((0 : Int32) + (1 : Int32))), vI 0] [])) (fun _ k => XS.ifNo X0.here hx rfl (hb hby own_d0_17) rfl ((if0 _ _).trans (tlt hz0).2.1) k) ?_
    refine Out.via (g' := (mkF m 22 #[vR b, vI 0, vI 1, .val (.int ((0 : Int32) + (1 : Int32))), vI 0] [(.int (0 : Int32))])) (fun _ k => XS.iload X0.here hx rfl (hb hby own_d0_20) rfl k) ?_
    refine Out.via (g' := (mkF m 23 #[vR b, vI 0, vI 1, .val (.int ((0 : Int32) + (1 : Int32))), vI 0] [(.int (0 : Int32)), (.int (0 : Int32))])) (fun _ k => XS.iloadN X0.here hx rfl (hb hby own_d0_22) rfl k) ?_
    refine Out.via (g' := (mkF m 24 #[vR b, vI 0, vI 1, .val (.int ((0 : Int32) + (1 : Int32))), vI 0] [(.int ((0 : Int32) - (0 : Int32)))])) (fun _ k => XS.isub X0.here hx rfl (hb hby own_d0_23) rfl k) ?_
    exact Out.endN X0 (fun h => by rw [Bd.returns] at h; cases h) Bd.notSynchronized (by decide) (by decide) (by rw [e0]; exact ⟨Or.inr ⟨_, rfl, by decide, hz0⟩, N0, rfl⟩) (fun fs hr => own_retI X0 hx Bd.returns (hb hby own_d0_24) hr)
  · refine Out.via (g' := (mkF m 25 #[vR b, vI 0, vI 1, .val (.int ((0 : Int32) + (1 : Int32))), vI 0] [])) (fun _ k => XS.ifYes X0.here hx rfl (pc0 := 17) (pc' := 25) rfl (hb hby own_d0_17) rfl ((if0 _ _).trans (flt hz0).2.1) (by decide) (by decide) k) ?_
    refine Out.via (g' := (mkF m 28 #[vR b, vI 0, vI 1, .val (.int ((0 : Int32) + (1 : Int32))), .val (.int ((0 : Int32) + (1 : Int32)))] [])) (fun _ k => XS.iinc X0.here hx rfl (hb hby own_d0_25) rfl (l' := #[.val (.ref b), .val (.int (0 : Int32)), .val (.int (1 : Int32)), .val (.int ((0 : Int32) + (1 : Int32))), .val (.int ((0 : Int32) + (1 : Int32)))]) rfl k) ?_
    refine Out.via (g' := (mkF m 7 #[vR b, vI 0, vI 1, .val (.int ((0 : Int32) + (1 : Int32))), .val (.int ((0 : Int32) + (1 : Int32)))] [])) (fun _ k => XS.goto X0.here hx rfl (pc0 := 28) (pc' := 7) rfl (hb hby own_d0_28) (by decide) (by decide) k) ?_
    refine Out.via (g' := (mkF m 9 #[vR b, vI 0, vI 1, .val (.int ((0 : Int32) + (1 : Int32))), .val (.int ((0 : Int32) + (1 : Int32)))] [(.int ((0 : Int32) + (1 : Int32)))])) (fun _ k => XS.iload X0.here hx rfl (hb hby own_d0_7) rfl k) ?_
    refine Out.via (g' := (mkF m 10 #[vR b, vI 0, vI 1, .val (.int ((0 : Int32) + (1 : Int32))), .val (.int ((0 : Int32) + (1 : Int32)))] [(.int ((0 : Int32) + (1 : Int32))), (.int ((0 : Int32) + (1 : Int32)))])) (fun _ k => XS.iloadN X0.here hx rfl (hb hby own_d0_9) rfl k) ?_
    refine Out.via (g' := (mkF m 31 #[vR b, vI 0, vI 1, .val (.int ((0 : Int32) + (1 : Int32))), .val (.int ((0 : Int32) + (1 : Int32)))] [])) (fun _ k => XS.icmpYes X0.here hx rfl (pc0 := 10) (pc' := 31) rfl (hb hby own_d0_10) rfl (flt (by decide)).2.1 (by decide) (by decide) k) ?_
    refine Out.via (g' := (mkF m 32 #[vR b, vI 0, vI 1, .val (.int ((0 : Int32) + (1 : Int32))), .val (.int ((0 : Int32) + (1 : Int32)))] [(.int (1 : Int32))])) (fun _ k => XS.iloadN X0.here hx rfl (hb hby own_d0_31) rfl k) ?_
    exact Out.endN X0 (fun h => by rw [Bd.returns] at h; cases h) Bd.notSynchronized (by decide) (by decide) (by rw [e0]; exact ⟨Or.inl ⟨rfl, hz0⟩, N0, rfl⟩) (fun fs hr => own_retI X0 hx Bd.returns (hb hby own_d0_32) hr)
theorem own_d1_0 : decode jdk_123_method_2_code 0 = .ok (.aload_n 0, 1) := by decide +kernel
theorem own_d1_1 : decode jdk_123_method_2_code 1 = .ok (.iload_n 1, 1) := by decide +kernel
theorem own_d1_2 : decode jdk_123_method_2_code 2 = .ok (.iload_n 2, 1) := by decide +kernel
theorem own_d1_3 : decode jdk_123_method_2_code 3 = .ok (.invokestatic 7, 3) := by decide +kernel
theorem own_pd1 : parseMethodDescriptor "([BII)I" = some ⟨[(.array .byte), .int, .int], some .int⟩ := by decide +kernel
theorem own_d1_6 : decode jdk_123_method_2_code 6 = .ok (.iload_n 2, 1) := by decide +kernel
theorem own_d1_7 : decode jdk_123_method_2_code 7 = .ok (.if_icmp .eq 7, 3) := by decide +kernel
theorem own_d1_14 : decode jdk_123_method_2_code 14 = .ok (.iconst 0, 1) := by decide +kernel
theorem own_d1_15 : decode jdk_123_method_2_code 15 = .ok (.ireturn, 1) := by decide +kernel
theorem own_d1_10 : decode jdk_123_method_2_code 10 = .ok (.iconst 1, 1) := by decide +kernel
theorem own_d1_11 : decode jdk_123_method_2_code 11 = .ok (.goto 4, 3) := by decide +kernel
theorem own_efHN1 (m : MethodId) (x0 : Addr) (x1 : Int32) (x2 : Int32) : entryFrame m #[(.ref x0), (.int x1), (.int x2)] 3 = mkF m 0 #[.val (.ref x0), .val (.int x1), .val (.int x2)] [] := by first | (simp [entryFrame, mkF, argsToLocals, Value.category]; done) | rfl
abbrev own_QHN1 (Z : State) (b : Addr) (kb : ClassId) (x0 x1 : Int32) (h0 : Heap) (n0 : Nat) : Option Value → Heap → List Loc → Prop := fun v h L => ((v = some (.int (0 : Int32)) ∧ ¬ x0 < 0) ∨ (v = some (.int (1 : Int32)) ∧ x0 < 0)) ∧ Fr n0 L ∧ h = h0
set_option maxRecDepth 65536 in
set_option maxHeartbeats 40000000 in
theorem own_rmHN1 (l : Launch) (Z : State) (a0 : Array Value) (hw : ∀ d ∈ tables_1, d.before a0 Z = true) (ws : List Jvm.Cond) (b : Addr) (kb : ClassId) (x0 x1 : Int32) (h0 : Heap) (n0 : Nat) (O : Old Z n0 h0) (Ab : Arv Z h0 b kb .byte (1 : Int32) [(.int x0)] (.int (0 : Int32))) :
    MetFree l own_y2 (head1 (Jvm.Cond.code own_y2 jdk_123_method_2_code 3 (some .boolean) :: ws) ({ frames := 1, cells := 0, slots := 0, locals := 16 } : Room)) (fun aa U => aa = #[(.ref b), (.int (0 : Int32)), (.int (1 : Int32))] ∧ Z.Warmed39 U.vm ∧ U.heap = h0) (fun _ _ _ _ _ => True) (fun _ U o U' => ∃ v L, o = .returned v ∧ (own_QHN1 Z b kb x0 x1 h0 n0) v U'.heap L ∧ FrameEnd U o U' L ({ frames := 1, cells := 0, slots := 0, locals := 16 } : Room).cells ({ frames := 1, cells := 0, slots := 0, locals := 16 } : Room).slots) := by
  refine MetFree.of_bodySF (plainFor_of_name own_pn0) hisR ?_
  intro p e s m args below meth c s₁ Bd hml0 hP hK
  obtain ⟨rfl, hZ, hh⟩ := hP
  have hx := Bd.exec
  have hby := Bd.bytes
  have hml : c.maxLocals = 3 := hml0
  have hown : s.vm.findClass "java/lang/StringCoding" = some m.cls := findClass_of_methodNamed Bd.named
  have hnm := (name_of_methodNamed Bd.named Bd.method).1
  have X0 : Stand p l e ({ frames := 1, cells := 0, slots := 0, locals := 16 } : Room) s m #[(.ref b), (.int (0 : Int32)), (.int (1 : Int32))] below meth c s₁ [] 0 0 := Stand.of_body Bd
  have e0 : s₁.heap = h0 := by rw [← hh, Bd.state]; rfl
  have N0 := Fr.nil n0
  refine Out.start (Q := own_QHN1 Z b kb x0 x1 h0 n0) (own_efHN1 m b (0 : Int32) (1 : Int32) ) ?_
  refine Out.via (g' := (mkF m 1 #[vR b, vI 0, vI 1] [(.ref b)])) (fun _ k => XS.aloadN X0.here hx rfl (hb hby own_d1_0) rfl rfl k) ?_
  refine Out.via (g' := (mkF m 2 #[vR b, vI 0, vI 1] [(.int (0 : Int32)), (.ref b)])) (fun _ k => XS.iloadN X0.here hx rfl (hb hby own_d1_1) rfl k) ?_
  refine Out.via (g' := (mkF m 3 #[vR b, vI 0, vI 1] [(.int (1 : Int32)), (.int (0 : Int32)), (.ref b)])) (fun _ k => XS.iloadN X0.here hx rfl (hb hby own_d1_2) rfl k) ?_
  obtain ⟨_, _, ⟨T1, L1, kc1, ks1⟩, -, X1, ⟨Lc1, hQ1, l1, y1, z1⟩, st1⟩ := Jvm.LawKit.callS X0 hx (y := own_y1) hown (mvT hZ (W_ hw 84 rfl)) (mvT hZ (W_ hw 85 rfl)) (mvT hZ (W_ hw 82 rfl)) (mvT hZ (W_ hw 86 rfl)) (by decide) (backOf (W := 0) (own_rmCP1 l Z a0 hw [] b kb x0 x1 h0 n0 O Ab) hZ (W_ hw 86 rfl) (W_ hw 82 rfl) (by decide) (by decide)) (g := (mkF m 3 #[vR b, vI 0, vI 1] [(.int (1 : Int32)), (.int (0 : Int32)), (.ref b)])) rfl (by rw [hml]; rfl) (argsL := [(.ref b), (.int (0 : Int32)), (.int (1 : Int32))]) (rest := []) (lenOf own_pd1 rfl) rfl (by show 2 * 0 + _ ≤ _; exact Nat.le_of_eq rfl) (hb hby own_d1_3) (fun _ _ => ⟨rfl, e0, (by decide : 0 + 0 ≤ _), (by decide : 0 + 0 ≤ _)⟩)
  dsimp only [Pt.U, Pt.locs, Pt.cells, Pt.slots] at X1 l1 y1 z1 st1 hQ1
  subst l1 y1 z1
  obtain ⟨hc, Nq1, eq1⟩ := hQ1
  replace N0 := Fr.app N0 Nq1
  rcases hc with ⟨rfl, hp⟩ | ⟨r, rfl, hr, hp⟩
  · refine Out.via (g' := (mkF m 6 #[vR b, vI 0, vI 1] [(.int (1 : Int32))])) st1 ?_
    refine Out.via (g' := (mkF m 7 #[vR b, vI 0, vI 1] [(.int (1 : Int32)), (.int (1 : Int32))])) (fun _ k => XS.iloadN X1.here hx rfl (hb hby own_d1_6) rfl k) ?_
    refine Out.via (g' := (mkF m 14 #[vR b, vI 0, vI 1] [])) (fun _ k => XS.icmpYes X1.here hx rfl (pc0 := 7) (pc' := 14) rfl (hb hby own_d1_7) rfl (teq rfl).1 (by decide) (by decide) k) ?_
    refine Out.via (g' := (mkF m 15 #[vR b, vI 0, vI 1] [(.int (0 : Int32))])) (fun _ k => XS.iconst X1.here hx rfl (hb hby own_d1_14) k) ?_
    exact Out.endN X1 (fun h => by rw [Bd.returns] at h; cases h) Bd.notSynchronized (by decide) (by decide) (by rw [eq1]; exact ⟨Or.inl ⟨rfl, hp⟩, N0, rfl⟩) (fun fs hr => Jvm.RoadKit.retN X1 hx (t := .boolean) Bd.returns (by simp) (hb hby own_d1_15) hr)
  · refine Out.via (g' := (mkF m 6 #[vR b, vI 0, vI 1] [(.int r)])) st1 ?_
    refine Out.via (g' := (mkF m 7 #[vR b, vI 0, vI 1] [(.int (1 : Int32)), (.int r)])) (fun _ k => XS.iloadN X1.here hx rfl (hb hby own_d1_6) rfl k) ?_
    refine Out.via (g' := (mkF m 10 #[vR b, vI 0, vI 1] [])) (fun _ k => XS.icmpNo X1.here hx rfl (hb hby own_d1_7) rfl (feq hr).1 k) ?_
    refine Out.via (g' := (mkF m 11 #[vR b, vI 0, vI 1] [(.int (1 : Int32))])) (fun _ k => XS.iconst X1.here hx rfl (hb hby own_d1_10) k) ?_
    refine Out.via (g' := (mkF m 15 #[vR b, vI 0, vI 1] [(.int (1 : Int32))])) (fun _ k => XS.goto X1.here hx rfl (pc0 := 11) (pc' := 15) rfl (hb hby own_d1_11) (by decide) (by decide) k) ?_
    exact Out.endN X1 (fun h => by rw [Bd.returns] at h; cases h) Bd.notSynchronized (by decide) (by decide) (by rw [eq1]; exact ⟨Or.inr ⟨rfl, hp⟩, N0, rfl⟩) (fun fs hr => Jvm.RoadKit.retN X1 hx (t := .boolean) Bd.returns (by simp) (hb hby own_d1_15) hr)
theorem own_efCP2 (m : MethodId) (x0 : Addr) (x1 : Int32) (x2 : Int32) : entryFrame m #[(.ref x0), (.int x1), (.int x2)] 5 = mkF m 0 #[.val (.ref x0), .val (.int x1), .val (.int x2), .unset, .unset] [] := by first | (simp [entryFrame, mkF, argsToLocals, Value.category]; done) | rfl
abbrev own_QCP2 (Z : State) (b : Addr) (kb : ClassId) (x0 x1 : Int32) (h0 : Heap) (n0 : Nat) : Option Value → Heap → List Loc → Prop := fun v h L => ((v = some (.int (2 : Int32)) ∧ (¬ x0 < 0 ∧ ¬ x1 < 0)) ∨ (∃ r : Int32, v = some (.int r) ∧ ¬ r = (2 : Int32) ∧ (x0 < 0 ∨ x1 < 0))) ∧ Fr n0 L ∧ h = h0
set_option maxRecDepth 65536 in
set_option maxHeartbeats 40000000 in
theorem own_rmCP2 (l : Launch) (Z : State) (a0 : Array Value) (hw : ∀ d ∈ tables_1, d.before a0 Z = true) (ws : List Jvm.Cond) (b : Addr) (kb : ClassId) (x0 x1 : Int32) (h0 : Heap) (n0 : Nat) (O : Old Z n0 h0) (Ab : Arv Z h0 b kb .byte (2 : Int32) [(.int x0), (.int x1)] (.int (0 : Int32))) :
    MetFree l own_y1 (head1 (Jvm.Cond.code own_y1 jdk_123_method_3_code 5 (some .int) :: ws) ({ frames := 0, cells := 0, slots := 0, locals := 0 } : Room)) (fun aa U => aa = #[(.ref b), (.int (0 : Int32)), (.int (2 : Int32))] ∧ Z.Warmed39 U.vm ∧ U.heap = h0) (fun _ _ _ _ _ => True) (fun _ U o U' => ∃ v L, o = .returned v ∧ (own_QCP2 Z b kb x0 x1 h0 n0) v U'.heap L ∧ FrameEnd U o U' L ({ frames := 0, cells := 0, slots := 0, locals := 0 } : Room).cells ({ frames := 0, cells := 0, slots := 0, locals := 0 } : Room).slots) := by
  refine MetFree.of_bodySF (plainFor_of_name own_pn0) hisR ?_
  intro p e s m args below meth c s₁ Bd hml0 hP hK
  obtain ⟨rfl, hZ, hh⟩ := hP
  have hx := Bd.exec
  have hby := Bd.bytes
  have hml : c.maxLocals = 5 := hml0
  have hown : s.vm.findClass "java/lang/StringCoding" = some m.cls := findClass_of_methodNamed Bd.named
  have hnm := (name_of_methodNamed Bd.named Bd.method).1
  have X0 : Stand p l e ({ frames := 0, cells := 0, slots := 0, locals := 0 } : Room) s m #[(.ref b), (.int (0 : Int32)), (.int (2 : Int32))] below meth c s₁ [] 0 0 := Stand.of_body Bd
  have e0 : s₁.heap = h0 := by rw [← hh, Bd.state]; rfl
  have N0 := Fr.nil n0
  refine Out.start (Q := own_QCP2 Z b kb x0 x1 h0 n0) (own_efCP2 m b (0 : Int32) (2 : Int32) ) ?_
  refine Out.via (g' := (mkF m 1 #[vR b, vI 0, vI 2, vU, vU] [(.int (0 : Int32))])) (fun _ k => XS.iloadN X0.here hx rfl (hb hby own_d0_0) rfl k) ?_
  refine Out.via (g' := (mkF m 2 #[vR b, vI 0, vI 2, vU, vU] [(.int (2 : Int32)), (.int (0 : Int32))])) (fun _ k => XS.iloadN X0.here hx rfl (hb hby own_d0_1) rfl k) ?_
  refine Out.via (g' := (mkF m 3 #[vR b, vI 0, vI 2, vU, vU] [(.int ((0 : Int32) + (2 : Int32)))])) (fun _ k => XS.iadd X0.here hx rfl (hb hby own_d0_2) rfl k) ?_
  refine Out.via (g' := (mkF m 4 #[vR b, vI 0, vI 2, .val (.int ((0 : Int32) + (2 : Int32))), vU] [])) (fun _ k => XS.istoreN X0.here hx rfl (hb hby own_d0_3) rfl (l' := #[.val (.ref b), .val (.int (0 : Int32)), .val (.int (2 : Int32)), .val (.int ((0 : Int32) + (2 : Int32))), .unset]) rfl k) ?_
  refine Out.via (g' := (mkF m 5 #[vR b, vI 0, vI 2, .val (.int ((0 : Int32) + (2 : Int32))), vU] [(.int (0 : Int32))])) (fun _ k => XS.iloadN X0.here hx rfl (hb hby own_d0_4) rfl k) ?_
  refine Out.via (g' := (mkF m 7 #[vR b, vI 0, vI 2, .val (.int ((0 : Int32) + (2 : Int32))), vI 0] [])) (fun _ k => XS.istore X0.here hx rfl (hb hby own_d0_5) rfl (l' := #[.val (.ref b), .val (.int (0 : Int32)), .val (.int (2 : Int32)), .val (.int ((0 : Int32) + (2 : Int32))), .val (.int (0 : Int32))]) rfl k) ?_
  refine Out.via (g' := (mkF m 9 #[vR b, vI 0, vI 2, .val (.int ((0 : Int32) + (2 : Int32))), vI 0] [(.int (0 : Int32))])) (fun _ k => XS.iload X0.here hx rfl (hb hby own_d0_7) rfl k) ?_
  refine Out.via (g' := (mkF m 10 #[vR b, vI 0, vI 2, .val (.int ((0 : Int32) + (2 : Int32))), vI 0] [(.int ((0 : Int32) + (2 : Int32))), (.int (0 : Int32))])) (fun _ k => XS.iloadN X0.here hx rfl (hb hby own_d0_9) rfl k) ?_
  refine Out.via (g' := (mkF m 13 #[vR b, vI 0, vI 2, .val (.int ((0 : Int32) + (2 : Int32))), vI 0] [])) (fun _ k => XS.icmpNo X0.here hx rfl (hb hby own_d0_10) rfl (tlt (by decide)).2.1 k) ?_
  refine Out.via (g' := (mkF m 14 #[vR b, vI 0, vI 2, .val (.int ((0 : Int32) + (2 : Int32))), vI 0] [(.ref b)])) (fun _ k => XS.aloadN X0.here hx rfl (hb hby own_d0_13) rfl rfl k) ?_
  refine Out.via (g' := (mkF m 16 #[vR b, vI 0, vI 2, .val (.int ((0 : Int32) + (2 : Int32))), vI 0] [(.int (0 : Int32)), (.ref b)])) (fun _ k => XS.iload X0.here hx rfl (hb hby own_d0_14) rfl k) ?_
  obtain ⟨cl_c0, Ar_c0, q_c0, S_c0, M_c0, H_c0, G_c0⟩ := id Ab
  have hin_c0 : ¬ ((0 : Int32) < 0 ∨ cl_c0.slots.size ≤ ((0 : Int32)).toNatClampNeg) := inb_of S_c0 ⟨by decide, by decide⟩
  refine Out.via (g' := (mkF m 17 #[vR b, vI 0, vI 2, .val (.int ((0 : Int32) + (2 : Int32))), vI 0] [(.int x0)])) (fun _ k => X0.baloadBytes hx (j := (0 : Int32)) (v := (.int x0)) (by rw [e0]; exact Ar_c0.1) (State.isArrayOf_alike hZ.alike Ar_c0.2.1) Ar_c0.2.2 hin_c0 (H_c0.at hin_c0 rfl) (g := (mkF m 16 #[vR b, vI 0, vI 2, .val (.int ((0 : Int32) + (2 : Int32))), vI 0] [(.int (0 : Int32)), (.ref b)])) rfl rfl (hb hby own_d0_16) _ k) ?_
  by_cases hz0 : x0 < (0 : Int32)
  · refine Out.via (g' := (mkF m 20 #[vR b, vI 0, vI 2, .val (.int ((0 : Int32) + (2 : Int32))), vI 0] [])) (fun _ k => XS.ifNo X0.here hx rfl (hb hby own_d0_17) rfl ((if0 _ _).trans (tlt hz0).2.1) k) ?_
    refine Out.via (g' := (mkF m 22 #[vR b, vI 0, vI 2, .val (.int ((0 : Int32) + (2 : Int32))), vI 0] [(.int (0 : Int32))])) (fun _ k => XS.iload X0.here hx rfl (hb hby own_d0_20) rfl k) ?_
    refine Out.via (g' := (mkF m 23 #[vR b, vI 0, vI 2, .val (.int ((0 : Int32) + (2 : Int32))), vI 0] [(.int (0 : Int32)), (.int (0 : Int32))])) (fun _ k => XS.iloadN X0.here hx rfl (hb hby own_d0_22) rfl k) ?_
    refine Out.via (g' := (mkF m 24 #[vR b, vI 0, vI 2, .val (.int ((0 : Int32) + (2 : Int32))), vI 0] [(.int ((0 : Int32) - (0 : Int32)))])) (fun _ k => XS.isub X0.here hx rfl (hb hby own_d0_23) rfl k) ?_
    exact Out.endN X0 (fun h => by rw [Bd.returns] at h; cases h) Bd.notSynchronized (by decide) (by decide) (by rw [e0]; exact ⟨Or.inr ⟨_, rfl, by decide, Or.inl hz0⟩, N0, rfl⟩) (fun fs hr => own_retI X0 hx Bd.returns (hb hby own_d0_24) hr)
  · refine Out.via (g' := (mkF m 25 #[vR b, vI 0, vI 2, .val (.int ((0 : Int32) + (2 : Int32))), vI 0] [])) (fun _ k => XS.ifYes X0.here hx rfl (pc0 := 17) (pc' := 25) rfl (hb hby own_d0_17) rfl ((if0 _ _).trans (flt hz0).2.1) (by decide) (by decide) k) ?_
    refine Out.via (g' := (mkF m 28 #[vR b, vI 0, vI 2, .val (.int ((0 : Int32) + (2 : Int32))), .val (.int ((0 : Int32) + (1 : Int32)))] [])) (fun _ k => XS.iinc X0.here hx rfl (hb hby own_d0_25) rfl (l' := #[.val (.ref b), .val (.int (0 : Int32)), .val (.int (2 : Int32)), .val (.int ((0 : Int32) + (2 : Int32))), .val (.int ((0 : Int32) + (1 : Int32)))]) rfl k) ?_
    refine Out.via (g' := (mkF m 7 #[vR b, vI 0, vI 2, .val (.int ((0 : Int32) + (2 : Int32))), .val (.int ((0 : Int32) + (1 : Int32)))] [])) (fun _ k => XS.goto X0.here hx rfl (pc0 := 28) (pc' := 7) rfl (hb hby own_d0_28) (by decide) (by decide) k) ?_
    refine Out.via (g' := (mkF m 9 #[vR b, vI 0, vI 2, .val (.int ((0 : Int32) + (2 : Int32))), .val (.int ((0 : Int32) + (1 : Int32)))] [(.int ((0 : Int32) + (1 : Int32)))])) (fun _ k => XS.iload X0.here hx rfl (hb hby own_d0_7) rfl k) ?_
    refine Out.via (g' := (mkF m 10 #[vR b, vI 0, vI 2, .val (.int ((0 : Int32) + (2 : Int32))), .val (.int ((0 : Int32) + (1 : Int32)))] [(.int ((0 : Int32) + (2 : Int32))), (.int ((0 : Int32) + (1 : Int32)))])) (fun _ k => XS.iloadN X0.here hx rfl (hb hby own_d0_9) rfl k) ?_
    refine Out.via (g' := (mkF m 13 #[vR b, vI 0, vI 2, .val (.int ((0 : Int32) + (2 : Int32))), .val (.int ((0 : Int32) + (1 : Int32)))] [])) (fun _ k => XS.icmpNo X0.here hx rfl (hb hby own_d0_10) rfl (tlt (by decide)).2.1 k) ?_
    refine Out.via (g' := (mkF m 14 #[vR b, vI 0, vI 2, .val (.int ((0 : Int32) + (2 : Int32))), .val (.int ((0 : Int32) + (1 : Int32)))] [(.ref b)])) (fun _ k => XS.aloadN X0.here hx rfl (hb hby own_d0_13) rfl rfl k) ?_
    refine Out.via (g' := (mkF m 16 #[vR b, vI 0, vI 2, .val (.int ((0 : Int32) + (2 : Int32))), .val (.int ((0 : Int32) + (1 : Int32)))] [(.int ((0 : Int32) + (1 : Int32))), (.ref b)])) (fun _ k => XS.iload X0.here hx rfl (hb hby own_d0_14) rfl k) ?_
    obtain ⟨cl_c1, Ar_c1, q_c1, S_c1, M_c1, H_c1, G_c1⟩ := id Ab
    have hin_c1 : ¬ (((0 : Int32) + (1 : Int32)) < 0 ∨ cl_c1.slots.size ≤ (((0 : Int32) + (1 : Int32))).toNatClampNeg) := inb_of S_c1 ⟨by decide, by decide⟩
    refine Out.via (g' := (mkF m 17 #[vR b, vI 0, vI 2, .val (.int ((0 : Int32) + (2 : Int32))), .val (.int ((0 : Int32) + (1 : Int32)))] [(.int x1)])) (fun _ k => X0.baloadBytes hx (j := ((0 : Int32) + (1 : Int32))) (v := (.int x1)) (by rw [e0]; exact Ar_c1.1) (State.isArrayOf_alike hZ.alike Ar_c1.2.1) Ar_c1.2.2 hin_c1 (H_c1.at hin_c1 rfl) (g := (mkF m 16 #[vR b, vI 0, vI 2, .val (.int ((0 : Int32) + (2 : Int32))), .val (.int ((0 : Int32) + (1 : Int32)))] [(.int ((0 : Int32) + (1 : Int32))), (.ref b)])) rfl rfl (hb hby own_d0_16) _ k) ?_
    by_cases hz1 : x1 < (0 : Int32)
    · refine Out.via (g' := (mkF m 20 #[vR b, vI 0, vI 2, .val (.int ((0 : Int32) + (2 : Int32))), .val (.int ((0 : Int32) + (1 : Int32)))] [])) (fun _ k => XS.ifNo X0.here hx rfl (hb hby own_d0_17) rfl ((if0 _ _).trans (tlt hz1).2.1) k) ?_
      refine Out.via (g' := (mkF m 22 #[vR b, vI 0, vI 2, .val (.int ((0 : Int32) + (2 : Int32))), .val (.int ((0 : Int32) + (1 : Int32)))] [(.int ((0 : Int32) + (1 : Int32)))])) (fun _ k => XS.iload X0.here hx rfl (hb hby own_d0_20) rfl k) ?_
      refine Out.via (g' := (mkF m 23 #[vR b, vI 0, vI 2, .val (.int ((0 : Int32) + (2 : Int32))), .val (.int ((0 : Int32) + (1 : Int32)))] [(.int (0 : Int32)), (.int ((0 : Int32) + (1 : Int32)))])) (fun _ k => XS.iloadN X0.here hx rfl (hb hby own_d0_22) rfl k) ?_
      refine Out.via (g' := (mkF m 24 #[vR b, vI 0, vI 2, .val (.int ((0 : Int32) + (2 : Int32))), .val (.int ((0 : Int32) + (1 : Int32)))] [(.int (((0 : Int32) + (1 : Int32)) - (0 : Int32)))])) (fun _ k => XS.isub X0.here hx rfl (hb hby own_d0_23) rfl k) ?_
      exact Out.endN X0 (fun h => by rw [Bd.returns] at h; cases h) Bd.notSynchronized (by decide) (by decide) (by rw [e0]; exact ⟨Or.inr ⟨_, rfl, by decide, Or.inr hz1⟩, N0, rfl⟩) (fun fs hr => own_retI X0 hx Bd.returns (hb hby own_d0_24) hr)
    · refine Out.via (g' := (mkF m 25 #[vR b, vI 0, vI 2, .val (.int ((0 : Int32) + (2 : Int32))), .val (.int ((0 : Int32) + (1 : Int32)))] [])) (fun _ k => XS.ifYes X0.here hx rfl (pc0 := 17) (pc' := 25) rfl (hb hby own_d0_17) rfl ((if0 _ _).trans (flt hz1).2.1) (by decide) (by decide) k) ?_
      refine Out.via (g' := (mkF m 28 #[vR b, vI 0, vI 2, .val (.int ((0 : Int32) + (2 : Int32))), .val (.int (((0 : Int32) + (1 : Int32)) + (1 : Int32)))] [])) (fun _ k => XS.iinc X0.here hx rfl (hb hby own_d0_25) rfl (l' := #[.val (.ref b), .val (.int (0 : Int32)), .val (.int (2 : Int32)), .val (.int ((0 : Int32) + (2 : Int32))), .val (.int (((0 : Int32) + (1 : Int32)) + (1 : Int32)))]) rfl k) ?_
      refine Out.via (g' := (mkF m 7 #[vR b, vI 0, vI 2, .val (.int ((0 : Int32) + (2 : Int32))), .val (.int (((0 : Int32) + (1 : Int32)) + (1 : Int32)))] [])) (fun _ k => XS.goto X0.here hx rfl (pc0 := 28) (pc' := 7) rfl (hb hby own_d0_28) (by decide) (by decide) k) ?_
      refine Out.via (g' := (mkF m 9 #[vR b, vI 0, vI 2, .val (.int ((0 : Int32) + (2 : Int32))), .val (.int (((0 : Int32) + (1 : Int32)) + (1 : Int32)))] [(.int (((0 : Int32) + (1 : Int32)) + (1 : Int32)))])) (fun _ k => XS.iload X0.here hx rfl (hb hby own_d0_7) rfl k) ?_
      refine Out.via (g' := (mkF m 10 #[vR b, vI 0, vI 2, .val (.int ((0 : Int32) + (2 : Int32))), .val (.int (((0 : Int32) + (1 : Int32)) + (1 : Int32)))] [(.int ((0 : Int32) + (2 : Int32))), (.int (((0 : Int32) + (1 : Int32)) + (1 : Int32)))])) (fun _ k => XS.iloadN X0.here hx rfl (hb hby own_d0_9) rfl k) ?_
      refine Out.via (g' := (mkF m 31 #[vR b, vI 0, vI 2, .val (.int ((0 : Int32) + (2 : Int32))), .val (.int (((0 : Int32) + (1 : Int32)) + (1 : Int32)))] [])) (fun _ k => XS.icmpYes X0.here hx rfl (pc0 := 10) (pc' := 31) rfl (hb hby own_d0_10) rfl (flt (by decide)).2.1 (by decide) (by decide) k) ?_
      refine Out.via (g' := (mkF m 32 #[vR b, vI 0, vI 2, .val (.int ((0 : Int32) + (2 : Int32))), .val (.int (((0 : Int32) + (1 : Int32)) + (1 : Int32)))] [(.int (2 : Int32))])) (fun _ k => XS.iloadN X0.here hx rfl (hb hby own_d0_31) rfl k) ?_
      exact Out.endN X0 (fun h => by rw [Bd.returns] at h; cases h) Bd.notSynchronized (by decide) (by decide) (by rw [e0]; exact ⟨Or.inl ⟨rfl, ⟨hz0, hz1⟩⟩, N0, rfl⟩) (fun fs hr => own_retI X0 hx Bd.returns (hb hby own_d0_32) hr)
theorem own_efHN2 (m : MethodId) (x0 : Addr) (x1 : Int32) (x2 : Int32) : entryFrame m #[(.ref x0), (.int x1), (.int x2)] 3 = mkF m 0 #[.val (.ref x0), .val (.int x1), .val (.int x2)] [] := by first | (simp [entryFrame, mkF, argsToLocals, Value.category]; done) | rfl
abbrev own_QHN2 (Z : State) (b : Addr) (kb : ClassId) (x0 x1 : Int32) (h0 : Heap) (n0 : Nat) : Option Value → Heap → List Loc → Prop := fun v h L => ((v = some (.int (0 : Int32)) ∧ (¬ x0 < 0 ∧ ¬ x1 < 0)) ∨ (v = some (.int (1 : Int32)) ∧ (x0 < 0 ∨ x1 < 0))) ∧ Fr n0 L ∧ h = h0
set_option maxRecDepth 65536 in
set_option maxHeartbeats 40000000 in
theorem own_rmHN2 (l : Launch) (Z : State) (a0 : Array Value) (hw : ∀ d ∈ tables_1, d.before a0 Z = true) (ws : List Jvm.Cond) (b : Addr) (kb : ClassId) (x0 x1 : Int32) (h0 : Heap) (n0 : Nat) (O : Old Z n0 h0) (Ab : Arv Z h0 b kb .byte (2 : Int32) [(.int x0), (.int x1)] (.int (0 : Int32))) :
    MetFree l own_y2 (head1 (Jvm.Cond.code own_y2 jdk_123_method_2_code 3 (some .boolean) :: ws) ({ frames := 1, cells := 0, slots := 0, locals := 16 } : Room)) (fun aa U => aa = #[(.ref b), (.int (0 : Int32)), (.int (2 : Int32))] ∧ Z.Warmed39 U.vm ∧ U.heap = h0) (fun _ _ _ _ _ => True) (fun _ U o U' => ∃ v L, o = .returned v ∧ (own_QHN2 Z b kb x0 x1 h0 n0) v U'.heap L ∧ FrameEnd U o U' L ({ frames := 1, cells := 0, slots := 0, locals := 16 } : Room).cells ({ frames := 1, cells := 0, slots := 0, locals := 16 } : Room).slots) := by
  refine MetFree.of_bodySF (plainFor_of_name own_pn0) hisR ?_
  intro p e s m args below meth c s₁ Bd hml0 hP hK
  obtain ⟨rfl, hZ, hh⟩ := hP
  have hx := Bd.exec
  have hby := Bd.bytes
  have hml : c.maxLocals = 3 := hml0
  have hown : s.vm.findClass "java/lang/StringCoding" = some m.cls := findClass_of_methodNamed Bd.named
  have hnm := (name_of_methodNamed Bd.named Bd.method).1
  have X0 : Stand p l e ({ frames := 1, cells := 0, slots := 0, locals := 16 } : Room) s m #[(.ref b), (.int (0 : Int32)), (.int (2 : Int32))] below meth c s₁ [] 0 0 := Stand.of_body Bd
  have e0 : s₁.heap = h0 := by rw [← hh, Bd.state]; rfl
  have N0 := Fr.nil n0
  refine Out.start (Q := own_QHN2 Z b kb x0 x1 h0 n0) (own_efHN2 m b (0 : Int32) (2 : Int32) ) ?_
  refine Out.via (g' := (mkF m 1 #[vR b, vI 0, vI 2] [(.ref b)])) (fun _ k => XS.aloadN X0.here hx rfl (hb hby own_d1_0) rfl rfl k) ?_
  refine Out.via (g' := (mkF m 2 #[vR b, vI 0, vI 2] [(.int (0 : Int32)), (.ref b)])) (fun _ k => XS.iloadN X0.here hx rfl (hb hby own_d1_1) rfl k) ?_
  refine Out.via (g' := (mkF m 3 #[vR b, vI 0, vI 2] [(.int (2 : Int32)), (.int (0 : Int32)), (.ref b)])) (fun _ k => XS.iloadN X0.here hx rfl (hb hby own_d1_2) rfl k) ?_
  obtain ⟨_, _, ⟨T1, L1, kc1, ks1⟩, -, X1, ⟨Lc1, hQ1, l1, y1, z1⟩, st1⟩ := Jvm.LawKit.callS X0 hx (y := own_y1) hown (mvT hZ (W_ hw 84 rfl)) (mvT hZ (W_ hw 85 rfl)) (mvT hZ (W_ hw 82 rfl)) (mvT hZ (W_ hw 86 rfl)) (by decide) (backOf (W := 0) (own_rmCP2 l Z a0 hw [] b kb x0 x1 h0 n0 O Ab) hZ (W_ hw 86 rfl) (W_ hw 82 rfl) (by decide) (by decide)) (g := (mkF m 3 #[vR b, vI 0, vI 2] [(.int (2 : Int32)), (.int (0 : Int32)), (.ref b)])) rfl (by rw [hml]; rfl) (argsL := [(.ref b), (.int (0 : Int32)), (.int (2 : Int32))]) (rest := []) (lenOf own_pd1 rfl) rfl (by show 2 * 0 + _ ≤ _; exact Nat.le_of_eq rfl) (hb hby own_d1_3) (fun _ _ => ⟨rfl, e0, (by decide : 0 + 0 ≤ _), (by decide : 0 + 0 ≤ _)⟩)
  dsimp only [Pt.U, Pt.locs, Pt.cells, Pt.slots] at X1 l1 y1 z1 st1 hQ1
  subst l1 y1 z1
  obtain ⟨hc, Nq1, eq1⟩ := hQ1
  replace N0 := Fr.app N0 Nq1
  rcases hc with ⟨rfl, hp⟩ | ⟨r, rfl, hr, hp⟩
  · refine Out.via (g' := (mkF m 6 #[vR b, vI 0, vI 2] [(.int (2 : Int32))])) st1 ?_
    refine Out.via (g' := (mkF m 7 #[vR b, vI 0, vI 2] [(.int (2 : Int32)), (.int (2 : Int32))])) (fun _ k => XS.iloadN X1.here hx rfl (hb hby own_d1_6) rfl k) ?_
    refine Out.via (g' := (mkF m 14 #[vR b, vI 0, vI 2] [])) (fun _ k => XS.icmpYes X1.here hx rfl (pc0 := 7) (pc' := 14) rfl (hb hby own_d1_7) rfl (teq rfl).1 (by decide) (by decide) k) ?_
    refine Out.via (g' := (mkF m 15 #[vR b, vI 0, vI 2] [(.int (0 : Int32))])) (fun _ k => XS.iconst X1.here hx rfl (hb hby own_d1_14) k) ?_
    exact Out.endN X1 (fun h => by rw [Bd.returns] at h; cases h) Bd.notSynchronized (by decide) (by decide) (by rw [eq1]; exact ⟨Or.inl ⟨rfl, hp⟩, N0, rfl⟩) (fun fs hr => Jvm.RoadKit.retN X1 hx (t := .boolean) Bd.returns (by simp) (hb hby own_d1_15) hr)
  · refine Out.via (g' := (mkF m 6 #[vR b, vI 0, vI 2] [(.int r)])) st1 ?_
    refine Out.via (g' := (mkF m 7 #[vR b, vI 0, vI 2] [(.int (2 : Int32)), (.int r)])) (fun _ k => XS.iloadN X1.here hx rfl (hb hby own_d1_6) rfl k) ?_
    refine Out.via (g' := (mkF m 10 #[vR b, vI 0, vI 2] [])) (fun _ k => XS.icmpNo X1.here hx rfl (hb hby own_d1_7) rfl (feq hr).1 k) ?_
    refine Out.via (g' := (mkF m 11 #[vR b, vI 0, vI 2] [(.int (1 : Int32))])) (fun _ k => XS.iconst X1.here hx rfl (hb hby own_d1_10) k) ?_
    refine Out.via (g' := (mkF m 15 #[vR b, vI 0, vI 2] [(.int (1 : Int32))])) (fun _ k => XS.goto X1.here hx rfl (pc0 := 11) (pc' := 15) rfl (hb hby own_d1_11) (by decide) (by decide) k) ?_
    exact Out.endN X1 (fun h => by rw [Bd.returns] at h; cases h) Bd.notSynchronized (by decide) (by decide) (by rw [eq1]; exact ⟨Or.inr ⟨rfl, hp⟩, N0, rfl⟩) (fun fs hr => Jvm.RoadKit.retN X1 hx (t := .boolean) Bd.returns (by simp) (hb hby own_d1_15) hr)
theorem own_pn2 : plainName "java/lang/StringUTF16" = true := by first | (simp [plainName, overriddenIn]; done) | decide +kernel
theorem own_d2_0 : decode jdk_52_method_3_code 0 = .ok (.iload_n 0, 1) := by decide +kernel
theorem own_d2_1 : decode jdk_52_method_3_code 1 = .ok (.ifCond .ge 11, 3) := by decide +kernel
theorem own_d2_12 : decode jdk_52_method_3_code 12 = .ok (.iload_n 0, 1) := by decide +kernel
theorem own_d2_13 : decode jdk_52_method_3_code 13 = .ok (.ldc 20, 2) := by decide +kernel
theorem own_d2_15 : decode jdk_52_method_3_code 15 = .ok (.if_icmp .lt 40, 3) := by decide +kernel
theorem own_d2_55 : decode jdk_52_method_3_code 55 = .ok (.iload_n 0, 1) := by decide +kernel
theorem own_d2_56 : decode jdk_52_method_3_code 56 = .ok (.iconst 1, 1) := by decide +kernel
theorem own_d2_57 : decode jdk_52_method_3_code 57 = .ok (.ishl, 1) := by decide +kernel
theorem own_d2_58 : decode jdk_52_method_3_code 58 = .ok (.ireturn, 1) := by decide +kernel
theorem own_efNL1 (m : MethodId) (x0 : Int32) : entryFrame m #[(.int x0)] 1 = mkF m 0 #[.val (.int x0)] [] := by first | (simp [entryFrame, mkF, argsToLocals, Value.category]; done) | rfl
abbrev own_QNL1 (Z : State)  (h0 : Heap) (n0 : Nat) : Option Value → Heap → List Loc → Prop := fun v h L => v = some (.int (2 : Int32)) ∧ Fr n0 L ∧ h = h0
set_option maxRecDepth 65536 in
set_option maxHeartbeats 40000000 in
theorem own_rmNL1 (l : Launch) (Z : State) (a0 : Array Value) (hw : ∀ d ∈ tables_1, d.before a0 Z = true) (ws : List Jvm.Cond)  (h0 : Heap) (n0 : Nat) (O : Old Z n0 h0) :
    MetFree l own_y3 (head1 (Jvm.Cond.code own_y3 jdk_52_method_3_code 1 (some .int) :: ws) ({ frames := 0, cells := 0, slots := 0, locals := 0 } : Room)) (fun aa U => aa = #[(.int (1 : Int32))] ∧ Z.Warmed39 U.vm ∧ U.heap = h0) (fun _ _ _ _ _ => True) (fun _ U o U' => ∃ v L, o = .returned v ∧ (own_QNL1 Z  h0 n0) v U'.heap L ∧ FrameEnd U o U' L ({ frames := 0, cells := 0, slots := 0, locals := 0 } : Room).cells ({ frames := 0, cells := 0, slots := 0, locals := 0 } : Room).slots) := by
  refine MetFree.of_bodySF (plainFor_of_name own_pn2) hisR ?_
  intro p e s m args below meth c s₁ Bd hml0 hP hK
  obtain ⟨rfl, hZ, hh⟩ := hP
  have hx := Bd.exec
  have hby := Bd.bytes
  have hml : c.maxLocals = 1 := hml0
  have hown : s.vm.findClass "java/lang/StringUTF16" = some m.cls := findClass_of_methodNamed Bd.named
  have hnm := (name_of_methodNamed Bd.named Bd.method).1
  have X0 : Stand p l e ({ frames := 0, cells := 0, slots := 0, locals := 0 } : Room) s m #[(.int (1 : Int32))] below meth c s₁ [] 0 0 := Stand.of_body Bd
  have e0 : s₁.heap = h0 := by rw [← hh, Bd.state]; rfl
  have N0 := Fr.nil n0
  refine Out.start (Q := own_QNL1 Z  h0 n0) (own_efNL1 m (1 : Int32) ) ?_
  refine Out.via (g' := (mkF m 1 #[vI 1] [(.int (1 : Int32))])) (fun _ k => XS.iloadN X0.here hx rfl (hb hby own_d2_0) rfl k) ?_
  refine Out.via (g' := (mkF m 12 #[vI 1] [])) (fun _ k => XS.ifYes X0.here hx rfl (pc0 := 1) (pc' := 12) rfl (hb hby own_d2_1) rfl ((if0 _ _).trans (flt (by decide)).2.1) (by decide) (by decide) k) ?_
  refine Out.via (g' := (mkF m 13 #[vI 1] [(.int (1 : Int32))])) (fun _ k => XS.iloadN X0.here hx rfl (hb hby own_d2_12) rfl k) ?_
  refine Out.via (g' := (mkF m 15 #[vI 1] [(.int (1073741823 : Int32)), (.int (1 : Int32))])) (fun _ k => X0.ldcInt hx hown (mvT hZ (W_ hw 166 rfl)) (g := (mkF m 13 #[vI 1] [(.int (1 : Int32))])) rfl (hb hby own_d2_13) _ k) ?_
  refine Out.via (g' := (mkF m 55 #[vI 1] [])) (fun _ k => XS.icmpYes X0.here hx rfl (pc0 := 15) (pc' := 55) rfl (hb hby own_d2_15) rfl (tlt (by decide)).1 (by decide) (by decide) k) ?_
  refine Out.via (g' := (mkF m 56 #[vI 1] [(.int (1 : Int32))])) (fun _ k => XS.iloadN X0.here hx rfl (hb hby own_d2_55) rfl k) ?_
  refine Out.via (g' := (mkF m 57 #[vI 1] [(.int (1 : Int32)), (.int (1 : Int32))])) (fun _ k => XS.iconst X0.here hx rfl (hb hby own_d2_56) k) ?_
  refine Out.via (g' := (mkF m 58 #[vI 1] [(.int ((1 : Int32) <<< ((1 : Int32) &&& 31)))])) (fun _ k => XS.ishl X0.here hx rfl (hb hby own_d2_57) rfl k) ?_
  exact Out.endN X0 (fun h => by rw [Bd.returns] at h; cases h) Bd.notSynchronized (by decide) (by decide) (by rw [e0]; exact ⟨congrArg (fun z => some (Value.int z)) (by decide), N0, rfl⟩) (fun fs hr => own_retI X0 hx Bd.returns (hb hby own_d2_58) hr)
theorem own_d3_0 : decode jdk_52_method_2_code 0 = .ok (.iload_n 0, 1) := by decide +kernel
theorem own_d3_1 : decode jdk_52_method_2_code 1 = .ok (.invokestatic 11, 3) := by decide +kernel
theorem own_pd3 : parseMethodDescriptor "(I)I" = some ⟨[.int], some .int⟩ := by decide +kernel
theorem own_d3_4 : decode jdk_52_method_2_code 4 = .ok (.newarray .byte, 2) := by decide +kernel
theorem own_d3_6 : decode jdk_52_method_2_code 6 = .ok (.areturn, 1) := by decide +kernel
theorem own_efNB1 (m : MethodId) (x0 : Int32) : entryFrame m #[(.int x0)] 1 = mkF m 0 #[.val (.int x0)] [] := by first | (simp [entryFrame, mkF, argsToLocals, Value.category]; done) | rfl
abbrev own_QNB1 (Z : State)  (h0 : Heap) (n0 : Nat) : Option Value → Heap → List Loc → Prop := fun v h L => ∃ (b : Addr) (kb : ClassId), v = some (.ref b) ∧ Fr n0 L ∧ Keep h0 h [] ∧ h0.size ≤ b ∧ n0 ≤ b ∧ Arv Z h b kb .byte (2 : Int32) [(.int (0 : Int32)), (.int (0 : Int32))] (.int (0 : Int32))
set_option maxRecDepth 65536 in
set_option maxHeartbeats 40000000 in
theorem own_rmNB1 (l : Launch) (Z : State) (a0 : Array Value) (hw : ∀ d ∈ tables_1, d.before a0 Z = true) (ws : List Jvm.Cond)  (h0 : Heap) (n0 : Nat) (O : Old Z n0 h0) :
    MetFree l own_y4 (head1 (Jvm.Cond.code own_y4 jdk_52_method_2_code 1 (some (.array .byte)) :: ws) ({ frames := 1, cells := 1, slots := 2, locals := 12 } : Room)) (fun aa U => aa = #[(.int (1 : Int32))] ∧ Z.Warmed39 U.vm ∧ U.heap = h0) (fun _ _ _ _ _ => True) (fun _ U o U' => ∃ v L, o = .returned v ∧ (own_QNB1 Z  h0 n0) v U'.heap L ∧ FrameEnd U o U' L ({ frames := 1, cells := 1, slots := 2, locals := 12 } : Room).cells ({ frames := 1, cells := 1, slots := 2, locals := 12 } : Room).slots) := by
  refine MetFree.of_bodySF (plainFor_of_name own_pn2) hisR ?_
  intro p e s m args below meth c s₁ Bd hml0 hP hK
  obtain ⟨rfl, hZ, hh⟩ := hP
  have hx := Bd.exec
  have hby := Bd.bytes
  have hml : c.maxLocals = 1 := hml0
  have hown : s.vm.findClass "java/lang/StringUTF16" = some m.cls := findClass_of_methodNamed Bd.named
  have hnm := (name_of_methodNamed Bd.named Bd.method).1
  have X0 : Stand p l e ({ frames := 1, cells := 1, slots := 2, locals := 12 } : Room) s m #[(.int (1 : Int32))] below meth c s₁ [] 0 0 := Stand.of_body Bd
  have e0 : s₁.heap = h0 := by rw [← hh, Bd.state]; rfl
  have N0 := Fr.nil n0
  refine Out.start (Q := own_QNB1 Z  h0 n0) (own_efNB1 m (1 : Int32) ) ?_
  have Kp := Keep.refl h0 []
  refine Out.via (g' := (mkF m 1 #[vI 1] [(.int (1 : Int32))])) (fun _ k => XS.iloadN X0.here hx rfl (hb hby own_d3_0) rfl k) ?_
  obtain ⟨_, _, ⟨T1, L1, kc1, ks1⟩, -, X1, ⟨Lc1, hQ1, l1, y1, z1⟩, st1⟩ := Jvm.LawKit.callS X0 hx (y := own_y3) hown (mvT hZ (W_ hw 163 rfl)) (mvT hZ (W_ hw 164 rfl)) (mvT hZ (W_ hw 21 rfl)) (mvT hZ (W_ hw 165 rfl)) (by decide) (backOf (W := 0) (own_rmNL1 l Z a0 hw [] h0 n0 O) hZ (W_ hw 165 rfl) (W_ hw 21 rfl) (by decide) (by decide)) (g := (mkF m 1 #[vI 1] [(.int (1 : Int32))])) rfl (by rw [hml]; rfl) (argsL := [(.int (1 : Int32))]) (rest := []) (lenOf own_pd3 rfl) rfl (by show 2 * 0 + _ ≤ _; exact Nat.le_of_eq rfl) (hb hby own_d3_1) (fun _ _ => ⟨rfl, e0, (by decide : 0 + 0 ≤ _), (by decide : 0 + 0 ≤ _)⟩)
  dsimp only [Pt.U, Pt.locs, Pt.cells, Pt.slots] at X1 l1 y1 z1 st1 hQ1
  subst l1 y1 z1
  obtain ⟨rfl, Nq1, eq1⟩ := hQ1
  replace N0 := Fr.app N0 Nq1
  refine Out.via (g' := (mkF m 4 #[vI 1] [(.int (2 : Int32))])) st1 ?_
  obtain ⟨T2, h2, kA2, X2, e2, E2, A2, st2⟩ := newP X1 hx hZ (W_ hw 23 rfl) eq1 (g := (mkF m 4 #[vI 1] [(.int (2 : Int32))])) rfl (hb hby own_d3_4) rfl (by decide) (cap := 2) (by decide) (by decide) (by decide) (by decide)
  obtain ⟨b, gq2⟩ : ∃ z, z = h0.size := ⟨_, rfl⟩
  rw [← gq2] at A2 st2
  have g_b : n0 ≤ b := Nat.le_trans (own_z0 O) (Nat.le_of_eq gq2.symm)
  have sz_b : h0.size ≤ b := Nat.le_trans Kp.1 (Nat.le_of_eq gq2.symm)
  replace O := O.ext E2
  replace Kp := Kp.ext E2
  have V_b : Arv Z h2 b kA2 .byte (2 : Int32) [(.int (0 : Int32)), (.int (0 : Int32))] (.int (0 : Int32)) := (Arv.new A2 (by decide)).pad (pad_rep [] (.int (0 : Int32)) 2)
  refine Out.via (g' := (mkF m 6 #[vI 1] [(.ref b)])) st2 ?_
  exact Out.endN X2 (fun h => by rw [Bd.returns] at h; cases h) Bd.notSynchronized (by decide) (by decide) (by rw [e2]; exact ⟨b, _, rfl, N0, Kp, sz_b, g_b, V_b⟩) (fun fs hr => own_retR X2 hx (t := (.array .byte)) Bd.returns rfl rfl rfl (hb hby own_d3_6) hr)
theorem own_efNL2 (m : MethodId) (x0 : Int32) : entryFrame m #[(.int x0)] 1 = mkF m 0 #[.val (.int x0)] [] := by first | (simp [entryFrame, mkF, argsToLocals, Value.category]; done) | rfl
abbrev own_QNL2 (Z : State)  (h0 : Heap) (n0 : Nat) : Option Value → Heap → List Loc → Prop := fun v h L => v = some (.int (4 : Int32)) ∧ Fr n0 L ∧ h = h0
set_option maxRecDepth 65536 in
set_option maxHeartbeats 40000000 in
theorem own_rmNL2 (l : Launch) (Z : State) (a0 : Array Value) (hw : ∀ d ∈ tables_1, d.before a0 Z = true) (ws : List Jvm.Cond)  (h0 : Heap) (n0 : Nat) (O : Old Z n0 h0) :
    MetFree l own_y3 (head1 (Jvm.Cond.code own_y3 jdk_52_method_3_code 1 (some .int) :: ws) ({ frames := 0, cells := 0, slots := 0, locals := 0 } : Room)) (fun aa U => aa = #[(.int (2 : Int32))] ∧ Z.Warmed39 U.vm ∧ U.heap = h0) (fun _ _ _ _ _ => True) (fun _ U o U' => ∃ v L, o = .returned v ∧ (own_QNL2 Z  h0 n0) v U'.heap L ∧ FrameEnd U o U' L ({ frames := 0, cells := 0, slots := 0, locals := 0 } : Room).cells ({ frames := 0, cells := 0, slots := 0, locals := 0 } : Room).slots) := by
  refine MetFree.of_bodySF (plainFor_of_name own_pn2) hisR ?_
  intro p e s m args below meth c s₁ Bd hml0 hP hK
  obtain ⟨rfl, hZ, hh⟩ := hP
  have hx := Bd.exec
  have hby := Bd.bytes
  have hml : c.maxLocals = 1 := hml0
  have hown : s.vm.findClass "java/lang/StringUTF16" = some m.cls := findClass_of_methodNamed Bd.named
  have hnm := (name_of_methodNamed Bd.named Bd.method).1
  have X0 : Stand p l e ({ frames := 0, cells := 0, slots := 0, locals := 0 } : Room) s m #[(.int (2 : Int32))] below meth c s₁ [] 0 0 := Stand.of_body Bd
  have e0 : s₁.heap = h0 := by rw [← hh, Bd.state]; rfl
  have N0 := Fr.nil n0
  refine Out.start (Q := own_QNL2 Z  h0 n0) (own_efNL2 m (2 : Int32) ) ?_
  refine Out.via (g' := (mkF m 1 #[vI 2] [(.int (2 : Int32))])) (fun _ k => XS.iloadN X0.here hx rfl (hb hby own_d2_0) rfl k) ?_
  refine Out.via (g' := (mkF m 12 #[vI 2] [])) (fun _ k => XS.ifYes X0.here hx rfl (pc0 := 1) (pc' := 12) rfl (hb hby own_d2_1) rfl ((if0 _ _).trans (flt (by decide)).2.1) (by decide) (by decide) k) ?_
  refine Out.via (g' := (mkF m 13 #[vI 2] [(.int (2 : Int32))])) (fun _ k => XS.iloadN X0.here hx rfl (hb hby own_d2_12) rfl k) ?_
  refine Out.via (g' := (mkF m 15 #[vI 2] [(.int (1073741823 : Int32)), (.int (2 : Int32))])) (fun _ k => X0.ldcInt hx hown (mvT hZ (W_ hw 166 rfl)) (g := (mkF m 13 #[vI 2] [(.int (2 : Int32))])) rfl (hb hby own_d2_13) _ k) ?_
  refine Out.via (g' := (mkF m 55 #[vI 2] [])) (fun _ k => XS.icmpYes X0.here hx rfl (pc0 := 15) (pc' := 55) rfl (hb hby own_d2_15) rfl (tlt (by decide)).1 (by decide) (by decide) k) ?_
  refine Out.via (g' := (mkF m 56 #[vI 2] [(.int (2 : Int32))])) (fun _ k => XS.iloadN X0.here hx rfl (hb hby own_d2_55) rfl k) ?_
  refine Out.via (g' := (mkF m 57 #[vI 2] [(.int (1 : Int32)), (.int (2 : Int32))])) (fun _ k => XS.iconst X0.here hx rfl (hb hby own_d2_56) k) ?_
  refine Out.via (g' := (mkF m 58 #[vI 2] [(.int ((2 : Int32) <<< ((1 : Int32) &&& 31)))])) (fun _ k => XS.ishl X0.here hx rfl (hb hby own_d2_57) rfl k) ?_
  exact Out.endN X0 (fun h => by rw [Bd.returns] at h; cases h) Bd.notSynchronized (by decide) (by decide) (by rw [e0]; exact ⟨congrArg (fun z => some (Value.int z)) (by decide), N0, rfl⟩) (fun fs hr => own_retI X0 hx Bd.returns (hb hby own_d2_58) hr)
theorem own_efNB2 (m : MethodId) (x0 : Int32) : entryFrame m #[(.int x0)] 1 = mkF m 0 #[.val (.int x0)] [] := by first | (simp [entryFrame, mkF, argsToLocals, Value.category]; done) | rfl
abbrev own_QNB2 (Z : State)  (h0 : Heap) (n0 : Nat) : Option Value → Heap → List Loc → Prop := fun v h L => ∃ (b : Addr) (kb : ClassId), v = some (.ref b) ∧ Fr n0 L ∧ Keep h0 h [] ∧ h0.size ≤ b ∧ n0 ≤ b ∧ Arv Z h b kb .byte (4 : Int32) [(.int (0 : Int32)), (.int (0 : Int32)), (.int (0 : Int32)), (.int (0 : Int32))] (.int (0 : Int32))
set_option maxRecDepth 65536 in
set_option maxHeartbeats 40000000 in
theorem own_rmNB2 (l : Launch) (Z : State) (a0 : Array Value) (hw : ∀ d ∈ tables_1, d.before a0 Z = true) (ws : List Jvm.Cond)  (h0 : Heap) (n0 : Nat) (O : Old Z n0 h0) :
    MetFree l own_y4 (head1 (Jvm.Cond.code own_y4 jdk_52_method_2_code 1 (some (.array .byte)) :: ws) ({ frames := 1, cells := 1, slots := 4, locals := 12 } : Room)) (fun aa U => aa = #[(.int (2 : Int32))] ∧ Z.Warmed39 U.vm ∧ U.heap = h0) (fun _ _ _ _ _ => True) (fun _ U o U' => ∃ v L, o = .returned v ∧ (own_QNB2 Z  h0 n0) v U'.heap L ∧ FrameEnd U o U' L ({ frames := 1, cells := 1, slots := 4, locals := 12 } : Room).cells ({ frames := 1, cells := 1, slots := 4, locals := 12 } : Room).slots) := by
  refine MetFree.of_bodySF (plainFor_of_name own_pn2) hisR ?_
  intro p e s m args below meth c s₁ Bd hml0 hP hK
  obtain ⟨rfl, hZ, hh⟩ := hP
  have hx := Bd.exec
  have hby := Bd.bytes
  have hml : c.maxLocals = 1 := hml0
  have hown : s.vm.findClass "java/lang/StringUTF16" = some m.cls := findClass_of_methodNamed Bd.named
  have hnm := (name_of_methodNamed Bd.named Bd.method).1
  have X0 : Stand p l e ({ frames := 1, cells := 1, slots := 4, locals := 12 } : Room) s m #[(.int (2 : Int32))] below meth c s₁ [] 0 0 := Stand.of_body Bd
  have e0 : s₁.heap = h0 := by rw [← hh, Bd.state]; rfl
  have N0 := Fr.nil n0
  refine Out.start (Q := own_QNB2 Z  h0 n0) (own_efNB2 m (2 : Int32) ) ?_
  have Kp := Keep.refl h0 []
  refine Out.via (g' := (mkF m 1 #[vI 2] [(.int (2 : Int32))])) (fun _ k => XS.iloadN X0.here hx rfl (hb hby own_d3_0) rfl k) ?_
  obtain ⟨_, _, ⟨T1, L1, kc1, ks1⟩, -, X1, ⟨Lc1, hQ1, l1, y1, z1⟩, st1⟩ := Jvm.LawKit.callS X0 hx (y := own_y3) hown (mvT hZ (W_ hw 163 rfl)) (mvT hZ (W_ hw 164 rfl)) (mvT hZ (W_ hw 21 rfl)) (mvT hZ (W_ hw 165 rfl)) (by decide) (backOf (W := 0) (own_rmNL2 l Z a0 hw [] h0 n0 O) hZ (W_ hw 165 rfl) (W_ hw 21 rfl) (by decide) (by decide)) (g := (mkF m 1 #[vI 2] [(.int (2 : Int32))])) rfl (by rw [hml]; rfl) (argsL := [(.int (2 : Int32))]) (rest := []) (lenOf own_pd3 rfl) rfl (by show 2 * 0 + _ ≤ _; exact Nat.le_of_eq rfl) (hb hby own_d3_1) (fun _ _ => ⟨rfl, e0, (by decide : 0 + 0 ≤ _), (by decide : 0 + 0 ≤ _)⟩)
  dsimp only [Pt.U, Pt.locs, Pt.cells, Pt.slots] at X1 l1 y1 z1 st1 hQ1
  subst l1 y1 z1
  obtain ⟨rfl, Nq1, eq1⟩ := hQ1
  replace N0 := Fr.app N0 Nq1
  refine Out.via (g' := (mkF m 4 #[vI 2] [(.int (4 : Int32))])) st1 ?_
  obtain ⟨T2, h2, kA2, X2, e2, E2, A2, st2⟩ := newP X1 hx hZ (W_ hw 23 rfl) eq1 (g := (mkF m 4 #[vI 2] [(.int (4 : Int32))])) rfl (hb hby own_d3_4) rfl (by decide) (cap := 4) (by decide) (by decide) (by decide) (by decide)
  obtain ⟨b, gq2⟩ : ∃ z, z = h0.size := ⟨_, rfl⟩
  rw [← gq2] at A2 st2
  have g_b : n0 ≤ b := Nat.le_trans (own_z0 O) (Nat.le_of_eq gq2.symm)
  have sz_b : h0.size ≤ b := Nat.le_trans Kp.1 (Nat.le_of_eq gq2.symm)
  replace O := O.ext E2
  replace Kp := Kp.ext E2
  have V_b : Arv Z h2 b kA2 .byte (4 : Int32) [(.int (0 : Int32)), (.int (0 : Int32)), (.int (0 : Int32)), (.int (0 : Int32))] (.int (0 : Int32)) := (Arv.new A2 (by decide)).pad (pad_rep [] (.int (0 : Int32)) 4)
  refine Out.via (g' := (mkF m 6 #[vI 2] [(.ref b)])) st2 ?_
  exact Out.endN X2 (fun h => by rw [Bd.returns] at h; cases h) Bd.notSynchronized (by decide) (by decide) (by rw [e2]; exact ⟨b, _, rfl, N0, Kp, sz_b, g_b, V_b⟩) (fun fs hr => own_retR X2 hx (t := (.array .byte)) Bd.returns rfl rfl rfl (hb hby own_d3_6) hr)
theorem own_d4_0 : decode jdk_29_method_69_code 0 = .ok (.iload_n 0, 1) := by decide +kernel
theorem own_d4_1 : decode jdk_29_method_69_code 1 = .ok (.iload_n 1, 1) := by decide +kernel
theorem own_d4_2 : decode jdk_29_method_69_code 2 = .ok (.if_icmp .gt 7, 3) := by decide +kernel
theorem own_d4_9 : decode jdk_29_method_69_code 9 = .ok (.iload_n 1, 1) := by decide +kernel
theorem own_d4_10 : decode jdk_29_method_69_code 10 = .ok (.ireturn, 1) := by decide +kernel
theorem own_efMM (m : MethodId) (x0 : Int32) (x1 : Int32) : entryFrame m #[(.int x0), (.int x1)] 2 = mkF m 0 #[.val (.int x0), .val (.int x1)] [] := by first | (simp [entryFrame, mkF, argsToLocals, Value.category]; done) | rfl
abbrev own_QMM (Z : State)  (h0 : Heap) (n0 : Nat) : Option Value → Heap → List Loc → Prop := fun v h L => v = some (.int (3 : Int32)) ∧ Fr n0 L ∧ h = h0
set_option maxRecDepth 65536 in
set_option maxHeartbeats 40000000 in
theorem own_rmMM (l : Launch) (Z : State) (a0 : Array Value) (hw : ∀ d ∈ tables_1, d.before a0 Z = true) (ws : List Jvm.Cond)  (h0 : Heap) (n0 : Nat) (O : Old Z n0 h0) :
    MetFree l own_y5 (head1 (Jvm.Cond.code own_y5 jdk_29_method_69_code 2 (some .int) :: ws) ({ frames := 0, cells := 0, slots := 0, locals := 0 } : Room)) (fun aa U => aa = #[(.int (4 : Int32)), (.int (3 : Int32))] ∧ Z.Warmed39 U.vm ∧ U.heap = h0) (fun _ _ _ _ _ => True) (fun _ U o U' => ∃ v L, o = .returned v ∧ (own_QMM Z  h0 n0) v U'.heap L ∧ FrameEnd U o U' L ({ frames := 0, cells := 0, slots := 0, locals := 0 } : Room).cells ({ frames := 0, cells := 0, slots := 0, locals := 0 } : Room).slots) := by
  refine MetFree.of_bodySF (Jvm.Free.JP.mathPlain rfl (by decide +kernel)) hisR ?_
  intro p e s m args below meth c s₁ Bd hml0 hP hK
  obtain ⟨rfl, hZ, hh⟩ := hP
  have hx := Bd.exec
  have hby := Bd.bytes
  have hml : c.maxLocals = 2 := hml0
  have hown : s.vm.findClass "java/lang/Math" = some m.cls := findClass_of_methodNamed Bd.named
  have hnm := (name_of_methodNamed Bd.named Bd.method).1
  have X0 : Stand p l e ({ frames := 0, cells := 0, slots := 0, locals := 0 } : Room) s m #[(.int (4 : Int32)), (.int (3 : Int32))] below meth c s₁ [] 0 0 := Stand.of_body Bd
  have e0 : s₁.heap = h0 := by rw [← hh, Bd.state]; rfl
  have N0 := Fr.nil n0
  refine Out.start (Q := own_QMM Z  h0 n0) (own_efMM m (4 : Int32) (3 : Int32) ) ?_
  refine Out.via (g' := (mkF m 1 #[vI 4, vI 3] [(.int (4 : Int32))])) (fun _ k => XS.iloadN X0.here hx rfl (hb hby own_d4_0) rfl k) ?_
  refine Out.via (g' := (mkF m 2 #[vI 4, vI 3] [(.int (3 : Int32)), (.int (4 : Int32))])) (fun _ k => XS.iloadN X0.here hx rfl (hb hby own_d4_1) rfl k) ?_
  refine Out.via (g' := (mkF m 9 #[vI 4, vI 3] [])) (fun _ k => XS.icmpYes X0.here hx rfl (pc0 := 2) (pc' := 9) rfl (hb hby own_d4_2) rfl (tlt (by decide)).2.2.1 (by decide) (by decide) k) ?_
  refine Out.via (g' := (mkF m 10 #[vI 4, vI 3] [(.int (3 : Int32))])) (fun _ k => XS.iloadN X0.here hx rfl (hb hby own_d4_9) rfl k) ?_
  exact Out.endN X0 (fun h => by rw [Bd.returns] at h; cases h) Bd.notSynchronized (by decide) (by decide) (by rw [e0]; exact ⟨rfl, N0, rfl⟩) (fun fs hr => own_retI X0 hx Bd.returns (hb hby own_d4_10) hr)
theorem own_pn4 : plainName "java/util/Arrays" = true := by first | (simp [plainName, overriddenIn]; done) | decide +kernel
theorem own_d5_0 : decode jdk_65_method_121_code 0 = .ok (.iload_n 1, 1) := by decide +kernel
theorem own_d5_1 : decode jdk_65_method_121_code 1 = .ok (.aload_n 0, 1) := by decide +kernel
theorem own_d5_2 : decode jdk_65_method_121_code 2 = .ok (.arraylength, 1) := by decide +kernel
theorem own_d5_3 : decode jdk_65_method_121_code 3 = .ok (.if_icmp .ne 11, 3) := by decide +kernel
theorem own_d5_14 : decode jdk_65_method_121_code 14 = .ok (.iload_n 1, 1) := by decide +kernel
theorem own_d5_15 : decode jdk_65_method_121_code 15 = .ok (.newarray .byte, 2) := by decide +kernel
theorem own_d5_17 : decode jdk_65_method_121_code 17 = .ok (.astore_n 2, 1) := by decide +kernel
theorem own_d5_18 : decode jdk_65_method_121_code 18 = .ok (.aload_n 0, 1) := by decide +kernel
theorem own_d5_19 : decode jdk_65_method_121_code 19 = .ok (.iconst 0, 1) := by decide +kernel
theorem own_d5_20 : decode jdk_65_method_121_code 20 = .ok (.aload_n 2, 1) := by decide +kernel
theorem own_d5_21 : decode jdk_65_method_121_code 21 = .ok (.iconst 0, 1) := by decide +kernel
theorem own_d5_22 : decode jdk_65_method_121_code 22 = .ok (.aload_n 0, 1) := by decide +kernel
theorem own_d5_23 : decode jdk_65_method_121_code 23 = .ok (.arraylength, 1) := by decide +kernel
theorem own_d5_24 : decode jdk_65_method_121_code 24 = .ok (.iload_n 1, 1) := by decide +kernel
theorem own_d5_25 : decode jdk_65_method_121_code 25 = .ok (.invokestatic 304, 3) := by decide +kernel
theorem own_pd5 : parseMethodDescriptor "(II)I" = some ⟨[.int, .int], some .int⟩ := by decide +kernel
theorem own_d5_28 : decode jdk_65_method_121_code 28 = .ok (.invokestatic 150, 3) := by decide +kernel
theorem own_d5_31 : decode jdk_65_method_121_code 31 = .ok (.aload_n 2, 1) := by decide +kernel
theorem own_d5_32 : decode jdk_65_method_121_code 32 = .ok (.areturn, 1) := by decide +kernel
theorem own_efCO (m : MethodId) (x0 : Addr) (x1 : Int32) : entryFrame m #[(.ref x0), (.int x1)] 3 = mkF m 0 #[.val (.ref x0), .val (.int x1), .unset] [] := by first | (simp [entryFrame, mkF, argsToLocals, Value.category]; done) | rfl
abbrev own_QCO (Z : State) (b : Addr) (kb : ClassId) (y0 y1 y2 y3 : Int32) (h0 : Heap) (n0 : Nat) : Option Value → Heap → List Loc → Prop := fun v h L => ∃ (t : Addr) (kt : ClassId) (N : Int32) (vs : List Value), v = some (.ref t) ∧ Fr n0 L ∧ Keep h0 h [] ∧ Arv Z h t kt .byte N vs (.int (0 : Int32)) ∧ 0 < N ∧ ¬ (255 : Int32) < N
set_option maxRecDepth 65536 in
set_option maxHeartbeats 40000000 in
theorem own_rmCO (l : Launch) (Z : State) (a0 : Array Value) (hw : ∀ d ∈ tables_1, d.before a0 Z = true) (ws : List Jvm.Cond) (b : Addr) (kb : ClassId) (y0 y1 y2 y3 : Int32) (h0 : Heap) (n0 : Nat) (O : Old Z n0 h0) (Ab : Arv Z h0 b kb .byte (4 : Int32) [(.int y0), (.int y1), (.int y2), (.int y3)] (.int (0 : Int32))) :
    MetFree l own_y6 (head1 (Jvm.Cond.code own_y6 jdk_65_method_121_code 3 (some (.array .byte)) :: ws) ({ frames := 1, cells := 1, slots := 3, locals := 19 } : Room)) (fun aa U => aa = #[(.ref b), (.int (3 : Int32))] ∧ Z.Warmed39 U.vm ∧ U.heap = h0) (fun _ _ _ _ _ => True) (fun _ U o U' => ∃ v L, o = .returned v ∧ (own_QCO Z b kb y0 y1 y2 y3 h0 n0) v U'.heap L ∧ FrameEnd U o U' L ({ frames := 1, cells := 1, slots := 3, locals := 19 } : Room).cells ({ frames := 1, cells := 1, slots := 3, locals := 19 } : Room).slots) := by
  refine MetFree.of_bodySF (plainFor_of_name own_pn4) hisR ?_
  intro p e s m args below meth c s₁ Bd hml0 hP hK
  obtain ⟨rfl, hZ, hh⟩ := hP
  have hx := Bd.exec
  have hby := Bd.bytes
  have hml : c.maxLocals = 3 := hml0
  have hown : s.vm.findClass "java/util/Arrays" = some m.cls := findClass_of_methodNamed Bd.named
  have hnm := (name_of_methodNamed Bd.named Bd.method).1
  have X0 : Stand p l e ({ frames := 1, cells := 1, slots := 3, locals := 19 } : Room) s m #[(.ref b), (.int (3 : Int32))] below meth c s₁ [] 0 0 := Stand.of_body Bd
  have e0 : s₁.heap = h0 := by rw [← hh, Bd.state]; rfl
  have N0 := Fr.nil n0
  refine Out.start (Q := own_QCO Z b kb y0 y1 y2 y3 h0 n0) (own_efCO m b (3 : Int32) ) ?_
  have Kp := Keep.refl h0 []
  refine Out.via (g' := (mkF m 1 #[vR b, vI 3, vU] [(.int (3 : Int32))])) (fun _ k => XS.iloadN X0.here hx rfl (hb hby own_d5_0) rfl k) ?_
  refine Out.via (g' := (mkF m 2 #[vR b, vI 3, vU] [(.ref b), (.int (3 : Int32))])) (fun _ k => XS.aloadN X0.here hx rfl (hb hby own_d5_1) rfl rfl k) ?_
  obtain ⟨cl_p, Ar_p, q_p, S_p, M_p, H_p, G_p⟩ := id Ab
  refine Out.via (g' := (mkF m 3 #[vR b, vI 3, vU] [(.int cl_p.slots.size.toInt32), (.int (3 : Int32))])) (fun _ k => X0.arraylength hx (by rw [e0]; exact Ar_p.1) (State.isArrayOf_alike hZ.alike Ar_p.2.1) (g := (mkF m 2 #[vR b, vI 3, vU] [(.ref b), (.int (3 : Int32))])) rfl rfl (hb hby own_d5_2) _ k) ?_
  rw [len_of S_p M_p]
  refine Out.via (g' := (mkF m 14 #[vR b, vI 3, vU] [])) (fun _ k => XS.icmpYes X0.here hx rfl (pc0 := 3) (pc' := 14) rfl (hb hby own_d5_3) rfl (feq (by decide)).2 (by decide) (by decide) k) ?_
  refine Out.via (g' := (mkF m 15 #[vR b, vI 3, vU] [(.int (3 : Int32))])) (fun _ k => XS.iloadN X0.here hx rfl (hb hby own_d5_14) rfl k) ?_
  obtain ⟨T1, h1, kA1, X1, e1, E1, A1, st1⟩ := newP X0 hx hZ (W_ hw 23 rfl) e0 (g := (mkF m 15 #[vR b, vI 3, vU] [(.int (3 : Int32))])) rfl (hb hby own_d5_15) rfl (by decide) (cap := 3) (by decide) (by decide) (by decide) (by decide)
  obtain ⟨t, gq1⟩ : ∃ z, z = h0.size := ⟨_, rfl⟩
  rw [← gq1] at A1 st1
  have ne_b_t : b ≠ t := Nat.ne_of_lt (Nat.lt_of_lt_of_le Ab.lt (Nat.le_of_eq gq1.symm))
  have g_t : n0 ≤ t := Nat.le_trans (own_z0 O) (Nat.le_of_eq gq1.symm)
  have sz_t : h0.size ≤ t := Nat.le_trans Kp.1 (Nat.le_of_eq gq1.symm)
  replace Ab := Ab.ext E1
  replace O := O.ext E1
  replace Kp := Kp.ext E1
  have V_t : Arv Z h1 t kA1 .byte (3 : Int32) [(.int (0 : Int32)), (.int (0 : Int32)), (.int (0 : Int32))] (.int (0 : Int32)) := (Arv.new A1 (by decide)).pad (pad_rep [] (.int (0 : Int32)) 3)
  refine Out.via (g' := (mkF m 17 #[vR b, vI 3, vU] [(.ref t)])) st1 ?_
  refine Out.via (g' := (mkF m 18 #[vR b, vI 3, vR t] [])) (fun _ k => XS.astoreN X1.here hx rfl (hb hby own_d5_17) rfl rfl (l' := #[.val (.ref b), .val (.int (3 : Int32)), .val (.ref t)]) rfl k) ?_
  refine Out.via (g' := (mkF m 19 #[vR b, vI 3, vR t] [(.ref b)])) (fun _ k => XS.aloadN X1.here hx rfl (hb hby own_d5_18) rfl rfl k) ?_
  refine Out.via (g' := (mkF m 20 #[vR b, vI 3, vR t] [(.int (0 : Int32)), (.ref b)])) (fun _ k => XS.iconst X1.here hx rfl (hb hby own_d5_19) k) ?_
  refine Out.via (g' := (mkF m 21 #[vR b, vI 3, vR t] [(.ref t), (.int (0 : Int32)), (.ref b)])) (fun _ k => XS.aloadN X1.here hx rfl (hb hby own_d5_20) rfl rfl k) ?_
  refine Out.via (g' := (mkF m 22 #[vR b, vI 3, vR t] [(.int (0 : Int32)), (.ref t), (.int (0 : Int32)), (.ref b)])) (fun _ k => XS.iconst X1.here hx rfl (hb hby own_d5_21) k) ?_
  refine Out.via (g' := (mkF m 23 #[vR b, vI 3, vR t] [(.ref b), (.int (0 : Int32)), (.ref t), (.int (0 : Int32)), (.ref b)])) (fun _ k => XS.aloadN X1.here hx rfl (hb hby own_d5_22) rfl rfl k) ?_
  obtain ⟨cl_q, Ar_q, q_q, S_q, M_q, H_q, G_q⟩ := id Ab
  refine Out.via (g' := (mkF m 24 #[vR b, vI 3, vR t] [(.int cl_q.slots.size.toInt32), (.int (0 : Int32)), (.ref t), (.int (0 : Int32)), (.ref b)])) (fun _ k => X1.arraylength hx (by rw [e1]; exact Ar_q.1) (State.isArrayOf_alike hZ.alike Ar_q.2.1) (g := (mkF m 23 #[vR b, vI 3, vR t] [(.ref b), (.int (0 : Int32)), (.ref t), (.int (0 : Int32)), (.ref b)])) rfl rfl (hb hby own_d5_23) _ k) ?_
  rw [len_of S_q M_q]
  refine Out.via (g' := (mkF m 25 #[vR b, vI 3, vR t] [(.int (3 : Int32)), (.int (4 : Int32)), (.int (0 : Int32)), (.ref t), (.int (0 : Int32)), (.ref b)])) (fun _ k => XS.iloadN X1.here hx rfl (hb hby own_d5_24) rfl k) ?_
  obtain ⟨_, _, ⟨T2, L2, kc2, ks2⟩, -, X2, ⟨Lc2, hQ2, l2, y2, z2⟩, st2⟩ := Jvm.LawKit.callS X1 hx (y := own_y5) hown (mvT hZ (W_ hw 170 rfl)) (mvT hZ (W_ hw 171 rfl)) (mvT hZ (W_ hw 172 rfl)) (mvT hZ (W_ hw 173 rfl)) (by decide) (backOf (W := 4) (own_rmMM l Z a0 hw [] h1 n0 O) hZ (W_ hw 173 rfl) (W_ hw 172 rfl) (by decide) (by decide)) (g := (mkF m 25 #[vR b, vI 3, vR t] [(.int (3 : Int32)), (.int (4 : Int32)), (.int (0 : Int32)), (.ref t), (.int (0 : Int32)), (.ref b)])) rfl (by rw [hml]; rfl) (argsL := [(.int (4 : Int32)), (.int (3 : Int32))]) (rest := [(.int (0 : Int32)), (.ref t), (.int (0 : Int32)), (.ref b)]) (lenOf own_pd5 rfl) rfl (by show 2 * 0 + _ ≤ _; exact Nat.le_of_eq rfl) (hb hby own_d5_25) (fun _ _ => ⟨rfl, e1, (by decide : 1 + 0 ≤ _), (by decide : 3 + 0 ≤ _)⟩)
  dsimp only [Pt.U, Pt.locs, Pt.cells, Pt.slots] at X2 l2 y2 z2 st2 hQ2
  subst l2 y2 z2
  obtain ⟨rfl, Nq2, eq2⟩ := hQ2
  replace N0 := Fr.app N0 Nq2
  refine Out.via (g' := (mkF m 28 #[vR b, vI 3, vR t] [(.int (3 : Int32)), (.int (0 : Int32)), (.ref t), (.int (0 : Int32)), (.ref b)])) st2 ?_
  obtain ⟨T90, h90, L90, X90, e90, N90, K90, A90, st90⟩ := cpA X2 hx hZ hown (W_ hw 174 rfl) (W_ hw 177 rfl) (W_ hw 175 rfl) (W_ hw 176 rfl) eq2 (a := b) (b := t) (sp := (0 : Int32)) (dp := (0 : Int32)) (nn := (3 : Int32)) Ab V_t (Or.inl ⟨rfl, rfl⟩) (by decide) (by decide) (by decide) (by decide) (by decide) rfl (by decide) N0 g_t (g := (mkF m 28 #[vR b, vI 3, vR t] [(.int (3 : Int32)), (.int (0 : Int32)), (.ref t), (.int (0 : Int32)), (.ref b)])) rfl (by rw [hml]; rfl) rfl (hb hby own_d5_28) (by decide) (W := 0) (by show 2 * 0 + _ ≤ _; exact Nat.le_of_eq rfl) (by decide)
  replace Kp := Kp.trans K90 (allS (Or.inr sz_t) all0)
  refine Out.via (g' := (mkF m 31 #[vR b, vI 3, vR t] [])) st90 ?_
  refine Out.via (g' := (mkF m 32 #[vR b, vI 3, vR t] [(.ref t)])) (fun _ k => XS.aloadN X90.here hx rfl (hb hby own_d5_31) rfl rfl k) ?_
  exact Out.endN X90 (fun h => by rw [Bd.returns] at h; cases h) Bd.notSynchronized (by decide) (by decide) (by rw [e90]; exact ⟨t, _, _, _, rfl, N90, Kp, A90, by decide, by decide⟩) (fun fs hr => own_retR X90 hx (t := (.array .byte)) Bd.returns rfl rfl rfl (hb hby own_d5_32) hr)
theorem own_pn6 : plainName "java/lang/String" = true := by first | (simp [plainName, overriddenIn]; done) | decide +kernel
theorem own_d6_0 : decode jdk_42_method_46_code 0 = .ok (.iload_n 0, 1) := by decide +kernel
theorem own_d6_1 : decode jdk_42_method_46_code 1 = .ok (.iconst 1, 1) := by decide +kernel
theorem own_d6_2 : decode jdk_42_method_46_code 2 = .ok (.if_icmp .ne 9, 3) := by decide +kernel
theorem own_d6_11 : decode jdk_42_method_46_code 11 = .ok (.aload_n 1, 1) := by decide +kernel
theorem own_d6_12 : decode jdk_42_method_46_code 12 = .ok (.iconst 0, 1) := by decide +kernel
theorem own_d6_13 : decode jdk_42_method_46_code 13 = .ok (.aload_n 1, 1) := by decide +kernel
theorem own_d6_14 : decode jdk_42_method_46_code 14 = .ok (.arraylength, 1) := by decide +kernel
theorem own_d6_15 : decode jdk_42_method_46_code 15 = .ok (.invokestatic 128, 3) := by decide +kernel
theorem own_pd7 : parseMethodDescriptor "([BII)Z" = some ⟨[(.array .byte), .int, .int], some .boolean⟩ := by decide +kernel
theorem own_d6_18 : decode jdk_42_method_46_code 18 = .ok (.ifCond .ne 11, 3) := by decide +kernel
theorem own_d6_21 : decode jdk_42_method_46_code 21 = .ok (.aload_n 1, 1) := by decide +kernel
theorem own_d6_22 : decode jdk_42_method_46_code 22 = .ok (.invokevirtual 279, 3) := by decide +kernel
theorem own_d6_25 : decode jdk_42_method_46_code 25 = .ok (.checkcast 280, 3) := by decide +kernel
theorem own_d6_28 : decode jdk_42_method_46_code 28 = .ok (.areturn, 1) := by decide +kernel
theorem own_d6_29 : decode jdk_42_method_46_code 29 = .ok (.iconst 0, 1) := by decide +kernel
theorem own_d6_30 : decode jdk_42_method_46_code 30 = .ok (.istore_n 3, 1) := by decide +kernel
theorem own_d6_31 : decode jdk_42_method_46_code 31 = .ok (.aload_n 1, 1) := by decide +kernel
theorem own_d6_32 : decode jdk_42_method_46_code 32 = .ok (.arraylength, 1) := by decide +kernel
theorem own_d6_33 : decode jdk_42_method_46_code 33 = .ok (.invokestatic 60, 3) := by decide +kernel
theorem own_pd8 : parseMethodDescriptor "(I)[B" = some ⟨[.int], some (.array .byte)⟩ := by decide +kernel
theorem own_d6_36 : decode jdk_42_method_46_code 36 = .ok (.astore 4, 2) := by decide +kernel
theorem own_d6_38 : decode jdk_42_method_46_code 38 = .ok (.aload_n 1, 1) := by decide +kernel
theorem own_d6_39 : decode jdk_42_method_46_code 39 = .ok (.astore 5, 2) := by decide +kernel
theorem own_d6_41 : decode jdk_42_method_46_code 41 = .ok (.aload 5, 2) := by decide +kernel
theorem own_d6_43 : decode jdk_42_method_46_code 43 = .ok (.arraylength, 1) := by decide +kernel
theorem own_d6_44 : decode jdk_42_method_46_code 44 = .ok (.istore 6, 2) := by decide +kernel
theorem own_d6_46 : decode jdk_42_method_46_code 46 = .ok (.iconst 0, 1) := by decide +kernel
theorem own_d6_47 : decode jdk_42_method_46_code 47 = .ok (.istore 7, 2) := by decide +kernel
theorem own_d6_49 : decode jdk_42_method_46_code 49 = .ok (.iload 7, 2) := by decide +kernel
theorem own_d6_51 : decode jdk_42_method_46_code 51 = .ok (.iload 6, 2) := by decide +kernel
theorem own_d6_53 : decode jdk_42_method_46_code 53 = .ok (.if_icmp .ge 71, 3) := by decide +kernel
theorem own_d6_56 : decode jdk_42_method_46_code 56 = .ok (.aload 5, 2) := by decide +kernel
theorem own_d6_58 : decode jdk_42_method_46_code 58 = .ok (.iload 7, 2) := by decide +kernel
theorem own_d6_60 : decode jdk_42_method_46_code 60 = .ok (.baload, 1) := by decide +kernel
theorem own_d6_61 : decode jdk_42_method_46_code 61 = .ok (.istore 8, 2) := by decide +kernel
theorem own_d6_63 : decode jdk_42_method_46_code 63 = .ok (.iload 8, 2) := by decide +kernel
theorem own_d6_65 : decode jdk_42_method_46_code 65 = .ok (.ifCond .ge 44, 3) := by decide +kernel
theorem own_d6_68 : decode jdk_42_method_46_code 68 = .ok (.aload 4, 2) := by decide +kernel
theorem own_d6_70 : decode jdk_42_method_46_code 70 = .ok (.iload_n 3, 1) := by decide +kernel
theorem own_d6_71 : decode jdk_42_method_46_code 71 = .ok (.iinc 3 1, 3) := by decide +kernel
theorem own_d6_74 : decode jdk_42_method_46_code 74 = .ok (.sipush 192, 3) := by decide +kernel
theorem own_d6_77 : decode jdk_42_method_46_code 77 = .ok (.iload 8, 2) := by decide +kernel
theorem own_d6_79 : decode jdk_42_method_46_code 79 = .ok (.sipush 255, 3) := by decide +kernel
theorem own_d6_82 : decode jdk_42_method_46_code 82 = .ok (.iand, 1) := by decide +kernel
theorem own_d6_83 : decode jdk_42_method_46_code 83 = .ok (.bipush 6, 2) := by decide +kernel
theorem own_d6_85 : decode jdk_42_method_46_code 85 = .ok (.ishr, 1) := by decide +kernel
theorem own_d6_86 : decode jdk_42_method_46_code 86 = .ok (.ior, 1) := by decide +kernel
theorem own_d6_87 : decode jdk_42_method_46_code 87 = .ok (.i2b, 1) := by decide +kernel
theorem own_d6_88 : decode jdk_42_method_46_code 88 = .ok (.bastore, 1) := by decide +kernel
theorem own_d6_89 : decode jdk_42_method_46_code 89 = .ok (.aload 4, 2) := by decide +kernel
theorem own_d6_91 : decode jdk_42_method_46_code 91 = .ok (.iload_n 3, 1) := by decide +kernel
theorem own_d6_92 : decode jdk_42_method_46_code 92 = .ok (.iinc 3 1, 3) := by decide +kernel
theorem own_d6_95 : decode jdk_42_method_46_code 95 = .ok (.sipush 128, 3) := by decide +kernel
theorem own_d6_98 : decode jdk_42_method_46_code 98 = .ok (.iload 8, 2) := by decide +kernel
theorem own_d6_100 : decode jdk_42_method_46_code 100 = .ok (.bipush 63, 2) := by decide +kernel
theorem own_d6_102 : decode jdk_42_method_46_code 102 = .ok (.iand, 1) := by decide +kernel
theorem own_d6_103 : decode jdk_42_method_46_code 103 = .ok (.ior, 1) := by decide +kernel
theorem own_d6_104 : decode jdk_42_method_46_code 104 = .ok (.i2b, 1) := by decide +kernel
theorem own_d6_105 : decode jdk_42_method_46_code 105 = .ok (.bastore, 1) := by decide +kernel
theorem own_d6_106 : decode jdk_42_method_46_code 106 = .ok (.goto 12, 3) := by decide +kernel
theorem own_d6_118 : decode jdk_42_method_46_code 118 = .ok (.iinc 7 1, 3) := by decide +kernel
theorem own_d6_121 : decode jdk_42_method_46_code 121 = .ok (.goto (-72), 3) := by decide +kernel
theorem own_d6_124 : decode jdk_42_method_46_code 124 = .ok (.iload_n 3, 1) := by decide +kernel
theorem own_d6_125 : decode jdk_42_method_46_code 125 = .ok (.aload 4, 2) := by decide +kernel
theorem own_d6_127 : decode jdk_42_method_46_code 127 = .ok (.arraylength, 1) := by decide +kernel
theorem own_d6_128 : decode jdk_42_method_46_code 128 = .ok (.if_icmp .ne 6, 3) := by decide +kernel
theorem own_d6_131 : decode jdk_42_method_46_code 131 = .ok (.aload 4, 2) := by decide +kernel
theorem own_d6_133 : decode jdk_42_method_46_code 133 = .ok (.areturn, 1) := by decide +kernel
theorem own_efUT1 (m : MethodId) (x0 : Int32) (x1 : Addr) (x2 : Int32) : entryFrame m #[(.int x0), (.ref x1), (.int x2)] 9 = mkF m 0 #[.val (.int x0), .val (.ref x1), .val (.int x2), .unset, .unset, .unset, .unset, .unset, .unset] [] := by first | (simp [entryFrame, mkF, argsToLocals, Value.category]; done) | rfl
abbrev own_QUT1 (Z : State) (b : Addr) (kb : ClassId) (x0 x1 : Int32) (h0 : Heap) (n0 : Nat) : Option Value → Heap → List Loc → Prop := fun v h L => ∃ (t : Addr) (kt : ClassId) (N : Int32) (vs : List Value), v = some (.ref t) ∧ Fr n0 L ∧ Keep h0 h [] ∧ Arv Z h t kt .byte N vs (.int (0 : Int32)) ∧ 0 < N ∧ ¬ (255 : Int32) < N
set_option maxRecDepth 65536 in
set_option maxHeartbeats 40000000 in
theorem own_rmUT1 (l : Launch) (Z : State) (a0 : Array Value) (hw : ∀ d ∈ tables_1, d.before a0 Z = true) (ws : List Jvm.Cond) (b : Addr) (kb : ClassId) (x0 x1 : Int32) (h0 : Heap) (n0 : Nat) (O : Old Z n0 h0) (Ab : Arv Z h0 b kb .byte (1 : Int32) [(.int x0)] (.int (0 : Int32))) (Eb : Exa Z h0 b "[B") :
    MetFree l own_y7 (head1 (Jvm.Cond.code own_y7 jdk_42_method_46_code 9 (some (.array .byte)) :: ws) ({ frames := 2, cells := 2, slots := 7, locals := 33 } : Room)) (fun aa U => aa = #[(.int (0 : Int32)), (.ref b), (.int (1 : Int32))] ∧ Z.Warmed39 U.vm ∧ U.heap = h0) (fun _ _ _ _ _ => True) (fun _ U o U' => ∃ v L, o = .returned v ∧ (own_QUT1 Z b kb x0 x1 h0 n0) v U'.heap L ∧ FrameEnd U o U' L ({ frames := 2, cells := 2, slots := 7, locals := 33 } : Room).cells ({ frames := 2, cells := 2, slots := 7, locals := 33 } : Room).slots) := by
  refine MetFree.of_bodySF (plainFor_of_name own_pn6) hisR ?_
  intro p e s m args below meth c s₁ Bd hml0 hP hK
  obtain ⟨rfl, hZ, hh⟩ := hP
  have hx := Bd.exec
  have hby := Bd.bytes
  have hml : c.maxLocals = 9 := hml0
  have hown : s.vm.findClass "java/lang/String" = some m.cls := findClass_of_methodNamed Bd.named
  have hnm := (name_of_methodNamed Bd.named Bd.method).1
  have X0 : Stand p l e ({ frames := 2, cells := 2, slots := 7, locals := 33 } : Room) s m #[(.int (0 : Int32)), (.ref b), (.int (1 : Int32))] below meth c s₁ [] 0 0 := Stand.of_body Bd
  have e0 : s₁.heap = h0 := by rw [← hh, Bd.state]; rfl
  have N0 := Fr.nil n0
  refine Out.start (Q := own_QUT1 Z b kb x0 x1 h0 n0) (own_efUT1 m (0 : Int32) b (1 : Int32) ) ?_
  have Ab0 := Ab.lt
  have Kp := Keep.refl h0 []
  refine Out.via (g' := (mkF m 1 #[vI 0, vR b, vI 1, vU, vU, vU, vU, vU, vU] [(.int (0 : Int32))])) (fun _ k => XS.iloadN X0.here hx rfl (hb hby own_d6_0) rfl k) ?_
  refine Out.via (g' := (mkF m 2 #[vI 0, vR b, vI 1, vU, vU, vU, vU, vU, vU] [(.int (1 : Int32)), (.int (0 : Int32))])) (fun _ k => XS.iconst X0.here hx rfl (hb hby own_d6_1) k) ?_
  refine Out.via (g' := (mkF m 11 #[vI 0, vR b, vI 1, vU, vU, vU, vU, vU, vU] [])) (fun _ k => XS.icmpYes X0.here hx rfl (pc0 := 2) (pc' := 11) rfl (hb hby own_d6_2) rfl (feq (by decide)).2 (by decide) (by decide) k) ?_
  refine Out.via (g' := (mkF m 12 #[vI 0, vR b, vI 1, vU, vU, vU, vU, vU, vU] [(.ref b)])) (fun _ k => XS.aloadN X0.here hx rfl (hb hby own_d6_11) rfl rfl k) ?_
  refine Out.via (g' := (mkF m 13 #[vI 0, vR b, vI 1, vU, vU, vU, vU, vU, vU] [(.int (0 : Int32)), (.ref b)])) (fun _ k => XS.iconst X0.here hx rfl (hb hby own_d6_12) k) ?_
  refine Out.via (g' := (mkF m 14 #[vI 0, vR b, vI 1, vU, vU, vU, vU, vU, vU] [(.ref b), (.int (0 : Int32)), (.ref b)])) (fun _ k => XS.aloadN X0.here hx rfl (hb hby own_d6_13) rfl rfl k) ?_
  obtain ⟨cl_p, Ar_p, q_p, S_p, M_p, H_p, G_p⟩ := id Ab
  refine Out.via (g' := (mkF m 15 #[vI 0, vR b, vI 1, vU, vU, vU, vU, vU, vU] [(.int cl_p.slots.size.toInt32), (.int (0 : Int32)), (.ref b)])) (fun _ k => X0.arraylength hx (by rw [e0]; exact Ar_p.1) (State.isArrayOf_alike hZ.alike Ar_p.2.1) (g := (mkF m 14 #[vI 0, vR b, vI 1, vU, vU, vU, vU, vU, vU] [(.ref b), (.int (0 : Int32)), (.ref b)])) rfl rfl (hb hby own_d6_14) _ k) ?_
  rw [len_of S_p M_p]
  obtain ⟨_, _, ⟨T1, L1, kc1, ks1⟩, -, X1, ⟨Lc1, hQ1, l1, y1, z1⟩, st1⟩ := Jvm.LawKit.callS X0 hx (y := own_y2) hown (mvT hZ (W_ hw 80 rfl)) (mvT hZ (W_ hw 81 rfl)) (mvT hZ (W_ hw 82 rfl)) (mvT hZ (W_ hw 83 rfl)) (by decide) (backOf (W := 0) (own_rmHN1 l Z a0 hw [] b kb x0 x1 h0 n0 O Ab) hZ (W_ hw 83 rfl) (W_ hw 82 rfl) (by decide) (by decide)) (g := (mkF m 15 #[vI 0, vR b, vI 1, vU, vU, vU, vU, vU, vU] [(.int (1 : Int32)), (.int (0 : Int32)), (.ref b)])) rfl (by rw [hml]; rfl) (argsL := [(.ref b), (.int (0 : Int32)), (.int (1 : Int32))]) (rest := []) (lenOf own_pd7 rfl) rfl (by show 2 * 0 + _ ≤ _; exact Nat.le_of_eq rfl) (hb hby own_d6_15) (fun _ _ => ⟨rfl, e0, (by decide : 0 + 0 ≤ _), (by decide : 0 + 0 ≤ _)⟩)
  dsimp only [Pt.U, Pt.locs, Pt.cells, Pt.slots] at X1 l1 y1 z1 st1 hQ1
  subst l1 y1 z1
  obtain ⟨hc, Nq1, eq1⟩ := hQ1
  replace N0 := Fr.app N0 Nq1
  rcases hc with ⟨rfl, hp⟩ | ⟨rfl, hp⟩
  · refine Out.via (g' := (mkF m 18 #[vI 0, vR b, vI 1, vU, vU, vU, vU, vU, vU] [(.int (0 : Int32))])) st1 ?_
    refine Out.via (g' := (mkF m 21 #[vI 0, vR b, vI 1, vU, vU, vU, vU, vU, vU] [])) (fun _ k => XS.ifNo X1.here hx rfl (hb hby own_d6_18) rfl ((if0 _ _).trans (teq rfl).2) k) ?_
    refine Out.via (g' := (mkF m 22 #[vI 0, vR b, vI 1, vU, vU, vU, vU, vU, vU] [(.ref b)])) (fun _ k => XS.aloadN X1.here hx rfl (hb hby own_d6_21) rfl rfl k) ?_
    obtain ⟨T2, h2, X2, e2, E2, V_t, Ea_t, st2⟩ := cloneH X1 hx hZ hown (W_ hw 87 rfl) (W_ hw 88 rfl) (W_ hw 92 rfl) (W_ hw 90 rfl) (W_ hw 91 rfl) (W_ hw 93 rfl) eq1 (hs := []) Ab Eb (g := (mkF m 22 #[vI 0, vR b, vI 1, vU, vU, vU, vU, vU, vU] [(.ref b)])) rfl (by rw [hml]; rfl) rfl (hb hby own_d6_22) (by decide) (W := 0) (cap := 1) (by show 2 * 0 + _ ≤ _; exact Nat.le_of_eq rfl) (by decide) (by decide) (by decide) (by decide)
    obtain ⟨t, gq2⟩ : ∃ z, z = h0.size := ⟨_, rfl⟩
    rw [← gq2] at V_t Ea_t st2
    replace V_t : Arv Z h2 t kb .byte (1 : Int32) [(.int x0)] (.int (0 : Int32)) := V_t
    have ne_b_t : b ≠ t := Nat.ne_of_lt (Nat.lt_of_lt_of_le Eb.lt (Nat.le_of_eq gq2.symm))
    have g_t : n0 ≤ t := Nat.le_trans (own_z0 O) (Nat.le_of_eq gq2.symm)
    have sz_t : h0.size ≤ t := Nat.le_trans Kp.1 (Nat.le_of_eq gq2.symm)
    replace Eb := Eb.ext E2
    replace Ab := Ab.ext E2
    replace O := O.ext E2
    replace Kp := Kp.ext E2
    refine Out.via (g' := (mkF m 25 #[vI 0, vR b, vI 1, vU, vU, vU, vU, vU, vU] [(.ref t)])) st2 ?_
    obtain ⟨T3, X3, e3, st3⟩ := castY X2 hx hZ hown (W_ hw 94 rfl) e2 (Ins.self Ea_t) (g := (mkF m 25 #[vI 0, vR b, vI 1, vU, vU, vU, vU, vU, vU] [(.ref t)])) rfl rfl (hb hby own_d6_25)
    refine Out.via (g' := (mkF m 28 #[vI 0, vR b, vI 1, vU, vU, vU, vU, vU, vU] [(.ref t)])) st3 ?_
    exact Out.endN X3 (fun h => by rw [Bd.returns] at h; cases h) Bd.notSynchronized (by decide) (by decide) (by rw [e3]; exact ⟨t, _, _, _, rfl, N0, Kp, V_t, by decide, by decide⟩) (fun fs hr => own_retR X3 hx (t := (.array .byte)) Bd.returns rfl rfl rfl (hb hby own_d6_28) hr)
  · refine Out.via (g' := (mkF m 18 #[vI 0, vR b, vI 1, vU, vU, vU, vU, vU, vU] [(.int (1 : Int32))])) st1 ?_
    refine Out.via (g' := (mkF m 29 #[vI 0, vR b, vI 1, vU, vU, vU, vU, vU, vU] [])) (fun _ k => XS.ifYes X1.here hx rfl (pc0 := 18) (pc' := 29) rfl (hb hby own_d6_18) rfl ((if0 _ _).trans (feq (by decide)).2) (by decide) (by decide) k) ?_
    refine Out.via (g' := (mkF m 30 #[vI 0, vR b, vI 1, vU, vU, vU, vU, vU, vU] [(.int (0 : Int32))])) (fun _ k => XS.iconst X1.here hx rfl (hb hby own_d6_29) k) ?_
    refine Out.via (g' := (mkF m 31 #[vI 0, vR b, vI 1, vI 0, vU, vU, vU, vU, vU] [])) (fun _ k => XS.istoreN X1.here hx rfl (hb hby own_d6_30) rfl (l' := #[.val (.int (0 : Int32)), .val (.ref b), .val (.int (1 : Int32)), .val (.int (0 : Int32)), .unset, .unset, .unset, .unset, .unset]) rfl k) ?_
    refine Out.via (g' := (mkF m 32 #[vI 0, vR b, vI 1, vI 0, vU, vU, vU, vU, vU] [(.ref b)])) (fun _ k => XS.aloadN X1.here hx rfl (hb hby own_d6_31) rfl rfl k) ?_
    obtain ⟨cl_q, Ar_q, q_q, S_q, M_q, H_q, G_q⟩ := id Ab
    refine Out.via (g' := (mkF m 33 #[vI 0, vR b, vI 1, vI 0, vU, vU, vU, vU, vU] [(.int cl_q.slots.size.toInt32)])) (fun _ k => X1.arraylength hx (by rw [eq1]; exact Ar_q.1) (State.isArrayOf_alike hZ.alike Ar_q.2.1) (g := (mkF m 32 #[vI 0, vR b, vI 1, vI 0, vU, vU, vU, vU, vU] [(.ref b)])) rfl rfl (hb hby own_d6_32) _ k) ?_
    rw [len_of S_q M_q]
    obtain ⟨_, _, ⟨T2, L2, kc2, ks2⟩, -, X2, ⟨Lc2, hQ2, l2, y2, z2⟩, st2⟩ := Jvm.LawKit.callS X1 hx (y := own_y4) hown (mvT hZ (W_ hw 160 rfl)) (mvT hZ (W_ hw 161 rfl)) (mvT hZ (W_ hw 21 rfl)) (mvT hZ (W_ hw 162 rfl)) (by decide) (backOf (W := 0) (own_rmNB1 l Z a0 hw [] h0 n0 O) hZ (W_ hw 162 rfl) (W_ hw 21 rfl) (by decide) (by decide)) (g := (mkF m 33 #[vI 0, vR b, vI 1, vI 0, vU, vU, vU, vU, vU] [(.int (1 : Int32))])) rfl (by rw [hml]; rfl) (argsL := [(.int (1 : Int32))]) (rest := []) (lenOf own_pd8 rfl) rfl (by show 2 * 0 + _ ≤ _; exact Nat.le_of_eq rfl) (hb hby own_d6_33) (fun _ _ => ⟨rfl, eq1, (by decide : 0 + 1 ≤ _), (by decide : 0 + 2 ≤ _)⟩)
    dsimp only [Pt.U, Pt.locs, Pt.cells, Pt.slots] at X2 l2 y2 z2 st2 hQ2
    subst l2 y2 z2
    obtain ⟨d, kd, rfl, Nq2, Kq2, sz_d, g_d, Ad⟩ := hQ2
    replace N0 := Fr.app N0 Nq2
    replace Eb := Eb.keep Kq2
    replace Ab := Ab.keep Kq2 nin0
    replace O := O.keep Kq2 all0
    replace Kp := Kp.trans Kq2 all0
    replace sz_d : h0.size ≤ d := Nat.le_trans (Keep.refl h0 []).1 sz_d
    have ne_b_d : b ≠ d := Nat.ne_of_lt (Nat.lt_of_lt_of_le Ab0 sz_d)
    refine Out.via (g' := (mkF m 36 #[vI 0, vR b, vI 1, vI 0, vU, vU, vU, vU, vU] [(.ref d)])) st2 ?_
    refine Out.via (g' := (mkF m 38 #[vI 0, vR b, vI 1, vI 0, vR d, vU, vU, vU, vU] [])) (fun _ k => XS.astore X2.here hx rfl (hb hby own_d6_36) rfl rfl (l' := #[.val (.int (0 : Int32)), .val (.ref b), .val (.int (1 : Int32)), .val (.int (0 : Int32)), .val (.ref d), .unset, .unset, .unset, .unset]) rfl k) ?_
    refine Out.via (g' := (mkF m 39 #[vI 0, vR b, vI 1, vI 0, vR d, vU, vU, vU, vU] [(.ref b)])) (fun _ k => XS.aloadN X2.here hx rfl (hb hby own_d6_38) rfl rfl k) ?_
    refine Out.via (g' := (mkF m 41 #[vI 0, vR b, vI 1, vI 0, vR d, vR b, vU, vU, vU] [])) (fun _ k => XS.astore X2.here hx rfl (hb hby own_d6_39) rfl rfl (l' := #[.val (.int (0 : Int32)), .val (.ref b), .val (.int (1 : Int32)), .val (.int (0 : Int32)), .val (.ref d), .val (.ref b), .unset, .unset, .unset]) rfl k) ?_
    refine Out.via (g' := (mkF m 43 #[vI 0, vR b, vI 1, vI 0, vR d, vR b, vU, vU, vU] [(.ref b)])) (fun _ k => XS.aload X2.here hx rfl (hb hby own_d6_41) rfl rfl k) ?_
    obtain ⟨cl_r, Ar_r, q_r, S_r, M_r, H_r, G_r⟩ := id Ab
    refine Out.via (g' := (mkF m 44 #[vI 0, vR b, vI 1, vI 0, vR d, vR b, vU, vU, vU] [(.int cl_r.slots.size.toInt32)])) (fun _ k => X2.arraylength hx Ar_r.1 (State.isArrayOf_alike hZ.alike Ar_r.2.1) (g := (mkF m 43 #[vI 0, vR b, vI 1, vI 0, vR d, vR b, vU, vU, vU] [(.ref b)])) rfl rfl (hb hby own_d6_43) _ k) ?_
    rw [len_of S_r M_r]
    refine Out.via (g' := (mkF m 46 #[vI 0, vR b, vI 1, vI 0, vR d, vR b, vI 1, vU, vU] [])) (fun _ k => XS.istore X2.here hx rfl (hb hby own_d6_44) rfl (l' := #[.val (.int (0 : Int32)), .val (.ref b), .val (.int (1 : Int32)), .val (.int (0 : Int32)), .val (.ref d), .val (.ref b), .val (.int (1 : Int32)), .unset, .unset]) rfl k) ?_
    refine Out.via (g' := (mkF m 47 #[vI 0, vR b, vI 1, vI 0, vR d, vR b, vI 1, vU, vU] [(.int (0 : Int32))])) (fun _ k => XS.iconst X2.here hx rfl (hb hby own_d6_46) k) ?_
    refine Out.via (g' := (mkF m 49 #[vI 0, vR b, vI 1, vI 0, vR d, vR b, vI 1, vI 0, vU] [])) (fun _ k => XS.istore X2.here hx rfl (hb hby own_d6_47) rfl (l' := #[.val (.int (0 : Int32)), .val (.ref b), .val (.int (1 : Int32)), .val (.int (0 : Int32)), .val (.ref d), .val (.ref b), .val (.int (1 : Int32)), .val (.int (0 : Int32)), .unset]) rfl k) ?_
    refine Out.via (g' := (mkF m 51 #[vI 0, vR b, vI 1, vI 0, vR d, vR b, vI 1, vI 0, vU] [(.int (0 : Int32))])) (fun _ k => XS.iload X2.here hx rfl (hb hby own_d6_49) rfl k) ?_
    refine Out.via (g' := (mkF m 53 #[vI 0, vR b, vI 1, vI 0, vR d, vR b, vI 1, vI 0, vU] [(.int (1 : Int32)), (.int (0 : Int32))])) (fun _ k => XS.iload X2.here hx rfl (hb hby own_d6_51) rfl k) ?_
    refine Out.via (g' := (mkF m 56 #[vI 0, vR b, vI 1, vI 0, vR d, vR b, vI 1, vI 0, vU] [])) (fun _ k => XS.icmpNo X2.here hx rfl (hb hby own_d6_53) rfl (tlt (by decide)).2.1 k) ?_
    refine Out.via (g' := (mkF m 58 #[vI 0, vR b, vI 1, vI 0, vR d, vR b, vI 1, vI 0, vU] [(.ref b)])) (fun _ k => XS.aload X2.here hx rfl (hb hby own_d6_56) rfl rfl k) ?_
    refine Out.via (g' := (mkF m 60 #[vI 0, vR b, vI 1, vI 0, vR d, vR b, vI 1, vI 0, vU] [(.int (0 : Int32)), (.ref b)])) (fun _ k => XS.iload X2.here hx rfl (hb hby own_d6_58) rfl k) ?_
    obtain ⟨cl_g0, Ar_g0, q_g0, S_g0, M_g0, H_g0, G_g0⟩ := id Ab
    have hin_g0 : ¬ ((0 : Int32) < 0 ∨ cl_g0.slots.size ≤ ((0 : Int32)).toNatClampNeg) := inb_of S_g0 ⟨by decide, by decide⟩
    refine Out.via (g' := (mkF m 61 #[vI 0, vR b, vI 1, vI 0, vR d, vR b, vI 1, vI 0, vU] [(.int x0)])) (fun _ k => X2.baloadBytes hx (j := (0 : Int32)) (v := (.int x0)) Ar_g0.1 (State.isArrayOf_alike hZ.alike Ar_g0.2.1) Ar_g0.2.2 hin_g0 (H_g0.at hin_g0 rfl) (g := (mkF m 60 #[vI 0, vR b, vI 1, vI 0, vR d, vR b, vI 1, vI 0, vU] [(.int (0 : Int32)), (.ref b)])) rfl rfl (hb hby own_d6_60) _ k) ?_
    refine Out.via (g' := (mkF m 63 #[vI 0, vR b, vI 1, vI 0, vR d, vR b, vI 1, vI 0, vI x0] [])) (fun _ k => XS.istore X2.here hx rfl (hb hby own_d6_61) rfl (l' := #[.val (.int (0 : Int32)), .val (.ref b), .val (.int (1 : Int32)), .val (.int (0 : Int32)), .val (.ref d), .val (.ref b), .val (.int (1 : Int32)), .val (.int (0 : Int32)), .val (.int x0)]) rfl k) ?_
    refine Out.via (g' := (mkF m 65 #[vI 0, vR b, vI 1, vI 0, vR d, vR b, vI 1, vI 0, vI x0] [(.int x0)])) (fun _ k => XS.iload X2.here hx rfl (hb hby own_d6_63) rfl k) ?_
    by_cases hz0 : x0 < (0 : Int32)
    · refine Out.via (g' := (mkF m 68 #[vI 0, vR b, vI 1, vI 0, vR d, vR b, vI 1, vI 0, vI x0] [])) (fun _ k => XS.ifNo X2.here hx rfl (hb hby own_d6_65) rfl ((if0 _ _).trans (tlt hz0).2.1) k) ?_
      refine Out.via (g' := (mkF m 70 #[vI 0, vR b, vI 1, vI 0, vR d, vR b, vI 1, vI 0, vI x0] [(.ref d)])) (fun _ k => XS.aload X2.here hx rfl (hb hby own_d6_68) rfl rfl k) ?_
      refine Out.via (g' := (mkF m 71 #[vI 0, vR b, vI 1, vI 0, vR d, vR b, vI 1, vI 0, vI x0] [(.int (0 : Int32)), (.ref d)])) (fun _ k => XS.iloadN X2.here hx rfl (hb hby own_d6_70) rfl k) ?_
      refine Out.via (g' := (mkF m 74 #[vI 0, vR b, vI 1, .val (.int ((0 : Int32) + (1 : Int32))), vR d, vR b, vI 1, vI 0, vI x0] [(.int (0 : Int32)), (.ref d)])) (fun _ k => XS.iinc X2.here hx rfl (hb hby own_d6_71) rfl (l' := #[.val (.int (0 : Int32)), .val (.ref b), .val (.int (1 : Int32)), .val (.int ((0 : Int32) + (1 : Int32))), .val (.ref d), .val (.ref b), .val (.int (1 : Int32)), .val (.int (0 : Int32)), .val (.int x0)]) rfl k) ?_
      refine Out.via (g' := (mkF m 77 #[vI 0, vR b, vI 1, .val (.int ((0 : Int32) + (1 : Int32))), vR d, vR b, vI 1, vI 0, vI x0] [(.int (192 : Int32)), (.int (0 : Int32)), (.ref d)])) (fun _ k => XS.sipush X2.here hx rfl (hb hby own_d6_74) k) ?_
      refine Out.via (g' := (mkF m 79 #[vI 0, vR b, vI 1, .val (.int ((0 : Int32) + (1 : Int32))), vR d, vR b, vI 1, vI 0, vI x0] [(.int x0), (.int (192 : Int32)), (.int (0 : Int32)), (.ref d)])) (fun _ k => XS.iload X2.here hx rfl (hb hby own_d6_77) rfl k) ?_
      refine Out.via (g' := (mkF m 82 #[vI 0, vR b, vI 1, .val (.int ((0 : Int32) + (1 : Int32))), vR d, vR b, vI 1, vI 0, vI x0] [(.int (255 : Int32)), (.int x0), (.int (192 : Int32)), (.int (0 : Int32)), (.ref d)])) (fun _ k => XS.sipush X2.here hx rfl (hb hby own_d6_79) k) ?_
      refine Out.via (g' := (mkF m 83 #[vI 0, vR b, vI 1, .val (.int ((0 : Int32) + (1 : Int32))), vR d, vR b, vI 1, vI 0, vI x0] [(.int (x0 &&& (255 : Int32))), (.int (192 : Int32)), (.int (0 : Int32)), (.ref d)])) (fun _ k => XS.iand X2.here hx rfl (hb hby own_d6_82) rfl k) ?_
      refine Out.via (g' := (mkF m 85 #[vI 0, vR b, vI 1, .val (.int ((0 : Int32) + (1 : Int32))), vR d, vR b, vI 1, vI 0, vI x0] [(.int (6 : Int32)), (.int (x0 &&& (255 : Int32))), (.int (192 : Int32)), (.int (0 : Int32)), (.ref d)])) (fun _ k => XS.bipush X2.here hx rfl (hb hby own_d6_83) k) ?_
      refine Out.via (g' := (mkF m 86 #[vI 0, vR b, vI 1, .val (.int ((0 : Int32) + (1 : Int32))), vR d, vR b, vI 1, vI 0, vI x0] [(.int ((x0 &&& (255 : Int32)) >>> ((6 : Int32) &&& 31))), (.int (192 : Int32)), (.int (0 : Int32)), (.ref d)])) (fun _ k => XS.ishr X2.here hx rfl (hb hby own_d6_85) rfl k) ?_
      refine Out.via (g' := (mkF m 87 #[vI 0, vR b, vI 1, .val (.int ((0 : Int32) + (1 : Int32))), vR d, vR b, vI 1, vI 0, vI x0] [(.int ((192 : Int32) ||| ((x0 &&& (255 : Int32)) >>> ((6 : Int32) &&& 31)))), (.int (0 : Int32)), (.ref d)])) (fun _ k => XS.ior X2.here hx rfl (hb hby own_d6_86) rfl k) ?_
      refine Out.via (g' := (mkF m 88 #[vI 0, vR b, vI 1, .val (.int ((0 : Int32) + (1 : Int32))), vR d, vR b, vI 1, vI 0, vI x0] [(.int (((192 : Int32) ||| ((x0 &&& (255 : Int32)) >>> ((6 : Int32) &&& 31))).toInt8.toInt32)), (.int (0 : Int32)), (.ref d)])) (fun _ k => XS.i2b X2.here hx rfl (hb hby own_d6_87) rfl k) ?_
      obtain ⟨clz3, Arz3, qz3, Sz3, Mz3, Hz3, Gz3⟩ := Ad
      have hin3 : ¬ ((0 : Int32) < 0 ∨ clz3.slots.size ≤ ((0 : Int32)).toNatClampNeg) := inb_of Sz3 ⟨by decide, by decide⟩
      obtain ⟨T3, h3, X3, e3, W3, st3⟩ := stB X2 hx hZ rfl Arz3 (j := (0 : Int32)) hin3 (g := (mkF m 88 #[vI 0, vR b, vI 1, .val (.int ((0 : Int32) + (1 : Int32))), vR d, vR b, vI 1, vI 0, vI x0] [(.int (((192 : Int32) ||| ((x0 &&& (255 : Int32)) >>> ((6 : Int32) &&& 31))).toInt8.toInt32)), (.int (0 : Int32)), (.ref d)])) rfl rfl (hb hby own_d6_88)
      have Ad : Arv Z h3 d kd .byte (2 : Int32) [(.int (nar .byte (((192 : Int32) ||| ((x0 &&& (255 : Int32)) >>> ((6 : Int32) &&& 31))).toInt8.toInt32))), (.int (0 : Int32))] (.int (0 : Int32)) := Arv.set Arz3 qz3 Sz3 Mz3 Hz3 Gz3 (fits_nar_byte _) W3 0 rfl (Nat.le_of_ble_eq_true rfl)
      replace Eb := Eb.wr W3
      replace Ab := Ab.other W3 ne_b_d
      replace O := O.wr W3 g_d
      replace Kp := Kp.wr W3 (Or.inr sz_d)
      replace N0 := Fr.snoc X3 N0 g_d
      refine Out.via (g' := (mkF m 89 #[vI 0, vR b, vI 1, .val (.int ((0 : Int32) + (1 : Int32))), vR d, vR b, vI 1, vI 0, vI x0] [])) st3 ?_
      refine Out.via (g' := (mkF m 91 #[vI 0, vR b, vI 1, .val (.int ((0 : Int32) + (1 : Int32))), vR d, vR b, vI 1, vI 0, vI x0] [(.ref d)])) (fun _ k => XS.aload X3.here hx rfl (hb hby own_d6_89) rfl rfl k) ?_
      refine Out.via (g' := (mkF m 92 #[vI 0, vR b, vI 1, .val (.int ((0 : Int32) + (1 : Int32))), vR d, vR b, vI 1, vI 0, vI x0] [(.int ((0 : Int32) + (1 : Int32))), (.ref d)])) (fun _ k => XS.iloadN X3.here hx rfl (hb hby own_d6_91) rfl k) ?_
      refine Out.via (g' := (mkF m 95 #[vI 0, vR b, vI 1, .val (.int (((0 : Int32) + (1 : Int32)) + (1 : Int32))), vR d, vR b, vI 1, vI 0, vI x0] [(.int ((0 : Int32) + (1 : Int32))), (.ref d)])) (fun _ k => XS.iinc X3.here hx rfl (hb hby own_d6_92) rfl (l' := #[.val (.int (0 : Int32)), .val (.ref b), .val (.int (1 : Int32)), .val (.int (((0 : Int32) + (1 : Int32)) + (1 : Int32))), .val (.ref d), .val (.ref b), .val (.int (1 : Int32)), .val (.int (0 : Int32)), .val (.int x0)]) rfl k) ?_
      refine Out.via (g' := (mkF m 98 #[vI 0, vR b, vI 1, .val (.int (((0 : Int32) + (1 : Int32)) + (1 : Int32))), vR d, vR b, vI 1, vI 0, vI x0] [(.int (128 : Int32)), (.int ((0 : Int32) + (1 : Int32))), (.ref d)])) (fun _ k => XS.sipush X3.here hx rfl (hb hby own_d6_95) k) ?_
      refine Out.via (g' := (mkF m 100 #[vI 0, vR b, vI 1, .val (.int (((0 : Int32) + (1 : Int32)) + (1 : Int32))), vR d, vR b, vI 1, vI 0, vI x0] [(.int x0), (.int (128 : Int32)), (.int ((0 : Int32) + (1 : Int32))), (.ref d)])) (fun _ k => XS.iload X3.here hx rfl (hb hby own_d6_98) rfl k) ?_
      refine Out.via (g' := (mkF m 102 #[vI 0, vR b, vI 1, .val (.int (((0 : Int32) + (1 : Int32)) + (1 : Int32))), vR d, vR b, vI 1, vI 0, vI x0] [(.int (63 : Int32)), (.int x0), (.int (128 : Int32)), (.int ((0 : Int32) + (1 : Int32))), (.ref d)])) (fun _ k => XS.bipush X3.here hx rfl (hb hby own_d6_100) k) ?_
      refine Out.via (g' := (mkF m 103 #[vI 0, vR b, vI 1, .val (.int (((0 : Int32) + (1 : Int32)) + (1 : Int32))), vR d, vR b, vI 1, vI 0, vI x0] [(.int (x0 &&& (63 : Int32))), (.int (128 : Int32)), (.int ((0 : Int32) + (1 : Int32))), (.ref d)])) (fun _ k => XS.iand X3.here hx rfl (hb hby own_d6_102) rfl k) ?_
      refine Out.via (g' := (mkF m 104 #[vI 0, vR b, vI 1, .val (.int (((0 : Int32) + (1 : Int32)) + (1 : Int32))), vR d, vR b, vI 1, vI 0, vI x0] [(.int ((128 : Int32) ||| (x0 &&& (63 : Int32)))), (.int ((0 : Int32) + (1 : Int32))), (.ref d)])) (fun _ k => XS.ior X3.here hx rfl (hb hby own_d6_103) rfl k) ?_
      refine Out.via (g' := (mkF m 105 #[vI 0, vR b, vI 1, .val (.int (((0 : Int32) + (1 : Int32)) + (1 : Int32))), vR d, vR b, vI 1, vI 0, vI x0] [(.int (((128 : Int32) ||| (x0 &&& (63 : Int32))).toInt8.toInt32)), (.int ((0 : Int32) + (1 : Int32))), (.ref d)])) (fun _ k => XS.i2b X3.here hx rfl (hb hby own_d6_104) rfl k) ?_
      obtain ⟨clz4, Arz4, qz4, Sz4, Mz4, Hz4, Gz4⟩ := Ad
      have hin4 : ¬ (((0 : Int32) + (1 : Int32)) < 0 ∨ clz4.slots.size ≤ (((0 : Int32) + (1 : Int32))).toNatClampNeg) := inb_of Sz4 ⟨by decide, by decide⟩
      obtain ⟨T4, h4, X4, e4, W4, st4⟩ := stB X3 hx hZ e3 Arz4 (j := ((0 : Int32) + (1 : Int32))) hin4 (g := (mkF m 105 #[vI 0, vR b, vI 1, .val (.int (((0 : Int32) + (1 : Int32)) + (1 : Int32))), vR d, vR b, vI 1, vI 0, vI x0] [(.int (((128 : Int32) ||| (x0 &&& (63 : Int32))).toInt8.toInt32)), (.int ((0 : Int32) + (1 : Int32))), (.ref d)])) rfl rfl (hb hby own_d6_105)
      have Ad : Arv Z h4 d kd .byte (2 : Int32) [(.int (nar .byte (((192 : Int32) ||| ((x0 &&& (255 : Int32)) >>> ((6 : Int32) &&& 31))).toInt8.toInt32))), (.int (nar .byte (((128 : Int32) ||| (x0 &&& (63 : Int32))).toInt8.toInt32)))] (.int (0 : Int32)) := Arv.set Arz4 qz4 Sz4 Mz4 Hz4 Gz4 (fits_nar_byte _) W4 1 rfl (Nat.le_of_ble_eq_true rfl)
      replace Eb := Eb.wr W4
      replace Ab := Ab.other W4 ne_b_d
      replace O := O.wr W4 g_d
      replace Kp := Kp.wr W4 (Or.inr sz_d)
      replace N0 := Fr.snoc X4 N0 g_d
      refine Out.via (g' := (mkF m 106 #[vI 0, vR b, vI 1, .val (.int (((0 : Int32) + (1 : Int32)) + (1 : Int32))), vR d, vR b, vI 1, vI 0, vI x0] [])) st4 ?_
      refine Out.via (g' := (mkF m 118 #[vI 0, vR b, vI 1, .val (.int (((0 : Int32) + (1 : Int32)) + (1 : Int32))), vR d, vR b, vI 1, vI 0, vI x0] [])) (fun _ k => XS.goto X4.here hx rfl (pc0 := 106) (pc' := 118) rfl (hb hby own_d6_106) (by decide) (by decide) k) ?_
      refine Out.via (g' := (mkF m 121 #[vI 0, vR b, vI 1, .val (.int (((0 : Int32) + (1 : Int32)) + (1 : Int32))), vR d, vR b, vI 1, .val (.int ((0 : Int32) + (1 : Int32))), vI x0] [])) (fun _ k => XS.iinc X4.here hx rfl (hb hby own_d6_118) rfl (l' := #[.val (.int (0 : Int32)), .val (.ref b), .val (.int (1 : Int32)), .val (.int (((0 : Int32) + (1 : Int32)) + (1 : Int32))), .val (.ref d), .val (.ref b), .val (.int (1 : Int32)), .val (.int ((0 : Int32) + (1 : Int32))), .val (.int x0)]) rfl k) ?_
      refine Out.via (g' := (mkF m 49 #[vI 0, vR b, vI 1, .val (.int (((0 : Int32) + (1 : Int32)) + (1 : Int32))), vR d, vR b, vI 1, .val (.int ((0 : Int32) + (1 : Int32))), vI x0] [])) (fun _ k => XS.goto X4.here hx rfl (pc0 := 121) (pc' := 49) rfl (hb hby own_d6_121) (by decide) (by decide) k) ?_
      refine Out.via (g' := (mkF m 51 #[vI 0, vR b, vI 1, .val (.int (((0 : Int32) + (1 : Int32)) + (1 : Int32))), vR d, vR b, vI 1, .val (.int ((0 : Int32) + (1 : Int32))), vI x0] [(.int ((0 : Int32) + (1 : Int32)))])) (fun _ k => XS.iload X4.here hx rfl (hb hby own_d6_49) rfl k) ?_
      refine Out.via (g' := (mkF m 53 #[vI 0, vR b, vI 1, .val (.int (((0 : Int32) + (1 : Int32)) + (1 : Int32))), vR d, vR b, vI 1, .val (.int ((0 : Int32) + (1 : Int32))), vI x0] [(.int (1 : Int32)), (.int ((0 : Int32) + (1 : Int32)))])) (fun _ k => XS.iload X4.here hx rfl (hb hby own_d6_51) rfl k) ?_
      refine Out.via (g' := (mkF m 124 #[vI 0, vR b, vI 1, .val (.int (((0 : Int32) + (1 : Int32)) + (1 : Int32))), vR d, vR b, vI 1, .val (.int ((0 : Int32) + (1 : Int32))), vI x0] [])) (fun _ k => XS.icmpYes X4.here hx rfl (pc0 := 53) (pc' := 124) rfl (hb hby own_d6_53) rfl (flt (by decide)).2.1 (by decide) (by decide) k) ?_
      refine Out.via (g' := (mkF m 125 #[vI 0, vR b, vI 1, .val (.int (((0 : Int32) + (1 : Int32)) + (1 : Int32))), vR d, vR b, vI 1, .val (.int ((0 : Int32) + (1 : Int32))), vI x0] [(.int (((0 : Int32) + (1 : Int32)) + (1 : Int32)))])) (fun _ k => XS.iloadN X4.here hx rfl (hb hby own_d6_124) rfl k) ?_
      refine Out.via (g' := (mkF m 127 #[vI 0, vR b, vI 1, .val (.int (((0 : Int32) + (1 : Int32)) + (1 : Int32))), vR d, vR b, vI 1, .val (.int ((0 : Int32) + (1 : Int32))), vI x0] [(.ref d), (.int (((0 : Int32) + (1 : Int32)) + (1 : Int32)))])) (fun _ k => XS.aload X4.here hx rfl (hb hby own_d6_125) rfl rfl k) ?_
      obtain ⟨cl_f, Ar_f, q_f, S_f, M_f, H_f, G_f⟩ := id Ad
      refine Out.via (g' := (mkF m 128 #[vI 0, vR b, vI 1, .val (.int (((0 : Int32) + (1 : Int32)) + (1 : Int32))), vR d, vR b, vI 1, .val (.int ((0 : Int32) + (1 : Int32))), vI x0] [(.int cl_f.slots.size.toInt32), (.int (((0 : Int32) + (1 : Int32)) + (1 : Int32)))])) (fun _ k => X4.arraylength hx (by rw [e4]; exact Ar_f.1) (State.isArrayOf_alike hZ.alike Ar_f.2.1) (g := (mkF m 127 #[vI 0, vR b, vI 1, .val (.int (((0 : Int32) + (1 : Int32)) + (1 : Int32))), vR d, vR b, vI 1, .val (.int ((0 : Int32) + (1 : Int32))), vI x0] [(.ref d), (.int (((0 : Int32) + (1 : Int32)) + (1 : Int32)))])) rfl rfl (hb hby own_d6_127) _ k) ?_
      rw [len_of S_f M_f]
      refine Out.via (g' := (mkF m 131 #[vI 0, vR b, vI 1, .val (.int (((0 : Int32) + (1 : Int32)) + (1 : Int32))), vR d, vR b, vI 1, .val (.int ((0 : Int32) + (1 : Int32))), vI x0] [])) (fun _ k => XS.icmpNo X4.here hx rfl (hb hby own_d6_128) rfl (teq (by decide)).2 k) ?_
      refine Out.via (g' := (mkF m 133 #[vI 0, vR b, vI 1, .val (.int (((0 : Int32) + (1 : Int32)) + (1 : Int32))), vR d, vR b, vI 1, .val (.int ((0 : Int32) + (1 : Int32))), vI x0] [(.ref d)])) (fun _ k => XS.aload X4.here hx rfl (hb hby own_d6_131) rfl rfl k) ?_
      exact Out.endN X4 (fun h => by rw [Bd.returns] at h; cases h) Bd.notSynchronized (by decide) (by decide) (by rw [e4]; exact ⟨d, kd, _, _, rfl, N0, Kp, Ad, by decide, by decide⟩) (fun fs hr => own_retR X4 hx (t := (.array .byte)) Bd.returns rfl rfl rfl (hb hby own_d6_133) hr)
    · refine Out.via (g' := (mkF m 109 #[vI 0, vR b, vI 1, vI 0, vR d, vR b, vI 1, vI 0, vI x0] [])) (fun _ k => XS.ifYes X2.here hx rfl (pc0 := 65) (pc' := 109) rfl (hb hby own_d6_65) rfl ((if0 _ _).trans (flt hz0).2.1) (by decide) (by decide) k) ?_
      exact absurd hp hz0
theorem own_d6_109 : decode jdk_42_method_46_code 109 = .ok (.aload 4, 2) := by decide +kernel
theorem own_d6_111 : decode jdk_42_method_46_code 111 = .ok (.iload_n 3, 1) := by decide +kernel
theorem own_d6_112 : decode jdk_42_method_46_code 112 = .ok (.iinc 3 1, 3) := by decide +kernel
theorem own_d6_115 : decode jdk_42_method_46_code 115 = .ok (.iload 8, 2) := by decide +kernel
theorem own_d6_117 : decode jdk_42_method_46_code 117 = .ok (.bastore, 1) := by decide +kernel
theorem own_d6_134 : decode jdk_42_method_46_code 134 = .ok (.aload 4, 2) := by decide +kernel
theorem own_d6_136 : decode jdk_42_method_46_code 136 = .ok (.iload_n 3, 1) := by decide +kernel
theorem own_d6_137 : decode jdk_42_method_46_code 137 = .ok (.invokestatic 102, 3) := by decide +kernel
theorem own_pd9 : parseMethodDescriptor "([BI)[B" = some ⟨[(.array .byte), .int], some (.array .byte)⟩ := by decide +kernel
theorem own_d6_140 : decode jdk_42_method_46_code 140 = .ok (.areturn, 1) := by decide +kernel
theorem own_efUT2 (m : MethodId) (x0 : Int32) (x1 : Addr) (x2 : Int32) : entryFrame m #[(.int x0), (.ref x1), (.int x2)] 9 = mkF m 0 #[.val (.int x0), .val (.ref x1), .val (.int x2), .unset, .unset, .unset, .unset, .unset, .unset] [] := by first | (simp [entryFrame, mkF, argsToLocals, Value.category]; done) | rfl
abbrev own_QUT2 (Z : State) (b : Addr) (kb : ClassId) (x0 x1 : Int32) (h0 : Heap) (n0 : Nat) : Option Value → Heap → List Loc → Prop := fun v h L => ∃ (t : Addr) (kt : ClassId) (N : Int32) (vs : List Value), v = some (.ref t) ∧ Fr n0 L ∧ Keep h0 h [] ∧ Arv Z h t kt .byte N vs (.int (0 : Int32)) ∧ 0 < N ∧ ¬ (255 : Int32) < N
set_option maxRecDepth 65536 in
set_option maxHeartbeats 40000000 in
theorem own_rmUT2 (l : Launch) (Z : State) (a0 : Array Value) (hw : ∀ d ∈ tables_1, d.before a0 Z = true) (ws : List Jvm.Cond) (b : Addr) (kb : ClassId) (x0 x1 : Int32) (h0 : Heap) (n0 : Nat) (O : Old Z n0 h0) (Ab : Arv Z h0 b kb .byte (2 : Int32) [(.int x0), (.int x1)] (.int (0 : Int32))) (Eb : Exa Z h0 b "[B") :
    MetFree l own_y7 (head1 (Jvm.Cond.code own_y7 jdk_42_method_46_code 9 (some (.array .byte)) :: ws) ({ frames := 2, cells := 2, slots := 7, locals := 33 } : Room)) (fun aa U => aa = #[(.int (0 : Int32)), (.ref b), (.int (1 : Int32))] ∧ Z.Warmed39 U.vm ∧ U.heap = h0) (fun _ _ _ _ _ => True) (fun _ U o U' => ∃ v L, o = .returned v ∧ (own_QUT2 Z b kb x0 x1 h0 n0) v U'.heap L ∧ FrameEnd U o U' L ({ frames := 2, cells := 2, slots := 7, locals := 33 } : Room).cells ({ frames := 2, cells := 2, slots := 7, locals := 33 } : Room).slots) := by
  refine MetFree.of_bodySF (plainFor_of_name own_pn6) hisR ?_
  intro p e s m args below meth c s₁ Bd hml0 hP hK
  obtain ⟨rfl, hZ, hh⟩ := hP
  have hx := Bd.exec
  have hby := Bd.bytes
  have hml : c.maxLocals = 9 := hml0
  have hown : s.vm.findClass "java/lang/String" = some m.cls := findClass_of_methodNamed Bd.named
  have hnm := (name_of_methodNamed Bd.named Bd.method).1
  have X0 : Stand p l e ({ frames := 2, cells := 2, slots := 7, locals := 33 } : Room) s m #[(.int (0 : Int32)), (.ref b), (.int (1 : Int32))] below meth c s₁ [] 0 0 := Stand.of_body Bd
  have e0 : s₁.heap = h0 := by rw [← hh, Bd.state]; rfl
  have N0 := Fr.nil n0
  refine Out.start (Q := own_QUT2 Z b kb x0 x1 h0 n0) (own_efUT2 m (0 : Int32) b (1 : Int32) ) ?_
  have Ab0 := Ab.lt
  have Kp := Keep.refl h0 []
  refine Out.via (g' := (mkF m 1 #[vI 0, vR b, vI 1, vU, vU, vU, vU, vU, vU] [(.int (0 : Int32))])) (fun _ k => XS.iloadN X0.here hx rfl (hb hby own_d6_0) rfl k) ?_
  refine Out.via (g' := (mkF m 2 #[vI 0, vR b, vI 1, vU, vU, vU, vU, vU, vU] [(.int (1 : Int32)), (.int (0 : Int32))])) (fun _ k => XS.iconst X0.here hx rfl (hb hby own_d6_1) k) ?_
  refine Out.via (g' := (mkF m 11 #[vI 0, vR b, vI 1, vU, vU, vU, vU, vU, vU] [])) (fun _ k => XS.icmpYes X0.here hx rfl (pc0 := 2) (pc' := 11) rfl (hb hby own_d6_2) rfl (feq (by decide)).2 (by decide) (by decide) k) ?_
  refine Out.via (g' := (mkF m 12 #[vI 0, vR b, vI 1, vU, vU, vU, vU, vU, vU] [(.ref b)])) (fun _ k => XS.aloadN X0.here hx rfl (hb hby own_d6_11) rfl rfl k) ?_
  refine Out.via (g' := (mkF m 13 #[vI 0, vR b, vI 1, vU, vU, vU, vU, vU, vU] [(.int (0 : Int32)), (.ref b)])) (fun _ k => XS.iconst X0.here hx rfl (hb hby own_d6_12) k) ?_
  refine Out.via (g' := (mkF m 14 #[vI 0, vR b, vI 1, vU, vU, vU, vU, vU, vU] [(.ref b), (.int (0 : Int32)), (.ref b)])) (fun _ k => XS.aloadN X0.here hx rfl (hb hby own_d6_13) rfl rfl k) ?_
  obtain ⟨cl_p, Ar_p, q_p, S_p, M_p, H_p, G_p⟩ := id Ab
  refine Out.via (g' := (mkF m 15 #[vI 0, vR b, vI 1, vU, vU, vU, vU, vU, vU] [(.int cl_p.slots.size.toInt32), (.int (0 : Int32)), (.ref b)])) (fun _ k => X0.arraylength hx (by rw [e0]; exact Ar_p.1) (State.isArrayOf_alike hZ.alike Ar_p.2.1) (g := (mkF m 14 #[vI 0, vR b, vI 1, vU, vU, vU, vU, vU, vU] [(.ref b), (.int (0 : Int32)), (.ref b)])) rfl rfl (hb hby own_d6_14) _ k) ?_
  rw [len_of S_p M_p]
  obtain ⟨_, _, ⟨T1, L1, kc1, ks1⟩, -, X1, ⟨Lc1, hQ1, l1, y1, z1⟩, st1⟩ := Jvm.LawKit.callS X0 hx (y := own_y2) hown (mvT hZ (W_ hw 80 rfl)) (mvT hZ (W_ hw 81 rfl)) (mvT hZ (W_ hw 82 rfl)) (mvT hZ (W_ hw 83 rfl)) (by decide) (backOf (W := 0) (own_rmHN2 l Z a0 hw [] b kb x0 x1 h0 n0 O Ab) hZ (W_ hw 83 rfl) (W_ hw 82 rfl) (by decide) (by decide)) (g := (mkF m 15 #[vI 0, vR b, vI 1, vU, vU, vU, vU, vU, vU] [(.int (2 : Int32)), (.int (0 : Int32)), (.ref b)])) rfl (by rw [hml]; rfl) (argsL := [(.ref b), (.int (0 : Int32)), (.int (2 : Int32))]) (rest := []) (lenOf own_pd7 rfl) rfl (by show 2 * 0 + _ ≤ _; exact Nat.le_of_eq rfl) (hb hby own_d6_15) (fun _ _ => ⟨rfl, e0, (by decide : 0 + 0 ≤ _), (by decide : 0 + 0 ≤ _)⟩)
  dsimp only [Pt.U, Pt.locs, Pt.cells, Pt.slots] at X1 l1 y1 z1 st1 hQ1
  subst l1 y1 z1
  obtain ⟨hc, Nq1, eq1⟩ := hQ1
  replace N0 := Fr.app N0 Nq1
  rcases hc with ⟨rfl, hp⟩ | ⟨rfl, hp⟩
  · refine Out.via (g' := (mkF m 18 #[vI 0, vR b, vI 1, vU, vU, vU, vU, vU, vU] [(.int (0 : Int32))])) st1 ?_
    refine Out.via (g' := (mkF m 21 #[vI 0, vR b, vI 1, vU, vU, vU, vU, vU, vU] [])) (fun _ k => XS.ifNo X1.here hx rfl (hb hby own_d6_18) rfl ((if0 _ _).trans (teq rfl).2) k) ?_
    refine Out.via (g' := (mkF m 22 #[vI 0, vR b, vI 1, vU, vU, vU, vU, vU, vU] [(.ref b)])) (fun _ k => XS.aloadN X1.here hx rfl (hb hby own_d6_21) rfl rfl k) ?_
    obtain ⟨T2, h2, X2, e2, E2, V_t, Ea_t, st2⟩ := cloneH X1 hx hZ hown (W_ hw 87 rfl) (W_ hw 88 rfl) (W_ hw 92 rfl) (W_ hw 90 rfl) (W_ hw 91 rfl) (W_ hw 93 rfl) eq1 (hs := []) Ab Eb (g := (mkF m 22 #[vI 0, vR b, vI 1, vU, vU, vU, vU, vU, vU] [(.ref b)])) rfl (by rw [hml]; rfl) rfl (hb hby own_d6_22) (by decide) (W := 0) (cap := 2) (by show 2 * 0 + _ ≤ _; exact Nat.le_of_eq rfl) (by decide) (by decide) (by decide) (by decide)
    obtain ⟨t, gq2⟩ : ∃ z, z = h0.size := ⟨_, rfl⟩
    rw [← gq2] at V_t Ea_t st2
    replace V_t : Arv Z h2 t kb .byte (2 : Int32) [(.int x0), (.int x1)] (.int (0 : Int32)) := V_t
    have ne_b_t : b ≠ t := Nat.ne_of_lt (Nat.lt_of_lt_of_le Eb.lt (Nat.le_of_eq gq2.symm))
    have g_t : n0 ≤ t := Nat.le_trans (own_z0 O) (Nat.le_of_eq gq2.symm)
    have sz_t : h0.size ≤ t := Nat.le_trans Kp.1 (Nat.le_of_eq gq2.symm)
    replace Eb := Eb.ext E2
    replace Ab := Ab.ext E2
    replace O := O.ext E2
    replace Kp := Kp.ext E2
    refine Out.via (g' := (mkF m 25 #[vI 0, vR b, vI 1, vU, vU, vU, vU, vU, vU] [(.ref t)])) st2 ?_
    obtain ⟨T3, X3, e3, st3⟩ := castY X2 hx hZ hown (W_ hw 94 rfl) e2 (Ins.self Ea_t) (g := (mkF m 25 #[vI 0, vR b, vI 1, vU, vU, vU, vU, vU, vU] [(.ref t)])) rfl rfl (hb hby own_d6_25)
    refine Out.via (g' := (mkF m 28 #[vI 0, vR b, vI 1, vU, vU, vU, vU, vU, vU] [(.ref t)])) st3 ?_
    exact Out.endN X3 (fun h => by rw [Bd.returns] at h; cases h) Bd.notSynchronized (by decide) (by decide) (by rw [e3]; exact ⟨t, _, _, _, rfl, N0, Kp, V_t, by decide, by decide⟩) (fun fs hr => own_retR X3 hx (t := (.array .byte)) Bd.returns rfl rfl rfl (hb hby own_d6_28) hr)
  · refine Out.via (g' := (mkF m 18 #[vI 0, vR b, vI 1, vU, vU, vU, vU, vU, vU] [(.int (1 : Int32))])) st1 ?_
    refine Out.via (g' := (mkF m 29 #[vI 0, vR b, vI 1, vU, vU, vU, vU, vU, vU] [])) (fun _ k => XS.ifYes X1.here hx rfl (pc0 := 18) (pc' := 29) rfl (hb hby own_d6_18) rfl ((if0 _ _).trans (feq (by decide)).2) (by decide) (by decide) k) ?_
    refine Out.via (g' := (mkF m 30 #[vI 0, vR b, vI 1, vU, vU, vU, vU, vU, vU] [(.int (0 : Int32))])) (fun _ k => XS.iconst X1.here hx rfl (hb hby own_d6_29) k) ?_
    refine Out.via (g' := (mkF m 31 #[vI 0, vR b, vI 1, vI 0, vU, vU, vU, vU, vU] [])) (fun _ k => XS.istoreN X1.here hx rfl (hb hby own_d6_30) rfl (l' := #[.val (.int (0 : Int32)), .val (.ref b), .val (.int (1 : Int32)), .val (.int (0 : Int32)), .unset, .unset, .unset, .unset, .unset]) rfl k) ?_
    refine Out.via (g' := (mkF m 32 #[vI 0, vR b, vI 1, vI 0, vU, vU, vU, vU, vU] [(.ref b)])) (fun _ k => XS.aloadN X1.here hx rfl (hb hby own_d6_31) rfl rfl k) ?_
    obtain ⟨cl_q, Ar_q, q_q, S_q, M_q, H_q, G_q⟩ := id Ab
    refine Out.via (g' := (mkF m 33 #[vI 0, vR b, vI 1, vI 0, vU, vU, vU, vU, vU] [(.int cl_q.slots.size.toInt32)])) (fun _ k => X1.arraylength hx (by rw [eq1]; exact Ar_q.1) (State.isArrayOf_alike hZ.alike Ar_q.2.1) (g := (mkF m 32 #[vI 0, vR b, vI 1, vI 0, vU, vU, vU, vU, vU] [(.ref b)])) rfl rfl (hb hby own_d6_32) _ k) ?_
    rw [len_of S_q M_q]
    obtain ⟨_, _, ⟨T2, L2, kc2, ks2⟩, -, X2, ⟨Lc2, hQ2, l2, y2, z2⟩, st2⟩ := Jvm.LawKit.callS X1 hx (y := own_y4) hown (mvT hZ (W_ hw 160 rfl)) (mvT hZ (W_ hw 161 rfl)) (mvT hZ (W_ hw 21 rfl)) (mvT hZ (W_ hw 162 rfl)) (by decide) (backOf (W := 0) (own_rmNB2 l Z a0 hw [] h0 n0 O) hZ (W_ hw 162 rfl) (W_ hw 21 rfl) (by decide) (by decide)) (g := (mkF m 33 #[vI 0, vR b, vI 1, vI 0, vU, vU, vU, vU, vU] [(.int (2 : Int32))])) rfl (by rw [hml]; rfl) (argsL := [(.int (2 : Int32))]) (rest := []) (lenOf own_pd8 rfl) rfl (by show 2 * 0 + _ ≤ _; exact Nat.le_of_eq rfl) (hb hby own_d6_33) (fun _ _ => ⟨rfl, eq1, (by decide : 0 + 1 ≤ _), (by decide : 0 + 4 ≤ _)⟩)
    dsimp only [Pt.U, Pt.locs, Pt.cells, Pt.slots] at X2 l2 y2 z2 st2 hQ2
    subst l2 y2 z2
    obtain ⟨d, kd, rfl, Nq2, Kq2, sz_d, g_d, Ad⟩ := hQ2
    replace N0 := Fr.app N0 Nq2
    replace Eb := Eb.keep Kq2
    replace Ab := Ab.keep Kq2 nin0
    replace O := O.keep Kq2 all0
    replace Kp := Kp.trans Kq2 all0
    replace sz_d : h0.size ≤ d := Nat.le_trans (Keep.refl h0 []).1 sz_d
    have ne_b_d : b ≠ d := Nat.ne_of_lt (Nat.lt_of_lt_of_le Ab0 sz_d)
    refine Out.via (g' := (mkF m 36 #[vI 0, vR b, vI 1, vI 0, vU, vU, vU, vU, vU] [(.ref d)])) st2 ?_
    refine Out.via (g' := (mkF m 38 #[vI 0, vR b, vI 1, vI 0, vR d, vU, vU, vU, vU] [])) (fun _ k => XS.astore X2.here hx rfl (hb hby own_d6_36) rfl rfl (l' := #[.val (.int (0 : Int32)), .val (.ref b), .val (.int (1 : Int32)), .val (.int (0 : Int32)), .val (.ref d), .unset, .unset, .unset, .unset]) rfl k) ?_
    refine Out.via (g' := (mkF m 39 #[vI 0, vR b, vI 1, vI 0, vR d, vU, vU, vU, vU] [(.ref b)])) (fun _ k => XS.aloadN X2.here hx rfl (hb hby own_d6_38) rfl rfl k) ?_
    refine Out.via (g' := (mkF m 41 #[vI 0, vR b, vI 1, vI 0, vR d, vR b, vU, vU, vU] [])) (fun _ k => XS.astore X2.here hx rfl (hb hby own_d6_39) rfl rfl (l' := #[.val (.int (0 : Int32)), .val (.ref b), .val (.int (1 : Int32)), .val (.int (0 : Int32)), .val (.ref d), .val (.ref b), .unset, .unset, .unset]) rfl k) ?_
    refine Out.via (g' := (mkF m 43 #[vI 0, vR b, vI 1, vI 0, vR d, vR b, vU, vU, vU] [(.ref b)])) (fun _ k => XS.aload X2.here hx rfl (hb hby own_d6_41) rfl rfl k) ?_
    obtain ⟨cl_r, Ar_r, q_r, S_r, M_r, H_r, G_r⟩ := id Ab
    refine Out.via (g' := (mkF m 44 #[vI 0, vR b, vI 1, vI 0, vR d, vR b, vU, vU, vU] [(.int cl_r.slots.size.toInt32)])) (fun _ k => X2.arraylength hx Ar_r.1 (State.isArrayOf_alike hZ.alike Ar_r.2.1) (g := (mkF m 43 #[vI 0, vR b, vI 1, vI 0, vR d, vR b, vU, vU, vU] [(.ref b)])) rfl rfl (hb hby own_d6_43) _ k) ?_
    rw [len_of S_r M_r]
    refine Out.via (g' := (mkF m 46 #[vI 0, vR b, vI 1, vI 0, vR d, vR b, vI 2, vU, vU] [])) (fun _ k => XS.istore X2.here hx rfl (hb hby own_d6_44) rfl (l' := #[.val (.int (0 : Int32)), .val (.ref b), .val (.int (1 : Int32)), .val (.int (0 : Int32)), .val (.ref d), .val (.ref b), .val (.int (2 : Int32)), .unset, .unset]) rfl k) ?_
    refine Out.via (g' := (mkF m 47 #[vI 0, vR b, vI 1, vI 0, vR d, vR b, vI 2, vU, vU] [(.int (0 : Int32))])) (fun _ k => XS.iconst X2.here hx rfl (hb hby own_d6_46) k) ?_
    refine Out.via (g' := (mkF m 49 #[vI 0, vR b, vI 1, vI 0, vR d, vR b, vI 2, vI 0, vU] [])) (fun _ k => XS.istore X2.here hx rfl (hb hby own_d6_47) rfl (l' := #[.val (.int (0 : Int32)), .val (.ref b), .val (.int (1 : Int32)), .val (.int (0 : Int32)), .val (.ref d), .val (.ref b), .val (.int (2 : Int32)), .val (.int (0 : Int32)), .unset]) rfl k) ?_
    refine Out.via (g' := (mkF m 51 #[vI 0, vR b, vI 1, vI 0, vR d, vR b, vI 2, vI 0, vU] [(.int (0 : Int32))])) (fun _ k => XS.iload X2.here hx rfl (hb hby own_d6_49) rfl k) ?_
    refine Out.via (g' := (mkF m 53 #[vI 0, vR b, vI 1, vI 0, vR d, vR b, vI 2, vI 0, vU] [(.int (2 : Int32)), (.int (0 : Int32))])) (fun _ k => XS.iload X2.here hx rfl (hb hby own_d6_51) rfl k) ?_
    refine Out.via (g' := (mkF m 56 #[vI 0, vR b, vI 1, vI 0, vR d, vR b, vI 2, vI 0, vU] [])) (fun _ k => XS.icmpNo X2.here hx rfl (hb hby own_d6_53) rfl (tlt (by decide)).2.1 k) ?_
    refine Out.via (g' := (mkF m 58 #[vI 0, vR b, vI 1, vI 0, vR d, vR b, vI 2, vI 0, vU] [(.ref b)])) (fun _ k => XS.aload X2.here hx rfl (hb hby own_d6_56) rfl rfl k) ?_
    refine Out.via (g' := (mkF m 60 #[vI 0, vR b, vI 1, vI 0, vR d, vR b, vI 2, vI 0, vU] [(.int (0 : Int32)), (.ref b)])) (fun _ k => XS.iload X2.here hx rfl (hb hby own_d6_58) rfl k) ?_
    obtain ⟨cl_g0, Ar_g0, q_g0, S_g0, M_g0, H_g0, G_g0⟩ := id Ab
    have hin_g0 : ¬ ((0 : Int32) < 0 ∨ cl_g0.slots.size ≤ ((0 : Int32)).toNatClampNeg) := inb_of S_g0 ⟨by decide, by decide⟩
    refine Out.via (g' := (mkF m 61 #[vI 0, vR b, vI 1, vI 0, vR d, vR b, vI 2, vI 0, vU] [(.int x0)])) (fun _ k => X2.baloadBytes hx (j := (0 : Int32)) (v := (.int x0)) Ar_g0.1 (State.isArrayOf_alike hZ.alike Ar_g0.2.1) Ar_g0.2.2 hin_g0 (H_g0.at hin_g0 rfl) (g := (mkF m 60 #[vI 0, vR b, vI 1, vI 0, vR d, vR b, vI 2, vI 0, vU] [(.int (0 : Int32)), (.ref b)])) rfl rfl (hb hby own_d6_60) _ k) ?_
    refine Out.via (g' := (mkF m 63 #[vI 0, vR b, vI 1, vI 0, vR d, vR b, vI 2, vI 0, vI x0] [])) (fun _ k => XS.istore X2.here hx rfl (hb hby own_d6_61) rfl (l' := #[.val (.int (0 : Int32)), .val (.ref b), .val (.int (1 : Int32)), .val (.int (0 : Int32)), .val (.ref d), .val (.ref b), .val (.int (2 : Int32)), .val (.int (0 : Int32)), .val (.int x0)]) rfl k) ?_
    refine Out.via (g' := (mkF m 65 #[vI 0, vR b, vI 1, vI 0, vR d, vR b, vI 2, vI 0, vI x0] [(.int x0)])) (fun _ k => XS.iload X2.here hx rfl (hb hby own_d6_63) rfl k) ?_
    by_cases hz0 : x0 < (0 : Int32)
    · refine Out.via (g' := (mkF m 68 #[vI 0, vR b, vI 1, vI 0, vR d, vR b, vI 2, vI 0, vI x0] [])) (fun _ k => XS.ifNo X2.here hx rfl (hb hby own_d6_65) rfl ((if0 _ _).trans (tlt hz0).2.1) k) ?_
      refine Out.via (g' := (mkF m 70 #[vI 0, vR b, vI 1, vI 0, vR d, vR b, vI 2, vI 0, vI x0] [(.ref d)])) (fun _ k => XS.aload X2.here hx rfl (hb hby own_d6_68) rfl rfl k) ?_
      refine Out.via (g' := (mkF m 71 #[vI 0, vR b, vI 1, vI 0, vR d, vR b, vI 2, vI 0, vI x0] [(.int (0 : Int32)), (.ref d)])) (fun _ k => XS.iloadN X2.here hx rfl (hb hby own_d6_70) rfl k) ?_
      refine Out.via (g' := (mkF m 74 #[vI 0, vR b, vI 1, .val (.int ((0 : Int32) + (1 : Int32))), vR d, vR b, vI 2, vI 0, vI x0] [(.int (0 : Int32)), (.ref d)])) (fun _ k => XS.iinc X2.here hx rfl (hb hby own_d6_71) rfl (l' := #[.val (.int (0 : Int32)), .val (.ref b), .val (.int (1 : Int32)), .val (.int ((0 : Int32) + (1 : Int32))), .val (.ref d), .val (.ref b), .val (.int (2 : Int32)), .val (.int (0 : Int32)), .val (.int x0)]) rfl k) ?_
      refine Out.via (g' := (mkF m 77 #[vI 0, vR b, vI 1, .val (.int ((0 : Int32) + (1 : Int32))), vR d, vR b, vI 2, vI 0, vI x0] [(.int (192 : Int32)), (.int (0 : Int32)), (.ref d)])) (fun _ k => XS.sipush X2.here hx rfl (hb hby own_d6_74) k) ?_
      refine Out.via (g' := (mkF m 79 #[vI 0, vR b, vI 1, .val (.int ((0 : Int32) + (1 : Int32))), vR d, vR b, vI 2, vI 0, vI x0] [(.int x0), (.int (192 : Int32)), (.int (0 : Int32)), (.ref d)])) (fun _ k => XS.iload X2.here hx rfl (hb hby own_d6_77) rfl k) ?_
      refine Out.via (g' := (mkF m 82 #[vI 0, vR b, vI 1, .val (.int ((0 : Int32) + (1 : Int32))), vR d, vR b, vI 2, vI 0, vI x0] [(.int (255 : Int32)), (.int x0), (.int (192 : Int32)), (.int (0 : Int32)), (.ref d)])) (fun _ k => XS.sipush X2.here hx rfl (hb hby own_d6_79) k) ?_
      refine Out.via (g' := (mkF m 83 #[vI 0, vR b, vI 1, .val (.int ((0 : Int32) + (1 : Int32))), vR d, vR b, vI 2, vI 0, vI x0] [(.int (x0 &&& (255 : Int32))), (.int (192 : Int32)), (.int (0 : Int32)), (.ref d)])) (fun _ k => XS.iand X2.here hx rfl (hb hby own_d6_82) rfl k) ?_
      refine Out.via (g' := (mkF m 85 #[vI 0, vR b, vI 1, .val (.int ((0 : Int32) + (1 : Int32))), vR d, vR b, vI 2, vI 0, vI x0] [(.int (6 : Int32)), (.int (x0 &&& (255 : Int32))), (.int (192 : Int32)), (.int (0 : Int32)), (.ref d)])) (fun _ k => XS.bipush X2.here hx rfl (hb hby own_d6_83) k) ?_
      refine Out.via (g' := (mkF m 86 #[vI 0, vR b, vI 1, .val (.int ((0 : Int32) + (1 : Int32))), vR d, vR b, vI 2, vI 0, vI x0] [(.int ((x0 &&& (255 : Int32)) >>> ((6 : Int32) &&& 31))), (.int (192 : Int32)), (.int (0 : Int32)), (.ref d)])) (fun _ k => XS.ishr X2.here hx rfl (hb hby own_d6_85) rfl k) ?_
      refine Out.via (g' := (mkF m 87 #[vI 0, vR b, vI 1, .val (.int ((0 : Int32) + (1 : Int32))), vR d, vR b, vI 2, vI 0, vI x0] [(.int ((192 : Int32) ||| ((x0 &&& (255 : Int32)) >>> ((6 : Int32) &&& 31)))), (.int (0 : Int32)), (.ref d)])) (fun _ k => XS.ior X2.here hx rfl (hb hby own_d6_86) rfl k) ?_
      refine Out.via (g' := (mkF m 88 #[vI 0, vR b, vI 1, .val (.int ((0 : Int32) + (1 : Int32))), vR d, vR b, vI 2, vI 0, vI x0] [(.int (((192 : Int32) ||| ((x0 &&& (255 : Int32)) >>> ((6 : Int32) &&& 31))).toInt8.toInt32)), (.int (0 : Int32)), (.ref d)])) (fun _ k => XS.i2b X2.here hx rfl (hb hby own_d6_87) rfl k) ?_
      obtain ⟨clz3, Arz3, qz3, Sz3, Mz3, Hz3, Gz3⟩ := Ad
      have hin3 : ¬ ((0 : Int32) < 0 ∨ clz3.slots.size ≤ ((0 : Int32)).toNatClampNeg) := inb_of Sz3 ⟨by decide, by decide⟩
      obtain ⟨T3, h3, X3, e3, W3, st3⟩ := stB X2 hx hZ rfl Arz3 (j := (0 : Int32)) hin3 (g := (mkF m 88 #[vI 0, vR b, vI 1, .val (.int ((0 : Int32) + (1 : Int32))), vR d, vR b, vI 2, vI 0, vI x0] [(.int (((192 : Int32) ||| ((x0 &&& (255 : Int32)) >>> ((6 : Int32) &&& 31))).toInt8.toInt32)), (.int (0 : Int32)), (.ref d)])) rfl rfl (hb hby own_d6_88)
      have Ad : Arv Z h3 d kd .byte (4 : Int32) [(.int (nar .byte (((192 : Int32) ||| ((x0 &&& (255 : Int32)) >>> ((6 : Int32) &&& 31))).toInt8.toInt32))), (.int (0 : Int32)), (.int (0 : Int32)), (.int (0 : Int32))] (.int (0 : Int32)) := Arv.set Arz3 qz3 Sz3 Mz3 Hz3 Gz3 (fits_nar_byte _) W3 0 rfl (Nat.le_of_ble_eq_true rfl)
      replace Eb := Eb.wr W3
      replace Ab := Ab.other W3 ne_b_d
      replace O := O.wr W3 g_d
      replace Kp := Kp.wr W3 (Or.inr sz_d)
      replace N0 := Fr.snoc X3 N0 g_d
      refine Out.via (g' := (mkF m 89 #[vI 0, vR b, vI 1, .val (.int ((0 : Int32) + (1 : Int32))), vR d, vR b, vI 2, vI 0, vI x0] [])) st3 ?_
      refine Out.via (g' := (mkF m 91 #[vI 0, vR b, vI 1, .val (.int ((0 : Int32) + (1 : Int32))), vR d, vR b, vI 2, vI 0, vI x0] [(.ref d)])) (fun _ k => XS.aload X3.here hx rfl (hb hby own_d6_89) rfl rfl k) ?_
      refine Out.via (g' := (mkF m 92 #[vI 0, vR b, vI 1, .val (.int ((0 : Int32) + (1 : Int32))), vR d, vR b, vI 2, vI 0, vI x0] [(.int ((0 : Int32) + (1 : Int32))), (.ref d)])) (fun _ k => XS.iloadN X3.here hx rfl (hb hby own_d6_91) rfl k) ?_
      refine Out.via (g' := (mkF m 95 #[vI 0, vR b, vI 1, .val (.int (((0 : Int32) + (1 : Int32)) + (1 : Int32))), vR d, vR b, vI 2, vI 0, vI x0] [(.int ((0 : Int32) + (1 : Int32))), (.ref d)])) (fun _ k => XS.iinc X3.here hx rfl (hb hby own_d6_92) rfl (l' := #[.val (.int (0 : Int32)), .val (.ref b), .val (.int (1 : Int32)), .val (.int (((0 : Int32) + (1 : Int32)) + (1 : Int32))), .val (.ref d), .val (.ref b), .val (.int (2 : Int32)), .val (.int (0 : Int32)), .val (.int x0)]) rfl k) ?_
      refine Out.via (g' := (mkF m 98 #[vI 0, vR b, vI 1, .val (.int (((0 : Int32) + (1 : Int32)) + (1 : Int32))), vR d, vR b, vI 2, vI 0, vI x0] [(.int (128 : Int32)), (.int ((0 : Int32) + (1 : Int32))), (.ref d)])) (fun _ k => XS.sipush X3.here hx rfl (hb hby own_d6_95) k) ?_
      refine Out.via (g' := (mkF m 100 #[vI 0, vR b, vI 1, .val (.int (((0 : Int32) + (1 : Int32)) + (1 : Int32))), vR d, vR b, vI 2, vI 0, vI x0] [(.int x0), (.int (128 : Int32)), (.int ((0 : Int32) + (1 : Int32))), (.ref d)])) (fun _ k => XS.iload X3.here hx rfl (hb hby own_d6_98) rfl k) ?_
      refine Out.via (g' := (mkF m 102 #[vI 0, vR b, vI 1, .val (.int (((0 : Int32) + (1 : Int32)) + (1 : Int32))), vR d, vR b, vI 2, vI 0, vI x0] [(.int (63 : Int32)), (.int x0), (.int (128 : Int32)), (.int ((0 : Int32) + (1 : Int32))), (.ref d)])) (fun _ k => XS.bipush X3.here hx rfl (hb hby own_d6_100) k) ?_
      refine Out.via (g' := (mkF m 103 #[vI 0, vR b, vI 1, .val (.int (((0 : Int32) + (1 : Int32)) + (1 : Int32))), vR d, vR b, vI 2, vI 0, vI x0] [(.int (x0 &&& (63 : Int32))), (.int (128 : Int32)), (.int ((0 : Int32) + (1 : Int32))), (.ref d)])) (fun _ k => XS.iand X3.here hx rfl (hb hby own_d6_102) rfl k) ?_
      refine Out.via (g' := (mkF m 104 #[vI 0, vR b, vI 1, .val (.int (((0 : Int32) + (1 : Int32)) + (1 : Int32))), vR d, vR b, vI 2, vI 0, vI x0] [(.int ((128 : Int32) ||| (x0 &&& (63 : Int32)))), (.int ((0 : Int32) + (1 : Int32))), (.ref d)])) (fun _ k => XS.ior X3.here hx rfl (hb hby own_d6_103) rfl k) ?_
      refine Out.via (g' := (mkF m 105 #[vI 0, vR b, vI 1, .val (.int (((0 : Int32) + (1 : Int32)) + (1 : Int32))), vR d, vR b, vI 2, vI 0, vI x0] [(.int (((128 : Int32) ||| (x0 &&& (63 : Int32))).toInt8.toInt32)), (.int ((0 : Int32) + (1 : Int32))), (.ref d)])) (fun _ k => XS.i2b X3.here hx rfl (hb hby own_d6_104) rfl k) ?_
      obtain ⟨clz4, Arz4, qz4, Sz4, Mz4, Hz4, Gz4⟩ := Ad
      have hin4 : ¬ (((0 : Int32) + (1 : Int32)) < 0 ∨ clz4.slots.size ≤ (((0 : Int32) + (1 : Int32))).toNatClampNeg) := inb_of Sz4 ⟨by decide, by decide⟩
      obtain ⟨T4, h4, X4, e4, W4, st4⟩ := stB X3 hx hZ e3 Arz4 (j := ((0 : Int32) + (1 : Int32))) hin4 (g := (mkF m 105 #[vI 0, vR b, vI 1, .val (.int (((0 : Int32) + (1 : Int32)) + (1 : Int32))), vR d, vR b, vI 2, vI 0, vI x0] [(.int (((128 : Int32) ||| (x0 &&& (63 : Int32))).toInt8.toInt32)), (.int ((0 : Int32) + (1 : Int32))), (.ref d)])) rfl rfl (hb hby own_d6_105)
      have Ad : Arv Z h4 d kd .byte (4 : Int32) [(.int (nar .byte (((192 : Int32) ||| ((x0 &&& (255 : Int32)) >>> ((6 : Int32) &&& 31))).toInt8.toInt32))), (.int (nar .byte (((128 : Int32) ||| (x0 &&& (63 : Int32))).toInt8.toInt32))), (.int (0 : Int32)), (.int (0 : Int32))] (.int (0 : Int32)) := Arv.set Arz4 qz4 Sz4 Mz4 Hz4 Gz4 (fits_nar_byte _) W4 1 rfl (Nat.le_of_ble_eq_true rfl)
      replace Eb := Eb.wr W4
      replace Ab := Ab.other W4 ne_b_d
      replace O := O.wr W4 g_d
      replace Kp := Kp.wr W4 (Or.inr sz_d)
      replace N0 := Fr.snoc X4 N0 g_d
      refine Out.via (g' := (mkF m 106 #[vI 0, vR b, vI 1, .val (.int (((0 : Int32) + (1 : Int32)) + (1 : Int32))), vR d, vR b, vI 2, vI 0, vI x0] [])) st4 ?_
      refine Out.via (g' := (mkF m 118 #[vI 0, vR b, vI 1, .val (.int (((0 : Int32) + (1 : Int32)) + (1 : Int32))), vR d, vR b, vI 2, vI 0, vI x0] [])) (fun _ k => XS.goto X4.here hx rfl (pc0 := 106) (pc' := 118) rfl (hb hby own_d6_106) (by decide) (by decide) k) ?_
      refine Out.via (g' := (mkF m 121 #[vI 0, vR b, vI 1, .val (.int (((0 : Int32) + (1 : Int32)) + (1 : Int32))), vR d, vR b, vI 2, .val (.int ((0 : Int32) + (1 : Int32))), vI x0] [])) (fun _ k => XS.iinc X4.here hx rfl (hb hby own_d6_118) rfl (l' := #[.val (.int (0 : Int32)), .val (.ref b), .val (.int (1 : Int32)), .val (.int (((0 : Int32) + (1 : Int32)) + (1 : Int32))), .val (.ref d), .val (.ref b), .val (.int (2 : Int32)), .val (.int ((0 : Int32) + (1 : Int32))), .val (.int x0)]) rfl k) ?_
      refine Out.via (g' := (mkF m 49 #[vI 0, vR b, vI 1, .val (.int (((0 : Int32) + (1 : Int32)) + (1 : Int32))), vR d, vR b, vI 2, .val (.int ((0 : Int32) + (1 : Int32))), vI x0] [])) (fun _ k => XS.goto X4.here hx rfl (pc0 := 121) (pc' := 49) rfl (hb hby own_d6_121) (by decide) (by decide) k) ?_
      refine Out.via (g' := (mkF m 51 #[vI 0, vR b, vI 1, .val (.int (((0 : Int32) + (1 : Int32)) + (1 : Int32))), vR d, vR b, vI 2, .val (.int ((0 : Int32) + (1 : Int32))), vI x0] [(.int ((0 : Int32) + (1 : Int32)))])) (fun _ k => XS.iload X4.here hx rfl (hb hby own_d6_49) rfl k) ?_
      refine Out.via (g' := (mkF m 53 #[vI 0, vR b, vI 1, .val (.int (((0 : Int32) + (1 : Int32)) + (1 : Int32))), vR d, vR b, vI 2, .val (.int ((0 : Int32) + (1 : Int32))), vI x0] [(.int (2 : Int32)), (.int ((0 : Int32) + (1 : Int32)))])) (fun _ k => XS.iload X4.here hx rfl (hb hby own_d6_51) rfl k) ?_
      refine Out.via (g' := (mkF m 56 #[vI 0, vR b, vI 1, .val (.int (((0 : Int32) + (1 : Int32)) + (1 : Int32))), vR d, vR b, vI 2, .val (.int ((0 : Int32) + (1 : Int32))), vI x0] [])) (fun _ k => XS.icmpNo X4.here hx rfl (hb hby own_d6_53) rfl (tlt (by decide)).2.1 k) ?_
      refine Out.via (g' := (mkF m 58 #[vI 0, vR b, vI 1, .val (.int (((0 : Int32) + (1 : Int32)) + (1 : Int32))), vR d, vR b, vI 2, .val (.int ((0 : Int32) + (1 : Int32))), vI x0] [(.ref b)])) (fun _ k => XS.aload X4.here hx rfl (hb hby own_d6_56) rfl rfl k) ?_
      refine Out.via (g' := (mkF m 60 #[vI 0, vR b, vI 1, .val (.int (((0 : Int32) + (1 : Int32)) + (1 : Int32))), vR d, vR b, vI 2, .val (.int ((0 : Int32) + (1 : Int32))), vI x0] [(.int ((0 : Int32) + (1 : Int32))), (.ref b)])) (fun _ k => XS.iload X4.here hx rfl (hb hby own_d6_58) rfl k) ?_
      obtain ⟨cl_g1, Ar_g1, q_g1, S_g1, M_g1, H_g1, G_g1⟩ := id Ab
      have hin_g1 : ¬ (((0 : Int32) + (1 : Int32)) < 0 ∨ cl_g1.slots.size ≤ (((0 : Int32) + (1 : Int32))).toNatClampNeg) := inb_of S_g1 ⟨by decide, by decide⟩
      refine Out.via (g' := (mkF m 61 #[vI 0, vR b, vI 1, .val (.int (((0 : Int32) + (1 : Int32)) + (1 : Int32))), vR d, vR b, vI 2, .val (.int ((0 : Int32) + (1 : Int32))), vI x0] [(.int x1)])) (fun _ k => X4.baloadBytes hx (j := ((0 : Int32) + (1 : Int32))) (v := (.int x1)) (by rw [e4]; exact Ar_g1.1) (State.isArrayOf_alike hZ.alike Ar_g1.2.1) Ar_g1.2.2 hin_g1 (H_g1.at hin_g1 rfl) (g := (mkF m 60 #[vI 0, vR b, vI 1, .val (.int (((0 : Int32) + (1 : Int32)) + (1 : Int32))), vR d, vR b, vI 2, .val (.int ((0 : Int32) + (1 : Int32))), vI x0] [(.int ((0 : Int32) + (1 : Int32))), (.ref b)])) rfl rfl (hb hby own_d6_60) _ k) ?_
      refine Out.via (g' := (mkF m 63 #[vI 0, vR b, vI 1, .val (.int (((0 : Int32) + (1 : Int32)) + (1 : Int32))), vR d, vR b, vI 2, .val (.int ((0 : Int32) + (1 : Int32))), vI x1] [])) (fun _ k => XS.istore X4.here hx rfl (hb hby own_d6_61) rfl (l' := #[.val (.int (0 : Int32)), .val (.ref b), .val (.int (1 : Int32)), .val (.int (((0 : Int32) + (1 : Int32)) + (1 : Int32))), .val (.ref d), .val (.ref b), .val (.int (2 : Int32)), .val (.int ((0 : Int32) + (1 : Int32))), .val (.int x1)]) rfl k) ?_
      refine Out.via (g' := (mkF m 65 #[vI 0, vR b, vI 1, .val (.int (((0 : Int32) + (1 : Int32)) + (1 : Int32))), vR d, vR b, vI 2, .val (.int ((0 : Int32) + (1 : Int32))), vI x1] [(.int x1)])) (fun _ k => XS.iload X4.here hx rfl (hb hby own_d6_63) rfl k) ?_
      by_cases hz1 : x1 < (0 : Int32)
      · refine Out.via (g' := (mkF m 68 #[vI 0, vR b, vI 1, .val (.int (((0 : Int32) + (1 : Int32)) + (1 : Int32))), vR d, vR b, vI 2, .val (.int ((0 : Int32) + (1 : Int32))), vI x1] [])) (fun _ k => XS.ifNo X4.here hx rfl (hb hby own_d6_65) rfl ((if0 _ _).trans (tlt hz1).2.1) k) ?_
        refine Out.via (g' := (mkF m 70 #[vI 0, vR b, vI 1, .val (.int (((0 : Int32) + (1 : Int32)) + (1 : Int32))), vR d, vR b, vI 2, .val (.int ((0 : Int32) + (1 : Int32))), vI x1] [(.ref d)])) (fun _ k => XS.aload X4.here hx rfl (hb hby own_d6_68) rfl rfl k) ?_
        refine Out.via (g' := (mkF m 71 #[vI 0, vR b, vI 1, .val (.int (((0 : Int32) + (1 : Int32)) + (1 : Int32))), vR d, vR b, vI 2, .val (.int ((0 : Int32) + (1 : Int32))), vI x1] [(.int (((0 : Int32) + (1 : Int32)) + (1 : Int32))), (.ref d)])) (fun _ k => XS.iloadN X4.here hx rfl (hb hby own_d6_70) rfl k) ?_
        refine Out.via (g' := (mkF m 74 #[vI 0, vR b, vI 1, .val (.int ((((0 : Int32) + (1 : Int32)) + (1 : Int32)) + (1 : Int32))), vR d, vR b, vI 2, .val (.int ((0 : Int32) + (1 : Int32))), vI x1] [(.int (((0 : Int32) + (1 : Int32)) + (1 : Int32))), (.ref d)])) (fun _ k => XS.iinc X4.here hx rfl (hb hby own_d6_71) rfl (l' := #[.val (.int (0 : Int32)), .val (.ref b), .val (.int (1 : Int32)), .val (.int ((((0 : Int32) + (1 : Int32)) + (1 : Int32)) + (1 : Int32))), .val (.ref d), .val (.ref b), .val (.int (2 : Int32)), .val (.int ((0 : Int32) + (1 : Int32))), .val (.int x1)]) rfl k) ?_
        refine Out.via (g' := (mkF m 77 #[vI 0, vR b, vI 1, .val (.int ((((0 : Int32) + (1 : Int32)) + (1 : Int32)) + (1 : Int32))), vR d, vR b, vI 2, .val (.int ((0 : Int32) + (1 : Int32))), vI x1] [(.int (192 : Int32)), (.int (((0 : Int32) + (1 : Int32)) + (1 : Int32))), (.ref d)])) (fun _ k => XS.sipush X4.here hx rfl (hb hby own_d6_74) k) ?_
        refine Out.via (g' := (mkF m 79 #[vI 0, vR b, vI 1, .val (.int ((((0 : Int32) + (1 : Int32)) + (1 : Int32)) + (1 : Int32))), vR d, vR b, vI 2, .val (.int ((0 : Int32) + (1 : Int32))), vI x1] [(.int x1), (.int (192 : Int32)), (.int (((0 : Int32) + (1 : Int32)) + (1 : Int32))), (.ref d)])) (fun _ k => XS.iload X4.here hx rfl (hb hby own_d6_77) rfl k) ?_
        refine Out.via (g' := (mkF m 82 #[vI 0, vR b, vI 1, .val (.int ((((0 : Int32) + (1 : Int32)) + (1 : Int32)) + (1 : Int32))), vR d, vR b, vI 2, .val (.int ((0 : Int32) + (1 : Int32))), vI x1] [(.int (255 : Int32)), (.int x1), (.int (192 : Int32)), (.int (((0 : Int32) + (1 : Int32)) + (1 : Int32))), (.ref d)])) (fun _ k => XS.sipush X4.here hx rfl (hb hby own_d6_79) k) ?_
        refine Out.via (g' := (mkF m 83 #[vI 0, vR b, vI 1, .val (.int ((((0 : Int32) + (1 : Int32)) + (1 : Int32)) + (1 : Int32))), vR d, vR b, vI 2, .val (.int ((0 : Int32) + (1 : Int32))), vI x1] [(.int (x1 &&& (255 : Int32))), (.int (192 : Int32)), (.int (((0 : Int32) + (1 : Int32)) + (1 : Int32))), (.ref d)])) (fun _ k => XS.iand X4.here hx rfl (hb hby own_d6_82) rfl k) ?_
        refine Out.via (g' := (mkF m 85 #[vI 0, vR b, vI 1, .val (.int ((((0 : Int32) + (1 : Int32)) + (1 : Int32)) + (1 : Int32))), vR d, vR b, vI 2, .val (.int ((0 : Int32) + (1 : Int32))), vI x1] [(.int (6 : Int32)), (.int (x1 &&& (255 : Int32))), (.int (192 : Int32)), (.int (((0 : Int32) + (1 : Int32)) + (1 : Int32))), (.ref d)])) (fun _ k => XS.bipush X4.here hx rfl (hb hby own_d6_83) k) ?_
        refine Out.via (g' := (mkF m 86 #[vI 0, vR b, vI 1, .val (.int ((((0 : Int32) + (1 : Int32)) + (1 : Int32)) + (1 : Int32))), vR d, vR b, vI 2, .val (.int ((0 : Int32) + (1 : Int32))), vI x1] [(.int ((x1 &&& (255 : Int32)) >>> ((6 : Int32) &&& 31))), (.int (192 : Int32)), (.int (((0 : Int32) + (1 : Int32)) + (1 : Int32))), (.ref d)])) (fun _ k => XS.ishr X4.here hx rfl (hb hby own_d6_85) rfl k) ?_
        refine Out.via (g' := (mkF m 87 #[vI 0, vR b, vI 1, .val (.int ((((0 : Int32) + (1 : Int32)) + (1 : Int32)) + (1 : Int32))), vR d, vR b, vI 2, .val (.int ((0 : Int32) + (1 : Int32))), vI x1] [(.int ((192 : Int32) ||| ((x1 &&& (255 : Int32)) >>> ((6 : Int32) &&& 31)))), (.int (((0 : Int32) + (1 : Int32)) + (1 : Int32))), (.ref d)])) (fun _ k => XS.ior X4.here hx rfl (hb hby own_d6_86) rfl k) ?_
        refine Out.via (g' := (mkF m 88 #[vI 0, vR b, vI 1, .val (.int ((((0 : Int32) + (1 : Int32)) + (1 : Int32)) + (1 : Int32))), vR d, vR b, vI 2, .val (.int ((0 : Int32) + (1 : Int32))), vI x1] [(.int (((192 : Int32) ||| ((x1 &&& (255 : Int32)) >>> ((6 : Int32) &&& 31))).toInt8.toInt32)), (.int (((0 : Int32) + (1 : Int32)) + (1 : Int32))), (.ref d)])) (fun _ k => XS.i2b X4.here hx rfl (hb hby own_d6_87) rfl k) ?_
        obtain ⟨clz5, Arz5, qz5, Sz5, Mz5, Hz5, Gz5⟩ := Ad
        have hin5 : ¬ ((((0 : Int32) + (1 : Int32)) + (1 : Int32)) < 0 ∨ clz5.slots.size ≤ ((((0 : Int32) + (1 : Int32)) + (1 : Int32))).toNatClampNeg) := inb_of Sz5 ⟨by decide, by decide⟩
        obtain ⟨T5, h5, X5, e5, W5, st5⟩ := stB X4 hx hZ e4 Arz5 (j := (((0 : Int32) + (1 : Int32)) + (1 : Int32))) hin5 (g := (mkF m 88 #[vI 0, vR b, vI 1, .val (.int ((((0 : Int32) + (1 : Int32)) + (1 : Int32)) + (1 : Int32))), vR d, vR b, vI 2, .val (.int ((0 : Int32) + (1 : Int32))), vI x1] [(.int (((192 : Int32) ||| ((x1 &&& (255 : Int32)) >>> ((6 : Int32) &&& 31))).toInt8.toInt32)), (.int (((0 : Int32) + (1 : Int32)) + (1 : Int32))), (.ref d)])) rfl rfl (hb hby own_d6_88)
        have Ad : Arv Z h5 d kd .byte (4 : Int32) [(.int (nar .byte (((192 : Int32) ||| ((x0 &&& (255 : Int32)) >>> ((6 : Int32) &&& 31))).toInt8.toInt32))), (.int (nar .byte (((128 : Int32) ||| (x0 &&& (63 : Int32))).toInt8.toInt32))), (.int (nar .byte (((192 : Int32) ||| ((x1 &&& (255 : Int32)) >>> ((6 : Int32) &&& 31))).toInt8.toInt32))), (.int (0 : Int32))] (.int (0 : Int32)) := Arv.set Arz5 qz5 Sz5 Mz5 Hz5 Gz5 (fits_nar_byte _) W5 2 rfl (Nat.le_of_ble_eq_true rfl)
        replace Eb := Eb.wr W5
        replace Ab := Ab.other W5 ne_b_d
        replace O := O.wr W5 g_d
        replace Kp := Kp.wr W5 (Or.inr sz_d)
        replace N0 := Fr.snoc X5 N0 g_d
        refine Out.via (g' := (mkF m 89 #[vI 0, vR b, vI 1, .val (.int ((((0 : Int32) + (1 : Int32)) + (1 : Int32)) + (1 : Int32))), vR d, vR b, vI 2, .val (.int ((0 : Int32) + (1 : Int32))), vI x1] [])) st5 ?_
        refine Out.via (g' := (mkF m 91 #[vI 0, vR b, vI 1, .val (.int ((((0 : Int32) + (1 : Int32)) + (1 : Int32)) + (1 : Int32))), vR d, vR b, vI 2, .val (.int ((0 : Int32) + (1 : Int32))), vI x1] [(.ref d)])) (fun _ k => XS.aload X5.here hx rfl (hb hby own_d6_89) rfl rfl k) ?_
        refine Out.via (g' := (mkF m 92 #[vI 0, vR b, vI 1, .val (.int ((((0 : Int32) + (1 : Int32)) + (1 : Int32)) + (1 : Int32))), vR d, vR b, vI 2, .val (.int ((0 : Int32) + (1 : Int32))), vI x1] [(.int ((((0 : Int32) + (1 : Int32)) + (1 : Int32)) + (1 : Int32))), (.ref d)])) (fun _ k => XS.iloadN X5.here hx rfl (hb hby own_d6_91) rfl k) ?_
        refine Out.via (g' := (mkF m 95 #[vI 0, vR b, vI 1, .val (.int (((((0 : Int32) + (1 : Int32)) + (1 : Int32)) + (1 : Int32)) + (1 : Int32))), vR d, vR b, vI 2, .val (.int ((0 : Int32) + (1 : Int32))), vI x1] [(.int ((((0 : Int32) + (1 : Int32)) + (1 : Int32)) + (1 : Int32))), (.ref d)])) (fun _ k => XS.iinc X5.here hx rfl (hb hby own_d6_92) rfl (l' := #[.val (.int (0 : Int32)), .val (.ref b), .val (.int (1 : Int32)), .val (.int (((((0 : Int32) + (1 : Int32)) + (1 : Int32)) + (1 : Int32)) + (1 : Int32))), .val (.ref d), .val (.ref b), .val (.int (2 : Int32)), .val (.int ((0 : Int32) + (1 : Int32))), .val (.int x1)]) rfl k) ?_
        refine Out.via (g' := (mkF m 98 #[vI 0, vR b, vI 1, .val (.int (((((0 : Int32) + (1 : Int32)) + (1 : Int32)) + (1 : Int32)) + (1 : Int32))), vR d, vR b, vI 2, .val (.int ((0 : Int32) + (1 : Int32))), vI x1] [(.int (128 : Int32)), (.int ((((0 : Int32) + (1 : Int32)) + (1 : Int32)) + (1 : Int32))), (.ref d)])) (fun _ k => XS.sipush X5.here hx rfl (hb hby own_d6_95) k) ?_
        refine Out.via (g' := (mkF m 100 #[vI 0, vR b, vI 1, .val (.int (((((0 : Int32) + (1 : Int32)) + (1 : Int32)) + (1 : Int32)) + (1 : Int32))), vR d, vR b, vI 2, .val (.int ((0 : Int32) + (1 : Int32))), vI x1] [(.int x1), (.int (128 : Int32)), (.int ((((0 : Int32) + (1 : Int32)) + (1 : Int32)) + (1 : Int32))), (.ref d)])) (fun _ k => XS.iload X5.here hx rfl (hb hby own_d6_98) rfl k) ?_
        refine Out.via (g' := (mkF m 102 #[vI 0, vR b, vI 1, .val (.int (((((0 : Int32) + (1 : Int32)) + (1 : Int32)) + (1 : Int32)) + (1 : Int32))), vR d, vR b, vI 2, .val (.int ((0 : Int32) + (1 : Int32))), vI x1] [(.int (63 : Int32)), (.int x1), (.int (128 : Int32)), (.int ((((0 : Int32) + (1 : Int32)) + (1 : Int32)) + (1 : Int32))), (.ref d)])) (fun _ k => XS.bipush X5.here hx rfl (hb hby own_d6_100) k) ?_
        refine Out.via (g' := (mkF m 103 #[vI 0, vR b, vI 1, .val (.int (((((0 : Int32) + (1 : Int32)) + (1 : Int32)) + (1 : Int32)) + (1 : Int32))), vR d, vR b, vI 2, .val (.int ((0 : Int32) + (1 : Int32))), vI x1] [(.int (x1 &&& (63 : Int32))), (.int (128 : Int32)), (.int ((((0 : Int32) + (1 : Int32)) + (1 : Int32)) + (1 : Int32))), (.ref d)])) (fun _ k => XS.iand X5.here hx rfl (hb hby own_d6_102) rfl k) ?_
        refine Out.via (g' := (mkF m 104 #[vI 0, vR b, vI 1, .val (.int (((((0 : Int32) + (1 : Int32)) + (1 : Int32)) + (1 : Int32)) + (1 : Int32))), vR d, vR b, vI 2, .val (.int ((0 : Int32) + (1 : Int32))), vI x1] [(.int ((128 : Int32) ||| (x1 &&& (63 : Int32)))), (.int ((((0 : Int32) + (1 : Int32)) + (1 : Int32)) + (1 : Int32))), (.ref d)])) (fun _ k => XS.ior X5.here hx rfl (hb hby own_d6_103) rfl k) ?_
        refine Out.via (g' := (mkF m 105 #[vI 0, vR b, vI 1, .val (.int (((((0 : Int32) + (1 : Int32)) + (1 : Int32)) + (1 : Int32)) + (1 : Int32))), vR d, vR b, vI 2, .val (.int ((0 : Int32) + (1 : Int32))), vI x1] [(.int (((128 : Int32) ||| (x1 &&& (63 : Int32))).toInt8.toInt32)), (.int ((((0 : Int32) + (1 : Int32)) + (1 : Int32)) + (1 : Int32))), (.ref d)])) (fun _ k => XS.i2b X5.here hx rfl (hb hby own_d6_104) rfl k) ?_
        obtain ⟨clz6, Arz6, qz6, Sz6, Mz6, Hz6, Gz6⟩ := Ad
        have hin6 : ¬ (((((0 : Int32) + (1 : Int32)) + (1 : Int32)) + (1 : Int32)) < 0 ∨ clz6.slots.size ≤ (((((0 : Int32) + (1 : Int32)) + (1 : Int32)) + (1 : Int32))).toNatClampNeg) := inb_of Sz6 ⟨by decide, by decide⟩
        obtain ⟨T6, h6, X6, e6, W6, st6⟩ := stB X5 hx hZ e5 Arz6 (j := ((((0 : Int32) + (1 : Int32)) + (1 : Int32)) + (1 : Int32))) hin6 (g := (mkF m 105 #[vI 0, vR b, vI 1, .val (.int (((((0 : Int32) + (1 : Int32)) + (1 : Int32)) + (1 : Int32)) + (1 : Int32))), vR d, vR b, vI 2, .val (.int ((0 : Int32) + (1 : Int32))), vI x1] [(.int (((128 : Int32) ||| (x1 &&& (63 : Int32))).toInt8.toInt32)), (.int ((((0 : Int32) + (1 : Int32)) + (1 : Int32)) + (1 : Int32))), (.ref d)])) rfl rfl (hb hby own_d6_105)
        have Ad : Arv Z h6 d kd .byte (4 : Int32) [(.int (nar .byte (((192 : Int32) ||| ((x0 &&& (255 : Int32)) >>> ((6 : Int32) &&& 31))).toInt8.toInt32))), (.int (nar .byte (((128 : Int32) ||| (x0 &&& (63 : Int32))).toInt8.toInt32))), (.int (nar .byte (((192 : Int32) ||| ((x1 &&& (255 : Int32)) >>> ((6 : Int32) &&& 31))).toInt8.toInt32))), (.int (nar .byte (((128 : Int32) ||| (x1 &&& (63 : Int32))).toInt8.toInt32)))] (.int (0 : Int32)) := Arv.set Arz6 qz6 Sz6 Mz6 Hz6 Gz6 (fits_nar_byte _) W6 3 rfl (Nat.le_of_ble_eq_true rfl)
        replace Eb := Eb.wr W6
        replace Ab := Ab.other W6 ne_b_d
        replace O := O.wr W6 g_d
        replace Kp := Kp.wr W6 (Or.inr sz_d)
        replace N0 := Fr.snoc X6 N0 g_d
        refine Out.via (g' := (mkF m 106 #[vI 0, vR b, vI 1, .val (.int (((((0 : Int32) + (1 : Int32)) + (1 : Int32)) + (1 : Int32)) + (1 : Int32))), vR d, vR b, vI 2, .val (.int ((0 : Int32) + (1 : Int32))), vI x1] [])) st6 ?_
        refine Out.via (g' := (mkF m 118 #[vI 0, vR b, vI 1, .val (.int (((((0 : Int32) + (1 : Int32)) + (1 : Int32)) + (1 : Int32)) + (1 : Int32))), vR d, vR b, vI 2, .val (.int ((0 : Int32) + (1 : Int32))), vI x1] [])) (fun _ k => XS.goto X6.here hx rfl (pc0 := 106) (pc' := 118) rfl (hb hby own_d6_106) (by decide) (by decide) k) ?_
        refine Out.via (g' := (mkF m 121 #[vI 0, vR b, vI 1, .val (.int (((((0 : Int32) + (1 : Int32)) + (1 : Int32)) + (1 : Int32)) + (1 : Int32))), vR d, vR b, vI 2, .val (.int (((0 : Int32) + (1 : Int32)) + (1 : Int32))), vI x1] [])) (fun _ k => XS.iinc X6.here hx rfl (hb hby own_d6_118) rfl (l' := #[.val (.int (0 : Int32)), .val (.ref b), .val (.int (1 : Int32)), .val (.int (((((0 : Int32) + (1 : Int32)) + (1 : Int32)) + (1 : Int32)) + (1 : Int32))), .val (.ref d), .val (.ref b), .val (.int (2 : Int32)), .val (.int (((0 : Int32) + (1 : Int32)) + (1 : Int32))), .val (.int x1)]) rfl k) ?_
        refine Out.via (g' := (mkF m 49 #[vI 0, vR b, vI 1, .val (.int (((((0 : Int32) + (1 : Int32)) + (1 : Int32)) + (1 : Int32)) + (1 : Int32))), vR d, vR b, vI 2, .val (.int (((0 : Int32) + (1 : Int32)) + (1 : Int32))), vI x1] [])) (fun _ k => XS.goto X6.here hx rfl (pc0 := 121) (pc' := 49) rfl (hb hby own_d6_121) (by decide) (by decide) k) ?_
        refine Out.via (g' := (mkF m 51 #[vI 0, vR b, vI 1, .val (.int (((((0 : Int32) + (1 : Int32)) + (1 : Int32)) + (1 : Int32)) + (1 : Int32))), vR d, vR b, vI 2, .val (.int (((0 : Int32) + (1 : Int32)) + (1 : Int32))), vI x1] [(.int (((0 : Int32) + (1 : Int32)) + (1 : Int32)))])) (fun _ k => XS.iload X6.here hx rfl (hb hby own_d6_49) rfl k) ?_
        refine Out.via (g' := (mkF m 53 #[vI 0, vR b, vI 1, .val (.int (((((0 : Int32) + (1 : Int32)) + (1 : Int32)) + (1 : Int32)) + (1 : Int32))), vR d, vR b, vI 2, .val (.int (((0 : Int32) + (1 : Int32)) + (1 : Int32))), vI x1] [(.int (2 : Int32)), (.int (((0 : Int32) + (1 : Int32)) + (1 : Int32)))])) (fun _ k => XS.iload X6.here hx rfl (hb hby own_d6_51) rfl k) ?_
        refine Out.via (g' := (mkF m 124 #[vI 0, vR b, vI 1, .val (.int (((((0 : Int32) + (1 : Int32)) + (1 : Int32)) + (1 : Int32)) + (1 : Int32))), vR d, vR b, vI 2, .val (.int (((0 : Int32) + (1 : Int32)) + (1 : Int32))), vI x1] [])) (fun _ k => XS.icmpYes X6.here hx rfl (pc0 := 53) (pc' := 124) rfl (hb hby own_d6_53) rfl (flt (by decide)).2.1 (by decide) (by decide) k) ?_
        refine Out.via (g' := (mkF m 125 #[vI 0, vR b, vI 1, .val (.int (((((0 : Int32) + (1 : Int32)) + (1 : Int32)) + (1 : Int32)) + (1 : Int32))), vR d, vR b, vI 2, .val (.int (((0 : Int32) + (1 : Int32)) + (1 : Int32))), vI x1] [(.int (((((0 : Int32) + (1 : Int32)) + (1 : Int32)) + (1 : Int32)) + (1 : Int32)))])) (fun _ k => XS.iloadN X6.here hx rfl (hb hby own_d6_124) rfl k) ?_
        refine Out.via (g' := (mkF m 127 #[vI 0, vR b, vI 1, .val (.int (((((0 : Int32) + (1 : Int32)) + (1 : Int32)) + (1 : Int32)) + (1 : Int32))), vR d, vR b, vI 2, .val (.int (((0 : Int32) + (1 : Int32)) + (1 : Int32))), vI x1] [(.ref d), (.int (((((0 : Int32) + (1 : Int32)) + (1 : Int32)) + (1 : Int32)) + (1 : Int32)))])) (fun _ k => XS.aload X6.here hx rfl (hb hby own_d6_125) rfl rfl k) ?_
        obtain ⟨cl_f, Ar_f, q_f, S_f, M_f, H_f, G_f⟩ := id Ad
        refine Out.via (g' := (mkF m 128 #[vI 0, vR b, vI 1, .val (.int (((((0 : Int32) + (1 : Int32)) + (1 : Int32)) + (1 : Int32)) + (1 : Int32))), vR d, vR b, vI 2, .val (.int (((0 : Int32) + (1 : Int32)) + (1 : Int32))), vI x1] [(.int cl_f.slots.size.toInt32), (.int (((((0 : Int32) + (1 : Int32)) + (1 : Int32)) + (1 : Int32)) + (1 : Int32)))])) (fun _ k => X6.arraylength hx (by rw [e6]; exact Ar_f.1) (State.isArrayOf_alike hZ.alike Ar_f.2.1) (g := (mkF m 127 #[vI 0, vR b, vI 1, .val (.int (((((0 : Int32) + (1 : Int32)) + (1 : Int32)) + (1 : Int32)) + (1 : Int32))), vR d, vR b, vI 2, .val (.int (((0 : Int32) + (1 : Int32)) + (1 : Int32))), vI x1] [(.ref d), (.int (((((0 : Int32) + (1 : Int32)) + (1 : Int32)) + (1 : Int32)) + (1 : Int32)))])) rfl rfl (hb hby own_d6_127) _ k) ?_
        rw [len_of S_f M_f]
        refine Out.via (g' := (mkF m 131 #[vI 0, vR b, vI 1, .val (.int (((((0 : Int32) + (1 : Int32)) + (1 : Int32)) + (1 : Int32)) + (1 : Int32))), vR d, vR b, vI 2, .val (.int (((0 : Int32) + (1 : Int32)) + (1 : Int32))), vI x1] [])) (fun _ k => XS.icmpNo X6.here hx rfl (hb hby own_d6_128) rfl (teq (by decide)).2 k) ?_
        refine Out.via (g' := (mkF m 133 #[vI 0, vR b, vI 1, .val (.int (((((0 : Int32) + (1 : Int32)) + (1 : Int32)) + (1 : Int32)) + (1 : Int32))), vR d, vR b, vI 2, .val (.int (((0 : Int32) + (1 : Int32)) + (1 : Int32))), vI x1] [(.ref d)])) (fun _ k => XS.aload X6.here hx rfl (hb hby own_d6_131) rfl rfl k) ?_
        exact Out.endN X6 (fun h => by rw [Bd.returns] at h; cases h) Bd.notSynchronized (by decide) (by decide) (by rw [e6]; exact ⟨d, kd, _, _, rfl, N0, Kp, Ad, by decide, by decide⟩) (fun fs hr => own_retR X6 hx (t := (.array .byte)) Bd.returns rfl rfl rfl (hb hby own_d6_133) hr)
      · refine Out.via (g' := (mkF m 109 #[vI 0, vR b, vI 1, .val (.int (((0 : Int32) + (1 : Int32)) + (1 : Int32))), vR d, vR b, vI 2, .val (.int ((0 : Int32) + (1 : Int32))), vI x1] [])) (fun _ k => XS.ifYes X4.here hx rfl (pc0 := 65) (pc' := 109) rfl (hb hby own_d6_65) rfl ((if0 _ _).trans (flt hz1).2.1) (by decide) (by decide) k) ?_
        refine Out.via (g' := (mkF m 111 #[vI 0, vR b, vI 1, .val (.int (((0 : Int32) + (1 : Int32)) + (1 : Int32))), vR d, vR b, vI 2, .val (.int ((0 : Int32) + (1 : Int32))), vI x1] [(.ref d)])) (fun _ k => XS.aload X4.here hx rfl (hb hby own_d6_109) rfl rfl k) ?_
        refine Out.via (g' := (mkF m 112 #[vI 0, vR b, vI 1, .val (.int (((0 : Int32) + (1 : Int32)) + (1 : Int32))), vR d, vR b, vI 2, .val (.int ((0 : Int32) + (1 : Int32))), vI x1] [(.int (((0 : Int32) + (1 : Int32)) + (1 : Int32))), (.ref d)])) (fun _ k => XS.iloadN X4.here hx rfl (hb hby own_d6_111) rfl k) ?_
        refine Out.via (g' := (mkF m 115 #[vI 0, vR b, vI 1, .val (.int ((((0 : Int32) + (1 : Int32)) + (1 : Int32)) + (1 : Int32))), vR d, vR b, vI 2, .val (.int ((0 : Int32) + (1 : Int32))), vI x1] [(.int (((0 : Int32) + (1 : Int32)) + (1 : Int32))), (.ref d)])) (fun _ k => XS.iinc X4.here hx rfl (hb hby own_d6_112) rfl (l' := #[.val (.int (0 : Int32)), .val (.ref b), .val (.int (1 : Int32)), .val (.int ((((0 : Int32) + (1 : Int32)) + (1 : Int32)) + (1 : Int32))), .val (.ref d), .val (.ref b), .val (.int (2 : Int32)), .val (.int ((0 : Int32) + (1 : Int32))), .val (.int x1)]) rfl k) ?_
        refine Out.via (g' := (mkF m 117 #[vI 0, vR b, vI 1, .val (.int ((((0 : Int32) + (1 : Int32)) + (1 : Int32)) + (1 : Int32))), vR d, vR b, vI 2, .val (.int ((0 : Int32) + (1 : Int32))), vI x1] [(.int x1), (.int (((0 : Int32) + (1 : Int32)) + (1 : Int32))), (.ref d)])) (fun _ k => XS.iload X4.here hx rfl (hb hby own_d6_115) rfl k) ?_
        obtain ⟨clz5, Arz5, qz5, Sz5, Mz5, Hz5, Gz5⟩ := Ad
        have hin5 : ¬ ((((0 : Int32) + (1 : Int32)) + (1 : Int32)) < 0 ∨ clz5.slots.size ≤ ((((0 : Int32) + (1 : Int32)) + (1 : Int32))).toNatClampNeg) := inb_of Sz5 ⟨by decide, by decide⟩
        obtain ⟨T5, h5, X5, e5, W5, st5⟩ := stB X4 hx hZ e4 Arz5 (j := (((0 : Int32) + (1 : Int32)) + (1 : Int32))) hin5 (g := (mkF m 117 #[vI 0, vR b, vI 1, .val (.int ((((0 : Int32) + (1 : Int32)) + (1 : Int32)) + (1 : Int32))), vR d, vR b, vI 2, .val (.int ((0 : Int32) + (1 : Int32))), vI x1] [(.int x1), (.int (((0 : Int32) + (1 : Int32)) + (1 : Int32))), (.ref d)])) rfl rfl (hb hby own_d6_117)
        have Ad : Arv Z h5 d kd .byte (4 : Int32) [(.int (nar .byte (((192 : Int32) ||| ((x0 &&& (255 : Int32)) >>> ((6 : Int32) &&& 31))).toInt8.toInt32))), (.int (nar .byte (((128 : Int32) ||| (x0 &&& (63 : Int32))).toInt8.toInt32))), (.int (nar .byte x1)), (.int (0 : Int32))] (.int (0 : Int32)) := Arv.set Arz5 qz5 Sz5 Mz5 Hz5 Gz5 (fits_nar_byte _) W5 2 rfl (Nat.le_of_ble_eq_true rfl)
        replace Eb := Eb.wr W5
        replace Ab := Ab.other W5 ne_b_d
        replace O := O.wr W5 g_d
        replace Kp := Kp.wr W5 (Or.inr sz_d)
        replace N0 := Fr.snoc X5 N0 g_d
        refine Out.via (g' := (mkF m 118 #[vI 0, vR b, vI 1, .val (.int ((((0 : Int32) + (1 : Int32)) + (1 : Int32)) + (1 : Int32))), vR d, vR b, vI 2, .val (.int ((0 : Int32) + (1 : Int32))), vI x1] [])) st5 ?_
        refine Out.via (g' := (mkF m 121 #[vI 0, vR b, vI 1, .val (.int ((((0 : Int32) + (1 : Int32)) + (1 : Int32)) + (1 : Int32))), vR d, vR b, vI 2, .val (.int (((0 : Int32) + (1 : Int32)) + (1 : Int32))), vI x1] [])) (fun _ k => XS.iinc X5.here hx rfl (hb hby own_d6_118) rfl (l' := #[.val (.int (0 : Int32)), .val (.ref b), .val (.int (1 : Int32)), .val (.int ((((0 : Int32) + (1 : Int32)) + (1 : Int32)) + (1 : Int32))), .val (.ref d), .val (.ref b), .val (.int (2 : Int32)), .val (.int (((0 : Int32) + (1 : Int32)) + (1 : Int32))), .val (.int x1)]) rfl k) ?_
        refine Out.via (g' := (mkF m 49 #[vI 0, vR b, vI 1, .val (.int ((((0 : Int32) + (1 : Int32)) + (1 : Int32)) + (1 : Int32))), vR d, vR b, vI 2, .val (.int (((0 : Int32) + (1 : Int32)) + (1 : Int32))), vI x1] [])) (fun _ k => XS.goto X5.here hx rfl (pc0 := 121) (pc' := 49) rfl (hb hby own_d6_121) (by decide) (by decide) k) ?_
        refine Out.via (g' := (mkF m 51 #[vI 0, vR b, vI 1, .val (.int ((((0 : Int32) + (1 : Int32)) + (1 : Int32)) + (1 : Int32))), vR d, vR b, vI 2, .val (.int (((0 : Int32) + (1 : Int32)) + (1 : Int32))), vI x1] [(.int (((0 : Int32) + (1 : Int32)) + (1 : Int32)))])) (fun _ k => XS.iload X5.here hx rfl (hb hby own_d6_49) rfl k) ?_
        refine Out.via (g' := (mkF m 53 #[vI 0, vR b, vI 1, .val (.int ((((0 : Int32) + (1 : Int32)) + (1 : Int32)) + (1 : Int32))), vR d, vR b, vI 2, .val (.int (((0 : Int32) + (1 : Int32)) + (1 : Int32))), vI x1] [(.int (2 : Int32)), (.int (((0 : Int32) + (1 : Int32)) + (1 : Int32)))])) (fun _ k => XS.iload X5.here hx rfl (hb hby own_d6_51) rfl k) ?_
        refine Out.via (g' := (mkF m 124 #[vI 0, vR b, vI 1, .val (.int ((((0 : Int32) + (1 : Int32)) + (1 : Int32)) + (1 : Int32))), vR d, vR b, vI 2, .val (.int (((0 : Int32) + (1 : Int32)) + (1 : Int32))), vI x1] [])) (fun _ k => XS.icmpYes X5.here hx rfl (pc0 := 53) (pc' := 124) rfl (hb hby own_d6_53) rfl (flt (by decide)).2.1 (by decide) (by decide) k) ?_
        refine Out.via (g' := (mkF m 125 #[vI 0, vR b, vI 1, .val (.int ((((0 : Int32) + (1 : Int32)) + (1 : Int32)) + (1 : Int32))), vR d, vR b, vI 2, .val (.int (((0 : Int32) + (1 : Int32)) + (1 : Int32))), vI x1] [(.int ((((0 : Int32) + (1 : Int32)) + (1 : Int32)) + (1 : Int32)))])) (fun _ k => XS.iloadN X5.here hx rfl (hb hby own_d6_124) rfl k) ?_
        refine Out.via (g' := (mkF m 127 #[vI 0, vR b, vI 1, .val (.int ((((0 : Int32) + (1 : Int32)) + (1 : Int32)) + (1 : Int32))), vR d, vR b, vI 2, .val (.int (((0 : Int32) + (1 : Int32)) + (1 : Int32))), vI x1] [(.ref d), (.int ((((0 : Int32) + (1 : Int32)) + (1 : Int32)) + (1 : Int32)))])) (fun _ k => XS.aload X5.here hx rfl (hb hby own_d6_125) rfl rfl k) ?_
        obtain ⟨cl_f, Ar_f, q_f, S_f, M_f, H_f, G_f⟩ := id Ad
        refine Out.via (g' := (mkF m 128 #[vI 0, vR b, vI 1, .val (.int ((((0 : Int32) + (1 : Int32)) + (1 : Int32)) + (1 : Int32))), vR d, vR b, vI 2, .val (.int (((0 : Int32) + (1 : Int32)) + (1 : Int32))), vI x1] [(.int cl_f.slots.size.toInt32), (.int ((((0 : Int32) + (1 : Int32)) + (1 : Int32)) + (1 : Int32)))])) (fun _ k => X5.arraylength hx (by rw [e5]; exact Ar_f.1) (State.isArrayOf_alike hZ.alike Ar_f.2.1) (g := (mkF m 127 #[vI 0, vR b, vI 1, .val (.int ((((0 : Int32) + (1 : Int32)) + (1 : Int32)) + (1 : Int32))), vR d, vR b, vI 2, .val (.int (((0 : Int32) + (1 : Int32)) + (1 : Int32))), vI x1] [(.ref d), (.int ((((0 : Int32) + (1 : Int32)) + (1 : Int32)) + (1 : Int32)))])) rfl rfl (hb hby own_d6_127) _ k) ?_
        rw [len_of S_f M_f]
        refine Out.via (g' := (mkF m 134 #[vI 0, vR b, vI 1, .val (.int ((((0 : Int32) + (1 : Int32)) + (1 : Int32)) + (1 : Int32))), vR d, vR b, vI 2, .val (.int (((0 : Int32) + (1 : Int32)) + (1 : Int32))), vI x1] [])) (fun _ k => XS.icmpYes X5.here hx rfl (pc0 := 128) (pc' := 134) rfl (hb hby own_d6_128) rfl (feq (by decide)).2 (by decide) (by decide) k) ?_
        refine Out.via (g' := (mkF m 136 #[vI 0, vR b, vI 1, .val (.int ((((0 : Int32) + (1 : Int32)) + (1 : Int32)) + (1 : Int32))), vR d, vR b, vI 2, .val (.int (((0 : Int32) + (1 : Int32)) + (1 : Int32))), vI x1] [(.ref d)])) (fun _ k => XS.aload X5.here hx rfl (hb hby own_d6_134) rfl rfl k) ?_
        refine Out.via (g' := (mkF m 137 #[vI 0, vR b, vI 1, .val (.int ((((0 : Int32) + (1 : Int32)) + (1 : Int32)) + (1 : Int32))), vR d, vR b, vI 2, .val (.int (((0 : Int32) + (1 : Int32)) + (1 : Int32))), vI x1] [(.int ((((0 : Int32) + (1 : Int32)) + (1 : Int32)) + (1 : Int32))), (.ref d)])) (fun _ k => XS.iloadN X5.here hx rfl (hb hby own_d6_136) rfl k) ?_
        obtain ⟨_, _, ⟨T6, L6, kc6, ks6⟩, -, X6, ⟨Lc6, hQ6, l6, y6, z6⟩, st6⟩ := Jvm.LawKit.callS X5 hx (y := own_y6) hown (mvT hZ (W_ hw 167 rfl)) (mvT hZ (W_ hw 168 rfl)) (mvT hZ (W_ hw 128 rfl)) (mvT hZ (W_ hw 169 rfl)) (by decide) (backOf (W := 0) (own_rmCO l Z a0 hw [] d kd (nar .byte (((192 : Int32) ||| ((x0 &&& (255 : Int32)) >>> ((6 : Int32) &&& 31))).toInt8.toInt32)) (nar .byte (((128 : Int32) ||| (x0 &&& (63 : Int32))).toInt8.toInt32)) (nar .byte x1) (0 : Int32) h5 n0 O Ad) hZ (W_ hw 169 rfl) (W_ hw 128 rfl) (by decide) (by decide)) (g := (mkF m 137 #[vI 0, vR b, vI 1, .val (.int ((((0 : Int32) + (1 : Int32)) + (1 : Int32)) + (1 : Int32))), vR d, vR b, vI 2, .val (.int (((0 : Int32) + (1 : Int32)) + (1 : Int32))), vI x1] [(.int ((((0 : Int32) + (1 : Int32)) + (1 : Int32)) + (1 : Int32))), (.ref d)])) rfl (by rw [hml]; rfl) (argsL := [(.ref d), (.int ((((0 : Int32) + (1 : Int32)) + (1 : Int32)) + (1 : Int32)))]) (rest := []) (lenOf own_pd9 rfl) rfl (by show 2 * 0 + _ ≤ _; exact Nat.le_of_eq rfl) (hb hby own_d6_137) (fun _ _ => ⟨rfl, e5, (by decide : 1 + 1 ≤ _), (by decide : 4 + 3 ≤ _)⟩)
        dsimp only [Pt.U, Pt.locs, Pt.cells, Pt.slots] at X6 l6 y6 z6 st6 hQ6
        subst l6 y6 z6
        obtain ⟨t, kt, N, vs, rfl, Nq6, Kq6, At, hN1, hN2⟩ := hQ6
        replace N0 := Fr.app N0 Nq6
        replace Kp := Kp.trans Kq6 all0
        refine Out.via (g' := (mkF m 140 #[vI 0, vR b, vI 1, .val (.int ((((0 : Int32) + (1 : Int32)) + (1 : Int32)) + (1 : Int32))), vR d, vR b, vI 2, .val (.int (((0 : Int32) + (1 : Int32)) + (1 : Int32))), vI x1] [(.ref t)])) st6 ?_
        exact Out.endN X6 (fun h => by rw [Bd.returns] at h; cases h) Bd.notSynchronized (by decide) (by decide) (⟨t, kt, N, vs, rfl, N0, Kp, At, hN1, hN2⟩) (fun fs hr => own_retR X6 hx (t := (.array .byte)) Bd.returns rfl rfl rfl (hb hby own_d6_140) hr)
    · refine Out.via (g' := (mkF m 109 #[vI 0, vR b, vI 1, vI 0, vR d, vR b, vI 2, vI 0, vI x0] [])) (fun _ k => XS.ifYes X2.here hx rfl (pc0 := 65) (pc' := 109) rfl (hb hby own_d6_65) rfl ((if0 _ _).trans (flt hz0).2.1) (by decide) (by decide) k) ?_
      refine Out.via (g' := (mkF m 111 #[vI 0, vR b, vI 1, vI 0, vR d, vR b, vI 2, vI 0, vI x0] [(.ref d)])) (fun _ k => XS.aload X2.here hx rfl (hb hby own_d6_109) rfl rfl k) ?_
      refine Out.via (g' := (mkF m 112 #[vI 0, vR b, vI 1, vI 0, vR d, vR b, vI 2, vI 0, vI x0] [(.int (0 : Int32)), (.ref d)])) (fun _ k => XS.iloadN X2.here hx rfl (hb hby own_d6_111) rfl k) ?_
      refine Out.via (g' := (mkF m 115 #[vI 0, vR b, vI 1, .val (.int ((0 : Int32) + (1 : Int32))), vR d, vR b, vI 2, vI 0, vI x0] [(.int (0 : Int32)), (.ref d)])) (fun _ k => XS.iinc X2.here hx rfl (hb hby own_d6_112) rfl (l' := #[.val (.int (0 : Int32)), .val (.ref b), .val (.int (1 : Int32)), .val (.int ((0 : Int32) + (1 : Int32))), .val (.ref d), .val (.ref b), .val (.int (2 : Int32)), .val (.int (0 : Int32)), .val (.int x0)]) rfl k) ?_
      refine Out.via (g' := (mkF m 117 #[vI 0, vR b, vI 1, .val (.int ((0 : Int32) + (1 : Int32))), vR d, vR b, vI 2, vI 0, vI x0] [(.int x0), (.int (0 : Int32)), (.ref d)])) (fun _ k => XS.iload X2.here hx rfl (hb hby own_d6_115) rfl k) ?_
      obtain ⟨clz3, Arz3, qz3, Sz3, Mz3, Hz3, Gz3⟩ := Ad
      have hin3 : ¬ ((0 : Int32) < 0 ∨ clz3.slots.size ≤ ((0 : Int32)).toNatClampNeg) := inb_of Sz3 ⟨by decide, by decide⟩
      obtain ⟨T3, h3, X3, e3, W3, st3⟩ := stB X2 hx hZ rfl Arz3 (j := (0 : Int32)) hin3 (g := (mkF m 117 #[vI 0, vR b, vI 1, .val (.int ((0 : Int32) + (1 : Int32))), vR d, vR b, vI 2, vI 0, vI x0] [(.int x0), (.int (0 : Int32)), (.ref d)])) rfl rfl (hb hby own_d6_117)
      have Ad : Arv Z h3 d kd .byte (4 : Int32) [(.int (nar .byte x0)), (.int (0 : Int32)), (.int (0 : Int32)), (.int (0 : Int32))] (.int (0 : Int32)) := Arv.set Arz3 qz3 Sz3 Mz3 Hz3 Gz3 (fits_nar_byte _) W3 0 rfl (Nat.le_of_ble_eq_true rfl)
      replace Eb := Eb.wr W3
      replace Ab := Ab.other W3 ne_b_d
      replace O := O.wr W3 g_d
      replace Kp := Kp.wr W3 (Or.inr sz_d)
      replace N0 := Fr.snoc X3 N0 g_d
      refine Out.via (g' := (mkF m 118 #[vI 0, vR b, vI 1, .val (.int ((0 : Int32) + (1 : Int32))), vR d, vR b, vI 2, vI 0, vI x0] [])) st3 ?_
      refine Out.via (g' := (mkF m 121 #[vI 0, vR b, vI 1, .val (.int ((0 : Int32) + (1 : Int32))), vR d, vR b, vI 2, .val (.int ((0 : Int32) + (1 : Int32))), vI x0] [])) (fun _ k => XS.iinc X3.here hx rfl (hb hby own_d6_118) rfl (l' := #[.val (.int (0 : Int32)), .val (.ref b), .val (.int (1 : Int32)), .val (.int ((0 : Int32) + (1 : Int32))), .val (.ref d), .val (.ref b), .val (.int (2 : Int32)), .val (.int ((0 : Int32) + (1 : Int32))), .val (.int x0)]) rfl k) ?_
      refine Out.via (g' := (mkF m 49 #[vI 0, vR b, vI 1, .val (.int ((0 : Int32) + (1 : Int32))), vR d, vR b, vI 2, .val (.int ((0 : Int32) + (1 : Int32))), vI x0] [])) (fun _ k => XS.goto X3.here hx rfl (pc0 := 121) (pc' := 49) rfl (hb hby own_d6_121) (by decide) (by decide) k) ?_
      refine Out.via (g' := (mkF m 51 #[vI 0, vR b, vI 1, .val (.int ((0 : Int32) + (1 : Int32))), vR d, vR b, vI 2, .val (.int ((0 : Int32) + (1 : Int32))), vI x0] [(.int ((0 : Int32) + (1 : Int32)))])) (fun _ k => XS.iload X3.here hx rfl (hb hby own_d6_49) rfl k) ?_
      refine Out.via (g' := (mkF m 53 #[vI 0, vR b, vI 1, .val (.int ((0 : Int32) + (1 : Int32))), vR d, vR b, vI 2, .val (.int ((0 : Int32) + (1 : Int32))), vI x0] [(.int (2 : Int32)), (.int ((0 : Int32) + (1 : Int32)))])) (fun _ k => XS.iload X3.here hx rfl (hb hby own_d6_51) rfl k) ?_
      refine Out.via (g' := (mkF m 56 #[vI 0, vR b, vI 1, .val (.int ((0 : Int32) + (1 : Int32))), vR d, vR b, vI 2, .val (.int ((0 : Int32) + (1 : Int32))), vI x0] [])) (fun _ k => XS.icmpNo X3.here hx rfl (hb hby own_d6_53) rfl (tlt (by decide)).2.1 k) ?_
      refine Out.via (g' := (mkF m 58 #[vI 0, vR b, vI 1, .val (.int ((0 : Int32) + (1 : Int32))), vR d, vR b, vI 2, .val (.int ((0 : Int32) + (1 : Int32))), vI x0] [(.ref b)])) (fun _ k => XS.aload X3.here hx rfl (hb hby own_d6_56) rfl rfl k) ?_
      refine Out.via (g' := (mkF m 60 #[vI 0, vR b, vI 1, .val (.int ((0 : Int32) + (1 : Int32))), vR d, vR b, vI 2, .val (.int ((0 : Int32) + (1 : Int32))), vI x0] [(.int ((0 : Int32) + (1 : Int32))), (.ref b)])) (fun _ k => XS.iload X3.here hx rfl (hb hby own_d6_58) rfl k) ?_
      obtain ⟨cl_g1, Ar_g1, q_g1, S_g1, M_g1, H_g1, G_g1⟩ := id Ab
      have hin_g1 : ¬ (((0 : Int32) + (1 : Int32)) < 0 ∨ cl_g1.slots.size ≤ (((0 : Int32) + (1 : Int32))).toNatClampNeg) := inb_of S_g1 ⟨by decide, by decide⟩
      refine Out.via (g' := (mkF m 61 #[vI 0, vR b, vI 1, .val (.int ((0 : Int32) + (1 : Int32))), vR d, vR b, vI 2, .val (.int ((0 : Int32) + (1 : Int32))), vI x0] [(.int x1)])) (fun _ k => X3.baloadBytes hx (j := ((0 : Int32) + (1 : Int32))) (v := (.int x1)) (by rw [e3]; exact Ar_g1.1) (State.isArrayOf_alike hZ.alike Ar_g1.2.1) Ar_g1.2.2 hin_g1 (H_g1.at hin_g1 rfl) (g := (mkF m 60 #[vI 0, vR b, vI 1, .val (.int ((0 : Int32) + (1 : Int32))), vR d, vR b, vI 2, .val (.int ((0 : Int32) + (1 : Int32))), vI x0] [(.int ((0 : Int32) + (1 : Int32))), (.ref b)])) rfl rfl (hb hby own_d6_60) _ k) ?_
      refine Out.via (g' := (mkF m 63 #[vI 0, vR b, vI 1, .val (.int ((0 : Int32) + (1 : Int32))), vR d, vR b, vI 2, .val (.int ((0 : Int32) + (1 : Int32))), vI x1] [])) (fun _ k => XS.istore X3.here hx rfl (hb hby own_d6_61) rfl (l' := #[.val (.int (0 : Int32)), .val (.ref b), .val (.int (1 : Int32)), .val (.int ((0 : Int32) + (1 : Int32))), .val (.ref d), .val (.ref b), .val (.int (2 : Int32)), .val (.int ((0 : Int32) + (1 : Int32))), .val (.int x1)]) rfl k) ?_
      refine Out.via (g' := (mkF m 65 #[vI 0, vR b, vI 1, .val (.int ((0 : Int32) + (1 : Int32))), vR d, vR b, vI 2, .val (.int ((0 : Int32) + (1 : Int32))), vI x1] [(.int x1)])) (fun _ k => XS.iload X3.here hx rfl (hb hby own_d6_63) rfl k) ?_
      by_cases hz1 : x1 < (0 : Int32)
      · refine Out.via (g' := (mkF m 68 #[vI 0, vR b, vI 1, .val (.int ((0 : Int32) + (1 : Int32))), vR d, vR b, vI 2, .val (.int ((0 : Int32) + (1 : Int32))), vI x1] [])) (fun _ k => XS.ifNo X3.here hx rfl (hb hby own_d6_65) rfl ((if0 _ _).trans (tlt hz1).2.1) k) ?_
        refine Out.via (g' := (mkF m 70 #[vI 0, vR b, vI 1, .val (.int ((0 : Int32) + (1 : Int32))), vR d, vR b, vI 2, .val (.int ((0 : Int32) + (1 : Int32))), vI x1] [(.ref d)])) (fun _ k => XS.aload X3.here hx rfl (hb hby own_d6_68) rfl rfl k) ?_
        refine Out.via (g' := (mkF m 71 #[vI 0, vR b, vI 1, .val (.int ((0 : Int32) + (1 : Int32))), vR d, vR b, vI 2, .val (.int ((0 : Int32) + (1 : Int32))), vI x1] [(.int ((0 : Int32) + (1 : Int32))), (.ref d)])) (fun _ k => XS.iloadN X3.here hx rfl (hb hby own_d6_70) rfl k) ?_
        refine Out.via (g' := (mkF m 74 #[vI 0, vR b, vI 1, .val (.int (((0 : Int32) + (1 : Int32)) + (1 : Int32))), vR d, vR b, vI 2, .val (.int ((0 : Int32) + (1 : Int32))), vI x1] [(.int ((0 : Int32) + (1 : Int32))), (.ref d)])) (fun _ k => XS.iinc X3.here hx rfl (hb hby own_d6_71) rfl (l' := #[.val (.int (0 : Int32)), .val (.ref b), .val (.int (1 : Int32)), .val (.int (((0 : Int32) + (1 : Int32)) + (1 : Int32))), .val (.ref d), .val (.ref b), .val (.int (2 : Int32)), .val (.int ((0 : Int32) + (1 : Int32))), .val (.int x1)]) rfl k) ?_
        refine Out.via (g' := (mkF m 77 #[vI 0, vR b, vI 1, .val (.int (((0 : Int32) + (1 : Int32)) + (1 : Int32))), vR d, vR b, vI 2, .val (.int ((0 : Int32) + (1 : Int32))), vI x1] [(.int (192 : Int32)), (.int ((0 : Int32) + (1 : Int32))), (.ref d)])) (fun _ k => XS.sipush X3.here hx rfl (hb hby own_d6_74) k) ?_
        refine Out.via (g' := (mkF m 79 #[vI 0, vR b, vI 1, .val (.int (((0 : Int32) + (1 : Int32)) + (1 : Int32))), vR d, vR b, vI 2, .val (.int ((0 : Int32) + (1 : Int32))), vI x1] [(.int x1), (.int (192 : Int32)), (.int ((0 : Int32) + (1 : Int32))), (.ref d)])) (fun _ k => XS.iload X3.here hx rfl (hb hby own_d6_77) rfl k) ?_
        refine Out.via (g' := (mkF m 82 #[vI 0, vR b, vI 1, .val (.int (((0 : Int32) + (1 : Int32)) + (1 : Int32))), vR d, vR b, vI 2, .val (.int ((0 : Int32) + (1 : Int32))), vI x1] [(.int (255 : Int32)), (.int x1), (.int (192 : Int32)), (.int ((0 : Int32) + (1 : Int32))), (.ref d)])) (fun _ k => XS.sipush X3.here hx rfl (hb hby own_d6_79) k) ?_
        refine Out.via (g' := (mkF m 83 #[vI 0, vR b, vI 1, .val (.int (((0 : Int32) + (1 : Int32)) + (1 : Int32))), vR d, vR b, vI 2, .val (.int ((0 : Int32) + (1 : Int32))), vI x1] [(.int (x1 &&& (255 : Int32))), (.int (192 : Int32)), (.int ((0 : Int32) + (1 : Int32))), (.ref d)])) (fun _ k => XS.iand X3.here hx rfl (hb hby own_d6_82) rfl k) ?_
        refine Out.via (g' := (mkF m 85 #[vI 0, vR b, vI 1, .val (.int (((0 : Int32) + (1 : Int32)) + (1 : Int32))), vR d, vR b, vI 2, .val (.int ((0 : Int32) + (1 : Int32))), vI x1] [(.int (6 : Int32)), (.int (x1 &&& (255 : Int32))), (.int (192 : Int32)), (.int ((0 : Int32) + (1 : Int32))), (.ref d)])) (fun _ k => XS.bipush X3.here hx rfl (hb hby own_d6_83) k) ?_
        refine Out.via (g' := (mkF m 86 #[vI 0, vR b, vI 1, .val (.int (((0 : Int32) + (1 : Int32)) + (1 : Int32))), vR d, vR b, vI 2, .val (.int ((0 : Int32) + (1 : Int32))), vI x1] [(.int ((x1 &&& (255 : Int32)) >>> ((6 : Int32) &&& 31))), (.int (192 : Int32)), (.int ((0 : Int32) + (1 : Int32))), (.ref d)])) (fun _ k => XS.ishr X3.here hx rfl (hb hby own_d6_85) rfl k) ?_
        refine Out.via (g' := (mkF m 87 #[vI 0, vR b, vI 1, .val (.int (((0 : Int32) + (1 : Int32)) + (1 : Int32))), vR d, vR b, vI 2, .val (.int ((0 : Int32) + (1 : Int32))), vI x1] [(.int ((192 : Int32) ||| ((x1 &&& (255 : Int32)) >>> ((6 : Int32) &&& 31)))), (.int ((0 : Int32) + (1 : Int32))), (.ref d)])) (fun _ k => XS.ior X3.here hx rfl (hb hby own_d6_86) rfl k) ?_
        refine Out.via (g' := (mkF m 88 #[vI 0, vR b, vI 1, .val (.int (((0 : Int32) + (1 : Int32)) + (1 : Int32))), vR d, vR b, vI 2, .val (.int ((0 : Int32) + (1 : Int32))), vI x1] [(.int (((192 : Int32) ||| ((x1 &&& (255 : Int32)) >>> ((6 : Int32) &&& 31))).toInt8.toInt32)), (.int ((0 : Int32) + (1 : Int32))), (.ref d)])) (fun _ k => XS.i2b X3.here hx rfl (hb hby own_d6_87) rfl k) ?_
        obtain ⟨clz4, Arz4, qz4, Sz4, Mz4, Hz4, Gz4⟩ := Ad
        have hin4 : ¬ (((0 : Int32) + (1 : Int32)) < 0 ∨ clz4.slots.size ≤ (((0 : Int32) + (1 : Int32))).toNatClampNeg) := inb_of Sz4 ⟨by decide, by decide⟩
        obtain ⟨T4, h4, X4, e4, W4, st4⟩ := stB X3 hx hZ e3 Arz4 (j := ((0 : Int32) + (1 : Int32))) hin4 (g := (mkF m 88 #[vI 0, vR b, vI 1, .val (.int (((0 : Int32) + (1 : Int32)) + (1 : Int32))), vR d, vR b, vI 2, .val (.int ((0 : Int32) + (1 : Int32))), vI x1] [(.int (((192 : Int32) ||| ((x1 &&& (255 : Int32)) >>> ((6 : Int32) &&& 31))).toInt8.toInt32)), (.int ((0 : Int32) + (1 : Int32))), (.ref d)])) rfl rfl (hb hby own_d6_88)
        have Ad : Arv Z h4 d kd .byte (4 : Int32) [(.int (nar .byte x0)), (.int (nar .byte (((192 : Int32) ||| ((x1 &&& (255 : Int32)) >>> ((6 : Int32) &&& 31))).toInt8.toInt32))), (.int (0 : Int32)), (.int (0 : Int32))] (.int (0 : Int32)) := Arv.set Arz4 qz4 Sz4 Mz4 Hz4 Gz4 (fits_nar_byte _) W4 1 rfl (Nat.le_of_ble_eq_true rfl)
        replace Eb := Eb.wr W4
        replace Ab := Ab.other W4 ne_b_d
        replace O := O.wr W4 g_d
        replace Kp := Kp.wr W4 (Or.inr sz_d)
        replace N0 := Fr.snoc X4 N0 g_d
        refine Out.via (g' := (mkF m 89 #[vI 0, vR b, vI 1, .val (.int (((0 : Int32) + (1 : Int32)) + (1 : Int32))), vR d, vR b, vI 2, .val (.int ((0 : Int32) + (1 : Int32))), vI x1] [])) st4 ?_
        refine Out.via (g' := (mkF m 91 #[vI 0, vR b, vI 1, .val (.int (((0 : Int32) + (1 : Int32)) + (1 : Int32))), vR d, vR b, vI 2, .val (.int ((0 : Int32) + (1 : Int32))), vI x1] [(.ref d)])) (fun _ k => XS.aload X4.here hx rfl (hb hby own_d6_89) rfl rfl k) ?_
        refine Out.via (g' := (mkF m 92 #[vI 0, vR b, vI 1, .val (.int (((0 : Int32) + (1 : Int32)) + (1 : Int32))), vR d, vR b, vI 2, .val (.int ((0 : Int32) + (1 : Int32))), vI x1] [(.int (((0 : Int32) + (1 : Int32)) + (1 : Int32))), (.ref d)])) (fun _ k => XS.iloadN X4.here hx rfl (hb hby own_d6_91) rfl k) ?_
        refine Out.via (g' := (mkF m 95 #[vI 0, vR b, vI 1, .val (.int ((((0 : Int32) + (1 : Int32)) + (1 : Int32)) + (1 : Int32))), vR d, vR b, vI 2, .val (.int ((0 : Int32) + (1 : Int32))), vI x1] [(.int (((0 : Int32) + (1 : Int32)) + (1 : Int32))), (.ref d)])) (fun _ k => XS.iinc X4.here hx rfl (hb hby own_d6_92) rfl (l' := #[.val (.int (0 : Int32)), .val (.ref b), .val (.int (1 : Int32)), .val (.int ((((0 : Int32) + (1 : Int32)) + (1 : Int32)) + (1 : Int32))), .val (.ref d), .val (.ref b), .val (.int (2 : Int32)), .val (.int ((0 : Int32) + (1 : Int32))), .val (.int x1)]) rfl k) ?_
        refine Out.via (g' := (mkF m 98 #[vI 0, vR b, vI 1, .val (.int ((((0 : Int32) + (1 : Int32)) + (1 : Int32)) + (1 : Int32))), vR d, vR b, vI 2, .val (.int ((0 : Int32) + (1 : Int32))), vI x1] [(.int (128 : Int32)), (.int (((0 : Int32) + (1 : Int32)) + (1 : Int32))), (.ref d)])) (fun _ k => XS.sipush X4.here hx rfl (hb hby own_d6_95) k) ?_
        refine Out.via (g' := (mkF m 100 #[vI 0, vR b, vI 1, .val (.int ((((0 : Int32) + (1 : Int32)) + (1 : Int32)) + (1 : Int32))), vR d, vR b, vI 2, .val (.int ((0 : Int32) + (1 : Int32))), vI x1] [(.int x1), (.int (128 : Int32)), (.int (((0 : Int32) + (1 : Int32)) + (1 : Int32))), (.ref d)])) (fun _ k => XS.iload X4.here hx rfl (hb hby own_d6_98) rfl k) ?_
        refine Out.via (g' := (mkF m 102 #[vI 0, vR b, vI 1, .val (.int ((((0 : Int32) + (1 : Int32)) + (1 : Int32)) + (1 : Int32))), vR d, vR b, vI 2, .val (.int ((0 : Int32) + (1 : Int32))), vI x1] [(.int (63 : Int32)), (.int x1), (.int (128 : Int32)), (.int (((0 : Int32) + (1 : Int32)) + (1 : Int32))), (.ref d)])) (fun _ k => XS.bipush X4.here hx rfl (hb hby own_d6_100) k) ?_
        refine Out.via (g' := (mkF m 103 #[vI 0, vR b, vI 1, .val (.int ((((0 : Int32) + (1 : Int32)) + (1 : Int32)) + (1 : Int32))), vR d, vR b, vI 2, .val (.int ((0 : Int32) + (1 : Int32))), vI x1] [(.int (x1 &&& (63 : Int32))), (.int (128 : Int32)), (.int (((0 : Int32) + (1 : Int32)) + (1 : Int32))), (.ref d)])) (fun _ k => XS.iand X4.here hx rfl (hb hby own_d6_102) rfl k) ?_
        refine Out.via (g' := (mkF m 104 #[vI 0, vR b, vI 1, .val (.int ((((0 : Int32) + (1 : Int32)) + (1 : Int32)) + (1 : Int32))), vR d, vR b, vI 2, .val (.int ((0 : Int32) + (1 : Int32))), vI x1] [(.int ((128 : Int32) ||| (x1 &&& (63 : Int32)))), (.int (((0 : Int32) + (1 : Int32)) + (1 : Int32))), (.ref d)])) (fun _ k => XS.ior X4.here hx rfl (hb hby own_d6_103) rfl k) ?_
        refine Out.via (g' := (mkF m 105 #[vI 0, vR b, vI 1, .val (.int ((((0 : Int32) + (1 : Int32)) + (1 : Int32)) + (1 : Int32))), vR d, vR b, vI 2, .val (.int ((0 : Int32) + (1 : Int32))), vI x1] [(.int (((128 : Int32) ||| (x1 &&& (63 : Int32))).toInt8.toInt32)), (.int (((0 : Int32) + (1 : Int32)) + (1 : Int32))), (.ref d)])) (fun _ k => XS.i2b X4.here hx rfl (hb hby own_d6_104) rfl k) ?_
        obtain ⟨clz5, Arz5, qz5, Sz5, Mz5, Hz5, Gz5⟩ := Ad
        have hin5 : ¬ ((((0 : Int32) + (1 : Int32)) + (1 : Int32)) < 0 ∨ clz5.slots.size ≤ ((((0 : Int32) + (1 : Int32)) + (1 : Int32))).toNatClampNeg) := inb_of Sz5 ⟨by decide, by decide⟩
        obtain ⟨T5, h5, X5, e5, W5, st5⟩ := stB X4 hx hZ e4 Arz5 (j := (((0 : Int32) + (1 : Int32)) + (1 : Int32))) hin5 (g := (mkF m 105 #[vI 0, vR b, vI 1, .val (.int ((((0 : Int32) + (1 : Int32)) + (1 : Int32)) + (1 : Int32))), vR d, vR b, vI 2, .val (.int ((0 : Int32) + (1 : Int32))), vI x1] [(.int (((128 : Int32) ||| (x1 &&& (63 : Int32))).toInt8.toInt32)), (.int (((0 : Int32) + (1 : Int32)) + (1 : Int32))), (.ref d)])) rfl rfl (hb hby own_d6_105)
        have Ad : Arv Z h5 d kd .byte (4 : Int32) [(.int (nar .byte x0)), (.int (nar .byte (((192 : Int32) ||| ((x1 &&& (255 : Int32)) >>> ((6 : Int32) &&& 31))).toInt8.toInt32))), (.int (nar .byte (((128 : Int32) ||| (x1 &&& (63 : Int32))).toInt8.toInt32))), (.int (0 : Int32))] (.int (0 : Int32)) := Arv.set Arz5 qz5 Sz5 Mz5 Hz5 Gz5 (fits_nar_byte _) W5 2 rfl (Nat.le_of_ble_eq_true rfl)
        replace Eb := Eb.wr W5
        replace Ab := Ab.other W5 ne_b_d
        replace O := O.wr W5 g_d
        replace Kp := Kp.wr W5 (Or.inr sz_d)
        replace N0 := Fr.snoc X5 N0 g_d
        refine Out.via (g' := (mkF m 106 #[vI 0, vR b, vI 1, .val (.int ((((0 : Int32) + (1 : Int32)) + (1 : Int32)) + (1 : Int32))), vR d, vR b, vI 2, .val (.int ((0 : Int32) + (1 : Int32))), vI x1] [])) st5 ?_
        refine Out.via (g' := (mkF m 118 #[vI 0, vR b, vI 1, .val (.int ((((0 : Int32) + (1 : Int32)) + (1 : Int32)) + (1 : Int32))), vR d, vR b, vI 2, .val (.int ((0 : Int32) + (1 : Int32))), vI x1] [])) (fun _ k => XS.goto X5.here hx rfl (pc0 := 106) (pc' := 118) rfl (hb hby own_d6_106) (by decide) (by decide) k) ?_
        refine Out.via (g' := (mkF m 121 #[vI 0, vR b, vI 1, .val (.int ((((0 : Int32) + (1 : Int32)) + (1 : Int32)) + (1 : Int32))), vR d, vR b, vI 2, .val (.int (((0 : Int32) + (1 : Int32)) + (1 : Int32))), vI x1] [])) (fun _ k => XS.iinc X5.here hx rfl (hb hby own_d6_118) rfl (l' := #[.val (.int (0 : Int32)), .val (.ref b), .val (.int (1 : Int32)), .val (.int ((((0 : Int32) + (1 : Int32)) + (1 : Int32)) + (1 : Int32))), .val (.ref d), .val (.ref b), .val (.int (2 : Int32)), .val (.int (((0 : Int32) + (1 : Int32)) + (1 : Int32))), .val (.int x1)]) rfl k) ?_
        refine Out.via (g' := (mkF m 49 #[vI 0, vR b, vI 1, .val (.int ((((0 : Int32) + (1 : Int32)) + (1 : Int32)) + (1 : Int32))), vR d, vR b, vI 2, .val (.int (((0 : Int32) + (1 : Int32)) + (1 : Int32))), vI x1] [])) (fun _ k => XS.goto X5.here hx rfl (pc0 := 121) (pc' := 49) rfl (hb hby own_d6_121) (by decide) (by decide) k) ?_
        refine Out.via (g' := (mkF m 51 #[vI 0, vR b, vI 1, .val (.int ((((0 : Int32) + (1 : Int32)) + (1 : Int32)) + (1 : Int32))), vR d, vR b, vI 2, .val (.int (((0 : Int32) + (1 : Int32)) + (1 : Int32))), vI x1] [(.int (((0 : Int32) + (1 : Int32)) + (1 : Int32)))])) (fun _ k => XS.iload X5.here hx rfl (hb hby own_d6_49) rfl k) ?_
        refine Out.via (g' := (mkF m 53 #[vI 0, vR b, vI 1, .val (.int ((((0 : Int32) + (1 : Int32)) + (1 : Int32)) + (1 : Int32))), vR d, vR b, vI 2, .val (.int (((0 : Int32) + (1 : Int32)) + (1 : Int32))), vI x1] [(.int (2 : Int32)), (.int (((0 : Int32) + (1 : Int32)) + (1 : Int32)))])) (fun _ k => XS.iload X5.here hx rfl (hb hby own_d6_51) rfl k) ?_
        refine Out.via (g' := (mkF m 124 #[vI 0, vR b, vI 1, .val (.int ((((0 : Int32) + (1 : Int32)) + (1 : Int32)) + (1 : Int32))), vR d, vR b, vI 2, .val (.int (((0 : Int32) + (1 : Int32)) + (1 : Int32))), vI x1] [])) (fun _ k => XS.icmpYes X5.here hx rfl (pc0 := 53) (pc' := 124) rfl (hb hby own_d6_53) rfl (flt (by decide)).2.1 (by decide) (by decide) k) ?_
        refine Out.via (g' := (mkF m 125 #[vI 0, vR b, vI 1, .val (.int ((((0 : Int32) + (1 : Int32)) + (1 : Int32)) + (1 : Int32))), vR d, vR b, vI 2, .val (.int (((0 : Int32) + (1 : Int32)) + (1 : Int32))), vI x1] [(.int ((((0 : Int32) + (1 : Int32)) + (1 : Int32)) + (1 : Int32)))])) (fun _ k => XS.iloadN X5.here hx rfl (hb hby own_d6_124) rfl k) ?_
        refine Out.via (g' := (mkF m 127 #[vI 0, vR b, vI 1, .val (.int ((((0 : Int32) + (1 : Int32)) + (1 : Int32)) + (1 : Int32))), vR d, vR b, vI 2, .val (.int (((0 : Int32) + (1 : Int32)) + (1 : Int32))), vI x1] [(.ref d), (.int ((((0 : Int32) + (1 : Int32)) + (1 : Int32)) + (1 : Int32)))])) (fun _ k => XS.aload X5.here hx rfl (hb hby own_d6_125) rfl rfl k) ?_
        obtain ⟨cl_f, Ar_f, q_f, S_f, M_f, H_f, G_f⟩ := id Ad
        refine Out.via (g' := (mkF m 128 #[vI 0, vR b, vI 1, .val (.int ((((0 : Int32) + (1 : Int32)) + (1 : Int32)) + (1 : Int32))), vR d, vR b, vI 2, .val (.int (((0 : Int32) + (1 : Int32)) + (1 : Int32))), vI x1] [(.int cl_f.slots.size.toInt32), (.int ((((0 : Int32) + (1 : Int32)) + (1 : Int32)) + (1 : Int32)))])) (fun _ k => X5.arraylength hx (by rw [e5]; exact Ar_f.1) (State.isArrayOf_alike hZ.alike Ar_f.2.1) (g := (mkF m 127 #[vI 0, vR b, vI 1, .val (.int ((((0 : Int32) + (1 : Int32)) + (1 : Int32)) + (1 : Int32))), vR d, vR b, vI 2, .val (.int (((0 : Int32) + (1 : Int32)) + (1 : Int32))), vI x1] [(.ref d), (.int ((((0 : Int32) + (1 : Int32)) + (1 : Int32)) + (1 : Int32)))])) rfl rfl (hb hby own_d6_127) _ k) ?_
        rw [len_of S_f M_f]
        refine Out.via (g' := (mkF m 134 #[vI 0, vR b, vI 1, .val (.int ((((0 : Int32) + (1 : Int32)) + (1 : Int32)) + (1 : Int32))), vR d, vR b, vI 2, .val (.int (((0 : Int32) + (1 : Int32)) + (1 : Int32))), vI x1] [])) (fun _ k => XS.icmpYes X5.here hx rfl (pc0 := 128) (pc' := 134) rfl (hb hby own_d6_128) rfl (feq (by decide)).2 (by decide) (by decide) k) ?_
        refine Out.via (g' := (mkF m 136 #[vI 0, vR b, vI 1, .val (.int ((((0 : Int32) + (1 : Int32)) + (1 : Int32)) + (1 : Int32))), vR d, vR b, vI 2, .val (.int (((0 : Int32) + (1 : Int32)) + (1 : Int32))), vI x1] [(.ref d)])) (fun _ k => XS.aload X5.here hx rfl (hb hby own_d6_134) rfl rfl k) ?_
        refine Out.via (g' := (mkF m 137 #[vI 0, vR b, vI 1, .val (.int ((((0 : Int32) + (1 : Int32)) + (1 : Int32)) + (1 : Int32))), vR d, vR b, vI 2, .val (.int (((0 : Int32) + (1 : Int32)) + (1 : Int32))), vI x1] [(.int ((((0 : Int32) + (1 : Int32)) + (1 : Int32)) + (1 : Int32))), (.ref d)])) (fun _ k => XS.iloadN X5.here hx rfl (hb hby own_d6_136) rfl k) ?_
        obtain ⟨_, _, ⟨T6, L6, kc6, ks6⟩, -, X6, ⟨Lc6, hQ6, l6, y6, z6⟩, st6⟩ := Jvm.LawKit.callS X5 hx (y := own_y6) hown (mvT hZ (W_ hw 167 rfl)) (mvT hZ (W_ hw 168 rfl)) (mvT hZ (W_ hw 128 rfl)) (mvT hZ (W_ hw 169 rfl)) (by decide) (backOf (W := 0) (own_rmCO l Z a0 hw [] d kd (nar .byte x0) (nar .byte (((192 : Int32) ||| ((x1 &&& (255 : Int32)) >>> ((6 : Int32) &&& 31))).toInt8.toInt32)) (nar .byte (((128 : Int32) ||| (x1 &&& (63 : Int32))).toInt8.toInt32)) (0 : Int32) h5 n0 O Ad) hZ (W_ hw 169 rfl) (W_ hw 128 rfl) (by decide) (by decide)) (g := (mkF m 137 #[vI 0, vR b, vI 1, .val (.int ((((0 : Int32) + (1 : Int32)) + (1 : Int32)) + (1 : Int32))), vR d, vR b, vI 2, .val (.int (((0 : Int32) + (1 : Int32)) + (1 : Int32))), vI x1] [(.int ((((0 : Int32) + (1 : Int32)) + (1 : Int32)) + (1 : Int32))), (.ref d)])) rfl (by rw [hml]; rfl) (argsL := [(.ref d), (.int ((((0 : Int32) + (1 : Int32)) + (1 : Int32)) + (1 : Int32)))]) (rest := []) (lenOf own_pd9 rfl) rfl (by show 2 * 0 + _ ≤ _; exact Nat.le_of_eq rfl) (hb hby own_d6_137) (fun _ _ => ⟨rfl, e5, (by decide : 1 + 1 ≤ _), (by decide : 4 + 3 ≤ _)⟩)
        dsimp only [Pt.U, Pt.locs, Pt.cells, Pt.slots] at X6 l6 y6 z6 st6 hQ6
        subst l6 y6 z6
        obtain ⟨t, kt, N, vs, rfl, Nq6, Kq6, At, hN1, hN2⟩ := hQ6
        replace N0 := Fr.app N0 Nq6
        replace Kp := Kp.trans Kq6 all0
        refine Out.via (g' := (mkF m 140 #[vI 0, vR b, vI 1, .val (.int ((((0 : Int32) + (1 : Int32)) + (1 : Int32)) + (1 : Int32))), vR d, vR b, vI 2, .val (.int (((0 : Int32) + (1 : Int32)) + (1 : Int32))), vI x1] [(.ref t)])) st6 ?_
        exact Out.endN X6 (fun h => by rw [Bd.returns] at h; cases h) Bd.notSynchronized (by decide) (by decide) (⟨t, kt, N, vs, rfl, N0, Kp, At, hN1, hN2⟩) (fun fs hr => own_retR X6 hx (t := (.array .byte)) Bd.returns rfl rfl rfl (hb hby own_d6_140) hr)
      · refine Out.via (g' := (mkF m 109 #[vI 0, vR b, vI 1, .val (.int ((0 : Int32) + (1 : Int32))), vR d, vR b, vI 2, .val (.int ((0 : Int32) + (1 : Int32))), vI x1] [])) (fun _ k => XS.ifYes X3.here hx rfl (pc0 := 65) (pc' := 109) rfl (hb hby own_d6_65) rfl ((if0 _ _).trans (flt hz1).2.1) (by decide) (by decide) k) ?_
        exact absurd hp (fun q => q.elim hz0 hz1)
theorem own_d7_0 : decode jdk_42_method_18_code 0 = .ok (.aload_n 0, 1) := by decide +kernel
theorem own_d7_1 : decode jdk_42_method_18_code 1 = .ok (.getstatic 86, 3) := by decide +kernel
theorem own_d7_4 : decode jdk_42_method_18_code 4 = .ok (.if_acmp .ne 10, 3) := by decide +kernel
theorem own_d7_7 : decode jdk_42_method_18_code 7 = .ok (.iload_n 1, 1) := by decide +kernel
theorem own_d7_8 : decode jdk_42_method_18_code 8 = .ok (.aload_n 2, 1) := by decide +kernel
theorem own_d7_9 : decode jdk_42_method_18_code 9 = .ok (.iconst 1, 1) := by decide +kernel
theorem own_d7_10 : decode jdk_42_method_18_code 10 = .ok (.invokestatic 252, 3) := by decide +kernel
theorem own_pd10 : parseMethodDescriptor "(B[BZ)[B" = some ⟨[.byte, (.array .byte), .boolean], some (.array .byte)⟩ := by decide +kernel
theorem own_d7_13 : decode jdk_42_method_18_code 13 = .ok (.areturn, 1) := by decide +kernel
theorem own_efEN1 (m : MethodId) (x0 : Addr) (x1 : Int32) (x2 : Addr) : entryFrame m #[(.ref x0), (.int x1), (.ref x2)] 3 = mkF m 0 #[.val (.ref x0), .val (.int x1), .val (.ref x2)] [] := by first | (simp [entryFrame, mkF, argsToLocals, Value.category]; done) | rfl
abbrev own_QEN1 (Z : State) (u8 b : Addr) (kb : ClassId) (x0 x1 : Int32) (h0 : Heap) (n0 : Nat) : Option Value → Heap → List Loc → Prop := fun v h L => ∃ (t : Addr) (kt : ClassId) (N : Int32) (vs : List Value), v = some (.ref t) ∧ Fr n0 L ∧ Keep h0 h [] ∧ Arv Z h t kt .byte N vs (.int (0 : Int32)) ∧ 0 < N ∧ ¬ (255 : Int32) < N
set_option maxRecDepth 65536 in
set_option maxHeartbeats 40000000 in
theorem own_rmEN1 (l : Launch) (Z : State) (a0 : Array Value) (hw : ∀ d ∈ tables_1, d.before a0 Z = true) (ws : List Jvm.Cond) (u8 b : Addr) (kb : ClassId) (x0 x1 : Int32) (h0 : Heap) (n0 : Nat) (O : Old Z n0 h0) (V_u : Sta Z Z.heap "sun/nio/cs/UTF_8" "INSTANCE" "Lsun/nio/cs/UTF_8;" (.ref u8)) (Ab : Arv Z h0 b kb .byte (1 : Int32) [(.int x0)] (.int (0 : Int32))) (Eb : Exa Z h0 b "[B") :
    MetFree l own_y8 (head1 (Jvm.Cond.code own_y8 jdk_42_method_18_code 3 (some (.array .byte)) :: ws) ({ frames := 3, cells := 2, slots := 7, locals := 53 } : Room)) (fun aa U => aa = #[(.ref u8), (.int (0 : Int32)), (.ref b)] ∧ Z.Warmed39 U.vm ∧ U.heap = h0) (fun _ _ _ _ _ => True) (fun _ U o U' => ∃ v L, o = .returned v ∧ (own_QEN1 Z u8 b kb x0 x1 h0 n0) v U'.heap L ∧ FrameEnd U o U' L ({ frames := 3, cells := 2, slots := 7, locals := 53 } : Room).cells ({ frames := 3, cells := 2, slots := 7, locals := 53 } : Room).slots) := by
  refine MetFree.of_bodySF (plainFor_of_name own_pn6) hisR ?_
  intro p e s m args below meth c s₁ Bd hml0 hP hK
  obtain ⟨rfl, hZ, hh⟩ := hP
  have hx := Bd.exec
  have hby := Bd.bytes
  have hml : c.maxLocals = 3 := hml0
  have hown : s.vm.findClass "java/lang/String" = some m.cls := findClass_of_methodNamed Bd.named
  have hnm := (name_of_methodNamed Bd.named Bd.method).1
  have X0 : Stand p l e ({ frames := 3, cells := 2, slots := 7, locals := 53 } : Room) s m #[(.ref u8), (.int (0 : Int32)), (.ref b)] below meth c s₁ [] 0 0 := Stand.of_body Bd
  have e0 : s₁.heap = h0 := by rw [← hh, Bd.state]; rfl
  have N0 := Fr.nil n0
  refine Out.start (Q := own_QEN1 Z u8 b kb x0 x1 h0 n0) (own_efEN1 m u8 (0 : Int32) b ) ?_
  refine Out.via (g' := (mkF m 1 #[vR u8, vI 0, vR b] [(.ref u8)])) (fun _ k => XS.aloadN X0.here hx rfl (hb hby own_d7_0) rfl rfl k) ?_
  obtain ⟨T1, X1, e1, st1⟩ := getS2 X0 hx hZ hown (host := "") (Or.inl (W_ hw 75 rfl)) Via.refl e0 (V_u.ext O.2) (g := (mkF m 1 #[vR u8, vI 0, vR b] [(.ref u8)])) rfl (hb hby own_d7_1)
  refine Out.via (g' := (mkF m 4 #[vR u8, vI 0, vR b] [(.ref u8), (.ref u8)])) st1 ?_
  refine Out.via (g' := (mkF m 7 #[vR u8, vI 0, vR b] [])) (fun _ k => Jvm.RoadKit.acmp (g := (mkF m 4 #[vR u8, vI 0, vR b] [(.ref u8), (.ref u8)])) X1 hx rfl rfl rfl (pc0 := 4) (pc' := 7) (same := true) rfl (hb hby own_d7_4) rfl (decide_eq_true rfl) (by decide) (by decide) k) ?_
  refine Out.via (g' := (mkF m 8 #[vR u8, vI 0, vR b] [(.int (0 : Int32))])) (fun _ k => XS.iloadN X1.here hx rfl (hb hby own_d7_7) rfl k) ?_
  refine Out.via (g' := (mkF m 9 #[vR u8, vI 0, vR b] [(.ref b), (.int (0 : Int32))])) (fun _ k => XS.aloadN X1.here hx rfl (hb hby own_d7_8) rfl rfl k) ?_
  refine Out.via (g' := (mkF m 10 #[vR u8, vI 0, vR b] [(.int (1 : Int32)), (.ref b), (.int (0 : Int32))])) (fun _ k => XS.iconst X1.here hx rfl (hb hby own_d7_9) k) ?_
  obtain ⟨_, _, ⟨T2, L2, kc2, ks2⟩, -, X2, ⟨Lc2, hQ2, l2, y2, z2⟩, st2⟩ := Jvm.LawKit.callS X1 hx (y := own_y7) hown (mvT hZ (W_ hw 77 rfl)) (mvT hZ (W_ hw 78 rfl)) (mvT hZ (W_ hw 7 rfl)) (mvT hZ (W_ hw 79 rfl)) (by decide) (backOf (W := 0) (own_rmUT1 l Z a0 hw [] b kb x0 x1 h0 n0 O Ab Eb) hZ (W_ hw 79 rfl) (W_ hw 7 rfl) (by decide) (by decide)) (g := (mkF m 10 #[vR u8, vI 0, vR b] [(.int (1 : Int32)), (.ref b), (.int (0 : Int32))])) rfl (by rw [hml]; rfl) (argsL := [(.int (0 : Int32)), (.ref b), (.int (1 : Int32))]) (rest := []) (lenOf own_pd10 rfl) rfl (by show 2 * 0 + _ ≤ _; exact Nat.le_of_eq rfl) (hb hby own_d7_10) (fun _ _ => ⟨rfl, e1, (by decide : 0 + 2 ≤ _), (by decide : 0 + 7 ≤ _)⟩)
  dsimp only [Pt.U, Pt.locs, Pt.cells, Pt.slots] at X2 l2 y2 z2 st2 hQ2
  subst l2 y2 z2
  obtain ⟨t, kt, N, vs, rfl, Nq2, Kq2, At, hN1, hN2⟩ := hQ2
  refine Out.via (g' := (mkF m 13 #[vR u8, vI 0, vR b] [(.ref t)])) st2 ?_
  exact Out.endN X2 (fun h => by rw [Bd.returns] at h; cases h) Bd.notSynchronized (by decide) (by decide) (⟨t, kt, N, vs, rfl, Fr.app N0 Nq2, Kq2, At, hN1, hN2⟩) (fun fs hr => own_retR X2 hx (t := (.array .byte)) Bd.returns rfl rfl rfl (hb hby own_d7_13) hr)
theorem own_efEN2 (m : MethodId) (x0 : Addr) (x1 : Int32) (x2 : Addr) : entryFrame m #[(.ref x0), (.int x1), (.ref x2)] 3 = mkF m 0 #[.val (.ref x0), .val (.int x1), .val (.ref x2)] [] := by first | (simp [entryFrame, mkF, argsToLocals, Value.category]; done) | rfl
abbrev own_QEN2 (Z : State) (u8 b : Addr) (kb : ClassId) (x0 x1 : Int32) (h0 : Heap) (n0 : Nat) : Option Value → Heap → List Loc → Prop := fun v h L => ∃ (t : Addr) (kt : ClassId) (N : Int32) (vs : List Value), v = some (.ref t) ∧ Fr n0 L ∧ Keep h0 h [] ∧ Arv Z h t kt .byte N vs (.int (0 : Int32)) ∧ 0 < N ∧ ¬ (255 : Int32) < N
set_option maxRecDepth 65536 in
set_option maxHeartbeats 40000000 in
theorem own_rmEN2 (l : Launch) (Z : State) (a0 : Array Value) (hw : ∀ d ∈ tables_1, d.before a0 Z = true) (ws : List Jvm.Cond) (u8 b : Addr) (kb : ClassId) (x0 x1 : Int32) (h0 : Heap) (n0 : Nat) (O : Old Z n0 h0) (V_u : Sta Z Z.heap "sun/nio/cs/UTF_8" "INSTANCE" "Lsun/nio/cs/UTF_8;" (.ref u8)) (Ab : Arv Z h0 b kb .byte (2 : Int32) [(.int x0), (.int x1)] (.int (0 : Int32))) (Eb : Exa Z h0 b "[B") :
    MetFree l own_y8 (head1 (Jvm.Cond.code own_y8 jdk_42_method_18_code 3 (some (.array .byte)) :: ws) ({ frames := 3, cells := 2, slots := 7, locals := 53 } : Room)) (fun aa U => aa = #[(.ref u8), (.int (0 : Int32)), (.ref b)] ∧ Z.Warmed39 U.vm ∧ U.heap = h0) (fun _ _ _ _ _ => True) (fun _ U o U' => ∃ v L, o = .returned v ∧ (own_QEN2 Z u8 b kb x0 x1 h0 n0) v U'.heap L ∧ FrameEnd U o U' L ({ frames := 3, cells := 2, slots := 7, locals := 53 } : Room).cells ({ frames := 3, cells := 2, slots := 7, locals := 53 } : Room).slots) := by
  refine MetFree.of_bodySF (plainFor_of_name own_pn6) hisR ?_
  intro p e s m args below meth c s₁ Bd hml0 hP hK
  obtain ⟨rfl, hZ, hh⟩ := hP
  have hx := Bd.exec
  have hby := Bd.bytes
  have hml : c.maxLocals = 3 := hml0
  have hown : s.vm.findClass "java/lang/String" = some m.cls := findClass_of_methodNamed Bd.named
  have hnm := (name_of_methodNamed Bd.named Bd.method).1
  have X0 : Stand p l e ({ frames := 3, cells := 2, slots := 7, locals := 53 } : Room) s m #[(.ref u8), (.int (0 : Int32)), (.ref b)] below meth c s₁ [] 0 0 := Stand.of_body Bd
  have e0 : s₁.heap = h0 := by rw [← hh, Bd.state]; rfl
  have N0 := Fr.nil n0
  refine Out.start (Q := own_QEN2 Z u8 b kb x0 x1 h0 n0) (own_efEN2 m u8 (0 : Int32) b ) ?_
  refine Out.via (g' := (mkF m 1 #[vR u8, vI 0, vR b] [(.ref u8)])) (fun _ k => XS.aloadN X0.here hx rfl (hb hby own_d7_0) rfl rfl k) ?_
  obtain ⟨T1, X1, e1, st1⟩ := getS2 X0 hx hZ hown (host := "") (Or.inl (W_ hw 75 rfl)) Via.refl e0 (V_u.ext O.2) (g := (mkF m 1 #[vR u8, vI 0, vR b] [(.ref u8)])) rfl (hb hby own_d7_1)
  refine Out.via (g' := (mkF m 4 #[vR u8, vI 0, vR b] [(.ref u8), (.ref u8)])) st1 ?_
  refine Out.via (g' := (mkF m 7 #[vR u8, vI 0, vR b] [])) (fun _ k => Jvm.RoadKit.acmp (g := (mkF m 4 #[vR u8, vI 0, vR b] [(.ref u8), (.ref u8)])) X1 hx rfl rfl rfl (pc0 := 4) (pc' := 7) (same := true) rfl (hb hby own_d7_4) rfl (decide_eq_true rfl) (by decide) (by decide) k) ?_
  refine Out.via (g' := (mkF m 8 #[vR u8, vI 0, vR b] [(.int (0 : Int32))])) (fun _ k => XS.iloadN X1.here hx rfl (hb hby own_d7_7) rfl k) ?_
  refine Out.via (g' := (mkF m 9 #[vR u8, vI 0, vR b] [(.ref b), (.int (0 : Int32))])) (fun _ k => XS.aloadN X1.here hx rfl (hb hby own_d7_8) rfl rfl k) ?_
  refine Out.via (g' := (mkF m 10 #[vR u8, vI 0, vR b] [(.int (1 : Int32)), (.ref b), (.int (0 : Int32))])) (fun _ k => XS.iconst X1.here hx rfl (hb hby own_d7_9) k) ?_
  obtain ⟨_, _, ⟨T2, L2, kc2, ks2⟩, -, X2, ⟨Lc2, hQ2, l2, y2, z2⟩, st2⟩ := Jvm.LawKit.callS X1 hx (y := own_y7) hown (mvT hZ (W_ hw 77 rfl)) (mvT hZ (W_ hw 78 rfl)) (mvT hZ (W_ hw 7 rfl)) (mvT hZ (W_ hw 79 rfl)) (by decide) (backOf (W := 0) (own_rmUT2 l Z a0 hw [] b kb x0 x1 h0 n0 O Ab Eb) hZ (W_ hw 79 rfl) (W_ hw 7 rfl) (by decide) (by decide)) (g := (mkF m 10 #[vR u8, vI 0, vR b] [(.int (1 : Int32)), (.ref b), (.int (0 : Int32))])) rfl (by rw [hml]; rfl) (argsL := [(.int (0 : Int32)), (.ref b), (.int (1 : Int32))]) (rest := []) (lenOf own_pd10 rfl) rfl (by show 2 * 0 + _ ≤ _; exact Nat.le_of_eq rfl) (hb hby own_d7_10) (fun _ _ => ⟨rfl, e1, (by decide : 0 + 2 ≤ _), (by decide : 0 + 7 ≤ _)⟩)
  dsimp only [Pt.U, Pt.locs, Pt.cells, Pt.slots] at X2 l2 y2 z2 st2 hQ2
  subst l2 y2 z2
  obtain ⟨t, kt, N, vs, rfl, Nq2, Kq2, At, hN1, hN2⟩ := hQ2
  refine Out.via (g' := (mkF m 13 #[vR u8, vI 0, vR b] [(.ref t)])) st2 ?_
  exact Out.endN X2 (fun h => by rw [Bd.returns] at h; cases h) Bd.notSynchronized (by decide) (by decide) (⟨t, kt, N, vs, rfl, Fr.app N0 Nq2, Kq2, At, hN1, hN2⟩) (fun fs hr => own_retR X2 hx (t := (.array .byte)) Bd.returns rfl rfl rfl (hb hby own_d7_13) hr)
theorem own_d8_0 : decode jdk_42_method_152_code 0 = .ok (.getstatic 38, 3) := by decide +kernel
theorem own_d8_3 : decode jdk_42_method_152_code 3 = .ok (.ifCond .eq 10, 3) := by decide +kernel
theorem own_d8_6 : decode jdk_42_method_152_code 6 = .ok (.aload_n 0, 1) := by decide +kernel
theorem own_d8_7 : decode jdk_42_method_152_code 7 = .ok (.getfield 15, 3) := by decide +kernel
theorem own_d8_10 : decode jdk_42_method_152_code 10 = .ok (.goto 4, 3) := by decide +kernel
theorem own_d8_14 : decode jdk_42_method_152_code 14 = .ok (.ireturn, 1) := by decide +kernel
theorem own_efCD (m : MethodId) (x0 : Addr) : entryFrame m #[(.ref x0)] 1 = mkF m 0 #[.val (.ref x0)] [] := by first | (simp [entryFrame, mkF, argsToLocals, Value.category]; done) | rfl
abbrev own_QCD (Z : State) (a : Addr) (G1 : Int32) (h0 : Heap) (n0 : Nat) : Option Value → Heap → List Loc → Prop := fun v h L => v = some (.int (0 : Int32)) ∧ Fr n0 L ∧ h = h0
set_option maxRecDepth 65536 in
set_option maxHeartbeats 40000000 in
theorem own_rmCD (l : Launch) (Z : State) (a0 : Array Value) (hw : ∀ d ∈ tables_1, d.before a0 Z = true) (ws : List Jvm.Cond) (a : Addr) (G1 : Int32) (h0 : Heap) (n0 : Nat) (O : Old Z n0 h0) (Cd : Fld Z h0 a "java/lang/String" "coder" "B" (.int (0 : Int32))) (O2 : Sta Z Z.heap "java/lang/String" "COMPACT_STRINGS" "Z" (.int G1)) (P5 : ¬ (G1 = (0 : Int32))) :
    MetFree l own_y9 (head1 (Jvm.Cond.code own_y9 jdk_42_method_152_code 1 (some .byte) :: ws) ({ frames := 0, cells := 0, slots := 0, locals := 0 } : Room)) (fun aa U => aa = #[(.ref a)] ∧ Z.Warmed39 U.vm ∧ U.heap = h0) (fun _ _ _ _ _ => True) (fun _ U o U' => ∃ v L, o = .returned v ∧ (own_QCD Z a G1 h0 n0) v U'.heap L ∧ FrameEnd U o U' L ({ frames := 0, cells := 0, slots := 0, locals := 0 } : Room).cells ({ frames := 0, cells := 0, slots := 0, locals := 0 } : Room).slots) := by
  refine MetFree.of_bodySF (plainFor_of_name own_pn6) hisR ?_
  intro p e s m args below meth c s₁ Bd hml0 hP hK
  obtain ⟨rfl, hZ, hh⟩ := hP
  have hx := Bd.exec
  have hby := Bd.bytes
  have hml : c.maxLocals = 1 := hml0
  have hown : s.vm.findClass "java/lang/String" = some m.cls := findClass_of_methodNamed Bd.named
  have hnm := (name_of_methodNamed Bd.named Bd.method).1
  have X0 : Stand p l e ({ frames := 0, cells := 0, slots := 0, locals := 0 } : Room) s m #[(.ref a)] below meth c s₁ [] 0 0 := Stand.of_body Bd
  have e0 : s₁.heap = h0 := by rw [← hh, Bd.state]; rfl
  have N0 := Fr.nil n0
  refine Out.start (Q := own_QCD Z a G1 h0 n0) (own_efCD m a ) ?_
  obtain ⟨T1, X1, e1, st1⟩ := getS2 X0 hx hZ hown (host := "") (Or.inl (W_ hw 18 rfl)) Via.refl e0 (O2.ext O.2) (g := (mkF m 0 #[vR a] [])) rfl (hb hby own_d8_0)
  refine Out.via (g' := (mkF m 3 #[vR a] [(.int G1)])) st1 ?_
  refine Out.via (g' := (mkF m 6 #[vR a] [])) (fun _ k => XS.ifNo X1.here hx rfl (hb hby own_d8_3) rfl ((if0 _ _).trans (feq P5).1) k) ?_
  refine Out.via (g' := (mkF m 7 #[vR a] [(.ref a)])) (fun _ k => XS.aloadN X1.here hx rfl (hb hby own_d8_6) rfl rfl k) ?_
  obtain ⟨T2, X2, e2, st2⟩ := getF X1 hx hZ hown (host := "") (Or.inl (W_ hw 30 rfl)) Via.refl e1 Cd (g := (mkF m 7 #[vR a] [(.ref a)])) rfl rfl (hb hby own_d8_7)
  refine Out.via (g' := (mkF m 10 #[vR a] [(.int (0 : Int32))])) st2 ?_
  refine Out.via (g' := (mkF m 14 #[vR a] [(.int (0 : Int32))])) (fun _ k => XS.goto X2.here hx rfl (pc0 := 10) (pc' := 14) rfl (hb hby own_d8_10) (by decide) (by decide) k) ?_
  exact Out.endN X2 (fun h => by rw [Bd.returns] at h; cases h) Bd.notSynchronized (by decide) (by decide) (by rw [e2]; exact ⟨rfl, N0, rfl⟩) (fun fs hr => Jvm.RoadKit.retN X2 hx (t := .byte) Bd.returns (by simp) (hb hby own_d8_14) hr)
theorem own_d9_0 : decode jdk_42_method_64_code 0 = .ok (.aload_n 1, 1) := by decide +kernel
theorem own_d9_1 : decode jdk_42_method_64_code 1 = .ok (.ifnonnull 11, 3) := by decide +kernel
theorem own_d9_12 : decode jdk_42_method_64_code 12 = .ok (.aload_n 1, 1) := by decide +kernel
theorem own_d9_13 : decode jdk_42_method_64_code 13 = .ok (.aload_n 0, 1) := by decide +kernel
theorem own_d9_14 : decode jdk_42_method_64_code 14 = .ok (.invokevirtual 335, 3) := by decide +kernel
theorem own_pd11 : parseMethodDescriptor "()B" = some ⟨[], some .byte⟩ := by decide +kernel
theorem own_d9_17 : decode jdk_42_method_64_code 17 = .ok (.aload_n 0, 1) := by decide +kernel
theorem own_d9_18 : decode jdk_42_method_64_code 18 = .ok (.getfield 9, 3) := by decide +kernel
theorem own_d9_21 : decode jdk_42_method_64_code 21 = .ok (.invokestatic 535, 3) := by decide +kernel
theorem own_pd12 : parseMethodDescriptor "(Ljava/nio/charset/Charset;B[B)[B" = some ⟨[(.object "java/nio/charset/Charset"), .byte, (.array .byte)], some (.array .byte)⟩ := by decide +kernel
theorem own_d9_24 : decode jdk_42_method_64_code 24 = .ok (.areturn, 1) := by decide +kernel
theorem own_efGB1 (m : MethodId) (x0 : Addr) (x1 : Addr) : entryFrame m #[(.ref x0), (.ref x1)] 2 = mkF m 0 #[.val (.ref x0), .val (.ref x1)] [] := by first | (simp [entryFrame, mkF, argsToLocals, Value.category]; done) | rfl
abbrev own_QGB1 (Z : State) (a u8 b : Addr) (kb : ClassId) (x0 x1 : Int32) (G1 : Int32) (h0 : Heap) (n0 : Nat) : Option Value → Heap → List Loc → Prop := fun v h L => ∃ (t : Addr) (kt : ClassId) (N : Int32) (vs : List Value), v = some (.ref t) ∧ Fr n0 L ∧ Keep h0 h [] ∧ Arv Z h t kt .byte N vs (.int (0 : Int32)) ∧ 0 < N ∧ ¬ (255 : Int32) < N
set_option maxRecDepth 65536 in
set_option maxHeartbeats 40000000 in
theorem own_rmGB1 (l : Launch) (Z : State) (a0 : Array Value) (hw : ∀ d ∈ tables_1, d.before a0 Z = true) (ws : List Jvm.Cond) (a u8 b : Addr) (kb : ClassId) (x0 x1 : Int32) (G1 : Int32) (h0 : Heap) (n0 : Nat) (O : Old Z n0 h0) (Es : Exa Z h0 a "java/lang/String") (Cd : Fld Z h0 a "java/lang/String" "coder" "B" (.int (0 : Int32))) (Vl : Fld Z h0 a "java/lang/String" "value" "[B" (.ref b)) (Ab : Arv Z h0 b kb .byte (1 : Int32) [(.int x0)] (.int (0 : Int32))) (Eb : Exa Z h0 b "[B") (O2 : Sta Z Z.heap "java/lang/String" "COMPACT_STRINGS" "Z" (.int G1)) (P5 : ¬ (G1 = (0 : Int32))) (V_u : Sta Z Z.heap "sun/nio/cs/UTF_8" "INSTANCE" "Lsun/nio/cs/UTF_8;" (.ref u8)) :
    MetFree l own_y10 (head1 (Jvm.Cond.code own_y10 jdk_42_method_64_code 2 (some (.array .byte)) :: ws) ({ frames := 4, cells := 2, slots := 7, locals := 67 } : Room)) (fun aa U => aa = #[(.ref a), (.ref u8)] ∧ Z.Warmed39 U.vm ∧ U.heap = h0) (fun _ _ _ _ _ => True) (fun _ U o U' => ∃ v L, o = .returned v ∧ (own_QGB1 Z a u8 b kb x0 x1 G1 h0 n0) v U'.heap L ∧ FrameEnd U o U' L ({ frames := 4, cells := 2, slots := 7, locals := 67 } : Room).cells ({ frames := 4, cells := 2, slots := 7, locals := 67 } : Room).slots) := by
  refine MetFree.of_bodySF (plainFor_of_name own_pn6) hisR ?_
  intro p e s m args below meth c s₁ Bd hml0 hP hK
  obtain ⟨rfl, hZ, hh⟩ := hP
  have hx := Bd.exec
  have hby := Bd.bytes
  have hml : c.maxLocals = 2 := hml0
  have hown : s.vm.findClass "java/lang/String" = some m.cls := findClass_of_methodNamed Bd.named
  have hnm := (name_of_methodNamed Bd.named Bd.method).1
  have X0 : Stand p l e ({ frames := 4, cells := 2, slots := 7, locals := 67 } : Room) s m #[(.ref a), (.ref u8)] below meth c s₁ [] 0 0 := Stand.of_body Bd
  have e0 : s₁.heap = h0 := by rw [← hh, Bd.state]; rfl
  have N0 := Fr.nil n0
  refine Out.start (Q := own_QGB1 Z a u8 b kb x0 x1 G1 h0 n0) (own_efGB1 m a u8 ) ?_
  refine Out.via (g' := (mkF m 1 #[vR a, vR u8] [(.ref u8)])) (fun _ k => XS.aloadN X0.here hx rfl (hb hby own_d9_0) rfl rfl k) ?_
  refine Out.via (g' := (mkF m 12 #[vR a, vR u8] [])) (fun _ k => XS.ifnonnullYes X0.here hx rfl (pc0 := 1) (pc' := 12) rfl (hb hby own_d9_1) rfl (by decide) (by decide) k) ?_
  refine Out.via (g' := (mkF m 13 #[vR a, vR u8] [(.ref u8)])) (fun _ k => XS.aloadN X0.here hx rfl (hb hby own_d9_12) rfl rfl k) ?_
  refine Out.via (g' := (mkF m 14 #[vR a, vR u8] [(.ref a), (.ref u8)])) (fun _ k => XS.aloadN X0.here hx rfl (hb hby own_d9_13) rfl rfl k) ?_
  obtain ⟨cq1, kq1, q1a, q1b, q1c⟩ := isOf hZ e0 Es
  obtain ⟨_, _, ⟨T1, L1, kc1, ks1⟩, -, X1, ⟨Lc1, hQ1, l1, y1, z1⟩, st1⟩ := X0.virtualBack hx (y := own_y9) (z := own_y9) hown (mvT hZ (W_ hw 67 rfl)) (mvT hZ (W_ hw 68 rfl)) (notFace_of_selects (args := #[]) (mvT hZ (W_ hw 70 rfl))) (mvT hZ (W_ hw 70 rfl)) (mvT hZ (W_ hw 69 rfl)) (by decide) (backOf (W := 1) (own_rmCD l Z a0 hw [] a G1 h0 n0 O Cd O2 P5) hZ (W_ hw 71 rfl) (W_ hw 7 rfl) (by decide) (by decide)) q1a q1c (g := (mkF m 14 #[vR a, vR u8] [(.ref a), (.ref u8)])) rfl (by rw [hml]; rfl) (Steps.refl _) (argsL := []) (rest := [(.ref u8)]) (lenOf own_pd11 rfl) rfl (by show 2 * 0 + _ ≤ _; exact Nat.le_of_eq rfl) (hb hby own_d9_14) (fun _ _ => ⟨rfl, e0, (by decide : 0 + 0 ≤ _), (by decide : 0 + 0 ≤ _)⟩)
  dsimp only [Pt.U, Pt.locs, Pt.cells, Pt.slots] at X1 l1 y1 z1 st1 hQ1
  subst l1 y1 z1
  obtain ⟨rfl, Nq1, eq1⟩ := hQ1
  replace N0 := Fr.app N0 Nq1
  refine Out.to (g' := (mkF m 17 #[vR a, vR u8] [(.int (0 : Int32)), (.ref u8)])) st1 ?_
  refine Out.via (g' := (mkF m 18 #[vR a, vR u8] [(.ref a), (.int (0 : Int32)), (.ref u8)])) (fun _ k => XS.aloadN X1.here hx rfl (hb hby own_d9_17) rfl rfl k) ?_
  obtain ⟨T2, X2, e2, st2⟩ := getF X1 hx hZ hown (host := "") (Or.inl (W_ hw 32 rfl)) Via.refl eq1 Vl (g := (mkF m 18 #[vR a, vR u8] [(.ref a), (.int (0 : Int32)), (.ref u8)])) rfl rfl (hb hby own_d9_18)
  refine Out.via (g' := (mkF m 21 #[vR a, vR u8] [(.ref b), (.int (0 : Int32)), (.ref u8)])) st2 ?_
  obtain ⟨_, _, ⟨T3, L3, kc3, ks3⟩, -, X3, ⟨Lc3, hQ3, l3, y3, z3⟩, st3⟩ := Jvm.LawKit.callS X2 hx (y := own_y8) hown (mvT hZ (W_ hw 72 rfl)) (mvT hZ (W_ hw 73 rfl)) (mvT hZ (W_ hw 7 rfl)) (mvT hZ (W_ hw 74 rfl)) (by decide) (backOf (W := 0) (own_rmEN1 l Z a0 hw [] u8 b kb x0 x1 h0 n0 O V_u Ab Eb) hZ (W_ hw 74 rfl) (W_ hw 7 rfl) (by decide) (by decide)) (g := (mkF m 21 #[vR a, vR u8] [(.ref b), (.int (0 : Int32)), (.ref u8)])) rfl (by rw [hml]; rfl) (argsL := [(.ref u8), (.int (0 : Int32)), (.ref b)]) (rest := []) (lenOf own_pd12 rfl) rfl (by show 2 * 0 + _ ≤ _; exact Nat.le_of_eq rfl) (hb hby own_d9_21) (fun _ _ => ⟨rfl, e2, (by decide : 0 + 2 ≤ _), (by decide : 0 + 7 ≤ _)⟩)
  dsimp only [Pt.U, Pt.locs, Pt.cells, Pt.slots] at X3 l3 y3 z3 st3 hQ3
  subst l3 y3 z3
  obtain ⟨t, kt, N, vs, rfl, Nq3, Kq3, At, hN1, hN2⟩ := hQ3
  refine Out.via (g' := (mkF m 24 #[vR a, vR u8] [(.ref t)])) st3 ?_
  exact Out.endN X3 (fun h => by rw [Bd.returns] at h; cases h) Bd.notSynchronized (by decide) (by decide) (⟨t, kt, N, vs, rfl, Fr.app N0 Nq3, Kq3, At, hN1, hN2⟩) (fun fs hr => own_retR X3 hx (t := (.array .byte)) Bd.returns rfl rfl rfl (hb hby own_d9_24) hr)
theorem own_efGB2 (m : MethodId) (x0 : Addr) (x1 : Addr) : entryFrame m #[(.ref x0), (.ref x1)] 2 = mkF m 0 #[.val (.ref x0), .val (.ref x1)] [] := by first | (simp [entryFrame, mkF, argsToLocals, Value.category]; done) | rfl
abbrev own_QGB2 (Z : State) (a u8 b : Addr) (kb : ClassId) (x0 x1 : Int32) (G1 : Int32) (h0 : Heap) (n0 : Nat) : Option Value → Heap → List Loc → Prop := fun v h L => ∃ (t : Addr) (kt : ClassId) (N : Int32) (vs : List Value), v = some (.ref t) ∧ Fr n0 L ∧ Keep h0 h [] ∧ Arv Z h t kt .byte N vs (.int (0 : Int32)) ∧ 0 < N ∧ ¬ (255 : Int32) < N
set_option maxRecDepth 65536 in
set_option maxHeartbeats 40000000 in
theorem own_rmGB2 (l : Launch) (Z : State) (a0 : Array Value) (hw : ∀ d ∈ tables_1, d.before a0 Z = true) (ws : List Jvm.Cond) (a u8 b : Addr) (kb : ClassId) (x0 x1 : Int32) (G1 : Int32) (h0 : Heap) (n0 : Nat) (O : Old Z n0 h0) (Es : Exa Z h0 a "java/lang/String") (Cd : Fld Z h0 a "java/lang/String" "coder" "B" (.int (0 : Int32))) (Vl : Fld Z h0 a "java/lang/String" "value" "[B" (.ref b)) (Ab : Arv Z h0 b kb .byte (2 : Int32) [(.int x0), (.int x1)] (.int (0 : Int32))) (Eb : Exa Z h0 b "[B") (O2 : Sta Z Z.heap "java/lang/String" "COMPACT_STRINGS" "Z" (.int G1)) (P5 : ¬ (G1 = (0 : Int32))) (V_u : Sta Z Z.heap "sun/nio/cs/UTF_8" "INSTANCE" "Lsun/nio/cs/UTF_8;" (.ref u8)) :
    MetFree l own_y10 (head1 (Jvm.Cond.code own_y10 jdk_42_method_64_code 2 (some (.array .byte)) :: ws) ({ frames := 4, cells := 2, slots := 7, locals := 67 } : Room)) (fun aa U => aa = #[(.ref a), (.ref u8)] ∧ Z.Warmed39 U.vm ∧ U.heap = h0) (fun _ _ _ _ _ => True) (fun _ U o U' => ∃ v L, o = .returned v ∧ (own_QGB2 Z a u8 b kb x0 x1 G1 h0 n0) v U'.heap L ∧ FrameEnd U o U' L ({ frames := 4, cells := 2, slots := 7, locals := 67 } : Room).cells ({ frames := 4, cells := 2, slots := 7, locals := 67 } : Room).slots) := by
  refine MetFree.of_bodySF (plainFor_of_name own_pn6) hisR ?_
  intro p e s m args below meth c s₁ Bd hml0 hP hK
  obtain ⟨rfl, hZ, hh⟩ := hP
  have hx := Bd.exec
  have hby := Bd.bytes
  have hml : c.maxLocals = 2 := hml0
  have hown : s.vm.findClass "java/lang/String" = some m.cls := findClass_of_methodNamed Bd.named
  have hnm := (name_of_methodNamed Bd.named Bd.method).1
  have X0 : Stand p l e ({ frames := 4, cells := 2, slots := 7, locals := 67 } : Room) s m #[(.ref a), (.ref u8)] below meth c s₁ [] 0 0 := Stand.of_body Bd
  have e0 : s₁.heap = h0 := by rw [← hh, Bd.state]; rfl
  have N0 := Fr.nil n0
  refine Out.start (Q := own_QGB2 Z a u8 b kb x0 x1 G1 h0 n0) (own_efGB2 m a u8 ) ?_
  refine Out.via (g' := (mkF m 1 #[vR a, vR u8] [(.ref u8)])) (fun _ k => XS.aloadN X0.here hx rfl (hb hby own_d9_0) rfl rfl k) ?_
  refine Out.via (g' := (mkF m 12 #[vR a, vR u8] [])) (fun _ k => XS.ifnonnullYes X0.here hx rfl (pc0 := 1) (pc' := 12) rfl (hb hby own_d9_1) rfl (by decide) (by decide) k) ?_
  refine Out.via (g' := (mkF m 13 #[vR a, vR u8] [(.ref u8)])) (fun _ k => XS.aloadN X0.here hx rfl (hb hby own_d9_12) rfl rfl k) ?_
  refine Out.via (g' := (mkF m 14 #[vR a, vR u8] [(.ref a), (.ref u8)])) (fun _ k => XS.aloadN X0.here hx rfl (hb hby own_d9_13) rfl rfl k) ?_
  obtain ⟨cq1, kq1, q1a, q1b, q1c⟩ := isOf hZ e0 Es
  obtain ⟨_, _, ⟨T1, L1, kc1, ks1⟩, -, X1, ⟨Lc1, hQ1, l1, y1, z1⟩, st1⟩ := X0.virtualBack hx (y := own_y9) (z := own_y9) hown (mvT hZ (W_ hw 67 rfl)) (mvT hZ (W_ hw 68 rfl)) (notFace_of_selects (args := #[]) (mvT hZ (W_ hw 70 rfl))) (mvT hZ (W_ hw 70 rfl)) (mvT hZ (W_ hw 69 rfl)) (by decide) (backOf (W := 1) (own_rmCD l Z a0 hw [] a G1 h0 n0 O Cd O2 P5) hZ (W_ hw 71 rfl) (W_ hw 7 rfl) (by decide) (by decide)) q1a q1c (g := (mkF m 14 #[vR a, vR u8] [(.ref a), (.ref u8)])) rfl (by rw [hml]; rfl) (Steps.refl _) (argsL := []) (rest := [(.ref u8)]) (lenOf own_pd11 rfl) rfl (by show 2 * 0 + _ ≤ _; exact Nat.le_of_eq rfl) (hb hby own_d9_14) (fun _ _ => ⟨rfl, e0, (by decide : 0 + 0 ≤ _), (by decide : 0 + 0 ≤ _)⟩)
  dsimp only [Pt.U, Pt.locs, Pt.cells, Pt.slots] at X1 l1 y1 z1 st1 hQ1
  subst l1 y1 z1
  obtain ⟨rfl, Nq1, eq1⟩ := hQ1
  replace N0 := Fr.app N0 Nq1
  refine Out.to (g' := (mkF m 17 #[vR a, vR u8] [(.int (0 : Int32)), (.ref u8)])) st1 ?_
  refine Out.via (g' := (mkF m 18 #[vR a, vR u8] [(.ref a), (.int (0 : Int32)), (.ref u8)])) (fun _ k => XS.aloadN X1.here hx rfl (hb hby own_d9_17) rfl rfl k) ?_
  obtain ⟨T2, X2, e2, st2⟩ := getF X1 hx hZ hown (host := "") (Or.inl (W_ hw 32 rfl)) Via.refl eq1 Vl (g := (mkF m 18 #[vR a, vR u8] [(.ref a), (.int (0 : Int32)), (.ref u8)])) rfl rfl (hb hby own_d9_18)
  refine Out.via (g' := (mkF m 21 #[vR a, vR u8] [(.ref b), (.int (0 : Int32)), (.ref u8)])) st2 ?_
  obtain ⟨_, _, ⟨T3, L3, kc3, ks3⟩, -, X3, ⟨Lc3, hQ3, l3, y3, z3⟩, st3⟩ := Jvm.LawKit.callS X2 hx (y := own_y8) hown (mvT hZ (W_ hw 72 rfl)) (mvT hZ (W_ hw 73 rfl)) (mvT hZ (W_ hw 7 rfl)) (mvT hZ (W_ hw 74 rfl)) (by decide) (backOf (W := 0) (own_rmEN2 l Z a0 hw [] u8 b kb x0 x1 h0 n0 O V_u Ab Eb) hZ (W_ hw 74 rfl) (W_ hw 7 rfl) (by decide) (by decide)) (g := (mkF m 21 #[vR a, vR u8] [(.ref b), (.int (0 : Int32)), (.ref u8)])) rfl (by rw [hml]; rfl) (argsL := [(.ref u8), (.int (0 : Int32)), (.ref b)]) (rest := []) (lenOf own_pd12 rfl) rfl (by show 2 * 0 + _ ≤ _; exact Nat.le_of_eq rfl) (hb hby own_d9_21) (fun _ _ => ⟨rfl, e2, (by decide : 0 + 2 ≤ _), (by decide : 0 + 7 ≤ _)⟩)
  dsimp only [Pt.U, Pt.locs, Pt.cells, Pt.slots] at X3 l3 y3 z3 st3 hQ3
  subst l3 y3 z3
  obtain ⟨t, kt, N, vs, rfl, Nq3, Kq3, At, hN1, hN2⟩ := hQ3
  refine Out.via (g' := (mkF m 24 #[vR a, vR u8] [(.ref t)])) st3 ?_
  exact Out.endN X3 (fun h => by rw [Bd.returns] at h; cases h) Bd.notSynchronized (by decide) (by decide) (⟨t, kt, N, vs, rfl, Fr.app N0 Nq3, Kq3, At, hN1, hN2⟩) (fun fs hr => own_retR X3 hx (t := (.array .byte)) Bd.returns rfl rfl rfl (hb hby own_d9_24) hr)
theorem own_pn13 : plainName "java/util/Objects" = true := by first | (simp [plainName, overriddenIn]; done) | decide +kernel
theorem own_d10_0 : decode jdk_31_method_11_code 0 = .ok (.aload_n 0, 1) := by decide +kernel
theorem own_d10_1 : decode jdk_31_method_11_code 1 = .ok (.ifnonnull 12, 3) := by decide +kernel
theorem own_d10_13 : decode jdk_31_method_11_code 13 = .ok (.aload_n 0, 1) := by decide +kernel
theorem own_d10_14 : decode jdk_31_method_11_code 14 = .ok (.areturn, 1) := by decide +kernel
theorem own_efN2 (m : MethodId) (x0 : Addr) (x1 : Addr) : entryFrame m #[(.ref x0), (.ref x1)] 2 = mkF m 0 #[.val (.ref x0), .val (.ref x1)] [] := by first | (simp [entryFrame, mkF, argsToLocals, Value.category]; done) | rfl
abbrev own_QN2 (Z : State) (a b : Addr) (h0 : Heap) (n0 : Nat) : Option Value → Heap → List Loc → Prop := fun v h L => v = some (.ref a) ∧ Fr n0 L ∧ h = h0
set_option maxRecDepth 65536 in
set_option maxHeartbeats 40000000 in
theorem own_rmN2 (l : Launch) (Z : State) (a0 : Array Value) (hw : ∀ d ∈ tables_1, d.before a0 Z = true) (ws : List Jvm.Cond) (a b : Addr) (h0 : Heap) (n0 : Nat) (O : Old Z n0 h0) :
    MetFree l own_y11 (head1 (Jvm.Cond.code own_y11 jdk_31_method_11_code 2 (some (.object "java/lang/Object")) :: ws) ({ frames := 0, cells := 0, slots := 0, locals := 0 } : Room)) (fun aa U => aa = #[(.ref a), (.ref b)] ∧ Z.Warmed39 U.vm ∧ U.heap = h0) (fun _ _ _ _ _ => True) (fun _ U o U' => ∃ v L, o = .returned v ∧ (own_QN2 Z a b h0 n0) v U'.heap L ∧ FrameEnd U o U' L ({ frames := 0, cells := 0, slots := 0, locals := 0 } : Room).cells ({ frames := 0, cells := 0, slots := 0, locals := 0 } : Room).slots) := by
  refine MetFree.of_bodySF (plainFor_of_name own_pn13) hisR ?_
  intro p e s m args below meth c s₁ Bd hml0 hP hK
  obtain ⟨rfl, hZ, hh⟩ := hP
  have hx := Bd.exec
  have hby := Bd.bytes
  have hml : c.maxLocals = 2 := hml0
  have hown : s.vm.findClass "java/util/Objects" = some m.cls := findClass_of_methodNamed Bd.named
  have hnm := (name_of_methodNamed Bd.named Bd.method).1
  have X0 : Stand p l e ({ frames := 0, cells := 0, slots := 0, locals := 0 } : Room) s m #[(.ref a), (.ref b)] below meth c s₁ [] 0 0 := Stand.of_body Bd
  have e0 : s₁.heap = h0 := by rw [← hh, Bd.state]; rfl
  have N0 := Fr.nil n0
  refine Out.start (Q := own_QN2 Z a b h0 n0) (own_efN2 m a b ) ?_
  refine Out.via (g' := (mkF m 1 #[vR a, vR b] [(.ref a)])) (fun _ k => XS.aloadN X0.here hx rfl (hb hby own_d10_0) rfl rfl k) ?_
  refine Out.via (g' := (mkF m 13 #[vR a, vR b] [])) (fun _ k => XS.ifnonnullYes X0.here hx rfl (pc0 := 1) (pc' := 13) rfl (hb hby own_d10_1) rfl (by decide) (by decide) k) ?_
  refine Out.via (g' := (mkF m 14 #[vR a, vR b] [(.ref a)])) (fun _ k => XS.aloadN X0.here hx rfl (hb hby own_d10_13) rfl rfl k) ?_
  exact Out.endN X0 (fun h => by rw [Bd.returns] at h; cases h) Bd.notSynchronized (by decide) (by decide) (by rw [e0]; exact ⟨rfl, N0, rfl⟩) (fun fs hr => own_retR X0 hx (t := (.object "java/lang/Object")) Bd.returns rfl rfl rfl (hb hby own_d10_14) hr)
theorem own_pn14 : plainName "java/lang/Record" = true := by first | (simp [plainName, overriddenIn]; done) | decide +kernel
theorem own_d11_0 : decode jdk_30_method_1_code 0 = .ok (.aload_n 0, 1) := by decide +kernel
theorem own_d11_1 : decode jdk_30_method_1_code 1 = .ok (.invokespecial 1, 3) := by decide +kernel
theorem own_d11_4 : decode jdk_30_method_1_code 4 = .ok (.return_, 1) := by decide +kernel
theorem own_efRI (m : MethodId) (x0 : Addr) : entryFrame m #[(.ref x0)] 1 = mkF m 0 #[.val (.ref x0)] [] := by first | (simp [entryFrame, mkF, argsToLocals, Value.category]; done) | rfl
abbrev own_QRI (Z : State) (a : Addr) (h0 : Heap) (n0 : Nat) : Option Value → Heap → List Loc → Prop := fun v h L => v = none ∧ Fr n0 L ∧ h = h0
set_option maxRecDepth 65536 in
set_option maxHeartbeats 40000000 in
theorem own_rmRI (l : Launch) (Z : State) (a0 : Array Value) (hw : ∀ d ∈ tables_1, d.before a0 Z = true) (ws : List Jvm.Cond) (a : Addr) (h0 : Heap) (n0 : Nat) (O : Old Z n0 h0) :
    MetFree l own_y12 (head1 (Jvm.Cond.code own_y12 jdk_30_method_1_code 1 none :: ws) ({ frames := 1, cells := 0, slots := 0, locals := 12 } : Room)) (fun aa U => aa = #[(.ref a)] ∧ Z.Warmed39 U.vm ∧ U.heap = h0) (fun _ _ _ _ _ => True) (fun _ U o U' => ∃ v L, o = .returned v ∧ (own_QRI Z a h0 n0) v U'.heap L ∧ FrameEnd U o U' L ({ frames := 1, cells := 0, slots := 0, locals := 12 } : Room).cells ({ frames := 1, cells := 0, slots := 0, locals := 12 } : Room).slots) := by
  refine MetFree.of_bodySF (plainFor_of_name own_pn14) hisR ?_
  intro p e s m args below meth c s₁ Bd hml0 hP hK
  obtain ⟨rfl, hZ, hh⟩ := hP
  have hx := Bd.exec
  have hby := Bd.bytes
  have hml : c.maxLocals = 1 := hml0
  have hown : s.vm.findClass "java/lang/Record" = some m.cls := findClass_of_methodNamed Bd.named
  have hnm := (name_of_methodNamed Bd.named Bd.method).1
  have X0 : Stand p l e ({ frames := 1, cells := 0, slots := 0, locals := 12 } : Room) s m #[(.ref a)] below meth c s₁ [] 0 0 := Stand.of_body Bd
  have e0 : s₁.heap = h0 := by rw [← hh, Bd.state]; rfl
  have N0 := Fr.nil n0
  refine Out.start (Q := own_QRI Z a h0 n0) (own_efRI m a ) ?_
  refine Out.via (g' := (mkF m 1 #[vR a] [(.ref a)])) (fun _ k => XS.aloadN X0.here hx rfl (hb hby own_d11_0) rfl rfl k) ?_
  obtain ⟨T1, X1, e1, st1⟩ := initO X0 hx hZ hown (W_ hw 48 rfl) (W_ hw 16 rfl) (W_ hw 17 rfl) e0 (g := (mkF m 1 #[vR a] [(.ref a)])) rfl (by rw [hml]; rfl) rfl (hb hby own_d11_1) (by decide) (W := 0) (by show 2 * 0 + _ ≤ _; exact Nat.le_of_eq rfl) (by decide)
  refine Out.via (g' := (mkF m 4 #[vR a] [])) st1 ?_
  exact Out.endN X1 (fun _ => rfl) Bd.notSynchronized (by decide) (by decide) (by rw [e1]; exact ⟨rfl, N0, rfl⟩) (fun fs hr => X1.returnOut hx Bd.returns (hb hby own_d11_4) hr)
theorem own_pn15 : plainName "com/example/commitwright/commitwright/core/Branch" = true := by first | (simp [plainName, overriddenIn]; done) | decide +kernel
theorem own_d12_0 : decode prog_15_method_2_code 0 = .ok (.aload_n 0, 1) := by decide +kernel
theorem own_d12_1 : decode prog_15_method_2_code 1 = .ok (.ldc 42, 2) := by decide +kernel
theorem own_d12_3 : decode prog_15_method_2_code 3 = .ok (.invokestatic 15, 3) := by decide +kernel
theorem own_pd16 : parseMethodDescriptor "(Ljava/lang/Object;Ljava/lang/String;)Ljava/lang/Object;" = some ⟨[(.object "java/lang/Object"), (.object "java/lang/String")], some (.object "java/lang/Object")⟩ := by decide +kernel
theorem own_d12_6 : decode prog_15_method_2_code 6 = .ok (.checkcast 43, 3) := by decide +kernel
theorem own_d12_9 : decode prog_15_method_2_code 9 = .ok (.getstatic 45, 3) := by decide +kernel
theorem own_d12_12 : decode prog_15_method_2_code 12 = .ok (.invokevirtual 51, 3) := by decide +kernel
theorem own_pd17 : parseMethodDescriptor "(Ljava/nio/charset/Charset;)[B" = some ⟨[(.object "java/nio/charset/Charset")], some (.array .byte)⟩ := by decide +kernel
theorem own_d12_15 : decode prog_15_method_2_code 15 = .ok (.arraylength, 1) := by decide +kernel
theorem own_d12_16 : decode prog_15_method_2_code 16 = .ok (.istore_n 1, 1) := by decide +kernel
theorem own_d12_17 : decode prog_15_method_2_code 17 = .ok (.iload_n 1, 1) := by decide +kernel
theorem own_d12_18 : decode prog_15_method_2_code 18 = .ok (.ifCond .eq 10, 3) := by decide +kernel
theorem own_d12_21 : decode prog_15_method_2_code 21 = .ok (.iload_n 1, 1) := by decide +kernel
theorem own_d12_22 : decode prog_15_method_2_code 22 = .ok (.sipush 255, 3) := by decide +kernel
theorem own_d12_25 : decode prog_15_method_2_code 25 = .ok (.if_icmp .le 18, 3) := by decide +kernel
theorem own_d12_43 : decode prog_15_method_2_code 43 = .ok (.aload_n 0, 1) := by decide +kernel
theorem own_d12_44 : decode prog_15_method_2_code 44 = .ok (.areturn, 1) := by decide +kernel
theorem own_efCK1 (m : MethodId) (x0 : Addr) : entryFrame m #[(.ref x0)] 2 = mkF m 0 #[.val (.ref x0), .unset] [] := by first | (simp [entryFrame, mkF, argsToLocals, Value.category]; done) | rfl
abbrev own_QCK1 (Z : State) (a u8 b : Addr) (kb : ClassId) (x0 x1 : Int32) (G1 : Int32) (h0 : Heap) (n0 : Nat) : Option Value → Heap → List Loc → Prop := fun v h L => v = some (.ref a) ∧ Fr n0 L ∧ Keep h0 h []
set_option maxRecDepth 65536 in
set_option maxHeartbeats 40000000 in
theorem own_rmCK1 (l : Launch) (Z : State) (a0 : Array Value) (hw : ∀ d ∈ tables_1, d.before a0 Z = true) (ws : List Jvm.Cond) (a u8 b : Addr) (kb : ClassId) (x0 x1 : Int32) (G1 : Int32) (h0 : Heap) (n0 : Nat) (O : Old Z n0 h0) (Es : Exa Z h0 a "java/lang/String") (Cd : Fld Z h0 a "java/lang/String" "coder" "B" (.int (0 : Int32))) (Vl : Fld Z h0 a "java/lang/String" "value" "[B" (.ref b)) (Ab : Arv Z h0 b kb .byte (1 : Int32) [(.int x0)] (.int (0 : Int32))) (Eb : Exa Z h0 b "[B") (O2 : Sta Z Z.heap "java/lang/String" "COMPACT_STRINGS" "Z" (.int G1)) (P5 : ¬ (G1 = (0 : Int32))) (V_u : Sta Z Z.heap "sun/nio/cs/UTF_8" "INSTANCE" "Lsun/nio/cs/UTF_8;" (.ref u8)) (V_c : Sta Z Z.heap "java/nio/charset/StandardCharsets" "UTF_8" "Ljava/nio/charset/Charset;" (.ref u8)) :
    MetFree l own_y13 (head1 (Jvm.Cond.code own_y13 prog_15_method_2_code 2 (some (.object "java/lang/String")) :: ws) ({ frames := 5, cells := 4, slots := 43, locals := 80 } : Room)) (fun aa U => aa = #[(.ref a)] ∧ Z.Warmed39 U.vm ∧ U.heap = h0) (fun _ _ _ _ _ => True) (fun _ U o U' => ∃ v L, o = .returned v ∧ (own_QCK1 Z a u8 b kb x0 x1 G1 h0 n0) v U'.heap L ∧ ReturnedEndW U o U' L ({ frames := 5, cells := 4, slots := 43, locals := 80 } : Room).cells ({ frames := 5, cells := 4, slots := 43, locals := 80 } : Room).slots) := by
  refine MetFree.of_bodySF (plainFor_of_name own_pn15) hisR ?_
  intro p e s m args below meth c s₁ Bd hml0 hP hK
  obtain ⟨rfl, hZ, hh⟩ := hP
  have hx := Bd.exec
  have hby := Bd.bytes
  have hml : c.maxLocals = 2 := hml0
  have hown : s.vm.findClass "com/example/commitwright/commitwright/core/Branch" = some m.cls := findClass_of_methodNamed Bd.named
  have hnm := (name_of_methodNamed Bd.named Bd.method).1
  have X0 : Stand p l e ({ frames := 5, cells := 4, slots := 43, locals := 80 } : Room) (s.setVm s.vm) m #[(.ref a)] below meth c s₁ [] 0 0 := Stand.of_body Bd
  have e0 : s₁.heap = h0 := by rw [← hh, Bd.state]; rfl
  have N0 := Fr.nil n0
  have hS := own_since0 s 0
  have hk : 0 ≤ h0.size := Nat.zero_le _
  refine Out.startW (Q := own_QCK1 Z a u8 b kb x0 x1 G1 h0 n0) (own_efCK1 m a ) ?_
  have Kp := Keep.refl h0 []
  have wS := own_wS hw
  refine Out.via (g' := (mkF m 1 #[vR a, vU] [(.ref a)])) (fun _ k => XS.aloadN X0.here hx rfl (hb hby own_d12_0) rfl rfl k) ?_
  obtain ⟨la, T1, h1, kk1, X1, e1, E1, hS, hk, hZ, hown, st1⟩ := ldcS X0 hx hZ hown (W_ hw 52 rfl) wS e0 hS hk (g := (mkF m 1 #[vR a, vU] [(.ref a)])) rfl (hb hby own_d12_1) (n := 32) (by decide) (by decide) (by decide) (by decide)
  replace Vl := Vl.ext E1
  replace Cd := Cd.ext E1
  replace Es := Es.ext E1
  replace Eb := Eb.ext E1
  replace Ab := Ab.ext E1
  replace O := O.ext E1
  replace Kp := Kp.ext E1
  refine Out.via (g' := (mkF m 3 #[vR a, vU] [(.ref la), (.ref a)])) st1 ?_
  obtain ⟨_, _, ⟨T2, L2, kc2, ks2⟩, -, X2, ⟨Lc2, hQ2, l2, y2, z2⟩, st2⟩ := Jvm.LawKit.callS X1 hx (y := own_y11) hown (mvT hZ (W_ hw 55 rfl)) (mvT hZ (W_ hw 56 rfl)) (mvT hZ (W_ hw 57 rfl)) (mvT hZ (W_ hw 58 rfl)) (by decide) (backOf (W := 0) (own_rmN2 l Z a0 hw [] a la h1 n0 O) hZ (W_ hw 58 rfl) (W_ hw 57 rfl) (by decide) (by decide)) (g := (mkF m 3 #[vR a, vU] [(.ref la), (.ref a)])) rfl (by rw [hml]; rfl) (argsL := [(.ref a), (.ref la)]) (rest := []) (lenOf own_pd16 rfl) rfl (by show 2 * 0 + _ ≤ _; exact Nat.le_of_eq rfl) (hb hby own_d12_3) (fun _ _ => ⟨rfl, e1, (by decide : 2 + 0 ≤ _), (by decide : 36 + 0 ≤ _)⟩)
  dsimp only [Pt.U, Pt.locs, Pt.cells, Pt.slots] at X2 l2 y2 z2 st2 hQ2
  subst l2 y2 z2
  obtain ⟨rfl, Nq2, eq2⟩ := hQ2
  replace N0 := Fr.app N0 Nq2
  refine Out.via (g' := (mkF m 6 #[vR a, vU] [(.ref a)])) st2 ?_
  obtain ⟨T3, X3, e3, st3⟩ := castY X2 hx hZ hown (W_ hw 59 rfl) eq2 (Ins.self Es) (g := (mkF m 6 #[vR a, vU] [(.ref a)])) rfl rfl (hb hby own_d12_6)
  refine Out.via (g' := (mkF m 9 #[vR a, vU] [(.ref a)])) st3 ?_
  obtain ⟨T4, X4, e4, st4⟩ := getS2 X3 hx hZ hown (host := "") (Or.inl (W_ hw 60 rfl)) Via.refl e3 (V_c.ext O.2) (g := (mkF m 9 #[vR a, vU] [(.ref a)])) rfl (hb hby own_d12_9)
  refine Out.via (g' := (mkF m 12 #[vR a, vU] [(.ref u8), (.ref a)])) st4 ?_
  obtain ⟨cq5, kq5, q5a, q5b, q5c⟩ := isOf hZ e4 Es
  obtain ⟨_, _, ⟨T5, L5, kc5, ks5⟩, -, X5, ⟨Lc5, hQ5, l5, y5, z5⟩, st5⟩ := X4.virtualBack hx (y := own_y10) (z := own_y10) hown (mvT hZ (W_ hw 62 rfl)) (mvT hZ (W_ hw 63 rfl)) (notFace_of_selects (args := #[]) (mvT hZ (W_ hw 65 rfl))) (mvT hZ (W_ hw 65 rfl)) (mvT hZ (W_ hw 64 rfl)) (by decide) (backOf (W := 0) (own_rmGB1 l Z a0 hw [] a u8 b kb x0 x1 G1 h1 n0 O Es Cd Vl Ab Eb O2 P5 V_u) hZ (W_ hw 66 rfl) (W_ hw 7 rfl) (by decide) (by decide)) q5a q5c (g := (mkF m 12 #[vR a, vU] [(.ref u8), (.ref a)])) rfl (by rw [hml]; rfl) (Steps.refl _) (argsL := [(.ref u8)]) (rest := []) (lenOf own_pd17 rfl) rfl (by show 2 * 0 + _ ≤ _; exact Nat.le_of_eq rfl) (hb hby own_d12_12) (fun _ _ => ⟨rfl, e4, (by decide : 2 + 2 ≤ _), (by decide : 36 + 7 ≤ _)⟩)
  dsimp only [Pt.U, Pt.locs, Pt.cells, Pt.slots] at X5 l5 y5 z5 st5 hQ5
  subst l5 y5 z5
  obtain ⟨t, kt, N, vs, rfl, Nq5, Kq5, At, hN1, hN2⟩ := hQ5
  replace N0 := Fr.app N0 Nq5
  replace Kp := Kp.trans Kq5 all0
  replace O := O.keep Kq5 all0
  replace hk : _ ≤ T5.heap.size := Nat.le_trans hk Kq5.1
  refine Out.to (g' := (mkF m 15 #[vR a, vU] [(.ref t)])) st5 ?_
  obtain ⟨cl_z, Ar_z, q_z, S_z, M_z, H_z, G_z⟩ := id At
  refine Out.via (g' := (mkF m 16 #[vR a, vU] [(.int cl_z.slots.size.toInt32)])) (fun _ k => X5.arraylength hx Ar_z.1 (State.isArrayOf_alike hZ.alike Ar_z.2.1) (g := (mkF m 15 #[vR a, vU] [(.ref t)])) rfl rfl (hb hby own_d12_15) _ k) ?_
  rw [len_of S_z M_z]
  refine Out.via (g' := (mkF m 17 #[vR a, vI N] [])) (fun _ k => XS.istoreN X5.here hx rfl (hb hby own_d12_16) rfl (l' := #[.val (.ref a), .val (.int N)]) rfl k) ?_
  refine Out.via (g' := (mkF m 18 #[vR a, vI N] [(.int N)])) (fun _ k => XS.iloadN X5.here hx rfl (hb hby own_d12_17) rfl k) ?_
  have hN0 : ¬ (N = (0 : Int32)) := fun q => by rw [q] at hN1; exact absurd hN1 (by decide)
  refine Out.via (g' := (mkF m 21 #[vR a, vI N] [])) (fun _ k => XS.ifNo X5.here hx rfl (hb hby own_d12_18) rfl ((if0 _ _).trans (feq hN0).1) k) ?_
  refine Out.via (g' := (mkF m 22 #[vR a, vI N] [(.int N)])) (fun _ k => XS.iloadN X5.here hx rfl (hb hby own_d12_21) rfl k) ?_
  refine Out.via (g' := (mkF m 25 #[vR a, vI N] [(.int (255 : Int32)), (.int N)])) (fun _ k => XS.sipush X5.here hx rfl (hb hby own_d12_22) k) ?_
  refine Out.via (g' := (mkF m 43 #[vR a, vI N] [])) (fun _ k => XS.icmpYes X5.here hx rfl (pc0 := 25) (pc' := 43) rfl (hb hby own_d12_25) rfl (flt hN2).2.2.2 (by decide) (by decide) k) ?_
  refine Out.via (g' := (mkF m 44 #[vR a, vI N] [(.ref a)])) (fun _ k => XS.aloadN X5.here hx rfl (hb hby own_d12_43) rfl rfl k) ?_
  exact Out.endW X5 hS hk (fun h => by rw [Bd.returns] at h; cases h) Bd.notSynchronized (by decide) (by decide) (⟨rfl, N0, Kp⟩) (fun fs hr => own_retR X5 hx (t := (.object "java/lang/String")) Bd.returns rfl rfl rfl (hb hby own_d12_44) hr)
theorem own_efCK2 (m : MethodId) (x0 : Addr) : entryFrame m #[(.ref x0)] 2 = mkF m 0 #[.val (.ref x0), .unset] [] := by first | (simp [entryFrame, mkF, argsToLocals, Value.category]; done) | rfl
abbrev own_QCK2 (Z : State) (a u8 b : Addr) (kb : ClassId) (x0 x1 : Int32) (G1 : Int32) (h0 : Heap) (n0 : Nat) : Option Value → Heap → List Loc → Prop := fun v h L => v = some (.ref a) ∧ Fr n0 L ∧ Keep h0 h []
set_option maxRecDepth 65536 in
set_option maxHeartbeats 40000000 in
theorem own_rmCK2 (l : Launch) (Z : State) (a0 : Array Value) (hw : ∀ d ∈ tables_1, d.before a0 Z = true) (ws : List Jvm.Cond) (a u8 b : Addr) (kb : ClassId) (x0 x1 : Int32) (G1 : Int32) (h0 : Heap) (n0 : Nat) (O : Old Z n0 h0) (Es : Exa Z h0 a "java/lang/String") (Cd : Fld Z h0 a "java/lang/String" "coder" "B" (.int (0 : Int32))) (Vl : Fld Z h0 a "java/lang/String" "value" "[B" (.ref b)) (Ab : Arv Z h0 b kb .byte (2 : Int32) [(.int x0), (.int x1)] (.int (0 : Int32))) (Eb : Exa Z h0 b "[B") (O2 : Sta Z Z.heap "java/lang/String" "COMPACT_STRINGS" "Z" (.int G1)) (P5 : ¬ (G1 = (0 : Int32))) (V_u : Sta Z Z.heap "sun/nio/cs/UTF_8" "INSTANCE" "Lsun/nio/cs/UTF_8;" (.ref u8)) (V_c : Sta Z Z.heap "java/nio/charset/StandardCharsets" "UTF_8" "Ljava/nio/charset/Charset;" (.ref u8)) :
    MetFree l own_y13 (head1 (Jvm.Cond.code own_y13 prog_15_method_2_code 2 (some (.object "java/lang/String")) :: ws) ({ frames := 5, cells := 4, slots := 43, locals := 80 } : Room)) (fun aa U => aa = #[(.ref a)] ∧ Z.Warmed39 U.vm ∧ U.heap = h0) (fun _ _ _ _ _ => True) (fun _ U o U' => ∃ v L, o = .returned v ∧ (own_QCK2 Z a u8 b kb x0 x1 G1 h0 n0) v U'.heap L ∧ ReturnedEndW U o U' L ({ frames := 5, cells := 4, slots := 43, locals := 80 } : Room).cells ({ frames := 5, cells := 4, slots := 43, locals := 80 } : Room).slots) := by
  refine MetFree.of_bodySF (plainFor_of_name own_pn15) hisR ?_
  intro p e s m args below meth c s₁ Bd hml0 hP hK
  obtain ⟨rfl, hZ, hh⟩ := hP
  have hx := Bd.exec
  have hby := Bd.bytes
  have hml : c.maxLocals = 2 := hml0
  have hown : s.vm.findClass "com/example/commitwright/commitwright/core/Branch" = some m.cls := findClass_of_methodNamed Bd.named
  have hnm := (name_of_methodNamed Bd.named Bd.method).1
  have X0 : Stand p l e ({ frames := 5, cells := 4, slots := 43, locals := 80 } : Room) (s.setVm s.vm) m #[(.ref a)] below meth c s₁ [] 0 0 := Stand.of_body Bd
  have e0 : s₁.heap = h0 := by rw [← hh, Bd.state]; rfl
  have N0 := Fr.nil n0
  have hS := own_since0 s 0
  have hk : 0 ≤ h0.size := Nat.zero_le _
  refine Out.startW (Q := own_QCK2 Z a u8 b kb x0 x1 G1 h0 n0) (own_efCK2 m a ) ?_
  have Kp := Keep.refl h0 []
  have wS := own_wS hw
  refine Out.via (g' := (mkF m 1 #[vR a, vU] [(.ref a)])) (fun _ k => XS.aloadN X0.here hx rfl (hb hby own_d12_0) rfl rfl k) ?_
  obtain ⟨la, T1, h1, kk1, X1, e1, E1, hS, hk, hZ, hown, st1⟩ := ldcS X0 hx hZ hown (W_ hw 52 rfl) wS e0 hS hk (g := (mkF m 1 #[vR a, vU] [(.ref a)])) rfl (hb hby own_d12_1) (n := 32) (by decide) (by decide) (by decide) (by decide)
  replace Vl := Vl.ext E1
  replace Cd := Cd.ext E1
  replace Es := Es.ext E1
  replace Eb := Eb.ext E1
  replace Ab := Ab.ext E1
  replace O := O.ext E1
  replace Kp := Kp.ext E1
  refine Out.via (g' := (mkF m 3 #[vR a, vU] [(.ref la), (.ref a)])) st1 ?_
  obtain ⟨_, _, ⟨T2, L2, kc2, ks2⟩, -, X2, ⟨Lc2, hQ2, l2, y2, z2⟩, st2⟩ := Jvm.LawKit.callS X1 hx (y := own_y11) hown (mvT hZ (W_ hw 55 rfl)) (mvT hZ (W_ hw 56 rfl)) (mvT hZ (W_ hw 57 rfl)) (mvT hZ (W_ hw 58 rfl)) (by decide) (backOf (W := 0) (own_rmN2 l Z a0 hw [] a la h1 n0 O) hZ (W_ hw 58 rfl) (W_ hw 57 rfl) (by decide) (by decide)) (g := (mkF m 3 #[vR a, vU] [(.ref la), (.ref a)])) rfl (by rw [hml]; rfl) (argsL := [(.ref a), (.ref la)]) (rest := []) (lenOf own_pd16 rfl) rfl (by show 2 * 0 + _ ≤ _; exact Nat.le_of_eq rfl) (hb hby own_d12_3) (fun _ _ => ⟨rfl, e1, (by decide : 2 + 0 ≤ _), (by decide : 36 + 0 ≤ _)⟩)
  dsimp only [Pt.U, Pt.locs, Pt.cells, Pt.slots] at X2 l2 y2 z2 st2 hQ2
  subst l2 y2 z2
  obtain ⟨rfl, Nq2, eq2⟩ := hQ2
  replace N0 := Fr.app N0 Nq2
  refine Out.via (g' := (mkF m 6 #[vR a, vU] [(.ref a)])) st2 ?_
  obtain ⟨T3, X3, e3, st3⟩ := castY X2 hx hZ hown (W_ hw 59 rfl) eq2 (Ins.self Es) (g := (mkF m 6 #[vR a, vU] [(.ref a)])) rfl rfl (hb hby own_d12_6)
  refine Out.via (g' := (mkF m 9 #[vR a, vU] [(.ref a)])) st3 ?_
  obtain ⟨T4, X4, e4, st4⟩ := getS2 X3 hx hZ hown (host := "") (Or.inl (W_ hw 60 rfl)) Via.refl e3 (V_c.ext O.2) (g := (mkF m 9 #[vR a, vU] [(.ref a)])) rfl (hb hby own_d12_9)
  refine Out.via (g' := (mkF m 12 #[vR a, vU] [(.ref u8), (.ref a)])) st4 ?_
  obtain ⟨cq5, kq5, q5a, q5b, q5c⟩ := isOf hZ e4 Es
  obtain ⟨_, _, ⟨T5, L5, kc5, ks5⟩, -, X5, ⟨Lc5, hQ5, l5, y5, z5⟩, st5⟩ := X4.virtualBack hx (y := own_y10) (z := own_y10) hown (mvT hZ (W_ hw 62 rfl)) (mvT hZ (W_ hw 63 rfl)) (notFace_of_selects (args := #[]) (mvT hZ (W_ hw 65 rfl))) (mvT hZ (W_ hw 65 rfl)) (mvT hZ (W_ hw 64 rfl)) (by decide) (backOf (W := 0) (own_rmGB2 l Z a0 hw [] a u8 b kb x0 x1 G1 h1 n0 O Es Cd Vl Ab Eb O2 P5 V_u) hZ (W_ hw 66 rfl) (W_ hw 7 rfl) (by decide) (by decide)) q5a q5c (g := (mkF m 12 #[vR a, vU] [(.ref u8), (.ref a)])) rfl (by rw [hml]; rfl) (Steps.refl _) (argsL := [(.ref u8)]) (rest := []) (lenOf own_pd17 rfl) rfl (by show 2 * 0 + _ ≤ _; exact Nat.le_of_eq rfl) (hb hby own_d12_12) (fun _ _ => ⟨rfl, e4, (by decide : 2 + 2 ≤ _), (by decide : 36 + 7 ≤ _)⟩)
  dsimp only [Pt.U, Pt.locs, Pt.cells, Pt.slots] at X5 l5 y5 z5 st5 hQ5
  subst l5 y5 z5
  obtain ⟨t, kt, N, vs, rfl, Nq5, Kq5, At, hN1, hN2⟩ := hQ5
  replace N0 := Fr.app N0 Nq5
  replace Kp := Kp.trans Kq5 all0
  replace O := O.keep Kq5 all0
  replace hk : _ ≤ T5.heap.size := Nat.le_trans hk Kq5.1
  refine Out.to (g' := (mkF m 15 #[vR a, vU] [(.ref t)])) st5 ?_
  obtain ⟨cl_z, Ar_z, q_z, S_z, M_z, H_z, G_z⟩ := id At
  refine Out.via (g' := (mkF m 16 #[vR a, vU] [(.int cl_z.slots.size.toInt32)])) (fun _ k => X5.arraylength hx Ar_z.1 (State.isArrayOf_alike hZ.alike Ar_z.2.1) (g := (mkF m 15 #[vR a, vU] [(.ref t)])) rfl rfl (hb hby own_d12_15) _ k) ?_
  rw [len_of S_z M_z]
  refine Out.via (g' := (mkF m 17 #[vR a, vI N] [])) (fun _ k => XS.istoreN X5.here hx rfl (hb hby own_d12_16) rfl (l' := #[.val (.ref a), .val (.int N)]) rfl k) ?_
  refine Out.via (g' := (mkF m 18 #[vR a, vI N] [(.int N)])) (fun _ k => XS.iloadN X5.here hx rfl (hb hby own_d12_17) rfl k) ?_
  have hN0 : ¬ (N = (0 : Int32)) := fun q => by rw [q] at hN1; exact absurd hN1 (by decide)
  refine Out.via (g' := (mkF m 21 #[vR a, vI N] [])) (fun _ k => XS.ifNo X5.here hx rfl (hb hby own_d12_18) rfl ((if0 _ _).trans (feq hN0).1) k) ?_
  refine Out.via (g' := (mkF m 22 #[vR a, vI N] [(.int N)])) (fun _ k => XS.iloadN X5.here hx rfl (hb hby own_d12_21) rfl k) ?_
  refine Out.via (g' := (mkF m 25 #[vR a, vI N] [(.int (255 : Int32)), (.int N)])) (fun _ k => XS.sipush X5.here hx rfl (hb hby own_d12_22) k) ?_
  refine Out.via (g' := (mkF m 43 #[vR a, vI N] [])) (fun _ k => XS.icmpYes X5.here hx rfl (pc0 := 25) (pc' := 43) rfl (hb hby own_d12_25) rfl (flt hN2).2.2.2 (by decide) (by decide) k) ?_
  refine Out.via (g' := (mkF m 44 #[vR a, vI N] [(.ref a)])) (fun _ k => XS.aloadN X5.here hx rfl (hb hby own_d12_43) rfl rfl k) ?_
  exact Out.endW X5 hS hk (fun h => by rw [Bd.returns] at h; cases h) Bd.notSynchronized (by decide) (by decide) (⟨rfl, N0, Kp⟩) (fun fs hr => own_retR X5 hx (t := (.object "java/lang/String")) Bd.returns rfl rfl rfl (hb hby own_d12_44) hr)
theorem own_pn18 : plainName "com/example/commitwright/commitwright/core/BranchHashCodePinLaw" = true := by first | (simp [plainName, overriddenIn]; done) | decide +kernel
theorem own_d13_0 : decode method_3_code 0 = .ok (.iload_n 0, 1) := by decide +kernel
theorem own_d13_1 : decode method_3_code 1 = .ok (.ifCond .ne 7, 3) := by decide +kernel
theorem own_d13_4 : decode method_3_code 4 = .ok (.iconst 0, 1) := by decide +kernel
theorem own_d13_5 : decode method_3_code 5 = .ok (.newarray .byte, 2) := by decide +kernel
theorem own_d13_7 : decode method_3_code 7 = .ok (.areturn, 1) := by decide +kernel
theorem own_efKY0 (m : MethodId) (x0 : Int32) (x1 : Int32) (x2 : Int32) : entryFrame m #[(.int x0), (.int x1), (.int x2)] 4 = mkF m 0 #[.val (.int x0), .val (.int x1), .val (.int x2), .unset] [] := by first | (simp [entryFrame, mkF, argsToLocals, Value.category]; done) | rfl
abbrev own_QKY0 (Z : State) (k0 k1 : Int32) (h0 : Heap) (n0 : Nat) : Option Value → Heap → List Loc → Prop := fun v h L => ∃ (t : Addr) (kt : ClassId), v = some (.ref t) ∧ Fr n0 L ∧ Keep h0 h [] ∧ h0.size ≤ t ∧ n0 ≤ t ∧ Arv Z h t kt .byte (0 : Int32) [] (.int (0 : Int32)) ∧ Exa Z h t "[B"
set_option maxRecDepth 65536 in
set_option maxHeartbeats 40000000 in
theorem own_rmKY0 (l : Launch) (Z : State) (a0 : Array Value) (hw : ∀ d ∈ tables_1, d.before a0 Z = true) (ws : List Jvm.Cond) (k0 k1 : Int32) (h0 : Heap) (n0 : Nat) (O : Old Z n0 h0) (q0 : nar .byte k0 = k0) (q1 : nar .byte k1 = k1) :
    MetFree l own_y14 (head1 (Jvm.Cond.code own_y14 method_3_code 4 (some (.array .byte)) :: ws) ({ frames := 0, cells := 1, slots := 2, locals := 0 } : Room)) (fun aa U => aa = #[(.int (0 : Int32)), (.int k0), (.int k1)] ∧ Z.Warmed39 U.vm ∧ U.heap = h0) (fun _ _ _ _ _ => True) (fun _ U o U' => ∃ v L, o = .returned v ∧ (own_QKY0 Z k0 k1 h0 n0) v U'.heap L ∧ FrameEnd U o U' L ({ frames := 0, cells := 1, slots := 2, locals := 0 } : Room).cells ({ frames := 0, cells := 1, slots := 2, locals := 0 } : Room).slots) := by
  refine MetFree.of_bodySF (plainFor_of_name own_pn18) hisR ?_
  intro p e s m args below meth c s₁ Bd hml0 hP hK
  obtain ⟨rfl, hZ, hh⟩ := hP
  have hx := Bd.exec
  have hby := Bd.bytes
  have hml : c.maxLocals = 4 := hml0
  have hown : s.vm.findClass "com/example/commitwright/commitwright/core/BranchHashCodePinLaw" = some m.cls := findClass_of_methodNamed Bd.named
  have hnm := (name_of_methodNamed Bd.named Bd.method).1
  have X0 : Stand p l e ({ frames := 0, cells := 1, slots := 2, locals := 0 } : Room) s m #[(.int (0 : Int32)), (.int k0), (.int k1)] below meth c s₁ [] 0 0 := Stand.of_body Bd
  have e0 : s₁.heap = h0 := by rw [← hh, Bd.state]; rfl
  have N0 := Fr.nil n0
  refine Out.start (Q := own_QKY0 Z k0 k1 h0 n0) (own_efKY0 m (0 : Int32) k0 k1 ) ?_
  have Kp := Keep.refl h0 []
  refine Out.via (g' := (mkF m 1 #[vI 0, vI k0, vI k1, vU] [(.int (0 : Int32))])) (fun _ k => XS.iloadN X0.here hx rfl (hb hby own_d13_0) rfl k) ?_
  refine Out.via (g' := (mkF m 4 #[vI 0, vI k0, vI k1, vU] [])) (fun _ k => XS.ifNo X0.here hx rfl (hb hby own_d13_1) rfl ((if0 _ _).trans (teq rfl).2) k) ?_
  refine Out.via (g' := (mkF m 5 #[vI 0, vI k0, vI k1, vU] [(.int (0 : Int32))])) (fun _ k => XS.iconst X0.here hx rfl (hb hby own_d13_4) k) ?_
  obtain ⟨T1, h1, kA1, X1, e1, E1, A1, Ea_t, st1⟩ := newPE X0 hx hZ (W_ hw 23 rfl) e0 (g := (mkF m 5 #[vI 0, vI k0, vI k1, vU] [(.int (0 : Int32))])) rfl (hb hby own_d13_5) rfl (by decide) (cap := 0) (by decide) (by decide) (by decide) (by decide) (ad := "[B") (by decide)
  obtain ⟨t, gq1⟩ : ∃ z, z = h0.size := ⟨_, rfl⟩
  rw [← gq1] at A1 st1 Ea_t
  have g_t : n0 ≤ t := Nat.le_trans (own_z0 O) (Nat.le_of_eq gq1.symm)
  have sz_t : h0.size ≤ t := Nat.le_trans Kp.1 (Nat.le_of_eq gq1.symm)
  replace O := O.ext E1
  replace Kp := Kp.ext E1
  have V_t : Arv Z h1 t kA1 .byte (0 : Int32) [] (.int (0 : Int32)) := (Arv.new A1 (by decide)).pad (pad_rep [] (.int (0 : Int32)) 0)
  refine Out.via (g' := (mkF m 7 #[vI 0, vI k0, vI k1, vU] [(.ref t)])) st1 ?_
  exact Out.endN X1 (fun h => by rw [Bd.returns] at h; cases h) Bd.notSynchronized (by decide) (by decide) (by rw [e1]; exact ⟨t, _, rfl, N0, Kp, sz_t, g_t, V_t, Ea_t⟩) (fun fs hr => own_retR X1 hx (t := (.array .byte)) Bd.returns rfl rfl rfl (hb hby own_d13_7) hr)
theorem own_d13_8 : decode method_3_code 8 = .ok (.iload_n 0, 1) := by decide +kernel
theorem own_d13_9 : decode method_3_code 9 = .ok (.iconst 1, 1) := by decide +kernel
theorem own_d13_10 : decode method_3_code 10 = .ok (.if_icmp .ne 13, 3) := by decide +kernel
theorem own_d13_13 : decode method_3_code 13 = .ok (.iconst 1, 1) := by decide +kernel
theorem own_d13_14 : decode method_3_code 14 = .ok (.newarray .byte, 2) := by decide +kernel
theorem own_d13_16 : decode method_3_code 16 = .ok (.astore_n 3, 1) := by decide +kernel
theorem own_d13_17 : decode method_3_code 17 = .ok (.aload_n 3, 1) := by decide +kernel
theorem own_d13_18 : decode method_3_code 18 = .ok (.iconst 0, 1) := by decide +kernel
theorem own_d13_19 : decode method_3_code 19 = .ok (.iload_n 1, 1) := by decide +kernel
theorem own_d13_20 : decode method_3_code 20 = .ok (.bastore, 1) := by decide +kernel
theorem own_d13_21 : decode method_3_code 21 = .ok (.aload_n 3, 1) := by decide +kernel
theorem own_d13_22 : decode method_3_code 22 = .ok (.areturn, 1) := by decide +kernel
theorem own_efKY1 (m : MethodId) (x0 : Int32) (x1 : Int32) (x2 : Int32) : entryFrame m #[(.int x0), (.int x1), (.int x2)] 4 = mkF m 0 #[.val (.int x0), .val (.int x1), .val (.int x2), .unset] [] := by first | (simp [entryFrame, mkF, argsToLocals, Value.category]; done) | rfl
abbrev own_QKY1 (Z : State) (k0 k1 : Int32) (h0 : Heap) (n0 : Nat) : Option Value → Heap → List Loc → Prop := fun v h L => ∃ (t : Addr) (kt : ClassId), v = some (.ref t) ∧ Fr n0 L ∧ Keep h0 h [] ∧ h0.size ≤ t ∧ n0 ≤ t ∧ Arv Z h t kt .byte (1 : Int32) [(.int k0)] (.int (0 : Int32)) ∧ Exa Z h t "[B"
set_option maxRecDepth 65536 in
set_option maxHeartbeats 40000000 in
theorem own_rmKY1 (l : Launch) (Z : State) (a0 : Array Value) (hw : ∀ d ∈ tables_1, d.before a0 Z = true) (ws : List Jvm.Cond) (k0 k1 : Int32) (h0 : Heap) (n0 : Nat) (O : Old Z n0 h0) (q0 : nar .byte k0 = k0) (q1 : nar .byte k1 = k1) :
    MetFree l own_y14 (head1 (Jvm.Cond.code own_y14 method_3_code 4 (some (.array .byte)) :: ws) ({ frames := 0, cells := 1, slots := 2, locals := 0 } : Room)) (fun aa U => aa = #[(.int (1 : Int32)), (.int k0), (.int k1)] ∧ Z.Warmed39 U.vm ∧ U.heap = h0) (fun _ _ _ _ _ => True) (fun _ U o U' => ∃ v L, o = .returned v ∧ (own_QKY1 Z k0 k1 h0 n0) v U'.heap L ∧ FrameEnd U o U' L ({ frames := 0, cells := 1, slots := 2, locals := 0 } : Room).cells ({ frames := 0, cells := 1, slots := 2, locals := 0 } : Room).slots) := by
  refine MetFree.of_bodySF (plainFor_of_name own_pn18) hisR ?_
  intro p e s m args below meth c s₁ Bd hml0 hP hK
  obtain ⟨rfl, hZ, hh⟩ := hP
  have hx := Bd.exec
  have hby := Bd.bytes
  have hml : c.maxLocals = 4 := hml0
  have hown : s.vm.findClass "com/example/commitwright/commitwright/core/BranchHashCodePinLaw" = some m.cls := findClass_of_methodNamed Bd.named
  have hnm := (name_of_methodNamed Bd.named Bd.method).1
  have X0 : Stand p l e ({ frames := 0, cells := 1, slots := 2, locals := 0 } : Room) s m #[(.int (1 : Int32)), (.int k0), (.int k1)] below meth c s₁ [] 0 0 := Stand.of_body Bd
  have e0 : s₁.heap = h0 := by rw [← hh, Bd.state]; rfl
  have N0 := Fr.nil n0
  refine Out.start (Q := own_QKY1 Z k0 k1 h0 n0) (own_efKY1 m (1 : Int32) k0 k1 ) ?_
  have Kp := Keep.refl h0 []
  refine Out.via (g' := (mkF m 1 #[vI 1, vI k0, vI k1, vU] [(.int (1 : Int32))])) (fun _ k => XS.iloadN X0.here hx rfl (hb hby own_d13_0) rfl k) ?_
  refine Out.via (g' := (mkF m 8 #[vI 1, vI k0, vI k1, vU] [])) (fun _ k => XS.ifYes X0.here hx rfl (pc0 := 1) (pc' := 8) rfl (hb hby own_d13_1) rfl ((if0 _ _).trans (feq (by decide)).2) (by decide) (by decide) k) ?_
  refine Out.via (g' := (mkF m 9 #[vI 1, vI k0, vI k1, vU] [(.int (1 : Int32))])) (fun _ k => XS.iloadN X0.here hx rfl (hb hby own_d13_8) rfl k) ?_
  refine Out.via (g' := (mkF m 10 #[vI 1, vI k0, vI k1, vU] [(.int (1 : Int32)), (.int (1 : Int32))])) (fun _ k => XS.iconst X0.here hx rfl (hb hby own_d13_9) k) ?_
  refine Out.via (g' := (mkF m 13 #[vI 1, vI k0, vI k1, vU] [])) (fun _ k => XS.icmpNo X0.here hx rfl (hb hby own_d13_10) rfl (teq rfl).2 k) ?_
  refine Out.via (g' := (mkF m 14 #[vI 1, vI k0, vI k1, vU] [(.int (1 : Int32))])) (fun _ k => XS.iconst X0.here hx rfl (hb hby own_d13_13) k) ?_
  obtain ⟨T1, h1, kA1, X1, e1, E1, A1, Ea_t, st1⟩ := newPE X0 hx hZ (W_ hw 23 rfl) e0 (g := (mkF m 14 #[vI 1, vI k0, vI k1, vU] [(.int (1 : Int32))])) rfl (hb hby own_d13_14) rfl (by decide) (cap := 1) (by decide) (by decide) (by decide) (by decide) (ad := "[B") (by decide)
  obtain ⟨t, gq1⟩ : ∃ z, z = h0.size := ⟨_, rfl⟩
  rw [← gq1] at A1 st1 Ea_t
  have g_t : n0 ≤ t := Nat.le_trans (own_z0 O) (Nat.le_of_eq gq1.symm)
  have sz_t : h0.size ≤ t := Nat.le_trans Kp.1 (Nat.le_of_eq gq1.symm)
  replace O := O.ext E1
  replace Kp := Kp.ext E1
  have V_t : Arv Z h1 t kA1 .byte (1 : Int32) [(.int (0 : Int32))] (.int (0 : Int32)) := (Arv.new A1 (by decide)).pad (pad_rep [] (.int (0 : Int32)) 1)
  refine Out.via (g' := (mkF m 16 #[vI 1, vI k0, vI k1, vU] [(.ref t)])) st1 ?_
  refine Out.via (g' := (mkF m 17 #[vI 1, vI k0, vI k1, vR t] [])) (fun _ k => XS.astoreN X1.here hx rfl (hb hby own_d13_16) rfl rfl (l' := #[.val (.int (1 : Int32)), .val (.int k0), .val (.int k1), .val (.ref t)]) rfl k) ?_
  refine Out.via (g' := (mkF m 18 #[vI 1, vI k0, vI k1, vR t] [(.ref t)])) (fun _ k => XS.aloadN X1.here hx rfl (hb hby own_d13_17) rfl rfl k) ?_
  refine Out.via (g' := (mkF m 19 #[vI 1, vI k0, vI k1, vR t] [(.int (0 : Int32)), (.ref t)])) (fun _ k => XS.iconst X1.here hx rfl (hb hby own_d13_18) k) ?_
  refine Out.via (g' := (mkF m 20 #[vI 1, vI k0, vI k1, vR t] [(.int k0), (.int (0 : Int32)), (.ref t)])) (fun _ k => XS.iloadN X1.here hx rfl (hb hby own_d13_19) rfl k) ?_
  obtain ⟨clz2, Arz2, qz2, Sz2, Mz2, Hz2, Gz2⟩ := V_t
  have hin2 : ¬ ((0 : Int32) < 0 ∨ clz2.slots.size ≤ ((0 : Int32)).toNatClampNeg) := inb_of Sz2 ⟨by decide, by decide⟩
  obtain ⟨T2, h2, X2, e2, W2, st2⟩ := stB X1 hx hZ e1 Arz2 (j := (0 : Int32)) hin2 (g := (mkF m 20 #[vI 1, vI k0, vI k1, vR t] [(.int k0), (.int (0 : Int32)), (.ref t)])) rfl rfl (hb hby own_d13_20)
  have V_t : Arv Z h2 t kA1 .byte (1 : Int32) [(.int (nar .byte k0))] (.int (0 : Int32)) := Arv.set Arz2 qz2 Sz2 Mz2 Hz2 Gz2 (fits_nar_byte _) W2 0 rfl (Nat.le_of_ble_eq_true rfl)
  replace Ea_t := Ea_t.wr W2
  replace O := O.wr W2 g_t
  replace Kp := Kp.wr W2 (Or.inr sz_t)
  replace N0 := Fr.snoc X2 N0 g_t
  refine Out.via (g' := (mkF m 21 #[vI 1, vI k0, vI k1, vR t] [])) st2 ?_
  refine Out.via (g' := (mkF m 22 #[vI 1, vI k0, vI k1, vR t] [(.ref t)])) (fun _ k => XS.aloadN X2.here hx rfl (hb hby own_d13_21) rfl rfl k) ?_
  rw [q0] at V_t
  exact Out.endN X2 (fun h => by rw [Bd.returns] at h; cases h) Bd.notSynchronized (by decide) (by decide) (by rw [e2]; exact ⟨t, _, rfl, N0, Kp, sz_t, g_t, V_t, Ea_t⟩) (fun fs hr => own_retR X2 hx (t := (.array .byte)) Bd.returns rfl rfl rfl (hb hby own_d13_22) hr)
theorem own_d13_23 : decode method_3_code 23 = .ok (.iconst 2, 1) := by decide +kernel
theorem own_d13_24 : decode method_3_code 24 = .ok (.newarray .byte, 2) := by decide +kernel
theorem own_d13_26 : decode method_3_code 26 = .ok (.astore_n 3, 1) := by decide +kernel
theorem own_d13_27 : decode method_3_code 27 = .ok (.aload_n 3, 1) := by decide +kernel
theorem own_d13_28 : decode method_3_code 28 = .ok (.iconst 0, 1) := by decide +kernel
theorem own_d13_29 : decode method_3_code 29 = .ok (.iload_n 1, 1) := by decide +kernel
theorem own_d13_30 : decode method_3_code 30 = .ok (.bastore, 1) := by decide +kernel
theorem own_d13_31 : decode method_3_code 31 = .ok (.aload_n 3, 1) := by decide +kernel
theorem own_d13_32 : decode method_3_code 32 = .ok (.iconst 1, 1) := by decide +kernel
theorem own_d13_33 : decode method_3_code 33 = .ok (.iload_n 2, 1) := by decide +kernel
theorem own_d13_34 : decode method_3_code 34 = .ok (.bastore, 1) := by decide +kernel
theorem own_d13_35 : decode method_3_code 35 = .ok (.aload_n 3, 1) := by decide +kernel
theorem own_d13_36 : decode method_3_code 36 = .ok (.areturn, 1) := by decide +kernel
theorem own_efKY2 (m : MethodId) (x0 : Int32) (x1 : Int32) (x2 : Int32) : entryFrame m #[(.int x0), (.int x1), (.int x2)] 4 = mkF m 0 #[.val (.int x0), .val (.int x1), .val (.int x2), .unset] [] := by first | (simp [entryFrame, mkF, argsToLocals, Value.category]; done) | rfl
abbrev own_QKY2 (Z : State) (k0 k1 : Int32) (h0 : Heap) (n0 : Nat) : Option Value → Heap → List Loc → Prop := fun v h L => ∃ (t : Addr) (kt : ClassId), v = some (.ref t) ∧ Fr n0 L ∧ Keep h0 h [] ∧ h0.size ≤ t ∧ n0 ≤ t ∧ Arv Z h t kt .byte (2 : Int32) [(.int k0), (.int k1)] (.int (0 : Int32)) ∧ Exa Z h t "[B"
set_option maxRecDepth 65536 in
set_option maxHeartbeats 40000000 in
theorem own_rmKY2 (l : Launch) (Z : State) (a0 : Array Value) (hw : ∀ d ∈ tables_1, d.before a0 Z = true) (ws : List Jvm.Cond) (k0 k1 : Int32) (h0 : Heap) (n0 : Nat) (O : Old Z n0 h0) (q0 : nar .byte k0 = k0) (q1 : nar .byte k1 = k1) :
    MetFree l own_y14 (head1 (Jvm.Cond.code own_y14 method_3_code 4 (some (.array .byte)) :: ws) ({ frames := 0, cells := 1, slots := 2, locals := 0 } : Room)) (fun aa U => aa = #[(.int (2 : Int32)), (.int k0), (.int k1)] ∧ Z.Warmed39 U.vm ∧ U.heap = h0) (fun _ _ _ _ _ => True) (fun _ U o U' => ∃ v L, o = .returned v ∧ (own_QKY2 Z k0 k1 h0 n0) v U'.heap L ∧ FrameEnd U o U' L ({ frames := 0, cells := 1, slots := 2, locals := 0 } : Room).cells ({ frames := 0, cells := 1, slots := 2, locals := 0 } : Room).slots) := by
  refine MetFree.of_bodySF (plainFor_of_name own_pn18) hisR ?_
  intro p e s m args below meth c s₁ Bd hml0 hP hK
  obtain ⟨rfl, hZ, hh⟩ := hP
  have hx := Bd.exec
  have hby := Bd.bytes
  have hml : c.maxLocals = 4 := hml0
  have hown : s.vm.findClass "com/example/commitwright/commitwright/core/BranchHashCodePinLaw" = some m.cls := findClass_of_methodNamed Bd.named
  have hnm := (name_of_methodNamed Bd.named Bd.method).1
  have X0 : Stand p l e ({ frames := 0, cells := 1, slots := 2, locals := 0 } : Room) s m #[(.int (2 : Int32)), (.int k0), (.int k1)] below meth c s₁ [] 0 0 := Stand.of_body Bd
  have e0 : s₁.heap = h0 := by rw [← hh, Bd.state]; rfl
  have N0 := Fr.nil n0
  refine Out.start (Q := own_QKY2 Z k0 k1 h0 n0) (own_efKY2 m (2 : Int32) k0 k1 ) ?_
  have Kp := Keep.refl h0 []
  refine Out.via (g' := (mkF m 1 #[vI 2, vI k0, vI k1, vU] [(.int (2 : Int32))])) (fun _ k => XS.iloadN X0.here hx rfl (hb hby own_d13_0) rfl k) ?_
  refine Out.via (g' := (mkF m 8 #[vI 2, vI k0, vI k1, vU] [])) (fun _ k => XS.ifYes X0.here hx rfl (pc0 := 1) (pc' := 8) rfl (hb hby own_d13_1) rfl ((if0 _ _).trans (feq (by decide)).2) (by decide) (by decide) k) ?_
  refine Out.via (g' := (mkF m 9 #[vI 2, vI k0, vI k1, vU] [(.int (2 : Int32))])) (fun _ k => XS.iloadN X0.here hx rfl (hb hby own_d13_8) rfl k) ?_
  refine Out.via (g' := (mkF m 10 #[vI 2, vI k0, vI k1, vU] [(.int (1 : Int32)), (.int (2 : Int32))])) (fun _ k => XS.iconst X0.here hx rfl (hb hby own_d13_9) k) ?_
  refine Out.via (g' := (mkF m 23 #[vI 2, vI k0, vI k1, vU] [])) (fun _ k => XS.icmpYes X0.here hx rfl (pc0 := 10) (pc' := 23) rfl (hb hby own_d13_10) rfl (feq (by decide)).2 (by decide) (by decide) k) ?_
  refine Out.via (g' := (mkF m 24 #[vI 2, vI k0, vI k1, vU] [(.int (2 : Int32))])) (fun _ k => XS.iconst X0.here hx rfl (hb hby own_d13_23) k) ?_
  obtain ⟨T1, h1, kA1, X1, e1, E1, A1, Ea_t, st1⟩ := newPE X0 hx hZ (W_ hw 23 rfl) e0 (g := (mkF m 24 #[vI 2, vI k0, vI k1, vU] [(.int (2 : Int32))])) rfl (hb hby own_d13_24) rfl (by decide) (cap := 2) (by decide) (by decide) (by decide) (by decide) (ad := "[B") (by decide)
  obtain ⟨t, gq1⟩ : ∃ z, z = h0.size := ⟨_, rfl⟩
  rw [← gq1] at A1 st1 Ea_t
  have g_t : n0 ≤ t := Nat.le_trans (own_z0 O) (Nat.le_of_eq gq1.symm)
  have sz_t : h0.size ≤ t := Nat.le_trans Kp.1 (Nat.le_of_eq gq1.symm)
  replace O := O.ext E1
  replace Kp := Kp.ext E1
  have V_t : Arv Z h1 t kA1 .byte (2 : Int32) [(.int (0 : Int32)), (.int (0 : Int32))] (.int (0 : Int32)) := (Arv.new A1 (by decide)).pad (pad_rep [] (.int (0 : Int32)) 2)
  refine Out.via (g' := (mkF m 26 #[vI 2, vI k0, vI k1, vU] [(.ref t)])) st1 ?_
  refine Out.via (g' := (mkF m 27 #[vI 2, vI k0, vI k1, vR t] [])) (fun _ k => XS.astoreN X1.here hx rfl (hb hby own_d13_26) rfl rfl (l' := #[.val (.int (2 : Int32)), .val (.int k0), .val (.int k1), .val (.ref t)]) rfl k) ?_
  refine Out.via (g' := (mkF m 28 #[vI 2, vI k0, vI k1, vR t] [(.ref t)])) (fun _ k => XS.aloadN X1.here hx rfl (hb hby own_d13_27) rfl rfl k) ?_
  refine Out.via (g' := (mkF m 29 #[vI 2, vI k0, vI k1, vR t] [(.int (0 : Int32)), (.ref t)])) (fun _ k => XS.iconst X1.here hx rfl (hb hby own_d13_28) k) ?_
  refine Out.via (g' := (mkF m 30 #[vI 2, vI k0, vI k1, vR t] [(.int k0), (.int (0 : Int32)), (.ref t)])) (fun _ k => XS.iloadN X1.here hx rfl (hb hby own_d13_29) rfl k) ?_
  obtain ⟨clz2, Arz2, qz2, Sz2, Mz2, Hz2, Gz2⟩ := V_t
  have hin2 : ¬ ((0 : Int32) < 0 ∨ clz2.slots.size ≤ ((0 : Int32)).toNatClampNeg) := inb_of Sz2 ⟨by decide, by decide⟩
  obtain ⟨T2, h2, X2, e2, W2, st2⟩ := stB X1 hx hZ e1 Arz2 (j := (0 : Int32)) hin2 (g := (mkF m 30 #[vI 2, vI k0, vI k1, vR t] [(.int k0), (.int (0 : Int32)), (.ref t)])) rfl rfl (hb hby own_d13_30)
  have V_t : Arv Z h2 t kA1 .byte (2 : Int32) [(.int (nar .byte k0)), (.int (0 : Int32))] (.int (0 : Int32)) := Arv.set Arz2 qz2 Sz2 Mz2 Hz2 Gz2 (fits_nar_byte _) W2 0 rfl (Nat.le_of_ble_eq_true rfl)
  replace Ea_t := Ea_t.wr W2
  replace O := O.wr W2 g_t
  replace Kp := Kp.wr W2 (Or.inr sz_t)
  replace N0 := Fr.snoc X2 N0 g_t
  refine Out.via (g' := (mkF m 31 #[vI 2, vI k0, vI k1, vR t] [])) st2 ?_
  refine Out.via (g' := (mkF m 32 #[vI 2, vI k0, vI k1, vR t] [(.ref t)])) (fun _ k => XS.aloadN X2.here hx rfl (hb hby own_d13_31) rfl rfl k) ?_
  refine Out.via (g' := (mkF m 33 #[vI 2, vI k0, vI k1, vR t] [(.int (1 : Int32)), (.ref t)])) (fun _ k => XS.iconst X2.here hx rfl (hb hby own_d13_32) k) ?_
  refine Out.via (g' := (mkF m 34 #[vI 2, vI k0, vI k1, vR t] [(.int k1), (.int (1 : Int32)), (.ref t)])) (fun _ k => XS.iloadN X2.here hx rfl (hb hby own_d13_33) rfl k) ?_
  obtain ⟨clz3, Arz3, qz3, Sz3, Mz3, Hz3, Gz3⟩ := V_t
  have hin3 : ¬ ((1 : Int32) < 0 ∨ clz3.slots.size ≤ ((1 : Int32)).toNatClampNeg) := inb_of Sz3 ⟨by decide, by decide⟩
  obtain ⟨T3, h3, X3, e3, W3, st3⟩ := stB X2 hx hZ e2 Arz3 (j := (1 : Int32)) hin3 (g := (mkF m 34 #[vI 2, vI k0, vI k1, vR t] [(.int k1), (.int (1 : Int32)), (.ref t)])) rfl rfl (hb hby own_d13_34)
  have V_t : Arv Z h3 t kA1 .byte (2 : Int32) [(.int (nar .byte k0)), (.int (nar .byte k1))] (.int (0 : Int32)) := Arv.set Arz3 qz3 Sz3 Mz3 Hz3 Gz3 (fits_nar_byte _) W3 1 rfl (Nat.le_of_ble_eq_true rfl)
  replace Ea_t := Ea_t.wr W3
  replace O := O.wr W3 g_t
  replace Kp := Kp.wr W3 (Or.inr sz_t)
  replace N0 := Fr.snoc X3 N0 g_t
  refine Out.via (g' := (mkF m 35 #[vI 2, vI k0, vI k1, vR t] [])) st3 ?_
  refine Out.via (g' := (mkF m 36 #[vI 2, vI k0, vI k1, vR t] [(.ref t)])) (fun _ k => XS.aloadN X3.here hx rfl (hb hby own_d13_35) rfl rfl k) ?_
  rw [q0, q1] at V_t
  exact Out.endN X3 (fun h => by rw [Bd.returns] at h; cases h) Bd.notSynchronized (by decide) (by decide) (by rw [e3]; exact ⟨t, _, rfl, N0, Kp, sz_t, g_t, V_t, Ea_t⟩) (fun fs hr => own_retR X3 hx (t := (.array .byte)) Bd.returns rfl rfl rfl (hb hby own_d13_36) hr)
/-- the hash a String has noted: nothing yet; that it is zero; itself -/
def own_hs (H v1 v2 : Int32) : Prop := (v1 = 0 ∧ v2 = 0) ∨ (v1 = 0 ∧ v2 = 1 ∧ H = 0) ∨ (v1 = H ∧ ¬ H = 0)
/-- a compact String at a, its bytes at b, its hash H, noted or not -/
def own_S (Z : State) (h : Heap) (a b : Addr) (H : Int32) : Prop := Exa Z h a "java/lang/String" ∧ Fld Z h a "java/lang/String" "coder" "B" (.int (0 : Int32)) ∧ Fld Z h a "java/lang/String" "value" "[B" (.ref b) ∧ ∃ v1 v2 : Int32, Fld Z h a "java/lang/String" "hash" "I" (.int v1) ∧ Fld Z h a "java/lang/String" "hashIsZero" "Z" (.int v2) ∧ own_hs H v1 v2
theorem own_S.ext {Z : State} {h h' : Heap} {a b : Addr} {H : Int32} (F : own_S Z h a b H) (E : Ext h h') : own_S Z h' a b H := by
  obtain ⟨f1, f2, f3, v1, v2, f4, f5, f6⟩ := F
  exact ⟨f1.ext E, f2.ext E, f3.ext E, v1, v2, f4.ext E, f5.ext E, f6⟩
theorem own_S.keep {Z : State} {h h' : Heap} {a b : Addr} {H : Int32} {ws : List Addr} (F : own_S Z h a b H) (K : Keep h h' ws) (q : a ∉ ws) : own_S Z h' a b H := by
  obtain ⟨f1, f2, f3, v1, v2, f4, f5, f6⟩ := F
  exact ⟨f1.keep K, f2.keep K q, f3.keep K q, v1, v2, f4.keep K q, f5.keep K q, f6⟩
theorem own_S.other {Z : State} {h h' : Heap} {a b x : Addr} {H : Int32} {sl : Nat} {v : Value} (F : own_S Z h a b H) (W : Wr h h' x sl v) (q : a ≠ x) : own_S Z h' a b H := by
  obtain ⟨f1, f2, f3, v1, v2, f4, f5, f6⟩ := F
  exact ⟨f1.wr W, f2.other W (Or.inl q), f3.other W (Or.inl q), v1, v2, f4.other W (Or.inl q), f5.other W (Or.inl q), f6⟩
/-- new String(chars), its noted hash kept in sight -/
theorem own_newS {p : Program} {l : Launch} {e : Env} {R : Room} {s : State} {args : Array Value} {below : List Frame} {len W : Nat} {Z : State} {a0 : Array Value} {h : Heap} (hZ : Z.Warmed39 s.vm) (hw : ∀ d ∈ tables_1, d.before a0 Z = true) {kI : Nat} (wi : (Jvm.Cond.instantiable "java/lang/String" kI).before a0 Z = true)
    {x b : Addr} {kC : ClassId} {cs bs : List Int32} {d v0 c0 : Value} {z N H : Int32} {n n0 : Nat} (hx0 : n0 ≤ x) (hh0 : n0 ≤ h.size) (E : Exa Z h x "java/lang/String") (V : Fld Z h x "java/lang/String" "value" "[B" v0) (C : Fld Z h x "java/lang/String" "coder" "B" c0) (Hh : Fld Z h x "java/lang/String" "hash" "I" (.int (0 : Int32))) (Hz : Fld Z h x "java/lang/String" "hashIsZero" "Z" (.int (0 : Int32)))
    (s1 : RoadKit.slotOf Z "java/lang/String" "hash" "I" ≠ RoadKit.slotOf Z "java/lang/String" "value" "[B") (s2 : RoadKit.slotOf Z "java/lang/String" "hash" "I" ≠ RoadKit.slotOf Z "java/lang/String" "coder" "B") (s3 : RoadKit.slotOf Z "java/lang/String" "hashIsZero" "Z" ≠ RoadKit.slotOf Z "java/lang/String" "value" "[B") (s4 : RoadKit.slotOf Z "java/lang/String" "hashIsZero" "Z" ≠ RoadKit.slotOf Z "java/lang/String" "coder" "B")
    (K : Arv Z h b kC .char N (cs.map Value.int) d) (S : Sta Z h "java/lang/String" "COMPACT_STRINGS" "Z" (.int z)) (hz : ¬ z = 0) (hn : cs.length = n) (hN : N.toNatClampNeg = n) (l0 : 0 < n) (l2 : n ≤ 4000) (hp : ∀ c ∈ cs, own_lat c) (hb : bs = cs.map (fun c => c.toInt8.toInt32)) (hfr : 4 ≤ R.frames) (hlo : W + 65 ≤ R.locals) :
    Back l R p e below s args own_y15 len W (fun P a => a = #[.ref x, .ref b] ∧ P.U.heap = h ∧ P.cells + 1 ≤ R.cells ∧ P.slots + n ≤ R.slots)
      (fun P _ v B => ∃ L, (v = none ∧ Fr n0 L ∧ Keep h B.U.heap [x] ∧ ∃ (t : Addr) (kb : ClassId), n0 ≤ t ∧ h.size ≤ t ∧ own_S Z B.U.heap x t H ∧ Arv Z B.U.heap t kb .byte N (bs.map Value.int) (.int 0) ∧ Exa Z B.U.heap t "[B") ∧ B.locs = P.locs ++ L ∧ B.cells = P.cells + 1 ∧ B.slots = P.slots + n) := by
  subst hn hb
  refine Back.mono (StrChars.Road.backArv hZ (fun d hd => hw d ((by decide +kernel : ∀ d ∈ StrChars.Road.words, d ∈ tables_1) d hd)) wi E V C K S hz hN l0 (by omega) (fun c hc => (hp c hc).2) hfr hlo) (fun P a hp => hp) (fun P a v B hp hq => ?_)
  obtain ⟨L, ⟨q1, q2, q3, q4, q5, q6, q7, ⟨kb, v1, v2⟩, q9⟩, hl, hc, hs⟩ := hq
  have v2' : Arv Z B.U.heap h.size kb .byte N ((cs.map (fun c => c.toInt8.toInt32)).map Value.int) (.int 0) := by rw [List.map_map]; exact v2
  exact ⟨L, ⟨q1, fun y hy => by rw [q2 y hy]; exact hx0, q3, h.size, kb, hh0, Nat.le_refl _, ⟨q5, q7, q6, 0, 0, q9 _ _ _ _ Hh s1 s2, q9 _ _ _ _ Hz s3 s4, Or.inl ⟨rfl, rfl⟩⟩, v2', own_arvExa v2' v1⟩, hl, hc, hs⟩
theorem own_d14_0 : decode method_2_code 0 = .ok (.iload_n 0, 1) := by decide +kernel
theorem own_d14_1 : decode method_2_code 1 = .ok (.ifCond .eq 24, 3) := by decide +kernel
theorem own_d14_25 : decode method_2_code 25 = .ok (.iconst 1, 1) := by decide +kernel
theorem own_d14_26 : decode method_2_code 26 = .ok (.newarray .char, 2) := by decide +kernel
theorem own_d14_28 : decode method_2_code 28 = .ok (.astore_n 3, 1) := by decide +kernel
theorem own_d14_29 : decode method_2_code 29 = .ok (.aload_n 3, 1) := by decide +kernel
theorem own_d14_30 : decode method_2_code 30 = .ok (.iconst 0, 1) := by decide +kernel
theorem own_d14_31 : decode method_2_code 31 = .ok (.iload_n 1, 1) := by decide +kernel
theorem own_d14_32 : decode method_2_code 32 = .ok (.castore, 1) := by decide +kernel
theorem own_d14_33 : decode method_2_code 33 = .ok (.new 7, 3) := by decide +kernel
theorem own_d14_36 : decode method_2_code 36 = .ok (.dup, 1) := by decide +kernel
theorem own_d14_37 : decode method_2_code 37 = .ok (.aload_n 3, 1) := by decide +kernel
theorem own_d14_38 : decode method_2_code 38 = .ok (.invokespecial 9, 3) := by decide +kernel
theorem own_pd19 : parseMethodDescriptor "([C)V" = some ⟨[(.array .char)], none⟩ := by decide +kernel
theorem own_d14_41 : decode method_2_code 41 = .ok (.areturn, 1) := by decide +kernel
theorem own_efNM1 (m : MethodId) (x0 : Int32) (x1 : Int32) (x2 : Int32) : entryFrame m #[(.int x0), (.int x1), (.int x2)] 4 = mkF m 0 #[.val (.int x0), .val (.int x1), .val (.int x2), .unset] [] := by first | (simp [entryFrame, mkF, argsToLocals, Value.category]; done) | rfl
abbrev own_QNM1 (Z : State) (c0 c1 x0 x1 H G1 : Int32) (h0 : Heap) (n0 : Nat) : Option Value → Heap → List Loc → Prop := fun v h L => ∃ (x t : Addr) (kb : ClassId), v = some (.ref x) ∧ Fr n0 L ∧ Keep h0 h [] ∧ h0.size ≤ x ∧ n0 ≤ x ∧ h0.size ≤ t ∧ own_S Z h x t H ∧ Arv Z h t kb .byte (1 : Int32) [(.int x0)] (.int (0 : Int32)) ∧ Exa Z h t "[B"
set_option maxRecDepth 65536 in
set_option maxHeartbeats 40000000 in
theorem own_rmNM1 (l : Launch) (Z : State) (a0 : Array Value) (hw : ∀ d ∈ tables_1, d.before a0 Z = true) (ws : List Jvm.Cond) (c0 c1 x0 x1 H G1 : Int32) (h0 : Heap) (n0 : Nat) (O : Old Z n0 h0) (hc0 : own_lat c0) (hc1 : own_lat c1) (hx0 : x0 = c0.toInt8.toInt32) (hx1 : x1 = c1.toInt8.toInt32) (O2 : Sta Z Z.heap "java/lang/String" "COMPACT_STRINGS" "Z" (.int G1)) (P5 : ¬ (G1 = (0 : Int32))) :
    MetFree l own_y16 (head1 (Jvm.Cond.code own_y16 method_2_code 4 (some (.object "java/lang/String")) :: ws) ({ frames := 4, cells := 3, slots := 8, locals := 66 } : Room)) (fun aa U => aa = #[(.int (0 : Int32)), (.int c0), (.int c1)] ∧ Z.Warmed39 U.vm ∧ U.heap = h0) (fun _ _ _ _ _ => True) (fun _ U o U' => ∃ v L, o = .returned v ∧ (own_QNM1 Z c0 c1 x0 x1 H G1 h0 n0) v U'.heap L ∧ FrameEnd U o U' L ({ frames := 4, cells := 3, slots := 8, locals := 66 } : Room).cells ({ frames := 4, cells := 3, slots := 8, locals := 66 } : Room).slots) := by
  refine MetFree.of_bodySF (plainFor_of_name own_pn18) hisR ?_
  intro p e s m args below meth c s₁ Bd hml0 hP hK
  obtain ⟨rfl, hZ, hh⟩ := hP
  have hx := Bd.exec
  have hby := Bd.bytes
  have hml : c.maxLocals = 4 := hml0
  have hown : s.vm.findClass "com/example/commitwright/commitwright/core/BranchHashCodePinLaw" = some m.cls := findClass_of_methodNamed Bd.named
  have hnm := (name_of_methodNamed Bd.named Bd.method).1
  have X0 : Stand p l e ({ frames := 4, cells := 3, slots := 8, locals := 66 } : Room) s m #[(.int (0 : Int32)), (.int c0), (.int c1)] below meth c s₁ [] 0 0 := Stand.of_body Bd
  have e0 : s₁.heap = h0 := by rw [← hh, Bd.state]; rfl
  have N0 := Fr.nil n0
  refine Out.start (Q := own_QNM1 Z c0 c1 x0 x1 H G1 h0 n0) (own_efNM1 m (0 : Int32) c0 c1 ) ?_
  subst hx0 hx1
  have Kp := Keep.refl h0 []
  refine Out.via (g' := (mkF m 1 #[vI 0, vI c0, vI c1, vU] [(.int (0 : Int32))])) (fun _ k => XS.iloadN X0.here hx rfl (hb hby own_d14_0) rfl k) ?_
  refine Out.via (g' := (mkF m 25 #[vI 0, vI c0, vI c1, vU] [])) (fun _ k => XS.ifYes X0.here hx rfl (pc0 := 1) (pc' := 25) rfl (hb hby own_d14_1) rfl ((if0 _ _).trans (teq rfl).1) (by decide) (by decide) k) ?_
  refine Out.via (g' := (mkF m 26 #[vI 0, vI c0, vI c1, vU] [(.int (1 : Int32))])) (fun _ k => XS.iconst X0.here hx rfl (hb hby own_d14_25) k) ?_
  obtain ⟨T1, h1, kA1, X1, e1, E1, A1, st1⟩ := newP X0 hx hZ (W_ hw 4 rfl) e0 (g := (mkF m 26 #[vI 0, vI c0, vI c1, vU] [(.int (1 : Int32))])) rfl (hb hby own_d14_26) rfl (by decide) (cap := 1) (by decide) (by decide) (by decide) (by decide)
  obtain ⟨cs, gq1⟩ : ∃ z, z = h0.size := ⟨_, rfl⟩
  rw [← gq1] at A1 st1
  have g_cs : n0 ≤ cs := Nat.le_trans (own_z0 O) (Nat.le_of_eq gq1.symm)
  have sz_cs : h0.size ≤ cs := Nat.le_trans Kp.1 (Nat.le_of_eq gq1.symm)
  replace O := O.ext E1
  replace Kp := Kp.ext E1
  have V_cs : Arv Z h1 cs kA1 .char (1 : Int32) [(.int (0 : Int32))] (.int (0 : Int32)) := (Arv.new A1 (by decide)).pad (pad_rep [] (.int (0 : Int32)) 1)
  refine Out.via (g' := (mkF m 28 #[vI 0, vI c0, vI c1, vU] [(.ref cs)])) st1 ?_
  refine Out.via (g' := (mkF m 29 #[vI 0, vI c0, vI c1, vR cs] [])) (fun _ k => XS.astoreN X1.here hx rfl (hb hby own_d14_28) rfl rfl (l' := #[.val (.int (0 : Int32)), .val (.int c0), .val (.int c1), .val (.ref cs)]) rfl k) ?_
  refine Out.via (g' := (mkF m 30 #[vI 0, vI c0, vI c1, vR cs] [(.ref cs)])) (fun _ k => XS.aloadN X1.here hx rfl (hb hby own_d14_29) rfl rfl k) ?_
  refine Out.via (g' := (mkF m 31 #[vI 0, vI c0, vI c1, vR cs] [(.int (0 : Int32)), (.ref cs)])) (fun _ k => XS.iconst X1.here hx rfl (hb hby own_d14_30) k) ?_
  refine Out.via (g' := (mkF m 32 #[vI 0, vI c0, vI c1, vR cs] [(.int c0), (.int (0 : Int32)), (.ref cs)])) (fun _ k => XS.iloadN X1.here hx rfl (hb hby own_d14_31) rfl k) ?_
  obtain ⟨clz2, Arz2, qz2, Sz2, Mz2, Hz2, Gz2⟩ := V_cs
  have hin2 : ¬ ((0 : Int32) < 0 ∨ clz2.slots.size ≤ ((0 : Int32)).toNatClampNeg) := inb_of Sz2 ⟨by decide, by decide⟩
  obtain ⟨T2, h2, X2, e2, W2, st2⟩ := stC X1 hx hZ e1 Arz2 (j := (0 : Int32)) hin2 (g := (mkF m 32 #[vI 0, vI c0, vI c1, vR cs] [(.int c0), (.int (0 : Int32)), (.ref cs)])) rfl rfl (hb hby own_d14_32)
  have V_cs : Arv Z h2 cs kA1 .char (1 : Int32) [(.int (nar .char c0))] (.int (0 : Int32)) := Arv.set Arz2 qz2 Sz2 Mz2 Hz2 Gz2 (fits_nar_char _) W2 0 rfl (Nat.le_of_ble_eq_true rfl)
  replace O := O.wr W2 g_cs
  replace Kp := Kp.wr W2 (Or.inr sz_cs)
  replace N0 := Fr.snoc X2 N0 g_cs
  refine Out.via (g' := (mkF m 33 #[vI 0, vI c0, vI c1, vR cs] [])) st2 ?_
  rw [own_lat_nar hc0] at V_cs
  obtain ⟨T3, h3, X3, e3, E3, A3, D3, -, st3⟩ := newO X2 hx hZ hown (W_ hw 5 rfl) (W_ hw 6 rfl) (W_ hw 7 rfl) e2 (g := (mkF m 33 #[vI 0, vI c0, vI c1, vR cs] [])) rfl (hb hby own_d14_33) (by decide) (by decide)
  obtain ⟨x, gq3⟩ : ∃ z, z = h2.size := ⟨_, rfl⟩
  rw [← gq3] at A3 D3 st3
  have ne_cs_x : cs ≠ x := Nat.ne_of_lt (Nat.lt_of_lt_of_le V_cs.lt (Nat.le_of_eq gq3.symm))
  have g_x : n0 ≤ x := Nat.le_trans (own_z0 O) (Nat.le_of_eq gq3.symm)
  have sz_x : h0.size ≤ x := Nat.le_trans Kp.1 (Nat.le_of_eq gq3.symm)
  replace V_cs := V_cs.ext E3
  replace O := O.ext E3
  replace Kp := Kp.ext E3
  have F_coder_x : Fld Z h3 x "java/lang/String" "coder" "B" (.int (0 : Int32)) := D3 (Or.inr (W_ hw 31 rfl)) (ty := .byte) (by decide)
  have F_value_x : Fld Z h3 x "java/lang/String" "value" "[B" .null := D3 (Or.inr (W_ hw 33 rfl)) (ty := (.array .byte)) (by decide)
  have F_hash_x : Fld Z h3 x "java/lang/String" "hash" "I" (.int (0 : Int32)) := D3 (Or.inl (W_ hw 114 rfl)) (ty := .int) (by decide)
  have F_hashIsZero_x : Fld Z h3 x "java/lang/String" "hashIsZero" "Z" (.int (0 : Int32)) := D3 (Or.inl (W_ hw 116 rfl)) (ty := .boolean) (by decide)
  refine Out.via (g' := (mkF m 36 #[vI 0, vI c0, vI c1, vR cs] [(.ref x)])) st3 ?_
  refine Out.via (g' := (mkF m 37 #[vI 0, vI c0, vI c1, vR cs] [(.ref x), (.ref x)])) (fun _ k => XS.dup X3.here hx rfl (hb hby own_d14_36) rfl rfl k) ?_
  refine Out.via (g' := (mkF m 38 #[vI 0, vI c0, vI c1, vR cs] [(.ref cs), (.ref x), (.ref x)])) (fun _ k => XS.aloadN X3.here hx rfl (hb hby own_d14_37) rfl rfl k) ?_
  obtain ⟨_, _, ⟨T4, L4, kc4, ks4⟩, -, X4, ⟨Lc4, hQ4, l4, y4, z4⟩, st4⟩ := X3.specialBack hx (y := own_y15) rfl hown (mvT hZ (W_ hw 8 rfl)) (mvT hZ (W_ hw 9 rfl)) (mvT hZ (W_ hw 10 rfl)) (by decide) (own_newS (W := 1) (H := H) (n0 := n0) (bs := [c0.toInt8.toInt32]) (cs := [c0]) (n := 1) hZ hw (W_ hw 6 rfl) g_x (own_z0 O) A3 F_value_x F_coder_x F_hash_x F_hashIsZero_x (slot_ne (Or.inl (W_ hw 114 rfl)) (Or.inr (W_ hw 33 rfl)) (by decide) (t := .int) (t' := (.array .byte)) (by decide) (by decide)) (slot_ne (Or.inl (W_ hw 114 rfl)) (Or.inr (W_ hw 31 rfl)) (by decide) (t := .int) (t' := .byte) (by decide) (by decide)) (slot_ne (Or.inl (W_ hw 116 rfl)) (Or.inr (W_ hw 33 rfl)) (by decide) (t := .boolean) (t' := (.array .byte)) (by decide) (by decide)) (slot_ne (Or.inl (W_ hw 116 rfl)) (Or.inr (W_ hw 31 rfl)) (by decide) (t := .boolean) (t' := .byte) (by decide) (by decide)) V_cs (O2.ext O.2) P5 rfl rfl (by decide) (by decide) (own_allS hc0 own_all0) rfl (by decide) (by decide)) (g := (mkF m 38 #[vI 0, vI c0, vI c1, vR cs] [(.ref cs), (.ref x), (.ref x)])) rfl (by rw [hml]; rfl) (Steps.refl _) (a := x) (argsL := [(.ref cs)]) (rest := [(.ref x)]) (lenOf own_pd19 rfl) rfl (by show 2 * 0 + _ ≤ _; exact Nat.le_of_eq rfl) (hb hby own_d14_38) (fun _ _ => ⟨rfl, e3, (by decide : 2 + 1 ≤ _), (by decide : 5 + 1 ≤ _)⟩)
  dsimp only [Pt.U, Pt.locs, Pt.cells, Pt.slots] at X4 l4 y4 z4 st4 hQ4
  subst l4 y4 z4
  obtain ⟨rfl, Nq4, Kq4, t, kb, g_t, sz_t, Sx, At, Et⟩ := hQ4
  replace sz_t : h0.size ≤ t := Nat.le_trans Kp.1 sz_t
  replace N0 := Fr.app N0 Nq4
  replace Kp := Kp.trans Kq4 (allS (Or.inr sz_x) all0)
  refine Out.to (g' := (mkF m 41 #[vI 0, vI c0, vI c1, vR cs] [(.ref x)])) st4 ?_
  exact Out.endN X4 (fun h => by rw [Bd.returns] at h; cases h) Bd.notSynchronized (by decide) (by decide) (⟨x, t, kb, rfl, N0, Kp, sz_x, g_x, sz_t, Sx, At, Et⟩) (fun fs hr => own_retR X4 hx (t := (.object "java/lang/String")) Bd.returns rfl rfl rfl (hb hby own_d14_41) hr)
theorem own_d14_4 : decode method_2_code 4 = .ok (.iconst 2, 1) := by decide +kernel
theorem own_d14_5 : decode method_2_code 5 = .ok (.newarray .char, 2) := by decide +kernel
theorem own_d14_7 : decode method_2_code 7 = .ok (.astore_n 3, 1) := by decide +kernel
theorem own_d14_8 : decode method_2_code 8 = .ok (.aload_n 3, 1) := by decide +kernel
theorem own_d14_9 : decode method_2_code 9 = .ok (.iconst 0, 1) := by decide +kernel
theorem own_d14_10 : decode method_2_code 10 = .ok (.iload_n 1, 1) := by decide +kernel
theorem own_d14_11 : decode method_2_code 11 = .ok (.castore, 1) := by decide +kernel
theorem own_d14_12 : decode method_2_code 12 = .ok (.aload_n 3, 1) := by decide +kernel
theorem own_d14_13 : decode method_2_code 13 = .ok (.iconst 1, 1) := by decide +kernel
theorem own_d14_14 : decode method_2_code 14 = .ok (.iload_n 2, 1) := by decide +kernel
theorem own_d14_15 : decode method_2_code 15 = .ok (.castore, 1) := by decide +kernel
theorem own_d14_16 : decode method_2_code 16 = .ok (.new 7, 3) := by decide +kernel
theorem own_d14_19 : decode method_2_code 19 = .ok (.dup, 1) := by decide +kernel
theorem own_d14_20 : decode method_2_code 20 = .ok (.aload_n 3, 1) := by decide +kernel
theorem own_d14_21 : decode method_2_code 21 = .ok (.invokespecial 9, 3) := by decide +kernel
theorem own_d14_24 : decode method_2_code 24 = .ok (.areturn, 1) := by decide +kernel
theorem own_efNM2 (m : MethodId) (x0 : Int32) (x1 : Int32) (x2 : Int32) : entryFrame m #[(.int x0), (.int x1), (.int x2)] 4 = mkF m 0 #[.val (.int x0), .val (.int x1), .val (.int x2), .unset] [] := by first | (simp [entryFrame, mkF, argsToLocals, Value.category]; done) | rfl
abbrev own_QNM2 (Z : State) (c0 c1 x0 x1 H G1 : Int32) (h0 : Heap) (n0 : Nat) : Option Value → Heap → List Loc → Prop := fun v h L => ∃ (x t : Addr) (kb : ClassId), v = some (.ref x) ∧ Fr n0 L ∧ Keep h0 h [] ∧ h0.size ≤ x ∧ n0 ≤ x ∧ h0.size ≤ t ∧ own_S Z h x t H ∧ Arv Z h t kb .byte (2 : Int32) [(.int x0), (.int x1)] (.int (0 : Int32)) ∧ Exa Z h t "[B"
set_option maxRecDepth 65536 in
set_option maxHeartbeats 40000000 in
theorem own_rmNM2 (l : Launch) (Z : State) (a0 : Array Value) (hw : ∀ d ∈ tables_1, d.before a0 Z = true) (ws : List Jvm.Cond) (c0 c1 x0 x1 H G1 : Int32) (h0 : Heap) (n0 : Nat) (O : Old Z n0 h0) (hc0 : own_lat c0) (hc1 : own_lat c1) (hx0 : x0 = c0.toInt8.toInt32) (hx1 : x1 = c1.toInt8.toInt32) (O2 : Sta Z Z.heap "java/lang/String" "COMPACT_STRINGS" "Z" (.int G1)) (P5 : ¬ (G1 = (0 : Int32))) :
    MetFree l own_y16 (head1 (Jvm.Cond.code own_y16 method_2_code 4 (some (.object "java/lang/String")) :: ws) ({ frames := 4, cells := 3, slots := 8, locals := 66 } : Room)) (fun aa U => aa = #[(.int (1 : Int32)), (.int c0), (.int c1)] ∧ Z.Warmed39 U.vm ∧ U.heap = h0) (fun _ _ _ _ _ => True) (fun _ U o U' => ∃ v L, o = .returned v ∧ (own_QNM2 Z c0 c1 x0 x1 H G1 h0 n0) v U'.heap L ∧ FrameEnd U o U' L ({ frames := 4, cells := 3, slots := 8, locals := 66 } : Room).cells ({ frames := 4, cells := 3, slots := 8, locals := 66 } : Room).slots) := by
  refine MetFree.of_bodySF (plainFor_of_name own_pn18) hisR ?_
  intro p e s m args below meth c s₁ Bd hml0 hP hK
  obtain ⟨rfl, hZ, hh⟩ := hP
  have hx := Bd.exec
  have hby := Bd.bytes
  have hml : c.maxLocals = 4 := hml0
  have hown : s.vm.findClass "com/example/commitwright/commitwright/core/BranchHashCodePinLaw" = some m.cls := findClass_of_methodNamed Bd.named
  have hnm := (name_of_methodNamed Bd.named Bd.method).1
  have X0 : Stand p l e ({ frames := 4, cells := 3, slots := 8, locals := 66 } : Room) s m #[(.int (1 : Int32)), (.int c0), (.int c1)] below meth c s₁ [] 0 0 := Stand.of_body Bd
  have e0 : s₁.heap = h0 := by rw [← hh, Bd.state]; rfl
  have N0 := Fr.nil n0
  refine Out.start (Q := own_QNM2 Z c0 c1 x0 x1 H G1 h0 n0) (own_efNM2 m (1 : Int32) c0 c1 ) ?_
  subst hx0 hx1
  have Kp := Keep.refl h0 []
  refine Out.via (g' := (mkF m 1 #[vI 1, vI c0, vI c1, vU] [(.int (1 : Int32))])) (fun _ k => XS.iloadN X0.here hx rfl (hb hby own_d14_0) rfl k) ?_
  refine Out.via (g' := (mkF m 4 #[vI 1, vI c0, vI c1, vU] [])) (fun _ k => XS.ifNo X0.here hx rfl (hb hby own_d14_1) rfl ((if0 _ _).trans (feq (by decide)).1) k) ?_
  refine Out.via (g' := (mkF m 5 #[vI 1, vI c0, vI c1, vU] [(.int (2 : Int32))])) (fun _ k => XS.iconst X0.here hx rfl (hb hby own_d14_4) k) ?_
  obtain ⟨T1, h1, kA1, X1, e1, E1, A1, st1⟩ := newP X0 hx hZ (W_ hw 4 rfl) e0 (g := (mkF m 5 #[vI 1, vI c0, vI c1, vU] [(.int (2 : Int32))])) rfl (hb hby own_d14_5) rfl (by decide) (cap := 2) (by decide) (by decide) (by decide) (by decide)
  obtain ⟨cs, gq1⟩ : ∃ z, z = h0.size := ⟨_, rfl⟩
  rw [← gq1] at A1 st1
  have g_cs : n0 ≤ cs := Nat.le_trans (own_z0 O) (Nat.le_of_eq gq1.symm)
  have sz_cs : h0.size ≤ cs := Nat.le_trans Kp.1 (Nat.le_of_eq gq1.symm)
  replace O := O.ext E1
  replace Kp := Kp.ext E1
  have V_cs : Arv Z h1 cs kA1 .char (2 : Int32) [(.int (0 : Int32)), (.int (0 : Int32))] (.int (0 : Int32)) := (Arv.new A1 (by decide)).pad (pad_rep [] (.int (0 : Int32)) 2)
  refine Out.via (g' := (mkF m 7 #[vI 1, vI c0, vI c1, vU] [(.ref cs)])) st1 ?_
  refine Out.via (g' := (mkF m 8 #[vI 1, vI c0, vI c1, vR cs] [])) (fun _ k => XS.astoreN X1.here hx rfl (hb hby own_d14_7) rfl rfl (l' := #[.val (.int (1 : Int32)), .val (.int c0), .val (.int c1), .val (.ref cs)]) rfl k) ?_
  refine Out.via (g' := (mkF m 9 #[vI 1, vI c0, vI c1, vR cs] [(.ref cs)])) (fun _ k => XS.aloadN X1.here hx rfl (hb hby own_d14_8) rfl rfl k) ?_
  refine Out.via (g' := (mkF m 10 #[vI 1, vI c0, vI c1, vR cs] [(.int (0 : Int32)), (.ref cs)])) (fun _ k => XS.iconst X1.here hx rfl (hb hby own_d14_9) k) ?_
  refine Out.via (g' := (mkF m 11 #[vI 1, vI c0, vI c1, vR cs] [(.int c0), (.int (0 : Int32)), (.ref cs)])) (fun _ k => XS.iloadN X1.here hx rfl (hb hby own_d14_10) rfl k) ?_
  obtain ⟨clz2, Arz2, qz2, Sz2, Mz2, Hz2, Gz2⟩ := V_cs
  have hin2 : ¬ ((0 : Int32) < 0 ∨ clz2.slots.size ≤ ((0 : Int32)).toNatClampNeg) := inb_of Sz2 ⟨by decide, by decide⟩
  obtain ⟨T2, h2, X2, e2, W2, st2⟩ := stC X1 hx hZ e1 Arz2 (j := (0 : Int32)) hin2 (g := (mkF m 11 #[vI 1, vI c0, vI c1, vR cs] [(.int c0), (.int (0 : Int32)), (.ref cs)])) rfl rfl (hb hby own_d14_11)
  have V_cs : Arv Z h2 cs kA1 .char (2 : Int32) [(.int (nar .char c0)), (.int (0 : Int32))] (.int (0 : Int32)) := Arv.set Arz2 qz2 Sz2 Mz2 Hz2 Gz2 (fits_nar_char _) W2 0 rfl (Nat.le_of_ble_eq_true rfl)
  replace O := O.wr W2 g_cs
  replace Kp := Kp.wr W2 (Or.inr sz_cs)
  replace N0 := Fr.snoc X2 N0 g_cs
  refine Out.via (g' := (mkF m 12 #[vI 1, vI c0, vI c1, vR cs] [])) st2 ?_
  refine Out.via (g' := (mkF m 13 #[vI 1, vI c0, vI c1, vR cs] [(.ref cs)])) (fun _ k => XS.aloadN X2.here hx rfl (hb hby own_d14_12) rfl rfl k) ?_
  refine Out.via (g' := (mkF m 14 #[vI 1, vI c0, vI c1, vR cs] [(.int (1 : Int32)), (.ref cs)])) (fun _ k => XS.iconst X2.here hx rfl (hb hby own_d14_13) k) ?_
  refine Out.via (g' := (mkF m 15 #[vI 1, vI c0, vI c1, vR cs] [(.int c1), (.int (1 : Int32)), (.ref cs)])) (fun _ k => XS.iloadN X2.here hx rfl (hb hby own_d14_14) rfl k) ?_
  obtain ⟨clz3, Arz3, qz3, Sz3, Mz3, Hz3, Gz3⟩ := V_cs
  have hin3 : ¬ ((1 : Int32) < 0 ∨ clz3.slots.size ≤ ((1 : Int32)).toNatClampNeg) := inb_of Sz3 ⟨by decide, by decide⟩
  obtain ⟨T3, h3, X3, e3, W3, st3⟩ := stC X2 hx hZ e2 Arz3 (j := (1 : Int32)) hin3 (g := (mkF m 15 #[vI 1, vI c0, vI c1, vR cs] [(.int c1), (.int (1 : Int32)), (.ref cs)])) rfl rfl (hb hby own_d14_15)
  have V_cs : Arv Z h3 cs kA1 .char (2 : Int32) [(.int (nar .char c0)), (.int (nar .char c1))] (.int (0 : Int32)) := Arv.set Arz3 qz3 Sz3 Mz3 Hz3 Gz3 (fits_nar_char _) W3 1 rfl (Nat.le_of_ble_eq_true rfl)
  replace O := O.wr W3 g_cs
  replace Kp := Kp.wr W3 (Or.inr sz_cs)
  replace N0 := Fr.snoc X3 N0 g_cs
  refine Out.via (g' := (mkF m 16 #[vI 1, vI c0, vI c1, vR cs] [])) st3 ?_
  rw [own_lat_nar hc0, own_lat_nar hc1] at V_cs
  obtain ⟨T4, h4, X4, e4, E4, A4, D4, -, st4⟩ := newO X3 hx hZ hown (W_ hw 5 rfl) (W_ hw 6 rfl) (W_ hw 7 rfl) e3 (g := (mkF m 16 #[vI 1, vI c0, vI c1, vR cs] [])) rfl (hb hby own_d14_16) (by decide) (by decide)
  obtain ⟨x, gq4⟩ : ∃ z, z = h3.size := ⟨_, rfl⟩
  rw [← gq4] at A4 D4 st4
  have ne_cs_x : cs ≠ x := Nat.ne_of_lt (Nat.lt_of_lt_of_le V_cs.lt (Nat.le_of_eq gq4.symm))
  have g_x : n0 ≤ x := Nat.le_trans (own_z0 O) (Nat.le_of_eq gq4.symm)
  have sz_x : h0.size ≤ x := Nat.le_trans Kp.1 (Nat.le_of_eq gq4.symm)
  replace V_cs := V_cs.ext E4
  replace O := O.ext E4
  replace Kp := Kp.ext E4
  have F_coder_x : Fld Z h4 x "java/lang/String" "coder" "B" (.int (0 : Int32)) := D4 (Or.inr (W_ hw 31 rfl)) (ty := .byte) (by decide)
  have F_value_x : Fld Z h4 x "java/lang/String" "value" "[B" .null := D4 (Or.inr (W_ hw 33 rfl)) (ty := (.array .byte)) (by decide)
  have F_hash_x : Fld Z h4 x "java/lang/String" "hash" "I" (.int (0 : Int32)) := D4 (Or.inl (W_ hw 114 rfl)) (ty := .int) (by decide)
  have F_hashIsZero_x : Fld Z h4 x "java/lang/String" "hashIsZero" "Z" (.int (0 : Int32)) := D4 (Or.inl (W_ hw 116 rfl)) (ty := .boolean) (by decide)
  refine Out.via (g' := (mkF m 19 #[vI 1, vI c0, vI c1, vR cs] [(.ref x)])) st4 ?_
  refine Out.via (g' := (mkF m 20 #[vI 1, vI c0, vI c1, vR cs] [(.ref x), (.ref x)])) (fun _ k => XS.dup X4.here hx rfl (hb hby own_d14_19) rfl rfl k) ?_
  refine Out.via (g' := (mkF m 21 #[vI 1, vI c0, vI c1, vR cs] [(.ref cs), (.ref x), (.ref x)])) (fun _ k => XS.aloadN X4.here hx rfl (hb hby own_d14_20) rfl rfl k) ?_
  obtain ⟨_, _, ⟨T5, L5, kc5, ks5⟩, -, X5, ⟨Lc5, hQ5, l5, y5, z5⟩, st5⟩ := X4.specialBack hx (y := own_y15) rfl hown (mvT hZ (W_ hw 8 rfl)) (mvT hZ (W_ hw 9 rfl)) (mvT hZ (W_ hw 10 rfl)) (by decide) (own_newS (W := 1) (H := H) (n0 := n0) (bs := [c0.toInt8.toInt32, c1.toInt8.toInt32]) (cs := [c0, c1]) (n := 2) hZ hw (W_ hw 6 rfl) g_x (own_z0 O) A4 F_value_x F_coder_x F_hash_x F_hashIsZero_x (slot_ne (Or.inl (W_ hw 114 rfl)) (Or.inr (W_ hw 33 rfl)) (by decide) (t := .int) (t' := (.array .byte)) (by decide) (by decide)) (slot_ne (Or.inl (W_ hw 114 rfl)) (Or.inr (W_ hw 31 rfl)) (by decide) (t := .int) (t' := .byte) (by decide) (by decide)) (slot_ne (Or.inl (W_ hw 116 rfl)) (Or.inr (W_ hw 33 rfl)) (by decide) (t := .boolean) (t' := (.array .byte)) (by decide) (by decide)) (slot_ne (Or.inl (W_ hw 116 rfl)) (Or.inr (W_ hw 31 rfl)) (by decide) (t := .boolean) (t' := .byte) (by decide) (by decide)) V_cs (O2.ext O.2) P5 rfl rfl (by decide) (by decide) (own_allS hc0 (own_allS hc1 own_all0)) rfl (by decide) (by decide)) (g := (mkF m 21 #[vI 1, vI c0, vI c1, vR cs] [(.ref cs), (.ref x), (.ref x)])) rfl (by rw [hml]; rfl) (Steps.refl _) (a := x) (argsL := [(.ref cs)]) (rest := [(.ref x)]) (lenOf own_pd19 rfl) rfl (by show 2 * 0 + _ ≤ _; exact Nat.le_of_eq rfl) (hb hby own_d14_21) (fun _ _ => ⟨rfl, e4, (by decide : 2 + 1 ≤ _), (by decide : 6 + 2 ≤ _)⟩)
  dsimp only [Pt.U, Pt.locs, Pt.cells, Pt.slots] at X5 l5 y5 z5 st5 hQ5
  subst l5 y5 z5
  obtain ⟨rfl, Nq5, Kq5, t, kb, g_t, sz_t, Sx, At, Et⟩ := hQ5
  replace sz_t : h0.size ≤ t := Nat.le_trans Kp.1 sz_t
  replace N0 := Fr.app N0 Nq5
  replace Kp := Kp.trans Kq5 (allS (Or.inr sz_x) all0)
  refine Out.to (g' := (mkF m 24 #[vI 1, vI c0, vI c1, vR cs] [(.ref x)])) st5 ?_
  exact Out.endN X5 (fun h => by rw [Bd.returns] at h; cases h) Bd.notSynchronized (by decide) (by decide) (⟨x, t, kb, rfl, N0, Kp, sz_x, g_x, sz_t, Sx, At, Et⟩) (fun fs hr => own_retR X5 hx (t := (.object "java/lang/String")) Bd.returns rfl rfl rfl (hb hby own_d14_24) hr)
def own_H1 (x0 x1 : Int32) : Int32 := x0 &&& (255 : Int32)
def own_H2 (x0 x1 : Int32) : Int32 := (31 : Int32) * ((31 : Int32) * (0 : Int32) + (x0 &&& (255 : Int32))) + (x1 &&& (255 : Int32))
def own_K0 (k0 k1 : Int32) : Int32 := 1
def own_K1 (k0 k1 : Int32) : Int32 := (31 : Int32) + k0
def own_K2 (k0 k1 : Int32) : Int32 := (31 : Int32) * ((31 : Int32) * (1 : Int32) + k0) + k1
theorem own_pn20 : plainName "jdk/internal/util/ArraysSupport" = true := by first | (simp [plainName, overriddenIn]; done) | decide +kernel
theorem own_d15_0 : decode jdk_48_method_5_code 0 = .ok (.iload_n 2, 1) := by decide +kernel
theorem own_d15_1 : decode jdk_48_method_5_code 1 = .ok (.iload_n 3, 1) := by decide +kernel
theorem own_d15_2 : decode jdk_48_method_5_code 2 = .ok (.iadd, 1) := by decide +kernel
theorem own_d15_3 : decode jdk_48_method_5_code 3 = .ok (.istore 4, 2) := by decide +kernel
theorem own_d15_5 : decode jdk_48_method_5_code 5 = .ok (.iload_n 2, 1) := by decide +kernel
theorem own_d15_6 : decode jdk_48_method_5_code 6 = .ok (.istore 5, 2) := by decide +kernel
theorem own_d15_8 : decode jdk_48_method_5_code 8 = .ok (.iload 5, 2) := by decide +kernel
theorem own_d15_10 : decode jdk_48_method_5_code 10 = .ok (.iload 4, 2) := by decide +kernel
theorem own_d15_12 : decode jdk_48_method_5_code 12 = .ok (.if_icmp .ge 23, 3) := by decide +kernel
theorem own_d15_15 : decode jdk_48_method_5_code 15 = .ok (.bipush 31, 2) := by decide +kernel
theorem own_d15_17 : decode jdk_48_method_5_code 17 = .ok (.iload_n 0, 1) := by decide +kernel
theorem own_d15_18 : decode jdk_48_method_5_code 18 = .ok (.imul, 1) := by decide +kernel
theorem own_d15_19 : decode jdk_48_method_5_code 19 = .ok (.aload_n 1, 1) := by decide +kernel
theorem own_d15_20 : decode jdk_48_method_5_code 20 = .ok (.iload 5, 2) := by decide +kernel
theorem own_d15_22 : decode jdk_48_method_5_code 22 = .ok (.baload, 1) := by decide +kernel
theorem own_d15_23 : decode jdk_48_method_5_code 23 = .ok (.sipush 255, 3) := by decide +kernel
theorem own_d15_26 : decode jdk_48_method_5_code 26 = .ok (.iand, 1) := by decide +kernel
theorem own_d15_27 : decode jdk_48_method_5_code 27 = .ok (.iadd, 1) := by decide +kernel
theorem own_d15_28 : decode jdk_48_method_5_code 28 = .ok (.istore_n 0, 1) := by decide +kernel
theorem own_d15_29 : decode jdk_48_method_5_code 29 = .ok (.iinc 5 1, 3) := by decide +kernel
theorem own_d15_32 : decode jdk_48_method_5_code 32 = .ok (.goto (-24), 3) := by decide +kernel
theorem own_d15_35 : decode jdk_48_method_5_code 35 = .ok (.iload_n 0, 1) := by decide +kernel
theorem own_d15_36 : decode jdk_48_method_5_code 36 = .ok (.ireturn, 1) := by decide +kernel
theorem own_efSG (m : MethodId) (x0 : Int32) (x1 : Addr) (x2 : Int32) (x3 : Int32) : entryFrame m #[(.int x0), (.ref x1), (.int x2), (.int x3)] 6 = mkF m 0 #[.val (.int x0), .val (.ref x1), .val (.int x2), .val (.int x3), .unset, .unset] [] := by first | (simp [entryFrame, mkF, argsToLocals, Value.category]; done) | rfl
abbrev own_QSG (Z : State) (b : Addr) (kb : ClassId) (x0 x1 : Int32) (h0 : Heap) (n0 : Nat) : Option Value → Heap → List Loc → Prop := fun v h L => v = some (.int (own_H2 x0 x1)) ∧ Fr n0 L ∧ h = h0
set_option maxRecDepth 65536 in
set_option maxHeartbeats 40000000 in
theorem own_rmSG (l : Launch) (Z : State) (a0 : Array Value) (hw : ∀ d ∈ tables_1, d.before a0 Z = true) (ws : List Jvm.Cond) (b : Addr) (kb : ClassId) (x0 x1 : Int32) (h0 : Heap) (n0 : Nat) (O : Old Z n0 h0) (Ab : Arv Z h0 b kb .byte (2 : Int32) [(.int x0), (.int x1)] (.int (0 : Int32))) :
    MetFree l own_y17 (head1 (Jvm.Cond.code own_y17 jdk_48_method_5_code 6 (some .int) :: ws) ({ frames := 0, cells := 0, slots := 0, locals := 0 } : Room)) (fun aa U => aa = #[(.int (0 : Int32)), (.ref b), (.int (0 : Int32)), (.int (2 : Int32))] ∧ Z.Warmed39 U.vm ∧ U.heap = h0) (fun _ _ _ _ _ => True) (fun _ U o U' => ∃ v L, o = .returned v ∧ (own_QSG Z b kb x0 x1 h0 n0) v U'.heap L ∧ FrameEnd U o U' L ({ frames := 0, cells := 0, slots := 0, locals := 0 } : Room).cells ({ frames := 0, cells := 0, slots := 0, locals := 0 } : Room).slots) := by
  refine MetFree.of_bodySF (plainFor_of_name own_pn20) hisR ?_
  intro p e s m args below meth c s₁ Bd hml0 hP hK
  obtain ⟨rfl, hZ, hh⟩ := hP
  have hx := Bd.exec
  have hby := Bd.bytes
  have hml : c.maxLocals = 6 := hml0
  have hown : s.vm.findClass "jdk/internal/util/ArraysSupport" = some m.cls := findClass_of_methodNamed Bd.named
  have hnm := (name_of_methodNamed Bd.named Bd.method).1
  have X0 : Stand p l e ({ frames := 0, cells := 0, slots := 0, locals := 0 } : Room) s m #[(.int (0 : Int32)), (.ref b), (.int (0 : Int32)), (.int (2 : Int32))] below meth c s₁ [] 0 0 := Stand.of_body Bd
  have e0 : s₁.heap = h0 := by rw [← hh, Bd.state]; rfl
  have N0 := Fr.nil n0
  refine Out.start (Q := own_QSG Z b kb x0 x1 h0 n0) (own_efSG m (0 : Int32) b (0 : Int32) (2 : Int32) ) ?_
  refine Out.via (g' := (mkF m 1 #[vI 0, vR b, vI 0, vI 2, vU, vU] [(.int (0 : Int32))])) (fun _ k => XS.iloadN X0.here hx rfl (hb hby own_d15_0) rfl k) ?_
  refine Out.via (g' := (mkF m 2 #[vI 0, vR b, vI 0, vI 2, vU, vU] [(.int (2 : Int32)), (.int (0 : Int32))])) (fun _ k => XS.iloadN X0.here hx rfl (hb hby own_d15_1) rfl k) ?_
  refine Out.via (g' := (mkF m 3 #[vI 0, vR b, vI 0, vI 2, vU, vU] [(.int ((0 : Int32) + (2 : Int32)))])) (fun _ k => XS.iadd X0.here hx rfl (hb hby own_d15_2) rfl k) ?_
  refine Out.via (g' := (mkF m 5 #[vI 0, vR b, vI 0, vI 2, .val (.int ((0 : Int32) + (2 : Int32))), vU] [])) (fun _ k => XS.istore X0.here hx rfl (hb hby own_d15_3) rfl (l' := #[.val (.int (0 : Int32)), .val (.ref b), .val (.int (0 : Int32)), .val (.int (2 : Int32)), .val (.int ((0 : Int32) + (2 : Int32))), .unset]) rfl k) ?_
  refine Out.via (g' := (mkF m 6 #[vI 0, vR b, vI 0, vI 2, .val (.int ((0 : Int32) + (2 : Int32))), vU] [(.int (0 : Int32))])) (fun _ k => XS.iloadN X0.here hx rfl (hb hby own_d15_5) rfl k) ?_
  refine Out.via (g' := (mkF m 8 #[vI 0, vR b, vI 0, vI 2, .val (.int ((0 : Int32) + (2 : Int32))), vI 0] [])) (fun _ k => XS.istore X0.here hx rfl (hb hby own_d15_6) rfl (l' := #[.val (.int (0 : Int32)), .val (.ref b), .val (.int (0 : Int32)), .val (.int (2 : Int32)), .val (.int ((0 : Int32) + (2 : Int32))), .val (.int (0 : Int32))]) rfl k) ?_
  refine Out.via (g' := (mkF m 10 #[vI 0, vR b, vI 0, vI 2, .val (.int ((0 : Int32) + (2 : Int32))), vI 0] [(.int (0 : Int32))])) (fun _ k => XS.iload X0.here hx rfl (hb hby own_d15_8) rfl k) ?_
  refine Out.via (g' := (mkF m 12 #[vI 0, vR b, vI 0, vI 2, .val (.int ((0 : Int32) + (2 : Int32))), vI 0] [(.int ((0 : Int32) + (2 : Int32))), (.int (0 : Int32))])) (fun _ k => XS.iload X0.here hx rfl (hb hby own_d15_10) rfl k) ?_
  refine Out.via (g' := (mkF m 15 #[vI 0, vR b, vI 0, vI 2, .val (.int ((0 : Int32) + (2 : Int32))), vI 0] [])) (fun _ k => XS.icmpNo X0.here hx rfl (hb hby own_d15_12) rfl (tlt (by decide)).2.1 k) ?_
  refine Out.via (g' := (mkF m 17 #[vI 0, vR b, vI 0, vI 2, .val (.int ((0 : Int32) + (2 : Int32))), vI 0] [(.int (31 : Int32))])) (fun _ k => XS.bipush X0.here hx rfl (hb hby own_d15_15) k) ?_
  refine Out.via (g' := (mkF m 18 #[vI 0, vR b, vI 0, vI 2, .val (.int ((0 : Int32) + (2 : Int32))), vI 0] [(.int (0 : Int32)), (.int (31 : Int32))])) (fun _ k => XS.iloadN X0.here hx rfl (hb hby own_d15_17) rfl k) ?_
  refine Out.via (g' := (mkF m 19 #[vI 0, vR b, vI 0, vI 2, .val (.int ((0 : Int32) + (2 : Int32))), vI 0] [(.int ((31 : Int32) * (0 : Int32)))])) (fun _ k => XS.imul X0.here hx rfl (hb hby own_d15_18) rfl k) ?_
  refine Out.via (g' := (mkF m 20 #[vI 0, vR b, vI 0, vI 2, .val (.int ((0 : Int32) + (2 : Int32))), vI 0] [(.ref b), (.int ((31 : Int32) * (0 : Int32)))])) (fun _ k => XS.aloadN X0.here hx rfl (hb hby own_d15_19) rfl rfl k) ?_
  refine Out.via (g' := (mkF m 22 #[vI 0, vR b, vI 0, vI 2, .val (.int ((0 : Int32) + (2 : Int32))), vI 0] [(.int (0 : Int32)), (.ref b), (.int ((31 : Int32) * (0 : Int32)))])) (fun _ k => XS.iload X0.here hx rfl (hb hby own_d15_20) rfl k) ?_
  obtain ⟨cl_e0, Ar_e0, q_e0, S_e0, M_e0, H_e0, G_e0⟩ := id Ab
  have hin_e0 : ¬ ((0 : Int32) < 0 ∨ cl_e0.slots.size ≤ ((0 : Int32)).toNatClampNeg) := inb_of S_e0 ⟨by decide, by decide⟩
  refine Out.via (g' := (mkF m 23 #[vI 0, vR b, vI 0, vI 2, .val (.int ((0 : Int32) + (2 : Int32))), vI 0] [(.int x0), (.int ((31 : Int32) * (0 : Int32)))])) (fun _ k => X0.baloadBytes hx (j := (0 : Int32)) (v := (.int x0)) (by rw [e0]; exact Ar_e0.1) (State.isArrayOf_alike hZ.alike Ar_e0.2.1) Ar_e0.2.2 hin_e0 (H_e0.at hin_e0 rfl) (g := (mkF m 22 #[vI 0, vR b, vI 0, vI 2, .val (.int ((0 : Int32) + (2 : Int32))), vI 0] [(.int (0 : Int32)), (.ref b), (.int ((31 : Int32) * (0 : Int32)))])) rfl rfl (hb hby own_d15_22) _ k) ?_
  refine Out.via (g' := (mkF m 26 #[vI 0, vR b, vI 0, vI 2, .val (.int ((0 : Int32) + (2 : Int32))), vI 0] [(.int (255 : Int32)), (.int x0), (.int ((31 : Int32) * (0 : Int32)))])) (fun _ k => XS.sipush X0.here hx rfl (hb hby own_d15_23) k) ?_
  refine Out.via (g' := (mkF m 27 #[vI 0, vR b, vI 0, vI 2, .val (.int ((0 : Int32) + (2 : Int32))), vI 0] [(.int (x0 &&& (255 : Int32))), (.int ((31 : Int32) * (0 : Int32)))])) (fun _ k => XS.iand X0.here hx rfl (hb hby own_d15_26) rfl k) ?_
  refine Out.via (g' := (mkF m 28 #[vI 0, vR b, vI 0, vI 2, .val (.int ((0 : Int32) + (2 : Int32))), vI 0] [(.int (((31 : Int32) * (0 : Int32)) + (x0 &&& (255 : Int32))))])) (fun _ k => XS.iadd X0.here hx rfl (hb hby own_d15_27) rfl k) ?_
  refine Out.via (g' := (mkF m 29 #[.val (.int (((31 : Int32) * (0 : Int32)) + (x0 &&& (255 : Int32)))), vR b, vI 0, vI 2, .val (.int ((0 : Int32) + (2 : Int32))), vI 0] [])) (fun _ k => XS.istoreN X0.here hx rfl (hb hby own_d15_28) rfl (l' := #[.val (.int (((31 : Int32) * (0 : Int32)) + (x0 &&& (255 : Int32)))), .val (.ref b), .val (.int (0 : Int32)), .val (.int (2 : Int32)), .val (.int ((0 : Int32) + (2 : Int32))), .val (.int (0 : Int32))]) rfl k) ?_
  refine Out.via (g' := (mkF m 32 #[.val (.int (((31 : Int32) * (0 : Int32)) + (x0 &&& (255 : Int32)))), vR b, vI 0, vI 2, .val (.int ((0 : Int32) + (2 : Int32))), .val (.int ((0 : Int32) + (1 : Int32)))] [])) (fun _ k => XS.iinc X0.here hx rfl (hb hby own_d15_29) rfl (l' := #[.val (.int (((31 : Int32) * (0 : Int32)) + (x0 &&& (255 : Int32)))), .val (.ref b), .val (.int (0 : Int32)), .val (.int (2 : Int32)), .val (.int ((0 : Int32) + (2 : Int32))), .val (.int ((0 : Int32) + (1 : Int32)))]) rfl k) ?_
  refine Out.via (g' := (mkF m 8 #[.val (.int (((31 : Int32) * (0 : Int32)) + (x0 &&& (255 : Int32)))), vR b, vI 0, vI 2, .val (.int ((0 : Int32) + (2 : Int32))), .val (.int ((0 : Int32) + (1 : Int32)))] [])) (fun _ k => XS.goto X0.here hx rfl (pc0 := 32) (pc' := 8) rfl (hb hby own_d15_32) (by decide) (by decide) k) ?_
  refine Out.via (g' := (mkF m 10 #[.val (.int (((31 : Int32) * (0 : Int32)) + (x0 &&& (255 : Int32)))), vR b, vI 0, vI 2, .val (.int ((0 : Int32) + (2 : Int32))), .val (.int ((0 : Int32) + (1 : Int32)))] [(.int ((0 : Int32) + (1 : Int32)))])) (fun _ k => XS.iload X0.here hx rfl (hb hby own_d15_8) rfl k) ?_
  refine Out.via (g' := (mkF m 12 #[.val (.int (((31 : Int32) * (0 : Int32)) + (x0 &&& (255 : Int32)))), vR b, vI 0, vI 2, .val (.int ((0 : Int32) + (2 : Int32))), .val (.int ((0 : Int32) + (1 : Int32)))] [(.int ((0 : Int32) + (2 : Int32))), (.int ((0 : Int32) + (1 : Int32)))])) (fun _ k => XS.iload X0.here hx rfl (hb hby own_d15_10) rfl k) ?_
  refine Out.via (g' := (mkF m 15 #[.val (.int (((31 : Int32) * (0 : Int32)) + (x0 &&& (255 : Int32)))), vR b, vI 0, vI 2, .val (.int ((0 : Int32) + (2 : Int32))), .val (.int ((0 : Int32) + (1 : Int32)))] [])) (fun _ k => XS.icmpNo X0.here hx rfl (hb hby own_d15_12) rfl (tlt (by decide)).2.1 k) ?_
  refine Out.via (g' := (mkF m 17 #[.val (.int (((31 : Int32) * (0 : Int32)) + (x0 &&& (255 : Int32)))), vR b, vI 0, vI 2, .val (.int ((0 : Int32) + (2 : Int32))), .val (.int ((0 : Int32) + (1 : Int32)))] [(.int (31 : Int32))])) (fun _ k => XS.bipush X0.here hx rfl (hb hby own_d15_15) k) ?_
  refine Out.via (g' := (mkF m 18 #[.val (.int (((31 : Int32) * (0 : Int32)) + (x0 &&& (255 : Int32)))), vR b, vI 0, vI 2, .val (.int ((0 : Int32) + (2 : Int32))), .val (.int ((0 : Int32) + (1 : Int32)))] [(.int (((31 : Int32) * (0 : Int32)) + (x0 &&& (255 : Int32)))), (.int (31 : Int32))])) (fun _ k => XS.iloadN X0.here hx rfl (hb hby own_d15_17) rfl k) ?_
  refine Out.via (g' := (mkF m 19 #[.val (.int (((31 : Int32) * (0 : Int32)) + (x0 &&& (255 : Int32)))), vR b, vI 0, vI 2, .val (.int ((0 : Int32) + (2 : Int32))), .val (.int ((0 : Int32) + (1 : Int32)))] [(.int ((31 : Int32) * (((31 : Int32) * (0 : Int32)) + (x0 &&& (255 : Int32)))))])) (fun _ k => XS.imul X0.here hx rfl (hb hby own_d15_18) rfl k) ?_
  refine Out.via (g' := (mkF m 20 #[.val (.int (((31 : Int32) * (0 : Int32)) + (x0 &&& (255 : Int32)))), vR b, vI 0, vI 2, .val (.int ((0 : Int32) + (2 : Int32))), .val (.int ((0 : Int32) + (1 : Int32)))] [(.ref b), (.int ((31 : Int32) * (((31 : Int32) * (0 : Int32)) + (x0 &&& (255 : Int32)))))])) (fun _ k => XS.aloadN X0.here hx rfl (hb hby own_d15_19) rfl rfl k) ?_
  refine Out.via (g' := (mkF m 22 #[.val (.int (((31 : Int32) * (0 : Int32)) + (x0 &&& (255 : Int32)))), vR b, vI 0, vI 2, .val (.int ((0 : Int32) + (2 : Int32))), .val (.int ((0 : Int32) + (1 : Int32)))] [(.int ((0 : Int32) + (1 : Int32))), (.ref b), (.int ((31 : Int32) * (((31 : Int32) * (0 : Int32)) + (x0 &&& (255 : Int32)))))])) (fun _ k => XS.iload X0.here hx rfl (hb hby own_d15_20) rfl k) ?_
  obtain ⟨cl_e1, Ar_e1, q_e1, S_e1, M_e1, H_e1, G_e1⟩ := id Ab
  have hin_e1 : ¬ (((0 : Int32) + (1 : Int32)) < 0 ∨ cl_e1.slots.size ≤ (((0 : Int32) + (1 : Int32))).toNatClampNeg) := inb_of S_e1 ⟨by decide, by decide⟩
  refine Out.via (g' := (mkF m 23 #[.val (.int (((31 : Int32) * (0 : Int32)) + (x0 &&& (255 : Int32)))), vR b, vI 0, vI 2, .val (.int ((0 : Int32) + (2 : Int32))), .val (.int ((0 : Int32) + (1 : Int32)))] [(.int x1), (.int ((31 : Int32) * (((31 : Int32) * (0 : Int32)) + (x0 &&& (255 : Int32)))))])) (fun _ k => X0.baloadBytes hx (j := ((0 : Int32) + (1 : Int32))) (v := (.int x1)) (by rw [e0]; exact Ar_e1.1) (State.isArrayOf_alike hZ.alike Ar_e1.2.1) Ar_e1.2.2 hin_e1 (H_e1.at hin_e1 rfl) (g := (mkF m 22 #[.val (.int (((31 : Int32) * (0 : Int32)) + (x0 &&& (255 : Int32)))), vR b, vI 0, vI 2, .val (.int ((0 : Int32) + (2 : Int32))), .val (.int ((0 : Int32) + (1 : Int32)))] [(.int ((0 : Int32) + (1 : Int32))), (.ref b), (.int ((31 : Int32) * (((31 : Int32) * (0 : Int32)) + (x0 &&& (255 : Int32)))))])) rfl rfl (hb hby own_d15_22) _ k) ?_
  refine Out.via (g' := (mkF m 26 #[.val (.int (((31 : Int32) * (0 : Int32)) + (x0 &&& (255 : Int32)))), vR b, vI 0, vI 2, .val (.int ((0 : Int32) + (2 : Int32))), .val (.int ((0 : Int32) + (1 : Int32)))] [(.int (255 : Int32)), (.int x1), (.int ((31 : Int32) * (((31 : Int32) * (0 : Int32)) + (x0 &&& (255 : Int32)))))])) (fun _ k => XS.sipush X0.here hx rfl (hb hby own_d15_23) k) ?_
  refine Out.via (g' := (mkF m 27 #[.val (.int (((31 : Int32) * (0 : Int32)) + (x0 &&& (255 : Int32)))), vR b, vI 0, vI 2, .val (.int ((0 : Int32) + (2 : Int32))), .val (.int ((0 : Int32) + (1 : Int32)))] [(.int (x1 &&& (255 : Int32))), (.int ((31 : Int32) * (((31 : Int32) * (0 : Int32)) + (x0 &&& (255 : Int32)))))])) (fun _ k => XS.iand X0.here hx rfl (hb hby own_d15_26) rfl k) ?_
  refine Out.via (g' := (mkF m 28 #[.val (.int (((31 : Int32) * (0 : Int32)) + (x0 &&& (255 : Int32)))), vR b, vI 0, vI 2, .val (.int ((0 : Int32) + (2 : Int32))), .val (.int ((0 : Int32) + (1 : Int32)))] [(.int (((31 : Int32) * (((31 : Int32) * (0 : Int32)) + (x0 &&& (255 : Int32)))) + (x1 &&& (255 : Int32))))])) (fun _ k => XS.iadd X0.here hx rfl (hb hby own_d15_27) rfl k) ?_
  refine Out.via (g' := (mkF m 29 #[.val (.int (((31 : Int32) * (((31 : Int32) * (0 : Int32)) + (x0 &&& (255 : Int32)))) + (x1 &&& (255 : Int32)))), vR b, vI 0, vI 2, .val (.int ((0 : Int32) + (2 : Int32))), .val (.int ((0 : Int32) + (1 : Int32)))] [])) (fun _ k => XS.istoreN X0.here hx rfl (hb hby own_d15_28) rfl (l' := #[.val (.int (((31 : Int32) * (((31 : Int32) * (0 : Int32)) + (x0 &&& (255 : Int32)))) + (x1 &&& (255 : Int32)))), .val (.ref b), .val (.int (0 : Int32)), .val (.int (2 : Int32)), .val (.int ((0 : Int32) + (2 : Int32))), .val (.int ((0 : Int32) + (1 : Int32)))]) rfl k) ?_
  refine Out.via (g' := (mkF m 32 #[.val (.int (((31 : Int32) * (((31 : Int32) * (0 : Int32)) + (x0 &&& (255 : Int32)))) + (x1 &&& (255 : Int32)))), vR b, vI 0, vI 2, .val (.int ((0 : Int32) + (2 : Int32))), .val (.int (((0 : Int32) + (1 : Int32)) + (1 : Int32)))] [])) (fun _ k => XS.iinc X0.here hx rfl (hb hby own_d15_29) rfl (l' := #[.val (.int (((31 : Int32) * (((31 : Int32) * (0 : Int32)) + (x0 &&& (255 : Int32)))) + (x1 &&& (255 : Int32)))), .val (.ref b), .val (.int (0 : Int32)), .val (.int (2 : Int32)), .val (.int ((0 : Int32) + (2 : Int32))), .val (.int (((0 : Int32) + (1 : Int32)) + (1 : Int32)))]) rfl k) ?_
  refine Out.via (g' := (mkF m 8 #[.val (.int (((31 : Int32) * (((31 : Int32) * (0 : Int32)) + (x0 &&& (255 : Int32)))) + (x1 &&& (255 : Int32)))), vR b, vI 0, vI 2, .val (.int ((0 : Int32) + (2 : Int32))), .val (.int (((0 : Int32) + (1 : Int32)) + (1 : Int32)))] [])) (fun _ k => XS.goto X0.here hx rfl (pc0 := 32) (pc' := 8) rfl (hb hby own_d15_32) (by decide) (by decide) k) ?_
  refine Out.via (g' := (mkF m 10 #[.val (.int (((31 : Int32) * (((31 : Int32) * (0 : Int32)) + (x0 &&& (255 : Int32)))) + (x1 &&& (255 : Int32)))), vR b, vI 0, vI 2, .val (.int ((0 : Int32) + (2 : Int32))), .val (.int (((0 : Int32) + (1 : Int32)) + (1 : Int32)))] [(.int (((0 : Int32) + (1 : Int32)) + (1 : Int32)))])) (fun _ k => XS.iload X0.here hx rfl (hb hby own_d15_8) rfl k) ?_
  refine Out.via (g' := (mkF m 12 #[.val (.int (((31 : Int32) * (((31 : Int32) * (0 : Int32)) + (x0 &&& (255 : Int32)))) + (x1 &&& (255 : Int32)))), vR b, vI 0, vI 2, .val (.int ((0 : Int32) + (2 : Int32))), .val (.int (((0 : Int32) + (1 : Int32)) + (1 : Int32)))] [(.int ((0 : Int32) + (2 : Int32))), (.int (((0 : Int32) + (1 : Int32)) + (1 : Int32)))])) (fun _ k => XS.iload X0.here hx rfl (hb hby own_d15_10) rfl k) ?_
  refine Out.via (g' := (mkF m 35 #[.val (.int (((31 : Int32) * (((31 : Int32) * (0 : Int32)) + (x0 &&& (255 : Int32)))) + (x1 &&& (255 : Int32)))), vR b, vI 0, vI 2, .val (.int ((0 : Int32) + (2 : Int32))), .val (.int (((0 : Int32) + (1 : Int32)) + (1 : Int32)))] [])) (fun _ k => XS.icmpYes X0.here hx rfl (pc0 := 12) (pc' := 35) rfl (hb hby own_d15_12) rfl (flt (by decide)).2.1 (by decide) (by decide) k) ?_
  refine Out.via (g' := (mkF m 36 #[.val (.int (((31 : Int32) * (((31 : Int32) * (0 : Int32)) + (x0 &&& (255 : Int32)))) + (x1 &&& (255 : Int32)))), vR b, vI 0, vI 2, .val (.int ((0 : Int32) + (2 : Int32))), .val (.int (((0 : Int32) + (1 : Int32)) + (1 : Int32)))] [(.int (((31 : Int32) * (((31 : Int32) * (0 : Int32)) + (x0 &&& (255 : Int32)))) + (x1 &&& (255 : Int32))))])) (fun _ k => XS.iloadN X0.here hx rfl (hb hby own_d15_35) rfl k) ?_
  exact Out.endN X0 (fun h => by rw [Bd.returns] at h; cases h) Bd.notSynchronized (by decide) (by decide) (by rw [e0]; exact ⟨rfl, N0, rfl⟩) (fun fs hr => own_retI X0 hx Bd.returns (hb hby own_d15_36) hr)
theorem own_d16_0 : decode jdk_48_method_6_code 0 = .ok (.iload_n 2, 1) := by decide +kernel
theorem own_d16_1 : decode jdk_48_method_6_code 1 = .ok (.iload_n 3, 1) := by decide +kernel
theorem own_d16_2 : decode jdk_48_method_6_code 2 = .ok (.iadd, 1) := by decide +kernel
theorem own_d16_3 : decode jdk_48_method_6_code 3 = .ok (.istore 4, 2) := by decide +kernel
theorem own_d16_5 : decode jdk_48_method_6_code 5 = .ok (.iload_n 2, 1) := by decide +kernel
theorem own_d16_6 : decode jdk_48_method_6_code 6 = .ok (.istore 5, 2) := by decide +kernel
theorem own_d16_8 : decode jdk_48_method_6_code 8 = .ok (.iload 5, 2) := by decide +kernel
theorem own_d16_10 : decode jdk_48_method_6_code 10 = .ok (.iload 4, 2) := by decide +kernel
theorem own_d16_12 : decode jdk_48_method_6_code 12 = .ok (.if_icmp .ge 19, 3) := by decide +kernel
theorem own_d16_15 : decode jdk_48_method_6_code 15 = .ok (.bipush 31, 2) := by decide +kernel
theorem own_d16_17 : decode jdk_48_method_6_code 17 = .ok (.iload_n 0, 1) := by decide +kernel
theorem own_d16_18 : decode jdk_48_method_6_code 18 = .ok (.imul, 1) := by decide +kernel
theorem own_d16_19 : decode jdk_48_method_6_code 19 = .ok (.aload_n 1, 1) := by decide +kernel
theorem own_d16_20 : decode jdk_48_method_6_code 20 = .ok (.iload 5, 2) := by decide +kernel
theorem own_d16_22 : decode jdk_48_method_6_code 22 = .ok (.baload, 1) := by decide +kernel
theorem own_d16_23 : decode jdk_48_method_6_code 23 = .ok (.iadd, 1) := by decide +kernel
theorem own_d16_24 : decode jdk_48_method_6_code 24 = .ok (.istore_n 0, 1) := by decide +kernel
theorem own_d16_25 : decode jdk_48_method_6_code 25 = .ok (.iinc 5 1, 3) := by decide +kernel
theorem own_d16_28 : decode jdk_48_method_6_code 28 = .ok (.goto (-20), 3) := by decide +kernel
theorem own_d16_31 : decode jdk_48_method_6_code 31 = .ok (.iload_n 0, 1) := by decide +kernel
theorem own_d16_32 : decode jdk_48_method_6_code 32 = .ok (.ireturn, 1) := by decide +kernel
theorem own_efAG (m : MethodId) (x0 : Int32) (x1 : Addr) (x2 : Int32) (x3 : Int32) : entryFrame m #[(.int x0), (.ref x1), (.int x2), (.int x3)] 6 = mkF m 0 #[.val (.int x0), .val (.ref x1), .val (.int x2), .val (.int x3), .unset, .unset] [] := by first | (simp [entryFrame, mkF, argsToLocals, Value.category]; done) | rfl
abbrev own_QAG (Z : State) (b : Addr) (kb : ClassId) (x0 x1 : Int32) (h0 : Heap) (n0 : Nat) : Option Value → Heap → List Loc → Prop := fun v h L => v = some (.int (own_K2 x0 x1)) ∧ Fr n0 L ∧ h = h0
set_option maxRecDepth 65536 in
set_option maxHeartbeats 40000000 in
theorem own_rmAG (l : Launch) (Z : State) (a0 : Array Value) (hw : ∀ d ∈ tables_1, d.before a0 Z = true) (ws : List Jvm.Cond) (b : Addr) (kb : ClassId) (x0 x1 : Int32) (h0 : Heap) (n0 : Nat) (O : Old Z n0 h0) (Ab : Arv Z h0 b kb .byte (2 : Int32) [(.int x0), (.int x1)] (.int (0 : Int32))) :
    MetFree l own_y18 (head1 (Jvm.Cond.code own_y18 jdk_48_method_6_code 6 (some .int) :: ws) ({ frames := 0, cells := 0, slots := 0, locals := 0 } : Room)) (fun aa U => aa = #[(.int (1 : Int32)), (.ref b), (.int (0 : Int32)), (.int (2 : Int32))] ∧ Z.Warmed39 U.vm ∧ U.heap = h0) (fun _ _ _ _ _ => True) (fun _ U o U' => ∃ v L, o = .returned v ∧ (own_QAG Z b kb x0 x1 h0 n0) v U'.heap L ∧ FrameEnd U o U' L ({ frames := 0, cells := 0, slots := 0, locals := 0 } : Room).cells ({ frames := 0, cells := 0, slots := 0, locals := 0 } : Room).slots) := by
  refine MetFree.of_bodySF (plainFor_of_name own_pn20) hisR ?_
  intro p e s m args below meth c s₁ Bd hml0 hP hK
  obtain ⟨rfl, hZ, hh⟩ := hP
  have hx := Bd.exec
  have hby := Bd.bytes
  have hml : c.maxLocals = 6 := hml0
  have hown : s.vm.findClass "jdk/internal/util/ArraysSupport" = some m.cls := findClass_of_methodNamed Bd.named
  have hnm := (name_of_methodNamed Bd.named Bd.method).1
  have X0 : Stand p l e ({ frames := 0, cells := 0, slots := 0, locals := 0 } : Room) s m #[(.int (1 : Int32)), (.ref b), (.int (0 : Int32)), (.int (2 : Int32))] below meth c s₁ [] 0 0 := Stand.of_body Bd
  have e0 : s₁.heap = h0 := by rw [← hh, Bd.state]; rfl
  have N0 := Fr.nil n0
  refine Out.start (Q := own_QAG Z b kb x0 x1 h0 n0) (own_efAG m (1 : Int32) b (0 : Int32) (2 : Int32) ) ?_
  refine Out.via (g' := (mkF m 1 #[vI 1, vR b, vI 0, vI 2, vU, vU] [(.int (0 : Int32))])) (fun _ k => XS.iloadN X0.here hx rfl (hb hby own_d16_0) rfl k) ?_
  refine Out.via (g' := (mkF m 2 #[vI 1, vR b, vI 0, vI 2, vU, vU] [(.int (2 : Int32)), (.int (0 : Int32))])) (fun _ k => XS.iloadN X0.here hx rfl (hb hby own_d16_1) rfl k) ?_
  refine Out.via (g' := (mkF m 3 #[vI 1, vR b, vI 0, vI 2, vU, vU] [(.int ((0 : Int32) + (2 : Int32)))])) (fun _ k => XS.iadd X0.here hx rfl (hb hby own_d16_2) rfl k) ?_
  refine Out.via (g' := (mkF m 5 #[vI 1, vR b, vI 0, vI 2, .val (.int ((0 : Int32) + (2 : Int32))), vU] [])) (fun _ k => XS.istore X0.here hx rfl (hb hby own_d16_3) rfl (l' := #[.val (.int (1 : Int32)), .val (.ref b), .val (.int (0 : Int32)), .val (.int (2 : Int32)), .val (.int ((0 : Int32) + (2 : Int32))), .unset]) rfl k) ?_
  refine Out.via (g' := (mkF m 6 #[vI 1, vR b, vI 0, vI 2, .val (.int ((0 : Int32) + (2 : Int32))), vU] [(.int (0 : Int32))])) (fun _ k => XS.iloadN X0.here hx rfl (hb hby own_d16_5) rfl k) ?_
  refine Out.via (g' := (mkF m 8 #[vI 1, vR b, vI 0, vI 2, .val (.int ((0 : Int32) + (2 : Int32))), vI 0] [])) (fun _ k => XS.istore X0.here hx rfl (hb hby own_d16_6) rfl (l' := #[.val (.int (1 : Int32)), .val (.ref b), .val (.int (0 : Int32)), .val (.int (2 : Int32)), .val (.int ((0 : Int32) + (2 : Int32))), .val (.int (0 : Int32))]) rfl k) ?_
  refine Out.via (g' := (mkF m 10 #[vI 1, vR b, vI 0, vI 2, .val (.int ((0 : Int32) + (2 : Int32))), vI 0] [(.int (0 : Int32))])) (fun _ k => XS.iload X0.here hx rfl (hb hby own_d16_8) rfl k) ?_
  refine Out.via (g' := (mkF m 12 #[vI 1, vR b, vI 0, vI 2, .val (.int ((0 : Int32) + (2 : Int32))), vI 0] [(.int ((0 : Int32) + (2 : Int32))), (.int (0 : Int32))])) (fun _ k => XS.iload X0.here hx rfl (hb hby own_d16_10) rfl k) ?_
  refine Out.via (g' := (mkF m 15 #[vI 1, vR b, vI 0, vI 2, .val (.int ((0 : Int32) + (2 : Int32))), vI 0] [])) (fun _ k => XS.icmpNo X0.here hx rfl (hb hby own_d16_12) rfl (tlt (by decide)).2.1 k) ?_
  refine Out.via (g' := (mkF m 17 #[vI 1, vR b, vI 0, vI 2, .val (.int ((0 : Int32) + (2 : Int32))), vI 0] [(.int (31 : Int32))])) (fun _ k => XS.bipush X0.here hx rfl (hb hby own_d16_15) k) ?_
  refine Out.via (g' := (mkF m 18 #[vI 1, vR b, vI 0, vI 2, .val (.int ((0 : Int32) + (2 : Int32))), vI 0] [(.int (1 : Int32)), (.int (31 : Int32))])) (fun _ k => XS.iloadN X0.here hx rfl (hb hby own_d16_17) rfl k) ?_
  refine Out.via (g' := (mkF m 19 #[vI 1, vR b, vI 0, vI 2, .val (.int ((0 : Int32) + (2 : Int32))), vI 0] [(.int ((31 : Int32) * (1 : Int32)))])) (fun _ k => XS.imul X0.here hx rfl (hb hby own_d16_18) rfl k) ?_
  refine Out.via (g' := (mkF m 20 #[vI 1, vR b, vI 0, vI 2, .val (.int ((0 : Int32) + (2 : Int32))), vI 0] [(.ref b), (.int ((31 : Int32) * (1 : Int32)))])) (fun _ k => XS.aloadN X0.here hx rfl (hb hby own_d16_19) rfl rfl k) ?_
  refine Out.via (g' := (mkF m 22 #[vI 1, vR b, vI 0, vI 2, .val (.int ((0 : Int32) + (2 : Int32))), vI 0] [(.int (0 : Int32)), (.ref b), (.int ((31 : Int32) * (1 : Int32)))])) (fun _ k => XS.iload X0.here hx rfl (hb hby own_d16_20) rfl k) ?_
  obtain ⟨cl_e0, Ar_e0, q_e0, S_e0, M_e0, H_e0, G_e0⟩ := id Ab
  have hin_e0 : ¬ ((0 : Int32) < 0 ∨ cl_e0.slots.size ≤ ((0 : Int32)).toNatClampNeg) := inb_of S_e0 ⟨by decide, by decide⟩
  refine Out.via (g' := (mkF m 23 #[vI 1, vR b, vI 0, vI 2, .val (.int ((0 : Int32) + (2 : Int32))), vI 0] [(.int x0), (.int ((31 : Int32) * (1 : Int32)))])) (fun _ k => X0.baloadBytes hx (j := (0 : Int32)) (v := (.int x0)) (by rw [e0]; exact Ar_e0.1) (State.isArrayOf_alike hZ.alike Ar_e0.2.1) Ar_e0.2.2 hin_e0 (H_e0.at hin_e0 rfl) (g := (mkF m 22 #[vI 1, vR b, vI 0, vI 2, .val (.int ((0 : Int32) + (2 : Int32))), vI 0] [(.int (0 : Int32)), (.ref b), (.int ((31 : Int32) * (1 : Int32)))])) rfl rfl (hb hby own_d16_22) _ k) ?_
  refine Out.via (g' := (mkF m 24 #[vI 1, vR b, vI 0, vI 2, .val (.int ((0 : Int32) + (2 : Int32))), vI 0] [(.int (((31 : Int32) * (1 : Int32)) + x0))])) (fun _ k => XS.iadd X0.here hx rfl (hb hby own_d16_23) rfl k) ?_
  refine Out.via (g' := (mkF m 25 #[.val (.int (((31 : Int32) * (1 : Int32)) + x0)), vR b, vI 0, vI 2, .val (.int ((0 : Int32) + (2 : Int32))), vI 0] [])) (fun _ k => XS.istoreN X0.here hx rfl (hb hby own_d16_24) rfl (l' := #[.val (.int (((31 : Int32) * (1 : Int32)) + x0)), .val (.ref b), .val (.int (0 : Int32)), .val (.int (2 : Int32)), .val (.int ((0 : Int32) + (2 : Int32))), .val (.int (0 : Int32))]) rfl k) ?_
  refine Out.via (g' := (mkF m 28 #[.val (.int (((31 : Int32) * (1 : Int32)) + x0)), vR b, vI 0, vI 2, .val (.int ((0 : Int32) + (2 : Int32))), .val (.int ((0 : Int32) + (1 : Int32)))] [])) (fun _ k => XS.iinc X0.here hx rfl (hb hby own_d16_25) rfl (l' := #[.val (.int (((31 : Int32) * (1 : Int32)) + x0)), .val (.ref b), .val (.int (0 : Int32)), .val (.int (2 : Int32)), .val (.int ((0 : Int32) + (2 : Int32))), .val (.int ((0 : Int32) + (1 : Int32)))]) rfl k) ?_
  refine Out.via (g' := (mkF m 8 #[.val (.int (((31 : Int32) * (1 : Int32)) + x0)), vR b, vI 0, vI 2, .val (.int ((0 : Int32) + (2 : Int32))), .val (.int ((0 : Int32) + (1 : Int32)))] [])) (fun _ k => XS.goto X0.here hx rfl (pc0 := 28) (pc' := 8) rfl (hb hby own_d16_28) (by decide) (by decide) k) ?_
  refine Out.via (g' := (mkF m 10 #[.val (.int (((31 : Int32) * (1 : Int32)) + x0)), vR b, vI 0, vI 2, .val (.int ((0 : Int32) + (2 : Int32))), .val (.int ((0 : Int32) + (1 : Int32)))] [(.int ((0 : Int32) + (1 : Int32)))])) (fun _ k => XS.iload X0.here hx rfl (hb hby own_d16_8) rfl k) ?_
  refine Out.via (g' := (mkF m 12 #[.val (.int (((31 : Int32) * (1 : Int32)) + x0)), vR b, vI 0, vI 2, .val (.int ((0 : Int32) + (2 : Int32))), .val (.int ((0 : Int32) + (1 : Int32)))] [(.int ((0 : Int32) + (2 : Int32))), (.int ((0 : Int32) + (1 : Int32)))])) (fun _ k => XS.iload X0.here hx rfl (hb hby own_d16_10) rfl k) ?_
  refine Out.via (g' := (mkF m 15 #[.val (.int (((31 : Int32) * (1 : Int32)) + x0)), vR b, vI 0, vI 2, .val (.int ((0 : Int32) + (2 : Int32))), .val (.int ((0 : Int32) + (1 : Int32)))] [])) (fun _ k => XS.icmpNo X0.here hx rfl (hb hby own_d16_12) rfl (tlt (by decide)).2.1 k) ?_
  refine Out.via (g' := (mkF m 17 #[.val (.int (((31 : Int32) * (1 : Int32)) + x0)), vR b, vI 0, vI 2, .val (.int ((0 : Int32) + (2 : Int32))), .val (.int ((0 : Int32) + (1 : Int32)))] [(.int (31 : Int32))])) (fun _ k => XS.bipush X0.here hx rfl (hb hby own_d16_15) k) ?_
  refine Out.via (g' := (mkF m 18 #[.val (.int (((31 : Int32) * (1 : Int32)) + x0)), vR b, vI 0, vI 2, .val (.int ((0 : Int32) + (2 : Int32))), .val (.int ((0 : Int32) + (1 : Int32)))] [(.int (((31 : Int32) * (1 : Int32)) + x0)), (.int (31 : Int32))])) (fun _ k => XS.iloadN X0.here hx rfl (hb hby own_d16_17) rfl k) ?_
  refine Out.via (g' := (mkF m 19 #[.val (.int (((31 : Int32) * (1 : Int32)) + x0)), vR b, vI 0, vI 2, .val (.int ((0 : Int32) + (2 : Int32))), .val (.int ((0 : Int32) + (1 : Int32)))] [(.int ((31 : Int32) * (((31 : Int32) * (1 : Int32)) + x0)))])) (fun _ k => XS.imul X0.here hx rfl (hb hby own_d16_18) rfl k) ?_
  refine Out.via (g' := (mkF m 20 #[.val (.int (((31 : Int32) * (1 : Int32)) + x0)), vR b, vI 0, vI 2, .val (.int ((0 : Int32) + (2 : Int32))), .val (.int ((0 : Int32) + (1 : Int32)))] [(.ref b), (.int ((31 : Int32) * (((31 : Int32) * (1 : Int32)) + x0)))])) (fun _ k => XS.aloadN X0.here hx rfl (hb hby own_d16_19) rfl rfl k) ?_
  refine Out.via (g' := (mkF m 22 #[.val (.int (((31 : Int32) * (1 : Int32)) + x0)), vR b, vI 0, vI 2, .val (.int ((0 : Int32) + (2 : Int32))), .val (.int ((0 : Int32) + (1 : Int32)))] [(.int ((0 : Int32) + (1 : Int32))), (.ref b), (.int ((31 : Int32) * (((31 : Int32) * (1 : Int32)) + x0)))])) (fun _ k => XS.iload X0.here hx rfl (hb hby own_d16_20) rfl k) ?_
  obtain ⟨cl_e1, Ar_e1, q_e1, S_e1, M_e1, H_e1, G_e1⟩ := id Ab
  have hin_e1 : ¬ (((0 : Int32) + (1 : Int32)) < 0 ∨ cl_e1.slots.size ≤ (((0 : Int32) + (1 : Int32))).toNatClampNeg) := inb_of S_e1 ⟨by decide, by decide⟩
  refine Out.via (g' := (mkF m 23 #[.val (.int (((31 : Int32) * (1 : Int32)) + x0)), vR b, vI 0, vI 2, .val (.int ((0 : Int32) + (2 : Int32))), .val (.int ((0 : Int32) + (1 : Int32)))] [(.int x1), (.int ((31 : Int32) * (((31 : Int32) * (1 : Int32)) + x0)))])) (fun _ k => X0.baloadBytes hx (j := ((0 : Int32) + (1 : Int32))) (v := (.int x1)) (by rw [e0]; exact Ar_e1.1) (State.isArrayOf_alike hZ.alike Ar_e1.2.1) Ar_e1.2.2 hin_e1 (H_e1.at hin_e1 rfl) (g := (mkF m 22 #[.val (.int (((31 : Int32) * (1 : Int32)) + x0)), vR b, vI 0, vI 2, .val (.int ((0 : Int32) + (2 : Int32))), .val (.int ((0 : Int32) + (1 : Int32)))] [(.int ((0 : Int32) + (1 : Int32))), (.ref b), (.int ((31 : Int32) * (((31 : Int32) * (1 : Int32)) + x0)))])) rfl rfl (hb hby own_d16_22) _ k) ?_
  refine Out.via (g' := (mkF m 24 #[.val (.int (((31 : Int32) * (1 : Int32)) + x0)), vR b, vI 0, vI 2, .val (.int ((0 : Int32) + (2 : Int32))), .val (.int ((0 : Int32) + (1 : Int32)))] [(.int (((31 : Int32) * (((31 : Int32) * (1 : Int32)) + x0)) + x1))])) (fun _ k => XS.iadd X0.here hx rfl (hb hby own_d16_23) rfl k) ?_
  refine Out.via (g' := (mkF m 25 #[.val (.int (((31 : Int32) * (((31 : Int32) * (1 : Int32)) + x0)) + x1)), vR b, vI 0, vI 2, .val (.int ((0 : Int32) + (2 : Int32))), .val (.int ((0 : Int32) + (1 : Int32)))] [])) (fun _ k => XS.istoreN X0.here hx rfl (hb hby own_d16_24) rfl (l' := #[.val (.int (((31 : Int32) * (((31 : Int32) * (1 : Int32)) + x0)) + x1)), .val (.ref b), .val (.int (0 : Int32)), .val (.int (2 : Int32)), .val (.int ((0 : Int32) + (2 : Int32))), .val (.int ((0 : Int32) + (1 : Int32)))]) rfl k) ?_
  refine Out.via (g' := (mkF m 28 #[.val (.int (((31 : Int32) * (((31 : Int32) * (1 : Int32)) + x0)) + x1)), vR b, vI 0, vI 2, .val (.int ((0 : Int32) + (2 : Int32))), .val (.int (((0 : Int32) + (1 : Int32)) + (1 : Int32)))] [])) (fun _ k => XS.iinc X0.here hx rfl (hb hby own_d16_25) rfl (l' := #[.val (.int (((31 : Int32) * (((31 : Int32) * (1 : Int32)) + x0)) + x1)), .val (.ref b), .val (.int (0 : Int32)), .val (.int (2 : Int32)), .val (.int ((0 : Int32) + (2 : Int32))), .val (.int (((0 : Int32) + (1 : Int32)) + (1 : Int32)))]) rfl k) ?_
  refine Out.via (g' := (mkF m 8 #[.val (.int (((31 : Int32) * (((31 : Int32) * (1 : Int32)) + x0)) + x1)), vR b, vI 0, vI 2, .val (.int ((0 : Int32) + (2 : Int32))), .val (.int (((0 : Int32) + (1 : Int32)) + (1 : Int32)))] [])) (fun _ k => XS.goto X0.here hx rfl (pc0 := 28) (pc' := 8) rfl (hb hby own_d16_28) (by decide) (by decide) k) ?_
  refine Out.via (g' := (mkF m 10 #[.val (.int (((31 : Int32) * (((31 : Int32) * (1 : Int32)) + x0)) + x1)), vR b, vI 0, vI 2, .val (.int ((0 : Int32) + (2 : Int32))), .val (.int (((0 : Int32) + (1 : Int32)) + (1 : Int32)))] [(.int (((0 : Int32) + (1 : Int32)) + (1 : Int32)))])) (fun _ k => XS.iload X0.here hx rfl (hb hby own_d16_8) rfl k) ?_
  refine Out.via (g' := (mkF m 12 #[.val (.int (((31 : Int32) * (((31 : Int32) * (1 : Int32)) + x0)) + x1)), vR b, vI 0, vI 2, .val (.int ((0 : Int32) + (2 : Int32))), .val (.int (((0 : Int32) + (1 : Int32)) + (1 : Int32)))] [(.int ((0 : Int32) + (2 : Int32))), (.int (((0 : Int32) + (1 : Int32)) + (1 : Int32)))])) (fun _ k => XS.iload X0.here hx rfl (hb hby own_d16_10) rfl k) ?_
  refine Out.via (g' := (mkF m 31 #[.val (.int (((31 : Int32) * (((31 : Int32) * (1 : Int32)) + x0)) + x1)), vR b, vI 0, vI 2, .val (.int ((0 : Int32) + (2 : Int32))), .val (.int (((0 : Int32) + (1 : Int32)) + (1 : Int32)))] [])) (fun _ k => XS.icmpYes X0.here hx rfl (pc0 := 12) (pc' := 31) rfl (hb hby own_d16_12) rfl (flt (by decide)).2.1 (by decide) (by decide) k) ?_
  refine Out.via (g' := (mkF m 32 #[.val (.int (((31 : Int32) * (((31 : Int32) * (1 : Int32)) + x0)) + x1)), vR b, vI 0, vI 2, .val (.int ((0 : Int32) + (2 : Int32))), .val (.int (((0 : Int32) + (1 : Int32)) + (1 : Int32)))] [(.int (((31 : Int32) * (((31 : Int32) * (1 : Int32)) + x0)) + x1))])) (fun _ k => XS.iloadN X0.here hx rfl (hb hby own_d16_31) rfl k) ?_
  exact Out.endN X0 (fun h => by rw [Bd.returns] at h; cases h) Bd.notSynchronized (by decide) (by decide) (by rw [e0]; exact ⟨rfl, N0, rfl⟩) (fun fs hr => own_retI X0 hx Bd.returns (hb hby own_d16_32) hr)
theorem own_d17_0 : decode jdk_48_method_4_code 0 = .ok (.iload 4, 2) := by decide +kernel
theorem own_d17_2 : decode jdk_48_method_4_code 2 = .ok (.tableswitch 127 4 10 #[42, 55, 127, 127, 88, 101, 114], 42) := by decide +kernel
theorem own_d17_44 : decode jdk_48_method_4_code 44 = .ok (.iload_n 3, 1) := by decide +kernel
theorem own_d17_45 : decode jdk_48_method_4_code 45 = .ok (.aload_n 0, 1) := by decide +kernel
theorem own_d17_46 : decode jdk_48_method_4_code 46 = .ok (.checkcast 60, 3) := by decide +kernel
theorem own_d17_49 : decode jdk_48_method_4_code 49 = .ok (.iload_n 1, 1) := by decide +kernel
theorem own_d17_50 : decode jdk_48_method_4_code 50 = .ok (.iload_n 2, 1) := by decide +kernel
theorem own_d17_51 : decode jdk_48_method_4_code 51 = .ok (.invokestatic 62, 3) := by decide +kernel
theorem own_pd21 : parseMethodDescriptor "(I[BII)I" = some ⟨[.int, (.array .byte), .int, .int], some .int⟩ := by decide +kernel
theorem own_d17_54 : decode jdk_48_method_4_code 54 = .ok (.goto 103, 3) := by decide +kernel
theorem own_d17_157 : decode jdk_48_method_4_code 157 = .ok (.ireturn, 1) := by decide +kernel
theorem own_efV4 (m : MethodId) (x0 : Addr) (x1 : Int32) (x2 : Int32) (x3 : Int32) (x4 : Int32) : entryFrame m #[(.ref x0), (.int x1), (.int x2), (.int x3), (.int x4)] 5 = mkF m 0 #[.val (.ref x0), .val (.int x1), .val (.int x2), .val (.int x3), .val (.int x4)] [] := by first | (simp [entryFrame, mkF, argsToLocals, Value.category]; done) | rfl
abbrev own_QV4 (Z : State) (b : Addr) (kb : ClassId) (x0 x1 : Int32) (h0 : Heap) (n0 : Nat) : Option Value → Heap → List Loc → Prop := fun v h L => v = some (.int (own_H2 x0 x1)) ∧ Fr n0 L ∧ h = h0
set_option maxRecDepth 65536 in
set_option maxHeartbeats 40000000 in
theorem own_rmV4 (l : Launch) (Z : State) (a0 : Array Value) (hw : ∀ d ∈ tables_1, d.before a0 Z = true) (ws : List Jvm.Cond) (b : Addr) (kb : ClassId) (x0 x1 : Int32) (h0 : Heap) (n0 : Nat) (O : Old Z n0 h0) (Ab : Arv Z h0 b kb .byte (2 : Int32) [(.int x0), (.int x1)] (.int (0 : Int32))) (Eb : Exa Z h0 b "[B") :
    MetFree l own_y19 (head1 (Jvm.Cond.code own_y19 jdk_48_method_4_code 5 (some .int) :: ws) ({ frames := 1, cells := 0, slots := 0, locals := 17 } : Room)) (fun aa U => aa = #[(.ref b), (.int (0 : Int32)), (.int (2 : Int32)), (.int (0 : Int32)), (.int (4 : Int32))] ∧ Z.Warmed39 U.vm ∧ U.heap = h0) (fun _ _ _ _ _ => True) (fun _ U o U' => ∃ v L, o = .returned v ∧ (own_QV4 Z b kb x0 x1 h0 n0) v U'.heap L ∧ FrameEnd U o U' L ({ frames := 1, cells := 0, slots := 0, locals := 17 } : Room).cells ({ frames := 1, cells := 0, slots := 0, locals := 17 } : Room).slots) := by
  refine MetFree.of_bodySF (plainFor_of_name own_pn20) hisR ?_
  intro p e s m args below meth c s₁ Bd hml0 hP hK
  obtain ⟨rfl, hZ, hh⟩ := hP
  have hx := Bd.exec
  have hby := Bd.bytes
  have hml : c.maxLocals = 5 := hml0
  have hown : s.vm.findClass "jdk/internal/util/ArraysSupport" = some m.cls := findClass_of_methodNamed Bd.named
  have hnm := (name_of_methodNamed Bd.named Bd.method).1
  have X0 : Stand p l e ({ frames := 1, cells := 0, slots := 0, locals := 17 } : Room) s m #[(.ref b), (.int (0 : Int32)), (.int (2 : Int32)), (.int (0 : Int32)), (.int (4 : Int32))] below meth c s₁ [] 0 0 := Stand.of_body Bd
  have e0 : s₁.heap = h0 := by rw [← hh, Bd.state]; rfl
  have N0 := Fr.nil n0
  refine Out.start (Q := own_QV4 Z b kb x0 x1 h0 n0) (own_efV4 m b (0 : Int32) (2 : Int32) (0 : Int32) (4 : Int32) ) ?_
  refine Out.via (g' := (mkF m 2 #[vR b, vI 0, vI 2, vI 0, vI 4] [(.int (4 : Int32))])) (fun _ k => XS.iload X0.here hx rfl (hb hby own_d17_0) rfl k) ?_
  refine Out.via (g' := (mkF m 44 #[vR b, vI 0, vI 2, vI 0, vI 4] [])) (fun _ k => XS.tswIn X0.here hx rfl (pc0 := 2) (pc' := 44) (o := 42) rfl (hb hby own_d17_2) rfl (by decide) (by decide) (by decide) (by decide) k) ?_
  refine Out.via (g' := (mkF m 45 #[vR b, vI 0, vI 2, vI 0, vI 4] [(.int (0 : Int32))])) (fun _ k => XS.iloadN X0.here hx rfl (hb hby own_d17_44) rfl k) ?_
  refine Out.via (g' := (mkF m 46 #[vR b, vI 0, vI 2, vI 0, vI 4] [(.ref b), (.int (0 : Int32))])) (fun _ k => XS.aloadN X0.here hx rfl (hb hby own_d17_45) rfl rfl k) ?_
  obtain ⟨T1, X1, e1, st1⟩ := castY X0 hx hZ hown (W_ hw 156 rfl) e0 (Ins.self Eb) (g := (mkF m 46 #[vR b, vI 0, vI 2, vI 0, vI 4] [(.ref b), (.int (0 : Int32))])) rfl rfl (hb hby own_d17_46)
  refine Out.via (g' := (mkF m 49 #[vR b, vI 0, vI 2, vI 0, vI 4] [(.ref b), (.int (0 : Int32))])) st1 ?_
  refine Out.via (g' := (mkF m 50 #[vR b, vI 0, vI 2, vI 0, vI 4] [(.int (0 : Int32)), (.ref b), (.int (0 : Int32))])) (fun _ k => XS.iloadN X1.here hx rfl (hb hby own_d17_49) rfl k) ?_
  refine Out.via (g' := (mkF m 51 #[vR b, vI 0, vI 2, vI 0, vI 4] [(.int (2 : Int32)), (.int (0 : Int32)), (.ref b), (.int (0 : Int32))])) (fun _ k => XS.iloadN X1.here hx rfl (hb hby own_d17_50) rfl k) ?_
  obtain ⟨_, _, ⟨T2, L2, kc2, ks2⟩, -, X2, ⟨Lc2, hQ2, l2, y2, z2⟩, st2⟩ := Jvm.LawKit.callS X1 hx (y := own_y17) hown (mvT hZ (W_ hw 157 rfl)) (mvT hZ (W_ hw 158 rfl)) (mvT hZ (W_ hw 151 rfl)) (mvT hZ (W_ hw 159 rfl)) (by decide) (backOf (W := 0) (own_rmSG l Z a0 hw [] b kb x0 x1 h0 n0 O Ab) hZ (W_ hw 159 rfl) (W_ hw 151 rfl) (by decide) (by decide)) (g := (mkF m 51 #[vR b, vI 0, vI 2, vI 0, vI 4] [(.int (2 : Int32)), (.int (0 : Int32)), (.ref b), (.int (0 : Int32))])) rfl (by rw [hml]; rfl) (argsL := [(.int (0 : Int32)), (.ref b), (.int (0 : Int32)), (.int (2 : Int32))]) (rest := []) (lenOf own_pd21 rfl) rfl (by show 2 * 0 + _ ≤ _; exact Nat.le_of_eq rfl) (hb hby own_d17_51) (fun _ _ => ⟨rfl, e1, (by decide : 0 + 0 ≤ _), (by decide : 0 + 0 ≤ _)⟩)
  dsimp only [Pt.U, Pt.locs, Pt.cells, Pt.slots] at X2 l2 y2 z2 st2 hQ2
  subst l2 y2 z2
  obtain ⟨rfl, Nq2, eq2⟩ := hQ2
  replace N0 := Fr.app N0 Nq2
  refine Out.via (g' := (mkF m 54 #[vR b, vI 0, vI 2, vI 0, vI 4] [(.int (own_H2 x0 x1))])) st2 ?_
  refine Out.via (g' := (mkF m 157 #[vR b, vI 0, vI 2, vI 0, vI 4] [(.int (own_H2 x0 x1))])) (fun _ k => XS.goto X2.here hx rfl (pc0 := 54) (pc' := 157) rfl (hb hby own_d17_54) (by decide) (by decide) k) ?_
  exact Out.endN X2 (fun h => by rw [Bd.returns] at h; cases h) Bd.notSynchronized (by decide) (by decide) (by rw [eq2]; exact ⟨rfl, N0, rfl⟩) (fun fs hr => own_retI X2 hx Bd.returns (hb hby own_d17_157) hr)
theorem own_d17_90 : decode jdk_48_method_4_code 90 = .ok (.iload_n 3, 1) := by decide +kernel
theorem own_d17_91 : decode jdk_48_method_4_code 91 = .ok (.aload_n 0, 1) := by decide +kernel
theorem own_d17_92 : decode jdk_48_method_4_code 92 = .ok (.checkcast 60, 3) := by decide +kernel
theorem own_d17_95 : decode jdk_48_method_4_code 95 = .ok (.iload_n 1, 1) := by decide +kernel
theorem own_d17_96 : decode jdk_48_method_4_code 96 = .ok (.iload_n 2, 1) := by decide +kernel
theorem own_d17_97 : decode jdk_48_method_4_code 97 = .ok (.invokestatic 75, 3) := by decide +kernel
theorem own_d17_100 : decode jdk_48_method_4_code 100 = .ok (.goto 57, 3) := by decide +kernel
theorem own_efV8 (m : MethodId) (x0 : Addr) (x1 : Int32) (x2 : Int32) (x3 : Int32) (x4 : Int32) : entryFrame m #[(.ref x0), (.int x1), (.int x2), (.int x3), (.int x4)] 5 = mkF m 0 #[.val (.ref x0), .val (.int x1), .val (.int x2), .val (.int x3), .val (.int x4)] [] := by first | (simp [entryFrame, mkF, argsToLocals, Value.category]; done) | rfl
abbrev own_QV8 (Z : State) (b : Addr) (kb : ClassId) (x0 x1 : Int32) (h0 : Heap) (n0 : Nat) : Option Value → Heap → List Loc → Prop := fun v h L => v = some (.int (own_K2 x0 x1)) ∧ Fr n0 L ∧ h = h0
set_option maxRecDepth 65536 in
set_option maxHeartbeats 40000000 in
theorem own_rmV8 (l : Launch) (Z : State) (a0 : Array Value) (hw : ∀ d ∈ tables_1, d.before a0 Z = true) (ws : List Jvm.Cond) (b : Addr) (kb : ClassId) (x0 x1 : Int32) (h0 : Heap) (n0 : Nat) (O : Old Z n0 h0) (Ab : Arv Z h0 b kb .byte (2 : Int32) [(.int x0), (.int x1)] (.int (0 : Int32))) (Eb : Exa Z h0 b "[B") :
    MetFree l own_y19 (head1 (Jvm.Cond.code own_y19 jdk_48_method_4_code 5 (some .int) :: ws) ({ frames := 1, cells := 0, slots := 0, locals := 17 } : Room)) (fun aa U => aa = #[(.ref b), (.int (0 : Int32)), (.int (2 : Int32)), (.int (1 : Int32)), (.int (8 : Int32))] ∧ Z.Warmed39 U.vm ∧ U.heap = h0) (fun _ _ _ _ _ => True) (fun _ U o U' => ∃ v L, o = .returned v ∧ (own_QV8 Z b kb x0 x1 h0 n0) v U'.heap L ∧ FrameEnd U o U' L ({ frames := 1, cells := 0, slots := 0, locals := 17 } : Room).cells ({ frames := 1, cells := 0, slots := 0, locals := 17 } : Room).slots) := by
  refine MetFree.of_bodySF (plainFor_of_name own_pn20) hisR ?_
  intro p e s m args below meth c s₁ Bd hml0 hP hK
  obtain ⟨rfl, hZ, hh⟩ := hP
  have hx := Bd.exec
  have hby := Bd.bytes
  have hml : c.maxLocals = 5 := hml0
  have hown : s.vm.findClass "jdk/internal/util/ArraysSupport" = some m.cls := findClass_of_methodNamed Bd.named
  have hnm := (name_of_methodNamed Bd.named Bd.method).1
  have X0 : Stand p l e ({ frames := 1, cells := 0, slots := 0, locals := 17 } : Room) s m #[(.ref b), (.int (0 : Int32)), (.int (2 : Int32)), (.int (1 : Int32)), (.int (8 : Int32))] below meth c s₁ [] 0 0 := Stand.of_body Bd
  have e0 : s₁.heap = h0 := by rw [← hh, Bd.state]; rfl
  have N0 := Fr.nil n0
  refine Out.start (Q := own_QV8 Z b kb x0 x1 h0 n0) (own_efV8 m b (0 : Int32) (2 : Int32) (1 : Int32) (8 : Int32) ) ?_
  refine Out.via (g' := (mkF m 2 #[vR b, vI 0, vI 2, vI 1, vI 8] [(.int (8 : Int32))])) (fun _ k => XS.iload X0.here hx rfl (hb hby own_d17_0) rfl k) ?_
  refine Out.via (g' := (mkF m 90 #[vR b, vI 0, vI 2, vI 1, vI 8] [])) (fun _ k => XS.tswIn X0.here hx rfl (pc0 := 2) (pc' := 90) (o := 88) rfl (hb hby own_d17_2) rfl (by decide) (by decide) (by decide) (by decide) k) ?_
  refine Out.via (g' := (mkF m 91 #[vR b, vI 0, vI 2, vI 1, vI 8] [(.int (1 : Int32))])) (fun _ k => XS.iloadN X0.here hx rfl (hb hby own_d17_90) rfl k) ?_
  refine Out.via (g' := (mkF m 92 #[vR b, vI 0, vI 2, vI 1, vI 8] [(.ref b), (.int (1 : Int32))])) (fun _ k => XS.aloadN X0.here hx rfl (hb hby own_d17_91) rfl rfl k) ?_
  obtain ⟨T1, X1, e1, st1⟩ := castY X0 hx hZ hown (W_ hw 156 rfl) e0 (Ins.self Eb) (g := (mkF m 92 #[vR b, vI 0, vI 2, vI 1, vI 8] [(.ref b), (.int (1 : Int32))])) rfl rfl (hb hby own_d17_92)
  refine Out.via (g' := (mkF m 95 #[vR b, vI 0, vI 2, vI 1, vI 8] [(.ref b), (.int (1 : Int32))])) st1 ?_
  refine Out.via (g' := (mkF m 96 #[vR b, vI 0, vI 2, vI 1, vI 8] [(.int (0 : Int32)), (.ref b), (.int (1 : Int32))])) (fun _ k => XS.iloadN X1.here hx rfl (hb hby own_d17_95) rfl k) ?_
  refine Out.via (g' := (mkF m 97 #[vR b, vI 0, vI 2, vI 1, vI 8] [(.int (2 : Int32)), (.int (0 : Int32)), (.ref b), (.int (1 : Int32))])) (fun _ k => XS.iloadN X1.here hx rfl (hb hby own_d17_96) rfl k) ?_
  obtain ⟨_, _, ⟨T2, L2, kc2, ks2⟩, -, X2, ⟨Lc2, hQ2, l2, y2, z2⟩, st2⟩ := Jvm.LawKit.callS X1 hx (y := own_y18) hown (mvT hZ (W_ hw 179 rfl)) (mvT hZ (W_ hw 180 rfl)) (mvT hZ (W_ hw 151 rfl)) (mvT hZ (W_ hw 181 rfl)) (by decide) (backOf (W := 0) (own_rmAG l Z a0 hw [] b kb x0 x1 h0 n0 O Ab) hZ (W_ hw 181 rfl) (W_ hw 151 rfl) (by decide) (by decide)) (g := (mkF m 97 #[vR b, vI 0, vI 2, vI 1, vI 8] [(.int (2 : Int32)), (.int (0 : Int32)), (.ref b), (.int (1 : Int32))])) rfl (by rw [hml]; rfl) (argsL := [(.int (1 : Int32)), (.ref b), (.int (0 : Int32)), (.int (2 : Int32))]) (rest := []) (lenOf own_pd21 rfl) rfl (by show 2 * 0 + _ ≤ _; exact Nat.le_of_eq rfl) (hb hby own_d17_97) (fun _ _ => ⟨rfl, e1, (by decide : 0 + 0 ≤ _), (by decide : 0 + 0 ≤ _)⟩)
  dsimp only [Pt.U, Pt.locs, Pt.cells, Pt.slots] at X2 l2 y2 z2 st2 hQ2
  subst l2 y2 z2
  obtain ⟨rfl, Nq2, eq2⟩ := hQ2
  replace N0 := Fr.app N0 Nq2
  refine Out.via (g' := (mkF m 100 #[vR b, vI 0, vI 2, vI 1, vI 8] [(.int (own_K2 x0 x1))])) st2 ?_
  refine Out.via (g' := (mkF m 157 #[vR b, vI 0, vI 2, vI 1, vI 8] [(.int (own_K2 x0 x1))])) (fun _ k => XS.goto X2.here hx rfl (pc0 := 100) (pc' := 157) rfl (hb hby own_d17_100) (by decide) (by decide) k) ?_
  exact Out.endN X2 (fun h => by rw [Bd.returns] at h; cases h) Bd.notSynchronized (by decide) (by decide) (by rw [eq2]; exact ⟨rfl, N0, rfl⟩) (fun fs hr => own_retI X2 hx Bd.returns (hb hby own_d17_157) hr)
theorem own_pn22 : plainName "java/lang/StringLatin1" = true := by first | (simp [plainName, overriddenIn]; done) | decide +kernel
theorem own_d18_0 : decode jdk_43_method_21_code 0 = .ok (.aload_n 0, 1) := by decide +kernel
theorem own_d18_1 : decode jdk_43_method_21_code 1 = .ok (.arraylength, 1) := by decide +kernel
theorem own_d18_2 : decode jdk_43_method_21_code 2 = .ok (.lookupswitch 40 #[(0, 26), (1, 30)], 26) := by decide +kernel
theorem own_d18_32 : decode jdk_43_method_21_code 32 = .ok (.aload_n 0, 1) := by decide +kernel
theorem own_d18_33 : decode jdk_43_method_21_code 33 = .ok (.iconst 0, 1) := by decide +kernel
theorem own_d18_34 : decode jdk_43_method_21_code 34 = .ok (.baload, 1) := by decide +kernel
theorem own_d18_35 : decode jdk_43_method_21_code 35 = .ok (.sipush 255, 3) := by decide +kernel
theorem own_d18_38 : decode jdk_43_method_21_code 38 = .ok (.iand, 1) := by decide +kernel
theorem own_d18_39 : decode jdk_43_method_21_code 39 = .ok (.goto 12, 3) := by decide +kernel
theorem own_d18_51 : decode jdk_43_method_21_code 51 = .ok (.ireturn, 1) := by decide +kernel
theorem own_efLH1 (m : MethodId) (x0 : Addr) : entryFrame m #[(.ref x0)] 1 = mkF m 0 #[.val (.ref x0)] [] := by first | (simp [entryFrame, mkF, argsToLocals, Value.category]; done) | rfl
abbrev own_QLH1 (Z : State) (b : Addr) (kb : ClassId) (x0 x1 : Int32) (h0 : Heap) (n0 : Nat) : Option Value → Heap → List Loc → Prop := fun v h L => v = some (.int (own_H1 x0 x1)) ∧ Fr n0 L ∧ h = h0
set_option maxRecDepth 65536 in
set_option maxHeartbeats 40000000 in
theorem own_rmLH1 (l : Launch) (Z : State) (a0 : Array Value) (hw : ∀ d ∈ tables_1, d.before a0 Z = true) (ws : List Jvm.Cond) (b : Addr) (kb : ClassId) (x0 x1 : Int32) (h0 : Heap) (n0 : Nat) (O : Old Z n0 h0) (Ab : Arv Z h0 b kb .byte (1 : Int32) [(.int x0)] (.int (0 : Int32))) (Eb : Exa Z h0 b "[B") :
    MetFree l own_y20 (head1 (Jvm.Cond.code own_y20 jdk_43_method_21_code 1 (some .int) :: ws) ({ frames := 2, cells := 0, slots := 0, locals := 33 } : Room)) (fun aa U => aa = #[(.ref b)] ∧ Z.Warmed39 U.vm ∧ U.heap = h0) (fun _ _ _ _ _ => True) (fun _ U o U' => ∃ v L, o = .returned v ∧ (own_QLH1 Z b kb x0 x1 h0 n0) v U'.heap L ∧ FrameEnd U o U' L ({ frames := 2, cells := 0, slots := 0, locals := 33 } : Room).cells ({ frames := 2, cells := 0, slots := 0, locals := 33 } : Room).slots) := by
  refine MetFree.of_bodySF (plainFor_of_name own_pn22) hisR ?_
  intro p e s m args below meth c s₁ Bd hml0 hP hK
  obtain ⟨rfl, hZ, hh⟩ := hP
  have hx := Bd.exec
  have hby := Bd.bytes
  have hml : c.maxLocals = 1 := hml0
  have hown : s.vm.findClass "java/lang/StringLatin1" = some m.cls := findClass_of_methodNamed Bd.named
  have hnm := (name_of_methodNamed Bd.named Bd.method).1
  have X0 : Stand p l e ({ frames := 2, cells := 0, slots := 0, locals := 33 } : Room) s m #[(.ref b)] below meth c s₁ [] 0 0 := Stand.of_body Bd
  have e0 : s₁.heap = h0 := by rw [← hh, Bd.state]; rfl
  have N0 := Fr.nil n0
  refine Out.start (Q := own_QLH1 Z b kb x0 x1 h0 n0) (own_efLH1 m b ) ?_
  refine Out.via (g' := (mkF m 1 #[vR b] [(.ref b)])) (fun _ k => XS.aloadN X0.here hx rfl (hb hby own_d18_0) rfl rfl k) ?_
  obtain ⟨cl_p, Ar_p, q_p, S_p, M_p, H_p, G_p⟩ := id Ab
  refine Out.via (g' := (mkF m 2 #[vR b] [(.int cl_p.slots.size.toInt32)])) (fun _ k => X0.arraylength hx (by rw [e0]; exact Ar_p.1) (State.isArrayOf_alike hZ.alike Ar_p.2.1) (g := (mkF m 1 #[vR b] [(.ref b)])) rfl rfl (hb hby own_d18_1) _ k) ?_
  rw [len_of S_p M_p]
  refine Out.via (g' := (mkF m 32 #[vR b] [])) (fun _ k => X0.lookupswitchHit hx (g := (mkF m 2 #[vR b] [(.int (1 : Int32))])) rfl rfl (hb hby own_d18_2) (by decide) (a := 1) (off := 30) (by decide) (by show (0 : Int) ≤ ((2 : Nat) : Int) + 30; decide) _ k) ?_
  refine Out.via (g' := (mkF m 33 #[vR b] [(.ref b)])) (fun _ k => XS.aloadN X0.here hx rfl (hb hby own_d18_32) rfl rfl k) ?_
  refine Out.via (g' := (mkF m 34 #[vR b] [(.int (0 : Int32)), (.ref b)])) (fun _ k => XS.iconst X0.here hx rfl (hb hby own_d18_33) k) ?_
  obtain ⟨cl_q, Ar_q, q_q, S_q, M_q, H_q, G_q⟩ := id Ab
  have hin_q : ¬ ((0 : Int32) < 0 ∨ cl_q.slots.size ≤ ((0 : Int32)).toNatClampNeg) := inb_of S_q ⟨by decide, by decide⟩
  refine Out.via (g' := (mkF m 35 #[vR b] [(.int x0)])) (fun _ k => X0.baloadBytes hx (j := (0 : Int32)) (v := (.int x0)) (by rw [e0]; exact Ar_q.1) (State.isArrayOf_alike hZ.alike Ar_q.2.1) Ar_q.2.2 hin_q (H_q.at hin_q rfl) (g := (mkF m 34 #[vR b] [(.int (0 : Int32)), (.ref b)])) rfl rfl (hb hby own_d18_34) _ k) ?_
  refine Out.via (g' := (mkF m 38 #[vR b] [(.int (255 : Int32)), (.int x0)])) (fun _ k => XS.sipush X0.here hx rfl (hb hby own_d18_35) k) ?_
  refine Out.via (g' := (mkF m 39 #[vR b] [(.int (x0 &&& (255 : Int32)))])) (fun _ k => XS.iand X0.here hx rfl (hb hby own_d18_38) rfl k) ?_
  refine Out.via (g' := (mkF m 51 #[vR b] [(.int (x0 &&& (255 : Int32)))])) (fun _ k => XS.goto X0.here hx rfl (pc0 := 39) (pc' := 51) rfl (hb hby own_d18_39) (by decide) (by decide) k) ?_
  exact Out.endN X0 (fun h => by rw [Bd.returns] at h; cases h) Bd.notSynchronized (by decide) (by decide) (by rw [e0]; exact ⟨rfl, N0, rfl⟩) (fun fs hr => own_retI X0 hx Bd.returns (hb hby own_d18_51) hr)
theorem own_d18_42 : decode jdk_43_method_21_code 42 = .ok (.aload_n 0, 1) := by decide +kernel
theorem own_d18_43 : decode jdk_43_method_21_code 43 = .ok (.iconst 0, 1) := by decide +kernel
theorem own_d18_44 : decode jdk_43_method_21_code 44 = .ok (.aload_n 0, 1) := by decide +kernel
theorem own_d18_45 : decode jdk_43_method_21_code 45 = .ok (.arraylength, 1) := by decide +kernel
theorem own_d18_46 : decode jdk_43_method_21_code 46 = .ok (.iconst 0, 1) := by decide +kernel
theorem own_d18_47 : decode jdk_43_method_21_code 47 = .ok (.iconst 4, 1) := by decide +kernel
theorem own_d18_48 : decode jdk_43_method_21_code 48 = .ok (.invokestatic 84, 3) := by decide +kernel
theorem own_pd23 : parseMethodDescriptor "(Ljava/lang/Object;IIII)I" = some ⟨[(.object "java/lang/Object"), .int, .int, .int, .int], some .int⟩ := by decide +kernel
theorem own_efLH2 (m : MethodId) (x0 : Addr) : entryFrame m #[(.ref x0)] 1 = mkF m 0 #[.val (.ref x0)] [] := by first | (simp [entryFrame, mkF, argsToLocals, Value.category]; done) | rfl
abbrev own_QLH2 (Z : State) (b : Addr) (kb : ClassId) (x0 x1 : Int32) (h0 : Heap) (n0 : Nat) : Option Value → Heap → List Loc → Prop := fun v h L => v = some (.int (own_H2 x0 x1)) ∧ Fr n0 L ∧ h = h0
set_option maxRecDepth 65536 in
set_option maxHeartbeats 40000000 in
theorem own_rmLH2 (l : Launch) (Z : State) (a0 : Array Value) (hw : ∀ d ∈ tables_1, d.before a0 Z = true) (ws : List Jvm.Cond) (b : Addr) (kb : ClassId) (x0 x1 : Int32) (h0 : Heap) (n0 : Nat) (O : Old Z n0 h0) (Ab : Arv Z h0 b kb .byte (2 : Int32) [(.int x0), (.int x1)] (.int (0 : Int32))) (Eb : Exa Z h0 b "[B") :
    MetFree l own_y20 (head1 (Jvm.Cond.code own_y20 jdk_43_method_21_code 1 (some .int) :: ws) ({ frames := 2, cells := 0, slots := 0, locals := 33 } : Room)) (fun aa U => aa = #[(.ref b)] ∧ Z.Warmed39 U.vm ∧ U.heap = h0) (fun _ _ _ _ _ => True) (fun _ U o U' => ∃ v L, o = .returned v ∧ (own_QLH2 Z b kb x0 x1 h0 n0) v U'.heap L ∧ FrameEnd U o U' L ({ frames := 2, cells := 0, slots := 0, locals := 33 } : Room).cells ({ frames := 2, cells := 0, slots := 0, locals := 33 } : Room).slots) := by
  refine MetFree.of_bodySF (plainFor_of_name own_pn22) hisR ?_
  intro p e s m args below meth c s₁ Bd hml0 hP hK
  obtain ⟨rfl, hZ, hh⟩ := hP
  have hx := Bd.exec
  have hby := Bd.bytes
  have hml : c.maxLocals = 1 := hml0
  have hown : s.vm.findClass "java/lang/StringLatin1" = some m.cls := findClass_of_methodNamed Bd.named
  have hnm := (name_of_methodNamed Bd.named Bd.method).1
  have X0 : Stand p l e ({ frames := 2, cells := 0, slots := 0, locals := 33 } : Room) s m #[(.ref b)] below meth c s₁ [] 0 0 := Stand.of_body Bd
  have e0 : s₁.heap = h0 := by rw [← hh, Bd.state]; rfl
  have N0 := Fr.nil n0
  refine Out.start (Q := own_QLH2 Z b kb x0 x1 h0 n0) (own_efLH2 m b ) ?_
  refine Out.via (g' := (mkF m 1 #[vR b] [(.ref b)])) (fun _ k => XS.aloadN X0.here hx rfl (hb hby own_d18_0) rfl rfl k) ?_
  obtain ⟨cl_p, Ar_p, q_p, S_p, M_p, H_p, G_p⟩ := id Ab
  refine Out.via (g' := (mkF m 2 #[vR b] [(.int cl_p.slots.size.toInt32)])) (fun _ k => X0.arraylength hx (by rw [e0]; exact Ar_p.1) (State.isArrayOf_alike hZ.alike Ar_p.2.1) (g := (mkF m 1 #[vR b] [(.ref b)])) rfl rfl (hb hby own_d18_1) _ k) ?_
  rw [len_of S_p M_p]
  refine Out.via (g' := (mkF m 42 #[vR b] [])) (fun _ k => X0.lookupswitchMiss hx (g := (mkF m 2 #[vR b] [(.int (2 : Int32))])) rfl rfl (hb hby own_d18_2) (by decide) (by decide) (by show (0 : Int) ≤ ((2 : Nat) : Int) + 40; decide) _ k) ?_
  refine Out.via (g' := (mkF m 43 #[vR b] [(.ref b)])) (fun _ k => XS.aloadN X0.here hx rfl (hb hby own_d18_42) rfl rfl k) ?_
  refine Out.via (g' := (mkF m 44 #[vR b] [(.int (0 : Int32)), (.ref b)])) (fun _ k => XS.iconst X0.here hx rfl (hb hby own_d18_43) k) ?_
  refine Out.via (g' := (mkF m 45 #[vR b] [(.ref b), (.int (0 : Int32)), (.ref b)])) (fun _ k => XS.aloadN X0.here hx rfl (hb hby own_d18_44) rfl rfl k) ?_
  obtain ⟨cl_q, Ar_q, q_q, S_q, M_q, H_q, G_q⟩ := id Ab
  refine Out.via (g' := (mkF m 46 #[vR b] [(.int cl_q.slots.size.toInt32), (.int (0 : Int32)), (.ref b)])) (fun _ k => X0.arraylength hx (by rw [e0]; exact Ar_q.1) (State.isArrayOf_alike hZ.alike Ar_q.2.1) (g := (mkF m 45 #[vR b] [(.ref b), (.int (0 : Int32)), (.ref b)])) rfl rfl (hb hby own_d18_45) _ k) ?_
  rw [len_of S_q M_q]
  refine Out.via (g' := (mkF m 47 #[vR b] [(.int (0 : Int32)), (.int (2 : Int32)), (.int (0 : Int32)), (.ref b)])) (fun _ k => XS.iconst X0.here hx rfl (hb hby own_d18_46) k) ?_
  refine Out.via (g' := (mkF m 48 #[vR b] [(.int (4 : Int32)), (.int (0 : Int32)), (.int (2 : Int32)), (.int (0 : Int32)), (.ref b)])) (fun _ k => XS.iconst X0.here hx rfl (hb hby own_d18_47) k) ?_
  obtain ⟨_, _, ⟨T1, L1, kc1, ks1⟩, -, X1, ⟨Lc1, hQ1, l1, y1, z1⟩, st1⟩ := Jvm.LawKit.callS X0 hx (y := own_y19) hown (mvT hZ (W_ hw 153 rfl)) (mvT hZ (W_ hw 154 rfl)) (mvT hZ (W_ hw 151 rfl)) (mvT hZ (W_ hw 155 rfl)) (by decide) (backOf (W := 0) (own_rmV4 l Z a0 hw [] b kb x0 x1 h0 n0 O Ab Eb) hZ (W_ hw 155 rfl) (W_ hw 151 rfl) (by decide) (by decide)) (g := (mkF m 48 #[vR b] [(.int (4 : Int32)), (.int (0 : Int32)), (.int (2 : Int32)), (.int (0 : Int32)), (.ref b)])) rfl (by rw [hml]; rfl) (argsL := [(.ref b), (.int (0 : Int32)), (.int (2 : Int32)), (.int (0 : Int32)), (.int (4 : Int32))]) (rest := []) (lenOf own_pd23 rfl) rfl (by show 2 * 0 + _ ≤ _; exact Nat.le_of_eq rfl) (hb hby own_d18_48) (fun _ _ => ⟨rfl, e0, (by decide : 0 + 0 ≤ _), (by decide : 0 + 0 ≤ _)⟩)
  dsimp only [Pt.U, Pt.locs, Pt.cells, Pt.slots] at X1 l1 y1 z1 st1 hQ1
  subst l1 y1 z1
  obtain ⟨rfl, Nq1, eq1⟩ := hQ1
  replace N0 := Fr.app N0 Nq1
  refine Out.via (g' := (mkF m 51 #[vR b] [(.int (own_H2 x0 x1))])) st1 ?_
  exact Out.endN X1 (fun h => by rw [Bd.returns] at h; cases h) Bd.notSynchronized (by decide) (by decide) (by rw [eq1]; exact ⟨rfl, N0, rfl⟩) (fun fs hr => own_retI X1 hx Bd.returns (hb hby own_d18_51) hr)
theorem own_d19_0 : decode jdk_65_method_153_code 0 = .ok (.aload_n 0, 1) := by decide +kernel
theorem own_d19_1 : decode jdk_65_method_153_code 1 = .ok (.ifnonnull 5, 3) := by decide +kernel
theorem own_d19_6 : decode jdk_65_method_153_code 6 = .ok (.aload_n 0, 1) := by decide +kernel
theorem own_d19_7 : decode jdk_65_method_153_code 7 = .ok (.arraylength, 1) := by decide +kernel
theorem own_d19_8 : decode jdk_65_method_153_code 8 = .ok (.lookupswitch 41 #[(0, 28), (1, 32)], 28) := by decide +kernel
theorem own_d19_36 : decode jdk_65_method_153_code 36 = .ok (.iconst 1, 1) := by decide +kernel
theorem own_d19_37 : decode jdk_65_method_153_code 37 = .ok (.goto 22, 3) := by decide +kernel
theorem own_d19_59 : decode jdk_65_method_153_code 59 = .ok (.ireturn, 1) := by decide +kernel
theorem own_efAH0 (m : MethodId) (x0 : Addr) : entryFrame m #[(.ref x0)] 1 = mkF m 0 #[.val (.ref x0)] [] := by first | (simp [entryFrame, mkF, argsToLocals, Value.category]; done) | rfl
abbrev own_QAH0 (Z : State) (b : Addr) (kb : ClassId) (x0 x1 : Int32) (h0 : Heap) (n0 : Nat) : Option Value → Heap → List Loc → Prop := fun v h L => v = some (.int (own_K0 x0 x1)) ∧ Fr n0 L ∧ h = h0
set_option maxRecDepth 65536 in
set_option maxHeartbeats 40000000 in
theorem own_rmAH0 (l : Launch) (Z : State) (a0 : Array Value) (hw : ∀ d ∈ tables_1, d.before a0 Z = true) (ws : List Jvm.Cond) (b : Addr) (kb : ClassId) (x0 x1 : Int32) (h0 : Heap) (n0 : Nat) (O : Old Z n0 h0) (Ab : Arv Z h0 b kb .byte (0 : Int32) [] (.int (0 : Int32))) (Eb : Exa Z h0 b "[B") :
    MetFree l own_y21 (head1 (Jvm.Cond.code own_y21 jdk_65_method_153_code 1 (some .int) :: ws) ({ frames := 2, cells := 0, slots := 0, locals := 33 } : Room)) (fun aa U => aa = #[(.ref b)] ∧ Z.Warmed39 U.vm ∧ U.heap = h0) (fun _ _ _ _ _ => True) (fun _ U o U' => ∃ v L, o = .returned v ∧ (own_QAH0 Z b kb x0 x1 h0 n0) v U'.heap L ∧ FrameEnd U o U' L ({ frames := 2, cells := 0, slots := 0, locals := 33 } : Room).cells ({ frames := 2, cells := 0, slots := 0, locals := 33 } : Room).slots) := by
  refine MetFree.of_bodySF (plainFor_of_name own_pn4) hisR ?_
  intro p e s m args below meth c s₁ Bd hml0 hP hK
  obtain ⟨rfl, hZ, hh⟩ := hP
  have hx := Bd.exec
  have hby := Bd.bytes
  have hml : c.maxLocals = 1 := hml0
  have hown : s.vm.findClass "java/util/Arrays" = some m.cls := findClass_of_methodNamed Bd.named
  have hnm := (name_of_methodNamed Bd.named Bd.method).1
  have X0 : Stand p l e ({ frames := 2, cells := 0, slots := 0, locals := 33 } : Room) s m #[(.ref b)] below meth c s₁ [] 0 0 := Stand.of_body Bd
  have e0 : s₁.heap = h0 := by rw [← hh, Bd.state]; rfl
  have N0 := Fr.nil n0
  refine Out.start (Q := own_QAH0 Z b kb x0 x1 h0 n0) (own_efAH0 m b ) ?_
  refine Out.via (g' := (mkF m 1 #[vR b] [(.ref b)])) (fun _ k => XS.aloadN X0.here hx rfl (hb hby own_d19_0) rfl rfl k) ?_
  refine Out.via (g' := (mkF m 6 #[vR b] [])) (fun _ k => XS.ifnonnullYes X0.here hx rfl (pc0 := 1) (pc' := 6) rfl (hb hby own_d19_1) rfl (by decide) (by decide) k) ?_
  refine Out.via (g' := (mkF m 7 #[vR b] [(.ref b)])) (fun _ k => XS.aloadN X0.here hx rfl (hb hby own_d19_6) rfl rfl k) ?_
  obtain ⟨cl_p, Ar_p, q_p, S_p, M_p, H_p, G_p⟩ := id Ab
  refine Out.via (g' := (mkF m 8 #[vR b] [(.int cl_p.slots.size.toInt32)])) (fun _ k => X0.arraylength hx (by rw [e0]; exact Ar_p.1) (State.isArrayOf_alike hZ.alike Ar_p.2.1) (g := (mkF m 7 #[vR b] [(.ref b)])) rfl rfl (hb hby own_d19_7) _ k) ?_
  rw [len_of S_p M_p]
  refine Out.via (g' := (mkF m 36 #[vR b] [])) (fun _ k => X0.lookupswitchHit hx (g := (mkF m 8 #[vR b] [(.int (0 : Int32))])) rfl rfl (hb hby own_d19_8) (by decide) (a := 0) (off := 28) (by decide) (by show (0 : Int) ≤ ((8 : Nat) : Int) + 28; decide) _ k) ?_
  refine Out.via (g' := (mkF m 37 #[vR b] [(.int (1 : Int32))])) (fun _ k => XS.iconst X0.here hx rfl (hb hby own_d19_36) k) ?_
  refine Out.via (g' := (mkF m 59 #[vR b] [(.int (1 : Int32))])) (fun _ k => XS.goto X0.here hx rfl (pc0 := 37) (pc' := 59) rfl (hb hby own_d19_37) (by decide) (by decide) k) ?_
  exact Out.endN X0 (fun h => by rw [Bd.returns] at h; cases h) Bd.notSynchronized (by decide) (by decide) (by rw [e0]; exact ⟨rfl, N0, rfl⟩) (fun fs hr => own_retI X0 hx Bd.returns (hb hby own_d19_59) hr)
theorem own_d19_40 : decode jdk_65_method_153_code 40 = .ok (.bipush 31, 2) := by decide +kernel
theorem own_d19_42 : decode jdk_65_method_153_code 42 = .ok (.aload_n 0, 1) := by decide +kernel
theorem own_d19_43 : decode jdk_65_method_153_code 43 = .ok (.iconst 0, 1) := by decide +kernel
theorem own_d19_44 : decode jdk_65_method_153_code 44 = .ok (.baload, 1) := by decide +kernel
theorem own_d19_45 : decode jdk_65_method_153_code 45 = .ok (.iadd, 1) := by decide +kernel
theorem own_d19_46 : decode jdk_65_method_153_code 46 = .ok (.goto 13, 3) := by decide +kernel
theorem own_efAH1 (m : MethodId) (x0 : Addr) : entryFrame m #[(.ref x0)] 1 = mkF m 0 #[.val (.ref x0)] [] := by first | (simp [entryFrame, mkF, argsToLocals, Value.category]; done) | rfl
abbrev own_QAH1 (Z : State) (b : Addr) (kb : ClassId) (x0 x1 : Int32) (h0 : Heap) (n0 : Nat) : Option Value → Heap → List Loc → Prop := fun v h L => v = some (.int (own_K1 x0 x1)) ∧ Fr n0 L ∧ h = h0
set_option maxRecDepth 65536 in
set_option maxHeartbeats 40000000 in
theorem own_rmAH1 (l : Launch) (Z : State) (a0 : Array Value) (hw : ∀ d ∈ tables_1, d.before a0 Z = true) (ws : List Jvm.Cond) (b : Addr) (kb : ClassId) (x0 x1 : Int32) (h0 : Heap) (n0 : Nat) (O : Old Z n0 h0) (Ab : Arv Z h0 b kb .byte (1 : Int32) [(.int x0)] (.int (0 : Int32))) (Eb : Exa Z h0 b "[B") :
    MetFree l own_y21 (head1 (Jvm.Cond.code own_y21 jdk_65_method_153_code 1 (some .int) :: ws) ({ frames := 2, cells := 0, slots := 0, locals := 33 } : Room)) (fun aa U => aa = #[(.ref b)] ∧ Z.Warmed39 U.vm ∧ U.heap = h0) (fun _ _ _ _ _ => True) (fun _ U o U' => ∃ v L, o = .returned v ∧ (own_QAH1 Z b kb x0 x1 h0 n0) v U'.heap L ∧ FrameEnd U o U' L ({ frames := 2, cells := 0, slots := 0, locals := 33 } : Room).cells ({ frames := 2, cells := 0, slots := 0, locals := 33 } : Room).slots) := by
  refine MetFree.of_bodySF (plainFor_of_name own_pn4) hisR ?_
  intro p e s m args below meth c s₁ Bd hml0 hP hK
  obtain ⟨rfl, hZ, hh⟩ := hP
  have hx := Bd.exec
  have hby := Bd.bytes
  have hml : c.maxLocals = 1 := hml0
  have hown : s.vm.findClass "java/util/Arrays" = some m.cls := findClass_of_methodNamed Bd.named
  have hnm := (name_of_methodNamed Bd.named Bd.method).1
  have X0 : Stand p l e ({ frames := 2, cells := 0, slots := 0, locals := 33 } : Room) s m #[(.ref b)] below meth c s₁ [] 0 0 := Stand.of_body Bd
  have e0 : s₁.heap = h0 := by rw [← hh, Bd.state]; rfl
  have N0 := Fr.nil n0
  refine Out.start (Q := own_QAH1 Z b kb x0 x1 h0 n0) (own_efAH1 m b ) ?_
  refine Out.via (g' := (mkF m 1 #[vR b] [(.ref b)])) (fun _ k => XS.aloadN X0.here hx rfl (hb hby own_d19_0) rfl rfl k) ?_
  refine Out.via (g' := (mkF m 6 #[vR b] [])) (fun _ k => XS.ifnonnullYes X0.here hx rfl (pc0 := 1) (pc' := 6) rfl (hb hby own_d19_1) rfl (by decide) (by decide) k) ?_
  refine Out.via (g' := (mkF m 7 #[vR b] [(.ref b)])) (fun _ k => XS.aloadN X0.here hx rfl (hb hby own_d19_6) rfl rfl k) ?_
  obtain ⟨cl_p, Ar_p, q_p, S_p, M_p, H_p, G_p⟩ := id Ab
  refine Out.via (g' := (mkF m 8 #[vR b] [(.int cl_p.slots.size.toInt32)])) (fun _ k => X0.arraylength hx (by rw [e0]; exact Ar_p.1) (State.isArrayOf_alike hZ.alike Ar_p.2.1) (g := (mkF m 7 #[vR b] [(.ref b)])) rfl rfl (hb hby own_d19_7) _ k) ?_
  rw [len_of S_p M_p]
  refine Out.via (g' := (mkF m 40 #[vR b] [])) (fun _ k => X0.lookupswitchHit hx (g := (mkF m 8 #[vR b] [(.int (1 : Int32))])) rfl rfl (hb hby own_d19_8) (by decide) (a := 1) (off := 32) (by decide) (by show (0 : Int) ≤ ((8 : Nat) : Int) + 32; decide) _ k) ?_
  refine Out.via (g' := (mkF m 42 #[vR b] [(.int (31 : Int32))])) (fun _ k => XS.bipush X0.here hx rfl (hb hby own_d19_40) k) ?_
  refine Out.via (g' := (mkF m 43 #[vR b] [(.ref b), (.int (31 : Int32))])) (fun _ k => XS.aloadN X0.here hx rfl (hb hby own_d19_42) rfl rfl k) ?_
  refine Out.via (g' := (mkF m 44 #[vR b] [(.int (0 : Int32)), (.ref b), (.int (31 : Int32))])) (fun _ k => XS.iconst X0.here hx rfl (hb hby own_d19_43) k) ?_
  obtain ⟨cl_q, Ar_q, q_q, S_q, M_q, H_q, G_q⟩ := id Ab
  have hin_q : ¬ ((0 : Int32) < 0 ∨ cl_q.slots.size ≤ ((0 : Int32)).toNatClampNeg) := inb_of S_q ⟨by decide, by decide⟩
  refine Out.via (g' := (mkF m 45 #[vR b] [(.int x0), (.int (31 : Int32))])) (fun _ k => X0.baloadBytes hx (j := (0 : Int32)) (v := (.int x0)) (by rw [e0]; exact Ar_q.1) (State.isArrayOf_alike hZ.alike Ar_q.2.1) Ar_q.2.2 hin_q (H_q.at hin_q rfl) (g := (mkF m 44 #[vR b] [(.int (0 : Int32)), (.ref b), (.int (31 : Int32))])) rfl rfl (hb hby own_d19_44) _ k) ?_
  refine Out.via (g' := (mkF m 46 #[vR b] [(.int ((31 : Int32) + x0))])) (fun _ k => XS.iadd X0.here hx rfl (hb hby own_d19_45) rfl k) ?_
  refine Out.via (g' := (mkF m 59 #[vR b] [(.int ((31 : Int32) + x0))])) (fun _ k => XS.goto X0.here hx rfl (pc0 := 46) (pc' := 59) rfl (hb hby own_d19_46) (by decide) (by decide) k) ?_
  exact Out.endN X0 (fun h => by rw [Bd.returns] at h; cases h) Bd.notSynchronized (by decide) (by decide) (by rw [e0]; exact ⟨rfl, N0, rfl⟩) (fun fs hr => own_retI X0 hx Bd.returns (hb hby own_d19_59) hr)
theorem own_d19_49 : decode jdk_65_method_153_code 49 = .ok (.aload_n 0, 1) := by decide +kernel
theorem own_d19_50 : decode jdk_65_method_153_code 50 = .ok (.iconst 0, 1) := by decide +kernel
theorem own_d19_51 : decode jdk_65_method_153_code 51 = .ok (.aload_n 0, 1) := by decide +kernel
theorem own_d19_52 : decode jdk_65_method_153_code 52 = .ok (.arraylength, 1) := by decide +kernel
theorem own_d19_53 : decode jdk_65_method_153_code 53 = .ok (.iconst 1, 1) := by decide +kernel
theorem own_d19_54 : decode jdk_65_method_153_code 54 = .ok (.bipush 8, 2) := by decide +kernel
theorem own_d19_56 : decode jdk_65_method_153_code 56 = .ok (.invokestatic 379, 3) := by decide +kernel
theorem own_efAH2 (m : MethodId) (x0 : Addr) : entryFrame m #[(.ref x0)] 1 = mkF m 0 #[.val (.ref x0)] [] := by first | (simp [entryFrame, mkF, argsToLocals, Value.category]; done) | rfl
abbrev own_QAH2 (Z : State) (b : Addr) (kb : ClassId) (x0 x1 : Int32) (h0 : Heap) (n0 : Nat) : Option Value → Heap → List Loc → Prop := fun v h L => v = some (.int (own_K2 x0 x1)) ∧ Fr n0 L ∧ h = h0
set_option maxRecDepth 65536 in
set_option maxHeartbeats 40000000 in
theorem own_rmAH2 (l : Launch) (Z : State) (a0 : Array Value) (hw : ∀ d ∈ tables_1, d.before a0 Z = true) (ws : List Jvm.Cond) (b : Addr) (kb : ClassId) (x0 x1 : Int32) (h0 : Heap) (n0 : Nat) (O : Old Z n0 h0) (Ab : Arv Z h0 b kb .byte (2 : Int32) [(.int x0), (.int x1)] (.int (0 : Int32))) (Eb : Exa Z h0 b "[B") :
    MetFree l own_y21 (head1 (Jvm.Cond.code own_y21 jdk_65_method_153_code 1 (some .int) :: ws) ({ frames := 2, cells := 0, slots := 0, locals := 33 } : Room)) (fun aa U => aa = #[(.ref b)] ∧ Z.Warmed39 U.vm ∧ U.heap = h0) (fun _ _ _ _ _ => True) (fun _ U o U' => ∃ v L, o = .returned v ∧ (own_QAH2 Z b kb x0 x1 h0 n0) v U'.heap L ∧ FrameEnd U o U' L ({ frames := 2, cells := 0, slots := 0, locals := 33 } : Room).cells ({ frames := 2, cells := 0, slots := 0, locals := 33 } : Room).slots) := by
  refine MetFree.of_bodySF (plainFor_of_name own_pn4) hisR ?_
  intro p e s m args below meth c s₁ Bd hml0 hP hK
  obtain ⟨rfl, hZ, hh⟩ := hP
  have hx := Bd.exec
  have hby := Bd.bytes
  have hml : c.maxLocals = 1 := hml0
  have hown : s.vm.findClass "java/util/Arrays" = some m.cls := findClass_of_methodNamed Bd.named
  have hnm := (name_of_methodNamed Bd.named Bd.method).1
  have X0 : Stand p l e ({ frames := 2, cells := 0, slots := 0, locals := 33 } : Room) s m #[(.ref b)] below meth c s₁ [] 0 0 := Stand.of_body Bd
  have e0 : s₁.heap = h0 := by rw [← hh, Bd.state]; rfl
  have N0 := Fr.nil n0
  refine Out.start (Q := own_QAH2 Z b kb x0 x1 h0 n0) (own_efAH2 m b ) ?_
  refine Out.via (g' := (mkF m 1 #[vR b] [(.ref b)])) (fun _ k => XS.aloadN X0.here hx rfl (hb hby own_d19_0) rfl rfl k) ?_
  refine Out.via (g' := (mkF m 6 #[vR b] [])) (fun _ k => XS.ifnonnullYes X0.here hx rfl (pc0 := 1) (pc' := 6) rfl (hb hby own_d19_1) rfl (by decide) (by decide) k) ?_
  refine Out.via (g' := (mkF m 7 #[vR b] [(.ref b)])) (fun _ k => XS.aloadN X0.here hx rfl (hb hby own_d19_6) rfl rfl k) ?_
  obtain ⟨cl_p, Ar_p, q_p, S_p, M_p, H_p, G_p⟩ := id Ab
  refine Out.via (g' := (mkF m 8 #[vR b] [(.int cl_p.slots.size.toInt32)])) (fun _ k => X0.arraylength hx (by rw [e0]; exact Ar_p.1) (State.isArrayOf_alike hZ.alike Ar_p.2.1) (g := (mkF m 7 #[vR b] [(.ref b)])) rfl rfl (hb hby own_d19_7) _ k) ?_
  rw [len_of S_p M_p]
  refine Out.via (g' := (mkF m 49 #[vR b] [])) (fun _ k => X0.lookupswitchMiss hx (g := (mkF m 8 #[vR b] [(.int (2 : Int32))])) rfl rfl (hb hby own_d19_8) (by decide) (by decide) (by show (0 : Int) ≤ ((8 : Nat) : Int) + 41; decide) _ k) ?_
  refine Out.via (g' := (mkF m 50 #[vR b] [(.ref b)])) (fun _ k => XS.aloadN X0.here hx rfl (hb hby own_d19_49) rfl rfl k) ?_
  refine Out.via (g' := (mkF m 51 #[vR b] [(.int (0 : Int32)), (.ref b)])) (fun _ k => XS.iconst X0.here hx rfl (hb hby own_d19_50) k) ?_
  refine Out.via (g' := (mkF m 52 #[vR b] [(.ref b), (.int (0 : Int32)), (.ref b)])) (fun _ k => XS.aloadN X0.here hx rfl (hb hby own_d19_51) rfl rfl k) ?_
  obtain ⟨cl_q, Ar_q, q_q, S_q, M_q, H_q, G_q⟩ := id Ab
  refine Out.via (g' := (mkF m 53 #[vR b] [(.int cl_q.slots.size.toInt32), (.int (0 : Int32)), (.ref b)])) (fun _ k => X0.arraylength hx (by rw [e0]; exact Ar_q.1) (State.isArrayOf_alike hZ.alike Ar_q.2.1) (g := (mkF m 52 #[vR b] [(.ref b), (.int (0 : Int32)), (.ref b)])) rfl rfl (hb hby own_d19_52) _ k) ?_
  rw [len_of S_q M_q]
  refine Out.via (g' := (mkF m 54 #[vR b] [(.int (1 : Int32)), (.int (2 : Int32)), (.int (0 : Int32)), (.ref b)])) (fun _ k => XS.iconst X0.here hx rfl (hb hby own_d19_53) k) ?_
  refine Out.via (g' := (mkF m 56 #[vR b] [(.int (8 : Int32)), (.int (1 : Int32)), (.int (2 : Int32)), (.int (0 : Int32)), (.ref b)])) (fun _ k => XS.bipush X0.here hx rfl (hb hby own_d19_54) k) ?_
  obtain ⟨_, _, ⟨T1, L1, kc1, ks1⟩, -, X1, ⟨Lc1, hQ1, l1, y1, z1⟩, st1⟩ := Jvm.LawKit.callS X0 hx (y := own_y19) hown (mvT hZ (W_ hw 178 rfl)) (mvT hZ (W_ hw 154 rfl)) (mvT hZ (W_ hw 151 rfl)) (mvT hZ (W_ hw 155 rfl)) (by decide) (backOf (W := 0) (own_rmV8 l Z a0 hw [] b kb x0 x1 h0 n0 O Ab Eb) hZ (W_ hw 155 rfl) (W_ hw 151 rfl) (by decide) (by decide)) (g := (mkF m 56 #[vR b] [(.int (8 : Int32)), (.int (1 : Int32)), (.int (2 : Int32)), (.int (0 : Int32)), (.ref b)])) rfl (by rw [hml]; rfl) (argsL := [(.ref b), (.int (0 : Int32)), (.int (2 : Int32)), (.int (1 : Int32)), (.int (8 : Int32))]) (rest := []) (lenOf own_pd23 rfl) rfl (by show 2 * 0 + _ ≤ _; exact Nat.le_of_eq rfl) (hb hby own_d19_56) (fun _ _ => ⟨rfl, e0, (by decide : 0 + 0 ≤ _), (by decide : 0 + 0 ≤ _)⟩)
  dsimp only [Pt.U, Pt.locs, Pt.cells, Pt.slots] at X1 l1 y1 z1 st1 hQ1
  subst l1 y1 z1
  obtain ⟨rfl, Nq1, eq1⟩ := hQ1
  replace N0 := Fr.app N0 Nq1
  refine Out.via (g' := (mkF m 59 #[vR b] [(.int (own_K2 x0 x1))])) st1 ?_
  exact Out.endN X1 (fun h => by rw [Bd.returns] at h; cases h) Bd.notSynchronized (by decide) (by decide) (by rw [eq1]; exact ⟨rfl, N0, rfl⟩) (fun fs hr => own_retI X1 hx Bd.returns (hb hby own_d19_59) hr)
theorem own_d20_0 : decode jdk_42_method_154_code 0 = .ok (.getstatic 38, 3) := by decide +kernel
theorem own_d20_3 : decode jdk_42_method_154_code 3 = .ok (.ifCond .eq 14, 3) := by decide +kernel
theorem own_d20_6 : decode jdk_42_method_154_code 6 = .ok (.aload_n 0, 1) := by decide +kernel
theorem own_d20_7 : decode jdk_42_method_154_code 7 = .ok (.getfield 15, 3) := by decide +kernel
theorem own_d20_10 : decode jdk_42_method_154_code 10 = .ok (.ifCond .ne 7, 3) := by decide +kernel
theorem own_d20_13 : decode jdk_42_method_154_code 13 = .ok (.iconst 1, 1) := by decide +kernel
theorem own_d20_14 : decode jdk_42_method_154_code 14 = .ok (.goto 4, 3) := by decide +kernel
theorem own_d20_18 : decode jdk_42_method_154_code 18 = .ok (.ireturn, 1) := by decide +kernel
theorem own_efIL (m : MethodId) (x0 : Addr) : entryFrame m #[(.ref x0)] 1 = mkF m 0 #[.val (.ref x0)] [] := by first | (simp [entryFrame, mkF, argsToLocals, Value.category]; done) | rfl
abbrev own_QIL (Z : State) (a : Addr) (G1 : Int32) (h0 : Heap) (n0 : Nat) : Option Value → Heap → List Loc → Prop := fun v h L => v = some (.int (1 : Int32)) ∧ Fr n0 L ∧ h = h0
set_option maxRecDepth 65536 in
set_option maxHeartbeats 40000000 in
theorem own_rmIL (l : Launch) (Z : State) (a0 : Array Value) (hw : ∀ d ∈ tables_1, d.before a0 Z = true) (ws : List Jvm.Cond) (a : Addr) (G1 : Int32) (h0 : Heap) (n0 : Nat) (O : Old Z n0 h0) (Cd : Fld Z h0 a "java/lang/String" "coder" "B" (.int (0 : Int32))) (O2 : Sta Z Z.heap "java/lang/String" "COMPACT_STRINGS" "Z" (.int G1)) (P5 : ¬ (G1 = (0 : Int32))) :
    MetFree l own_y22 (head1 (Jvm.Cond.code own_y22 jdk_42_method_154_code 1 (some .boolean) :: ws) ({ frames := 0, cells := 0, slots := 0, locals := 0 } : Room)) (fun aa U => aa = #[(.ref a)] ∧ Z.Warmed39 U.vm ∧ U.heap = h0) (fun _ _ _ _ _ => True) (fun _ U o U' => ∃ v L, o = .returned v ∧ (own_QIL Z a G1 h0 n0) v U'.heap L ∧ FrameEnd U o U' L ({ frames := 0, cells := 0, slots := 0, locals := 0 } : Room).cells ({ frames := 0, cells := 0, slots := 0, locals := 0 } : Room).slots) := by
  refine MetFree.of_bodySF (plainFor_of_name own_pn6) hisR ?_
  intro p e s m args below meth c s₁ Bd hml0 hP hK
  obtain ⟨rfl, hZ, hh⟩ := hP
  have hx := Bd.exec
  have hby := Bd.bytes
  have hml : c.maxLocals = 1 := hml0
  have hown : s.vm.findClass "java/lang/String" = some m.cls := findClass_of_methodNamed Bd.named
  have hnm := (name_of_methodNamed Bd.named Bd.method).1
  have X0 : Stand p l e ({ frames := 0, cells := 0, slots := 0, locals := 0 } : Room) s m #[(.ref a)] below meth c s₁ [] 0 0 := Stand.of_body Bd
  have e0 : s₁.heap = h0 := by rw [← hh, Bd.state]; rfl
  have N0 := Fr.nil n0
  refine Out.start (Q := own_QIL Z a G1 h0 n0) (own_efIL m a ) ?_
  obtain ⟨T1, X1, e1, st1⟩ := getS2 X0 hx hZ hown (host := "") (Or.inl (W_ hw 18 rfl)) Via.refl e0 (O2.ext O.2) (g := (mkF m 0 #[vR a] [])) rfl (hb hby own_d20_0)
  refine Out.via (g' := (mkF m 3 #[vR a] [(.int G1)])) st1 ?_
  refine Out.via (g' := (mkF m 6 #[vR a] [])) (fun _ k => XS.ifNo X1.here hx rfl (hb hby own_d20_3) rfl ((if0 _ _).trans (feq P5).1) k) ?_
  refine Out.via (g' := (mkF m 7 #[vR a] [(.ref a)])) (fun _ k => XS.aloadN X1.here hx rfl (hb hby own_d20_6) rfl rfl k) ?_
  obtain ⟨T2, X2, e2, st2⟩ := getF X1 hx hZ hown (host := "") (Or.inl (W_ hw 30 rfl)) Via.refl e1 Cd (g := (mkF m 7 #[vR a] [(.ref a)])) rfl rfl (hb hby own_d20_7)
  refine Out.via (g' := (mkF m 10 #[vR a] [(.int (0 : Int32))])) st2 ?_
  refine Out.via (g' := (mkF m 13 #[vR a] [])) (fun _ k => XS.ifNo X2.here hx rfl (hb hby own_d20_10) rfl ((if0 _ _).trans (teq rfl).2) k) ?_
  refine Out.via (g' := (mkF m 14 #[vR a] [(.int (1 : Int32))])) (fun _ k => XS.iconst X2.here hx rfl (hb hby own_d20_13) k) ?_
  refine Out.via (g' := (mkF m 18 #[vR a] [(.int (1 : Int32))])) (fun _ k => XS.goto X2.here hx rfl (pc0 := 14) (pc' := 18) rfl (hb hby own_d20_14) (by decide) (by decide) k) ?_
  exact Out.endN X2 (fun h => by rw [Bd.returns] at h; cases h) Bd.notSynchronized (by decide) (by decide) (by rw [e2]; exact ⟨rfl, N0, rfl⟩) (fun fs hr => Jvm.RoadKit.retN X2 hx (t := .boolean) Bd.returns (by simp) (hb hby own_d20_18) hr)
theorem own_d21_0 : decode jdk_42_method_78_code 0 = .ok (.aload_n 0, 1) := by decide +kernel
theorem own_d21_1 : decode jdk_42_method_78_code 1 = .ok (.getfield 19, 3) := by decide +kernel
theorem own_d21_4 : decode jdk_42_method_78_code 4 = .ok (.istore_n 1, 1) := by decide +kernel
theorem own_d21_5 : decode jdk_42_method_78_code 5 = .ok (.iload_n 1, 1) := by decide +kernel
theorem own_d21_6 : decode jdk_42_method_78_code 6 = .ok (.ifCond .ne 52, 3) := by decide +kernel
theorem own_d21_9 : decode jdk_42_method_78_code 9 = .ok (.aload_n 0, 1) := by decide +kernel
theorem own_d21_10 : decode jdk_42_method_78_code 10 = .ok (.getfield 23, 3) := by decide +kernel
theorem own_d21_13 : decode jdk_42_method_78_code 13 = .ok (.ifCond .ne 45, 3) := by decide +kernel
theorem own_d21_16 : decode jdk_42_method_78_code 16 = .ok (.aload_n 0, 1) := by decide +kernel
theorem own_d21_17 : decode jdk_42_method_78_code 17 = .ok (.invokevirtual 492, 3) := by decide +kernel
theorem own_pd24 : parseMethodDescriptor "()Z" = some ⟨[], some .boolean⟩ := by decide +kernel
theorem own_d21_20 : decode jdk_42_method_78_code 20 = .ok (.ifCond .eq 13, 3) := by decide +kernel
theorem own_d21_23 : decode jdk_42_method_78_code 23 = .ok (.aload_n 0, 1) := by decide +kernel
theorem own_d21_24 : decode jdk_42_method_78_code 24 = .ok (.getfield 9, 3) := by decide +kernel
theorem own_d21_27 : decode jdk_42_method_78_code 27 = .ok (.invokestatic 628, 3) := by decide +kernel
theorem own_pd25 : parseMethodDescriptor "([B)I" = some ⟨[(.array .byte)], some .int⟩ := by decide +kernel
theorem own_d21_30 : decode jdk_42_method_78_code 30 = .ok (.goto 10, 3) := by decide +kernel
theorem own_d21_40 : decode jdk_42_method_78_code 40 = .ok (.istore_n 1, 1) := by decide +kernel
theorem own_d21_41 : decode jdk_42_method_78_code 41 = .ok (.iload_n 1, 1) := by decide +kernel
theorem own_d21_42 : decode jdk_42_method_78_code 42 = .ok (.ifCond .ne 11, 3) := by decide +kernel
theorem own_d21_45 : decode jdk_42_method_78_code 45 = .ok (.aload_n 0, 1) := by decide +kernel
theorem own_d21_46 : decode jdk_42_method_78_code 46 = .ok (.iconst 1, 1) := by decide +kernel
theorem own_d21_47 : decode jdk_42_method_78_code 47 = .ok (.putfield 23, 3) := by decide +kernel
theorem own_d21_50 : decode jdk_42_method_78_code 50 = .ok (.goto 8, 3) := by decide +kernel
theorem own_d21_58 : decode jdk_42_method_78_code 58 = .ok (.iload_n 1, 1) := by decide +kernel
theorem own_d21_59 : decode jdk_42_method_78_code 59 = .ok (.ireturn, 1) := by decide +kernel
theorem own_d21_53 : decode jdk_42_method_78_code 53 = .ok (.aload_n 0, 1) := by decide +kernel
theorem own_d21_54 : decode jdk_42_method_78_code 54 = .ok (.iload_n 1, 1) := by decide +kernel
theorem own_d21_55 : decode jdk_42_method_78_code 55 = .ok (.putfield 19, 3) := by decide +kernel
theorem own_efHT1 (m : MethodId) (x0 : Addr) : entryFrame m #[(.ref x0)] 2 = mkF m 0 #[.val (.ref x0), .unset] [] := by first | (simp [entryFrame, mkF, argsToLocals, Value.category]; done) | rfl
abbrev own_QHT1 (Z : State) (a b : Addr) (kb : ClassId) (x0 x1 : Int32) (G1 : Int32) (h0 : Heap) (n0 : Nat) : Option Value → Heap → List Loc → Prop := fun v h L => v = some (.int (own_H1 x0 x1)) ∧ Fr n0 L ∧ Keep h0 h [a] ∧ own_S Z h a b (own_H1 x0 x1)
set_option maxRecDepth 65536 in
set_option maxHeartbeats 40000000 in
theorem own_rmHT1 (l : Launch) (Z : State) (a0 : Array Value) (hw : ∀ d ∈ tables_1, d.before a0 Z = true) (ws : List Jvm.Cond) (a b : Addr) (kb : ClassId) (x0 x1 : Int32) (G1 : Int32) (h0 : Heap) (n0 : Nat) (O : Old Z n0 h0) (g_a : n0 ≤ a) (Sa : own_S Z h0 a b (own_H1 x0 x1)) (Ab : Arv Z h0 b kb .byte (1 : Int32) [(.int x0)] (.int (0 : Int32))) (Eb : Exa Z h0 b "[B") (O2 : Sta Z Z.heap "java/lang/String" "COMPACT_STRINGS" "Z" (.int G1)) (P5 : ¬ (G1 = (0 : Int32))) :
    MetFree l own_y23 (head1 (Jvm.Cond.code own_y23 jdk_42_method_78_code 2 (some .int) :: ws) ({ frames := 3, cells := 0, slots := 0, locals := 45 } : Room)) (fun aa U => aa = #[(.ref a)] ∧ Z.Warmed39 U.vm ∧ U.heap = h0) (fun _ _ _ _ _ => True) (fun _ U o U' => ∃ v L, o = .returned v ∧ (own_QHT1 Z a b kb x0 x1 G1 h0 n0) v U'.heap L ∧ FrameEnd U o U' L ({ frames := 3, cells := 0, slots := 0, locals := 45 } : Room).cells ({ frames := 3, cells := 0, slots := 0, locals := 45 } : Room).slots) := by
  refine MetFree.of_bodySF (plainFor_of_name own_pn6) hisR ?_
  intro p e s m args below meth c s₁ Bd hml0 hP hK
  obtain ⟨rfl, hZ, hh⟩ := hP
  have hx := Bd.exec
  have hby := Bd.bytes
  have hml : c.maxLocals = 2 := hml0
  have hown : s.vm.findClass "java/lang/String" = some m.cls := findClass_of_methodNamed Bd.named
  have hnm := (name_of_methodNamed Bd.named Bd.method).1
  have X0 : Stand p l e ({ frames := 3, cells := 0, slots := 0, locals := 45 } : Room) s m #[(.ref a)] below meth c s₁ [] 0 0 := Stand.of_body Bd
  have e0 : s₁.heap = h0 := by rw [← hh, Bd.state]; rfl
  have N0 := Fr.nil n0
  refine Out.start (Q := own_QHT1 Z a b kb x0 x1 G1 h0 n0) (own_efHT1 m a ) ?_
  have Kp := Keep.refl h0 [a]
  obtain ⟨Es, Cd, Vl, v1, v2, F_hash_a, F_hz_a, hs⟩ := Sa
  rcases hs with ⟨rfl, rfl⟩ | ⟨rfl, rfl, hH⟩ | ⟨rfl, hH⟩
  · refine Out.via (g' := (mkF m 1 #[vR a, vU] [(.ref a)])) (fun _ k => XS.aloadN X0.here hx rfl (hb hby own_d21_0) rfl rfl k) ?_
    obtain ⟨T1, X1, e1, st1⟩ := getF X0 hx hZ hown (host := "") (Or.inl (W_ hw 113 rfl)) Via.refl e0 F_hash_a (g := (mkF m 1 #[vR a, vU] [(.ref a)])) rfl rfl (hb hby own_d21_1)
    refine Out.via (g' := (mkF m 4 #[vR a, vU] [(.int (0 : Int32))])) st1 ?_
    refine Out.via (g' := (mkF m 5 #[vR a, vI 0] [])) (fun _ k => XS.istoreN X1.here hx rfl (hb hby own_d21_4) rfl (l' := #[.val (.ref a), .val (.int (0 : Int32))]) rfl k) ?_
    refine Out.via (g' := (mkF m 6 #[vR a, vI 0] [(.int (0 : Int32))])) (fun _ k => XS.iloadN X1.here hx rfl (hb hby own_d21_5) rfl k) ?_
    refine Out.via (g' := (mkF m 9 #[vR a, vI 0] [])) (fun _ k => XS.ifNo X1.here hx rfl (hb hby own_d21_6) rfl ((if0 _ _).trans (teq rfl).2) k) ?_
    refine Out.via (g' := (mkF m 10 #[vR a, vI 0] [(.ref a)])) (fun _ k => XS.aloadN X1.here hx rfl (hb hby own_d21_9) rfl rfl k) ?_
    obtain ⟨T2, X2, e2, st2⟩ := getF X1 hx hZ hown (host := "") (Or.inl (W_ hw 115 rfl)) Via.refl e1 F_hz_a (g := (mkF m 10 #[vR a, vI 0] [(.ref a)])) rfl rfl (hb hby own_d21_10)
    refine Out.via (g' := (mkF m 13 #[vR a, vI 0] [(.int (0 : Int32))])) st2 ?_
    refine Out.via (g' := (mkF m 16 #[vR a, vI 0] [])) (fun _ k => XS.ifNo X2.here hx rfl (hb hby own_d21_13) rfl ((if0 _ _).trans (teq rfl).2) k) ?_
    refine Out.via (g' := (mkF m 17 #[vR a, vI 0] [(.ref a)])) (fun _ k => XS.aloadN X2.here hx rfl (hb hby own_d21_16) rfl rfl k) ?_
    obtain ⟨cq3, kq3, q3a, q3b, q3c⟩ := isOf hZ e2 Es
    obtain ⟨_, _, ⟨T3, L3, kc3, ks3⟩, -, X3, ⟨Lc3, hQ3, l3, y3, z3⟩, st3⟩ := X2.virtualBack hx (y := own_y22) (z := own_y22) hown (mvT hZ (W_ hw 117 rfl)) (mvT hZ (W_ hw 118 rfl)) (notFace_of_selects (args := #[]) (mvT hZ (W_ hw 120 rfl))) (mvT hZ (W_ hw 120 rfl)) (mvT hZ (W_ hw 119 rfl)) (by decide) (backOf (W := 0) (own_rmIL l Z a0 hw [] a G1 h0 n0 O Cd O2 P5) hZ (W_ hw 121 rfl) (W_ hw 7 rfl) (by decide) (by decide)) q3a q3c (g := (mkF m 17 #[vR a, vI 0] [(.ref a)])) rfl (by rw [hml]; rfl) (Steps.refl _) (argsL := []) (rest := []) (lenOf own_pd24 rfl) rfl (by show 2 * 0 + _ ≤ _; exact Nat.le_of_eq rfl) (hb hby own_d21_17) (fun _ _ => ⟨rfl, e2, (by decide : 0 + 0 ≤ _), (by decide : 0 + 0 ≤ _)⟩)
    dsimp only [Pt.U, Pt.locs, Pt.cells, Pt.slots] at X3 l3 y3 z3 st3 hQ3
    subst l3 y3 z3
    obtain ⟨rfl, Nq3, eq3⟩ := hQ3
    replace N0 := Fr.app N0 Nq3
    refine Out.to (g' := (mkF m 20 #[vR a, vI 0] [(.int (1 : Int32))])) st3 ?_
    refine Out.via (g' := (mkF m 23 #[vR a, vI 0] [])) (fun _ k => XS.ifNo X3.here hx rfl (hb hby own_d21_20) rfl ((if0 _ _).trans (feq (by decide)).1) k) ?_
    refine Out.via (g' := (mkF m 24 #[vR a, vI 0] [(.ref a)])) (fun _ k => XS.aloadN X3.here hx rfl (hb hby own_d21_23) rfl rfl k) ?_
    obtain ⟨T4, X4, e4, st4⟩ := getF X3 hx hZ hown (host := "") (Or.inl (W_ hw 32 rfl)) Via.refl eq3 Vl (g := (mkF m 24 #[vR a, vI 0] [(.ref a)])) rfl rfl (hb hby own_d21_24)
    refine Out.via (g' := (mkF m 27 #[vR a, vI 0] [(.ref b)])) st4 ?_
    obtain ⟨_, _, ⟨T5, L5, kc5, ks5⟩, -, X5, ⟨Lc5, hQ5, l5, y5, z5⟩, st5⟩ := Jvm.LawKit.callS X4 hx (y := own_y20) hown (mvT hZ (W_ hw 122 rfl)) (mvT hZ (W_ hw 123 rfl)) (mvT hZ (W_ hw 124 rfl)) (mvT hZ (W_ hw 125 rfl)) (by decide) (backOf (W := 0) (own_rmLH1 l Z a0 hw [] b kb x0 x1 h0 n0 O Ab Eb) hZ (W_ hw 125 rfl) (W_ hw 124 rfl) (by decide) (by decide)) (g := (mkF m 27 #[vR a, vI 0] [(.ref b)])) rfl (by rw [hml]; rfl) (argsL := [(.ref b)]) (rest := []) (lenOf own_pd25 rfl) rfl (by show 2 * 0 + _ ≤ _; exact Nat.le_of_eq rfl) (hb hby own_d21_27) (fun _ _ => ⟨rfl, e4, (by decide : 0 + 0 ≤ _), (by decide : 0 + 0 ≤ _)⟩)
    dsimp only [Pt.U, Pt.locs, Pt.cells, Pt.slots] at X5 l5 y5 z5 st5 hQ5
    subst l5 y5 z5
    obtain ⟨rfl, Nq5, eq5⟩ := hQ5
    replace N0 := Fr.app N0 Nq5
    refine Out.via (g' := (mkF m 30 #[vR a, vI 0] [(.int (own_H1 x0 x1))])) st5 ?_
    refine Out.via (g' := (mkF m 40 #[vR a, vI 0] [(.int (own_H1 x0 x1))])) (fun _ k => XS.goto X5.here hx rfl (pc0 := 30) (pc' := 40) rfl (hb hby own_d21_30) (by decide) (by decide) k) ?_
    refine Out.via (g' := (mkF m 41 #[vR a, .val (.int (own_H1 x0 x1))] [])) (fun _ k => XS.istoreN X5.here hx rfl (hb hby own_d21_40) rfl (l' := #[.val (.ref a), .val (.int (own_H1 x0 x1))]) rfl k) ?_
    refine Out.via (g' := (mkF m 42 #[vR a, .val (.int (own_H1 x0 x1))] [(.int (own_H1 x0 x1))])) (fun _ k => XS.iloadN X5.here hx rfl (hb hby own_d21_41) rfl k) ?_
    by_cases hH : (own_H1 x0 x1) = (0 : Int32)
    · refine Out.via (g' := (mkF m 45 #[vR a, .val (.int (own_H1 x0 x1))] [])) (fun _ k => XS.ifNo X5.here hx rfl (hb hby own_d21_42) rfl ((if0 _ _).trans (teq hH).2) k) ?_
      refine Out.via (g' := (mkF m 46 #[vR a, .val (.int (own_H1 x0 x1))] [(.ref a)])) (fun _ k => XS.aloadN X5.here hx rfl (hb hby own_d21_45) rfl rfl k) ?_
      refine Out.via (g' := (mkF m 47 #[vR a, .val (.int (own_H1 x0 x1))] [(.int (1 : Int32)), (.ref a)])) (fun _ k => XS.iconst X5.here hx rfl (hb hby own_d21_46) k) ?_
      obtain ⟨T6, h6, X6, e6, W6, st6⟩ := putFN X5 hx hZ hown (W_ hw 115 rfl) Via.refl eq5 F_hz_a Es (Or.inl (W_ hw 116 rfl)) (W_ hw 6 rfl) (ty := .boolean) (v' := (.int (1 : Int32))) (by decide) rfl (by decide) (g := (mkF m 47 #[vR a, .val (.int (own_H1 x0 x1))] [(.int (1 : Int32)), (.ref a)])) rfl rfl (hb hby own_d21_47)
      replace F_hz_a := F_hz_a.same W6
      replace Cd := Cd.other W6 (Or.inr (slot_ne (Or.inr (W_ hw 31 rfl)) (Or.inl (W_ hw 116 rfl)) (by decide) (t := .byte) (t' := .boolean) (by decide) (by decide)))
      replace Vl := Vl.other W6 (Or.inr (slot_ne (Or.inr (W_ hw 33 rfl)) (Or.inl (W_ hw 116 rfl)) (by decide) (t := (.array .byte)) (t' := .boolean) (by decide) (by decide)))
      replace F_hash_a := F_hash_a.other W6 (Or.inr (slot_ne (Or.inl (W_ hw 114 rfl)) (Or.inl (W_ hw 116 rfl)) (by decide) (t := .int) (t' := .boolean) (by decide) (by decide)))
      replace Es := Es.wr W6
      replace O := O.wr W6 g_a
      replace Kp := Kp.wr W6 (Or.inl (List.mem_of_getElem? (i := 0) rfl))
      replace N0 := Fr.snoc X6 N0 g_a
      refine Out.via (g' := (mkF m 50 #[vR a, .val (.int (own_H1 x0 x1))] [])) st6 ?_
      refine Out.via (g' := (mkF m 58 #[vR a, .val (.int (own_H1 x0 x1))] [])) (fun _ k => XS.goto X6.here hx rfl (pc0 := 50) (pc' := 58) rfl (hb hby own_d21_50) (by decide) (by decide) k) ?_
      refine Out.via (g' := (mkF m 59 #[vR a, .val (.int (own_H1 x0 x1))] [(.int (own_H1 x0 x1))])) (fun _ k => XS.iloadN X6.here hx rfl (hb hby own_d21_58) rfl k) ?_
      exact Out.endN X6 (fun h => by rw [Bd.returns] at h; cases h) Bd.notSynchronized (by decide) (by decide) (by rw [e6]; exact ⟨rfl, N0, Kp, Es, Cd, Vl, _, _, F_hash_a, F_hz_a, Or.inr (Or.inl ⟨rfl, rfl, hH⟩)⟩) (fun fs hr => own_retI X6 hx Bd.returns (hb hby own_d21_59) hr)
    · refine Out.via (g' := (mkF m 53 #[vR a, .val (.int (own_H1 x0 x1))] [])) (fun _ k => XS.ifYes X5.here hx rfl (pc0 := 42) (pc' := 53) rfl (hb hby own_d21_42) rfl ((if0 _ _).trans (feq hH).2) (by decide) (by decide) k) ?_
      refine Out.via (g' := (mkF m 54 #[vR a, .val (.int (own_H1 x0 x1))] [(.ref a)])) (fun _ k => XS.aloadN X5.here hx rfl (hb hby own_d21_53) rfl rfl k) ?_
      refine Out.via (g' := (mkF m 55 #[vR a, .val (.int (own_H1 x0 x1))] [(.int (own_H1 x0 x1)), (.ref a)])) (fun _ k => XS.iloadN X5.here hx rfl (hb hby own_d21_54) rfl k) ?_
      obtain ⟨T6, h6, X6, e6, W6, st6⟩ := putF X5 hx hZ hown (host := "") (Or.inl (W_ hw 113 rfl)) Via.refl eq5 F_hash_a Es (Or.inl (W_ hw 114 rfl)) (W_ hw 6 rfl) (ty := .int) (by decide) rfl rfl (g := (mkF m 55 #[vR a, .val (.int (own_H1 x0 x1))] [(.int (own_H1 x0 x1)), (.ref a)])) rfl rfl (hb hby own_d21_55)
      replace F_hash_a := F_hash_a.same W6
      replace Cd := Cd.other W6 (Or.inr (slot_ne (Or.inr (W_ hw 31 rfl)) (Or.inl (W_ hw 114 rfl)) (by decide) (t := .byte) (t' := .int) (by decide) (by decide)))
      replace Vl := Vl.other W6 (Or.inr (slot_ne (Or.inr (W_ hw 33 rfl)) (Or.inl (W_ hw 114 rfl)) (by decide) (t := (.array .byte)) (t' := .int) (by decide) (by decide)))
      replace F_hz_a := F_hz_a.other W6 (Or.inr (slot_ne (Or.inl (W_ hw 116 rfl)) (Or.inl (W_ hw 114 rfl)) (by decide) (t := .boolean) (t' := .int) (by decide) (by decide)))
      replace Es := Es.wr W6
      replace O := O.wr W6 g_a
      replace Kp := Kp.wr W6 (Or.inl (List.mem_of_getElem? (i := 0) rfl))
      replace N0 := Fr.snoc X6 N0 g_a
      refine Out.via (g' := (mkF m 58 #[vR a, .val (.int (own_H1 x0 x1))] [])) st6 ?_
      refine Out.via (g' := (mkF m 59 #[vR a, .val (.int (own_H1 x0 x1))] [(.int (own_H1 x0 x1))])) (fun _ k => XS.iloadN X6.here hx rfl (hb hby own_d21_58) rfl k) ?_
      exact Out.endN X6 (fun h => by rw [Bd.returns] at h; cases h) Bd.notSynchronized (by decide) (by decide) (by rw [e6]; exact ⟨rfl, N0, Kp, Es, Cd, Vl, _, _, F_hash_a, F_hz_a, Or.inr (Or.inr ⟨rfl, hH⟩)⟩) (fun fs hr => own_retI X6 hx Bd.returns (hb hby own_d21_59) hr)
  · refine Out.via (g' := (mkF m 1 #[vR a, vU] [(.ref a)])) (fun _ k => XS.aloadN X0.here hx rfl (hb hby own_d21_0) rfl rfl k) ?_
    obtain ⟨T1, X1, e1, st1⟩ := getF X0 hx hZ hown (host := "") (Or.inl (W_ hw 113 rfl)) Via.refl e0 F_hash_a (g := (mkF m 1 #[vR a, vU] [(.ref a)])) rfl rfl (hb hby own_d21_1)
    refine Out.via (g' := (mkF m 4 #[vR a, vU] [(.int (0 : Int32))])) st1 ?_
    refine Out.via (g' := (mkF m 5 #[vR a, vI 0] [])) (fun _ k => XS.istoreN X1.here hx rfl (hb hby own_d21_4) rfl (l' := #[.val (.ref a), .val (.int (0 : Int32))]) rfl k) ?_
    refine Out.via (g' := (mkF m 6 #[vR a, vI 0] [(.int (0 : Int32))])) (fun _ k => XS.iloadN X1.here hx rfl (hb hby own_d21_5) rfl k) ?_
    refine Out.via (g' := (mkF m 9 #[vR a, vI 0] [])) (fun _ k => XS.ifNo X1.here hx rfl (hb hby own_d21_6) rfl ((if0 _ _).trans (teq rfl).2) k) ?_
    refine Out.via (g' := (mkF m 10 #[vR a, vI 0] [(.ref a)])) (fun _ k => XS.aloadN X1.here hx rfl (hb hby own_d21_9) rfl rfl k) ?_
    obtain ⟨T2, X2, e2, st2⟩ := getF X1 hx hZ hown (host := "") (Or.inl (W_ hw 115 rfl)) Via.refl e1 F_hz_a (g := (mkF m 10 #[vR a, vI 0] [(.ref a)])) rfl rfl (hb hby own_d21_10)
    refine Out.via (g' := (mkF m 13 #[vR a, vI 0] [(.int (1 : Int32))])) st2 ?_
    refine Out.via (g' := (mkF m 58 #[vR a, vI 0] [])) (fun _ k => XS.ifYes X2.here hx rfl (pc0 := 13) (pc' := 58) rfl (hb hby own_d21_13) rfl ((if0 _ _).trans (feq (by decide)).2) (by decide) (by decide) k) ?_
    refine Out.via (g' := (mkF m 59 #[vR a, vI 0] [(.int (0 : Int32))])) (fun _ k => XS.iloadN X2.here hx rfl (hb hby own_d21_58) rfl k) ?_
    exact Out.endN X2 (fun h => by rw [Bd.returns] at h; cases h) Bd.notSynchronized (by decide) (by decide) (by rw [e2]; exact ⟨congrArg (fun z => some (Value.int z)) hH.symm, N0, Kp, Es, Cd, Vl, _, _, F_hash_a, F_hz_a, Or.inr (Or.inl ⟨rfl, rfl, hH⟩)⟩) (fun fs hr => own_retI X2 hx Bd.returns (hb hby own_d21_59) hr)
  · refine Out.via (g' := (mkF m 1 #[vR a, vU] [(.ref a)])) (fun _ k => XS.aloadN X0.here hx rfl (hb hby own_d21_0) rfl rfl k) ?_
    obtain ⟨T1, X1, e1, st1⟩ := getF X0 hx hZ hown (host := "") (Or.inl (W_ hw 113 rfl)) Via.refl e0 F_hash_a (g := (mkF m 1 #[vR a, vU] [(.ref a)])) rfl rfl (hb hby own_d21_1)
    refine Out.via (g' := (mkF m 4 #[vR a, vU] [(.int (own_H1 x0 x1))])) st1 ?_
    refine Out.via (g' := (mkF m 5 #[vR a, .val (.int (own_H1 x0 x1))] [])) (fun _ k => XS.istoreN X1.here hx rfl (hb hby own_d21_4) rfl (l' := #[.val (.ref a), .val (.int (own_H1 x0 x1))]) rfl k) ?_
    refine Out.via (g' := (mkF m 6 #[vR a, .val (.int (own_H1 x0 x1))] [(.int (own_H1 x0 x1))])) (fun _ k => XS.iloadN X1.here hx rfl (hb hby own_d21_5) rfl k) ?_
    refine Out.via (g' := (mkF m 58 #[vR a, .val (.int (own_H1 x0 x1))] [])) (fun _ k => XS.ifYes X1.here hx rfl (pc0 := 6) (pc' := 58) rfl (hb hby own_d21_6) rfl ((if0 _ _).trans (feq hH).2) (by decide) (by decide) k) ?_
    refine Out.via (g' := (mkF m 59 #[vR a, .val (.int (own_H1 x0 x1))] [(.int (own_H1 x0 x1))])) (fun _ k => XS.iloadN X1.here hx rfl (hb hby own_d21_58) rfl k) ?_
    exact Out.endN X1 (fun h => by rw [Bd.returns] at h; cases h) Bd.notSynchronized (by decide) (by decide) (by rw [e1]; exact ⟨rfl, N0, Kp, Es, Cd, Vl, _, _, F_hash_a, F_hz_a, Or.inr (Or.inr ⟨rfl, hH⟩)⟩) (fun fs hr => own_retI X1 hx Bd.returns (hb hby own_d21_59) hr)
theorem own_efHT2 (m : MethodId) (x0 : Addr) : entryFrame m #[(.ref x0)] 2 = mkF m 0 #[.val (.ref x0), .unset] [] := by first | (simp [entryFrame, mkF, argsToLocals, Value.category]; done) | rfl
abbrev own_QHT2 (Z : State) (a b : Addr) (kb : ClassId) (x0 x1 : Int32) (G1 : Int32) (h0 : Heap) (n0 : Nat) : Option Value → Heap → List Loc → Prop := fun v h L => v = some (.int (own_H2 x0 x1)) ∧ Fr n0 L ∧ Keep h0 h [a] ∧ own_S Z h a b (own_H2 x0 x1)
set_option maxRecDepth 65536 in
set_option maxHeartbeats 40000000 in
theorem own_rmHT2 (l : Launch) (Z : State) (a0 : Array Value) (hw : ∀ d ∈ tables_1, d.before a0 Z = true) (ws : List Jvm.Cond) (a b : Addr) (kb : ClassId) (x0 x1 : Int32) (G1 : Int32) (h0 : Heap) (n0 : Nat) (O : Old Z n0 h0) (g_a : n0 ≤ a) (Sa : own_S Z h0 a b (own_H2 x0 x1)) (Ab : Arv Z h0 b kb .byte (2 : Int32) [(.int x0), (.int x1)] (.int (0 : Int32))) (Eb : Exa Z h0 b "[B") (O2 : Sta Z Z.heap "java/lang/String" "COMPACT_STRINGS" "Z" (.int G1)) (P5 : ¬ (G1 = (0 : Int32))) :
    MetFree l own_y23 (head1 (Jvm.Cond.code own_y23 jdk_42_method_78_code 2 (some .int) :: ws) ({ frames := 3, cells := 0, slots := 0, locals := 45 } : Room)) (fun aa U => aa = #[(.ref a)] ∧ Z.Warmed39 U.vm ∧ U.heap = h0) (fun _ _ _ _ _ => True) (fun _ U o U' => ∃ v L, o = .returned v ∧ (own_QHT2 Z a b kb x0 x1 G1 h0 n0) v U'.heap L ∧ FrameEnd U o U' L ({ frames := 3, cells := 0, slots := 0, locals := 45 } : Room).cells ({ frames := 3, cells := 0, slots := 0, locals := 45 } : Room).slots) := by
  refine MetFree.of_bodySF (plainFor_of_name own_pn6) hisR ?_
  intro p e s m args below meth c s₁ Bd hml0 hP hK
  obtain ⟨rfl, hZ, hh⟩ := hP
  have hx := Bd.exec
  have hby := Bd.bytes
  have hml : c.maxLocals = 2 := hml0
  have hown : s.vm.findClass "java/lang/String" = some m.cls := findClass_of_methodNamed Bd.named
  have hnm := (name_of_methodNamed Bd.named Bd.method).1
  have X0 : Stand p l e ({ frames := 3, cells := 0, slots := 0, locals := 45 } : Room) s m #[(.ref a)] below meth c s₁ [] 0 0 := Stand.of_body Bd
  have e0 : s₁.heap = h0 := by rw [← hh, Bd.state]; rfl
  have N0 := Fr.nil n0
  refine Out.start (Q := own_QHT2 Z a b kb x0 x1 G1 h0 n0) (own_efHT2 m a ) ?_
  have Kp := Keep.refl h0 [a]
  obtain ⟨Es, Cd, Vl, v1, v2, F_hash_a, F_hz_a, hs⟩ := Sa
  rcases hs with ⟨rfl, rfl⟩ | ⟨rfl, rfl, hH⟩ | ⟨rfl, hH⟩
  · refine Out.via (g' := (mkF m 1 #[vR a, vU] [(.ref a)])) (fun _ k => XS.aloadN X0.here hx rfl (hb hby own_d21_0) rfl rfl k) ?_
    obtain ⟨T1, X1, e1, st1⟩ := getF X0 hx hZ hown (host := "") (Or.inl (W_ hw 113 rfl)) Via.refl e0 F_hash_a (g := (mkF m 1 #[vR a, vU] [(.ref a)])) rfl rfl (hb hby own_d21_1)
    refine Out.via (g' := (mkF m 4 #[vR a, vU] [(.int (0 : Int32))])) st1 ?_
    refine Out.via (g' := (mkF m 5 #[vR a, vI 0] [])) (fun _ k => XS.istoreN X1.here hx rfl (hb hby own_d21_4) rfl (l' := #[.val (.ref a), .val (.int (0 : Int32))]) rfl k) ?_
    refine Out.via (g' := (mkF m 6 #[vR a, vI 0] [(.int (0 : Int32))])) (fun _ k => XS.iloadN X1.here hx rfl (hb hby own_d21_5) rfl k) ?_
    refine Out.via (g' := (mkF m 9 #[vR a, vI 0] [])) (fun _ k => XS.ifNo X1.here hx rfl (hb hby own_d21_6) rfl ((if0 _ _).trans (teq rfl).2) k) ?_
    refine Out.via (g' := (mkF m 10 #[vR a, vI 0] [(.ref a)])) (fun _ k => XS.aloadN X1.here hx rfl (hb hby own_d21_9) rfl rfl k) ?_
    obtain ⟨T2, X2, e2, st2⟩ := getF X1 hx hZ hown (host := "") (Or.inl (W_ hw 115 rfl)) Via.refl e1 F_hz_a (g := (mkF m 10 #[vR a, vI 0] [(.ref a)])) rfl rfl (hb hby own_d21_10)
    refine Out.via (g' := (mkF m 13 #[vR a, vI 0] [(.int (0 : Int32))])) st2 ?_
    refine Out.via (g' := (mkF m 16 #[vR a, vI 0] [])) (fun _ k => XS.ifNo X2.here hx rfl (hb hby own_d21_13) rfl ((if0 _ _).trans (teq rfl).2) k) ?_
    refine Out.via (g' := (mkF m 17 #[vR a, vI 0] [(.ref a)])) (fun _ k => XS.aloadN X2.here hx rfl (hb hby own_d21_16) rfl rfl k) ?_
    obtain ⟨cq3, kq3, q3a, q3b, q3c⟩ := isOf hZ e2 Es
    obtain ⟨_, _, ⟨T3, L3, kc3, ks3⟩, -, X3, ⟨Lc3, hQ3, l3, y3, z3⟩, st3⟩ := X2.virtualBack hx (y := own_y22) (z := own_y22) hown (mvT hZ (W_ hw 117 rfl)) (mvT hZ (W_ hw 118 rfl)) (notFace_of_selects (args := #[]) (mvT hZ (W_ hw 120 rfl))) (mvT hZ (W_ hw 120 rfl)) (mvT hZ (W_ hw 119 rfl)) (by decide) (backOf (W := 0) (own_rmIL l Z a0 hw [] a G1 h0 n0 O Cd O2 P5) hZ (W_ hw 121 rfl) (W_ hw 7 rfl) (by decide) (by decide)) q3a q3c (g := (mkF m 17 #[vR a, vI 0] [(.ref a)])) rfl (by rw [hml]; rfl) (Steps.refl _) (argsL := []) (rest := []) (lenOf own_pd24 rfl) rfl (by show 2 * 0 + _ ≤ _; exact Nat.le_of_eq rfl) (hb hby own_d21_17) (fun _ _ => ⟨rfl, e2, (by decide : 0 + 0 ≤ _), (by decide : 0 + 0 ≤ _)⟩)
    dsimp only [Pt.U, Pt.locs, Pt.cells, Pt.slots] at X3 l3 y3 z3 st3 hQ3
    subst l3 y3 z3
    obtain ⟨rfl, Nq3, eq3⟩ := hQ3
    replace N0 := Fr.app N0 Nq3
    refine Out.to (g' := (mkF m 20 #[vR a, vI 0] [(.int (1 : Int32))])) st3 ?_
    refine Out.via (g' := (mkF m 23 #[vR a, vI 0] [])) (fun _ k => XS.ifNo X3.here hx rfl (hb hby own_d21_20) rfl ((if0 _ _).trans (feq (by decide)).1) k) ?_
    refine Out.via (g' := (mkF m 24 #[vR a, vI 0] [(.ref a)])) (fun _ k => XS.aloadN X3.here hx rfl (hb hby own_d21_23) rfl rfl k) ?_
    obtain ⟨T4, X4, e4, st4⟩ := getF X3 hx hZ hown (host := "") (Or.inl (W_ hw 32 rfl)) Via.refl eq3 Vl (g := (mkF m 24 #[vR a, vI 0] [(.ref a)])) rfl rfl (hb hby own_d21_24)
    refine Out.via (g' := (mkF m 27 #[vR a, vI 0] [(.ref b)])) st4 ?_
    obtain ⟨_, _, ⟨T5, L5, kc5, ks5⟩, -, X5, ⟨Lc5, hQ5, l5, y5, z5⟩, st5⟩ := Jvm.LawKit.callS X4 hx (y := own_y20) hown (mvT hZ (W_ hw 122 rfl)) (mvT hZ (W_ hw 123 rfl)) (mvT hZ (W_ hw 124 rfl)) (mvT hZ (W_ hw 125 rfl)) (by decide) (backOf (W := 0) (own_rmLH2 l Z a0 hw [] b kb x0 x1 h0 n0 O Ab Eb) hZ (W_ hw 125 rfl) (W_ hw 124 rfl) (by decide) (by decide)) (g := (mkF m 27 #[vR a, vI 0] [(.ref b)])) rfl (by rw [hml]; rfl) (argsL := [(.ref b)]) (rest := []) (lenOf own_pd25 rfl) rfl (by show 2 * 0 + _ ≤ _; exact Nat.le_of_eq rfl) (hb hby own_d21_27) (fun _ _ => ⟨rfl, e4, (by decide : 0 + 0 ≤ _), (by decide : 0 + 0 ≤ _)⟩)
    dsimp only [Pt.U, Pt.locs, Pt.cells, Pt.slots] at X5 l5 y5 z5 st5 hQ5
    subst l5 y5 z5
    obtain ⟨rfl, Nq5, eq5⟩ := hQ5
    replace N0 := Fr.app N0 Nq5
    refine Out.via (g' := (mkF m 30 #[vR a, vI 0] [(.int (own_H2 x0 x1))])) st5 ?_
    refine Out.via (g' := (mkF m 40 #[vR a, vI 0] [(.int (own_H2 x0 x1))])) (fun _ k => XS.goto X5.here hx rfl (pc0 := 30) (pc' := 40) rfl (hb hby own_d21_30) (by decide) (by decide) k) ?_
    refine Out.via (g' := (mkF m 41 #[vR a, .val (.int (own_H2 x0 x1))] [])) (fun _ k => XS.istoreN X5.here hx rfl (hb hby own_d21_40) rfl (l' := #[.val (.ref a), .val (.int (own_H2 x0 x1))]) rfl k) ?_
    refine Out.via (g' := (mkF m 42 #[vR a, .val (.int (own_H2 x0 x1))] [(.int (own_H2 x0 x1))])) (fun _ k => XS.iloadN X5.here hx rfl (hb hby own_d21_41) rfl k) ?_
    by_cases hH : (own_H2 x0 x1) = (0 : Int32)
    · refine Out.via (g' := (mkF m 45 #[vR a, .val (.int (own_H2 x0 x1))] [])) (fun _ k => XS.ifNo X5.here hx rfl (hb hby own_d21_42) rfl ((if0 _ _).trans (teq hH).2) k) ?_
      refine Out.via (g' := (mkF m 46 #[vR a, .val (.int (own_H2 x0 x1))] [(.ref a)])) (fun _ k => XS.aloadN X5.here hx rfl (hb hby own_d21_45) rfl rfl k) ?_
      refine Out.via (g' := (mkF m 47 #[vR a, .val (.int (own_H2 x0 x1))] [(.int (1 : Int32)), (.ref a)])) (fun _ k => XS.iconst X5.here hx rfl (hb hby own_d21_46) k) ?_
      obtain ⟨T6, h6, X6, e6, W6, st6⟩ := putFN X5 hx hZ hown (W_ hw 115 rfl) Via.refl eq5 F_hz_a Es (Or.inl (W_ hw 116 rfl)) (W_ hw 6 rfl) (ty := .boolean) (v' := (.int (1 : Int32))) (by decide) rfl (by decide) (g := (mkF m 47 #[vR a, .val (.int (own_H2 x0 x1))] [(.int (1 : Int32)), (.ref a)])) rfl rfl (hb hby own_d21_47)
      replace F_hz_a := F_hz_a.same W6
      replace Cd := Cd.other W6 (Or.inr (slot_ne (Or.inr (W_ hw 31 rfl)) (Or.inl (W_ hw 116 rfl)) (by decide) (t := .byte) (t' := .boolean) (by decide) (by decide)))
      replace Vl := Vl.other W6 (Or.inr (slot_ne (Or.inr (W_ hw 33 rfl)) (Or.inl (W_ hw 116 rfl)) (by decide) (t := (.array .byte)) (t' := .boolean) (by decide) (by decide)))
      replace F_hash_a := F_hash_a.other W6 (Or.inr (slot_ne (Or.inl (W_ hw 114 rfl)) (Or.inl (W_ hw 116 rfl)) (by decide) (t := .int) (t' := .boolean) (by decide) (by decide)))
      replace Es := Es.wr W6
      replace O := O.wr W6 g_a
      replace Kp := Kp.wr W6 (Or.inl (List.mem_of_getElem? (i := 0) rfl))
      replace N0 := Fr.snoc X6 N0 g_a
      refine Out.via (g' := (mkF m 50 #[vR a, .val (.int (own_H2 x0 x1))] [])) st6 ?_
      refine Out.via (g' := (mkF m 58 #[vR a, .val (.int (own_H2 x0 x1))] [])) (fun _ k => XS.goto X6.here hx rfl (pc0 := 50) (pc' := 58) rfl (hb hby own_d21_50) (by decide) (by decide) k) ?_
      refine Out.via (g' := (mkF m 59 #[vR a, .val (.int (own_H2 x0 x1))] [(.int (own_H2 x0 x1))])) (fun _ k => XS.iloadN X6.here hx rfl (hb hby own_d21_58) rfl k) ?_
      exact Out.endN X6 (fun h => by rw [Bd.returns] at h; cases h) Bd.notSynchronized (by decide) (by decide) (by rw [e6]; exact ⟨rfl, N0, Kp, Es, Cd, Vl, _, _, F_hash_a, F_hz_a, Or.inr (Or.inl ⟨rfl, rfl, hH⟩)⟩) (fun fs hr => own_retI X6 hx Bd.returns (hb hby own_d21_59) hr)
    · refine Out.via (g' := (mkF m 53 #[vR a, .val (.int (own_H2 x0 x1))] [])) (fun _ k => XS.ifYes X5.here hx rfl (pc0 := 42) (pc' := 53) rfl (hb hby own_d21_42) rfl ((if0 _ _).trans (feq hH).2) (by decide) (by decide) k) ?_
      refine Out.via (g' := (mkF m 54 #[vR a, .val (.int (own_H2 x0 x1))] [(.ref a)])) (fun _ k => XS.aloadN X5.here hx rfl (hb hby own_d21_53) rfl rfl k) ?_
      refine Out.via (g' := (mkF m 55 #[vR a, .val (.int (own_H2 x0 x1))] [(.int (own_H2 x0 x1)), (.ref a)])) (fun _ k => XS.iloadN X5.here hx rfl (hb hby own_d21_54) rfl k) ?_
      obtain ⟨T6, h6, X6, e6, W6, st6⟩ := putF X5 hx hZ hown (host := "") (Or.inl (W_ hw 113 rfl)) Via.refl eq5 F_hash_a Es (Or.inl (W_ hw 114 rfl)) (W_ hw 6 rfl) (ty := .int) (by decide) rfl rfl (g := (mkF m 55 #[vR a, .val (.int (own_H2 x0 x1))] [(.int (own_H2 x0 x1)), (.ref a)])) rfl rfl (hb hby own_d21_55)
      replace F_hash_a := F_hash_a.same W6
      replace Cd := Cd.other W6 (Or.inr (slot_ne (Or.inr (W_ hw 31 rfl)) (Or.inl (W_ hw 114 rfl)) (by decide) (t := .byte) (t' := .int) (by decide) (by decide)))
      replace Vl := Vl.other W6 (Or.inr (slot_ne (Or.inr (W_ hw 33 rfl)) (Or.inl (W_ hw 114 rfl)) (by decide) (t := (.array .byte)) (t' := .int) (by decide) (by decide)))
      replace F_hz_a := F_hz_a.other W6 (Or.inr (slot_ne (Or.inl (W_ hw 116 rfl)) (Or.inl (W_ hw 114 rfl)) (by decide) (t := .boolean) (t' := .int) (by decide) (by decide)))
      replace Es := Es.wr W6
      replace O := O.wr W6 g_a
      replace Kp := Kp.wr W6 (Or.inl (List.mem_of_getElem? (i := 0) rfl))
      replace N0 := Fr.snoc X6 N0 g_a
      refine Out.via (g' := (mkF m 58 #[vR a, .val (.int (own_H2 x0 x1))] [])) st6 ?_
      refine Out.via (g' := (mkF m 59 #[vR a, .val (.int (own_H2 x0 x1))] [(.int (own_H2 x0 x1))])) (fun _ k => XS.iloadN X6.here hx rfl (hb hby own_d21_58) rfl k) ?_
      exact Out.endN X6 (fun h => by rw [Bd.returns] at h; cases h) Bd.notSynchronized (by decide) (by decide) (by rw [e6]; exact ⟨rfl, N0, Kp, Es, Cd, Vl, _, _, F_hash_a, F_hz_a, Or.inr (Or.inr ⟨rfl, hH⟩)⟩) (fun fs hr => own_retI X6 hx Bd.returns (hb hby own_d21_59) hr)
  · refine Out.via (g' := (mkF m 1 #[vR a, vU] [(.ref a)])) (fun _ k => XS.aloadN X0.here hx rfl (hb hby own_d21_0) rfl rfl k) ?_
    obtain ⟨T1, X1, e1, st1⟩ := getF X0 hx hZ hown (host := "") (Or.inl (W_ hw 113 rfl)) Via.refl e0 F_hash_a (g := (mkF m 1 #[vR a, vU] [(.ref a)])) rfl rfl (hb hby own_d21_1)
    refine Out.via (g' := (mkF m 4 #[vR a, vU] [(.int (0 : Int32))])) st1 ?_
    refine Out.via (g' := (mkF m 5 #[vR a, vI 0] [])) (fun _ k => XS.istoreN X1.here hx rfl (hb hby own_d21_4) rfl (l' := #[.val (.ref a), .val (.int (0 : Int32))]) rfl k) ?_
    refine Out.via (g' := (mkF m 6 #[vR a, vI 0] [(.int (0 : Int32))])) (fun _ k => XS.iloadN X1.here hx rfl (hb hby own_d21_5) rfl k) ?_
    refine Out.via (g' := (mkF m 9 #[vR a, vI 0] [])) (fun _ k => XS.ifNo X1.here hx rfl (hb hby own_d21_6) rfl ((if0 _ _).trans (teq rfl).2) k) ?_
    refine Out.via (g' := (mkF m 10 #[vR a, vI 0] [(.ref a)])) (fun _ k => XS.aloadN X1.here hx rfl (hb hby own_d21_9) rfl rfl k) ?_
    obtain ⟨T2, X2, e2, st2⟩ := getF X1 hx hZ hown (host := "") (Or.inl (W_ hw 115 rfl)) Via.refl e1 F_hz_a (g := (mkF m 10 #[vR a, vI 0] [(.ref a)])) rfl rfl (hb hby own_d21_10)
    refine Out.via (g' := (mkF m 13 #[vR a, vI 0] [(.int (1 : Int32))])) st2 ?_
    refine Out.via (g' := (mkF m 58 #[vR a, vI 0] [])) (fun _ k => XS.ifYes X2.here hx rfl (pc0 := 13) (pc' := 58) rfl (hb hby own_d21_13) rfl ((if0 _ _).trans (feq (by decide)).2) (by decide) (by decide) k) ?_
    refine Out.via (g' := (mkF m 59 #[vR a, vI 0] [(.int (0 : Int32))])) (fun _ k => XS.iloadN X2.here hx rfl (hb hby own_d21_58) rfl k) ?_
    exact Out.endN X2 (fun h => by rw [Bd.returns] at h; cases h) Bd.notSynchronized (by decide) (by decide) (by rw [e2]; exact ⟨congrArg (fun z => some (Value.int z)) hH.symm, N0, Kp, Es, Cd, Vl, _, _, F_hash_a, F_hz_a, Or.inr (Or.inl ⟨rfl, rfl, hH⟩)⟩) (fun fs hr => own_retI X2 hx Bd.returns (hb hby own_d21_59) hr)
  · refine Out.via (g' := (mkF m 1 #[vR a, vU] [(.ref a)])) (fun _ k => XS.aloadN X0.here hx rfl (hb hby own_d21_0) rfl rfl k) ?_
    obtain ⟨T1, X1, e1, st1⟩ := getF X0 hx hZ hown (host := "") (Or.inl (W_ hw 113 rfl)) Via.refl e0 F_hash_a (g := (mkF m 1 #[vR a, vU] [(.ref a)])) rfl rfl (hb hby own_d21_1)
    refine Out.via (g' := (mkF m 4 #[vR a, vU] [(.int (own_H2 x0 x1))])) st1 ?_
    refine Out.via (g' := (mkF m 5 #[vR a, .val (.int (own_H2 x0 x1))] [])) (fun _ k => XS.istoreN X1.here hx rfl (hb hby own_d21_4) rfl (l' := #[.val (.ref a), .val (.int (own_H2 x0 x1))]) rfl k) ?_
    refine Out.via (g' := (mkF m 6 #[vR a, .val (.int (own_H2 x0 x1))] [(.int (own_H2 x0 x1))])) (fun _ k => XS.iloadN X1.here hx rfl (hb hby own_d21_5) rfl k) ?_
    refine Out.via (g' := (mkF m 58 #[vR a, .val (.int (own_H2 x0 x1))] [])) (fun _ k => XS.ifYes X1.here hx rfl (pc0 := 6) (pc' := 58) rfl (hb hby own_d21_6) rfl ((if0 _ _).trans (feq hH).2) (by decide) (by decide) k) ?_
    refine Out.via (g' := (mkF m 59 #[vR a, .val (.int (own_H2 x0 x1))] [(.int (own_H2 x0 x1))])) (fun _ k => XS.iloadN X1.here hx rfl (hb hby own_d21_58) rfl k) ?_
    exact Out.endN X1 (fun h => by rw [Bd.returns] at h; cases h) Bd.notSynchronized (by decide) (by decide) (by rw [e1]; exact ⟨rfl, N0, Kp, Es, Cd, Vl, _, _, F_hash_a, F_hz_a, Or.inr (Or.inr ⟨rfl, hH⟩)⟩) (fun fs hr => own_retI X1 hx Bd.returns (hb hby own_d21_59) hr)
theorem own_d22_0 : decode jdk_48_method_13_code 0 = .ok (.iconst 0, 1) := by decide +kernel
theorem own_d22_1 : decode jdk_48_method_13_code 1 = .ok (.istore_n 3, 1) := by decide +kernel
theorem own_d22_2 : decode jdk_48_method_13_code 2 = .ok (.iload_n 2, 1) := by decide +kernel
theorem own_d22_3 : decode jdk_48_method_13_code 3 = .ok (.bipush 7, 2) := by decide +kernel
theorem own_d22_5 : decode jdk_48_method_13_code 5 = .ok (.if_icmp .le 44, 3) := by decide +kernel
theorem own_d22_49 : decode jdk_48_method_13_code 49 = .ok (.iload_n 3, 1) := by decide +kernel
theorem own_d22_50 : decode jdk_48_method_13_code 50 = .ok (.iload_n 2, 1) := by decide +kernel
theorem own_d22_51 : decode jdk_48_method_13_code 51 = .ok (.if_icmp .ge 20, 3) := by decide +kernel
theorem own_d22_71 : decode jdk_48_method_13_code 71 = .ok (.iconst (-1), 1) := by decide +kernel
theorem own_d22_72 : decode jdk_48_method_13_code 72 = .ok (.ireturn, 1) := by decide +kernel
theorem own_efMI0 (m : MethodId) (x0 : Addr) (x1 : Addr) (x2 : Int32) : entryFrame m #[(.ref x0), (.ref x1), (.int x2)] 4 = mkF m 0 #[.val (.ref x0), .val (.ref x1), .val (.int x2), .unset] [] := by first | (simp [entryFrame, mkF, argsToLocals, Value.category]; done) | rfl
abbrev own_QMI0 (Z : State) (t u : Addr) (kt ku : ClassId) (k0 k1 : Int32) (h0 : Heap) (n0 : Nat) : Option Value → Heap → List Loc → Prop := fun v h L => v = some (.int (-1 : Int32)) ∧ Fr n0 L ∧ h = h0
set_option maxRecDepth 65536 in
set_option maxHeartbeats 40000000 in
theorem own_rmMI0 (l : Launch) (Z : State) (a0 : Array Value) (hw : ∀ d ∈ tables_1, d.before a0 Z = true) (ws : List Jvm.Cond) (t u : Addr) (kt ku : ClassId) (k0 k1 : Int32) (h0 : Heap) (n0 : Nat) (O : Old Z n0 h0) (At : Arv Z h0 t kt .byte (0 : Int32) [] (.int (0 : Int32))) (Au : Arv Z h0 u ku .byte (0 : Int32) [] (.int (0 : Int32))) :
    MetFree l own_y24 (head1 (Jvm.Cond.code own_y24 jdk_48_method_13_code 4 (some .int) :: ws) ({ frames := 0, cells := 0, slots := 0, locals := 0 } : Room)) (fun aa U => aa = #[(.ref t), (.ref u), (.int (0 : Int32))] ∧ Z.Warmed39 U.vm ∧ U.heap = h0) (fun _ _ _ _ _ => True) (fun _ U o U' => ∃ v L, o = .returned v ∧ (own_QMI0 Z t u kt ku k0 k1 h0 n0) v U'.heap L ∧ FrameEnd U o U' L ({ frames := 0, cells := 0, slots := 0, locals := 0 } : Room).cells ({ frames := 0, cells := 0, slots := 0, locals := 0 } : Room).slots) := by
  refine MetFree.of_bodySF (plainFor_of_name own_pn20) hisR ?_
  intro p e s m args below meth c s₁ Bd hml0 hP hK
  obtain ⟨rfl, hZ, hh⟩ := hP
  have hx := Bd.exec
  have hby := Bd.bytes
  have hml : c.maxLocals = 4 := hml0
  have hown : s.vm.findClass "jdk/internal/util/ArraysSupport" = some m.cls := findClass_of_methodNamed Bd.named
  have hnm := (name_of_methodNamed Bd.named Bd.method).1
  have X0 : Stand p l e ({ frames := 0, cells := 0, slots := 0, locals := 0 } : Room) s m #[(.ref t), (.ref u), (.int (0 : Int32))] below meth c s₁ [] 0 0 := Stand.of_body Bd
  have e0 : s₁.heap = h0 := by rw [← hh, Bd.state]; rfl
  have N0 := Fr.nil n0
  refine Out.start (Q := own_QMI0 Z t u kt ku k0 k1 h0 n0) (own_efMI0 m t u (0 : Int32) ) ?_
  refine Out.via (g' := (mkF m 1 #[vR t, vR u, vI 0, vU] [(.int (0 : Int32))])) (fun _ k => XS.iconst X0.here hx rfl (hb hby own_d22_0) k) ?_
  refine Out.via (g' := (mkF m 2 #[vR t, vR u, vI 0, vI 0] [])) (fun _ k => XS.istoreN X0.here hx rfl (hb hby own_d22_1) rfl (l' := #[.val (.ref t), .val (.ref u), .val (.int (0 : Int32)), .val (.int (0 : Int32))]) rfl k) ?_
  refine Out.via (g' := (mkF m 3 #[vR t, vR u, vI 0, vI 0] [(.int (0 : Int32))])) (fun _ k => XS.iloadN X0.here hx rfl (hb hby own_d22_2) rfl k) ?_
  refine Out.via (g' := (mkF m 5 #[vR t, vR u, vI 0, vI 0] [(.int (7 : Int32)), (.int (0 : Int32))])) (fun _ k => XS.bipush X0.here hx rfl (hb hby own_d22_3) k) ?_
  refine Out.via (g' := (mkF m 49 #[vR t, vR u, vI 0, vI 0] [])) (fun _ k => XS.icmpYes X0.here hx rfl (pc0 := 5) (pc' := 49) rfl (hb hby own_d22_5) rfl (flt (by decide)).2.2.2 (by decide) (by decide) k) ?_
  refine Out.via (g' := (mkF m 50 #[vR t, vR u, vI 0, vI 0] [(.int (0 : Int32))])) (fun _ k => XS.iloadN X0.here hx rfl (hb hby own_d22_49) rfl k) ?_
  refine Out.via (g' := (mkF m 51 #[vR t, vR u, vI 0, vI 0] [(.int (0 : Int32)), (.int (0 : Int32))])) (fun _ k => XS.iloadN X0.here hx rfl (hb hby own_d22_50) rfl k) ?_
  refine Out.via (g' := (mkF m 71 #[vR t, vR u, vI 0, vI 0] [])) (fun _ k => XS.icmpYes X0.here hx rfl (pc0 := 51) (pc' := 71) rfl (hb hby own_d22_51) rfl (flt (by decide)).2.1 (by decide) (by decide) k) ?_
  refine Out.via (g' := (mkF m 72 #[vR t, vR u, vI 0, vI 0] [(.int (-1 : Int32))])) (fun _ k => XS.iconst X0.here hx rfl (hb hby own_d22_71) k) ?_
  exact Out.endN X0 (fun h => by rw [Bd.returns] at h; cases h) Bd.notSynchronized (by decide) (by decide) (by rw [e0]; exact ⟨rfl, N0, rfl⟩) (fun fs hr => own_retI X0 hx Bd.returns (hb hby own_d22_72) hr)
theorem own_d23_0 : decode jdk_65_method_89_code 0 = .ok (.aload_n 0, 1) := by decide +kernel
theorem own_d23_1 : decode jdk_65_method_89_code 1 = .ok (.aload_n 1, 1) := by decide +kernel
theorem own_d23_2 : decode jdk_65_method_89_code 2 = .ok (.if_acmp .ne 5, 3) := by decide +kernel
theorem own_d23_5 : decode jdk_65_method_89_code 5 = .ok (.iconst 1, 1) := by decide +kernel
theorem own_d23_6 : decode jdk_65_method_89_code 6 = .ok (.ireturn, 1) := by decide +kernel
theorem own_d23_7 : decode jdk_65_method_89_code 7 = .ok (.aload_n 0, 1) := by decide +kernel
theorem own_d23_8 : decode jdk_65_method_89_code 8 = .ok (.ifnull 7, 3) := by decide +kernel
theorem own_d23_11 : decode jdk_65_method_89_code 11 = .ok (.aload_n 1, 1) := by decide +kernel
theorem own_d23_12 : decode jdk_65_method_89_code 12 = .ok (.ifnonnull 5, 3) := by decide +kernel
theorem own_d23_17 : decode jdk_65_method_89_code 17 = .ok (.aload_n 0, 1) := by decide +kernel
theorem own_d23_18 : decode jdk_65_method_89_code 18 = .ok (.arraylength, 1) := by decide +kernel
theorem own_d23_19 : decode jdk_65_method_89_code 19 = .ok (.istore_n 2, 1) := by decide +kernel
theorem own_d23_20 : decode jdk_65_method_89_code 20 = .ok (.aload_n 1, 1) := by decide +kernel
theorem own_d23_21 : decode jdk_65_method_89_code 21 = .ok (.arraylength, 1) := by decide +kernel
theorem own_d23_22 : decode jdk_65_method_89_code 22 = .ok (.iload_n 2, 1) := by decide +kernel
theorem own_d23_23 : decode jdk_65_method_89_code 23 = .ok (.if_icmp .eq 5, 3) := by decide +kernel
theorem own_d23_28 : decode jdk_65_method_89_code 28 = .ok (.aload_n 0, 1) := by decide +kernel
theorem own_d23_29 : decode jdk_65_method_89_code 29 = .ok (.aload_n 1, 1) := by decide +kernel
theorem own_d23_30 : decode jdk_65_method_89_code 30 = .ok (.iload_n 2, 1) := by decide +kernel
theorem own_d23_31 : decode jdk_65_method_89_code 31 = .ok (.invokestatic 272, 3) := by decide +kernel
theorem own_pd26 : parseMethodDescriptor "([B[BI)I" = some ⟨[(.array .byte), (.array .byte), .int], some .int⟩ := by decide +kernel
theorem own_d23_34 : decode jdk_65_method_89_code 34 = .ok (.ifCond .ge 7, 3) := by decide +kernel
theorem own_d23_37 : decode jdk_65_method_89_code 37 = .ok (.iconst 1, 1) := by decide +kernel
theorem own_d23_38 : decode jdk_65_method_89_code 38 = .ok (.goto 4, 3) := by decide +kernel
theorem own_d23_42 : decode jdk_65_method_89_code 42 = .ok (.ireturn, 1) := by decide +kernel
theorem own_efAE0 (m : MethodId) (x0 : Addr) (x1 : Addr) : entryFrame m #[(.ref x0), (.ref x1)] 3 = mkF m 0 #[.val (.ref x0), .val (.ref x1), .unset] [] := by first | (simp [entryFrame, mkF, argsToLocals, Value.category]; done) | rfl
abbrev own_QAE0 (Z : State) (t u : Addr) (kt ku : ClassId) (k0 k1 : Int32) (h0 : Heap) (n0 : Nat) : Option Value → Heap → List Loc → Prop := fun v h L => v = some (.int (1 : Int32)) ∧ Fr n0 L ∧ h = h0
set_option maxRecDepth 65536 in
set_option maxHeartbeats 40000000 in
theorem own_rmAE0 (l : Launch) (Z : State) (a0 : Array Value) (hw : ∀ d ∈ tables_1, d.before a0 Z = true) (ws : List Jvm.Cond) (t u : Addr) (kt ku : ClassId) (k0 k1 : Int32) (h0 : Heap) (n0 : Nat) (O : Old Z n0 h0) (At : Arv Z h0 t kt .byte (0 : Int32) [] (.int (0 : Int32))) (Au : Arv Z h0 u ku .byte (0 : Int32) [] (.int (0 : Int32))) :
    MetFree l own_y25 (head1 (Jvm.Cond.code own_y25 jdk_65_method_89_code 3 (some .boolean) :: ws) ({ frames := 1, cells := 0, slots := 0, locals := 15 } : Room)) (fun aa U => aa = #[(.ref t), (.ref u)] ∧ Z.Warmed39 U.vm ∧ U.heap = h0) (fun _ _ _ _ _ => True) (fun _ U o U' => ∃ v L, o = .returned v ∧ (own_QAE0 Z t u kt ku k0 k1 h0 n0) v U'.heap L ∧ FrameEnd U o U' L ({ frames := 1, cells := 0, slots := 0, locals := 15 } : Room).cells ({ frames := 1, cells := 0, slots := 0, locals := 15 } : Room).slots) := by
  refine MetFree.of_bodySF (plainFor_of_name own_pn4) hisR ?_
  intro p e s m args below meth c s₁ Bd hml0 hP hK
  obtain ⟨rfl, hZ, hh⟩ := hP
  have hx := Bd.exec
  have hby := Bd.bytes
  have hml : c.maxLocals = 3 := hml0
  have hown : s.vm.findClass "java/util/Arrays" = some m.cls := findClass_of_methodNamed Bd.named
  have hnm := (name_of_methodNamed Bd.named Bd.method).1
  have X0 : Stand p l e ({ frames := 1, cells := 0, slots := 0, locals := 15 } : Room) s m #[(.ref t), (.ref u)] below meth c s₁ [] 0 0 := Stand.of_body Bd
  have e0 : s₁.heap = h0 := by rw [← hh, Bd.state]; rfl
  have N0 := Fr.nil n0
  refine Out.start (Q := own_QAE0 Z t u kt ku k0 k1 h0 n0) (own_efAE0 m t u ) ?_
  refine Out.via (g' := (mkF m 1 #[vR t, vR u, vU] [(.ref t)])) (fun _ k => XS.aloadN X0.here hx rfl (hb hby own_d23_0) rfl rfl k) ?_
  refine Out.via (g' := (mkF m 2 #[vR t, vR u, vU] [(.ref u), (.ref t)])) (fun _ k => XS.aloadN X0.here hx rfl (hb hby own_d23_1) rfl rfl k) ?_
  by_cases htu : t = u
  · refine Out.via (g' := (mkF m 5 #[vR t, vR u, vU] [])) (fun _ k => Jvm.RoadKit.acmp (g := (mkF m 2 #[vR t, vR u, vU] [(.ref u), (.ref t)])) X0 hx rfl rfl rfl (pc0 := 2) (pc' := 5) (same := true) rfl (hb hby own_d23_2) rfl (decide_eq_true (congrArg Value.ref htu)) (by decide) (by decide) k) ?_
    refine Out.via (g' := (mkF m 6 #[vR t, vR u, vU] [(.int (1 : Int32))])) (fun _ k => XS.iconst X0.here hx rfl (hb hby own_d23_5) k) ?_
    exact Out.endN X0 (fun h => by rw [Bd.returns] at h; cases h) Bd.notSynchronized (by decide) (by decide) (by rw [e0]; exact ⟨rfl, N0, rfl⟩) (fun fs hr => Jvm.RoadKit.retN X0 hx (t := .boolean) Bd.returns (by simp) (hb hby own_d23_6) hr)
  · refine Out.via (g' := (mkF m 7 #[vR t, vR u, vU] [])) (fun _ k => Jvm.RoadKit.acmp (g := (mkF m 2 #[vR t, vR u, vU] [(.ref u), (.ref t)])) X0 hx rfl rfl rfl (pc0 := 2) (pc' := 7) (same := false) rfl (hb hby own_d23_2) rfl (decide_eq_false fun q => htu (Value.ref.inj q)) (by decide) (by decide) k) ?_
    refine Out.via (g' := (mkF m 8 #[vR t, vR u, vU] [(.ref t)])) (fun _ k => XS.aloadN X0.here hx rfl (hb hby own_d23_7) rfl rfl k) ?_
    refine Out.via (g' := (mkF m 11 #[vR t, vR u, vU] [])) (fun _ k => XS.ifnullNo X0.here hx rfl (hb hby own_d23_8) rfl k) ?_
    refine Out.via (g' := (mkF m 12 #[vR t, vR u, vU] [(.ref u)])) (fun _ k => XS.aloadN X0.here hx rfl (hb hby own_d23_11) rfl rfl k) ?_
    refine Out.via (g' := (mkF m 17 #[vR t, vR u, vU] [])) (fun _ k => XS.ifnonnullYes X0.here hx rfl (pc0 := 12) (pc' := 17) rfl (hb hby own_d23_12) rfl (by decide) (by decide) k) ?_
    refine Out.via (g' := (mkF m 18 #[vR t, vR u, vU] [(.ref t)])) (fun _ k => XS.aloadN X0.here hx rfl (hb hby own_d23_17) rfl rfl k) ?_
    obtain ⟨cl_p, Ar_p, q_p, S_p, M_p, H_p, G_p⟩ := id At
    refine Out.via (g' := (mkF m 19 #[vR t, vR u, vU] [(.int cl_p.slots.size.toInt32)])) (fun _ k => X0.arraylength hx (by rw [e0]; exact Ar_p.1) (State.isArrayOf_alike hZ.alike Ar_p.2.1) (g := (mkF m 18 #[vR t, vR u, vU] [(.ref t)])) rfl rfl (hb hby own_d23_18) _ k) ?_
    rw [len_of S_p M_p]
    refine Out.via (g' := (mkF m 20 #[vR t, vR u, vI 0] [])) (fun _ k => XS.istoreN X0.here hx rfl (hb hby own_d23_19) rfl (l' := #[.val (.ref t), .val (.ref u), .val (.int (0 : Int32))]) rfl k) ?_
    refine Out.via (g' := (mkF m 21 #[vR t, vR u, vI 0] [(.ref u)])) (fun _ k => XS.aloadN X0.here hx rfl (hb hby own_d23_20) rfl rfl k) ?_
    obtain ⟨cl_q, Ar_q, q_q, S_q, M_q, H_q, G_q⟩ := id Au
    refine Out.via (g' := (mkF m 22 #[vR t, vR u, vI 0] [(.int cl_q.slots.size.toInt32)])) (fun _ k => X0.arraylength hx (by rw [e0]; exact Ar_q.1) (State.isArrayOf_alike hZ.alike Ar_q.2.1) (g := (mkF m 21 #[vR t, vR u, vI 0] [(.ref u)])) rfl rfl (hb hby own_d23_21) _ k) ?_
    rw [len_of S_q M_q]
    refine Out.via (g' := (mkF m 23 #[vR t, vR u, vI 0] [(.int (0 : Int32)), (.int (0 : Int32))])) (fun _ k => XS.iloadN X0.here hx rfl (hb hby own_d23_22) rfl k) ?_
    refine Out.via (g' := (mkF m 28 #[vR t, vR u, vI 0] [])) (fun _ k => XS.icmpYes X0.here hx rfl (pc0 := 23) (pc' := 28) rfl (hb hby own_d23_23) rfl (teq rfl).1 (by decide) (by decide) k) ?_
    refine Out.via (g' := (mkF m 29 #[vR t, vR u, vI 0] [(.ref t)])) (fun _ k => XS.aloadN X0.here hx rfl (hb hby own_d23_28) rfl rfl k) ?_
    refine Out.via (g' := (mkF m 30 #[vR t, vR u, vI 0] [(.ref u), (.ref t)])) (fun _ k => XS.aloadN X0.here hx rfl (hb hby own_d23_29) rfl rfl k) ?_
    refine Out.via (g' := (mkF m 31 #[vR t, vR u, vI 0] [(.int (0 : Int32)), (.ref u), (.ref t)])) (fun _ k => XS.iloadN X0.here hx rfl (hb hby own_d23_30) rfl k) ?_
    obtain ⟨_, _, ⟨T1, L1, kc1, ks1⟩, -, X1, ⟨Lc1, hQ1, l1, y1, z1⟩, st1⟩ := Jvm.LawKit.callS X0 hx (y := own_y24) hown (mvT hZ (W_ hw 149 rfl)) (mvT hZ (W_ hw 150 rfl)) (mvT hZ (W_ hw 151 rfl)) (mvT hZ (W_ hw 152 rfl)) (by decide) (backOf (W := 0) (own_rmMI0 l Z a0 hw [] t u kt ku k0 k1 h0 n0 O At Au) hZ (W_ hw 152 rfl) (W_ hw 151 rfl) (by decide) (by decide)) (g := (mkF m 31 #[vR t, vR u, vI 0] [(.int (0 : Int32)), (.ref u), (.ref t)])) rfl (by rw [hml]; rfl) (argsL := [(.ref t), (.ref u), (.int (0 : Int32))]) (rest := []) (lenOf own_pd26 rfl) rfl (by show 2 * 0 + _ ≤ _; exact Nat.le_of_eq rfl) (hb hby own_d23_31) (fun _ _ => ⟨rfl, e0, (by decide : 0 + 0 ≤ _), (by decide : 0 + 0 ≤ _)⟩)
    dsimp only [Pt.U, Pt.locs, Pt.cells, Pt.slots] at X1 l1 y1 z1 st1 hQ1
    subst l1 y1 z1
    obtain ⟨rfl, Nq1, eq1⟩ := hQ1
    replace N0 := Fr.app N0 Nq1
    refine Out.via (g' := (mkF m 34 #[vR t, vR u, vI 0] [(.int (-1 : Int32))])) st1 ?_
    refine Out.via (g' := (mkF m 37 #[vR t, vR u, vI 0] [])) (fun _ k => XS.ifNo X1.here hx rfl (hb hby own_d23_34) rfl ((if0 _ _).trans (tlt (by decide)).2.1) k) ?_
    refine Out.via (g' := (mkF m 38 #[vR t, vR u, vI 0] [(.int (1 : Int32))])) (fun _ k => XS.iconst X1.here hx rfl (hb hby own_d23_37) k) ?_
    refine Out.via (g' := (mkF m 42 #[vR t, vR u, vI 0] [(.int (1 : Int32))])) (fun _ k => XS.goto X1.here hx rfl (pc0 := 38) (pc' := 42) rfl (hb hby own_d23_38) (by decide) (by decide) k) ?_
    exact Out.endN X1 (fun h => by rw [Bd.returns] at h; cases h) Bd.notSynchronized (by decide) (by decide) (by rw [eq1]; exact ⟨rfl, N0, rfl⟩) (fun fs hr => Jvm.RoadKit.retN X1 hx (t := .boolean) Bd.returns (by simp) (hb hby own_d23_42) hr)
theorem own_d22_54 : decode jdk_48_method_13_code 54 = .ok (.aload_n 0, 1) := by decide +kernel
theorem own_d22_55 : decode jdk_48_method_13_code 55 = .ok (.iload_n 3, 1) := by decide +kernel
theorem own_d22_56 : decode jdk_48_method_13_code 56 = .ok (.baload, 1) := by decide +kernel
theorem own_d22_57 : decode jdk_48_method_13_code 57 = .ok (.aload_n 1, 1) := by decide +kernel
theorem own_d22_58 : decode jdk_48_method_13_code 58 = .ok (.iload_n 3, 1) := by decide +kernel
theorem own_d22_59 : decode jdk_48_method_13_code 59 = .ok (.baload, 1) := by decide +kernel
theorem own_d22_60 : decode jdk_48_method_13_code 60 = .ok (.if_icmp .eq 5, 3) := by decide +kernel
theorem own_d22_65 : decode jdk_48_method_13_code 65 = .ok (.iinc 3 1, 3) := by decide +kernel
theorem own_d22_68 : decode jdk_48_method_13_code 68 = .ok (.goto (-19), 3) := by decide +kernel
theorem own_efMI1 (m : MethodId) (x0 : Addr) (x1 : Addr) (x2 : Int32) : entryFrame m #[(.ref x0), (.ref x1), (.int x2)] 4 = mkF m 0 #[.val (.ref x0), .val (.ref x1), .val (.int x2), .unset] [] := by first | (simp [entryFrame, mkF, argsToLocals, Value.category]; done) | rfl
abbrev own_QMI1 (Z : State) (t u : Addr) (kt ku : ClassId) (k0 k1 : Int32) (h0 : Heap) (n0 : Nat) : Option Value → Heap → List Loc → Prop := fun v h L => v = some (.int (-1 : Int32)) ∧ Fr n0 L ∧ h = h0
set_option maxRecDepth 65536 in
set_option maxHeartbeats 40000000 in
theorem own_rmMI1 (l : Launch) (Z : State) (a0 : Array Value) (hw : ∀ d ∈ tables_1, d.before a0 Z = true) (ws : List Jvm.Cond) (t u : Addr) (kt ku : ClassId) (k0 k1 : Int32) (h0 : Heap) (n0 : Nat) (O : Old Z n0 h0) (At : Arv Z h0 t kt .byte (1 : Int32) [(.int k0)] (.int (0 : Int32))) (Au : Arv Z h0 u ku .byte (1 : Int32) [(.int k0)] (.int (0 : Int32))) :
    MetFree l own_y24 (head1 (Jvm.Cond.code own_y24 jdk_48_method_13_code 4 (some .int) :: ws) ({ frames := 0, cells := 0, slots := 0, locals := 0 } : Room)) (fun aa U => aa = #[(.ref t), (.ref u), (.int (1 : Int32))] ∧ Z.Warmed39 U.vm ∧ U.heap = h0) (fun _ _ _ _ _ => True) (fun _ U o U' => ∃ v L, o = .returned v ∧ (own_QMI1 Z t u kt ku k0 k1 h0 n0) v U'.heap L ∧ FrameEnd U o U' L ({ frames := 0, cells := 0, slots := 0, locals := 0 } : Room).cells ({ frames := 0, cells := 0, slots := 0, locals := 0 } : Room).slots) := by
  refine MetFree.of_bodySF (plainFor_of_name own_pn20) hisR ?_
  intro p e s m args below meth c s₁ Bd hml0 hP hK
  obtain ⟨rfl, hZ, hh⟩ := hP
  have hx := Bd.exec
  have hby := Bd.bytes
  have hml : c.maxLocals = 4 := hml0
  have hown : s.vm.findClass "jdk/internal/util/ArraysSupport" = some m.cls := findClass_of_methodNamed Bd.named
  have hnm := (name_of_methodNamed Bd.named Bd.method).1
  have X0 : Stand p l e ({ frames := 0, cells := 0, slots := 0, locals := 0 } : Room) s m #[(.ref t), (.ref u), (.int (1 : Int32))] below meth c s₁ [] 0 0 := Stand.of_body Bd
  have e0 : s₁.heap = h0 := by rw [← hh, Bd.state]; rfl
  have N0 := Fr.nil n0
  refine Out.start (Q := own_QMI1 Z t u kt ku k0 k1 h0 n0) (own_efMI1 m t u (1 : Int32) ) ?_
  refine Out.via (g' := (mkF m 1 #[vR t, vR u, vI 1, vU] [(.int (0 : Int32))])) (fun _ k => XS.iconst X0.here hx rfl (hb hby own_d22_0) k) ?_
  refine Out.via (g' := (mkF m 2 #[vR t, vR u, vI 1, vI 0] [])) (fun _ k => XS.istoreN X0.here hx rfl (hb hby own_d22_1) rfl (l' := #[.val (.ref t), .val (.ref u), .val (.int (1 : Int32)), .val (.int (0 : Int32))]) rfl k) ?_
  refine Out.via (g' := (mkF m 3 #[vR t, vR u, vI 1, vI 0] [(.int (1 : Int32))])) (fun _ k => XS.iloadN X0.here hx rfl (hb hby own_d22_2) rfl k) ?_
  refine Out.via (g' := (mkF m 5 #[vR t, vR u, vI 1, vI 0] [(.int (7 : Int32)), (.int (1 : Int32))])) (fun _ k => XS.bipush X0.here hx rfl (hb hby own_d22_3) k) ?_
  refine Out.via (g' := (mkF m 49 #[vR t, vR u, vI 1, vI 0] [])) (fun _ k => XS.icmpYes X0.here hx rfl (pc0 := 5) (pc' := 49) rfl (hb hby own_d22_5) rfl (flt (by decide)).2.2.2 (by decide) (by decide) k) ?_
  refine Out.via (g' := (mkF m 50 #[vR t, vR u, vI 1, vI 0] [(.int (0 : Int32))])) (fun _ k => XS.iloadN X0.here hx rfl (hb hby own_d22_49) rfl k) ?_
  refine Out.via (g' := (mkF m 51 #[vR t, vR u, vI 1, vI 0] [(.int (1 : Int32)), (.int (0 : Int32))])) (fun _ k => XS.iloadN X0.here hx rfl (hb hby own_d22_50) rfl k) ?_
  refine Out.via (g' := (mkF m 54 #[vR t, vR u, vI 1, vI 0] [])) (fun _ k => XS.icmpNo X0.here hx rfl (hb hby own_d22_51) rfl (tlt (by decide)).2.1 k) ?_
  refine Out.via (g' := (mkF m 55 #[vR t, vR u, vI 1, vI 0] [(.ref t)])) (fun _ k => XS.aloadN X0.here hx rfl (hb hby own_d22_54) rfl rfl k) ?_
  refine Out.via (g' := (mkF m 56 #[vR t, vR u, vI 1, vI 0] [(.int (0 : Int32)), (.ref t)])) (fun _ k => XS.iloadN X0.here hx rfl (hb hby own_d22_55) rfl k) ?_
  obtain ⟨cl_e0, Ar_e0, q_e0, S_e0, M_e0, H_e0, G_e0⟩ := id At
  have hin_e0 : ¬ ((0 : Int32) < 0 ∨ cl_e0.slots.size ≤ ((0 : Int32)).toNatClampNeg) := inb_of S_e0 ⟨by decide, by decide⟩
  refine Out.via (g' := (mkF m 57 #[vR t, vR u, vI 1, vI 0] [(.int k0)])) (fun _ k => X0.baloadBytes hx (j := (0 : Int32)) (v := (.int k0)) (by rw [e0]; exact Ar_e0.1) (State.isArrayOf_alike hZ.alike Ar_e0.2.1) Ar_e0.2.2 hin_e0 (H_e0.at hin_e0 rfl) (g := (mkF m 56 #[vR t, vR u, vI 1, vI 0] [(.int (0 : Int32)), (.ref t)])) rfl rfl (hb hby own_d22_56) _ k) ?_
  refine Out.via (g' := (mkF m 58 #[vR t, vR u, vI 1, vI 0] [(.ref u), (.int k0)])) (fun _ k => XS.aloadN X0.here hx rfl (hb hby own_d22_57) rfl rfl k) ?_
  refine Out.via (g' := (mkF m 59 #[vR t, vR u, vI 1, vI 0] [(.int (0 : Int32)), (.ref u), (.int k0)])) (fun _ k => XS.iloadN X0.here hx rfl (hb hby own_d22_58) rfl k) ?_
  obtain ⟨cl_f0, Ar_f0, q_f0, S_f0, M_f0, H_f0, G_f0⟩ := id Au
  have hin_f0 : ¬ ((0 : Int32) < 0 ∨ cl_f0.slots.size ≤ ((0 : Int32)).toNatClampNeg) := inb_of S_f0 ⟨by decide, by decide⟩
  refine Out.via (g' := (mkF m 60 #[vR t, vR u, vI 1, vI 0] [(.int k0), (.int k0)])) (fun _ k => X0.baloadBytes hx (j := (0 : Int32)) (v := (.int k0)) (by rw [e0]; exact Ar_f0.1) (State.isArrayOf_alike hZ.alike Ar_f0.2.1) Ar_f0.2.2 hin_f0 (H_f0.at hin_f0 rfl) (g := (mkF m 59 #[vR t, vR u, vI 1, vI 0] [(.int (0 : Int32)), (.ref u), (.int k0)])) rfl rfl (hb hby own_d22_59) _ k) ?_
  refine Out.via (g' := (mkF m 65 #[vR t, vR u, vI 1, vI 0] [])) (fun _ k => XS.icmpYes X0.here hx rfl (pc0 := 60) (pc' := 65) rfl (hb hby own_d22_60) rfl (teq rfl).1 (by decide) (by decide) k) ?_
  refine Out.via (g' := (mkF m 68 #[vR t, vR u, vI 1, .val (.int ((0 : Int32) + (1 : Int32)))] [])) (fun _ k => XS.iinc X0.here hx rfl (hb hby own_d22_65) rfl (l' := #[.val (.ref t), .val (.ref u), .val (.int (1 : Int32)), .val (.int ((0 : Int32) + (1 : Int32)))]) rfl k) ?_
  refine Out.via (g' := (mkF m 49 #[vR t, vR u, vI 1, .val (.int ((0 : Int32) + (1 : Int32)))] [])) (fun _ k => XS.goto X0.here hx rfl (pc0 := 68) (pc' := 49) rfl (hb hby own_d22_68) (by decide) (by decide) k) ?_
  refine Out.via (g' := (mkF m 50 #[vR t, vR u, vI 1, .val (.int ((0 : Int32) + (1 : Int32)))] [(.int ((0 : Int32) + (1 : Int32)))])) (fun _ k => XS.iloadN X0.here hx rfl (hb hby own_d22_49) rfl k) ?_
  refine Out.via (g' := (mkF m 51 #[vR t, vR u, vI 1, .val (.int ((0 : Int32) + (1 : Int32)))] [(.int (1 : Int32)), (.int ((0 : Int32) + (1 : Int32)))])) (fun _ k => XS.iloadN X0.here hx rfl (hb hby own_d22_50) rfl k) ?_
  refine Out.via (g' := (mkF m 71 #[vR t, vR u, vI 1, .val (.int ((0 : Int32) + (1 : Int32)))] [])) (fun _ k => XS.icmpYes X0.here hx rfl (pc0 := 51) (pc' := 71) rfl (hb hby own_d22_51) rfl (flt (by decide)).2.1 (by decide) (by decide) k) ?_
  refine Out.via (g' := (mkF m 72 #[vR t, vR u, vI 1, .val (.int ((0 : Int32) + (1 : Int32)))] [(.int (-1 : Int32))])) (fun _ k => XS.iconst X0.here hx rfl (hb hby own_d22_71) k) ?_
  exact Out.endN X0 (fun h => by rw [Bd.returns] at h; cases h) Bd.notSynchronized (by decide) (by decide) (by rw [e0]; exact ⟨rfl, N0, rfl⟩) (fun fs hr => own_retI X0 hx Bd.returns (hb hby own_d22_72) hr)
theorem own_efAE1 (m : MethodId) (x0 : Addr) (x1 : Addr) : entryFrame m #[(.ref x0), (.ref x1)] 3 = mkF m 0 #[.val (.ref x0), .val (.ref x1), .unset] [] := by first | (simp [entryFrame, mkF, argsToLocals, Value.category]; done) | rfl
abbrev own_QAE1 (Z : State) (t u : Addr) (kt ku : ClassId) (k0 k1 : Int32) (h0 : Heap) (n0 : Nat) : Option Value → Heap → List Loc → Prop := fun v h L => v = some (.int (1 : Int32)) ∧ Fr n0 L ∧ h = h0
set_option maxRecDepth 65536 in
set_option maxHeartbeats 40000000 in
theorem own_rmAE1 (l : Launch) (Z : State) (a0 : Array Value) (hw : ∀ d ∈ tables_1, d.before a0 Z = true) (ws : List Jvm.Cond) (t u : Addr) (kt ku : ClassId) (k0 k1 : Int32) (h0 : Heap) (n0 : Nat) (O : Old Z n0 h0) (At : Arv Z h0 t kt .byte (1 : Int32) [(.int k0)] (.int (0 : Int32))) (Au : Arv Z h0 u ku .byte (1 : Int32) [(.int k0)] (.int (0 : Int32))) :
    MetFree l own_y25 (head1 (Jvm.Cond.code own_y25 jdk_65_method_89_code 3 (some .boolean) :: ws) ({ frames := 1, cells := 0, slots := 0, locals := 15 } : Room)) (fun aa U => aa = #[(.ref t), (.ref u)] ∧ Z.Warmed39 U.vm ∧ U.heap = h0) (fun _ _ _ _ _ => True) (fun _ U o U' => ∃ v L, o = .returned v ∧ (own_QAE1 Z t u kt ku k0 k1 h0 n0) v U'.heap L ∧ FrameEnd U o U' L ({ frames := 1, cells := 0, slots := 0, locals := 15 } : Room).cells ({ frames := 1, cells := 0, slots := 0, locals := 15 } : Room).slots) := by
  refine MetFree.of_bodySF (plainFor_of_name own_pn4) hisR ?_
  intro p e s m args below meth c s₁ Bd hml0 hP hK
  obtain ⟨rfl, hZ, hh⟩ := hP
  have hx := Bd.exec
  have hby := Bd.bytes
  have hml : c.maxLocals = 3 := hml0
  have hown : s.vm.findClass "java/util/Arrays" = some m.cls := findClass_of_methodNamed Bd.named
  have hnm := (name_of_methodNamed Bd.named Bd.method).1
  have X0 : Stand p l e ({ frames := 1, cells := 0, slots := 0, locals := 15 } : Room) s m #[(.ref t), (.ref u)] below meth c s₁ [] 0 0 := Stand.of_body Bd
  have e0 : s₁.heap = h0 := by rw [← hh, Bd.state]; rfl
  have N0 := Fr.nil n0
  refine Out.start (Q := own_QAE1 Z t u kt ku k0 k1 h0 n0) (own_efAE1 m t u ) ?_
  refine Out.via (g' := (mkF m 1 #[vR t, vR u, vU] [(.ref t)])) (fun _ k => XS.aloadN X0.here hx rfl (hb hby own_d23_0) rfl rfl k) ?_
  refine Out.via (g' := (mkF m 2 #[vR t, vR u, vU] [(.ref u), (.ref t)])) (fun _ k => XS.aloadN X0.here hx rfl (hb hby own_d23_1) rfl rfl k) ?_
  by_cases htu : t = u
  · refine Out.via (g' := (mkF m 5 #[vR t, vR u, vU] [])) (fun _ k => Jvm.RoadKit.acmp (g := (mkF m 2 #[vR t, vR u, vU] [(.ref u), (.ref t)])) X0 hx rfl rfl rfl (pc0 := 2) (pc' := 5) (same := true) rfl (hb hby own_d23_2) rfl (decide_eq_true (congrArg Value.ref htu)) (by decide) (by decide) k) ?_
    refine Out.via (g' := (mkF m 6 #[vR t, vR u, vU] [(.int (1 : Int32))])) (fun _ k => XS.iconst X0.here hx rfl (hb hby own_d23_5) k) ?_
    exact Out.endN X0 (fun h => by rw [Bd.returns] at h; cases h) Bd.notSynchronized (by decide) (by decide) (by rw [e0]; exact ⟨rfl, N0, rfl⟩) (fun fs hr => Jvm.RoadKit.retN X0 hx (t := .boolean) Bd.returns (by simp) (hb hby own_d23_6) hr)
  · refine Out.via (g' := (mkF m 7 #[vR t, vR u, vU] [])) (fun _ k => Jvm.RoadKit.acmp (g := (mkF m 2 #[vR t, vR u, vU] [(.ref u), (.ref t)])) X0 hx rfl rfl rfl (pc0 := 2) (pc' := 7) (same := false) rfl (hb hby own_d23_2) rfl (decide_eq_false fun q => htu (Value.ref.inj q)) (by decide) (by decide) k) ?_
    refine Out.via (g' := (mkF m 8 #[vR t, vR u, vU] [(.ref t)])) (fun _ k => XS.aloadN X0.here hx rfl (hb hby own_d23_7) rfl rfl k) ?_
    refine Out.via (g' := (mkF m 11 #[vR t, vR u, vU] [])) (fun _ k => XS.ifnullNo X0.here hx rfl (hb hby own_d23_8) rfl k) ?_
    refine Out.via (g' := (mkF m 12 #[vR t, vR u, vU] [(.ref u)])) (fun _ k => XS.aloadN X0.here hx rfl (hb hby own_d23_11) rfl rfl k) ?_
    refine Out.via (g' := (mkF m 17 #[vR t, vR u, vU] [])) (fun _ k => XS.ifnonnullYes X0.here hx rfl (pc0 := 12) (pc' := 17) rfl (hb hby own_d23_12) rfl (by decide) (by decide) k) ?_
    refine Out.via (g' := (mkF m 18 #[vR t, vR u, vU] [(.ref t)])) (fun _ k => XS.aloadN X0.here hx rfl (hb hby own_d23_17) rfl rfl k) ?_
    obtain ⟨cl_p, Ar_p, q_p, S_p, M_p, H_p, G_p⟩ := id At
    refine Out.via (g' := (mkF m 19 #[vR t, vR u, vU] [(.int cl_p.slots.size.toInt32)])) (fun _ k => X0.arraylength hx (by rw [e0]; exact Ar_p.1) (State.isArrayOf_alike hZ.alike Ar_p.2.1) (g := (mkF m 18 #[vR t, vR u, vU] [(.ref t)])) rfl rfl (hb hby own_d23_18) _ k) ?_
    rw [len_of S_p M_p]
    refine Out.via (g' := (mkF m 20 #[vR t, vR u, vI 1] [])) (fun _ k => XS.istoreN X0.here hx rfl (hb hby own_d23_19) rfl (l' := #[.val (.ref t), .val (.ref u), .val (.int (1 : Int32))]) rfl k) ?_
    refine Out.via (g' := (mkF m 21 #[vR t, vR u, vI 1] [(.ref u)])) (fun _ k => XS.aloadN X0.here hx rfl (hb hby own_d23_20) rfl rfl k) ?_
    obtain ⟨cl_q, Ar_q, q_q, S_q, M_q, H_q, G_q⟩ := id Au
    refine Out.via (g' := (mkF m 22 #[vR t, vR u, vI 1] [(.int cl_q.slots.size.toInt32)])) (fun _ k => X0.arraylength hx (by rw [e0]; exact Ar_q.1) (State.isArrayOf_alike hZ.alike Ar_q.2.1) (g := (mkF m 21 #[vR t, vR u, vI 1] [(.ref u)])) rfl rfl (hb hby own_d23_21) _ k) ?_
    rw [len_of S_q M_q]
    refine Out.via (g' := (mkF m 23 #[vR t, vR u, vI 1] [(.int (1 : Int32)), (.int (1 : Int32))])) (fun _ k => XS.iloadN X0.here hx rfl (hb hby own_d23_22) rfl k) ?_
    refine Out.via (g' := (mkF m 28 #[vR t, vR u, vI 1] [])) (fun _ k => XS.icmpYes X0.here hx rfl (pc0 := 23) (pc' := 28) rfl (hb hby own_d23_23) rfl (teq rfl).1 (by decide) (by decide) k) ?_
    refine Out.via (g' := (mkF m 29 #[vR t, vR u, vI 1] [(.ref t)])) (fun _ k => XS.aloadN X0.here hx rfl (hb hby own_d23_28) rfl rfl k) ?_
    refine Out.via (g' := (mkF m 30 #[vR t, vR u, vI 1] [(.ref u), (.ref t)])) (fun _ k => XS.aloadN X0.here hx rfl (hb hby own_d23_29) rfl rfl k) ?_
    refine Out.via (g' := (mkF m 31 #[vR t, vR u, vI 1] [(.int (1 : Int32)), (.ref u), (.ref t)])) (fun _ k => XS.iloadN X0.here hx rfl (hb hby own_d23_30) rfl k) ?_
    obtain ⟨_, _, ⟨T1, L1, kc1, ks1⟩, -, X1, ⟨Lc1, hQ1, l1, y1, z1⟩, st1⟩ := Jvm.LawKit.callS X0 hx (y := own_y24) hown (mvT hZ (W_ hw 149 rfl)) (mvT hZ (W_ hw 150 rfl)) (mvT hZ (W_ hw 151 rfl)) (mvT hZ (W_ hw 152 rfl)) (by decide) (backOf (W := 0) (own_rmMI1 l Z a0 hw [] t u kt ku k0 k1 h0 n0 O At Au) hZ (W_ hw 152 rfl) (W_ hw 151 rfl) (by decide) (by decide)) (g := (mkF m 31 #[vR t, vR u, vI 1] [(.int (1 : Int32)), (.ref u), (.ref t)])) rfl (by rw [hml]; rfl) (argsL := [(.ref t), (.ref u), (.int (1 : Int32))]) (rest := []) (lenOf own_pd26 rfl) rfl (by show 2 * 0 + _ ≤ _; exact Nat.le_of_eq rfl) (hb hby own_d23_31) (fun _ _ => ⟨rfl, e0, (by decide : 0 + 0 ≤ _), (by decide : 0 + 0 ≤ _)⟩)
    dsimp only [Pt.U, Pt.locs, Pt.cells, Pt.slots] at X1 l1 y1 z1 st1 hQ1
    subst l1 y1 z1
    obtain ⟨rfl, Nq1, eq1⟩ := hQ1
    replace N0 := Fr.app N0 Nq1
    refine Out.via (g' := (mkF m 34 #[vR t, vR u, vI 1] [(.int (-1 : Int32))])) st1 ?_
    refine Out.via (g' := (mkF m 37 #[vR t, vR u, vI 1] [])) (fun _ k => XS.ifNo X1.here hx rfl (hb hby own_d23_34) rfl ((if0 _ _).trans (tlt (by decide)).2.1) k) ?_
    refine Out.via (g' := (mkF m 38 #[vR t, vR u, vI 1] [(.int (1 : Int32))])) (fun _ k => XS.iconst X1.here hx rfl (hb hby own_d23_37) k) ?_
    refine Out.via (g' := (mkF m 42 #[vR t, vR u, vI 1] [(.int (1 : Int32))])) (fun _ k => XS.goto X1.here hx rfl (pc0 := 38) (pc' := 42) rfl (hb hby own_d23_38) (by decide) (by decide) k) ?_
    exact Out.endN X1 (fun h => by rw [Bd.returns] at h; cases h) Bd.notSynchronized (by decide) (by decide) (by rw [eq1]; exact ⟨rfl, N0, rfl⟩) (fun fs hr => Jvm.RoadKit.retN X1 hx (t := .boolean) Bd.returns (by simp) (hb hby own_d23_42) hr)
theorem own_efMI2 (m : MethodId) (x0 : Addr) (x1 : Addr) (x2 : Int32) : entryFrame m #[(.ref x0), (.ref x1), (.int x2)] 4 = mkF m 0 #[.val (.ref x0), .val (.ref x1), .val (.int x2), .unset] [] := by first | (simp [entryFrame, mkF, argsToLocals, Value.category]; done) | rfl
abbrev own_QMI2 (Z : State) (t u : Addr) (kt ku : ClassId) (k0 k1 : Int32) (h0 : Heap) (n0 : Nat) : Option Value → Heap → List Loc → Prop := fun v h L => v = some (.int (-1 : Int32)) ∧ Fr n0 L ∧ h = h0
set_option maxRecDepth 65536 in
set_option maxHeartbeats 40000000 in
theorem own_rmMI2 (l : Launch) (Z : State) (a0 : Array Value) (hw : ∀ d ∈ tables_1, d.before a0 Z = true) (ws : List Jvm.Cond) (t u : Addr) (kt ku : ClassId) (k0 k1 : Int32) (h0 : Heap) (n0 : Nat) (O : Old Z n0 h0) (At : Arv Z h0 t kt .byte (2 : Int32) [(.int k0), (.int k1)] (.int (0 : Int32))) (Au : Arv Z h0 u ku .byte (2 : Int32) [(.int k0), (.int k1)] (.int (0 : Int32))) :
    MetFree l own_y24 (head1 (Jvm.Cond.code own_y24 jdk_48_method_13_code 4 (some .int) :: ws) ({ frames := 0, cells := 0, slots := 0, locals := 0 } : Room)) (fun aa U => aa = #[(.ref t), (.ref u), (.int (2 : Int32))] ∧ Z.Warmed39 U.vm ∧ U.heap = h0) (fun _ _ _ _ _ => True) (fun _ U o U' => ∃ v L, o = .returned v ∧ (own_QMI2 Z t u kt ku k0 k1 h0 n0) v U'.heap L ∧ FrameEnd U o U' L ({ frames := 0, cells := 0, slots := 0, locals := 0 } : Room).cells ({ frames := 0, cells := 0, slots := 0, locals := 0 } : Room).slots) := by
  refine MetFree.of_bodySF (plainFor_of_name own_pn20) hisR ?_
  intro p e s m args below meth c s₁ Bd hml0 hP hK
  obtain ⟨rfl, hZ, hh⟩ := hP
  have hx := Bd.exec
  have hby := Bd.bytes
  have hml : c.maxLocals = 4 := hml0
  have hown : s.vm.findClass "jdk/internal/util/ArraysSupport" = some m.cls := findClass_of_methodNamed Bd.named
  have hnm := (name_of_methodNamed Bd.named Bd.method).1
  have X0 : Stand p l e ({ frames := 0, cells := 0, slots := 0, locals := 0 } : Room) s m #[(.ref t), (.ref u), (.int (2 : Int32))] below meth c s₁ [] 0 0 := Stand.of_body Bd
  have e0 : s₁.heap = h0 := by rw [← hh, Bd.state]; rfl
  have N0 := Fr.nil n0
  refine Out.start (Q := own_QMI2 Z t u kt ku k0 k1 h0 n0) (own_efMI2 m t u (2 : Int32) ) ?_
  refine Out.via (g' := (mkF m 1 #[vR t, vR u, vI 2, vU] [(.int (0 : Int32))])) (fun _ k => XS.iconst X0.here hx rfl (hb hby own_d22_0) k) ?_
  refine Out.via (g' := (mkF m 2 #[vR t, vR u, vI 2, vI 0] [])) (fun _ k => XS.istoreN X0.here hx rfl (hb hby own_d22_1) rfl (l' := #[.val (.ref t), .val (.ref u), .val (.int (2 : Int32)), .val (.int (0 : Int32))]) rfl k) ?_
  refine Out.via (g' := (mkF m 3 #[vR t, vR u, vI 2, vI 0] [(.int (2 : Int32))])) (fun _ k => XS.iloadN X0.here hx rfl (hb hby own_d22_2) rfl k) ?_
  refine Out.via (g' := (mkF m 5 #[vR t, vR u, vI 2, vI 0] [(.int (7 : Int32)), (.int (2 : Int32))])) (fun _ k => XS.bipush X0.here hx rfl (hb hby own_d22_3) k) ?_
  refine Out.via (g' := (mkF m 49 #[vR t, vR u, vI 2, vI 0] [])) (fun _ k => XS.icmpYes X0.here hx rfl (pc0 := 5) (pc' := 49) rfl (hb hby own_d22_5) rfl (flt (by decide)).2.2.2 (by decide) (by decide) k) ?_
  refine Out.via (g' := (mkF m 50 #[vR t, vR u, vI 2, vI 0] [(.int (0 : Int32))])) (fun _ k => XS.iloadN X0.here hx rfl (hb hby own_d22_49) rfl k) ?_
  refine Out.via (g' := (mkF m 51 #[vR t, vR u, vI 2, vI 0] [(.int (2 : Int32)), (.int (0 : Int32))])) (fun _ k => XS.iloadN X0.here hx rfl (hb hby own_d22_50) rfl k) ?_
  refine Out.via (g' := (mkF m 54 #[vR t, vR u, vI 2, vI 0] [])) (fun _ k => XS.icmpNo X0.here hx rfl (hb hby own_d22_51) rfl (tlt (by decide)).2.1 k) ?_
  refine Out.via (g' := (mkF m 55 #[vR t, vR u, vI 2, vI 0] [(.ref t)])) (fun _ k => XS.aloadN X0.here hx rfl (hb hby own_d22_54) rfl rfl k) ?_
  refine Out.via (g' := (mkF m 56 #[vR t, vR u, vI 2, vI 0] [(.int (0 : Int32)), (.ref t)])) (fun _ k => XS.iloadN X0.here hx rfl (hb hby own_d22_55) rfl k) ?_
  obtain ⟨cl_e0, Ar_e0, q_e0, S_e0, M_e0, H_e0, G_e0⟩ := id At
  have hin_e0 : ¬ ((0 : Int32) < 0 ∨ cl_e0.slots.size ≤ ((0 : Int32)).toNatClampNeg) := inb_of S_e0 ⟨by decide, by decide⟩
  refine Out.via (g' := (mkF m 57 #[vR t, vR u, vI 2, vI 0] [(.int k0)])) (fun _ k => X0.baloadBytes hx (j := (0 : Int32)) (v := (.int k0)) (by rw [e0]; exact Ar_e0.1) (State.isArrayOf_alike hZ.alike Ar_e0.2.1) Ar_e0.2.2 hin_e0 (H_e0.at hin_e0 rfl) (g := (mkF m 56 #[vR t, vR u, vI 2, vI 0] [(.int (0 : Int32)), (.ref t)])) rfl rfl (hb hby own_d22_56) _ k) ?_
  refine Out.via (g' := (mkF m 58 #[vR t, vR u, vI 2, vI 0] [(.ref u), (.int k0)])) (fun _ k => XS.aloadN X0.here hx rfl (hb hby own_d22_57) rfl rfl k) ?_
  refine Out.via (g' := (mkF m 59 #[vR t, vR u, vI 2, vI 0] [(.int (0 : Int32)), (.ref u), (.int k0)])) (fun _ k => XS.iloadN X0.here hx rfl (hb hby own_d22_58) rfl k) ?_
  obtain ⟨cl_f0, Ar_f0, q_f0, S_f0, M_f0, H_f0, G_f0⟩ := id Au
  have hin_f0 : ¬ ((0 : Int32) < 0 ∨ cl_f0.slots.size ≤ ((0 : Int32)).toNatClampNeg) := inb_of S_f0 ⟨by decide, by decide⟩
  refine Out.via (g' := (mkF m 60 #[vR t, vR u, vI 2, vI 0] [(.int k0), (.int k0)])) (fun _ k => X0.baloadBytes hx (j := (0 : Int32)) (v := (.int k0)) (by rw [e0]; exact Ar_f0.1) (State.isArrayOf_alike hZ.alike Ar_f0.2.1) Ar_f0.2.2 hin_f0 (H_f0.at hin_f0 rfl) (g := (mkF m 59 #[vR t, vR u, vI 2, vI 0] [(.int (0 : Int32)), (.ref u), (.int k0)])) rfl rfl (hb hby own_d22_59) _ k) ?_
  refine Out.via (g' := (mkF m 65 #[vR t, vR u, vI 2, vI 0] [])) (fun _ k => XS.icmpYes X0.here hx rfl (pc0 := 60) (pc' := 65) rfl (hb hby own_d22_60) rfl (teq rfl).1 (by decide) (by decide) k) ?_
  refine Out.via (g' := (mkF m 68 #[vR t, vR u, vI 2, .val (.int ((0 : Int32) + (1 : Int32)))] [])) (fun _ k => XS.iinc X0.here hx rfl (hb hby own_d22_65) rfl (l' := #[.val (.ref t), .val (.ref u), .val (.int (2 : Int32)), .val (.int ((0 : Int32) + (1 : Int32)))]) rfl k) ?_
  refine Out.via (g' := (mkF m 49 #[vR t, vR u, vI 2, .val (.int ((0 : Int32) + (1 : Int32)))] [])) (fun _ k => XS.goto X0.here hx rfl (pc0 := 68) (pc' := 49) rfl (hb hby own_d22_68) (by decide) (by decide) k) ?_
  refine Out.via (g' := (mkF m 50 #[vR t, vR u, vI 2, .val (.int ((0 : Int32) + (1 : Int32)))] [(.int ((0 : Int32) + (1 : Int32)))])) (fun _ k => XS.iloadN X0.here hx rfl (hb hby own_d22_49) rfl k) ?_
  refine Out.via (g' := (mkF m 51 #[vR t, vR u, vI 2, .val (.int ((0 : Int32) + (1 : Int32)))] [(.int (2 : Int32)), (.int ((0 : Int32) + (1 : Int32)))])) (fun _ k => XS.iloadN X0.here hx rfl (hb hby own_d22_50) rfl k) ?_
  refine Out.via (g' := (mkF m 54 #[vR t, vR u, vI 2, .val (.int ((0 : Int32) + (1 : Int32)))] [])) (fun _ k => XS.icmpNo X0.here hx rfl (hb hby own_d22_51) rfl (tlt (by decide)).2.1 k) ?_
  refine Out.via (g' := (mkF m 55 #[vR t, vR u, vI 2, .val (.int ((0 : Int32) + (1 : Int32)))] [(.ref t)])) (fun _ k => XS.aloadN X0.here hx rfl (hb hby own_d22_54) rfl rfl k) ?_
  refine Out.via (g' := (mkF m 56 #[vR t, vR u, vI 2, .val (.int ((0 : Int32) + (1 : Int32)))] [(.int ((0 : Int32) + (1 : Int32))), (.ref t)])) (fun _ k => XS.iloadN X0.here hx rfl (hb hby own_d22_55) rfl k) ?_
  obtain ⟨cl_e1, Ar_e1, q_e1, S_e1, M_e1, H_e1, G_e1⟩ := id At
  have hin_e1 : ¬ (((0 : Int32) + (1 : Int32)) < 0 ∨ cl_e1.slots.size ≤ (((0 : Int32) + (1 : Int32))).toNatClampNeg) := inb_of S_e1 ⟨by decide, by decide⟩
  refine Out.via (g' := (mkF m 57 #[vR t, vR u, vI 2, .val (.int ((0 : Int32) + (1 : Int32)))] [(.int k1)])) (fun _ k => X0.baloadBytes hx (j := ((0 : Int32) + (1 : Int32))) (v := (.int k1)) (by rw [e0]; exact Ar_e1.1) (State.isArrayOf_alike hZ.alike Ar_e1.2.1) Ar_e1.2.2 hin_e1 (H_e1.at hin_e1 rfl) (g := (mkF m 56 #[vR t, vR u, vI 2, .val (.int ((0 : Int32) + (1 : Int32)))] [(.int ((0 : Int32) + (1 : Int32))), (.ref t)])) rfl rfl (hb hby own_d22_56) _ k) ?_
  refine Out.via (g' := (mkF m 58 #[vR t, vR u, vI 2, .val (.int ((0 : Int32) + (1 : Int32)))] [(.ref u), (.int k1)])) (fun _ k => XS.aloadN X0.here hx rfl (hb hby own_d22_57) rfl rfl k) ?_
  refine Out.via (g' := (mkF m 59 #[vR t, vR u, vI 2, .val (.int ((0 : Int32) + (1 : Int32)))] [(.int ((0 : Int32) + (1 : Int32))), (.ref u), (.int k1)])) (fun _ k => XS.iloadN X0.here hx rfl (hb hby own_d22_58) rfl k) ?_
  obtain ⟨cl_f1, Ar_f1, q_f1, S_f1, M_f1, H_f1, G_f1⟩ := id Au
  have hin_f1 : ¬ (((0 : Int32) + (1 : Int32)) < 0 ∨ cl_f1.slots.size ≤ (((0 : Int32) + (1 : Int32))).toNatClampNeg) := inb_of S_f1 ⟨by decide, by decide⟩
  refine Out.via (g' := (mkF m 60 #[vR t, vR u, vI 2, .val (.int ((0 : Int32) + (1 : Int32)))] [(.int k1), (.int k1)])) (fun _ k => X0.baloadBytes hx (j := ((0 : Int32) + (1 : Int32))) (v := (.int k1)) (by rw [e0]; exact Ar_f1.1) (State.isArrayOf_alike hZ.alike Ar_f1.2.1) Ar_f1.2.2 hin_f1 (H_f1.at hin_f1 rfl) (g := (mkF m 59 #[vR t, vR u, vI 2, .val (.int ((0 : Int32) + (1 : Int32)))] [(.int ((0 : Int32) + (1 : Int32))), (.ref u), (.int k1)])) rfl rfl (hb hby own_d22_59) _ k) ?_
  refine Out.via (g' := (mkF m 65 #[vR t, vR u, vI 2, .val (.int ((0 : Int32) + (1 : Int32)))] [])) (fun _ k => XS.icmpYes X0.here hx rfl (pc0 := 60) (pc' := 65) rfl (hb hby own_d22_60) rfl (teq rfl).1 (by decide) (by decide) k) ?_
  refine Out.via (g' := (mkF m 68 #[vR t, vR u, vI 2, .val (.int (((0 : Int32) + (1 : Int32)) + (1 : Int32)))] [])) (fun _ k => XS.iinc X0.here hx rfl (hb hby own_d22_65) rfl (l' := #[.val (.ref t), .val (.ref u), .val (.int (2 : Int32)), .val (.int (((0 : Int32) + (1 : Int32)) + (1 : Int32)))]) rfl k) ?_
  refine Out.via (g' := (mkF m 49 #[vR t, vR u, vI 2, .val (.int (((0 : Int32) + (1 : Int32)) + (1 : Int32)))] [])) (fun _ k => XS.goto X0.here hx rfl (pc0 := 68) (pc' := 49) rfl (hb hby own_d22_68) (by decide) (by decide) k) ?_
  refine Out.via (g' := (mkF m 50 #[vR t, vR u, vI 2, .val (.int (((0 : Int32) + (1 : Int32)) + (1 : Int32)))] [(.int (((0 : Int32) + (1 : Int32)) + (1 : Int32)))])) (fun _ k => XS.iloadN X0.here hx rfl (hb hby own_d22_49) rfl k) ?_
  refine Out.via (g' := (mkF m 51 #[vR t, vR u, vI 2, .val (.int (((0 : Int32) + (1 : Int32)) + (1 : Int32)))] [(.int (2 : Int32)), (.int (((0 : Int32) + (1 : Int32)) + (1 : Int32)))])) (fun _ k => XS.iloadN X0.here hx rfl (hb hby own_d22_50) rfl k) ?_
  refine Out.via (g' := (mkF m 71 #[vR t, vR u, vI 2, .val (.int (((0 : Int32) + (1 : Int32)) + (1 : Int32)))] [])) (fun _ k => XS.icmpYes X0.here hx rfl (pc0 := 51) (pc' := 71) rfl (hb hby own_d22_51) rfl (flt (by decide)).2.1 (by decide) (by decide) k) ?_
  refine Out.via (g' := (mkF m 72 #[vR t, vR u, vI 2, .val (.int (((0 : Int32) + (1 : Int32)) + (1 : Int32)))] [(.int (-1 : Int32))])) (fun _ k => XS.iconst X0.here hx rfl (hb hby own_d22_71) k) ?_
  exact Out.endN X0 (fun h => by rw [Bd.returns] at h; cases h) Bd.notSynchronized (by decide) (by decide) (by rw [e0]; exact ⟨rfl, N0, rfl⟩) (fun fs hr => own_retI X0 hx Bd.returns (hb hby own_d22_72) hr)
theorem own_efAE2 (m : MethodId) (x0 : Addr) (x1 : Addr) : entryFrame m #[(.ref x0), (.ref x1)] 3 = mkF m 0 #[.val (.ref x0), .val (.ref x1), .unset] [] := by first | (simp [entryFrame, mkF, argsToLocals, Value.category]; done) | rfl
abbrev own_QAE2 (Z : State) (t u : Addr) (kt ku : ClassId) (k0 k1 : Int32) (h0 : Heap) (n0 : Nat) : Option Value → Heap → List Loc → Prop := fun v h L => v = some (.int (1 : Int32)) ∧ Fr n0 L ∧ h = h0
set_option maxRecDepth 65536 in
set_option maxHeartbeats 40000000 in
theorem own_rmAE2 (l : Launch) (Z : State) (a0 : Array Value) (hw : ∀ d ∈ tables_1, d.before a0 Z = true) (ws : List Jvm.Cond) (t u : Addr) (kt ku : ClassId) (k0 k1 : Int32) (h0 : Heap) (n0 : Nat) (O : Old Z n0 h0) (At : Arv Z h0 t kt .byte (2 : Int32) [(.int k0), (.int k1)] (.int (0 : Int32))) (Au : Arv Z h0 u ku .byte (2 : Int32) [(.int k0), (.int k1)] (.int (0 : Int32))) :
    MetFree l own_y25 (head1 (Jvm.Cond.code own_y25 jdk_65_method_89_code 3 (some .boolean) :: ws) ({ frames := 1, cells := 0, slots := 0, locals := 15 } : Room)) (fun aa U => aa = #[(.ref t), (.ref u)] ∧ Z.Warmed39 U.vm ∧ U.heap = h0) (fun _ _ _ _ _ => True) (fun _ U o U' => ∃ v L, o = .returned v ∧ (own_QAE2 Z t u kt ku k0 k1 h0 n0) v U'.heap L ∧ FrameEnd U o U' L ({ frames := 1, cells := 0, slots := 0, locals := 15 } : Room).cells ({ frames := 1, cells := 0, slots := 0, locals := 15 } : Room).slots) := by
  refine MetFree.of_bodySF (plainFor_of_name own_pn4) hisR ?_
  intro p e s m args below meth c s₁ Bd hml0 hP hK
  obtain ⟨rfl, hZ, hh⟩ := hP
  have hx := Bd.exec
  have hby := Bd.bytes
  have hml : c.maxLocals = 3 := hml0
  have hown : s.vm.findClass "java/util/Arrays" = some m.cls := findClass_of_methodNamed Bd.named
  have hnm := (name_of_methodNamed Bd.named Bd.method).1
  have X0 : Stand p l e ({ frames := 1, cells := 0, slots := 0, locals := 15 } : Room) s m #[(.ref t), (.ref u)] below meth c s₁ [] 0 0 := Stand.of_body Bd
  have e0 : s₁.heap = h0 := by rw [← hh, Bd.state]; rfl
  have N0 := Fr.nil n0
  refine Out.start (Q := own_QAE2 Z t u kt ku k0 k1 h0 n0) (own_efAE2 m t u ) ?_
  refine Out.via (g' := (mkF m 1 #[vR t, vR u, vU] [(.ref t)])) (fun _ k => XS.aloadN X0.here hx rfl (hb hby own_d23_0) rfl rfl k) ?_
  refine Out.via (g' := (mkF m 2 #[vR t, vR u, vU] [(.ref u), (.ref t)])) (fun _ k => XS.aloadN X0.here hx rfl (hb hby own_d23_1) rfl rfl k) ?_
  by_cases htu : t = u
  · refine Out.via (g' := (mkF m 5 #[vR t, vR u, vU] [])) (fun _ k => Jvm.RoadKit.acmp (g := (mkF m 2 #[vR t, vR u, vU] [(.ref u), (.ref t)])) X0 hx rfl rfl rfl (pc0 := 2) (pc' := 5) (same := true) rfl (hb hby own_d23_2) rfl (decide_eq_true (congrArg Value.ref htu)) (by decide) (by decide) k) ?_
    refine Out.via (g' := (mkF m 6 #[vR t, vR u, vU] [(.int (1 : Int32))])) (fun _ k => XS.iconst X0.here hx rfl (hb hby own_d23_5) k) ?_
    exact Out.endN X0 (fun h => by rw [Bd.returns] at h; cases h) Bd.notSynchronized (by decide) (by decide) (by rw [e0]; exact ⟨rfl, N0, rfl⟩) (fun fs hr => Jvm.RoadKit.retN X0 hx (t := .boolean) Bd.returns (by simp) (hb hby own_d23_6) hr)
  · refine Out.via (g' := (mkF m 7 #[vR t, vR u, vU] [])) (fun _ k => Jvm.RoadKit.acmp (g := (mkF m 2 #[vR t, vR u, vU] [(.ref u), (.ref t)])) X0 hx rfl rfl rfl (pc0 := 2) (pc' := 7) (same := false) rfl (hb hby own_d23_2) rfl (decide_eq_false fun q => htu (Value.ref.inj q)) (by decide) (by decide) k) ?_
    refine Out.via (g' := (mkF m 8 #[vR t, vR u, vU] [(.ref t)])) (fun _ k => XS.aloadN X0.here hx rfl (hb hby own_d23_7) rfl rfl k) ?_
    refine Out.via (g' := (mkF m 11 #[vR t, vR u, vU] [])) (fun _ k => XS.ifnullNo X0.here hx rfl (hb hby own_d23_8) rfl k) ?_
    refine Out.via (g' := (mkF m 12 #[vR t, vR u, vU] [(.ref u)])) (fun _ k => XS.aloadN X0.here hx rfl (hb hby own_d23_11) rfl rfl k) ?_
    refine Out.via (g' := (mkF m 17 #[vR t, vR u, vU] [])) (fun _ k => XS.ifnonnullYes X0.here hx rfl (pc0 := 12) (pc' := 17) rfl (hb hby own_d23_12) rfl (by decide) (by decide) k) ?_
    refine Out.via (g' := (mkF m 18 #[vR t, vR u, vU] [(.ref t)])) (fun _ k => XS.aloadN X0.here hx rfl (hb hby own_d23_17) rfl rfl k) ?_
    obtain ⟨cl_p, Ar_p, q_p, S_p, M_p, H_p, G_p⟩ := id At
    refine Out.via (g' := (mkF m 19 #[vR t, vR u, vU] [(.int cl_p.slots.size.toInt32)])) (fun _ k => X0.arraylength hx (by rw [e0]; exact Ar_p.1) (State.isArrayOf_alike hZ.alike Ar_p.2.1) (g := (mkF m 18 #[vR t, vR u, vU] [(.ref t)])) rfl rfl (hb hby own_d23_18) _ k) ?_
    rw [len_of S_p M_p]
    refine Out.via (g' := (mkF m 20 #[vR t, vR u, vI 2] [])) (fun _ k => XS.istoreN X0.here hx rfl (hb hby own_d23_19) rfl (l' := #[.val (.ref t), .val (.ref u), .val (.int (2 : Int32))]) rfl k) ?_
    refine Out.via (g' := (mkF m 21 #[vR t, vR u, vI 2] [(.ref u)])) (fun _ k => XS.aloadN X0.here hx rfl (hb hby own_d23_20) rfl rfl k) ?_
    obtain ⟨cl_q, Ar_q, q_q, S_q, M_q, H_q, G_q⟩ := id Au
    refine Out.via (g' := (mkF m 22 #[vR t, vR u, vI 2] [(.int cl_q.slots.size.toInt32)])) (fun _ k => X0.arraylength hx (by rw [e0]; exact Ar_q.1) (State.isArrayOf_alike hZ.alike Ar_q.2.1) (g := (mkF m 21 #[vR t, vR u, vI 2] [(.ref u)])) rfl rfl (hb hby own_d23_21) _ k) ?_
    rw [len_of S_q M_q]
    refine Out.via (g' := (mkF m 23 #[vR t, vR u, vI 2] [(.int (2 : Int32)), (.int (2 : Int32))])) (fun _ k => XS.iloadN X0.here hx rfl (hb hby own_d23_22) rfl k) ?_
    refine Out.via (g' := (mkF m 28 #[vR t, vR u, vI 2] [])) (fun _ k => XS.icmpYes X0.here hx rfl (pc0 := 23) (pc' := 28) rfl (hb hby own_d23_23) rfl (teq rfl).1 (by decide) (by decide) k) ?_
    refine Out.via (g' := (mkF m 29 #[vR t, vR u, vI 2] [(.ref t)])) (fun _ k => XS.aloadN X0.here hx rfl (hb hby own_d23_28) rfl rfl k) ?_
    refine Out.via (g' := (mkF m 30 #[vR t, vR u, vI 2] [(.ref u), (.ref t)])) (fun _ k => XS.aloadN X0.here hx rfl (hb hby own_d23_29) rfl rfl k) ?_
    refine Out.via (g' := (mkF m 31 #[vR t, vR u, vI 2] [(.int (2 : Int32)), (.ref u), (.ref t)])) (fun _ k => XS.iloadN X0.here hx rfl (hb hby own_d23_30) rfl k) ?_
    obtain ⟨_, _, ⟨T1, L1, kc1, ks1⟩, -, X1, ⟨Lc1, hQ1, l1, y1, z1⟩, st1⟩ := Jvm.LawKit.callS X0 hx (y := own_y24) hown (mvT hZ (W_ hw 149 rfl)) (mvT hZ (W_ hw 150 rfl)) (mvT hZ (W_ hw 151 rfl)) (mvT hZ (W_ hw 152 rfl)) (by decide) (backOf (W := 0) (own_rmMI2 l Z a0 hw [] t u kt ku k0 k1 h0 n0 O At Au) hZ (W_ hw 152 rfl) (W_ hw 151 rfl) (by decide) (by decide)) (g := (mkF m 31 #[vR t, vR u, vI 2] [(.int (2 : Int32)), (.ref u), (.ref t)])) rfl (by rw [hml]; rfl) (argsL := [(.ref t), (.ref u), (.int (2 : Int32))]) (rest := []) (lenOf own_pd26 rfl) rfl (by show 2 * 0 + _ ≤ _; exact Nat.le_of_eq rfl) (hb hby own_d23_31) (fun _ _ => ⟨rfl, e0, (by decide : 0 + 0 ≤ _), (by decide : 0 + 0 ≤ _)⟩)
    dsimp only [Pt.U, Pt.locs, Pt.cells, Pt.slots] at X1 l1 y1 z1 st1 hQ1
    subst l1 y1 z1
    obtain ⟨rfl, Nq1, eq1⟩ := hQ1
    replace N0 := Fr.app N0 Nq1
    refine Out.via (g' := (mkF m 34 #[vR t, vR u, vI 2] [(.int (-1 : Int32))])) st1 ?_
    refine Out.via (g' := (mkF m 37 #[vR t, vR u, vI 2] [])) (fun _ k => XS.ifNo X1.here hx rfl (hb hby own_d23_34) rfl ((if0 _ _).trans (tlt (by decide)).2.1) k) ?_
    refine Out.via (g' := (mkF m 38 #[vR t, vR u, vI 2] [(.int (1 : Int32))])) (fun _ k => XS.iconst X1.here hx rfl (hb hby own_d23_37) k) ?_
    refine Out.via (g' := (mkF m 42 #[vR t, vR u, vI 2] [(.int (1 : Int32))])) (fun _ k => XS.goto X1.here hx rfl (pc0 := 38) (pc' := 42) rfl (hb hby own_d23_38) (by decide) (by decide) k) ?_
    exact Out.endN X1 (fun h => by rw [Bd.returns] at h; cases h) Bd.notSynchronized (by decide) (by decide) (by rw [eq1]; exact ⟨rfl, N0, rfl⟩) (fun fs hr => Jvm.RoadKit.retN X1 hx (t := .boolean) Bd.returns (by simp) (hb hby own_d23_42) hr)
/-- a byte[] that holds xs -/
def own_By (Z : State) (h : Heap) (b : Addr) (kb : ClassId) (xs : List Int32) : Prop := Arv Z h b kb .byte (Int32.ofNat xs.length) (xs.map Value.int) (.int (0 : Int32)) ∧ Exa Z h b "[B"
theorem own_By.ext {Z : State} {h h' : Heap} {b : Addr} {kb : ClassId} {xs : List Int32} (F : own_By Z h b kb xs) (E : Ext h h') : own_By Z h' b kb xs := ⟨F.1.ext E, F.2.ext E⟩
theorem own_By.keep {Z : State} {h h' : Heap} {b : Addr} {kb : ClassId} {xs : List Int32} {ws : List Addr} (F : own_By Z h b kb xs) (K : Keep h h' ws) (q : b ∉ ws) : own_By Z h' b kb xs := ⟨F.1.keep K q, F.2.keep K⟩
theorem own_By.other {Z : State} {h h' : Heap} {b x : Addr} {kb : ClassId} {xs : List Int32} {sl : Nat} {v : Value} (F : own_By Z h b kb xs) (W : Wr h h' x sl v) (q : b ≠ x) : own_By Z h' b kb xs := ⟨F.1.other W q, F.2.wr W⟩
def own_H : List Int32 → Int32
  | [x0] => own_H1 x0 0
  | [x0, x1] => own_H2 x0 x1
  | _ => 0
def own_K : List Int32 → Int32
  | [] => own_K0 0 0
  | [k0] => own_K1 k0 0
  | [k0, k1] => own_K2 k0 k1
  | _ => 0
abbrev own_QCK (Z : State) (a u8 b : Addr) (kb : ClassId) (xs : List Int32) (x0 x1 G1 : Int32) (h0 : Heap) (n0 : Nat) : Option Value → Heap → List Loc → Prop := fun v h L => v = some (.ref a) ∧ Fr n0 L ∧ Keep h0 h []
set_option maxRecDepth 65536 in
set_option maxHeartbeats 40000000 in
theorem own_rmCK (l : Launch) (Z : State) (a0 : Array Value) (hw : ∀ d ∈ tables_1, d.before a0 Z = true) (ws : List Jvm.Cond) (a u8 b : Addr) (kb : ClassId) (xs : List Int32) (x0 x1 G1 : Int32) (h0 : Heap) (n0 : Nat) (O : Old Z n0 h0) (hxs : xs = [x0] ∨ xs = [x0, x1]) (Es : Exa Z h0 a "java/lang/String") (Cd : Fld Z h0 a "java/lang/String" "coder" "B" (.int (0 : Int32))) (Vl : Fld Z h0 a "java/lang/String" "value" "[B" (.ref b)) (Bb : own_By Z h0 b kb xs) (O2 : Sta Z Z.heap "java/lang/String" "COMPACT_STRINGS" "Z" (.int G1)) (P5 : ¬ (G1 = (0 : Int32))) (V_u : Sta Z Z.heap "sun/nio/cs/UTF_8" "INSTANCE" "Lsun/nio/cs/UTF_8;" (.ref u8)) (V_c : Sta Z Z.heap "java/nio/charset/StandardCharsets" "UTF_8" "Ljava/nio/charset/Charset;" (.ref u8)) :
    MetFree l own_y13 (head1 (Jvm.Cond.code own_y13 prog_15_method_2_code 2 (some (.object "java/lang/String")) :: ws) ({ frames := 5, cells := 4, slots := 43, locals := 80 } : Room)) (fun aa U => aa = #[(.ref a)] ∧ Z.Warmed39 U.vm ∧ U.heap = h0) (fun _ _ _ _ _ => True) (fun _ U o U' => ∃ v L, o = .returned v ∧ (own_QCK Z a u8 b kb xs x0 x1 G1 h0 n0) v U'.heap L ∧ ReturnedEndW U o U' L ({ frames := 5, cells := 4, slots := 43, locals := 80 } : Room).cells ({ frames := 5, cells := 4, slots := 43, locals := 80 } : Room).slots) := by
  rcases hxs with rfl | rfl
  · exact own_rmCK1 l Z a0 hw ws a u8 b kb x0 x1 G1 h0 n0 O Es Cd Vl Bb.1 Bb.2 O2 P5 V_u V_c
  · exact own_rmCK2 l Z a0 hw ws a u8 b kb x0 x1 G1 h0 n0 O Es Cd Vl Bb.1 Bb.2 O2 P5 V_u V_c
abbrev own_QKY (Z : State) (len k0 k1 : Int32) (ks : List Int32) (h0 : Heap) (n0 : Nat) : Option Value → Heap → List Loc → Prop := fun v h L => ∃ (t : Addr) (kt : ClassId), v = some (.ref t) ∧ Fr n0 L ∧ Keep h0 h [] ∧ h0.size ≤ t ∧ n0 ≤ t ∧ own_By Z h t kt ks
set_option maxRecDepth 65536 in
set_option maxHeartbeats 40000000 in
theorem own_rmKY (l : Launch) (Z : State) (a0 : Array Value) (hw : ∀ d ∈ tables_1, d.before a0 Z = true) (ws : List Jvm.Cond) (len k0 k1 : Int32) (ks : List Int32) (h0 : Heap) (n0 : Nat) (O : Old Z n0 h0) (hl : (len = 0 ∧ ks = []) ∨ (len = 1 ∧ ks = [k0]) ∨ (len = 2 ∧ ks = [k0, k1])) (q0 : nar .byte k0 = k0) (q1 : nar .byte k1 = k1) :
    MetFree l own_y14 (head1 (Jvm.Cond.code own_y14 method_3_code 4 (some (.array .byte)) :: ws) ({ frames := 0, cells := 1, slots := 2, locals := 0 } : Room)) (fun aa U => aa = #[(.int len), (.int k0), (.int k1)] ∧ Z.Warmed39 U.vm ∧ U.heap = h0) (fun _ _ _ _ _ => True) (fun _ U o U' => ∃ v L, o = .returned v ∧ (own_QKY Z len k0 k1 ks h0 n0) v U'.heap L ∧ FrameEnd U o U' L ({ frames := 0, cells := 1, slots := 2, locals := 0 } : Room).cells ({ frames := 0, cells := 1, slots := 2, locals := 0 } : Room).slots) := by
  rcases hl with ⟨rfl, rfl⟩ | ⟨rfl, rfl⟩ | ⟨rfl, rfl⟩
  · exact own_rmKY0 l Z a0 hw ws k0 k1 h0 n0 O q0 q1
  · exact own_rmKY1 l Z a0 hw ws k0 k1 h0 n0 O q0 q1
  · exact own_rmKY2 l Z a0 hw ws k0 k1 h0 n0 O q0 q1
abbrev own_QNM (Z : State) (tw c0 c1 x0 x1 G1 : Int32) (xs : List Int32) (h0 : Heap) (n0 : Nat) : Option Value → Heap → List Loc → Prop := fun v h L => ∃ (x t : Addr) (kb : ClassId), v = some (.ref x) ∧ Fr n0 L ∧ Keep h0 h [] ∧ h0.size ≤ x ∧ n0 ≤ x ∧ h0.size ≤ t ∧ own_S Z h x t (own_H xs) ∧ own_By Z h t kb xs
set_option maxRecDepth 65536 in
set_option maxHeartbeats 40000000 in
theorem own_rmNM (l : Launch) (Z : State) (a0 : Array Value) (hw : ∀ d ∈ tables_1, d.before a0 Z = true) (ws : List Jvm.Cond) (tw c0 c1 x0 x1 G1 : Int32) (xs : List Int32) (h0 : Heap) (n0 : Nat) (O : Old Z n0 h0) (ht : (tw = 0 ∧ xs = [x0]) ∨ (tw = 1 ∧ xs = [x0, x1])) (hc0 : own_lat c0) (hc1 : own_lat c1) (hx0 : x0 = c0.toInt8.toInt32) (hx1 : x1 = c1.toInt8.toInt32) (O2 : Sta Z Z.heap "java/lang/String" "COMPACT_STRINGS" "Z" (.int G1)) (P5 : ¬ (G1 = (0 : Int32))) :
    MetFree l own_y16 (head1 (Jvm.Cond.code own_y16 method_2_code 4 (some (.object "java/lang/String")) :: ws) ({ frames := 4, cells := 3, slots := 8, locals := 66 } : Room)) (fun aa U => aa = #[(.int tw), (.int c0), (.int c1)] ∧ Z.Warmed39 U.vm ∧ U.heap = h0) (fun _ _ _ _ _ => True) (fun _ U o U' => ∃ v L, o = .returned v ∧ (own_QNM Z tw c0 c1 x0 x1 G1 xs h0 n0) v U'.heap L ∧ FrameEnd U o U' L ({ frames := 4, cells := 3, slots := 8, locals := 66 } : Room).cells ({ frames := 4, cells := 3, slots := 8, locals := 66 } : Room).slots) := by
  rcases ht with ⟨rfl, rfl⟩ | ⟨rfl, rfl⟩
  · exact own_rmNM1 l Z a0 hw ws c0 c1 x0 x1 _ G1 h0 n0 O hc0 hc1 hx0 hx1 O2 P5
  · exact own_rmNM2 l Z a0 hw ws c0 c1 x0 x1 _ G1 h0 n0 O hc0 hc1 hx0 hx1 O2 P5
abbrev own_QHT (Z : State) (a b : Addr) (kb : ClassId) (xs : List Int32) (x0 x1 G1 : Int32) (h0 : Heap) (n0 : Nat) : Option Value → Heap → List Loc → Prop := fun v h L => v = some (.int (own_H xs)) ∧ Fr n0 L ∧ Keep h0 h [a] ∧ own_S Z h a b (own_H xs)
set_option maxRecDepth 65536 in
set_option maxHeartbeats 40000000 in
theorem own_rmHT (l : Launch) (Z : State) (a0 : Array Value) (hw : ∀ d ∈ tables_1, d.before a0 Z = true) (ws : List Jvm.Cond) (a b : Addr) (kb : ClassId) (xs : List Int32) (x0 x1 G1 : Int32) (h0 : Heap) (n0 : Nat) (O : Old Z n0 h0) (hxs : xs = [x0] ∨ xs = [x0, x1]) (g_a : n0 ≤ a) (Sa : own_S Z h0 a b (own_H xs)) (Bb : own_By Z h0 b kb xs) (O2 : Sta Z Z.heap "java/lang/String" "COMPACT_STRINGS" "Z" (.int G1)) (P5 : ¬ (G1 = (0 : Int32))) :
    MetFree l own_y23 (head1 (Jvm.Cond.code own_y23 jdk_42_method_78_code 2 (some .int) :: ws) ({ frames := 3, cells := 0, slots := 0, locals := 45 } : Room)) (fun aa U => aa = #[(.ref a)] ∧ Z.Warmed39 U.vm ∧ U.heap = h0) (fun _ _ _ _ _ => True) (fun _ U o U' => ∃ v L, o = .returned v ∧ (own_QHT Z a b kb xs x0 x1 G1 h0 n0) v U'.heap L ∧ FrameEnd U o U' L ({ frames := 3, cells := 0, slots := 0, locals := 45 } : Room).cells ({ frames := 3, cells := 0, slots := 0, locals := 45 } : Room).slots) := by
  rcases hxs with rfl | rfl
  · exact own_rmHT1 l Z a0 hw ws a b kb x0 0 G1 h0 n0 O g_a Sa Bb.1 Bb.2 O2 P5
  · exact own_rmHT2 l Z a0 hw ws a b kb x0 x1 G1 h0 n0 O g_a Sa Bb.1 Bb.2 O2 P5
abbrev own_QAH (Z : State) (b : Addr) (kb : ClassId) (ks : List Int32) (k0 k1 : Int32) (h0 : Heap) (n0 : Nat) : Option Value → Heap → List Loc → Prop := fun v h L => v = some (.int (own_K ks)) ∧ Fr n0 L ∧ h = h0
set_option maxRecDepth 65536 in
set_option maxHeartbeats 40000000 in
theorem own_rmAH (l : Launch) (Z : State) (a0 : Array Value) (hw : ∀ d ∈ tables_1, d.before a0 Z = true) (ws : List Jvm.Cond) (b : Addr) (kb : ClassId) (ks : List Int32) (k0 k1 : Int32) (h0 : Heap) (n0 : Nat) (O : Old Z n0 h0) (hks : ks = [] ∨ ks = [k0] ∨ ks = [k0, k1]) (Bb : own_By Z h0 b kb ks) :
    MetFree l own_y21 (head1 (Jvm.Cond.code own_y21 jdk_65_method_153_code 1 (some .int) :: ws) ({ frames := 2, cells := 0, slots := 0, locals := 33 } : Room)) (fun aa U => aa = #[(.ref b)] ∧ Z.Warmed39 U.vm ∧ U.heap = h0) (fun _ _ _ _ _ => True) (fun _ U o U' => ∃ v L, o = .returned v ∧ (own_QAH Z b kb ks k0 k1 h0 n0) v U'.heap L ∧ FrameEnd U o U' L ({ frames := 2, cells := 0, slots := 0, locals := 33 } : Room).cells ({ frames := 2, cells := 0, slots := 0, locals := 33 } : Room).slots) := by
  rcases hks with rfl | rfl | rfl
  · exact own_rmAH0 l Z a0 hw ws b kb 0 0 h0 n0 O Bb.1 Bb.2
  · exact own_rmAH1 l Z a0 hw ws b kb k0 0 h0 n0 O Bb.1 Bb.2
  · exact own_rmAH2 l Z a0 hw ws b kb k0 k1 h0 n0 O Bb.1 Bb.2
abbrev own_QAE (Z : State) (t u : Addr) (kt ku : ClassId) (ks : List Int32) (k0 k1 : Int32) (h0 : Heap) (n0 : Nat) : Option Value → Heap → List Loc → Prop := fun v h L => v = some (.int (1 : Int32)) ∧ Fr n0 L ∧ h = h0
set_option maxRecDepth 65536 in
set_option maxHeartbeats 40000000 in
theorem own_rmAE (l : Launch) (Z : State) (a0 : Array Value) (hw : ∀ d ∈ tables_1, d.before a0 Z = true) (ws : List Jvm.Cond) (t u : Addr) (kt ku : ClassId) (ks : List Int32) (k0 k1 : Int32) (h0 : Heap) (n0 : Nat) (O : Old Z n0 h0) (hks : ks = [] ∨ ks = [k0] ∨ ks = [k0, k1]) (Bt : own_By Z h0 t kt ks) (Bu : own_By Z h0 u ku ks) :
    MetFree l own_y25 (head1 (Jvm.Cond.code own_y25 jdk_65_method_89_code 3 (some .boolean) :: ws) ({ frames := 1, cells := 0, slots := 0, locals := 15 } : Room)) (fun aa U => aa = #[(.ref t), (.ref u)] ∧ Z.Warmed39 U.vm ∧ U.heap = h0) (fun _ _ _ _ _ => True) (fun _ U o U' => ∃ v L, o = .returned v ∧ (own_QAE Z t u kt ku ks k0 k1 h0 n0) v U'.heap L ∧ FrameEnd U o U' L ({ frames := 1, cells := 0, slots := 0, locals := 15 } : Room).cells ({ frames := 1, cells := 0, slots := 0, locals := 15 } : Room).slots) := by
  rcases hks with rfl | rfl | rfl
  · exact own_rmAE0 l Z a0 hw ws t u kt ku k0 k1 h0 n0 O Bt.1 Bu.1
  · exact own_rmAE1 l Z a0 hw ws t u kt ku k0 k1 h0 n0 O Bt.1 Bu.1
  · exact own_rmAE2 l Z a0 hw ws t u kt ku k0 k1 h0 n0 O Bt.1 Bu.1
theorem own_d24_0 : decode prog_15_method_1_code 0 = .ok (.aload_n 0, 1) := by decide +kernel
theorem own_d24_1 : decode prog_15_method_1_code 1 = .ok (.invokespecial 1, 3) := by decide +kernel
theorem own_pd27 : parseMethodDescriptor "()V" = some ⟨[], none⟩ := by decide +kernel
theorem own_d24_4 : decode prog_15_method_1_code 4 = .ok (.aload_n 1, 1) := by decide +kernel
theorem own_d24_5 : decode prog_15_method_1_code 5 = .ok (.invokestatic 7, 3) := by decide +kernel
theorem own_pd28 : parseMethodDescriptor "(Ljava/lang/String;)Ljava/lang/String;" = some ⟨[(.object "java/lang/String")], some (.object "java/lang/String")⟩ := by decide +kernel
theorem own_d24_8 : decode prog_15_method_1_code 8 = .ok (.pop, 1) := by decide +kernel
theorem own_d24_9 : decode prog_15_method_1_code 9 = .ok (.aload_n 2, 1) := by decide +kernel
theorem own_d24_10 : decode prog_15_method_1_code 10 = .ok (.ldc 13, 2) := by decide +kernel
theorem own_d24_12 : decode prog_15_method_1_code 12 = .ok (.invokestatic 15, 3) := by decide +kernel
theorem own_d24_15 : decode prog_15_method_1_code 15 = .ok (.checkcast 21, 3) := by decide +kernel
theorem own_d24_18 : decode prog_15_method_1_code 18 = .ok (.invokevirtual 23, 3) := by decide +kernel
theorem own_d24_21 : decode prog_15_method_1_code 21 = .ok (.checkcast 21, 3) := by decide +kernel
theorem own_d24_24 : decode prog_15_method_1_code 24 = .ok (.astore_n 2, 1) := by decide +kernel
theorem own_d24_25 : decode prog_15_method_1_code 25 = .ok (.aload_n 2, 1) := by decide +kernel
theorem own_d24_26 : decode prog_15_method_1_code 26 = .ok (.arraylength, 1) := by decide +kernel
theorem own_d24_27 : decode prog_15_method_1_code 27 = .ok (.sipush 255, 3) := by decide +kernel
theorem own_d24_30 : decode prog_15_method_1_code 30 = .ok (.if_icmp .le 18, 3) := by decide +kernel
theorem own_d24_48 : decode prog_15_method_1_code 48 = .ok (.aload_n 0, 1) := by decide +kernel
theorem own_d24_49 : decode prog_15_method_1_code 49 = .ok (.aload_n 1, 1) := by decide +kernel
theorem own_d24_50 : decode prog_15_method_1_code 50 = .ok (.putfield 36, 3) := by decide +kernel
theorem own_d24_53 : decode prog_15_method_1_code 53 = .ok (.aload_n 0, 1) := by decide +kernel
theorem own_d24_54 : decode prog_15_method_1_code 54 = .ok (.aload_n 2, 1) := by decide +kernel
theorem own_d24_55 : decode prog_15_method_1_code 55 = .ok (.putfield 40, 3) := by decide +kernel
theorem own_d24_58 : decode prog_15_method_1_code 58 = .ok (.return_, 1) := by decide +kernel
theorem own_efBI (m : MethodId) (x0 : Addr) (x1 : Addr) (x2 : Addr) : entryFrame m #[(.ref x0), (.ref x1), (.ref x2)] 3 = mkF m 0 #[.val (.ref x0), .val (.ref x1), .val (.ref x2)] [] := by first | (simp [entryFrame, mkF, argsToLocals, Value.category]; done) | rfl
abbrev own_QBI (Z : State) (a sa ka u8 b : Addr) (kb kk : ClassId) (xs ks : List Int32) (x0 x1 k0 k1 G1 : Int32) (h0 : Heap) (n0 : Nat) : Option Value → Heap → List Loc → Prop := fun v h L => v = none ∧ Fr n0 L ∧ Keep h0 h [a] ∧ Exa Z h a "com/example/commitwright/commitwright/core/Branch" ∧ Fld Z h a "com/example/commitwright/commitwright/core/Branch" "resource" "Ljava/lang/String;" (.ref sa) ∧ ∃ t : Addr, Fld Z h a "com/example/commitwright/commitwright/core/Branch" "key" "[B" (.ref t) ∧ h0.size ≤ t ∧ n0 ≤ t ∧ own_By Z h t kk ks
set_option maxRecDepth 65536 in
set_option maxHeartbeats 40000000 in
theorem own_rmBI (l : Launch) (Z : State) (a0 : Array Value) (hw : ∀ d ∈ tables_1, d.before a0 Z = true) (ws : List Jvm.Cond) (a sa ka u8 b : Addr) (kb kk : ClassId) (xs ks : List Int32) (x0 x1 k0 k1 G1 : Int32) (h0 : Heap) (n0 : Nat) (O : Old Z n0 h0) (hxs : xs = [x0] ∨ xs = [x0, x1]) (hks : ks = [] ∨ ks = [k0] ∨ ks = [k0, k1]) (g_a : n0 ≤ a) (E1 : Exa Z h0 a "com/example/commitwright/commitwright/core/Branch") (F_resource_a : Fld Z h0 a "com/example/commitwright/commitwright/core/Branch" "resource" "Ljava/lang/String;" .null) (F_key_a : Fld Z h0 a "com/example/commitwright/commitwright/core/Branch" "key" "[B" .null) (Es : Exa Z h0 sa "java/lang/String") (Cd : Fld Z h0 sa "java/lang/String" "coder" "B" (.int (0 : Int32))) (Vl : Fld Z h0 sa "java/lang/String" "value" "[B" (.ref b)) (Bb : own_By Z h0 b kb xs) (By_k : own_By Z h0 ka kk ks) (O2 : Sta Z Z.heap "java/lang/String" "COMPACT_STRINGS" "Z" (.int G1)) (P5 : ¬ (G1 = (0 : Int32))) (V_u : Sta Z Z.heap "sun/nio/cs/UTF_8" "INSTANCE" "Lsun/nio/cs/UTF_8;" (.ref u8)) (V_c : Sta Z Z.heap "java/nio/charset/StandardCharsets" "UTF_8" "Ljava/nio/charset/Charset;" (.ref u8)) :
    MetFree l own_y26 (head1 (Jvm.Cond.code own_y26 prog_15_method_1_code 3 none :: ws) ({ frames := 6, cells := 7, slots := 61, locals := 93 } : Room)) (fun aa U => aa = #[(.ref a), (.ref sa), (.ref ka)] ∧ Z.Warmed39 U.vm ∧ U.heap = h0) (fun _ _ _ _ _ => True) (fun _ U o U' => ∃ v L, o = .returned v ∧ (own_QBI Z a sa ka u8 b kb kk xs ks x0 x1 k0 k1 G1 h0 n0) v U'.heap L ∧ ReturnedEndW U o U' L ({ frames := 6, cells := 7, slots := 61, locals := 93 } : Room).cells ({ frames := 6, cells := 7, slots := 61, locals := 93 } : Room).slots) := by
  refine MetFree.of_bodySF (plainFor_of_name own_pn15) hisR ?_
  intro p e s m args below meth c s₁ Bd hml0 hP hK
  obtain ⟨rfl, hZ, hh⟩ := hP
  have hx := Bd.exec
  have hby := Bd.bytes
  have hml : c.maxLocals = 3 := hml0
  have hown : s.vm.findClass "com/example/commitwright/commitwright/core/Branch" = some m.cls := findClass_of_methodNamed Bd.named
  have hnm := (name_of_methodNamed Bd.named Bd.method).1
  have X0 : Stand p l e ({ frames := 6, cells := 7, slots := 61, locals := 93 } : Room) (s.setVm s.vm) m #[(.ref a), (.ref sa), (.ref ka)] below meth c s₁ [] 0 0 := Stand.of_body Bd
  have e0 : s₁.heap = h0 := by rw [← hh, Bd.state]; rfl
  have N0 := Fr.nil n0
  have hS := own_since0 s 0
  have hk : 0 ≤ h0.size := Nat.zero_le _
  refine Out.startW (Q := own_QBI Z a sa ka u8 b kb kk xs ks x0 x1 k0 k1 G1 h0 n0) (own_efBI m a sa ka ) ?_
  have Kp := Keep.refl h0 [a]
  have wS := own_wS hw
  have hlen : ks.length = 0 ∨ ks.length = 1 ∨ ks.length = 2 := by rcases hks with rfl | rfl | rfl <;> simp
  have hcap : (Int32.ofNat ks.length).toNatClampNeg ≤ 2 := by rcases hlen with q | q | q <;> rw [q] <;> decide
  have hbig : ¬ (255 : Int32) < (Int32.ofNat ks.length) := by rcases hlen with q | q | q <;> rw [q] <;> decide
  have ne_sa_a : sa ≠ a := Exa.ne Es E1 (by decide)
  have ne_ka_a : ka ≠ a := Exa.ne By_k.2 E1 (by decide)
  refine Out.via (g' := (mkF m 1 #[vR a, vR sa, vR ka] [(.ref a)])) (fun _ k => XS.aloadN X0.here hx rfl (hb hby own_d24_0) rfl rfl k) ?_
  obtain ⟨_, _, ⟨T1, L1, kc1, ks1⟩, -, X1, ⟨Lc1, hQ1, l1, y1, z1⟩, st1⟩ := X0.specialBack hx (y := own_y12) rfl hown (mvT hZ (W_ hw 43 rfl)) (mvT hZ (W_ hw 44 rfl)) (mvT hZ (W_ hw 47 rfl)) (by decide) (backOf (W := 0) (own_rmRI l Z a0 hw [] a h0 n0 O) hZ (W_ hw 47 rfl) (W_ hw 46 rfl) (by decide) (by decide)) (g := (mkF m 1 #[vR a, vR sa, vR ka] [(.ref a)])) rfl (by rw [hml]; rfl) (Steps.refl _) (a := a) (argsL := []) (rest := []) (lenOf own_pd27 rfl) rfl (by show 2 * 0 + _ ≤ _; exact Nat.le_of_eq rfl) (hb hby own_d24_1) (fun _ _ => ⟨rfl, e0, (by decide : 0 + 0 ≤ _), (by decide : 0 + 0 ≤ _)⟩)
  dsimp only [Pt.U, Pt.locs, Pt.cells, Pt.slots] at X1 l1 y1 z1 st1 hQ1
  subst l1 y1 z1
  obtain ⟨rfl, Nq1, eq1⟩ := hQ1
  replace N0 := Fr.app N0 Nq1
  refine Out.to (g' := (mkF m 4 #[vR a, vR sa, vR ka] [])) st1 ?_
  refine Out.via (g' := (mkF m 5 #[vR a, vR sa, vR ka] [(.ref sa)])) (fun _ k => XS.aloadN X1.here hx rfl (hb hby own_d24_4) rfl rfl k) ?_
  obtain ⟨_, _, ⟨T2, L2, kc2, ks2⟩, -, X2, hS2, hg2, ⟨Lc2, hQ2, l2, y2, z2⟩, st2⟩ := callSS X1 hx (y := own_y13) hown (mvT hZ (W_ hw 49 rfl)) (mvT hZ (W_ hw 50 rfl)) (mvT hZ (W_ hw 39 rfl)) (mvT hZ (W_ hw 51 rfl)) (by decide) (backOfS (W := 0) (own_rmCK l Z a0 hw [] sa u8 b kb xs x0 x1 G1 h0 n0 O hxs Es Cd Vl Bb O2 P5 V_u V_c) hZ (W_ hw 51 rfl) (W_ hw 39 rfl) (by decide) (by decide)) (g := (mkF m 5 #[vR a, vR sa, vR ka] [(.ref sa)])) rfl (by rw [hml]; rfl) (argsL := [(.ref sa)]) (rest := []) (lenOf own_pd28 rfl) rfl (by show 2 * 0 + _ ≤ _; exact Nat.le_of_eq rfl) (hb hby own_d24_5) (fun _ _ => ⟨rfl, eq1, (by decide : 0 + 4 ≤ _), (by decide : 0 + 43 ≤ _)⟩)
  dsimp only [Pt.U, Pt.locs, Pt.cells, Pt.slots] at X2 l2 y2 z2 st2 hQ2 hS2 hg2
  subst l2 y2 z2
  rw [eq1] at hg2
  obtain ⟨X2, hS, hZ, hown⟩ := rebS hS hk X2 hS2 hg2 hZ hown
  replace hk := Nat.le_refl T2.heap.size
  obtain ⟨rfl, Nq2, Kq2⟩ := hQ2
  replace N0 := Fr.app N0 Nq2
  replace By_k := By_k.keep Kq2 nin0
  replace F_resource_a := F_resource_a.keep Kq2 nin0
  replace F_key_a := F_key_a.keep Kq2 nin0
  replace E1 := E1.keep Kq2
  replace Es := Es.keep Kq2
  replace O := O.keep Kq2 all0
  replace Kp := Kp.trans Kq2 all0
  refine Out.to (g' := (mkF m 8 #[vR a, vR sa, vR ka] [(.ref sa)])) st2 ?_
  refine Out.via (g' := (mkF m 9 #[vR a, vR sa, vR ka] [])) (fun _ k => XS.pop X2.here hx rfl (hb hby own_d24_8) rfl rfl k) ?_
  refine Out.via (g' := (mkF m 10 #[vR a, vR sa, vR ka] [(.ref ka)])) (fun _ k => XS.aloadN X2.here hx rfl (hb hby own_d24_9) rfl rfl k) ?_
  obtain ⟨lb, T3, h3, kk3, X3, e3, E3, hS, hk, hZ, hown, st3⟩ := ldcS X2 hx hZ hown (W_ hw 96 rfl) wS rfl hS hk (g := (mkF m 10 #[vR a, vR sa, vR ka] [(.ref ka)])) rfl (hb hby own_d24_10) (n := 12) (by decide) (by decide) (by decide) (by decide)
  replace F_resource_a := F_resource_a.ext E3
  replace F_key_a := F_key_a.ext E3
  replace E1 := E1.ext E3
  replace Es := Es.ext E3
  replace By_k := By_k.ext E3
  replace O := O.ext E3
  replace Kp := Kp.ext E3
  refine Out.via (g' := (mkF m 12 #[vR a, vR sa, vR ka] [(.ref lb), (.ref ka)])) st3 ?_
  obtain ⟨_, _, ⟨T4, L4, kc4, ks4⟩, -, X4, ⟨Lc4, hQ4, l4, y4, z4⟩, st4⟩ := Jvm.LawKit.callS X3 hx (y := own_y11) hown (mvT hZ (W_ hw 55 rfl)) (mvT hZ (W_ hw 56 rfl)) (mvT hZ (W_ hw 57 rfl)) (mvT hZ (W_ hw 58 rfl)) (by decide) (backOf (W := 0) (own_rmN2 l Z a0 hw [] ka lb h3 n0 O) hZ (W_ hw 58 rfl) (W_ hw 57 rfl) (by decide) (by decide)) (g := (mkF m 12 #[vR a, vR sa, vR ka] [(.ref lb), (.ref ka)])) rfl (by rw [hml]; rfl) (argsL := [(.ref ka), (.ref lb)]) (rest := []) (lenOf own_pd16 rfl) rfl (by show 2 * 0 + _ ≤ _; exact Nat.le_of_eq rfl) (hb hby own_d24_12) (fun _ _ => ⟨rfl, e3, (by decide : 6 + 0 ≤ _), (by decide : 59 + 0 ≤ _)⟩)
  dsimp only [Pt.U, Pt.locs, Pt.cells, Pt.slots] at X4 l4 y4 z4 st4 hQ4
  subst l4 y4 z4
  obtain ⟨rfl, Nq4, eq4⟩ := hQ4
  replace N0 := Fr.app N0 Nq4
  refine Out.via (g' := (mkF m 15 #[vR a, vR sa, vR ka] [(.ref ka)])) st4 ?_
  obtain ⟨T5, X5, e5, st5⟩ := castY X4 hx hZ hown (W_ hw 97 rfl) eq4 (Ins.self By_k.2) (g := (mkF m 15 #[vR a, vR sa, vR ka] [(.ref ka)])) rfl rfl (hb hby own_d24_15)
  refine Out.via (g' := (mkF m 18 #[vR a, vR sa, vR ka] [(.ref ka)])) st5 ?_
  have Ak := By_k.1
  have Ek := By_k.2
  obtain ⟨T6, h6, X6, e6, E6, V_t, Ea_t, st6⟩ := cloneH X5 hx hZ hown (W_ hw 98 rfl) (W_ hw 88 rfl) (W_ hw 92 rfl) (W_ hw 90 rfl) (W_ hw 91 rfl) (W_ hw 93 rfl) e5 (hs := []) Ak Ek (g := (mkF m 18 #[vR a, vR sa, vR ka] [(.ref ka)])) rfl (by rw [hml]; rfl) rfl (hb hby own_d24_18) (by decide) (W := 0) (cap := 2) (by show 2 * 0 + _ ≤ _; exact Nat.le_of_eq rfl) (by decide) hcap (by decide) (by decide)
  obtain ⟨t, gq6⟩ : ∃ z, z = h3.size := ⟨_, rfl⟩
  rw [← gq6] at V_t Ea_t st6
  replace V_t : Arv Z h6 t kk .byte (Int32.ofNat ks.length) (ks.map Value.int) (.int (0 : Int32)) := V_t
  have ne_a_t : a ≠ t := Nat.ne_of_lt (Nat.lt_of_lt_of_le E1.lt (Nat.le_of_eq gq6.symm))
  have ne_sa_t : sa ≠ t := Nat.ne_of_lt (Nat.lt_of_lt_of_le Es.lt (Nat.le_of_eq gq6.symm))
  have ne_ka_t : ka ≠ t := Nat.ne_of_lt (Nat.lt_of_lt_of_le By_k.2.lt (Nat.le_of_eq gq6.symm))
  have g_t : n0 ≤ t := Nat.le_trans (own_z0 O) (Nat.le_of_eq gq6.symm)
  have sz_t : h0.size ≤ t := Nat.le_trans Kp.1 (Nat.le_of_eq gq6.symm)
  replace F_resource_a := F_resource_a.ext E6
  replace F_key_a := F_key_a.ext E6
  replace E1 := E1.ext E6
  replace Es := Es.ext E6
  replace Ek := Ek.ext E6
  replace Ak := Ak.ext E6
  replace By_k := By_k.ext E6
  replace O := O.ext E6
  replace Kp := Kp.ext E6
  replace hk := Nat.le_trans hk E6.1
  refine Out.via (g' := (mkF m 21 #[vR a, vR sa, vR ka] [(.ref t)])) st6 ?_
  obtain ⟨T7, X7, e7, st7⟩ := castY X6 hx hZ hown (W_ hw 97 rfl) e6 (Ins.self Ea_t) (g := (mkF m 21 #[vR a, vR sa, vR ka] [(.ref t)])) rfl rfl (hb hby own_d24_21)
  refine Out.via (g' := (mkF m 24 #[vR a, vR sa, vR ka] [(.ref t)])) st7 ?_
  refine Out.via (g' := (mkF m 25 #[vR a, vR sa, vR t] [])) (fun _ k => XS.astoreN X7.here hx rfl (hb hby own_d24_24) rfl rfl (l' := #[.val (.ref a), .val (.ref sa), .val (.ref t)]) rfl k) ?_
  refine Out.via (g' := (mkF m 26 #[vR a, vR sa, vR t] [(.ref t)])) (fun _ k => XS.aloadN X7.here hx rfl (hb hby own_d24_25) rfl rfl k) ?_
  obtain ⟨cl_z, Ar_z, q_z, S_z, M_z, H_z, G_z⟩ := id V_t
  refine Out.via (g' := (mkF m 27 #[vR a, vR sa, vR t] [(.int cl_z.slots.size.toInt32)])) (fun _ k => X7.arraylength hx (by rw [e7]; exact Ar_z.1) (State.isArrayOf_alike hZ.alike Ar_z.2.1) (g := (mkF m 26 #[vR a, vR sa, vR t] [(.ref t)])) rfl rfl (hb hby own_d24_26) _ k) ?_
  rw [len_of S_z M_z]
  refine Out.via (g' := (mkF m 30 #[vR a, vR sa, vR t] [(.int (255 : Int32)), (.int (Int32.ofNat ks.length))])) (fun _ k => XS.sipush X7.here hx rfl (hb hby own_d24_27) k) ?_
  refine Out.via (g' := (mkF m 48 #[vR a, vR sa, vR t] [])) (fun _ k => XS.icmpYes X7.here hx rfl (pc0 := 30) (pc' := 48) rfl (hb hby own_d24_30) rfl (flt hbig).2.2.2 (by decide) (by decide) k) ?_
  refine Out.via (g' := (mkF m 49 #[vR a, vR sa, vR t] [(.ref a)])) (fun _ k => XS.aloadN X7.here hx rfl (hb hby own_d24_48) rfl rfl k) ?_
  refine Out.via (g' := (mkF m 50 #[vR a, vR sa, vR t] [(.ref sa), (.ref a)])) (fun _ k => XS.aloadN X7.here hx rfl (hb hby own_d24_49) rfl rfl k) ?_
  obtain ⟨T8, h8, X8, e8, W8, st8⟩ := putF X7 hx hZ hown (host := "") (Or.inl (W_ hw 99 rfl)) Via.refl e7 F_resource_a E1 (Or.inr ⟨(W_ hw 100 rfl), rfl, hnm⟩) (W_ hw 38 rfl) (ty := (.object "java/lang/String")) (by decide) rfl rfl (g := (mkF m 50 #[vR a, vR sa, vR t] [(.ref sa), (.ref a)])) rfl rfl (hb hby own_d24_50)
  replace F_resource_a := F_resource_a.same W8
  replace By_k := By_k.other W8 ne_ka_a
  replace hk : _ ≤ h8.size := Nat.le_trans hk (Keep.of_wr W8).1
  replace F_key_a := F_key_a.other W8 (Or.inr (slot_ne (Or.inr (W_ hw 102 rfl)) (Or.inr (W_ hw 100 rfl)) (by decide) (t := (.array .byte)) (t' := (.object "java/lang/String")) (by decide) (by decide)))
  replace E1 := E1.wr W8
  replace Es := Es.wr W8
  replace Ea_t := Ea_t.wr W8
  replace V_t := V_t.other W8 (Ne.symm ne_a_t)
  replace O := O.wr W8 g_a
  replace Kp := Kp.wr W8 (Or.inl (List.mem_of_getElem? (i := 0) rfl))
  replace N0 := Fr.snoc X8 N0 g_a
  refine Out.via (g' := (mkF m 53 #[vR a, vR sa, vR t] [])) st8 ?_
  refine Out.via (g' := (mkF m 54 #[vR a, vR sa, vR t] [(.ref a)])) (fun _ k => XS.aloadN X8.here hx rfl (hb hby own_d24_53) rfl rfl k) ?_
  refine Out.via (g' := (mkF m 55 #[vR a, vR sa, vR t] [(.ref t), (.ref a)])) (fun _ k => XS.aloadN X8.here hx rfl (hb hby own_d24_54) rfl rfl k) ?_
  obtain ⟨T9, h9, X9, e9, W9, st9⟩ := putF X8 hx hZ hown (host := "") (Or.inl (W_ hw 101 rfl)) Via.refl e8 F_key_a E1 (Or.inr ⟨(W_ hw 102 rfl), rfl, hnm⟩) (W_ hw 38 rfl) (ty := (.array .byte)) (by decide) rfl rfl (g := (mkF m 55 #[vR a, vR sa, vR t] [(.ref t), (.ref a)])) rfl rfl (hb hby own_d24_55)
  replace F_key_a := F_key_a.same W9
  replace By_k := By_k.other W9 ne_ka_a
  replace hk : _ ≤ h9.size := Nat.le_trans hk (Keep.of_wr W9).1
  replace F_resource_a := F_resource_a.other W9 (Or.inr (slot_ne (Or.inr (W_ hw 100 rfl)) (Or.inr (W_ hw 102 rfl)) (by decide) (t := (.object "java/lang/String")) (t' := (.array .byte)) (by decide) (by decide)))
  replace E1 := E1.wr W9
  replace Es := Es.wr W9
  replace Ea_t := Ea_t.wr W9
  replace V_t := V_t.other W9 (Ne.symm ne_a_t)
  replace O := O.wr W9 g_a
  replace Kp := Kp.wr W9 (Or.inl (List.mem_of_getElem? (i := 0) rfl))
  replace N0 := Fr.snoc X9 N0 g_a
  refine Out.via (g' := (mkF m 58 #[vR a, vR sa, vR t] [])) st9 ?_
  exact Out.endW X9 hS (by rw [e9]; exact hk) (fun _ => rfl) Bd.notSynchronized (by decide) (by decide) (by rw [e9]; exact ⟨rfl, N0, Kp, E1, F_resource_a, t, F_key_a, sz_t, g_t, V_t, Ea_t⟩) (fun fs hr => X9.returnOut hx Bd.returns (hb hby own_d24_58) hr)
def own_V (xs ks : List Int32) : Int32 := (31 : Int32) * (own_H xs) + (own_K ks)
theorem own_d25_0 : decode prog_15_method_5_code 0 = .ok (.bipush 31, 2) := by decide +kernel
theorem own_d25_2 : decode prog_15_method_5_code 2 = .ok (.aload_n 0, 1) := by decide +kernel
theorem own_d25_3 : decode prog_15_method_5_code 3 = .ok (.getfield 36, 3) := by decide +kernel
theorem own_d25_6 : decode prog_15_method_5_code 6 = .ok (.invokevirtual 67, 3) := by decide +kernel
theorem own_pd29 : parseMethodDescriptor "()I" = some ⟨[], some .int⟩ := by decide +kernel
theorem own_d25_9 : decode prog_15_method_5_code 9 = .ok (.imul, 1) := by decide +kernel
theorem own_d25_10 : decode prog_15_method_5_code 10 = .ok (.aload_n 0, 1) := by decide +kernel
theorem own_d25_11 : decode prog_15_method_5_code 11 = .ok (.getfield 40, 3) := by decide +kernel
theorem own_d25_14 : decode prog_15_method_5_code 14 = .ok (.invokestatic 71, 3) := by decide +kernel
theorem own_d25_17 : decode prog_15_method_5_code 17 = .ok (.iadd, 1) := by decide +kernel
theorem own_d25_18 : decode prog_15_method_5_code 18 = .ok (.ireturn, 1) := by decide +kernel
theorem own_efBH (m : MethodId) (x0 : Addr) : entryFrame m #[(.ref x0)] 1 = mkF m 0 #[.val (.ref x0)] [] := by first | (simp [entryFrame, mkF, argsToLocals, Value.category]; done) | rfl
abbrev own_QBH (Z : State) (a sa b t : Addr) (kb kt : ClassId) (xs ks : List Int32) (x0 x1 k0 k1 G1 : Int32) (h0 : Heap) (n0 : Nat) : Option Value → Heap → List Loc → Prop := fun v h L => v = some (.int (own_V xs ks)) ∧ Fr n0 L ∧ Keep h0 h [sa] ∧ own_S Z h sa b (own_H xs)
set_option maxRecDepth 65536 in
set_option maxHeartbeats 40000000 in
theorem own_rmBH (l : Launch) (Z : State) (a0 : Array Value) (hw : ∀ d ∈ tables_1, d.before a0 Z = true) (ws : List Jvm.Cond) (a sa b t : Addr) (kb kt : ClassId) (xs ks : List Int32) (x0 x1 k0 k1 G1 : Int32) (h0 : Heap) (n0 : Nat) (O : Old Z n0 h0) (hxs : xs = [x0] ∨ xs = [x0, x1]) (hks : ks = [] ∨ ks = [k0] ∨ ks = [k0, k1]) (E1 : Exa Z h0 a "com/example/commitwright/commitwright/core/Branch") (Fr_ : Fld Z h0 a "com/example/commitwright/commitwright/core/Branch" "resource" "Ljava/lang/String;" (.ref sa)) (Fk_ : Fld Z h0 a "com/example/commitwright/commitwright/core/Branch" "key" "[B" (.ref t)) (g_sa : n0 ≤ sa) (Sa : own_S Z h0 sa b (own_H xs)) (Bb : own_By Z h0 b kb xs) (Bt : own_By Z h0 t kt ks) (O2 : Sta Z Z.heap "java/lang/String" "COMPACT_STRINGS" "Z" (.int G1)) (P5 : ¬ (G1 = (0 : Int32))) :
    MetFree l own_y27 (head1 (Jvm.Cond.code own_y27 prog_15_method_5_code 1 (some .int) :: ws) ({ frames := 4, cells := 0, slots := 0, locals := 59 } : Room)) (fun aa U => aa = #[(.ref a)] ∧ Z.Warmed39 U.vm ∧ U.heap = h0) (fun _ _ _ _ _ => True) (fun _ U o U' => ∃ v L, o = .returned v ∧ (own_QBH Z a sa b t kb kt xs ks x0 x1 k0 k1 G1 h0 n0) v U'.heap L ∧ FrameEnd U o U' L ({ frames := 4, cells := 0, slots := 0, locals := 59 } : Room).cells ({ frames := 4, cells := 0, slots := 0, locals := 59 } : Room).slots) := by
  refine MetFree.of_bodySF (plainFor_of_name own_pn15) hisR ?_
  intro p e s m args below meth c s₁ Bd hml0 hP hK
  obtain ⟨rfl, hZ, hh⟩ := hP
  have hx := Bd.exec
  have hby := Bd.bytes
  have hml : c.maxLocals = 1 := hml0
  have hown : s.vm.findClass "com/example/commitwright/commitwright/core/Branch" = some m.cls := findClass_of_methodNamed Bd.named
  have hnm := (name_of_methodNamed Bd.named Bd.method).1
  have X0 : Stand p l e ({ frames := 4, cells := 0, slots := 0, locals := 59 } : Room) s m #[(.ref a)] below meth c s₁ [] 0 0 := Stand.of_body Bd
  have e0 : s₁.heap = h0 := by rw [← hh, Bd.state]; rfl
  have N0 := Fr.nil n0
  refine Out.start (Q := own_QBH Z a sa b t kb kt xs ks x0 x1 k0 k1 G1 h0 n0) (own_efBH m a ) ?_
  have Es := Sa.1
  have n1 : a ≠ sa := Exa.ne E1 Es (by decide)
  have n2 : t ≠ sa := Exa.ne Bt.2 Es (by decide)
  refine Out.via (g' := (mkF m 2 #[vR a] [(.int (31 : Int32))])) (fun _ k => XS.bipush X0.here hx rfl (hb hby own_d25_0) k) ?_
  refine Out.via (g' := (mkF m 3 #[vR a] [(.ref a), (.int (31 : Int32))])) (fun _ k => XS.aloadN X0.here hx rfl (hb hby own_d25_2) rfl rfl k) ?_
  obtain ⟨T1, X1, e1, st1⟩ := getF X0 hx hZ hown (host := "") (Or.inl (W_ hw 99 rfl)) Via.refl e0 Fr_ (g := (mkF m 3 #[vR a] [(.ref a), (.int (31 : Int32))])) rfl rfl (hb hby own_d25_3)
  refine Out.via (g' := (mkF m 6 #[vR a] [(.ref sa), (.int (31 : Int32))])) st1 ?_
  obtain ⟨cq2, kq2, q2a, q2b, q2c⟩ := isOf hZ e1 Es
  obtain ⟨_, _, ⟨T2, L2, kc2, ks2⟩, -, X2, ⟨Lc2, hQ2, l2, y2, z2⟩, st2⟩ := X1.virtualBack hx (y := own_y23) (z := own_y23) hown (mvT hZ (W_ hw 108 rfl)) (mvT hZ (W_ hw 109 rfl)) (notFace_of_selects (args := #[]) (mvT hZ (W_ hw 111 rfl))) (mvT hZ (W_ hw 111 rfl)) (mvT hZ (W_ hw 110 rfl)) (by decide) (backOf (W := 1) (own_rmHT l Z a0 hw [] sa b kb xs x0 x1 G1 h0 n0 O hxs g_sa Sa Bb O2 P5) hZ (W_ hw 112 rfl) (W_ hw 7 rfl) (by decide) (by decide)) q2a q2c (g := (mkF m 6 #[vR a] [(.ref sa), (.int (31 : Int32))])) rfl (by rw [hml]; rfl) (Steps.refl _) (argsL := []) (rest := [(.int (31 : Int32))]) (lenOf own_pd29 rfl) rfl (by show 2 * 0 + _ ≤ _; exact Nat.le_of_eq rfl) (hb hby own_d25_6) (fun _ _ => ⟨rfl, e1, (by decide : 0 + 0 ≤ _), (by decide : 0 + 0 ≤ _)⟩)
  dsimp only [Pt.U, Pt.locs, Pt.cells, Pt.slots] at X2 l2 y2 z2 st2 hQ2
  subst l2 y2 z2
  obtain ⟨rfl, Nq2, Kq, Sq⟩ := hQ2
  replace N0 := Fr.app N0 Nq2
  replace O := O.keep Kq (allS g_sa all0)
  replace Fk_ := Fk_.keep Kq (ninS n1 nin0)
  replace Bt := Bt.keep Kq (ninS n2 nin0)
  refine Out.to (g' := (mkF m 9 #[vR a] [(.int (own_H xs)), (.int (31 : Int32))])) st2 ?_
  refine Out.via (g' := (mkF m 10 #[vR a] [(.int ((31 : Int32) * (own_H xs)))])) (fun _ k => XS.imul X2.here hx rfl (hb hby own_d25_9) rfl k) ?_
  refine Out.via (g' := (mkF m 11 #[vR a] [(.ref a), (.int ((31 : Int32) * (own_H xs)))])) (fun _ k => XS.aloadN X2.here hx rfl (hb hby own_d25_10) rfl rfl k) ?_
  obtain ⟨T3, X3, e3, st3⟩ := getF X2 hx hZ hown (host := "") (Or.inl (W_ hw 101 rfl)) Via.refl rfl Fk_ (g := (mkF m 11 #[vR a] [(.ref a), (.int ((31 : Int32) * (own_H xs)))])) rfl rfl (hb hby own_d25_11)
  refine Out.via (g' := (mkF m 14 #[vR a] [(.ref t), (.int ((31 : Int32) * (own_H xs)))])) st3 ?_
  obtain ⟨_, _, ⟨T4, L4, kc4, ks4⟩, -, X4, ⟨Lc4, hQ4, l4, y4, z4⟩, st4⟩ := Jvm.LawKit.callS X3 hx (y := own_y21) hown (mvT hZ (W_ hw 126 rfl)) (mvT hZ (W_ hw 127 rfl)) (mvT hZ (W_ hw 128 rfl)) (mvT hZ (W_ hw 129 rfl)) (by decide) (backOf (W := 1) (own_rmAH l Z a0 hw [] t kt ks k0 k1 T2.heap n0 O hks Bt) hZ (W_ hw 129 rfl) (W_ hw 128 rfl) (by decide) (by decide)) (g := (mkF m 14 #[vR a] [(.ref t), (.int ((31 : Int32) * (own_H xs)))])) rfl (by rw [hml]; rfl) (argsL := [(.ref t)]) (rest := [(.int ((31 : Int32) * (own_H xs)))]) (lenOf own_pd25 rfl) rfl (by show 2 * 0 + _ ≤ _; exact Nat.le_of_eq rfl) (hb hby own_d25_14) (fun _ _ => ⟨rfl, e3, (by decide : 0 + 0 ≤ _), (by decide : 0 + 0 ≤ _)⟩)
  dsimp only [Pt.U, Pt.locs, Pt.cells, Pt.slots] at X4 l4 y4 z4 st4 hQ4
  subst l4 y4 z4
  obtain ⟨rfl, Nq4, eq4⟩ := hQ4
  replace N0 := Fr.app N0 Nq4
  refine Out.via (g' := (mkF m 17 #[vR a] [(.int (own_K ks)), (.int ((31 : Int32) * (own_H xs)))])) st4 ?_
  refine Out.via (g' := (mkF m 18 #[vR a] [(.int (((31 : Int32) * (own_H xs)) + (own_K ks)))])) (fun _ k => XS.iadd X4.here hx rfl (hb hby own_d25_17) rfl k) ?_
  exact Out.endN X4 (fun h => by rw [Bd.returns] at h; cases h) Bd.notSynchronized (by decide) (by decide) (by rw [eq4]; exact ⟨rfl, N0, Kq, Sq⟩) (fun fs hr => own_retI X4 hx Bd.returns (hb hby own_d25_18) hr)
theorem own_d26_0 : decode prog_15_method_4_code 0 = .ok (.aload_n 1, 1) := by decide +kernel
theorem own_d26_1 : decode prog_15_method_4_code 1 = .ok (.instanceof 8, 3) := by decide +kernel
theorem own_d26_4 : decode prog_15_method_4_code 4 = .ok (.ifCond .eq 40, 3) := by decide +kernel
theorem own_d26_7 : decode prog_15_method_4_code 7 = .ok (.aload_n 1, 1) := by decide +kernel
theorem own_d26_8 : decode prog_15_method_4_code 8 = .ok (.checkcast 8, 3) := by decide +kernel
theorem own_d26_11 : decode prog_15_method_4_code 11 = .ok (.astore_n 2, 1) := by decide +kernel
theorem own_d26_12 : decode prog_15_method_4_code 12 = .ok (.aload_n 0, 1) := by decide +kernel
theorem own_d26_13 : decode prog_15_method_4_code 13 = .ok (.getfield 36, 3) := by decide +kernel
theorem own_d26_16 : decode prog_15_method_4_code 16 = .ok (.aload_n 2, 1) := by decide +kernel
theorem own_d26_17 : decode prog_15_method_4_code 17 = .ok (.getfield 36, 3) := by decide +kernel
theorem own_d26_20 : decode prog_15_method_4_code 20 = .ok (.invokevirtual 58, 3) := by decide +kernel
theorem own_pd30 : parseMethodDescriptor "(Ljava/lang/Object;)Z" = some ⟨[(.object "java/lang/Object")], some .boolean⟩ := by decide +kernel
theorem own_d26_23 : decode prog_15_method_4_code 23 = .ok (.ifCond .eq 21, 3) := by decide +kernel
theorem own_d26_26 : decode prog_15_method_4_code 26 = .ok (.aload_n 0, 1) := by decide +kernel
theorem own_d26_27 : decode prog_15_method_4_code 27 = .ok (.getfield 40, 3) := by decide +kernel
theorem own_d26_30 : decode prog_15_method_4_code 30 = .ok (.aload_n 2, 1) := by decide +kernel
theorem own_d26_31 : decode prog_15_method_4_code 31 = .ok (.getfield 40, 3) := by decide +kernel
theorem own_d26_34 : decode prog_15_method_4_code 34 = .ok (.invokestatic 62, 3) := by decide +kernel
theorem own_pd31 : parseMethodDescriptor "([B[B)Z" = some ⟨[(.array .byte), (.array .byte)], some .boolean⟩ := by decide +kernel
theorem own_d26_37 : decode prog_15_method_4_code 37 = .ok (.ifCond .eq 7, 3) := by decide +kernel
theorem own_d26_40 : decode prog_15_method_4_code 40 = .ok (.iconst 1, 1) := by decide +kernel
theorem own_d26_41 : decode prog_15_method_4_code 41 = .ok (.goto 4, 3) := by decide +kernel
theorem own_d26_45 : decode prog_15_method_4_code 45 = .ok (.ireturn, 1) := by decide +kernel
theorem own_efBE (m : MethodId) (x0 : Addr) (x1 : Addr) : entryFrame m #[(.ref x0), (.ref x1)] 3 = mkF m 0 #[.val (.ref x0), .val (.ref x1), .unset] [] := by first | (simp [entryFrame, mkF, argsToLocals, Value.category]; done) | rfl
abbrev own_QBE (Z : State) (a a2 sa sb t u : Addr) (kt ku : ClassId) (cs ks : List Int32) (k0 k1 G1 : Int32) (h0 : Heap) (n0 : Nat) : Option Value → Heap → List Loc → Prop := fun v h L => v = some (.int (1 : Int32)) ∧ Fr n0 L ∧ h = h0
set_option maxRecDepth 65536 in
set_option maxHeartbeats 40000000 in
theorem own_rmBE (l : Launch) (Z : State) (a0 : Array Value) (hw : ∀ d ∈ tables_1, d.before a0 Z = true) (ws : List Jvm.Cond) (a a2 sa sb t u : Addr) (kt ku : ClassId) (cs ks : List Int32) (k0 k1 G1 : Int32) (h0 : Heap) (n0 : Nat) (O : Old Z n0 h0) (hks : ks = [] ∨ ks = [k0] ∨ ks = [k0, k1]) (E1 : Exa Z h0 a "com/example/commitwright/commitwright/core/Branch") (E2 : Exa Z h0 a2 "com/example/commitwright/commitwright/core/Branch") (Fr1 : Fld Z h0 a "com/example/commitwright/commitwright/core/Branch" "resource" "Ljava/lang/String;" (.ref sa)) (Fk1 : Fld Z h0 a "com/example/commitwright/commitwright/core/Branch" "key" "[B" (.ref t)) (Fr2 : Fld Z h0 a2 "com/example/commitwright/commitwright/core/Branch" "resource" "Ljava/lang/String;" (.ref sb)) (Fk2 : Fld Z h0 a2 "com/example/commitwright/commitwright/core/Branch" "key" "[B" (.ref u)) (Sx : own_Str Z h0 sa cs) (Sy : own_Str Z h0 sb cs) (lc : cs.length ≤ 4000) (Bt : own_By Z h0 t kt ks) (Bu : own_By Z h0 u ku ks) (O2 : Sta Z Z.heap "java/lang/String" "COMPACT_STRINGS" "Z" (.int G1)) (P5 : ¬ (G1 = (0 : Int32))) :
    MetFree l own_y28 (head1 (Jvm.Cond.code own_y28 prog_15_method_4_code 3 (some .boolean) :: ws) ({ frames := 2, cells := 0, slots := 0, locals := 29 } : Room)) (fun aa U => aa = #[(.ref a), (.ref a2)] ∧ Z.Warmed39 U.vm ∧ U.heap = h0) (fun _ _ _ _ _ => True) (fun _ U o U' => ∃ v L, o = .returned v ∧ (own_QBE Z a a2 sa sb t u kt ku cs ks k0 k1 G1 h0 n0) v U'.heap L ∧ FrameEnd U o U' L ({ frames := 2, cells := 0, slots := 0, locals := 29 } : Room).cells ({ frames := 2, cells := 0, slots := 0, locals := 29 } : Room).slots) := by
  refine MetFree.of_bodySF (plainFor_of_name own_pn15) hisR ?_
  intro p e s m args below meth c s₁ Bd hml0 hP hK
  obtain ⟨rfl, hZ, hh⟩ := hP
  have hx := Bd.exec
  have hby := Bd.bytes
  have hml : c.maxLocals = 3 := hml0
  have hown : s.vm.findClass "com/example/commitwright/commitwright/core/Branch" = some m.cls := findClass_of_methodNamed Bd.named
  have hnm := (name_of_methodNamed Bd.named Bd.method).1
  have X0 : Stand p l e ({ frames := 2, cells := 0, slots := 0, locals := 29 } : Room) s m #[(.ref a), (.ref a2)] below meth c s₁ [] 0 0 := Stand.of_body Bd
  have e0 : s₁.heap = h0 := by rw [← hh, Bd.state]; rfl
  have N0 := Fr.nil n0
  refine Out.start (Q := own_QBE Z a a2 sa sb t u kt ku cs ks k0 k1 G1 h0 n0) (own_efBE m a a2 ) ?_
  refine Out.via (g' := (mkF m 1 #[vR a, vR a2, vU] [(.ref a2)])) (fun _ k => XS.aloadN X0.here hx rfl (hb hby own_d26_0) rfl rfl k) ?_
  obtain ⟨T1, X1, e1, st1⟩ := instY X0 hx hZ hown (W_ hw 135 rfl) e0 (Ins.self E2) (g := (mkF m 1 #[vR a, vR a2, vU] [(.ref a2)])) rfl rfl (hb hby own_d26_1)
  refine Out.via (g' := (mkF m 4 #[vR a, vR a2, vU] [(.int (1 : Int32))])) st1 ?_
  refine Out.via (g' := (mkF m 7 #[vR a, vR a2, vU] [])) (fun _ k => XS.ifNo X1.here hx rfl (hb hby own_d26_4) rfl ((if0 _ _).trans (feq (by decide)).1) k) ?_
  refine Out.via (g' := (mkF m 8 #[vR a, vR a2, vU] [(.ref a2)])) (fun _ k => XS.aloadN X1.here hx rfl (hb hby own_d26_7) rfl rfl k) ?_
  obtain ⟨T2, X2, e2, st2⟩ := castY X1 hx hZ hown (W_ hw 135 rfl) e1 (Ins.self E2) (g := (mkF m 8 #[vR a, vR a2, vU] [(.ref a2)])) rfl rfl (hb hby own_d26_8)
  refine Out.via (g' := (mkF m 11 #[vR a, vR a2, vU] [(.ref a2)])) st2 ?_
  refine Out.via (g' := (mkF m 12 #[vR a, vR a2, vR a2] [])) (fun _ k => XS.astoreN X2.here hx rfl (hb hby own_d26_11) rfl rfl (l' := #[.val (.ref a), .val (.ref a2), .val (.ref a2)]) rfl k) ?_
  refine Out.via (g' := (mkF m 13 #[vR a, vR a2, vR a2] [(.ref a)])) (fun _ k => XS.aloadN X2.here hx rfl (hb hby own_d26_12) rfl rfl k) ?_
  obtain ⟨T3, X3, e3, st3⟩ := getF X2 hx hZ hown (host := "") (Or.inl (W_ hw 99 rfl)) Via.refl e2 Fr1 (g := (mkF m 13 #[vR a, vR a2, vR a2] [(.ref a)])) rfl rfl (hb hby own_d26_13)
  refine Out.via (g' := (mkF m 16 #[vR a, vR a2, vR a2] [(.ref sa)])) st3 ?_
  refine Out.via (g' := (mkF m 17 #[vR a, vR a2, vR a2] [(.ref a2), (.ref sa)])) (fun _ k => XS.aloadN X3.here hx rfl (hb hby own_d26_16) rfl rfl k) ?_
  obtain ⟨T4, X4, e4, st4⟩ := getF X3 hx hZ hown (host := "") (Or.inl (W_ hw 99 rfl)) Via.refl e3 Fr2 (g := (mkF m 17 #[vR a, vR a2, vR a2] [(.ref a2), (.ref sa)])) rfl rfl (hb hby own_d26_17)
  refine Out.via (g' := (mkF m 20 #[vR a, vR a2, vR a2] [(.ref sb), (.ref sa)])) st4 ?_
  obtain ⟨cq5, kq5, q5a, q5b, q5c⟩ := isOf hZ e4 Sx.2.1
  obtain ⟨_, _, ⟨T5, L5, kc5, ks5⟩, -, X5, ⟨Lc5, hQ5, l5, y5, z5⟩, st5⟩ := X4.virtualBack hx (y := own_y0) (z := own_y0) hown (mvT hZ (W_ hw 137 rfl)) (mvT hZ (W_ hw 138 rfl)) (notFace_of_selects (args := #[]) (mvT hZ (W_ hw 140 rfl))) (mvT hZ (W_ hw 140 rfl)) (mvT hZ (W_ hw 139 rfl)) (by decide) (own_eqB (W := 0) hZ hw (W_ hw 6 rfl) Sx lc Sy lc (O2.ext O.2) P5 (by decide) (by decide)) q5a q5c (g := (mkF m 20 #[vR a, vR a2, vR a2] [(.ref sb), (.ref sa)])) rfl (by rw [hml]; rfl) (Steps.refl _) (argsL := [(.ref sb)]) (rest := []) (lenOf own_pd30 rfl) rfl (by show 2 * 0 + _ ≤ _; exact Nat.le_of_eq rfl) (hb hby own_d26_20) (fun _ _ => ⟨rfl, e4, (by decide : 0 + 0 ≤ _), (by decide : 0 + 0 ≤ _)⟩)
  dsimp only [Pt.U, Pt.locs, Pt.cells, Pt.slots] at X5 l5 y5 z5 st5 hQ5
  subst l5 y5 z5
  obtain ⟨hc, rfl, eq5⟩ := hQ5
  replace N0 := Fr.app N0 (Fr.nil n0)
  obtain ⟨rfl, -⟩ | ⟨-, hno⟩ := hc
  · refine Out.to (g' := (mkF m 23 #[vR a, vR a2, vR a2] [(.int (1 : Int32))])) st5 ?_
    refine Out.via (g' := (mkF m 26 #[vR a, vR a2, vR a2] [])) (fun _ k => XS.ifNo X5.here hx rfl (hb hby own_d26_23) rfl ((if0 _ _).trans (feq (by decide)).1) k) ?_
    refine Out.via (g' := (mkF m 27 #[vR a, vR a2, vR a2] [(.ref a)])) (fun _ k => XS.aloadN X5.here hx rfl (hb hby own_d26_26) rfl rfl k) ?_
    obtain ⟨T6, X6, e6, st6⟩ := getF X5 hx hZ hown (host := "") (Or.inl (W_ hw 101 rfl)) Via.refl eq5 Fk1 (g := (mkF m 27 #[vR a, vR a2, vR a2] [(.ref a)])) rfl rfl (hb hby own_d26_27)
    refine Out.via (g' := (mkF m 30 #[vR a, vR a2, vR a2] [(.ref t)])) st6 ?_
    refine Out.via (g' := (mkF m 31 #[vR a, vR a2, vR a2] [(.ref a2), (.ref t)])) (fun _ k => XS.aloadN X6.here hx rfl (hb hby own_d26_30) rfl rfl k) ?_
    obtain ⟨T7, X7, e7, st7⟩ := getF X6 hx hZ hown (host := "") (Or.inl (W_ hw 101 rfl)) Via.refl e6 Fk2 (g := (mkF m 31 #[vR a, vR a2, vR a2] [(.ref a2), (.ref t)])) rfl rfl (hb hby own_d26_31)
    refine Out.via (g' := (mkF m 34 #[vR a, vR a2, vR a2] [(.ref u), (.ref t)])) st7 ?_
    obtain ⟨_, _, ⟨T8, L8, kc8, ks8⟩, -, X8, ⟨Lc8, hQ8, l8, y8, z8⟩, st8⟩ := Jvm.LawKit.callS X7 hx (y := own_y25) hown (mvT hZ (W_ hw 146 rfl)) (mvT hZ (W_ hw 147 rfl)) (mvT hZ (W_ hw 128 rfl)) (mvT hZ (W_ hw 148 rfl)) (by decide) (backOf (W := 0) (own_rmAE l Z a0 hw [] t u kt ku ks k0 k1 h0 n0 O hks Bt Bu) hZ (W_ hw 148 rfl) (W_ hw 128 rfl) (by decide) (by decide)) (g := (mkF m 34 #[vR a, vR a2, vR a2] [(.ref u), (.ref t)])) rfl (by rw [hml]; rfl) (argsL := [(.ref t), (.ref u)]) (rest := []) (lenOf own_pd31 rfl) rfl (by show 2 * 0 + _ ≤ _; exact Nat.le_of_eq rfl) (hb hby own_d26_34) (fun _ _ => ⟨rfl, e7, (by decide : 0 + 0 ≤ _), (by decide : 0 + 0 ≤ _)⟩)
    dsimp only [Pt.U, Pt.locs, Pt.cells, Pt.slots] at X8 l8 y8 z8 st8 hQ8
    subst l8 y8 z8
    obtain ⟨rfl, Nq8, eq8⟩ := hQ8
    replace N0 := Fr.app N0 Nq8
    refine Out.via (g' := (mkF m 37 #[vR a, vR a2, vR a2] [(.int (1 : Int32))])) st8 ?_
    refine Out.via (g' := (mkF m 40 #[vR a, vR a2, vR a2] [])) (fun _ k => XS.ifNo X8.here hx rfl (hb hby own_d26_37) rfl ((if0 _ _).trans (feq (by decide)).1) k) ?_
    refine Out.via (g' := (mkF m 41 #[vR a, vR a2, vR a2] [(.int (1 : Int32))])) (fun _ k => XS.iconst X8.here hx rfl (hb hby own_d26_40) k) ?_
    refine Out.via (g' := (mkF m 45 #[vR a, vR a2, vR a2] [(.int (1 : Int32))])) (fun _ k => XS.goto X8.here hx rfl (pc0 := 41) (pc' := 45) rfl (hb hby own_d26_41) (by decide) (by decide) k) ?_
    exact Out.endN X8 (fun h => by rw [Bd.returns] at h; cases h) Bd.notSynchronized (by decide) (by decide) (by rw [eq8]; exact ⟨rfl, N0, rfl⟩) (fun fs hr => Jvm.RoadKit.retN X8 hx (t := .boolean) Bd.returns (by simp) (hb hby own_d26_45) hr)
  · exact absurd rfl hno
theorem own_nb (x : Int32) : nar .byte x.toInt8.toInt32 = x.toInt8.toInt32 := by simp [nar]
theorem own_rem3 (p2 : Int32) : (((p2.toUInt32 >>> ((1 : Int32) &&& 31).toUInt32).toInt32) % (3 : Int32)) = (0 : Int32) ∨ (((p2.toUInt32 >>> ((1 : Int32) &&& 31).toUInt32).toInt32) % (3 : Int32)) = (1 : Int32) ∨ (((p2.toUInt32 >>> ((1 : Int32) &&& 31).toUInt32).toInt32) % (3 : Int32)) = (2 : Int32) := by
  generalize hx : ((p2.toUInt32 >>> ((1 : Int32) &&& 31).toUInt32).toInt32) = x
  have h0 : 0 ≤ x.toInt := by
    have hu : (p2.toUInt32 >>> ((1 : Int32) &&& 31).toUInt32).toNat < 2 ^ 31 := by
      have e1 : ((1 : Int32) &&& 31).toUInt32 = 1 := by decide
      rw [e1, UInt32.toNat_shiftRight]
      have := p2.toUInt32.toNat_lt
      show p2.toUInt32.toNat >>> 1 < _
      rw [Nat.shiftRight_eq_div_pow]; omega
    rw [← hx]
    have e2 : ((p2.toUInt32 >>> ((1 : Int32) &&& 31).toUInt32).toInt32).toInt = ((p2.toUInt32 >>> ((1 : Int32) &&& 31).toUInt32).toNat : Int) := by
      show (BitVec.toInt _) = _
      rw [BitVec.toInt_eq_toNat_of_lt]
      · rfl
      · show 2 * (p2.toUInt32 >>> ((1 : Int32) &&& 31).toUInt32).toNat < 2 ^ 32
        omega
    rw [e2]; omega
  have e3 : (3 : Int32).toInt = 3 := rfl
  have h1 : (x % (3 : Int32)).toInt = x.toInt.tmod 3 := by rw [Int32.toInt_mod, e3]
  rw [Int.tmod_eq_emod_of_nonneg h0] at h1
  have h2 : x.toInt % 3 = 0 ∨ x.toInt % 3 = 1 ∨ x.toInt % 3 = 2 := by omega
  rcases h2 with h2 | h2 | h2
  · exact Or.inl (Int32.toInt_inj.mp (by rw [h1, h2]; rfl))
  · exact Or.inr (Or.inl (Int32.toInt_inj.mp (by rw [h1, h2]; rfl)))
  · exact Or.inr (Or.inr (Int32.toInt_inj.mp (by rw [h1, h2]; rfl)))
theorem own_and {c : Int32} (h : own_lat c) : c.toInt8.toInt32 &&& (255 : Int32) = c := by
  obtain ⟨k, rfl⟩ := own_lat_cases h
  exact (by decide +kernel : ∀ k : Fin 256, (Int32.ofNat k.val).toInt8.toInt32 &&& (255 : Int32) = Int32.ofNat k.val) k
theorem own_eH1 {c0 x1 : Int32} (h0 : own_lat c0) : own_H1 c0.toInt8.toInt32 x1 = c0 := own_and h0
theorem own_eH2 {c0 c1 : Int32} (h0 : own_lat c0) (h1 : own_lat c1) : own_H2 c0.toInt8.toInt32 c1.toInt8.toInt32 = (((31 : Int32) * c0) + c1) := by
  unfold own_H2
  rw [own_and h0, own_and h1, show (31 : Int32) * (0 : Int32) = 0 by decide, Int32.zero_add]
theorem own_eK2 (k0 k1 : Int32) : own_K2 k0 k1 = (((961 : Int32) + ((31 : Int32) * k0)) + k1) := by
  unfold own_K2
  rw [Int32.mul_add, show (31 : Int32) * ((31 : Int32) * (1 : Int32)) = 961 by decide]
theorem own_cs {c0 c1 x0 x1 tw : Int32} {xs cs : List Int32} (hc0 : own_lat c0) (hc1 : own_lat c1) (hx0 : x0 = c0.toInt8.toInt32) (hx1 : x1 = c1.toInt8.toInt32) (ht : (tw = 0 ∧ xs = [x0]) ∨ (tw = 1 ∧ xs = [x0, x1])) (hcs : (tw = 0 ∧ cs = [c0]) ∨ (tw = 1 ∧ cs = [c0, c1])) : cs.length ≤ 4000 ∧ (∀ c ∈ cs, own_lat c) ∧ xs = cs.map (fun c => c.toInt8.toInt32) := by
  subst hx0 hx1
  rcases ht with ⟨rfl, rfl⟩ | ⟨rfl, rfl⟩ <;> rcases hcs with ⟨h1, rfl⟩ | ⟨h1, rfl⟩ <;> first | exact absurd h1 (by decide) | skip
  · exact ⟨by show 1 ≤ 4000; decide, own_allS hc0 own_all0, rfl⟩
  · exact ⟨by show 2 ≤ 4000; decide, own_allS hc0 (own_allS hc1 own_all0), rfl⟩
theorem own_spl {Z : State} {h : Heap} {x b : Addr} {kb : ClassId} {H : Int32} {xs cs : List Int32} (hlat : ∀ c ∈ cs, own_lat c) (hxc : xs = cs.map (fun c => c.toInt8.toInt32)) (F : own_S Z h x b H) (G : own_By Z h b kb xs) : own_Str Z h x cs := by
  subst hxc
  have g := G.1
  rw [List.length_map] at g
  exact ⟨hlat, F.1, F.2.1, b, kb, F.2.2.1, g⟩
theorem own_exp10 {c0 c1 x0 x1 k0 k1 : Int32} (hc0 : own_lat c0) (hc1 : own_lat c1) (hx0 : x0 = c0.toInt8.toInt32) (hx1 : x1 = c1.toInt8.toInt32) : own_V [x0] [] = (((31 : Int32) * c0) + (1 : Int32)) := by
  subst hx0 hx1
  show (31 : Int32) * own_H1 c0.toInt8.toInt32 0 + own_K0 0 0 = _
  rw [own_eH1 hc0]
  rfl
theorem own_exp11 {c0 c1 x0 x1 k0 k1 : Int32} (hc0 : own_lat c0) (hc1 : own_lat c1) (hx0 : x0 = c0.toInt8.toInt32) (hx1 : x1 = c1.toInt8.toInt32) : own_V [x0] [k0] = (((31 : Int32) * c0) + ((31 : Int32) + k0)) := by
  subst hx0 hx1
  show (31 : Int32) * own_H1 c0.toInt8.toInt32 0 + own_K1 k0 0 = _
  rw [own_eH1 hc0]
  rfl
theorem own_exp12 {c0 c1 x0 x1 k0 k1 : Int32} (hc0 : own_lat c0) (hc1 : own_lat c1) (hx0 : x0 = c0.toInt8.toInt32) (hx1 : x1 = c1.toInt8.toInt32) : own_V [x0] [k0, k1] = (((31 : Int32) * c0) + (((961 : Int32) + ((31 : Int32) * k0)) + k1)) := by
  subst hx0 hx1
  show (31 : Int32) * own_H1 c0.toInt8.toInt32 0 + own_K2 k0 k1 = _
  rw [own_eH1 hc0, own_eK2]
theorem own_exp20 {c0 c1 x0 x1 k0 k1 : Int32} (hc0 : own_lat c0) (hc1 : own_lat c1) (hx0 : x0 = c0.toInt8.toInt32) (hx1 : x1 = c1.toInt8.toInt32) : own_V [x0, x1] [] = (((31 : Int32) * (((31 : Int32) * c0) + c1)) + (1 : Int32)) := by
  subst hx0 hx1
  show (31 : Int32) * own_H2 c0.toInt8.toInt32 c1.toInt8.toInt32 + own_K0 0 0 = _
  rw [own_eH2 hc0 hc1]
  rfl
theorem own_exp21 {c0 c1 x0 x1 k0 k1 : Int32} (hc0 : own_lat c0) (hc1 : own_lat c1) (hx0 : x0 = c0.toInt8.toInt32) (hx1 : x1 = c1.toInt8.toInt32) : own_V [x0, x1] [k0] = (((31 : Int32) * (((31 : Int32) * c0) + c1)) + ((31 : Int32) + k0)) := by
  subst hx0 hx1
  show (31 : Int32) * own_H2 c0.toInt8.toInt32 c1.toInt8.toInt32 + own_K1 k0 0 = _
  rw [own_eH2 hc0 hc1]
  rfl
theorem own_exp22 {c0 c1 x0 x1 k0 k1 : Int32} (hc0 : own_lat c0) (hc1 : own_lat c1) (hx0 : x0 = c0.toInt8.toInt32) (hx1 : x1 = c1.toInt8.toInt32) : own_V [x0, x1] [k0, k1] = (((31 : Int32) * (((31 : Int32) * c0) + c1)) + (((961 : Int32) + ((31 : Int32) * k0)) + k1)) := by
  subst hx0 hx1
  show (31 : Int32) * own_H2 c0.toInt8.toInt32 c1.toInt8.toInt32 + own_K2 k0 k1 = _
  rw [own_eH2 hc0 hc1, own_eK2]
theorem own_pd32 : parseMethodDescriptor "(ZCC)Ljava/lang/String;" = some ⟨[.boolean, .char, .char], some (.object "java/lang/String")⟩ := by decide +kernel
theorem own_pd33 : parseMethodDescriptor "(IBB)[B" = some ⟨[.int, .byte, .byte], some (.array .byte)⟩ := by decide +kernel
theorem own_pd34 : parseMethodDescriptor "(Ljava/lang/String;[B)V" = some ⟨[(.object "java/lang/String"), (.array .byte)], none⟩ := by decide +kernel
theorem own_ef0 (m : MethodId) (x0 : Int32) (x1 : Int32) (x2 : Int32) : entryFrame m #[(.int x0), (.int x1), (.int x2)] maxLocals = mkF m 0 #[.val (.int x0), .val (.int x1), .val (.int x2), .unset, .unset, .unset, .unset, .unset, .unset, .unset, .unset, .unset, .unset, .unset, .unset, .unset, .unset, .unset, .unset, .unset, .unset, .unset] [] := by first | (simp [entryFrame, mkF, argsToLocals, Value.category, maxLocals]; done) | rfl
set_option maxRecDepth 65536 in
set_option maxHeartbeats 40000000 in
theorem own_rm0 (l : Launch) (Z : State) (a0 : Array Value) (hw : ∀ d ∈ tables_1, d.before a0 Z = true) (ws : List Jvm.Cond) (p0 p1 p2 : Int32) (u8 : Addr) (G1 : Int32) (h0 : Heap) (n0 : Nat) (O : Old Z n0 h0) (O2 : Sta Z Z.heap "java/lang/String" "COMPACT_STRINGS" "Z" (.int G1)) (P5 : ¬ (G1 = (0 : Int32))) (V_u : Sta Z Z.heap "sun/nio/cs/UTF_8" "INSTANCE" "Lsun/nio/cs/UTF_8;" (.ref u8)) (V_c : Sta Z Z.heap "java/nio/charset/StandardCharsets" "UTF_8" "Ljava/nio/charset/Charset;" (.ref u8)) :
    MetFree l x (head1 (Jvm.Cond.code x code maxLocals ret :: ws) room_1) (fun aa U => aa = #[(.int p0), (.int p1), (.int p2)] ∧ Z.Warmed39 U.vm ∧ U.heap = h0) (fun _ _ _ _ _ => True) (fun _ U o U' => ∃ v L, o = .returned v ∧ (fun v h L => v = some (.int (1 : Int32)) ∧ Fr n0 L) v U'.heap L ∧ ReturnedEndW U o U' L room_1.cells room_1.slots) := by
  refine MetFree.of_bodySF (plainFor_of_name own_pn18) hisR ?_
  intro p e s m args below meth c s₁ Bd hml0 hP hK
  obtain ⟨rfl, hZ, hh⟩ := hP
  have hx := Bd.exec
  have hby := Bd.bytes
  have hml : c.maxLocals = 22 := hml0
  have hown : s.vm.findClass "com/example/commitwright/commitwright/core/BranchHashCodePinLaw" = some m.cls := findClass_of_methodNamed Bd.named
  have hnm := (name_of_methodNamed Bd.named Bd.method).1
  have X0 : Stand p l e room_1 (s.setVm s.vm) m #[(.int p0), (.int p1), (.int p2)] below meth c s₁ [] 0 0 := Stand.of_body Bd
  have e0 : s₁.heap = h0 := by rw [← hh, Bd.state]; rfl
  have N0 := Fr.nil n0
  have hS := own_since0 s 0
  have hk : 0 ≤ h0.size := Nat.zero_le _
  refine Out.startW (Q := fun v h L => v = some (.int (1 : Int32)) ∧ Fr n0 L) (own_ef0 m p0 p1 p2 ) ?_
  have wS := own_wS hw
  refine Out.via (g' := (mkF m 1 #[vI p0, vI p1, vI p2, vU, vU, vU, vU, vU, vU, vU, vU, vU, vU, vU, vU, vU, vU, vU, vU, vU, vU, vU] [(.int p0)])) (fun _ k => XS.iloadN X0.here hx rfl (hb hby at_0) rfl k) ?_
  refine Out.via (g' := (mkF m 4 #[vI p0, vI p1, vI p2, vU, vU, vU, vU, vU, vU, vU, vU, vU, vU, vU, vU, vU, vU, vU, vU, vU, vU, vU] [(.int (255 : Int32)), (.int p0)])) (fun _ k => XS.sipush X0.here hx rfl (hb hby at_1) k) ?_
  refine Out.via (g' := (mkF m 5 #[vI p0, vI p1, vI p2, vU, vU, vU, vU, vU, vU, vU, vU, vU, vU, vU, vU, vU, vU, vU, vU, vU, vU, vU] [(.int (p0 &&& (255 : Int32)))])) (fun _ k => XS.iand X0.here hx rfl (hb hby at_4) rfl k) ?_
  refine Out.via (g' := (mkF m 6 #[vI p0, vI p1, vI p2, vU, vU, vU, vU, vU, vU, vU, vU, vU, vU, vU, vU, vU, vU, vU, vU, vU, vU, vU] [(.int ((p0 &&& (255 : Int32)).toUInt32.toUInt16.toUInt32.toInt32))])) (fun _ k => XS.i2c X0.here hx rfl (hb hby at_5) rfl k) ?_
  refine Out.via (g' := (mkF m 7 #[vI p0, vI p1, vI p2, .val (.int ((p0 &&& (255 : Int32)).toUInt32.toUInt16.toUInt32.toInt32)), vU, vU, vU, vU, vU, vU, vU, vU, vU, vU, vU, vU, vU, vU, vU, vU, vU, vU] [])) (fun _ k => XS.istoreN X0.here hx rfl (hb hby at_6) rfl (l' := #[.val (.int p0), .val (.int p1), .val (.int p2), .val (.int ((p0 &&& (255 : Int32)).toUInt32.toUInt16.toUInt32.toInt32)), .unset, .unset, .unset, .unset, .unset, .unset, .unset, .unset, .unset, .unset, .unset, .unset, .unset, .unset, .unset, .unset, .unset, .unset]) rfl k) ?_
  refine Out.via (g' := (mkF m 8 #[vI p0, vI p1, vI p2, .val (.int ((p0 &&& (255 : Int32)).toUInt32.toUInt16.toUInt32.toInt32)), vU, vU, vU, vU, vU, vU, vU, vU, vU, vU, vU, vU, vU, vU, vU, vU, vU, vU] [(.int p0)])) (fun _ k => XS.iloadN X0.here hx rfl (hb hby at_7) rfl k) ?_
  refine Out.via (g' := (mkF m 10 #[vI p0, vI p1, vI p2, .val (.int ((p0 &&& (255 : Int32)).toUInt32.toUInt16.toUInt32.toInt32)), vU, vU, vU, vU, vU, vU, vU, vU, vU, vU, vU, vU, vU, vU, vU, vU, vU, vU] [(.int (8 : Int32)), (.int p0)])) (fun _ k => XS.bipush X0.here hx rfl (hb hby at_8) k) ?_
  refine Out.via (g' := (mkF m 11 #[vI p0, vI p1, vI p2, .val (.int ((p0 &&& (255 : Int32)).toUInt32.toUInt16.toUInt32.toInt32)), vU, vU, vU, vU, vU, vU, vU, vU, vU, vU, vU, vU, vU, vU, vU, vU, vU, vU] [(.int ((p0.toUInt32 >>> ((8 : Int32) &&& 31).toUInt32).toInt32))])) (fun _ k => XS.iushr X0.here hx rfl (hb hby at_10) rfl k) ?_
  refine Out.via (g' := (mkF m 14 #[vI p0, vI p1, vI p2, .val (.int ((p0 &&& (255 : Int32)).toUInt32.toUInt16.toUInt32.toInt32)), vU, vU, vU, vU, vU, vU, vU, vU, vU, vU, vU, vU, vU, vU, vU, vU, vU, vU] [(.int (255 : Int32)), (.int ((p0.toUInt32 >>> ((8 : Int32) &&& 31).toUInt32).toInt32))])) (fun _ k => XS.sipush X0.here hx rfl (hb hby at_11) k) ?_
  refine Out.via (g' := (mkF m 15 #[vI p0, vI p1, vI p2, .val (.int ((p0 &&& (255 : Int32)).toUInt32.toUInt16.toUInt32.toInt32)), vU, vU, vU, vU, vU, vU, vU, vU, vU, vU, vU, vU, vU, vU, vU, vU, vU, vU] [(.int (((p0.toUInt32 >>> ((8 : Int32) &&& 31).toUInt32).toInt32) &&& (255 : Int32)))])) (fun _ k => XS.iand X0.here hx rfl (hb hby at_14) rfl k) ?_
  refine Out.via (g' := (mkF m 16 #[vI p0, vI p1, vI p2, .val (.int ((p0 &&& (255 : Int32)).toUInt32.toUInt16.toUInt32.toInt32)), vU, vU, vU, vU, vU, vU, vU, vU, vU, vU, vU, vU, vU, vU, vU, vU, vU, vU] [(.int ((((p0.toUInt32 >>> ((8 : Int32) &&& 31).toUInt32).toInt32) &&& (255 : Int32)).toUInt32.toUInt16.toUInt32.toInt32))])) (fun _ k => XS.i2c X0.here hx rfl (hb hby at_15) rfl k) ?_
  refine Out.via (g' := (mkF m 18 #[vI p0, vI p1, vI p2, .val (.int ((p0 &&& (255 : Int32)).toUInt32.toUInt16.toUInt32.toInt32)), .val (.int ((((p0.toUInt32 >>> ((8 : Int32) &&& 31).toUInt32).toInt32) &&& (255 : Int32)).toUInt32.toUInt16.toUInt32.toInt32)), vU, vU, vU, vU, vU, vU, vU, vU, vU, vU, vU, vU, vU, vU, vU, vU, vU] [])) (fun _ k => XS.istore X0.here hx rfl (hb hby at_16) rfl (l' := #[.val (.int p0), .val (.int p1), .val (.int p2), .val (.int ((p0 &&& (255 : Int32)).toUInt32.toUInt16.toUInt32.toInt32)), .val (.int ((((p0.toUInt32 >>> ((8 : Int32) &&& 31).toUInt32).toInt32) &&& (255 : Int32)).toUInt32.toUInt16.toUInt32.toInt32)), .unset, .unset, .unset, .unset, .unset, .unset, .unset, .unset, .unset, .unset, .unset, .unset, .unset, .unset, .unset, .unset, .unset]) rfl k) ?_
  refine Out.via (g' := (mkF m 19 #[vI p0, vI p1, vI p2, .val (.int ((p0 &&& (255 : Int32)).toUInt32.toUInt16.toUInt32.toInt32)), .val (.int ((((p0.toUInt32 >>> ((8 : Int32) &&& 31).toUInt32).toInt32) &&& (255 : Int32)).toUInt32.toUInt16.toUInt32.toInt32)), vU, vU, vU, vU, vU, vU, vU, vU, vU, vU, vU, vU, vU, vU, vU, vU, vU] [(.int p1)])) (fun _ k => XS.iloadN X0.here hx rfl (hb hby at_18) rfl k) ?_
  refine Out.via (g' := (mkF m 20 #[vI p0, vI p1, vI p2, .val (.int ((p0 &&& (255 : Int32)).toUInt32.toUInt16.toUInt32.toInt32)), .val (.int ((((p0.toUInt32 >>> ((8 : Int32) &&& 31).toUInt32).toInt32) &&& (255 : Int32)).toUInt32.toUInt16.toUInt32.toInt32)), vU, vU, vU, vU, vU, vU, vU, vU, vU, vU, vU, vU, vU, vU, vU, vU, vU] [(.int (p1.toInt8.toInt32))])) (fun _ k => XS.i2b X0.here hx rfl (hb hby at_19) rfl k) ?_
  refine Out.via (g' := (mkF m 22 #[vI p0, vI p1, vI p2, .val (.int ((p0 &&& (255 : Int32)).toUInt32.toUInt16.toUInt32.toInt32)), .val (.int ((((p0.toUInt32 >>> ((8 : Int32) &&& 31).toUInt32).toInt32) &&& (255 : Int32)).toUInt32.toUInt16.toUInt32.toInt32)), .val (.int (p1.toInt8.toInt32)), vU, vU, vU, vU, vU, vU, vU, vU, vU, vU, vU, vU, vU, vU, vU, vU] [])) (fun _ k => XS.istore X0.here hx rfl (hb hby at_20) rfl (l' := #[.val (.int p0), .val (.int p1), .val (.int p2), .val (.int ((p0 &&& (255 : Int32)).toUInt32.toUInt16.toUInt32.toInt32)), .val (.int ((((p0.toUInt32 >>> ((8 : Int32) &&& 31).toUInt32).toInt32) &&& (255 : Int32)).toUInt32.toUInt16.toUInt32.toInt32)), .val (.int (p1.toInt8.toInt32)), .unset, .unset, .unset, .unset, .unset, .unset, .unset, .unset, .unset, .unset, .unset, .unset, .unset, .unset, .unset, .unset]) rfl k) ?_
  refine Out.via (g' := (mkF m 23 #[vI p0, vI p1, vI p2, .val (.int ((p0 &&& (255 : Int32)).toUInt32.toUInt16.toUInt32.toInt32)), .val (.int ((((p0.toUInt32 >>> ((8 : Int32) &&& 31).toUInt32).toInt32) &&& (255 : Int32)).toUInt32.toUInt16.toUInt32.toInt32)), .val (.int (p1.toInt8.toInt32)), vU, vU, vU, vU, vU, vU, vU, vU, vU, vU, vU, vU, vU, vU, vU, vU] [(.int p1)])) (fun _ k => XS.iloadN X0.here hx rfl (hb hby at_22) rfl k) ?_
  refine Out.via (g' := (mkF m 25 #[vI p0, vI p1, vI p2, .val (.int ((p0 &&& (255 : Int32)).toUInt32.toUInt16.toUInt32.toInt32)), .val (.int ((((p0.toUInt32 >>> ((8 : Int32) &&& 31).toUInt32).toInt32) &&& (255 : Int32)).toUInt32.toUInt16.toUInt32.toInt32)), .val (.int (p1.toInt8.toInt32)), vU, vU, vU, vU, vU, vU, vU, vU, vU, vU, vU, vU, vU, vU, vU, vU] [(.int (8 : Int32)), (.int p1)])) (fun _ k => XS.bipush X0.here hx rfl (hb hby at_23) k) ?_
  refine Out.via (g' := (mkF m 26 #[vI p0, vI p1, vI p2, .val (.int ((p0 &&& (255 : Int32)).toUInt32.toUInt16.toUInt32.toInt32)), .val (.int ((((p0.toUInt32 >>> ((8 : Int32) &&& 31).toUInt32).toInt32) &&& (255 : Int32)).toUInt32.toUInt16.toUInt32.toInt32)), .val (.int (p1.toInt8.toInt32)), vU, vU, vU, vU, vU, vU, vU, vU, vU, vU, vU, vU, vU, vU, vU, vU] [(.int (p1 >>> ((8 : Int32) &&& 31)))])) (fun _ k => XS.ishr X0.here hx rfl (hb hby at_25) rfl k) ?_
  refine Out.via (g' := (mkF m 27 #[vI p0, vI p1, vI p2, .val (.int ((p0 &&& (255 : Int32)).toUInt32.toUInt16.toUInt32.toInt32)), .val (.int ((((p0.toUInt32 >>> ((8 : Int32) &&& 31).toUInt32).toInt32) &&& (255 : Int32)).toUInt32.toUInt16.toUInt32.toInt32)), .val (.int (p1.toInt8.toInt32)), vU, vU, vU, vU, vU, vU, vU, vU, vU, vU, vU, vU, vU, vU, vU, vU] [(.int ((p1 >>> ((8 : Int32) &&& 31)).toInt8.toInt32))])) (fun _ k => XS.i2b X0.here hx rfl (hb hby at_26) rfl k) ?_
  refine Out.via (g' := (mkF m 29 #[vI p0, vI p1, vI p2, .val (.int ((p0 &&& (255 : Int32)).toUInt32.toUInt16.toUInt32.toInt32)), .val (.int ((((p0.toUInt32 >>> ((8 : Int32) &&& 31).toUInt32).toInt32) &&& (255 : Int32)).toUInt32.toUInt16.toUInt32.toInt32)), .val (.int (p1.toInt8.toInt32)), .val (.int ((p1 >>> ((8 : Int32) &&& 31)).toInt8.toInt32)), vU, vU, vU, vU, vU, vU, vU, vU, vU, vU, vU, vU, vU, vU, vU] [])) (fun _ k => XS.istore X0.here hx rfl (hb hby at_27) rfl (l' := #[.val (.int p0), .val (.int p1), .val (.int p2), .val (.int ((p0 &&& (255 : Int32)).toUInt32.toUInt16.toUInt32.toInt32)), .val (.int ((((p0.toUInt32 >>> ((8 : Int32) &&& 31).toUInt32).toInt32) &&& (255 : Int32)).toUInt32.toUInt16.toUInt32.toInt32)), .val (.int (p1.toInt8.toInt32)), .val (.int ((p1 >>> ((8 : Int32) &&& 31)).toInt8.toInt32)), .unset, .unset, .unset, .unset, .unset, .unset, .unset, .unset, .unset, .unset, .unset, .unset, .unset, .unset, .unset]) rfl k) ?_
  suffices rest : ∀ c0 c1 k0 k1 x0 x1 : Int32, own_lat c0 → own_lat c1 → nar .byte k0 = k0 → nar .byte k1 = k1 → x0 = c0.toInt8.toInt32 → x1 = c1.toInt8.toInt32 → RoadKit.Out p.tables e below (EndW s below (fun v h L => v = some (.int (1 : Int32)) ∧ Fr n0 L) room_1.cells room_1.slots) s₁ (mkF m 29 #[vI p0, vI p1, vI p2, vI c0, vI c1, vI k0, vI k1, vU, vU, vU, vU, vU, vU, vU, vU, vU, vU, vU, vU, vU, vU, vU] []) by exact rest _ _ _ _ _ _ (own_mask _) (own_mask _) (own_nb _) (own_nb _) rfl rfl
  intro c0 c1 k0 k1 x0 x1 hc0 hc1 q0 q1 hx0 hx1
  refine Out.via (g' := (mkF m 30 #[vI p0, vI p1, vI p2, vI c0, vI c1, vI k0, vI k1, vU, vU, vU, vU, vU, vU, vU, vU, vU, vU, vU, vU, vU, vU, vU] [(.int p2)])) (fun _ k => XS.iloadN X0.here hx rfl (hb hby at_29) rfl k) ?_
  refine Out.via (g' := (mkF m 31 #[vI p0, vI p1, vI p2, vI c0, vI c1, vI k0, vI k1, vU, vU, vU, vU, vU, vU, vU, vU, vU, vU, vU, vU, vU, vU, vU] [(.int (1 : Int32)), (.int p2)])) (fun _ k => XS.iconst X0.here hx rfl (hb hby at_30) k) ?_
  refine Out.via (g' := (mkF m 32 #[vI p0, vI p1, vI p2, vI c0, vI c1, vI k0, vI k1, vU, vU, vU, vU, vU, vU, vU, vU, vU, vU, vU, vU, vU, vU, vU] [(.int (p2 &&& (1 : Int32)))])) (fun _ k => XS.iand X0.here hx rfl (hb hby at_31) rfl k) ?_
  suffices rest : ∀ (tw : Int32) (xs cs : List Int32), ((tw = 0 ∧ xs = [x0]) ∨ (tw = 1 ∧ xs = [x0, x1])) → ((tw = 0 ∧ cs = [c0]) ∨ (tw = 1 ∧ cs = [c0, c1])) → RoadKit.Out p.tables e below (EndW s below (fun v h L => v = some (.int (1 : Int32)) ∧ Fr n0 L) room_1.cells room_1.slots) s₁ (mkF m 40 #[vI p0, vI p1, vI p2, vI c0, vI c1, vI k0, vI k1, vU, vU, vU, vU, vU, vU, vU, vU, vU, vU, vU, vU, vU, vU, vU] [(.int tw)]) by
    by_cases hf : (p2 &&& (1 : Int32)) = (0 : Int32)
    · refine Out.via (g' := (mkF m 39 #[vI p0, vI p1, vI p2, vI c0, vI c1, vI k0, vI k1, vU, vU, vU, vU, vU, vU, vU, vU, vU, vU, vU, vU, vU, vU, vU] [])) (fun _ k => XS.ifYes X0.here hx rfl (pc0 := 32) (pc' := 39) rfl (hb hby at_32) rfl ((if0 _ _).trans (teq hf).1) (by decide) (by decide) k) ?_
      refine Out.via (g' := (mkF m 40 #[vI p0, vI p1, vI p2, vI c0, vI c1, vI k0, vI k1, vU, vU, vU, vU, vU, vU, vU, vU, vU, vU, vU, vU, vU, vU, vU] [(.int (0 : Int32))])) (fun _ k => XS.iconst X0.here hx rfl (hb hby at_39) k) ?_
      exact rest _ _ _ (Or.inl ⟨rfl, rfl⟩) (Or.inl ⟨rfl, rfl⟩)
    · refine Out.via (g' := (mkF m 35 #[vI p0, vI p1, vI p2, vI c0, vI c1, vI k0, vI k1, vU, vU, vU, vU, vU, vU, vU, vU, vU, vU, vU, vU, vU, vU, vU] [])) (fun _ k => XS.ifNo X0.here hx rfl (hb hby at_32) rfl ((if0 _ _).trans (feq hf).1) k) ?_
      refine Out.via (g' := (mkF m 36 #[vI p0, vI p1, vI p2, vI c0, vI c1, vI k0, vI k1, vU, vU, vU, vU, vU, vU, vU, vU, vU, vU, vU, vU, vU, vU, vU] [(.int (1 : Int32))])) (fun _ k => XS.iconst X0.here hx rfl (hb hby at_35) k) ?_
      refine Out.via (g' := (mkF m 40 #[vI p0, vI p1, vI p2, vI c0, vI c1, vI k0, vI k1, vU, vU, vU, vU, vU, vU, vU, vU, vU, vU, vU, vU, vU, vU, vU] [(.int (1 : Int32))])) (fun _ k => XS.goto X0.here hx rfl (pc0 := 36) (pc' := 40) rfl (hb hby at_36) (by decide) (by decide) k) ?_
      exact rest _ _ _ (Or.inr ⟨rfl, rfl⟩) (Or.inr ⟨rfl, rfl⟩)
  intro tw xs cs ht hcs
  have hxs : xs = [x0] ∨ xs = [x0, x1] := ht.imp And.right And.right
  refine Out.via (g' := (mkF m 42 #[vI p0, vI p1, vI p2, vI c0, vI c1, vI k0, vI k1, vI tw, vU, vU, vU, vU, vU, vU, vU, vU, vU, vU, vU, vU, vU, vU] [])) (fun _ k => XS.istore X0.here hx rfl (hb hby at_40) rfl (l' := #[.val (.int p0), .val (.int p1), .val (.int p2), .val (.int c0), .val (.int c1), .val (.int k0), .val (.int k1), .val (.int tw), .unset, .unset, .unset, .unset, .unset, .unset, .unset, .unset, .unset, .unset, .unset, .unset, .unset, .unset]) rfl k) ?_
  refine Out.via (g' := (mkF m 43 #[vI p0, vI p1, vI p2, vI c0, vI c1, vI k0, vI k1, vI tw, vU, vU, vU, vU, vU, vU, vU, vU, vU, vU, vU, vU, vU, vU] [(.int p2)])) (fun _ k => XS.iloadN X0.here hx rfl (hb hby at_42) rfl k) ?_
  refine Out.via (g' := (mkF m 44 #[vI p0, vI p1, vI p2, vI c0, vI c1, vI k0, vI k1, vI tw, vU, vU, vU, vU, vU, vU, vU, vU, vU, vU, vU, vU, vU, vU] [(.int (1 : Int32)), (.int p2)])) (fun _ k => XS.iconst X0.here hx rfl (hb hby at_43) k) ?_
  refine Out.via (g' := (mkF m 45 #[vI p0, vI p1, vI p2, vI c0, vI c1, vI k0, vI k1, vI tw, vU, vU, vU, vU, vU, vU, vU, vU, vU, vU, vU, vU, vU, vU] [(.int ((p2.toUInt32 >>> ((1 : Int32) &&& 31).toUInt32).toInt32))])) (fun _ k => XS.iushr X0.here hx rfl (hb hby at_44) rfl k) ?_
  refine Out.via (g' := (mkF m 46 #[vI p0, vI p1, vI p2, vI c0, vI c1, vI k0, vI k1, vI tw, vU, vU, vU, vU, vU, vU, vU, vU, vU, vU, vU, vU, vU, vU] [(.int (3 : Int32)), (.int ((p2.toUInt32 >>> ((1 : Int32) &&& 31).toUInt32).toInt32))])) (fun _ k => XS.iconst X0.here hx rfl (hb hby at_45) k) ?_
  refine Out.via (g' := (mkF m 47 #[vI p0, vI p1, vI p2, vI c0, vI c1, vI k0, vI k1, vI tw, vU, vU, vU, vU, vU, vU, vU, vU, vU, vU, vU, vU, vU, vU] [(.int (((p2.toUInt32 >>> ((1 : Int32) &&& 31).toUInt32).toInt32) % (3 : Int32)))])) (fun _ k => iremM (g := (mkF m 46 #[vI p0, vI p1, vI p2, vI c0, vI c1, vI k0, vI k1, vI tw, vU, vU, vU, vU, vU, vU, vU, vU, vU, vU, vU, vU, vU, vU] [(.int (3 : Int32)), (.int ((p2.toUInt32 >>> ((1 : Int32) &&& 31).toUInt32).toInt32))])) X0 hx rfl (hb hby at_46) rfl (by decide) k) ?_
  suffices rest : ∀ (len : Int32) (ks : List Int32), ((len = 0 ∧ ks = []) ∨ (len = 1 ∧ ks = [k0]) ∨ (len = 2 ∧ ks = [k0, k1])) → RoadKit.Out p.tables e below (EndW s below (fun v h L => v = some (.int (1 : Int32)) ∧ Fr n0 L) room_1.cells room_1.slots) s₁ (mkF m 47 #[vI p0, vI p1, vI p2, vI c0, vI c1, vI k0, vI k1, vI tw, vU, vU, vU, vU, vU, vU, vU, vU, vU, vU, vU, vU, vU, vU] [(.int len)]) by
    rcases own_rem3 p2 with hL | hL | hL <;> rw [hL]
    · exact rest _ _ (Or.inl ⟨rfl, rfl⟩)
    · exact rest _ _ (Or.inr (Or.inl ⟨rfl, rfl⟩))
    · exact rest _ _ (Or.inr (Or.inr ⟨rfl, rfl⟩))
  intro len ks hl
  have hks : ks = [] ∨ ks = [k0] ∨ ks = [k0, k1] := hl.imp And.right (Or.imp And.right And.right)
  refine Out.via (g' := (mkF m 49 #[vI p0, vI p1, vI p2, vI c0, vI c1, vI k0, vI k1, vI tw, vI len, vU, vU, vU, vU, vU, vU, vU, vU, vU, vU, vU, vU, vU] [])) (fun _ k => XS.istore X0.here hx rfl (hb hby at_47) rfl (l' := #[.val (.int p0), .val (.int p1), .val (.int p2), .val (.int c0), .val (.int c1), .val (.int k0), .val (.int k1), .val (.int tw), .val (.int len), .unset, .unset, .unset, .unset, .unset, .unset, .unset, .unset, .unset, .unset, .unset, .unset, .unset]) rfl k) ?_
  refine Out.via (g' := (mkF m 51 #[vI p0, vI p1, vI p2, vI c0, vI c1, vI k0, vI k1, vI tw, vI len, vU, vU, vU, vU, vU, vU, vU, vU, vU, vU, vU, vU, vU] [(.int tw)])) (fun _ k => XS.iload X0.here hx rfl (hb hby at_49) rfl k) ?_
  refine Out.via (g' := (mkF m 52 #[vI p0, vI p1, vI p2, vI c0, vI c1, vI k0, vI k1, vI tw, vI len, vU, vU, vU, vU, vU, vU, vU, vU, vU, vU, vU, vU, vU] [(.int c0), (.int tw)])) (fun _ k => XS.iloadN X0.here hx rfl (hb hby at_51) rfl k) ?_
  refine Out.via (g' := (mkF m 54 #[vI p0, vI p1, vI p2, vI c0, vI c1, vI k0, vI k1, vI tw, vI len, vU, vU, vU, vU, vU, vU, vU, vU, vU, vU, vU, vU, vU] [(.int c1), (.int c0), (.int tw)])) (fun _ k => XS.iload X0.here hx rfl (hb hby at_52) rfl k) ?_
  obtain ⟨_, _, ⟨T1, L1, kc1, ks1⟩, -, X1, ⟨Lc1, hQ1, l1, y1, z1⟩, st1⟩ := Jvm.LawKit.callS X0 hx (y := own_y16) hown (mvT hZ (W_ hw 0 rfl)) (mvT hZ (W_ hw 1 rfl)) (mvT hZ (W_ hw 2 rfl)) (mvT hZ (W_ hw 3 rfl)) (by decide) (backOf (W := 0) (own_rmNM l Z a0 hw [] tw c0 c1 x0 x1 G1 xs h0 n0 O ht hc0 hc1 hx0 hx1 O2 P5) hZ (W_ hw 3 rfl) (W_ hw 2 rfl) (by decide) (by decide)) (g := (mkF m 54 #[vI p0, vI p1, vI p2, vI c0, vI c1, vI k0, vI k1, vI tw, vI len, vU, vU, vU, vU, vU, vU, vU, vU, vU, vU, vU, vU, vU] [(.int c1), (.int c0), (.int tw)])) rfl (by rw [hml]; rfl) (argsL := [(.int tw), (.int c0), (.int c1)]) (rest := []) (lenOf own_pd32 rfl) rfl (by show 2 * 0 + _ ≤ _; exact Nat.le_of_eq rfl) (hb hby at_54) (fun _ _ => ⟨rfl, e0, (by decide : 0 + 3 ≤ _), (by decide : 0 + 8 ≤ _)⟩)
  dsimp only [Pt.U, Pt.locs, Pt.cells, Pt.slots] at X1 l1 y1 z1 st1 hQ1
  subst l1 y1 z1
  obtain ⟨s1, b1, kb1, rfl, Nq1, Kq1, le_s1, g_s1, le_b1, S1, By_b1⟩ := hQ1
  replace N0 := Fr.app N0 Nq1
  replace hk : _ ≤ T1.heap.size := Nat.le_trans hk Kq1.1
  replace O := O.keep Kq1 all0
  refine Out.via (g' := (mkF m 57 #[vI p0, vI p1, vI p2, vI c0, vI c1, vI k0, vI k1, vI tw, vI len, vU, vU, vU, vU, vU, vU, vU, vU, vU, vU, vU, vU, vU] [(.ref s1)])) st1 ?_
  refine Out.via (g' := (mkF m 59 #[vI p0, vI p1, vI p2, vI c0, vI c1, vI k0, vI k1, vI tw, vI len, vR s1, vU, vU, vU, vU, vU, vU, vU, vU, vU, vU, vU, vU] [])) (fun _ k => XS.astore X1.here hx rfl (hb hby at_57) rfl rfl (l' := #[.val (.int p0), .val (.int p1), .val (.int p2), .val (.int c0), .val (.int c1), .val (.int k0), .val (.int k1), .val (.int tw), .val (.int len), .val (.ref s1), .unset, .unset, .unset, .unset, .unset, .unset, .unset, .unset, .unset, .unset, .unset, .unset]) rfl k) ?_
  refine Out.via (g' := (mkF m 61 #[vI p0, vI p1, vI p2, vI c0, vI c1, vI k0, vI k1, vI tw, vI len, vR s1, vU, vU, vU, vU, vU, vU, vU, vU, vU, vU, vU, vU] [(.int tw)])) (fun _ k => XS.iload X1.here hx rfl (hb hby at_59) rfl k) ?_
  refine Out.via (g' := (mkF m 62 #[vI p0, vI p1, vI p2, vI c0, vI c1, vI k0, vI k1, vI tw, vI len, vR s1, vU, vU, vU, vU, vU, vU, vU, vU, vU, vU, vU, vU] [(.int c0), (.int tw)])) (fun _ k => XS.iloadN X1.here hx rfl (hb hby at_61) rfl k) ?_
  refine Out.via (g' := (mkF m 64 #[vI p0, vI p1, vI p2, vI c0, vI c1, vI k0, vI k1, vI tw, vI len, vR s1, vU, vU, vU, vU, vU, vU, vU, vU, vU, vU, vU, vU] [(.int c1), (.int c0), (.int tw)])) (fun _ k => XS.iload X1.here hx rfl (hb hby at_62) rfl k) ?_
  obtain ⟨_, _, ⟨T2, L2, kc2, ks2⟩, -, X2, ⟨Lc2, hQ2, l2, y2, z2⟩, st2⟩ := Jvm.LawKit.callS X1 hx (y := own_y16) hown (mvT hZ (W_ hw 0 rfl)) (mvT hZ (W_ hw 1 rfl)) (mvT hZ (W_ hw 2 rfl)) (mvT hZ (W_ hw 3 rfl)) (by decide) (backOf (W := 0) (own_rmNM l Z a0 hw [] tw c0 c1 x0 x1 G1 xs T1.heap n0 O ht hc0 hc1 hx0 hx1 O2 P5) hZ (W_ hw 3 rfl) (W_ hw 2 rfl) (by decide) (by decide)) (g := (mkF m 64 #[vI p0, vI p1, vI p2, vI c0, vI c1, vI k0, vI k1, vI tw, vI len, vR s1, vU, vU, vU, vU, vU, vU, vU, vU, vU, vU, vU, vU] [(.int c1), (.int c0), (.int tw)])) rfl (by rw [hml]; rfl) (argsL := [(.int tw), (.int c0), (.int c1)]) (rest := []) (lenOf own_pd32 rfl) rfl (by show 2 * 0 + _ ≤ _; exact Nat.le_of_eq rfl) (hb hby at_64) (fun _ _ => ⟨rfl, rfl, (by decide : 3 + 3 ≤ _), (by decide : 8 + 8 ≤ _)⟩)
  dsimp only [Pt.U, Pt.locs, Pt.cells, Pt.slots] at X2 l2 y2 z2 st2 hQ2
  subst l2 y2 z2
  obtain ⟨s2, b2, kb2, rfl, Nq2, Kq2, le_s2, g_s2, le_b2, S2, By_b2⟩ := hQ2
  have ne_s1_s2 : s1 ≠ s2 := Nat.ne_of_lt (Nat.lt_of_lt_of_le S1.1.lt le_s2)
  have ne_b1_s2 : b1 ≠ s2 := Nat.ne_of_lt (Nat.lt_of_lt_of_le By_b1.2.lt le_s2)
  have ne_s1_b2 : s1 ≠ b2 := Nat.ne_of_lt (Nat.lt_of_lt_of_le S1.1.lt le_b2)
  have ne_b1_b2 : b1 ≠ b2 := Nat.ne_of_lt (Nat.lt_of_lt_of_le By_b1.2.lt le_b2)
  replace N0 := Fr.app N0 Nq2
  replace hk : _ ≤ T2.heap.size := Nat.le_trans hk Kq2.1
  replace S1 := S1.keep Kq2 nin0
  replace By_b1 := By_b1.keep Kq2 nin0
  replace O := O.keep Kq2 all0
  refine Out.via (g' := (mkF m 67 #[vI p0, vI p1, vI p2, vI c0, vI c1, vI k0, vI k1, vI tw, vI len, vR s1, vU, vU, vU, vU, vU, vU, vU, vU, vU, vU, vU, vU] [(.ref s2)])) st2 ?_
  refine Out.via (g' := (mkF m 69 #[vI p0, vI p1, vI p2, vI c0, vI c1, vI k0, vI k1, vI tw, vI len, vR s1, vR s2, vU, vU, vU, vU, vU, vU, vU, vU, vU, vU, vU] [])) (fun _ k => XS.astore X2.here hx rfl (hb hby at_67) rfl rfl (l' := #[.val (.int p0), .val (.int p1), .val (.int p2), .val (.int c0), .val (.int c1), .val (.int k0), .val (.int k1), .val (.int tw), .val (.int len), .val (.ref s1), .val (.ref s2), .unset, .unset, .unset, .unset, .unset, .unset, .unset, .unset, .unset, .unset, .unset]) rfl k) ?_
  refine Out.via (g' := (mkF m 71 #[vI p0, vI p1, vI p2, vI c0, vI c1, vI k0, vI k1, vI tw, vI len, vR s1, vR s2, vU, vU, vU, vU, vU, vU, vU, vU, vU, vU, vU] [(.int len)])) (fun _ k => XS.iload X2.here hx rfl (hb hby at_69) rfl k) ?_
  refine Out.via (g' := (mkF m 73 #[vI p0, vI p1, vI p2, vI c0, vI c1, vI k0, vI k1, vI tw, vI len, vR s1, vR s2, vU, vU, vU, vU, vU, vU, vU, vU, vU, vU, vU] [(.int k0), (.int len)])) (fun _ k => XS.iload X2.here hx rfl (hb hby at_71) rfl k) ?_
  refine Out.via (g' := (mkF m 75 #[vI p0, vI p1, vI p2, vI c0, vI c1, vI k0, vI k1, vI tw, vI len, vR s1, vR s2, vU, vU, vU, vU, vU, vU, vU, vU, vU, vU, vU] [(.int k1), (.int k0), (.int len)])) (fun _ k => XS.iload X2.here hx rfl (hb hby at_73) rfl k) ?_
  obtain ⟨_, _, ⟨T3, L3, kc3, ks3⟩, -, X3, ⟨Lc3, hQ3, l3, y3, z3⟩, st3⟩ := Jvm.LawKit.callS X2 hx (y := own_y14) hown (mvT hZ (W_ hw 34 rfl)) (mvT hZ (W_ hw 35 rfl)) (mvT hZ (W_ hw 2 rfl)) (mvT hZ (W_ hw 36 rfl)) (by decide) (backOf (W := 0) (own_rmKY l Z a0 hw [] len k0 k1 ks T2.heap n0 O hl q0 q1) hZ (W_ hw 36 rfl) (W_ hw 2 rfl) (by decide) (by decide)) (g := (mkF m 75 #[vI p0, vI p1, vI p2, vI c0, vI c1, vI k0, vI k1, vI tw, vI len, vR s1, vR s2, vU, vU, vU, vU, vU, vU, vU, vU, vU, vU, vU] [(.int k1), (.int k0), (.int len)])) rfl (by rw [hml]; rfl) (argsL := [(.int len), (.int k0), (.int k1)]) (rest := []) (lenOf own_pd33 rfl) rfl (by show 2 * 0 + _ ≤ _; exact Nat.le_of_eq rfl) (hb hby at_75) (fun _ _ => ⟨rfl, rfl, (by decide : 6 + 1 ≤ _), (by decide : 16 + 2 ≤ _)⟩)
  dsimp only [Pt.U, Pt.locs, Pt.cells, Pt.slots] at X3 l3 y3 z3 st3 hQ3
  subst l3 y3 z3
  obtain ⟨ya, kk1, rfl, Nq3, Kq3, le_ya, g_ya, By_ya⟩ := hQ3
  have ne_s1_ya : s1 ≠ ya := Nat.ne_of_lt (Nat.lt_of_lt_of_le S1.1.lt le_ya)
  have ne_b1_ya : b1 ≠ ya := Nat.ne_of_lt (Nat.lt_of_lt_of_le By_b1.2.lt le_ya)
  have ne_s2_ya : s2 ≠ ya := Nat.ne_of_lt (Nat.lt_of_lt_of_le S2.1.lt le_ya)
  have ne_b2_ya : b2 ≠ ya := Nat.ne_of_lt (Nat.lt_of_lt_of_le By_b2.2.lt le_ya)
  replace N0 := Fr.app N0 Nq3
  replace hk : _ ≤ T3.heap.size := Nat.le_trans hk Kq3.1
  replace S1 := S1.keep Kq3 nin0
  replace By_b1 := By_b1.keep Kq3 nin0
  replace S2 := S2.keep Kq3 nin0
  replace By_b2 := By_b2.keep Kq3 nin0
  replace O := O.keep Kq3 all0
  refine Out.via (g' := (mkF m 78 #[vI p0, vI p1, vI p2, vI c0, vI c1, vI k0, vI k1, vI tw, vI len, vR s1, vR s2, vU, vU, vU, vU, vU, vU, vU, vU, vU, vU, vU] [(.ref ya)])) st3 ?_
  refine Out.via (g' := (mkF m 80 #[vI p0, vI p1, vI p2, vI c0, vI c1, vI k0, vI k1, vI tw, vI len, vR s1, vR s2, vR ya, vU, vU, vU, vU, vU, vU, vU, vU, vU, vU] [])) (fun _ k => XS.astore X3.here hx rfl (hb hby at_78) rfl rfl (l' := #[.val (.int p0), .val (.int p1), .val (.int p2), .val (.int c0), .val (.int c1), .val (.int k0), .val (.int k1), .val (.int tw), .val (.int len), .val (.ref s1), .val (.ref s2), .val (.ref ya), .unset, .unset, .unset, .unset, .unset, .unset, .unset, .unset, .unset, .unset]) rfl k) ?_
  refine Out.via (g' := (mkF m 82 #[vI p0, vI p1, vI p2, vI c0, vI c1, vI k0, vI k1, vI tw, vI len, vR s1, vR s2, vR ya, vU, vU, vU, vU, vU, vU, vU, vU, vU, vU] [(.int len)])) (fun _ k => XS.iload X3.here hx rfl (hb hby at_80) rfl k) ?_
  refine Out.via (g' := (mkF m 84 #[vI p0, vI p1, vI p2, vI c0, vI c1, vI k0, vI k1, vI tw, vI len, vR s1, vR s2, vR ya, vU, vU, vU, vU, vU, vU, vU, vU, vU, vU] [(.int k0), (.int len)])) (fun _ k => XS.iload X3.here hx rfl (hb hby at_82) rfl k) ?_
  refine Out.via (g' := (mkF m 86 #[vI p0, vI p1, vI p2, vI c0, vI c1, vI k0, vI k1, vI tw, vI len, vR s1, vR s2, vR ya, vU, vU, vU, vU, vU, vU, vU, vU, vU, vU] [(.int k1), (.int k0), (.int len)])) (fun _ k => XS.iload X3.here hx rfl (hb hby at_84) rfl k) ?_
  obtain ⟨_, _, ⟨T4, L4, kc4, ks4⟩, -, X4, ⟨Lc4, hQ4, l4, y4, z4⟩, st4⟩ := Jvm.LawKit.callS X3 hx (y := own_y14) hown (mvT hZ (W_ hw 34 rfl)) (mvT hZ (W_ hw 35 rfl)) (mvT hZ (W_ hw 2 rfl)) (mvT hZ (W_ hw 36 rfl)) (by decide) (backOf (W := 0) (own_rmKY l Z a0 hw [] len k0 k1 ks T3.heap n0 O hl q0 q1) hZ (W_ hw 36 rfl) (W_ hw 2 rfl) (by decide) (by decide)) (g := (mkF m 86 #[vI p0, vI p1, vI p2, vI c0, vI c1, vI k0, vI k1, vI tw, vI len, vR s1, vR s2, vR ya, vU, vU, vU, vU, vU, vU, vU, vU, vU, vU] [(.int k1), (.int k0), (.int len)])) rfl (by rw [hml]; rfl) (argsL := [(.int len), (.int k0), (.int k1)]) (rest := []) (lenOf own_pd33 rfl) rfl (by show 2 * 0 + _ ≤ _; exact Nat.le_of_eq rfl) (hb hby at_86) (fun _ _ => ⟨rfl, rfl, (by decide : 7 + 1 ≤ _), (by decide : 18 + 2 ≤ _)⟩)
  dsimp only [Pt.U, Pt.locs, Pt.cells, Pt.slots] at X4 l4 y4 z4 st4 hQ4
  subst l4 y4 z4
  obtain ⟨yb, kk2, rfl, Nq4, Kq4, le_yb, g_yb, By_yb⟩ := hQ4
  have ne_s1_yb : s1 ≠ yb := Nat.ne_of_lt (Nat.lt_of_lt_of_le S1.1.lt le_yb)
  have ne_b1_yb : b1 ≠ yb := Nat.ne_of_lt (Nat.lt_of_lt_of_le By_b1.2.lt le_yb)
  have ne_s2_yb : s2 ≠ yb := Nat.ne_of_lt (Nat.lt_of_lt_of_le S2.1.lt le_yb)
  have ne_b2_yb : b2 ≠ yb := Nat.ne_of_lt (Nat.lt_of_lt_of_le By_b2.2.lt le_yb)
  have ne_ya_yb : ya ≠ yb := Nat.ne_of_lt (Nat.lt_of_lt_of_le By_ya.2.lt le_yb)
  replace N0 := Fr.app N0 Nq4
  replace hk : _ ≤ T4.heap.size := Nat.le_trans hk Kq4.1
  replace S1 := S1.keep Kq4 nin0
  replace By_b1 := By_b1.keep Kq4 nin0
  replace S2 := S2.keep Kq4 nin0
  replace By_b2 := By_b2.keep Kq4 nin0
  replace By_ya := By_ya.keep Kq4 nin0
  replace O := O.keep Kq4 all0
  refine Out.via (g' := (mkF m 89 #[vI p0, vI p1, vI p2, vI c0, vI c1, vI k0, vI k1, vI tw, vI len, vR s1, vR s2, vR ya, vU, vU, vU, vU, vU, vU, vU, vU, vU, vU] [(.ref yb)])) st4 ?_
  refine Out.via (g' := (mkF m 91 #[vI p0, vI p1, vI p2, vI c0, vI c1, vI k0, vI k1, vI tw, vI len, vR s1, vR s2, vR ya, vR yb, vU, vU, vU, vU, vU, vU, vU, vU, vU] [])) (fun _ k => XS.astore X4.here hx rfl (hb hby at_89) rfl rfl (l' := #[.val (.int p0), .val (.int p1), .val (.int p2), .val (.int c0), .val (.int c1), .val (.int k0), .val (.int k1), .val (.int tw), .val (.int len), .val (.ref s1), .val (.ref s2), .val (.ref ya), .val (.ref yb), .unset, .unset, .unset, .unset, .unset, .unset, .unset, .unset, .unset]) rfl k) ?_
  obtain ⟨T5, h5, X5, e5, E5, A5, D5, -, st5⟩ := newO X4 hx hZ hown (W_ hw 37 rfl) (W_ hw 38 rfl) (W_ hw 39 rfl) rfl (g := (mkF m 91 #[vI p0, vI p1, vI p2, vI c0, vI c1, vI k0, vI k1, vI tw, vI len, vR s1, vR s2, vR ya, vR yb, vU, vU, vU, vU, vU, vU, vU, vU, vU] [])) rfl (hb hby at_91) (by decide) (by decide)
  obtain ⟨a1, gq5⟩ : ∃ z, z = T4.heap.size := ⟨_, rfl⟩
  rw [← gq5] at A5 D5 st5
  have ne_s1_a1 : s1 ≠ a1 := Nat.ne_of_lt (Nat.lt_of_lt_of_le S1.1.lt (Nat.le_of_eq gq5.symm))
  have ne_b1_a1 : b1 ≠ a1 := Nat.ne_of_lt (Nat.lt_of_lt_of_le By_b1.2.lt (Nat.le_of_eq gq5.symm))
  have ne_s2_a1 : s2 ≠ a1 := Nat.ne_of_lt (Nat.lt_of_lt_of_le S2.1.lt (Nat.le_of_eq gq5.symm))
  have ne_b2_a1 : b2 ≠ a1 := Nat.ne_of_lt (Nat.lt_of_lt_of_le By_b2.2.lt (Nat.le_of_eq gq5.symm))
  have ne_ya_a1 : ya ≠ a1 := Nat.ne_of_lt (Nat.lt_of_lt_of_le By_ya.2.lt (Nat.le_of_eq gq5.symm))
  have ne_yb_a1 : yb ≠ a1 := Nat.ne_of_lt (Nat.lt_of_lt_of_le By_yb.2.lt (Nat.le_of_eq gq5.symm))
  have g_a1 : n0 ≤ a1 := Nat.le_trans (own_z0 O) (Nat.le_of_eq gq5.symm)
  replace S1 := S1.ext E5
  replace By_b1 := By_b1.ext E5
  replace S2 := S2.ext E5
  replace By_b2 := By_b2.ext E5
  replace By_ya := By_ya.ext E5
  replace By_yb := By_yb.ext E5
  replace O := O.ext E5
  replace hk := Nat.le_trans hk E5.1
  have F_resource_a1 : Fld Z h5 a1 "com/example/commitwright/commitwright/core/Branch" "resource" "Ljava/lang/String;" .null := D5 (Or.inr (W_ hw 100 rfl)) (ty := (.object "java/lang/String")) (by decide)
  have F_key_a1 : Fld Z h5 a1 "com/example/commitwright/commitwright/core/Branch" "key" "[B" .null := D5 (Or.inr (W_ hw 102 rfl)) (ty := (.array .byte)) (by decide)
  refine Out.via (g' := (mkF m 94 #[vI p0, vI p1, vI p2, vI c0, vI c1, vI k0, vI k1, vI tw, vI len, vR s1, vR s2, vR ya, vR yb, vU, vU, vU, vU, vU, vU, vU, vU, vU] [(.ref a1)])) st5 ?_
  refine Out.via (g' := (mkF m 95 #[vI p0, vI p1, vI p2, vI c0, vI c1, vI k0, vI k1, vI tw, vI len, vR s1, vR s2, vR ya, vR yb, vU, vU, vU, vU, vU, vU, vU, vU, vU] [(.ref a1), (.ref a1)])) (fun _ k => XS.dup X5.here hx rfl (hb hby at_94) rfl rfl k) ?_
  refine Out.via (g' := (mkF m 97 #[vI p0, vI p1, vI p2, vI c0, vI c1, vI k0, vI k1, vI tw, vI len, vR s1, vR s2, vR ya, vR yb, vU, vU, vU, vU, vU, vU, vU, vU, vU] [(.ref s1), (.ref a1), (.ref a1)])) (fun _ k => XS.aload X5.here hx rfl (hb hby at_95) rfl rfl k) ?_
  refine Out.via (g' := (mkF m 99 #[vI p0, vI p1, vI p2, vI c0, vI c1, vI k0, vI k1, vI tw, vI len, vR s1, vR s2, vR ya, vR yb, vU, vU, vU, vU, vU, vU, vU, vU, vU] [(.ref ya), (.ref s1), (.ref a1), (.ref a1)])) (fun _ k => XS.aload X5.here hx rfl (hb hby at_97) rfl rfl k) ?_
  obtain ⟨_, _, ⟨T6, L6, kc6, ks6⟩, -, X6, hS6, hg6, ⟨Lc6, hQ6, l6, y6, z6⟩, st6⟩ := X5.specialBackS hx (y := own_y26) rfl hown (mvT hZ (W_ hw 40 rfl)) (mvT hZ (W_ hw 41 rfl)) (mvT hZ (W_ hw 42 rfl)) (by decide) (backOfS (W := 1) (own_rmBI l Z a0 hw [] a1 s1 ya u8 b1 kb1 kk1 xs ks x0 x1 k0 k1 G1 h5 n0 O hxs hks g_a1 A5 F_resource_a1 F_key_a1 S1.1 S1.2.1 S1.2.2.1 By_b1 By_ya O2 P5 V_u V_c) hZ (W_ hw 42 rfl) (W_ hw 39 rfl) (by decide) (by decide)) (g := (mkF m 99 #[vI p0, vI p1, vI p2, vI c0, vI c1, vI k0, vI k1, vI tw, vI len, vR s1, vR s2, vR ya, vR yb, vU, vU, vU, vU, vU, vU, vU, vU, vU] [(.ref ya), (.ref s1), (.ref a1), (.ref a1)])) rfl (by rw [hml]; rfl) (Steps.refl _) (a := a1) (argsL := [(.ref s1), (.ref ya)]) (rest := [(.ref a1)]) (lenOf own_pd34 rfl) rfl (by show 2 * 0 + _ ≤ _; exact Nat.le_of_eq rfl) (hb hby at_99) (fun _ _ => ⟨rfl, e5, (by decide : 9 + 7 ≤ _), (by decide : 22 + 61 ≤ _)⟩)
  dsimp only [Pt.U, Pt.locs, Pt.cells, Pt.slots] at X6 l6 y6 z6 st6 hQ6 hS6 hg6
  subst l6 y6 z6
  rw [e5] at hg6
  obtain ⟨X6, hS, hZ, hown⟩ := rebS hS hk X6 hS6 hg6 hZ hown
  replace hk := Nat.le_refl T6.heap.size
  obtain ⟨rfl, Nq6, Kq6, Ea1, Fr1, t1, Ft1, le_t1, g_t1, By_t1⟩ := hQ6
  replace N0 := Fr.app N0 Nq6
  have ne_a1_t1 : a1 ≠ t1 := Nat.ne_of_lt (Nat.lt_of_lt_of_le A5.lt le_t1)
  have ne_s1_t1 : s1 ≠ t1 := Nat.ne_of_lt (Nat.lt_of_lt_of_le S1.1.lt le_t1)
  have ne_b1_t1 : b1 ≠ t1 := Nat.ne_of_lt (Nat.lt_of_lt_of_le By_b1.2.lt le_t1)
  have ne_s2_t1 : s2 ≠ t1 := Nat.ne_of_lt (Nat.lt_of_lt_of_le S2.1.lt le_t1)
  have ne_b2_t1 : b2 ≠ t1 := Nat.ne_of_lt (Nat.lt_of_lt_of_le By_b2.2.lt le_t1)
  have ne_ya_t1 : ya ≠ t1 := Nat.ne_of_lt (Nat.lt_of_lt_of_le By_ya.2.lt le_t1)
  have ne_yb_t1 : yb ≠ t1 := Nat.ne_of_lt (Nat.lt_of_lt_of_le By_yb.2.lt le_t1)
  replace S1 := S1.keep Kq6 (ninS ne_s1_a1 nin0)
  replace By_b1 := By_b1.keep Kq6 (ninS ne_b1_a1 nin0)
  replace S2 := S2.keep Kq6 (ninS ne_s2_a1 nin0)
  replace By_b2 := By_b2.keep Kq6 (ninS ne_b2_a1 nin0)
  replace By_ya := By_ya.keep Kq6 (ninS ne_ya_a1 nin0)
  replace By_yb := By_yb.keep Kq6 (ninS ne_yb_a1 nin0)
  replace A5 := A5.keep Kq6
  replace O := O.keep Kq6 (allS g_a1 all0)
  refine Out.to (g' := (mkF m 102 #[vI p0, vI p1, vI p2, vI c0, vI c1, vI k0, vI k1, vI tw, vI len, vR s1, vR s2, vR ya, vR yb, vU, vU, vU, vU, vU, vU, vU, vU, vU] [(.ref a1)])) st6 ?_
  refine Out.via (g' := (mkF m 104 #[vI p0, vI p1, vI p2, vI c0, vI c1, vI k0, vI k1, vI tw, vI len, vR s1, vR s2, vR ya, vR yb, vR a1, vU, vU, vU, vU, vU, vU, vU, vU] [])) (fun _ k => XS.astore X6.here hx rfl (hb hby at_102) rfl rfl (l' := #[.val (.int p0), .val (.int p1), .val (.int p2), .val (.int c0), .val (.int c1), .val (.int k0), .val (.int k1), .val (.int tw), .val (.int len), .val (.ref s1), .val (.ref s2), .val (.ref ya), .val (.ref yb), .val (.ref a1), .unset, .unset, .unset, .unset, .unset, .unset, .unset, .unset]) rfl k) ?_
  obtain ⟨T7, h7, X7, e7, E7, A7, D7, -, st7⟩ := newO X6 hx hZ hown (W_ hw 37 rfl) (W_ hw 38 rfl) (W_ hw 39 rfl) rfl (g := (mkF m 104 #[vI p0, vI p1, vI p2, vI c0, vI c1, vI k0, vI k1, vI tw, vI len, vR s1, vR s2, vR ya, vR yb, vR a1, vU, vU, vU, vU, vU, vU, vU, vU] [])) rfl (hb hby at_104) (by decide) (by decide)
  obtain ⟨a2, gq7⟩ : ∃ z, z = T6.heap.size := ⟨_, rfl⟩
  rw [← gq7] at A7 D7 st7
  have ne_a1_a2 : a1 ≠ a2 := Nat.ne_of_lt (Nat.lt_of_lt_of_le Ea1.lt (Nat.le_of_eq gq7.symm))
  have ne_s1_a2 : s1 ≠ a2 := Nat.ne_of_lt (Nat.lt_of_lt_of_le S1.1.lt (Nat.le_of_eq gq7.symm))
  have ne_b1_a2 : b1 ≠ a2 := Nat.ne_of_lt (Nat.lt_of_lt_of_le By_b1.2.lt (Nat.le_of_eq gq7.symm))
  have ne_s2_a2 : s2 ≠ a2 := Nat.ne_of_lt (Nat.lt_of_lt_of_le S2.1.lt (Nat.le_of_eq gq7.symm))
  have ne_b2_a2 : b2 ≠ a2 := Nat.ne_of_lt (Nat.lt_of_lt_of_le By_b2.2.lt (Nat.le_of_eq gq7.symm))
  have ne_ya_a2 : ya ≠ a2 := Nat.ne_of_lt (Nat.lt_of_lt_of_le By_ya.2.lt (Nat.le_of_eq gq7.symm))
  have ne_yb_a2 : yb ≠ a2 := Nat.ne_of_lt (Nat.lt_of_lt_of_le By_yb.2.lt (Nat.le_of_eq gq7.symm))
  have ne_t1_a2 : t1 ≠ a2 := Nat.ne_of_lt (Nat.lt_of_lt_of_le By_t1.2.lt (Nat.le_of_eq gq7.symm))
  have g_a2 : n0 ≤ a2 := Nat.le_trans (own_z0 O) (Nat.le_of_eq gq7.symm)
  replace Fr1 := Fr1.ext E7
  replace Ft1 := Ft1.ext E7
  replace Ea1 := Ea1.ext E7
  replace S1 := S1.ext E7
  replace By_b1 := By_b1.ext E7
  replace S2 := S2.ext E7
  replace By_b2 := By_b2.ext E7
  replace By_ya := By_ya.ext E7
  replace By_yb := By_yb.ext E7
  replace By_t1 := By_t1.ext E7
  replace O := O.ext E7
  replace hk := Nat.le_trans hk E7.1
  have F_resource_a2 : Fld Z h7 a2 "com/example/commitwright/commitwright/core/Branch" "resource" "Ljava/lang/String;" .null := D7 (Or.inr (W_ hw 100 rfl)) (ty := (.object "java/lang/String")) (by decide)
  have F_key_a2 : Fld Z h7 a2 "com/example/commitwright/commitwright/core/Branch" "key" "[B" .null := D7 (Or.inr (W_ hw 102 rfl)) (ty := (.array .byte)) (by decide)
  refine Out.via (g' := (mkF m 107 #[vI p0, vI p1, vI p2, vI c0, vI c1, vI k0, vI k1, vI tw, vI len, vR s1, vR s2, vR ya, vR yb, vR a1, vU, vU, vU, vU, vU, vU, vU, vU] [(.ref a2)])) st7 ?_
  refine Out.via (g' := (mkF m 108 #[vI p0, vI p1, vI p2, vI c0, vI c1, vI k0, vI k1, vI tw, vI len, vR s1, vR s2, vR ya, vR yb, vR a1, vU, vU, vU, vU, vU, vU, vU, vU] [(.ref a2), (.ref a2)])) (fun _ k => XS.dup X7.here hx rfl (hb hby at_107) rfl rfl k) ?_
  refine Out.via (g' := (mkF m 110 #[vI p0, vI p1, vI p2, vI c0, vI c1, vI k0, vI k1, vI tw, vI len, vR s1, vR s2, vR ya, vR yb, vR a1, vU, vU, vU, vU, vU, vU, vU, vU] [(.ref s2), (.ref a2), (.ref a2)])) (fun _ k => XS.aload X7.here hx rfl (hb hby at_108) rfl rfl k) ?_
  refine Out.via (g' := (mkF m 112 #[vI p0, vI p1, vI p2, vI c0, vI c1, vI k0, vI k1, vI tw, vI len, vR s1, vR s2, vR ya, vR yb, vR a1, vU, vU, vU, vU, vU, vU, vU, vU] [(.ref yb), (.ref s2), (.ref a2), (.ref a2)])) (fun _ k => XS.aload X7.here hx rfl (hb hby at_110) rfl rfl k) ?_
  obtain ⟨_, _, ⟨T8, L8, kc8, ks8⟩, -, X8, hS8, hg8, ⟨Lc8, hQ8, l8, y8, z8⟩, st8⟩ := X7.specialBackS hx (y := own_y26) rfl hown (mvT hZ (W_ hw 40 rfl)) (mvT hZ (W_ hw 41 rfl)) (mvT hZ (W_ hw 42 rfl)) (by decide) (backOfS (W := 1) (own_rmBI l Z a0 hw [] a2 s2 yb u8 b2 kb2 kk2 xs ks x0 x1 k0 k1 G1 h7 n0 O hxs hks g_a2 A7 F_resource_a2 F_key_a2 S2.1 S2.2.1 S2.2.2.1 By_b2 By_yb O2 P5 V_u V_c) hZ (W_ hw 42 rfl) (W_ hw 39 rfl) (by decide) (by decide)) (g := (mkF m 112 #[vI p0, vI p1, vI p2, vI c0, vI c1, vI k0, vI k1, vI tw, vI len, vR s1, vR s2, vR ya, vR yb, vR a1, vU, vU, vU, vU, vU, vU, vU, vU] [(.ref yb), (.ref s2), (.ref a2), (.ref a2)])) rfl (by rw [hml]; rfl) (Steps.refl _) (a := a2) (argsL := [(.ref s2), (.ref yb)]) (rest := [(.ref a2)]) (lenOf own_pd34 rfl) rfl (by show 2 * 0 + _ ≤ _; exact Nat.le_of_eq rfl) (hb hby at_112) (fun _ _ => ⟨rfl, e7, (by decide : 17 + 7 ≤ _), (by decide : 85 + 61 ≤ _)⟩)
  dsimp only [Pt.U, Pt.locs, Pt.cells, Pt.slots] at X8 l8 y8 z8 st8 hQ8 hS8 hg8
  subst l8 y8 z8
  rw [e7] at hg8
  obtain ⟨X8, hS, hZ, hown⟩ := rebS hS hk X8 hS8 hg8 hZ hown
  replace hk := Nat.le_refl T8.heap.size
  obtain ⟨rfl, Nq8, Kq8, Ea2, Fr2, t2, Ft2, le_t2, g_t2, By_t2⟩ := hQ8
  replace N0 := Fr.app N0 Nq8
  have ne_a1_t2 : a1 ≠ t2 := Nat.ne_of_lt (Nat.lt_of_lt_of_le Ea1.lt le_t2)
  have ne_a2_t2 : a2 ≠ t2 := Nat.ne_of_lt (Nat.lt_of_lt_of_le A7.lt le_t2)
  have ne_s1_t2 : s1 ≠ t2 := Nat.ne_of_lt (Nat.lt_of_lt_of_le S1.1.lt le_t2)
  have ne_b1_t2 : b1 ≠ t2 := Nat.ne_of_lt (Nat.lt_of_lt_of_le By_b1.2.lt le_t2)
  have ne_s2_t2 : s2 ≠ t2 := Nat.ne_of_lt (Nat.lt_of_lt_of_le S2.1.lt le_t2)
  have ne_b2_t2 : b2 ≠ t2 := Nat.ne_of_lt (Nat.lt_of_lt_of_le By_b2.2.lt le_t2)
  have ne_ya_t2 : ya ≠ t2 := Nat.ne_of_lt (Nat.lt_of_lt_of_le By_ya.2.lt le_t2)
  have ne_yb_t2 : yb ≠ t2 := Nat.ne_of_lt (Nat.lt_of_lt_of_le By_yb.2.lt le_t2)
  have ne_t1_t2 : t1 ≠ t2 := Nat.ne_of_lt (Nat.lt_of_lt_of_le By_t1.2.lt le_t2)
  replace S1 := S1.keep Kq8 (ninS ne_s1_a2 nin0)
  replace By_b1 := By_b1.keep Kq8 (ninS ne_b1_a2 nin0)
  replace S2 := S2.keep Kq8 (ninS ne_s2_a2 nin0)
  replace By_b2 := By_b2.keep Kq8 (ninS ne_b2_a2 nin0)
  replace By_ya := By_ya.keep Kq8 (ninS ne_ya_a2 nin0)
  replace By_yb := By_yb.keep Kq8 (ninS ne_yb_a2 nin0)
  replace By_t1 := By_t1.keep Kq8 (ninS ne_t1_a2 nin0)
  replace Fr1 := Fr1.keep Kq8 (ninS ne_a1_a2 nin0)
  replace Ft1 := Ft1.keep Kq8 (ninS ne_a1_a2 nin0)
  replace Ea1 := Ea1.keep Kq8
  replace A7 := A7.keep Kq8
  replace O := O.keep Kq8 (allS g_a2 all0)
  refine Out.to (g' := (mkF m 115 #[vI p0, vI p1, vI p2, vI c0, vI c1, vI k0, vI k1, vI tw, vI len, vR s1, vR s2, vR ya, vR yb, vR a1, vU, vU, vU, vU, vU, vU, vU, vU] [(.ref a2)])) st8 ?_
  refine Out.via (g' := (mkF m 117 #[vI p0, vI p1, vI p2, vI c0, vI c1, vI k0, vI k1, vI tw, vI len, vR s1, vR s2, vR ya, vR yb, vR a1, vR a2, vU, vU, vU, vU, vU, vU, vU] [])) (fun _ k => XS.astore X8.here hx rfl (hb hby at_115) rfl rfl (l' := #[.val (.int p0), .val (.int p1), .val (.int p2), .val (.int c0), .val (.int c1), .val (.int k0), .val (.int k1), .val (.int tw), .val (.int len), .val (.ref s1), .val (.ref s2), .val (.ref ya), .val (.ref yb), .val (.ref a1), .val (.ref a2), .unset, .unset, .unset, .unset, .unset, .unset, .unset]) rfl k) ?_
  refine Out.via (g' := (mkF m 119 #[vI p0, vI p1, vI p2, vI c0, vI c1, vI k0, vI k1, vI tw, vI len, vR s1, vR s2, vR ya, vR yb, vR a1, vR a2, vU, vU, vU, vU, vU, vU, vU] [(.int len)])) (fun _ k => XS.iload X8.here hx rfl (hb hby at_117) rfl k) ?_
  suffices rest : ∀ (T' : State) (L' : List Loc) (sh kh : Int32), Stand p l e room_1 (s.setVm T8.vm) m #[(.int p0), (.int p1), (.int p2)] below meth c T' L' 24 146 → Fr n0 L' → Old Z n0 T'.heap → T8.heap.size ≤ T'.heap.size → own_S Z T'.heap s1 b1 (own_H xs) → own_By Z T'.heap b1 kb1 xs → own_By Z T'.heap t1 kk1 ks → Exa Z T'.heap a1 "com/example/commitwright/commitwright/core/Branch" → Fld Z T'.heap a1 "com/example/commitwright/commitwright/core/Branch" "resource" "Ljava/lang/String;" (.ref s1) → Fld Z T'.heap a1 "com/example/commitwright/commitwright/core/Branch" "key" "[B" (.ref t1) → own_S Z T'.heap s2 b2 (own_H xs) → own_By Z T'.heap b2 kb2 xs → own_By Z T'.heap t2 kk2 ks → Exa Z T'.heap a2 "com/example/commitwright/commitwright/core/Branch" → Fld Z T'.heap a2 "com/example/commitwright/commitwright/core/Branch" "resource" "Ljava/lang/String;" (.ref s2) → Fld Z T'.heap a2 "com/example/commitwright/commitwright/core/Branch" "key" "[B" (.ref t2) → (own_V xs ks = (((31 : Int32) * sh) + kh)) → RoadKit.Out p.tables e below (EndW s below (fun v h L => v = some (.int (1 : Int32)) ∧ Fr n0 L) room_1.cells room_1.slots) T' (mkF m 194 #[vI p0, vI p1, vI p2, vI c0, vI c1, vI k0, vI k1, vI tw, vI len, vR s1, vR s2, vR ya, vR yb, vR a1, vR a2, vI sh, vI kh, vU, vU, vU, vU, vU] []) by
    rcases hl with ⟨rfl, rfl⟩ | ⟨rfl, rfl⟩ | ⟨rfl, rfl⟩
    · refine Out.via (g' := (mkF m 133 #[vI p0, vI p1, vI p2, vI c0, vI c1, vI k0, vI k1, vI tw, vI 0, vR s1, vR s2, vR ya, vR yb, vR a1, vR a2, vU, vU, vU, vU, vU, vU, vU] [])) (fun _ k => XS.ifYes X8.here hx rfl (pc0 := 119) (pc' := 133) rfl (hb hby at_119) rfl ((if0 _ _).trans (flt (by decide)).2.2.2) (by decide) (by decide) k) ?_
      refine Out.via (g' := (mkF m 135 #[vI p0, vI p1, vI p2, vI c0, vI c1, vI k0, vI k1, vI tw, vI 0, vR s1, vR s2, vR ya, vR yb, vR a1, vR a2, vU, vU, vU, vU, vU, vU, vU] [(.int tw)])) (fun _ k => XS.iload X8.here hx rfl (hb hby at_133) rfl k) ?_
      rcases ht with ⟨rfl, rfl⟩ | ⟨rfl, rfl⟩
      · obtain rfl : cs = [c0] := by rcases hcs with ⟨h1, h2⟩ | ⟨h1, h2⟩ <;> first | exact h2 | exact absurd h1 (by decide)
        refine Out.via (g' := (mkF m 150 #[vI p0, vI p1, vI p2, vI c0, vI c1, vI k0, vI k1, vI 0, vI 0, vR s1, vR s2, vR ya, vR yb, vR a1, vR a2, vU, vU, vU, vU, vU, vU, vU] [])) (fun _ k => XS.ifYes X8.here hx rfl (pc0 := 135) (pc' := 150) rfl (hb hby at_135) rfl ((if0 _ _).trans (teq rfl).1) (by decide) (by decide) k) ?_
        refine Out.via (g' := (mkF m 151 #[vI p0, vI p1, vI p2, vI c0, vI c1, vI k0, vI k1, vI 0, vI 0, vR s1, vR s2, vR ya, vR yb, vR a1, vR a2, vU, vU, vU, vU, vU, vU, vU] [(.int c0)])) (fun _ k => XS.iloadN X8.here hx rfl (hb hby at_150) rfl k) ?_
        refine Out.via (g' := (mkF m 153 #[vI p0, vI p1, vI p2, vI c0, vI c1, vI k0, vI k1, vI 0, vI 0, vR s1, vR s2, vR ya, vR yb, vR a1, vR a2, vI c0, vU, vU, vU, vU, vU, vU] [])) (fun _ k => XS.istore X8.here hx rfl (hb hby at_151) rfl (l' := #[.val (.int p0), .val (.int p1), .val (.int p2), .val (.int c0), .val (.int c1), .val (.int k0), .val (.int k1), .val (.int (0 : Int32)), .val (.int (0 : Int32)), .val (.ref s1), .val (.ref s2), .val (.ref ya), .val (.ref yb), .val (.ref a1), .val (.ref a2), .val (.int c0), .unset, .unset, .unset, .unset, .unset, .unset]) rfl k) ?_
        refine Out.via (g' := (mkF m 155 #[vI p0, vI p1, vI p2, vI c0, vI c1, vI k0, vI k1, vI 0, vI 0, vR s1, vR s2, vR ya, vR yb, vR a1, vR a2, vI c0, vU, vU, vU, vU, vU, vU] [(.int (0 : Int32))])) (fun _ k => XS.iload X8.here hx rfl (hb hby at_153) rfl k) ?_
        refine Out.via (g' := (mkF m 158 #[vI p0, vI p1, vI p2, vI c0, vI c1, vI k0, vI k1, vI 0, vI 0, vR s1, vR s2, vR ya, vR yb, vR a1, vR a2, vI c0, vU, vU, vU, vU, vU, vU] [])) (fun _ k => XS.ifNo X8.here hx rfl (hb hby at_155) rfl ((if0 _ _).trans (teq rfl).2) k) ?_
        refine Out.via (g' := (mkF m 159 #[vI p0, vI p1, vI p2, vI c0, vI c1, vI k0, vI k1, vI 0, vI 0, vR s1, vR s2, vR ya, vR yb, vR a1, vR a2, vI c0, vU, vU, vU, vU, vU, vU] [(.int (1 : Int32))])) (fun _ k => XS.iconst X8.here hx rfl (hb hby at_158) k) ?_
        refine Out.via (g' := (mkF m 161 #[vI p0, vI p1, vI p2, vI c0, vI c1, vI k0, vI k1, vI 0, vI 0, vR s1, vR s2, vR ya, vR yb, vR a1, vR a2, vI c0, vI 1, vU, vU, vU, vU, vU] [])) (fun _ k => XS.istore X8.here hx rfl (hb hby at_159) rfl (l' := #[.val (.int p0), .val (.int p1), .val (.int p2), .val (.int c0), .val (.int c1), .val (.int k0), .val (.int k1), .val (.int (0 : Int32)), .val (.int (0 : Int32)), .val (.ref s1), .val (.ref s2), .val (.ref ya), .val (.ref yb), .val (.ref a1), .val (.ref a2), .val (.int c0), .val (.int (1 : Int32)), .unset, .unset, .unset, .unset, .unset]) rfl k) ?_
        refine Out.via (g' := (mkF m 194 #[vI p0, vI p1, vI p2, vI c0, vI c1, vI k0, vI k1, vI 0, vI 0, vR s1, vR s2, vR ya, vR yb, vR a1, vR a2, vI c0, vI 1, vU, vU, vU, vU, vU] [])) (fun _ k => XS.goto X8.here hx rfl (pc0 := 161) (pc' := 194) rfl (hb hby at_161) (by decide) (by decide) k) ?_
        exact rest _ _ _ _ X8 N0 O hk S1 By_b1 By_t1 Ea1 Fr1 Ft1 S2 By_b2 By_t2 Ea2 Fr2 Ft2 (own_exp10 (k0 := k0) (k1 := k1) hc0 hc1 hx0 hx1)
      · obtain rfl : cs = [c0, c1] := by rcases hcs with ⟨h1, h2⟩ | ⟨h1, h2⟩ <;> first | exact h2 | exact absurd h1 (by decide)
        refine Out.via (g' := (mkF m 138 #[vI p0, vI p1, vI p2, vI c0, vI c1, vI k0, vI k1, vI 1, vI 0, vR s1, vR s2, vR ya, vR yb, vR a1, vR a2, vU, vU, vU, vU, vU, vU, vU] [])) (fun _ k => XS.ifNo X8.here hx rfl (hb hby at_135) rfl ((if0 _ _).trans (feq (by decide)).1) k) ?_
        refine Out.via (g' := (mkF m 140 #[vI p0, vI p1, vI p2, vI c0, vI c1, vI k0, vI k1, vI 1, vI 0, vR s1, vR s2, vR ya, vR yb, vR a1, vR a2, vU, vU, vU, vU, vU, vU, vU] [(.int (31 : Int32))])) (fun _ k => XS.bipush X8.here hx rfl (hb hby at_138) k) ?_
        refine Out.via (g' := (mkF m 141 #[vI p0, vI p1, vI p2, vI c0, vI c1, vI k0, vI k1, vI 1, vI 0, vR s1, vR s2, vR ya, vR yb, vR a1, vR a2, vU, vU, vU, vU, vU, vU, vU] [(.int c0), (.int (31 : Int32))])) (fun _ k => XS.iloadN X8.here hx rfl (hb hby at_140) rfl k) ?_
        refine Out.via (g' := (mkF m 142 #[vI p0, vI p1, vI p2, vI c0, vI c1, vI k0, vI k1, vI 1, vI 0, vR s1, vR s2, vR ya, vR yb, vR a1, vR a2, vU, vU, vU, vU, vU, vU, vU] [(.int ((31 : Int32) * c0))])) (fun _ k => XS.imul X8.here hx rfl (hb hby at_141) rfl k) ?_
        refine Out.via (g' := (mkF m 144 #[vI p0, vI p1, vI p2, vI c0, vI c1, vI k0, vI k1, vI 1, vI 0, vR s1, vR s2, vR ya, vR yb, vR a1, vR a2, vU, vU, vU, vU, vU, vU, vU] [(.int c1), (.int ((31 : Int32) * c0))])) (fun _ k => XS.iload X8.here hx rfl (hb hby at_142) rfl k) ?_
        refine Out.via (g' := (mkF m 145 #[vI p0, vI p1, vI p2, vI c0, vI c1, vI k0, vI k1, vI 1, vI 0, vR s1, vR s2, vR ya, vR yb, vR a1, vR a2, vU, vU, vU, vU, vU, vU, vU] [(.int (((31 : Int32) * c0) + c1))])) (fun _ k => XS.iadd X8.here hx rfl (hb hby at_144) rfl k) ?_
        refine Out.via (g' := (mkF m 147 #[vI p0, vI p1, vI p2, vI c0, vI c1, vI k0, vI k1, vI 1, vI 0, vR s1, vR s2, vR ya, vR yb, vR a1, vR a2, .val (.int (((31 : Int32) * c0) + c1)), vU, vU, vU, vU, vU, vU] [])) (fun _ k => XS.istore X8.here hx rfl (hb hby at_145) rfl (l' := #[.val (.int p0), .val (.int p1), .val (.int p2), .val (.int c0), .val (.int c1), .val (.int k0), .val (.int k1), .val (.int (1 : Int32)), .val (.int (0 : Int32)), .val (.ref s1), .val (.ref s2), .val (.ref ya), .val (.ref yb), .val (.ref a1), .val (.ref a2), .val (.int (((31 : Int32) * c0) + c1)), .unset, .unset, .unset, .unset, .unset, .unset]) rfl k) ?_
        refine Out.via (g' := (mkF m 153 #[vI p0, vI p1, vI p2, vI c0, vI c1, vI k0, vI k1, vI 1, vI 0, vR s1, vR s2, vR ya, vR yb, vR a1, vR a2, .val (.int (((31 : Int32) * c0) + c1)), vU, vU, vU, vU, vU, vU] [])) (fun _ k => XS.goto X8.here hx rfl (pc0 := 147) (pc' := 153) rfl (hb hby at_147) (by decide) (by decide) k) ?_
        refine Out.via (g' := (mkF m 155 #[vI p0, vI p1, vI p2, vI c0, vI c1, vI k0, vI k1, vI 1, vI 0, vR s1, vR s2, vR ya, vR yb, vR a1, vR a2, .val (.int (((31 : Int32) * c0) + c1)), vU, vU, vU, vU, vU, vU] [(.int (0 : Int32))])) (fun _ k => XS.iload X8.here hx rfl (hb hby at_153) rfl k) ?_
        refine Out.via (g' := (mkF m 158 #[vI p0, vI p1, vI p2, vI c0, vI c1, vI k0, vI k1, vI 1, vI 0, vR s1, vR s2, vR ya, vR yb, vR a1, vR a2, .val (.int (((31 : Int32) * c0) + c1)), vU, vU, vU, vU, vU, vU] [])) (fun _ k => XS.ifNo X8.here hx rfl (hb hby at_155) rfl ((if0 _ _).trans (teq rfl).2) k) ?_
        refine Out.via (g' := (mkF m 159 #[vI p0, vI p1, vI p2, vI c0, vI c1, vI k0, vI k1, vI 1, vI 0, vR s1, vR s2, vR ya, vR yb, vR a1, vR a2, .val (.int (((31 : Int32) * c0) + c1)), vU, vU, vU, vU, vU, vU] [(.int (1 : Int32))])) (fun _ k => XS.iconst X8.here hx rfl (hb hby at_158) k) ?_
        refine Out.via (g' := (mkF m 161 #[vI p0, vI p1, vI p2, vI c0, vI c1, vI k0, vI k1, vI 1, vI 0, vR s1, vR s2, vR ya, vR yb, vR a1, vR a2, .val (.int (((31 : Int32) * c0) + c1)), vI 1, vU, vU, vU, vU, vU] [])) (fun _ k => XS.istore X8.here hx rfl (hb hby at_159) rfl (l' := #[.val (.int p0), .val (.int p1), .val (.int p2), .val (.int c0), .val (.int c1), .val (.int k0), .val (.int k1), .val (.int (1 : Int32)), .val (.int (0 : Int32)), .val (.ref s1), .val (.ref s2), .val (.ref ya), .val (.ref yb), .val (.ref a1), .val (.ref a2), .val (.int (((31 : Int32) * c0) + c1)), .val (.int (1 : Int32)), .unset, .unset, .unset, .unset, .unset]) rfl k) ?_
        refine Out.via (g' := (mkF m 194 #[vI p0, vI p1, vI p2, vI c0, vI c1, vI k0, vI k1, vI 1, vI 0, vR s1, vR s2, vR ya, vR yb, vR a1, vR a2, .val (.int (((31 : Int32) * c0) + c1)), vI 1, vU, vU, vU, vU, vU] [])) (fun _ k => XS.goto X8.here hx rfl (pc0 := 161) (pc' := 194) rfl (hb hby at_161) (by decide) (by decide) k) ?_
        exact rest _ _ _ _ X8 N0 O hk S1 By_b1 By_t1 Ea1 Fr1 Ft1 S2 By_b2 By_t2 Ea2 Fr2 Ft2 (own_exp20 (k0 := k0) (k1 := k1) hc0 hc1 hx0 hx1)
    · refine Out.via (g' := (mkF m 122 #[vI p0, vI p1, vI p2, vI c0, vI c1, vI k0, vI k1, vI tw, vI 1, vR s1, vR s2, vR ya, vR yb, vR a1, vR a2, vU, vU, vU, vU, vU, vU, vU] [])) (fun _ k => XS.ifNo X8.here hx rfl (hb hby at_119) rfl ((if0 _ _).trans (tlt (by decide)).2.2.2) k) ?_
      refine Out.via (g' := (mkF m 124 #[vI p0, vI p1, vI p2, vI c0, vI c1, vI k0, vI k1, vI tw, vI 1, vR s1, vR s2, vR ya, vR yb, vR a1, vR a2, vU, vU, vU, vU, vU, vU, vU] [(.ref ya)])) (fun _ k => XS.aload X8.here hx rfl (hb hby at_122) rfl rfl k) ?_
      refine Out.via (g' := (mkF m 125 #[vI p0, vI p1, vI p2, vI c0, vI c1, vI k0, vI k1, vI tw, vI 1, vR s1, vR s2, vR ya, vR yb, vR a1, vR a2, vU, vU, vU, vU, vU, vU, vU] [(.int (0 : Int32)), (.ref ya)])) (fun _ k => XS.iconst X8.here hx rfl (hb hby at_124) k) ?_
      refine Out.via (g' := (mkF m 127 #[vI p0, vI p1, vI p2, vI c0, vI c1, vI k0, vI k1, vI tw, vI 1, vR s1, vR s2, vR ya, vR yb, vR a1, vR a2, vU, vU, vU, vU, vU, vU, vU] [(.ref ya), (.int (0 : Int32)), (.ref ya)])) (fun _ k => XS.aload X8.here hx rfl (hb hby at_125) rfl rfl k) ?_
      refine Out.via (g' := (mkF m 128 #[vI p0, vI p1, vI p2, vI c0, vI c1, vI k0, vI k1, vI tw, vI 1, vR s1, vR s2, vR ya, vR yb, vR a1, vR a2, vU, vU, vU, vU, vU, vU, vU] [(.int (0 : Int32)), (.ref ya), (.int (0 : Int32)), (.ref ya)])) (fun _ k => XS.iconst X8.here hx rfl (hb hby at_127) k) ?_
      have Aya : Arv Z T8.heap ya kk1 .byte (1 : Int32) [(.int k0)] (.int (0 : Int32)) := By_ya.1
      obtain ⟨cl_el, Ar_el, q_el, S_el, M_el, H_el, G_el⟩ := id Aya
      have hin_el : ¬ ((0 : Int32) < 0 ∨ cl_el.slots.size ≤ ((0 : Int32)).toNatClampNeg) := inb_of S_el ⟨by decide, by decide⟩
      refine Out.via (g' := (mkF m 129 #[vI p0, vI p1, vI p2, vI c0, vI c1, vI k0, vI k1, vI tw, vI 1, vR s1, vR s2, vR ya, vR yb, vR a1, vR a2, vU, vU, vU, vU, vU, vU, vU] [(.int k0), (.int (0 : Int32)), (.ref ya)])) (fun _ k => X8.baloadBytes hx (j := (0 : Int32)) (v := (.int k0)) Ar_el.1 (State.isArrayOf_alike hZ.alike Ar_el.2.1) Ar_el.2.2 hin_el (H_el.at hin_el rfl) (g := (mkF m 128 #[vI p0, vI p1, vI p2, vI c0, vI c1, vI k0, vI k1, vI tw, vI 1, vR s1, vR s2, vR ya, vR yb, vR a1, vR a2, vU, vU, vU, vU, vU, vU, vU] [(.int (0 : Int32)), (.ref ya), (.int (0 : Int32)), (.ref ya)])) rfl rfl (hb hby at_128) _ k) ?_
      refine Out.via (g' := (mkF m 130 #[vI p0, vI p1, vI p2, vI c0, vI c1, vI k0, vI k1, vI tw, vI 1, vR s1, vR s2, vR ya, vR yb, vR a1, vR a2, vU, vU, vU, vU, vU, vU, vU] [(.int (1 : Int32)), (.int k0), (.int (0 : Int32)), (.ref ya)])) (fun _ k => XS.iconst X8.here hx rfl (hb hby at_129) k) ?_
      refine Out.via (g' := (mkF m 131 #[vI p0, vI p1, vI p2, vI c0, vI c1, vI k0, vI k1, vI tw, vI 1, vR s1, vR s2, vR ya, vR yb, vR a1, vR a2, vU, vU, vU, vU, vU, vU, vU] [(.int (k0 + (1 : Int32))), (.int (0 : Int32)), (.ref ya)])) (fun _ k => XS.iadd X8.here hx rfl (hb hby at_130) rfl k) ?_
      refine Out.via (g' := (mkF m 132 #[vI p0, vI p1, vI p2, vI c0, vI c1, vI k0, vI k1, vI tw, vI 1, vR s1, vR s2, vR ya, vR yb, vR a1, vR a2, vU, vU, vU, vU, vU, vU, vU] [(.int ((k0 + (1 : Int32)).toInt8.toInt32)), (.int (0 : Int32)), (.ref ya)])) (fun _ k => XS.i2b X8.here hx rfl (hb hby at_131) rfl k) ?_
      obtain ⟨clz9, Arz9, qz9, Sz9, Mz9, Hz9, Gz9⟩ := Aya
      have hin9 : ¬ ((0 : Int32) < 0 ∨ clz9.slots.size ≤ ((0 : Int32)).toNatClampNeg) := inb_of Sz9 ⟨by decide, by decide⟩
      obtain ⟨T9, h9, X9, e9, W9, st9⟩ := stB X8 hx hZ rfl Arz9 (j := (0 : Int32)) hin9 (g := (mkF m 132 #[vI p0, vI p1, vI p2, vI c0, vI c1, vI k0, vI k1, vI tw, vI 1, vR s1, vR s2, vR ya, vR yb, vR a1, vR a2, vU, vU, vU, vU, vU, vU, vU] [(.int ((k0 + (1 : Int32)).toInt8.toInt32)), (.int (0 : Int32)), (.ref ya)])) rfl rfl (hb hby at_132)
      have Aya : Arv Z h9 ya kk1 .byte (1 : Int32) [(.int (nar .byte ((k0 + (1 : Int32)).toInt8.toInt32)))] (.int (0 : Int32)) := Arv.set Arz9 qz9 Sz9 Mz9 Hz9 Gz9 (fits_nar_byte _) W9 0 rfl (Nat.le_of_ble_eq_true rfl)
      replace S1 := S1.other W9 ne_s1_ya
      replace By_b1 := By_b1.other W9 ne_b1_ya
      replace S2 := S2.other W9 ne_s2_ya
      replace By_b2 := By_b2.other W9 ne_b2_ya
      replace By_yb := By_yb.other W9 (Ne.symm ne_ya_yb)
      replace By_t1 := By_t1.other W9 (Ne.symm ne_ya_t1)
      replace By_t2 := By_t2.other W9 (Ne.symm ne_ya_t2)
      replace hk : _ ≤ h9.size := Nat.le_trans hk (Keep.of_wr W9).1
      replace Fr1 := Fr1.other W9 (Or.inl (Ne.symm ne_ya_a1))
      replace Ft1 := Ft1.other W9 (Or.inl (Ne.symm ne_ya_a1))
      replace Fr2 := Fr2.other W9 (Or.inl (Ne.symm ne_ya_a2))
      replace Ft2 := Ft2.other W9 (Or.inl (Ne.symm ne_ya_a2))
      replace Ea1 := Ea1.wr W9
      replace Ea2 := Ea2.wr W9
      replace O := O.wr W9 g_ya
      replace N0 := Fr.snoc X9 N0 g_ya
      refine Out.via (g' := (mkF m 133 #[vI p0, vI p1, vI p2, vI c0, vI c1, vI k0, vI k1, vI tw, vI 1, vR s1, vR s2, vR ya, vR yb, vR a1, vR a2, vU, vU, vU, vU, vU, vU, vU] [])) st9 ?_
      refine Out.via (g' := (mkF m 135 #[vI p0, vI p1, vI p2, vI c0, vI c1, vI k0, vI k1, vI tw, vI 1, vR s1, vR s2, vR ya, vR yb, vR a1, vR a2, vU, vU, vU, vU, vU, vU, vU] [(.int tw)])) (fun _ k => XS.iload X9.here hx rfl (hb hby at_133) rfl k) ?_
      rcases ht with ⟨rfl, rfl⟩ | ⟨rfl, rfl⟩
      · obtain rfl : cs = [c0] := by rcases hcs with ⟨h1, h2⟩ | ⟨h1, h2⟩ <;> first | exact h2 | exact absurd h1 (by decide)
        refine Out.via (g' := (mkF m 150 #[vI p0, vI p1, vI p2, vI c0, vI c1, vI k0, vI k1, vI 0, vI 1, vR s1, vR s2, vR ya, vR yb, vR a1, vR a2, vU, vU, vU, vU, vU, vU, vU] [])) (fun _ k => XS.ifYes X9.here hx rfl (pc0 := 135) (pc' := 150) rfl (hb hby at_135) rfl ((if0 _ _).trans (teq rfl).1) (by decide) (by decide) k) ?_
        refine Out.via (g' := (mkF m 151 #[vI p0, vI p1, vI p2, vI c0, vI c1, vI k0, vI k1, vI 0, vI 1, vR s1, vR s2, vR ya, vR yb, vR a1, vR a2, vU, vU, vU, vU, vU, vU, vU] [(.int c0)])) (fun _ k => XS.iloadN X9.here hx rfl (hb hby at_150) rfl k) ?_
        refine Out.via (g' := (mkF m 153 #[vI p0, vI p1, vI p2, vI c0, vI c1, vI k0, vI k1, vI 0, vI 1, vR s1, vR s2, vR ya, vR yb, vR a1, vR a2, vI c0, vU, vU, vU, vU, vU, vU] [])) (fun _ k => XS.istore X9.here hx rfl (hb hby at_151) rfl (l' := #[.val (.int p0), .val (.int p1), .val (.int p2), .val (.int c0), .val (.int c1), .val (.int k0), .val (.int k1), .val (.int (0 : Int32)), .val (.int (1 : Int32)), .val (.ref s1), .val (.ref s2), .val (.ref ya), .val (.ref yb), .val (.ref a1), .val (.ref a2), .val (.int c0), .unset, .unset, .unset, .unset, .unset, .unset]) rfl k) ?_
        refine Out.via (g' := (mkF m 155 #[vI p0, vI p1, vI p2, vI c0, vI c1, vI k0, vI k1, vI 0, vI 1, vR s1, vR s2, vR ya, vR yb, vR a1, vR a2, vI c0, vU, vU, vU, vU, vU, vU] [(.int (1 : Int32))])) (fun _ k => XS.iload X9.here hx rfl (hb hby at_153) rfl k) ?_
        refine Out.via (g' := (mkF m 164 #[vI p0, vI p1, vI p2, vI c0, vI c1, vI k0, vI k1, vI 0, vI 1, vR s1, vR s2, vR ya, vR yb, vR a1, vR a2, vI c0, vU, vU, vU, vU, vU, vU] [])) (fun _ k => XS.ifYes X9.here hx rfl (pc0 := 155) (pc' := 164) rfl (hb hby at_155) rfl ((if0 _ _).trans (feq (by decide)).2) (by decide) (by decide) k) ?_
        refine Out.via (g' := (mkF m 166 #[vI p0, vI p1, vI p2, vI c0, vI c1, vI k0, vI k1, vI 0, vI 1, vR s1, vR s2, vR ya, vR yb, vR a1, vR a2, vI c0, vU, vU, vU, vU, vU, vU] [(.int (1 : Int32))])) (fun _ k => XS.iload X9.here hx rfl (hb hby at_164) rfl k) ?_
        refine Out.via (g' := (mkF m 167 #[vI p0, vI p1, vI p2, vI c0, vI c1, vI k0, vI k1, vI 0, vI 1, vR s1, vR s2, vR ya, vR yb, vR a1, vR a2, vI c0, vU, vU, vU, vU, vU, vU] [(.int (1 : Int32)), (.int (1 : Int32))])) (fun _ k => XS.iconst X9.here hx rfl (hb hby at_166) k) ?_
        refine Out.via (g' := (mkF m 170 #[vI p0, vI p1, vI p2, vI c0, vI c1, vI k0, vI k1, vI 0, vI 1, vR s1, vR s2, vR ya, vR yb, vR a1, vR a2, vI c0, vU, vU, vU, vU, vU, vU] [])) (fun _ k => XS.icmpNo X9.here hx rfl (hb hby at_167) rfl (teq rfl).2 k) ?_
        refine Out.via (g' := (mkF m 172 #[vI p0, vI p1, vI p2, vI c0, vI c1, vI k0, vI k1, vI 0, vI 1, vR s1, vR s2, vR ya, vR yb, vR a1, vR a2, vI c0, vU, vU, vU, vU, vU, vU] [(.int (31 : Int32))])) (fun _ k => XS.bipush X9.here hx rfl (hb hby at_170) k) ?_
        refine Out.via (g' := (mkF m 174 #[vI p0, vI p1, vI p2, vI c0, vI c1, vI k0, vI k1, vI 0, vI 1, vR s1, vR s2, vR ya, vR yb, vR a1, vR a2, vI c0, vU, vU, vU, vU, vU, vU] [(.int k0), (.int (31 : Int32))])) (fun _ k => XS.iload X9.here hx rfl (hb hby at_172) rfl k) ?_
        refine Out.via (g' := (mkF m 175 #[vI p0, vI p1, vI p2, vI c0, vI c1, vI k0, vI k1, vI 0, vI 1, vR s1, vR s2, vR ya, vR yb, vR a1, vR a2, vI c0, vU, vU, vU, vU, vU, vU] [(.int ((31 : Int32) + k0))])) (fun _ k => XS.iadd X9.here hx rfl (hb hby at_174) rfl k) ?_
        refine Out.via (g' := (mkF m 177 #[vI p0, vI p1, vI p2, vI c0, vI c1, vI k0, vI k1, vI 0, vI 1, vR s1, vR s2, vR ya, vR yb, vR a1, vR a2, vI c0, .val (.int ((31 : Int32) + k0)), vU, vU, vU, vU, vU] [])) (fun _ k => XS.istore X9.here hx rfl (hb hby at_175) rfl (l' := #[.val (.int p0), .val (.int p1), .val (.int p2), .val (.int c0), .val (.int c1), .val (.int k0), .val (.int k1), .val (.int (0 : Int32)), .val (.int (1 : Int32)), .val (.ref s1), .val (.ref s2), .val (.ref ya), .val (.ref yb), .val (.ref a1), .val (.ref a2), .val (.int c0), .val (.int ((31 : Int32) + k0)), .unset, .unset, .unset, .unset, .unset]) rfl k) ?_
        refine Out.via (g' := (mkF m 194 #[vI p0, vI p1, vI p2, vI c0, vI c1, vI k0, vI k1, vI 0, vI 1, vR s1, vR s2, vR ya, vR yb, vR a1, vR a2, vI c0, .val (.int ((31 : Int32) + k0)), vU, vU, vU, vU, vU] [])) (fun _ k => XS.goto X9.here hx rfl (pc0 := 177) (pc' := 194) rfl (hb hby at_177) (by decide) (by decide) k) ?_
        exact rest _ _ _ _ X9 N0 (by rw [e9]; exact O) (by rw [e9]; exact hk) (by rw [e9]; exact S1) (by rw [e9]; exact By_b1) (by rw [e9]; exact By_t1) (by rw [e9]; exact Ea1) (by rw [e9]; exact Fr1) (by rw [e9]; exact Ft1) (by rw [e9]; exact S2) (by rw [e9]; exact By_b2) (by rw [e9]; exact By_t2) (by rw [e9]; exact Ea2) (by rw [e9]; exact Fr2) (by rw [e9]; exact Ft2) (own_exp11 (k0 := k0) (k1 := k1) hc0 hc1 hx0 hx1)
      · obtain rfl : cs = [c0, c1] := by rcases hcs with ⟨h1, h2⟩ | ⟨h1, h2⟩ <;> first | exact h2 | exact absurd h1 (by decide)
        refine Out.via (g' := (mkF m 138 #[vI p0, vI p1, vI p2, vI c0, vI c1, vI k0, vI k1, vI 1, vI 1, vR s1, vR s2, vR ya, vR yb, vR a1, vR a2, vU, vU, vU, vU, vU, vU, vU] [])) (fun _ k => XS.ifNo X9.here hx rfl (hb hby at_135) rfl ((if0 _ _).trans (feq (by decide)).1) k) ?_
        refine Out.via (g' := (mkF m 140 #[vI p0, vI p1, vI p2, vI c0, vI c1, vI k0, vI k1, vI 1, vI 1, vR s1, vR s2, vR ya, vR yb, vR a1, vR a2, vU, vU, vU, vU, vU, vU, vU] [(.int (31 : Int32))])) (fun _ k => XS.bipush X9.here hx rfl (hb hby at_138) k) ?_
        refine Out.via (g' := (mkF m 141 #[vI p0, vI p1, vI p2, vI c0, vI c1, vI k0, vI k1, vI 1, vI 1, vR s1, vR s2, vR ya, vR yb, vR a1, vR a2, vU, vU, vU, vU, vU, vU, vU] [(.int c0), (.int (31 : Int32))])) (fun _ k => XS.iloadN X9.here hx rfl (hb hby at_140) rfl k) ?_
        refine Out.via (g' := (mkF m 142 #[vI p0, vI p1, vI p2, vI c0, vI c1, vI k0, vI k1, vI 1, vI 1, vR s1, vR s2, vR ya, vR yb, vR a1, vR a2, vU, vU, vU, vU, vU, vU, vU] [(.int ((31 : Int32) * c0))])) (fun _ k => XS.imul X9.here hx rfl (hb hby at_141) rfl k) ?_
        refine Out.via (g' := (mkF m 144 #[vI p0, vI p1, vI p2, vI c0, vI c1, vI k0, vI k1, vI 1, vI 1, vR s1, vR s2, vR ya, vR yb, vR a1, vR a2, vU, vU, vU, vU, vU, vU, vU] [(.int c1), (.int ((31 : Int32) * c0))])) (fun _ k => XS.iload X9.here hx rfl (hb hby at_142) rfl k) ?_
        refine Out.via (g' := (mkF m 145 #[vI p0, vI p1, vI p2, vI c0, vI c1, vI k0, vI k1, vI 1, vI 1, vR s1, vR s2, vR ya, vR yb, vR a1, vR a2, vU, vU, vU, vU, vU, vU, vU] [(.int (((31 : Int32) * c0) + c1))])) (fun _ k => XS.iadd X9.here hx rfl (hb hby at_144) rfl k) ?_
        refine Out.via (g' := (mkF m 147 #[vI p0, vI p1, vI p2, vI c0, vI c1, vI k0, vI k1, vI 1, vI 1, vR s1, vR s2, vR ya, vR yb, vR a1, vR a2, .val (.int (((31 : Int32) * c0) + c1)), vU, vU, vU, vU, vU, vU] [])) (fun _ k => XS.istore X9.here hx rfl (hb hby at_145) rfl (l' := #[.val (.int p0), .val (.int p1), .val (.int p2), .val (.int c0), .val (.int c1), .val (.int k0), .val (.int k1), .val (.int (1 : Int32)), .val (.int (1 : Int32)), .val (.ref s1), .val (.ref s2), .val (.ref ya), .val (.ref yb), .val (.ref a1), .val (.ref a2), .val (.int (((31 : Int32) * c0) + c1)), .unset, .unset, .unset, .unset, .unset, .unset]) rfl k) ?_
        refine Out.via (g' := (mkF m 153 #[vI p0, vI p1, vI p2, vI c0, vI c1, vI k0, vI k1, vI 1, vI 1, vR s1, vR s2, vR ya, vR yb, vR a1, vR a2, .val (.int (((31 : Int32) * c0) + c1)), vU, vU, vU, vU, vU, vU] [])) (fun _ k => XS.goto X9.here hx rfl (pc0 := 147) (pc' := 153) rfl (hb hby at_147) (by decide) (by decide) k) ?_
        refine Out.via (g' := (mkF m 155 #[vI p0, vI p1, vI p2, vI c0, vI c1, vI k0, vI k1, vI 1, vI 1, vR s1, vR s2, vR ya, vR yb, vR a1, vR a2, .val (.int (((31 : Int32) * c0) + c1)), vU, vU, vU, vU, vU, vU] [(.int (1 : Int32))])) (fun _ k => XS.iload X9.here hx rfl (hb hby at_153) rfl k) ?_
        refine Out.via (g' := (mkF m 164 #[vI p0, vI p1, vI p2, vI c0, vI c1, vI k0, vI k1, vI 1, vI 1, vR s1, vR s2, vR ya, vR yb, vR a1, vR a2, .val (.int (((31 : Int32) * c0) + c1)), vU, vU, vU, vU, vU, vU] [])) (fun _ k => XS.ifYes X9.here hx rfl (pc0 := 155) (pc' := 164) rfl (hb hby at_155) rfl ((if0 _ _).trans (feq (by decide)).2) (by decide) (by decide) k) ?_
        refine Out.via (g' := (mkF m 166 #[vI p0, vI p1, vI p2, vI c0, vI c1, vI k0, vI k1, vI 1, vI 1, vR s1, vR s2, vR ya, vR yb, vR a1, vR a2, .val (.int (((31 : Int32) * c0) + c1)), vU, vU, vU, vU, vU, vU] [(.int (1 : Int32))])) (fun _ k => XS.iload X9.here hx rfl (hb hby at_164) rfl k) ?_
        refine Out.via (g' := (mkF m 167 #[vI p0, vI p1, vI p2, vI c0, vI c1, vI k0, vI k1, vI 1, vI 1, vR s1, vR s2, vR ya, vR yb, vR a1, vR a2, .val (.int (((31 : Int32) * c0) + c1)), vU, vU, vU, vU, vU, vU] [(.int (1 : Int32)), (.int (1 : Int32))])) (fun _ k => XS.iconst X9.here hx rfl (hb hby at_166) k) ?_
        refine Out.via (g' := (mkF m 170 #[vI p0, vI p1, vI p2, vI c0, vI c1, vI k0, vI k1, vI 1, vI 1, vR s1, vR s2, vR ya, vR yb, vR a1, vR a2, .val (.int (((31 : Int32) * c0) + c1)), vU, vU, vU, vU, vU, vU] [])) (fun _ k => XS.icmpNo X9.here hx rfl (hb hby at_167) rfl (teq rfl).2 k) ?_
        refine Out.via (g' := (mkF m 172 #[vI p0, vI p1, vI p2, vI c0, vI c1, vI k0, vI k1, vI 1, vI 1, vR s1, vR s2, vR ya, vR yb, vR a1, vR a2, .val (.int (((31 : Int32) * c0) + c1)), vU, vU, vU, vU, vU, vU] [(.int (31 : Int32))])) (fun _ k => XS.bipush X9.here hx rfl (hb hby at_170) k) ?_
        refine Out.via (g' := (mkF m 174 #[vI p0, vI p1, vI p2, vI c0, vI c1, vI k0, vI k1, vI 1, vI 1, vR s1, vR s2, vR ya, vR yb, vR a1, vR a2, .val (.int (((31 : Int32) * c0) + c1)), vU, vU, vU, vU, vU, vU] [(.int k0), (.int (31 : Int32))])) (fun _ k => XS.iload X9.here hx rfl (hb hby at_172) rfl k) ?_
        refine Out.via (g' := (mkF m 175 #[vI p0, vI p1, vI p2, vI c0, vI c1, vI k0, vI k1, vI 1, vI 1, vR s1, vR s2, vR ya, vR yb, vR a1, vR a2, .val (.int (((31 : Int32) * c0) + c1)), vU, vU, vU, vU, vU, vU] [(.int ((31 : Int32) + k0))])) (fun _ k => XS.iadd X9.here hx rfl (hb hby at_174) rfl k) ?_
        refine Out.via (g' := (mkF m 177 #[vI p0, vI p1, vI p2, vI c0, vI c1, vI k0, vI k1, vI 1, vI 1, vR s1, vR s2, vR ya, vR yb, vR a1, vR a2, .val (.int (((31 : Int32) * c0) + c1)), .val (.int ((31 : Int32) + k0)), vU, vU, vU, vU, vU] [])) (fun _ k => XS.istore X9.here hx rfl (hb hby at_175) rfl (l' := #[.val (.int p0), .val (.int p1), .val (.int p2), .val (.int c0), .val (.int c1), .val (.int k0), .val (.int k1), .val (.int (1 : Int32)), .val (.int (1 : Int32)), .val (.ref s1), .val (.ref s2), .val (.ref ya), .val (.ref yb), .val (.ref a1), .val (.ref a2), .val (.int (((31 : Int32) * c0) + c1)), .val (.int ((31 : Int32) + k0)), .unset, .unset, .unset, .unset, .unset]) rfl k) ?_
        refine Out.via (g' := (mkF m 194 #[vI p0, vI p1, vI p2, vI c0, vI c1, vI k0, vI k1, vI 1, vI 1, vR s1, vR s2, vR ya, vR yb, vR a1, vR a2, .val (.int (((31 : Int32) * c0) + c1)), .val (.int ((31 : Int32) + k0)), vU, vU, vU, vU, vU] [])) (fun _ k => XS.goto X9.here hx rfl (pc0 := 177) (pc' := 194) rfl (hb hby at_177) (by decide) (by decide) k) ?_
        exact rest _ _ _ _ X9 N0 (by rw [e9]; exact O) (by rw [e9]; exact hk) (by rw [e9]; exact S1) (by rw [e9]; exact By_b1) (by rw [e9]; exact By_t1) (by rw [e9]; exact Ea1) (by rw [e9]; exact Fr1) (by rw [e9]; exact Ft1) (by rw [e9]; exact S2) (by rw [e9]; exact By_b2) (by rw [e9]; exact By_t2) (by rw [e9]; exact Ea2) (by rw [e9]; exact Fr2) (by rw [e9]; exact Ft2) (own_exp21 (k0 := k0) (k1 := k1) hc0 hc1 hx0 hx1)
    · refine Out.via (g' := (mkF m 122 #[vI p0, vI p1, vI p2, vI c0, vI c1, vI k0, vI k1, vI tw, vI 2, vR s1, vR s2, vR ya, vR yb, vR a1, vR a2, vU, vU, vU, vU, vU, vU, vU] [])) (fun _ k => XS.ifNo X8.here hx rfl (hb hby at_119) rfl ((if0 _ _).trans (tlt (by decide)).2.2.2) k) ?_
      refine Out.via (g' := (mkF m 124 #[vI p0, vI p1, vI p2, vI c0, vI c1, vI k0, vI k1, vI tw, vI 2, vR s1, vR s2, vR ya, vR yb, vR a1, vR a2, vU, vU, vU, vU, vU, vU, vU] [(.ref ya)])) (fun _ k => XS.aload X8.here hx rfl (hb hby at_122) rfl rfl k) ?_
      refine Out.via (g' := (mkF m 125 #[vI p0, vI p1, vI p2, vI c0, vI c1, vI k0, vI k1, vI tw, vI 2, vR s1, vR s2, vR ya, vR yb, vR a1, vR a2, vU, vU, vU, vU, vU, vU, vU] [(.int (0 : Int32)), (.ref ya)])) (fun _ k => XS.iconst X8.here hx rfl (hb hby at_124) k) ?_
      refine Out.via (g' := (mkF m 127 #[vI p0, vI p1, vI p2, vI c0, vI c1, vI k0, vI k1, vI tw, vI 2, vR s1, vR s2, vR ya, vR yb, vR a1, vR a2, vU, vU, vU, vU, vU, vU, vU] [(.ref ya), (.int (0 : Int32)), (.ref ya)])) (fun _ k => XS.aload X8.here hx rfl (hb hby at_125) rfl rfl k) ?_
      refine Out.via (g' := (mkF m 128 #[vI p0, vI p1, vI p2, vI c0, vI c1, vI k0, vI k1, vI tw, vI 2, vR s1, vR s2, vR ya, vR yb, vR a1, vR a2, vU, vU, vU, vU, vU, vU, vU] [(.int (0 : Int32)), (.ref ya), (.int (0 : Int32)), (.ref ya)])) (fun _ k => XS.iconst X8.here hx rfl (hb hby at_127) k) ?_
      have Aya : Arv Z T8.heap ya kk1 .byte (2 : Int32) [(.int k0), (.int k1)] (.int (0 : Int32)) := By_ya.1
      obtain ⟨cl_el, Ar_el, q_el, S_el, M_el, H_el, G_el⟩ := id Aya
      have hin_el : ¬ ((0 : Int32) < 0 ∨ cl_el.slots.size ≤ ((0 : Int32)).toNatClampNeg) := inb_of S_el ⟨by decide, by decide⟩
      refine Out.via (g' := (mkF m 129 #[vI p0, vI p1, vI p2, vI c0, vI c1, vI k0, vI k1, vI tw, vI 2, vR s1, vR s2, vR ya, vR yb, vR a1, vR a2, vU, vU, vU, vU, vU, vU, vU] [(.int k0), (.int (0 : Int32)), (.ref ya)])) (fun _ k => X8.baloadBytes hx (j := (0 : Int32)) (v := (.int k0)) Ar_el.1 (State.isArrayOf_alike hZ.alike Ar_el.2.1) Ar_el.2.2 hin_el (H_el.at hin_el rfl) (g := (mkF m 128 #[vI p0, vI p1, vI p2, vI c0, vI c1, vI k0, vI k1, vI tw, vI 2, vR s1, vR s2, vR ya, vR yb, vR a1, vR a2, vU, vU, vU, vU, vU, vU, vU] [(.int (0 : Int32)), (.ref ya), (.int (0 : Int32)), (.ref ya)])) rfl rfl (hb hby at_128) _ k) ?_
      refine Out.via (g' := (mkF m 130 #[vI p0, vI p1, vI p2, vI c0, vI c1, vI k0, vI k1, vI tw, vI 2, vR s1, vR s2, vR ya, vR yb, vR a1, vR a2, vU, vU, vU, vU, vU, vU, vU] [(.int (1 : Int32)), (.int k0), (.int (0 : Int32)), (.ref ya)])) (fun _ k => XS.iconst X8.here hx rfl (hb hby at_129) k) ?_
      refine Out.via (g' := (mkF m 131 #[vI p0, vI p1, vI p2, vI c0, vI c1, vI k0, vI k1, vI tw, vI 2, vR s1, vR s2, vR ya, vR yb, vR a1, vR a2, vU, vU, vU, vU, vU, vU, vU] [(.int (k0 + (1 : Int32))), (.int (0 : Int32)), (.ref ya)])) (fun _ k => XS.iadd X8.here hx rfl (hb hby at_130) rfl k) ?_
      refine Out.via (g' := (mkF m 132 #[vI p0, vI p1, vI p2, vI c0, vI c1, vI k0, vI k1, vI tw, vI 2, vR s1, vR s2, vR ya, vR yb, vR a1, vR a2, vU, vU, vU, vU, vU, vU, vU] [(.int ((k0 + (1 : Int32)).toInt8.toInt32)), (.int (0 : Int32)), (.ref ya)])) (fun _ k => XS.i2b X8.here hx rfl (hb hby at_131) rfl k) ?_
      obtain ⟨clz9, Arz9, qz9, Sz9, Mz9, Hz9, Gz9⟩ := Aya
      have hin9 : ¬ ((0 : Int32) < 0 ∨ clz9.slots.size ≤ ((0 : Int32)).toNatClampNeg) := inb_of Sz9 ⟨by decide, by decide⟩
      obtain ⟨T9, h9, X9, e9, W9, st9⟩ := stB X8 hx hZ rfl Arz9 (j := (0 : Int32)) hin9 (g := (mkF m 132 #[vI p0, vI p1, vI p2, vI c0, vI c1, vI k0, vI k1, vI tw, vI 2, vR s1, vR s2, vR ya, vR yb, vR a1, vR a2, vU, vU, vU, vU, vU, vU, vU] [(.int ((k0 + (1 : Int32)).toInt8.toInt32)), (.int (0 : Int32)), (.ref ya)])) rfl rfl (hb hby at_132)
      have Aya : Arv Z h9 ya kk1 .byte (2 : Int32) [(.int (nar .byte ((k0 + (1 : Int32)).toInt8.toInt32))), (.int k1)] (.int (0 : Int32)) := Arv.set Arz9 qz9 Sz9 Mz9 Hz9 Gz9 (fits_nar_byte _) W9 0 rfl (Nat.le_of_ble_eq_true rfl)
      replace S1 := S1.other W9 ne_s1_ya
      replace By_b1 := By_b1.other W9 ne_b1_ya
      replace S2 := S2.other W9 ne_s2_ya
      replace By_b2 := By_b2.other W9 ne_b2_ya
      replace By_yb := By_yb.other W9 (Ne.symm ne_ya_yb)
      replace By_t1 := By_t1.other W9 (Ne.symm ne_ya_t1)
      replace By_t2 := By_t2.other W9 (Ne.symm ne_ya_t2)
      replace hk : _ ≤ h9.size := Nat.le_trans hk (Keep.of_wr W9).1
      replace Fr1 := Fr1.other W9 (Or.inl (Ne.symm ne_ya_a1))
      replace Ft1 := Ft1.other W9 (Or.inl (Ne.symm ne_ya_a1))
      replace Fr2 := Fr2.other W9 (Or.inl (Ne.symm ne_ya_a2))
      replace Ft2 := Ft2.other W9 (Or.inl (Ne.symm ne_ya_a2))
      replace Ea1 := Ea1.wr W9
      replace Ea2 := Ea2.wr W9
      replace O := O.wr W9 g_ya
      replace N0 := Fr.snoc X9 N0 g_ya
      refine Out.via (g' := (mkF m 133 #[vI p0, vI p1, vI p2, vI c0, vI c1, vI k0, vI k1, vI tw, vI 2, vR s1, vR s2, vR ya, vR yb, vR a1, vR a2, vU, vU, vU, vU, vU, vU, vU] [])) st9 ?_
      refine Out.via (g' := (mkF m 135 #[vI p0, vI p1, vI p2, vI c0, vI c1, vI k0, vI k1, vI tw, vI 2, vR s1, vR s2, vR ya, vR yb, vR a1, vR a2, vU, vU, vU, vU, vU, vU, vU] [(.int tw)])) (fun _ k => XS.iload X9.here hx rfl (hb hby at_133) rfl k) ?_
      rcases ht with ⟨rfl, rfl⟩ | ⟨rfl, rfl⟩
      · obtain rfl : cs = [c0] := by rcases hcs with ⟨h1, h2⟩ | ⟨h1, h2⟩ <;> first | exact h2 | exact absurd h1 (by decide)
        refine Out.via (g' := (mkF m 150 #[vI p0, vI p1, vI p2, vI c0, vI c1, vI k0, vI k1, vI 0, vI 2, vR s1, vR s2, vR ya, vR yb, vR a1, vR a2, vU, vU, vU, vU, vU, vU, vU] [])) (fun _ k => XS.ifYes X9.here hx rfl (pc0 := 135) (pc' := 150) rfl (hb hby at_135) rfl ((if0 _ _).trans (teq rfl).1) (by decide) (by decide) k) ?_
        refine Out.via (g' := (mkF m 151 #[vI p0, vI p1, vI p2, vI c0, vI c1, vI k0, vI k1, vI 0, vI 2, vR s1, vR s2, vR ya, vR yb, vR a1, vR a2, vU, vU, vU, vU, vU, vU, vU] [(.int c0)])) (fun _ k => XS.iloadN X9.here hx rfl (hb hby at_150) rfl k) ?_
        refine Out.via (g' := (mkF m 153 #[vI p0, vI p1, vI p2, vI c0, vI c1, vI k0, vI k1, vI 0, vI 2, vR s1, vR s2, vR ya, vR yb, vR a1, vR a2, vI c0, vU, vU, vU, vU, vU, vU] [])) (fun _ k => XS.istore X9.here hx rfl (hb hby at_151) rfl (l' := #[.val (.int p0), .val (.int p1), .val (.int p2), .val (.int c0), .val (.int c1), .val (.int k0), .val (.int k1), .val (.int (0 : Int32)), .val (.int (2 : Int32)), .val (.ref s1), .val (.ref s2), .val (.ref ya), .val (.ref yb), .val (.ref a1), .val (.ref a2), .val (.int c0), .unset, .unset, .unset, .unset, .unset, .unset]) rfl k) ?_
        refine Out.via (g' := (mkF m 155 #[vI p0, vI p1, vI p2, vI c0, vI c1, vI k0, vI k1, vI 0, vI 2, vR s1, vR s2, vR ya, vR yb, vR a1, vR a2, vI c0, vU, vU, vU, vU, vU, vU] [(.int (2 : Int32))])) (fun _ k => XS.iload X9.here hx rfl (hb hby at_153) rfl k) ?_
        refine Out.via (g' := (mkF m 164 #[vI p0, vI p1, vI p2, vI c0, vI c1, vI k0, vI k1, vI 0, vI 2, vR s1, vR s2, vR ya, vR yb, vR a1, vR a2, vI c0, vU, vU, vU, vU, vU, vU] [])) (fun _ k => XS.ifYes X9.here hx rfl (pc0 := 155) (pc' := 164) rfl (hb hby at_155) rfl ((if0 _ _).trans (feq (by decide)).2) (by decide) (by decide) k) ?_
        refine Out.via (g' := (mkF m 166 #[vI p0, vI p1, vI p2, vI c0, vI c1, vI k0, vI k1, vI 0, vI 2, vR s1, vR s2, vR ya, vR yb, vR a1, vR a2, vI c0, vU, vU, vU, vU, vU, vU] [(.int (2 : Int32))])) (fun _ k => XS.iload X9.here hx rfl (hb hby at_164) rfl k) ?_
        refine Out.via (g' := (mkF m 167 #[vI p0, vI p1, vI p2, vI c0, vI c1, vI k0, vI k1, vI 0, vI 2, vR s1, vR s2, vR ya, vR yb, vR a1, vR a2, vI c0, vU, vU, vU, vU, vU, vU] [(.int (1 : Int32)), (.int (2 : Int32))])) (fun _ k => XS.iconst X9.here hx rfl (hb hby at_166) k) ?_
        refine Out.via (g' := (mkF m 180 #[vI p0, vI p1, vI p2, vI c0, vI c1, vI k0, vI k1, vI 0, vI 2, vR s1, vR s2, vR ya, vR yb, vR a1, vR a2, vI c0, vU, vU, vU, vU, vU, vU] [])) (fun _ k => XS.icmpYes X9.here hx rfl (pc0 := 167) (pc' := 180) rfl (hb hby at_167) rfl (feq (by decide)).2 (by decide) (by decide) k) ?_
        refine Out.via (g' := (mkF m 183 #[vI p0, vI p1, vI p2, vI c0, vI c1, vI k0, vI k1, vI 0, vI 2, vR s1, vR s2, vR ya, vR yb, vR a1, vR a2, vI c0, vU, vU, vU, vU, vU, vU] [(.int (961 : Int32))])) (fun _ k => XS.sipush X9.here hx rfl (hb hby at_180) k) ?_
        refine Out.via (g' := (mkF m 185 #[vI p0, vI p1, vI p2, vI c0, vI c1, vI k0, vI k1, vI 0, vI 2, vR s1, vR s2, vR ya, vR yb, vR a1, vR a2, vI c0, vU, vU, vU, vU, vU, vU] [(.int (31 : Int32)), (.int (961 : Int32))])) (fun _ k => XS.bipush X9.here hx rfl (hb hby at_183) k) ?_
        refine Out.via (g' := (mkF m 187 #[vI p0, vI p1, vI p2, vI c0, vI c1, vI k0, vI k1, vI 0, vI 2, vR s1, vR s2, vR ya, vR yb, vR a1, vR a2, vI c0, vU, vU, vU, vU, vU, vU] [(.int k0), (.int (31 : Int32)), (.int (961 : Int32))])) (fun _ k => XS.iload X9.here hx rfl (hb hby at_185) rfl k) ?_
        refine Out.via (g' := (mkF m 188 #[vI p0, vI p1, vI p2, vI c0, vI c1, vI k0, vI k1, vI 0, vI 2, vR s1, vR s2, vR ya, vR yb, vR a1, vR a2, vI c0, vU, vU, vU, vU, vU, vU] [(.int ((31 : Int32) * k0)), (.int (961 : Int32))])) (fun _ k => XS.imul X9.here hx rfl (hb hby at_187) rfl k) ?_
        refine Out.via (g' := (mkF m 189 #[vI p0, vI p1, vI p2, vI c0, vI c1, vI k0, vI k1, vI 0, vI 2, vR s1, vR s2, vR ya, vR yb, vR a1, vR a2, vI c0, vU, vU, vU, vU, vU, vU] [(.int ((961 : Int32) + ((31 : Int32) * k0)))])) (fun _ k => XS.iadd X9.here hx rfl (hb hby at_188) rfl k) ?_
        refine Out.via (g' := (mkF m 191 #[vI p0, vI p1, vI p2, vI c0, vI c1, vI k0, vI k1, vI 0, vI 2, vR s1, vR s2, vR ya, vR yb, vR a1, vR a2, vI c0, vU, vU, vU, vU, vU, vU] [(.int k1), (.int ((961 : Int32) + ((31 : Int32) * k0)))])) (fun _ k => XS.iload X9.here hx rfl (hb hby at_189) rfl k) ?_
        refine Out.via (g' := (mkF m 192 #[vI p0, vI p1, vI p2, vI c0, vI c1, vI k0, vI k1, vI 0, vI 2, vR s1, vR s2, vR ya, vR yb, vR a1, vR a2, vI c0, vU, vU, vU, vU, vU, vU] [(.int (((961 : Int32) + ((31 : Int32) * k0)) + k1))])) (fun _ k => XS.iadd X9.here hx rfl (hb hby at_191) rfl k) ?_
        refine Out.via (g' := (mkF m 194 #[vI p0, vI p1, vI p2, vI c0, vI c1, vI k0, vI k1, vI 0, vI 2, vR s1, vR s2, vR ya, vR yb, vR a1, vR a2, vI c0, .val (.int (((961 : Int32) + ((31 : Int32) * k0)) + k1)), vU, vU, vU, vU, vU] [])) (fun _ k => XS.istore X9.here hx rfl (hb hby at_192) rfl (l' := #[.val (.int p0), .val (.int p1), .val (.int p2), .val (.int c0), .val (.int c1), .val (.int k0), .val (.int k1), .val (.int (0 : Int32)), .val (.int (2 : Int32)), .val (.ref s1), .val (.ref s2), .val (.ref ya), .val (.ref yb), .val (.ref a1), .val (.ref a2), .val (.int c0), .val (.int (((961 : Int32) + ((31 : Int32) * k0)) + k1)), .unset, .unset, .unset, .unset, .unset]) rfl k) ?_
        exact rest _ _ _ _ X9 N0 (by rw [e9]; exact O) (by rw [e9]; exact hk) (by rw [e9]; exact S1) (by rw [e9]; exact By_b1) (by rw [e9]; exact By_t1) (by rw [e9]; exact Ea1) (by rw [e9]; exact Fr1) (by rw [e9]; exact Ft1) (by rw [e9]; exact S2) (by rw [e9]; exact By_b2) (by rw [e9]; exact By_t2) (by rw [e9]; exact Ea2) (by rw [e9]; exact Fr2) (by rw [e9]; exact Ft2) (own_exp12 (k0 := k0) (k1 := k1) hc0 hc1 hx0 hx1)
      · obtain rfl : cs = [c0, c1] := by rcases hcs with ⟨h1, h2⟩ | ⟨h1, h2⟩ <;> first | exact h2 | exact absurd h1 (by decide)
        refine Out.via (g' := (mkF m 138 #[vI p0, vI p1, vI p2, vI c0, vI c1, vI k0, vI k1, vI 1, vI 2, vR s1, vR s2, vR ya, vR yb, vR a1, vR a2, vU, vU, vU, vU, vU, vU, vU] [])) (fun _ k => XS.ifNo X9.here hx rfl (hb hby at_135) rfl ((if0 _ _).trans (feq (by decide)).1) k) ?_
        refine Out.via (g' := (mkF m 140 #[vI p0, vI p1, vI p2, vI c0, vI c1, vI k0, vI k1, vI 1, vI 2, vR s1, vR s2, vR ya, vR yb, vR a1, vR a2, vU, vU, vU, vU, vU, vU, vU] [(.int (31 : Int32))])) (fun _ k => XS.bipush X9.here hx rfl (hb hby at_138) k) ?_
        refine Out.via (g' := (mkF m 141 #[vI p0, vI p1, vI p2, vI c0, vI c1, vI k0, vI k1, vI 1, vI 2, vR s1, vR s2, vR ya, vR yb, vR a1, vR a2, vU, vU, vU, vU, vU, vU, vU] [(.int c0), (.int (31 : Int32))])) (fun _ k => XS.iloadN X9.here hx rfl (hb hby at_140) rfl k) ?_
        refine Out.via (g' := (mkF m 142 #[vI p0, vI p1, vI p2, vI c0, vI c1, vI k0, vI k1, vI 1, vI 2, vR s1, vR s2, vR ya, vR yb, vR a1, vR a2, vU, vU, vU, vU, vU, vU, vU] [(.int ((31 : Int32) * c0))])) (fun _ k => XS.imul X9.here hx rfl (hb hby at_141) rfl k) ?_
        refine Out.via (g' := (mkF m 144 #[vI p0, vI p1, vI p2, vI c0, vI c1, vI k0, vI k1, vI 1, vI 2, vR s1, vR s2, vR ya, vR yb, vR a1, vR a2, vU, vU, vU, vU, vU, vU, vU] [(.int c1), (.int ((31 : Int32) * c0))])) (fun _ k => XS.iload X9.here hx rfl (hb hby at_142) rfl k) ?_
        refine Out.via (g' := (mkF m 145 #[vI p0, vI p1, vI p2, vI c0, vI c1, vI k0, vI k1, vI 1, vI 2, vR s1, vR s2, vR ya, vR yb, vR a1, vR a2, vU, vU, vU, vU, vU, vU, vU] [(.int (((31 : Int32) * c0) + c1))])) (fun _ k => XS.iadd X9.here hx rfl (hb hby at_144) rfl k) ?_
        refine Out.via (g' := (mkF m 147 #[vI p0, vI p1, vI p2, vI c0, vI c1, vI k0, vI k1, vI 1, vI 2, vR s1, vR s2, vR ya, vR yb, vR a1, vR a2, .val (.int (((31 : Int32) * c0) + c1)), vU, vU, vU, vU, vU, vU] [])) (fun _ k => XS.istore X9.here hx rfl (hb hby at_145) rfl (l' := #[.val (.int p0), .val (.int p1), .val (.int p2), .val (.int c0), .val (.int c1), .val (.int k0), .val (.int k1), .val (.int (1 : Int32)), .val (.int (2 : Int32)), .val (.ref s1), .val (.ref s2), .val (.ref ya), .val (.ref yb), .val (.ref a1), .val (.ref a2), .val (.int (((31 : Int32) * c0) + c1)), .unset, .unset, .unset, .unset, .unset, .unset]) rfl k) ?_
        refine Out.via (g' := (mkF m 153 #[vI p0, vI p1, vI p2, vI c0, vI c1, vI k0, vI k1, vI 1, vI 2, vR s1, vR s2, vR ya, vR yb, vR a1, vR a2, .val (.int (((31 : Int32) * c0) + c1)), vU, vU, vU, vU, vU, vU] [])) (fun _ k => XS.goto X9.here hx rfl (pc0 := 147) (pc' := 153) rfl (hb hby at_147) (by decide) (by decide) k) ?_
        refine Out.via (g' := (mkF m 155 #[vI p0, vI p1, vI p2, vI c0, vI c1, vI k0, vI k1, vI 1, vI 2, vR s1, vR s2, vR ya, vR yb, vR a1, vR a2, .val (.int (((31 : Int32) * c0) + c1)), vU, vU, vU, vU, vU, vU] [(.int (2 : Int32))])) (fun _ k => XS.iload X9.here hx rfl (hb hby at_153) rfl k) ?_
        refine Out.via (g' := (mkF m 164 #[vI p0, vI p1, vI p2, vI c0, vI c1, vI k0, vI k1, vI 1, vI 2, vR s1, vR s2, vR ya, vR yb, vR a1, vR a2, .val (.int (((31 : Int32) * c0) + c1)), vU, vU, vU, vU, vU, vU] [])) (fun _ k => XS.ifYes X9.here hx rfl (pc0 := 155) (pc' := 164) rfl (hb hby at_155) rfl ((if0 _ _).trans (feq (by decide)).2) (by decide) (by decide) k) ?_
        refine Out.via (g' := (mkF m 166 #[vI p0, vI p1, vI p2, vI c0, vI c1, vI k0, vI k1, vI 1, vI 2, vR s1, vR s2, vR ya, vR yb, vR a1, vR a2, .val (.int (((31 : Int32) * c0) + c1)), vU, vU, vU, vU, vU, vU] [(.int (2 : Int32))])) (fun _ k => XS.iload X9.here hx rfl (hb hby at_164) rfl k) ?_
        refine Out.via (g' := (mkF m 167 #[vI p0, vI p1, vI p2, vI c0, vI c1, vI k0, vI k1, vI 1, vI 2, vR s1, vR s2, vR ya, vR yb, vR a1, vR a2, .val (.int (((31 : Int32) * c0) + c1)), vU, vU, vU, vU, vU, vU] [(.int (1 : Int32)), (.int (2 : Int32))])) (fun _ k => XS.iconst X9.here hx rfl (hb hby at_166) k) ?_
        refine Out.via (g' := (mkF m 180 #[vI p0, vI p1, vI p2, vI c0, vI c1, vI k0, vI k1, vI 1, vI 2, vR s1, vR s2, vR ya, vR yb, vR a1, vR a2, .val (.int (((31 : Int32) * c0) + c1)), vU, vU, vU, vU, vU, vU] [])) (fun _ k => XS.icmpYes X9.here hx rfl (pc0 := 167) (pc' := 180) rfl (hb hby at_167) rfl (feq (by decide)).2 (by decide) (by decide) k) ?_
        refine Out.via (g' := (mkF m 183 #[vI p0, vI p1, vI p2, vI c0, vI c1, vI k0, vI k1, vI 1, vI 2, vR s1, vR s2, vR ya, vR yb, vR a1, vR a2, .val (.int (((31 : Int32) * c0) + c1)), vU, vU, vU, vU, vU, vU] [(.int (961 : Int32))])) (fun _ k => XS.sipush X9.here hx rfl (hb hby at_180) k) ?_
        refine Out.via (g' := (mkF m 185 #[vI p0, vI p1, vI p2, vI c0, vI c1, vI k0, vI k1, vI 1, vI 2, vR s1, vR s2, vR ya, vR yb, vR a1, vR a2, .val (.int (((31 : Int32) * c0) + c1)), vU, vU, vU, vU, vU, vU] [(.int (31 : Int32)), (.int (961 : Int32))])) (fun _ k => XS.bipush X9.here hx rfl (hb hby at_183) k) ?_
        refine Out.via (g' := (mkF m 187 #[vI p0, vI p1, vI p2, vI c0, vI c1, vI k0, vI k1, vI 1, vI 2, vR s1, vR s2, vR ya, vR yb, vR a1, vR a2, .val (.int (((31 : Int32) * c0) + c1)), vU, vU, vU, vU, vU, vU] [(.int k0), (.int (31 : Int32)), (.int (961 : Int32))])) (fun _ k => XS.iload X9.here hx rfl (hb hby at_185) rfl k) ?_
        refine Out.via (g' := (mkF m 188 #[vI p0, vI p1, vI p2, vI c0, vI c1, vI k0, vI k1, vI 1, vI 2, vR s1, vR s2, vR ya, vR yb, vR a1, vR a2, .val (.int (((31 : Int32) * c0) + c1)), vU, vU, vU, vU, vU, vU] [(.int ((31 : Int32) * k0)), (.int (961 : Int32))])) (fun _ k => XS.imul X9.here hx rfl (hb hby at_187) rfl k) ?_
        refine Out.via (g' := (mkF m 189 #[vI p0, vI p1, vI p2, vI c0, vI c1, vI k0, vI k1, vI 1, vI 2, vR s1, vR s2, vR ya, vR yb, vR a1, vR a2, .val (.int (((31 : Int32) * c0) + c1)), vU, vU, vU, vU, vU, vU] [(.int ((961 : Int32) + ((31 : Int32) * k0)))])) (fun _ k => XS.iadd X9.here hx rfl (hb hby at_188) rfl k) ?_
        refine Out.via (g' := (mkF m 191 #[vI p0, vI p1, vI p2, vI c0, vI c1, vI k0, vI k1, vI 1, vI 2, vR s1, vR s2, vR ya, vR yb, vR a1, vR a2, .val (.int (((31 : Int32) * c0) + c1)), vU, vU, vU, vU, vU, vU] [(.int k1), (.int ((961 : Int32) + ((31 : Int32) * k0)))])) (fun _ k => XS.iload X9.here hx rfl (hb hby at_189) rfl k) ?_
        refine Out.via (g' := (mkF m 192 #[vI p0, vI p1, vI p2, vI c0, vI c1, vI k0, vI k1, vI 1, vI 2, vR s1, vR s2, vR ya, vR yb, vR a1, vR a2, .val (.int (((31 : Int32) * c0) + c1)), vU, vU, vU, vU, vU, vU] [(.int (((961 : Int32) + ((31 : Int32) * k0)) + k1))])) (fun _ k => XS.iadd X9.here hx rfl (hb hby at_191) rfl k) ?_
        refine Out.via (g' := (mkF m 194 #[vI p0, vI p1, vI p2, vI c0, vI c1, vI k0, vI k1, vI 1, vI 2, vR s1, vR s2, vR ya, vR yb, vR a1, vR a2, .val (.int (((31 : Int32) * c0) + c1)), .val (.int (((961 : Int32) + ((31 : Int32) * k0)) + k1)), vU, vU, vU, vU, vU] [])) (fun _ k => XS.istore X9.here hx rfl (hb hby at_192) rfl (l' := #[.val (.int p0), .val (.int p1), .val (.int p2), .val (.int c0), .val (.int c1), .val (.int k0), .val (.int k1), .val (.int (1 : Int32)), .val (.int (2 : Int32)), .val (.ref s1), .val (.ref s2), .val (.ref ya), .val (.ref yb), .val (.ref a1), .val (.ref a2), .val (.int (((31 : Int32) * c0) + c1)), .val (.int (((961 : Int32) + ((31 : Int32) * k0)) + k1)), .unset, .unset, .unset, .unset, .unset]) rfl k) ?_
        exact rest _ _ _ _ X9 N0 (by rw [e9]; exact O) (by rw [e9]; exact hk) (by rw [e9]; exact S1) (by rw [e9]; exact By_b1) (by rw [e9]; exact By_t1) (by rw [e9]; exact Ea1) (by rw [e9]; exact Fr1) (by rw [e9]; exact Ft1) (by rw [e9]; exact S2) (by rw [e9]; exact By_b2) (by rw [e9]; exact By_t2) (by rw [e9]; exact Ea2) (by rw [e9]; exact Fr2) (by rw [e9]; exact Ft2) (own_exp22 (k0 := k0) (k1 := k1) hc0 hc1 hx0 hx1)
  clear N0 O hk S1 By_b1 By_t1 Ea1 Fr1 Ft1 S2 By_b2 By_t2 Ea2 Fr2 Ft2
  intro Tr Lr sh kh Xr N0 O hk S1 By_b1 By_t1 Ea1 Fr1 Ft1 S2 By_b2 By_t2 Ea2 Fr2 Ft2 hexp
  refine Out.via (g' := (mkF m 196 #[vI p0, vI p1, vI p2, vI c0, vI c1, vI k0, vI k1, vI tw, vI len, vR s1, vR s2, vR ya, vR yb, vR a1, vR a2, vI sh, vI kh, vU, vU, vU, vU, vU] [(.int (31 : Int32))])) (fun _ k => XS.bipush Xr.here hx rfl (hb hby at_194) k) ?_
  refine Out.via (g' := (mkF m 198 #[vI p0, vI p1, vI p2, vI c0, vI c1, vI k0, vI k1, vI tw, vI len, vR s1, vR s2, vR ya, vR yb, vR a1, vR a2, vI sh, vI kh, vU, vU, vU, vU, vU] [(.int sh), (.int (31 : Int32))])) (fun _ k => XS.iload Xr.here hx rfl (hb hby at_196) rfl k) ?_
  refine Out.via (g' := (mkF m 199 #[vI p0, vI p1, vI p2, vI c0, vI c1, vI k0, vI k1, vI tw, vI len, vR s1, vR s2, vR ya, vR yb, vR a1, vR a2, vI sh, vI kh, vU, vU, vU, vU, vU] [(.int ((31 : Int32) * sh))])) (fun _ k => XS.imul Xr.here hx rfl (hb hby at_198) rfl k) ?_
  refine Out.via (g' := (mkF m 201 #[vI p0, vI p1, vI p2, vI c0, vI c1, vI k0, vI k1, vI tw, vI len, vR s1, vR s2, vR ya, vR yb, vR a1, vR a2, vI sh, vI kh, vU, vU, vU, vU, vU] [(.int kh), (.int ((31 : Int32) * sh))])) (fun _ k => XS.iload Xr.here hx rfl (hb hby at_199) rfl k) ?_
  refine Out.via (g' := (mkF m 202 #[vI p0, vI p1, vI p2, vI c0, vI c1, vI k0, vI k1, vI tw, vI len, vR s1, vR s2, vR ya, vR yb, vR a1, vR a2, vI sh, vI kh, vU, vU, vU, vU, vU] [(.int (((31 : Int32) * sh) + kh))])) (fun _ k => XS.iadd Xr.here hx rfl (hb hby at_201) rfl k) ?_
  refine Out.via (g' := (mkF m 204 #[vI p0, vI p1, vI p2, vI c0, vI c1, vI k0, vI k1, vI tw, vI len, vR s1, vR s2, vR ya, vR yb, vR a1, vR a2, vI sh, vI kh, .val (.int (((31 : Int32) * sh) + kh)), vU, vU, vU, vU] [])) (fun _ k => XS.istore Xr.here hx rfl (hb hby at_202) rfl (l' := #[.val (.int p0), .val (.int p1), .val (.int p2), .val (.int c0), .val (.int c1), .val (.int k0), .val (.int k1), .val (.int tw), .val (.int len), .val (.ref s1), .val (.ref s2), .val (.ref ya), .val (.ref yb), .val (.ref a1), .val (.ref a2), .val (.int sh), .val (.int kh), .val (.int (((31 : Int32) * sh) + kh)), .unset, .unset, .unset, .unset]) rfl k) ?_
  refine Out.via (g' := (mkF m 206 #[vI p0, vI p1, vI p2, vI c0, vI c1, vI k0, vI k1, vI tw, vI len, vR s1, vR s2, vR ya, vR yb, vR a1, vR a2, vI sh, vI kh, .val (.int (((31 : Int32) * sh) + kh)), vU, vU, vU, vU] [(.ref a1)])) (fun _ k => XS.aload Xr.here hx rfl (hb hby at_204) rfl rfl k) ?_
  obtain ⟨cq10, kq10, q10a, q10b, q10c⟩ := isOf hZ rfl Ea1
  obtain ⟨_, _, ⟨T10, L10, kc10, ks10⟩, -, X10, ⟨Lc10, hQ10, l10, y10, z10⟩, st10⟩ := Xr.virtualBack hx (y := own_y27) (z := own_y27) hown (mvT hZ (W_ hw 103 rfl)) (mvT hZ (W_ hw 104 rfl)) (notFace_of_selects (args := #[]) (mvT hZ (W_ hw 106 rfl))) (mvT hZ (W_ hw 106 rfl)) (mvT hZ (W_ hw 105 rfl)) (by decide) (backOf (W := 0) (own_rmBH l Z a0 hw [] a1 s1 b1 t1 kb1 kk1 xs ks x0 x1 k0 k1 G1 Tr.heap n0 O hxs hks Ea1 Fr1 Ft1 g_s1 S1 By_b1 By_t1 O2 P5) hZ (W_ hw 107 rfl) (W_ hw 39 rfl) (by decide) (by decide)) q10a q10c (g := (mkF m 206 #[vI p0, vI p1, vI p2, vI c0, vI c1, vI k0, vI k1, vI tw, vI len, vR s1, vR s2, vR ya, vR yb, vR a1, vR a2, vI sh, vI kh, .val (.int (((31 : Int32) * sh) + kh)), vU, vU, vU, vU] [(.ref a1)])) rfl (by rw [hml]; rfl) (Steps.refl _) (argsL := []) (rest := []) (lenOf own_pd29 rfl) rfl (by show 2 * 0 + _ ≤ _; exact Nat.le_of_eq rfl) (hb hby at_206) (fun _ _ => ⟨rfl, rfl, (by decide : 24 + 0 ≤ _), (by decide : 146 + 0 ≤ _)⟩)
  dsimp only [Pt.U, Pt.locs, Pt.cells, Pt.slots] at X10 l10 y10 z10 st10 hQ10
  subst l10 y10 z10
  obtain ⟨rfl, Nq10, Kq10, Sq10⟩ := hQ10
  replace N0 := Fr.app N0 Nq10
  have ne_b1_s1 : b1 ≠ s1 := Exa.ne By_b1.2 S1.1 (by decide)
  replace hk : _ ≤ T10.heap.size := Nat.le_trans hk Kq10.1
  replace By_b1 := By_b1.keep Kq10 (ninS ne_b1_s1 nin0)
  replace S2 := S2.keep Kq10 (ninS (Ne.symm ne_s1_s2) nin0)
  replace By_b2 := By_b2.keep Kq10 (ninS (Ne.symm ne_s1_b2) nin0)
  replace By_t1 := By_t1.keep Kq10 (ninS (Ne.symm ne_s1_t1) nin0)
  replace By_t2 := By_t2.keep Kq10 (ninS (Ne.symm ne_s1_t2) nin0)
  replace Fr1 := Fr1.keep Kq10 (ninS (Ne.symm ne_s1_a1) nin0)
  replace Ft1 := Ft1.keep Kq10 (ninS (Ne.symm ne_s1_a1) nin0)
  replace Fr2 := Fr2.keep Kq10 (ninS (Ne.symm ne_s1_a2) nin0)
  replace Ft2 := Ft2.keep Kq10 (ninS (Ne.symm ne_s1_a2) nin0)
  replace Ea1 := Ea1.keep Kq10
  replace Ea2 := Ea2.keep Kq10
  replace O := O.keep Kq10 (allS g_s1 all0)
  replace S1 := Sq10
  refine Out.to (g' := (mkF m 209 #[vI p0, vI p1, vI p2, vI c0, vI c1, vI k0, vI k1, vI tw, vI len, vR s1, vR s2, vR ya, vR yb, vR a1, vR a2, vI sh, vI kh, .val (.int (((31 : Int32) * sh) + kh)), vU, vU, vU, vU] [(.int (own_V xs ks))])) st10 ?_
  refine Out.via (g' := (mkF m 211 #[vI p0, vI p1, vI p2, vI c0, vI c1, vI k0, vI k1, vI tw, vI len, vR s1, vR s2, vR ya, vR yb, vR a1, vR a2, vI sh, vI kh, .val (.int (((31 : Int32) * sh) + kh)), .val (.int (own_V xs ks)), vU, vU, vU] [])) (fun _ k => XS.istore X10.here hx rfl (hb hby at_209) rfl (l' := #[.val (.int p0), .val (.int p1), .val (.int p2), .val (.int c0), .val (.int c1), .val (.int k0), .val (.int k1), .val (.int tw), .val (.int len), .val (.ref s1), .val (.ref s2), .val (.ref ya), .val (.ref yb), .val (.ref a1), .val (.ref a2), .val (.int sh), .val (.int kh), .val (.int (((31 : Int32) * sh) + kh)), .val (.int (own_V xs ks)), .unset, .unset, .unset]) rfl k) ?_
  refine Out.via (g' := (mkF m 213 #[vI p0, vI p1, vI p2, vI c0, vI c1, vI k0, vI k1, vI tw, vI len, vR s1, vR s2, vR ya, vR yb, vR a1, vR a2, vI sh, vI kh, .val (.int (((31 : Int32) * sh) + kh)), .val (.int (own_V xs ks)), vU, vU, vU] [(.ref a1)])) (fun _ k => XS.aload X10.here hx rfl (hb hby at_211) rfl rfl k) ?_
  refine Out.via (g' := (mkF m 215 #[vI p0, vI p1, vI p2, vI c0, vI c1, vI k0, vI k1, vI tw, vI len, vR s1, vR s2, vR ya, vR yb, vR a1, vR a2, vI sh, vI kh, .val (.int (((31 : Int32) * sh) + kh)), .val (.int (own_V xs ks)), vU, vU, vU] [(.ref a2), (.ref a1)])) (fun _ k => XS.aload X10.here hx rfl (hb hby at_213) rfl rfl k) ?_
  obtain ⟨hcl, hlat, hxc⟩ : cs.length ≤ 4000 ∧ (∀ c ∈ cs, own_lat c) ∧ xs = cs.map (fun c => c.toInt8.toInt32) := own_cs hc0 hc1 hx0 hx1 ht hcs
  obtain ⟨cq11, kq11, q11a, q11b, q11c⟩ := isOf hZ rfl Ea1
  obtain ⟨_, _, ⟨T11, L11, kc11, ks11⟩, -, X11, ⟨Lc11, hQ11, l11, y11, z11⟩, st11⟩ := X10.virtualBack hx (y := own_y28) (z := own_y28) hown (mvT hZ (W_ hw 130 rfl)) (mvT hZ (W_ hw 131 rfl)) (notFace_of_selects (args := #[]) (mvT hZ (W_ hw 133 rfl))) (mvT hZ (W_ hw 133 rfl)) (mvT hZ (W_ hw 132 rfl)) (by decide) (backOf (W := 0) (own_rmBE l Z a0 hw [] a1 a2 s1 s2 t1 t2 kk1 kk2 cs ks k0 k1 G1 T10.heap n0 O hks Ea1 Ea2 Fr1 Ft1 Fr2 Ft2 (own_spl hlat hxc S1 By_b1) (own_spl hlat hxc S2 By_b2) hcl By_t1 By_t2 O2 P5) hZ (W_ hw 134 rfl) (W_ hw 39 rfl) (by decide) (by decide)) q11a q11c (g := (mkF m 215 #[vI p0, vI p1, vI p2, vI c0, vI c1, vI k0, vI k1, vI tw, vI len, vR s1, vR s2, vR ya, vR yb, vR a1, vR a2, vI sh, vI kh, .val (.int (((31 : Int32) * sh) + kh)), .val (.int (own_V xs ks)), vU, vU, vU] [(.ref a2), (.ref a1)])) rfl (by rw [hml]; rfl) (Steps.refl _) (argsL := [(.ref a2)]) (rest := []) (lenOf own_pd30 rfl) rfl (by show 2 * 0 + _ ≤ _; exact Nat.le_of_eq rfl) (hb hby at_215) (fun _ _ => ⟨rfl, rfl, (by decide : 24 + 0 ≤ _), (by decide : 146 + 0 ≤ _)⟩)
  dsimp only [Pt.U, Pt.locs, Pt.cells, Pt.slots] at X11 l11 y11 z11 st11 hQ11
  subst l11 y11 z11
  obtain ⟨rfl, Nq11, eq11⟩ := hQ11
  replace N0 := Fr.app N0 Nq11
  refine Out.to (g' := (mkF m 218 #[vI p0, vI p1, vI p2, vI c0, vI c1, vI k0, vI k1, vI tw, vI len, vR s1, vR s2, vR ya, vR yb, vR a1, vR a2, vI sh, vI kh, .val (.int (((31 : Int32) * sh) + kh)), .val (.int (own_V xs ks)), vU, vU, vU] [(.int (1 : Int32))])) st11 ?_
  refine Out.via (g' := (mkF m 220 #[vI p0, vI p1, vI p2, vI c0, vI c1, vI k0, vI k1, vI tw, vI len, vR s1, vR s2, vR ya, vR yb, vR a1, vR a2, vI sh, vI kh, .val (.int (((31 : Int32) * sh) + kh)), .val (.int (own_V xs ks)), vI 1, vU, vU] [])) (fun _ k => XS.istore X11.here hx rfl (hb hby at_218) rfl (l' := #[.val (.int p0), .val (.int p1), .val (.int p2), .val (.int c0), .val (.int c1), .val (.int k0), .val (.int k1), .val (.int tw), .val (.int len), .val (.ref s1), .val (.ref s2), .val (.ref ya), .val (.ref yb), .val (.ref a1), .val (.ref a2), .val (.int sh), .val (.int kh), .val (.int (((31 : Int32) * sh) + kh)), .val (.int (own_V xs ks)), .val (.int (1 : Int32)), .unset, .unset]) rfl k) ?_
  refine Out.via (g' := (mkF m 222 #[vI p0, vI p1, vI p2, vI c0, vI c1, vI k0, vI k1, vI tw, vI len, vR s1, vR s2, vR ya, vR yb, vR a1, vR a2, vI sh, vI kh, .val (.int (((31 : Int32) * sh) + kh)), .val (.int (own_V xs ks)), vI 1, vU, vU] [(.ref a2)])) (fun _ k => XS.aload X11.here hx rfl (hb hby at_220) rfl rfl k) ?_
  obtain ⟨cq12, kq12, q12a, q12b, q12c⟩ := isOf hZ eq11 Ea2
  obtain ⟨_, _, ⟨T12, L12, kc12, ks12⟩, -, X12, ⟨Lc12, hQ12, l12, y12, z12⟩, st12⟩ := X11.virtualBack hx (y := own_y27) (z := own_y27) hown (mvT hZ (W_ hw 103 rfl)) (mvT hZ (W_ hw 104 rfl)) (notFace_of_selects (args := #[]) (mvT hZ (W_ hw 106 rfl))) (mvT hZ (W_ hw 106 rfl)) (mvT hZ (W_ hw 105 rfl)) (by decide) (backOf (W := 0) (own_rmBH l Z a0 hw [] a2 s2 b2 t2 kb2 kk2 xs ks x0 x1 k0 k1 G1 T10.heap n0 O hxs hks Ea2 Fr2 Ft2 g_s2 S2 By_b2 By_t2 O2 P5) hZ (W_ hw 107 rfl) (W_ hw 39 rfl) (by decide) (by decide)) q12a q12c (g := (mkF m 222 #[vI p0, vI p1, vI p2, vI c0, vI c1, vI k0, vI k1, vI tw, vI len, vR s1, vR s2, vR ya, vR yb, vR a1, vR a2, vI sh, vI kh, .val (.int (((31 : Int32) * sh) + kh)), .val (.int (own_V xs ks)), vI 1, vU, vU] [(.ref a2)])) rfl (by rw [hml]; rfl) (Steps.refl _) (argsL := []) (rest := []) (lenOf own_pd29 rfl) rfl (by show 2 * 0 + _ ≤ _; exact Nat.le_of_eq rfl) (hb hby at_222) (fun _ _ => ⟨rfl, eq11, (by decide : 24 + 0 ≤ _), (by decide : 146 + 0 ≤ _)⟩)
  dsimp only [Pt.U, Pt.locs, Pt.cells, Pt.slots] at X12 l12 y12 z12 st12 hQ12
  subst l12 y12 z12
  obtain ⟨rfl, Nq12, Kq12, Sq12⟩ := hQ12
  replace N0 := Fr.app N0 Nq12
  have ne_b2_s2 : b2 ≠ s2 := Exa.ne By_b2.2 S2.1 (by decide)
  replace hk : _ ≤ T12.heap.size := Nat.le_trans hk Kq12.1
  replace By_b1 := By_b1.keep Kq12 (ninS ne_b1_s2 nin0)
  replace By_b2 := By_b2.keep Kq12 (ninS ne_b2_s2 nin0)
  replace By_t1 := By_t1.keep Kq12 (ninS (Ne.symm ne_s2_t1) nin0)
  replace By_t2 := By_t2.keep Kq12 (ninS (Ne.symm ne_s2_t2) nin0)
  replace S1 := S1.keep Kq12 (ninS ne_s1_s2 nin0)
  replace Fr1 := Fr1.keep Kq12 (ninS (Ne.symm ne_s2_a1) nin0)
  replace Ft1 := Ft1.keep Kq12 (ninS (Ne.symm ne_s2_a1) nin0)
  replace Fr2 := Fr2.keep Kq12 (ninS (Ne.symm ne_s2_a2) nin0)
  replace Ft2 := Ft2.keep Kq12 (ninS (Ne.symm ne_s2_a2) nin0)
  replace Ea1 := Ea1.keep Kq12
  replace Ea2 := Ea2.keep Kq12
  replace O := O.keep Kq12 (allS g_s2 all0)
  replace S2 := Sq12
  refine Out.to (g' := (mkF m 225 #[vI p0, vI p1, vI p2, vI c0, vI c1, vI k0, vI k1, vI tw, vI len, vR s1, vR s2, vR ya, vR yb, vR a1, vR a2, vI sh, vI kh, .val (.int (((31 : Int32) * sh) + kh)), .val (.int (own_V xs ks)), vI 1, vU, vU] [(.int (own_V xs ks))])) st12 ?_
  refine Out.via (g' := (mkF m 227 #[vI p0, vI p1, vI p2, vI c0, vI c1, vI k0, vI k1, vI tw, vI len, vR s1, vR s2, vR ya, vR yb, vR a1, vR a2, vI sh, vI kh, .val (.int (((31 : Int32) * sh) + kh)), .val (.int (own_V xs ks)), vI 1, .val (.int (own_V xs ks)), vU] [])) (fun _ k => XS.istore X12.here hx rfl (hb hby at_225) rfl (l' := #[.val (.int p0), .val (.int p1), .val (.int p2), .val (.int c0), .val (.int c1), .val (.int k0), .val (.int k1), .val (.int tw), .val (.int len), .val (.ref s1), .val (.ref s2), .val (.ref ya), .val (.ref yb), .val (.ref a1), .val (.ref a2), .val (.int sh), .val (.int kh), .val (.int (((31 : Int32) * sh) + kh)), .val (.int (own_V xs ks)), .val (.int (1 : Int32)), .val (.int (own_V xs ks)), .unset]) rfl k) ?_
  refine Out.via (g' := (mkF m 229 #[vI p0, vI p1, vI p2, vI c0, vI c1, vI k0, vI k1, vI tw, vI len, vR s1, vR s2, vR ya, vR yb, vR a1, vR a2, vI sh, vI kh, .val (.int (((31 : Int32) * sh) + kh)), .val (.int (own_V xs ks)), vI 1, .val (.int (own_V xs ks)), vU] [(.ref a1)])) (fun _ k => XS.aload X12.here hx rfl (hb hby at_227) rfl rfl k) ?_
  obtain ⟨cq13, kq13, q13a, q13b, q13c⟩ := isOf hZ rfl Ea1
  obtain ⟨_, _, ⟨T13, L13, kc13, ks13⟩, -, X13, ⟨Lc13, hQ13, l13, y13, z13⟩, st13⟩ := X12.virtualBack hx (y := own_y27) (z := own_y27) hown (mvT hZ (W_ hw 103 rfl)) (mvT hZ (W_ hw 104 rfl)) (notFace_of_selects (args := #[]) (mvT hZ (W_ hw 106 rfl))) (mvT hZ (W_ hw 106 rfl)) (mvT hZ (W_ hw 105 rfl)) (by decide) (backOf (W := 0) (own_rmBH l Z a0 hw [] a1 s1 b1 t1 kb1 kk1 xs ks x0 x1 k0 k1 G1 T12.heap n0 O hxs hks Ea1 Fr1 Ft1 g_s1 S1 By_b1 By_t1 O2 P5) hZ (W_ hw 107 rfl) (W_ hw 39 rfl) (by decide) (by decide)) q13a q13c (g := (mkF m 229 #[vI p0, vI p1, vI p2, vI c0, vI c1, vI k0, vI k1, vI tw, vI len, vR s1, vR s2, vR ya, vR yb, vR a1, vR a2, vI sh, vI kh, .val (.int (((31 : Int32) * sh) + kh)), .val (.int (own_V xs ks)), vI 1, .val (.int (own_V xs ks)), vU] [(.ref a1)])) rfl (by rw [hml]; rfl) (Steps.refl _) (argsL := []) (rest := []) (lenOf own_pd29 rfl) rfl (by show 2 * 0 + _ ≤ _; exact Nat.le_of_eq rfl) (hb hby at_229) (fun _ _ => ⟨rfl, rfl, (by decide : 24 + 0 ≤ _), (by decide : 146 + 0 ≤ _)⟩)
  dsimp only [Pt.U, Pt.locs, Pt.cells, Pt.slots] at X13 l13 y13 z13 st13 hQ13
  subst l13 y13 z13
  obtain ⟨rfl, Nq13, Kq13, Sq13⟩ := hQ13
  replace N0 := Fr.app N0 Nq13
  replace hk : _ ≤ T13.heap.size := Nat.le_trans hk Kq13.1
  replace By_b1 := By_b1.keep Kq13 (ninS ne_b1_s1 nin0)
  replace By_b2 := By_b2.keep Kq13 (ninS (Ne.symm ne_s1_b2) nin0)
  replace By_t1 := By_t1.keep Kq13 (ninS (Ne.symm ne_s1_t1) nin0)
  replace By_t2 := By_t2.keep Kq13 (ninS (Ne.symm ne_s1_t2) nin0)
  replace S2 := S2.keep Kq13 (ninS (Ne.symm ne_s1_s2) nin0)
  replace Fr1 := Fr1.keep Kq13 (ninS (Ne.symm ne_s1_a1) nin0)
  replace Ft1 := Ft1.keep Kq13 (ninS (Ne.symm ne_s1_a1) nin0)
  replace Fr2 := Fr2.keep Kq13 (ninS (Ne.symm ne_s1_a2) nin0)
  replace Ft2 := Ft2.keep Kq13 (ninS (Ne.symm ne_s1_a2) nin0)
  replace Ea1 := Ea1.keep Kq13
  replace Ea2 := Ea2.keep Kq13
  replace O := O.keep Kq13 (allS g_s1 all0)
  replace S1 := Sq13
  refine Out.to (g' := (mkF m 232 #[vI p0, vI p1, vI p2, vI c0, vI c1, vI k0, vI k1, vI tw, vI len, vR s1, vR s2, vR ya, vR yb, vR a1, vR a2, vI sh, vI kh, .val (.int (((31 : Int32) * sh) + kh)), .val (.int (own_V xs ks)), vI 1, .val (.int (own_V xs ks)), vU] [(.int (own_V xs ks))])) st13 ?_
  refine Out.via (g' := (mkF m 234 #[vI p0, vI p1, vI p2, vI c0, vI c1, vI k0, vI k1, vI tw, vI len, vR s1, vR s2, vR ya, vR yb, vR a1, vR a2, vI sh, vI kh, .val (.int (((31 : Int32) * sh) + kh)), .val (.int (own_V xs ks)), vI 1, .val (.int (own_V xs ks)), .val (.int (own_V xs ks))] [])) (fun _ k => XS.istore X13.here hx rfl (hb hby at_232) rfl (l' := #[.val (.int p0), .val (.int p1), .val (.int p2), .val (.int c0), .val (.int c1), .val (.int k0), .val (.int k1), .val (.int tw), .val (.int len), .val (.ref s1), .val (.ref s2), .val (.ref ya), .val (.ref yb), .val (.ref a1), .val (.ref a2), .val (.int sh), .val (.int kh), .val (.int (((31 : Int32) * sh) + kh)), .val (.int (own_V xs ks)), .val (.int (1 : Int32)), .val (.int (own_V xs ks)), .val (.int (own_V xs ks))]) rfl k) ?_
  refine Out.via (g' := (mkF m 236 #[vI p0, vI p1, vI p2, vI c0, vI c1, vI k0, vI k1, vI tw, vI len, vR s1, vR s2, vR ya, vR yb, vR a1, vR a2, vI sh, vI kh, .val (.int (((31 : Int32) * sh) + kh)), .val (.int (own_V xs ks)), vI 1, .val (.int (own_V xs ks)), .val (.int (own_V xs ks))] [(.int (1 : Int32))])) (fun _ k => XS.iload X13.here hx rfl (hb hby at_234) rfl k) ?_
  refine Out.via (g' := (mkF m 239 #[vI p0, vI p1, vI p2, vI c0, vI c1, vI k0, vI k1, vI tw, vI len, vR s1, vR s2, vR ya, vR yb, vR a1, vR a2, vI sh, vI kh, .val (.int (((31 : Int32) * sh) + kh)), .val (.int (own_V xs ks)), vI 1, .val (.int (own_V xs ks)), .val (.int (own_V xs ks))] [])) (fun _ k => XS.ifNo X13.here hx rfl (hb hby at_236) rfl ((if0 _ _).trans (feq (by decide)).1) k) ?_
  refine Out.via (g' := (mkF m 241 #[vI p0, vI p1, vI p2, vI c0, vI c1, vI k0, vI k1, vI tw, vI len, vR s1, vR s2, vR ya, vR yb, vR a1, vR a2, vI sh, vI kh, .val (.int (((31 : Int32) * sh) + kh)), .val (.int (own_V xs ks)), vI 1, .val (.int (own_V xs ks)), .val (.int (own_V xs ks))] [(.int (own_V xs ks))])) (fun _ k => XS.iload X13.here hx rfl (hb hby at_239) rfl k) ?_
  refine Out.via (g' := (mkF m 243 #[vI p0, vI p1, vI p2, vI c0, vI c1, vI k0, vI k1, vI tw, vI len, vR s1, vR s2, vR ya, vR yb, vR a1, vR a2, vI sh, vI kh, .val (.int (((31 : Int32) * sh) + kh)), .val (.int (own_V xs ks)), vI 1, .val (.int (own_V xs ks)), .val (.int (own_V xs ks))] [(.int (own_V xs ks)), (.int (own_V xs ks))])) (fun _ k => XS.iload X13.here hx rfl (hb hby at_241) rfl k) ?_
  refine Out.via (g' := (mkF m 246 #[vI p0, vI p1, vI p2, vI c0, vI c1, vI k0, vI k1, vI tw, vI len, vR s1, vR s2, vR ya, vR yb, vR a1, vR a2, vI sh, vI kh, .val (.int (((31 : Int32) * sh) + kh)), .val (.int (own_V xs ks)), vI 1, .val (.int (own_V xs ks)), .val (.int (own_V xs ks))] [])) (fun _ k => XS.icmpNo X13.here hx rfl (hb hby at_243) rfl (teq rfl).2 k) ?_
  refine Out.via (g' := (mkF m 248 #[vI p0, vI p1, vI p2, vI c0, vI c1, vI k0, vI k1, vI tw, vI len, vR s1, vR s2, vR ya, vR yb, vR a1, vR a2, vI sh, vI kh, .val (.int (((31 : Int32) * sh) + kh)), .val (.int (own_V xs ks)), vI 1, .val (.int (own_V xs ks)), .val (.int (own_V xs ks))] [(.int (own_V xs ks))])) (fun _ k => XS.iload X13.here hx rfl (hb hby at_246) rfl k) ?_
  refine Out.via (g' := (mkF m 250 #[vI p0, vI p1, vI p2, vI c0, vI c1, vI k0, vI k1, vI tw, vI len, vR s1, vR s2, vR ya, vR yb, vR a1, vR a2, vI sh, vI kh, .val (.int (((31 : Int32) * sh) + kh)), .val (.int (own_V xs ks)), vI 1, .val (.int (own_V xs ks)), .val (.int (own_V xs ks))] [(.int (own_V xs ks)), (.int (own_V xs ks))])) (fun _ k => XS.iload X13.here hx rfl (hb hby at_248) rfl k) ?_
  refine Out.via (g' := (mkF m 253 #[vI p0, vI p1, vI p2, vI c0, vI c1, vI k0, vI k1, vI tw, vI len, vR s1, vR s2, vR ya, vR yb, vR a1, vR a2, vI sh, vI kh, .val (.int (((31 : Int32) * sh) + kh)), .val (.int (own_V xs ks)), vI 1, .val (.int (own_V xs ks)), .val (.int (own_V xs ks))] [])) (fun _ k => XS.icmpNo X13.here hx rfl (hb hby at_250) rfl (teq rfl).2 k) ?_
  refine Out.via (g' := (mkF m 255 #[vI p0, vI p1, vI p2, vI c0, vI c1, vI k0, vI k1, vI tw, vI len, vR s1, vR s2, vR ya, vR yb, vR a1, vR a2, vI sh, vI kh, .val (.int (((31 : Int32) * sh) + kh)), .val (.int (own_V xs ks)), vI 1, .val (.int (own_V xs ks)), .val (.int (own_V xs ks))] [(.int (own_V xs ks))])) (fun _ k => XS.iload X13.here hx rfl (hb hby at_253) rfl k) ?_
  refine Out.via (g' := (mkF m 257 #[vI p0, vI p1, vI p2, vI c0, vI c1, vI k0, vI k1, vI tw, vI len, vR s1, vR s2, vR ya, vR yb, vR a1, vR a2, vI sh, vI kh, .val (.int (((31 : Int32) * sh) + kh)), .val (.int (own_V xs ks)), vI 1, .val (.int (own_V xs ks)), .val (.int (own_V xs ks))] [(.int (((31 : Int32) * sh) + kh)), (.int (own_V xs ks))])) (fun _ k => XS.iload X13.here hx rfl (hb hby at_255) rfl k) ?_
  refine Out.via (g' := (mkF m 260 #[vI p0, vI p1, vI p2, vI c0, vI c1, vI k0, vI k1, vI tw, vI len, vR s1, vR s2, vR ya, vR yb, vR a1, vR a2, vI sh, vI kh, .val (.int (((31 : Int32) * sh) + kh)), .val (.int (own_V xs ks)), vI 1, .val (.int (own_V xs ks)), .val (.int (own_V xs ks))] [])) (fun _ k => XS.icmpNo X13.here hx rfl (hb hby at_257) rfl (teq hexp).2 k) ?_
  refine Out.via (g' := (mkF m 261 #[vI p0, vI p1, vI p2, vI c0, vI c1, vI k0, vI k1, vI tw, vI len, vR s1, vR s2, vR ya, vR yb, vR a1, vR a2, vI sh, vI kh, .val (.int (((31 : Int32) * sh) + kh)), .val (.int (own_V xs ks)), vI 1, .val (.int (own_V xs ks)), .val (.int (own_V xs ks))] [(.int (1 : Int32))])) (fun _ k => XS.iconst X13.here hx rfl (hb hby at_260) k) ?_
  refine Out.via (g' := (mkF m 265 #[vI p0, vI p1, vI p2, vI c0, vI c1, vI k0, vI k1, vI tw, vI len, vR s1, vR s2, vR ya, vR yb, vR a1, vR a2, vI sh, vI kh, .val (.int (((31 : Int32) * sh) + kh)), .val (.int (own_V xs ks)), vI 1, .val (.int (own_V xs ks)), .val (.int (own_V xs ks))] [(.int (1 : Int32))])) (fun _ k => XS.goto X13.here hx rfl (pc0 := 261) (pc' := 265) rfl (hb hby at_261) (by decide) (by decide) k) ?_
  exact Out.endW X13 hS hk (fun h => by rw [Bd.returns] at h; cases h) Bd.notSynchronized (by decide) (by decide) (⟨rfl, N0⟩) (fun fs hr => Jvm.RoadKit.retN X13 hx (t := .boolean) Bd.returns (by simp) (hb hby at_265) hr)
theorem own_eqI {args : Array Value} {s : State} {t : Term} {n : Int32} (h : (Jvm.Cond.eq t (.int n)).value args s none s [] = some true) : t.eval args s none [] s = some (.int n) := by
  obtain ⟨x, y, h1, h2, hk, hk'⟩ := cmp_v (Or.inl h)
  obtain rfl : y = .int n := (Option.some.inj ((Term.int_eval n).symm.trans h2)).symm
  obtain ⟨z, rfl⟩ : ∃ z, x = .int z := hk'
  rw [h1, gotT (Cond.eq_ints h1 h2) h]
theorem own_eqR {args : Array Value} {s : State} {t u : Term} {a : Addr} (h : (Jvm.Cond.eq t u).value args s none s [] = some true) (hu : u.eval args s none [] s = some (.ref a)) : t.eval args s none [] s = some (.ref a) := by
  obtain ⟨x, y, h1, h2, hk, hk'⟩ := cmp_v (Or.inl h)
  obtain rfl : y = .ref a := (Option.some.inj (hu.symm.trans h2)).symm
  rw [h1, gotT (eq_R h1 h2 hk'.2 hk'.1) h]
theorem own_len {args : Array Value} {s : State} {t : Term} {n : Int32} {a : Addr} {cl : Cell} {ty : FieldType} (h : (Term.length t).eval args s none [] s = some (.int n)) (ht : t.eval args s none [] s = some (.ref a)) (A : Arr s s.heap a cl ty) : cl.slots.size < 2 ^ 31 ∧ cl.slots.size.toInt32 = n := by
  obtain ⟨b, cell, e1, e2, e3, e4⟩ := Jvm.Lib.length_spec h
  cases ht.symm.trans e1
  cases A.1.symm.trans (State.arrayAt?_spec e2).1
  exact ⟨e3, (Value.int.inj e4).symm⟩
set_option maxRecDepth 65536 in
set_option maxHeartbeats 40000000 in
theorem comes_1 {Post : Tables → Env → Array Value → State → Outcome → State → Prop} (hpost : ∀ tb e args s v u, (limb_1_1.after args s (.returned v) u = true ∧ limb_1_2.after args s (.returned v) u = true ∧ True) → ReturnedEndW s (.returned v) u (Jvm.fieldLocs frame_1_writes args s ++ Jvm.arrayLocs frame_1_arrays args s ++ Jvm.staticLocs frame_1_statics s) 48 2240 → Post tb e args s (.returned v) u) :
    ArmFor flags0 classFile x code maxLocals ret World_1 tables_1 room_1 Calls_1 rest_1 Pre_1 Post := by
  intro l hfl _ _ p e ha hc hk s m args below hf hA hF happ hP
  obtain ⟨hcalls, hrest, hpre⟩ := hP
  obtain ⟨-, -, -, hnamed, -, -, -, hat⟩ := (Spec.applies_iff hf).mp happ
  obtain ⟨hg, hn⟩ := and_e (Cond.before_iff.mp (show (Jvm.Cond.and given_1 narrow_1).before args s = true from hpre))
  obtain ⟨hcnt, hg⟩ := and_e hg
  obtain ⟨g0, hg⟩ := and_e hg
  obtain ⟨g1, hg⟩ := and_e hg
  have g2 := hg
  obtain ⟨w0, w1, w2, rfl⟩ : ∃ w0 w1 w2 : Value, args = #[w0, w1, w2] := by
    have hs : args.size = 3 := by simpa [Cond.value, given_1] using hcnt
    obtain ⟨L⟩ := args
    match L, hs with
    | [w0, w1, w2], _ => exact ⟨w0, w1, w2, rfl⟩
  have hw := fun d (hd : d ∈ tables_1) => atoms_spec (ws := Jvm.Cond.code x code maxLocals ret :: tables_1) hat d (List.mem_cons_of_mem _ hd)
  obtain ⟨hsets, hown0⟩ := atoms_of _ (rest_1_c_eq ▸ (show rest_1_c.before _ s = true from hrest))
  have hfit : Fit s := fun {y c} hc i hi => by
    obtain ⟨ha, rfl⟩ := Array.getElem?_eq_some_iff.mp hc
    have q := List.all_eq_true.mp ((Array.all_eq_true_iff_forall_mem.mp hF) _ (Array.getElem_mem ha)) i (List.mem_range.mpr hi)
    simpa [Array.getElem?_eq_getElem hi] using q
  obtain ⟨i0, ei0⟩ := is_v g0
  obtain rfl : w0 = (.int i0) := Option.some.inj ei0
  obtain ⟨i1, ei1⟩ := is_v g1
  obtain rfl : w1 = (.int i1) := Option.some.inj ei1
  obtain ⟨i2, ei2⟩ := is_v g2
  obtain rfl : w2 = (.int i2) := Option.some.inj ei2
  have n5 := not_v (Cond.before_iff.mp (hsets _ (List.mem_of_getElem? (i := 2) rfl)))
  obtain ⟨i11, e10⟩ := is_v (Cond.before_iff.mp (hsets _ (List.mem_of_getElem? (i := 1) rfl)))
  have S12 : Sta s s.heap "java/lang/String" "COMPACT_STRINGS" "Z" (.int i11) := Sta.start e10 (Or.inl (hsets _ (List.mem_of_getElem? (i := 0) rfl)))
  have c17 : ¬ (i11 = (0 : Int32)) := gotF (Cond.eq_ints e10 (Term.int_eval (0))) n5
  have hcw := hsets _ (List.mem_of_getElem? (i := 2) rfl)
  obtain ⟨u8, eu⟩ := exa_v (Cond.before_iff.mp (hsets _ (List.mem_of_getElem? (i := 17) rfl)))
  have V_u := Sta.start eu (Or.inl (hsets _ (List.mem_of_getElem? (i := 16) rfl)))
  have V_c := Sta.start (own_eqR (Cond.before_iff.mp (hsets _ (List.mem_of_getElem? (i := 13) rfl))) eu) (Or.inl (hsets _ (List.mem_of_getElem? (i := 10) rfl)))
  obtain ⟨n, o, h1, h2, h3, _, L, rfl, ⟨rfl, N⟩, hq⟩ := own_rm0 l s _ hw tables_1 i0 i1 i2 u8 i11 s.heap s.heap.size (Old.start s) S12 c17 V_u V_c p e ha hc hk s m _ below hf ((Spec.applies_iff_loose hf).mp happ).1 ⟨rfl, State.Warmed39.refl s, rfl⟩ trivial
  refine ⟨n, _, h1, h2, h3, hpost _ _ _ _ _ _ ⟨Cond.after_iff.mpr rfl, Cond.after_iff.mpr (eq_i res_at (Term.int_eval (1)) rfl), trivial⟩ ⟨hq.1, hq.2.1, hq.2.2.1, (hq.2.2.2.sift fun y hy => Or.inr (N y hy)).mono (by decide) (by decide)⟩⟩
theorem main_1_1 : Claimed_1_1 := comes_1 fun _ _ _ _ _ _ h hF => ⟨h.1, hF⟩
theorem main_1_2 : Claimed_1_2 := comes_1 fun _ _ _ _ _ _ h hF => ⟨h.2.1, hF⟩
end Jvm.Pilot.@@N@@
namespace Jvm.Pilot.@@N@@
open Jvm Jvm.ClassFile Sem Op Lib Jvm.Free Jvm.Stand Jvm.Pilot.@@N@@.Jvm.D
/-! MADE BY PROGRAM (witnessworld.py) out of the Statement's table words and the real class files: 31 classes; the members and pool entries that the words name. The judged class is class 1, her method 3. -/
namespace start1
open Jvm.ClassFile
def u (s : String) : CpInfo := .utf8 (stringToUtf16 s)
/-- a pool by its gaps: so many unusable entries, then the entry; so many at the end -/
def gap : Nat → List CpInfo → List CpInfo
  | 0, r => r
  | n + 1, r => .unusable :: gap n r
def poolList (es : List (Nat × CpInfo)) (last : Nat) : List CpInfo := es.foldr (fun e r => gap e.1 (e.2 :: r)) (gap last [])
def pool (es : List (Nat × CpInfo)) (last : Nat) : Array CpInfo := ⟨poolList es last⟩
def fileOf (pool : Array CpInfo) (this : Nat) (attrs : Array Attribute := #[]) (ms : Array MethodInfo := #[]) (fl : Nat := 33) (sup : Nat := 0) (ifs : Array Nat := #[]) (fds : Array FieldInfo := #[]) : ClassFile where
  minorVersion := 0
  majorVersion := 65
  constantPool := pool
  accessFlags := fl
  thisClass := this
  superClass := sup
  interfaces := ifs
  fields := fds
  methods := ms
  attributes := attrs
def plain (name : String) (sup : Option ClassId) : Class where
  name := name
  kind := .ordinary
  loader := none
  accessFlags := 33
  super := sup
  interfaces := #[]
  cf := none
  fields := #[]
  methods := #[]
  instanceTypes := #[]
  staticTypes := #[]
  resolved := #[]
  callSites := []
  init := .initialized
  statics := none
  mirror := none

def pool0 : Array CpInfo := pool [(5, u "<init>"), (0, u "()V"), (1, .class_ 10), (1, u "java/lang/Object"), (85, u "clone"), (0, u "()Ljava/lang/Object;")] 26

def k0c0 : Code := { maxStack := 0, maxLocals := 1, code := object_method_1_code, exceptionTable := #[], attributes := #[] }
def k0m0 : Method := { name := "<init>", desc := "()V", sig := { parameters := [], returnType := none }, accessFlags := 1, code := some k0c0 }
def k0m1 : Method := { name := "clone", desc := "()Ljava/lang/Object;", sig := { parameters := [], returnType := some (.object "java/lang/Object") }, accessFlags := 260, code := none }
/-- java/lang/Object -/
def k0 : Class := { plain "java/lang/Object" none with
  accessFlags := 33
  interfaces := #[]
  cf := some (fileOf pool0 8 #[] #[{ accessFlags := 1, nameIndex := 5, descriptorIndex := 6, attributes := #[] }, { accessFlags := 260, nameIndex := 96, descriptorIndex := 97, attributes := #[] }] 33 0 #[] #[])
  fields := #[]
  methods := #[k0m0, k0m1]
  instanceTypes := #[]
  staticTypes := #[]
  resolved := Array.replicate 124 none
  statics := none }

def pool1 : Array CpInfo := pool [(2, .class_ 4), (1, u "java/lang/Object"), (0, u "<init>"), (0, u "()V"), (0, .class_ 8), (0, u "java/lang/String"), (0, .methodref 7 10), (0, .nameAndType 5 11), (0, u "([C)V"), (0, .methodref 13 14), (0, .class_ 15), (0, .nameAndType 16 17), (0, u "com/example/commitwright/commitwright/core/BranchHashCodePinLaw"), (0, u "name"), (0, u "(ZCC)Ljava/lang/String;"), (0, .methodref 13 19), (0, .nameAndType 20 21), (0, u "key"), (0, u "(IBB)[B"), (0, .class_ 23), (0, u "com/example/commitwright/commitwright/core/Branch"), (0, .methodref 22 25), (0, .nameAndType 5 26), (0, u "(Ljava/lang/String;[B)V"), (0, .methodref 22 28), (0, .nameAndType 29 30), (0, u "hashCode"), (0, u "()I"), (0, .methodref 22 32), (0, .nameAndType 33 34), (0, u "equals"), (0, u "(Ljava/lang/Object;)Z"), (3, u "law"), (0, u "(III)Z")] 4

def k1m0 : Method := { name := "<init>", desc := "()V", sig := { parameters := [], returnType := none }, accessFlags := 2, code := none }
def k1c1 : Code := { maxStack := 3, maxLocals := 4, code := method_2_code, exceptionTable := #[], attributes := #[] }
def k1m1 : Method := { name := "name", desc := "(ZCC)Ljava/lang/String;", sig := { parameters := [.boolean, .char, .char], returnType := some (.object "java/lang/String") }, accessFlags := 10, code := some k1c1 }
def k1c2 : Code := { maxStack := 3, maxLocals := 4, code := method_3_code, exceptionTable := #[], attributes := #[] }
def k1m2 : Method := { name := "key", desc := "(IBB)[B", sig := { parameters := [.int, .byte, .byte], returnType := some (.array .byte) }, accessFlags := 10, code := some k1c2 }
def k1c3 : Code := { maxStack := 4, maxLocals := 22, code := code, exceptionTable := #[], attributes := #[] }
def k1m3 : Method := { name := "law", desc := "(III)Z", sig := { parameters := [.int, .int, .int], returnType := some .boolean }, accessFlags := 9, code := some k1c3 }
/-- com/example/commitwright/commitwright/core/BranchHashCodePinLaw -/
def k1 : Class := { plain "com/example/commitwright/commitwright/core/BranchHashCodePinLaw" (some 0) with
  accessFlags := 49
  interfaces := #[]
  cf := some (fileOf pool1 13 #[] #[{ accessFlags := 2, nameIndex := 5, descriptorIndex := 6, attributes := #[] }, { accessFlags := 10, nameIndex := 16, descriptorIndex := 17, attributes := #[] }, { accessFlags := 10, nameIndex := 20, descriptorIndex := 21, attributes := #[] }, { accessFlags := 9, nameIndex := 38, descriptorIndex := 39, attributes := #[] }] 49 2 #[] #[])
  fields := #[]
  methods := #[k1m0, k1m1, k1m2, k1m3]
  instanceTypes := #[]
  staticTypes := #[]
  resolved := Array.replicate 44 none
  statics := none }

def pool2 : Array CpInfo := pool [(1, .class_ 2), (0, u "java/io/Serializable"), (0, .class_ 4), (0, u "java/lang/Object")] 2

/-- java/io/Serializable -/
def k2 : Class := { plain "java/io/Serializable" (some 0) with
  accessFlags := 1537
  interfaces := #[]
  cf := some (fileOf pool2 1 #[] #[] 1537 3 #[] #[])
  fields := #[]
  methods := #[]
  instanceTypes := #[]
  staticTypes := #[]
  resolved := Array.replicate 7 none
  statics := none }

def pool3 : Array CpInfo := pool [(1, .class_ 2), (0, u "java/lang/Comparable"), (0, .class_ 4), (0, u "java/lang/Object")] 7

/-- java/lang/Comparable -/
def k3 : Class := { plain "java/lang/Comparable" (some 0) with
  accessFlags := 1537
  interfaces := #[]
  cf := some (fileOf pool3 1 #[] #[] 1537 3 #[] #[])
  fields := #[]
  methods := #[]
  instanceTypes := #[]
  staticTypes := #[]
  resolved := Array.replicate 12 none
  statics := none }

def pool4 : Array CpInfo := pool [(2, .class_ 4), (1, u "java/lang/CharSequence"), (42, .class_ 48), (0, u "java/lang/CharSequence$1CodePointIterator"), (10, .class_ 60), (0, u "java/lang/CharSequence$1CharIterator"), (5, .class_ 67), (0, u "java/lang/Object")] 63

/-- java/lang/CharSequence -/
def k4 : Class := { plain "java/lang/CharSequence" (some 0) with
  accessFlags := 1537
  interfaces := #[]
  cf := some (fileOf pool4 2 #[.nestMembers #[47, 59]] #[] 1537 66 #[] #[])
  fields := #[]
  methods := #[]
  instanceTypes := #[]
  staticTypes := #[]
  resolved := Array.replicate 131 none
  statics := none }

def pool5 : Array CpInfo := pool [(1, .class_ 2), (0, u "java/lang/constant/Constable"), (0, .class_ 4), (0, u "java/lang/Object")] 6

/-- java/lang/constant/Constable -/
def k5 : Class := { plain "java/lang/constant/Constable" (some 0) with
  accessFlags := 1537
  interfaces := #[]
  cf := some (fileOf pool5 1 #[] #[] 1537 3 #[] #[])
  fields := #[]
  methods := #[]
  instanceTypes := #[]
  staticTypes := #[]
  resolved := Array.replicate 11 none
  statics := none }

def pool6 : Array CpInfo := pool [(1, .class_ 2), (0, u "java/lang/constant/ConstantDesc"), (0, .class_ 4), (0, u "java/lang/Object")] 32

/-- java/lang/constant/ConstantDesc -/
def k6 : Class := { plain "java/lang/constant/ConstantDesc" (some 0) with
  accessFlags := 1537
  interfaces := #[]
  cf := some (fileOf pool6 1 #[] #[] 1537 3 #[] #[])
  fields := #[]
  methods := #[]
  instanceTypes := #[]
  staticTypes := #[]
  resolved := Array.replicate 37 none
  statics := none }

def pool7 : Array CpInfo := pool [(1, .methodref 2 3), (0, .class_ 4), (0, .nameAndType 5 6), (0, u "java/lang/Object"), (0, u "<init>"), (0, u "()V"), (2, .fieldref 10 11), (0, .class_ 12), (0, .nameAndType 13 14), (0, u "java/lang/String"), (0, u "value"), (0, u "[B"), (0, .fieldref 10 16), (0, .nameAndType 17 18), (0, u "coder"), (0, u "B"), (0, .fieldref 10 20), (0, .nameAndType 21 22), (0, u "hash"), (0, u "I"), (0, .fieldref 10 24), (0, .nameAndType 25 26), (0, u "hashIsZero"), (0, u "Z"), (0, .methodref 10 28), (0, .nameAndType 5 29), (0, u "([CIILjava/lang/Void;)V"), (8, .fieldref 10 39), (0, .nameAndType 40 26), (0, u "COMPACT_STRINGS"), (1, .class_ 44), (1, u "java/lang/StringUTF16"), (0, u "compress"), (1, .methodref 42 48), (0, .nameAndType 49 50), (0, u "coderFromArrayLen"), (0, u "([BI)B"), (4, .class_ 57), (1, u "java/util/Arrays"), (2, .methodref 42 61), (0, .nameAndType 62 63), (0, u "newBytesFor"), (0, u "(I)[B"), (22, .fieldref 87 88), (0, .class_ 89), (0, .nameAndType 90 91), (0, u "sun/nio/cs/UTF_8"), (0, u "INSTANCE"), (0, u "Lsun/nio/cs/UTF_8;"), (1, .class_ 95), (1, u "java/lang/StringCoding"), (6, .methodref 55 103), (0, .nameAndType 104 105), (0, u "copyOf"), (0, u "([BI)[B"), (1, .class_ 109), (1, u "java/lang/StringLatin1"), (18, .methodref 93 129), (0, .nameAndType 130 131), (0, u "hasNegatives"), (0, u "([BII)Z"), (10, u "()Z"), (34, .methodref 42 178), (0, .nameAndType 45 179), (0, u "([CII)[B"), (72, .methodref 10 253), (0, .nameAndType 254 255), (0, u "encodeUTF8"), (0, u "(B[BZ)[B"), (23, .methodref 280 281), (0, .class_ 14), (0, .nameAndType 282 283), (0, u "clone"), (0, u "()Ljava/lang/Object;"), (33, u "encode"), (16, u "()I"), (0, .methodref 10 336), (0, .nameAndType 17 337), (0, u "()B"), (154, .methodref 10 493), (0, .nameAndType 494 142), (0, u "isLatin1"), (37, u "getBytes"), (2, .methodref 10 536), (0, .nameAndType 317 537), (0, u "(Ljava/nio/charset/Charset;B[B)[B"), (3, .methodref 107 542), (0, .nameAndType 543 544), (0, u "equals"), (0, u "([B[B)Z"), (28, u "(Ljava/lang/Object;)Z"), (1, .class_ 576), (0, u "java/lang/CharSequence"), (22, u "CASE_INSENSITIVE_ORDER"), (0, u "Ljava/util/Comparator;"), (27, .methodref 107 629), (0, .nameAndType 630 631), (0, u "hashCode"), (0, u "([B)I"), (378, u "([C)V"), (90, u "serialPersistentFields"), (0, u "[Ljava/io/ObjectStreamField;"), (0, .class_ 1104), (0, u "java/lang/String$CaseInsensitiveComparator"), (1, .class_ 1107), (0, u "java/io/Serializable"), (0, .class_ 1109), (0, u "java/lang/Comparable"), (0, .class_ 1111), (0, u "java/lang/constant/Constable"), (0, .class_ 1113), (0, u "java/lang/constant/ConstantDesc"), (2, u "serialVersionUID"), (0, u "J"), (3, u "REPL"), (0, u "C"), (2, u "LATIN1"), (1, u "UTF16"), (117, u "(Ljava/nio/charset/Charset;)[B")] 205

def k7m0 : Method := { name := "<init>", desc := "()V", sig := { parameters := [], returnType := none }, accessFlags := 1, code := none }
def k7c1 : Code := { maxStack := 5, maxLocals := 2, code := jdk_42_method_3_code, exceptionTable := #[], attributes := #[] }
def k7m1 : Method := { name := "<init>", desc := "([C)V", sig := { parameters := [(.array .char)], returnType := none }, accessFlags := 1, code := some k7c1 }
def k7c2 : Code := { maxStack := 4, maxLocals := 3, code := jdk_42_method_18_code, exceptionTable := #[], attributes := #[] }
def k7m2 : Method := { name := "encode", desc := "(Ljava/nio/charset/Charset;B[B)[B", sig := { parameters := [(.object "java/nio/charset/Charset"), .byte, (.array .byte)], returnType := some (.array .byte) }, accessFlags := 10, code := some k7c2 }
def k7c3 : Code := { maxStack := 5, maxLocals := 9, code := jdk_42_method_46_code, exceptionTable := #[], attributes := #[] }
def k7m3 : Method := { name := "encodeUTF8", desc := "(B[BZ)[B", sig := { parameters := [.byte, (.array .byte), .boolean], returnType := some (.array .byte) }, accessFlags := 10, code := some k7c3 }
def k7c4 : Code := { maxStack := 3, maxLocals := 2, code := jdk_42_method_64_code, exceptionTable := #[], attributes := #[] }
def k7m4 : Method := { name := "getBytes", desc := "(Ljava/nio/charset/Charset;)[B", sig := { parameters := [(.object "java/nio/charset/Charset")], returnType := some (.array .byte) }, accessFlags := 1, code := some k7c4 }
def k7c5 : Code := { maxStack := 2, maxLocals := 3, code := jdk_42_method_66_code, exceptionTable := #[], attributes := #[] }
def k7m5 : Method := { name := "equals", desc := "(Ljava/lang/Object;)Z", sig := { parameters := [(.object "java/lang/Object")], returnType := some .boolean }, accessFlags := 1, code := some k7c5 }
def k7c6 : Code := { maxStack := 2, maxLocals := 2, code := jdk_42_method_78_code, exceptionTable := #[], attributes := #[] }
def k7m6 : Method := { name := "hashCode", desc := "()I", sig := { parameters := [], returnType := some .int }, accessFlags := 1, code := some k7c6 }
def k7c7 : Code := { maxStack := 4, maxLocals := 6, code := jdk_42_method_149_code, exceptionTable := #[], attributes := #[] }
def k7m7 : Method := { name := "<init>", desc := "([CIILjava/lang/Void;)V", sig := { parameters := [(.array .char), .int, .int, (.object "java/lang/Void")], returnType := none }, accessFlags := 2, code := some k7c7 }
def k7c8 : Code := { maxStack := 1, maxLocals := 1, code := jdk_42_method_152_code, exceptionTable := #[], attributes := #[] }
def k7m8 : Method := { name := "coder", desc := "()B", sig := { parameters := [], returnType := some .byte }, accessFlags := 0, code := some k7c8 }
def k7c9 : Code := { maxStack := 1, maxLocals := 1, code := jdk_42_method_154_code, exceptionTable := #[], attributes := #[] }
def k7m9 : Method := { name := "isLatin1", desc := "()Z", sig := { parameters := [], returnType := some .boolean }, accessFlags := 0, code := some k7c9 }
/-- java/lang/String -/
def k7 : Class := { plain "java/lang/String" (some 0) with
  accessFlags := 49
  interfaces := #[2, 3, 4, 5, 6]
  cf := some (fileOf pool7 10 #[.nestMembers #[1103]] #[{ accessFlags := 1, nameIndex := 5, descriptorIndex := 6, attributes := #[] }, { accessFlags := 1, nameIndex := 5, descriptorIndex := 1010, attributes := #[] }, { accessFlags := 10, nameIndex := 317, descriptorIndex := 537, attributes := #[] }, { accessFlags := 10, nameIndex := 254, descriptorIndex := 255, attributes := #[] }, { accessFlags := 1, nameIndex := 532, descriptorIndex := 1245, attributes := #[] }, { accessFlags := 1, nameIndex := 543, descriptorIndex := 573, attributes := #[] }, { accessFlags := 1, nameIndex := 630, descriptorIndex := 334, attributes := #[] }, { accessFlags := 2, nameIndex := 5, descriptorIndex := 29, attributes := #[] }, { accessFlags := 0, nameIndex := 17, descriptorIndex := 337, attributes := #[] }, { accessFlags := 0, nameIndex := 494, descriptorIndex := 142, attributes := #[] }] 49 2 #[1106, 1108, 575, 1110, 1112] #[{ accessFlags := 18, nameIndex := 13, descriptorIndex := 14, attributes := #[] }, { accessFlags := 18, nameIndex := 17, descriptorIndex := 18, attributes := #[] }, { accessFlags := 2, nameIndex := 21, descriptorIndex := 22, attributes := #[] }, { accessFlags := 2, nameIndex := 25, descriptorIndex := 26, attributes := #[] }, { accessFlags := 26, nameIndex := 1116, descriptorIndex := 1117, attributes := #[] }, { accessFlags := 24, nameIndex := 40, descriptorIndex := 26, attributes := #[] }, { accessFlags := 26, nameIndex := 1101, descriptorIndex := 1102, attributes := #[] }, { accessFlags := 26, nameIndex := 1121, descriptorIndex := 1122, attributes := #[] }, { accessFlags := 25, nameIndex := 599, descriptorIndex := 600, attributes := #[] }, { accessFlags := 24, nameIndex := 1125, descriptorIndex := 18, attributes := #[] }, { accessFlags := 24, nameIndex := 1127, descriptorIndex := 18, attributes := #[] }])
  fields := #[{ name := "value", type := (.array .byte), accessFlags := 18, slot := 0, constantValue := 0 }, { name := "coder", type := .byte, accessFlags := 18, slot := 1, constantValue := 0 }, { name := "hash", type := .int, accessFlags := 2, slot := 2, constantValue := 0 }, { name := "hashIsZero", type := .boolean, accessFlags := 2, slot := 3, constantValue := 0 }, { name := "serialVersionUID", type := .long, accessFlags := 26, slot := 0, constantValue := 0 }, { name := "COMPACT_STRINGS", type := .boolean, accessFlags := 24, slot := 1, constantValue := 0 }, { name := "serialPersistentFields", type := (.array (.object "java/io/ObjectStreamField")), accessFlags := 26, slot := 2, constantValue := 0 }, { name := "REPL", type := .char, accessFlags := 26, slot := 3, constantValue := 0 }, { name := "CASE_INSENSITIVE_ORDER", type := (.object "java/util/Comparator"), accessFlags := 25, slot := 4, constantValue := 0 }, { name := "LATIN1", type := .byte, accessFlags := 24, slot := 5, constantValue := 0 }, { name := "UTF16", type := .byte, accessFlags := 24, slot := 6, constantValue := 0 }]
  methods := #[k7m0, k7m1, k7m2, k7m3, k7m4, k7m5, k7m6, k7m7, k7m8, k7m9]
  instanceTypes := #[(.array .byte), .byte, .int, .boolean]
  staticTypes := #[.long, .boolean, (.array (.object "java/io/ObjectStreamField")), .char, (.object "java/util/Comparator"), .byte, .byte]
  resolved := Array.replicate 1451 none
  statics := some 0 }

def pool8 : Array CpInfo := pool [(6, .class_ 8), (1, u "java/lang/Object"), (0, u "<init>"), (0, u "()V"), (0, .methodref 12 13), (0, .class_ 14), (0, .nameAndType 15 16), (0, u "java/lang/StringUTF16"), (0, u "newBytesLength"), (0, u "(I)I"), (3, .integer 1073741823), (25, u "$assertionsDisabled"), (0, u "Z"), (13, u "HI_BYTE_SHIFT"), (0, u "I"), (2, u "LO_BYTE_SHIFT"), (43, u "newBytesFor"), (0, u "(I)[B"), (4, .methodref 12 116), (0, .nameAndType 117 118), (0, u "compress"), (0, u "([CI[BII)I"), (3, u "([CII)[B"), (138, u "coderFromArrayLen"), (0, u "([BI)B"), (106, .class_ 371), (1, u "java/lang/StringUTF16$LinesSpliterator"), (58, u "MAX_LENGTH"), (196, .class_ 628), (0, u "java/lang/StringUTF16$CodePointsSpliterator"), (0, .class_ 630), (0, u "java/lang/StringUTF16$CharsSpliterator")] 4

def k8m0 : Method := { name := "<init>", desc := "()V", sig := { parameters := [], returnType := none }, accessFlags := 0, code := none }
def k8c1 : Code := { maxStack := 1, maxLocals := 1, code := jdk_52_method_2_code, exceptionTable := #[], attributes := #[] }
def k8m1 : Method := { name := "newBytesFor", desc := "(I)[B", sig := { parameters := [.int], returnType := some (.array .byte) }, accessFlags := 9, code := some k8c1 }
def k8c2 : Code := { maxStack := 4, maxLocals := 1, code := jdk_52_method_3_code, exceptionTable := #[], attributes := #[] }
def k8m2 : Method := { name := "newBytesLength", desc := "(I)I", sig := { parameters := [.int], returnType := some .int }, accessFlags := 9, code := some k8c2 }
def k8c3 : Code := { maxStack := 2, maxLocals := 2, code := jdk_52_method_15_code, exceptionTable := #[], attributes := #[] }
def k8m3 : Method := { name := "coderFromArrayLen", desc := "([BI)B", sig := { parameters := [(.array .byte), .int], returnType := some .byte }, accessFlags := 8, code := some k8c3 }
def k8c4 : Code := { maxStack := 5, maxLocals := 6, code := jdk_52_method_16_code, exceptionTable := #[], attributes := #[] }
def k8m4 : Method := { name := "compress", desc := "([CII)[B", sig := { parameters := [(.array .char), .int, .int], returnType := some (.array .byte) }, accessFlags := 9, code := some k8c4 }
def k8c5 : Code := { maxStack := 3, maxLocals := 7, code := jdk_52_method_21_code, exceptionTable := #[], attributes := #[] }
def k8m5 : Method := { name := "compress", desc := "([CI[BII)I", sig := { parameters := [(.array .char), .int, (.array .byte), .int, .int], returnType := some .int }, accessFlags := 9, code := some k8c5 }
/-- java/lang/StringUTF16 -/
def k8 : Class := { plain "java/lang/StringUTF16" (some 0) with
  accessFlags := 48
  interfaces := #[]
  cf := some (fileOf pool8 12 #[.nestMembers #[627, 629, 369]] #[{ accessFlags := 0, nameIndex := 9, descriptorIndex := 10, attributes := #[] }, { accessFlags := 9, nameIndex := 109, descriptorIndex := 110, attributes := #[] }, { accessFlags := 9, nameIndex := 15, descriptorIndex := 16, attributes := #[] }, { accessFlags := 8, nameIndex := 261, descriptorIndex := 262, attributes := #[] }, { accessFlags := 9, nameIndex := 117, descriptorIndex := 122, attributes := #[] }, { accessFlags := 9, nameIndex := 117, descriptorIndex := 118, attributes := #[] }] 48 6 #[] #[{ accessFlags := 26, nameIndex := 61, descriptorIndex := 62, attributes := #[] }, { accessFlags := 26, nameIndex := 65, descriptorIndex := 62, attributes := #[] }, { accessFlags := 24, nameIndex := 430, descriptorIndex := 62, attributes := #[] }, { accessFlags := 4120, nameIndex := 46, descriptorIndex := 47, attributes := #[] }])
  fields := #[{ name := "HI_BYTE_SHIFT", type := .int, accessFlags := 26, slot := 0, constantValue := 0 }, { name := "LO_BYTE_SHIFT", type := .int, accessFlags := 26, slot := 1, constantValue := 0 }, { name := "MAX_LENGTH", type := .int, accessFlags := 24, slot := 2, constantValue := 0 }, { name := "$assertionsDisabled", type := .boolean, accessFlags := 4120, slot := 3, constantValue := 0 }]
  methods := #[k8m0, k8m1, k8m2, k8m3, k8m4, k8m5]
  instanceTypes := #[]
  staticTypes := #[.int, .int, .int, .boolean]
  resolved := Array.replicate 635 none
  statics := none }

def pool9 : Array CpInfo := pool [(1, .methodref 2 3), (0, .class_ 4), (0, .nameAndType 5 6), (0, u "java/lang/Object"), (0, u "<init>"), (0, u "()V"), (0, .class_ 8), (0, u "java/lang/Record")] 13

def k9c0 : Code := { maxStack := 1, maxLocals := 1, code := jdk_30_method_1_code, exceptionTable := #[], attributes := #[] }
def k9m0 : Method := { name := "<init>", desc := "()V", sig := { parameters := [], returnType := none }, accessFlags := 4, code := some k9c0 }
/-- java/lang/Record -/
def k9 : Class := { plain "java/lang/Record" (some 0) with
  accessFlags := 1057
  interfaces := #[]
  cf := some (fileOf pool9 7 #[] #[{ accessFlags := 4, nameIndex := 5, descriptorIndex := 6, attributes := #[] }] 1057 2 #[] #[])
  fields := #[]
  methods := #[k9m0]
  instanceTypes := #[]
  staticTypes := #[]
  resolved := Array.replicate 22 none
  statics := none }

def pool10 : Array CpInfo := pool [(1, .methodref 2 3), (0, .class_ 4), (0, .nameAndType 5 6), (0, u "java/lang/Record"), (0, u "<init>"), (0, u "()V"), (0, .methodref 8 9), (0, .class_ 10), (0, .nameAndType 11 12), (0, u "com/example/commitwright/commitwright/core/Branch"), (0, u "checkResourceName"), (0, u "(Ljava/lang/String;)Ljava/lang/String;"), (0, .string 14), (0, u "key"), (0, .methodref 16 17), (0, .class_ 18), (0, .nameAndType 19 20), (0, u "java/util/Objects"), (0, u "requireNonNull"), (0, u "(Ljava/lang/Object;Ljava/lang/String;)Ljava/lang/Object;"), (0, .class_ 22), (0, u "[B"), (0, .methodref 21 24), (0, .nameAndType 25 26), (0, u "clone"), (0, u "()Ljava/lang/Object;"), (9, .fieldref 8 37), (0, .nameAndType 38 39), (0, u "resource"), (0, u "Ljava/lang/String;"), (0, .fieldref 8 41), (0, .nameAndType 14 22), (0, .string 38), (0, .class_ 44), (0, u "java/lang/String"), (0, .fieldref 46 47), (0, .class_ 48), (0, .nameAndType 49 50), (0, u "java/nio/charset/StandardCharsets"), (0, u "UTF_8"), (0, u "Ljava/nio/charset/Charset;"), (0, .methodref 43 52), (0, .nameAndType 53 54), (0, u "getBytes"), (0, u "(Ljava/nio/charset/Charset;)[B"), (3, .methodref 43 59), (0, .nameAndType 60 61), (0, u "equals"), (0, u "(Ljava/lang/Object;)Z"), (0, .methodref 63 64), (0, .class_ 65), (0, .nameAndType 60 66), (0, u "java/util/Arrays"), (0, u "([B[B)Z"), (0, .methodref 43 68), (0, .nameAndType 69 70), (0, u "hashCode"), (0, u "()I"), (0, .methodref 63 72), (0, .nameAndType 69 73), (0, u "([B)I"), (13, u "MAX_LENGTH"), (0, u "I"), (2, u "(Ljava/lang/String;[B)V")] 29

def k10c0 : Code := { maxStack := 3, maxLocals := 3, code := prog_15_method_1_code, exceptionTable := #[], attributes := #[] }
def k10m0 : Method := { name := "<init>", desc := "(Ljava/lang/String;[B)V", sig := { parameters := [(.object "java/lang/String"), (.array .byte)], returnType := none }, accessFlags := 1, code := some k10c0 }
def k10c1 : Code := { maxStack := 4, maxLocals := 2, code := prog_15_method_2_code, exceptionTable := #[], attributes := #[] }
def k10m1 : Method := { name := "checkResourceName", desc := "(Ljava/lang/String;)Ljava/lang/String;", sig := { parameters := [(.object "java/lang/String")], returnType := some (.object "java/lang/String") }, accessFlags := 9, code := some k10c1 }
def k10c2 : Code := { maxStack := 2, maxLocals := 3, code := prog_15_method_4_code, exceptionTable := #[], attributes := #[] }
def k10m2 : Method := { name := "equals", desc := "(Ljava/lang/Object;)Z", sig := { parameters := [(.object "java/lang/Object")], returnType := some .boolean }, accessFlags := 1, code := some k10c2 }
def k10c3 : Code := { maxStack := 2, maxLocals := 1, code := prog_15_method_5_code, exceptionTable := #[], attributes := #[] }
def k10m3 : Method := { name := "hashCode", desc := "()I", sig := { parameters := [], returnType := some .int }, accessFlags := 1, code := some k10c3 }
/-- com/example/commitwright/commitwright/core/Branch -/
def k10 : Class := { plain "com/example/commitwright/commitwright/core/Branch" (some 9) with
  accessFlags := 49
  interfaces := #[]
  cf := some (fileOf pool10 8 #[] #[{ accessFlags := 1, nameIndex := 5, descriptorIndex := 91, attributes := #[] }, { accessFlags := 9, nameIndex := 11, descriptorIndex := 12, attributes := #[] }, { accessFlags := 1, nameIndex := 60, descriptorIndex := 61, attributes := #[] }, { accessFlags := 1, nameIndex := 69, descriptorIndex := 70, attributes := #[] }] 49 2 #[] #[{ accessFlags := 18, nameIndex := 38, descriptorIndex := 39, attributes := #[] }, { accessFlags := 18, nameIndex := 14, descriptorIndex := 22, attributes := #[] }, { accessFlags := 25, nameIndex := 87, descriptorIndex := 88, attributes := #[] }])
  fields := #[{ name := "resource", type := (.object "java/lang/String"), accessFlags := 18, slot := 0, constantValue := 0 }, { name := "key", type := (.array .byte), accessFlags := 18, slot := 1, constantValue := 0 }, { name := "MAX_LENGTH", type := .int, accessFlags := 25, slot := 0, constantValue := 0 }]
  methods := #[k10m0, k10m1, k10m2, k10m3]
  instanceTypes := #[(.object "java/lang/String"), (.array .byte)]
  staticTypes := #[.int]
  resolved := Array.replicate 121 none
  statics := none }

def pool11 : Array CpInfo := pool [(2, .class_ 4), (1, u "java/lang/Object"), (0, u "<init>"), (0, u "()V"), (35, .class_ 44), (1, u "java/util/Objects"), (0, u "requireNonNull"), (48, u "(Ljava/lang/Object;Ljava/lang/String;)Ljava/lang/Object;")] 89

def k11m0 : Method := { name := "<init>", desc := "()V", sig := { parameters := [], returnType := none }, accessFlags := 2, code := none }
def k11c1 : Code := { maxStack := 3, maxLocals := 2, code := jdk_31_method_11_code, exceptionTable := #[], attributes := #[] }
def k11m1 : Method := { name := "requireNonNull", desc := "(Ljava/lang/Object;Ljava/lang/String;)Ljava/lang/Object;", sig := { parameters := [(.object "java/lang/Object"), (.object "java/lang/String")], returnType := some (.object "java/lang/Object") }, accessFlags := 9, code := some k11c1 }
/-- java/util/Objects -/
def k11 : Class := { plain "java/util/Objects" (some 0) with
  accessFlags := 49
  interfaces := #[]
  cf := some (fileOf pool11 42 #[] #[{ accessFlags := 2, nameIndex := 5, descriptorIndex := 6, attributes := #[] }, { accessFlags := 9, nameIndex := 45, descriptorIndex := 94, attributes := #[] }] 49 2 #[] #[])
  fields := #[]
  methods := #[k11m0, k11m1]
  instanceTypes := #[]
  staticTypes := #[]
  resolved := Array.replicate 184 none
  statics := none }

def pool12 : Array CpInfo := pool [(2, .class_ 4), (1, u "java/lang/Object"), (0, u "<init>"), (0, u "()V"), (14, .class_ 23), (1, u "java/nio/charset/StandardCharsets"), (0, u "US_ASCII"), (0, u "Ljava/nio/charset/Charset;"), (7, u "ISO_8859_1"), (7, u "UTF_8"), (5, u "UTF_16BE"), (5, u "UTF_16LE"), (5, u "UTF_16")] 8

def k12m0 : Method := { name := "<init>", desc := "()V", sig := { parameters := [], returnType := none }, accessFlags := 2, code := none }
/-- java/nio/charset/StandardCharsets -/
def k12 : Class := { plain "java/nio/charset/StandardCharsets" (some 0) with
  accessFlags := 49
  interfaces := #[]
  cf := some (fileOf pool12 21 #[] #[{ accessFlags := 2, nameIndex := 5, descriptorIndex := 6, attributes := #[] }] 49 2 #[] #[{ accessFlags := 25, nameIndex := 24, descriptorIndex := 25, attributes := #[] }, { accessFlags := 25, nameIndex := 33, descriptorIndex := 25, attributes := #[] }, { accessFlags := 25, nameIndex := 41, descriptorIndex := 25, attributes := #[] }, { accessFlags := 25, nameIndex := 47, descriptorIndex := 25, attributes := #[] }, { accessFlags := 25, nameIndex := 53, descriptorIndex := 25, attributes := #[] }, { accessFlags := 25, nameIndex := 59, descriptorIndex := 25, attributes := #[] }])
  fields := #[{ name := "US_ASCII", type := (.object "java/nio/charset/Charset"), accessFlags := 25, slot := 0, constantValue := 0 }, { name := "ISO_8859_1", type := (.object "java/nio/charset/Charset"), accessFlags := 25, slot := 1, constantValue := 0 }, { name := "UTF_8", type := (.object "java/nio/charset/Charset"), accessFlags := 25, slot := 2, constantValue := 0 }, { name := "UTF_16BE", type := (.object "java/nio/charset/Charset"), accessFlags := 25, slot := 3, constantValue := 0 }, { name := "UTF_16LE", type := (.object "java/nio/charset/Charset"), accessFlags := 25, slot := 4, constantValue := 0 }, { name := "UTF_16", type := (.object "java/nio/charset/Charset"), accessFlags := 25, slot := 5, constantValue := 0 }]
  methods := #[k12m0]
  instanceTypes := #[]
  staticTypes := #[(.object "java/nio/charset/Charset"), (.object "java/nio/charset/Charset"), (.object "java/nio/charset/Charset"), (.object "java/nio/charset/Charset"), (.object "java/nio/charset/Charset"), (.object "java/nio/charset/Charset")]
  resolved := Array.replicate 68 none
  statics := some 1 }

def pool13 : Array CpInfo := pool [(18, .class_ 20), (1, u "java/nio/charset/Charset"), (0, u "cache1"), (0, u "[Ljava/lang/Object;"), (2, u "cache2"), (0, .class_ 27), (0, u "java/lang/Object"), (0, .class_ 29), (0, u "java/nio/charset/Charset$1"), (4, .class_ 36), (1, u "java/nio/charset/Charset$ThreadTrackHolder"), (21, .class_ 59), (0, u "java/nio/charset/Charset$2"), (11, .class_ 73), (1, u "java/nio/charset/Charset$ExtendedProviderHolder"), (22, u "standardProvider"), (0, u "Ljava/nio/charset/spi/CharsetProvider;"), (29, u "name"), (7, .class_ 136), (0, u "java/nio/charset/Charset$3"), (5, u "defaultCharset"), (0, u "Ljava/nio/charset/Charset;"), (14, u "zeroAliases"), (0, u "[Ljava/lang/String;"), (29, u "Ljava/lang/String;"), (2, u "aliases"), (2, u "aliasSet"), (0, u "Ljava/util/Set;"), (82, .class_ 280), (0, u "java/lang/Comparable"), (84, .class_ 366), (0, u "java/nio/charset/Charset$ExtendedProviderHolder$1")] 3

/-- java/nio/charset/Charset -/
def k13 : Class := { plain "java/nio/charset/Charset" (some 0) with
  accessFlags := 1057
  interfaces := #[3]
  cf := some (fileOf pool13 18 #[.nestMembers #[71, 365, 34, 135, 58, 28]] #[] 1057 26 #[279] #[{ accessFlags := 26, nameIndex := 96, descriptorIndex := 97, attributes := #[] }, { accessFlags := 26, nameIndex := 158, descriptorIndex := 159, attributes := #[] }, { accessFlags := 74, nameIndex := 21, descriptorIndex := 22, attributes := #[] }, { accessFlags := 74, nameIndex := 25, descriptorIndex := 22, attributes := #[] }, { accessFlags := 10, nameIndex := 142, descriptorIndex := 143, attributes := #[] }, { accessFlags := 18, nameIndex := 127, descriptorIndex := 189, attributes := #[] }, { accessFlags := 18, nameIndex := 192, descriptorIndex := 159, attributes := #[] }, { accessFlags := 2, nameIndex := 195, descriptorIndex := 196, attributes := #[] }])
  fields := #[{ name := "standardProvider", type := (.object "java/nio/charset/spi/CharsetProvider"), accessFlags := 26, slot := 0, constantValue := 0 }, { name := "zeroAliases", type := (.array (.object "java/lang/String")), accessFlags := 26, slot := 1, constantValue := 0 }, { name := "cache1", type := (.array (.object "java/lang/Object")), accessFlags := 74, slot := 2, constantValue := 0 }, { name := "cache2", type := (.array (.object "java/lang/Object")), accessFlags := 74, slot := 3, constantValue := 0 }, { name := "defaultCharset", type := (.object "java/nio/charset/Charset"), accessFlags := 10, slot := 4, constantValue := 0 }, { name := "name", type := (.object "java/lang/String"), accessFlags := 18, slot := 0, constantValue := 0 }, { name := "aliases", type := (.array (.object "java/lang/String")), accessFlags := 18, slot := 1, constantValue := 0 }, { name := "aliasSet", type := (.object "java/util/Set"), accessFlags := 2, slot := 2, constantValue := 0 }]
  methods := #[]
  instanceTypes := #[(.object "java/lang/String"), (.array (.object "java/lang/String")), (.object "java/util/Set")]
  staticTypes := #[(.object "java/nio/charset/spi/CharsetProvider"), (.array (.object "java/lang/String")), (.array (.object "java/lang/Object")), (.array (.object "java/lang/Object")), (.object "java/nio/charset/Charset")]
  resolved := Array.replicate 370 none
  statics := none }

def pool14 : Array CpInfo := pool [(1, .class_ 2), (0, u "sun/nio/cs/HistoricallyNamedCharset"), (0, .class_ 4), (0, u "java/lang/Object")] 4

/-- sun/nio/cs/HistoricallyNamedCharset -/
def k14 : Class := { plain "sun/nio/cs/HistoricallyNamedCharset" (some 0) with
  accessFlags := 1537
  interfaces := #[]
  cf := some (fileOf pool14 1 #[] #[] 1537 3 #[] #[])
  fields := #[]
  methods := #[]
  instanceTypes := #[]
  staticTypes := #[]
  resolved := Array.replicate 9 none
  statics := none }

def pool15 : Array CpInfo := pool [(2, .class_ 4), (1, u "java/nio/charset/Charset"), (130, .class_ 136), (0, u "sun/nio/cs/Unicode"), (0, .class_ 138), (0, u "sun/nio/cs/HistoricallyNamedCharset")] 15

/-- sun/nio/cs/Unicode -/
def k15 : Class := { plain "sun/nio/cs/Unicode" (some 13) with
  accessFlags := 1056
  interfaces := #[14]
  cf := some (fileOf pool15 135 #[] #[] 1056 2 #[137] #[])
  fields := #[]
  methods := #[]
  instanceTypes := #[(.object "java/lang/String"), (.array (.object "java/lang/String")), (.object "java/util/Set")]
  staticTypes := #[]
  resolved := Array.replicate 154 none
  statics := none }

def pool16 : Array CpInfo := pool [(10, .class_ 12), (1, u "sun/nio/cs/Unicode"), (0, u "<init>"), (3, .class_ 18), (0, u "sun/nio/cs/UTF_8$Decoder"), (3, .class_ 23), (0, u "sun/nio/cs/UTF_8$Encoder"), (15, .class_ 40), (0, u "sun/nio/cs/UTF_8"), (2, u "()V"), (2, u "INSTANCE"), (0, u "Lsun/nio/cs/UTF_8;"), (8, u "JLA"), (0, u "Ljdk/internal/access/JavaLangAccess;")] 26

def k16m0 : Method := { name := "<init>", desc := "()V", sig := { parameters := [], returnType := none }, accessFlags := 1, code := none }
/-- sun/nio/cs/UTF_8 -/
def k16 : Class := { plain "sun/nio/cs/UTF_8" (some 15) with
  accessFlags := 49
  interfaces := #[]
  cf := some (fileOf pool16 39 #[.nestMembers #[22, 17]] #[{ accessFlags := 1, nameIndex := 13, descriptorIndex := 43, attributes := #[] }] 49 10 #[] #[{ accessFlags := 25, nameIndex := 46, descriptorIndex := 47, attributes := #[] }, { accessFlags := 26, nameIndex := 56, descriptorIndex := 57, attributes := #[] }])
  fields := #[{ name := "INSTANCE", type := (.object "sun/nio/cs/UTF_8"), accessFlags := 25, slot := 0, constantValue := 0 }, { name := "JLA", type := (.object "jdk/internal/access/JavaLangAccess"), accessFlags := 26, slot := 1, constantValue := 0 }]
  methods := #[k16m0]
  instanceTypes := #[(.object "java/lang/String"), (.array (.object "java/lang/String")), (.object "java/util/Set")]
  staticTypes := #[(.object "sun/nio/cs/UTF_8"), (.object "jdk/internal/access/JavaLangAccess")]
  resolved := Array.replicate 84 none
  statics := some 2 }

def pool17 : Array CpInfo := pool [(2, .class_ 4), (1, u "java/lang/Object"), (0, u "<init>"), (0, u "()V"), (0, .methodref 8 9), (0, .class_ 10), (0, .nameAndType 11 12), (0, u "java/lang/StringCoding"), (0, u "countPositives"), (0, u "([BII)I"), (11, u "hasNegatives"), (0, u "([BII)Z")] 23

def k17m0 : Method := { name := "<init>", desc := "()V", sig := { parameters := [], returnType := none }, accessFlags := 2, code := none }
def k17c1 : Code := { maxStack := 3, maxLocals := 3, code := jdk_123_method_2_code, exceptionTable := #[], attributes := #[] }
def k17m1 : Method := { name := "hasNegatives", desc := "([BII)Z", sig := { parameters := [(.array .byte), .int, .int], returnType := some .boolean }, accessFlags := 9, code := some k17c1 }
def k17c2 : Code := { maxStack := 2, maxLocals := 5, code := jdk_123_method_3_code, exceptionTable := #[], attributes := #[] }
def k17m2 : Method := { name := "countPositives", desc := "([BII)I", sig := { parameters := [(.array .byte), .int, .int], returnType := some .int }, accessFlags := 9, code := some k17c2 }
/-- java/lang/StringCoding -/
def k17 : Class := { plain "java/lang/StringCoding" (some 0) with
  accessFlags := 32
  interfaces := #[]
  cf := some (fileOf pool17 8 #[] #[{ accessFlags := 2, nameIndex := 5, descriptorIndex := 6, attributes := #[] }, { accessFlags := 9, nameIndex := 24, descriptorIndex := 25, attributes := #[] }, { accessFlags := 9, nameIndex := 11, descriptorIndex := 12, attributes := #[] }] 32 2 #[] #[])
  fields := #[]
  methods := #[k17m0, k17m1, k17m2]
  instanceTypes := #[]
  staticTypes := #[]
  resolved := Array.replicate 49 none
  statics := none }

def pool18 : Array CpInfo := pool [(1, .class_ 2), (0, u "java/lang/Cloneable"), (0, .class_ 4), (0, u "java/lang/Object")] 2

/-- java/lang/Cloneable -/
def k18 : Class := { plain "java/lang/Cloneable" (some 0) with
  accessFlags := 1537
  interfaces := #[]
  cf := some (fileOf pool18 1 #[] #[] 1537 3 #[] #[])
  fields := #[]
  methods := #[]
  instanceTypes := #[]
  staticTypes := #[]
  resolved := Array.replicate 7 none
  statics := none }

def pool19 : Array CpInfo := pool [(4, .class_ 6), (1, u "java/lang/Object"), (0, u "<init>"), (0, u "()V"), (5, .class_ 16), (1, u "java/lang/StringLatin1"), (28, .class_ 47), (1, u "jdk/internal/util/ArraysSupport"), (9, u "([B)I"), (26, .methodref 45 85), (0, .nameAndType 86 87), (0, u "vectorizedHashCode"), (0, u "(Ljava/lang/Object;IIII)I"), (33, u "$assertionsDisabled"), (0, u "Z"), (98, .class_ 223), (1, u "java/lang/StringLatin1$LinesSpliterator"), (57, u "equals"), (0, u "([B[B)Z"), (15, u "hashCode"), (91, .class_ 391), (0, u "java/lang/StringLatin1$CharsSpliterator")] 3

def k19m0 : Method := { name := "<init>", desc := "()V", sig := { parameters := [], returnType := none }, accessFlags := 0, code := none }
def k19c1 : Code := { maxStack := 3, maxLocals := 3, code := jdk_43_method_13_code, exceptionTable := #[], attributes := #[] }
def k19m1 : Method := { name := "equals", desc := "([B[B)Z", sig := { parameters := [(.array .byte), (.array .byte)], returnType := some .boolean }, accessFlags := 9, code := some k19c1 }
def k19c2 : Code := { maxStack := 5, maxLocals := 1, code := jdk_43_method_21_code, exceptionTable := #[], attributes := #[] }
def k19m2 : Method := { name := "hashCode", desc := "([B)I", sig := { parameters := [(.array .byte)], returnType := some .int }, accessFlags := 9, code := some k19c2 }
/-- java/lang/StringLatin1 -/
def k19 : Class := { plain "java/lang/StringLatin1" (some 0) with
  accessFlags := 48
  interfaces := #[]
  cf := some (fileOf pool19 14 #[.nestMembers #[390, 221]] #[{ accessFlags := 0, nameIndex := 7, descriptorIndex := 8, attributes := #[] }, { accessFlags := 9, nameIndex := 281, descriptorIndex := 282, attributes := #[] }, { accessFlags := 9, nameIndex := 298, descriptorIndex := 57, attributes := #[] }] 48 4 #[] #[{ accessFlags := 4120, nameIndex := 121, descriptorIndex := 122, attributes := #[] }])
  fields := #[{ name := "$assertionsDisabled", type := .boolean, accessFlags := 4120, slot := 0, constantValue := 0 }]
  methods := #[k19m0, k19m1, k19m2]
  instanceTypes := #[]
  staticTypes := #[.boolean]
  resolved := Array.replicate 395 none
  statics := none }

def pool20 : Array CpInfo := pool [(2, .class_ 4), (1, u "java/lang/Object"), (0, u "<init>"), (0, u "()V"), (7, .class_ 16), (1, u "java/util/Arrays"), (57, .class_ 76), (1, u "java/util/Arrays$NaturalOrder"), (36, .class_ 115), (1, u "java/util/Arrays$LegacyMergeSort"), (1, u "Z"), (32, .methodref 151 152), (0, .class_ 153), (0, .nameAndType 154 155), (0, u "java/lang/System"), (0, u "arraycopy"), (0, u "(Ljava/lang/Object;ILjava/lang/Object;II)V"), (90, .class_ 248), (1, u "jdk/internal/util/ArraysSupport"), (0, u "mismatch"), (22, .methodref 246 273), (0, .nameAndType 249 274), (0, u "([B[BI)I"), (23, u "equals"), (3, u "copyOf"), (1, .methodref 305 306), (0, .class_ 307), (0, .nameAndType 308 309), (0, u "java/lang/Math"), (0, u "min"), (0, u "(II)I"), (65, .class_ 376), (0, u "java/util/Arrays$ArrayList"), (2, .methodref 246 380), (0, .nameAndType 381 382), (0, u "vectorizedHashCode"), (0, u "(Ljava/lang/Object;IIII)I"), (2, u "hashCode"), (16, u "([B)I"), (42, u "$assertionsDisabled"), (9, u "([B[B)Z"), (259, u "MIN_ARRAY_SORT_GRAN"), (0, u "I"), (2, u "INSERTIONSORT_THRESHOLD"), (149, u "([BI)[B"), (105, .class_ 976), (0, u "java/util/Arrays$ArrayItr")] 52

def k20m0 : Method := { name := "<init>", desc := "()V", sig := { parameters := [], returnType := none }, accessFlags := 2, code := none }
def k20c1 : Code := { maxStack := 3, maxLocals := 3, code := jdk_65_method_89_code, exceptionTable := #[], attributes := #[] }
def k20m1 : Method := { name := "equals", desc := "([B[B)Z", sig := { parameters := [(.array .byte), (.array .byte)], returnType := some .boolean }, accessFlags := 9, code := some k20c1 }
def k20c2 : Code := { maxStack := 6, maxLocals := 3, code := jdk_65_method_121_code, exceptionTable := #[], attributes := #[] }
def k20m2 : Method := { name := "copyOf", desc := "([BI)[B", sig := { parameters := [(.array .byte), .int], returnType := some (.array .byte) }, accessFlags := 9, code := some k20c2 }
def k20c3 : Code := { maxStack := 5, maxLocals := 1, code := jdk_65_method_153_code, exceptionTable := #[], attributes := #[] }
def k20m3 : Method := { name := "hashCode", desc := "([B)I", sig := { parameters := [(.array .byte)], returnType := some .int }, accessFlags := 9, code := some k20c3 }
/-- java/util/Arrays -/
def k20 : Class := { plain "java/util/Arrays" (some 0) with
  accessFlags := 49
  interfaces := #[]
  cf := some (fileOf pool20 14 #[.nestMembers #[975, 375, 113, 74]] #[{ accessFlags := 2, nameIndex := 5, descriptorIndex := 6, attributes := #[] }, { accessFlags := 9, nameIndex := 298, descriptorIndex := 455, attributes := #[] }, { accessFlags := 9, nameIndex := 302, descriptorIndex := 869, attributes := #[] }, { accessFlags := 9, nameIndex := 385, descriptorIndex := 402, attributes := #[] }] 49 2 #[] #[{ accessFlags := 26, nameIndex := 715, descriptorIndex := 716, attributes := #[] }, { accessFlags := 26, nameIndex := 719, descriptorIndex := 716, attributes := #[] }, { accessFlags := 4120, nameIndex := 445, descriptorIndex := 117, attributes := #[] }])
  fields := #[{ name := "MIN_ARRAY_SORT_GRAN", type := .int, accessFlags := 26, slot := 0, constantValue := 0 }, { name := "INSERTIONSORT_THRESHOLD", type := .int, accessFlags := 26, slot := 1, constantValue := 0 }, { name := "$assertionsDisabled", type := .boolean, accessFlags := 4120, slot := 2, constantValue := 0 }]
  methods := #[k20m0, k20m1, k20m2, k20m3]
  instanceTypes := #[]
  staticTypes := #[.int, .int, .boolean]
  resolved := Array.replicate 1029 none
  statics := none }

def pool21 : Array CpInfo := pool [(9, u "<init>"), (6, .class_ 18), (1, u "java/lang/Object"), (0, u "()V"), (1, .class_ 23), (1, u "jdk/internal/util/ArraysSupport"), (0, u "LOG2_ARRAY_LONG_INDEX_SCALE"), (0, u "I"), (2, u "U"), (0, u "Ljdk/internal/misc/Unsafe;"), (8, u "BIG_ENDIAN"), (0, u "Z"), (8, u "LOG2_BYTE_BIT_SIZE"), (4, u "LOG2_ARRAY_INT_INDEX_SCALE"), (6, .class_ 61), (0, u "[B"), (0, .methodref 21 63), (0, .nameAndType 64 65), (0, u "signedHashCode"), (0, u "(I[BII)I"), (7, u "hashCode"), (1, .methodref 21 76), (0, .nameAndType 73 65), (31, u "JLA"), (0, u "Ljdk/internal/access/JavaLangAccess;"), (11, u "LOG2_ARRAY_BOOLEAN_INDEX_SCALE"), (9, u "LOG2_ARRAY_BYTE_INDEX_SCALE"), (5, u "LOG2_ARRAY_CHAR_INDEX_SCALE"), (5, u "LOG2_ARRAY_SHORT_INDEX_SCALE"), (5, u "mismatch"), (12, u "LOG2_ARRAY_FLOAT_INDEX_SCALE"), (24, u "LOG2_ARRAY_DOUBLE_INDEX_SCALE"), (89, u "T_BOOLEAN"), (2, u "T_CHAR"), (1, u "T_FLOAT"), (1, u "T_DOUBLE"), (1, u "T_BYTE"), (1, u "T_SHORT"), (1, u "T_INT"), (1, u "T_LONG"), (1, u "SOFT_MAX_ARRAY_LENGTH"), (26, u "vectorizedHashCode"), (0, u "(Ljava/lang/Object;IIII)I"), (13, u "([B[BI)I")] 41

def k21m0 : Method := { name := "<init>", desc := "()V", sig := { parameters := [], returnType := none }, accessFlags := 2, code := none }
def k21c1 : Code := { maxStack := 4, maxLocals := 5, code := jdk_48_method_4_code, exceptionTable := #[], attributes := #[] }
def k21m1 : Method := { name := "vectorizedHashCode", desc := "(Ljava/lang/Object;IIII)I", sig := { parameters := [(.object "java/lang/Object"), .int, .int, .int, .int], returnType := some .int }, accessFlags := 9, code := some k21c1 }
def k21c2 : Code := { maxStack := 3, maxLocals := 6, code := jdk_48_method_5_code, exceptionTable := #[], attributes := #[] }
def k21m2 : Method := { name := "signedHashCode", desc := "(I[BII)I", sig := { parameters := [.int, (.array .byte), .int, .int], returnType := some .int }, accessFlags := 10, code := some k21c2 }
def k21c3 : Code := { maxStack := 3, maxLocals := 6, code := jdk_48_method_6_code, exceptionTable := #[], attributes := #[] }
def k21m3 : Method := { name := "hashCode", desc := "(I[BII)I", sig := { parameters := [.int, (.array .byte), .int, .int], returnType := some .int }, accessFlags := 10, code := some k21c3 }
def k21c4 : Code := { maxStack := 8, maxLocals := 4, code := jdk_48_method_13_code, exceptionTable := #[], attributes := #[] }
def k21m4 : Method := { name := "mismatch", desc := "([B[BI)I", sig := { parameters := [(.array .byte), (.array .byte), .int], returnType := some .int }, accessFlags := 9, code := some k21c4 }
/-- jdk/internal/util/ArraysSupport -/
def k21 : Class := { plain "jdk/internal/util/ArraysSupport" (some 0) with
  accessFlags := 33
  interfaces := #[]
  cf := some (fileOf pool21 21 #[] #[{ accessFlags := 2, nameIndex := 9, descriptorIndex := 19, attributes := #[] }, { accessFlags := 9, nameIndex := 321, descriptorIndex := 322, attributes := #[] }, { accessFlags := 10, nameIndex := 64, descriptorIndex := 65, attributes := #[] }, { accessFlags := 10, nameIndex := 73, descriptorIndex := 65, attributes := #[] }, { accessFlags := 9, nameIndex := 149, descriptorIndex := 336, attributes := #[] }] 33 16 #[] #[{ accessFlags := 24, nameIndex := 28, descriptorIndex := 29, attributes := #[] }, { accessFlags := 26, nameIndex := 38, descriptorIndex := 39, attributes := #[] }, { accessFlags := 25, nameIndex := 121, descriptorIndex := 25, attributes := #[] }, { accessFlags := 25, nameIndex := 131, descriptorIndex := 25, attributes := #[] }, { accessFlags := 25, nameIndex := 137, descriptorIndex := 25, attributes := #[] }, { accessFlags := 25, nameIndex := 143, descriptorIndex := 25, attributes := #[] }, { accessFlags := 25, nameIndex := 53, descriptorIndex := 25, attributes := #[] }, { accessFlags := 25, nameIndex := 24, descriptorIndex := 25, attributes := #[] }, { accessFlags := 25, nameIndex := 162, descriptorIndex := 25, attributes := #[] }, { accessFlags := 25, nameIndex := 187, descriptorIndex := 25, attributes := #[] }, { accessFlags := 26, nameIndex := 48, descriptorIndex := 25, attributes := #[] }, { accessFlags := 25, nameIndex := 277, descriptorIndex := 25, attributes := #[] }, { accessFlags := 25, nameIndex := 280, descriptorIndex := 25, attributes := #[] }, { accessFlags := 25, nameIndex := 282, descriptorIndex := 25, attributes := #[] }, { accessFlags := 25, nameIndex := 284, descriptorIndex := 25, attributes := #[] }, { accessFlags := 25, nameIndex := 286, descriptorIndex := 25, attributes := #[] }, { accessFlags := 25, nameIndex := 288, descriptorIndex := 25, attributes := #[] }, { accessFlags := 25, nameIndex := 290, descriptorIndex := 25, attributes := #[] }, { accessFlags := 25, nameIndex := 292, descriptorIndex := 25, attributes := #[] }, { accessFlags := 26, nameIndex := 108, descriptorIndex := 109, attributes := #[] }, { accessFlags := 25, nameIndex := 294, descriptorIndex := 25, attributes := #[] }])
  fields := #[{ name := "U", type := (.object "jdk/internal/misc/Unsafe"), accessFlags := 24, slot := 0, constantValue := 0 }, { name := "BIG_ENDIAN", type := .boolean, accessFlags := 26, slot := 1, constantValue := 0 }, { name := "LOG2_ARRAY_BOOLEAN_INDEX_SCALE", type := .int, accessFlags := 25, slot := 2, constantValue := 0 }, { name := "LOG2_ARRAY_BYTE_INDEX_SCALE", type := .int, accessFlags := 25, slot := 3, constantValue := 0 }, { name := "LOG2_ARRAY_CHAR_INDEX_SCALE", type := .int, accessFlags := 25, slot := 4, constantValue := 0 }, { name := "LOG2_ARRAY_SHORT_INDEX_SCALE", type := .int, accessFlags := 25, slot := 5, constantValue := 0 }, { name := "LOG2_ARRAY_INT_INDEX_SCALE", type := .int, accessFlags := 25, slot := 6, constantValue := 0 }, { name := "LOG2_ARRAY_LONG_INDEX_SCALE", type := .int, accessFlags := 25, slot := 7, constantValue := 0 }, { name := "LOG2_ARRAY_FLOAT_INDEX_SCALE", type := .int, accessFlags := 25, slot := 8, constantValue := 0 }, { name := "LOG2_ARRAY_DOUBLE_INDEX_SCALE", type := .int, accessFlags := 25, slot := 9, constantValue := 0 }, { name := "LOG2_BYTE_BIT_SIZE", type := .int, accessFlags := 26, slot := 10, constantValue := 0 }, { name := "T_BOOLEAN", type := .int, accessFlags := 25, slot := 11, constantValue := 0 }, { name := "T_CHAR", type := .int, accessFlags := 25, slot := 12, constantValue := 0 }, { name := "T_FLOAT", type := .int, accessFlags := 25, slot := 13, constantValue := 0 }, { name := "T_DOUBLE", type := .int, accessFlags := 25, slot := 14, constantValue := 0 }, { name := "T_BYTE", type := .int, accessFlags := 25, slot := 15, constantValue := 0 }, { name := "T_SHORT", type := .int, accessFlags := 25, slot := 16, constantValue := 0 }, { name := "T_INT", type := .int, accessFlags := 25, slot := 17, constantValue := 0 }, { name := "T_LONG", type := .int, accessFlags := 25, slot := 18, constantValue := 0 }, { name := "JLA", type := (.object "jdk/internal/access/JavaLangAccess"), accessFlags := 26, slot := 19, constantValue := 0 }, { name := "SOFT_MAX_ARRAY_LENGTH", type := .int, accessFlags := 25, slot := 20, constantValue := 0 }]
  methods := #[k21m0, k21m1, k21m2, k21m3, k21m4]
  instanceTypes := #[]
  staticTypes := #[(.object "jdk/internal/misc/Unsafe"), .boolean, .int, .int, .int, .int, .int, .int, .int, .int, .int, .int, .int, .int, .int, .int, .int, .int, .int, (.object "jdk/internal/access/JavaLangAccess"), .int]
  resolved := Array.replicate 378 none
  statics := none }

def pool22 : Array CpInfo := pool [(1, .class_ 2), (0, u "java/lang/Math"), (1, .class_ 6), (1, u "java/lang/Object"), (0, u "<init>"), (0, u "()V"), (89, .class_ 100), (1, u "java/lang/Math$RandomNumberGeneratorHolder"), (71, u "negativeZeroFloatBits"), (0, u "J"), (2, u "negativeZeroDoubleBits"), (24, u "min"), (43, u "$assertionsDisabled"), (0, u "Z"), (88, u "(II)I"), (2, u "twoToTheDoubleScaleDown"), (0, u "D"), (4, u "twoToTheDoubleScaleUp"), (9, u "E"), (3, u "PI"), (2, u "TAU"), (2, u "DEGREES_TO_RADIANS"), (0, u "RADIANS_TO_DEGREES")] 94

def k22m0 : Method := { name := "<init>", desc := "()V", sig := { parameters := [], returnType := none }, accessFlags := 2, code := none }
def k22c1 : Code := { maxStack := 2, maxLocals := 2, code := jdk_29_method_69_code, exceptionTable := #[], attributes := #[] }
def k22m1 : Method := { name := "min", desc := "(II)I", sig := { parameters := [.int, .int], returnType := some .int }, accessFlags := 9, code := some k22c1 }
/-- java/lang/Math -/
def k22 : Class := { plain "java/lang/Math" (some 0) with
  accessFlags := 49
  interfaces := #[]
  cf := some (fileOf pool22 1 #[.nestMembers #[98]] #[{ accessFlags := 2, nameIndex := 7, descriptorIndex := 8, attributes := #[] }, { accessFlags := 9, nameIndex := 201, descriptorIndex := 335, attributes := #[] }] 49 4 #[] #[{ accessFlags := 25, nameIndex := 354, descriptorIndex := 339, attributes := #[] }, { accessFlags := 25, nameIndex := 358, descriptorIndex := 339, attributes := #[] }, { accessFlags := 25, nameIndex := 361, descriptorIndex := 339, attributes := #[] }, { accessFlags := 26, nameIndex := 364, descriptorIndex := 339, attributes := #[] }, { accessFlags := 26, nameIndex := 365, descriptorIndex := 339, attributes := #[] }, { accessFlags := 26, nameIndex := 172, descriptorIndex := 173, attributes := #[] }, { accessFlags := 26, nameIndex := 176, descriptorIndex := 173, attributes := #[] }, { accessFlags := 8, nameIndex := 344, descriptorIndex := 339, attributes := #[] }, { accessFlags := 8, nameIndex := 338, descriptorIndex := 339, attributes := #[] }, { accessFlags := 4120, nameIndex := 245, descriptorIndex := 246, attributes := #[] }])
  fields := #[{ name := "E", type := .double, accessFlags := 25, slot := 0, constantValue := 0 }, { name := "PI", type := .double, accessFlags := 25, slot := 1, constantValue := 0 }, { name := "TAU", type := .double, accessFlags := 25, slot := 2, constantValue := 0 }, { name := "DEGREES_TO_RADIANS", type := .double, accessFlags := 26, slot := 3, constantValue := 0 }, { name := "RADIANS_TO_DEGREES", type := .double, accessFlags := 26, slot := 4, constantValue := 0 }, { name := "negativeZeroFloatBits", type := .long, accessFlags := 26, slot := 5, constantValue := 0 }, { name := "negativeZeroDoubleBits", type := .long, accessFlags := 26, slot := 6, constantValue := 0 }, { name := "twoToTheDoubleScaleUp", type := .double, accessFlags := 8, slot := 7, constantValue := 0 }, { name := "twoToTheDoubleScaleDown", type := .double, accessFlags := 8, slot := 8, constantValue := 0 }, { name := "$assertionsDisabled", type := .boolean, accessFlags := 4120, slot := 9, constantValue := 0 }]
  methods := #[k22m0, k22m1]
  instanceTypes := #[]
  staticTypes := #[.double, .double, .double, .double, .double, .long, .long, .double, .double, .boolean]
  resolved := Array.replicate 460 none
  statics := none }

def pool23 : Array CpInfo := pool [(2, .class_ 4), (1, u "java/lang/Object"), (0, u "<init>"), (0, u "()V"), (1, .class_ 10), (1, u "java/lang/System"), (0, u "allowSecurityManager"), (0, u "I"), (16, u "cons"), (0, u "Ljava/io/Console;"), (77, .class_ 110), (1, u "java/lang/System$CallersHolder"), (43, u "initialErrStream"), (0, u "Ljava/io/PrintStream;"), (19, u "security"), (0, u "Ljava/lang/SecurityManager;"), (31, .class_ 209), (0, u "java/lang/System$1"), (7, u "props"), (0, u "Ljava/util/Properties;"), (2, u "lineSeparator"), (0, u "Ljava/lang/String;"), (96, .class_ 321), (1, u "java/lang/System$LoggerFinder"), (5, .class_ 328), (0, u "java/lang/System$Logger"), (67, u "err"), (2, u "out"), (91, u "notSupportedJnuEncoding"), (15, u "in"), (17, u "initialIn"), (0, u "Ljava/io/InputStream;"), (35, u "bootLayer"), (0, u "Ljava/lang/ModuleLayer;"), (99, .class_ 664), (0, u "java/lang/System$2"), (9, u "NEVER"), (2, u "MAYBE"), (49, u "arraycopy"), (0, u "(Ljava/lang/Object;ILjava/lang/Object;II)V"), (72, .class_ 802), (0, u "java/lang/System$Logger$Level")] 31

def k23m0 : Method := { name := "<init>", desc := "()V", sig := { parameters := [], returnType := none }, accessFlags := 2, code := none }
def k23m1 : Method := { name := "arraycopy", desc := "(Ljava/lang/Object;ILjava/lang/Object;II)V", sig := { parameters := [(.object "java/lang/Object"), .int, (.object "java/lang/Object"), .int, .int], returnType := none }, accessFlags := 265, code := none }
/-- java/lang/System -/
def k23 : Class := { plain "java/lang/System" (some 0) with
  accessFlags := 49
  interfaces := #[]
  cf := some (fileOf pool23 8 #[.nestMembers #[319, 327, 801, 108, 663, 208]] #[{ accessFlags := 2, nameIndex := 5, descriptorIndex := 6, attributes := #[] }, { accessFlags := 265, nameIndex := 727, descriptorIndex := 728, attributes := #[] }] 49 2 #[] #[{ accessFlags := 25, nameIndex := 507, descriptorIndex := 526, attributes := #[] }, { accessFlags := 25, nameIndex := 399, descriptorIndex := 155, attributes := #[] }, { accessFlags := 25, nameIndex := 396, descriptorIndex := 155, attributes := #[] }, { accessFlags := 10, nameIndex := 525, descriptorIndex := 526, attributes := #[] }, { accessFlags := 26, nameIndex := 674, descriptorIndex := 12, attributes := #[] }, { accessFlags := 26, nameIndex := 677, descriptorIndex := 12, attributes := #[] }, { accessFlags := 10, nameIndex := 11, descriptorIndex := 12, attributes := #[] }, { accessFlags := 74, nameIndex := 175, descriptorIndex := 176, attributes := #[] }, { accessFlags := 10, nameIndex := 491, descriptorIndex := 222, attributes := #[] }, { accessFlags := 74, nameIndex := 29, descriptorIndex := 30, attributes := #[] }, { accessFlags := 74, nameIndex := 154, descriptorIndex := 155, attributes := #[] }, { accessFlags := 10, nameIndex := 217, descriptorIndex := 218, attributes := #[] }, { accessFlags := 10, nameIndex := 221, descriptorIndex := 222, attributes := #[] }, { accessFlags := 8, nameIndex := 562, descriptorIndex := 563, attributes := #[] }])
  fields := #[{ name := "in", type := (.object "java/io/InputStream"), accessFlags := 25, slot := 0, constantValue := 0 }, { name := "out", type := (.object "java/io/PrintStream"), accessFlags := 25, slot := 1, constantValue := 0 }, { name := "err", type := (.object "java/io/PrintStream"), accessFlags := 25, slot := 2, constantValue := 0 }, { name := "initialIn", type := (.object "java/io/InputStream"), accessFlags := 10, slot := 3, constantValue := 0 }, { name := "NEVER", type := .int, accessFlags := 26, slot := 4, constantValue := 0 }, { name := "MAYBE", type := .int, accessFlags := 26, slot := 5, constantValue := 0 }, { name := "allowSecurityManager", type := .int, accessFlags := 10, slot := 6, constantValue := 0 }, { name := "security", type := (.object "java/lang/SecurityManager"), accessFlags := 74, slot := 7, constantValue := 0 }, { name := "notSupportedJnuEncoding", type := (.object "java/lang/String"), accessFlags := 10, slot := 8, constantValue := 0 }, { name := "cons", type := (.object "java/io/Console"), accessFlags := 74, slot := 9, constantValue := 0 }, { name := "initialErrStream", type := (.object "java/io/PrintStream"), accessFlags := 74, slot := 10, constantValue := 0 }, { name := "props", type := (.object "java/util/Properties"), accessFlags := 10, slot := 11, constantValue := 0 }, { name := "lineSeparator", type := (.object "java/lang/String"), accessFlags := 10, slot := 12, constantValue := 0 }, { name := "bootLayer", type := (.object "java/lang/ModuleLayer"), accessFlags := 8, slot := 13, constantValue := 0 }]
  methods := #[k23m0, k23m1]
  instanceTypes := #[]
  staticTypes := #[(.object "java/io/InputStream"), (.object "java/io/PrintStream"), (.object "java/io/PrintStream"), (.object "java/io/InputStream"), .int, .int, .int, (.object "java/lang/SecurityManager"), (.object "java/lang/String"), (.object "java/io/Console"), (.object "java/io/PrintStream"), (.object "java/util/Properties"), (.object "java/lang/String"), (.object "java/lang/ModuleLayer")]
  resolved := Array.replicate 834 none
  statics := none }

def pool24 : Array CpInfo := pool [(2, .class_ 4), (1, u "java/lang/Object"), (0, u "<init>"), (0, u "()V"), (17, .class_ 26), (1, u "jdk/internal/util/Preconditions"), (28, .class_ 56), (0, u "jdk/internal/util/Preconditions$4"), (57, .class_ 115), (0, u "jdk/internal/util/Preconditions$1"), (7, u "SIOOBE_FORMATTER"), (0, u "Ljava/util/function/BiFunction;"), (0, .class_ 126), (0, u "jdk/internal/util/Preconditions$2"), (3, u "AIOOBE_FORMATTER"), (0, .class_ 132), (0, u "jdk/internal/util/Preconditions$3"), (3, u "IOOBE_FORMATTER")] 57

def k24m0 : Method := { name := "<init>", desc := "()V", sig := { parameters := [], returnType := none }, accessFlags := 1, code := none }
/-- jdk/internal/util/Preconditions -/
def k24 : Class := { plain "jdk/internal/util/Preconditions" (some 0) with
  accessFlags := 33
  interfaces := #[]
  cf := some (fileOf pool24 24 #[.nestMembers #[55, 131, 125, 114]] #[{ accessFlags := 1, nameIndex := 5, descriptorIndex := 6, attributes := #[] }] 33 2 #[] #[{ accessFlags := 25, nameIndex := 123, descriptorIndex := 124, attributes := #[] }, { accessFlags := 25, nameIndex := 130, descriptorIndex := 124, attributes := #[] }, { accessFlags := 25, nameIndex := 136, descriptorIndex := 124, attributes := #[] }])
  fields := #[{ name := "SIOOBE_FORMATTER", type := (.object "java/util/function/BiFunction"), accessFlags := 25, slot := 0, constantValue := 0 }, { name := "AIOOBE_FORMATTER", type := (.object "java/util/function/BiFunction"), accessFlags := 25, slot := 1, constantValue := 0 }, { name := "IOOBE_FORMATTER", type := (.object "java/util/function/BiFunction"), accessFlags := 25, slot := 2, constantValue := 0 }]
  methods := #[k24m0]
  instanceTypes := #[]
  staticTypes := #[(.object "java/util/function/BiFunction"), (.object "java/util/function/BiFunction"), (.object "java/util/function/BiFunction")]
  resolved := Array.replicate 194 none
  statics := some 3 }

/-- the primitive byte -/
def k25 : Class := { plain "byte" none with kind := .primitive 'B', accessFlags := 0x411 }
/-- [B -/
def k26 : Class := { plain "[B" (some 0) with kind := .array 25 .byte, interfaces := #[18, 2], accessFlags := 1041 }

/-- the primitive char -/
def k27 : Class := { plain "char" none with kind := .primitive 'C', accessFlags := 0x411 }
/-- [C -/
def k28 : Class := { plain "[C" (some 0) with kind := .array 27 .char, interfaces := #[18, 2], accessFlags := 1041 }

/-- the primitive int -/
def k29 : Class := { plain "int" none with kind := .primitive 'I', accessFlags := 0x411 }
/-- [I -/
def k30 : Class := { plain "[I" (some 0) with kind := .array 29 .int, interfaces := #[18, 2], accessFlags := 1041 }

def heap : Heap := #[{ cls := 7, slots := #[.long 0, .int 1, .null, .int 0, .null, .int 0, .int 0], vm := .statics 7 },
  { cls := 12, slots := #[.null, .null, .ref 4, .null, .null, .null], vm := .statics 12 },
  { cls := 16, slots := #[.ref 4, .null], vm := .statics 16 },
  { cls := 24, slots := #[.null, .null, .null], vm := .statics 24 },
  { cls := 16, slots := #[.null, .null, .null], vm := .none }]
def classes : Array Class := #[k0, k1, k2, k3, k4, k5, k6, k7, k8, k9, k10, k11, k12, k13, k14, k15, k16, k17, k18, k19, k20, k21, k22, k23, k24, k25, k26, k27, k28, k29, k30]
def interned : List (Array UInt16 × Addr) := []
def slotsUsed : Nat := 21
def theMethod : MethodId := ⟨1, 3⟩
def args0 : Array Value := #[.int 5, .int 4, .int 3]
def aboutOver (below : List Frame) : State where
  vm := { classes := classes, interned := interned.toArray }
  heap := heap
  slotsUsed := slotsUsed
  threads := #[{ frames := .invoking theMethod args0 :: below }]
def below0 : List Frame := [.native { method := ⟨0, 0⟩, args := #[] }]
def about1 : State := aboutOver below0
def p0 : Program := .bare "" "" ""
def e0 : Env := launch0.env 0 0 0
theorem w_frames : about1.frames = Frame.invoking theMethod args0 :: below0 := rfl
set_option maxRecDepth 65536 in
theorem w_args : argsFit about1.vm theMethod args0 = true := by decide +kernel
set_option maxRecDepth 65536 in
theorem w_heap : heapFits about1 = true := by decide +kernel
set_option maxRecDepth 65536 in
theorem w_runnable : about1.curStatus? = some .runnable := by decide +kernel
set_option maxRecDepth 65536 in
theorem w_alone : about1.alone = true := by decide +kernel
set_option maxRecDepth 65536 in
theorem w_named : about1.methodNamed? x = some theMethod := by decide +kernel
set_option maxRecDepth 65536 in
theorem w_hears : about1.hears theMethod below0 = true := by decide +kernel
set_option maxRecDepth 65536 in
theorem w_ripe : about1.ripe theMethod args0 below0 = true := by decide +kernel
theorem w_running : about1.status = .running := rfl
set_option maxRecDepth 65536 in
theorem w_room : about1.hasRoom e0.platform room_1 = true :=
  launch0.hasRoom_least _ room_1 (by decide +kernel) (by decide +kernel) (by decide +kernel) (by decide +kernel) (by decide +kernel) (by decide +kernel)
theorem allAtoms_all (ts : List Jvm.Cond) (a : Array Jvm.Value) (st : Jvm.State) : (allAtoms ts).before a st = ts.all (fun c => c.before a st) := by
  induction ts with
  | nil => rfl
  | cons c t ih =>
    show (Jvm.Cond.and c (allAtoms t)).before a st = _
    rw [Jvm.Cond.before_and, ih, List.all_cons]
def words1 : List Jvm.Cond := Jvm.Cond.code x code maxLocals ret :: tables_1
/-- a 'code' word, met by the world's own term for the bytes: nothing is compared byte by byte -/
theorem code_word {y : MethodName} {bytes : ByteArray} {mx : Nat} {rt : Option FieldType} {a : Array Value} {s : State} {m : MethodId} {meth : Method} {c : Code} (h1 : s.methodNamed? y = some m) (h2 : s.vm.method? m = some meth) (h3 : meth.code = some c) (h4 : c.code = bytes)
    (h5 : (c.maxLocals == mx && c.exceptionTable.isEmpty && decide (c.maxStack ≤ mostOperands) && decide (meth.sig.returnType = rt) && !meth.locks && decide (parseMethodDescriptor y.desc = some meth.sig)) = true) : (Jvm.Cond.code y bytes mx rt).before a s = true := by
  simp only [Bool.and_eq_true, beq_iff_eq, Bool.not_eq_true', decide_eq_true_eq] at h5
  obtain ⟨⟨⟨⟨⟨g1, g2⟩, g3⟩, g4⟩, g5⟩, g6⟩ := h5
  simp [Cond.before, Cond.holds, Cond.value, h1, h2, h3, h4, g1, g2, g3, g4, g5, g6]
def isCode : Jvm.Cond → Bool
  | .code _ _ _ _ => true
  | _ => false
theorem all_split {L : List Jvm.Cond} {P : Jvm.Cond → Bool} (h1 : L.all (fun c => isCode c || P c) = true) (h2 : ∀ c ∈ L.filter isCode, P c = true) : L.all P = true := by
  refine List.all_eq_true.mpr fun c hc => ?_
  have h := List.all_eq_true.mp h1 c hc
  rcases Bool.eq_false_or_eq_true (isCode c) with hi | hi
  · exact h2 c (List.mem_filter.mpr ⟨hc, hi⟩)
  · simpa [hi] using h
set_option maxRecDepth 65536 in
theorem w_c0 : (Jvm.Cond.code x code maxLocals ret).before args0 about1 = true := code_word (m := ⟨1, 3⟩) (meth := k1m3) (c := k1c3) (by decide +kernel) rfl rfl rfl (by decide +kernel)
set_option maxRecDepth 65536 in
theorem w_c1 : (Jvm.Cond.code ({ cls := "com/example/commitwright/commitwright/core/BranchHashCodePinLaw", name := "name", desc := "(ZCC)Ljava/lang/String;" } : Jvm.MethodName) method_2_code (4 : Nat) (Option.some (Jvm.ClassFile.FieldType.object "java/lang/String"))).before args0 about1 = true := code_word (m := ⟨1, 1⟩) (meth := k1m1) (c := k1c1) (by decide +kernel) rfl rfl rfl (by decide +kernel)
set_option maxRecDepth 65536 in
theorem w_c2 : (Jvm.Cond.code ({ cls := "java/lang/String", name := "<init>", desc := "([C)V" } : Jvm.MethodName) jdk_42_method_3_code (2 : Nat) (Option.none : Option Jvm.ClassFile.FieldType)).before args0 about1 = true := code_word (m := ⟨7, 1⟩) (meth := k7m1) (c := k7c1) (by decide +kernel) rfl rfl rfl (by decide +kernel)
set_option maxRecDepth 65536 in
theorem w_c3 : (Jvm.Cond.code ({ cls := "java/lang/String", name := "<init>", desc := "([CIILjava/lang/Void;)V" } : Jvm.MethodName) jdk_42_method_149_code (6 : Nat) (Option.none : Option Jvm.ClassFile.FieldType)).before args0 about1 = true := code_word (m := ⟨7, 7⟩) (meth := k7m7) (c := k7c7) (by decide +kernel) rfl rfl rfl (by decide +kernel)
set_option maxRecDepth 65536 in
theorem w_c4 : (Jvm.Cond.code ({ cls := "java/lang/Object", name := "<init>", desc := "()V" } : Jvm.MethodName) object_method_1_code (1 : Nat) (Option.none : Option Jvm.ClassFile.FieldType)).before args0 about1 = true := code_word (m := ⟨0, 0⟩) (meth := k0m0) (c := k0c0) (by decide +kernel) rfl rfl rfl (by decide +kernel)
set_option maxRecDepth 65536 in
theorem w_c5 : (Jvm.Cond.code ({ cls := "java/lang/StringUTF16", name := "compress", desc := "([CII)[B" } : Jvm.MethodName) jdk_52_method_16_code (6 : Nat) (Option.some (Jvm.ClassFile.FieldType.array Jvm.ClassFile.FieldType.byte))).before args0 about1 = true := code_word (m := ⟨8, 4⟩) (meth := k8m4) (c := k8c4) (by decide +kernel) rfl rfl rfl (by decide +kernel)
set_option maxRecDepth 65536 in
theorem w_c6 : (Jvm.Cond.code ({ cls := "java/lang/StringUTF16", name := "compress", desc := "([CI[BII)I" } : Jvm.MethodName) jdk_52_method_21_code (7 : Nat) (Option.some Jvm.ClassFile.FieldType.int)).before args0 about1 = true := code_word (m := ⟨8, 5⟩) (meth := k8m5) (c := k8c5) (by decide +kernel) rfl rfl rfl (by decide +kernel)
set_option maxRecDepth 65536 in
theorem w_c7 : (Jvm.Cond.code ({ cls := "java/lang/StringUTF16", name := "coderFromArrayLen", desc := "([BI)B" } : Jvm.MethodName) jdk_52_method_15_code (2 : Nat) (Option.some Jvm.ClassFile.FieldType.byte)).before args0 about1 = true := code_word (m := ⟨8, 3⟩) (meth := k8m3) (c := k8c3) (by decide +kernel) rfl rfl rfl (by decide +kernel)
set_option maxRecDepth 65536 in
theorem w_c8 : (Jvm.Cond.code ({ cls := "com/example/commitwright/commitwright/core/BranchHashCodePinLaw", name := "key", desc := "(IBB)[B" } : Jvm.MethodName) method_3_code (4 : Nat) (Option.some (Jvm.ClassFile.FieldType.array Jvm.ClassFile.FieldType.byte))).before args0 about1 = true := code_word (m := ⟨1, 2⟩) (meth := k1m2) (c := k1c2) (by decide +kernel) rfl rfl rfl (by decide +kernel)
set_option maxRecDepth 65536 in
theorem w_c9 : (Jvm.Cond.code ({ cls := "com/example/commitwright/commitwright/core/Branch", name := "<init>", desc := "(Ljava/lang/String;[B)V" } : Jvm.MethodName) prog_15_method_1_code (3 : Nat) (Option.none : Option Jvm.ClassFile.FieldType)).before args0 about1 = true := code_word (m := ⟨10, 0⟩) (meth := k10m0) (c := k10c0) (by decide +kernel) rfl rfl rfl (by decide +kernel)
set_option maxRecDepth 65536 in
theorem w_c10 : (Jvm.Cond.code ({ cls := "java/lang/Record", name := "<init>", desc := "()V" } : Jvm.MethodName) jdk_30_method_1_code (1 : Nat) (Option.none : Option Jvm.ClassFile.FieldType)).before args0 about1 = true := code_word (m := ⟨9, 0⟩) (meth := k9m0) (c := k9c0) (by decide +kernel) rfl rfl rfl (by decide +kernel)
set_option maxRecDepth 65536 in
theorem w_c11 : (Jvm.Cond.code ({ cls := "com/example/commitwright/commitwright/core/Branch", name := "checkResourceName", desc := "(Ljava/lang/String;)Ljava/lang/String;" } : Jvm.MethodName) prog_15_method_2_code (2 : Nat) (Option.some (Jvm.ClassFile.FieldType.object "java/lang/String"))).before args0 about1 = true := code_word (m := ⟨10, 1⟩) (meth := k10m1) (c := k10c1) (by decide +kernel) rfl rfl rfl (by decide +kernel)
set_option maxRecDepth 65536 in
theorem w_c12 : (Jvm.Cond.code ({ cls := "java/util/Objects", name := "requireNonNull", desc := "(Ljava/lang/Object;Ljava/lang/String;)Ljava/lang/Object;" } : Jvm.MethodName) jdk_31_method_11_code (2 : Nat) (Option.some (Jvm.ClassFile.FieldType.object "java/lang/Object"))).before args0 about1 = true := code_word (m := ⟨11, 1⟩) (meth := k11m1) (c := k11c1) (by decide +kernel) rfl rfl rfl (by decide +kernel)
set_option maxRecDepth 65536 in
theorem w_c13 : (Jvm.Cond.code ({ cls := "java/lang/String", name := "getBytes", desc := "(Ljava/nio/charset/Charset;)[B" } : Jvm.MethodName) jdk_42_method_64_code (2 : Nat) (Option.some (Jvm.ClassFile.FieldType.array Jvm.ClassFile.FieldType.byte))).before args0 about1 = true := code_word (m := ⟨7, 4⟩) (meth := k7m4) (c := k7c4) (by decide +kernel) rfl rfl rfl (by decide +kernel)
set_option maxRecDepth 65536 in
theorem w_c14 : (Jvm.Cond.code ({ cls := "java/lang/String", name := "coder", desc := "()B" } : Jvm.MethodName) jdk_42_method_152_code (1 : Nat) (Option.some Jvm.ClassFile.FieldType.byte)).before args0 about1 = true := code_word (m := ⟨7, 8⟩) (meth := k7m8) (c := k7c8) (by decide +kernel) rfl rfl rfl (by decide +kernel)
set_option maxRecDepth 65536 in
theorem w_c15 : (Jvm.Cond.code ({ cls := "java/lang/String", name := "encode", desc := "(Ljava/nio/charset/Charset;B[B)[B" } : Jvm.MethodName) jdk_42_method_18_code (3 : Nat) (Option.some (Jvm.ClassFile.FieldType.array Jvm.ClassFile.FieldType.byte))).before args0 about1 = true := code_word (m := ⟨7, 2⟩) (meth := k7m2) (c := k7c2) (by decide +kernel) rfl rfl rfl (by decide +kernel)
set_option maxRecDepth 65536 in
theorem w_c16 : (Jvm.Cond.code ({ cls := "java/lang/String", name := "encodeUTF8", desc := "(B[BZ)[B" } : Jvm.MethodName) jdk_42_method_46_code (9 : Nat) (Option.some (Jvm.ClassFile.FieldType.array Jvm.ClassFile.FieldType.byte))).before args0 about1 = true := code_word (m := ⟨7, 3⟩) (meth := k7m3) (c := k7c3) (by decide +kernel) rfl rfl rfl (by decide +kernel)
set_option maxRecDepth 65536 in
theorem w_c17 : (Jvm.Cond.code ({ cls := "java/lang/StringCoding", name := "hasNegatives", desc := "([BII)Z" } : Jvm.MethodName) jdk_123_method_2_code (3 : Nat) (Option.some Jvm.ClassFile.FieldType.boolean)).before args0 about1 = true := code_word (m := ⟨17, 1⟩) (meth := k17m1) (c := k17c1) (by decide +kernel) rfl rfl rfl (by decide +kernel)
set_option maxRecDepth 65536 in
theorem w_c18 : (Jvm.Cond.code ({ cls := "java/lang/StringCoding", name := "countPositives", desc := "([BII)I" } : Jvm.MethodName) jdk_123_method_3_code (5 : Nat) (Option.some Jvm.ClassFile.FieldType.int)).before args0 about1 = true := code_word (m := ⟨17, 2⟩) (meth := k17m2) (c := k17c2) (by decide +kernel) rfl rfl rfl (by decide +kernel)
set_option maxRecDepth 65536 in
theorem w_c19 : (Jvm.Cond.code ({ cls := "com/example/commitwright/commitwright/core/Branch", name := "hashCode", desc := "()I" } : Jvm.MethodName) prog_15_method_5_code (1 : Nat) (Option.some Jvm.ClassFile.FieldType.int)).before args0 about1 = true := code_word (m := ⟨10, 3⟩) (meth := k10m3) (c := k10c3) (by decide +kernel) rfl rfl rfl (by decide +kernel)
set_option maxRecDepth 65536 in
theorem w_c20 : (Jvm.Cond.code ({ cls := "java/lang/String", name := "hashCode", desc := "()I" } : Jvm.MethodName) jdk_42_method_78_code (2 : Nat) (Option.some Jvm.ClassFile.FieldType.int)).before args0 about1 = true := code_word (m := ⟨7, 6⟩) (meth := k7m6) (c := k7c6) (by decide +kernel) rfl rfl rfl (by decide +kernel)
set_option maxRecDepth 65536 in
theorem w_c21 : (Jvm.Cond.code ({ cls := "java/lang/String", name := "isLatin1", desc := "()Z" } : Jvm.MethodName) jdk_42_method_154_code (1 : Nat) (Option.some Jvm.ClassFile.FieldType.boolean)).before args0 about1 = true := code_word (m := ⟨7, 9⟩) (meth := k7m9) (c := k7c9) (by decide +kernel) rfl rfl rfl (by decide +kernel)
set_option maxRecDepth 65536 in
theorem w_c22 : (Jvm.Cond.code ({ cls := "java/lang/StringLatin1", name := "hashCode", desc := "([B)I" } : Jvm.MethodName) jdk_43_method_21_code (1 : Nat) (Option.some Jvm.ClassFile.FieldType.int)).before args0 about1 = true := code_word (m := ⟨19, 2⟩) (meth := k19m2) (c := k19c2) (by decide +kernel) rfl rfl rfl (by decide +kernel)
set_option maxRecDepth 65536 in
theorem w_c23 : (Jvm.Cond.code ({ cls := "java/util/Arrays", name := "hashCode", desc := "([B)I" } : Jvm.MethodName) jdk_65_method_153_code (1 : Nat) (Option.some Jvm.ClassFile.FieldType.int)).before args0 about1 = true := code_word (m := ⟨20, 3⟩) (meth := k20m3) (c := k20c3) (by decide +kernel) rfl rfl rfl (by decide +kernel)
set_option maxRecDepth 65536 in
theorem w_c24 : (Jvm.Cond.code ({ cls := "com/example/commitwright/commitwright/core/Branch", name := "equals", desc := "(Ljava/lang/Object;)Z" } : Jvm.MethodName) prog_15_method_4_code (3 : Nat) (Option.some Jvm.ClassFile.FieldType.boolean)).before args0 about1 = true := code_word (m := ⟨10, 2⟩) (meth := k10m2) (c := k10c2) (by decide +kernel) rfl rfl rfl (by decide +kernel)
set_option maxRecDepth 65536 in
theorem w_c25 : (Jvm.Cond.code ({ cls := "java/lang/String", name := "equals", desc := "(Ljava/lang/Object;)Z" } : Jvm.MethodName) jdk_42_method_66_code (3 : Nat) (Option.some Jvm.ClassFile.FieldType.boolean)).before args0 about1 = true := code_word (m := ⟨7, 5⟩) (meth := k7m5) (c := k7c5) (by decide +kernel) rfl rfl rfl (by decide +kernel)
set_option maxRecDepth 65536 in
theorem w_c26 : (Jvm.Cond.code ({ cls := "java/lang/StringLatin1", name := "equals", desc := "([B[B)Z" } : Jvm.MethodName) jdk_43_method_13_code (3 : Nat) (Option.some Jvm.ClassFile.FieldType.boolean)).before args0 about1 = true := code_word (m := ⟨19, 1⟩) (meth := k19m1) (c := k19c1) (by decide +kernel) rfl rfl rfl (by decide +kernel)
set_option maxRecDepth 65536 in
theorem w_c27 : (Jvm.Cond.code ({ cls := "java/util/Arrays", name := "equals", desc := "([B[B)Z" } : Jvm.MethodName) jdk_65_method_89_code (3 : Nat) (Option.some Jvm.ClassFile.FieldType.boolean)).before args0 about1 = true := code_word (m := ⟨20, 1⟩) (meth := k20m1) (c := k20c1) (by decide +kernel) rfl rfl rfl (by decide +kernel)
set_option maxRecDepth 65536 in
theorem w_c28 : (Jvm.Cond.code ({ cls := "jdk/internal/util/ArraysSupport", name := "mismatch", desc := "([B[BI)I" } : Jvm.MethodName) jdk_48_method_13_code (4 : Nat) (Option.some Jvm.ClassFile.FieldType.int)).before args0 about1 = true := code_word (m := ⟨21, 4⟩) (meth := k21m4) (c := k21c4) (by decide +kernel) rfl rfl rfl (by decide +kernel)
set_option maxRecDepth 65536 in
theorem w_c29 : (Jvm.Cond.code ({ cls := "jdk/internal/util/ArraysSupport", name := "vectorizedHashCode", desc := "(Ljava/lang/Object;IIII)I" } : Jvm.MethodName) jdk_48_method_4_code (5 : Nat) (Option.some Jvm.ClassFile.FieldType.int)).before args0 about1 = true := code_word (m := ⟨21, 1⟩) (meth := k21m1) (c := k21c1) (by decide +kernel) rfl rfl rfl (by decide +kernel)
set_option maxRecDepth 65536 in
theorem w_c30 : (Jvm.Cond.code ({ cls := "jdk/internal/util/ArraysSupport", name := "signedHashCode", desc := "(I[BII)I" } : Jvm.MethodName) jdk_48_method_5_code (6 : Nat) (Option.some Jvm.ClassFile.FieldType.int)).before args0 about1 = true := code_word (m := ⟨21, 2⟩) (meth := k21m2) (c := k21c2) (by decide +kernel) rfl rfl rfl (by decide +kernel)
set_option maxRecDepth 65536 in
theorem w_c31 : (Jvm.Cond.code ({ cls := "java/lang/StringUTF16", name := "newBytesFor", desc := "(I)[B" } : Jvm.MethodName) jdk_52_method_2_code (1 : Nat) (Option.some (Jvm.ClassFile.FieldType.array Jvm.ClassFile.FieldType.byte))).before args0 about1 = true := code_word (m := ⟨8, 1⟩) (meth := k8m1) (c := k8c1) (by decide +kernel) rfl rfl rfl (by decide +kernel)
set_option maxRecDepth 65536 in
theorem w_c32 : (Jvm.Cond.code ({ cls := "java/lang/StringUTF16", name := "newBytesLength", desc := "(I)I" } : Jvm.MethodName) jdk_52_method_3_code (1 : Nat) (Option.some Jvm.ClassFile.FieldType.int)).before args0 about1 = true := code_word (m := ⟨8, 2⟩) (meth := k8m2) (c := k8c2) (by decide +kernel) rfl rfl rfl (by decide +kernel)
set_option maxRecDepth 65536 in
theorem w_c33 : (Jvm.Cond.code ({ cls := "java/util/Arrays", name := "copyOf", desc := "([BI)[B" } : Jvm.MethodName) jdk_65_method_121_code (3 : Nat) (Option.some (Jvm.ClassFile.FieldType.array Jvm.ClassFile.FieldType.byte))).before args0 about1 = true := code_word (m := ⟨20, 2⟩) (meth := k20m2) (c := k20c2) (by decide +kernel) rfl rfl rfl (by decide +kernel)
set_option maxRecDepth 65536 in
theorem w_c34 : (Jvm.Cond.code ({ cls := "java/lang/Math", name := "min", desc := "(II)I" } : Jvm.MethodName) jdk_29_method_69_code (2 : Nat) (Option.some Jvm.ClassFile.FieldType.int)).before args0 about1 = true := code_word (m := ⟨22, 1⟩) (meth := k22m1) (c := k22c1) (by decide +kernel) rfl rfl rfl (by decide +kernel)
set_option maxRecDepth 65536 in
theorem w_c35 : (Jvm.Cond.code ({ cls := "jdk/internal/util/ArraysSupport", name := "hashCode", desc := "(I[BII)I" } : Jvm.MethodName) jdk_48_method_6_code (6 : Nat) (Option.some Jvm.ClassFile.FieldType.int)).before args0 about1 = true := code_word (m := ⟨21, 3⟩) (meth := k21m3) (c := k21c3) (by decide +kernel) rfl rfl rfl (by decide +kernel)
def codes1 : List Jvm.Cond := [Jvm.Cond.code x code maxLocals ret, Jvm.Cond.code ({ cls := "com/example/commitwright/commitwright/core/BranchHashCodePinLaw", name := "name", desc := "(ZCC)Ljava/lang/String;" } : Jvm.MethodName) method_2_code (4 : Nat) (Option.some (Jvm.ClassFile.FieldType.object "java/lang/String")), Jvm.Cond.code ({ cls := "java/lang/String", name := "<init>", desc := "([C)V" } : Jvm.MethodName) jdk_42_method_3_code (2 : Nat) (Option.none : Option Jvm.ClassFile.FieldType), Jvm.Cond.code ({ cls := "java/lang/String", name := "<init>", desc := "([CIILjava/lang/Void;)V" } : Jvm.MethodName) jdk_42_method_149_code (6 : Nat) (Option.none : Option Jvm.ClassFile.FieldType), Jvm.Cond.code ({ cls := "java/lang/Object", name := "<init>", desc := "()V" } : Jvm.MethodName) object_method_1_code (1 : Nat) (Option.none : Option Jvm.ClassFile.FieldType), Jvm.Cond.code ({ cls := "java/lang/StringUTF16", name := "compress", desc := "([CII)[B" } : Jvm.MethodName) jdk_52_method_16_code (6 : Nat) (Option.some (Jvm.ClassFile.FieldType.array Jvm.ClassFile.FieldType.byte)), Jvm.Cond.code ({ cls := "java/lang/StringUTF16", name := "compress", desc := "([CI[BII)I" } : Jvm.MethodName) jdk_52_method_21_code (7 : Nat) (Option.some Jvm.ClassFile.FieldType.int), Jvm.Cond.code ({ cls := "java/lang/StringUTF16", name := "coderFromArrayLen", desc := "([BI)B" } : Jvm.MethodName) jdk_52_method_15_code (2 : Nat) (Option.some Jvm.ClassFile.FieldType.byte), Jvm.Cond.code ({ cls := "com/example/commitwright/commitwright/core/BranchHashCodePinLaw", name := "key", desc := "(IBB)[B" } : Jvm.MethodName) method_3_code (4 : Nat) (Option.some (Jvm.ClassFile.FieldType.array Jvm.ClassFile.FieldType.byte)), Jvm.Cond.code ({ cls := "com/example/commitwright/commitwright/core/Branch", name := "<init>", desc := "(Ljava/lang/String;[B)V" } : Jvm.MethodName) prog_15_method_1_code (3 : Nat) (Option.none : Option Jvm.ClassFile.FieldType), Jvm.Cond.code ({ cls := "java/lang/Record", name := "<init>", desc := "()V" } : Jvm.MethodName) jdk_30_method_1_code (1 : Nat) (Option.none : Option Jvm.ClassFile.FieldType), Jvm.Cond.code ({ cls := "com/example/commitwright/commitwright/core/Branch", name := "checkResourceName", desc := "(Ljava/lang/String;)Ljava/lang/String;" } : Jvm.MethodName) prog_15_method_2_code (2 : Nat) (Option.some (Jvm.ClassFile.FieldType.object "java/lang/String")), Jvm.Cond.code ({ cls := "java/util/Objects", name := "requireNonNull", desc := "(Ljava/lang/Object;Ljava/lang/String;)Ljava/lang/Object;" } : Jvm.MethodName) jdk_31_method_11_code (2 : Nat) (Option.some (Jvm.ClassFile.FieldType.object "java/lang/Object")), Jvm.Cond.code ({ cls := "java/lang/String", name := "getBytes", desc := "(Ljava/nio/charset/Charset;)[B" } : Jvm.MethodName) jdk_42_method_64_code (2 : Nat) (Option.some (Jvm.ClassFile.FieldType.array Jvm.ClassFile.FieldType.byte)), Jvm.Cond.code ({ cls := "java/lang/String", name := "coder", desc := "()B" } : Jvm.MethodName) jdk_42_method_152_code (1 : Nat) (Option.some Jvm.ClassFile.FieldType.byte), Jvm.Cond.code ({ cls := "java/lang/String", name := "encode", desc := "(Ljava/nio/charset/Charset;B[B)[B" } : Jvm.MethodName) jdk_42_method_18_code (3 : Nat) (Option.some (Jvm.ClassFile.FieldType.array Jvm.ClassFile.FieldType.byte)), Jvm.Cond.code ({ cls := "java/lang/String", name := "encodeUTF8", desc := "(B[BZ)[B" } : Jvm.MethodName) jdk_42_method_46_code (9 : Nat) (Option.some (Jvm.ClassFile.FieldType.array Jvm.ClassFile.FieldType.byte)), Jvm.Cond.code ({ cls := "java/lang/StringCoding", name := "hasNegatives", desc := "([BII)Z" } : Jvm.MethodName) jdk_123_method_2_code (3 : Nat) (Option.some Jvm.ClassFile.FieldType.boolean), Jvm.Cond.code ({ cls := "java/lang/StringCoding", name := "countPositives", desc := "([BII)I" } : Jvm.MethodName) jdk_123_method_3_code (5 : Nat) (Option.some Jvm.ClassFile.FieldType.int), Jvm.Cond.code ({ cls := "com/example/commitwright/commitwright/core/Branch", name := "hashCode", desc := "()I" } : Jvm.MethodName) prog_15_method_5_code (1 : Nat) (Option.some Jvm.ClassFile.FieldType.int), Jvm.Cond.code ({ cls := "java/lang/String", name := "hashCode", desc := "()I" } : Jvm.MethodName) jdk_42_method_78_code (2 : Nat) (Option.some Jvm.ClassFile.FieldType.int), Jvm.Cond.code ({ cls := "java/lang/String", name := "isLatin1", desc := "()Z" } : Jvm.MethodName) jdk_42_method_154_code (1 : Nat) (Option.some Jvm.ClassFile.FieldType.boolean), Jvm.Cond.code ({ cls := "java/lang/StringLatin1", name := "hashCode", desc := "([B)I" } : Jvm.MethodName) jdk_43_method_21_code (1 : Nat) (Option.some Jvm.ClassFile.FieldType.int), Jvm.Cond.code ({ cls := "java/util/Arrays", name := "hashCode", desc := "([B)I" } : Jvm.MethodName) jdk_65_method_153_code (1 : Nat) (Option.some Jvm.ClassFile.FieldType.int), Jvm.Cond.code ({ cls := "com/example/commitwright/commitwright/core/Branch", name := "equals", desc := "(Ljava/lang/Object;)Z" } : Jvm.MethodName) prog_15_method_4_code (3 : Nat) (Option.some Jvm.ClassFile.FieldType.boolean), Jvm.Cond.code ({ cls := "java/lang/String", name := "equals", desc := "(Ljava/lang/Object;)Z" } : Jvm.MethodName) jdk_42_method_66_code (3 : Nat) (Option.some Jvm.ClassFile.FieldType.boolean), Jvm.Cond.code ({ cls := "java/lang/StringLatin1", name := "equals", desc := "([B[B)Z" } : Jvm.MethodName) jdk_43_method_13_code (3 : Nat) (Option.some Jvm.ClassFile.FieldType.boolean), Jvm.Cond.code ({ cls := "java/util/Arrays", name := "equals", desc := "([B[B)Z" } : Jvm.MethodName) jdk_65_method_89_code (3 : Nat) (Option.some Jvm.ClassFile.FieldType.boolean), Jvm.Cond.code ({ cls := "jdk/internal/util/ArraysSupport", name := "mismatch", desc := "([B[BI)I" } : Jvm.MethodName) jdk_48_method_13_code (4 : Nat) (Option.some Jvm.ClassFile.FieldType.int), Jvm.Cond.code ({ cls := "jdk/internal/util/ArraysSupport", name := "vectorizedHashCode", desc := "(Ljava/lang/Object;IIII)I" } : Jvm.MethodName) jdk_48_method_4_code (5 : Nat) (Option.some Jvm.ClassFile.FieldType.int), Jvm.Cond.code ({ cls := "jdk/internal/util/ArraysSupport", name := "signedHashCode", desc := "(I[BII)I" } : Jvm.MethodName) jdk_48_method_5_code (6 : Nat) (Option.some Jvm.ClassFile.FieldType.int), Jvm.Cond.code ({ cls := "java/lang/StringUTF16", name := "newBytesFor", desc := "(I)[B" } : Jvm.MethodName) jdk_52_method_2_code (1 : Nat) (Option.some (Jvm.ClassFile.FieldType.array Jvm.ClassFile.FieldType.byte)), Jvm.Cond.code ({ cls := "java/lang/StringUTF16", name := "newBytesLength", desc := "(I)I" } : Jvm.MethodName) jdk_52_method_3_code (1 : Nat) (Option.some Jvm.ClassFile.FieldType.int), Jvm.Cond.code ({ cls := "java/util/Arrays", name := "copyOf", desc := "([BI)[B" } : Jvm.MethodName) jdk_65_method_121_code (3 : Nat) (Option.some (Jvm.ClassFile.FieldType.array Jvm.ClassFile.FieldType.byte)), Jvm.Cond.code ({ cls := "java/lang/Math", name := "min", desc := "(II)I" } : Jvm.MethodName) jdk_29_method_69_code (2 : Nat) (Option.some Jvm.ClassFile.FieldType.int), Jvm.Cond.code ({ cls := "jdk/internal/util/ArraysSupport", name := "hashCode", desc := "(I[BII)I" } : Jvm.MethodName) jdk_48_method_6_code (6 : Nat) (Option.some Jvm.ClassFile.FieldType.int)]
set_option maxRecDepth 65536 in
theorem codes_eq : words1.filter isCode = codes1 := rfl
theorem w_codes : ∀ c ∈ words1.filter isCode, c.before args0 about1 = true := by
  rw [codes_eq]
  intro c hc
  simp only [codes1, List.mem_cons, List.not_mem_nil, or_false] at hc
  rcases hc with rfl | rfl | rfl | rfl | rfl | rfl | rfl | rfl | rfl | rfl | rfl | rfl | rfl | rfl | rfl | rfl | rfl | rfl | rfl | rfl | rfl | rfl | rfl | rfl | rfl | rfl | rfl | rfl | rfl | rfl | rfl | rfl | rfl | rfl | rfl | rfl
  · exact w_c0
  · exact w_c1
  · exact w_c2
  · exact w_c3
  · exact w_c4
  · exact w_c5
  · exact w_c6
  · exact w_c7
  · exact w_c8
  · exact w_c9
  · exact w_c10
  · exact w_c11
  · exact w_c12
  · exact w_c13
  · exact w_c14
  · exact w_c15
  · exact w_c16
  · exact w_c17
  · exact w_c18
  · exact w_c19
  · exact w_c20
  · exact w_c21
  · exact w_c22
  · exact w_c23
  · exact w_c24
  · exact w_c25
  · exact w_c26
  · exact w_c27
  · exact w_c28
  · exact w_c29
  · exact w_c30
  · exact w_c31
  · exact w_c32
  · exact w_c33
  · exact w_c34
  · exact w_c35
set_option maxRecDepth 65536 in
theorem w_t1 : (words1.take 24).all (fun c => isCode c || c.before args0 about1) = true := by decide +kernel
set_option maxRecDepth 65536 in
theorem w_t2 : ((words1.drop 24).take 24).all (fun c => isCode c || c.before args0 about1) = true := by decide +kernel
set_option maxRecDepth 65536 in
theorem w_t3 : (((words1.drop 24).drop 24).take 24).all (fun c => isCode c || c.before args0 about1) = true := by decide +kernel
set_option maxRecDepth 65536 in
theorem w_t4 : ((((words1.drop 24).drop 24).drop 24).take 24).all (fun c => isCode c || c.before args0 about1) = true := by decide +kernel
set_option maxRecDepth 65536 in
theorem w_t5 : (((((words1.drop 24).drop 24).drop 24).drop 24).take 24).all (fun c => isCode c || c.before args0 about1) = true := by decide +kernel
set_option maxRecDepth 65536 in
theorem w_t6 : ((((((words1.drop 24).drop 24).drop 24).drop 24).drop 24).take 24).all (fun c => isCode c || c.before args0 about1) = true := by decide +kernel
set_option maxRecDepth 65536 in
theorem w_t7 : (((((((words1.drop 24).drop 24).drop 24).drop 24).drop 24).drop 24).take 24).all (fun c => isCode c || c.before args0 about1) = true := by decide +kernel
set_option maxRecDepth 65536 in
theorem w_t8 : (((((((words1.drop 24).drop 24).drop 24).drop 24).drop 24).drop 24).drop 24).all (fun c => isCode c || c.before args0 about1) = true := by decide +kernel
theorem w_tables : (allAtoms (Jvm.Cond.code x code maxLocals ret :: tables_1)).before args0 about1 = true := by
  rw [allAtoms_all]
  show words1.all (fun c => c.before args0 about1) = true
  refine all_split ?_ w_codes
  rw [← List.take_append_drop 24 words1, List.all_append, w_t1, ← List.take_append_drop 24 (words1.drop 24), List.all_append, w_t2, ← List.take_append_drop 24 ((words1.drop 24).drop 24), List.all_append, w_t3, ← List.take_append_drop 24 (((words1.drop 24).drop 24).drop 24), List.all_append, w_t4, ← List.take_append_drop 24 ((((words1.drop 24).drop 24).drop 24).drop 24), List.all_append, w_t5, ← List.take_append_drop 24 (((((words1.drop 24).drop 24).drop 24).drop 24).drop 24), List.all_append, w_t6, ← List.take_append_drop 24 ((((((words1.drop 24).drop 24).drop 24).drop 24).drop 24).drop 24), List.all_append, w_t7, w_t8]
  rfl
set_option maxRecDepth 65536 in
theorem w_rest : rest_1_c.before args0 about1 = true := by decide +kernel
set_option maxRecDepth 65536 in
theorem w_case : (Jvm.Cond.and given_1 narrow_1).before args0 about1 = true := by decide +kernel
theorem w_applies : (headSpec (Jvm.Cond.code x code maxLocals ret :: tables_1) room_1).applies x e0.platform about1 = true :=
  (Spec.applies_iff w_frames).mpr ⟨w_running, w_runnable, w_alone, w_named, w_hears, w_ripe, w_room, w_tables⟩
theorem atStart : AtStart classFile x code maxLocals ret World_1 tables_1 room_1 Calls_1 rest_1 Pre_1 launch0 p0 e0 about1 theMethod args0 below0 :=
  ⟨lists_1, trivial, launch0.admits_env _ _ _, launch0.least_env, fairChoices_fair.cas, fairChoices_fair.clock, w_frames, w_args, w_heap, w_applies, trivial, w_rest, w_case⟩
end start1
theorem witness_1 : WitnessClaimed_1 := ⟨start1.p0, start1.e0, start1.about1, start1.theMethod, start1.args0, start1.below0, start1.atStart⟩
end Jvm.Pilot.@@N@@
