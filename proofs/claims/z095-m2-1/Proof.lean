import JvmDerived
import JvmDerived.Pilot.@@N@@Statement
import JvmDerived.Pilot.@@N@@Code
set_option linter.unusedVariables false
set_option linter.unusedSimpArgs false
namespace Jvm.RoadKit
open Sem ClassFile Op Lib Jvm.Stand Jvm.Free Jvm.LawKit
section New
variable {p : Program} {l : Launch} {e : Env} {R : Room} {s : State} {m : MethodId} {args : Array Value} {below : List Frame} {meth : Method} {c : Code} {T : State} {locs : List Loc} {cells slots : Nat}
theorem own_retI (X : Stand p l e R s m args below meth c T locs cells slots) (hx : p.tables.exec = Jvm.exec) {pc : Nat} {Ls : Array Slot} {z : Int32} {rest : List Value} (hret : meth.sig.returnType = some .int) (hd : decode c.code pc = .ok (.ireturn, 1)) {fs : List Frame}
    (hl : ∀ (f : JFrame) (acts : List Action), f.method = m → f.locked = none → f.entered = [] → (doReturn e (T.setTop f) acts (some (.int z))).1 = T.setFrames fs) : Steps p.tables e below (T.setTop (mkF m pc Ls (.int z :: rest))) (T.setFrames fs) := by
  have hm' : T.vm.method? m = some meth := X.method'
  have hn : narrow .int (.int z) = .int z := rfl
  show Steps p.tables e below (T.setTop { method := m, pc := pc, locals := Ls, stack := _ :: rest, locked := none }) _
  jvm_step X.here [X.here.top, hx, hd, hm', hret, hn]
  first | (intro acts; rw [hl _ acts rfl rfl rfl]) | rw [hl _ _ rfl rfl rfl]
  exact Steps.refl _
theorem own_retL (X : Stand p l e R s m args below meth c T locs cells slots) (hx : p.tables.exec = Jvm.exec) {pc : Nat} {Ls : Array Slot} {z : Int64} {rest : List Value} (hret : meth.sig.returnType = some .long) (hd : decode c.code pc = .ok (.lreturn, 1)) {fs : List Frame}
    (hl : ∀ (f : JFrame) (acts : List Action), f.method = m → f.locked = none → f.entered = [] → (doReturn e (T.setTop f) acts (some (.long z))).1 = T.setFrames fs) : Steps p.tables e below (T.setTop (mkF m pc Ls (.long z :: rest))) (T.setFrames fs) := by
  have hm' : T.vm.method? m = some meth := X.method'
  have hn : narrow .long (.long z) = .long z := rfl
  show Steps p.tables e below (T.setTop { method := m, pc := pc, locals := Ls, stack := _ :: rest, locked := none }) _
  jvm_step X.here [X.here.top, hx, hd, hm', hret, hn]
  first | (intro acts; rw [hl _ acts rfl rfl rfl]) | rw [hl _ _ rfl rfl rfl]
  exact Steps.refl _
theorem own_retR (X : Stand p l e R s m args below meth c T locs cells slots) (hx : p.tables.exec = Jvm.exec) {pc : Nat} {Ls : Array Slot} {w : Value} {t : FieldType} {rest : List Value} (hret : meth.sig.returnType = some t) (hn : narrow t w = w) (ht : t.isReference = true) (hw : w.isRef = true) (hd : decode c.code pc = .ok (.areturn, 1)) {fs : List Frame}
    (hl : ∀ (f : JFrame) (acts : List Action), f.method = m → f.locked = none → f.entered = [] → (doReturn e (T.setTop f) acts (some w)).1 = T.setFrames fs) : Steps p.tables e below (T.setTop (mkF m pc Ls (w :: rest))) (T.setFrames fs) := by
  have hm' : T.vm.method? m = some meth := X.method'
  show Steps p.tables e below (T.setTop { method := m, pc := pc, locals := Ls, stack := _ :: rest, locked := none }) _
  jvm_step X.here [X.here.top, hx, hd, hm', hret, hn, hw]
  try (refine ⟨ht, ?_⟩)
  first | (intro acts; rw [hl _ acts rfl rfl rfl]) | rw [hl _ _ rfl rfl rfl]
  exact Steps.refl _
/-- from here the run comes to a state of which G holds -/
def Out (tb : Tables) (e : Env) (below : List Frame) (G : State → Prop) (T : State) (g : JFrame) : Prop := ∃ U, Steps tb e below (T.setTop g) U ∧ G U
theorem Out.via {tb : Tables} {G : State → Prop} {T' : State} {g g' : JFrame} (h : ∀ target, Steps tb e below (T'.setTop g') target → Steps tb e below (T.setTop g) target) (k : Out tb e below G T' g') : Out tb e below G T g := by
  obtain ⟨U, h1, h2⟩ := k
  exact ⟨U, h _ h1, h2⟩
theorem Out.to {tb : Tables} {G : State → Prop} {T' : State} {g g' : JFrame} (h : Steps tb e below (T.setTop g) (T'.setTop g')) (k : Out tb e below G T' g') : Out tb e below G T g := by
  obtain ⟨U, h1, h2⟩ := k
  exact ⟨U, h.trans h1, h2⟩
/-- what a contract asks of the end -/
def End (s : State) (below : List Frame) (Q : Option Value → Heap → List Loc → Prop) (kc ks : Nat) (U : State) : Prop := U.status = .running ∧ ∃ o, Ended U below o ∧ ∃ v L, o = .returned v ∧ Q v U.heap L ∧ FrameEnd s o U L kc ks
theorem Out.start {tb : Tables} {Q : Option Value → Heap → List Loc → Prop} {kc ks : Nat} {g g' : JFrame} (q : g = g') (k : Out tb e below (End s below Q kc ks) T g') : ∃ s₂ o, Steps tb e below (T.setTop g) s₂ ∧ s₂.status = .running ∧ Ended s₂ below o ∧ ∃ v L, o = .returned v ∧ Q v s₂.heap L ∧ FrameEnd s o s₂ L kc ks := by
  subst q
  obtain ⟨U, h1, h2, o, h3, h4⟩ := k
  exact ⟨U, o, h1, h2, h3, h4⟩
/-- the end of a narrow walk, whatever the return's kind -/
theorem Out.endN (X : Stand p l e R s m args below meth c T locs cells slots) {g : JFrame} {v : Option Value} {Q : Option Value → Heap → List Loc → Prop} {kc ks : Nat} (hv : meth.sig.returnType = none → v = none) (hk : meth.locks = false) (hc : cells ≤ kc) (hs : slots ≤ ks) (hq : Q v T.heap locs)
    (st : ∀ fs : List Frame, (∀ (f : JFrame) (acts : List Action), f.method = m → f.locked = none → f.entered = [] → (doReturn e (T.setTop f) acts v).1 = T.setFrames fs) → Steps p.tables e below (T.setTop g) (T.setFrames fs)) : Out p.tables e below (End s below Q kc ks) T g := by
  obtain ⟨fs, hr, hrun, hended, hW, hsame⟩ := X.leave (v := v) hv hk
  exact ⟨_, st fs hr, hrun, _, hended, _, _, rfl, hq, ⟨_, rfl⟩, hW, hsame.mono hc hs⟩
/-- what a contract asks of the end, where literals may have been interned -/
def EndW (s : State) (below : List Frame) (Q : Option Value → Heap → List Loc → Prop) (kc ks : Nat) (U : State) : Prop := U.status = .running ∧ ∃ o, Ended U below o ∧ ∃ v L, o = .returned v ∧ Q v U.heap L ∧ ReturnedEndW s o U L kc ks
theorem Out.startW {tb : Tables} {Q : Option Value → Heap → List Loc → Prop} {kc ks : Nat} {g g' : JFrame} (q : g = g') (k : Out tb e below (EndW s below Q kc ks) T g') : ∃ s₂ o, Steps tb e below (T.setTop g) s₂ ∧ s₂.status = .running ∧ Ended s₂ below o ∧ ∃ v L, o = .returned v ∧ Q v s₂.heap L ∧ ReturnedEndW s o s₂ L kc ks := by
  subst q
  obtain ⟨U, h1, h2, o, h3, h4⟩ := k
  exact ⟨U, o, h1, h2, h3, h4⟩
theorem Out.endW {vm0 : Vm} {n : Nat} (X : Stand p l e R (s.setVm vm0) m args below meth c T locs cells slots) (hS : s.Since vm0 n) (hn : n ≤ T.heap.size) {g : JFrame} {v : Option Value} {Q : Option Value → Heap → List Loc → Prop} {kc ks : Nat} (hv : meth.sig.returnType = none → v = none) (hk : meth.locks = false) (hc : cells ≤ kc) (hs : slots ≤ ks) (hq : Q v T.heap locs)
    (st : ∀ fs : List Frame, (∀ (f : JFrame) (acts : List Action), f.method = m → f.locked = none → f.entered = [] → (doReturn e (T.setTop f) acts v).1 = T.setFrames fs) → Steps p.tables e below (T.setTop g) (T.setFrames fs)) : Out p.tables e below (EndW s below Q kc ks) T g := by
  obtain ⟨fs, hr, hrun, hended, h1, h2, h3, h4⟩ := X.leaveW hS hn (v := v) hv hk
  exact ⟨_, st fs hr, hrun, _, hended, _, _, rfl, hq, h1, h2, h3, h4.mono hc hs⟩
/-- .. and the assumed word on the literals goes on -/
def EndH (Z : State) (EL : List (String × Nat)) (s : State) (below : List Frame) (Q : Option Value → Heap → List Loc → Prop) (kc ks : Nat) (U : State) : Prop := U.status = .running ∧ ∃ o, Ended U below o ∧ ∃ v L, o = .returned v ∧ Q v U.heap L ∧ CHr Z EL s.vm s.heap U.vm U.heap ∧ ReturnedEndW s o U L kc ks
theorem Out.startH {tb : Tables} {Z : State} {EL : List (String × Nat)} {Q : Option Value → Heap → List Loc → Prop} {kc ks : Nat} {g g' : JFrame} (q : g = g') (k : Out tb e below (EndH Z EL s below Q kc ks) T g') : ∃ s₂ o, Steps tb e below (T.setTop g) s₂ ∧ s₂.status = .running ∧ Ended s₂ below o ∧ ∃ v L, o = .returned v ∧ Q v s₂.heap L ∧ CHr Z EL s.vm s.heap s₂.vm s₂.heap ∧ ReturnedEndW s o s₂ L kc ks := by
  subst q
  obtain ⟨U, h1, h2, o, h3, h4⟩ := k
  exact ⟨U, o, h1, h2, h3, h4⟩
theorem Out.endH {Z : State} {a0 : Array Value} {EL : List (String × Nat)} {vm0 : Vm} {n : Nat} (X : Stand p l e R (s.setVm vm0) m args below meth c T locs cells slots) (hS : s.Since vm0 n) (hn : n ≤ T.heap.size) (hZ : Z.Warmed39 (s.setVm vm0).vm) (w : EW Z a0 EL) (CR : CHr Z EL s.vm s.heap vm0 T.heap) {g : JFrame} {v : Option Value} {Q : Option Value → Heap → List Loc → Prop} {kc ks : Nat} (hv : meth.sig.returnType = none → v = none) (hk : meth.locks = false) (hc : cells ≤ kc) (hs : slots ≤ ks) (hq : Q v T.heap locs)
    (st : ∀ fs : List Frame, (∀ (f : JFrame) (acts : List Action), f.method = m → f.locked = none → f.entered = [] → (doReturn e (T.setTop f) acts v).1 = T.setFrames fs) → Steps p.tables e below (T.setTop g) (T.setFrames fs)) : Out p.tables e below (EndH Z EL s below Q kc ks) T g := by
  obtain ⟨fs, hr, hrun, hended, h1, h2, h3, h4⟩ := X.leaveW hS hn (v := v) hv hk
  have q : CHr Z EL vm0 T.heap T.vm T.heap := CHv.at X hZ w CR.1
  exact ⟨_, st fs hr, hrun, _, hended, _, _, rfl, hq, CR.trans q, h1, h2, h3, h4.mono hc hs⟩
theorem own_since0 (s : State) (n : Nat) : s.Since s.vm n := (State.WarmedH.refl s).since n
/-- castore into an array whose values are known: what stands behind it -/
theorem own_stC (X : Stand p l e R s m args below meth c T locs cells slots) (hx : p.tables.exec = Jvm.exec) {Z : State} (hZ : Z.Warmed39 s.vm) {h h1 : Heap} (eT : T.heap = h) {a : Addr} {k : ClassId} {z : Int32} {vs : List Value} {dv : Value} (V : Arv Z h a k .char z vs dv) {j x : Int32} (hj : ¬ j < 0 ∧ j < z) (i : Nat) (hi : j.toNatClampNeg = i) (hl : i < vs.length)
    {n0 : Nat} (ga : n0 ≤ a) (N : Fr n0 locs) (O : Old Z n0 h) {ws : List Addr} (K : Keep h1 h ws) (hK : a ∈ ws ∨ h1.size ≤ a) {g : JFrame} (hg : g.method = m) {rest : List Value} (hs : g.stack = .int x :: .int j :: .ref a :: rest) (hd : decode c.code g.pc = .ok (.castore, 1)) :
    ∃ T' h' L', Stand p l e R s m args below meth c T' L' cells slots ∧ T'.heap = h' ∧ Arv Z h' a k .char z (vs.set i (.int (nar .char x))) dv ∧ Fr n0 L' ∧ Old Z n0 h' ∧ Keep h1 h' ws ∧ ∀ target, Steps p.tables e below (T'.setTop { g with pc := g.pc + 1, stack := rest }) target → Steps p.tables e below (T.setTop g) target := by
  obtain ⟨cl, Ar, q, S, M, H, G⟩ := V
  obtain ⟨T', h', X', e', W, st⟩ := stC X hx hZ eT Ar (j := j) (inb_of S hj) hg hs hd
  exact ⟨T', h', _, X', e', Arv.set Ar q S M H G (fits_nar_char _) W i hi hl, Fr.snoc X' N ga, O.wr W ga, K.wr W hK, st⟩
theorem own_z0 {Z : State} {n0 : Nat} {h : Heap} (O : Old Z n0 h) : n0 ≤ h.size := O.1 ▸ O.2.1
end New
end Jvm.RoadKit
/- laws to paste: Road.backV, Road.lenW, Road.codOf (cut by pick.py; bodies as the Statement names them) -/
namespace Jvm.Pilot.@@N@@
namespace StrChars
open Jvm Sem ClassFile Op Lib Jvm.Stand Jvm.Free.XT Jvm.Free.ALB Jvm.Free.JM Jvm.Free
open Jvm.Lib.Cold (StaticIs)
/-- a char array whose places are chars -/
def Ch (a : Addr) (A : Cell) (U : State) : Prop := Arr .char a A U ∧ Typed .char A
theorem Ch.mv {a : Addr} {A : Cell} {U U' : State} (h : Ch a A U) (hal : U.vm.Alike U'.vm) (hh : U'.heap = U.heap) : Ch a A U' := ⟨h.1.mv hal hh, h.2⟩
theorem Ch.keep {a : Addr} {A : Cell} {U U' : State} (h : Ch a A U) (hal : U.vm.Alike U'.vm) (hk : U'.heap[a]? = some A) : Ch a A U' := ⟨h.1.keep hal hk, h.2⟩
/-- what place i of a char[]'s cell holds -/
def cv (A : Cell) (i : Nat) : Int32 := match A.slots[i]? with | some (.int x) => x | _ => 0
theorem Ch.get {a : Addr} {A : Cell} {U : State} (h : Ch a A U) {i : Nat} (hi : i < A.slots.size) : A.slots[i]? = some (.int (cv A i)) := by
  have e := Array.getElem?_eq_getElem hi
  have f := h.2 i _ e
  unfold cv; rw [e]
  generalize A.slots[i] = v at f
  cases v <;> simp [fits] at f ⊢
/-- the byte that i2b leaves of a char -/
def lo8 (x : Int32) : Int32 := x.toInt8.toInt32
theorem fits_lo8 (y : Int32) : fits .byte (.int (lo8 y)) = true := by
  have h1 := y.toInt8.le_toInt
  have h2 := y.toInt8.toInt_lt
  simp only [lo8, fits, Bool.and_eq_true, decide_eq_true_eq, Int32.le_iff_toInt_le, Int8.toInt_toInt32, show (-128 : Int32).toInt = -128 from by decide, show (127 : Int32).toInt = 127 from by decide]
  omega
/-- A' is A but that each place j of lo .. hi - 1 holds f j -/
def Laid (A A' : Cell) (lo hi : Nat) (f : Nat → Value) : Prop := A'.cls = A.cls ∧ A'.vm = A.vm ∧ A'.slots.size = A.slots.size ∧ ∀ i, A'.slots[i]? = if lo ≤ i ∧ i < hi then some (f i) else A.slots[i]?
theorem Laid.zero (A : Cell) (lo : Nat) (f : Nat → Value) : Laid A A lo (lo + 0) f := ⟨rfl, rfl, rfl, fun i => by rw [if_neg (by omega)]⟩
theorem Laid.step {A Ak : Cell} {lo k : Nat} {f : Nat → Value} {v : Value} (h : Laid A Ak lo k f) (hlo : lo ≤ k) (hk : k < Ak.slots.size) (hv : v = f k) : Laid A (Ak.setSlot k v) lo (k + 1) f := by
  refine ⟨h.1, h.2.1, by simpa [Cell.setSlot] using h.2.2.1, fun i => ?_⟩
  by_cases e : k = i
  · subst e; rw [Cell.slots_setSlot_self v hk, if_pos (by omega), hv]
  · rw [Cell.slots_setSlot_ne v e, h.2.2.2 i]
    by_cases q : lo ≤ i ∧ i < k
    · rw [if_pos q, if_pos (by omega)]
    · rw [if_neg q, if_neg (by omega)]
def U16 : String := "java/lang/StringUTF16"
namespace Cmp5
def yN : MethodName := ⟨"java/lang/StringUTF16", "compress", "([CI[BII)I"⟩
abbrev yB : ByteArray := jdk_52_method_21_code
theorem d0 : decode yB 0 = .ok (.iconst 0, 1) := by decide +kernel
theorem d1 : decode yB 1 = .ok (.istore 5, 2) := by decide +kernel
theorem d3 : decode yB 3 = .ok (.iload 5, 2) := by decide +kernel
theorem d5 : decode yB 5 = .ok (.iload 4, 2) := by decide +kernel
theorem d7 : decode yB 7 = .ok (.if_icmp (.ge) 37, 3) := by decide +kernel
theorem d10 : decode yB 10 = .ok (.aload_n 0, 1) := by decide +kernel
theorem d11 : decode yB 11 = .ok (.iload_n 1, 1) := by decide +kernel
theorem d12 : decode yB 12 = .ok (.caload, 1) := by decide +kernel
theorem d13 : decode yB 13 = .ok (.istore 6, 2) := by decide +kernel
theorem d15 : decode yB 15 = .ok (.iload 6, 2) := by decide +kernel
theorem d17 : decode yB 17 = .ok (.sipush 255, 3) := by decide +kernel
theorem d20 : decode yB 20 = .ok (.if_icmp (.le) 6, 3) := by decide +kernel
theorem d26 : decode yB 26 = .ok (.aload_n 2, 1) := by decide +kernel
theorem d27 : decode yB 27 = .ok (.iload_n 3, 1) := by decide +kernel
theorem d28 : decode yB 28 = .ok (.iload 6, 2) := by decide +kernel
theorem d30 : decode yB 30 = .ok (.i2b, 1) := by decide +kernel
theorem d31 : decode yB 31 = .ok (.bastore, 1) := by decide +kernel
theorem d32 : decode yB 32 = .ok (.iinc 1 1, 3) := by decide +kernel
theorem d35 : decode yB 35 = .ok (.iinc 3 1, 3) := by decide +kernel
theorem d38 : decode yB 38 = .ok (.iinc 5 1, 3) := by decide +kernel
theorem d41 : decode yB 41 = .ok (.goto (-38), 3) := by decide +kernel
theorem d44 : decode yB 44 = .ok (.iload 4, 2) := by decide +kernel
theorem d46 : decode yB 46 = .ok (.ireturn, 1) := by decide +kernel
def site : List Cond := []
def tab : Cond := tabOf yN yB 7 (some .int) site
def P (b : Addr) (A : Cell) (d : Addr) (B : Cell) (o q len : Nat) (args : Array Value) (s : State) : Prop := args = #[.ref b, .int (Int32.ofNat o), .ref d, .int (Int32.ofNat q), .int (Int32.ofNat len)] ∧ Ch b A s ∧ Arr .byte d B s ∧ b ≠ d ∧ o + len ≤ A.slots.size ∧ q + len ≤ B.slots.size ∧ ∀ i, i < len → ¬ 255 < cv A (o + i)
def E (b : Addr) (A : Cell) (d : Addr) (B : Cell) (o q len : Nat) (r : Option Value) (s u : State) : Prop := r = some (.int (Int32.ofNat len)) ∧ ∃ B', Put d B' s u ∧ Laid B B' q (q + len) (fun j => Value.int (lo8 (cv A (o + (j - q)))))
/-- no char of the range above 255: len; the places written hold each char's low byte -/
theorem law (l : Launch) (b : Addr) (A : Cell) (d : Addr) (B : Cell) (o q len : Nat) : Law l yN 5 5 0 0 yB 7 (some .int) site (P b A d B o q len) (E b A d B o q len) (copyLocs d q len) 0 0 := by
  refine Law.of_walk (plainFor_of_name (by decide +kernel)) (by decide +kernel) (by decide +kernel) (by decide) (fun _ _ h => by rw [h.1]; rfl) (fun _ U U' hal hh h => ⟨h.1, h.2.1.mv hal hh, h.2.2.1.mv hal hh, h.2.2.2⟩) (fun r U U' V V' h1 hal h2 h => ⟨h.1, h.2.elim fun B' q => ⟨B', q.1.mv h1 h2, q.2⟩⟩) ?_
  intro p e s m args below meth c s₁ X0 hexec hbytes hml hret hlk hnm hown hh0 W hP
  obtain ⟨rfl, hA, hB, hne, l1, l2, hp⟩ := hP
  have c1 : Steps p.tables e below (s₁.setTop (entryFrame m #[.ref b, .int (Int32.ofNat o), .ref d, .int (Int32.ofNat q), .int (Int32.ofNat len)] 7)) (s₁.setTop (mkF m 0 #[.val (.ref b), .val (.int (Int32.ofNat o)), .val (.ref d), .val (.int (Int32.ofNat q)), .val (.int (Int32.ofNat len)), .unset, .unset] [])) := entry rfl
  have hA0 := hA.1.mv X0.warmed.alike hh0
  have hB0 := hB.mv X0.warmed.alike hh0
  have a31 := hA.1.2.2.2
  have c2 : Steps p.tables e below (s₁.setTop (entryFrame m #[.ref b, .int (Int32.ofNat o), .ref d, .int (Int32.ofNat q), .int (Int32.ofNat len)] 7)) (s₁.setTop (mkF m 3 #[.val (.ref b), .val (.int (Int32.ofNat o)), .val (.ref d), .val (.int (Int32.ofNat q)), .val (.int (Int32.ofNat len)), .val (.int 0), .unset] [])) := c1.trans (by
    refine iconstV X0.here hexec rfl 0 (hb hbytes d0) (by decide) ?_
    refine XS.istore X0.here hexec rfl (hb hbytes d1) rfl rfl ?_
    exact Steps.refl _)
  have loop : ∀ (r i : Nat), i + r = len → ∀ (z : Slot), (z = .unset ∨ ∃ w, z = .val w ∧ w.category = 1) → ∀ (Tl : State) (Bk : Cell), Stand p l e { frames := 0, locals := 0, cells := 0, slots := 0 } s m #[.ref b, .int (Int32.ofNat o), .ref d, .int (Int32.ofNat q), .int (Int32.ofNat len)] below meth c Tl ([] ++ copyLocs d q i) 0 0 → Put d Bk s₁ Tl → Laid B Bk q (q + i) (fun j => Value.int (lo8 (cv A (o + (j - q))))) →
      Steps p.tables e below (s₁.setTop (entryFrame m #[.ref b, .int (Int32.ofNat o), .ref d, .int (Int32.ofNat q), .int (Int32.ofNat len)] 7)) (Tl.setTop (mkF m 3 #[.val (.ref b), .val (.int (Int32.ofNat (o + i))), .val (.ref d), .val (.int (Int32.ofNat (q + i))), .val (.int (Int32.ofNat len)), .val (.int (Int32.ofNat i)), z] [])) → ∃ (T' : State) (B' : Cell) (z' : Slot), Stand p l e { frames := 0, locals := 0, cells := 0, slots := 0 } s m #[.ref b, .int (Int32.ofNat o), .ref d, .int (Int32.ofNat q), .int (Int32.ofNat len)] below meth c T' ([] ++ copyLocs d q len) 0 0 ∧ Put d B' s₁ T' ∧ Laid B B' q (q + len) (fun j => Value.int (lo8 (cv A (o + (j - q))))) ∧
      Steps p.tables e below (s₁.setTop (entryFrame m #[.ref b, .int (Int32.ofNat o), .ref d, .int (Int32.ofNat q), .int (Int32.ofNat len)] 7)) (T'.setTop (mkF m 3 #[.val (.ref b), .val (.int (Int32.ofNat (o + len))), .val (.ref d), .val (.int (Int32.ofNat (q + len))), .val (.int (Int32.ofNat len)), .val (.int (Int32.ofNat len)), z'] [])) := by
    intro r
    induction r with
    | zero =>
      intro i hi z hz Tl Bk Xl pl fl cl
      have hil : i = len := by omega
      rw [hil] at Xl fl cl
      exact ⟨Tl, Bk, z, Xl, pl, fl, cl⟩
    | succ r ih =>
      intro i hi z hz Tl Bk Xl pl fl cl
      have all := X0.warmed.alike.symm.trans Xl.warmed.alike
      have hAl := hA0.keep all (pl.other hne hA0.1)
      have hBk := hB0.like all pl.1 fl.1 fl.2.1 fl.2.2.1
      have hlt : q + i < Bk.slots.size := by rw [fl.2.2.1]; omega
      have c3 : Steps p.tables e below (s₁.setTop (entryFrame m #[.ref b, .int (Int32.ofNat o), .ref d, .int (Int32.ofNat q), .int (Int32.ofNat len)] 7)) (Tl.setTop (mkF m 12 #[.val (.ref b), .val (.int (Int32.ofNat (o + i))), .val (.ref d), .val (.int (Int32.ofNat (q + i))), .val (.int (Int32.ofNat len)), .val (.int (Int32.ofNat i)), z] [.int (Int32.ofNat (o + i)), .ref b])) := cl.trans (by
        refine XS.iload Xl.here hexec rfl (hb hbytes d3) rfl ?_
        refine XS.iload Xl.here hexec rfl (hb hbytes d5) rfl ?_
        refine XS.icmpNo Xl.here hexec rfl (hb hbytes d7) rfl (ii_ge_f (lt32 (by omega) (by omega))) ?_
        refine XS.aloadN Xl.here hexec rfl (hb hbytes d10) rfl rfl ?_
        refine XS.iloadN Xl.here hexec rfl (hb hbytes d11) rfl ?_
        exact Steps.refl _)
      have c4 : Steps p.tables e below (s₁.setTop (entryFrame m #[.ref b, .int (Int32.ofNat o), .ref d, .int (Int32.ofNat q), .int (Int32.ofNat len)] 7)) (Tl.setTop (mkF m 13 #[.val (.ref b), .val (.int (Int32.ofNat (o + i))), .val (.ref d), .val (.int (Int32.ofNat (q + i))), .val (.int (Int32.ofNat len)), .val (.int (Int32.ofNat i)), z] [.int (cv A (o + i))])) := c3.trans (by
        refine Xl.aget hexec hAl rfl (hA.get (i := o + i) (by omega)) rfl rfl (hb hbytes d12) ?_
        exact Steps.refl _)
      have c5 : Steps p.tables e below (s₁.setTop (entryFrame m #[.ref b, .int (Int32.ofNat o), .ref d, .int (Int32.ofNat q), .int (Int32.ofNat len)] 7)) (Tl.setTop (mkF m 15 #[.val (.ref b), .val (.int (Int32.ofNat (o + i))), .val (.ref d), .val (.int (Int32.ofNat (q + i))), .val (.int (Int32.ofNat len)), .val (.int (Int32.ofNat i)), .val (.int (cv A (o + i)))] [])) := c4.trans (by
        refine XS.istoreS Xl.here hexec rfl (hb hbytes d13) rfl rfl hz ?_
        exact Steps.refl _)
      have c6 : Steps p.tables e below (s₁.setTop (entryFrame m #[.ref b, .int (Int32.ofNat o), .ref d, .int (Int32.ofNat q), .int (Int32.ofNat len)] 7)) (Tl.setTop (mkF m 31 #[.val (.ref b), .val (.int (Int32.ofNat (o + i))), .val (.ref d), .val (.int (Int32.ofNat (q + i))), .val (.int (Int32.ofNat len)), .val (.int (Int32.ofNat i)), .val (.int (cv A (o + i)))] [.int (lo8 (cv A (o + i))), .int (Int32.ofNat (q + i)), .ref d])) := c5.trans (by
        refine XS.iload Xl.here hexec rfl (hb hbytes d15) rfl ?_
        refine sipushV Xl.here hexec rfl 255 (hb hbytes d17) (by decide) ?_
        refine XS.icmpYes Xl.here hexec rfl (pc0 := 20) rfl (hb hbytes d20) rfl (ii_le_t (hp i (by omega))) (by decide) rfl ?_
        refine XS.aloadN Xl.here hexec rfl (hb hbytes d26) rfl rfl ?_
        refine XS.iloadN Xl.here hexec rfl (hb hbytes d27) rfl ?_
        refine XS.iload Xl.here hexec rfl (hb hbytes d28) rfl ?_
        refine i2b Xl.here hexec rfl (hb hbytes d30) rfl ?_
        exact Steps.refl _)
      obtain ⟨T7, X7, p7, st7⟩ := Xl.aput hexec hBk rfl hlt rfl (fits_lo8 (cv A (o + i))) (g := (mkF m 31 #[.val (.ref b), .val (.int (Int32.ofNat (o + i))), .val (.ref d), .val (.int (Int32.ofNat (q + i))), .val (.int (Int32.ofNat len)), .val (.int (Int32.ofNat i)), .val (.int (cv A (o + i)))] [.int (lo8 (cv A (o + i))), .int (Int32.ofNat (q + i)), .ref d])) rfl (rest := []) rfl (hb hbytes d31)
      have c8 : Steps p.tables e below (s₁.setTop (entryFrame m #[.ref b, .int (Int32.ofNat o), .ref d, .int (Int32.ofNat q), .int (Int32.ofNat len)] 7)) (T7.setTop (mkF m 32 #[.val (.ref b), .val (.int (Int32.ofNat (o + i))), .val (.ref d), .val (.int (Int32.ofNat (q + i))), .val (.int (Int32.ofNat len)), .val (.int (Int32.ofNat i)), .val (.int (cv A (o + i)))] [])) := c6.trans (st7 _ (Steps.refl _))
      have c9 : Steps p.tables e below (s₁.setTop (entryFrame m #[.ref b, .int (Int32.ofNat o), .ref d, .int (Int32.ofNat q), .int (Int32.ofNat len)] 7)) (T7.setTop (mkF m 3 #[.val (.ref b), .val (.int (Int32.ofNat (o + i) + 1)), .val (.ref d), .val (.int (Int32.ofNat (q + i) + 1)), .val (.int (Int32.ofNat len)), .val (.int (Int32.ofNat i + 1)), .val (.int (cv A (o + i)))] [])) := c8.trans (by
        refine iincV X7.here hexec rfl 1 (hb hbytes d32) (by decide) rfl rfl ?_
        refine iincV X7.here hexec rfl 1 (hb hbytes d35) (by decide) rfl rfl ?_
        refine iincV X7.here hexec rfl 1 (hb hbytes d38) (by decide) rfl rfl ?_
        refine XS.goto X7.here hexec rfl (pc0 := 41) rfl (hb hbytes d41) (by decide) rfl ?_
        exact Steps.refl _)
      have c10 : Steps p.tables e below (s₁.setTop (entryFrame m #[.ref b, .int (Int32.ofNat o), .ref d, .int (Int32.ofNat q), .int (Int32.ofNat len)] 7)) (T7.setTop (mkF m 3 #[.val (.ref b), .val (.int (Int32.ofNat (o + (i + 1)))), .val (.ref d), .val (.int (Int32.ofNat (q + (i + 1)))), .val (.int (Int32.ofNat len)), .val (.int (Int32.ofNat (i + 1))), .val (.int (cv A (o + i)))] [])) := by
        have := c9
        rw [succ32, succ32, succ32] at this
        exact this
      exact ih (i + 1) (by omega) _ (Or.inr ⟨_, rfl, rfl⟩) T7 _ (by rw [copyLocs_step, ← List.append_assoc]; exact X7) (pl.trans p7) (fl.step (by omega) hlt (by simp)) c10
  obtain ⟨T9, B9, z9, X9, p9, f9, g9⟩ := loop len 0 (by omega) .unset (Or.inl rfl) s₁ B (by simpa [copyLocs] using X0) ⟨hB0.1, fun _ _ => rfl, rfl⟩ (Laid.zero _ _ _) c2
  have c11 : Steps p.tables e below (s₁.setTop (entryFrame m #[.ref b, .int (Int32.ofNat o), .ref d, .int (Int32.ofNat q), .int (Int32.ofNat len)] 7)) (T9.setTop (mkF m 46 #[.val (.ref b), .val (.int (Int32.ofNat (o + len))), .val (.ref d), .val (.int (Int32.ofNat (q + len))), .val (.int (Int32.ofNat len)), .val (.int (Int32.ofNat len)), z9] [.int (Int32.ofNat len)])) := g9.trans (by
    refine XS.iload X9.here hexec rfl (hb hbytes d3) rfl ?_
    refine XS.iload X9.here hexec rfl (hb hbytes d5) rfl ?_
    refine XS.icmpYes X9.here hexec rfl (pc0 := 7) rfl (hb hbytes d7) rfl (ii_ge_t (nlt32 (by omega) (Nat.le_refl _))) (by decide) rfl ?_
    refine XS.iload X9.here hexec rfl (hb hbytes d44) rfl ?_
    exact Steps.refl _)
  exact ⟨T9, some (.int (Int32.ofNat len)), _, _, _, X9, by simp, rfl, rfl, (fun h => by cases h), ⟨rfl, B9, p9.from hh0, f9⟩, fun fs hl => c11.trans (X9.ireturnOut hexec hret rfl (Or.inl rfl) (hb hbytes d46) hl)⟩
end Cmp5
namespace Cmp3
def yN : MethodName := ⟨"java/lang/StringUTF16", "compress", "([CII)[B"⟩
abbrev yB : ByteArray := jdk_52_method_16_code
theorem d0 : decode yB 0 = .ok (.iload_n 2, 1) := by decide +kernel
theorem d1 : decode yB 1 = .ok (.newarray .byte, 2) := by decide +kernel
theorem d3 : decode yB 3 = .ok (.astore_n 3, 1) := by decide +kernel
theorem d4 : decode yB 4 = .ok (.aload_n 0, 1) := by decide +kernel
theorem d5 : decode yB 5 = .ok (.iload_n 1, 1) := by decide +kernel
theorem d6 : decode yB 6 = .ok (.aload_n 3, 1) := by decide +kernel
theorem d7 : decode yB 7 = .ok (.iconst 0, 1) := by decide +kernel
theorem d8 : decode yB 8 = .ok (.iload_n 2, 1) := by decide +kernel
theorem d9 : decode yB 9 = .ok (.invokestatic 115, 3) := by decide +kernel
theorem d12 : decode yB 12 = .ok (.istore 4, 2) := by decide +kernel
theorem d14 : decode yB 14 = .ok (.iload 4, 2) := by decide +kernel
theorem d16 : decode yB 16 = .ok (.iload_n 2, 1) := by decide +kernel
theorem d17 : decode yB 17 = .ok (.if_icmp (.eq) 40, 3) := by decide +kernel
theorem d57 : decode yB 57 = .ok (.aload_n 3, 1) := by decide +kernel
theorem d58 : decode yB 58 = .ok (.areturn, 1) := by decide +kernel
def site : List Cond := [.arrayClass .byte, Cmp5.tab] ++ staticW U16 115 Cmp5.yN
def tab : Cond := tabOf yN yB 6 (some (.array .byte)) site
def P (b : Addr) (A : Cell) (o len : Nat) (args : Array Value) (s : State) : Prop := args = #[.ref b, .int (Int32.ofNat o), .int (Int32.ofNat len)] ∧ Ch b A s ∧ o + len ≤ A.slots.size ∧ len ≤ 536870912 ∧ ∀ i, i < len → ¬ 255 < cv A (o + i)
def E (b : Addr) (A : Cell) (o len : Nat) (r : Option Value) (s u : State) : Prop := NewArr .byte "[B" len (fun j => .int (lo8 (cv A (o + j)))) r s u ∧ u.heap.size = s.heap.size + 1
/-- no char of the range above 255: a new byte[] of their low bytes -/
theorem law (l : Launch) (b : Addr) (A : Cell) (o len : Nat) : Law l yN 3 3 1 18 yB 6 (some (.array .byte)) site (P b A o len) (E b A o len) [] 1 len := by
  refine Law.of_walk (plainFor_of_name (by decide +kernel)) (by decide +kernel) (by decide +kernel) (by decide) (fun _ _ h => by rw [h.1]; rfl) (fun _ U U' hal hh h => ⟨h.1, h.2.1.mv hal hh, h.2.2⟩) (fun r U U' V V' h1 hal h2 h => ⟨NewArr.mv r U U' V V' h1 hal h2 h.1, by rw [h1, h2]; exact h.2⟩) ?_
  intro p e s m args below meth c s₁ X0 hexec hbytes hml hret hlk hnm hown hh0 W hP
  obtain ⟨rfl, hA, l1, l2, hp⟩ := hP
  have a31 := hA.1.2.2.2
  have c1 : Steps p.tables e below (s₁.setTop (entryFrame m #[.ref b, .int (Int32.ofNat o), .int (Int32.ofNat len)] 6)) (s₁.setTop (mkF m 0 #[.val (.ref b), .val (.int (Int32.ofNat o)), .val (.int (Int32.ofNat len)), .unset, .unset, .unset] [])) := entry rfl
  have c2 : Steps p.tables e below (s₁.setTop (entryFrame m #[.ref b, .int (Int32.ofNat o), .int (Int32.ofNat len)] 6)) (s₁.setTop (mkF m 1 #[.val (.ref b), .val (.int (Int32.ofNat o)), .val (.int (Int32.ofNat len)), .unset, .unset, .unset] [.int (Int32.ofNat len)])) := c1.trans (by
    refine XS.iloadN X0.here hexec rfl (hb hbytes d0) rfl ?_
    exact Steps.refl _)
  obtain ⟨T3, B3, X3, ba3, bs3, bv3, bh3, bf3, st3⟩ := X0.anew hexec (atype := .byte) (wk W (.arrayClass .byte)) rfl (by show len * 1 ≤ _; omega) (by omega) (g := (mkF m 1 #[.val (.ref b), .val (.int (Int32.ofNat o)), .val (.int (Int32.ofNat len)), .unset, .unset, .unset] [.int (Int32.ofNat len)])) rfl (hb hbytes d1) (rest := []) rfl (Nat.le_refl _) (by show 0 + len ≤ len; omega)
  rw [hh0] at ba3 st3
  have kp3 : XT.Kept s T3 := (XT.Kept.of_eq hh0).push bh3
  have hA3 := hA.keep X3.warmed.alike (kp3 _ _ hA.1.1)
  have hne : b ≠ s.heap.size := hA.1.ne
  have c4 : Steps p.tables e below (s₁.setTop (entryFrame m #[.ref b, .int (Int32.ofNat o), .int (Int32.ofNat len)] 6)) (T3.setTop (mkF m 3 #[.val (.ref b), .val (.int (Int32.ofNat o)), .val (.int (Int32.ofNat len)), .unset, .unset, .unset] [.ref s.heap.size])) := c2.trans (st3 _ (Steps.refl _))
  have c5 : Steps p.tables e below (s₁.setTop (entryFrame m #[.ref b, .int (Int32.ofNat o), .int (Int32.ofNat len)] 6)) (T3.setTop (mkF m 9 #[.val (.ref b), .val (.int (Int32.ofNat o)), .val (.int (Int32.ofNat len)), .val (.ref s.heap.size), .unset, .unset] [.int (Int32.ofNat len), .int 0, .ref s.heap.size, .int (Int32.ofNat o), .ref b])) := c4.trans (by
    refine XS.astoreN X3.here hexec rfl (hb hbytes d3) rfl rfl rfl ?_
    refine XS.aloadN X3.here hexec rfl (hb hbytes d4) rfl rfl ?_
    refine XS.iloadN X3.here hexec rfl (hb hbytes d5) rfl ?_
    refine XS.aloadN X3.here hexec rfl (hb hbytes d6) rfl rfl ?_
    refine iconstV X3.here hexec rfl 0 (hb hbytes d7) (by decide) ?_
    refine XS.iloadN X3.here hexec rfl (hb hbytes d8) rfl ?_
    exact Steps.refl _)
  obtain ⟨v6, T6, X6, E6, g6⟩ := X3.callS hexec (Cmp5.law l b A s.heap.size B3 o 0 len) hown (wks W (staticW U16 115 Cmp5.yN)) (wk W Cmp5.tab) (W := 0) (Nat.le_of_ble_eq_true rfl) (Nat.le_of_ble_eq_true rfl) (Nat.le_refl _) (by show 0 + len + 0 ≤ len; omega) (g := (mkF m 9 #[.val (.ref b), .val (.int (Int32.ofNat o)), .val (.int (Int32.ofNat len)), .val (.ref s.heap.size), .unset, .unset] [.int (Int32.ofNat len), .int (Int32.ofNat 0), .ref s.heap.size, .int (Int32.ofNat o), .ref b])) rfl (by rw [hml]; rfl) c5 (argsL := [.ref b, .int (Int32.ofNat o), .ref s.heap.size, .int (Int32.ofNat 0), .int (Int32.ofNat len)]) (rest := []) rfl rfl (by show 2 * 0 + 0 ≤ _; decide) (hb hbytes d9) (⟨rfl, hA3, ba3, hne, l1, by rw [bs3]; simp, hp⟩)
  obtain ⟨rfl, B6, p6, f6⟩ := E6
  have c7 : Steps p.tables e below (s₁.setTop (entryFrame m #[.ref b, .int (Int32.ofNat o), .int (Int32.ofNat len)] 6)) (T6.setTop (mkF m 12 #[.val (.ref b), .val (.int (Int32.ofNat o)), .val (.int (Int32.ofNat len)), .val (.ref s.heap.size), .unset, .unset] [.int (Int32.ofNat len)])) := g6
  have c8 : Steps p.tables e below (s₁.setTop (entryFrame m #[.ref b, .int (Int32.ofNat o), .int (Int32.ofNat len)] 6)) (T6.setTop (mkF m 58 #[.val (.ref b), .val (.int (Int32.ofNat o)), .val (.int (Int32.ofNat len)), .val (.ref s.heap.size), .val (.int (Int32.ofNat len)), .unset] [.ref s.heap.size])) := c7.trans (by
    refine XS.istore X6.here hexec rfl (hb hbytes d12) rfl rfl ?_
    refine XS.iload X6.here hexec rfl (hb hbytes d14) rfl ?_
    refine XS.iloadN X6.here hexec rfl (hb hbytes d16) rfl ?_
    refine XS.icmpYes X6.here hexec rfl (pc0 := 17) rfl (hb hbytes d17) rfl (ii_eq_t rfl) (by decide) rfl ?_
    refine XS.aloadN X6.here hexec rfl (hb hbytes d57) rfl rfl ?_
    exact Steps.refl _)
  have X8 := X6.wide (L' := []) (cells' := 1) (slots' := len) (fun x hx hlt => by
    simp only [List.nil_append, copyLocs, List.mem_map, List.mem_range] at hx
    obtain ⟨i, -, rfl⟩ := hx
    exact absurd hlt (Nat.lt_irrefl _)) (Nat.le_refl _) (by omega)
  exact ⟨T6, some (.ref s.heap.size), _, _, _, X8, rfl, rfl, rfl, (fun h => by cases h), ⟨⟨rfl, B6, ba3.like (X3.warmed.alike.symm.trans X6.warmed.alike) p6.1 f6.1 f6.2.1 f6.2.2.1, f6.2.1.trans bv3, by rw [X6.warmed.alike.findClass, f6.1]; exact bf3, by rw [f6.2.2.1, bs3]; simp, fun j hj => by rw [f6.2.2.2 j, if_pos (by omega)]; rfl, kp3.put p6 (Nat.le_refl _)⟩, by rw [p6.2.2, bh3, hh0]; simp⟩, fun fs hl => c8.trans (X8.areturnOut hexec rfl hret rfl (hb hbytes d58) hl)⟩
end Cmp3
namespace CodL
def yN : MethodName := ⟨"java/lang/StringUTF16", "coderFromArrayLen", "([BI)B"⟩
abbrev yB : ByteArray := jdk_52_method_15_code
theorem d0 : decode yB 0 = .ok (.iload_n 1, 1) := by decide +kernel
theorem d1 : decode yB 1 = .ok (.aload_n 0, 1) := by decide +kernel
theorem d2 : decode yB 2 = .ok (.arraylength, 1) := by decide +kernel
theorem d3 : decode yB 3 = .ok (.isub, 1) := by decide +kernel
theorem d4 : decode yB 4 = .ok (.bipush 31, 2) := by decide +kernel
theorem d6 : decode yB 6 = .ok (.iushr, 1) := by decide +kernel
theorem d7 : decode yB 7 = .ok (.i2b, 1) := by decide +kernel
theorem d8 : decode yB 8 = .ok (.ireturn, 1) := by decide +kernel
def site : List Cond := []
def tab : Cond := tabOf yN yB 2 (some .byte) site
def P (d : Addr) (B : Cell) (args : Array Value) (s : State) : Prop := args = #[.ref d, .int (Int32.ofNat B.slots.size)] ∧ Arr .byte d B s
def E (r : Option Value) (s u : State) : Prop := XT.PureE (some (.int 0)) r s u
/-- an array as long as the number of chars: LATIN1 -/
theorem law (l : Launch) (d : Addr) (B : Cell) : Law l yN 2 2 0 0 yB 2 (some .byte) site (P d B) E [] 0 0 := by
  refine Law.of_walk (plainFor_of_name (by decide +kernel)) (by decide +kernel) (by decide +kernel) (by decide) (fun _ _ h => by rw [h.1]; rfl) (fun _ U U' hal hh h => ⟨h.1, h.2.mv hal hh⟩) (fun r U U' V V' h1 hal h2 h => XT.PureE.mv r U U' V V' h1 hal h2 h) ?_
  intro p e s m args below meth c s₁ X0 hexec hbytes hml hret hlk hnm hown hh0 W hP
  obtain ⟨rfl, hB⟩ := hP
  have hB0 := hB.mv X0.warmed.alike hh0
  have c1 : Steps p.tables e below (s₁.setTop (entryFrame m #[.ref d, .int (Int32.ofNat B.slots.size)] 2)) (s₁.setTop (mkF m 0 #[.val (.ref d), .val (.int (Int32.ofNat B.slots.size))] [])) := entry rfl
  have c2 : Steps p.tables e below (s₁.setTop (entryFrame m #[.ref d, .int (Int32.ofNat B.slots.size)] 2)) (s₁.setTop (mkF m 2 #[.val (.ref d), .val (.int (Int32.ofNat B.slots.size))] [.ref d, .int (Int32.ofNat B.slots.size)])) := c1.trans (by
    refine XS.iloadN X0.here hexec rfl (hb hbytes d0) rfl ?_
    refine XS.aloadN X0.here hexec rfl (hb hbytes d1) rfl rfl ?_
    exact Steps.refl _)
  have c3 : Steps p.tables e below (s₁.setTop (entryFrame m #[.ref d, .int (Int32.ofNat B.slots.size)] 2)) (s₁.setTop (mkF m 8 #[.val (.ref d), .val (.int (Int32.ofNat B.slots.size))] [.int (lo8 (ushr (Int32.ofNat B.slots.size - Int32.ofNat B.slots.size) 31))])) := c2.trans (by
    refine X0.alen hexec hB0 rfl rfl (hb hbytes d2) ?_
    refine XS.isub X0.here hexec rfl (hb hbytes d3) rfl ?_
    refine bipushV X0.here hexec rfl 31 (hb hbytes d4) (by decide) ?_
    refine iushr X0.here hexec rfl (hb hbytes d6) rfl ?_
    refine i2b X0.here hexec rfl (hb hbytes d7) rfl ?_
    exact Steps.refl _)
  have e0 : lo8 (ushr (Int32.ofNat B.slots.size - Int32.ofNat B.slots.size) 31) = 0 := by rw [Int32.sub_self]; decide
  rw [e0] at c3
  exact ⟨s₁, some (.int 0), _, _, _, X0, rfl, rfl, rfl, (fun h => by cases h), ⟨rfl, hh0⟩, fun fs hl => c3.trans (X0.ireturnOut hexec hret rfl (Or.inr (Or.inr (Or.inl rfl))) (hb hbytes d8) hl)⟩
end CodL
/-- the String at a is Latin-1 over a new byte[] (the heap's one new cell): the low bytes of the len chars of A from o on; every cell but a is kept -/
def Got (a : Addr) (D : Cell) (fV fC : Field) (A : Cell) (o len : Nat) (r : Option Value) (s u : State) : Prop := r = none ∧ ∃ D' V : Cell, Blank "java/lang/String" a D' u ∧ Same D D' [fV.slot, fC.slot] ∧ D'.slots[fV.slot]? = some (.ref s.heap.size) ∧ D'.slots[fC.slot]? = some (.int 0) ∧ Arr .byte s.heap.size V u ∧ V.vm = .none ∧ u.vm.findClass "[B" = some V.cls ∧ V.slots.size = len ∧ (∀ j, j < len → V.slots[j]? = some (.int (lo8 (cv A (o + j))))) ∧ (∀ (y : Addr) (c : Cell), y ≠ a → s.heap[y]? = some c → u.heap[y]? = some c) ∧ u.heap.size = s.heap.size + 1
theorem Got.mv {a : Addr} {D A : Cell} {fV fC : Field} {o len : Nat} : ∀ r (U U' V V' : State), U'.heap = U.heap → V.vm.Alike V'.vm → V'.heap = V.heap → Got a D fV fC A o len r U V → Got a D fV fC A o len r U' V' :=
  fun r U U' V V' h1 hal h2 ⟨e0, D', X, a1, a2, a3, a4, a5, a6, a7, a8, a9, a10, a11⟩ => ⟨e0, D', X, a1.mv hal h2, a2, by rw [h1]; exact a3, a4, by rw [h1]; exact a5.mv hal h2, a6, by rw [hal.findClass]; exact a7, a8, a9, by rw [h1, h2]; exact a10, by rw [h1, h2]; exact a11⟩
namespace New4
def yN : MethodName := ⟨"java/lang/String", "<init>", "([CIILjava/lang/Void;)V"⟩
abbrev yB : ByteArray := jdk_42_method_149_code
theorem d0 : decode yB 0 = .ok (.aload_n 0, 1) := by decide +kernel
theorem d1 : decode yB 1 = .ok (.invokespecial 1, 3) := by decide +kernel
theorem d4 : decode yB 4 = .ok (.iload_n 3, 1) := by decide +kernel
theorem d5 : decode yB 5 = .ok (.ifCond (.ne) 22, 3) := by decide +kernel
theorem d27 : decode yB 27 = .ok (.getstatic 38, 3) := by decide +kernel
theorem d30 : decode yB 30 = .ok (.ifCond (.eq) 28, 3) := by decide +kernel
theorem d33 : decode yB 33 = .ok (.aload_n 1, 1) := by decide +kernel
theorem d34 : decode yB 34 = .ok (.iload_n 2, 1) := by decide +kernel
theorem d35 : decode yB 35 = .ok (.iload_n 3, 1) := by decide +kernel
theorem d36 : decode yB 36 = .ok (.invokestatic 177, 3) := by decide +kernel
theorem d39 : decode yB 39 = .ok (.astore 5, 2) := by decide +kernel
theorem d41 : decode yB 41 = .ok (.aload_n 0, 1) := by decide +kernel
theorem d42 : decode yB 42 = .ok (.aload 5, 2) := by decide +kernel
theorem d44 : decode yB 44 = .ok (.iload_n 3, 1) := by decide +kernel
theorem d45 : decode yB 45 = .ok (.invokestatic 47, 3) := by decide +kernel
theorem d48 : decode yB 48 = .ok (.putfield 15, 3) := by decide +kernel
theorem d51 : decode yB 51 = .ok (.aload_n 0, 1) := by decide +kernel
theorem d52 : decode yB 52 = .ok (.aload 5, 2) := by decide +kernel
theorem d54 : decode yB 54 = .ok (.putfield 9, 3) := by decide +kernel
theorem d57 : decode yB 57 = .ok (.return_, 1) := by decide +kernel
def site : List Cond := [.fieldLink "java/lang/String" 38 "java/lang/String" "COMPACT_STRINGS" "Z", Cmp3.tab, CodL.tab, .laysFinal "java/lang/String" "java/lang/String" "value" "[B", .fieldLink "java/lang/String" 9 "java/lang/String" "value" "[B", .laysFinal "java/lang/String" "java/lang/String" "coder" "B", .fieldLink "java/lang/String" 15 "java/lang/String" "coder" "B"] ++ objW "java/lang/String" 1 ++ staticW "java/lang/String" 177 Cmp3.yN ++ staticW "java/lang/String" 47 CodL.yN
def tab : Cond := tabOf yN yB 6 none site
def P (a : Addr) (D : Cell) (fV fC : Field) (b : Addr) (A : Cell) (z : Int32) (o len : Nat) (args : Array Value) (s : State) : Prop := args = #[.ref a, .ref b, .int (Int32.ofNat o), .int (Int32.ofNat len), .null] ∧ Blank "java/lang/String" a D s ∧ Found "java/lang/String" "value" "[B" fV s ∧ Found "java/lang/String" "coder" "B" fC s ∧ Ch b A s ∧ StaticIs s "java/lang/String" "COMPACT_STRINGS" "Z" (.int z) ∧ ¬ z = 0 ∧ 0 < len ∧ o + len ≤ A.slots.size ∧ len ≤ 536870912 ∧ ∀ i, i < len → ¬ 255 < cv A (o + i)
def E (a : Addr) (D : Cell) (fV fC : Field) (A : Cell) (o len : Nat) (r : Option Value) (s u : State) : Prop := Got a D fV fC A o len r s u
/-- len > 0, no char of the range above 255: a Latin-1 String of their low bytes -/
theorem law (l : Launch) (a : Addr) (D : Cell) (fV fC : Field) (b : Addr) (A : Cell) (z : Int32) (o len : Nat) : Law l yN 5 4 2 35 yB 6 none site (P a D fV fC b A z o len) (E a D fV fC A o len) [⟨a, fC.slot⟩, ⟨a, fV.slot⟩] 1 len := by
  refine Law.of_walk (plainFor_of_name (by decide +kernel)) (by decide +kernel) (by decide +kernel) (by decide) (fun _ _ h => by rw [h.1]; rfl) (fun _ U U' hal hh h => ⟨h.1, h.2.1.mv hal hh, h.2.2.1.al hal, h.2.2.2.1.al hal, h.2.2.2.2.1.mv hal hh, h.2.2.2.2.2.1.there hal hh, h.2.2.2.2.2.2⟩) (fun r U U' V V' h1 hal h2 h => Got.mv r U U' V V' h1 hal h2 h) ?_
  intro p e s m args below meth c s₁ X0 hexec hbytes hml hret hlk hnm hown hh0 W hP
  obtain ⟨rfl, hB, f1, f2, hA, s1, hz, l0, l1, l2, hp⟩ := hP
  have a31 := hA.1.2.2.2
  have c1 : Steps p.tables e below (s₁.setTop (entryFrame m #[.ref a, .ref b, .int (Int32.ofNat o), .int (Int32.ofNat len), .null] 6)) (s₁.setTop (mkF m 0 #[.val (.ref a), .val (.ref b), .val (.int (Int32.ofNat o)), .val (.int (Int32.ofNat len)), .val .null, .unset] [])) := entry rfl
  have c2 : Steps p.tables e below (s₁.setTop (entryFrame m #[.ref a, .ref b, .int (Int32.ofNat o), .int (Int32.ofNat len), .null] 6)) (s₁.setTop (mkF m 1 #[.val (.ref a), .val (.ref b), .val (.int (Int32.ofNat o)), .val (.int (Int32.ofNat len)), .val .null, .unset] [.ref a])) := c1.trans (by
    refine XS.aloadN X0.here hexec rfl (hb hbytes d0) rfl rfl ?_
    exact Steps.refl _)
  obtain ⟨T3, X3, q3, st3⟩ := X0.oinit hexec hown (wks W (objW "java/lang/String" 1)) (g := (mkF m 1 #[.val (.ref a), .val (.ref b), .val (.int (Int32.ofNat o)), .val (.int (Int32.ofNat len)), .val .null, .unset] [.ref a])) rfl (by rw [hml]; rfl) (rest := []) rfl (hb hbytes d1) (W := 0) (by show 2 * 0 + 0 ≤ _; decide) (Nat.le_of_ble_eq_true rfl) (Nat.le_of_ble_eq_true rfl)
  have hh3 := q3.trans hh0
  have c4 : Steps p.tables e below (s₁.setTop (entryFrame m #[.ref a, .ref b, .int (Int32.ofNat o), .int (Int32.ofNat len), .null] 6)) (T3.setTop (mkF m 27 #[.val (.ref a), .val (.ref b), .val (.int (Int32.ofNat o)), .val (.int (Int32.ofNat len)), .val .null, .unset] [])) := (c2.trans (st3 _ (Steps.refl _))).trans (by
    refine XS.iloadN X3.here hexec rfl (hb hbytes d4) rfl ?_
    refine XS.ifYes X3.here hexec rfl (pc0 := 5) rfl (hb hbytes d5) rfl (i0_ne_t (nz32 (by omega) l0)) (by decide) rfl ?_
    exact Steps.refl _)
  obtain ⟨T5, X5, q5, st5⟩ := X3.sget hexec hown (wk W (.fieldLink "java/lang/String" 38 "java/lang/String" "COMPACT_STRINGS" "Z")) s1 (fun _ _ h => by rw [hh3]; exact h) (g := (mkF m 27 #[.val (.ref a), .val (.ref b), .val (.int (Int32.ofNat o)), .val (.int (Int32.ofNat len)), .val .null, .unset] [])) rfl (hb hbytes d27)
  have hh5 := q5.trans hh3
  have c6 : Steps p.tables e below (s₁.setTop (entryFrame m #[.ref a, .ref b, .int (Int32.ofNat o), .int (Int32.ofNat len), .null] 6)) (T5.setTop (mkF m 30 #[.val (.ref a), .val (.ref b), .val (.int (Int32.ofNat o)), .val (.int (Int32.ofNat len)), .val .null, .unset] [.int z])) := c4.trans (st5 _ (Steps.refl _))
  have c7 : Steps p.tables e below (s₁.setTop (entryFrame m #[.ref a, .ref b, .int (Int32.ofNat o), .int (Int32.ofNat len), .null] 6)) (T5.setTop (mkF m 36 #[.val (.ref a), .val (.ref b), .val (.int (Int32.ofNat o)), .val (.int (Int32.ofNat len)), .val .null, .unset] [.int (Int32.ofNat len), .int (Int32.ofNat o), .ref b])) := c6.trans (by
    refine XS.ifNo X5.here hexec rfl (hb hbytes d30) rfl (i0_eq_f hz) ?_
    refine XS.aloadN X5.here hexec rfl (hb hbytes d33) rfl rfl ?_
    refine XS.iloadN X5.here hexec rfl (hb hbytes d34) rfl ?_
    refine XS.iloadN X5.here hexec rfl (hb hbytes d35) rfl ?_
    exact Steps.refl _)
  obtain ⟨v8, T8, X8, E8, g8⟩ := X5.callS hexec (Cmp3.law l b A o len) hown (wks W (staticW "java/lang/String" 177 Cmp3.yN)) (wk W Cmp3.tab) (W := 0) (Nat.le_of_ble_eq_true rfl) (Nat.le_of_ble_eq_true rfl) (Nat.le_refl _) (by show 0 + len ≤ len; omega) (g := (mkF m 36 #[.val (.ref a), .val (.ref b), .val (.int (Int32.ofNat o)), .val (.int (Int32.ofNat len)), .val .null, .unset] [.int (Int32.ofNat len), .int (Int32.ofNat o), .ref b])) rfl (by rw [hml]; rfl) c7 (argsL := [.ref b, .int (Int32.ofNat o), .int (Int32.ofNat len)]) (rest := []) rfl rfl (by show 2 * 0 + 0 ≤ _; decide) (hb hbytes d36) (⟨rfl, hA.mv X5.warmed.alike hh5, l1, l2, hp⟩)
  obtain ⟨e8, z8⟩ := E8
  obtain ⟨rfl, N, n1, n2, n3, n4, n5, n6⟩ := NewArr.mv _ T5 s _ _ hh5.symm (Vm.Alike.refl _) rfl e8
  rw [hh5] at z8
  have hB1 := hB.keep X8.warmed.alike (n6 _ _ hB.1)
  have hne : s.heap.size ≠ a := (Nat.ne_of_lt (Array.getElem?_eq_some_iff.mp hB.1).1).symm
  have c9 : Steps p.tables e below (s₁.setTop (entryFrame m #[.ref a, .ref b, .int (Int32.ofNat o), .int (Int32.ofNat len), .null] 6)) (T8.setTop (mkF m 39 #[.val (.ref a), .val (.ref b), .val (.int (Int32.ofNat o)), .val (.int (Int32.ofNat len)), .val .null, .unset] [.ref s.heap.size])) := g8
  have c10 : Steps p.tables e below (s₁.setTop (entryFrame m #[.ref a, .ref b, .int (Int32.ofNat o), .int (Int32.ofNat len), .null] 6)) (T8.setTop (mkF m 45 #[.val (.ref a), .val (.ref b), .val (.int (Int32.ofNat o)), .val (.int (Int32.ofNat len)), .val .null, .val (.ref s.heap.size)] [.int (Int32.ofNat N.slots.size), .ref s.heap.size, .ref a])) := by
    have hc : Steps p.tables e below (s₁.setTop (entryFrame m #[.ref a, .ref b, .int (Int32.ofNat o), .int (Int32.ofNat len), .null] 6)) (T8.setTop (mkF m 45 #[.val (.ref a), .val (.ref b), .val (.int (Int32.ofNat o)), .val (.int (Int32.ofNat len)), .val .null, .val (.ref s.heap.size)] [.int (Int32.ofNat len), .ref s.heap.size, .ref a])) := c9.trans (by
      refine XS.astore X8.here hexec rfl (hb hbytes d39) rfl rfl rfl ?_
      refine XS.aloadN X8.here hexec rfl (hb hbytes d41) rfl rfl ?_
      refine XS.aload X8.here hexec rfl (hb hbytes d42) rfl rfl ?_
      refine XS.iloadN X8.here hexec rfl (hb hbytes d44) rfl ?_
      exact Steps.refl _)
    rw [n4]; exact hc
  obtain ⟨v11, T11, X11, E11, g11⟩ := X8.callS hexec (CodL.law l s.heap.size N) hown (wks W (staticW "java/lang/String" 47 CodL.yN)) (wk W CodL.tab) (W := 1) (Nat.le_of_ble_eq_true rfl) (Nat.le_of_ble_eq_true rfl) (Nat.le_refl _) (by show 0 + len + 0 ≤ len; omega) (g := (mkF m 45 #[.val (.ref a), .val (.ref b), .val (.int (Int32.ofNat o)), .val (.int (Int32.ofNat len)), .val .null, .val (.ref s.heap.size)] [.int (Int32.ofNat N.slots.size), .ref s.heap.size, .ref a])) rfl (by rw [hml]; rfl) c10 (argsL := [.ref s.heap.size, .int (Int32.ofNat N.slots.size)]) (rest := [.ref a]) rfl rfl (by show 2 * 0 + (1 + 0) ≤ _; decide) (hb hbytes d45) (⟨rfl, n1⟩)
  obtain ⟨rfl, q11⟩ := E11
  have hB11 := hB1.mv (X8.warmed.alike.symm.trans X11.warmed.alike) q11
  have c12 : Steps p.tables e below (s₁.setTop (entryFrame m #[.ref a, .ref b, .int (Int32.ofNat o), .int (Int32.ofNat len), .null] 6)) (T11.setTop (mkF m 48 #[.val (.ref a), .val (.ref b), .val (.int (Int32.ofNat o)), .val (.int (Int32.ofNat len)), .val .null, .val (.ref s.heap.size)] [.int 0, .ref a])) := g11
  obtain ⟨T13, X13, p13, bl13, sl13, st13⟩ := X11.finit hexec hown (wk W (.fieldLink "java/lang/String" 15 "java/lang/String" "coder" "B")) (Or.inr ⟨_, (wk W (.laysFinal "java/lang/String" "java/lang/String" "coder" "B"))⟩) (Or.inl ⟨rfl, hnm⟩) f2 (Or.inl rfl) hB11 (t := .byte) (by decide +kernel) rfl (g := (mkF m 48 #[.val (.ref a), .val (.ref b), .val (.int (Int32.ofNat o)), .val (.int (Int32.ofNat len)), .val .null, .val (.ref s.heap.size)] [.int 0, .ref a])) rfl (rest := []) rfl (hb hbytes d48)
  have c14 : Steps p.tables e below (s₁.setTop (entryFrame m #[.ref a, .ref b, .int (Int32.ofNat o), .int (Int32.ofNat len), .null] 6)) (T13.setTop (mkF m 54 #[.val (.ref a), .val (.ref b), .val (.int (Int32.ofNat o)), .val (.int (Int32.ofNat len)), .val .null, .val (.ref s.heap.size)] [.ref s.heap.size, .ref a])) := (c12.trans (st13 _ (Steps.refl _))).trans (by
    refine XS.aloadN X13.here hexec rfl (hb hbytes d51) rfl rfl ?_
    refine XS.aload X13.here hexec rfl (hb hbytes d52) rfl rfl ?_
    exact Steps.refl _)
  obtain ⟨T15, X15, p15, bl15, sl15, st15⟩ := X13.finit hexec hown (wk W (.fieldLink "java/lang/String" 9 "java/lang/String" "value" "[B")) (Or.inr ⟨_, (wk W (.laysFinal "java/lang/String" "java/lang/String" "value" "[B"))⟩) (Or.inl ⟨rfl, hnm⟩) f1 (Or.inl rfl) bl13 (t := (.array .byte)) (by decide +kernel) rfl (g := (mkF m 54 #[.val (.ref a), .val (.ref b), .val (.int (Int32.ofNat o)), .val (.int (Int32.ofNat len)), .val .null, .val (.ref s.heap.size)] [.ref s.heap.size, .ref a])) rfl (rest := []) rfl (hb hbytes d54)
  have c16 : Steps p.tables e below (s₁.setTop (entryFrame m #[.ref a, .ref b, .int (Int32.ofNat o), .int (Int32.ofNat len), .null] 6)) (T15.setTop (mkF m 57 #[.val (.ref a), .val (.ref b), .val (.int (Int32.ofNat o)), .val (.int (Int32.ofNat len)), .val .null, .val (.ref s.heap.size)] [])) := c14.trans (st15 _ (Steps.refl _))
  have ap := apart (Or.inr ⟨_, (wk W (.laysFinal "java/lang/String" "java/lang/String" "value" "[B"))⟩) (Or.inr ⟨_, (wk W (.laysFinal "java/lang/String" "java/lang/String" "coder" "B"))⟩) f1 f2 (t₁ := .array .byte) (t₂ := .byte) (by decide +kernel) (by decide +kernel) (by decide)
  have al := X8.warmed.alike.symm.trans X15.warmed.alike
  have n7 : T11.heap[s.heap.size]? = some N := by rw [q11]; exact n1.1
  exact ⟨T15, none, _, _, _, X15, by simp, rfl, by omega, (fun _ => rfl), ⟨rfl, _, N, bl15, ((Same.refl D _).set _ (by simp)).set _ (by simp), sl15, (Cell.slots_setSlot_ne _ ap).trans sl13, n1.keep al (p15.other hne (p13.other hne n7)), n2, by rw [al.findClass]; exact n3, n4, n5, fun y c h1 h2 => p15.other h1 (p13.other h1 (by rw [q11]; exact n6 y c h2)), by rw [p15.2.2, p13.2.2, q11]; exact z8⟩, fun fs hl => c16.trans (X15.returnOut hexec hret (hb hbytes d57) hl)⟩
end New4
namespace New1
def yN : MethodName := ⟨"java/lang/String", "<init>", "([C)V"⟩
abbrev yB : ByteArray := jdk_42_method_3_code
theorem d0 : decode yB 0 = .ok (.aload_n 0, 1) := by decide +kernel
theorem d1 : decode yB 1 = .ok (.aload_n 1, 1) := by decide +kernel
theorem d2 : decode yB 2 = .ok (.iconst 0, 1) := by decide +kernel
theorem d3 : decode yB 3 = .ok (.aload_n 1, 1) := by decide +kernel
theorem d4 : decode yB 4 = .ok (.arraylength, 1) := by decide +kernel
theorem d5 : decode yB 5 = .ok (.aconst_null, 1) := by decide +kernel
theorem d6 : decode yB 6 = .ok (.invokespecial 27, 3) := by decide +kernel
theorem d9 : decode yB 9 = .ok (.return_, 1) := by decide +kernel
def site : List Cond := [New4.tab] ++ initW "java/lang/String" 27 New4.yN
def tab : Cond := tabOf yN yB 2 none site
def P (a : Addr) (D : Cell) (fV fC : Field) (b : Addr) (A : Cell) (z : Int32) (args : Array Value) (s : State) : Prop := args = #[.ref a, .ref b] ∧ Blank "java/lang/String" a D s ∧ Found "java/lang/String" "value" "[B" fV s ∧ Found "java/lang/String" "coder" "B" fC s ∧ Ch b A s ∧ StaticIs s "java/lang/String" "COMPACT_STRINGS" "Z" (.int z) ∧ ¬ z = 0 ∧ 0 < A.slots.size ∧ A.slots.size ≤ 536870912 ∧ ∀ i, i < A.slots.size → ¬ 255 < cv A i
def E (a : Addr) (D : Cell) (fV fC : Field) (A : Cell) (r : Option Value) (s u : State) : Prop := Got a D fV fC A 0 A.slots.size r s u
/-- new String(chars), not empty, no char above 255: a Latin-1 String of their low bytes -/
theorem law (l : Launch) (a : Addr) (D : Cell) (fV fC : Field) (b : Addr) (A : Cell) (z : Int32) : Law l yN 2 1 3 52 yB 2 none site (P a D fV fC b A z) (E a D fV fC A) [⟨a, fC.slot⟩, ⟨a, fV.slot⟩] 1 A.slots.size := by
  refine Law.of_walk (plainFor_of_name (by decide +kernel)) (by decide +kernel) (by decide +kernel) (by decide) (fun _ _ h => by rw [h.1]; rfl) (fun _ U U' hal hh h => ⟨h.1, h.2.1.mv hal hh, h.2.2.1.al hal, h.2.2.2.1.al hal, h.2.2.2.2.1.mv hal hh, h.2.2.2.2.2.1.there hal hh, h.2.2.2.2.2.2⟩) (fun r U U' V V' h1 hal h2 h => Got.mv r U U' V V' h1 hal h2 h) ?_
  intro p e s m args below meth c s₁ X0 hexec hbytes hml hret hlk hnm hown hh0 W hP
  obtain ⟨rfl, hB, f1, f2, hA, s1, hz, l0, l2, hp⟩ := hP
  have c1 : Steps p.tables e below (s₁.setTop (entryFrame m #[.ref a, .ref b] 2)) (s₁.setTop (mkF m 0 #[.val (.ref a), .val (.ref b)] [])) := entry rfl
  have c2 : Steps p.tables e below (s₁.setTop (entryFrame m #[.ref a, .ref b] 2)) (s₁.setTop (mkF m 6 #[.val (.ref a), .val (.ref b)] [.null, .int (Int32.ofNat A.slots.size), .int 0, .ref b, .ref a])) := c1.trans (by
    refine XS.aloadN X0.here hexec rfl (hb hbytes d0) rfl rfl ?_
    refine XS.aloadN X0.here hexec rfl (hb hbytes d1) rfl rfl ?_
    refine iconstV X0.here hexec rfl 0 (hb hbytes d2) (by decide) ?_
    refine XS.aloadN X0.here hexec rfl (hb hbytes d3) rfl rfl ?_
    refine X0.alen hexec (hA.1.mv X0.warmed.alike hh0) rfl rfl (hb hbytes d4) ?_
    refine XS.aconstNull X0.here hexec rfl (hb hbytes d5) ?_
    exact Steps.refl _)
  obtain ⟨v3, T3, X3, E3, g3⟩ := X0.callN hexec (New4.law l a D fV fC b A z 0 A.slots.size) rfl hown (wks W (initW "java/lang/String" 27 New4.yN)) (W New4.tab (by simp only [site, List.mem_cons, List.mem_append, true_or, or_true])) (W := 0) (Nat.le_of_ble_eq_true rfl) (Nat.le_of_ble_eq_true rfl) (Nat.le_refl _) (by show 0 + A.slots.size ≤ A.slots.size; omega) (g := (mkF m 6 #[.val (.ref a), .val (.ref b)] [.null, .int (Int32.ofNat A.slots.size), .int (Int32.ofNat 0), .ref b, .ref a])) rfl (by rw [hml]; rfl) c2 (argsL := [.ref b, .int (Int32.ofNat 0), .int (Int32.ofNat A.slots.size), .null]) (rest := []) rfl rfl (by show 2 * 0 + 0 ≤ _; decide) (hb hbytes d6) (⟨rfl, hB.mv X0.warmed.alike hh0, f1.al X0.warmed.alike, f2.al X0.warmed.alike, hA.mv X0.warmed.alike hh0, s1.there X0.warmed.alike hh0, hz, l0, by omega, l2, fun i hi => by rw [Nat.zero_add]; exact hp i hi⟩)
  have e0 := Got.mv _ s₁ s _ _ hh0.symm (Vm.Alike.refl _) rfl E3
  obtain rfl := e0.1
  have c4 : Steps p.tables e below (s₁.setTop (entryFrame m #[.ref a, .ref b] 2)) (T3.setTop (mkF m 9 #[.val (.ref a), .val (.ref b)] [])) := g3
  exact ⟨T3, none, _, _, _, X3, by simp, rfl, by omega, (fun _ => rfl), e0, fun fs hl => c4.trans (X3.returnOut hexec hret (hb hbytes d9) hl)⟩
theorem pays {l : Launch} {R : Room} {p : Program} {e : Env} {below : List Frame} {s : State} {sargs : Array Value} {len W : Nat} (a : Addr) (D : Cell) (fV fC : Field) (b : Addr) (A : Cell) (z : Int32) (htab : tab.before sargs s = true) (hfr : 4 ≤ R.frames) (hlo : W + 65 ≤ R.locals) :
    Back l R p e below s sargs yN len W (fun A₁ a₁ => A₁.cells + 1 ≤ R.cells ∧ A₁.slots + A.slots.size ≤ R.slots ∧ P a D fV fC b A z a₁ A₁.U) (fun A₁ _ v₁ B₁ => E a D fV fC A v₁ A₁.U B₁.U ∧ B₁.locs = A₁.locs ++ [⟨a, fC.slot⟩, ⟨a, fV.slot⟩] ∧ B₁.cells = A₁.cells + 1 ∧ B₁.slots = A₁.slots + A.slots.size) :=
  (law l a D fV fC b A z).pays htab hfr (by omega)
end New1
end StrChars
namespace StrChars.Road
open Jvm Sem ClassFile Op Lib Jvm.Stand Jvm.Free Jvm.Free.XT
open Jvm.Lib.Cold (StaticIs)
abbrev ST : String := "java/lang/String"
/-- every table word that New1's law asks, flat -/
abbrev words : List Jvm.Cond := [.code New1.yN New1.yB 2 none, .initialized ST, .methodLink ST 27 New4.yN, .instanceMethod New4.yN,
  .code New4.yN New4.yB 6 none, .fieldLink ST 38 ST "COMPACT_STRINGS" "Z", .laysFinal ST ST "value" "[B", .fieldLink ST 9 ST "value" "[B", .laysFinal ST ST "coder" "B", .fieldLink ST 15 ST "coder" "B",
  .methodLink ST 1 Lib.objectInit, .instanceMethod Lib.objectInit, .code Lib.objectInit ⟨#[0xb1]⟩ 1 none, .methodLink ST 177 Cmp3.yN, .static Cmp3.yN, .methodLink ST 47 CodL.yN, .static CodL.yN,
  .code Cmp3.yN Cmp3.yB 6 (some (.array .byte)), .initialized U16, .arrayClass .byte, .methodLink U16 115 Cmp5.yN, .static Cmp5.yN, .code Cmp5.yN Cmp5.yB 7 (some .int), .code CodL.yN CodL.yB 2 (some .byte)]
theorem tab_of {a : Array Value} {s : State} (h : ∀ w ∈ words, w.before a s = true) : New1.tab.before a s = true := by
  have h5 : Cmp5.tab.before a s = true := unparts (wk h (.code Cmp5.yN Cmp5.yB 7 (some .int))) (wks h (.initialized Cmp5.yN.cls :: Cmp5.site))
  have hc : CodL.tab.before a s = true := unparts (wk h (.code CodL.yN CodL.yB 2 (some .byte))) (wks h (.initialized CodL.yN.cls :: CodL.site))
  have q5 : ∀ w ∈ Cmp5.tab :: words, w.before a s = true := fun w hw => (List.mem_cons.mp hw).elim (fun e => e ▸ h5) (h w)
  have h3 : Cmp3.tab.before a s = true := unparts (wk q5 (.code Cmp3.yN Cmp3.yB 6 (some (.array .byte)))) (wks q5 (.initialized Cmp3.yN.cls :: Cmp3.site))
  have q3 : ∀ w ∈ Cmp3.tab :: CodL.tab :: words, w.before a s = true := fun w hw => (List.mem_cons.mp hw).elim (fun e => e ▸ h3) fun hw => (List.mem_cons.mp hw).elim (fun e => e ▸ hc) (h w)
  have h4 : New4.tab.before a s = true := unparts (wk q3 (.code New4.yN New4.yB 6 none)) (wks q3 (.initialized New4.yN.cls :: New4.site))
  have q4 : ∀ w ∈ New4.tab :: words, w.before a s = true := fun w hw => (List.mem_cons.mp hw).elim (fun e => e ▸ h4) (h w)
  exact unparts (wk q4 (.code New1.yN New1.yB 2 none)) (wks q4 (.initialized New1.yN.cls :: New1.site))
/-- the words ride from the start Z to the walk's own state -/
theorem moved {Z s : State} {a0 args : Array Value} (hZ : Z.Warmed39 s.vm) (hw : ∀ d ∈ words, d.before a0 Z = true) : ∀ d ∈ words, d.before args s = true := fun d hd => by
  have q := hw d hd
  have t : ∀ d ∈ words, d = .arrayClass .byte ∨ (d.onTables && d.keepsFace) = true := by decide +kernel
  rcases t d hd with rfl | t
  · exact RoadKit.mvA hZ q
  · exact RoadKit.mv hZ q t
/-- WHAT COMES BACK, over the tables of the start Z: h the heap at the call, h' behind it -/
def Q (Z : State) (x : Addr) (A : Cell) (h : Heap) (v : Option Value) (h' : Heap) (L : List Loc) : Prop := v = none ∧ (∀ y ∈ L, y.base = x) ∧ RoadKit.Keep h h' [x] ∧ h'.size = h.size + 1 ∧ RoadKit.Exa Z h' x ST ∧ RoadKit.Fld Z h' x ST "value" "[B" (.ref h.size) ∧ RoadKit.Fld Z h' x ST "coder" "B" (.int 0) ∧
  (∃ V : Cell, RoadKit.Arr Z h' h.size V .byte ∧ V.vm = .none ∧ Z.vm.findClass "[B" = some V.cls ∧ V.slots.size = A.slots.size ∧ ∀ j, j < A.slots.size → V.slots[j]? = some (.int (lo8 (cv A j)))) ∧
  ∀ (O n d : String) (w : Value), RoadKit.Fld Z h x O n d w → RoadKit.slotOf Z O n d ≠ RoadKit.slotOf Z ST "value" "[B" → RoadKit.slotOf Z O n d ≠ RoadKit.slotOf Z ST "coder" "B" → RoadKit.Fld Z h' x O n d w
/-- **new String(chars) AT A CALL, IN THE ROAD'S FORM**: for specialBack behind newO: x the fresh String, b the char[] with the cell A -/
theorem back {p : Program} {l : Launch} {e : Env} {R : Room} {s : State} {args : Array Value} {below : List Frame} {len W : Nat} {Z : State} {a0 : Array Value} {h : Heap} (hZ : Z.Warmed39 s.vm) (hw : ∀ d ∈ words, d.before a0 Z = true) {kI : Nat} (wi : (Jvm.Cond.instantiable ST kI).before a0 Z = true)
    {x b : Addr} {A : Cell} {z : Int32} {v0 c0 : Value} (E : RoadKit.Exa Z h x ST) (V : RoadKit.Fld Z h x ST "value" "[B" v0) (C : RoadKit.Fld Z h x ST "coder" "B" c0) (K : RoadKit.Arr Z h b A .char) (hty : Typed .char A) (S : RoadKit.Sta Z h ST "COMPACT_STRINGS" "Z" (.int z)) (hz : ¬ z = 0)
    (l0 : 0 < A.slots.size) (l2 : A.slots.size ≤ 536870912) (hp : ∀ i, i < A.slots.size → ¬ 255 < cv A i) (hfr : 4 ≤ R.frames) (hlo : W + 65 ≤ R.locals) :
    Back l R p e below s args New1.yN len W (fun P a => a = #[.ref x, .ref b] ∧ P.U.heap = h ∧ P.cells + 1 ≤ R.cells ∧ P.slots + A.slots.size ≤ R.slots)
      (fun P _ v B => ∃ L, Q Z x A h v B.U.heap L ∧ B.locs = P.locs ++ L ∧ B.cells = P.cells + 1 ∧ B.slots = P.slots + A.slots.size) := by
  intro m meth c P g ig mk a X hg hsize hdg hW hn hp'
  obtain ⟨rfl, rfl, r1, r2⟩ := hp'
  have al : Z.vm.Alike P.U.vm := hZ.alike.trans X.warmed.alike
  obtain ⟨D, cfV, kV, iV, fV, hD, gV, stV, knV, obV, asV, slV⟩ := id V
  obtain ⟨D', cfC, kC, iC, fC, hD', gC, stC, -, -, asC, slC⟩ := id C
  cases hD.symm.trans hD'
  obtain ⟨D2, kD, e1, e2, e3, e4, e5⟩ := id E
  cases hD.symm.trans e1
  obtain ⟨c2, k2, i1, i2, i3, -⟩ := Cond.instantiable_spec wi
  cases e2.symm.trans i1
  cases e3.symm.trans i2
  obtain ⟨kU, u1, u2⟩ := al.2.2 _ _ e3
  have hB : Blank ST x D P.U := ⟨hD, ⟨knV, fun q hq => by rw [hq] at obV; cases obV⟩, by rw [al.findClass]; exact e2, kU, u1, by rw [u2]; exact i3, by rw [u2]; exact e5 i3⟩
  have F1 : Found ST "value" "[B" fV P.U := ⟨SBG.found_only al ⟨cfV, kV, iV, gV⟩, stV⟩
  have F2 : Found ST "coder" "B" fC P.U := ⟨SBG.found_only al ⟨cfC, kC, iC, gC⟩, stC⟩
  have hA : Ch b A P.U := ⟨⟨K.1, State.isArrayOf_alike al K.2.1, K.2.2, by omega⟩, hty⟩
  have hS : StaticIs P.U ST "COMPACT_STRINGS" "Z" (.int z) := by
    obtain ⟨cfS, iS, kS, fS, st, cS, t1, t2, t3, t4, t5, t6, t7⟩ := S
    exact StaticIs.there (s := { Z with heap := P.U.heap }) ⟨cfS, iS, kS, fS, st, cS, t1, t2, t3, t4, t5, (fun q => by rw [q] at t6; cases t6), t7⟩ al rfl
  obtain ⟨v, B, X', ⟨⟨hv, E', V', q1, q2, q3, q4, q5, q6, q7, q8, q9, q10, q11⟩, hl, hc, hs⟩, st⟩ := New1.pays x D fV fC b A z (tab_of (moved hZ hw)) hfr hlo m meth c P g ig mk _ X hg hsize hdg hW hn ⟨r1, r2, rfl, hB, F1, F2, hA, hS, hz, l0, l2, hp⟩
  have al' : Z.vm.Alike B.U.vm := hZ.alike.trans X'.warmed.alike
  have hsz : E'.slots.size = D.slots.size := by
    obtain ⟨-, -, -, kB, w1, w2, w3⟩ := q1
    obtain ⟨kB', y1, y2⟩ := al'.2.2 _ _ e3
    rw [q2.2.1] at w1
    cases w1.symm.trans y1
    rw [w3, e5 i3, y2]
  refine ⟨v, B, X', ⟨_, ⟨hv, ?_, ⟨by omega, fun y cy hy hn' => q10 y cy (by simpa using hn') hy, fun y cy hy => ?_⟩, q11, ⟨E', _, q1.1, by rw [q2.2.1]; exact e2, by rw [q2.2.1]; exact e3, by rw [q2.1]; exact obV, fun _ => by rw [hsz]; exact e5 i3⟩,
    ⟨E', cfV, kV, iV, fV, q1.1, gV, stV, by rw [q2.1]; exact knV, by rw [q2.1]; exact obV, by rw [q2.2.1]; exact asV, q3⟩, ⟨E', cfC, kC, iC, fC, q1.1, gC, stC, by rw [q2.1]; exact knV, by rw [q2.1]; exact obV, by rw [q2.2.1]; exact asC, q4⟩,
    ⟨V', ⟨q5.1, State.isArrayOf_alike al'.symm q5.2.1, q5.2.2.1⟩, q6, by rw [← al'.findClass]; exact q7, q8, fun j hj => by have := q9 j hj; rwa [Nat.zero_add] at this⟩, fun O n d w F n1 n2 => ?_⟩, hl, hc, hs⟩, st⟩
  · intro y hy
    simp only [List.mem_cons, List.not_mem_nil, or_false] at hy
    rcases hy with rfl | rfl <;> rfl
  · by_cases q : y = x
    · subst q
      cases hD.symm.trans hy
      exact ⟨E', q1.1, q2.2.1, q2.1, hsz⟩
    · exact ⟨cy, q10 y cy q hy, rfl, rfl, rfl⟩
  · obtain ⟨D3, cf, k, i, f, g1, g2, g3, g4, g5, g6, g7⟩ := F
    cases hD.symm.trans g1
    simp only [RoadKit.slotOf, g2, gV, gC, Option.map_some, Option.getD_some] at n1 n2
    exact ⟨E', cf, k, i, f, q1.1, g2, g3, by rw [q2.1]; exact g4, by rw [q2.1]; exact g5, by rw [q2.2.1]; exact g6, by rw [q2.2.2 f.slot (by simp [n1, n2])]; exact g7⟩
end StrChars.Road
namespace StrChars.Road
open Jvm Sem ClassFile Op Lib Jvm.Stand Jvm.Free Jvm.Free.XT
/-- WHAT COMES BACK, the byte[] as a list of values -/
def QA (Z : State) (x : Addr) (zn : Int32) (cs : List Int32) (h : Heap) (v : Option Value) (h' : Heap) (L : List Loc) : Prop := v = none ∧ (∀ y ∈ L, y.base = x) ∧ RoadKit.Keep h h' [x] ∧ h'.size = h.size + 1 ∧ RoadKit.Exa Z h' x ST ∧ RoadKit.Fld Z h' x ST "value" "[B" (.ref h.size) ∧ RoadKit.Fld Z h' x ST "coder" "B" (.int 0) ∧
  (∃ kb, Z.vm.findClass "[B" = some kb ∧ RoadKit.Arv Z h' h.size kb .byte zn (cs.map fun c => .int (lo8 c)) (.int 0)) ∧
  ∀ (O n d : String) (w : Value), RoadKit.Fld Z h x O n d w → RoadKit.slotOf Z O n d ≠ RoadKit.slotOf Z ST "value" "[B" → RoadKit.slotOf Z O n d ≠ RoadKit.slotOf Z ST "coder" "B" → RoadKit.Fld Z h' x O n d w
/-- **new String(chars) AT A CALL, THE ARRAYS AS LISTS**: the char[] at b holds cs, not empty, no char above 255 -/
theorem backArv {p : Program} {l : Launch} {e : Env} {R : Room} {s : State} {args : Array Value} {below : List Frame} {len W : Nat} {Z : State} {a0 : Array Value} {h : Heap} (hZ : Z.Warmed39 s.vm) (hw : ∀ d ∈ words, d.before a0 Z = true) {kI : Nat} (wi : (Jvm.Cond.instantiable ST kI).before a0 Z = true)
    {x b : Addr} {k : ClassId} {zn z : Int32} {cs : List Int32} {dv v0 c0 : Value} (E : RoadKit.Exa Z h x ST) (V : RoadKit.Fld Z h x ST "value" "[B" v0) (C : RoadKit.Fld Z h x ST "coder" "B" c0) (K : RoadKit.Arv Z h b k .char zn (cs.map Value.int) dv) (S : RoadKit.Sta Z h ST "COMPACT_STRINGS" "Z" (.int z)) (hz : ¬ z = 0)
    (hlen : zn.toNatClampNeg = cs.length) (h0 : 0 < cs.length) (hbig : cs.length ≤ 536870912) (hall : ∀ c ∈ cs, ¬ 255 < c) (hfr : 4 ≤ R.frames) (hlo : W + 65 ≤ R.locals) :
    Back l R p e below s args New1.yN len W (fun P a => a = #[.ref x, .ref b] ∧ P.U.heap = h ∧ P.cells + 1 ≤ R.cells ∧ P.slots + cs.length ≤ R.slots)
      (fun P _ v B => ∃ L, QA Z x zn cs h v B.U.heap L ∧ B.locs = P.locs ++ L ∧ B.cells = P.cells + 1 ∧ B.slots = P.slots + cs.length) := by
  obtain ⟨A, K1, K2, K3, K4, K5, K6⟩ := K
  have e : A.slots.size = cs.length := K3.trans hlen
  have hat : ∀ (i : Nat) (hi : i < cs.length), A.slots[i]? = some (.int cs[i]) := fun i hi => by rw [K5 i (by omega)]; simp [List.getD_eq_getElem?_getD, hi]
  have hcv : ∀ (i : Nat) (hi : i < cs.length), cv A i = cs[i] := fun i hi => by unfold cv; rw [hat i hi]
  have hty : Typed .char A := fun i v hv => by
    have hi : i < A.slots.size := (Array.getElem?_eq_some_iff.mp hv).1
    have q := K5 i hi
    rw [hv] at q
    rw [Option.some.inj q]
    exact K6 i hi
  refine Back.mono (back hZ hw wi E V C K1 hty S hz (by omega) (by omega) (fun i hi => by rw [hcv i (by omega)]; exact hall _ (List.getElem_mem _)) hfr hlo) (fun P a hp => ⟨hp.1, hp.2.1, hp.2.2.1, by rw [e]; exact hp.2.2.2⟩) (fun P a v B hp hq => ?_)
  obtain ⟨L, ⟨q1, q2, q3, q4, q5, q6, q7, ⟨V', v1, v2, v3, v4, v5⟩, q9⟩, hl, hc, hs⟩ := hq
  refine ⟨L, ⟨q1, q2, q3, q4, q5, q6, q7, ⟨V'.cls, v3, V', v1, rfl, by rw [v4, e, hlen], K4, fun i hi => ?_, fun i hi => ?_⟩, q9⟩, hl, hc, by rw [hs, e]⟩
  · have hi' : i < cs.length := by omega
    rw [v5 i (by omega), hcv i hi']; simp [List.getD_eq_getElem?_getD, hi']
  · have hi' : i < cs.length := by omega
    simp only [List.getD_eq_getElem?_getD, List.getElem?_map, List.getElem?_eq_getElem hi', Option.map_some, Option.getD_some]
    exact fits_lo8 _
end StrChars.Road
namespace StrChars.Road
open Jvm Sem ClassFile Op Lib Jvm.Stand Jvm.Free Jvm.Free.XT
/-- WHAT COMES BACK, in the writer's own shape -/
def QV (Z : State) (x : Addr) (N : Int32) (bs : List Int32) (h : Heap) (n0 : Nat) (v : Option Value) (h' : Heap) (L : List Loc) : Prop := v = none ∧ RoadKit.Fr n0 L ∧ RoadKit.Keep h h' [x] ∧ RoadKit.Exa Z h' x ST ∧ RoadKit.Fld Z h' x ST "coder" "B" (.int 0) ∧
  ∃ (t : Addr) (kb : ClassId), n0 ≤ t ∧ h.size ≤ t ∧ ¬ t = x ∧ RoadKit.Fld Z h' x ST "value" "[B" (.ref t) ∧ RoadKit.Arv Z h' t kb .byte N (bs.map Value.int) (.int 0)
/-- **new String(chars) AT A CALL, FOR THE WRITER**: a char[] of n known ints, each 0 to 255 -/
theorem backV {p : Program} {l : Launch} {e : Env} {R : Room} {s : State} {args : Array Value} {below : List Frame} {len W : Nat} {Z : State} {a0 : Array Value} {h : Heap} (hZ : Z.Warmed39 s.vm) (hw : ∀ d ∈ words, d.before a0 Z = true) {kI : Nat} (wi : (Jvm.Cond.instantiable ST kI).before a0 Z = true)
    {x b : Addr} {kC : ClassId} {cs bs : List Int32} {d v0 c0 : Value} {z N : Int32} {n n0 : Nat} (hx0 : n0 ≤ x) (hh0 : n0 ≤ h.size) (E : RoadKit.Exa Z h x ST) (V : RoadKit.Fld Z h x ST "value" "[B" v0) (C : RoadKit.Fld Z h x ST "coder" "B" c0) (K : RoadKit.Arv Z h b kC .char N (cs.map Value.int) d) (S : RoadKit.Sta Z h ST "COMPACT_STRINGS" "Z" (.int z)) (hz : ¬ z = 0)
    (hn : cs.length = n) (hN : N = Int32.ofNat n) (l0 : 0 < n) (l2 : n ≤ 4000) (hp : ∀ c ∈ cs, ¬ c < 0 ∧ ¬ (255 : Int32) < c) (hb : bs = cs.map (fun c => c.toInt8.toInt32)) (hfr : 4 ≤ R.frames) (hlo : W + 65 ≤ R.locals) :
    Back l R p e below s args (⟨"java/lang/String", "<init>", "([C)V"⟩ : MethodName) len W (fun P a => a = #[.ref x, .ref b] ∧ P.U.heap = h ∧ P.cells + 1 ≤ R.cells ∧ P.slots + n ≤ R.slots)
      (fun P _ v B => ∃ L, QV Z x N bs h n0 v B.U.heap L ∧ B.locs = P.locs ++ L ∧ B.cells = P.cells + 1 ∧ B.slots = P.slots + n) := by
  subst hn hN hb
  refine Back.mono (backArv hZ hw wi E V C K S hz (n32 (by omega)) l0 (by omega) (fun c hc => (hp c hc).2) hfr hlo) (fun P a hp => hp) (fun P a v B hp hq => ?_)
  obtain ⟨L, ⟨q1, q2, q3, q4, q5, q6, q7, ⟨kb, v1, v2⟩, q9⟩, hl, hc, hs⟩ := hq
  exact ⟨L, ⟨q1, fun y hy => by rw [q2 y hy]; exact hx0, q3, q5, q7, h.size, kb, hh0, Nat.le_refl _, Nat.ne_of_gt E.lt, q6, by rw [List.map_map]; exact v2⟩, hl, hc, hs⟩
end StrChars.Road
namespace StrChars
open Jvm Sem ClassFile Op Lib Jvm.Stand Jvm.Free.XT Jvm.Free.ALB Jvm.Free.JM Jvm.Free
open Jvm.Lib.Cold (StaticIs)
def hi8 (x : Int32) : Int32 := lo8 (x >>> ((8 : Int32) &&& 31))
theorem shr0 (c : Int32) : c >>> ((0 : Int32) &&& 31) = c := by
  have e : ((0 : Int32) &&& 31) = 0 := by decide
  rw [e]
  apply Int32.toBitVec_inj.mp
  rw [Int32.toBitVec_shiftRight]
  have e1 : ((0 : Int32).toBitVec.smod 32) = 0#32 := by decide
  rw [e1, BitVec.sshiftRight_eq']
  exact BitVec.sshiftRight_zero
end StrChars
namespace StrChars
open Jvm Sem ClassFile Op Lib Jvm.Stand Jvm.Free.XT Jvm.Free.ALB Jvm.Free.JM Jvm.Free
open Jvm.Lib.Cold (StaticIs)
theorem shr1 {n : Nat} (h : 2 * n < 2 ^ 31) : Int32.ofNat (2 * n) >>> ((1 : Int32) &&& 31) = Int32.ofNat n := by
  have e : ((1 : Int32) &&& 31) = 1 := by decide
  rw [e]
  apply Int32.toBitVec_inj.mp
  rw [Int32.toBitVec_shiftRight]
  have e1 : ((1 : Int32).toBitVec.smod 32) = 1#32 := by decide
  have hm : (BitVec.ofNat 32 (2 * n)).toNat = 2 * n := by rw [BitVec.toNat_ofNat, Nat.mod_eq_of_lt (by omega)]
  rw [e1, BitVec.sshiftRight_eq']
  apply BitVec.eq_of_toNat_eq
  show ((BitVec.ofNat 32 (2 * n)).sshiftRight 1).toNat = (BitVec.ofNat 32 n).toNat
  rw [BitVec.toNat_sshiftRight_of_msb_false (by rw [BitVec.msb_eq_false_iff_two_mul_lt, hm]; omega), hm, BitVec.toNat_ofNat, Nat.shiftRight_eq_div_pow]
  omega
/-- the array's cell V codes the n chars f 0 .. f (n - 1) by the coder cd, as the JDK does: coder 1 just where some char is above 255 -/
def Cod (cd : Int32) (n : Nat) (f : Nat → Int32) (V : Cell) : Prop := (cd = 0 ∧ V.slots.size = n ∧ ∀ j, j < n → V.slots[j]? = some (.int (lo8 (f j))) ∧ ¬ 255 < f j) ∨ (cd = 1 ∧ V.slots.size = 2 * n ∧ (∀ j, j < n → V.slots[2 * j]? = some (.int (lo8 (f j))) ∧ V.slots[2 * j + 1]? = some (.int (hi8 (f j)))) ∧ ∃ j, j < n ∧ 255 < f j)
theorem Cod.cd {cd : Int32} {n : Nat} {f : Nat → Int32} {V : Cell} (h : Cod cd n f V) : cd = 0 ∨ cd = 1 := h.imp (fun q => q.1) fun q => q.1
theorem Cod.len {cd : Int32} {n : Nat} {f : Nat → Int32} {V : Cell} (h : Cod cd n f V) (hs : V.slots.size < 2 ^ 31) : Int32.ofNat V.slots.size >>> (cd &&& 31) = Int32.ofNat n := by
  rcases h with ⟨rfl, h, -⟩ | ⟨rfl, h, -⟩
  · rw [shr0, h]
  · rw [h, shr1 (by omega)]
/-- **x is a String of the n chars f 0 .. f (n - 1)**, Latin-1 or UTF-16; its array at t has the cell V -/
def Txt (x t : Addr) (V : Cell) (cd : Int32) (n : Nat) (f : Nat → Int32) (U : State) : Prop := Exact "java/lang/String" x U ∧ Has x "java/lang/String" "value" "[B" (.ref t) U ∧ Has x "java/lang/String" "coder" "B" (.int cd) U ∧ XT.Arr .byte t V U ∧ Cod cd n f V ∧ ∀ j, j < n → ¬ f j < 0 ∧ ¬ 65535 < f j
theorem Txt.mv {x t : Addr} {V : Cell} {cd : Int32} {n : Nat} {f : Nat → Int32} {U U' : State} (h : Txt x t V cd n f U) (hal : U.vm.Alike U'.vm) (hh : U'.heap = U.heap) : Txt x t V cd n f U' := ⟨h.1.mv hal hh, h.2.1.mv hal hh, h.2.2.1.mv hal hh, h.2.2.2.1.mv hal hh, h.2.2.2.2⟩
namespace Cdr
def yN : MethodName := ⟨"java/lang/String", "coder", "()B"⟩
abbrev yB : ByteArray := jdk_42_method_152_code
theorem d0 : decode yB 0 = .ok (.getstatic 38, 3) := by decide +kernel
theorem d3 : decode yB 3 = .ok (.ifCond (.eq) 10, 3) := by decide +kernel
theorem d6 : decode yB 6 = .ok (.aload_n 0, 1) := by decide +kernel
theorem d7 : decode yB 7 = .ok (.getfield 15, 3) := by decide +kernel
theorem d10 : decode yB 10 = .ok (.goto 4, 3) := by decide +kernel
theorem d14 : decode yB 14 = .ok (.ireturn, 1) := by decide +kernel
def site : List Cond := [.fieldLink "java/lang/String" 38 "java/lang/String" "COMPACT_STRINGS" "Z", .fieldLink "java/lang/String" 15 "java/lang/String" "coder" "B"]
def tab : Cond := tabOf yN yB 1 (some .byte) site
def P (x : Addr) (cd z : Int32) (args : Array Value) (s : State) : Prop := args = #[.ref x] ∧ Has x "java/lang/String" "coder" "B" (.int cd) s ∧ (cd = 0 ∨ cd = 1) ∧ StaticIs s "java/lang/String" "COMPACT_STRINGS" "Z" (.int z) ∧ ¬ z = 0
def E (cd : Int32) (r : Option Value) (s u : State) : Prop := XT.PureE (some (.int cd)) r s u
theorem law (l : Launch) (x : Addr) (cd z : Int32) : Law l yN 1 0 0 0 yB 1 (some .byte) site (P x cd z) (E cd) [] 0 0 := by
  refine Law.of_walk (plainFor_of_name (by decide +kernel)) (by decide +kernel) (by decide +kernel) (by decide) (fun _ _ h => by rw [h.1]; rfl) (fun _ U U' hal hh h => ⟨h.1, h.2.1.mv hal hh, h.2.2.1, h.2.2.2.1.there hal hh, h.2.2.2.2⟩) (fun r U U' V V' h1 hal h2 h => XT.PureE.mv r U U' V V' h1 hal h2 h) ?_
  intro p e s m args below meth c s₁ X0 hexec hbytes hml hret hlk hnm hown hh0 W hP
  obtain ⟨rfl, hx, hc, s1, hz⟩ := hP
  have c1 : Steps p.tables e below (s₁.setTop (entryFrame m #[.ref x] 1)) (s₁.setTop (mkF m 0 #[.val (.ref x)] [])) := entry rfl
  obtain ⟨T2, X2, q2, st2⟩ := X0.sget hexec hown (wk W (.fieldLink "java/lang/String" 38 "java/lang/String" "COMPACT_STRINGS" "Z")) s1 (fun _ _ h => by rw [hh0]; exact h) (g := (mkF m 0 #[.val (.ref x)] [])) rfl (hb hbytes d0)
  have hh2 := q2.trans hh0
  have c3 : Steps p.tables e below (s₁.setTop (entryFrame m #[.ref x] 1)) (T2.setTop (mkF m 7 #[.val (.ref x)] [.ref x])) := (c1.trans (st2 _ (Steps.refl _))).trans (by
    refine XS.ifNo X2.here hexec rfl (hb hbytes d3) rfl (i0_eq_f hz) ?_
    refine XS.aloadN X2.here hexec rfl (hb hbytes d6) rfl rfl ?_
    exact Steps.refl _)
  obtain ⟨T4, X4, q4, st4⟩ := X2.hget hexec hown (wk W (.fieldLink "java/lang/String" 15 "java/lang/String" "coder" "B")) (hx.mv X2.warmed.alike hh2) (g := (mkF m 7 #[.val (.ref x)] [.ref x])) rfl (rest := []) rfl (hb hbytes d7)
  have c5 : Steps p.tables e below (s₁.setTop (entryFrame m #[.ref x] 1)) (T4.setTop (mkF m 14 #[.val (.ref x)] [.int cd])) := (c3.trans (st4 _ (Steps.refl _))).trans (by
    refine XS.goto X4.here hexec rfl (pc0 := 10) rfl (hb hbytes d10) (by decide) rfl ?_
    exact Steps.refl _)
  exact ⟨T4, some (.int cd), _, _, _, X4, rfl, rfl, rfl, (fun h => by cases h), ⟨rfl, q4.trans hh2⟩, fun fs hl => c5.trans (X4.ireturnOut hexec hret (by rcases hc with rfl | rfl <;> rfl) (Or.inr (Or.inr (Or.inl rfl))) (hb hbytes d14) hl)⟩
end Cdr
namespace Len
def yN : MethodName := ⟨"java/lang/String", "length", "()I"⟩
abbrev yB : ByteArray := jdk_42_method_54_code
theorem d0 : decode yB 0 = .ok (.aload_n 0, 1) := by decide +kernel
theorem d1 : decode yB 1 = .ok (.getfield 9, 3) := by decide +kernel
theorem d4 : decode yB 4 = .ok (.arraylength, 1) := by decide +kernel
theorem d5 : decode yB 5 = .ok (.aload_n 0, 1) := by decide +kernel
theorem d6 : decode yB 6 = .ok (.invokevirtual 335, 3) := by decide +kernel
theorem d9 : decode yB 9 = .ok (.ishr, 1) := by decide +kernel
theorem d10 : decode yB 10 = .ok (.ireturn, 1) := by decide +kernel
def site : List Cond := [.fieldLink "java/lang/String" 9 "java/lang/String" "value" "[B", Cdr.tab] ++ virtW "java/lang/String" 335 "java/lang/String" Cdr.yN Cdr.yN
def tab : Cond := tabOf yN yB 1 (some .int) site
def P (x t : Addr) (V : Cell) (cd : Int32) (n : Nat) (f : Nat → Int32) (z : Int32) (args : Array Value) (s : State) : Prop := args = #[.ref x] ∧ Txt x t V cd n f s ∧ StaticIs s "java/lang/String" "COMPACT_STRINGS" "Z" (.int z) ∧ ¬ z = 0
def E (n : Nat) (r : Option Value) (s u : State) : Prop := XT.PureE (some (.int (Int32.ofNat n))) r s u
/-- length() of a String of n chars, in either coding -/
theorem law (l : Launch) (x t : Addr) (V : Cell) (cd : Int32) (n : Nat) (f : Nat → Int32) (z : Int32) : Law l yN 1 0 1 13 yB 1 (some .int) site (P x t V cd n f z) (E n) [] 0 0 := by
  refine Law.of_walk (plainFor_of_name (by decide +kernel)) (by decide +kernel) (by decide +kernel) (by decide) (fun _ _ h => by rw [h.1]; rfl) (fun _ U U' hal hh h => ⟨h.1, h.2.1.mv hal hh, h.2.2.1.there hal hh, h.2.2.2⟩) (fun r U U' V V' h1 hal h2 h => XT.PureE.mv r U U' V V' h1 hal h2 h) ?_
  intro p e s m args below meth c s₁ X0 hexec hbytes hml hret hlk hnm hown hh0 W hP
  obtain ⟨rfl, hx, s1, hz⟩ := hP
  have v31 := hx.2.2.2.1.2.2.2
  have c1 : Steps p.tables e below (s₁.setTop (entryFrame m #[.ref x] 1)) (s₁.setTop (mkF m 1 #[.val (.ref x)] [.ref x])) := Steps.trans (entry rfl) (by
    show Steps p.tables e below (s₁.setTop (mkF m 0 #[.val (.ref x)] [])) _
    refine XS.aloadN X0.here hexec rfl (hb hbytes d0) rfl rfl ?_
    exact Steps.refl _)
  obtain ⟨T2, X2, q2, st2⟩ := X0.hget hexec hown (wk W (.fieldLink "java/lang/String" 9 "java/lang/String" "value" "[B")) (hx.mv X0.warmed.alike hh0).2.1 (g := (mkF m 1 #[.val (.ref x)] [.ref x])) rfl (rest := []) rfl (hb hbytes d1)
  have hh2 := q2.trans hh0
  have hx2 := hx.mv X2.warmed.alike hh2
  have c3 : Steps p.tables e below (s₁.setTop (entryFrame m #[.ref x] 1)) (T2.setTop (mkF m 6 #[.val (.ref x)] [.ref x, .int (Int32.ofNat V.slots.size)])) := (c1.trans (st2 _ (Steps.refl _))).trans (by
    refine X2.alen hexec hx2.2.2.2.1 rfl rfl (hb hbytes d4) ?_
    refine XS.aloadN X2.here hexec rfl (hb hbytes d5) rfl rfl ?_
    exact Steps.refl _)
  obtain ⟨v4, T4, X4, E4, g4⟩ := X2.callV hexec (Cdr.law l x cd z) hown (wks W (virtW "java/lang/String" 335 "java/lang/String" Cdr.yN Cdr.yN)) rfl (by decide) (wk W Cdr.tab) (W := 1) (Nat.le_of_ble_eq_true rfl) (Nat.le_of_ble_eq_true rfl) (Nat.le_refl _) (Nat.le_refl _) (hx2.1.fc X2.warmed.alike) hx2.1.is (g := (mkF m 6 #[.val (.ref x)] [.ref x, .int (Int32.ofNat V.slots.size)])) rfl (by rw [hml]; rfl) c3 (argsL := []) (rest := [.int (Int32.ofNat V.slots.size)]) rfl rfl (by show 2 * 0 + (1 + 0) ≤ _; decide) (hb hbytes d6) (⟨rfl, hx2.2.2.1, hx.2.2.2.2.1.cd, s1.there X2.warmed.alike hh2, hz⟩)
  obtain ⟨rfl, q4⟩ := E4
  have c5 : Steps p.tables e below (s₁.setTop (entryFrame m #[.ref x] 1)) (T4.setTop (mkF m 10 #[.val (.ref x)] [.int (Int32.ofNat V.slots.size >>> (cd &&& 31))])) := Steps.trans g4 (by
    refine ishr X4.here hexec rfl (hb hbytes d9) rfl ?_
    exact Steps.refl _)
  rw [hx.2.2.2.2.1.len v31] at c5
  exact ⟨T4, some (.int (Int32.ofNat n)), _, _, _, X4, rfl, rfl, rfl, (fun h => by cases h), ⟨rfl, q4.trans hh2⟩, fun fs hl => c5.trans (X4.ireturnOut hexec hret rfl (Or.inl rfl) (hb hbytes d10) hl)⟩
theorem pays {l : Launch} {R : Room} {p : Program} {e : Env} {below : List Frame} {s : State} {sargs : Array Value} {len W : Nat} (x t : Addr) (V : Cell) (cd : Int32) (n : Nat) (f : Nat → Int32) (z : Int32) (htab : tab.before sargs s = true) (hfr : 2 ≤ R.frames) (hlo : W + 25 ≤ R.locals) :
    Back l R p e below s sargs yN len W (fun A₁ a₁ => A₁.cells + 0 ≤ R.cells ∧ A₁.slots + 0 ≤ R.slots ∧ P x t V cd n f z a₁ A₁.U) (fun A₁ _ v₁ B₁ => E n v₁ A₁.U B₁.U ∧ B₁.locs = A₁.locs ++ [] ∧ B₁.cells = A₁.cells + 0 ∧ B₁.slots = A₁.slots + 0) :=
  (law l x t V cd n f z).pays htab hfr (by omega)
end Len
end StrChars
namespace StrChars.Road
open Jvm Sem ClassFile Op Lib Jvm.Stand Jvm.Free Jvm.Free.XT
open Jvm.Lib.Cold (StaticIs)
theorem consq {a : Array Value} {s : State} {c : Jvm.Cond} {L : List Jvm.Cond} (h0 : c.before a s = true) (h : ∀ w ∈ L, w.before a s = true) : ∀ w ∈ c :: L, w.before a s = true := fun w hw => (List.mem_cons.mp hw).elim (fun e => e ▸ h0) (h w)
/-- the words of String.length(), either coding -/
abbrev wordsLen : List Jvm.Cond := [.code Len.yN Len.yB 1 (some .int), .initialized ST, .fieldLink ST 9 ST "value" "[B", .fieldLink ST 38 ST "COMPACT_STRINGS" "Z", .fieldLink ST 15 ST "coder" "B", .code Cdr.yN Cdr.yB 1 (some .byte), .methodLink ST 335 Cdr.yN, .declares Cdr.yN, .selects ST Cdr.yN Cdr.yN, .instanceMethod Cdr.yN]
theorem tabLen_of {a : Array Value} {s : State} (h : ∀ w ∈ wordsLen, w.before a s = true) : Len.tab.before a s = true := by
  have hc : Cdr.tab.before a s = true := unparts (wk h (.code Cdr.yN Cdr.yB 1 (some .byte))) (wks h (.initialized Cdr.yN.cls :: Cdr.site))
  have q := consq hc h
  exact unparts (wk q (.code Len.yN Len.yB 1 (some .int))) (wks q (.initialized Len.yN.cls :: Len.site))
theorem movedLen {Z s : State} {a0 args : Array Value} (hZ : Z.Warmed39 s.vm) (hw : ∀ d ∈ wordsLen, d.before a0 Z = true) : ∀ d ∈ wordsLen, d.before args s = true := fun d hd => by
  have q := hw d hd
  have t : ∀ d ∈ wordsLen, d = .arrayClass .byte ∨ (d.onTables && d.keepsFace) = true := by decide +kernel
  rcases t d hd with rfl | t
  · exact RoadKit.mvA hZ q
  · exact RoadKit.mv hZ q t
/-- the bytes of the chars cs, low before high -/
def wideBytes : List Int32 → List Value
  | [] => []
  | c :: cs => .int (lo8 c) :: .int (hi8 c) :: wideBytes cs
theorem wide_lo (d : Value) : ∀ (cs : List Int32) (j : Nat), j < cs.length → (wideBytes cs).getD (2 * j) d = .int (lo8 (cs.getD j 0))
  | [], j, h => absurd h (Nat.not_lt_zero j)
  | c :: cs, 0, _ => rfl
  | c :: cs, j + 1, h => by
    have q := wide_lo d cs j (by simpa using h)
    rw [show 2 * (j + 1) = 2 * j + 1 + 1 from by omega]
    simpa [wideBytes] using q
theorem wide_hi (d : Value) : ∀ (cs : List Int32) (j : Nat), j < cs.length → (wideBytes cs).getD (2 * j + 1) d = .int (hi8 (cs.getD j 0))
  | [], j, h => absurd h (Nat.not_lt_zero j)
  | c :: cs, 0, _ => rfl
  | c :: cs, j + 1, h => by
    have q := wide_hi d cs j (by simpa using h)
    rw [show 2 * (j + 1) + 1 = 2 * j + 1 + 1 + 1 from by omega]
    simpa [wideBytes] using q
theorem low_at (d : Value) (cs : List Int32) (j : Nat) (h : j < cs.length) : (cs.map fun c => Value.int (lo8 c)).getD j d = .int (lo8 (cs.getD j 0)) := by
  simp [List.getD_eq_getElem?_getD, h]
/-- an array of N2 bytes vs codes the chars cs by the coder cd -/
def CodA (cs : List Int32) (cd N2 : Int32) (vs : List Value) : Prop := (cd = 0 ∧ N2 = Int32.ofNat cs.length ∧ vs = (cs.map fun c => Value.int (lo8 c)) ∧ ∀ c ∈ cs, ¬ 255 < c) ∨ (cd = 1 ∧ N2 = Int32.ofNat (2 * cs.length) ∧ vs = wideBytes cs ∧ ∃ c ∈ cs, 255 < c)
theorem CodA.cod {cs : List Int32} {cd N2 : Int32} {vs : List Value} {V : Cell} (h : CodA cs cd N2 vs) (hn : 2 * cs.length < 2 ^ 31) (hs : V.slots.size = N2.toNatClampNeg) (hv : RoadKit.Has V vs (.int 0)) : Cod cd cs.length (fun j => cs.getD j 0) V := by
  rcases h with ⟨rfl, rfl, rfl, h⟩ | ⟨rfl, rfl, rfl, c, hc, hw⟩
  · rw [n32 (by omega)] at hs
    exact Or.inl ⟨rfl, hs, fun j hj => ⟨by rw [hv j (by omega), low_at _ _ _ hj], by
      have e : cs.getD j 0 = cs[j] := by simp [List.getD_eq_getElem?_getD, hj]
      show ¬ 255 < cs.getD j 0
      rw [e]; exact h _ (List.getElem_mem _)⟩⟩
  · rw [n32 (by omega)] at hs
    obtain ⟨j, hj, rfl⟩ := List.getElem_of_mem hc
    exact Or.inr ⟨rfl, hs, fun j hj => ⟨by rw [hv _ (by omega), wide_lo _ _ _ hj], by rw [hv _ (by omega), wide_hi _ _ _ hj]⟩, j, hj, by
      have e : cs.getD j 0 = cs[j] := by simp [List.getD_eq_getElem?_getD, hj]
      show 255 < cs.getD j 0
      rw [e]; exact hw⟩
/-- an object of exactly java/lang/String, its two fields found: as the laws ask it -/
theorem strObj {Z U : State} {a0 : Array Value} {kI : Nat} (wi : (Jvm.Cond.instantiable ST kI).before a0 Z = true) (al : Z.vm.Alike U.vm) {x : Addr} {v0 c0 : Value} (E : RoadKit.Exa Z U.heap x ST) (V : RoadKit.Fld Z U.heap x ST "value" "[B" v0) (C : RoadKit.Fld Z U.heap x ST "coder" "B" c0) :
    ∃ (D : Cell) (fV fC : Field), Blank ST x D U ∧ Found ST "value" "[B" fV U ∧ Found ST "coder" "B" fC U ∧ D.slots[fV.slot]? = some v0 ∧ D.slots[fC.slot]? = some c0 ∧ RoadKit.slotOf Z ST "value" "[B" = fV.slot ∧ RoadKit.slotOf Z ST "coder" "B" = fC.slot := by
  obtain ⟨D, cfV, kV, iV, fV, hD, gV, stV, knV, obV, asV, slV⟩ := V
  obtain ⟨D', cfC, kC, iC, fC, hD', gC, stC, -, -, asC, slC⟩ := C
  cases hD.symm.trans hD'
  obtain ⟨D2, kD, e1, e2, e3, e4, e5⟩ := E
  cases hD.symm.trans e1
  obtain ⟨c2, k2, i1, i2, i3, -⟩ := Cond.instantiable_spec wi
  cases e2.symm.trans i1
  cases e3.symm.trans i2
  obtain ⟨kU, u1, u2⟩ := al.2.2 _ _ e3
  exact ⟨D, fV, fC, ⟨hD, ⟨knV, fun q hq => by rw [hq] at obV; cases obV⟩, by rw [al.findClass]; exact e2, kU, u1, by rw [u2]; exact i3, by rw [u2]; exact e5 i3⟩, ⟨SBG.found_only al ⟨cfV, kV, iV, gV⟩, stV⟩, ⟨SBG.found_only al ⟨cfC, kC, iC, gC⟩, stC⟩, slV, slC, by simp [RoadKit.slotOf, gV], by simp [RoadKit.slotOf, gC]⟩
theorem sta_is {Z U : State} (al : Z.vm.Alike U.vm) {C n d : String} {v : Value} (S : RoadKit.Sta Z U.heap C n d v) : StaticIs U C n d v := by
  obtain ⟨cfS, iS, kS, fS, st, cS, t1, t2, t3, t4, t5, t6, t7⟩ := S
  exact StaticIs.there (s := { Z with heap := U.heap }) ⟨cfS, iS, kS, fS, st, cS, t1, t2, t3, t4, t5, (fun q => by rw [q] at t6; cases t6), t7⟩ al rfl
/-- **length() OF SUCH A STRING** -/
theorem lenW {p : Program} {l : Launch} {e : Env} {R : Room} {s : State} {args : Array Value} {below : List Frame} {len W : Nat} {Z : State} {a0 : Array Value} {h : Heap} (hZ : Z.Warmed39 s.vm) (hw : ∀ d ∈ wordsLen, d.before a0 Z = true) {kI : Nat} (wi : (Jvm.Cond.instantiable ST kI).before a0 Z = true)
    {x t : Addr} {kb : ClassId} {cs : List Int32} {cd N2 z : Int32} {vs : List Value} (E : RoadKit.Exa Z h x ST) (V : RoadKit.Fld Z h x ST "value" "[B" (.ref t)) (C : RoadKit.Fld Z h x ST "coder" "B" (.int cd)) (K : RoadKit.Arv Z h t kb .byte N2 vs (.int 0)) (hc : CodA cs cd N2 vs) (hb : ∀ c ∈ cs, ¬ c < 0 ∧ ¬ (65535 : Int32) < c)
    (S : RoadKit.Sta Z h ST "COMPACT_STRINGS" "Z" (.int z)) (hz : ¬ z = 0) (l2 : cs.length ≤ 4000) (hfr : 2 ≤ R.frames) (hlo : W + 25 ≤ R.locals) :
    Back l R p e below s args (⟨"java/lang/String", "length", "()I"⟩ : MethodName) len W (fun P a => a = #[.ref x] ∧ P.U.heap = h ∧ P.cells + 0 ≤ R.cells ∧ P.slots + 0 ≤ R.slots)
      (fun P _ v B => ∃ L, (v = some (.int (Int32.ofNat cs.length)) ∧ L = [] ∧ B.U.heap = h) ∧ B.locs = P.locs ++ L ∧ B.cells = P.cells + 0 ∧ B.slots = P.slots + 0) := by
  obtain ⟨A, K1, K2, K3, K4, K5, K6⟩ := K
  have hcod := hc.cod (by omega) K3 K5
  intro m meth c P g ig mk a X hg hsize hdg hW hn hp'
  obtain ⟨rfl, rfl, r1, r2⟩ := hp'
  have al : Z.vm.Alike P.U.vm := hZ.alike.trans X.warmed.alike
  obtain ⟨D, fV, fC, hB, F1, F2, g1, g2, -, -⟩ := strObj wi al E V C
  have hx : Txt x t A cd cs.length (fun j => cs.getD j 0) P.U := ⟨⟨_, hB.2.2.1, D, hB.1, rfl, by cases q : D.vm <;> first | rfl | exact absurd q (hB.2.1.2 _)⟩, Has.of hB F1 g1, Has.of hB F2 g2, ⟨K1.1, State.isArrayOf_alike al K1.2.1, K1.2.2, by rcases hcod with ⟨-, q, -⟩ | ⟨-, q, -⟩ <;> omega⟩, hcod, fun j hj => by
    have e : cs.getD j 0 = cs[j] := by simp [List.getD_eq_getElem?_getD, hj]
    show ¬ cs.getD j 0 < 0 ∧ ¬ 65535 < cs.getD j 0
    rw [e]; exact hb _ (List.getElem_mem _)⟩
  obtain ⟨v, B, X', ⟨⟨hv, hh⟩, hl, hk, hs⟩, st⟩ := Len.pays x t A cd cs.length (fun j => cs.getD j 0) z (tabLen_of (movedLen hZ hw)) hfr hlo m meth c P g ig mk _ X hg hsize hdg hW hn ⟨r1, r2, rfl, hx, sta_is al S, hz⟩
  exact ⟨v, B, X', ⟨[], ⟨hv, rfl, hh⟩, hl, hk, hs⟩, st⟩
end StrChars.Road
namespace StrChars.Road
open Jvm Sem ClassFile Op Lib Jvm.Stand Jvm.Free Jvm.Free.XT
open Jvm.Lib.Cold (StaticIs)
/-- what backV says of its String, as the contracts of this text ask it: cs's low bytes, coder 0 -/
theorem codOf {cs : List Int32} {n : Nat} (hn : cs.length = n) (hb : ∀ c ∈ cs, ¬ 255 < c) : CodA cs 0 (Int32.ofNat n) ((cs.map lo8).map Value.int) := Or.inl ⟨rfl, by rw [hn], by simp [List.map_map, Function.comp_def], hb⟩
end StrChars.Road
end Jvm.Pilot.@@N@@
namespace Jvm.Pilot.@@N@@
open Jvm Jvm.ClassFile Sem Op Lib Jvm.Free Jvm.Stand Jvm.LawKit Jvm.RoadKit Bundle Jvm.Pilot.@@N@@.Jvm.D
/-- a char of Latin-1 -/
def own_lat (c : Int32) : Prop := ¬ c < 0 ∧ ¬ (255 : Int32) < c
theorem own_lat_cases {c : Int32} (h : own_lat c) : ∃ k : Fin 256, c = Int32.ofNat k.val := by
  obtain ⟨h0, h1⟩ := h
  rw [Int32.lt_iff_toInt_lt] at h0 h1
  have e0 : (0 : Int32).toInt = 0 := rfl
  have e1 : (255 : Int32).toInt = 255 := rfl
  refine ⟨⟨c.toInt.toNat, by omega⟩, Int32.toInt_inj.mp ?_⟩
  show c.toInt = (Int32.ofNat c.toInt.toNat).toInt
  rw [Int32.toInt_ofNat_small (by omega)]
  omega
theorem own_lat_nar {c : Int32} (h : own_lat c) : nar .char c = c := by
  obtain ⟨k, rfl⟩ := own_lat_cases h
  exact (by decide +kernel : ∀ k : Fin 256, nar .char (Int32.ofNat k.val) = Int32.ofNat k.val) k
theorem own_lat_ofNat (k : Fin 256) : own_lat ((Int32.ofNat k.val).toUInt32.toUInt16.toUInt32.toInt32) := by
  unfold own_lat
  revert k
  decide +kernel
theorem own_mask (x : Int32) : own_lat ((x &&& (255 : Int32)).toUInt32.toUInt16.toUInt32.toInt32) := by
  have h : (x &&& 255).toBitVec.toNat < 256 := by
    simp only [Int32.toBitVec_and, BitVec.toNat_and]
    exact Nat.lt_succ_of_le Nat.and_le_right
  have e : (x &&& 255) = Int32.ofNat (x &&& 255).toBitVec.toNat := by
    apply Int32.toBitVec_inj.mp
    show _ = BitVec.ofNat 32 _
    rw [BitVec.ofNat_toNat]; simp
  rw [e]
  exact own_lat_ofNat ⟨_, h⟩
theorem own_up (cs : List Int32) (h : ∀ c ∈ cs, own_lat c) : ∀ c ∈ cs, ¬ c < 0 ∧ ¬ (65535 : Int32) < c := fun c hc => ⟨(h c hc).1, fun q => (h c hc).2 (by rw [Int32.lt_iff_toInt_lt] at q ⊢; have e1 : (65535 : Int32).toInt = 65535 := rfl; have e2 : (255 : Int32).toInt = 255 := rfl; omega)⟩
theorem own_fitsR {v : Value} {C : String} (h : v.isRef = true) : fits (.object C) v = true := by rcases ref_cases h with rfl | ⟨_, rfl⟩ <;> rfl
theorem own_all0 {P : Int32 → Prop} : ∀ x ∈ ([] : List Int32), P x := fun _ q => nomatch q
theorem own_allS {P : Int32 → Prop} {y : Int32} {L : List Int32} (q : P y) (r : ∀ x ∈ L, P x) : ∀ x ∈ y :: L, P x := fun x z => (List.mem_cons.mp z).elim (fun u => u ▸ q) (r x)
/-- the String at x is compact and spells cs -/
def own_Str (Z : State) (h : Heap) (x : Addr) (cs : List Int32) : Prop := (∀ c ∈ cs, own_lat c) ∧ Exa Z h x "java/lang/String" ∧ Fld Z h x "java/lang/String" "coder" "B" (.int (0 : Int32)) ∧
  ∃ (t : Addr) (kb : ClassId), Fld Z h x "java/lang/String" "value" "[B" (.ref t) ∧ Arv Z h t kb .byte (Int32.ofNat cs.length) ((cs.map (fun c => c.toInt8.toInt32)).map Value.int) (.int (0 : Int32))
theorem own_Str.ext {Z : State} {h h' : Heap} {x : Addr} {cs : List Int32} (S : own_Str Z h x cs) (E : Ext h h') : own_Str Z h' x cs := by
  obtain ⟨h1, h2, h3, t, kb, h4, h5⟩ := S
  exact ⟨h1, h2.ext E, h3.ext E, t, kb, h4.ext E, h5.ext E⟩
theorem own_Str.keep {Z : State} {h h' : Heap} {x : Addr} {cs : List Int32} (S : own_Str Z h x cs) (K : Keep h h' []) : own_Str Z h' x cs := by
  obtain ⟨h1, h2, h3, t, kb, h4, h5⟩ := S
  exact ⟨h1, h2.keep K, h3.keep K nin0, t, kb, h4.keep K nin0, h5.keep K nin0⟩
theorem own_Str.keepS {Z : State} {h h' : Heap} {x a : Addr} {cs : List Int32} {a0 : Array Value} {C : String} {n : Nat} (S : own_Str Z h x cs) (K : Keep h h' [a]) (E : Exa Z h a C) (w : (Jvm.Cond.instantiable C n).before a0 Z = true) (q : x ≠ a) : own_Str Z h' x cs := by
  obtain ⟨h1, h2, h3, t, kb, h4, h5⟩ := S
  exact ⟨h1, h2.keep K, h3.keep K (ninS q nin0), t, kb, h4.keep K (ninS q nin0), h5.keep K (ninS (Ne.symm (E.neArv h5 w)) nin0)⟩
theorem own_Str.lt {Z : State} {h : Heap} {x : Addr} {cs : List Int32} (S : own_Str Z h x cs) : x < h.size := S.2.1.lt
/-- length() of such a String, at a call -/
theorem own_lenB {p : Program} {l : Launch} {e : Env} {R : Room} {s : State} {args : Array Value} {below : List Frame} {len W : Nat} {Z : State} {a0 : Array Value} {h : Heap} (hZ : Z.Warmed39 s.vm) (hw : ∀ d ∈ tables_1, d.before a0 Z = true) {kI : Nat} (wi : (Jvm.Cond.instantiable "java/lang/String" kI).before a0 Z = true)
    {x : Addr} {cs : List Int32} {z : Int32} (S : own_Str Z h x cs) (C : Sta Z h "java/lang/String" "COMPACT_STRINGS" "Z" (.int z)) (hz : ¬ z = 0) (l2 : cs.length ≤ 4000) (hfr : 2 ≤ R.frames) (hlo : W + 25 ≤ R.locals) :
    Back l R p e below s args (⟨"java/lang/String", "length", "()I"⟩ : MethodName) len W (fun P a => a = #[.ref x] ∧ P.U.heap = h ∧ P.cells + 0 ≤ R.cells ∧ P.slots + 0 ≤ R.slots)
      (fun P _ v B => ∃ L, (v = some (.int (Int32.ofNat cs.length)) ∧ L = [] ∧ B.U.heap = h) ∧ B.locs = P.locs ++ L ∧ B.cells = P.cells + 0 ∧ B.slots = P.slots + 0) := by
  obtain ⟨h1, h2, h3, t, kb, h4, h5⟩ := S
  exact StrChars.Road.lenW hZ (fun d hd => hw d ((by decide +kernel : ∀ d ∈ StrChars.Road.wordsLen, d ∈ tables_1) d hd)) wi h2 h4 h3 h5 (StrChars.Road.codOf rfl (fun x hx => (h1 x hx).2)) (own_up _ h1) C hz l2 hfr hlo
def own_EL : List (String × Nat) := [("com/example/talao/talao/FieldWidthPinLaw", 15), ("java/lang/StringLatin1", 151)]
theorem own_hEL {Z : State} {a0 : Array Value} (hw : ∀ d ∈ tables_1, d.before a0 Z = true) : EW Z a0 own_EL := EW.cons (hw _ (List.mem_of_getElem? (i := 34) rfl)) (by decide) (EW.cons (hw _ (List.mem_of_getElem? (i := 96) rfl)) (by decide) EW.nil)
theorem own_wS {Z : State} {a0 : Array Value} (hw : ∀ d ∈ tables_1, d.before a0 Z = true) : ∀ a ∈ Bundle.stringAtoms, a.before a0 Z = true := fun d hd => hw d ((by decide +kernel : ∀ d ∈ Bundle.stringAtoms, d ∈ tables_1) d hd)
theorem own_t1 : ∀ i n : Fin 9, (Int32.ofNat i.val + Int32.ofNat n.val) - Int32.ofNat i.val = Int32.ofNat n.val := by decide +kernel
theorem own_t2 : ∀ i n : Fin 9, i.val + n.val ≤ 8 → ¬ (Int32.ofNat i.val + Int32.ofNat n.val) < Int32.ofNat i.val := by decide +kernel
theorem own_t3 : ∀ n : Fin 9, ¬ Int32.ofNat n.val < 0 ∧ (Int32.ofNat n.val).toNatClampNeg = n.val := by decide +kernel
theorem own_t4 : ∀ i n : Fin 9, i.val + n.val ≤ 8 → ((8 : Int32) - Int32.ofNat i.val < Int32.ofNat n.val → False) ∧ (¬ Int32.ofNat n.val < (8 : Int32) - Int32.ofNat i.val → (8 : Int32) - Int32.ofNat i.val = Int32.ofNat n.val) := by decide +kernel
theorem own_t5 : ∀ i n : Fin 9, i.val + n.val ≤ 8 → Int32.ofNat i.val = (0 : Int32) → Int32.ofNat i.val + Int32.ofNat n.val = (8 : Int32) → i.val = 0 ∧ n.val = 8 := by decide +kernel
theorem own_t6 : ∀ n : Fin 9, Int32.ofNat n.val = (0 : Int32) → n.val = 0 := by decide +kernel
theorem own_t7 : ∀ i n : Fin 9, i.val + n.val ≤ 8 → ¬ Int32.ofNat i.val < 0 ∧ ¬ Int32.ofNat (i.val + n.val) < Int32.ofNat i.val ∧ ¬ (8 : Int32) < Int32.ofNat (i.val + n.val) ∧ Int32.ofNat (i.val + n.val) - Int32.ofNat i.val = Int32.ofNat n.val ∧ Int32.ofNat i.val + Int32.ofNat n.val = Int32.ofNat (i.val + n.val) ∧ (Int32.ofNat i.val = (0 : Int32) → Int32.ofNat (i.val + n.val) = (8 : Int32) → i.val = 0 ∧ n.val = 8) := by decide +kernel
theorem own_slice (c : Int32) (i n : Nat) (h : i + n ≤ 8) : (List.range n).map (fun j => (((List.replicate 8 c).map (fun c => c.toInt8.toInt32)).map Value.int).getD (i + j) (.int (0 : Int32))) = ((List.replicate n c).map (fun c => c.toInt8.toInt32)).map Value.int := by
  simp only [List.map_replicate]
  apply List.ext_getElem
  · simp
  · intro j h1 h2
    simp only [List.length_map, List.length_range] at h1
    simp only [List.getElem_map, List.getElem_range, List.getElem_replicate, List.getD_eq_getElem?_getD, List.getElem?_replicate]
    rw [if_pos (by omega)]; rfl
theorem own_d0_0 : decode jdk_29_method_69_code 0 = .ok (.iload_n 0, 1) := by decide +kernel
theorem own_d0_1 : decode jdk_29_method_69_code 1 = .ok (.iload_n 1, 1) := by decide +kernel
theorem own_d0_2 : decode jdk_29_method_69_code 2 = .ok (.if_icmp .gt 7, 3) := by decide +kernel
theorem own_d0_9 : decode jdk_29_method_69_code 9 = .ok (.iload_n 1, 1) := by decide +kernel
theorem own_d0_10 : decode jdk_29_method_69_code 10 = .ok (.ireturn, 1) := by decide +kernel
theorem own_d0_5 : decode jdk_29_method_69_code 5 = .ok (.iload_n 0, 1) := by decide +kernel
theorem own_d0_6 : decode jdk_29_method_69_code 6 = .ok (.goto 4, 3) := by decide +kernel
theorem own_efM (m : MethodId) (x0 : Int32) (x1 : Int32) : entryFrame m #[(.int x0), (.int x1)] 2 = mkF m 0 #[.val (.int x0), .val (.int x1)] [] := by first | (simp [entryFrame, mkF, argsToLocals, Value.category]; done) | rfl
abbrev own_QM (Z : State) (p1 p2 r : Int32) (h0 : Heap) (n0 : Nat) : Option Value → Heap → List Loc → Prop := fun v h L => v = some (.int r) ∧ Fr n0 L ∧ h = h0
set_option maxRecDepth 65536 in
set_option maxHeartbeats 40000000 in
theorem own_rmM (l : Launch) (Z : State) (a0 : Array Value) (hw : ∀ d ∈ tables_1, d.before a0 Z = true) (ws : List Jvm.Cond) (p1 p2 r : Int32) (h0 : Heap) (n0 : Nat) (O : Old Z n0 h0) (h1 : p2 < p1 → p2 = r) (h2 : ¬ p2 < p1 → p1 = r) :
    MetFree l (⟨"java/lang/Math", "min", "(II)I"⟩ : MethodName) (head1 (Jvm.Cond.code (⟨"java/lang/Math", "min", "(II)I"⟩ : MethodName) jdk_29_method_69_code 2 (some .int) :: ws) ({ frames := 0, cells := 0, slots := 0, locals := 0 } : Room)) (fun aa U => aa = #[(.int p1), (.int p2)] ∧ Z.Warmed39 U.vm ∧ U.heap = h0) (fun _ _ _ _ _ => True) (fun _ U o U' => ∃ v L, o = .returned v ∧ (own_QM Z p1 p2 r h0 n0) v U'.heap L ∧ FrameEnd U o U' L ({ frames := 0, cells := 0, slots := 0, locals := 0 } : Room).cells ({ frames := 0, cells := 0, slots := 0, locals := 0 } : Room).slots) := by
  refine MetFree.of_bodySF (Jvm.Free.JP.mathPlain rfl (by decide +kernel)) hisR ?_
  intro p e s m args below meth c s₁ Bd hml0 hP hK
  obtain ⟨rfl, hZ, hh⟩ := hP
  have hx := Bd.exec
  have hby := Bd.bytes
  have hml : c.maxLocals = 2 := hml0
  have hown : s.vm.findClass "java/lang/Math" = some m.cls := findClass_of_methodNamed Bd.named
  have hnm := (name_of_methodNamed Bd.named Bd.method).1
  have X0 : Stand p l e ({ frames := 0, cells := 0, slots := 0, locals := 0 } : Room) s m #[(.int p1), (.int p2)] below meth c s₁ [] 0 0 := Stand.of_body Bd
  have e0 : s₁.heap = h0 := by rw [← hh, Bd.state]; rfl
  have N0 := Fr.nil n0
  refine Out.start (Q := own_QM Z p1 p2 r h0 n0) (own_efM m p1 p2 ) ?_
  refine Out.via (g' := (mkF m 1 #[.val (.int p1), .val (.int p2)] [(.int p1)])) (fun _ k => XS.iloadN X0.here hx rfl (hb hby own_d0_0) rfl k) ?_
  refine Out.via (g' := (mkF m 2 #[.val (.int p1), .val (.int p2)] [(.int p2), (.int p1)])) (fun _ k => XS.iloadN X0.here hx rfl (hb hby own_d0_1) rfl k) ?_
  by_cases hc : p2 < p1
  · refine Out.via (g' := (mkF m 9 #[.val (.int p1), .val (.int p2)] [])) (fun _ k => XS.icmpYes X0.here hx rfl (pc0 := 2) (pc' := 9) rfl (hb hby own_d0_2) rfl (tlt hc).2.2.1 (by decide) (by decide) k) ?_
    refine Out.via (g' := (mkF m 10 #[.val (.int p1), .val (.int p2)] [(.int p2)])) (fun _ k => XS.iloadN X0.here hx rfl (hb hby own_d0_9) rfl k) ?_
    obtain rfl := h1 hc
    exact Out.endN X0 (fun h => by rw [Bd.returns] at h; cases h) Bd.notSynchronized (by decide) (by decide) (by rw [e0]; exact ⟨rfl, N0, rfl⟩) (fun fs hr => own_retI X0 hx Bd.returns (hb hby own_d0_10) hr)
  · refine Out.via (g' := (mkF m 5 #[.val (.int p1), .val (.int p2)] [])) (fun _ k => XS.icmpNo X0.here hx rfl (hb hby own_d0_2) rfl (flt hc).2.2.1 k) ?_
    refine Out.via (g' := (mkF m 6 #[.val (.int p1), .val (.int p2)] [(.int p1)])) (fun _ k => XS.iloadN X0.here hx rfl (hb hby own_d0_5) rfl k) ?_
    refine Out.via (g' := (mkF m 10 #[.val (.int p1), .val (.int p2)] [(.int p1)])) (fun _ k => XS.goto X0.here hx rfl (pc0 := 6) (pc' := 10) rfl (hb hby own_d0_6) (by decide) (by decide) k) ?_
    obtain rfl := h2 hc
    exact Out.endN X0 (fun h => by rw [Bd.returns] at h; cases h) Bd.notSynchronized (by decide) (by decide) (by rw [e0]; exact ⟨rfl, N0, rfl⟩) (fun fs hr => own_retI X0 hx Bd.returns (hb hby own_d0_10) hr)
theorem own_pn0 : plainName "java/util/Arrays" = true := by first | (simp [plainName, overriddenIn]; done) | decide +kernel
theorem own_d1_0 : decode jdk_65_method_131_code 0 = .ok (.iload_n 1, 1) := by decide +kernel
theorem own_d1_1 : decode jdk_65_method_131_code 1 = .ok (.iload_n 0, 1) := by decide +kernel
theorem own_d1_2 : decode jdk_65_method_131_code 2 = .ok (.if_icmp .ge 35, 3) := by decide +kernel
theorem own_d1_37 : decode jdk_65_method_131_code 37 = .ok (.return_, 1) := by decide +kernel
theorem own_efCL (m : MethodId) (x0 : Int32) (x1 : Int32) : entryFrame m #[(.int x0), (.int x1)] 2 = mkF m 0 #[.val (.int x0), .val (.int x1)] [] := by first | (simp [entryFrame, mkF, argsToLocals, Value.category]; done) | rfl
abbrev own_QCL (Z : State) (p1 p2 : Int32) (h0 : Heap) (n0 : Nat) : Option Value → Heap → List Loc → Prop := fun v h L => v = none ∧ Fr n0 L ∧ h = h0
set_option maxRecDepth 65536 in
set_option maxHeartbeats 40000000 in
theorem own_rmCL (l : Launch) (Z : State) (a0 : Array Value) (hw : ∀ d ∈ tables_1, d.before a0 Z = true) (ws : List Jvm.Cond) (p1 p2 : Int32) (h0 : Heap) (n0 : Nat) (O : Old Z n0 h0) (h1 : ¬ p2 < p1) :
    MetFree l (⟨"java/util/Arrays", "checkLength", "(II)V"⟩ : MethodName) (head1 (Jvm.Cond.code (⟨"java/util/Arrays", "checkLength", "(II)V"⟩ : MethodName) jdk_65_method_131_code 2 none :: ws) ({ frames := 0, cells := 0, slots := 0, locals := 0 } : Room)) (fun aa U => aa = #[(.int p1), (.int p2)] ∧ Z.Warmed39 U.vm ∧ U.heap = h0) (fun _ _ _ _ _ => True) (fun _ U o U' => ∃ v L, o = .returned v ∧ (own_QCL Z p1 p2 h0 n0) v U'.heap L ∧ FrameEnd U o U' L ({ frames := 0, cells := 0, slots := 0, locals := 0 } : Room).cells ({ frames := 0, cells := 0, slots := 0, locals := 0 } : Room).slots) := by
  refine MetFree.of_bodySF (plainFor_of_name own_pn0) hisR ?_
  intro p e s m args below meth c s₁ Bd hml0 hP hK
  obtain ⟨rfl, hZ, hh⟩ := hP
  have hx := Bd.exec
  have hby := Bd.bytes
  have hml : c.maxLocals = 2 := hml0
  have hown : s.vm.findClass "java/util/Arrays" = some m.cls := findClass_of_methodNamed Bd.named
  have hnm := (name_of_methodNamed Bd.named Bd.method).1
  have X0 : Stand p l e ({ frames := 0, cells := 0, slots := 0, locals := 0 } : Room) s m #[(.int p1), (.int p2)] below meth c s₁ [] 0 0 := Stand.of_body Bd
  have e0 : s₁.heap = h0 := by rw [← hh, Bd.state]; rfl
  have N0 := Fr.nil n0
  refine Out.start (Q := own_QCL Z p1 p2 h0 n0) (own_efCL m p1 p2 ) ?_
  refine Out.via (g' := (mkF m 1 #[.val (.int p1), .val (.int p2)] [(.int p2)])) (fun _ k => XS.iloadN X0.here hx rfl (hb hby own_d1_0) rfl k) ?_
  refine Out.via (g' := (mkF m 2 #[.val (.int p1), .val (.int p2)] [(.int p1), (.int p2)])) (fun _ k => XS.iloadN X0.here hx rfl (hb hby own_d1_1) rfl k) ?_
  refine Out.via (g' := (mkF m 37 #[.val (.int p1), .val (.int p2)] [])) (fun _ k => XS.icmpYes X0.here hx rfl (pc0 := 2) (pc' := 37) rfl (hb hby own_d1_2) rfl (flt h1).2.1 (by decide) (by decide) k) ?_
  exact Out.endN X0 (fun _ => rfl) Bd.notSynchronized (by decide) (by decide) (by rw [e0]; exact ⟨rfl, N0, rfl⟩) (fun fs hr => X0.returnOut hx Bd.returns (hb hby own_d1_37) hr)
theorem own_d2_0 : decode jdk_65_method_133_code 0 = .ok (.iload_n 1, 1) := by decide +kernel
theorem own_d2_1 : decode jdk_65_method_133_code 1 = .ok (.iload_n 2, 1) := by decide +kernel
theorem own_d2_2 : decode jdk_65_method_133_code 2 = .ok (.invokestatic 343, 3) := by decide +kernel
theorem own_pd1 : parseMethodDescriptor "(II)V" = some ⟨[.int, .int], none⟩ := by decide +kernel
theorem own_d2_5 : decode jdk_65_method_133_code 5 = .ok (.iload_n 2, 1) := by decide +kernel
theorem own_d2_6 : decode jdk_65_method_133_code 6 = .ok (.iload_n 1, 1) := by decide +kernel
theorem own_d2_7 : decode jdk_65_method_133_code 7 = .ok (.isub, 1) := by decide +kernel
theorem own_d2_8 : decode jdk_65_method_133_code 8 = .ok (.istore_n 3, 1) := by decide +kernel
theorem own_d2_9 : decode jdk_65_method_133_code 9 = .ok (.iload_n 3, 1) := by decide +kernel
theorem own_d2_10 : decode jdk_65_method_133_code 10 = .ok (.newarray .byte, 2) := by decide +kernel
theorem own_d2_12 : decode jdk_65_method_133_code 12 = .ok (.astore 4, 2) := by decide +kernel
theorem own_d2_14 : decode jdk_65_method_133_code 14 = .ok (.aload_n 0, 1) := by decide +kernel
theorem own_d2_15 : decode jdk_65_method_133_code 15 = .ok (.iload_n 1, 1) := by decide +kernel
theorem own_d2_16 : decode jdk_65_method_133_code 16 = .ok (.aload 4, 2) := by decide +kernel
theorem own_d2_18 : decode jdk_65_method_133_code 18 = .ok (.iconst 0, 1) := by decide +kernel
theorem own_d2_19 : decode jdk_65_method_133_code 19 = .ok (.aload_n 0, 1) := by decide +kernel
theorem own_d2_20 : decode jdk_65_method_133_code 20 = .ok (.arraylength, 1) := by decide +kernel
theorem own_d2_21 : decode jdk_65_method_133_code 21 = .ok (.iload_n 1, 1) := by decide +kernel
theorem own_d2_22 : decode jdk_65_method_133_code 22 = .ok (.isub, 1) := by decide +kernel
theorem own_d2_23 : decode jdk_65_method_133_code 23 = .ok (.iload_n 3, 1) := by decide +kernel
theorem own_d2_24 : decode jdk_65_method_133_code 24 = .ok (.invokestatic 304, 3) := by decide +kernel
theorem own_pd2 : parseMethodDescriptor "(II)I" = some ⟨[.int, .int], some .int⟩ := by decide +kernel
theorem own_d2_27 : decode jdk_65_method_133_code 27 = .ok (.invokestatic 150, 3) := by decide +kernel
theorem own_d2_30 : decode jdk_65_method_133_code 30 = .ok (.aload 4, 2) := by decide +kernel
theorem own_d2_32 : decode jdk_65_method_133_code 32 = .ok (.areturn, 1) := by decide +kernel
theorem own_efCB (m : MethodId) (x0 : Addr) (x1 : Int32) (x2 : Int32) : entryFrame m #[(.ref x0), (.int x1), (.int x2)] 5 = mkF m 0 #[.val (.ref x0), .val (.int x1), .val (.int x2), .unset, .unset] [] := by first | (simp [entryFrame, mkF, argsToLocals, Value.category]; done) | rfl
abbrev own_QCB (Z : State) (t : Addr) (kt : ClassId) (ch : Int32) (i n : Nat) (h0 : Heap) (n0 : Nat) : Option Value → Heap → List Loc → Prop := fun v h L => ∃ (b : Addr) (k : ClassId), v = some (.ref b) ∧ Fr n0 L ∧ Keep h0 h [] ∧ h0.size ≤ b ∧ Arv Z h b k .byte (Int32.ofNat n) (((List.replicate n ch).map (fun c => c.toInt8.toInt32)).map Value.int) (.int (0 : Int32))
set_option maxRecDepth 65536 in
set_option maxHeartbeats 40000000 in
theorem own_rmCB (l : Launch) (Z : State) (a0 : Array Value) (hw : ∀ d ∈ tables_1, d.before a0 Z = true) (ws : List Jvm.Cond) (t : Addr) (kt : ClassId) (ch : Int32) (i n : Nat) (h0 : Heap) (n0 : Nat) (O : Old Z n0 h0) (hin : i + n ≤ 8) (At : Arv Z h0 t kt .byte (8 : Int32) (((List.replicate 8 ch).map (fun c => c.toInt8.toInt32)).map Value.int) (.int (0 : Int32))) :
    MetFree l (⟨"java/util/Arrays", "copyOfRangeByte", "([BII)[B"⟩ : MethodName) (head1 (Jvm.Cond.code (⟨"java/util/Arrays", "copyOfRangeByte", "([BII)[B"⟩ : MethodName) jdk_65_method_133_code 5 (some (.array .byte)) :: ws) ({ frames := 1, cells := 1, slots := 8, locals := 40 } : Room)) (fun aa U => aa = #[(.ref t), (.int (Int32.ofNat i)), (.int ((Int32.ofNat i) + (Int32.ofNat n)))] ∧ Z.Warmed39 U.vm ∧ U.heap = h0) (fun _ _ _ _ _ => True) (fun _ U o U' => ∃ v L, o = .returned v ∧ (own_QCB Z t kt ch i n h0 n0) v U'.heap L ∧ FrameEnd U o U' L ({ frames := 1, cells := 1, slots := 8, locals := 40 } : Room).cells ({ frames := 1, cells := 1, slots := 8, locals := 40 } : Room).slots) := by
  refine MetFree.of_bodySF (plainFor_of_name own_pn0) hisR ?_
  intro p e s m args below meth c s₁ Bd hml0 hP hK
  obtain ⟨rfl, hZ, hh⟩ := hP
  have hx := Bd.exec
  have hby := Bd.bytes
  have hml : c.maxLocals = 5 := hml0
  have hown : s.vm.findClass "java/util/Arrays" = some m.cls := findClass_of_methodNamed Bd.named
  have hnm := (name_of_methodNamed Bd.named Bd.method).1
  have X0 : Stand p l e ({ frames := 1, cells := 1, slots := 8, locals := 40 } : Room) s m #[(.ref t), (.int (Int32.ofNat i)), (.int ((Int32.ofNat i) + (Int32.ofNat n)))] below meth c s₁ [] 0 0 := Stand.of_body Bd
  have e0 : s₁.heap = h0 := by rw [← hh, Bd.state]; rfl
  have N0 := Fr.nil n0
  refine Out.start (Q := own_QCB Z t kt ch i n h0 n0) (own_efCB m t (Int32.ofNat i) ((Int32.ofNat i) + (Int32.ofNat n))) ?_
  have Kp := Keep.refl h0 []
  have ft3 := own_t3 ⟨n, by omega⟩
  have fi3 := own_t3 ⟨i, by omega⟩
  refine Out.via (g' := (mkF m 1 #[.val (.ref t), .val (.int (Int32.ofNat i)), .val (.int ((Int32.ofNat i) + (Int32.ofNat n))), .unset, .unset] [(.int (Int32.ofNat i))])) (fun _ k => XS.iloadN X0.here hx rfl (hb hby own_d2_0) rfl k) ?_
  refine Out.via (g' := (mkF m 2 #[.val (.ref t), .val (.int (Int32.ofNat i)), .val (.int ((Int32.ofNat i) + (Int32.ofNat n))), .unset, .unset] [(.int ((Int32.ofNat i) + (Int32.ofNat n))), (.int (Int32.ofNat i))])) (fun _ k => XS.iloadN X0.here hx rfl (hb hby own_d2_1) rfl k) ?_
  obtain ⟨_, _, ⟨T1, L1, kc1, ks1⟩, -, X1, ⟨Lc1, hQ1, l1, y1, z1⟩, st1⟩ := Jvm.LawKit.callS X0 hx (y := (⟨"java/util/Arrays", "checkLength", "(II)V"⟩ : MethodName)) hown (mvT hZ (hw _ (List.mem_of_getElem? (i := 113) rfl))) (mvT hZ (hw _ (List.mem_of_getElem? (i := 114) rfl))) (mvT hZ (hw _ (List.mem_of_getElem? (i := 108) rfl))) (mvT hZ (hw _ (List.mem_of_getElem? (i := 115) rfl))) (by decide) (backOf (W := 0) (own_rmCL l Z a0 hw [] (Int32.ofNat i) ((Int32.ofNat i) + (Int32.ofNat n)) h0 n0 O (own_t2 ⟨i, by omega⟩ ⟨n, by omega⟩ hin)) hZ (hw _ (List.mem_of_getElem? (i := 115) rfl)) (hw _ (List.mem_of_getElem? (i := 108) rfl)) (by decide) (by decide)) (g := (mkF m 2 #[.val (.ref t), .val (.int (Int32.ofNat i)), .val (.int ((Int32.ofNat i) + (Int32.ofNat n))), .unset, .unset] [(.int ((Int32.ofNat i) + (Int32.ofNat n))), (.int (Int32.ofNat i))])) rfl (by rw [hml]; rfl) (argsL := [(.int (Int32.ofNat i)), (.int ((Int32.ofNat i) + (Int32.ofNat n)))]) (rest := []) (lenOf own_pd1 rfl) rfl (by show 2 * 0 + _ ≤ _; exact Nat.le_of_eq rfl) (hb hby own_d2_2) (fun _ _ => ⟨rfl, e0, (by decide : 0 + 0 ≤ _), (by decide : 0 + 0 ≤ _)⟩)
  dsimp only [Pt.U, Pt.locs, Pt.cells, Pt.slots] at X1 l1 y1 z1 st1 hQ1
  subst l1 y1 z1
  obtain ⟨rfl, Nq1, eq1⟩ := hQ1
  replace N0 := Fr.app N0 Nq1
  refine Out.via (g' := (mkF m 5 #[.val (.ref t), .val (.int (Int32.ofNat i)), .val (.int ((Int32.ofNat i) + (Int32.ofNat n))), .unset, .unset] [])) st1 ?_
  refine Out.via (g' := (mkF m 6 #[.val (.ref t), .val (.int (Int32.ofNat i)), .val (.int ((Int32.ofNat i) + (Int32.ofNat n))), .unset, .unset] [(.int ((Int32.ofNat i) + (Int32.ofNat n)))])) (fun _ k => XS.iloadN X1.here hx rfl (hb hby own_d2_5) rfl k) ?_
  refine Out.via (g' := (mkF m 7 #[.val (.ref t), .val (.int (Int32.ofNat i)), .val (.int ((Int32.ofNat i) + (Int32.ofNat n))), .unset, .unset] [(.int (Int32.ofNat i)), (.int ((Int32.ofNat i) + (Int32.ofNat n)))])) (fun _ k => XS.iloadN X1.here hx rfl (hb hby own_d2_6) rfl k) ?_
  refine Out.via (g' := (mkF m 8 #[.val (.ref t), .val (.int (Int32.ofNat i)), .val (.int ((Int32.ofNat i) + (Int32.ofNat n))), .unset, .unset] [(.int (((Int32.ofNat i) + (Int32.ofNat n)) - (Int32.ofNat i)))])) (fun _ k => XS.isub X1.here hx rfl (hb hby own_d2_7) rfl k) ?_
  refine Out.via (g' := (mkF m 9 #[.val (.ref t), .val (.int (Int32.ofNat i)), .val (.int ((Int32.ofNat i) + (Int32.ofNat n))), .val (.int (((Int32.ofNat i) + (Int32.ofNat n)) - (Int32.ofNat i))), .unset] [])) (fun _ k => XS.istoreN X1.here hx rfl (hb hby own_d2_8) rfl (l' := #[.val (.ref t), .val (.int (Int32.ofNat i)), .val (.int ((Int32.ofNat i) + (Int32.ofNat n))), .val (.int (((Int32.ofNat i) + (Int32.ofNat n)) - (Int32.ofNat i))), .unset]) rfl k) ?_
  rw [own_t1 ⟨i, by omega⟩ ⟨n, by omega⟩]
  show RoadKit.Out p.tables e below _ T1 (mkF m 9 #[.val (.ref t), .val (.int (Int32.ofNat i)), .val (.int ((Int32.ofNat i) + (Int32.ofNat n))), .val (.int (Int32.ofNat n)), .unset] [])
  refine Out.via (g' := (mkF m 10 #[.val (.ref t), .val (.int (Int32.ofNat i)), .val (.int ((Int32.ofNat i) + (Int32.ofNat n))), .val (.int (Int32.ofNat n)), .unset] [(.int (Int32.ofNat n))])) (fun _ k => XS.iloadN X1.here hx rfl (hb hby own_d2_9) rfl k) ?_
  obtain ⟨T2, h2, kA2, X2, e2, E2, A2, st2⟩ := newP X1 hx hZ (hw _ (List.mem_of_getElem? (i := 20) rfl)) eq1 (g := (mkF m 10 #[.val (.ref t), .val (.int (Int32.ofNat i)), .val (.int ((Int32.ofNat i) + (Int32.ofNat n))), .val (.int (Int32.ofNat n)), .unset] [(.int (Int32.ofNat n))])) rfl (hb hby own_d2_10) rfl ft3.1 (cap := 8) (by rw [ft3.2]; show n ≤ 8; omega) (by decide) (by decide) (by decide)
  obtain ⟨b, gq2⟩ : ∃ z, z = h0.size := ⟨_, rfl⟩
  rw [← gq2] at A2 st2
  have ne_t_b : t ≠ b := Nat.ne_of_lt (Nat.lt_of_lt_of_le At.lt (Nat.le_of_eq gq2.symm))
  have g_b : n0 ≤ b := Nat.le_trans (own_z0 O) (Nat.le_of_eq gq2.symm)
  have sz_b : h0.size ≤ b := Nat.le_trans Kp.1 (Nat.le_of_eq gq2.symm)
  replace At := At.ext E2
  replace O := O.ext E2
  replace Kp := Kp.ext E2
  have V_b := (Arv.new A2 ft3.1).pad (pad_rep [] (.int (0 : Int32)) n)
  refine Out.via (g' := (mkF m 12 #[.val (.ref t), .val (.int (Int32.ofNat i)), .val (.int ((Int32.ofNat i) + (Int32.ofNat n))), .val (.int (Int32.ofNat n)), .unset] [(.ref b)])) st2 ?_
  refine Out.via (g' := (mkF m 14 #[.val (.ref t), .val (.int (Int32.ofNat i)), .val (.int ((Int32.ofNat i) + (Int32.ofNat n))), .val (.int (Int32.ofNat n)), .val (.ref b)] [])) (fun _ k => XS.astore X2.here hx rfl (hb hby own_d2_12) rfl rfl (l' := #[.val (.ref t), .val (.int (Int32.ofNat i)), .val (.int ((Int32.ofNat i) + (Int32.ofNat n))), .val (.int (Int32.ofNat n)), .val (.ref b)]) rfl k) ?_
  refine Out.via (g' := (mkF m 15 #[.val (.ref t), .val (.int (Int32.ofNat i)), .val (.int ((Int32.ofNat i) + (Int32.ofNat n))), .val (.int (Int32.ofNat n)), .val (.ref b)] [(.ref t)])) (fun _ k => XS.aloadN X2.here hx rfl (hb hby own_d2_14) rfl rfl k) ?_
  refine Out.via (g' := (mkF m 16 #[.val (.ref t), .val (.int (Int32.ofNat i)), .val (.int ((Int32.ofNat i) + (Int32.ofNat n))), .val (.int (Int32.ofNat n)), .val (.ref b)] [(.int (Int32.ofNat i)), (.ref t)])) (fun _ k => XS.iloadN X2.here hx rfl (hb hby own_d2_15) rfl k) ?_
  refine Out.via (g' := (mkF m 18 #[.val (.ref t), .val (.int (Int32.ofNat i)), .val (.int ((Int32.ofNat i) + (Int32.ofNat n))), .val (.int (Int32.ofNat n)), .val (.ref b)] [(.ref b), (.int (Int32.ofNat i)), (.ref t)])) (fun _ k => XS.aload X2.here hx rfl (hb hby own_d2_16) rfl rfl k) ?_
  refine Out.via (g' := (mkF m 19 #[.val (.ref t), .val (.int (Int32.ofNat i)), .val (.int ((Int32.ofNat i) + (Int32.ofNat n))), .val (.int (Int32.ofNat n)), .val (.ref b)] [(.int (0 : Int32)), (.ref b), (.int (Int32.ofNat i)), (.ref t)])) (fun _ k => XS.iconst X2.here hx rfl (hb hby own_d2_18) k) ?_
  refine Out.via (g' := (mkF m 20 #[.val (.ref t), .val (.int (Int32.ofNat i)), .val (.int ((Int32.ofNat i) + (Int32.ofNat n))), .val (.int (Int32.ofNat n)), .val (.ref b)] [(.ref t), (.int (0 : Int32)), (.ref b), (.int (Int32.ofNat i)), (.ref t)])) (fun _ k => XS.aloadN X2.here hx rfl (hb hby own_d2_19) rfl rfl k) ?_
  obtain ⟨cl_t, Ar_t, q_t, S_t, M_t, H_t, G_t⟩ := id At
  refine Out.via (g' := (mkF m 21 #[.val (.ref t), .val (.int (Int32.ofNat i)), .val (.int ((Int32.ofNat i) + (Int32.ofNat n))), .val (.int (Int32.ofNat n)), .val (.ref b)] [(.int cl_t.slots.size.toInt32), (.int (0 : Int32)), (.ref b), (.int (Int32.ofNat i)), (.ref t)])) (fun _ k => X2.arraylength hx (by rw [e2]; exact Ar_t.1) (State.isArrayOf_alike hZ.alike Ar_t.2.1) (g := (mkF m 20 #[.val (.ref t), .val (.int (Int32.ofNat i)), .val (.int ((Int32.ofNat i) + (Int32.ofNat n))), .val (.int (Int32.ofNat n)), .val (.ref b)] [(.ref t), (.int (0 : Int32)), (.ref b), (.int (Int32.ofNat i)), (.ref t)])) rfl rfl (hb hby own_d2_20) _ k) ?_
  rw [len_of S_t M_t]
  refine Out.via (g' := (mkF m 22 #[.val (.ref t), .val (.int (Int32.ofNat i)), .val (.int ((Int32.ofNat i) + (Int32.ofNat n))), .val (.int (Int32.ofNat n)), .val (.ref b)] [(.int (Int32.ofNat i)), (.int (8 : Int32)), (.int (0 : Int32)), (.ref b), (.int (Int32.ofNat i)), (.ref t)])) (fun _ k => XS.iloadN X2.here hx rfl (hb hby own_d2_21) rfl k) ?_
  refine Out.via (g' := (mkF m 23 #[.val (.ref t), .val (.int (Int32.ofNat i)), .val (.int ((Int32.ofNat i) + (Int32.ofNat n))), .val (.int (Int32.ofNat n)), .val (.ref b)] [(.int ((8 : Int32) - (Int32.ofNat i))), (.int (0 : Int32)), (.ref b), (.int (Int32.ofNat i)), (.ref t)])) (fun _ k => XS.isub X2.here hx rfl (hb hby own_d2_22) rfl k) ?_
  refine Out.via (g' := (mkF m 24 #[.val (.ref t), .val (.int (Int32.ofNat i)), .val (.int ((Int32.ofNat i) + (Int32.ofNat n))), .val (.int (Int32.ofNat n)), .val (.ref b)] [(.int (Int32.ofNat n)), (.int ((8 : Int32) - (Int32.ofNat i))), (.int (0 : Int32)), (.ref b), (.int (Int32.ofNat i)), (.ref t)])) (fun _ k => XS.iloadN X2.here hx rfl (hb hby own_d2_23) rfl k) ?_
  obtain ⟨_, _, ⟨T3, L3, kc3, ks3⟩, -, X3, ⟨Lc3, hQ3, l3, y3, z3⟩, st3⟩ := Jvm.LawKit.callS X2 hx (y := (⟨"java/lang/Math", "min", "(II)I"⟩ : MethodName)) hown (mvT hZ (hw _ (List.mem_of_getElem? (i := 116) rfl))) (mvT hZ (hw _ (List.mem_of_getElem? (i := 117) rfl))) (mvT hZ (hw _ (List.mem_of_getElem? (i := 118) rfl))) (mvT hZ (hw _ (List.mem_of_getElem? (i := 119) rfl))) (by decide) (backOf (W := 4) (own_rmM l Z a0 hw [] ((8 : Int32) - (Int32.ofNat i)) (Int32.ofNat n) (Int32.ofNat n) h2 n0 O (fun _ => rfl) (own_t4 ⟨i, by omega⟩ ⟨n, by omega⟩ hin).2) hZ (hw _ (List.mem_of_getElem? (i := 119) rfl)) (hw _ (List.mem_of_getElem? (i := 118) rfl)) (by decide) (by decide)) (g := (mkF m 24 #[.val (.ref t), .val (.int (Int32.ofNat i)), .val (.int ((Int32.ofNat i) + (Int32.ofNat n))), .val (.int (Int32.ofNat n)), .val (.ref b)] [(.int (Int32.ofNat n)), (.int ((8 : Int32) - (Int32.ofNat i))), (.int (0 : Int32)), (.ref b), (.int (Int32.ofNat i)), (.ref t)])) rfl (by rw [hml]; rfl) (argsL := [(.int ((8 : Int32) - (Int32.ofNat i))), (.int (Int32.ofNat n))]) (rest := [(.int (0 : Int32)), (.ref b), (.int (Int32.ofNat i)), (.ref t)]) (lenOf own_pd2 rfl) rfl (by show 2 * 0 + _ ≤ _; exact Nat.le_of_eq rfl) (hb hby own_d2_24) (fun _ _ => ⟨rfl, e2, (by decide : 1 + 0 ≤ _), (by decide : 8 + 0 ≤ _)⟩)
  dsimp only [Pt.U, Pt.locs, Pt.cells, Pt.slots] at X3 l3 y3 z3 st3 hQ3
  subst l3 y3 z3
  obtain ⟨rfl, Nq3, eq3⟩ := hQ3
  replace N0 := Fr.app N0 Nq3
  refine Out.via (g' := (mkF m 27 #[.val (.ref t), .val (.int (Int32.ofNat i)), .val (.int ((Int32.ofNat i) + (Int32.ofNat n))), .val (.int (Int32.ofNat n)), .val (.ref b)] [(.int (Int32.ofNat n)), (.int (0 : Int32)), (.ref b), (.int (Int32.ofNat i)), (.ref t)])) st3 ?_
  obtain ⟨T9, h9, L9, X9, e9, N9, K9, A9, st9⟩ := cpA X3 hx hZ hown (hw _ (List.mem_of_getElem? (i := 120) rfl)) (hw _ (List.mem_of_getElem? (i := 123) rfl)) (hw _ (List.mem_of_getElem? (i := 121) rfl)) (hw _ (List.mem_of_getElem? (i := 122) rfl)) eq3 (a := t) (b := b) (sp := (Int32.ofNat i)) (dp := (0 : Int32)) (nn := (Int32.ofNat n)) At V_b (Or.inl ⟨rfl, rfl⟩) fi3.1 (by decide) ft3.1 (by rw [fi3.2, ft3.2]; show i + n ≤ 8; exact hin) (by show 0 + _ ≤ _; omega) rfl (by rw [ft3.2]; simp) N0 g_b (g := (mkF m 27 #[.val (.ref t), .val (.int (Int32.ofNat i)), .val (.int ((Int32.ofNat i) + (Int32.ofNat n))), .val (.int (Int32.ofNat n)), .val (.ref b)] [(.int (Int32.ofNat n)), (.int (0 : Int32)), (.ref b), (.int (Int32.ofNat i)), (.ref t)])) rfl (by rw [hml]; rfl) rfl (hb hby own_d2_27) (by decide) (W := 0) (by show 2 * 0 + _ ≤ _; exact Nat.le_of_eq rfl) (by decide)
  rw [fi3.2, ft3.2] at A9
  have hv : List.take (0 : Int32).toNatClampNeg ([] ++ List.replicate n (Value.int (0 : Int32))) ++ (List.range n).map (fun j => (((List.replicate 8 ch).map (fun c => c.toInt8.toInt32)).map Value.int).getD (i + j) (.int (0 : Int32))) ++ List.drop ((0 : Int32).toNatClampNeg + n) ([] ++ List.replicate n (Value.int (0 : Int32))) = ((List.replicate n ch).map (fun c => c.toInt8.toInt32)).map Value.int := by
    rw [own_slice ch i n hin]
    show [] ++ _ ++ List.drop (0 + n) _ = _
    simp
  rw [hv] at A9
  replace Kp := Kp.trans K9 (allS (Or.inr sz_b) all0)
  refine Out.via (g' := (mkF m 30 #[.val (.ref t), .val (.int (Int32.ofNat i)), .val (.int ((Int32.ofNat i) + (Int32.ofNat n))), .val (.int (Int32.ofNat n)), .val (.ref b)] [])) st9 ?_
  refine Out.via (g' := (mkF m 32 #[.val (.ref t), .val (.int (Int32.ofNat i)), .val (.int ((Int32.ofNat i) + (Int32.ofNat n))), .val (.int (Int32.ofNat n)), .val (.ref b)] [(.ref b)])) (fun _ k => XS.aload X9.here hx rfl (hb hby own_d2_30) rfl rfl k) ?_
  exact Out.endN X9 (fun h => by rw [Bd.returns] at h; cases h) Bd.notSynchronized (by decide) (by decide) (by rw [e9]; exact ⟨b, _, rfl, N9, Kp, sz_b, A9⟩) (fun fs hr => own_retR X9 hx (t := (.array .byte)) Bd.returns rfl rfl rfl (hb hby own_d2_32) hr)
theorem own_d3_0 : decode jdk_65_method_132_code 0 = .ok (.iload_n 1, 1) := by decide +kernel
theorem own_d3_1 : decode jdk_65_method_132_code 1 = .ok (.ifCond .ne 9, 3) := by decide +kernel
theorem own_d3_4 : decode jdk_65_method_132_code 4 = .ok (.iload_n 2, 1) := by decide +kernel
theorem own_d3_5 : decode jdk_65_method_132_code 5 = .ok (.aload_n 0, 1) := by decide +kernel
theorem own_d3_6 : decode jdk_65_method_132_code 6 = .ok (.arraylength, 1) := by decide +kernel
theorem own_d3_7 : decode jdk_65_method_132_code 7 = .ok (.if_icmp .eq 10, 3) := by decide +kernel
theorem own_d3_10 : decode jdk_65_method_132_code 10 = .ok (.aload_n 0, 1) := by decide +kernel
theorem own_d3_11 : decode jdk_65_method_132_code 11 = .ok (.iload_n 1, 1) := by decide +kernel
theorem own_d3_12 : decode jdk_65_method_132_code 12 = .ok (.iload_n 2, 1) := by decide +kernel
theorem own_d3_13 : decode jdk_65_method_132_code 13 = .ok (.invokestatic 339, 3) := by decide +kernel
theorem own_pd3 : parseMethodDescriptor "([BII)[B" = some ⟨[(.array .byte), .int, .int], some (.array .byte)⟩ := by decide +kernel
theorem own_d3_16 : decode jdk_65_method_132_code 16 = .ok (.areturn, 1) := by decide +kernel
theorem own_efCR (m : MethodId) (x0 : Addr) (x1 : Int32) (x2 : Int32) : entryFrame m #[(.ref x0), (.int x1), (.int x2)] 3 = mkF m 0 #[.val (.ref x0), .val (.int x1), .val (.int x2)] [] := by first | (simp [entryFrame, mkF, argsToLocals, Value.category]; done) | rfl
abbrev own_QCR (Z : State) (t : Addr) (kt : ClassId) (ch : Int32) (i n : Nat) (h0 : Heap) (n0 : Nat) : Option Value → Heap → List Loc → Prop := fun v h L => ∃ (b : Addr) (k : ClassId), v = some (.ref b) ∧ Fr n0 L ∧ Keep h0 h [] ∧ h0.size ≤ b ∧ Arv Z h b k .byte (Int32.ofNat n) (((List.replicate n ch).map (fun c => c.toInt8.toInt32)).map Value.int) (.int (0 : Int32))
set_option maxRecDepth 65536 in
set_option maxHeartbeats 40000000 in
theorem own_rmCR (l : Launch) (Z : State) (a0 : Array Value) (hw : ∀ d ∈ tables_1, d.before a0 Z = true) (ws : List Jvm.Cond) (t : Addr) (kt : ClassId) (ch : Int32) (i n : Nat) (h0 : Heap) (n0 : Nat) (O : Old Z n0 h0) (hin : i + n ≤ 8) (At : Arv Z h0 t kt .byte (8 : Int32) (((List.replicate 8 ch).map (fun c => c.toInt8.toInt32)).map Value.int) (.int (0 : Int32))) (hnf : ¬ (i = 0 ∧ n = 8)) :
    MetFree l (⟨"java/util/Arrays", "copyOfRange", "([BII)[B"⟩ : MethodName) (head1 (Jvm.Cond.code (⟨"java/util/Arrays", "copyOfRange", "([BII)[B"⟩ : MethodName) jdk_65_method_132_code 3 (some (.array .byte)) :: ws) ({ frames := 2, cells := 1, slots := 8, locals := 56 } : Room)) (fun aa U => aa = #[(.ref t), (.int (Int32.ofNat i)), (.int ((Int32.ofNat i) + (Int32.ofNat n)))] ∧ Z.Warmed39 U.vm ∧ U.heap = h0) (fun _ _ _ _ _ => True) (fun _ U o U' => ∃ v L, o = .returned v ∧ (own_QCR Z t kt ch i n h0 n0) v U'.heap L ∧ FrameEnd U o U' L ({ frames := 2, cells := 1, slots := 8, locals := 56 } : Room).cells ({ frames := 2, cells := 1, slots := 8, locals := 56 } : Room).slots) := by
  refine MetFree.of_bodySF (plainFor_of_name own_pn0) hisR ?_
  intro p e s m args below meth c s₁ Bd hml0 hP hK
  obtain ⟨rfl, hZ, hh⟩ := hP
  have hx := Bd.exec
  have hby := Bd.bytes
  have hml : c.maxLocals = 3 := hml0
  have hown : s.vm.findClass "java/util/Arrays" = some m.cls := findClass_of_methodNamed Bd.named
  have hnm := (name_of_methodNamed Bd.named Bd.method).1
  have X0 : Stand p l e ({ frames := 2, cells := 1, slots := 8, locals := 56 } : Room) s m #[(.ref t), (.int (Int32.ofNat i)), (.int ((Int32.ofNat i) + (Int32.ofNat n)))] below meth c s₁ [] 0 0 := Stand.of_body Bd
  have e0 : s₁.heap = h0 := by rw [← hh, Bd.state]; rfl
  have N0 := Fr.nil n0
  refine Out.start (Q := own_QCR Z t kt ch i n h0 n0) (own_efCR m t (Int32.ofNat i) ((Int32.ofNat i) + (Int32.ofNat n)) ) ?_
  obtain ⟨cl_t, Ar_t, q_t, S_t, M_t, H_t, G_t⟩ := id At
  refine Out.via (g' := (mkF m 1 #[.val (.ref t), .val (.int (Int32.ofNat i)), .val (.int ((Int32.ofNat i) + (Int32.ofNat n)))] [(.int (Int32.ofNat i))])) (fun _ k => XS.iloadN X0.here hx rfl (hb hby own_d3_0) rfl k) ?_
  suffices rest : RoadKit.Out p.tables e below (End s below (fun v h L => ∃ (b : Addr) (k : ClassId), v = some (.ref b) ∧ Fr n0 L ∧ Keep h0 h [] ∧ h0.size ≤ b ∧ Arv Z h b k .byte (Int32.ofNat n) (((List.replicate n ch).map (fun c => c.toInt8.toInt32)).map Value.int) (.int (0 : Int32))) ({ frames := 2, cells := 1, slots := 8, locals := 56 } : Room).cells ({ frames := 2, cells := 1, slots := 8, locals := 56 } : Room).slots) s₁ (mkF m 10 #[.val (.ref t), .val (.int (Int32.ofNat i)), .val (.int ((Int32.ofNat i) + (Int32.ofNat n)))] []) by
    by_cases hz : (Int32.ofNat i) = (0 : Int32)
    · refine Out.via (g' := (mkF m 4 #[.val (.ref t), .val (.int (Int32.ofNat i)), .val (.int ((Int32.ofNat i) + (Int32.ofNat n)))] [])) (fun _ k => XS.ifNo X0.here hx rfl (hb hby own_d3_1) rfl ((if0 _ _).trans (teq hz).2) k) ?_
      refine Out.via (g' := (mkF m 5 #[.val (.ref t), .val (.int (Int32.ofNat i)), .val (.int ((Int32.ofNat i) + (Int32.ofNat n)))] [(.int ((Int32.ofNat i) + (Int32.ofNat n)))])) (fun _ k => XS.iloadN X0.here hx rfl (hb hby own_d3_4) rfl k) ?_
      refine Out.via (g' := (mkF m 6 #[.val (.ref t), .val (.int (Int32.ofNat i)), .val (.int ((Int32.ofNat i) + (Int32.ofNat n)))] [(.ref t), (.int ((Int32.ofNat i) + (Int32.ofNat n)))])) (fun _ k => XS.aloadN X0.here hx rfl (hb hby own_d3_5) rfl rfl k) ?_
      refine Out.via (g' := (mkF m 7 #[.val (.ref t), .val (.int (Int32.ofNat i)), .val (.int ((Int32.ofNat i) + (Int32.ofNat n)))] [(.int cl_t.slots.size.toInt32), (.int ((Int32.ofNat i) + (Int32.ofNat n)))])) (fun _ k => X0.arraylength hx (by rw [e0]; exact Ar_t.1) (State.isArrayOf_alike hZ.alike Ar_t.2.1) (g := (mkF m 6 #[.val (.ref t), .val (.int (Int32.ofNat i)), .val (.int ((Int32.ofNat i) + (Int32.ofNat n)))] [(.ref t), (.int ((Int32.ofNat i) + (Int32.ofNat n)))])) rfl rfl (hb hby own_d3_6) _ k) ?_
      rw [len_of S_t M_t]
      refine Out.via (g' := (mkF m 10 #[.val (.ref t), .val (.int (Int32.ofNat i)), .val (.int ((Int32.ofNat i) + (Int32.ofNat n)))] [])) (fun _ k => XS.icmpNo X0.here hx rfl (hb hby own_d3_7) rfl (feq (fun q => hnf (own_t5 ⟨i, by omega⟩ ⟨n, by omega⟩ hin hz q))).1 k) ?_
      exact rest
    · refine Out.via (g' := (mkF m 10 #[.val (.ref t), .val (.int (Int32.ofNat i)), .val (.int ((Int32.ofNat i) + (Int32.ofNat n)))] [])) (fun _ k => XS.ifYes X0.here hx rfl (pc0 := 1) (pc' := 10) rfl (hb hby own_d3_1) rfl ((if0 _ _).trans (feq hz).2) (by decide) (by decide) k) ?_
      exact rest
  refine Out.via (g' := (mkF m 11 #[.val (.ref t), .val (.int (Int32.ofNat i)), .val (.int ((Int32.ofNat i) + (Int32.ofNat n)))] [(.ref t)])) (fun _ k => XS.aloadN X0.here hx rfl (hb hby own_d3_10) rfl rfl k) ?_
  refine Out.via (g' := (mkF m 12 #[.val (.ref t), .val (.int (Int32.ofNat i)), .val (.int ((Int32.ofNat i) + (Int32.ofNat n)))] [(.int (Int32.ofNat i)), (.ref t)])) (fun _ k => XS.iloadN X0.here hx rfl (hb hby own_d3_11) rfl k) ?_
  refine Out.via (g' := (mkF m 13 #[.val (.ref t), .val (.int (Int32.ofNat i)), .val (.int ((Int32.ofNat i) + (Int32.ofNat n)))] [(.int ((Int32.ofNat i) + (Int32.ofNat n))), (.int (Int32.ofNat i)), (.ref t)])) (fun _ k => XS.iloadN X0.here hx rfl (hb hby own_d3_12) rfl k) ?_
  obtain ⟨_, _, ⟨T1, L1, kc1, ks1⟩, -, X1, ⟨Lc1, hQ1, l1, y1, z1⟩, st1⟩ := Jvm.LawKit.callS X0 hx (y := (⟨"java/util/Arrays", "copyOfRangeByte", "([BII)[B"⟩ : MethodName)) hown (mvT hZ (hw _ (List.mem_of_getElem? (i := 110) rfl))) (mvT hZ (hw _ (List.mem_of_getElem? (i := 111) rfl))) (mvT hZ (hw _ (List.mem_of_getElem? (i := 108) rfl))) (mvT hZ (hw _ (List.mem_of_getElem? (i := 112) rfl))) (by decide) (backOf (W := 0) (own_rmCB l Z a0 hw [] t kt ch i n h0 n0 O hin At) hZ (hw _ (List.mem_of_getElem? (i := 112) rfl)) (hw _ (List.mem_of_getElem? (i := 108) rfl)) (by decide) (by decide)) (g := (mkF m 13 #[.val (.ref t), .val (.int (Int32.ofNat i)), .val (.int ((Int32.ofNat i) + (Int32.ofNat n)))] [(.int ((Int32.ofNat i) + (Int32.ofNat n))), (.int (Int32.ofNat i)), (.ref t)])) rfl (by rw [hml]; rfl) (argsL := [(.ref t), (.int (Int32.ofNat i)), (.int ((Int32.ofNat i) + (Int32.ofNat n)))]) (rest := []) (lenOf own_pd3 rfl) rfl (by show 2 * 0 + _ ≤ _; exact Nat.le_of_eq rfl) (hb hby own_d3_13) (fun _ _ => ⟨rfl, e0, (by decide : 0 + 1 ≤ _), (by decide : 0 + 8 ≤ _)⟩)
  dsimp only [Pt.U, Pt.locs, Pt.cells, Pt.slots] at X1 l1 y1 z1 st1 hQ1
  subst l1 y1 z1
  obtain ⟨b, k, rfl, Nq, Kq, le_b, Ab⟩ := hQ1
  refine Out.via (g' := (mkF m 16 #[.val (.ref t), .val (.int (Int32.ofNat i)), .val (.int ((Int32.ofNat i) + (Int32.ofNat n)))] [(.ref b)])) st1 ?_
  exact Out.endN X1 (fun h => by rw [Bd.returns] at h; cases h) Bd.notSynchronized (by decide) (by decide) (⟨b, k, rfl, Fr.app N0 Nq, Kq, le_b, Ab⟩) (fun fs hr => own_retR X1 hx (t := (.array .byte)) Bd.returns rfl rfl rfl (hb hby own_d3_16) hr)
theorem own_pn4 : plainName "java/lang/String" = true := by first | (simp [plainName, overriddenIn]; done) | decide +kernel
theorem own_d4_0 : decode jdk_42_method_151_code 0 = .ok (.aload_n 0, 1) := by decide +kernel
theorem own_d4_1 : decode jdk_42_method_151_code 1 = .ok (.invokespecial 1, 3) := by decide +kernel
theorem own_d4_4 : decode jdk_42_method_151_code 4 = .ok (.aload_n 0, 1) := by decide +kernel
theorem own_d4_5 : decode jdk_42_method_151_code 5 = .ok (.aload_n 1, 1) := by decide +kernel
theorem own_d4_6 : decode jdk_42_method_151_code 6 = .ok (.putfield 9, 3) := by decide +kernel
theorem own_d4_9 : decode jdk_42_method_151_code 9 = .ok (.aload_n 0, 1) := by decide +kernel
theorem own_d4_10 : decode jdk_42_method_151_code 10 = .ok (.iload_n 2, 1) := by decide +kernel
theorem own_d4_11 : decode jdk_42_method_151_code 11 = .ok (.putfield 15, 3) := by decide +kernel
theorem own_d4_14 : decode jdk_42_method_151_code 14 = .ok (.return_, 1) := by decide +kernel
theorem own_ef19 (m : MethodId) (x0 : Addr) (x1 : Addr) (x2 : Int32) : entryFrame m #[(.ref x0), (.ref x1), (.int x2)] 3 = mkF m 0 #[.val (.ref x0), .val (.ref x1), .val (.int x2)] [] := by first | (simp [entryFrame, mkF, argsToLocals, Value.category]; done) | rfl
abbrev own_Q19 (Z : State) (a b : Addr) (h0 : Heap) (n0 : Nat) : Option Value → Heap → List Loc → Prop := fun v h L => v = none ∧ Fr n0 L ∧ Keep h0 h [a] ∧ Exa Z h a "java/lang/String" ∧ Fld Z h a "java/lang/String" "value" "[B" (.ref b) ∧ Fld Z h a "java/lang/String" "coder" "B" (.int (0 : Int32))
set_option maxRecDepth 65536 in
set_option maxHeartbeats 40000000 in
theorem own_rm19 (l : Launch) (Z : State) (a0 : Array Value) (hw : ∀ d ∈ tables_1, d.before a0 Z = true) (ws : List Jvm.Cond) (a b : Addr) (h0 : Heap) (n0 : Nat) (O : Old Z n0 h0) (g_a : n0 ≤ a) (E1 : Exa Z h0 a "java/lang/String") (F_value_a : Fld Z h0 a "java/lang/String" "value" "[B" .null) (F_coder_a : Fld Z h0 a "java/lang/String" "coder" "B" (.int (0 : Int32))) :
    MetFree l (⟨"java/lang/String", "<init>", "([BB)V"⟩ : MethodName) (head1 (Jvm.Cond.code (⟨"java/lang/String", "<init>", "([BB)V"⟩ : MethodName) jdk_42_method_151_code 3 none :: ws) ({ frames := 1, cells := 0, slots := 0, locals := 12 } : Room)) (fun aa U => aa = #[(.ref a), (.ref b), (.int (0 : Int32))] ∧ Z.Warmed39 U.vm ∧ U.heap = h0) (fun _ _ _ _ _ => True) (fun _ U o U' => ∃ v L, o = .returned v ∧ (own_Q19 Z a b h0 n0) v U'.heap L ∧ FrameEnd U o U' L ({ frames := 1, cells := 0, slots := 0, locals := 12 } : Room).cells ({ frames := 1, cells := 0, slots := 0, locals := 12 } : Room).slots) := by
  refine MetFree.of_bodySF (plainFor_of_name own_pn4) hisR ?_
  intro p e s m args below meth c s₁ Bd hml0 hP hK
  obtain ⟨rfl, hZ, hh⟩ := hP
  have hx := Bd.exec
  have hby := Bd.bytes
  have hml : c.maxLocals = 3 := hml0
  have hown : s.vm.findClass "java/lang/String" = some m.cls := findClass_of_methodNamed Bd.named
  have hnm := (name_of_methodNamed Bd.named Bd.method).1
  have X0 : Stand p l e ({ frames := 1, cells := 0, slots := 0, locals := 12 } : Room) s m #[(.ref a), (.ref b), (.int (0 : Int32))] below meth c s₁ [] 0 0 := Stand.of_body Bd
  have e0 : s₁.heap = h0 := by rw [← hh, Bd.state]; rfl
  have N0 := Fr.nil n0
  refine Out.start (Q := own_Q19 Z a b h0 n0) (own_ef19 m a b (0 : Int32) ) ?_
  have Kp := Keep.refl h0 [a]
  refine Out.via (g' := (mkF m 1 #[.val (.ref a), .val (.ref b), .val (.int (0 : Int32))] [(.ref a)])) (fun _ k => XS.aloadN X0.here hx rfl (hb hby own_d4_0) rfl rfl k) ?_
  obtain ⟨T1, X1, e1, st1⟩ := initO X0 hx hZ hown (hw _ (List.mem_of_getElem? (i := 12) rfl)) (hw _ (List.mem_of_getElem? (i := 13) rfl)) (hw _ (List.mem_of_getElem? (i := 14) rfl)) e0 (g := (mkF m 1 #[.val (.ref a), .val (.ref b), .val (.int (0 : Int32))] [(.ref a)])) rfl (by rw [hml]; rfl) rfl (hb hby own_d4_1) (by decide) (W := 0) (by show 2 * 0 + _ ≤ _; exact Nat.le_of_eq rfl) (by decide)
  refine Out.via (g' := (mkF m 4 #[.val (.ref a), .val (.ref b), .val (.int (0 : Int32))] [])) st1 ?_
  refine Out.via (g' := (mkF m 5 #[.val (.ref a), .val (.ref b), .val (.int (0 : Int32))] [(.ref a)])) (fun _ k => XS.aloadN X1.here hx rfl (hb hby own_d4_4) rfl rfl k) ?_
  refine Out.via (g' := (mkF m 6 #[.val (.ref a), .val (.ref b), .val (.int (0 : Int32))] [(.ref b), (.ref a)])) (fun _ k => XS.aloadN X1.here hx rfl (hb hby own_d4_5) rfl rfl k) ?_
  obtain ⟨T2, h2, X2, e2, W2, st2⟩ := putF X1 hx hZ hown (host := "") (Or.inl (hw _ (List.mem_of_getElem? (i := 29) rfl))) Via.refl e1 F_value_a E1 (Or.inr ⟨(hw _ (List.mem_of_getElem? (i := 30) rfl)), rfl, hnm⟩) (hw _ (List.mem_of_getElem? (i := 3) rfl)) (ty := (.array .byte)) (by decide) rfl rfl (g := (mkF m 6 #[.val (.ref a), .val (.ref b), .val (.int (0 : Int32))] [(.ref b), (.ref a)])) rfl rfl (hb hby own_d4_6)
  replace F_value_a := F_value_a.same W2
  replace F_coder_a := F_coder_a.other W2 (Or.inr (slot_ne (Or.inr (hw _ (List.mem_of_getElem? (i := 28) rfl))) (Or.inr (hw _ (List.mem_of_getElem? (i := 30) rfl))) (by decide) (t := .byte) (t' := (.array .byte)) (by decide) (by decide)))
  replace E1 := E1.wr W2
  replace O := O.wr W2 g_a
  replace Kp := Kp.wr W2 (Or.inl (List.mem_of_getElem? (i := 0) rfl))
  replace N0 := Fr.snoc X2 N0 g_a
  refine Out.via (g' := (mkF m 9 #[.val (.ref a), .val (.ref b), .val (.int (0 : Int32))] [])) st2 ?_
  refine Out.via (g' := (mkF m 10 #[.val (.ref a), .val (.ref b), .val (.int (0 : Int32))] [(.ref a)])) (fun _ k => XS.aloadN X2.here hx rfl (hb hby own_d4_9) rfl rfl k) ?_
  refine Out.via (g' := (mkF m 11 #[.val (.ref a), .val (.ref b), .val (.int (0 : Int32))] [(.int (0 : Int32)), (.ref a)])) (fun _ k => XS.iloadN X2.here hx rfl (hb hby own_d4_10) rfl k) ?_
  obtain ⟨T3, h3, X3, e3, W3, st3⟩ := putFN X2 hx hZ hown (hw _ (List.mem_of_getElem? (i := 27) rfl)) Via.refl e2 F_coder_a E1 (Or.inr ⟨(hw _ (List.mem_of_getElem? (i := 28) rfl)), rfl, hnm⟩) (hw _ (List.mem_of_getElem? (i := 3) rfl)) (ty := .byte) (v' := (.int (0 : Int32))) (by decide) rfl (by decide) (g := (mkF m 11 #[.val (.ref a), .val (.ref b), .val (.int (0 : Int32))] [(.int (0 : Int32)), (.ref a)])) rfl rfl (hb hby own_d4_11)
  replace F_coder_a := F_coder_a.same W3
  replace F_value_a := F_value_a.other W3 (Or.inr (slot_ne (Or.inr (hw _ (List.mem_of_getElem? (i := 30) rfl))) (Or.inr (hw _ (List.mem_of_getElem? (i := 28) rfl))) (by decide) (t := (.array .byte)) (t' := .byte) (by decide) (by decide)))
  replace E1 := E1.wr W3
  replace O := O.wr W3 g_a
  replace Kp := Kp.wr W3 (Or.inl (List.mem_of_getElem? (i := 0) rfl))
  replace N0 := Fr.snoc X3 N0 g_a
  refine Out.via (g' := (mkF m 14 #[.val (.ref a), .val (.ref b), .val (.int (0 : Int32))] [])) st3 ?_
  exact Out.endN X3 (fun _ => rfl) Bd.notSynchronized (by decide) (by decide) (by rw [e3]; exact ⟨rfl, N0, Kp, E1, F_value_a, F_coder_a⟩) (fun fs hr => X3.returnOut hx Bd.returns (hb hby own_d4_14) hr)
/-- a String whose value isn't set yet is no literal that the tables book -/
theorem own_safe_fresh {Z : State} {EL : List (String × Nat)} {vm : Vm} {h : Heap} {x : Addr} (hZ : Z.Warmed39 vm) (E : Exa Z h x "java/lang/String") (V : Fld Z h x "java/lang/String" "value" "[B" .null) : Safe Z EL vm h x := fun B => by
  have hal : Z.vm.Alike vm := hZ.alike
  obtain ⟨p, -, u, a, -, q, -, F, rfl | rfl⟩ := B
  · obtain ⟨cell, cf, k, i, f, h1, h2, h3, h4, h5, h6, h7⟩ := V
    obtain ⟨cS, ⟨⟨g1, -, -, ⟨c1, k1, i1, w1, -⟩, -, -, -, w8, -⟩, -⟩, -⟩ := F
    cases (show h[q.sa]? = some q.sC from g1).symm.trans h1
    obtain ⟨k', hf, -⟩ := State.fieldFound?_setVm (s := Z) hal h2
    have w1' : (Z.setVm vm).fieldFound? "java/lang/String" "value" "[B" = some (c1, k1, i1, q.fSV) := w1
    cases w1'.symm.trans hf
    cases (show q.sC.slots[q.fSV.slot]? = some (.ref q.sd) from w8).symm.trans h7
  · obtain ⟨cell, k, e1, e2, e3, -, -⟩ := E
    cases (show h[q.sd]? = some q.SA from F.hd).symm.trans e1
    obtain ⟨cS, -, -, f, -⟩ := F
    have f' : vm.findClass "[B" = some q.SA.cls := f
    rw [hal.findClass] at f'
    obtain ⟨k1, q1, q2⟩ := Vm.findClass_spec f'
    obtain ⟨k2, q3, q4⟩ := Vm.findClass_spec e2
    cases q1.symm.trans q3
    exact absurd (q2.symm.trans q4) (by decide)
theorem own_pn5 : plainName "java/lang/StringLatin1" = true := by first | (simp [plainName, overriddenIn]; done) | decide +kernel
theorem own_d5_0 : decode jdk_43_method_47_code 0 = .ok (.iload_n 2, 1) := by decide +kernel
theorem own_d5_1 : decode jdk_43_method_47_code 1 = .ok (.ifCond .ne 6, 3) := by decide +kernel
theorem own_d5_4 : decode jdk_43_method_47_code 4 = .ok (.ldc 151, 2) := by decide +kernel
theorem own_d5_6 : decode jdk_43_method_47_code 6 = .ok (.areturn, 1) := by decide +kernel
theorem own_d5_7 : decode jdk_43_method_47_code 7 = .ok (.new 1, 3) := by decide +kernel
theorem own_d5_10 : decode jdk_43_method_47_code 10 = .ok (.dup, 1) := by decide +kernel
theorem own_d5_11 : decode jdk_43_method_47_code 11 = .ok (.aload_n 0, 1) := by decide +kernel
theorem own_d5_12 : decode jdk_43_method_47_code 12 = .ok (.iload_n 1, 1) := by decide +kernel
theorem own_d5_13 : decode jdk_43_method_47_code 13 = .ok (.iload_n 1, 1) := by decide +kernel
theorem own_d5_14 : decode jdk_43_method_47_code 14 = .ok (.iload_n 2, 1) := by decide +kernel
theorem own_d5_15 : decode jdk_43_method_47_code 15 = .ok (.iadd, 1) := by decide +kernel
theorem own_d5_16 : decode jdk_43_method_47_code 16 = .ok (.invokestatic 232, 3) := by decide +kernel
theorem own_d5_19 : decode jdk_43_method_47_code 19 = .ok (.iconst 0, 1) := by decide +kernel
theorem own_d5_20 : decode jdk_43_method_47_code 20 = .ok (.invokespecial 112, 3) := by decide +kernel
theorem own_pd6 : parseMethodDescriptor "([BB)V" = some ⟨[(.array .byte), .byte], none⟩ := by decide +kernel
theorem own_d5_23 : decode jdk_43_method_47_code 23 = .ok (.areturn, 1) := by decide +kernel
theorem own_efN (m : MethodId) (x0 : Addr) (x1 : Int32) (x2 : Int32) : entryFrame m #[(.ref x0), (.int x1), (.int x2)] 3 = mkF m 0 #[.val (.ref x0), .val (.int x1), .val (.int x2)] [] := by first | (simp [entryFrame, mkF, argsToLocals, Value.category]; done) | rfl
abbrev own_QN (Z : State) (t : Addr) (kt : ClassId) (ch : Int32) (i n : Nat) (h0 : Heap) (n0 : Nat) : Option Value → Heap → List Loc → Prop := fun v h L => ∃ (b : Addr) (cs : List Int32), v = some (.ref b) ∧ Fr n0 L ∧ Keep h0 h [] ∧ cs.length = n ∧ own_Str Z h b cs
set_option maxRecDepth 65536 in
set_option maxHeartbeats 40000000 in
theorem own_rmN (l : Launch) (Z : State) (a0 : Array Value) (hw : ∀ d ∈ tables_1, d.before a0 Z = true) (ws : List Jvm.Cond) (t : Addr) (kt : ClassId) (ch : Int32) (i n : Nat) (h0 : Heap) (n0 : Nat) (O : Old Z n0 h0) (hin : i + n ≤ 8) (At : Arv Z h0 t kt .byte (8 : Int32) (((List.replicate 8 ch).map (fun c => c.toInt8.toInt32)).map Value.int) (.int (0 : Int32))) (hnf : ¬ (i = 0 ∧ n = 8)) (hl : own_lat ch) :
    MetFree l (⟨"java/lang/StringLatin1", "newString", "([BII)Ljava/lang/String;"⟩ : MethodName) (head1 (Jvm.Cond.code (⟨"java/lang/StringLatin1", "newString", "([BII)Ljava/lang/String;"⟩ : MethodName) jdk_43_method_47_code 3 (some (.object "java/lang/String")) :: ws) ({ frames := 3, cells := 2, slots := 12, locals := 72 } : Room)) (fun aa U => aa = #[(.ref t), (.int (Int32.ofNat i)), (.int (Int32.ofNat n))] ∧ Z.Warmed39 U.vm ∧ U.heap = h0 ∧ CHv Z own_EL U.vm h0) (fun _ _ _ _ _ => True) (fun _ U o U' => ∃ v L, o = .returned v ∧ (own_QN Z t kt ch i n h0 n0) v U'.heap L ∧ CHr Z own_EL U.vm U.heap U'.vm U'.heap ∧ ReturnedEndW U o U' L ({ frames := 3, cells := 2, slots := 12, locals := 72 } : Room).cells ({ frames := 3, cells := 2, slots := 12, locals := 72 } : Room).slots) := by
  refine MetFree.of_bodySF (plainFor_of_name own_pn5) hisR ?_
  intro p e s m args below meth c s₁ Bd hml0 hP hK
  obtain ⟨rfl, hZ, hh, hCH⟩ := hP
  have hx := Bd.exec
  have hby := Bd.bytes
  have hml : c.maxLocals = 3 := hml0
  have hown : s.vm.findClass "java/lang/StringLatin1" = some m.cls := findClass_of_methodNamed Bd.named
  have hnm := (name_of_methodNamed Bd.named Bd.method).1
  have X0 : Stand p l e ({ frames := 3, cells := 2, slots := 12, locals := 72 } : Room) (s.setVm s.vm) m #[(.ref t), (.int (Int32.ofNat i)), (.int (Int32.ofNat n))] below meth c s₁ [] 0 0 := Stand.of_body Bd
  have e0 : s₁.heap = h0 := by rw [← hh, Bd.state]; rfl
  have N0 := Fr.nil n0
  have hS := own_since0 s 0
  have hk : 0 ≤ h0.size := Nat.zero_le _
  have CR : CHr Z own_EL s.vm h0 s.vm h0 := CHr.refl hCH
  refine Out.startH (Q := own_QN Z t kt ch i n h0 n0) (own_efN m t (Int32.ofNat i) (Int32.ofNat n) ) ?_
  have Kp := Keep.refl h0 []
  have hEL := own_hEL hw
  have wS := own_wS hw
  refine Out.via (g' := (mkF m 1 #[.val (.ref t), .val (.int (Int32.ofNat i)), .val (.int (Int32.ofNat n))] [(.int (Int32.ofNat n))])) (fun _ k => XS.iloadN X0.here hx rfl (hb hby own_d5_0) rfl k) ?_
  by_cases hz : (Int32.ofNat n) = (0 : Int32)
  · refine Out.via (g' := (mkF m 4 #[.val (.ref t), .val (.int (Int32.ofNat i)), .val (.int (Int32.ofNat n))] [])) (fun _ k => XS.ifNo X0.here hx rfl (hb hby own_d5_1) rfl ((if0 _ _).trans (teq hz).2) k) ?_
    obtain ⟨la, T1, h1, kk1, lb, kb_la, X1, e1, E1, hS, hk, hZ, hown, Eq_la, Cq_la, Vq_la, Aq_la, lt_la, lt_lb, CR1, Lit_la, nes_la, st1⟩ := ldcCH X0 hx hZ hown (hw _ (List.mem_of_getElem? (i := 96) rfl)) wS e0 hS hk hEL (by decide) CR.1 (vs := []) (z := (0 : Int32)) ⟨by decide, rfl⟩ (by decide) rfl (g := (mkF m 4 #[.val (.ref t), .val (.int (Int32.ofNat i)), .val (.int (Int32.ofNat n))] [])) rfl (hb hby own_d5_4) (n := 0) (by decide) (by decide) (by decide) (by decide)
    replace O := O.ext E1
    replace Kp := Kp.ext E1
    replace CR := CR.trans CR1
    refine Out.via (g' := (mkF m 6 #[.val (.ref t), .val (.int (Int32.ofNat i)), .val (.int (Int32.ofNat n))] [(.ref la)])) st1 ?_
    exact Out.endH X1 hS (by rw [e1]; exact hk) hZ hEL (by rw [hh, e1]; exact CR) (fun h => by rw [Bd.returns] at h; cases h) Bd.notSynchronized (by decide) (by decide) (by rw [e1]; exact ⟨la, [], rfl, N0, Kp, (own_t6 ⟨n, by omega⟩ hz).symm, own_all0, Eq_la, Cq_la, lb, kb_la, Vq_la, Aq_la⟩) (fun fs hr => own_retR X1 hx (t := (.object "java/lang/String")) Bd.returns rfl rfl rfl (hb hby own_d5_6) hr)
  · refine Out.via (g' := (mkF m 7 #[.val (.ref t), .val (.int (Int32.ofNat i)), .val (.int (Int32.ofNat n))] [])) (fun _ k => XS.ifYes X0.here hx rfl (pc0 := 1) (pc' := 7) rfl (hb hby own_d5_1) rfl ((if0 _ _).trans (feq hz).2) (by decide) (by decide) k) ?_
    obtain ⟨T1, h1, X1, e1, E1, A1, D1, -, st1⟩ := newO X0 hx hZ hown (hw _ (List.mem_of_getElem? (i := 105) rfl)) (hw _ (List.mem_of_getElem? (i := 3) rfl)) (hw _ (List.mem_of_getElem? (i := 4) rfl)) e0 (g := (mkF m 7 #[.val (.ref t), .val (.int (Int32.ofNat i)), .val (.int (Int32.ofNat n))] [])) rfl (hb hby own_d5_7) (by decide) (by decide)
    obtain ⟨x, gq1⟩ : ∃ z, z = h0.size := ⟨_, rfl⟩
    rw [← gq1] at A1 D1 st1
    have ne_t_x : t ≠ x := Nat.ne_of_lt (Nat.lt_of_lt_of_le At.lt (Nat.le_of_eq gq1.symm))
    have g_x : n0 ≤ x := Nat.le_trans (own_z0 O) (Nat.le_of_eq gq1.symm)
    have sz_x : h0.size ≤ x := Nat.le_trans Kp.1 (Nat.le_of_eq gq1.symm)
    replace At := At.ext E1
    replace O := O.ext E1
    replace Kp := Kp.ext E1
    replace CR := CR.trans (CHr.ext E1 CR.1)
    replace hk := Nat.le_trans hk E1.1
    have F_coder_x : Fld Z h1 x "java/lang/String" "coder" "B" (.int (0 : Int32)) := D1 (Or.inr (hw _ (List.mem_of_getElem? (i := 28) rfl))) (ty := .byte) (by decide)
    have F_value_x : Fld Z h1 x "java/lang/String" "value" "[B" .null := D1 (Or.inr (hw _ (List.mem_of_getElem? (i := 30) rfl))) (ty := (.array .byte)) (by decide)
    refine Out.via (g' := (mkF m 10 #[.val (.ref t), .val (.int (Int32.ofNat i)), .val (.int (Int32.ofNat n))] [(.ref x)])) st1 ?_
    have sf_x := own_safe_fresh (EL := own_EL) hZ A1 F_value_x
    refine Out.via (g' := (mkF m 11 #[.val (.ref t), .val (.int (Int32.ofNat i)), .val (.int (Int32.ofNat n))] [(.ref x), (.ref x)])) (fun _ k => XS.dup X1.here hx rfl (hb hby own_d5_10) rfl rfl k) ?_
    refine Out.via (g' := (mkF m 12 #[.val (.ref t), .val (.int (Int32.ofNat i)), .val (.int (Int32.ofNat n))] [(.ref t), (.ref x), (.ref x)])) (fun _ k => XS.aloadN X1.here hx rfl (hb hby own_d5_11) rfl rfl k) ?_
    refine Out.via (g' := (mkF m 13 #[.val (.ref t), .val (.int (Int32.ofNat i)), .val (.int (Int32.ofNat n))] [(.int (Int32.ofNat i)), (.ref t), (.ref x), (.ref x)])) (fun _ k => XS.iloadN X1.here hx rfl (hb hby own_d5_12) rfl k) ?_
    refine Out.via (g' := (mkF m 14 #[.val (.ref t), .val (.int (Int32.ofNat i)), .val (.int (Int32.ofNat n))] [(.int (Int32.ofNat i)), (.int (Int32.ofNat i)), (.ref t), (.ref x), (.ref x)])) (fun _ k => XS.iloadN X1.here hx rfl (hb hby own_d5_13) rfl k) ?_
    refine Out.via (g' := (mkF m 15 #[.val (.ref t), .val (.int (Int32.ofNat i)), .val (.int (Int32.ofNat n))] [(.int (Int32.ofNat n)), (.int (Int32.ofNat i)), (.int (Int32.ofNat i)), (.ref t), (.ref x), (.ref x)])) (fun _ k => XS.iloadN X1.here hx rfl (hb hby own_d5_14) rfl k) ?_
    refine Out.via (g' := (mkF m 16 #[.val (.ref t), .val (.int (Int32.ofNat i)), .val (.int (Int32.ofNat n))] [(.int ((Int32.ofNat i) + (Int32.ofNat n))), (.int (Int32.ofNat i)), (.ref t), (.ref x), (.ref x)])) (fun _ k => XS.iadd X1.here hx rfl (hb hby own_d5_15) rfl k) ?_
    obtain ⟨_, _, ⟨T2, L2, kc2, ks2⟩, -, X2, ⟨Lc2, hQ2, l2, y2, z2⟩, st2⟩ := Jvm.LawKit.callS X1 hx (y := (⟨"java/util/Arrays", "copyOfRange", "([BII)[B"⟩ : MethodName)) hown (mvT hZ (hw _ (List.mem_of_getElem? (i := 106) rfl))) (mvT hZ (hw _ (List.mem_of_getElem? (i := 107) rfl))) (mvT hZ (hw _ (List.mem_of_getElem? (i := 108) rfl))) (mvT hZ (hw _ (List.mem_of_getElem? (i := 109) rfl))) (by decide) (backOf (W := 2) (own_rmCR l Z a0 hw [] t kt ch i n h1 n0 O hin At hnf) hZ (hw _ (List.mem_of_getElem? (i := 109) rfl)) (hw _ (List.mem_of_getElem? (i := 108) rfl)) (by decide) (by decide)) (g := (mkF m 16 #[.val (.ref t), .val (.int (Int32.ofNat i)), .val (.int (Int32.ofNat n))] [(.int ((Int32.ofNat i) + (Int32.ofNat n))), (.int (Int32.ofNat i)), (.ref t), (.ref x), (.ref x)])) rfl (by rw [hml]; rfl) (argsL := [(.ref t), (.int (Int32.ofNat i)), (.int ((Int32.ofNat i) + (Int32.ofNat n)))]) (rest := [(.ref x), (.ref x)]) (lenOf own_pd3 rfl) rfl (by show 2 * 0 + _ ≤ _; exact Nat.le_of_eq rfl) (hb hby own_d5_16) (fun _ _ => ⟨rfl, e1, (by decide : 1 + 1 ≤ _), (by decide : 4 + 8 ≤ _)⟩)
    dsimp only [Pt.U, Pt.locs, Pt.cells, Pt.slots] at X2 l2 y2 z2 st2 hQ2
    subst l2 y2 z2
    obtain ⟨u, ku, rfl, Nq2, Kq2, le_u, Au⟩ := hQ2
    replace N0 := Fr.app N0 Nq2
    have ne_x_u : x ≠ u := Nat.ne_of_lt (Nat.lt_of_lt_of_le A1.lt le_u)
    replace sf_x := Safe.keep Kq2 sf0 CR.1 sf_x
    replace CR := CR.trans (CHr.keep Kq2 sf0 CR.1)
    replace hk : _ ≤ T2.heap.size := Nat.le_trans hk Kq2.1
    replace F_coder_x := F_coder_x.keep Kq2 nin0
    replace F_value_x := F_value_x.keep Kq2 nin0
    replace A1 := A1.keep Kq2
    replace At := At.keep Kq2 nin0
    replace O := O.keep Kq2 all0
    replace Kp := Kp.trans Kq2 all0
    refine Out.via (g' := (mkF m 19 #[.val (.ref t), .val (.int (Int32.ofNat i)), .val (.int (Int32.ofNat n))] [(.ref u), (.ref x), (.ref x)])) st2 ?_
    refine Out.via (g' := (mkF m 20 #[.val (.ref t), .val (.int (Int32.ofNat i)), .val (.int (Int32.ofNat n))] [(.int (0 : Int32)), (.ref u), (.ref x), (.ref x)])) (fun _ k => XS.iconst X2.here hx rfl (hb hby own_d5_19) k) ?_
    obtain ⟨_, _, ⟨T3, L3, kc3, ks3⟩, -, X3, ⟨Lc3, hQ3, l3, y3, z3⟩, st3⟩ := X2.specialBack hx (y := (⟨"java/lang/String", "<init>", "([BB)V"⟩ : MethodName)) rfl hown (mvT hZ (hw _ (List.mem_of_getElem? (i := 124) rfl))) (mvT hZ (hw _ (List.mem_of_getElem? (i := 125) rfl))) (mvT hZ (hw _ (List.mem_of_getElem? (i := 126) rfl))) (by decide) (backOf (W := 1) (own_rm19 l Z a0 hw [] x u T2.heap n0 O g_x A1 F_value_x F_coder_x) hZ (hw _ (List.mem_of_getElem? (i := 126) rfl)) (hw _ (List.mem_of_getElem? (i := 4) rfl)) (by decide) (by decide)) (g := (mkF m 20 #[.val (.ref t), .val (.int (Int32.ofNat i)), .val (.int (Int32.ofNat n))] [(.int (0 : Int32)), (.ref u), (.ref x), (.ref x)])) rfl (by rw [hml]; rfl) (Steps.refl _) (a := x) (argsL := [(.ref u), (.int (0 : Int32))]) (rest := [(.ref x)]) (lenOf own_pd6 rfl) rfl (by show 2 * 0 + _ ≤ _; exact Nat.le_of_eq rfl) (hb hby own_d5_20) (fun _ _ => ⟨rfl, rfl, (by decide : 2 + 0 ≤ _), (by decide : 12 + 0 ≤ _)⟩)
    dsimp only [Pt.U, Pt.locs, Pt.cells, Pt.slots] at X3 l3 y3 z3 st3 hQ3
    subst l3 y3 z3
    obtain ⟨rfl, Nq3, Kq3, Eb, Vb, Cb⟩ := hQ3
    replace N0 := Fr.app N0 Nq3
    have sfk := sf_x
    replace sf_x := Safe.keep Kq3 (sfS sfk sf0) CR.1 sf_x
    replace CR := CR.trans (CHr.keep Kq3 (sfS sfk sf0) CR.1)
    replace hk : _ ≤ T3.heap.size := Nat.le_trans hk Kq3.1
    replace A1 := A1.keep Kq3
    replace At := At.keep Kq3 (ninS ne_t_x nin0)
    replace Au := Au.keep Kq3 (ninS (Ne.symm ne_x_u) nin0)
    replace O := O.keep Kq3 (allS g_x all0)
    replace Kp := Kp.trans Kq3 (allS (Or.inr sz_x) all0)
    refine Out.to (g' := (mkF m 23 #[.val (.ref t), .val (.int (Int32.ofNat i)), .val (.int (Int32.ofNat n))] [(.ref x)])) st3 ?_
    exact Out.endH X3 hS hk hZ hEL (by rw [hh]; exact CR) (fun h => by rw [Bd.returns] at h; cases h) Bd.notSynchronized (by decide) (by decide) (⟨x, List.replicate n ch, rfl, N0, Kp, List.length_replicate, fun c hc => (List.eq_of_mem_replicate hc) ▸ hl, Eb, Cb, u, ku, Vb, (by rw [List.length_replicate]; exact Au)⟩) (fun fs hr => own_retR X3 hx (t := (.object "java/lang/String")) Bd.returns rfl rfl rfl (hb hby own_d5_23) hr)
theorem own_d6_0 : decode jdk_42_method_154_code 0 = .ok (.getstatic 38, 3) := by decide +kernel
theorem own_d6_3 : decode jdk_42_method_154_code 3 = .ok (.ifCond .eq 14, 3) := by decide +kernel
theorem own_d6_6 : decode jdk_42_method_154_code 6 = .ok (.aload_n 0, 1) := by decide +kernel
theorem own_d6_7 : decode jdk_42_method_154_code 7 = .ok (.getfield 15, 3) := by decide +kernel
theorem own_d6_10 : decode jdk_42_method_154_code 10 = .ok (.ifCond .ne 7, 3) := by decide +kernel
theorem own_d6_13 : decode jdk_42_method_154_code 13 = .ok (.iconst 1, 1) := by decide +kernel
theorem own_d6_14 : decode jdk_42_method_154_code 14 = .ok (.goto 4, 3) := by decide +kernel
theorem own_d6_18 : decode jdk_42_method_154_code 18 = .ok (.ireturn, 1) := by decide +kernel
theorem own_efIL (m : MethodId) (x0 : Addr) : entryFrame m #[(.ref x0)] 1 = mkF m 0 #[.val (.ref x0)] [] := by first | (simp [entryFrame, mkF, argsToLocals, Value.category]; done) | rfl
abbrev own_QIL (Z : State) (a : Addr) (G1 : Int32) (h0 : Heap) (n0 : Nat) : Option Value → Heap → List Loc → Prop := fun v h L => v = some (.int (1 : Int32)) ∧ Fr n0 L ∧ h = h0
set_option maxRecDepth 65536 in
set_option maxHeartbeats 40000000 in
theorem own_rmIL (l : Launch) (Z : State) (a0 : Array Value) (hw : ∀ d ∈ tables_1, d.before a0 Z = true) (ws : List Jvm.Cond) (a : Addr) (G1 : Int32) (h0 : Heap) (n0 : Nat) (O : Old Z n0 h0) (F1 : Fld Z h0 a "java/lang/String" "coder" "B" (.int (0 : Int32))) (O2 : Sta Z Z.heap "java/lang/String" "COMPACT_STRINGS" "Z" (.int G1)) (P5 : ¬ (G1 = (0 : Int32))) :
    MetFree l (⟨"java/lang/String", "isLatin1", "()Z"⟩ : MethodName) (head1 (Jvm.Cond.code (⟨"java/lang/String", "isLatin1", "()Z"⟩ : MethodName) jdk_42_method_154_code 1 (some .boolean) :: ws) ({ frames := 0, cells := 0, slots := 0, locals := 0 } : Room)) (fun aa U => aa = #[(.ref a)] ∧ Z.Warmed39 U.vm ∧ U.heap = h0) (fun _ _ _ _ _ => True) (fun _ U o U' => ∃ v L, o = .returned v ∧ (own_QIL Z a G1 h0 n0) v U'.heap L ∧ FrameEnd U o U' L ({ frames := 0, cells := 0, slots := 0, locals := 0 } : Room).cells ({ frames := 0, cells := 0, slots := 0, locals := 0 } : Room).slots) := by
  refine MetFree.of_bodySF (plainFor_of_name own_pn4) hisR ?_
  intro p e s m args below meth c s₁ Bd hml0 hP hK
  obtain ⟨rfl, hZ, hh⟩ := hP
  have hx := Bd.exec
  have hby := Bd.bytes
  have hml : c.maxLocals = 1 := hml0
  have hown : s.vm.findClass "java/lang/String" = some m.cls := findClass_of_methodNamed Bd.named
  have hnm := (name_of_methodNamed Bd.named Bd.method).1
  have X0 : Stand p l e ({ frames := 0, cells := 0, slots := 0, locals := 0 } : Room) s m #[(.ref a)] below meth c s₁ [] 0 0 := Stand.of_body Bd
  have e0 : s₁.heap = h0 := by rw [← hh, Bd.state]; rfl
  have N0 := Fr.nil n0
  refine Out.start (Q := own_QIL Z a G1 h0 n0) (own_efIL m a ) ?_
  obtain ⟨T1, X1, e1, st1⟩ := getS2 X0 hx hZ hown (host := "") (Or.inl (hw _ (List.mem_of_getElem? (i := 15) rfl))) Via.refl e0 (O2.ext O.2) (g := (mkF m 0 #[.val (.ref a)] [])) rfl (hb hby own_d6_0)
  refine Out.via (g' := (mkF m 3 #[.val (.ref a)] [(.int G1)])) st1 ?_
  refine Out.via (g' := (mkF m 6 #[.val (.ref a)] [])) (fun _ k => XS.ifNo X1.here hx rfl (hb hby own_d6_3) rfl ((if0 _ _).trans (feq P5).1) k) ?_
  refine Out.via (g' := (mkF m 7 #[.val (.ref a)] [(.ref a)])) (fun _ k => XS.aloadN X1.here hx rfl (hb hby own_d6_6) rfl rfl k) ?_
  obtain ⟨T2, X2, e2, st2⟩ := getF X1 hx hZ hown (host := "") (Or.inl (hw _ (List.mem_of_getElem? (i := 27) rfl))) Via.refl e1 F1 (g := (mkF m 7 #[.val (.ref a)] [(.ref a)])) rfl rfl (hb hby own_d6_7)
  refine Out.via (g' := (mkF m 10 #[.val (.ref a)] [(.int (0 : Int32))])) st2 ?_
  refine Out.via (g' := (mkF m 13 #[.val (.ref a)] [])) (fun _ k => XS.ifNo X2.here hx rfl (hb hby own_d6_10) rfl ((if0 _ _).trans (teq rfl).2) k) ?_
  refine Out.via (g' := (mkF m 14 #[.val (.ref a)] [(.int (1 : Int32))])) (fun _ k => XS.iconst X2.here hx rfl (hb hby own_d6_13) k) ?_
  refine Out.via (g' := (mkF m 18 #[.val (.ref a)] [(.int (1 : Int32))])) (fun _ k => XS.goto X2.here hx rfl (pc0 := 14) (pc' := 18) rfl (hb hby own_d6_14) (by decide) (by decide) k) ?_
  exact Out.endN X2 (fun h => by rw [Bd.returns] at h; cases h) Bd.notSynchronized (by decide) (by decide) (by rw [e2]; exact ⟨rfl, N0, rfl⟩) (fun fs hr => Jvm.RoadKit.retN X2 hx (t := .boolean) Bd.returns (by simp) (hb hby own_d6_18) hr)
theorem own_pn7 : plainName "jdk/internal/util/Preconditions" = true := by first | (simp [plainName, overriddenIn]; done) | decide +kernel
theorem own_d7_0 : decode jdk_41_method_12_code 0 = .ok (.iload_n 0, 1) := by decide +kernel
theorem own_d7_1 : decode jdk_41_method_12_code 1 = .ok (.ifCond .lt 13, 3) := by decide +kernel
theorem own_d7_4 : decode jdk_41_method_12_code 4 = .ok (.iload_n 0, 1) := by decide +kernel
theorem own_d7_5 : decode jdk_41_method_12_code 5 = .ok (.iload_n 1, 1) := by decide +kernel
theorem own_d7_6 : decode jdk_41_method_12_code 6 = .ok (.if_icmp .gt 8, 3) := by decide +kernel
theorem own_d7_9 : decode jdk_41_method_12_code 9 = .ok (.iload_n 1, 1) := by decide +kernel
theorem own_d7_10 : decode jdk_41_method_12_code 10 = .ok (.iload_n 2, 1) := by decide +kernel
theorem own_d7_11 : decode jdk_41_method_12_code 11 = .ok (.if_icmp .le 11, 3) := by decide +kernel
theorem own_d7_22 : decode jdk_41_method_12_code 22 = .ok (.iload_n 0, 1) := by decide +kernel
theorem own_d7_23 : decode jdk_41_method_12_code 23 = .ok (.ireturn, 1) := by decide +kernel
set_option maxHeartbeats 4000000 in
theorem own_efFT (m : MethodId) (x0 : Int32) (x1 : Int32) (x2 : Int32) (x3 : Value) (r3 : x3.isRef = true) : entryFrame m #[(.int x0), (.int x1), (.int x2), x3] 4 = mkF m 0 #[.val (.int x0), .val (.int x1), .val (.int x2), .val x3] [] := by 
  rcases ref_cases r3 with rfl | ⟨_, rfl⟩ <;>
  (first | (simp [entryFrame, mkF, argsToLocals, Value.category]; done) | rfl)
abbrev own_QFT (Z : State) (p1 p2 p3 : Int32) (fm : Value) (h0 : Heap) (n0 : Nat) : Option Value → Heap → List Loc → Prop := fun v h L => v = some (.int p1) ∧ Fr n0 L ∧ h = h0
set_option maxRecDepth 65536 in
set_option maxHeartbeats 40000000 in
theorem own_rmFT (l : Launch) (Z : State) (a0 : Array Value) (hw : ∀ d ∈ tables_1, d.before a0 Z = true) (ws : List Jvm.Cond) (p1 p2 p3 : Int32) (fm : Value) (h0 : Heap) (n0 : Nat) (O : Old Z n0 h0) (q1 : ¬ p1 < 0) (q2 : ¬ p2 < p1) (q3 : ¬ p3 < p2) (rf : fm.isRef = true) :
    MetFree l (⟨"jdk/internal/util/Preconditions", "checkFromToIndex", "(IIILjava/util/function/BiFunction;)I"⟩ : MethodName) (head1 (Jvm.Cond.code (⟨"jdk/internal/util/Preconditions", "checkFromToIndex", "(IIILjava/util/function/BiFunction;)I"⟩ : MethodName) jdk_41_method_12_code 4 (some .int) :: ws) ({ frames := 0, cells := 0, slots := 0, locals := 0 } : Room)) (fun aa U => aa = #[(.int p1), (.int p2), (.int p3), fm] ∧ Z.Warmed39 U.vm ∧ U.heap = h0) (fun _ _ _ _ _ => True) (fun _ U o U' => ∃ v L, o = .returned v ∧ (own_QFT Z p1 p2 p3 fm h0 n0) v U'.heap L ∧ FrameEnd U o U' L ({ frames := 0, cells := 0, slots := 0, locals := 0 } : Room).cells ({ frames := 0, cells := 0, slots := 0, locals := 0 } : Room).slots) := by
  refine MetFree.of_bodySF (plainFor_of_name own_pn7) hisR ?_
  intro p e s m args below meth c s₁ Bd hml0 hP hK
  obtain ⟨rfl, hZ, hh⟩ := hP
  have hx := Bd.exec
  have hby := Bd.bytes
  have hml : c.maxLocals = 4 := hml0
  have hown : s.vm.findClass "jdk/internal/util/Preconditions" = some m.cls := findClass_of_methodNamed Bd.named
  have hnm := (name_of_methodNamed Bd.named Bd.method).1
  have X0 : Stand p l e ({ frames := 0, cells := 0, slots := 0, locals := 0 } : Room) s m #[(.int p1), (.int p2), (.int p3), fm] below meth c s₁ [] 0 0 := Stand.of_body Bd
  have e0 : s₁.heap = h0 := by rw [← hh, Bd.state]; rfl
  have N0 := Fr.nil n0
  refine Out.start (Q := own_QFT Z p1 p2 p3 fm h0 n0) (own_efFT m p1 p2 p3 fm rf) ?_
  refine Out.via (g' := (mkF m 1 #[.val (.int p1), .val (.int p2), .val (.int p3), .val fm] [(.int p1)])) (fun _ k => XS.iloadN X0.here hx rfl (hb hby own_d7_0) rfl k) ?_
  refine Out.via (g' := (mkF m 4 #[.val (.int p1), .val (.int p2), .val (.int p3), .val fm] [])) (fun _ k => XS.ifNo X0.here hx rfl (hb hby own_d7_1) rfl ((if0 _ _).trans (flt q1).1) k) ?_
  refine Out.via (g' := (mkF m 5 #[.val (.int p1), .val (.int p2), .val (.int p3), .val fm] [(.int p1)])) (fun _ k => XS.iloadN X0.here hx rfl (hb hby own_d7_4) rfl k) ?_
  refine Out.via (g' := (mkF m 6 #[.val (.int p1), .val (.int p2), .val (.int p3), .val fm] [(.int p2), (.int p1)])) (fun _ k => XS.iloadN X0.here hx rfl (hb hby own_d7_5) rfl k) ?_
  refine Out.via (g' := (mkF m 9 #[.val (.int p1), .val (.int p2), .val (.int p3), .val fm] [])) (fun _ k => XS.icmpNo X0.here hx rfl (hb hby own_d7_6) rfl (flt q2).2.2.1 k) ?_
  refine Out.via (g' := (mkF m 10 #[.val (.int p1), .val (.int p2), .val (.int p3), .val fm] [(.int p2)])) (fun _ k => XS.iloadN X0.here hx rfl (hb hby own_d7_9) rfl k) ?_
  refine Out.via (g' := (mkF m 11 #[.val (.int p1), .val (.int p2), .val (.int p3), .val fm] [(.int p3), (.int p2)])) (fun _ k => XS.iloadN X0.here hx rfl (hb hby own_d7_10) rfl k) ?_
  refine Out.via (g' := (mkF m 22 #[.val (.int p1), .val (.int p2), .val (.int p3), .val fm] [])) (fun _ k => XS.icmpYes X0.here hx rfl (pc0 := 11) (pc' := 22) rfl (hb hby own_d7_11) rfl (flt q3).2.2.2 (by decide) (by decide) k) ?_
  refine Out.via (g' := (mkF m 23 #[.val (.int p1), .val (.int p2), .val (.int p3), .val fm] [(.int p1)])) (fun _ k => XS.iloadN X0.here hx rfl (hb hby own_d7_22) rfl k) ?_
  exact Out.endN X0 (fun h => by rw [Bd.returns] at h; cases h) Bd.notSynchronized (by decide) (by decide) (by rw [e0]; exact ⟨rfl, N0, rfl⟩) (fun fs hr => own_retI X0 hx Bd.returns (hb hby own_d7_23) hr)
theorem own_d8_0 : decode jdk_42_method_158_code 0 = .ok (.iload_n 0, 1) := by decide +kernel
theorem own_d8_1 : decode jdk_42_method_158_code 1 = .ok (.iload_n 1, 1) := by decide +kernel
theorem own_d8_2 : decode jdk_42_method_158_code 2 = .ok (.iload_n 2, 1) := by decide +kernel
theorem own_d8_3 : decode jdk_42_method_158_code 3 = .ok (.getstatic 1053, 3) := by decide +kernel
theorem own_d8_6 : decode jdk_42_method_158_code 6 = .ok (.invokestatic 1062, 3) := by decide +kernel
theorem own_pd8 : parseMethodDescriptor "(IIILjava/util/function/BiFunction;)I" = some ⟨[.int, .int, .int, (.object "java/util/function/BiFunction")], some .int⟩ := by decide +kernel
theorem own_d8_9 : decode jdk_42_method_158_code 9 = .ok (.pop, 1) := by decide +kernel
theorem own_d8_10 : decode jdk_42_method_158_code 10 = .ok (.return_, 1) := by decide +kernel
theorem own_efCK (m : MethodId) (x0 : Int32) (x1 : Int32) (x2 : Int32) : entryFrame m #[(.int x0), (.int x1), (.int x2)] 3 = mkF m 0 #[.val (.int x0), .val (.int x1), .val (.int x2)] [] := by first | (simp [entryFrame, mkF, argsToLocals, Value.category]; done) | rfl
abbrev own_QCK (Z : State) (p1 p2 p3 : Int32) (G3 : Value) (h0 : Heap) (n0 : Nat) : Option Value → Heap → List Loc → Prop := fun v h L => v = none ∧ Fr n0 L ∧ h = h0
set_option maxRecDepth 65536 in
set_option maxHeartbeats 40000000 in
theorem own_rmCK (l : Launch) (Z : State) (a0 : Array Value) (hw : ∀ d ∈ tables_1, d.before a0 Z = true) (ws : List Jvm.Cond) (p1 p2 p3 : Int32) (G3 : Value) (h0 : Heap) (n0 : Nat) (O : Old Z n0 h0) (q1 : ¬ p1 < 0) (q2 : ¬ p2 < p1) (q3 : ¬ p3 < p2) (O4 : Sta Z Z.heap "jdk/internal/util/Preconditions" "SIOOBE_FORMATTER" "Ljava/util/function/BiFunction;" G3) (rG3 : G3.isRef = true) :
    MetFree l (⟨"java/lang/String", "checkBoundsBeginEnd", "(III)V"⟩ : MethodName) (head1 (Jvm.Cond.code (⟨"java/lang/String", "checkBoundsBeginEnd", "(III)V"⟩ : MethodName) jdk_42_method_158_code 3 none :: ws) ({ frames := 1, cells := 0, slots := 0, locals := 15 } : Room)) (fun aa U => aa = #[(.int p1), (.int p2), (.int p3)] ∧ Z.Warmed39 U.vm ∧ U.heap = h0) (fun _ _ _ _ _ => True) (fun _ U o U' => ∃ v L, o = .returned v ∧ (own_QCK Z p1 p2 p3 G3 h0 n0) v U'.heap L ∧ FrameEnd U o U' L ({ frames := 1, cells := 0, slots := 0, locals := 15 } : Room).cells ({ frames := 1, cells := 0, slots := 0, locals := 15 } : Room).slots) := by
  refine MetFree.of_bodySF (plainFor_of_name own_pn4) hisR ?_
  intro p e s m args below meth c s₁ Bd hml0 hP hK
  obtain ⟨rfl, hZ, hh⟩ := hP
  have hx := Bd.exec
  have hby := Bd.bytes
  have hml : c.maxLocals = 3 := hml0
  have hown : s.vm.findClass "java/lang/String" = some m.cls := findClass_of_methodNamed Bd.named
  have hnm := (name_of_methodNamed Bd.named Bd.method).1
  have X0 : Stand p l e ({ frames := 1, cells := 0, slots := 0, locals := 15 } : Room) s m #[(.int p1), (.int p2), (.int p3)] below meth c s₁ [] 0 0 := Stand.of_body Bd
  have e0 : s₁.heap = h0 := by rw [← hh, Bd.state]; rfl
  have N0 := Fr.nil n0
  refine Out.start (Q := own_QCK Z p1 p2 p3 G3 h0 n0) (own_efCK m p1 p2 p3 ) ?_
  refine Out.via (g' := (mkF m 1 #[.val (.int p1), .val (.int p2), .val (.int p3)] [(.int p1)])) (fun _ k => XS.iloadN X0.here hx rfl (hb hby own_d8_0) rfl k) ?_
  refine Out.via (g' := (mkF m 2 #[.val (.int p1), .val (.int p2), .val (.int p3)] [(.int p2), (.int p1)])) (fun _ k => XS.iloadN X0.here hx rfl (hb hby own_d8_1) rfl k) ?_
  refine Out.via (g' := (mkF m 3 #[.val (.int p1), .val (.int p2), .val (.int p3)] [(.int p3), (.int p2), (.int p1)])) (fun _ k => XS.iloadN X0.here hx rfl (hb hby own_d8_2) rfl k) ?_
  obtain ⟨T1, X1, e1, st1⟩ := getS2 X0 hx hZ hown (host := "") (Or.inl (hw _ (List.mem_of_getElem? (i := 82) rfl))) Via.refl e0 (O4.ext O.2) (g := (mkF m 3 #[.val (.int p1), .val (.int p2), .val (.int p3)] [(.int p3), (.int p2), (.int p1)])) rfl (hb hby own_d8_3)
  refine Out.via (g' := (mkF m 6 #[.val (.int p1), .val (.int p2), .val (.int p3)] [G3, (.int p3), (.int p2), (.int p1)])) st1 ?_
  obtain ⟨_, _, ⟨T2, L2, kc2, ks2⟩, -, X2, ⟨Lc2, hQ2, l2, y2, z2⟩, st2⟩ := Jvm.LawKit.callS X1 hx (y := (⟨"jdk/internal/util/Preconditions", "checkFromToIndex", "(IIILjava/util/function/BiFunction;)I"⟩ : MethodName)) hown (mvT hZ (hw _ (List.mem_of_getElem? (i := 84) rfl))) (mvT hZ (hw _ (List.mem_of_getElem? (i := 85) rfl))) (mvT hZ (hw _ (List.mem_of_getElem? (i := 83) rfl))) (mvT hZ (hw _ (List.mem_of_getElem? (i := 86) rfl))) (by decide) (backOf (W := 0) (own_rmFT l Z a0 hw [] p1 p2 p3 G3 h0 n0 O q1 q2 q3 rG3) hZ (hw _ (List.mem_of_getElem? (i := 86) rfl)) (hw _ (List.mem_of_getElem? (i := 83) rfl)) (by decide) (by decide)) (g := (mkF m 6 #[.val (.int p1), .val (.int p2), .val (.int p3)] [G3, (.int p3), (.int p2), (.int p1)])) rfl (by rw [hml]; rfl) (argsL := [(.int p1), (.int p2), (.int p3), G3]) (rest := []) (lenOf own_pd8 rfl) rfl (by show 2 * 0 + _ ≤ _; exact Nat.le_of_eq rfl) (hb hby own_d8_6) (fun _ _ => ⟨rfl, e1, (by decide : 0 + 0 ≤ _), (by decide : 0 + 0 ≤ _)⟩)
  dsimp only [Pt.U, Pt.locs, Pt.cells, Pt.slots] at X2 l2 y2 z2 st2 hQ2
  subst l2 y2 z2
  obtain ⟨rfl, Nq2, eq2⟩ := hQ2
  replace N0 := Fr.app N0 Nq2
  refine Out.via (g' := (mkF m 9 #[.val (.int p1), .val (.int p2), .val (.int p3)] [(.int p1)])) st2 ?_
  refine Out.via (g' := (mkF m 10 #[.val (.int p1), .val (.int p2), .val (.int p3)] [])) (fun _ k => XS.pop X2.here hx rfl (hb hby own_d8_9) rfl rfl k) ?_
  exact Out.endN X2 (fun _ => rfl) Bd.notSynchronized (by decide) (by decide) (by rw [eq2]; exact ⟨rfl, N0, rfl⟩) (fun fs hr => X2.returnOut hx Bd.returns (hb hby own_d8_10) hr)
theorem own_d9_0 : decode jdk_42_method_92_code 0 = .ok (.aload_n 0, 1) := by decide +kernel
theorem own_d9_1 : decode jdk_42_method_92_code 1 = .ok (.invokevirtual 505, 3) := by decide +kernel
theorem own_pd9 : parseMethodDescriptor "()I" = some ⟨[], some .int⟩ := by decide +kernel
theorem own_d9_4 : decode jdk_42_method_92_code 4 = .ok (.istore_n 3, 1) := by decide +kernel
theorem own_d9_5 : decode jdk_42_method_92_code 5 = .ok (.iload_n 1, 1) := by decide +kernel
theorem own_d9_6 : decode jdk_42_method_92_code 6 = .ok (.iload_n 2, 1) := by decide +kernel
theorem own_d9_7 : decode jdk_42_method_92_code 7 = .ok (.iload_n 3, 1) := by decide +kernel
theorem own_d9_8 : decode jdk_42_method_92_code 8 = .ok (.invokestatic 521, 3) := by decide +kernel
theorem own_pd10 : parseMethodDescriptor "(III)V" = some ⟨[.int, .int, .int], none⟩ := by decide +kernel
theorem own_d9_11 : decode jdk_42_method_92_code 11 = .ok (.iload_n 1, 1) := by decide +kernel
theorem own_d9_12 : decode jdk_42_method_92_code 12 = .ok (.ifCond .ne 10, 3) := by decide +kernel
theorem own_d9_15 : decode jdk_42_method_92_code 15 = .ok (.iload_n 2, 1) := by decide +kernel
theorem own_d9_16 : decode jdk_42_method_92_code 16 = .ok (.iload_n 3, 1) := by decide +kernel
theorem own_d9_17 : decode jdk_42_method_92_code 17 = .ok (.if_icmp .ne 5, 3) := by decide +kernel
theorem own_d9_20 : decode jdk_42_method_92_code 20 = .ok (.aload_n 0, 1) := by decide +kernel
theorem own_d9_21 : decode jdk_42_method_92_code 21 = .ok (.areturn, 1) := by decide +kernel
theorem own_d9_22 : decode jdk_42_method_92_code 22 = .ok (.iload_n 2, 1) := by decide +kernel
theorem own_d9_23 : decode jdk_42_method_92_code 23 = .ok (.iload_n 1, 1) := by decide +kernel
theorem own_d9_24 : decode jdk_42_method_92_code 24 = .ok (.isub, 1) := by decide +kernel
theorem own_d9_25 : decode jdk_42_method_92_code 25 = .ok (.istore 4, 2) := by decide +kernel
theorem own_d9_27 : decode jdk_42_method_92_code 27 = .ok (.aload_n 0, 1) := by decide +kernel
theorem own_d9_28 : decode jdk_42_method_92_code 28 = .ok (.invokevirtual 492, 3) := by decide +kernel
theorem own_pd11 : parseMethodDescriptor "()Z" = some ⟨[], some .boolean⟩ := by decide +kernel
theorem own_d9_31 : decode jdk_42_method_92_code 31 = .ok (.ifCond .eq 16, 3) := by decide +kernel
theorem own_d9_34 : decode jdk_42_method_92_code 34 = .ok (.aload_n 0, 1) := by decide +kernel
theorem own_d9_35 : decode jdk_42_method_92_code 35 = .ok (.getfield 9, 3) := by decide +kernel
theorem own_d9_38 : decode jdk_42_method_92_code 38 = .ok (.iload_n 1, 1) := by decide +kernel
theorem own_d9_39 : decode jdk_42_method_92_code 39 = .ok (.iload 4, 2) := by decide +kernel
theorem own_d9_41 : decode jdk_42_method_92_code 41 = .ok (.invokestatic 685, 3) := by decide +kernel
theorem own_pd12 : parseMethodDescriptor "([BII)Ljava/lang/String;" = some ⟨[(.array .byte), .int, .int], some (.object "java/lang/String")⟩ := by decide +kernel
theorem own_d9_44 : decode jdk_42_method_92_code 44 = .ok (.goto 13, 3) := by decide +kernel
theorem own_d9_57 : decode jdk_42_method_92_code 57 = .ok (.areturn, 1) := by decide +kernel
theorem own_efSU (m : MethodId) (x0 : Addr) (x1 : Int32) (x2 : Int32) : entryFrame m #[(.ref x0), (.int x1), (.int x2)] 5 = mkF m 0 #[.val (.ref x0), .val (.int x1), .val (.int x2), .unset, .unset] [] := by first | (simp [entryFrame, mkF, argsToLocals, Value.category]; done) | rfl
abbrev own_QSU (Z : State) (x : Addr) (ch : Int32) (i n : Nat) (G1 : Int32) (G3 : Value) (h0 : Heap) (n0 : Nat) : Option Value → Heap → List Loc → Prop := fun v h L => ∃ (b : Addr) (cs : List Int32), v = some (.ref b) ∧ Fr n0 L ∧ Keep h0 h [] ∧ cs.length = n ∧ own_Str Z h b cs
set_option maxRecDepth 65536 in
set_option maxHeartbeats 40000000 in
theorem own_rmSU (l : Launch) (Z : State) (a0 : Array Value) (hw : ∀ d ∈ tables_1, d.before a0 Z = true) (ws : List Jvm.Cond) (x : Addr) (ch : Int32) (i n : Nat) (G1 : Int32) (G3 : Value) (h0 : Heap) (n0 : Nat) (O : Old Z n0 h0) (hin : i + n ≤ 8) (Sx : own_Str Z h0 x (List.replicate 8 ch)) (hl : own_lat ch) (O2 : Sta Z Z.heap "java/lang/String" "COMPACT_STRINGS" "Z" (.int G1)) (P5 : ¬ (G1 = (0 : Int32))) (O4 : Sta Z Z.heap "jdk/internal/util/Preconditions" "SIOOBE_FORMATTER" "Ljava/util/function/BiFunction;" G3) (rG3 : G3.isRef = true) :
    MetFree l (⟨"java/lang/String", "substring", "(II)Ljava/lang/String;"⟩ : MethodName) (head1 (Jvm.Cond.code (⟨"java/lang/String", "substring", "(II)Ljava/lang/String;"⟩ : MethodName) jdk_42_method_92_code 5 (some (.object "java/lang/String")) :: ws) ({ frames := 4, cells := 2, slots := 12, locals := 86 } : Room)) (fun aa U => aa = #[(.ref x), (.int (Int32.ofNat i)), (.int (Int32.ofNat (i + n)))] ∧ Z.Warmed39 U.vm ∧ U.heap = h0 ∧ CHv Z own_EL U.vm h0) (fun _ _ _ _ _ => True) (fun _ U o U' => ∃ v L, o = .returned v ∧ (own_QSU Z x ch i n G1 G3 h0 n0) v U'.heap L ∧ CHr Z own_EL U.vm U.heap U'.vm U'.heap ∧ ReturnedEndW U o U' L ({ frames := 4, cells := 2, slots := 12, locals := 86 } : Room).cells ({ frames := 4, cells := 2, slots := 12, locals := 86 } : Room).slots) := by
  refine MetFree.of_bodySF (plainFor_of_name own_pn4) hisR ?_
  intro p e s m args below meth c s₁ Bd hml0 hP hK
  obtain ⟨rfl, hZ, hh, hCH⟩ := hP
  have hx := Bd.exec
  have hby := Bd.bytes
  have hml : c.maxLocals = 5 := hml0
  have hown : s.vm.findClass "java/lang/String" = some m.cls := findClass_of_methodNamed Bd.named
  have hnm := (name_of_methodNamed Bd.named Bd.method).1
  have X0 : Stand p l e ({ frames := 4, cells := 2, slots := 12, locals := 86 } : Room) (s.setVm s.vm) m #[(.ref x), (.int (Int32.ofNat i)), (.int (Int32.ofNat (i + n)))] below meth c s₁ [] 0 0 := Stand.of_body Bd
  have e0 : s₁.heap = h0 := by rw [← hh, Bd.state]; rfl
  have N0 := Fr.nil n0
  have hS := own_since0 s 0
  have hk : 0 ≤ h0.size := Nat.zero_le _
  have CR : CHr Z own_EL s.vm h0 s.vm h0 := CHr.refl hCH
  refine Out.startH (Q := own_QSU Z x ch i n G1 G3 h0 n0) (own_efSU m x (Int32.ofNat i) (Int32.ofNat (i + n)) ) ?_
  have hEL := own_hEL hw
  have t7 := own_t7 ⟨i, by omega⟩ ⟨n, by omega⟩ hin
  have hSx := Sx
  obtain ⟨g1, g2, g3, tt, kt, g4, g5⟩ := hSx
  refine Out.via (g' := (mkF m 1 #[.val (.ref x), .val (.int (Int32.ofNat i)), .val (.int (Int32.ofNat (i + n))), .unset, .unset] [(.ref x)])) (fun _ k => XS.aloadN X0.here hx rfl (hb hby own_d9_0) rfl rfl k) ?_
  obtain ⟨cq1, kq1, q1a, q1b, q1c⟩ := isOf hZ e0 g2
  obtain ⟨_, _, ⟨T1, L1, kc1, ks1⟩, -, X1, ⟨Lc1, hQ1, l1, y1, z1⟩, st1⟩ := X0.virtualBack hx (y := (⟨"java/lang/String", "length", "()I"⟩ : MethodName)) (z := (⟨"java/lang/String", "length", "()I"⟩ : MethodName)) hown (mvT hZ (hw _ (List.mem_of_getElem? (i := 69) rfl))) (mvT hZ (hw _ (List.mem_of_getElem? (i := 70) rfl))) (notFace_of_selects (args := #[]) (mvT hZ (hw _ (List.mem_of_getElem? (i := 72) rfl)))) (mvT hZ (hw _ (List.mem_of_getElem? (i := 72) rfl))) (mvT hZ (hw _ (List.mem_of_getElem? (i := 71) rfl))) (by decide) (own_lenB (W := 0) hZ hw (kI := 4) (hw _ (List.mem_of_getElem? (i := 3) rfl)) Sx (O2.ext O.2) P5 (by rw [List.length_replicate]; decide) (by decide) (by decide)) q1a q1c (g := (mkF m 1 #[.val (.ref x), .val (.int (Int32.ofNat i)), .val (.int (Int32.ofNat (i + n))), .unset, .unset] [(.ref x)])) rfl (by rw [hml]; rfl) (Steps.refl _) (argsL := []) (rest := []) (lenOf own_pd9 rfl) rfl (by show 2 * 0 + _ ≤ _; exact Nat.le_of_eq rfl) (hb hby own_d9_1) (fun _ _ => ⟨rfl, e0, (by decide : 0 + 0 ≤ _), (by decide : 0 + 0 ≤ _)⟩)
  dsimp only [Pt.U, Pt.locs, Pt.cells, Pt.slots] at X1 l1 y1 z1 st1 hQ1
  subst l1 y1 z1
  obtain ⟨rfl, rfl, eq1⟩ := hQ1
  replace N0 := Fr.app N0 (Fr.nil n0)
  refine Out.to (g' := (mkF m 4 #[.val (.ref x), .val (.int (Int32.ofNat i)), .val (.int (Int32.ofNat (i + n))), .unset, .unset] [(.int (8 : Int32))])) st1 ?_
  refine Out.via (g' := (mkF m 5 #[.val (.ref x), .val (.int (Int32.ofNat i)), .val (.int (Int32.ofNat (i + n))), .val (.int (8 : Int32)), .unset] [])) (fun _ k => XS.istoreN X1.here hx rfl (hb hby own_d9_4) rfl (l' := #[.val (.ref x), .val (.int (Int32.ofNat i)), .val (.int (Int32.ofNat (i + n))), .val (.int (8 : Int32)), .unset]) rfl k) ?_
  refine Out.via (g' := (mkF m 6 #[.val (.ref x), .val (.int (Int32.ofNat i)), .val (.int (Int32.ofNat (i + n))), .val (.int (8 : Int32)), .unset] [(.int (Int32.ofNat i))])) (fun _ k => XS.iloadN X1.here hx rfl (hb hby own_d9_5) rfl k) ?_
  refine Out.via (g' := (mkF m 7 #[.val (.ref x), .val (.int (Int32.ofNat i)), .val (.int (Int32.ofNat (i + n))), .val (.int (8 : Int32)), .unset] [(.int (Int32.ofNat (i + n))), (.int (Int32.ofNat i))])) (fun _ k => XS.iloadN X1.here hx rfl (hb hby own_d9_6) rfl k) ?_
  refine Out.via (g' := (mkF m 8 #[.val (.ref x), .val (.int (Int32.ofNat i)), .val (.int (Int32.ofNat (i + n))), .val (.int (8 : Int32)), .unset] [(.int (8 : Int32)), (.int (Int32.ofNat (i + n))), (.int (Int32.ofNat i))])) (fun _ k => XS.iloadN X1.here hx rfl (hb hby own_d9_7) rfl k) ?_
  obtain ⟨_, _, ⟨T2, L2, kc2, ks2⟩, -, X2, ⟨Lc2, hQ2, l2, y2, z2⟩, st2⟩ := Jvm.LawKit.callS X1 hx (y := (⟨"java/lang/String", "checkBoundsBeginEnd", "(III)V"⟩ : MethodName)) hown (mvT hZ (hw _ (List.mem_of_getElem? (i := 79) rfl))) (mvT hZ (hw _ (List.mem_of_getElem? (i := 80) rfl))) (mvT hZ (hw _ (List.mem_of_getElem? (i := 4) rfl))) (mvT hZ (hw _ (List.mem_of_getElem? (i := 81) rfl))) (by decide) (backOf (W := 0) (own_rmCK l Z a0 hw [] (Int32.ofNat i) (Int32.ofNat (i + n)) (8 : Int32) G3 h0 n0 O t7.1 t7.2.1 t7.2.2.1 O4 rG3) hZ (hw _ (List.mem_of_getElem? (i := 81) rfl)) (hw _ (List.mem_of_getElem? (i := 4) rfl)) (by decide) (by decide)) (g := (mkF m 8 #[.val (.ref x), .val (.int (Int32.ofNat i)), .val (.int (Int32.ofNat (i + n))), .val (.int (8 : Int32)), .unset] [(.int (8 : Int32)), (.int (Int32.ofNat (i + n))), (.int (Int32.ofNat i))])) rfl (by rw [hml]; rfl) (argsL := [(.int (Int32.ofNat i)), (.int (Int32.ofNat (i + n))), (.int (8 : Int32))]) (rest := []) (lenOf own_pd10 rfl) rfl (by show 2 * 0 + _ ≤ _; exact Nat.le_of_eq rfl) (hb hby own_d9_8) (fun _ _ => ⟨rfl, eq1, (by decide : 0 + 0 ≤ _), (by decide : 0 + 0 ≤ _)⟩)
  dsimp only [Pt.U, Pt.locs, Pt.cells, Pt.slots] at X2 l2 y2 z2 st2 hQ2
  subst l2 y2 z2
  obtain ⟨rfl, Nq2, eq2⟩ := hQ2
  replace N0 := Fr.app N0 Nq2
  refine Out.via (g' := (mkF m 11 #[.val (.ref x), .val (.int (Int32.ofNat i)), .val (.int (Int32.ofNat (i + n))), .val (.int (8 : Int32)), .unset] [])) st2 ?_
  refine Out.via (g' := (mkF m 12 #[.val (.ref x), .val (.int (Int32.ofNat i)), .val (.int (Int32.ofNat (i + n))), .val (.int (8 : Int32)), .unset] [(.int (Int32.ofNat i))])) (fun _ k => XS.iloadN X2.here hx rfl (hb hby own_d9_11) rfl k) ?_
  by_cases hful : i = 0 ∧ n = 8
  · obtain ⟨rfl, rfl⟩ := hful
    refine Out.via (g' := (mkF m 15 #[.val (.ref x), .val (.int (Int32.ofNat 0)), .val (.int (Int32.ofNat (0 + 8))), .val (.int (8 : Int32)), .unset] [])) (fun _ k => XS.ifNo X2.here hx rfl (hb hby own_d9_12) rfl ((if0 _ _).trans (teq rfl).2) k) ?_
    refine Out.via (g' := (mkF m 16 #[.val (.ref x), .val (.int (Int32.ofNat 0)), .val (.int (Int32.ofNat (0 + 8))), .val (.int (8 : Int32)), .unset] [(.int (Int32.ofNat (0 + 8)))])) (fun _ k => XS.iloadN X2.here hx rfl (hb hby own_d9_15) rfl k) ?_
    refine Out.via (g' := (mkF m 17 #[.val (.ref x), .val (.int (Int32.ofNat 0)), .val (.int (Int32.ofNat (0 + 8))), .val (.int (8 : Int32)), .unset] [(.int (8 : Int32)), (.int (Int32.ofNat (0 + 8)))])) (fun _ k => XS.iloadN X2.here hx rfl (hb hby own_d9_16) rfl k) ?_
    refine Out.via (g' := (mkF m 20 #[.val (.ref x), .val (.int (Int32.ofNat 0)), .val (.int (Int32.ofNat (0 + 8))), .val (.int (8 : Int32)), .unset] [])) (fun _ k => XS.icmpNo X2.here hx rfl (hb hby own_d9_17) rfl (teq rfl).2 k) ?_
    refine Out.via (g' := (mkF m 21 #[.val (.ref x), .val (.int (Int32.ofNat 0)), .val (.int (Int32.ofNat (0 + 8))), .val (.int (8 : Int32)), .unset] [(.ref x)])) (fun _ k => XS.aloadN X2.here hx rfl (hb hby own_d9_20) rfl rfl k) ?_
    exact Out.endH X2 hS (by rw [eq2]; exact hk) hZ hEL (by rw [hh, eq2]; exact CR) (fun h => by rw [Bd.returns] at h; cases h) Bd.notSynchronized (by decide) (by decide) (by rw [eq2]; exact ⟨x, (List.replicate 8 ch), rfl, N0, Keep.refl _ _, List.length_replicate, Sx⟩) (fun fs hr => own_retR X2 hx (t := (.object "java/lang/String")) Bd.returns rfl rfl rfl (hb hby own_d9_21) hr)
  · suffices rest : RoadKit.Out p.tables e below (EndH Z own_EL s below (fun v h L => ∃ (b : Addr) (cs : List Int32), v = some (.ref b) ∧ Fr n0 L ∧ Keep h0 h [] ∧ cs.length = n ∧ own_Str Z h b cs) ({ frames := 4, cells := 2, slots := 12, locals := 86 } : Room).cells ({ frames := 4, cells := 2, slots := 12, locals := 86 } : Room).slots) T2 (mkF m 22 #[.val (.ref x), .val (.int (Int32.ofNat i)), .val (.int (Int32.ofNat (i + n))), .val (.int (8 : Int32)), .unset] []) by
      by_cases hz : (Int32.ofNat i) = (0 : Int32)
      · refine Out.via (g' := (mkF m 15 #[.val (.ref x), .val (.int (Int32.ofNat i)), .val (.int (Int32.ofNat (i + n))), .val (.int (8 : Int32)), .unset] [])) (fun _ k => XS.ifNo X2.here hx rfl (hb hby own_d9_12) rfl ((if0 _ _).trans (teq hz).2) k) ?_
        refine Out.via (g' := (mkF m 16 #[.val (.ref x), .val (.int (Int32.ofNat i)), .val (.int (Int32.ofNat (i + n))), .val (.int (8 : Int32)), .unset] [(.int (Int32.ofNat (i + n)))])) (fun _ k => XS.iloadN X2.here hx rfl (hb hby own_d9_15) rfl k) ?_
        refine Out.via (g' := (mkF m 17 #[.val (.ref x), .val (.int (Int32.ofNat i)), .val (.int (Int32.ofNat (i + n))), .val (.int (8 : Int32)), .unset] [(.int (8 : Int32)), (.int (Int32.ofNat (i + n)))])) (fun _ k => XS.iloadN X2.here hx rfl (hb hby own_d9_16) rfl k) ?_
        refine Out.via (g' := (mkF m 22 #[.val (.ref x), .val (.int (Int32.ofNat i)), .val (.int (Int32.ofNat (i + n))), .val (.int (8 : Int32)), .unset] [])) (fun _ k => XS.icmpYes X2.here hx rfl (pc0 := 17) (pc' := 22) rfl (hb hby own_d9_17) rfl (feq (fun q => hful (t7.2.2.2.2.2 hz q))).2 (by decide) (by decide) k) ?_
        exact rest
      · refine Out.via (g' := (mkF m 22 #[.val (.ref x), .val (.int (Int32.ofNat i)), .val (.int (Int32.ofNat (i + n))), .val (.int (8 : Int32)), .unset] [])) (fun _ k => XS.ifYes X2.here hx rfl (pc0 := 12) (pc' := 22) rfl (hb hby own_d9_12) rfl ((if0 _ _).trans (feq hz).2) (by decide) (by decide) k) ?_
        exact rest
    refine Out.via (g' := (mkF m 23 #[.val (.ref x), .val (.int (Int32.ofNat i)), .val (.int (Int32.ofNat (i + n))), .val (.int (8 : Int32)), .unset] [(.int (Int32.ofNat (i + n)))])) (fun _ k => XS.iloadN X2.here hx rfl (hb hby own_d9_22) rfl k) ?_
    refine Out.via (g' := (mkF m 24 #[.val (.ref x), .val (.int (Int32.ofNat i)), .val (.int (Int32.ofNat (i + n))), .val (.int (8 : Int32)), .unset] [(.int (Int32.ofNat i)), (.int (Int32.ofNat (i + n)))])) (fun _ k => XS.iloadN X2.here hx rfl (hb hby own_d9_23) rfl k) ?_
    refine Out.via (g' := (mkF m 25 #[.val (.ref x), .val (.int (Int32.ofNat i)), .val (.int (Int32.ofNat (i + n))), .val (.int (8 : Int32)), .unset] [(.int ((Int32.ofNat (i + n)) - (Int32.ofNat i)))])) (fun _ k => XS.isub X2.here hx rfl (hb hby own_d9_24) rfl k) ?_
    refine Out.via (g' := (mkF m 27 #[.val (.ref x), .val (.int (Int32.ofNat i)), .val (.int (Int32.ofNat (i + n))), .val (.int (8 : Int32)), .val (.int ((Int32.ofNat (i + n)) - (Int32.ofNat i)))] [])) (fun _ k => XS.istore X2.here hx rfl (hb hby own_d9_25) rfl (l' := #[.val (.ref x), .val (.int (Int32.ofNat i)), .val (.int (Int32.ofNat (i + n))), .val (.int (8 : Int32)), .val (.int ((Int32.ofNat (i + n)) - (Int32.ofNat i)))]) rfl k) ?_
    rw [t7.2.2.2.1]
    show RoadKit.Out p.tables e below _ T2 (mkF m 27 #[.val (.ref x), .val (.int (Int32.ofNat i)), .val (.int (Int32.ofNat (i + n))), .val (.int (8 : Int32)), .val (.int (Int32.ofNat n))] [])
    refine Out.via (g' := (mkF m 28 #[.val (.ref x), .val (.int (Int32.ofNat i)), .val (.int (Int32.ofNat (i + n))), .val (.int (8 : Int32)), .val (.int (Int32.ofNat n))] [(.ref x)])) (fun _ k => XS.aloadN X2.here hx rfl (hb hby own_d9_27) rfl rfl k) ?_
    obtain ⟨cq3, kq3, q3a, q3b, q3c⟩ := isOf hZ eq2 g2
    obtain ⟨_, _, ⟨T3, L3, kc3, ks3⟩, -, X3, ⟨Lc3, hQ3, l3, y3, z3⟩, st3⟩ := X2.virtualBack hx (y := (⟨"java/lang/String", "isLatin1", "()Z"⟩ : MethodName)) (z := (⟨"java/lang/String", "isLatin1", "()Z"⟩ : MethodName)) hown (mvT hZ (hw _ (List.mem_of_getElem? (i := 87) rfl))) (mvT hZ (hw _ (List.mem_of_getElem? (i := 88) rfl))) (notFace_of_selects (args := #[]) (mvT hZ (hw _ (List.mem_of_getElem? (i := 90) rfl)))) (mvT hZ (hw _ (List.mem_of_getElem? (i := 90) rfl))) (mvT hZ (hw _ (List.mem_of_getElem? (i := 89) rfl))) (by decide) (backOf (W := 0) (own_rmIL l Z a0 hw [] x G1 h0 n0 O g3 O2 P5) hZ (hw _ (List.mem_of_getElem? (i := 91) rfl)) (hw _ (List.mem_of_getElem? (i := 4) rfl)) (by decide) (by decide)) q3a q3c (g := (mkF m 28 #[.val (.ref x), .val (.int (Int32.ofNat i)), .val (.int (Int32.ofNat (i + n))), .val (.int (8 : Int32)), .val (.int (Int32.ofNat n))] [(.ref x)])) rfl (by rw [hml]; rfl) (Steps.refl _) (argsL := []) (rest := []) (lenOf own_pd11 rfl) rfl (by show 2 * 0 + _ ≤ _; exact Nat.le_of_eq rfl) (hb hby own_d9_28) (fun _ _ => ⟨rfl, eq2, (by decide : 0 + 0 ≤ _), (by decide : 0 + 0 ≤ _)⟩)
    dsimp only [Pt.U, Pt.locs, Pt.cells, Pt.slots] at X3 l3 y3 z3 st3 hQ3
    subst l3 y3 z3
    obtain ⟨rfl, Nq3, eq3⟩ := hQ3
    replace N0 := Fr.app N0 Nq3
    refine Out.to (g' := (mkF m 31 #[.val (.ref x), .val (.int (Int32.ofNat i)), .val (.int (Int32.ofNat (i + n))), .val (.int (8 : Int32)), .val (.int (Int32.ofNat n))] [(.int (1 : Int32))])) st3 ?_
    refine Out.via (g' := (mkF m 34 #[.val (.ref x), .val (.int (Int32.ofNat i)), .val (.int (Int32.ofNat (i + n))), .val (.int (8 : Int32)), .val (.int (Int32.ofNat n))] [])) (fun _ k => XS.ifNo X3.here hx rfl (hb hby own_d9_31) rfl ((if0 _ _).trans (feq (by decide)).1) k) ?_
    refine Out.via (g' := (mkF m 35 #[.val (.ref x), .val (.int (Int32.ofNat i)), .val (.int (Int32.ofNat (i + n))), .val (.int (8 : Int32)), .val (.int (Int32.ofNat n))] [(.ref x)])) (fun _ k => XS.aloadN X3.here hx rfl (hb hby own_d9_34) rfl rfl k) ?_
    obtain ⟨T4, X4, e4, st4⟩ := getF X3 hx hZ hown (host := "") (Or.inl (hw _ (List.mem_of_getElem? (i := 29) rfl))) Via.refl eq3 g4 (g := (mkF m 35 #[.val (.ref x), .val (.int (Int32.ofNat i)), .val (.int (Int32.ofNat (i + n))), .val (.int (8 : Int32)), .val (.int (Int32.ofNat n))] [(.ref x)])) rfl rfl (hb hby own_d9_35)
    refine Out.via (g' := (mkF m 38 #[.val (.ref x), .val (.int (Int32.ofNat i)), .val (.int (Int32.ofNat (i + n))), .val (.int (8 : Int32)), .val (.int (Int32.ofNat n))] [(.ref tt)])) st4 ?_
    refine Out.via (g' := (mkF m 39 #[.val (.ref x), .val (.int (Int32.ofNat i)), .val (.int (Int32.ofNat (i + n))), .val (.int (8 : Int32)), .val (.int (Int32.ofNat n))] [(.int (Int32.ofNat i)), (.ref tt)])) (fun _ k => XS.iloadN X4.here hx rfl (hb hby own_d9_38) rfl k) ?_
    refine Out.via (g' := (mkF m 41 #[.val (.ref x), .val (.int (Int32.ofNat i)), .val (.int (Int32.ofNat (i + n))), .val (.int (8 : Int32)), .val (.int (Int32.ofNat n))] [(.int (Int32.ofNat n)), (.int (Int32.ofNat i)), (.ref tt)])) (fun _ k => XS.iload X4.here hx rfl (hb hby own_d9_39) rfl k) ?_
    have g5' : Arv Z h0 tt kt .byte (8 : Int32) (((List.replicate 8 ch).map (fun c => c.toInt8.toInt32)).map Value.int) (.int (0 : Int32)) := by rw [List.length_replicate] at g5; exact g5
    obtain ⟨_, _, ⟨T5, L5, kc5, ks5⟩, -, X5, hS5, hg5, ⟨Lc5, hQ5, l5, y5, z5, CR5⟩, st5⟩ := callSS X4 hx (y := (⟨"java/lang/StringLatin1", "newString", "([BII)Ljava/lang/String;"⟩ : MethodName)) hown (mvT hZ (hw _ (List.mem_of_getElem? (i := 92) rfl))) (mvT hZ (hw _ (List.mem_of_getElem? (i := 93) rfl))) (mvT hZ (hw _ (List.mem_of_getElem? (i := 94) rfl))) (mvT hZ (hw _ (List.mem_of_getElem? (i := 95) rfl))) (by decide) (backOfSH (W := 0) (own_rmN l Z a0 hw [] tt kt ch i n h0 n0 O hin g5' hful hl) hZ (hw _ (List.mem_of_getElem? (i := 95) rfl)) (hw _ (List.mem_of_getElem? (i := 94) rfl)) (by decide) (by decide) hEL CR.1) (g := (mkF m 41 #[.val (.ref x), .val (.int (Int32.ofNat i)), .val (.int (Int32.ofNat (i + n))), .val (.int (8 : Int32)), .val (.int (Int32.ofNat n))] [(.int (Int32.ofNat n)), (.int (Int32.ofNat i)), (.ref tt)])) rfl (by rw [hml]; rfl) (argsL := [(.ref tt), (.int (Int32.ofNat i)), (.int (Int32.ofNat n))]) (rest := []) (lenOf own_pd12 rfl) rfl (by show 2 * 0 + _ ≤ _; exact Nat.le_of_eq rfl) (hb hby own_d9_41) (fun _ _ => ⟨rfl, e4, (by decide : 0 + 2 ≤ _), (by decide : 0 + 12 ≤ _)⟩)
    dsimp only [Pt.U, Pt.locs, Pt.cells, Pt.slots] at X5 l5 y5 z5 st5 hQ5 hS5 hg5 CR5
    subst l5 y5 z5
    rw [e4] at hg5
    obtain ⟨X5, hS, hZ, hown⟩ := rebS hS hk X5 hS5 hg5 hZ hown
    replace hk := Nat.le_refl T5.heap.size
    replace CR := CR.trans CR5
    obtain ⟨u, cs, rfl, Nq, Kq, lcs, Su⟩ := hQ5
    refine Out.to (g' := (mkF m 44 #[.val (.ref x), .val (.int (Int32.ofNat i)), .val (.int (Int32.ofNat (i + n))), .val (.int (8 : Int32)), .val (.int (Int32.ofNat n))] [(.ref u)])) st5 ?_
    refine Out.via (g' := (mkF m 57 #[.val (.ref x), .val (.int (Int32.ofNat i)), .val (.int (Int32.ofNat (i + n))), .val (.int (8 : Int32)), .val (.int (Int32.ofNat n))] [(.ref u)])) (fun _ k => XS.goto X5.here hx rfl (pc0 := 44) (pc' := 57) rfl (hb hby own_d9_44) (by decide) (by decide) k) ?_
    exact Out.endH X5 hS hk hZ hEL (by rw [hh]; exact CR) (fun h => by rw [Bd.returns] at h; cases h) Bd.notSynchronized (by decide) (by decide) (⟨u, cs, rfl, Fr.app N0 Nq, Kq, lcs, Su⟩) (fun fs hr => own_retR X5 hx (t := (.object "java/lang/String")) Bd.returns rfl rfl rfl (hb hby own_d9_57) hr)
theorem own_t8 : ∀ i : Fin 9, Int32.ofNat (i.val + 1) - (1 : Int32) = Int32.ofNat i.val := by decide +kernel
theorem own_pn13 : plainName "com/example/talao/talao/Field" = true := by first | (simp [plainName, overriddenIn]; done) | decide +kernel
theorem own_d10_0 : decode prog_66_method_2_code 0 = .ok (.aload_n 1, 1) := by decide +kernel
theorem own_d10_1 : decode prog_66_method_2_code 1 = .ok (.aload_n 0, 1) := by decide +kernel
theorem own_d10_2 : decode prog_66_method_2_code 2 = .ok (.getfield 13, 3) := by decide +kernel
theorem own_d10_5 : decode prog_66_method_2_code 5 = .ok (.iconst 1, 1) := by decide +kernel
theorem own_d10_6 : decode prog_66_method_2_code 6 = .ok (.isub, 1) := by decide +kernel
theorem own_d10_7 : decode prog_66_method_2_code 7 = .ok (.aload_n 0, 1) := by decide +kernel
theorem own_d10_8 : decode prog_66_method_2_code 8 = .ok (.getfield 17, 3) := by decide +kernel
theorem own_d10_11 : decode prog_66_method_2_code 11 = .ok (.invokevirtual 24, 3) := by decide +kernel
theorem own_pd14 : parseMethodDescriptor "(II)Ljava/lang/String;" = some ⟨[.int, .int], some (.object "java/lang/String")⟩ := by decide +kernel
theorem own_d10_14 : decode prog_66_method_2_code 14 = .ok (.areturn, 1) := by decide +kernel
theorem own_efIN (m : MethodId) (x0 : Addr) (x1 : Addr) : entryFrame m #[(.ref x0), (.ref x1)] 2 = mkF m 0 #[.val (.ref x0), .val (.ref x1)] [] := by first | (simp [entryFrame, mkF, argsToLocals, Value.category]; done) | rfl
abbrev own_QIN (Z : State) (f x : Addr) (ch : Int32) (i n : Nat) (G1 : Int32) (G3 : Value) (h0 : Heap) (n0 : Nat) : Option Value → Heap → List Loc → Prop := fun v h L => ∃ (b : Addr) (cs : List Int32), v = some (.ref b) ∧ Fr n0 L ∧ Keep h0 h [] ∧ cs.length = n ∧ own_Str Z h b cs
set_option maxRecDepth 65536 in
set_option maxHeartbeats 40000000 in
theorem own_rmIN (l : Launch) (Z : State) (a0 : Array Value) (hw : ∀ d ∈ tables_1, d.before a0 Z = true) (ws : List Jvm.Cond) (f x : Addr) (ch : Int32) (i n : Nat) (G1 : Int32) (G3 : Value) (h0 : Heap) (n0 : Nat) (O : Old Z n0 h0) (F1 : Fld Z h0 f "com/example/talao/talao/Field" "start" "I" (.int (Int32.ofNat (i + 1)))) (F2 : Fld Z h0 f "com/example/talao/talao/Field" "end" "I" (.int (Int32.ofNat (i + n)))) (hin : i + n ≤ 8) (Sx : own_Str Z h0 x (List.replicate 8 ch)) (hl : own_lat ch) (O2 : Sta Z Z.heap "java/lang/String" "COMPACT_STRINGS" "Z" (.int G1)) (P5 : ¬ (G1 = (0 : Int32))) (O4 : Sta Z Z.heap "jdk/internal/util/Preconditions" "SIOOBE_FORMATTER" "Ljava/util/function/BiFunction;" G3) (rG3 : G3.isRef = true) :
    MetFree l (⟨"com/example/talao/talao/Field", "in", "(Ljava/lang/String;)Ljava/lang/String;"⟩ : MethodName) (head1 (Jvm.Cond.code (⟨"com/example/talao/talao/Field", "in", "(Ljava/lang/String;)Ljava/lang/String;"⟩ : MethodName) prog_66_method_2_code 2 (some (.object "java/lang/String")) :: ws) ({ frames := 5, cells := 2, slots := 12, locals := 102 } : Room)) (fun aa U => aa = #[(.ref f), (.ref x)] ∧ Z.Warmed39 U.vm ∧ U.heap = h0 ∧ CHv Z own_EL U.vm h0) (fun _ _ _ _ _ => True) (fun _ U o U' => ∃ v L, o = .returned v ∧ (own_QIN Z f x ch i n G1 G3 h0 n0) v U'.heap L ∧ CHr Z own_EL U.vm U.heap U'.vm U'.heap ∧ ReturnedEndW U o U' L ({ frames := 5, cells := 2, slots := 12, locals := 102 } : Room).cells ({ frames := 5, cells := 2, slots := 12, locals := 102 } : Room).slots) := by
  refine MetFree.of_bodySF (plainFor_of_name own_pn13) hisR ?_
  intro p e s m args below meth c s₁ Bd hml0 hP hK
  obtain ⟨rfl, hZ, hh, hCH⟩ := hP
  have hx := Bd.exec
  have hby := Bd.bytes
  have hml : c.maxLocals = 2 := hml0
  have hown : s.vm.findClass "com/example/talao/talao/Field" = some m.cls := findClass_of_methodNamed Bd.named
  have hnm := (name_of_methodNamed Bd.named Bd.method).1
  have X0 : Stand p l e ({ frames := 5, cells := 2, slots := 12, locals := 102 } : Room) (s.setVm s.vm) m #[(.ref f), (.ref x)] below meth c s₁ [] 0 0 := Stand.of_body Bd
  have e0 : s₁.heap = h0 := by rw [← hh, Bd.state]; rfl
  have N0 := Fr.nil n0
  have hS := own_since0 s 0
  have hk : 0 ≤ h0.size := Nat.zero_le _
  have CR : CHr Z own_EL s.vm h0 s.vm h0 := CHr.refl hCH
  refine Out.startH (Q := own_QIN Z f x ch i n G1 G3 h0 n0) (own_efIN m f x ) ?_
  have hEL := own_hEL hw
  refine Out.via (g' := (mkF m 1 #[.val (.ref f), .val (.ref x)] [(.ref x)])) (fun _ k => XS.aloadN X0.here hx rfl (hb hby own_d10_0) rfl rfl k) ?_
  refine Out.via (g' := (mkF m 2 #[.val (.ref f), .val (.ref x)] [(.ref f), (.ref x)])) (fun _ k => XS.aloadN X0.here hx rfl (hb hby own_d10_1) rfl rfl k) ?_
  obtain ⟨T1, X1, e1, st1⟩ := getF X0 hx hZ hown (host := "") (Or.inl (hw _ (List.mem_of_getElem? (i := 48) rfl))) Via.refl e0 F1 (g := (mkF m 2 #[.val (.ref f), .val (.ref x)] [(.ref f), (.ref x)])) rfl rfl (hb hby own_d10_2)
  refine Out.via (g' := (mkF m 5 #[.val (.ref f), .val (.ref x)] [(.int (Int32.ofNat (i + 1))), (.ref x)])) st1 ?_
  refine Out.via (g' := (mkF m 6 #[.val (.ref f), .val (.ref x)] [(.int (1 : Int32)), (.int (Int32.ofNat (i + 1))), (.ref x)])) (fun _ k => XS.iconst X1.here hx rfl (hb hby own_d10_5) k) ?_
  refine Out.via (g' := (mkF m 7 #[.val (.ref f), .val (.ref x)] [(.int ((Int32.ofNat (i + 1)) - (1 : Int32))), (.ref x)])) (fun _ k => XS.isub X1.here hx rfl (hb hby own_d10_6) rfl k) ?_
  rw [own_t8 ⟨i, by omega⟩]
  show RoadKit.Out p.tables e below _ T1 (mkF m 7 #[.val (.ref f), .val (.ref x)] [(.int (Int32.ofNat i)), (.ref x)])
  refine Out.via (g' := (mkF m 8 #[.val (.ref f), .val (.ref x)] [(.ref f), (.int (Int32.ofNat i)), (.ref x)])) (fun _ k => XS.aloadN X1.here hx rfl (hb hby own_d10_7) rfl rfl k) ?_
  obtain ⟨T2, X2, e2, st2⟩ := getF X1 hx hZ hown (host := "") (Or.inl (hw _ (List.mem_of_getElem? (i := 50) rfl))) Via.refl e1 F2 (g := (mkF m 8 #[.val (.ref f), .val (.ref x)] [(.ref f), (.int (Int32.ofNat i)), (.ref x)])) rfl rfl (hb hby own_d10_8)
  refine Out.via (g' := (mkF m 11 #[.val (.ref f), .val (.ref x)] [(.int (Int32.ofNat (i + n))), (.int (Int32.ofNat i)), (.ref x)])) st2 ?_
  obtain ⟨cq3, kq3, q3a, q3b, q3c⟩ := isOf hZ e2 Sx.2.1
  obtain ⟨_, _, ⟨T3, L3, kc3, ks3⟩, -, X3, hS3, hg3, ⟨Lc3, hQ3, l3, y3, z3, CR3⟩, st3⟩ := X2.virtualBackS hx (y := (⟨"java/lang/String", "substring", "(II)Ljava/lang/String;"⟩ : MethodName)) (z := (⟨"java/lang/String", "substring", "(II)Ljava/lang/String;"⟩ : MethodName)) hown (mvT hZ (hw _ (List.mem_of_getElem? (i := 64) rfl))) (mvT hZ (hw _ (List.mem_of_getElem? (i := 65) rfl))) (notFace_of_selects (args := #[]) (mvT hZ (hw _ (List.mem_of_getElem? (i := 67) rfl)))) (mvT hZ (hw _ (List.mem_of_getElem? (i := 67) rfl))) (mvT hZ (hw _ (List.mem_of_getElem? (i := 66) rfl))) (by decide) (backOfSH (W := 0) (own_rmSU l Z a0 hw [] x ch i n G1 G3 h0 n0 O hin Sx hl O2 P5 O4 rG3) hZ (hw _ (List.mem_of_getElem? (i := 68) rfl)) (hw _ (List.mem_of_getElem? (i := 4) rfl)) (by decide) (by decide) hEL CR.1) q3a q3c (g := (mkF m 11 #[.val (.ref f), .val (.ref x)] [(.int (Int32.ofNat (i + n))), (.int (Int32.ofNat i)), (.ref x)])) rfl (by rw [hml]; rfl) (Steps.refl _) (argsL := [(.int (Int32.ofNat i)), (.int (Int32.ofNat (i + n)))]) (rest := []) (lenOf own_pd14 rfl) rfl (by show 2 * 0 + _ ≤ _; exact Nat.le_of_eq rfl) (hb hby own_d10_11) (fun _ _ => ⟨rfl, e2, (by decide : 0 + 2 ≤ _), (by decide : 0 + 12 ≤ _)⟩)
  dsimp only [Pt.U, Pt.locs, Pt.cells, Pt.slots] at X3 l3 y3 z3 st3 hQ3 hS3 hg3 CR3
  subst l3 y3 z3
  rw [e2] at hg3
  obtain ⟨X3, hS, hZ, hown⟩ := rebS hS hk X3 hS3 hg3 hZ hown
  replace hk := Nat.le_refl T3.heap.size
  replace CR := CR.trans CR3
  obtain ⟨u, cs, rfl, Nq, Kq, lcs, Su⟩ := hQ3
  refine Out.to (g' := (mkF m 14 #[.val (.ref f), .val (.ref x)] [(.ref u)])) st3 ?_
  exact Out.endH X3 hS hk hZ hEL (by rw [hh]; exact CR) (fun h => by rw [Bd.returns] at h; cases h) Bd.notSynchronized (by decide) (by decide) (⟨u, cs, rfl, Fr.app N0 Nq, Kq, lcs, Su⟩) (fun fs hr => own_retR X3 hx (t := (.object "java/lang/String")) Bd.returns rfl rfl rfl (hb hby own_d10_14) hr)
theorem own_pn15 : plainName "java/lang/Record" = true := by first | (simp [plainName, overriddenIn]; done) | decide +kernel
theorem own_d11_0 : decode jdk_30_method_1_code 0 = .ok (.aload_n 0, 1) := by decide +kernel
theorem own_d11_1 : decode jdk_30_method_1_code 1 = .ok (.invokespecial 1, 3) := by decide +kernel
theorem own_d11_4 : decode jdk_30_method_1_code 4 = .ok (.return_, 1) := by decide +kernel
theorem own_efR (m : MethodId) (x0 : Addr) : entryFrame m #[(.ref x0)] 1 = mkF m 0 #[.val (.ref x0)] [] := by first | (simp [entryFrame, mkF, argsToLocals, Value.category]; done) | rfl
abbrev own_QR (Z : State) (a : Addr) (h0 : Heap) (n0 : Nat) : Option Value → Heap → List Loc → Prop := fun v h L => v = none ∧ Fr n0 L ∧ h = h0
set_option maxRecDepth 65536 in
set_option maxHeartbeats 40000000 in
theorem own_rmR (l : Launch) (Z : State) (a0 : Array Value) (hw : ∀ d ∈ tables_1, d.before a0 Z = true) (ws : List Jvm.Cond) (a : Addr) (h0 : Heap) (n0 : Nat) (O : Old Z n0 h0) :
    MetFree l (⟨"java/lang/Record", "<init>", "()V"⟩ : MethodName) (head1 (Jvm.Cond.code (⟨"java/lang/Record", "<init>", "()V"⟩ : MethodName) jdk_30_method_1_code 1 none :: ws) ({ frames := 1, cells := 0, slots := 0, locals := 12 } : Room)) (fun aa U => aa = #[(.ref a)] ∧ Z.Warmed39 U.vm ∧ U.heap = h0) (fun _ _ _ _ _ => True) (fun _ U o U' => ∃ v L, o = .returned v ∧ (own_QR Z a h0 n0) v U'.heap L ∧ FrameEnd U o U' L ({ frames := 1, cells := 0, slots := 0, locals := 12 } : Room).cells ({ frames := 1, cells := 0, slots := 0, locals := 12 } : Room).slots) := by
  refine MetFree.of_bodySF (plainFor_of_name own_pn15) hisR ?_
  intro p e s m args below meth c s₁ Bd hml0 hP hK
  obtain ⟨rfl, hZ, hh⟩ := hP
  have hx := Bd.exec
  have hby := Bd.bytes
  have hml : c.maxLocals = 1 := hml0
  have hown : s.vm.findClass "java/lang/Record" = some m.cls := findClass_of_methodNamed Bd.named
  have hnm := (name_of_methodNamed Bd.named Bd.method).1
  have X0 : Stand p l e ({ frames := 1, cells := 0, slots := 0, locals := 12 } : Room) s m #[(.ref a)] below meth c s₁ [] 0 0 := Stand.of_body Bd
  have e0 : s₁.heap = h0 := by rw [← hh, Bd.state]; rfl
  have N0 := Fr.nil n0
  refine Out.start (Q := own_QR Z a h0 n0) (own_efR m a ) ?_
  refine Out.via (g' := (mkF m 1 #[.val (.ref a)] [(.ref a)])) (fun _ k => XS.aloadN X0.here hx rfl (hb hby own_d11_0) rfl rfl k) ?_
  obtain ⟨T1, X1, e1, st1⟩ := initO X0 hx hZ hown (hw _ (List.mem_of_getElem? (i := 45) rfl)) (hw _ (List.mem_of_getElem? (i := 13) rfl)) (hw _ (List.mem_of_getElem? (i := 14) rfl)) e0 (g := (mkF m 1 #[.val (.ref a)] [(.ref a)])) rfl (by rw [hml]; rfl) rfl (hb hby own_d11_1) (by decide) (W := 0) (by show 2 * 0 + _ ≤ _; exact Nat.le_of_eq rfl) (by decide)
  refine Out.via (g' := (mkF m 4 #[.val (.ref a)] [])) st1 ?_
  exact Out.endN X1 (fun _ => rfl) Bd.notSynchronized (by decide) (by decide) (by rw [e1]; exact ⟨rfl, N0, rfl⟩) (fun fs hr => X1.returnOut hx Bd.returns (hb hby own_d11_4) hr)
theorem own_d12_0 : decode prog_66_method_1_code 0 = .ok (.aload_n 0, 1) := by decide +kernel
theorem own_d12_1 : decode prog_66_method_1_code 1 = .ok (.invokespecial 1, 3) := by decide +kernel
theorem own_pd16 : parseMethodDescriptor "()V" = some ⟨[], none⟩ := by decide +kernel
theorem own_d12_4 : decode prog_66_method_1_code 4 = .ok (.aload_n 0, 1) := by decide +kernel
theorem own_d12_5 : decode prog_66_method_1_code 5 = .ok (.aload_n 1, 1) := by decide +kernel
theorem own_d12_6 : decode prog_66_method_1_code 6 = .ok (.putfield 7, 3) := by decide +kernel
theorem own_d12_9 : decode prog_66_method_1_code 9 = .ok (.aload_n 0, 1) := by decide +kernel
theorem own_d12_10 : decode prog_66_method_1_code 10 = .ok (.iload_n 2, 1) := by decide +kernel
theorem own_d12_11 : decode prog_66_method_1_code 11 = .ok (.putfield 13, 3) := by decide +kernel
theorem own_d12_14 : decode prog_66_method_1_code 14 = .ok (.aload_n 0, 1) := by decide +kernel
theorem own_d12_15 : decode prog_66_method_1_code 15 = .ok (.iload_n 3, 1) := by decide +kernel
theorem own_d12_16 : decode prog_66_method_1_code 16 = .ok (.putfield 17, 3) := by decide +kernel
theorem own_d12_19 : decode prog_66_method_1_code 19 = .ok (.aload_n 0, 1) := by decide +kernel
theorem own_d12_20 : decode prog_66_method_1_code 20 = .ok (.iload 4, 2) := by decide +kernel
theorem own_d12_22 : decode prog_66_method_1_code 22 = .ok (.putfield 20, 3) := by decide +kernel
theorem own_d12_25 : decode prog_66_method_1_code 25 = .ok (.return_, 1) := by decide +kernel
set_option maxHeartbeats 4000000 in
theorem own_efF (m : MethodId) (x0 : Addr) (x1 : Value) (x2 : Int32) (x3 : Int32) (x4 : Int32) (r1 : x1.isRef = true) : entryFrame m #[(.ref x0), x1, (.int x2), (.int x3), (.int x4)] 5 = mkF m 0 #[.val (.ref x0), .val x1, .val (.int x2), .val (.int x3), .val (.int x4)] [] := by 
  rcases ref_cases r1 with rfl | ⟨_, rfl⟩ <;>
  (first | (simp [entryFrame, mkF, argsToLocals, Value.category]; done) | rfl)
abbrev own_QF (Z : State) (a : Addr) (vn : Value) (p1 p2 p3 : Int32) (h0 : Heap) (n0 : Nat) : Option Value → Heap → List Loc → Prop := fun v h L => v = none ∧ Fr n0 L ∧ Keep h0 h [a] ∧ Exa Z h a "com/example/talao/talao/Field" ∧ Fld Z h a "com/example/talao/talao/Field" "name" "Ljava/lang/String;" vn ∧ Fld Z h a "com/example/talao/talao/Field" "start" "I" (.int p1) ∧ Fld Z h a "com/example/talao/talao/Field" "end" "I" (.int p2) ∧ Fld Z h a "com/example/talao/talao/Field" "numeric" "Z" (.int (nar .boolean p3))
set_option maxRecDepth 65536 in
set_option maxHeartbeats 40000000 in
theorem own_rmF (l : Launch) (Z : State) (a0 : Array Value) (hw : ∀ d ∈ tables_1, d.before a0 Z = true) (ws : List Jvm.Cond) (a : Addr) (vn : Value) (p1 p2 p3 : Int32) (h0 : Heap) (n0 : Nat) (O : Old Z n0 h0) (g_a : n0 ≤ a) (E1 : Exa Z h0 a "com/example/talao/talao/Field") (F_name_a : Fld Z h0 a "com/example/talao/talao/Field" "name" "Ljava/lang/String;" .null) (F_start_a : Fld Z h0 a "com/example/talao/talao/Field" "start" "I" (.int (0 : Int32))) (F_end_a : Fld Z h0 a "com/example/talao/talao/Field" "end" "I" (.int (0 : Int32))) (F_numeric_a : Fld Z h0 a "com/example/talao/talao/Field" "numeric" "Z" (.int (0 : Int32))) (r1 : vn.isRef = true) :
    MetFree l (⟨"com/example/talao/talao/Field", "<init>", "(Ljava/lang/String;IIZ)V"⟩ : MethodName) (head1 (Jvm.Cond.code (⟨"com/example/talao/talao/Field", "<init>", "(Ljava/lang/String;IIZ)V"⟩ : MethodName) prog_66_method_1_code 5 none :: ws) ({ frames := 2, cells := 0, slots := 0, locals := 24 } : Room)) (fun aa U => aa = #[(.ref a), vn, (.int p1), (.int p2), (.int p3)] ∧ Z.Warmed39 U.vm ∧ U.heap = h0) (fun _ _ _ _ _ => True) (fun _ U o U' => ∃ v L, o = .returned v ∧ (own_QF Z a vn p1 p2 p3 h0 n0) v U'.heap L ∧ FrameEnd U o U' L ({ frames := 2, cells := 0, slots := 0, locals := 24 } : Room).cells ({ frames := 2, cells := 0, slots := 0, locals := 24 } : Room).slots) := by
  refine MetFree.of_bodySF (plainFor_of_name own_pn13) hisR ?_
  intro p e s m args below meth c s₁ Bd hml0 hP hK
  obtain ⟨rfl, hZ, hh⟩ := hP
  have hx := Bd.exec
  have hby := Bd.bytes
  have hml : c.maxLocals = 5 := hml0
  have hown : s.vm.findClass "com/example/talao/talao/Field" = some m.cls := findClass_of_methodNamed Bd.named
  have hnm := (name_of_methodNamed Bd.named Bd.method).1
  have X0 : Stand p l e ({ frames := 2, cells := 0, slots := 0, locals := 24 } : Room) s m #[(.ref a), vn, (.int p1), (.int p2), (.int p3)] below meth c s₁ [] 0 0 := Stand.of_body Bd
  have e0 : s₁.heap = h0 := by rw [← hh, Bd.state]; rfl
  have N0 := Fr.nil n0
  refine Out.start (Q := own_QF Z a vn p1 p2 p3 h0 n0) (own_efF m a vn p1 p2 p3 r1) ?_
  have Kp := Keep.refl h0 [a]
  refine Out.via (g' := (mkF m 1 #[.val (.ref a), .val vn, .val (.int p1), .val (.int p2), .val (.int p3)] [(.ref a)])) (fun _ k => XS.aloadN X0.here hx rfl (hb hby own_d12_0) rfl rfl k) ?_
  obtain ⟨_, _, ⟨T1, L1, kc1, ks1⟩, -, X1, ⟨Lc1, hQ1, l1, y1, z1⟩, st1⟩ := X0.specialBack hx (y := (⟨"java/lang/Record", "<init>", "()V"⟩ : MethodName)) rfl hown (mvT hZ (hw _ (List.mem_of_getElem? (i := 40) rfl))) (mvT hZ (hw _ (List.mem_of_getElem? (i := 41) rfl))) (mvT hZ (hw _ (List.mem_of_getElem? (i := 44) rfl))) (by decide) (backOf (W := 0) (own_rmR l Z a0 hw [] a h0 n0 O) hZ (hw _ (List.mem_of_getElem? (i := 44) rfl)) (hw _ (List.mem_of_getElem? (i := 43) rfl)) (by decide) (by decide)) (g := (mkF m 1 #[.val (.ref a), .val vn, .val (.int p1), .val (.int p2), .val (.int p3)] [(.ref a)])) rfl (by rw [hml]; rfl) (Steps.refl _) (a := a) (argsL := []) (rest := []) (lenOf own_pd16 rfl) rfl (by show 2 * 0 + _ ≤ _; exact Nat.le_of_eq rfl) (hb hby own_d12_1) (fun _ _ => ⟨rfl, e0, (by decide : 0 + 0 ≤ _), (by decide : 0 + 0 ≤ _)⟩)
  dsimp only [Pt.U, Pt.locs, Pt.cells, Pt.slots] at X1 l1 y1 z1 st1 hQ1
  subst l1 y1 z1
  obtain ⟨rfl, Nq1, eq1⟩ := hQ1
  replace N0 := Fr.app N0 Nq1
  refine Out.to (g' := (mkF m 4 #[.val (.ref a), .val vn, .val (.int p1), .val (.int p2), .val (.int p3)] [])) st1 ?_
  refine Out.via (g' := (mkF m 5 #[.val (.ref a), .val vn, .val (.int p1), .val (.int p2), .val (.int p3)] [(.ref a)])) (fun _ k => XS.aloadN X1.here hx rfl (hb hby own_d12_4) rfl rfl k) ?_
  refine Out.via (g' := (mkF m 6 #[.val (.ref a), .val vn, .val (.int p1), .val (.int p2), .val (.int p3)] [vn, (.ref a)])) (fun _ k => XS.aloadN X1.here hx rfl (hb hby own_d12_5) rfl r1 k) ?_
  obtain ⟨T2, h2, X2, e2, W2, st2⟩ := putF X1 hx hZ hown (host := "") (Or.inl (hw _ (List.mem_of_getElem? (i := 46) rfl))) Via.refl eq1 F_name_a E1 (Or.inr ⟨(hw _ (List.mem_of_getElem? (i := 47) rfl)), rfl, hnm⟩) (hw _ (List.mem_of_getElem? (i := 32) rfl)) (ty := (.object "java/lang/String")) (by decide) (rfl) (own_fitsR r1) (g := (mkF m 6 #[.val (.ref a), .val vn, .val (.int p1), .val (.int p2), .val (.int p3)] [vn, (.ref a)])) rfl rfl (hb hby own_d12_6)
  replace F_name_a := F_name_a.same W2
  replace F_start_a := F_start_a.other W2 (Or.inr (slot_ne (Or.inr (hw _ (List.mem_of_getElem? (i := 49) rfl))) (Or.inr (hw _ (List.mem_of_getElem? (i := 47) rfl))) (by decide) (t := .int) (t' := (.object "java/lang/String")) (by decide) (by decide)))
  replace F_end_a := F_end_a.other W2 (Or.inr (slot_ne (Or.inr (hw _ (List.mem_of_getElem? (i := 51) rfl))) (Or.inr (hw _ (List.mem_of_getElem? (i := 47) rfl))) (by decide) (t := .int) (t' := (.object "java/lang/String")) (by decide) (by decide)))
  replace F_numeric_a := F_numeric_a.other W2 (Or.inr (slot_ne (Or.inr (hw _ (List.mem_of_getElem? (i := 53) rfl))) (Or.inr (hw _ (List.mem_of_getElem? (i := 47) rfl))) (by decide) (t := .boolean) (t' := (.object "java/lang/String")) (by decide) (by decide)))
  replace E1 := E1.wr W2
  replace O := O.wr W2 g_a
  replace Kp := Kp.wr W2 (Or.inl (List.mem_of_getElem? (i := 0) rfl))
  replace N0 := Fr.snoc X2 N0 g_a
  refine Out.via (g' := (mkF m 9 #[.val (.ref a), .val vn, .val (.int p1), .val (.int p2), .val (.int p3)] [])) st2 ?_
  refine Out.via (g' := (mkF m 10 #[.val (.ref a), .val vn, .val (.int p1), .val (.int p2), .val (.int p3)] [(.ref a)])) (fun _ k => XS.aloadN X2.here hx rfl (hb hby own_d12_9) rfl rfl k) ?_
  refine Out.via (g' := (mkF m 11 #[.val (.ref a), .val vn, .val (.int p1), .val (.int p2), .val (.int p3)] [(.int p1), (.ref a)])) (fun _ k => XS.iloadN X2.here hx rfl (hb hby own_d12_10) rfl k) ?_
  obtain ⟨T3, h3, X3, e3, W3, st3⟩ := putF X2 hx hZ hown (host := "") (Or.inl (hw _ (List.mem_of_getElem? (i := 48) rfl))) Via.refl e2 F_start_a E1 (Or.inr ⟨(hw _ (List.mem_of_getElem? (i := 49) rfl)), rfl, hnm⟩) (hw _ (List.mem_of_getElem? (i := 32) rfl)) (ty := .int) (by decide) rfl rfl (g := (mkF m 11 #[.val (.ref a), .val vn, .val (.int p1), .val (.int p2), .val (.int p3)] [(.int p1), (.ref a)])) rfl rfl (hb hby own_d12_11)
  replace F_start_a := F_start_a.same W3
  replace F_name_a := F_name_a.other W3 (Or.inr (slot_ne (Or.inr (hw _ (List.mem_of_getElem? (i := 47) rfl))) (Or.inr (hw _ (List.mem_of_getElem? (i := 49) rfl))) (by decide) (t := (.object "java/lang/String")) (t' := .int) (by decide) (by decide)))
  replace F_end_a := F_end_a.other W3 (Or.inr (slot_ne (Or.inr (hw _ (List.mem_of_getElem? (i := 51) rfl))) (Or.inr (hw _ (List.mem_of_getElem? (i := 49) rfl))) (by decide) (t := .int) (t' := .int) (by decide) (by decide)))
  replace F_numeric_a := F_numeric_a.other W3 (Or.inr (slot_ne (Or.inr (hw _ (List.mem_of_getElem? (i := 53) rfl))) (Or.inr (hw _ (List.mem_of_getElem? (i := 49) rfl))) (by decide) (t := .boolean) (t' := .int) (by decide) (by decide)))
  replace E1 := E1.wr W3
  replace O := O.wr W3 g_a
  replace Kp := Kp.wr W3 (Or.inl (List.mem_of_getElem? (i := 0) rfl))
  replace N0 := Fr.snoc X3 N0 g_a
  refine Out.via (g' := (mkF m 14 #[.val (.ref a), .val vn, .val (.int p1), .val (.int p2), .val (.int p3)] [])) st3 ?_
  refine Out.via (g' := (mkF m 15 #[.val (.ref a), .val vn, .val (.int p1), .val (.int p2), .val (.int p3)] [(.ref a)])) (fun _ k => XS.aloadN X3.here hx rfl (hb hby own_d12_14) rfl rfl k) ?_
  refine Out.via (g' := (mkF m 16 #[.val (.ref a), .val vn, .val (.int p1), .val (.int p2), .val (.int p3)] [(.int p2), (.ref a)])) (fun _ k => XS.iloadN X3.here hx rfl (hb hby own_d12_15) rfl k) ?_
  obtain ⟨T4, h4, X4, e4, W4, st4⟩ := putF X3 hx hZ hown (host := "") (Or.inl (hw _ (List.mem_of_getElem? (i := 50) rfl))) Via.refl e3 F_end_a E1 (Or.inr ⟨(hw _ (List.mem_of_getElem? (i := 51) rfl)), rfl, hnm⟩) (hw _ (List.mem_of_getElem? (i := 32) rfl)) (ty := .int) (by decide) rfl rfl (g := (mkF m 16 #[.val (.ref a), .val vn, .val (.int p1), .val (.int p2), .val (.int p3)] [(.int p2), (.ref a)])) rfl rfl (hb hby own_d12_16)
  replace F_end_a := F_end_a.same W4
  replace F_name_a := F_name_a.other W4 (Or.inr (slot_ne (Or.inr (hw _ (List.mem_of_getElem? (i := 47) rfl))) (Or.inr (hw _ (List.mem_of_getElem? (i := 51) rfl))) (by decide) (t := (.object "java/lang/String")) (t' := .int) (by decide) (by decide)))
  replace F_start_a := F_start_a.other W4 (Or.inr (slot_ne (Or.inr (hw _ (List.mem_of_getElem? (i := 49) rfl))) (Or.inr (hw _ (List.mem_of_getElem? (i := 51) rfl))) (by decide) (t := .int) (t' := .int) (by decide) (by decide)))
  replace F_numeric_a := F_numeric_a.other W4 (Or.inr (slot_ne (Or.inr (hw _ (List.mem_of_getElem? (i := 53) rfl))) (Or.inr (hw _ (List.mem_of_getElem? (i := 51) rfl))) (by decide) (t := .boolean) (t' := .int) (by decide) (by decide)))
  replace E1 := E1.wr W4
  replace O := O.wr W4 g_a
  replace Kp := Kp.wr W4 (Or.inl (List.mem_of_getElem? (i := 0) rfl))
  replace N0 := Fr.snoc X4 N0 g_a
  refine Out.via (g' := (mkF m 19 #[.val (.ref a), .val vn, .val (.int p1), .val (.int p2), .val (.int p3)] [])) st4 ?_
  refine Out.via (g' := (mkF m 20 #[.val (.ref a), .val vn, .val (.int p1), .val (.int p2), .val (.int p3)] [(.ref a)])) (fun _ k => XS.aloadN X4.here hx rfl (hb hby own_d12_19) rfl rfl k) ?_
  refine Out.via (g' := (mkF m 22 #[.val (.ref a), .val vn, .val (.int p1), .val (.int p2), .val (.int p3)] [(.int p3), (.ref a)])) (fun _ k => XS.iload X4.here hx rfl (hb hby own_d12_20) rfl k) ?_
  obtain ⟨T5, h5, X5, e5, W5, st5⟩ := putFN X4 hx hZ hown (hw _ (List.mem_of_getElem? (i := 52) rfl)) Via.refl e4 F_numeric_a E1 (Or.inr ⟨(hw _ (List.mem_of_getElem? (i := 53) rfl)), rfl, hnm⟩) (hw _ (List.mem_of_getElem? (i := 32) rfl)) (ty := .boolean) (v' := (.int (nar .boolean p3))) (by decide) rfl (fits_nar_bool _) (g := (mkF m 22 #[.val (.ref a), .val vn, .val (.int p1), .val (.int p2), .val (.int p3)] [(.int p3), (.ref a)])) rfl rfl (hb hby own_d12_22)
  replace F_numeric_a := F_numeric_a.same W5
  replace F_name_a := F_name_a.other W5 (Or.inr (slot_ne (Or.inr (hw _ (List.mem_of_getElem? (i := 47) rfl))) (Or.inr (hw _ (List.mem_of_getElem? (i := 53) rfl))) (by decide) (t := (.object "java/lang/String")) (t' := .boolean) (by decide) (by decide)))
  replace F_start_a := F_start_a.other W5 (Or.inr (slot_ne (Or.inr (hw _ (List.mem_of_getElem? (i := 49) rfl))) (Or.inr (hw _ (List.mem_of_getElem? (i := 53) rfl))) (by decide) (t := .int) (t' := .boolean) (by decide) (by decide)))
  replace F_end_a := F_end_a.other W5 (Or.inr (slot_ne (Or.inr (hw _ (List.mem_of_getElem? (i := 51) rfl))) (Or.inr (hw _ (List.mem_of_getElem? (i := 53) rfl))) (by decide) (t := .int) (t' := .boolean) (by decide) (by decide)))
  replace E1 := E1.wr W5
  replace O := O.wr W5 g_a
  replace Kp := Kp.wr W5 (Or.inl (List.mem_of_getElem? (i := 0) rfl))
  replace N0 := Fr.snoc X5 N0 g_a
  refine Out.via (g' := (mkF m 25 #[.val (.ref a), .val vn, .val (.int p1), .val (.int p2), .val (.int p3)] [])) st5 ?_
  exact Out.endN X5 (fun _ => rfl) Bd.notSynchronized (by decide) (by decide) (by rw [e5]; exact ⟨rfl, N0, Kp, E1, F_name_a, F_start_a, F_end_a, F_numeric_a⟩) (fun fs hr => X5.returnOut hx Bd.returns (hb hby own_d12_25) hr)
theorem own_d13_0 : decode prog_66_method_12_code 0 = .ok (.aload_n 0, 1) := by decide +kernel
theorem own_d13_1 : decode prog_66_method_12_code 1 = .ok (.getfield 17, 3) := by decide +kernel
theorem own_d13_4 : decode prog_66_method_12_code 4 = .ok (.aload_n 0, 1) := by decide +kernel
theorem own_d13_5 : decode prog_66_method_12_code 5 = .ok (.getfield 13, 3) := by decide +kernel
theorem own_d13_8 : decode prog_66_method_12_code 8 = .ok (.isub, 1) := by decide +kernel
theorem own_d13_9 : decode prog_66_method_12_code 9 = .ok (.iconst 1, 1) := by decide +kernel
theorem own_d13_10 : decode prog_66_method_12_code 10 = .ok (.iadd, 1) := by decide +kernel
theorem own_d13_11 : decode prog_66_method_12_code 11 = .ok (.ireturn, 1) := by decide +kernel
theorem own_efW (m : MethodId) (x0 : Addr) : entryFrame m #[(.ref x0)] 1 = mkF m 0 #[.val (.ref x0)] [] := by first | (simp [entryFrame, mkF, argsToLocals, Value.category]; done) | rfl
abbrev own_QW (Z : State) (a : Addr) (p1 p2 : Int32) (h0 : Heap) (n0 : Nat) : Option Value → Heap → List Loc → Prop := fun v h L => v = some (.int ((p2 - p1) + (1 : Int32))) ∧ Fr n0 L ∧ h = h0
set_option maxRecDepth 65536 in
set_option maxHeartbeats 40000000 in
theorem own_rmW (l : Launch) (Z : State) (a0 : Array Value) (hw : ∀ d ∈ tables_1, d.before a0 Z = true) (ws : List Jvm.Cond) (a : Addr) (p1 p2 : Int32) (h0 : Heap) (n0 : Nat) (O : Old Z n0 h0) (F1 : Fld Z h0 a "com/example/talao/talao/Field" "start" "I" (.int p1)) (F2 : Fld Z h0 a "com/example/talao/talao/Field" "end" "I" (.int p2)) :
    MetFree l (⟨"com/example/talao/talao/Field", "width", "()I"⟩ : MethodName) (head1 (Jvm.Cond.code (⟨"com/example/talao/talao/Field", "width", "()I"⟩ : MethodName) prog_66_method_12_code 1 (some .int) :: ws) ({ frames := 0, cells := 0, slots := 0, locals := 0 } : Room)) (fun aa U => aa = #[(.ref a)] ∧ Z.Warmed39 U.vm ∧ U.heap = h0) (fun _ _ _ _ _ => True) (fun _ U o U' => ∃ v L, o = .returned v ∧ (own_QW Z a p1 p2 h0 n0) v U'.heap L ∧ FrameEnd U o U' L ({ frames := 0, cells := 0, slots := 0, locals := 0 } : Room).cells ({ frames := 0, cells := 0, slots := 0, locals := 0 } : Room).slots) := by
  refine MetFree.of_bodySF (plainFor_of_name own_pn13) hisR ?_
  intro p e s m args below meth c s₁ Bd hml0 hP hK
  obtain ⟨rfl, hZ, hh⟩ := hP
  have hx := Bd.exec
  have hby := Bd.bytes
  have hml : c.maxLocals = 1 := hml0
  have hown : s.vm.findClass "com/example/talao/talao/Field" = some m.cls := findClass_of_methodNamed Bd.named
  have hnm := (name_of_methodNamed Bd.named Bd.method).1
  have X0 : Stand p l e ({ frames := 0, cells := 0, slots := 0, locals := 0 } : Room) s m #[(.ref a)] below meth c s₁ [] 0 0 := Stand.of_body Bd
  have e0 : s₁.heap = h0 := by rw [← hh, Bd.state]; rfl
  have N0 := Fr.nil n0
  refine Out.start (Q := own_QW Z a p1 p2 h0 n0) (own_efW m a ) ?_
  refine Out.via (g' := (mkF m 1 #[.val (.ref a)] [(.ref a)])) (fun _ k => XS.aloadN X0.here hx rfl (hb hby own_d13_0) rfl rfl k) ?_
  obtain ⟨T1, X1, e1, st1⟩ := getF X0 hx hZ hown (host := "") (Or.inl (hw _ (List.mem_of_getElem? (i := 50) rfl))) Via.refl e0 F2 (g := (mkF m 1 #[.val (.ref a)] [(.ref a)])) rfl rfl (hb hby own_d13_1)
  refine Out.via (g' := (mkF m 4 #[.val (.ref a)] [(.int p2)])) st1 ?_
  refine Out.via (g' := (mkF m 5 #[.val (.ref a)] [(.ref a), (.int p2)])) (fun _ k => XS.aloadN X1.here hx rfl (hb hby own_d13_4) rfl rfl k) ?_
  obtain ⟨T2, X2, e2, st2⟩ := getF X1 hx hZ hown (host := "") (Or.inl (hw _ (List.mem_of_getElem? (i := 48) rfl))) Via.refl e1 F1 (g := (mkF m 5 #[.val (.ref a)] [(.ref a), (.int p2)])) rfl rfl (hb hby own_d13_5)
  refine Out.via (g' := (mkF m 8 #[.val (.ref a)] [(.int p1), (.int p2)])) st2 ?_
  refine Out.via (g' := (mkF m 9 #[.val (.ref a)] [(.int (p2 - p1))])) (fun _ k => XS.isub X2.here hx rfl (hb hby own_d13_8) rfl k) ?_
  refine Out.via (g' := (mkF m 10 #[.val (.ref a)] [(.int (1 : Int32)), (.int (p2 - p1))])) (fun _ k => XS.iconst X2.here hx rfl (hb hby own_d13_9) k) ?_
  refine Out.via (g' := (mkF m 11 #[.val (.ref a)] [(.int ((p2 - p1) + (1 : Int32)))])) (fun _ k => XS.iadd X2.here hx rfl (hb hby own_d13_10) rfl k) ?_
  exact Out.endN X2 (fun h => by rw [Bd.returns] at h; cases h) Bd.notSynchronized (by decide) (by decide) (by rw [e2]; exact ⟨rfl, N0, rfl⟩) (fun fs hr => own_retI X2 hx Bd.returns (hb hby own_d13_11) hr)
theorem own_d14_0 : decode prog_66_method_13_code 0 = .ok (.aload_n 1, 1) := by decide +kernel
theorem own_d14_1 : decode prog_66_method_13_code 1 = .ok (.getfield 13, 3) := by decide +kernel
theorem own_d14_4 : decode prog_66_method_13_code 4 = .ok (.aload_n 0, 1) := by decide +kernel
theorem own_d14_5 : decode prog_66_method_13_code 5 = .ok (.getfield 17, 3) := by decide +kernel
theorem own_d14_8 : decode prog_66_method_13_code 8 = .ok (.iconst 1, 1) := by decide +kernel
theorem own_d14_9 : decode prog_66_method_13_code 9 = .ok (.iadd, 1) := by decide +kernel
theorem own_d14_10 : decode prog_66_method_13_code 10 = .ok (.if_icmp .eq 24, 3) := by decide +kernel
theorem own_d14_34 : decode prog_66_method_13_code 34 = .ok (.new 8, 3) := by decide +kernel
theorem own_d14_37 : decode prog_66_method_13_code 37 = .ok (.dup, 1) := by decide +kernel
theorem own_d14_38 : decode prog_66_method_13_code 38 = .ok (.aload_n 0, 1) := by decide +kernel
theorem own_d14_39 : decode prog_66_method_13_code 39 = .ok (.getfield 7, 3) := by decide +kernel
theorem own_d14_42 : decode prog_66_method_13_code 42 = .ok (.aload_n 0, 1) := by decide +kernel
theorem own_d14_43 : decode prog_66_method_13_code 43 = .ok (.getfield 13, 3) := by decide +kernel
theorem own_d14_46 : decode prog_66_method_13_code 46 = .ok (.aload_n 1, 1) := by decide +kernel
theorem own_d14_47 : decode prog_66_method_13_code 47 = .ok (.getfield 17, 3) := by decide +kernel
theorem own_d14_50 : decode prog_66_method_13_code 50 = .ok (.aload_n 0, 1) := by decide +kernel
theorem own_d14_51 : decode prog_66_method_13_code 51 = .ok (.getfield 20, 3) := by decide +kernel
theorem own_d14_54 : decode prog_66_method_13_code 54 = .ok (.ifCond .eq 14, 3) := by decide +kernel
theorem own_d14_68 : decode prog_66_method_13_code 68 = .ok (.iconst 0, 1) := by decide +kernel
theorem own_d14_57 : decode prog_66_method_13_code 57 = .ok (.aload_n 1, 1) := by decide +kernel
theorem own_d14_58 : decode prog_66_method_13_code 58 = .ok (.getfield 20, 3) := by decide +kernel
theorem own_d14_61 : decode prog_66_method_13_code 61 = .ok (.ifCond .eq 7, 3) := by decide +kernel
theorem own_d14_64 : decode prog_66_method_13_code 64 = .ok (.iconst 1, 1) := by decide +kernel
theorem own_d14_65 : decode prog_66_method_13_code 65 = .ok (.goto 4, 3) := by decide +kernel
theorem own_d14_69 : decode prog_66_method_13_code 69 = .ok (.invokespecial 108, 3) := by decide +kernel
theorem own_pd17 : parseMethodDescriptor "(Ljava/lang/String;IIZ)V" = some ⟨[(.object "java/lang/String"), .int, .int, .boolean], none⟩ := by decide +kernel
theorem own_d14_72 : decode prog_66_method_13_code 72 = .ok (.areturn, 1) := by decide +kernel
theorem own_efT (m : MethodId) (x0 : Addr) (x1 : Addr) : entryFrame m #[(.ref x0), (.ref x1)] 2 = mkF m 0 #[.val (.ref x0), .val (.ref x1)] [] := by first | (simp [entryFrame, mkF, argsToLocals, Value.category]; done) | rfl
abbrev own_QT (Z : State) (a b : Addr) (vn vm : Value) (p1 p2 p3 z1 z2 : Int32) (h0 : Heap) (n0 : Nat) : Option Value → Heap → List Loc → Prop := fun v h L => ∃ r : Addr, v = some (.ref r) ∧ Fr n0 L ∧ Keep h0 h [] ∧ Exa Z h r "com/example/talao/talao/Field" ∧ Fld Z h r "com/example/talao/talao/Field" "start" "I" (.int p1) ∧ Fld Z h r "com/example/talao/talao/Field" "end" "I" (.int p3)
set_option maxRecDepth 65536 in
set_option maxHeartbeats 40000000 in
theorem own_rmT (l : Launch) (Z : State) (a0 : Array Value) (hw : ∀ d ∈ tables_1, d.before a0 Z = true) (ws : List Jvm.Cond) (a b : Addr) (vn vm : Value) (p1 p2 p3 z1 z2 : Int32) (h0 : Heap) (n0 : Nat) (O : Old Z n0 h0) (F0a : Fld Z h0 a "com/example/talao/talao/Field" "name" "Ljava/lang/String;" vn) (F1a : Fld Z h0 a "com/example/talao/talao/Field" "start" "I" (.int p1)) (F2a : Fld Z h0 a "com/example/talao/talao/Field" "end" "I" (.int p2)) (F3a : Fld Z h0 a "com/example/talao/talao/Field" "numeric" "Z" (.int z1)) (F0b : Fld Z h0 b "com/example/talao/talao/Field" "name" "Ljava/lang/String;" vm) (F1b : Fld Z h0 b "com/example/talao/talao/Field" "start" "I" (.int (p2 + (1 : Int32)))) (F2b : Fld Z h0 b "com/example/talao/talao/Field" "end" "I" (.int p3)) (F3b : Fld Z h0 b "com/example/talao/talao/Field" "numeric" "Z" (.int z2)) (r1 : vn.isRef = true) :
    MetFree l (⟨"com/example/talao/talao/Field", "through", "(Lcom/example/talao/talao/Field;)Lcom/example/talao/talao/Field;"⟩ : MethodName) (head1 (Jvm.Cond.code (⟨"com/example/talao/talao/Field", "through", "(Lcom/example/talao/talao/Field;)Lcom/example/talao/talao/Field;"⟩ : MethodName) prog_66_method_13_code 2 (some (.object "com/example/talao/talao/Field")) :: ws) ({ frames := 3, cells := 1, slots := 4, locals := 41 } : Room)) (fun aa U => aa = #[(.ref a), (.ref b)] ∧ Z.Warmed39 U.vm ∧ U.heap = h0) (fun _ _ _ _ _ => True) (fun _ U o U' => ∃ v L, o = .returned v ∧ (own_QT Z a b vn vm p1 p2 p3 z1 z2 h0 n0) v U'.heap L ∧ FrameEnd U o U' L ({ frames := 3, cells := 1, slots := 4, locals := 41 } : Room).cells ({ frames := 3, cells := 1, slots := 4, locals := 41 } : Room).slots) := by
  refine MetFree.of_bodySF (plainFor_of_name own_pn13) hisR ?_
  intro p e s m args below meth c s₁ Bd hml0 hP hK
  obtain ⟨rfl, hZ, hh⟩ := hP
  have hx := Bd.exec
  have hby := Bd.bytes
  have hml : c.maxLocals = 2 := hml0
  have hown : s.vm.findClass "com/example/talao/talao/Field" = some m.cls := findClass_of_methodNamed Bd.named
  have hnm := (name_of_methodNamed Bd.named Bd.method).1
  have X0 : Stand p l e ({ frames := 3, cells := 1, slots := 4, locals := 41 } : Room) s m #[(.ref a), (.ref b)] below meth c s₁ [] 0 0 := Stand.of_body Bd
  have e0 : s₁.heap = h0 := by rw [← hh, Bd.state]; rfl
  have N0 := Fr.nil n0
  refine Out.start (Q := own_QT Z a b vn vm p1 p2 p3 z1 z2 h0 n0) (own_efT m a b ) ?_
  have Kp := Keep.refl h0 []
  refine Out.via (g' := (mkF m 1 #[.val (.ref a), .val (.ref b)] [(.ref b)])) (fun _ k => XS.aloadN X0.here hx rfl (hb hby own_d14_0) rfl rfl k) ?_
  obtain ⟨T1, X1, e1, st1⟩ := getF X0 hx hZ hown (host := "") (Or.inl (hw _ (List.mem_of_getElem? (i := 48) rfl))) Via.refl e0 F1b (g := (mkF m 1 #[.val (.ref a), .val (.ref b)] [(.ref b)])) rfl rfl (hb hby own_d14_1)
  refine Out.via (g' := (mkF m 4 #[.val (.ref a), .val (.ref b)] [(.int (p2 + (1 : Int32)))])) st1 ?_
  refine Out.via (g' := (mkF m 5 #[.val (.ref a), .val (.ref b)] [(.ref a), (.int (p2 + (1 : Int32)))])) (fun _ k => XS.aloadN X1.here hx rfl (hb hby own_d14_4) rfl rfl k) ?_
  obtain ⟨T2, X2, e2, st2⟩ := getF X1 hx hZ hown (host := "") (Or.inl (hw _ (List.mem_of_getElem? (i := 50) rfl))) Via.refl e1 F2a (g := (mkF m 5 #[.val (.ref a), .val (.ref b)] [(.ref a), (.int (p2 + (1 : Int32)))])) rfl rfl (hb hby own_d14_5)
  refine Out.via (g' := (mkF m 8 #[.val (.ref a), .val (.ref b)] [(.int p2), (.int (p2 + (1 : Int32)))])) st2 ?_
  refine Out.via (g' := (mkF m 9 #[.val (.ref a), .val (.ref b)] [(.int (1 : Int32)), (.int p2), (.int (p2 + (1 : Int32)))])) (fun _ k => XS.iconst X2.here hx rfl (hb hby own_d14_8) k) ?_
  refine Out.via (g' := (mkF m 10 #[.val (.ref a), .val (.ref b)] [(.int (p2 + (1 : Int32))), (.int (p2 + (1 : Int32)))])) (fun _ k => XS.iadd X2.here hx rfl (hb hby own_d14_9) rfl k) ?_
  refine Out.via (g' := (mkF m 34 #[.val (.ref a), .val (.ref b)] [])) (fun _ k => XS.icmpYes X2.here hx rfl (pc0 := 10) (pc' := 34) rfl (hb hby own_d14_10) rfl (teq rfl).1 (by decide) (by decide) k) ?_
  obtain ⟨T3, h3, X3, e3, E3, A3, D3, -, st3⟩ := newO X2 hx hZ hown (hw _ (List.mem_of_getElem? (i := 103) rfl)) (hw _ (List.mem_of_getElem? (i := 32) rfl)) (hw _ (List.mem_of_getElem? (i := 33) rfl)) e2 (g := (mkF m 34 #[.val (.ref a), .val (.ref b)] [])) rfl (hb hby own_d14_34) (by decide) (by decide)
  obtain ⟨r, gq3⟩ : ∃ z, z = h0.size := ⟨_, rfl⟩
  rw [← gq3] at A3 D3 st3
  have ne_a_r : a ≠ r := Nat.ne_of_lt (Nat.lt_of_lt_of_le F0a.lt (Nat.le_of_eq gq3.symm))
  have ne_b_r : b ≠ r := Nat.ne_of_lt (Nat.lt_of_lt_of_le F1b.lt (Nat.le_of_eq gq3.symm))
  have g_r : n0 ≤ r := Nat.le_trans (own_z0 O) (Nat.le_of_eq gq3.symm)
  have sz_r : h0.size ≤ r := Nat.le_trans Kp.1 (Nat.le_of_eq gq3.symm)
  replace F0a := F0a.ext E3
  replace F1a := F1a.ext E3
  replace F2a := F2a.ext E3
  replace F3a := F3a.ext E3
  replace F1b := F1b.ext E3
  replace F2b := F2b.ext E3
  replace F3b := F3b.ext E3
  replace O := O.ext E3
  replace Kp := Kp.ext E3
  have F_name_r : Fld Z h3 r "com/example/talao/talao/Field" "name" "Ljava/lang/String;" .null := D3 (Or.inr (hw _ (List.mem_of_getElem? (i := 47) rfl))) (ty := (.object "java/lang/String")) (by decide)
  have F_start_r : Fld Z h3 r "com/example/talao/talao/Field" "start" "I" (.int (0 : Int32)) := D3 (Or.inr (hw _ (List.mem_of_getElem? (i := 49) rfl))) (ty := .int) (by decide)
  have F_end_r : Fld Z h3 r "com/example/talao/talao/Field" "end" "I" (.int (0 : Int32)) := D3 (Or.inr (hw _ (List.mem_of_getElem? (i := 51) rfl))) (ty := .int) (by decide)
  have F_numeric_r : Fld Z h3 r "com/example/talao/talao/Field" "numeric" "Z" (.int (0 : Int32)) := D3 (Or.inr (hw _ (List.mem_of_getElem? (i := 53) rfl))) (ty := .boolean) (by decide)
  refine Out.via (g' := (mkF m 37 #[.val (.ref a), .val (.ref b)] [(.ref r)])) st3 ?_
  refine Out.via (g' := (mkF m 38 #[.val (.ref a), .val (.ref b)] [(.ref r), (.ref r)])) (fun _ k => XS.dup X3.here hx rfl (hb hby own_d14_37) rfl rfl k) ?_
  refine Out.via (g' := (mkF m 39 #[.val (.ref a), .val (.ref b)] [(.ref a), (.ref r), (.ref r)])) (fun _ k => XS.aloadN X3.here hx rfl (hb hby own_d14_38) rfl rfl k) ?_
  obtain ⟨T4, X4, e4, st4⟩ := getF X3 hx hZ hown (host := "") (Or.inl (hw _ (List.mem_of_getElem? (i := 46) rfl))) Via.refl e3 F0a (g := (mkF m 39 #[.val (.ref a), .val (.ref b)] [(.ref a), (.ref r), (.ref r)])) rfl rfl (hb hby own_d14_39)
  refine Out.via (g' := (mkF m 42 #[.val (.ref a), .val (.ref b)] [vn, (.ref r), (.ref r)])) st4 ?_
  refine Out.via (g' := (mkF m 43 #[.val (.ref a), .val (.ref b)] [(.ref a), vn, (.ref r), (.ref r)])) (fun _ k => XS.aloadN X4.here hx rfl (hb hby own_d14_42) rfl rfl k) ?_
  obtain ⟨T5, X5, e5, st5⟩ := getF X4 hx hZ hown (host := "") (Or.inl (hw _ (List.mem_of_getElem? (i := 48) rfl))) Via.refl e4 F1a (g := (mkF m 43 #[.val (.ref a), .val (.ref b)] [(.ref a), vn, (.ref r), (.ref r)])) rfl rfl (hb hby own_d14_43)
  refine Out.via (g' := (mkF m 46 #[.val (.ref a), .val (.ref b)] [(.int p1), vn, (.ref r), (.ref r)])) st5 ?_
  refine Out.via (g' := (mkF m 47 #[.val (.ref a), .val (.ref b)] [(.ref b), (.int p1), vn, (.ref r), (.ref r)])) (fun _ k => XS.aloadN X5.here hx rfl (hb hby own_d14_46) rfl rfl k) ?_
  obtain ⟨T6, X6, e6, st6⟩ := getF X5 hx hZ hown (host := "") (Or.inl (hw _ (List.mem_of_getElem? (i := 50) rfl))) Via.refl e5 F2b (g := (mkF m 47 #[.val (.ref a), .val (.ref b)] [(.ref b), (.int p1), vn, (.ref r), (.ref r)])) rfl rfl (hb hby own_d14_47)
  refine Out.via (g' := (mkF m 50 #[.val (.ref a), .val (.ref b)] [(.int p3), (.int p1), vn, (.ref r), (.ref r)])) st6 ?_
  refine Out.via (g' := (mkF m 51 #[.val (.ref a), .val (.ref b)] [(.ref a), (.int p3), (.int p1), vn, (.ref r), (.ref r)])) (fun _ k => XS.aloadN X6.here hx rfl (hb hby own_d14_50) rfl rfl k) ?_
  obtain ⟨T7, X7, e7, st7⟩ := getF X6 hx hZ hown (host := "") (Or.inl (hw _ (List.mem_of_getElem? (i := 52) rfl))) Via.refl e6 F3a (g := (mkF m 51 #[.val (.ref a), .val (.ref b)] [(.ref a), (.int p3), (.int p1), vn, (.ref r), (.ref r)])) rfl rfl (hb hby own_d14_51)
  refine Out.via (g' := (mkF m 54 #[.val (.ref a), .val (.ref b)] [(.int z1), (.int p3), (.int p1), vn, (.ref r), (.ref r)])) st7 ?_
  suffices rest : ∀ T' : State, T'.heap = h3 → Stand p l e ({ frames := 3, cells := 1, slots := 4, locals := 41 } : Room) s m #[(.ref a), (.ref b)] below meth c T' _ _ _ → ∀ zz : Int32, RoadKit.Out p.tables e below (End s below (fun v h L => ∃ r : Addr, v = some (.ref r) ∧ Fr n0 L ∧ Keep h0 h [] ∧ Exa Z h r "com/example/talao/talao/Field" ∧ Fld Z h r "com/example/talao/talao/Field" "start" "I" (.int p1) ∧ Fld Z h r "com/example/talao/talao/Field" "end" "I" (.int p3)) ({ frames := 3, cells := 1, slots := 4, locals := 41 } : Room).cells ({ frames := 3, cells := 1, slots := 4, locals := 41 } : Room).slots) T' (mkF m 69 #[.val (.ref a), .val (.ref b)] [(.int zz), (.int p3), (.int p1), vn, (.ref r), (.ref r)]) by
    by_cases hz : z1 = (0 : Int32)
    · refine Out.via (g' := (mkF m 68 #[.val (.ref a), .val (.ref b)] [(.int p3), (.int p1), vn, (.ref r), (.ref r)])) (fun _ k => XS.ifYes X7.here hx rfl (pc0 := 54) (pc' := 68) rfl (hb hby own_d14_54) rfl ((if0 _ _).trans (teq hz).1) (by decide) (by decide) k) ?_
      refine Out.via (g' := (mkF m 69 #[.val (.ref a), .val (.ref b)] [(.int (0 : Int32)), (.int p3), (.int p1), vn, (.ref r), (.ref r)])) (fun _ k => XS.iconst X7.here hx rfl (hb hby own_d14_68) k) ?_
      exact rest _ e7 X7 _
    · refine Out.via (g' := (mkF m 57 #[.val (.ref a), .val (.ref b)] [(.int p3), (.int p1), vn, (.ref r), (.ref r)])) (fun _ k => XS.ifNo X7.here hx rfl (hb hby own_d14_54) rfl ((if0 _ _).trans (feq hz).1) k) ?_
      refine Out.via (g' := (mkF m 58 #[.val (.ref a), .val (.ref b)] [(.ref b), (.int p3), (.int p1), vn, (.ref r), (.ref r)])) (fun _ k => XS.aloadN X7.here hx rfl (hb hby own_d14_57) rfl rfl k) ?_
      obtain ⟨T8, X8, e8, st8⟩ := getF X7 hx hZ hown (host := "") (Or.inl (hw _ (List.mem_of_getElem? (i := 52) rfl))) Via.refl e7 F3b (g := (mkF m 58 #[.val (.ref a), .val (.ref b)] [(.ref b), (.int p3), (.int p1), vn, (.ref r), (.ref r)])) rfl rfl (hb hby own_d14_58)
      refine Out.via (g' := (mkF m 61 #[.val (.ref a), .val (.ref b)] [(.int z2), (.int p3), (.int p1), vn, (.ref r), (.ref r)])) st8 ?_
      by_cases hy : z2 = (0 : Int32)
      · refine Out.via (g' := (mkF m 68 #[.val (.ref a), .val (.ref b)] [(.int p3), (.int p1), vn, (.ref r), (.ref r)])) (fun _ k => XS.ifYes X8.here hx rfl (pc0 := 61) (pc' := 68) rfl (hb hby own_d14_61) rfl ((if0 _ _).trans (teq hy).1) (by decide) (by decide) k) ?_
        refine Out.via (g' := (mkF m 69 #[.val (.ref a), .val (.ref b)] [(.int (0 : Int32)), (.int p3), (.int p1), vn, (.ref r), (.ref r)])) (fun _ k => XS.iconst X8.here hx rfl (hb hby own_d14_68) k) ?_
        exact rest _ e8 X8 _
      · refine Out.via (g' := (mkF m 64 #[.val (.ref a), .val (.ref b)] [(.int p3), (.int p1), vn, (.ref r), (.ref r)])) (fun _ k => XS.ifNo X8.here hx rfl (hb hby own_d14_61) rfl ((if0 _ _).trans (feq hy).1) k) ?_
        refine Out.via (g' := (mkF m 65 #[.val (.ref a), .val (.ref b)] [(.int (1 : Int32)), (.int p3), (.int p1), vn, (.ref r), (.ref r)])) (fun _ k => XS.iconst X8.here hx rfl (hb hby own_d14_64) k) ?_
        refine Out.via (g' := (mkF m 69 #[.val (.ref a), .val (.ref b)] [(.int (1 : Int32)), (.int p3), (.int p1), vn, (.ref r), (.ref r)])) (fun _ k => XS.goto X8.here hx rfl (pc0 := 65) (pc' := 69) rfl (hb hby own_d14_65) (by decide) (by decide) k) ?_
        exact rest _ e8 X8 _
  intro T9 e9 X9 zz
  obtain ⟨_, _, ⟨T8, L8, kc8, ks8⟩, -, X8, ⟨Lc8, hQ8, l8, y8, z8⟩, st8⟩ := X9.specialBack hx (y := (⟨"com/example/talao/talao/Field", "<init>", "(Ljava/lang/String;IIZ)V"⟩ : MethodName)) rfl hown (mvT hZ (hw _ (List.mem_of_getElem? (i := 104) rfl))) (mvT hZ (hw _ (List.mem_of_getElem? (i := 38) rfl))) (mvT hZ (hw _ (List.mem_of_getElem? (i := 39) rfl))) (by decide) (backOf (W := 1) (own_rmF l Z a0 hw [] r vn p1 p3 zz h3 n0 O g_r A3 F_name_r F_start_r F_end_r F_numeric_r r1) hZ (hw _ (List.mem_of_getElem? (i := 39) rfl)) (hw _ (List.mem_of_getElem? (i := 33) rfl)) (by decide) (by decide)) (g := (mkF m 69 #[.val (.ref a), .val (.ref b)] [(.int zz), (.int p3), (.int p1), vn, (.ref r), (.ref r)])) rfl (by rw [hml]; rfl) (Steps.refl _) (a := r) (argsL := [vn, (.int p1), (.int p3), (.int zz)]) (rest := [(.ref r)]) (lenOf own_pd17 rfl) rfl (by show 2 * 0 + _ ≤ _; exact Nat.le_of_eq rfl) (hb hby own_d14_69) (fun _ _ => ⟨rfl, e9, (by decide : 1 + 0 ≤ _), (by decide : 4 + 0 ≤ _)⟩)
  dsimp only [Pt.U, Pt.locs, Pt.cells, Pt.slots] at X8 l8 y8 z8 st8 hQ8
  subst l8 y8 z8
  obtain ⟨rfl, Nq8, Kq8, E_r, Fn_r, Fs_r, Fe_r, Fz_r⟩ := hQ8
  replace N0 := Fr.app N0 Nq8
  replace F0a := F0a.keep Kq8 (ninS ne_a_r nin0)
  replace F1a := F1a.keep Kq8 (ninS ne_a_r nin0)
  replace F2a := F2a.keep Kq8 (ninS ne_a_r nin0)
  replace F3a := F3a.keep Kq8 (ninS ne_a_r nin0)
  replace F1b := F1b.keep Kq8 (ninS ne_b_r nin0)
  replace F2b := F2b.keep Kq8 (ninS ne_b_r nin0)
  replace F3b := F3b.keep Kq8 (ninS ne_b_r nin0)
  replace A3 := A3.keep Kq8
  replace O := O.keep Kq8 (allS g_r all0)
  replace Kp := Kp.trans Kq8 (allS (Or.inr sz_r) all0)
  refine Out.to (g' := (mkF m 72 #[.val (.ref a), .val (.ref b)] [(.ref r)])) st8 ?_
  exact Out.endN X8 (fun h => by rw [Bd.returns] at h; cases h) Bd.notSynchronized (by decide) (by decide) (⟨r, rfl, N0, Kp, E_r, Fs_r, Fe_r⟩) (fun fs hr => own_retR X8 hx (t := (.object "com/example/talao/talao/Field")) Bd.returns rfl rfl rfl (hb hby own_d14_72) hr)
theorem own_and7 (x : Int32) : ∃ k : Nat, k < 8 ∧ x &&& (7 : Int32) = Int32.ofNat k := by
  have h : (x &&& 7).toBitVec.toNat < 8 := by
    simp only [Int32.toBitVec_and, BitVec.toNat_and]
    exact Nat.lt_succ_of_le Nat.and_le_right
  refine ⟨(x &&& 7).toBitVec.toNat, h, ?_⟩
  apply Int32.toBitVec_inj.mp
  show _ = BitVec.ofNat 32 _
  rw [BitVec.ofNat_toNat]; simp
theorem own_t9 : ∀ k : Fin 8, Int32.ofNat k.val + (1 : Int32) = Int32.ofNat (k.val + 1) ∧ ((10 : Int32) - Int32.ofNat (k.val + 1)).toInt = 9 - (k.val : Int) ∧ (10 : Int32) - Int32.ofNat (k.val + 1) ≠ 0 := by decide +kernel
theorem own_t10 : ∀ k : Fin 8, ∀ n : Fin 9, k.val + n.val ≤ 8 → (Int32.ofNat (k.val + 1) - (1 : Int32)) + Int32.ofNat n.val = Int32.ofNat (k.val + n.val) ∧ (Int32.ofNat (k.val + n.val) - Int32.ofNat (k.val + 1)) + (1 : Int32) = Int32.ofNat n.val := by decide +kernel
theorem own_rem {x y : Int32} {d : Int} (hx : 0 ≤ x.toInt) (hy : y.toInt = d) (hd : 0 < d) (hd8 : d ≤ 9) : ∃ n : Nat, (n : Int) < d ∧ x % y = Int32.ofNat n := by
  have q := (c_irem x y d hy).1 hx
  have r := Int.emod_nonneg x.toInt (show d ≠ 0 by omega)
  have r' := Int.emod_lt_of_pos x.toInt hd
  refine ⟨(x % y).toInt.toNat, by omega, Int32.toInt_inj.mp ?_⟩
  rw [Int32.toInt_ofNat_small (by omega)]
  omega
theorem own_add (a b c : Int32) : (c - a) + (1 : Int32) = ((b - a) + (1 : Int32)) + ((c - (b + (1 : Int32))) + (1 : Int32)) := by
  have e : (b - a) + (c - b) = c - a := by
    rw [Int32.sub_eq_add_neg, Int32.sub_eq_add_neg, Int32.sub_eq_add_neg, Int32.add_comm b (-a), Int32.add_assoc, ← Int32.add_assoc b c (-b), Int32.add_comm b c, Int32.add_assoc c b (-b), Int32.add_right_neg, Int32.add_zero, Int32.add_comm]
  have f : c - (b + 1) + 1 = c - b := by
    rw [Int32.sub_eq_add_neg, Int32.neg_add, Int32.sub_eq_add_neg, Int32.add_assoc, Int32.sub_eq_add_neg, Int32.add_assoc (-b), show (-(1 : Int32)) + 1 = 0 from rfl, Int32.add_zero]
  rw [f, Int32.add_assoc, Int32.add_comm 1, ← Int32.add_assoc, e]
theorem own_pn18 : plainName "com/example/talao/talao/FieldWidthPinLaw" = true := by first | (simp [plainName, overriddenIn]; done) | decide +kernel
theorem own_pd19 : parseMethodDescriptor "([C)V" = some ⟨[(.array .char)], none⟩ := by decide +kernel
theorem own_pd20 : parseMethodDescriptor "(Ljava/lang/String;)Ljava/lang/String;" = some ⟨[(.object "java/lang/String")], some (.object "java/lang/String")⟩ := by decide +kernel
theorem own_pd21 : parseMethodDescriptor "(Lcom/example/talao/talao/Field;)Lcom/example/talao/talao/Field;" = some ⟨[(.object "com/example/talao/talao/Field")], some (.object "com/example/talao/talao/Field")⟩ := by decide +kernel
theorem own_ef0 (m : MethodId) (x0 : Int32) (x1 : Int32) (x2 : Int32) (x3 : Int32) (x4 : Int32) (x5 : Int32) : entryFrame m #[(.int x0), (.int x1), (.int x2), (.int x3), (.int x4), (.int x5)] maxLocals = mkF m 0 #[.val (.int x0), .val (.int x1), .val (.int x2), .val (.int x3), .val (.int x4), .val (.int x5), .unset, .unset, .unset, .unset, .unset, .unset, .unset, .unset, .unset, .unset, .unset, .unset, .unset, .unset] [] := by first | (simp [entryFrame, mkF, argsToLocals, Value.category, maxLocals]; done) | rfl
set_option maxRecDepth 65536 in
set_option maxHeartbeats 40000000 in
theorem own_rm0 (l : Launch) (Z : State) (a0 : Array Value) (hw : ∀ d ∈ tables_1, d.before a0 Z = true) (ws : List Jvm.Cond) (p0 p1 p2 p3 p4 p5 : Int32) (G1 : Int32) (G3 : Value) (h0 : Heap) (n0 : Nat) (O : Old Z n0 h0) (O2 : Sta Z Z.heap "java/lang/String" "COMPACT_STRINGS" "Z" (.int G1)) (P5 : ¬ (G1 = (0 : Int32))) (O4 : Sta Z Z.heap "jdk/internal/util/Preconditions" "SIOOBE_FORMATTER" "Ljava/util/function/BiFunction;" G3) (rG3 : G3.isRef = true) :
    MetFree l x (head1 (Jvm.Cond.code x code maxLocals ret :: ws) room_1) (fun aa U => aa = #[(.int p0), (.int p1), (.int p2), (.int p3), (.int p4), (.int p5)] ∧ Z.Warmed39 U.vm ∧ U.heap = h0 ∧ CHv Z own_EL U.vm h0) (fun _ _ _ _ _ => True) (fun _ U o U' => ∃ v L, o = .returned v ∧ (fun v h L => v = some (.int (1 : Int32)) ∧ Fr n0 L) v U'.heap L ∧ ReturnedEndW U o U' L room_1.cells room_1.slots) := by
  refine MetFree.of_bodySF (plainFor_of_name own_pn18) hisR ?_
  intro p e s m args below meth c s₁ Bd hml0 hP hK
  obtain ⟨rfl, hZ, hh, hCH⟩ := hP
  have hx := Bd.exec
  have hby := Bd.bytes
  have hml : c.maxLocals = 20 := hml0
  have hown : s.vm.findClass "com/example/talao/talao/FieldWidthPinLaw" = some m.cls := findClass_of_methodNamed Bd.named
  have hnm := (name_of_methodNamed Bd.named Bd.method).1
  have X0 : Stand p l e room_1 (s.setVm s.vm) m #[(.int p0), (.int p1), (.int p2), (.int p3), (.int p4), (.int p5)] below meth c s₁ [] 0 0 := Stand.of_body Bd
  have e0 : s₁.heap = h0 := by rw [← hh, Bd.state]; rfl
  have N0 := Fr.nil n0
  have hS := own_since0 s 0
  have hk : 0 ≤ h0.size := Nat.zero_le _
  have CR : CHr Z own_EL s.vm h0 s.vm h0 := CHr.refl hCH
  refine Out.startW (Q := fun v h L => v = some (.int (1 : Int32)) ∧ Fr n0 L) (own_ef0 m p0 p1 p2 p3 p4 p5 ) ?_
  have Kp := Keep.refl h0 []
  have hEL := own_hEL hw
  have wS := own_wS hw
  have hws : ∀ d ∈ StrChars.Road.words, d.before a0 Z = true := fun d hd => hw d ((by decide +kernel : ∀ d ∈ StrChars.Road.words, d ∈ tables_1) d hd)
  refine Out.via (g' := (mkF m 1 #[.val (.int p0), .val (.int p1), .val (.int p2), .val (.int p3), .val (.int p4), .val (.int p5), .unset, .unset, .unset, .unset, .unset, .unset, .unset, .unset, .unset, .unset, .unset, .unset, .unset, .unset] [(.int p3)])) (fun _ k => XS.iloadN X0.here hx rfl (hb hby at_0) rfl k) ?_
  refine Out.via (g' := (mkF m 3 #[.val (.int p0), .val (.int p1), .val (.int p2), .val (.int p3), .val (.int p4), .val (.int p5), .unset, .unset, .unset, .unset, .unset, .unset, .unset, .unset, .unset, .unset, .unset, .unset, .unset, .unset] [(.int (7 : Int32)), (.int p3)])) (fun _ k => XS.bipush X0.here hx rfl (hb hby at_1) k) ?_
  refine Out.via (g' := (mkF m 4 #[.val (.int p0), .val (.int p1), .val (.int p2), .val (.int p3), .val (.int p4), .val (.int p5), .unset, .unset, .unset, .unset, .unset, .unset, .unset, .unset, .unset, .unset, .unset, .unset, .unset, .unset] [(.int (p3 &&& (7 : Int32)))])) (fun _ k => XS.iand X0.here hx rfl (hb hby at_3) rfl k) ?_
  refine Out.via (g' := (mkF m 5 #[.val (.int p0), .val (.int p1), .val (.int p2), .val (.int p3), .val (.int p4), .val (.int p5), .unset, .unset, .unset, .unset, .unset, .unset, .unset, .unset, .unset, .unset, .unset, .unset, .unset, .unset] [(.int (1 : Int32)), (.int (p3 &&& (7 : Int32)))])) (fun _ k => XS.iconst X0.here hx rfl (hb hby at_4) k) ?_
  refine Out.via (g' := (mkF m 6 #[.val (.int p0), .val (.int p1), .val (.int p2), .val (.int p3), .val (.int p4), .val (.int p5), .unset, .unset, .unset, .unset, .unset, .unset, .unset, .unset, .unset, .unset, .unset, .unset, .unset, .unset] [(.int ((p3 &&& (7 : Int32)) + (1 : Int32)))])) (fun _ k => XS.iadd X0.here hx rfl (hb hby at_5) rfl k) ?_
  refine Out.via (g' := (mkF m 8 #[.val (.int p0), .val (.int p1), .val (.int p2), .val (.int p3), .val (.int p4), .val (.int p5), .val (.int ((p3 &&& (7 : Int32)) + (1 : Int32))), .unset, .unset, .unset, .unset, .unset, .unset, .unset, .unset, .unset, .unset, .unset, .unset, .unset] [])) (fun _ k => XS.istore X0.here hx rfl (hb hby at_6) rfl (l' := #[.val (.int p0), .val (.int p1), .val (.int p2), .val (.int p3), .val (.int p4), .val (.int p5), .val (.int ((p3 &&& (7 : Int32)) + (1 : Int32))), .unset, .unset, .unset, .unset, .unset, .unset, .unset, .unset, .unset, .unset, .unset, .unset, .unset]) rfl k) ?_
  obtain ⟨ks, hks, hq7⟩ := own_and7 p3
  have t9 := own_t9 ⟨ks, hks⟩
  rw [hq7, t9.1]
  show RoadKit.Out p.tables e below _ s₁ (mkF m 8 #[.val (.int p0), .val (.int p1), .val (.int p2), .val (.int p3), .val (.int p4), .val (.int p5), .val (.int (Int32.ofNat (ks + 1))), .unset, .unset, .unset, .unset, .unset, .unset, .unset, .unset, .unset, .unset, .unset, .unset, .unset] [])
  refine Out.via (g' := (mkF m 10 #[.val (.int p0), .val (.int p1), .val (.int p2), .val (.int p3), .val (.int p4), .val (.int p5), .val (.int (Int32.ofNat (ks + 1))), .unset, .unset, .unset, .unset, .unset, .unset, .unset, .unset, .unset, .unset, .unset, .unset, .unset] [(.int p4)])) (fun _ k => XS.iload X0.here hx rfl (hb hby at_8) rfl k) ?_
  refine Out.via (g' := (mkF m 12 #[.val (.int p0), .val (.int p1), .val (.int p2), .val (.int p3), .val (.int p4), .val (.int p5), .val (.int (Int32.ofNat (ks + 1))), .unset, .unset, .unset, .unset, .unset, .unset, .unset, .unset, .unset, .unset, .unset, .unset, .unset] [(.int (2147483647 : Int32)), (.int p4)])) (fun _ k => X0.ldcInt hx hown (mvT hZ (hw _ (List.mem_of_getElem? (i := 0) rfl))) (g := (mkF m 10 #[.val (.int p0), .val (.int p1), .val (.int p2), .val (.int p3), .val (.int p4), .val (.int p5), .val (.int (Int32.ofNat (ks + 1))), .unset, .unset, .unset, .unset, .unset, .unset, .unset, .unset, .unset, .unset, .unset, .unset, .unset] [(.int p4)])) rfl (hb hby at_10) _ k) ?_
  refine Out.via (g' := (mkF m 13 #[.val (.int p0), .val (.int p1), .val (.int p2), .val (.int p3), .val (.int p4), .val (.int p5), .val (.int (Int32.ofNat (ks + 1))), .unset, .unset, .unset, .unset, .unset, .unset, .unset, .unset, .unset, .unset, .unset, .unset, .unset] [(.int (p4 &&& (2147483647 : Int32)))])) (fun _ k => XS.iand X0.here hx rfl (hb hby at_12) rfl k) ?_
  refine Out.via (g' := (mkF m 15 #[.val (.int p0), .val (.int p1), .val (.int p2), .val (.int p3), .val (.int p4), .val (.int p5), .val (.int (Int32.ofNat (ks + 1))), .unset, .unset, .unset, .unset, .unset, .unset, .unset, .unset, .unset, .unset, .unset, .unset, .unset] [(.int (10 : Int32)), (.int (p4 &&& (2147483647 : Int32)))])) (fun _ k => XS.bipush X0.here hx rfl (hb hby at_13) k) ?_
  refine Out.via (g' := (mkF m 17 #[.val (.int p0), .val (.int p1), .val (.int p2), .val (.int p3), .val (.int p4), .val (.int p5), .val (.int (Int32.ofNat (ks + 1))), .unset, .unset, .unset, .unset, .unset, .unset, .unset, .unset, .unset, .unset, .unset, .unset, .unset] [(.int (Int32.ofNat (ks + 1))), (.int (10 : Int32)), (.int (p4 &&& (2147483647 : Int32)))])) (fun _ k => XS.iload X0.here hx rfl (hb hby at_15) rfl k) ?_
  refine Out.via (g' := (mkF m 18 #[.val (.int p0), .val (.int p1), .val (.int p2), .val (.int p3), .val (.int p4), .val (.int p5), .val (.int (Int32.ofNat (ks + 1))), .unset, .unset, .unset, .unset, .unset, .unset, .unset, .unset, .unset, .unset, .unset, .unset, .unset] [(.int ((10 : Int32) - (Int32.ofNat (ks + 1)))), (.int (p4 &&& (2147483647 : Int32)))])) (fun _ k => XS.isub X0.here hx rfl (hb hby at_17) rfl k) ?_
  refine Out.via (g' := (mkF m 19 #[.val (.int p0), .val (.int p1), .val (.int p2), .val (.int p3), .val (.int p4), .val (.int p5), .val (.int (Int32.ofNat (ks + 1))), .unset, .unset, .unset, .unset, .unset, .unset, .unset, .unset, .unset, .unset, .unset, .unset, .unset] [(.int ((p4 &&& (2147483647 : Int32)) % ((10 : Int32) - (Int32.ofNat (ks + 1)))))])) (fun _ k => iremM (g := (mkF m 18 #[.val (.int p0), .val (.int p1), .val (.int p2), .val (.int p3), .val (.int p4), .val (.int p5), .val (.int (Int32.ofNat (ks + 1))), .unset, .unset, .unset, .unset, .unset, .unset, .unset, .unset, .unset, .unset, .unset, .unset, .unset] [(.int ((10 : Int32) - (Int32.ofNat (ks + 1)))), (.int (p4 &&& (2147483647 : Int32)))])) X0 hx rfl (hb hby at_18) rfl t9.2.2 k) ?_
  refine Out.via (g' := (mkF m 21 #[.val (.int p0), .val (.int p1), .val (.int p2), .val (.int p3), .val (.int p4), .val (.int p5), .val (.int (Int32.ofNat (ks + 1))), .val (.int ((p4 &&& (2147483647 : Int32)) % ((10 : Int32) - (Int32.ofNat (ks + 1))))), .unset, .unset, .unset, .unset, .unset, .unset, .unset, .unset, .unset, .unset, .unset, .unset] [])) (fun _ k => XS.istore X0.here hx rfl (hb hby at_19) rfl (l' := #[.val (.int p0), .val (.int p1), .val (.int p2), .val (.int p3), .val (.int p4), .val (.int p5), .val (.int (Int32.ofNat (ks + 1))), .val (.int ((p4 &&& (2147483647 : Int32)) % ((10 : Int32) - (Int32.ofNat (ks + 1))))), .unset, .unset, .unset, .unset, .unset, .unset, .unset, .unset, .unset, .unset, .unset, .unset]) rfl k) ?_
  obtain ⟨kl, hkl, hql⟩ := own_rem (c_and p4 (2147483647 : Int32) (by decide)).1 t9.2.1 (by omega) (by omega)
  have hle : ks + kl ≤ 8 := by dsimp only at hkl; omega
  rw [hql]
  have t10 := own_t10 ⟨ks, hks⟩ ⟨kl, by omega⟩ hle
  refine Out.via (g' := (mkF m 23 #[.val (.int p0), .val (.int p1), .val (.int p2), .val (.int p3), .val (.int p4), .val (.int p5), .val (.int (Int32.ofNat (ks + 1))), .val (.int (Int32.ofNat kl)), .unset, .unset, .unset, .unset, .unset, .unset, .unset, .unset, .unset, .unset, .unset, .unset] [(.int (Int32.ofNat (ks + 1)))])) (fun _ k => XS.iload X0.here hx rfl (hb hby at_21) rfl k) ?_
  refine Out.via (g' := (mkF m 24 #[.val (.int p0), .val (.int p1), .val (.int p2), .val (.int p3), .val (.int p4), .val (.int p5), .val (.int (Int32.ofNat (ks + 1))), .val (.int (Int32.ofNat kl)), .unset, .unset, .unset, .unset, .unset, .unset, .unset, .unset, .unset, .unset, .unset, .unset] [(.int (1 : Int32)), (.int (Int32.ofNat (ks + 1)))])) (fun _ k => XS.iconst X0.here hx rfl (hb hby at_23) k) ?_
  refine Out.via (g' := (mkF m 25 #[.val (.int p0), .val (.int p1), .val (.int p2), .val (.int p3), .val (.int p4), .val (.int p5), .val (.int (Int32.ofNat (ks + 1))), .val (.int (Int32.ofNat kl)), .unset, .unset, .unset, .unset, .unset, .unset, .unset, .unset, .unset, .unset, .unset, .unset] [(.int ((Int32.ofNat (ks + 1)) - (1 : Int32)))])) (fun _ k => XS.isub X0.here hx rfl (hb hby at_24) rfl k) ?_
  refine Out.via (g' := (mkF m 27 #[.val (.int p0), .val (.int p1), .val (.int p2), .val (.int p3), .val (.int p4), .val (.int p5), .val (.int (Int32.ofNat (ks + 1))), .val (.int (Int32.ofNat kl)), .unset, .unset, .unset, .unset, .unset, .unset, .unset, .unset, .unset, .unset, .unset, .unset] [(.int (Int32.ofNat kl)), (.int ((Int32.ofNat (ks + 1)) - (1 : Int32)))])) (fun _ k => XS.iload X0.here hx rfl (hb hby at_25) rfl k) ?_
  refine Out.via (g' := (mkF m 28 #[.val (.int p0), .val (.int p1), .val (.int p2), .val (.int p3), .val (.int p4), .val (.int p5), .val (.int (Int32.ofNat (ks + 1))), .val (.int (Int32.ofNat kl)), .unset, .unset, .unset, .unset, .unset, .unset, .unset, .unset, .unset, .unset, .unset, .unset] [(.int (((Int32.ofNat (ks + 1)) - (1 : Int32)) + (Int32.ofNat kl)))])) (fun _ k => XS.iadd X0.here hx rfl (hb hby at_27) rfl k) ?_
  refine Out.via (g' := (mkF m 30 #[.val (.int p0), .val (.int p1), .val (.int p2), .val (.int p3), .val (.int p4), .val (.int p5), .val (.int (Int32.ofNat (ks + 1))), .val (.int (Int32.ofNat kl)), .val (.int (((Int32.ofNat (ks + 1)) - (1 : Int32)) + (Int32.ofNat kl))), .unset, .unset, .unset, .unset, .unset, .unset, .unset, .unset, .unset, .unset, .unset] [])) (fun _ k => XS.istore X0.here hx rfl (hb hby at_28) rfl (l' := #[.val (.int p0), .val (.int p1), .val (.int p2), .val (.int p3), .val (.int p4), .val (.int p5), .val (.int (Int32.ofNat (ks + 1))), .val (.int (Int32.ofNat kl)), .val (.int (((Int32.ofNat (ks + 1)) - (1 : Int32)) + (Int32.ofNat kl))), .unset, .unset, .unset, .unset, .unset, .unset, .unset, .unset, .unset, .unset, .unset]) rfl k) ?_
  rw [t10.1]
  show RoadKit.Out p.tables e below _ s₁ (mkF m 30 #[.val (.int p0), .val (.int p1), .val (.int p2), .val (.int p3), .val (.int p4), .val (.int p5), .val (.int (Int32.ofNat (ks + 1))), .val (.int (Int32.ofNat kl)), .val (.int (Int32.ofNat (ks + kl))), .unset, .unset, .unset, .unset, .unset, .unset, .unset, .unset, .unset, .unset, .unset] [])
  refine Out.via (g' := (mkF m 32 #[.val (.int p0), .val (.int p1), .val (.int p2), .val (.int p3), .val (.int p4), .val (.int p5), .val (.int (Int32.ofNat (ks + 1))), .val (.int (Int32.ofNat kl)), .val (.int (Int32.ofNat (ks + kl))), .unset, .unset, .unset, .unset, .unset, .unset, .unset, .unset, .unset, .unset, .unset] [(.int p5)])) (fun _ k => XS.iload X0.here hx rfl (hb hby at_30) rfl k) ?_
  refine Out.via (g' := (mkF m 35 #[.val (.int p0), .val (.int p1), .val (.int p2), .val (.int p3), .val (.int p4), .val (.int p5), .val (.int (Int32.ofNat (ks + 1))), .val (.int (Int32.ofNat kl)), .val (.int (Int32.ofNat (ks + kl))), .unset, .unset, .unset, .unset, .unset, .unset, .unset, .unset, .unset, .unset, .unset] [(.int (255 : Int32)), (.int p5)])) (fun _ k => XS.sipush X0.here hx rfl (hb hby at_32) k) ?_
  refine Out.via (g' := (mkF m 36 #[.val (.int p0), .val (.int p1), .val (.int p2), .val (.int p3), .val (.int p4), .val (.int p5), .val (.int (Int32.ofNat (ks + 1))), .val (.int (Int32.ofNat kl)), .val (.int (Int32.ofNat (ks + kl))), .unset, .unset, .unset, .unset, .unset, .unset, .unset, .unset, .unset, .unset, .unset] [(.int (p5 &&& (255 : Int32)))])) (fun _ k => XS.iand X0.here hx rfl (hb hby at_35) rfl k) ?_
  refine Out.via (g' := (mkF m 37 #[.val (.int p0), .val (.int p1), .val (.int p2), .val (.int p3), .val (.int p4), .val (.int p5), .val (.int (Int32.ofNat (ks + 1))), .val (.int (Int32.ofNat kl)), .val (.int (Int32.ofNat (ks + kl))), .unset, .unset, .unset, .unset, .unset, .unset, .unset, .unset, .unset, .unset, .unset] [(.int ((p5 &&& (255 : Int32)).toUInt32.toUInt16.toUInt32.toInt32))])) (fun _ k => XS.i2c X0.here hx rfl (hb hby at_36) rfl k) ?_
  refine Out.via (g' := (mkF m 39 #[.val (.int p0), .val (.int p1), .val (.int p2), .val (.int p3), .val (.int p4), .val (.int p5), .val (.int (Int32.ofNat (ks + 1))), .val (.int (Int32.ofNat kl)), .val (.int (Int32.ofNat (ks + kl))), .val (.int ((p5 &&& (255 : Int32)).toUInt32.toUInt16.toUInt32.toInt32)), .unset, .unset, .unset, .unset, .unset, .unset, .unset, .unset, .unset, .unset] [])) (fun _ k => XS.istore X0.here hx rfl (hb hby at_37) rfl (l' := #[.val (.int p0), .val (.int p1), .val (.int p2), .val (.int p3), .val (.int p4), .val (.int p5), .val (.int (Int32.ofNat (ks + 1))), .val (.int (Int32.ofNat kl)), .val (.int (Int32.ofNat (ks + kl))), .val (.int ((p5 &&& (255 : Int32)).toUInt32.toUInt16.toUInt32.toInt32)), .unset, .unset, .unset, .unset, .unset, .unset, .unset, .unset, .unset, .unset]) rfl k) ?_
  generalize hq_c : ((p5 &&& (255 : Int32)).toUInt32.toUInt16.toUInt32.toInt32) = ch
  have D_c : own_lat ch := hq_c ▸ own_mask _
  refine Out.via (g' := (mkF m 41 #[.val (.int p0), .val (.int p1), .val (.int p2), .val (.int p3), .val (.int p4), .val (.int p5), .val (.int (Int32.ofNat (ks + 1))), .val (.int (Int32.ofNat kl)), .val (.int (Int32.ofNat (ks + kl))), .val (.int ch), .unset, .unset, .unset, .unset, .unset, .unset, .unset, .unset, .unset, .unset] [(.int (8 : Int32))])) (fun _ k => XS.bipush X0.here hx rfl (hb hby at_39) k) ?_
  obtain ⟨T1, h1, kA1, X1, e1, E1, A1, st1⟩ := newP X0 hx hZ (hw _ (List.mem_of_getElem? (i := 1) rfl)) e0 (g := (mkF m 41 #[.val (.int p0), .val (.int p1), .val (.int p2), .val (.int p3), .val (.int p4), .val (.int p5), .val (.int (Int32.ofNat (ks + 1))), .val (.int (Int32.ofNat kl)), .val (.int (Int32.ofNat (ks + kl))), .val (.int ch), .unset, .unset, .unset, .unset, .unset, .unset, .unset, .unset, .unset, .unset] [(.int (8 : Int32))])) rfl (hb hby at_41) rfl (by decide) (cap := 8) (by decide) (by decide) (by decide) (by decide)
  obtain ⟨ca, gq1⟩ : ∃ z, z = h0.size := ⟨_, rfl⟩
  rw [← gq1] at A1 st1
  have g_ca : n0 ≤ ca := Nat.le_trans (own_z0 O) (Nat.le_of_eq gq1.symm)
  have sz_ca : h0.size ≤ ca := Nat.le_trans Kp.1 (Nat.le_of_eq gq1.symm)
  replace O := O.ext E1
  replace Kp := Kp.ext E1
  replace hk := Nat.le_trans hk E1.1
  have V_ca : Arv Z h1 ca kA1 .char (8 : Int32) [(.int (0 : Int32)), (.int (0 : Int32)), (.int (0 : Int32)), (.int (0 : Int32)), (.int (0 : Int32)), (.int (0 : Int32)), (.int (0 : Int32)), (.int (0 : Int32))] (.int (0 : Int32)) := (Arv.new A1 (by decide)).pad (pad_rep [] (.int (0 : Int32)) 8)
  refine Out.via (g' := (mkF m 43 #[.val (.int p0), .val (.int p1), .val (.int p2), .val (.int p3), .val (.int p4), .val (.int p5), .val (.int (Int32.ofNat (ks + 1))), .val (.int (Int32.ofNat kl)), .val (.int (Int32.ofNat (ks + kl))), .val (.int ch), .unset, .unset, .unset, .unset, .unset, .unset, .unset, .unset, .unset, .unset] [(.ref ca)])) st1 ?_
  have Kf2 := Keep.refl h1 [ca]
  refine Out.via (g' := (mkF m 44 #[.val (.int p0), .val (.int p1), .val (.int p2), .val (.int p3), .val (.int p4), .val (.int p5), .val (.int (Int32.ofNat (ks + 1))), .val (.int (Int32.ofNat kl)), .val (.int (Int32.ofNat (ks + kl))), .val (.int ch), .unset, .unset, .unset, .unset, .unset, .unset, .unset, .unset, .unset, .unset] [(.ref ca), (.ref ca)])) (fun _ k => XS.dup X1.here hx rfl (hb hby at_43) rfl rfl k) ?_
  refine Out.via (g' := (mkF m 45 #[.val (.int p0), .val (.int p1), .val (.int p2), .val (.int p3), .val (.int p4), .val (.int p5), .val (.int (Int32.ofNat (ks + 1))), .val (.int (Int32.ofNat kl)), .val (.int (Int32.ofNat (ks + kl))), .val (.int ch), .unset, .unset, .unset, .unset, .unset, .unset, .unset, .unset, .unset, .unset] [(.int (0 : Int32)), (.ref ca), (.ref ca)])) (fun _ k => XS.iconst X1.here hx rfl (hb hby at_44) k) ?_
  refine Out.via (g' := (mkF m 47 #[.val (.int p0), .val (.int p1), .val (.int p2), .val (.int p3), .val (.int p4), .val (.int p5), .val (.int (Int32.ofNat (ks + 1))), .val (.int (Int32.ofNat kl)), .val (.int (Int32.ofNat (ks + kl))), .val (.int ch), .unset, .unset, .unset, .unset, .unset, .unset, .unset, .unset, .unset, .unset] [(.int ch), (.int (0 : Int32)), (.ref ca), (.ref ca)])) (fun _ k => XS.iload X1.here hx rfl (hb hby at_45) rfl k) ?_
  obtain ⟨T3, h3, L3, X3, e3, V_ca, N0, O, Kf2, st3⟩ := own_stC X1 hx hZ e1 V_ca (j := (0 : Int32)) ⟨by decide, by decide⟩ 0 rfl (Nat.le_of_ble_eq_true rfl) g_ca N0 O Kf2 (Or.inl (List.mem_of_getElem? (i := 0) rfl)) (g := (mkF m 47 #[.val (.int p0), .val (.int p1), .val (.int p2), .val (.int p3), .val (.int p4), .val (.int p5), .val (.int (Int32.ofNat (ks + 1))), .val (.int (Int32.ofNat kl)), .val (.int (Int32.ofNat (ks + kl))), .val (.int ch), .unset, .unset, .unset, .unset, .unset, .unset, .unset, .unset, .unset, .unset] [(.int ch), (.int (0 : Int32)), (.ref ca), (.ref ca)])) rfl rfl (hb hby at_47)
  refine Out.via (g' := (mkF m 48 #[.val (.int p0), .val (.int p1), .val (.int p2), .val (.int p3), .val (.int p4), .val (.int p5), .val (.int (Int32.ofNat (ks + 1))), .val (.int (Int32.ofNat kl)), .val (.int (Int32.ofNat (ks + kl))), .val (.int ch), .unset, .unset, .unset, .unset, .unset, .unset, .unset, .unset, .unset, .unset] [(.ref ca)])) st3 ?_
  refine Out.via (g' := (mkF m 49 #[.val (.int p0), .val (.int p1), .val (.int p2), .val (.int p3), .val (.int p4), .val (.int p5), .val (.int (Int32.ofNat (ks + 1))), .val (.int (Int32.ofNat kl)), .val (.int (Int32.ofNat (ks + kl))), .val (.int ch), .unset, .unset, .unset, .unset, .unset, .unset, .unset, .unset, .unset, .unset] [(.ref ca), (.ref ca)])) (fun _ k => XS.dup X3.here hx rfl (hb hby at_48) rfl rfl k) ?_
  refine Out.via (g' := (mkF m 50 #[.val (.int p0), .val (.int p1), .val (.int p2), .val (.int p3), .val (.int p4), .val (.int p5), .val (.int (Int32.ofNat (ks + 1))), .val (.int (Int32.ofNat kl)), .val (.int (Int32.ofNat (ks + kl))), .val (.int ch), .unset, .unset, .unset, .unset, .unset, .unset, .unset, .unset, .unset, .unset] [(.int (1 : Int32)), (.ref ca), (.ref ca)])) (fun _ k => XS.iconst X3.here hx rfl (hb hby at_49) k) ?_
  refine Out.via (g' := (mkF m 52 #[.val (.int p0), .val (.int p1), .val (.int p2), .val (.int p3), .val (.int p4), .val (.int p5), .val (.int (Int32.ofNat (ks + 1))), .val (.int (Int32.ofNat kl)), .val (.int (Int32.ofNat (ks + kl))), .val (.int ch), .unset, .unset, .unset, .unset, .unset, .unset, .unset, .unset, .unset, .unset] [(.int ch), (.int (1 : Int32)), (.ref ca), (.ref ca)])) (fun _ k => XS.iload X3.here hx rfl (hb hby at_50) rfl k) ?_
  obtain ⟨T4, h4, L4, X4, e4, V_ca, N0, O, Kf2, st4⟩ := own_stC X3 hx hZ e3 V_ca (j := (1 : Int32)) ⟨by decide, by decide⟩ 1 rfl (Nat.le_of_ble_eq_true rfl) g_ca N0 O Kf2 (Or.inl (List.mem_of_getElem? (i := 0) rfl)) (g := (mkF m 52 #[.val (.int p0), .val (.int p1), .val (.int p2), .val (.int p3), .val (.int p4), .val (.int p5), .val (.int (Int32.ofNat (ks + 1))), .val (.int (Int32.ofNat kl)), .val (.int (Int32.ofNat (ks + kl))), .val (.int ch), .unset, .unset, .unset, .unset, .unset, .unset, .unset, .unset, .unset, .unset] [(.int ch), (.int (1 : Int32)), (.ref ca), (.ref ca)])) rfl rfl (hb hby at_52)
  refine Out.via (g' := (mkF m 53 #[.val (.int p0), .val (.int p1), .val (.int p2), .val (.int p3), .val (.int p4), .val (.int p5), .val (.int (Int32.ofNat (ks + 1))), .val (.int (Int32.ofNat kl)), .val (.int (Int32.ofNat (ks + kl))), .val (.int ch), .unset, .unset, .unset, .unset, .unset, .unset, .unset, .unset, .unset, .unset] [(.ref ca)])) st4 ?_
  refine Out.via (g' := (mkF m 54 #[.val (.int p0), .val (.int p1), .val (.int p2), .val (.int p3), .val (.int p4), .val (.int p5), .val (.int (Int32.ofNat (ks + 1))), .val (.int (Int32.ofNat kl)), .val (.int (Int32.ofNat (ks + kl))), .val (.int ch), .unset, .unset, .unset, .unset, .unset, .unset, .unset, .unset, .unset, .unset] [(.ref ca), (.ref ca)])) (fun _ k => XS.dup X4.here hx rfl (hb hby at_53) rfl rfl k) ?_
  refine Out.via (g' := (mkF m 55 #[.val (.int p0), .val (.int p1), .val (.int p2), .val (.int p3), .val (.int p4), .val (.int p5), .val (.int (Int32.ofNat (ks + 1))), .val (.int (Int32.ofNat kl)), .val (.int (Int32.ofNat (ks + kl))), .val (.int ch), .unset, .unset, .unset, .unset, .unset, .unset, .unset, .unset, .unset, .unset] [(.int (2 : Int32)), (.ref ca), (.ref ca)])) (fun _ k => XS.iconst X4.here hx rfl (hb hby at_54) k) ?_
  refine Out.via (g' := (mkF m 57 #[.val (.int p0), .val (.int p1), .val (.int p2), .val (.int p3), .val (.int p4), .val (.int p5), .val (.int (Int32.ofNat (ks + 1))), .val (.int (Int32.ofNat kl)), .val (.int (Int32.ofNat (ks + kl))), .val (.int ch), .unset, .unset, .unset, .unset, .unset, .unset, .unset, .unset, .unset, .unset] [(.int ch), (.int (2 : Int32)), (.ref ca), (.ref ca)])) (fun _ k => XS.iload X4.here hx rfl (hb hby at_55) rfl k) ?_
  obtain ⟨T5, h5, L5, X5, e5, V_ca, N0, O, Kf2, st5⟩ := own_stC X4 hx hZ e4 V_ca (j := (2 : Int32)) ⟨by decide, by decide⟩ 2 rfl (Nat.le_of_ble_eq_true rfl) g_ca N0 O Kf2 (Or.inl (List.mem_of_getElem? (i := 0) rfl)) (g := (mkF m 57 #[.val (.int p0), .val (.int p1), .val (.int p2), .val (.int p3), .val (.int p4), .val (.int p5), .val (.int (Int32.ofNat (ks + 1))), .val (.int (Int32.ofNat kl)), .val (.int (Int32.ofNat (ks + kl))), .val (.int ch), .unset, .unset, .unset, .unset, .unset, .unset, .unset, .unset, .unset, .unset] [(.int ch), (.int (2 : Int32)), (.ref ca), (.ref ca)])) rfl rfl (hb hby at_57)
  refine Out.via (g' := (mkF m 58 #[.val (.int p0), .val (.int p1), .val (.int p2), .val (.int p3), .val (.int p4), .val (.int p5), .val (.int (Int32.ofNat (ks + 1))), .val (.int (Int32.ofNat kl)), .val (.int (Int32.ofNat (ks + kl))), .val (.int ch), .unset, .unset, .unset, .unset, .unset, .unset, .unset, .unset, .unset, .unset] [(.ref ca)])) st5 ?_
  refine Out.via (g' := (mkF m 59 #[.val (.int p0), .val (.int p1), .val (.int p2), .val (.int p3), .val (.int p4), .val (.int p5), .val (.int (Int32.ofNat (ks + 1))), .val (.int (Int32.ofNat kl)), .val (.int (Int32.ofNat (ks + kl))), .val (.int ch), .unset, .unset, .unset, .unset, .unset, .unset, .unset, .unset, .unset, .unset] [(.ref ca), (.ref ca)])) (fun _ k => XS.dup X5.here hx rfl (hb hby at_58) rfl rfl k) ?_
  refine Out.via (g' := (mkF m 60 #[.val (.int p0), .val (.int p1), .val (.int p2), .val (.int p3), .val (.int p4), .val (.int p5), .val (.int (Int32.ofNat (ks + 1))), .val (.int (Int32.ofNat kl)), .val (.int (Int32.ofNat (ks + kl))), .val (.int ch), .unset, .unset, .unset, .unset, .unset, .unset, .unset, .unset, .unset, .unset] [(.int (3 : Int32)), (.ref ca), (.ref ca)])) (fun _ k => XS.iconst X5.here hx rfl (hb hby at_59) k) ?_
  refine Out.via (g' := (mkF m 62 #[.val (.int p0), .val (.int p1), .val (.int p2), .val (.int p3), .val (.int p4), .val (.int p5), .val (.int (Int32.ofNat (ks + 1))), .val (.int (Int32.ofNat kl)), .val (.int (Int32.ofNat (ks + kl))), .val (.int ch), .unset, .unset, .unset, .unset, .unset, .unset, .unset, .unset, .unset, .unset] [(.int ch), (.int (3 : Int32)), (.ref ca), (.ref ca)])) (fun _ k => XS.iload X5.here hx rfl (hb hby at_60) rfl k) ?_
  obtain ⟨T6, h6, L6, X6, e6, V_ca, N0, O, Kf2, st6⟩ := own_stC X5 hx hZ e5 V_ca (j := (3 : Int32)) ⟨by decide, by decide⟩ 3 rfl (Nat.le_of_ble_eq_true rfl) g_ca N0 O Kf2 (Or.inl (List.mem_of_getElem? (i := 0) rfl)) (g := (mkF m 62 #[.val (.int p0), .val (.int p1), .val (.int p2), .val (.int p3), .val (.int p4), .val (.int p5), .val (.int (Int32.ofNat (ks + 1))), .val (.int (Int32.ofNat kl)), .val (.int (Int32.ofNat (ks + kl))), .val (.int ch), .unset, .unset, .unset, .unset, .unset, .unset, .unset, .unset, .unset, .unset] [(.int ch), (.int (3 : Int32)), (.ref ca), (.ref ca)])) rfl rfl (hb hby at_62)
  refine Out.via (g' := (mkF m 63 #[.val (.int p0), .val (.int p1), .val (.int p2), .val (.int p3), .val (.int p4), .val (.int p5), .val (.int (Int32.ofNat (ks + 1))), .val (.int (Int32.ofNat kl)), .val (.int (Int32.ofNat (ks + kl))), .val (.int ch), .unset, .unset, .unset, .unset, .unset, .unset, .unset, .unset, .unset, .unset] [(.ref ca)])) st6 ?_
  refine Out.via (g' := (mkF m 64 #[.val (.int p0), .val (.int p1), .val (.int p2), .val (.int p3), .val (.int p4), .val (.int p5), .val (.int (Int32.ofNat (ks + 1))), .val (.int (Int32.ofNat kl)), .val (.int (Int32.ofNat (ks + kl))), .val (.int ch), .unset, .unset, .unset, .unset, .unset, .unset, .unset, .unset, .unset, .unset] [(.ref ca), (.ref ca)])) (fun _ k => XS.dup X6.here hx rfl (hb hby at_63) rfl rfl k) ?_
  refine Out.via (g' := (mkF m 65 #[.val (.int p0), .val (.int p1), .val (.int p2), .val (.int p3), .val (.int p4), .val (.int p5), .val (.int (Int32.ofNat (ks + 1))), .val (.int (Int32.ofNat kl)), .val (.int (Int32.ofNat (ks + kl))), .val (.int ch), .unset, .unset, .unset, .unset, .unset, .unset, .unset, .unset, .unset, .unset] [(.int (4 : Int32)), (.ref ca), (.ref ca)])) (fun _ k => XS.iconst X6.here hx rfl (hb hby at_64) k) ?_
  refine Out.via (g' := (mkF m 67 #[.val (.int p0), .val (.int p1), .val (.int p2), .val (.int p3), .val (.int p4), .val (.int p5), .val (.int (Int32.ofNat (ks + 1))), .val (.int (Int32.ofNat kl)), .val (.int (Int32.ofNat (ks + kl))), .val (.int ch), .unset, .unset, .unset, .unset, .unset, .unset, .unset, .unset, .unset, .unset] [(.int ch), (.int (4 : Int32)), (.ref ca), (.ref ca)])) (fun _ k => XS.iload X6.here hx rfl (hb hby at_65) rfl k) ?_
  obtain ⟨T7, h7, L7, X7, e7, V_ca, N0, O, Kf2, st7⟩ := own_stC X6 hx hZ e6 V_ca (j := (4 : Int32)) ⟨by decide, by decide⟩ 4 rfl (Nat.le_of_ble_eq_true rfl) g_ca N0 O Kf2 (Or.inl (List.mem_of_getElem? (i := 0) rfl)) (g := (mkF m 67 #[.val (.int p0), .val (.int p1), .val (.int p2), .val (.int p3), .val (.int p4), .val (.int p5), .val (.int (Int32.ofNat (ks + 1))), .val (.int (Int32.ofNat kl)), .val (.int (Int32.ofNat (ks + kl))), .val (.int ch), .unset, .unset, .unset, .unset, .unset, .unset, .unset, .unset, .unset, .unset] [(.int ch), (.int (4 : Int32)), (.ref ca), (.ref ca)])) rfl rfl (hb hby at_67)
  refine Out.via (g' := (mkF m 68 #[.val (.int p0), .val (.int p1), .val (.int p2), .val (.int p3), .val (.int p4), .val (.int p5), .val (.int (Int32.ofNat (ks + 1))), .val (.int (Int32.ofNat kl)), .val (.int (Int32.ofNat (ks + kl))), .val (.int ch), .unset, .unset, .unset, .unset, .unset, .unset, .unset, .unset, .unset, .unset] [(.ref ca)])) st7 ?_
  refine Out.via (g' := (mkF m 69 #[.val (.int p0), .val (.int p1), .val (.int p2), .val (.int p3), .val (.int p4), .val (.int p5), .val (.int (Int32.ofNat (ks + 1))), .val (.int (Int32.ofNat kl)), .val (.int (Int32.ofNat (ks + kl))), .val (.int ch), .unset, .unset, .unset, .unset, .unset, .unset, .unset, .unset, .unset, .unset] [(.ref ca), (.ref ca)])) (fun _ k => XS.dup X7.here hx rfl (hb hby at_68) rfl rfl k) ?_
  refine Out.via (g' := (mkF m 70 #[.val (.int p0), .val (.int p1), .val (.int p2), .val (.int p3), .val (.int p4), .val (.int p5), .val (.int (Int32.ofNat (ks + 1))), .val (.int (Int32.ofNat kl)), .val (.int (Int32.ofNat (ks + kl))), .val (.int ch), .unset, .unset, .unset, .unset, .unset, .unset, .unset, .unset, .unset, .unset] [(.int (5 : Int32)), (.ref ca), (.ref ca)])) (fun _ k => XS.iconst X7.here hx rfl (hb hby at_69) k) ?_
  refine Out.via (g' := (mkF m 72 #[.val (.int p0), .val (.int p1), .val (.int p2), .val (.int p3), .val (.int p4), .val (.int p5), .val (.int (Int32.ofNat (ks + 1))), .val (.int (Int32.ofNat kl)), .val (.int (Int32.ofNat (ks + kl))), .val (.int ch), .unset, .unset, .unset, .unset, .unset, .unset, .unset, .unset, .unset, .unset] [(.int ch), (.int (5 : Int32)), (.ref ca), (.ref ca)])) (fun _ k => XS.iload X7.here hx rfl (hb hby at_70) rfl k) ?_
  obtain ⟨T8, h8, L8, X8, e8, V_ca, N0, O, Kf2, st8⟩ := own_stC X7 hx hZ e7 V_ca (j := (5 : Int32)) ⟨by decide, by decide⟩ 5 rfl (Nat.le_of_ble_eq_true rfl) g_ca N0 O Kf2 (Or.inl (List.mem_of_getElem? (i := 0) rfl)) (g := (mkF m 72 #[.val (.int p0), .val (.int p1), .val (.int p2), .val (.int p3), .val (.int p4), .val (.int p5), .val (.int (Int32.ofNat (ks + 1))), .val (.int (Int32.ofNat kl)), .val (.int (Int32.ofNat (ks + kl))), .val (.int ch), .unset, .unset, .unset, .unset, .unset, .unset, .unset, .unset, .unset, .unset] [(.int ch), (.int (5 : Int32)), (.ref ca), (.ref ca)])) rfl rfl (hb hby at_72)
  refine Out.via (g' := (mkF m 73 #[.val (.int p0), .val (.int p1), .val (.int p2), .val (.int p3), .val (.int p4), .val (.int p5), .val (.int (Int32.ofNat (ks + 1))), .val (.int (Int32.ofNat kl)), .val (.int (Int32.ofNat (ks + kl))), .val (.int ch), .unset, .unset, .unset, .unset, .unset, .unset, .unset, .unset, .unset, .unset] [(.ref ca)])) st8 ?_
  refine Out.via (g' := (mkF m 74 #[.val (.int p0), .val (.int p1), .val (.int p2), .val (.int p3), .val (.int p4), .val (.int p5), .val (.int (Int32.ofNat (ks + 1))), .val (.int (Int32.ofNat kl)), .val (.int (Int32.ofNat (ks + kl))), .val (.int ch), .unset, .unset, .unset, .unset, .unset, .unset, .unset, .unset, .unset, .unset] [(.ref ca), (.ref ca)])) (fun _ k => XS.dup X8.here hx rfl (hb hby at_73) rfl rfl k) ?_
  refine Out.via (g' := (mkF m 76 #[.val (.int p0), .val (.int p1), .val (.int p2), .val (.int p3), .val (.int p4), .val (.int p5), .val (.int (Int32.ofNat (ks + 1))), .val (.int (Int32.ofNat kl)), .val (.int (Int32.ofNat (ks + kl))), .val (.int ch), .unset, .unset, .unset, .unset, .unset, .unset, .unset, .unset, .unset, .unset] [(.int (6 : Int32)), (.ref ca), (.ref ca)])) (fun _ k => XS.bipush X8.here hx rfl (hb hby at_74) k) ?_
  refine Out.via (g' := (mkF m 78 #[.val (.int p0), .val (.int p1), .val (.int p2), .val (.int p3), .val (.int p4), .val (.int p5), .val (.int (Int32.ofNat (ks + 1))), .val (.int (Int32.ofNat kl)), .val (.int (Int32.ofNat (ks + kl))), .val (.int ch), .unset, .unset, .unset, .unset, .unset, .unset, .unset, .unset, .unset, .unset] [(.int ch), (.int (6 : Int32)), (.ref ca), (.ref ca)])) (fun _ k => XS.iload X8.here hx rfl (hb hby at_76) rfl k) ?_
  obtain ⟨T9, h9, L9, X9, e9, V_ca, N0, O, Kf2, st9⟩ := own_stC X8 hx hZ e8 V_ca (j := (6 : Int32)) ⟨by decide, by decide⟩ 6 rfl (Nat.le_of_ble_eq_true rfl) g_ca N0 O Kf2 (Or.inl (List.mem_of_getElem? (i := 0) rfl)) (g := (mkF m 78 #[.val (.int p0), .val (.int p1), .val (.int p2), .val (.int p3), .val (.int p4), .val (.int p5), .val (.int (Int32.ofNat (ks + 1))), .val (.int (Int32.ofNat kl)), .val (.int (Int32.ofNat (ks + kl))), .val (.int ch), .unset, .unset, .unset, .unset, .unset, .unset, .unset, .unset, .unset, .unset] [(.int ch), (.int (6 : Int32)), (.ref ca), (.ref ca)])) rfl rfl (hb hby at_78)
  refine Out.via (g' := (mkF m 79 #[.val (.int p0), .val (.int p1), .val (.int p2), .val (.int p3), .val (.int p4), .val (.int p5), .val (.int (Int32.ofNat (ks + 1))), .val (.int (Int32.ofNat kl)), .val (.int (Int32.ofNat (ks + kl))), .val (.int ch), .unset, .unset, .unset, .unset, .unset, .unset, .unset, .unset, .unset, .unset] [(.ref ca)])) st9 ?_
  refine Out.via (g' := (mkF m 80 #[.val (.int p0), .val (.int p1), .val (.int p2), .val (.int p3), .val (.int p4), .val (.int p5), .val (.int (Int32.ofNat (ks + 1))), .val (.int (Int32.ofNat kl)), .val (.int (Int32.ofNat (ks + kl))), .val (.int ch), .unset, .unset, .unset, .unset, .unset, .unset, .unset, .unset, .unset, .unset] [(.ref ca), (.ref ca)])) (fun _ k => XS.dup X9.here hx rfl (hb hby at_79) rfl rfl k) ?_
  refine Out.via (g' := (mkF m 82 #[.val (.int p0), .val (.int p1), .val (.int p2), .val (.int p3), .val (.int p4), .val (.int p5), .val (.int (Int32.ofNat (ks + 1))), .val (.int (Int32.ofNat kl)), .val (.int (Int32.ofNat (ks + kl))), .val (.int ch), .unset, .unset, .unset, .unset, .unset, .unset, .unset, .unset, .unset, .unset] [(.int (7 : Int32)), (.ref ca), (.ref ca)])) (fun _ k => XS.bipush X9.here hx rfl (hb hby at_80) k) ?_
  refine Out.via (g' := (mkF m 84 #[.val (.int p0), .val (.int p1), .val (.int p2), .val (.int p3), .val (.int p4), .val (.int p5), .val (.int (Int32.ofNat (ks + 1))), .val (.int (Int32.ofNat kl)), .val (.int (Int32.ofNat (ks + kl))), .val (.int ch), .unset, .unset, .unset, .unset, .unset, .unset, .unset, .unset, .unset, .unset] [(.int ch), (.int (7 : Int32)), (.ref ca), (.ref ca)])) (fun _ k => XS.iload X9.here hx rfl (hb hby at_82) rfl k) ?_
  obtain ⟨T10, h10, L10, X10, e10, V_ca, N0, O, Kf2, st10⟩ := own_stC X9 hx hZ e9 V_ca (j := (7 : Int32)) ⟨by decide, by decide⟩ 7 rfl (Nat.le_of_ble_eq_true rfl) g_ca N0 O Kf2 (Or.inl (List.mem_of_getElem? (i := 0) rfl)) (g := (mkF m 84 #[.val (.int p0), .val (.int p1), .val (.int p2), .val (.int p3), .val (.int p4), .val (.int p5), .val (.int (Int32.ofNat (ks + 1))), .val (.int (Int32.ofNat kl)), .val (.int (Int32.ofNat (ks + kl))), .val (.int ch), .unset, .unset, .unset, .unset, .unset, .unset, .unset, .unset, .unset, .unset] [(.int ch), (.int (7 : Int32)), (.ref ca), (.ref ca)])) rfl rfl (hb hby at_84)
  refine Out.via (g' := (mkF m 85 #[.val (.int p0), .val (.int p1), .val (.int p2), .val (.int p3), .val (.int p4), .val (.int p5), .val (.int (Int32.ofNat (ks + 1))), .val (.int (Int32.ofNat kl)), .val (.int (Int32.ofNat (ks + kl))), .val (.int ch), .unset, .unset, .unset, .unset, .unset, .unset, .unset, .unset, .unset, .unset] [(.ref ca)])) st10 ?_
  replace V_ca : Arv Z h10 ca kA1 .char (8 : Int32) [(.int (nar .char ch)), (.int (nar .char ch)), (.int (nar .char ch)), (.int (nar .char ch)), (.int (nar .char ch)), (.int (nar .char ch)), (.int (nar .char ch)), (.int (nar .char ch))] (.int (0 : Int32)) := V_ca
  replace hk : _ ≤ h10.size := Nat.le_trans hk Kf2.1
  replace Kp := Kp.trans Kf2 (allS (Or.inr sz_ca) all0)
  refine Out.via (g' := (mkF m 87 #[.val (.int p0), .val (.int p1), .val (.int p2), .val (.int p3), .val (.int p4), .val (.int p5), .val (.int (Int32.ofNat (ks + 1))), .val (.int (Int32.ofNat kl)), .val (.int (Int32.ofNat (ks + kl))), .val (.int ch), .val (.ref ca), .unset, .unset, .unset, .unset, .unset, .unset, .unset, .unset, .unset] [])) (fun _ k => XS.astore X10.here hx rfl (hb hby at_85) rfl rfl (l' := #[.val (.int p0), .val (.int p1), .val (.int p2), .val (.int p3), .val (.int p4), .val (.int p5), .val (.int (Int32.ofNat (ks + 1))), .val (.int (Int32.ofNat kl)), .val (.int (Int32.ofNat (ks + kl))), .val (.int ch), .val (.ref ca), .unset, .unset, .unset, .unset, .unset, .unset, .unset, .unset, .unset]) rfl k) ?_
  obtain ⟨T11, h11, X11, e11, E11, A11, D11, -, st11⟩ := newO X10 hx hZ hown (hw _ (List.mem_of_getElem? (i := 2) rfl)) (hw _ (List.mem_of_getElem? (i := 3) rfl)) (hw _ (List.mem_of_getElem? (i := 4) rfl)) e10 (g := (mkF m 87 #[.val (.int p0), .val (.int p1), .val (.int p2), .val (.int p3), .val (.int p4), .val (.int p5), .val (.int (Int32.ofNat (ks + 1))), .val (.int (Int32.ofNat kl)), .val (.int (Int32.ofNat (ks + kl))), .val (.int ch), .val (.ref ca), .unset, .unset, .unset, .unset, .unset, .unset, .unset, .unset, .unset] [])) rfl (hb hby at_87) (by decide) (by decide)
  obtain ⟨xr, gq11⟩ : ∃ z, z = h10.size := ⟨_, rfl⟩
  rw [← gq11] at A11 D11 st11
  have ne_ca_xr : ca ≠ xr := Nat.ne_of_lt (Nat.lt_of_lt_of_le V_ca.lt (Nat.le_of_eq gq11.symm))
  have g_xr : n0 ≤ xr := Nat.le_trans (own_z0 O) (Nat.le_of_eq gq11.symm)
  have sz_xr : h0.size ≤ xr := Nat.le_trans Kp.1 (Nat.le_of_eq gq11.symm)
  replace V_ca := V_ca.ext E11
  replace O := O.ext E11
  replace Kp := Kp.ext E11
  replace hk := Nat.le_trans hk E11.1
  have F_coder_xr : Fld Z h11 xr "java/lang/String" "coder" "B" (.int (0 : Int32)) := D11 (Or.inr (hw _ (List.mem_of_getElem? (i := 28) rfl))) (ty := .byte) (by decide)
  have F_value_xr : Fld Z h11 xr "java/lang/String" "value" "[B" .null := D11 (Or.inr (hw _ (List.mem_of_getElem? (i := 30) rfl))) (ty := (.array .byte)) (by decide)
  refine Out.via (g' := (mkF m 90 #[.val (.int p0), .val (.int p1), .val (.int p2), .val (.int p3), .val (.int p4), .val (.int p5), .val (.int (Int32.ofNat (ks + 1))), .val (.int (Int32.ofNat kl)), .val (.int (Int32.ofNat (ks + kl))), .val (.int ch), .val (.ref ca), .unset, .unset, .unset, .unset, .unset, .unset, .unset, .unset, .unset] [(.ref xr)])) st11 ?_
  refine Out.via (g' := (mkF m 91 #[.val (.int p0), .val (.int p1), .val (.int p2), .val (.int p3), .val (.int p4), .val (.int p5), .val (.int (Int32.ofNat (ks + 1))), .val (.int (Int32.ofNat kl)), .val (.int (Int32.ofNat (ks + kl))), .val (.int ch), .val (.ref ca), .unset, .unset, .unset, .unset, .unset, .unset, .unset, .unset, .unset] [(.ref xr), (.ref xr)])) (fun _ k => XS.dup X11.here hx rfl (hb hby at_90) rfl rfl k) ?_
  refine Out.via (g' := (mkF m 93 #[.val (.int p0), .val (.int p1), .val (.int p2), .val (.int p3), .val (.int p4), .val (.int p5), .val (.int (Int32.ofNat (ks + 1))), .val (.int (Int32.ofNat kl)), .val (.int (Int32.ofNat (ks + kl))), .val (.int ch), .val (.ref ca), .unset, .unset, .unset, .unset, .unset, .unset, .unset, .unset, .unset] [(.ref ca), (.ref xr), (.ref xr)])) (fun _ k => XS.aload X11.here hx rfl (hb hby at_91) rfl rfl k) ?_
  have hp : ∀ c ∈ ([nar .char ch, nar .char ch, nar .char ch, nar .char ch, nar .char ch, nar .char ch, nar .char ch, nar .char ch] : List Int32), own_lat c := own_allS (by rw [own_lat_nar D_c]; exact D_c) (own_allS (by rw [own_lat_nar D_c]; exact D_c) (own_allS (by rw [own_lat_nar D_c]; exact D_c) (own_allS (by rw [own_lat_nar D_c]; exact D_c) (own_allS (by rw [own_lat_nar D_c]; exact D_c) (own_allS (by rw [own_lat_nar D_c]; exact D_c) (own_allS (by rw [own_lat_nar D_c]; exact D_c) (own_allS (by rw [own_lat_nar D_c]; exact D_c) (own_all0))))))))
  obtain ⟨_, _, ⟨T12, L12, kc12, ks12⟩, -, X12, ⟨Lc12, hQ12, l12, y12, z12⟩, st12⟩ := X11.specialBack hx (y := (⟨"java/lang/String", "<init>", "([C)V"⟩ : MethodName)) rfl hown (mvT hZ (hw _ (List.mem_of_getElem? (i := 5) rfl))) (mvT hZ (hw _ (List.mem_of_getElem? (i := 6) rfl))) (mvT hZ (hw _ (List.mem_of_getElem? (i := 7) rfl))) (by decide) (StrChars.Road.backV (W := 1) hZ hws (kI := 4) (hw _ (List.mem_of_getElem? (i := 3) rfl)) (cs := ([nar .char ch, nar .char ch, nar .char ch, nar .char ch, nar .char ch, nar .char ch, nar .char ch, nar .char ch] : List Int32)) (bs := ([nar .char ch, nar .char ch, nar .char ch, nar .char ch, nar .char ch, nar .char ch, nar .char ch, nar .char ch] : List Int32).map (fun c => c.toInt8.toInt32)) (n := 8) g_xr (own_z0 O) A11 F_value_xr F_coder_xr V_ca (O2.ext O.2) P5 rfl rfl (by decide) (by decide) hp rfl (by decide) (by decide)) (g := (mkF m 93 #[.val (.int p0), .val (.int p1), .val (.int p2), .val (.int p3), .val (.int p4), .val (.int p5), .val (.int (Int32.ofNat (ks + 1))), .val (.int (Int32.ofNat kl)), .val (.int (Int32.ofNat (ks + kl))), .val (.int ch), .val (.ref ca), .unset, .unset, .unset, .unset, .unset, .unset, .unset, .unset, .unset] [(.ref ca), (.ref xr), (.ref xr)])) rfl (by rw [hml]; rfl) (Steps.refl _) (a := xr) (argsL := [(.ref ca)]) (rest := [(.ref xr)]) (lenOf own_pd19 rfl) rfl (by show 2 * 0 + _ ≤ _; exact Nat.le_of_eq rfl) (hb hby at_93) (fun _ _ => ⟨rfl, e11, (by decide : 2 + 1 ≤ _), (by decide : 12 + 8 ≤ _)⟩)
  dsimp only [Pt.U, Pt.locs, Pt.cells, Pt.slots] at X12 l12 y12 z12 st12 hQ12
  subst l12 y12 z12
  obtain ⟨rfl, Nq12, Kq12, Eq, Cq, tb, kb, ut, vt, wt, Vq, Aq⟩ := hQ12
  replace N0 := Fr.app N0 Nq12
  replace hk : _ ≤ T12.heap.size := Nat.le_trans hk Kq12.1
  replace A11 := A11.keep Kq12
  replace V_ca := V_ca.keep Kq12 (ninS ne_ca_xr nin0)
  replace O := O.keep Kq12 (allS g_xr all0)
  replace Kp := Kp.trans Kq12 (allS (Or.inr sz_xr) all0)
  have Sx : own_Str Z T12.heap xr (List.replicate 8 ch) := by
    have q : own_Str Z T12.heap xr ([nar .char ch, nar .char ch, nar .char ch, nar .char ch, nar .char ch, nar .char ch, nar .char ch, nar .char ch] : List Int32) := ⟨hp, Eq, Cq, tb, kb, Vq, Aq⟩
    rw [own_lat_nar D_c] at q
    exact q
  refine Out.to (g' := (mkF m 96 #[.val (.int p0), .val (.int p1), .val (.int p2), .val (.int p3), .val (.int p4), .val (.int p5), .val (.int (Int32.ofNat (ks + 1))), .val (.int (Int32.ofNat kl)), .val (.int (Int32.ofNat (ks + kl))), .val (.int ch), .val (.ref ca), .unset, .unset, .unset, .unset, .unset, .unset, .unset, .unset, .unset] [(.ref xr)])) st12 ?_
  refine Out.via (g' := (mkF m 98 #[.val (.int p0), .val (.int p1), .val (.int p2), .val (.int p3), .val (.int p4), .val (.int p5), .val (.int (Int32.ofNat (ks + 1))), .val (.int (Int32.ofNat kl)), .val (.int (Int32.ofNat (ks + kl))), .val (.int ch), .val (.ref ca), .val (.ref xr), .unset, .unset, .unset, .unset, .unset, .unset, .unset, .unset] [])) (fun _ k => XS.astore X12.here hx rfl (hb hby at_96) rfl rfl (l' := #[.val (.int p0), .val (.int p1), .val (.int p2), .val (.int p3), .val (.int p4), .val (.int p5), .val (.int (Int32.ofNat (ks + 1))), .val (.int (Int32.ofNat kl)), .val (.int (Int32.ofNat (ks + kl))), .val (.int ch), .val (.ref ca), .val (.ref xr), .unset, .unset, .unset, .unset, .unset, .unset, .unset, .unset]) rfl k) ?_
  refine Out.via (g' := (mkF m 100 #[.val (.int p0), .val (.int p1), .val (.int p2), .val (.int p3), .val (.int p4), .val (.int p5), .val (.int (Int32.ofNat (ks + 1))), .val (.int (Int32.ofNat kl)), .val (.int (Int32.ofNat (ks + kl))), .val (.int ch), .val (.ref ca), .val (.ref xr), .unset, .unset, .unset, .unset, .unset, .unset, .unset, .unset] [(.int p5)])) (fun _ k => XS.iload X12.here hx rfl (hb hby at_98) rfl k) ?_
  refine Out.via (g' := (mkF m 103 #[.val (.int p0), .val (.int p1), .val (.int p2), .val (.int p3), .val (.int p4), .val (.int p5), .val (.int (Int32.ofNat (ks + 1))), .val (.int (Int32.ofNat kl)), .val (.int (Int32.ofNat (ks + kl))), .val (.int ch), .val (.ref ca), .val (.ref xr), .unset, .unset, .unset, .unset, .unset, .unset, .unset, .unset] [(.int (256 : Int32)), (.int p5)])) (fun _ k => XS.sipush X12.here hx rfl (hb hby at_100) k) ?_
  refine Out.via (g' := (mkF m 104 #[.val (.int p0), .val (.int p1), .val (.int p2), .val (.int p3), .val (.int p4), .val (.int p5), .val (.int (Int32.ofNat (ks + 1))), .val (.int (Int32.ofNat kl)), .val (.int (Int32.ofNat (ks + kl))), .val (.int ch), .val (.ref ca), .val (.ref xr), .unset, .unset, .unset, .unset, .unset, .unset, .unset, .unset] [(.int (p5 &&& (256 : Int32)))])) (fun _ k => XS.iand X12.here hx rfl (hb hby at_103) rfl k) ?_
  suffices rest : ∀ b1 : Int32, RoadKit.Out p.tables e below (EndW s below (fun v h L => v = some (.int (1 : Int32)) ∧ Fr n0 L) room_1.cells room_1.slots) T12 (mkF m 112 #[.val (.int p0), .val (.int p1), .val (.int p2), .val (.int p3), .val (.int p4), .val (.int p5), .val (.int (Int32.ofNat (ks + 1))), .val (.int (Int32.ofNat kl)), .val (.int (Int32.ofNat (ks + kl))), .val (.int ch), .val (.ref ca), .val (.ref xr), .unset, .unset, .unset, .unset, .unset, .unset, .unset, .unset] [(.int b1)]) by
    by_cases hf : (p5 &&& (256 : Int32)) = (0 : Int32)
    · refine Out.via (g' := (mkF m 111 #[.val (.int p0), .val (.int p1), .val (.int p2), .val (.int p3), .val (.int p4), .val (.int p5), .val (.int (Int32.ofNat (ks + 1))), .val (.int (Int32.ofNat kl)), .val (.int (Int32.ofNat (ks + kl))), .val (.int ch), .val (.ref ca), .val (.ref xr), .unset, .unset, .unset, .unset, .unset, .unset, .unset, .unset] [])) (fun _ k => XS.ifYes X12.here hx rfl (pc0 := 104) (pc' := 111) rfl (hb hby at_104) rfl ((if0 _ _).trans (teq hf).1) (by decide) (by decide) k) ?_
      refine Out.via (g' := (mkF m 112 #[.val (.int p0), .val (.int p1), .val (.int p2), .val (.int p3), .val (.int p4), .val (.int p5), .val (.int (Int32.ofNat (ks + 1))), .val (.int (Int32.ofNat kl)), .val (.int (Int32.ofNat (ks + kl))), .val (.int ch), .val (.ref ca), .val (.ref xr), .unset, .unset, .unset, .unset, .unset, .unset, .unset, .unset] [(.int (0 : Int32))])) (fun _ k => XS.iconst X12.here hx rfl (hb hby at_111) k) ?_
      exact rest _
    · refine Out.via (g' := (mkF m 107 #[.val (.int p0), .val (.int p1), .val (.int p2), .val (.int p3), .val (.int p4), .val (.int p5), .val (.int (Int32.ofNat (ks + 1))), .val (.int (Int32.ofNat kl)), .val (.int (Int32.ofNat (ks + kl))), .val (.int ch), .val (.ref ca), .val (.ref xr), .unset, .unset, .unset, .unset, .unset, .unset, .unset, .unset] [])) (fun _ k => XS.ifNo X12.here hx rfl (hb hby at_104) rfl ((if0 _ _).trans (feq hf).1) k) ?_
      refine Out.via (g' := (mkF m 108 #[.val (.int p0), .val (.int p1), .val (.int p2), .val (.int p3), .val (.int p4), .val (.int p5), .val (.int (Int32.ofNat (ks + 1))), .val (.int (Int32.ofNat kl)), .val (.int (Int32.ofNat (ks + kl))), .val (.int ch), .val (.ref ca), .val (.ref xr), .unset, .unset, .unset, .unset, .unset, .unset, .unset, .unset] [(.int (1 : Int32))])) (fun _ k => XS.iconst X12.here hx rfl (hb hby at_107) k) ?_
      refine Out.via (g' := (mkF m 112 #[.val (.int p0), .val (.int p1), .val (.int p2), .val (.int p3), .val (.int p4), .val (.int p5), .val (.int (Int32.ofNat (ks + 1))), .val (.int (Int32.ofNat kl)), .val (.int (Int32.ofNat (ks + kl))), .val (.int ch), .val (.ref ca), .val (.ref xr), .unset, .unset, .unset, .unset, .unset, .unset, .unset, .unset] [(.int (1 : Int32))])) (fun _ k => XS.goto X12.here hx rfl (pc0 := 108) (pc' := 112) rfl (hb hby at_108) (by decide) (by decide) k) ?_
      exact rest _
  intro b1
  refine Out.via (g' := (mkF m 114 #[.val (.int p0), .val (.int p1), .val (.int p2), .val (.int p3), .val (.int p4), .val (.int p5), .val (.int (Int32.ofNat (ks + 1))), .val (.int (Int32.ofNat kl)), .val (.int (Int32.ofNat (ks + kl))), .val (.int ch), .val (.ref ca), .val (.ref xr), .val (.int b1), .unset, .unset, .unset, .unset, .unset, .unset, .unset] [])) (fun _ k => XS.istore X12.here hx rfl (hb hby at_112) rfl (l' := #[.val (.int p0), .val (.int p1), .val (.int p2), .val (.int p3), .val (.int p4), .val (.int p5), .val (.int (Int32.ofNat (ks + 1))), .val (.int (Int32.ofNat kl)), .val (.int (Int32.ofNat (ks + kl))), .val (.int ch), .val (.ref ca), .val (.ref xr), .val (.int b1), .unset, .unset, .unset, .unset, .unset, .unset, .unset]) rfl k) ?_
  refine Out.via (g' := (mkF m 116 #[.val (.int p0), .val (.int p1), .val (.int p2), .val (.int p3), .val (.int p4), .val (.int p5), .val (.int (Int32.ofNat (ks + 1))), .val (.int (Int32.ofNat kl)), .val (.int (Int32.ofNat (ks + kl))), .val (.int ch), .val (.ref ca), .val (.ref xr), .val (.int b1), .unset, .unset, .unset, .unset, .unset, .unset, .unset] [(.int p5)])) (fun _ k => XS.iload X12.here hx rfl (hb hby at_114) rfl k) ?_
  refine Out.via (g' := (mkF m 119 #[.val (.int p0), .val (.int p1), .val (.int p2), .val (.int p3), .val (.int p4), .val (.int p5), .val (.int (Int32.ofNat (ks + 1))), .val (.int (Int32.ofNat kl)), .val (.int (Int32.ofNat (ks + kl))), .val (.int ch), .val (.ref ca), .val (.ref xr), .val (.int b1), .unset, .unset, .unset, .unset, .unset, .unset, .unset] [(.int (512 : Int32)), (.int p5)])) (fun _ k => XS.sipush X12.here hx rfl (hb hby at_116) k) ?_
  refine Out.via (g' := (mkF m 120 #[.val (.int p0), .val (.int p1), .val (.int p2), .val (.int p3), .val (.int p4), .val (.int p5), .val (.int (Int32.ofNat (ks + 1))), .val (.int (Int32.ofNat kl)), .val (.int (Int32.ofNat (ks + kl))), .val (.int ch), .val (.ref ca), .val (.ref xr), .val (.int b1), .unset, .unset, .unset, .unset, .unset, .unset, .unset] [(.int (p5 &&& (512 : Int32)))])) (fun _ k => XS.iand X12.here hx rfl (hb hby at_119) rfl k) ?_
  suffices rest : ∀ b2 : Int32, RoadKit.Out p.tables e below (EndW s below (fun v h L => v = some (.int (1 : Int32)) ∧ Fr n0 L) room_1.cells room_1.slots) T12 (mkF m 128 #[.val (.int p0), .val (.int p1), .val (.int p2), .val (.int p3), .val (.int p4), .val (.int p5), .val (.int (Int32.ofNat (ks + 1))), .val (.int (Int32.ofNat kl)), .val (.int (Int32.ofNat (ks + kl))), .val (.int ch), .val (.ref ca), .val (.ref xr), .val (.int b1), .unset, .unset, .unset, .unset, .unset, .unset, .unset] [(.int b2)]) by
    by_cases hf : (p5 &&& (512 : Int32)) = (0 : Int32)
    · refine Out.via (g' := (mkF m 127 #[.val (.int p0), .val (.int p1), .val (.int p2), .val (.int p3), .val (.int p4), .val (.int p5), .val (.int (Int32.ofNat (ks + 1))), .val (.int (Int32.ofNat kl)), .val (.int (Int32.ofNat (ks + kl))), .val (.int ch), .val (.ref ca), .val (.ref xr), .val (.int b1), .unset, .unset, .unset, .unset, .unset, .unset, .unset] [])) (fun _ k => XS.ifYes X12.here hx rfl (pc0 := 120) (pc' := 127) rfl (hb hby at_120) rfl ((if0 _ _).trans (teq hf).1) (by decide) (by decide) k) ?_
      refine Out.via (g' := (mkF m 128 #[.val (.int p0), .val (.int p1), .val (.int p2), .val (.int p3), .val (.int p4), .val (.int p5), .val (.int (Int32.ofNat (ks + 1))), .val (.int (Int32.ofNat kl)), .val (.int (Int32.ofNat (ks + kl))), .val (.int ch), .val (.ref ca), .val (.ref xr), .val (.int b1), .unset, .unset, .unset, .unset, .unset, .unset, .unset] [(.int (0 : Int32))])) (fun _ k => XS.iconst X12.here hx rfl (hb hby at_127) k) ?_
      exact rest _
    · refine Out.via (g' := (mkF m 123 #[.val (.int p0), .val (.int p1), .val (.int p2), .val (.int p3), .val (.int p4), .val (.int p5), .val (.int (Int32.ofNat (ks + 1))), .val (.int (Int32.ofNat kl)), .val (.int (Int32.ofNat (ks + kl))), .val (.int ch), .val (.ref ca), .val (.ref xr), .val (.int b1), .unset, .unset, .unset, .unset, .unset, .unset, .unset] [])) (fun _ k => XS.ifNo X12.here hx rfl (hb hby at_120) rfl ((if0 _ _).trans (feq hf).1) k) ?_
      refine Out.via (g' := (mkF m 124 #[.val (.int p0), .val (.int p1), .val (.int p2), .val (.int p3), .val (.int p4), .val (.int p5), .val (.int (Int32.ofNat (ks + 1))), .val (.int (Int32.ofNat kl)), .val (.int (Int32.ofNat (ks + kl))), .val (.int ch), .val (.ref ca), .val (.ref xr), .val (.int b1), .unset, .unset, .unset, .unset, .unset, .unset, .unset] [(.int (1 : Int32))])) (fun _ k => XS.iconst X12.here hx rfl (hb hby at_123) k) ?_
      refine Out.via (g' := (mkF m 128 #[.val (.int p0), .val (.int p1), .val (.int p2), .val (.int p3), .val (.int p4), .val (.int p5), .val (.int (Int32.ofNat (ks + 1))), .val (.int (Int32.ofNat kl)), .val (.int (Int32.ofNat (ks + kl))), .val (.int ch), .val (.ref ca), .val (.ref xr), .val (.int b1), .unset, .unset, .unset, .unset, .unset, .unset, .unset] [(.int (1 : Int32))])) (fun _ k => XS.goto X12.here hx rfl (pc0 := 124) (pc' := 128) rfl (hb hby at_124) (by decide) (by decide) k) ?_
      exact rest _
  intro b2
  refine Out.via (g' := (mkF m 130 #[.val (.int p0), .val (.int p1), .val (.int p2), .val (.int p3), .val (.int p4), .val (.int p5), .val (.int (Int32.ofNat (ks + 1))), .val (.int (Int32.ofNat kl)), .val (.int (Int32.ofNat (ks + kl))), .val (.int ch), .val (.ref ca), .val (.ref xr), .val (.int b1), .val (.int b2), .unset, .unset, .unset, .unset, .unset, .unset] [])) (fun _ k => XS.istore X12.here hx rfl (hb hby at_128) rfl (l' := #[.val (.int p0), .val (.int p1), .val (.int p2), .val (.int p3), .val (.int p4), .val (.int p5), .val (.int (Int32.ofNat (ks + 1))), .val (.int (Int32.ofNat kl)), .val (.int (Int32.ofNat (ks + kl))), .val (.int ch), .val (.ref ca), .val (.ref xr), .val (.int b1), .val (.int b2), .unset, .unset, .unset, .unset, .unset, .unset]) rfl k) ?_
  obtain ⟨T13, h13, X13, e13, E13, A13, D13, -, st13⟩ := newO X12 hx hZ hown (hw _ (List.mem_of_getElem? (i := 31) rfl)) (hw _ (List.mem_of_getElem? (i := 32) rfl)) (hw _ (List.mem_of_getElem? (i := 33) rfl)) rfl (g := (mkF m 130 #[.val (.int p0), .val (.int p1), .val (.int p2), .val (.int p3), .val (.int p4), .val (.int p5), .val (.int (Int32.ofNat (ks + 1))), .val (.int (Int32.ofNat kl)), .val (.int (Int32.ofNat (ks + kl))), .val (.int ch), .val (.ref ca), .val (.ref xr), .val (.int b1), .val (.int b2), .unset, .unset, .unset, .unset, .unset, .unset] [])) rfl (hb hby at_130) (by decide) (by decide)
  obtain ⟨f1, gq13⟩ : ∃ z, z = T12.heap.size := ⟨_, rfl⟩
  rw [← gq13] at A13 D13 st13
  have ne_xr_f1 : xr ≠ f1 := Nat.ne_of_lt (Nat.lt_of_lt_of_le Sx.lt (Nat.le_of_eq gq13.symm))
  have g_f1 : n0 ≤ f1 := Nat.le_trans (own_z0 O) (Nat.le_of_eq gq13.symm)
  have sz_f1 : h0.size ≤ f1 := Nat.le_trans Kp.1 (Nat.le_of_eq gq13.symm)
  replace Sx := Sx.ext E13
  replace O := O.ext E13
  replace Kp := Kp.ext E13
  replace hk := Nat.le_trans hk E13.1
  have F_name_f1 : Fld Z h13 f1 "com/example/talao/talao/Field" "name" "Ljava/lang/String;" .null := D13 (Or.inr (hw _ (List.mem_of_getElem? (i := 47) rfl))) (ty := (.object "java/lang/String")) (by decide)
  have F_start_f1 : Fld Z h13 f1 "com/example/talao/talao/Field" "start" "I" (.int (0 : Int32)) := D13 (Or.inr (hw _ (List.mem_of_getElem? (i := 49) rfl))) (ty := .int) (by decide)
  have F_end_f1 : Fld Z h13 f1 "com/example/talao/talao/Field" "end" "I" (.int (0 : Int32)) := D13 (Or.inr (hw _ (List.mem_of_getElem? (i := 51) rfl))) (ty := .int) (by decide)
  have F_numeric_f1 : Fld Z h13 f1 "com/example/talao/talao/Field" "numeric" "Z" (.int (0 : Int32)) := D13 (Or.inr (hw _ (List.mem_of_getElem? (i := 53) rfl))) (ty := .boolean) (by decide)
  refine Out.via (g' := (mkF m 133 #[.val (.int p0), .val (.int p1), .val (.int p2), .val (.int p3), .val (.int p4), .val (.int p5), .val (.int (Int32.ofNat (ks + 1))), .val (.int (Int32.ofNat kl)), .val (.int (Int32.ofNat (ks + kl))), .val (.int ch), .val (.ref ca), .val (.ref xr), .val (.int b1), .val (.int b2), .unset, .unset, .unset, .unset, .unset, .unset] [(.ref f1)])) st13 ?_
  refine Out.via (g' := (mkF m 134 #[.val (.int p0), .val (.int p1), .val (.int p2), .val (.int p3), .val (.int p4), .val (.int p5), .val (.int (Int32.ofNat (ks + 1))), .val (.int (Int32.ofNat kl)), .val (.int (Int32.ofNat (ks + kl))), .val (.int ch), .val (.ref ca), .val (.ref xr), .val (.int b1), .val (.int b2), .unset, .unset, .unset, .unset, .unset, .unset] [(.ref f1), (.ref f1)])) (fun _ k => XS.dup X13.here hx rfl (hb hby at_133) rfl rfl k) ?_
  have CR := CHr.keep Kp sf0 hCH
  obtain ⟨l1, T14, h14, kk14, X14, e14, E14, hS, hk, hZ, hown, CR14, Lit_l1, st14⟩ := ldcOH X13 hx hZ hown (hw _ (List.mem_of_getElem? (i := 34) rfl)) wS e13 hS hk hEL CR.1 (g := (mkF m 134 #[.val (.int p0), .val (.int p1), .val (.int p2), .val (.int p3), .val (.int p4), .val (.int p5), .val (.int (Int32.ofNat (ks + 1))), .val (.int (Int32.ofNat kl)), .val (.int (Int32.ofNat (ks + kl))), .val (.int ch), .val (.ref ca), .val (.ref xr), .val (.int b1), .val (.int b2), .unset, .unset, .unset, .unset, .unset, .unset] [(.ref f1), (.ref f1)])) rfl (hb hby at_134) (n := 12) (by decide) (by decide) (by decide) (by decide)
  replace F_name_f1 := F_name_f1.ext E14
  replace F_start_f1 := F_start_f1.ext E14
  replace F_end_f1 := F_end_f1.ext E14
  replace F_numeric_f1 := F_numeric_f1.ext E14
  replace A13 := A13.ext E14
  replace Sx := Sx.ext E14
  replace O := O.ext E14
  replace Kp := Kp.ext E14
  replace CR := CR.trans CR14
  refine Out.via (g' := (mkF m 136 #[.val (.int p0), .val (.int p1), .val (.int p2), .val (.int p3), .val (.int p4), .val (.int p5), .val (.int (Int32.ofNat (ks + 1))), .val (.int (Int32.ofNat kl)), .val (.int (Int32.ofNat (ks + kl))), .val (.int ch), .val (.ref ca), .val (.ref xr), .val (.int b1), .val (.int b2), .unset, .unset, .unset, .unset, .unset, .unset] [(.ref l1), (.ref f1), (.ref f1)])) st14 ?_
  refine Out.via (g' := (mkF m 138 #[.val (.int p0), .val (.int p1), .val (.int p2), .val (.int p3), .val (.int p4), .val (.int p5), .val (.int (Int32.ofNat (ks + 1))), .val (.int (Int32.ofNat kl)), .val (.int (Int32.ofNat (ks + kl))), .val (.int ch), .val (.ref ca), .val (.ref xr), .val (.int b1), .val (.int b2), .unset, .unset, .unset, .unset, .unset, .unset] [(.int (Int32.ofNat (ks + 1))), (.ref l1), (.ref f1), (.ref f1)])) (fun _ k => XS.iload X14.here hx rfl (hb hby at_136) rfl k) ?_
  refine Out.via (g' := (mkF m 140 #[.val (.int p0), .val (.int p1), .val (.int p2), .val (.int p3), .val (.int p4), .val (.int p5), .val (.int (Int32.ofNat (ks + 1))), .val (.int (Int32.ofNat kl)), .val (.int (Int32.ofNat (ks + kl))), .val (.int ch), .val (.ref ca), .val (.ref xr), .val (.int b1), .val (.int b2), .unset, .unset, .unset, .unset, .unset, .unset] [(.int (Int32.ofNat (ks + kl))), (.int (Int32.ofNat (ks + 1))), (.ref l1), (.ref f1), (.ref f1)])) (fun _ k => XS.iload X14.here hx rfl (hb hby at_138) rfl k) ?_
  refine Out.via (g' := (mkF m 142 #[.val (.int p0), .val (.int p1), .val (.int p2), .val (.int p3), .val (.int p4), .val (.int p5), .val (.int (Int32.ofNat (ks + 1))), .val (.int (Int32.ofNat kl)), .val (.int (Int32.ofNat (ks + kl))), .val (.int ch), .val (.ref ca), .val (.ref xr), .val (.int b1), .val (.int b2), .unset, .unset, .unset, .unset, .unset, .unset] [(.int b1), (.int (Int32.ofNat (ks + kl))), (.int (Int32.ofNat (ks + 1))), (.ref l1), (.ref f1), (.ref f1)])) (fun _ k => XS.iload X14.here hx rfl (hb hby at_140) rfl k) ?_
  obtain ⟨_, _, ⟨T15, L15, kc15, ks15⟩, -, X15, ⟨Lc15, hQ15, l15, y15, z15⟩, st15⟩ := X14.specialBack hx (y := (⟨"com/example/talao/talao/Field", "<init>", "(Ljava/lang/String;IIZ)V"⟩ : MethodName)) rfl hown (mvT hZ (hw _ (List.mem_of_getElem? (i := 37) rfl))) (mvT hZ (hw _ (List.mem_of_getElem? (i := 38) rfl))) (mvT hZ (hw _ (List.mem_of_getElem? (i := 39) rfl))) (by decide) (backOf (W := 1) (own_rmF l Z a0 hw [] f1 (.ref l1) (Int32.ofNat (ks + 1)) (Int32.ofNat (ks + kl)) b1 h14 n0 O g_f1 A13 F_name_f1 F_start_f1 F_end_f1 F_numeric_f1 rfl) hZ (hw _ (List.mem_of_getElem? (i := 39) rfl)) (hw _ (List.mem_of_getElem? (i := 33) rfl)) (by decide) (by decide)) (g := (mkF m 142 #[.val (.int p0), .val (.int p1), .val (.int p2), .val (.int p3), .val (.int p4), .val (.int p5), .val (.int (Int32.ofNat (ks + 1))), .val (.int (Int32.ofNat kl)), .val (.int (Int32.ofNat (ks + kl))), .val (.int ch), .val (.ref ca), .val (.ref xr), .val (.int b1), .val (.int b2), .unset, .unset, .unset, .unset, .unset, .unset] [(.int b1), (.int (Int32.ofNat (ks + kl))), (.int (Int32.ofNat (ks + 1))), (.ref l1), (.ref f1), (.ref f1)])) rfl (by rw [hml]; rfl) (Steps.refl _) (a := f1) (argsL := [(.ref l1), (.int (Int32.ofNat (ks + 1))), (.int (Int32.ofNat (ks + kl))), (.int b1)]) (rest := [(.ref f1)]) (lenOf own_pd17 rfl) rfl (by show 2 * 0 + _ ≤ _; exact Nat.le_of_eq rfl) (hb hby at_142) (fun _ _ => ⟨rfl, e14, (by decide : 6 + 0 ≤ _), (by decide : 40 + 0 ≤ _)⟩)
  dsimp only [Pt.U, Pt.locs, Pt.cells, Pt.slots] at X15 l15 y15 z15 st15 hQ15
  subst l15 y15 z15
  obtain ⟨rfl, Nq15, Kq15, E_f1, Fn_f1, Fs_f1, Fe_f1, Fz_f1⟩ := hQ15
  replace N0 := Fr.app N0 Nq15
  have sfk := (Safe.exa (EL := own_EL) hZ.alike A13 (by decide) (by decide))
  replace CR := CR.trans (CHr.keep Kq15 (sfS sfk sf0) CR.1)
  replace hk : _ ≤ T15.heap.size := Nat.le_trans hk Kq15.1
  replace Sx := Sx.keepS Kq15 A13 (hw _ (List.mem_of_getElem? (i := 32) rfl)) ne_xr_f1
  replace A13 := A13.keep Kq15
  replace O := O.keep Kq15 (allS g_f1 all0)
  replace Kp := Kp.trans Kq15 (allS (Or.inr sz_f1) all0)
  refine Out.to (g' := (mkF m 145 #[.val (.int p0), .val (.int p1), .val (.int p2), .val (.int p3), .val (.int p4), .val (.int p5), .val (.int (Int32.ofNat (ks + 1))), .val (.int (Int32.ofNat kl)), .val (.int (Int32.ofNat (ks + kl))), .val (.int ch), .val (.ref ca), .val (.ref xr), .val (.int b1), .val (.int b2), .unset, .unset, .unset, .unset, .unset, .unset] [(.ref f1)])) st15 ?_
  refine Out.via (g' := (mkF m 147 #[.val (.int p0), .val (.int p1), .val (.int p2), .val (.int p3), .val (.int p4), .val (.int p5), .val (.int (Int32.ofNat (ks + 1))), .val (.int (Int32.ofNat kl)), .val (.int (Int32.ofNat (ks + kl))), .val (.int ch), .val (.ref ca), .val (.ref xr), .val (.int b1), .val (.int b2), .val (.ref f1), .unset, .unset, .unset, .unset, .unset] [])) (fun _ k => XS.astore X15.here hx rfl (hb hby at_145) rfl rfl (l' := #[.val (.int p0), .val (.int p1), .val (.int p2), .val (.int p3), .val (.int p4), .val (.int p5), .val (.int (Int32.ofNat (ks + 1))), .val (.int (Int32.ofNat kl)), .val (.int (Int32.ofNat (ks + kl))), .val (.int ch), .val (.ref ca), .val (.ref xr), .val (.int b1), .val (.int b2), .val (.ref f1), .unset, .unset, .unset, .unset, .unset]) rfl k) ?_
  refine Out.via (g' := (mkF m 149 #[.val (.int p0), .val (.int p1), .val (.int p2), .val (.int p3), .val (.int p4), .val (.int p5), .val (.int (Int32.ofNat (ks + 1))), .val (.int (Int32.ofNat kl)), .val (.int (Int32.ofNat (ks + kl))), .val (.int ch), .val (.ref ca), .val (.ref xr), .val (.int b1), .val (.int b2), .val (.ref f1), .unset, .unset, .unset, .unset, .unset] [(.ref f1)])) (fun _ k => XS.aload X15.here hx rfl (hb hby at_147) rfl rfl k) ?_
  obtain ⟨cq16, kq16, q16a, q16b, q16c⟩ := isOf hZ rfl E_f1
  obtain ⟨_, _, ⟨T16, L16, kc16, ks16⟩, -, X16, ⟨Lc16, hQ16, l16, y16, z16⟩, st16⟩ := X15.virtualBack hx (y := (⟨"com/example/talao/talao/Field", "width", "()I"⟩ : MethodName)) (z := (⟨"com/example/talao/talao/Field", "width", "()I"⟩ : MethodName)) hown (mvT hZ (hw _ (List.mem_of_getElem? (i := 54) rfl))) (mvT hZ (hw _ (List.mem_of_getElem? (i := 55) rfl))) (notFace_of_selects (args := #[]) (mvT hZ (hw _ (List.mem_of_getElem? (i := 57) rfl)))) (mvT hZ (hw _ (List.mem_of_getElem? (i := 57) rfl))) (mvT hZ (hw _ (List.mem_of_getElem? (i := 56) rfl))) (by decide) (backOf (W := 0) (own_rmW l Z a0 hw [] f1 (Int32.ofNat (ks + 1)) (Int32.ofNat (ks + kl)) T15.heap n0 O Fs_f1 Fe_f1) hZ (hw _ (List.mem_of_getElem? (i := 58) rfl)) (hw _ (List.mem_of_getElem? (i := 33) rfl)) (by decide) (by decide)) q16a q16c (g := (mkF m 149 #[.val (.int p0), .val (.int p1), .val (.int p2), .val (.int p3), .val (.int p4), .val (.int p5), .val (.int (Int32.ofNat (ks + 1))), .val (.int (Int32.ofNat kl)), .val (.int (Int32.ofNat (ks + kl))), .val (.int ch), .val (.ref ca), .val (.ref xr), .val (.int b1), .val (.int b2), .val (.ref f1), .unset, .unset, .unset, .unset, .unset] [(.ref f1)])) rfl (by rw [hml]; rfl) (Steps.refl _) (argsL := []) (rest := []) (lenOf own_pd9 rfl) rfl (by show 2 * 0 + _ ≤ _; exact Nat.le_of_eq rfl) (hb hby at_149) (fun _ _ => ⟨rfl, rfl, (by decide : 6 + 0 ≤ _), (by decide : 40 + 0 ≤ _)⟩)
  dsimp only [Pt.U, Pt.locs, Pt.cells, Pt.slots] at X16 l16 y16 z16 st16 hQ16
  subst l16 y16 z16
  obtain ⟨rfl, Nq16, eq16⟩ := hQ16
  replace N0 := Fr.app N0 Nq16
  refine Out.to (g' := (mkF m 152 #[.val (.int p0), .val (.int p1), .val (.int p2), .val (.int p3), .val (.int p4), .val (.int p5), .val (.int (Int32.ofNat (ks + 1))), .val (.int (Int32.ofNat kl)), .val (.int (Int32.ofNat (ks + kl))), .val (.int ch), .val (.ref ca), .val (.ref xr), .val (.int b1), .val (.int b2), .val (.ref f1), .unset, .unset, .unset, .unset, .unset] [(.int (((Int32.ofNat (ks + kl)) - (Int32.ofNat (ks + 1))) + (1 : Int32)))])) st16 ?_
  refine Out.via (g' := (mkF m 154 #[.val (.int p0), .val (.int p1), .val (.int p2), .val (.int p3), .val (.int p4), .val (.int p5), .val (.int (Int32.ofNat (ks + 1))), .val (.int (Int32.ofNat kl)), .val (.int (Int32.ofNat (ks + kl))), .val (.int ch), .val (.ref ca), .val (.ref xr), .val (.int b1), .val (.int b2), .val (.ref f1), .unset, .unset, .unset, .unset, .unset] [(.int (Int32.ofNat kl)), (.int (((Int32.ofNat (ks + kl)) - (Int32.ofNat (ks + 1))) + (1 : Int32)))])) (fun _ k => XS.iload X16.here hx rfl (hb hby at_152) rfl k) ?_
  refine Out.via (g' := (mkF m 157 #[.val (.int p0), .val (.int p1), .val (.int p2), .val (.int p3), .val (.int p4), .val (.int p5), .val (.int (Int32.ofNat (ks + 1))), .val (.int (Int32.ofNat kl)), .val (.int (Int32.ofNat (ks + kl))), .val (.int ch), .val (.ref ca), .val (.ref xr), .val (.int b1), .val (.int b2), .val (.ref f1), .unset, .unset, .unset, .unset, .unset] [])) (fun _ k => XS.icmpNo X16.here hx rfl (hb hby at_154) rfl (teq t10.2).2 k) ?_
  refine Out.via (g' := (mkF m 159 #[.val (.int p0), .val (.int p1), .val (.int p2), .val (.int p3), .val (.int p4), .val (.int p5), .val (.int (Int32.ofNat (ks + 1))), .val (.int (Int32.ofNat kl)), .val (.int (Int32.ofNat (ks + kl))), .val (.int ch), .val (.ref ca), .val (.ref xr), .val (.int b1), .val (.int b2), .val (.ref f1), .unset, .unset, .unset, .unset, .unset] [(.ref f1)])) (fun _ k => XS.aload X16.here hx rfl (hb hby at_157) rfl rfl k) ?_
  refine Out.via (g' := (mkF m 161 #[.val (.int p0), .val (.int p1), .val (.int p2), .val (.int p3), .val (.int p4), .val (.int p5), .val (.int (Int32.ofNat (ks + 1))), .val (.int (Int32.ofNat kl)), .val (.int (Int32.ofNat (ks + kl))), .val (.int ch), .val (.ref ca), .val (.ref xr), .val (.int b1), .val (.int b2), .val (.ref f1), .unset, .unset, .unset, .unset, .unset] [(.ref xr), (.ref f1)])) (fun _ k => XS.aload X16.here hx rfl (hb hby at_159) rfl rfl k) ?_
  obtain ⟨cq17, kq17, q17a, q17b, q17c⟩ := isOf hZ eq16 E_f1
  obtain ⟨_, _, ⟨T17, L17, kc17, ks17⟩, -, X17, hS17, hg17, ⟨Lc17, hQ17, l17, y17, z17, CR17⟩, st17⟩ := X16.virtualBackS hx (y := (⟨"com/example/talao/talao/Field", "in", "(Ljava/lang/String;)Ljava/lang/String;"⟩ : MethodName)) (z := (⟨"com/example/talao/talao/Field", "in", "(Ljava/lang/String;)Ljava/lang/String;"⟩ : MethodName)) hown (mvT hZ (hw _ (List.mem_of_getElem? (i := 59) rfl))) (mvT hZ (hw _ (List.mem_of_getElem? (i := 60) rfl))) (notFace_of_selects (args := #[]) (mvT hZ (hw _ (List.mem_of_getElem? (i := 62) rfl)))) (mvT hZ (hw _ (List.mem_of_getElem? (i := 62) rfl))) (mvT hZ (hw _ (List.mem_of_getElem? (i := 61) rfl))) (by decide) (backOfSH (W := 0) (own_rmIN l Z a0 hw [] f1 xr ch ks kl G1 G3 T15.heap n0 O Fs_f1 Fe_f1 hle Sx D_c O2 P5 O4 rG3) hZ (hw _ (List.mem_of_getElem? (i := 63) rfl)) (hw _ (List.mem_of_getElem? (i := 33) rfl)) (by decide) (by decide) hEL CR.1) q17a q17c (g := (mkF m 161 #[.val (.int p0), .val (.int p1), .val (.int p2), .val (.int p3), .val (.int p4), .val (.int p5), .val (.int (Int32.ofNat (ks + 1))), .val (.int (Int32.ofNat kl)), .val (.int (Int32.ofNat (ks + kl))), .val (.int ch), .val (.ref ca), .val (.ref xr), .val (.int b1), .val (.int b2), .val (.ref f1), .unset, .unset, .unset, .unset, .unset] [(.ref xr), (.ref f1)])) rfl (by rw [hml]; rfl) (Steps.refl _) (argsL := [(.ref xr)]) (rest := []) (lenOf own_pd20 rfl) rfl (by show 2 * 0 + _ ≤ _; exact Nat.le_of_eq rfl) (hb hby at_161) (fun _ _ => ⟨rfl, eq16, (by decide : 6 + 2 ≤ _), (by decide : 40 + 12 ≤ _)⟩)
  dsimp only [Pt.U, Pt.locs, Pt.cells, Pt.slots] at X17 l17 y17 z17 st17 hQ17 hS17 hg17 CR17
  subst l17 y17 z17
  rw [eq16] at hg17
  obtain ⟨X17, hS, hZ, hown⟩ := rebS hS hk X17 hS17 hg17 hZ hown
  replace hk := Nat.le_refl T17.heap.size
  replace CR := CR.trans CR17
  obtain ⟨xu, cu, rfl, Nq17, Kq17, lcu, Su⟩ := hQ17
  replace N0 := Fr.app N0 Nq17
  replace O := O.keep Kq17 all0
  replace Kp := Kp.trans Kq17 all0
  refine Out.to (g' := (mkF m 164 #[.val (.int p0), .val (.int p1), .val (.int p2), .val (.int p3), .val (.int p4), .val (.int p5), .val (.int (Int32.ofNat (ks + 1))), .val (.int (Int32.ofNat kl)), .val (.int (Int32.ofNat (ks + kl))), .val (.int ch), .val (.ref ca), .val (.ref xr), .val (.int b1), .val (.int b2), .val (.ref f1), .unset, .unset, .unset, .unset, .unset] [(.ref xu)])) st17 ?_
  obtain ⟨cq18, kq18, q18a, q18b, q18c⟩ := isOf hZ rfl Su.2.1
  obtain ⟨_, _, ⟨T18, L18, kc18, ks18⟩, -, X18, ⟨Lc18, hQ18, l18, y18, z18⟩, st18⟩ := X17.virtualBack hx (y := (⟨"java/lang/String", "length", "()I"⟩ : MethodName)) (z := (⟨"java/lang/String", "length", "()I"⟩ : MethodName)) hown (mvT hZ (hw _ (List.mem_of_getElem? (i := 97) rfl))) (mvT hZ (hw _ (List.mem_of_getElem? (i := 70) rfl))) (notFace_of_selects (args := #[]) (mvT hZ (hw _ (List.mem_of_getElem? (i := 72) rfl)))) (mvT hZ (hw _ (List.mem_of_getElem? (i := 72) rfl))) (mvT hZ (hw _ (List.mem_of_getElem? (i := 71) rfl))) (by decide) (own_lenB (W := 0) hZ hw (kI := 4) (hw _ (List.mem_of_getElem? (i := 3) rfl)) Su (O2.ext O.2) P5 (by omega) (by decide) (by decide)) q18a q18c (g := (mkF m 164 #[.val (.int p0), .val (.int p1), .val (.int p2), .val (.int p3), .val (.int p4), .val (.int p5), .val (.int (Int32.ofNat (ks + 1))), .val (.int (Int32.ofNat kl)), .val (.int (Int32.ofNat (ks + kl))), .val (.int ch), .val (.ref ca), .val (.ref xr), .val (.int b1), .val (.int b2), .val (.ref f1), .unset, .unset, .unset, .unset, .unset] [(.ref xu)])) rfl (by rw [hml]; rfl) (Steps.refl _) (argsL := []) (rest := []) (lenOf own_pd9 rfl) rfl (by show 2 * 0 + _ ≤ _; exact Nat.le_of_eq rfl) (hb hby at_164) (fun _ _ => ⟨rfl, rfl, (by decide : 8 + 0 ≤ _), (by decide : 52 + 0 ≤ _)⟩)
  dsimp only [Pt.U, Pt.locs, Pt.cells, Pt.slots] at X18 l18 y18 z18 st18 hQ18
  subst l18 y18 z18
  obtain ⟨rfl, rfl, eq18⟩ := hQ18
  replace N0 := Fr.app N0 (Fr.nil n0)
  refine Out.to (g' := (mkF m 167 #[.val (.int p0), .val (.int p1), .val (.int p2), .val (.int p3), .val (.int p4), .val (.int p5), .val (.int (Int32.ofNat (ks + 1))), .val (.int (Int32.ofNat kl)), .val (.int (Int32.ofNat (ks + kl))), .val (.int ch), .val (.ref ca), .val (.ref xr), .val (.int b1), .val (.int b2), .val (.ref f1), .unset, .unset, .unset, .unset, .unset] [(.int (Int32.ofNat cu.length))])) st18 ?_
  refine Out.via (g' := (mkF m 169 #[.val (.int p0), .val (.int p1), .val (.int p2), .val (.int p3), .val (.int p4), .val (.int p5), .val (.int (Int32.ofNat (ks + 1))), .val (.int (Int32.ofNat kl)), .val (.int (Int32.ofNat (ks + kl))), .val (.int ch), .val (.ref ca), .val (.ref xr), .val (.int b1), .val (.int b2), .val (.ref f1), .unset, .unset, .unset, .unset, .unset] [(.int (Int32.ofNat kl)), (.int (Int32.ofNat cu.length))])) (fun _ k => XS.iload X18.here hx rfl (hb hby at_167) rfl k) ?_
  refine Out.via (g' := (mkF m 172 #[.val (.int p0), .val (.int p1), .val (.int p2), .val (.int p3), .val (.int p4), .val (.int p5), .val (.int (Int32.ofNat (ks + 1))), .val (.int (Int32.ofNat kl)), .val (.int (Int32.ofNat (ks + kl))), .val (.int ch), .val (.ref ca), .val (.ref xr), .val (.int b1), .val (.int b2), .val (.ref f1), .unset, .unset, .unset, .unset, .unset] [])) (fun _ k => XS.icmpNo X18.here hx rfl (hb hby at_169) rfl (teq (by rw [lcu])).2 k) ?_
  refine Out.via (g' := (mkF m 173 #[.val (.int p0), .val (.int p1), .val (.int p2), .val (.int p3), .val (.int p4), .val (.int p5), .val (.int (Int32.ofNat (ks + 1))), .val (.int (Int32.ofNat kl)), .val (.int (Int32.ofNat (ks + kl))), .val (.int ch), .val (.ref ca), .val (.ref xr), .val (.int b1), .val (.int b2), .val (.ref f1), .unset, .unset, .unset, .unset, .unset] [(.int (1 : Int32))])) (fun _ k => XS.iconst X18.here hx rfl (hb hby at_172) k) ?_
  refine Out.via (g' := (mkF m 177 #[.val (.int p0), .val (.int p1), .val (.int p2), .val (.int p3), .val (.int p4), .val (.int p5), .val (.int (Int32.ofNat (ks + 1))), .val (.int (Int32.ofNat kl)), .val (.int (Int32.ofNat (ks + kl))), .val (.int ch), .val (.ref ca), .val (.ref xr), .val (.int b1), .val (.int b2), .val (.ref f1), .unset, .unset, .unset, .unset, .unset] [(.int (1 : Int32))])) (fun _ k => XS.goto X18.here hx rfl (pc0 := 173) (pc' := 177) rfl (hb hby at_173) (by decide) (by decide) k) ?_
  refine Out.via (g' := (mkF m 179 #[.val (.int p0), .val (.int p1), .val (.int p2), .val (.int p3), .val (.int p4), .val (.int p5), .val (.int (Int32.ofNat (ks + 1))), .val (.int (Int32.ofNat kl)), .val (.int (Int32.ofNat (ks + kl))), .val (.int ch), .val (.ref ca), .val (.ref xr), .val (.int b1), .val (.int b2), .val (.ref f1), .val (.int (1 : Int32)), .unset, .unset, .unset, .unset] [])) (fun _ k => XS.istore X18.here hx rfl (hb hby at_177) rfl (l' := #[.val (.int p0), .val (.int p1), .val (.int p2), .val (.int p3), .val (.int p4), .val (.int p5), .val (.int (Int32.ofNat (ks + 1))), .val (.int (Int32.ofNat kl)), .val (.int (Int32.ofNat (ks + kl))), .val (.int ch), .val (.ref ca), .val (.ref xr), .val (.int b1), .val (.int b2), .val (.ref f1), .val (.int (1 : Int32)), .unset, .unset, .unset, .unset]) rfl k) ?_
  obtain ⟨T19, h19, X19, e19, E19, A19, D19, -, st19⟩ := newO X18 hx hZ hown (hw _ (List.mem_of_getElem? (i := 31) rfl)) (hw _ (List.mem_of_getElem? (i := 32) rfl)) (hw _ (List.mem_of_getElem? (i := 33) rfl)) eq18 (g := (mkF m 179 #[.val (.int p0), .val (.int p1), .val (.int p2), .val (.int p3), .val (.int p4), .val (.int p5), .val (.int (Int32.ofNat (ks + 1))), .val (.int (Int32.ofNat kl)), .val (.int (Int32.ofNat (ks + kl))), .val (.int ch), .val (.ref ca), .val (.ref xr), .val (.int b1), .val (.int b2), .val (.ref f1), .val (.int (1 : Int32)), .unset, .unset, .unset, .unset] [])) rfl (hb hby at_179) (by decide) (by decide)
  obtain ⟨f2, gq19⟩ : ∃ z, z = T17.heap.size := ⟨_, rfl⟩
  rw [← gq19] at A19 D19 st19
  have g_f2 : n0 ≤ f2 := Nat.le_trans (own_z0 O) (Nat.le_of_eq gq19.symm)
  have sz_f2 : h0.size ≤ f2 := Nat.le_trans Kp.1 (Nat.le_of_eq gq19.symm)
  replace O := O.ext E19
  replace Kp := Kp.ext E19
  replace hk := Nat.le_trans hk E19.1
  have F_name_f2 : Fld Z h19 f2 "com/example/talao/talao/Field" "name" "Ljava/lang/String;" .null := D19 (Or.inr (hw _ (List.mem_of_getElem? (i := 47) rfl))) (ty := (.object "java/lang/String")) (by decide)
  have F_start_f2 : Fld Z h19 f2 "com/example/talao/talao/Field" "start" "I" (.int (0 : Int32)) := D19 (Or.inr (hw _ (List.mem_of_getElem? (i := 49) rfl))) (ty := .int) (by decide)
  have F_end_f2 : Fld Z h19 f2 "com/example/talao/talao/Field" "end" "I" (.int (0 : Int32)) := D19 (Or.inr (hw _ (List.mem_of_getElem? (i := 51) rfl))) (ty := .int) (by decide)
  have F_numeric_f2 : Fld Z h19 f2 "com/example/talao/talao/Field" "numeric" "Z" (.int (0 : Int32)) := D19 (Or.inr (hw _ (List.mem_of_getElem? (i := 53) rfl))) (ty := .boolean) (by decide)
  refine Out.via (g' := (mkF m 182 #[.val (.int p0), .val (.int p1), .val (.int p2), .val (.int p3), .val (.int p4), .val (.int p5), .val (.int (Int32.ofNat (ks + 1))), .val (.int (Int32.ofNat kl)), .val (.int (Int32.ofNat (ks + kl))), .val (.int ch), .val (.ref ca), .val (.ref xr), .val (.int b1), .val (.int b2), .val (.ref f1), .val (.int (1 : Int32)), .unset, .unset, .unset, .unset] [(.ref f2)])) st19 ?_
  refine Out.via (g' := (mkF m 183 #[.val (.int p0), .val (.int p1), .val (.int p2), .val (.int p3), .val (.int p4), .val (.int p5), .val (.int (Int32.ofNat (ks + 1))), .val (.int (Int32.ofNat kl)), .val (.int (Int32.ofNat (ks + kl))), .val (.int ch), .val (.ref ca), .val (.ref xr), .val (.int b1), .val (.int b2), .val (.ref f1), .val (.int (1 : Int32)), .unset, .unset, .unset, .unset] [(.ref f2), (.ref f2)])) (fun _ k => XS.dup X19.here hx rfl (hb hby at_182) rfl rfl k) ?_
  obtain ⟨l2, T20, h20, kk20, X20, e20, E20, hS, hk, hZ, hown, st20⟩ := ldcS X19 hx hZ hown (hw _ (List.mem_of_getElem? (i := 34) rfl)) wS e19 hS hk (g := (mkF m 183 #[.val (.int p0), .val (.int p1), .val (.int p2), .val (.int p3), .val (.int p4), .val (.int p5), .val (.int (Int32.ofNat (ks + 1))), .val (.int (Int32.ofNat kl)), .val (.int (Int32.ofNat (ks + kl))), .val (.int ch), .val (.ref ca), .val (.ref xr), .val (.int b1), .val (.int b2), .val (.ref f1), .val (.int (1 : Int32)), .unset, .unset, .unset, .unset] [(.ref f2), (.ref f2)])) rfl (hb hby at_183) (n := 12) (by decide) (by decide) (by decide) (by decide)
  replace F_name_f2 := F_name_f2.ext E20
  replace F_start_f2 := F_start_f2.ext E20
  replace F_end_f2 := F_end_f2.ext E20
  replace F_numeric_f2 := F_numeric_f2.ext E20
  replace A19 := A19.ext E20
  replace O := O.ext E20
  replace Kp := Kp.ext E20
  refine Out.via (g' := (mkF m 185 #[.val (.int p0), .val (.int p1), .val (.int p2), .val (.int p3), .val (.int p4), .val (.int p5), .val (.int (Int32.ofNat (ks + 1))), .val (.int (Int32.ofNat kl)), .val (.int (Int32.ofNat (ks + kl))), .val (.int ch), .val (.ref ca), .val (.ref xr), .val (.int b1), .val (.int b2), .val (.ref f1), .val (.int (1 : Int32)), .unset, .unset, .unset, .unset] [(.ref l2), (.ref f2), (.ref f2)])) st20 ?_
  refine Out.via (g' := (mkF m 186 #[.val (.int p0), .val (.int p1), .val (.int p2), .val (.int p3), .val (.int p4), .val (.int p5), .val (.int (Int32.ofNat (ks + 1))), .val (.int (Int32.ofNat kl)), .val (.int (Int32.ofNat (ks + kl))), .val (.int ch), .val (.ref ca), .val (.ref xr), .val (.int b1), .val (.int b2), .val (.ref f1), .val (.int (1 : Int32)), .unset, .unset, .unset, .unset] [(.int p0), (.ref l2), (.ref f2), (.ref f2)])) (fun _ k => XS.iloadN X20.here hx rfl (hb hby at_185) rfl k) ?_
  refine Out.via (g' := (mkF m 187 #[.val (.int p0), .val (.int p1), .val (.int p2), .val (.int p3), .val (.int p4), .val (.int p5), .val (.int (Int32.ofNat (ks + 1))), .val (.int (Int32.ofNat kl)), .val (.int (Int32.ofNat (ks + kl))), .val (.int ch), .val (.ref ca), .val (.ref xr), .val (.int b1), .val (.int b2), .val (.ref f1), .val (.int (1 : Int32)), .unset, .unset, .unset, .unset] [(.int p1), (.int p0), (.ref l2), (.ref f2), (.ref f2)])) (fun _ k => XS.iloadN X20.here hx rfl (hb hby at_186) rfl k) ?_
  refine Out.via (g' := (mkF m 189 #[.val (.int p0), .val (.int p1), .val (.int p2), .val (.int p3), .val (.int p4), .val (.int p5), .val (.int (Int32.ofNat (ks + 1))), .val (.int (Int32.ofNat kl)), .val (.int (Int32.ofNat (ks + kl))), .val (.int ch), .val (.ref ca), .val (.ref xr), .val (.int b1), .val (.int b2), .val (.ref f1), .val (.int (1 : Int32)), .unset, .unset, .unset, .unset] [(.int b1), (.int p1), (.int p0), (.ref l2), (.ref f2), (.ref f2)])) (fun _ k => XS.iload X20.here hx rfl (hb hby at_187) rfl k) ?_
  obtain ⟨_, _, ⟨T21, L21, kc21, ks21⟩, -, X21, ⟨Lc21, hQ21, l21, y21, z21⟩, st21⟩ := X20.specialBack hx (y := (⟨"com/example/talao/talao/Field", "<init>", "(Ljava/lang/String;IIZ)V"⟩ : MethodName)) rfl hown (mvT hZ (hw _ (List.mem_of_getElem? (i := 37) rfl))) (mvT hZ (hw _ (List.mem_of_getElem? (i := 38) rfl))) (mvT hZ (hw _ (List.mem_of_getElem? (i := 39) rfl))) (by decide) (backOf (W := 1) (own_rmF l Z a0 hw [] f2 (.ref l2) p0 p1 b1 h20 n0 O g_f2 A19 F_name_f2 F_start_f2 F_end_f2 F_numeric_f2 rfl) hZ (hw _ (List.mem_of_getElem? (i := 39) rfl)) (hw _ (List.mem_of_getElem? (i := 33) rfl)) (by decide) (by decide)) (g := (mkF m 189 #[.val (.int p0), .val (.int p1), .val (.int p2), .val (.int p3), .val (.int p4), .val (.int p5), .val (.int (Int32.ofNat (ks + 1))), .val (.int (Int32.ofNat kl)), .val (.int (Int32.ofNat (ks + kl))), .val (.int ch), .val (.ref ca), .val (.ref xr), .val (.int b1), .val (.int b2), .val (.ref f1), .val (.int (1 : Int32)), .unset, .unset, .unset, .unset] [(.int b1), (.int p1), (.int p0), (.ref l2), (.ref f2), (.ref f2)])) rfl (by rw [hml]; rfl) (Steps.refl _) (a := f2) (argsL := [(.ref l2), (.int p0), (.int p1), (.int b1)]) (rest := [(.ref f2)]) (lenOf own_pd17 rfl) rfl (by show 2 * 0 + _ ≤ _; exact Nat.le_of_eq rfl) (hb hby at_189) (fun _ _ => ⟨rfl, e20, (by decide : 11 + 0 ≤ _), (by decide : 72 + 0 ≤ _)⟩)
  dsimp only [Pt.U, Pt.locs, Pt.cells, Pt.slots] at X21 l21 y21 z21 st21 hQ21
  subst l21 y21 z21
  obtain ⟨rfl, Nq21, Kq21, E_f2, Fn_f2, Fs_f2, Fe_f2, Fz_f2⟩ := hQ21
  replace N0 := Fr.app N0 Nq21
  replace hk : _ ≤ T21.heap.size := Nat.le_trans hk Kq21.1
  replace A19 := A19.keep Kq21
  replace O := O.keep Kq21 (allS g_f2 all0)
  replace Kp := Kp.trans Kq21 (allS (Or.inr sz_f2) all0)
  refine Out.to (g' := (mkF m 192 #[.val (.int p0), .val (.int p1), .val (.int p2), .val (.int p3), .val (.int p4), .val (.int p5), .val (.int (Int32.ofNat (ks + 1))), .val (.int (Int32.ofNat kl)), .val (.int (Int32.ofNat (ks + kl))), .val (.int ch), .val (.ref ca), .val (.ref xr), .val (.int b1), .val (.int b2), .val (.ref f1), .val (.int (1 : Int32)), .unset, .unset, .unset, .unset] [(.ref f2)])) st21 ?_
  refine Out.via (g' := (mkF m 194 #[.val (.int p0), .val (.int p1), .val (.int p2), .val (.int p3), .val (.int p4), .val (.int p5), .val (.int (Int32.ofNat (ks + 1))), .val (.int (Int32.ofNat kl)), .val (.int (Int32.ofNat (ks + kl))), .val (.int ch), .val (.ref ca), .val (.ref xr), .val (.int b1), .val (.int b2), .val (.ref f1), .val (.int (1 : Int32)), .val (.ref f2), .unset, .unset, .unset] [])) (fun _ k => XS.astore X21.here hx rfl (hb hby at_192) rfl rfl (l' := #[.val (.int p0), .val (.int p1), .val (.int p2), .val (.int p3), .val (.int p4), .val (.int p5), .val (.int (Int32.ofNat (ks + 1))), .val (.int (Int32.ofNat kl)), .val (.int (Int32.ofNat (ks + kl))), .val (.int ch), .val (.ref ca), .val (.ref xr), .val (.int b1), .val (.int b2), .val (.ref f1), .val (.int (1 : Int32)), .val (.ref f2), .unset, .unset, .unset]) rfl k) ?_
  obtain ⟨T22, h22, X22, e22, E22, A22, D22, -, st22⟩ := newO X21 hx hZ hown (hw _ (List.mem_of_getElem? (i := 31) rfl)) (hw _ (List.mem_of_getElem? (i := 32) rfl)) (hw _ (List.mem_of_getElem? (i := 33) rfl)) rfl (g := (mkF m 194 #[.val (.int p0), .val (.int p1), .val (.int p2), .val (.int p3), .val (.int p4), .val (.int p5), .val (.int (Int32.ofNat (ks + 1))), .val (.int (Int32.ofNat kl)), .val (.int (Int32.ofNat (ks + kl))), .val (.int ch), .val (.ref ca), .val (.ref xr), .val (.int b1), .val (.int b2), .val (.ref f1), .val (.int (1 : Int32)), .val (.ref f2), .unset, .unset, .unset] [])) rfl (hb hby at_194) (by decide) (by decide)
  obtain ⟨f3, gq22⟩ : ∃ z, z = T21.heap.size := ⟨_, rfl⟩
  rw [← gq22] at A22 D22 st22
  have ne_f2_f3 : f2 ≠ f3 := Nat.ne_of_lt (Nat.lt_of_lt_of_le E_f2.lt (Nat.le_of_eq gq22.symm))
  have g_f3 : n0 ≤ f3 := Nat.le_trans (own_z0 O) (Nat.le_of_eq gq22.symm)
  have sz_f3 : h0.size ≤ f3 := Nat.le_trans Kp.1 (Nat.le_of_eq gq22.symm)
  replace Fn_f2 := Fn_f2.ext E22
  replace Fs_f2 := Fs_f2.ext E22
  replace Fe_f2 := Fe_f2.ext E22
  replace Fz_f2 := Fz_f2.ext E22
  replace E_f2 := E_f2.ext E22
  replace O := O.ext E22
  replace Kp := Kp.ext E22
  replace hk := Nat.le_trans hk E22.1
  have F_name_f3 : Fld Z h22 f3 "com/example/talao/talao/Field" "name" "Ljava/lang/String;" .null := D22 (Or.inr (hw _ (List.mem_of_getElem? (i := 47) rfl))) (ty := (.object "java/lang/String")) (by decide)
  have F_start_f3 : Fld Z h22 f3 "com/example/talao/talao/Field" "start" "I" (.int (0 : Int32)) := D22 (Or.inr (hw _ (List.mem_of_getElem? (i := 49) rfl))) (ty := .int) (by decide)
  have F_end_f3 : Fld Z h22 f3 "com/example/talao/talao/Field" "end" "I" (.int (0 : Int32)) := D22 (Or.inr (hw _ (List.mem_of_getElem? (i := 51) rfl))) (ty := .int) (by decide)
  have F_numeric_f3 : Fld Z h22 f3 "com/example/talao/talao/Field" "numeric" "Z" (.int (0 : Int32)) := D22 (Or.inr (hw _ (List.mem_of_getElem? (i := 53) rfl))) (ty := .boolean) (by decide)
  refine Out.via (g' := (mkF m 197 #[.val (.int p0), .val (.int p1), .val (.int p2), .val (.int p3), .val (.int p4), .val (.int p5), .val (.int (Int32.ofNat (ks + 1))), .val (.int (Int32.ofNat kl)), .val (.int (Int32.ofNat (ks + kl))), .val (.int ch), .val (.ref ca), .val (.ref xr), .val (.int b1), .val (.int b2), .val (.ref f1), .val (.int (1 : Int32)), .val (.ref f2), .unset, .unset, .unset] [(.ref f3)])) st22 ?_
  refine Out.via (g' := (mkF m 198 #[.val (.int p0), .val (.int p1), .val (.int p2), .val (.int p3), .val (.int p4), .val (.int p5), .val (.int (Int32.ofNat (ks + 1))), .val (.int (Int32.ofNat kl)), .val (.int (Int32.ofNat (ks + kl))), .val (.int ch), .val (.ref ca), .val (.ref xr), .val (.int b1), .val (.int b2), .val (.ref f1), .val (.int (1 : Int32)), .val (.ref f2), .unset, .unset, .unset] [(.ref f3), (.ref f3)])) (fun _ k => XS.dup X22.here hx rfl (hb hby at_197) rfl rfl k) ?_
  obtain ⟨l3, T23, h23, kk23, X23, e23, E23, hS, hk, hZ, hown, st23⟩ := ldcS X22 hx hZ hown (hw _ (List.mem_of_getElem? (i := 34) rfl)) wS e22 hS hk (g := (mkF m 198 #[.val (.int p0), .val (.int p1), .val (.int p2), .val (.int p3), .val (.int p4), .val (.int p5), .val (.int (Int32.ofNat (ks + 1))), .val (.int (Int32.ofNat kl)), .val (.int (Int32.ofNat (ks + kl))), .val (.int ch), .val (.ref ca), .val (.ref xr), .val (.int b1), .val (.int b2), .val (.ref f1), .val (.int (1 : Int32)), .val (.ref f2), .unset, .unset, .unset] [(.ref f3), (.ref f3)])) rfl (hb hby at_198) (n := 12) (by decide) (by decide) (by decide) (by decide)
  replace Fn_f2 := Fn_f2.ext E23
  replace Fs_f2 := Fs_f2.ext E23
  replace Fe_f2 := Fe_f2.ext E23
  replace Fz_f2 := Fz_f2.ext E23
  replace F_name_f3 := F_name_f3.ext E23
  replace F_start_f3 := F_start_f3.ext E23
  replace F_end_f3 := F_end_f3.ext E23
  replace F_numeric_f3 := F_numeric_f3.ext E23
  replace E_f2 := E_f2.ext E23
  replace A22 := A22.ext E23
  replace O := O.ext E23
  replace Kp := Kp.ext E23
  refine Out.via (g' := (mkF m 200 #[.val (.int p0), .val (.int p1), .val (.int p2), .val (.int p3), .val (.int p4), .val (.int p5), .val (.int (Int32.ofNat (ks + 1))), .val (.int (Int32.ofNat kl)), .val (.int (Int32.ofNat (ks + kl))), .val (.int ch), .val (.ref ca), .val (.ref xr), .val (.int b1), .val (.int b2), .val (.ref f1), .val (.int (1 : Int32)), .val (.ref f2), .unset, .unset, .unset] [(.ref l3), (.ref f3), (.ref f3)])) st23 ?_
  refine Out.via (g' := (mkF m 201 #[.val (.int p0), .val (.int p1), .val (.int p2), .val (.int p3), .val (.int p4), .val (.int p5), .val (.int (Int32.ofNat (ks + 1))), .val (.int (Int32.ofNat kl)), .val (.int (Int32.ofNat (ks + kl))), .val (.int ch), .val (.ref ca), .val (.ref xr), .val (.int b1), .val (.int b2), .val (.ref f1), .val (.int (1 : Int32)), .val (.ref f2), .unset, .unset, .unset] [(.int p1), (.ref l3), (.ref f3), (.ref f3)])) (fun _ k => XS.iloadN X23.here hx rfl (hb hby at_200) rfl k) ?_
  refine Out.via (g' := (mkF m 202 #[.val (.int p0), .val (.int p1), .val (.int p2), .val (.int p3), .val (.int p4), .val (.int p5), .val (.int (Int32.ofNat (ks + 1))), .val (.int (Int32.ofNat kl)), .val (.int (Int32.ofNat (ks + kl))), .val (.int ch), .val (.ref ca), .val (.ref xr), .val (.int b1), .val (.int b2), .val (.ref f1), .val (.int (1 : Int32)), .val (.ref f2), .unset, .unset, .unset] [(.int (1 : Int32)), (.int p1), (.ref l3), (.ref f3), (.ref f3)])) (fun _ k => XS.iconst X23.here hx rfl (hb hby at_201) k) ?_
  refine Out.via (g' := (mkF m 203 #[.val (.int p0), .val (.int p1), .val (.int p2), .val (.int p3), .val (.int p4), .val (.int p5), .val (.int (Int32.ofNat (ks + 1))), .val (.int (Int32.ofNat kl)), .val (.int (Int32.ofNat (ks + kl))), .val (.int ch), .val (.ref ca), .val (.ref xr), .val (.int b1), .val (.int b2), .val (.ref f1), .val (.int (1 : Int32)), .val (.ref f2), .unset, .unset, .unset] [(.int (p1 + (1 : Int32))), (.ref l3), (.ref f3), (.ref f3)])) (fun _ k => XS.iadd X23.here hx rfl (hb hby at_202) rfl k) ?_
  refine Out.via (g' := (mkF m 204 #[.val (.int p0), .val (.int p1), .val (.int p2), .val (.int p3), .val (.int p4), .val (.int p5), .val (.int (Int32.ofNat (ks + 1))), .val (.int (Int32.ofNat kl)), .val (.int (Int32.ofNat (ks + kl))), .val (.int ch), .val (.ref ca), .val (.ref xr), .val (.int b1), .val (.int b2), .val (.ref f1), .val (.int (1 : Int32)), .val (.ref f2), .unset, .unset, .unset] [(.int p2), (.int (p1 + (1 : Int32))), (.ref l3), (.ref f3), (.ref f3)])) (fun _ k => XS.iloadN X23.here hx rfl (hb hby at_203) rfl k) ?_
  refine Out.via (g' := (mkF m 206 #[.val (.int p0), .val (.int p1), .val (.int p2), .val (.int p3), .val (.int p4), .val (.int p5), .val (.int (Int32.ofNat (ks + 1))), .val (.int (Int32.ofNat kl)), .val (.int (Int32.ofNat (ks + kl))), .val (.int ch), .val (.ref ca), .val (.ref xr), .val (.int b1), .val (.int b2), .val (.ref f1), .val (.int (1 : Int32)), .val (.ref f2), .unset, .unset, .unset] [(.int b2), (.int p2), (.int (p1 + (1 : Int32))), (.ref l3), (.ref f3), (.ref f3)])) (fun _ k => XS.iload X23.here hx rfl (hb hby at_204) rfl k) ?_
  obtain ⟨_, _, ⟨T24, L24, kc24, ks24⟩, -, X24, ⟨Lc24, hQ24, l24, y24, z24⟩, st24⟩ := X23.specialBack hx (y := (⟨"com/example/talao/talao/Field", "<init>", "(Ljava/lang/String;IIZ)V"⟩ : MethodName)) rfl hown (mvT hZ (hw _ (List.mem_of_getElem? (i := 37) rfl))) (mvT hZ (hw _ (List.mem_of_getElem? (i := 38) rfl))) (mvT hZ (hw _ (List.mem_of_getElem? (i := 39) rfl))) (by decide) (backOf (W := 1) (own_rmF l Z a0 hw [] f3 (.ref l3) (p1 + (1 : Int32)) p2 b2 h23 n0 O g_f3 A22 F_name_f3 F_start_f3 F_end_f3 F_numeric_f3 rfl) hZ (hw _ (List.mem_of_getElem? (i := 39) rfl)) (hw _ (List.mem_of_getElem? (i := 33) rfl)) (by decide) (by decide)) (g := (mkF m 206 #[.val (.int p0), .val (.int p1), .val (.int p2), .val (.int p3), .val (.int p4), .val (.int p5), .val (.int (Int32.ofNat (ks + 1))), .val (.int (Int32.ofNat kl)), .val (.int (Int32.ofNat (ks + kl))), .val (.int ch), .val (.ref ca), .val (.ref xr), .val (.int b1), .val (.int b2), .val (.ref f1), .val (.int (1 : Int32)), .val (.ref f2), .unset, .unset, .unset] [(.int b2), (.int p2), (.int (p1 + (1 : Int32))), (.ref l3), (.ref f3), (.ref f3)])) rfl (by rw [hml]; rfl) (Steps.refl _) (a := f3) (argsL := [(.ref l3), (.int (p1 + (1 : Int32))), (.int p2), (.int b2)]) (rest := [(.ref f3)]) (lenOf own_pd17 rfl) rfl (by show 2 * 0 + _ ≤ _; exact Nat.le_of_eq rfl) (hb hby at_206) (fun _ _ => ⟨rfl, e23, (by decide : 14 + 0 ≤ _), (by decide : 92 + 0 ≤ _)⟩)
  dsimp only [Pt.U, Pt.locs, Pt.cells, Pt.slots] at X24 l24 y24 z24 st24 hQ24
  subst l24 y24 z24
  obtain ⟨rfl, Nq24, Kq24, E_f3, Fn_f3, Fs_f3, Fe_f3, Fz_f3⟩ := hQ24
  replace N0 := Fr.app N0 Nq24
  replace hk : _ ≤ T24.heap.size := Nat.le_trans hk Kq24.1
  replace Fn_f2 := Fn_f2.keep Kq24 (ninS ne_f2_f3 nin0)
  replace Fs_f2 := Fs_f2.keep Kq24 (ninS ne_f2_f3 nin0)
  replace Fe_f2 := Fe_f2.keep Kq24 (ninS ne_f2_f3 nin0)
  replace Fz_f2 := Fz_f2.keep Kq24 (ninS ne_f2_f3 nin0)
  replace E_f2 := E_f2.keep Kq24
  replace A22 := A22.keep Kq24
  replace O := O.keep Kq24 (allS g_f3 all0)
  replace Kp := Kp.trans Kq24 (allS (Or.inr sz_f3) all0)
  refine Out.to (g' := (mkF m 209 #[.val (.int p0), .val (.int p1), .val (.int p2), .val (.int p3), .val (.int p4), .val (.int p5), .val (.int (Int32.ofNat (ks + 1))), .val (.int (Int32.ofNat kl)), .val (.int (Int32.ofNat (ks + kl))), .val (.int ch), .val (.ref ca), .val (.ref xr), .val (.int b1), .val (.int b2), .val (.ref f1), .val (.int (1 : Int32)), .val (.ref f2), .unset, .unset, .unset] [(.ref f3)])) st24 ?_
  refine Out.via (g' := (mkF m 211 #[.val (.int p0), .val (.int p1), .val (.int p2), .val (.int p3), .val (.int p4), .val (.int p5), .val (.int (Int32.ofNat (ks + 1))), .val (.int (Int32.ofNat kl)), .val (.int (Int32.ofNat (ks + kl))), .val (.int ch), .val (.ref ca), .val (.ref xr), .val (.int b1), .val (.int b2), .val (.ref f1), .val (.int (1 : Int32)), .val (.ref f2), .val (.ref f3), .unset, .unset] [])) (fun _ k => XS.astore X24.here hx rfl (hb hby at_209) rfl rfl (l' := #[.val (.int p0), .val (.int p1), .val (.int p2), .val (.int p3), .val (.int p4), .val (.int p5), .val (.int (Int32.ofNat (ks + 1))), .val (.int (Int32.ofNat kl)), .val (.int (Int32.ofNat (ks + kl))), .val (.int ch), .val (.ref ca), .val (.ref xr), .val (.int b1), .val (.int b2), .val (.ref f1), .val (.int (1 : Int32)), .val (.ref f2), .val (.ref f3), .unset, .unset]) rfl k) ?_
  refine Out.via (g' := (mkF m 213 #[.val (.int p0), .val (.int p1), .val (.int p2), .val (.int p3), .val (.int p4), .val (.int p5), .val (.int (Int32.ofNat (ks + 1))), .val (.int (Int32.ofNat kl)), .val (.int (Int32.ofNat (ks + kl))), .val (.int ch), .val (.ref ca), .val (.ref xr), .val (.int b1), .val (.int b2), .val (.ref f1), .val (.int (1 : Int32)), .val (.ref f2), .val (.ref f3), .unset, .unset] [(.ref f2)])) (fun _ k => XS.aload X24.here hx rfl (hb hby at_211) rfl rfl k) ?_
  refine Out.via (g' := (mkF m 215 #[.val (.int p0), .val (.int p1), .val (.int p2), .val (.int p3), .val (.int p4), .val (.int p5), .val (.int (Int32.ofNat (ks + 1))), .val (.int (Int32.ofNat kl)), .val (.int (Int32.ofNat (ks + kl))), .val (.int ch), .val (.ref ca), .val (.ref xr), .val (.int b1), .val (.int b2), .val (.ref f1), .val (.int (1 : Int32)), .val (.ref f2), .val (.ref f3), .unset, .unset] [(.ref f3), (.ref f2)])) (fun _ k => XS.aload X24.here hx rfl (hb hby at_213) rfl rfl k) ?_
  obtain ⟨cq25, kq25, q25a, q25b, q25c⟩ := isOf hZ rfl E_f2
  obtain ⟨_, _, ⟨T25, L25, kc25, ks25⟩, -, X25, ⟨Lc25, hQ25, l25, y25, z25⟩, st25⟩ := X24.virtualBack hx (y := (⟨"com/example/talao/talao/Field", "through", "(Lcom/example/talao/talao/Field;)Lcom/example/talao/talao/Field;"⟩ : MethodName)) (z := (⟨"com/example/talao/talao/Field", "through", "(Lcom/example/talao/talao/Field;)Lcom/example/talao/talao/Field;"⟩ : MethodName)) hown (mvT hZ (hw _ (List.mem_of_getElem? (i := 98) rfl))) (mvT hZ (hw _ (List.mem_of_getElem? (i := 99) rfl))) (notFace_of_selects (args := #[]) (mvT hZ (hw _ (List.mem_of_getElem? (i := 101) rfl)))) (mvT hZ (hw _ (List.mem_of_getElem? (i := 101) rfl))) (mvT hZ (hw _ (List.mem_of_getElem? (i := 100) rfl))) (by decide) (backOf (W := 0) (own_rmT l Z a0 hw [] f2 f3 (.ref l2) (.ref l3) p0 p1 p2 (nar .boolean b1) (nar .boolean b2) T24.heap n0 O Fn_f2 Fs_f2 Fe_f2 Fz_f2 Fn_f3 Fs_f3 Fe_f3 Fz_f3 rfl) hZ (hw _ (List.mem_of_getElem? (i := 102) rfl)) (hw _ (List.mem_of_getElem? (i := 33) rfl)) (by decide) (by decide)) q25a q25c (g := (mkF m 215 #[.val (.int p0), .val (.int p1), .val (.int p2), .val (.int p3), .val (.int p4), .val (.int p5), .val (.int (Int32.ofNat (ks + 1))), .val (.int (Int32.ofNat kl)), .val (.int (Int32.ofNat (ks + kl))), .val (.int ch), .val (.ref ca), .val (.ref xr), .val (.int b1), .val (.int b2), .val (.ref f1), .val (.int (1 : Int32)), .val (.ref f2), .val (.ref f3), .unset, .unset] [(.ref f3), (.ref f2)])) rfl (by rw [hml]; rfl) (Steps.refl _) (argsL := [(.ref f3)]) (rest := []) (lenOf own_pd21 rfl) rfl (by show 2 * 0 + _ ≤ _; exact Nat.le_of_eq rfl) (hb hby at_215) (fun _ _ => ⟨rfl, rfl, (by decide : 14 + 1 ≤ _), (by decide : 92 + 4 ≤ _)⟩)
  dsimp only [Pt.U, Pt.locs, Pt.cells, Pt.slots] at X25 l25 y25 z25 st25 hQ25
  subst l25 y25 z25
  obtain ⟨fr, rfl, Nq25, Kq25, E_fr, Fs_fr, Fe_fr⟩ := hQ25
  replace N0 := Fr.app N0 Nq25
  replace hk : _ ≤ T25.heap.size := Nat.le_trans hk Kq25.1
  replace Fn_f2 := Fn_f2.keep Kq25 nin0
  replace Fs_f2 := Fs_f2.keep Kq25 nin0
  replace Fe_f2 := Fe_f2.keep Kq25 nin0
  replace Fz_f2 := Fz_f2.keep Kq25 nin0
  replace Fn_f3 := Fn_f3.keep Kq25 nin0
  replace Fs_f3 := Fs_f3.keep Kq25 nin0
  replace Fe_f3 := Fe_f3.keep Kq25 nin0
  replace Fz_f3 := Fz_f3.keep Kq25 nin0
  replace E_f2 := E_f2.keep Kq25
  replace E_f3 := E_f3.keep Kq25
  replace O := O.keep Kq25 all0
  replace Kp := Kp.trans Kq25 all0
  refine Out.to (g' := (mkF m 218 #[.val (.int p0), .val (.int p1), .val (.int p2), .val (.int p3), .val (.int p4), .val (.int p5), .val (.int (Int32.ofNat (ks + 1))), .val (.int (Int32.ofNat kl)), .val (.int (Int32.ofNat (ks + kl))), .val (.int ch), .val (.ref ca), .val (.ref xr), .val (.int b1), .val (.int b2), .val (.ref f1), .val (.int (1 : Int32)), .val (.ref f2), .val (.ref f3), .unset, .unset] [(.ref fr)])) st25 ?_
  refine Out.via (g' := (mkF m 220 #[.val (.int p0), .val (.int p1), .val (.int p2), .val (.int p3), .val (.int p4), .val (.int p5), .val (.int (Int32.ofNat (ks + 1))), .val (.int (Int32.ofNat kl)), .val (.int (Int32.ofNat (ks + kl))), .val (.int ch), .val (.ref ca), .val (.ref xr), .val (.int b1), .val (.int b2), .val (.ref f1), .val (.int (1 : Int32)), .val (.ref f2), .val (.ref f3), .val (.ref fr), .unset] [])) (fun _ k => XS.astore X25.here hx rfl (hb hby at_218) rfl rfl (l' := #[.val (.int p0), .val (.int p1), .val (.int p2), .val (.int p3), .val (.int p4), .val (.int p5), .val (.int (Int32.ofNat (ks + 1))), .val (.int (Int32.ofNat kl)), .val (.int (Int32.ofNat (ks + kl))), .val (.int ch), .val (.ref ca), .val (.ref xr), .val (.int b1), .val (.int b2), .val (.ref f1), .val (.int (1 : Int32)), .val (.ref f2), .val (.ref f3), .val (.ref fr), .unset]) rfl k) ?_
  refine Out.via (g' := (mkF m 222 #[.val (.int p0), .val (.int p1), .val (.int p2), .val (.int p3), .val (.int p4), .val (.int p5), .val (.int (Int32.ofNat (ks + 1))), .val (.int (Int32.ofNat kl)), .val (.int (Int32.ofNat (ks + kl))), .val (.int ch), .val (.ref ca), .val (.ref xr), .val (.int b1), .val (.int b2), .val (.ref f1), .val (.int (1 : Int32)), .val (.ref f2), .val (.ref f3), .val (.ref fr), .unset] [(.ref fr)])) (fun _ k => XS.aload X25.here hx rfl (hb hby at_220) rfl rfl k) ?_
  obtain ⟨cq26, kq26, q26a, q26b, q26c⟩ := isOf hZ rfl E_fr
  obtain ⟨_, _, ⟨T26, L26, kc26, ks26⟩, -, X26, ⟨Lc26, hQ26, l26, y26, z26⟩, st26⟩ := X25.virtualBack hx (y := (⟨"com/example/talao/talao/Field", "width", "()I"⟩ : MethodName)) (z := (⟨"com/example/talao/talao/Field", "width", "()I"⟩ : MethodName)) hown (mvT hZ (hw _ (List.mem_of_getElem? (i := 54) rfl))) (mvT hZ (hw _ (List.mem_of_getElem? (i := 55) rfl))) (notFace_of_selects (args := #[]) (mvT hZ (hw _ (List.mem_of_getElem? (i := 57) rfl)))) (mvT hZ (hw _ (List.mem_of_getElem? (i := 57) rfl))) (mvT hZ (hw _ (List.mem_of_getElem? (i := 56) rfl))) (by decide) (backOf (W := 0) (own_rmW l Z a0 hw [] fr p0 p2 T25.heap n0 O Fs_fr Fe_fr) hZ (hw _ (List.mem_of_getElem? (i := 58) rfl)) (hw _ (List.mem_of_getElem? (i := 33) rfl)) (by decide) (by decide)) q26a q26c (g := (mkF m 222 #[.val (.int p0), .val (.int p1), .val (.int p2), .val (.int p3), .val (.int p4), .val (.int p5), .val (.int (Int32.ofNat (ks + 1))), .val (.int (Int32.ofNat kl)), .val (.int (Int32.ofNat (ks + kl))), .val (.int ch), .val (.ref ca), .val (.ref xr), .val (.int b1), .val (.int b2), .val (.ref f1), .val (.int (1 : Int32)), .val (.ref f2), .val (.ref f3), .val (.ref fr), .unset] [(.ref fr)])) rfl (by rw [hml]; rfl) (Steps.refl _) (argsL := []) (rest := []) (lenOf own_pd9 rfl) rfl (by show 2 * 0 + _ ≤ _; exact Nat.le_of_eq rfl) (hb hby at_222) (fun _ _ => ⟨rfl, rfl, (by decide : 15 + 0 ≤ _), (by decide : 96 + 0 ≤ _)⟩)
  dsimp only [Pt.U, Pt.locs, Pt.cells, Pt.slots] at X26 l26 y26 z26 st26 hQ26
  subst l26 y26 z26
  obtain ⟨rfl, Nq26, eq26⟩ := hQ26
  replace N0 := Fr.app N0 Nq26
  refine Out.to (g' := (mkF m 225 #[.val (.int p0), .val (.int p1), .val (.int p2), .val (.int p3), .val (.int p4), .val (.int p5), .val (.int (Int32.ofNat (ks + 1))), .val (.int (Int32.ofNat kl)), .val (.int (Int32.ofNat (ks + kl))), .val (.int ch), .val (.ref ca), .val (.ref xr), .val (.int b1), .val (.int b2), .val (.ref f1), .val (.int (1 : Int32)), .val (.ref f2), .val (.ref f3), .val (.ref fr), .unset] [(.int ((p2 - p0) + (1 : Int32)))])) st26 ?_
  refine Out.via (g' := (mkF m 227 #[.val (.int p0), .val (.int p1), .val (.int p2), .val (.int p3), .val (.int p4), .val (.int p5), .val (.int (Int32.ofNat (ks + 1))), .val (.int (Int32.ofNat kl)), .val (.int (Int32.ofNat (ks + kl))), .val (.int ch), .val (.ref ca), .val (.ref xr), .val (.int b1), .val (.int b2), .val (.ref f1), .val (.int (1 : Int32)), .val (.ref f2), .val (.ref f3), .val (.ref fr), .unset] [(.ref f2), (.int ((p2 - p0) + (1 : Int32)))])) (fun _ k => XS.aload X26.here hx rfl (hb hby at_225) rfl rfl k) ?_
  obtain ⟨cq27, kq27, q27a, q27b, q27c⟩ := isOf hZ eq26 E_f2
  obtain ⟨_, _, ⟨T27, L27, kc27, ks27⟩, -, X27, ⟨Lc27, hQ27, l27, y27, z27⟩, st27⟩ := X26.virtualBack hx (y := (⟨"com/example/talao/talao/Field", "width", "()I"⟩ : MethodName)) (z := (⟨"com/example/talao/talao/Field", "width", "()I"⟩ : MethodName)) hown (mvT hZ (hw _ (List.mem_of_getElem? (i := 54) rfl))) (mvT hZ (hw _ (List.mem_of_getElem? (i := 55) rfl))) (notFace_of_selects (args := #[]) (mvT hZ (hw _ (List.mem_of_getElem? (i := 57) rfl)))) (mvT hZ (hw _ (List.mem_of_getElem? (i := 57) rfl))) (mvT hZ (hw _ (List.mem_of_getElem? (i := 56) rfl))) (by decide) (backOf (W := 1) (own_rmW l Z a0 hw [] f2 p0 p1 T25.heap n0 O Fs_f2 Fe_f2) hZ (hw _ (List.mem_of_getElem? (i := 58) rfl)) (hw _ (List.mem_of_getElem? (i := 33) rfl)) (by decide) (by decide)) q27a q27c (g := (mkF m 227 #[.val (.int p0), .val (.int p1), .val (.int p2), .val (.int p3), .val (.int p4), .val (.int p5), .val (.int (Int32.ofNat (ks + 1))), .val (.int (Int32.ofNat kl)), .val (.int (Int32.ofNat (ks + kl))), .val (.int ch), .val (.ref ca), .val (.ref xr), .val (.int b1), .val (.int b2), .val (.ref f1), .val (.int (1 : Int32)), .val (.ref f2), .val (.ref f3), .val (.ref fr), .unset] [(.ref f2), (.int ((p2 - p0) + (1 : Int32)))])) rfl (by rw [hml]; rfl) (Steps.refl _) (argsL := []) (rest := [(.int ((p2 - p0) + (1 : Int32)))]) (lenOf own_pd9 rfl) rfl (by show 2 * 0 + _ ≤ _; exact Nat.le_of_eq rfl) (hb hby at_227) (fun _ _ => ⟨rfl, eq26, (by decide : 15 + 0 ≤ _), (by decide : 96 + 0 ≤ _)⟩)
  dsimp only [Pt.U, Pt.locs, Pt.cells, Pt.slots] at X27 l27 y27 z27 st27 hQ27
  subst l27 y27 z27
  obtain ⟨rfl, Nq27, eq27⟩ := hQ27
  replace N0 := Fr.app N0 Nq27
  refine Out.to (g' := (mkF m 230 #[.val (.int p0), .val (.int p1), .val (.int p2), .val (.int p3), .val (.int p4), .val (.int p5), .val (.int (Int32.ofNat (ks + 1))), .val (.int (Int32.ofNat kl)), .val (.int (Int32.ofNat (ks + kl))), .val (.int ch), .val (.ref ca), .val (.ref xr), .val (.int b1), .val (.int b2), .val (.ref f1), .val (.int (1 : Int32)), .val (.ref f2), .val (.ref f3), .val (.ref fr), .unset] [(.int ((p1 - p0) + (1 : Int32))), (.int ((p2 - p0) + (1 : Int32)))])) st27 ?_
  refine Out.via (g' := (mkF m 232 #[.val (.int p0), .val (.int p1), .val (.int p2), .val (.int p3), .val (.int p4), .val (.int p5), .val (.int (Int32.ofNat (ks + 1))), .val (.int (Int32.ofNat kl)), .val (.int (Int32.ofNat (ks + kl))), .val (.int ch), .val (.ref ca), .val (.ref xr), .val (.int b1), .val (.int b2), .val (.ref f1), .val (.int (1 : Int32)), .val (.ref f2), .val (.ref f3), .val (.ref fr), .unset] [(.ref f3), (.int ((p1 - p0) + (1 : Int32))), (.int ((p2 - p0) + (1 : Int32)))])) (fun _ k => XS.aload X27.here hx rfl (hb hby at_230) rfl rfl k) ?_
  obtain ⟨cq28, kq28, q28a, q28b, q28c⟩ := isOf hZ eq27 E_f3
  obtain ⟨_, _, ⟨T28, L28, kc28, ks28⟩, -, X28, ⟨Lc28, hQ28, l28, y28, z28⟩, st28⟩ := X27.virtualBack hx (y := (⟨"com/example/talao/talao/Field", "width", "()I"⟩ : MethodName)) (z := (⟨"com/example/talao/talao/Field", "width", "()I"⟩ : MethodName)) hown (mvT hZ (hw _ (List.mem_of_getElem? (i := 54) rfl))) (mvT hZ (hw _ (List.mem_of_getElem? (i := 55) rfl))) (notFace_of_selects (args := #[]) (mvT hZ (hw _ (List.mem_of_getElem? (i := 57) rfl)))) (mvT hZ (hw _ (List.mem_of_getElem? (i := 57) rfl))) (mvT hZ (hw _ (List.mem_of_getElem? (i := 56) rfl))) (by decide) (backOf (W := 2) (own_rmW l Z a0 hw [] f3 (p1 + (1 : Int32)) p2 T25.heap n0 O Fs_f3 Fe_f3) hZ (hw _ (List.mem_of_getElem? (i := 58) rfl)) (hw _ (List.mem_of_getElem? (i := 33) rfl)) (by decide) (by decide)) q28a q28c (g := (mkF m 232 #[.val (.int p0), .val (.int p1), .val (.int p2), .val (.int p3), .val (.int p4), .val (.int p5), .val (.int (Int32.ofNat (ks + 1))), .val (.int (Int32.ofNat kl)), .val (.int (Int32.ofNat (ks + kl))), .val (.int ch), .val (.ref ca), .val (.ref xr), .val (.int b1), .val (.int b2), .val (.ref f1), .val (.int (1 : Int32)), .val (.ref f2), .val (.ref f3), .val (.ref fr), .unset] [(.ref f3), (.int ((p1 - p0) + (1 : Int32))), (.int ((p2 - p0) + (1 : Int32)))])) rfl (by rw [hml]; rfl) (Steps.refl _) (argsL := []) (rest := [(.int ((p1 - p0) + (1 : Int32))), (.int ((p2 - p0) + (1 : Int32)))]) (lenOf own_pd9 rfl) rfl (by show 2 * 0 + _ ≤ _; exact Nat.le_of_eq rfl) (hb hby at_232) (fun _ _ => ⟨rfl, eq27, (by decide : 15 + 0 ≤ _), (by decide : 96 + 0 ≤ _)⟩)
  dsimp only [Pt.U, Pt.locs, Pt.cells, Pt.slots] at X28 l28 y28 z28 st28 hQ28
  subst l28 y28 z28
  obtain ⟨rfl, Nq28, eq28⟩ := hQ28
  replace N0 := Fr.app N0 Nq28
  refine Out.to (g' := (mkF m 235 #[.val (.int p0), .val (.int p1), .val (.int p2), .val (.int p3), .val (.int p4), .val (.int p5), .val (.int (Int32.ofNat (ks + 1))), .val (.int (Int32.ofNat kl)), .val (.int (Int32.ofNat (ks + kl))), .val (.int ch), .val (.ref ca), .val (.ref xr), .val (.int b1), .val (.int b2), .val (.ref f1), .val (.int (1 : Int32)), .val (.ref f2), .val (.ref f3), .val (.ref fr), .unset] [(.int ((p2 - (p1 + (1 : Int32))) + (1 : Int32))), (.int ((p1 - p0) + (1 : Int32))), (.int ((p2 - p0) + (1 : Int32)))])) st28 ?_
  refine Out.via (g' := (mkF m 236 #[.val (.int p0), .val (.int p1), .val (.int p2), .val (.int p3), .val (.int p4), .val (.int p5), .val (.int (Int32.ofNat (ks + 1))), .val (.int (Int32.ofNat kl)), .val (.int (Int32.ofNat (ks + kl))), .val (.int ch), .val (.ref ca), .val (.ref xr), .val (.int b1), .val (.int b2), .val (.ref f1), .val (.int (1 : Int32)), .val (.ref f2), .val (.ref f3), .val (.ref fr), .unset] [(.int (((p1 - p0) + (1 : Int32)) + ((p2 - (p1 + (1 : Int32))) + (1 : Int32)))), (.int ((p2 - p0) + (1 : Int32)))])) (fun _ k => XS.iadd X28.here hx rfl (hb hby at_235) rfl k) ?_
  refine Out.via (g' := (mkF m 239 #[.val (.int p0), .val (.int p1), .val (.int p2), .val (.int p3), .val (.int p4), .val (.int p5), .val (.int (Int32.ofNat (ks + 1))), .val (.int (Int32.ofNat kl)), .val (.int (Int32.ofNat (ks + kl))), .val (.int ch), .val (.ref ca), .val (.ref xr), .val (.int b1), .val (.int b2), .val (.ref f1), .val (.int (1 : Int32)), .val (.ref f2), .val (.ref f3), .val (.ref fr), .unset] [])) (fun _ k => XS.icmpNo X28.here hx rfl (hb hby at_236) rfl (teq (own_add p0 p1 p2)).2 k) ?_
  refine Out.via (g' := (mkF m 240 #[.val (.int p0), .val (.int p1), .val (.int p2), .val (.int p3), .val (.int p4), .val (.int p5), .val (.int (Int32.ofNat (ks + 1))), .val (.int (Int32.ofNat kl)), .val (.int (Int32.ofNat (ks + kl))), .val (.int ch), .val (.ref ca), .val (.ref xr), .val (.int b1), .val (.int b2), .val (.ref f1), .val (.int (1 : Int32)), .val (.ref f2), .val (.ref f3), .val (.ref fr), .unset] [(.int (1 : Int32))])) (fun _ k => XS.iconst X28.here hx rfl (hb hby at_239) k) ?_
  refine Out.via (g' := (mkF m 244 #[.val (.int p0), .val (.int p1), .val (.int p2), .val (.int p3), .val (.int p4), .val (.int p5), .val (.int (Int32.ofNat (ks + 1))), .val (.int (Int32.ofNat kl)), .val (.int (Int32.ofNat (ks + kl))), .val (.int ch), .val (.ref ca), .val (.ref xr), .val (.int b1), .val (.int b2), .val (.ref f1), .val (.int (1 : Int32)), .val (.ref f2), .val (.ref f3), .val (.ref fr), .unset] [(.int (1 : Int32))])) (fun _ k => XS.goto X28.here hx rfl (pc0 := 240) (pc' := 244) rfl (hb hby at_240) (by decide) (by decide) k) ?_
  refine Out.via (g' := (mkF m 246 #[.val (.int p0), .val (.int p1), .val (.int p2), .val (.int p3), .val (.int p4), .val (.int p5), .val (.int (Int32.ofNat (ks + 1))), .val (.int (Int32.ofNat kl)), .val (.int (Int32.ofNat (ks + kl))), .val (.int ch), .val (.ref ca), .val (.ref xr), .val (.int b1), .val (.int b2), .val (.ref f1), .val (.int (1 : Int32)), .val (.ref f2), .val (.ref f3), .val (.ref fr), .val (.int (1 : Int32))] [])) (fun _ k => XS.istore X28.here hx rfl (hb hby at_244) rfl (l' := #[.val (.int p0), .val (.int p1), .val (.int p2), .val (.int p3), .val (.int p4), .val (.int p5), .val (.int (Int32.ofNat (ks + 1))), .val (.int (Int32.ofNat kl)), .val (.int (Int32.ofNat (ks + kl))), .val (.int ch), .val (.ref ca), .val (.ref xr), .val (.int b1), .val (.int b2), .val (.ref f1), .val (.int (1 : Int32)), .val (.ref f2), .val (.ref f3), .val (.ref fr), .val (.int (1 : Int32))]) rfl k) ?_
  refine Out.via (g' := (mkF m 248 #[.val (.int p0), .val (.int p1), .val (.int p2), .val (.int p3), .val (.int p4), .val (.int p5), .val (.int (Int32.ofNat (ks + 1))), .val (.int (Int32.ofNat kl)), .val (.int (Int32.ofNat (ks + kl))), .val (.int ch), .val (.ref ca), .val (.ref xr), .val (.int b1), .val (.int b2), .val (.ref f1), .val (.int (1 : Int32)), .val (.ref f2), .val (.ref f3), .val (.ref fr), .val (.int (1 : Int32))] [(.int (1 : Int32))])) (fun _ k => XS.iload X28.here hx rfl (hb hby at_246) rfl k) ?_
  refine Out.via (g' := (mkF m 251 #[.val (.int p0), .val (.int p1), .val (.int p2), .val (.int p3), .val (.int p4), .val (.int p5), .val (.int (Int32.ofNat (ks + 1))), .val (.int (Int32.ofNat kl)), .val (.int (Int32.ofNat (ks + kl))), .val (.int ch), .val (.ref ca), .val (.ref xr), .val (.int b1), .val (.int b2), .val (.ref f1), .val (.int (1 : Int32)), .val (.ref f2), .val (.ref f3), .val (.ref fr), .val (.int (1 : Int32))] [])) (fun _ k => XS.ifNo X28.here hx rfl (hb hby at_248) rfl ((if0 _ _).trans (feq (by decide)).1) k) ?_
  refine Out.via (g' := (mkF m 253 #[.val (.int p0), .val (.int p1), .val (.int p2), .val (.int p3), .val (.int p4), .val (.int p5), .val (.int (Int32.ofNat (ks + 1))), .val (.int (Int32.ofNat kl)), .val (.int (Int32.ofNat (ks + kl))), .val (.int ch), .val (.ref ca), .val (.ref xr), .val (.int b1), .val (.int b2), .val (.ref f1), .val (.int (1 : Int32)), .val (.ref f2), .val (.ref f3), .val (.ref fr), .val (.int (1 : Int32))] [(.int (1 : Int32))])) (fun _ k => XS.iload X28.here hx rfl (hb hby at_251) rfl k) ?_
  refine Out.via (g' := (mkF m 256 #[.val (.int p0), .val (.int p1), .val (.int p2), .val (.int p3), .val (.int p4), .val (.int p5), .val (.int (Int32.ofNat (ks + 1))), .val (.int (Int32.ofNat kl)), .val (.int (Int32.ofNat (ks + kl))), .val (.int ch), .val (.ref ca), .val (.ref xr), .val (.int b1), .val (.int b2), .val (.ref f1), .val (.int (1 : Int32)), .val (.ref f2), .val (.ref f3), .val (.ref fr), .val (.int (1 : Int32))] [])) (fun _ k => XS.ifNo X28.here hx rfl (hb hby at_253) rfl ((if0 _ _).trans (feq (by decide)).1) k) ?_
  refine Out.via (g' := (mkF m 257 #[.val (.int p0), .val (.int p1), .val (.int p2), .val (.int p3), .val (.int p4), .val (.int p5), .val (.int (Int32.ofNat (ks + 1))), .val (.int (Int32.ofNat kl)), .val (.int (Int32.ofNat (ks + kl))), .val (.int ch), .val (.ref ca), .val (.ref xr), .val (.int b1), .val (.int b2), .val (.ref f1), .val (.int (1 : Int32)), .val (.ref f2), .val (.ref f3), .val (.ref fr), .val (.int (1 : Int32))] [(.int (1 : Int32))])) (fun _ k => XS.iconst X28.here hx rfl (hb hby at_256) k) ?_
  refine Out.via (g' := (mkF m 261 #[.val (.int p0), .val (.int p1), .val (.int p2), .val (.int p3), .val (.int p4), .val (.int p5), .val (.int (Int32.ofNat (ks + 1))), .val (.int (Int32.ofNat kl)), .val (.int (Int32.ofNat (ks + kl))), .val (.int ch), .val (.ref ca), .val (.ref xr), .val (.int b1), .val (.int b2), .val (.ref f1), .val (.int (1 : Int32)), .val (.ref f2), .val (.ref f3), .val (.ref fr), .val (.int (1 : Int32))] [(.int (1 : Int32))])) (fun _ k => XS.goto X28.here hx rfl (pc0 := 257) (pc' := 261) rfl (hb hby at_257) (by decide) (by decide) k) ?_
  exact Out.endW X28 hS (by rw [eq28]; exact hk) (fun h => by rw [Bd.returns] at h; cases h) Bd.notSynchronized (by decide) (by decide) (⟨rfl, N0⟩) (fun fs hr => Jvm.RoadKit.retN X28 hx (t := .boolean) Bd.returns (by simp) (hb hby at_261) hr)
theorem own_eqI {args : Array Value} {s : State} {t : Term} {n : Int32} (h : (Jvm.Cond.eq t (.int n)).value args s none s [] = some true) : t.eval args s none [] s = some (.int n) := by
  obtain ⟨x, y, h1, h2, hk, hk'⟩ := cmp_v (Or.inl h)
  obtain rfl : y = .int n := (Option.some.inj ((Term.int_eval n).symm.trans h2)).symm
  obtain ⟨z, rfl⟩ : ∃ z, x = .int z := hk'
  rw [h1, gotT (Cond.eq_ints h1 h2) h]
theorem own_eqR {args : Array Value} {s : State} {t u : Term} {a : Addr} (h : (Jvm.Cond.eq t u).value args s none s [] = some true) (hu : u.eval args s none [] s = some (.ref a)) : t.eval args s none [] s = some (.ref a) := by
  obtain ⟨x, y, h1, h2, hk, hk'⟩ := cmp_v (Or.inl h)
  obtain rfl : y = .ref a := (Option.some.inj (hu.symm.trans h2)).symm
  rw [h1, gotT (eq_R h1 h2 hk'.2 hk'.1) h]
theorem own_len {args : Array Value} {s : State} {t : Term} {n : Int32} {a : Addr} {cl : Cell} {ty : FieldType} (h : (Term.length t).eval args s none [] s = some (.int n)) (ht : t.eval args s none [] s = some (.ref a)) (A : Arr s s.heap a cl ty) : cl.slots.size < 2 ^ 31 ∧ cl.slots.size.toInt32 = n := by
  obtain ⟨b, cell, e1, e2, e3, e4⟩ := Jvm.Lib.length_spec h
  cases ht.symm.trans e1
  cases A.1.symm.trans (State.arrayAt?_spec e2).1
  exact ⟨e3, (Value.int.inj e4).symm⟩
set_option maxRecDepth 65536 in
set_option maxHeartbeats 40000000 in
theorem comes_1 {Post : Tables → Env → Array Value → State → Outcome → State → Prop} (hpost : ∀ tb e args s v u, (limb_1_1.after args s (.returned v) u = true ∧ limb_1_2.after args s (.returned v) u = true ∧ True) → ReturnedEndW s (.returned v) u (Jvm.fieldLocs frame_1_writes args s ++ Jvm.arrayLocs frame_1_arrays args s ++ Jvm.staticLocs frame_1_statics s) 32 2240 → Post tb e args s (.returned v) u) :
    ArmFor flags0 classFile x code maxLocals ret World_1 tables_1 room_1 Calls_1 rest_1 Pre_1 Post := by
  intro l hfl _ _ p e ha hc hk s m args below hf hA hF happ hP
  obtain ⟨hcalls, hrest, hpre⟩ := hP
  obtain ⟨-, -, -, hnamed, -, -, -, hat⟩ := (Spec.applies_iff hf).mp happ
  obtain ⟨hg, hn⟩ := and_e (Cond.before_iff.mp (show (Jvm.Cond.and given_1 narrow_1).before args s = true from hpre))
  obtain ⟨hcnt, hg⟩ := and_e hg
  obtain ⟨g0, hg⟩ := and_e hg
  obtain ⟨g1, hg⟩ := and_e hg
  obtain ⟨g2, hg⟩ := and_e hg
  obtain ⟨g3, hg⟩ := and_e hg
  obtain ⟨g4, hg⟩ := and_e hg
  have g5 := hg
  obtain ⟨w0, w1, w2, w3, w4, w5, rfl⟩ : ∃ w0 w1 w2 w3 w4 w5 : Value, args = #[w0, w1, w2, w3, w4, w5] := by
    have hs : args.size = 6 := by simpa [Cond.value, given_1] using hcnt
    obtain ⟨L⟩ := args
    match L, hs with
    | [w0, w1, w2, w3, w4, w5], _ => exact ⟨w0, w1, w2, w3, w4, w5, rfl⟩
  have hw := fun d (hd : d ∈ tables_1) => atoms_spec (ws := Jvm.Cond.code x code maxLocals ret :: tables_1) hat d (List.mem_cons_of_mem _ hd)
  obtain ⟨hsets, hown0⟩ := atoms_of _ (rest_1_c_eq ▸ (show rest_1_c.before _ s = true from hrest))
  have hfit : Fit s := fun {y c} hc i hi => by
    obtain ⟨ha, rfl⟩ := Array.getElem?_eq_some_iff.mp hc
    have q := List.all_eq_true.mp ((Array.all_eq_true_iff_forall_mem.mp hF) _ (Array.getElem_mem ha)) i (List.mem_range.mpr hi)
    simpa [Array.getElem?_eq_getElem hi] using q
  obtain ⟨i0, ei0⟩ := is_v g0
  obtain rfl : w0 = (.int i0) := Option.some.inj ei0
  obtain ⟨i1, ei1⟩ := is_v g1
  obtain rfl : w1 = (.int i1) := Option.some.inj ei1
  obtain ⟨i2, ei2⟩ := is_v g2
  obtain rfl : w2 = (.int i2) := Option.some.inj ei2
  obtain ⟨i3, ei3⟩ := is_v g3
  obtain rfl : w3 = (.int i3) := Option.some.inj ei3
  obtain ⟨i4, ei4⟩ := is_v g4
  obtain rfl : w4 = (.int i4) := Option.some.inj ei4
  obtain ⟨i5, ei5⟩ := is_v g5
  obtain rfl : w5 = (.int i5) := Option.some.inj ei5
  have n5 := not_v (Cond.before_iff.mp (hsets _ (List.mem_of_getElem? (i := 2) rfl)))
  obtain ⟨i11, e10⟩ := is_v (Cond.before_iff.mp (hsets _ (List.mem_of_getElem? (i := 1) rfl)))
  have S12 : Sta s s.heap "java/lang/String" "COMPACT_STRINGS" "Z" (.int i11) := Sta.start e10 (Or.inl (hsets _ (List.mem_of_getElem? (i := 0) rfl)))
  have c17 : ¬ (i11 = (0 : Int32)) := gotF (Cond.eq_ints e10 (Term.int_eval (0))) n5
  have hcw := hsets _ (List.mem_of_getElem? (i := 2) rfl)
  obtain ⟨v13, e14, r15⟩ := isR_v (Cond.before_iff.mp (hsets _ (List.mem_of_getElem? (i := 8) rfl)))
  have S16 : Sta s s.heap "jdk/internal/util/Preconditions" "SIOOBE_FORMATTER" "Ljava/util/function/BiFunction;" v13 := Sta.start e14 (Or.inl (hsets _ (List.mem_of_getElem? (i := 7) rfl)))
  have hCH : CHv s own_EL s.vm s.heap := CHv.start (own_hEL hw) (fun q hq => hcalls.1 q hq) hcw (hw _ (List.mem_of_getElem? (i := 20) rfl)) (hw _ (List.mem_of_getElem? (i := 3) rfl))
  obtain ⟨n, o, h1, h2, h3, _, L, rfl, ⟨rfl, N⟩, hq⟩ := own_rm0 l s _ hw tables_1 i0 i1 i2 i3 i4 i5 i11 v13 s.heap s.heap.size (Old.start s) S12 c17 S16 r15 p e ha hc hk s m _ below hf ((Spec.applies_iff_loose hf).mp happ).1 ⟨rfl, State.Warmed39.refl s, rfl, hCH⟩ trivial
  refine ⟨n, _, h1, h2, h3, hpost _ _ _ _ _ _ ⟨Cond.after_iff.mpr rfl, Cond.after_iff.mpr (eq_i res_at (Term.int_eval (1)) rfl), trivial⟩ ⟨hq.1, hq.2.1, hq.2.2.1, (hq.2.2.2.sift fun y hy => Or.inr (N y hy)).mono (by decide) (by decide)⟩⟩
theorem main_1_1 : Claimed_1_1 := comes_1 fun _ _ _ _ _ _ h hF => ⟨h.1, hF⟩
theorem main_1_2 : Claimed_1_2 := comes_1 fun _ _ _ _ _ _ h hF => ⟨h.2.1, hF⟩
end Jvm.Pilot.@@N@@
namespace Jvm.Pilot.@@N@@
open Jvm Jvm.ClassFile Sem Op Lib Jvm.Free Jvm.Stand Jvm.Pilot.@@N@@.Jvm.D
/-! MADE BY PROGRAM (witnessworld.py) out of the Statement's table words and the real class files: 24 classes; the members and pool entries that the words name. The judged class is class 1, her method 1. -/
namespace start1
open Jvm.ClassFile
def u (s : String) : CpInfo := .utf8 (stringToUtf16 s)
/-- a pool by its gaps: so many unusable entries, then the entry; so many at the end -/
def gap : Nat → List CpInfo → List CpInfo
  | 0, r => r
  | n + 1, r => .unusable :: gap n r
def poolList (es : List (Nat × CpInfo)) (last : Nat) : List CpInfo := es.foldr (fun e r => gap e.1 (e.2 :: r)) (gap last [])
def pool (es : List (Nat × CpInfo)) (last : Nat) : Array CpInfo := ⟨poolList es last⟩
def fileOf (pool : Array CpInfo) (this : Nat) (attrs : Array Attribute := #[]) (ms : Array MethodInfo := #[]) (fl : Nat := 33) (sup : Nat := 0) (ifs : Array Nat := #[]) (fds : Array FieldInfo := #[]) : ClassFile where
  minorVersion := 0
  majorVersion := 65
  constantPool := pool
  accessFlags := fl
  thisClass := this
  superClass := sup
  interfaces := ifs
  fields := fds
  methods := ms
  attributes := attrs
def plain (name : String) (sup : Option ClassId) : Class where
  name := name
  kind := .ordinary
  loader := none
  accessFlags := 33
  super := sup
  interfaces := #[]
  cf := none
  fields := #[]
  methods := #[]
  instanceTypes := #[]
  staticTypes := #[]
  resolved := #[]
  callSites := []
  init := .initialized
  statics := none
  mirror := none

def pool0 : Array CpInfo := pool [(5, u "<init>"), (0, u "()V"), (1, .class_ 10), (1, u "java/lang/Object")] 113

def k0c0 : Code := { maxStack := 0, maxLocals := 1, code := object_method_1_code, exceptionTable := #[], attributes := #[] }
def k0m0 : Method := { name := "<init>", desc := "()V", sig := { parameters := [], returnType := none }, accessFlags := 1, code := some k0c0 }
/-- java/lang/Object -/
def k0 : Class := { plain "java/lang/Object" none with
  accessFlags := 33
  interfaces := #[]
  cf := some (fileOf pool0 8 #[] #[{ accessFlags := 1, nameIndex := 5, descriptorIndex := 6, attributes := #[] }] 33 0 #[] #[])
  fields := #[]
  methods := #[k0m0]
  instanceTypes := #[]
  staticTypes := #[]
  resolved := Array.replicate 124 none
  statics := none }

def pool1 : Array CpInfo := pool [(2, .class_ 4), (1, u "java/lang/Object"), (0, u "<init>"), (0, u "()V"), (0, .integer 2147483647), (0, .class_ 9), (0, u "java/lang/String"), (0, .methodref 8 11), (0, .nameAndType 5 12), (0, u "([C)V"), (0, .class_ 14), (0, u "com/example/talao/talao/Field"), (0, .string 16), (0, u "a.b"), (0, .methodref 13 18), (0, .nameAndType 5 19), (0, u "(Ljava/lang/String;IIZ)V"), (0, .methodref 13 21), (0, .nameAndType 22 23), (0, u "width"), (0, u "()I"), (0, .methodref 13 25), (0, .nameAndType 26 27), (0, u "in"), (0, u "(Ljava/lang/String;)Ljava/lang/String;"), (0, .methodref 8 29), (0, .nameAndType 30 23), (0, u "length"), (0, .methodref 13 32), (0, .nameAndType 33 34), (0, u "through"), (0, u "(Lcom/example/talao/talao/Field;)Lcom/example/talao/talao/Field;"), (0, .class_ 36), (0, u "com/example/talao/talao/FieldWidthPinLaw"), (2, u "law"), (0, u "(IIIIII)Z")] 5

def k1m0 : Method := { name := "<init>", desc := "()V", sig := { parameters := [], returnType := none }, accessFlags := 1, code := none }
def k1c1 : Code := { maxStack := 6, maxLocals := 20, code := code, exceptionTable := #[], attributes := #[] }
def k1m1 : Method := { name := "law", desc := "(IIIIII)Z", sig := { parameters := [.int, .int, .int, .int, .int, .int], returnType := some .boolean }, accessFlags := 9, code := some k1c1 }
/-- com/example/talao/talao/FieldWidthPinLaw -/
def k1 : Class := { plain "com/example/talao/talao/FieldWidthPinLaw" (some 0) with
  accessFlags := 49
  interfaces := #[]
  cf := some (fileOf pool1 35 #[] #[{ accessFlags := 1, nameIndex := 5, descriptorIndex := 6, attributes := #[] }, { accessFlags := 9, nameIndex := 39, descriptorIndex := 40, attributes := #[] }] 49 2 #[] #[])
  fields := #[]
  methods := #[k1m0, k1m1]
  instanceTypes := #[]
  staticTypes := #[]
  resolved := Array.replicate 46 none
  statics := none }

def pool2 : Array CpInfo := pool [(1, .class_ 2), (0, u "java/io/Serializable"), (0, .class_ 4), (0, u "java/lang/Object")] 2

/-- java/io/Serializable -/
def k2 : Class := { plain "java/io/Serializable" (some 0) with
  accessFlags := 1537
  interfaces := #[]
  cf := some (fileOf pool2 1 #[] #[] 1537 3 #[] #[])
  fields := #[]
  methods := #[]
  instanceTypes := #[]
  staticTypes := #[]
  resolved := Array.replicate 7 none
  statics := none }

def pool3 : Array CpInfo := pool [(1, .class_ 2), (0, u "java/lang/Comparable"), (0, .class_ 4), (0, u "java/lang/Object")] 7

/-- java/lang/Comparable -/
def k3 : Class := { plain "java/lang/Comparable" (some 0) with
  accessFlags := 1537
  interfaces := #[]
  cf := some (fileOf pool3 1 #[] #[] 1537 3 #[] #[])
  fields := #[]
  methods := #[]
  instanceTypes := #[]
  staticTypes := #[]
  resolved := Array.replicate 12 none
  statics := none }

def pool4 : Array CpInfo := pool [(2, .class_ 4), (1, u "java/lang/CharSequence"), (42, .class_ 48), (0, u "java/lang/CharSequence$1CodePointIterator"), (10, .class_ 60), (0, u "java/lang/CharSequence$1CharIterator"), (5, .class_ 67), (0, u "java/lang/Object")] 63

/-- java/lang/CharSequence -/
def k4 : Class := { plain "java/lang/CharSequence" (some 0) with
  accessFlags := 1537
  interfaces := #[]
  cf := some (fileOf pool4 2 #[.nestMembers #[47, 59]] #[] 1537 66 #[] #[])
  fields := #[]
  methods := #[]
  instanceTypes := #[]
  staticTypes := #[]
  resolved := Array.replicate 131 none
  statics := none }

def pool5 : Array CpInfo := pool [(1, .class_ 2), (0, u "java/lang/constant/Constable"), (0, .class_ 4), (0, u "java/lang/Object")] 6

/-- java/lang/constant/Constable -/
def k5 : Class := { plain "java/lang/constant/Constable" (some 0) with
  accessFlags := 1537
  interfaces := #[]
  cf := some (fileOf pool5 1 #[] #[] 1537 3 #[] #[])
  fields := #[]
  methods := #[]
  instanceTypes := #[]
  staticTypes := #[]
  resolved := Array.replicate 11 none
  statics := none }

def pool6 : Array CpInfo := pool [(1, .class_ 2), (0, u "java/lang/constant/ConstantDesc"), (0, .class_ 4), (0, u "java/lang/Object")] 32

/-- java/lang/constant/ConstantDesc -/
def k6 : Class := { plain "java/lang/constant/ConstantDesc" (some 0) with
  accessFlags := 1537
  interfaces := #[]
  cf := some (fileOf pool6 1 #[] #[] 1537 3 #[] #[])
  fields := #[]
  methods := #[]
  instanceTypes := #[]
  staticTypes := #[]
  resolved := Array.replicate 37 none
  statics := none }

def pool7 : Array CpInfo := pool [(1, .methodref 2 3), (0, .class_ 4), (0, .nameAndType 5 6), (0, u "java/lang/Object"), (0, u "<init>"), (0, u "()V"), (2, .fieldref 10 11), (0, .class_ 12), (0, .nameAndType 13 14), (0, u "java/lang/String"), (0, u "value"), (0, u "[B"), (0, .fieldref 10 16), (0, .nameAndType 17 18), (0, u "coder"), (0, u "B"), (2, u "hash"), (0, u "I"), (2, u "hashIsZero"), (0, u "Z"), (0, .methodref 10 28), (0, .nameAndType 5 29), (0, u "([CIILjava/lang/Void;)V"), (8, .fieldref 10 39), (0, .nameAndType 40 26), (0, u "COMPACT_STRINGS"), (1, .class_ 44), (1, u "java/lang/StringUTF16"), (0, u "compress"), (1, .methodref 42 48), (0, .nameAndType 49 50), (0, u "coderFromArrayLen"), (0, u "([BI)B"), (56, .class_ 109), (1, u "java/lang/StringLatin1"), (32, u "()Z"), (34, .methodref 42 178), (0, .nameAndType 45 179), (0, u "([CII)[B"), (31, u "([BB)V"), (122, u "()I"), (0, .methodref 10 336), (0, .nameAndType 17 337), (0, u "()B"), (154, .methodref 10 493), (0, .nameAndType 494 142), (0, u "isLatin1"), (10, .methodref 10 506), (0, .nameAndType 507 334), (0, u "length"), (5, u "checkFromToIndex"), (7, .methodref 10 522), (0, .nameAndType 523 524), (0, u "checkBoundsBeginEnd"), (0, u "(III)V"), (50, .class_ 576), (0, u "java/lang/CharSequence"), (22, u "CASE_INSENSITIVE_ORDER"), (0, u "Ljava/util/Comparator;"), (82, u "substring"), (0, u "(II)Ljava/lang/String;"), (0, .methodref 107 686), (0, .nameAndType 687 688), (0, u "newString"), (0, u "([BII)Ljava/lang/String;"), (321, u "([C)V"), (42, .fieldref 1054 1055), (0, .class_ 1056), (0, .nameAndType 1057 1058), (0, u "jdk/internal/util/Preconditions"), (0, u "SIOOBE_FORMATTER"), (0, u "Ljava/util/function/BiFunction;"), (3, .methodref 1054 1063), (0, .nameAndType 513 1064), (0, u "(IIILjava/util/function/BiFunction;)I"), (36, u "serialPersistentFields"), (0, u "[Ljava/io/ObjectStreamField;"), (0, .class_ 1104), (0, u "java/lang/String$CaseInsensitiveComparator"), (1, .class_ 1107), (0, u "java/io/Serializable"), (0, .class_ 1109), (0, u "java/lang/Comparable"), (0, .class_ 1111), (0, u "java/lang/constant/Constable"), (0, .class_ 1113), (0, u "java/lang/constant/ConstantDesc"), (2, u "serialVersionUID"), (0, u "J"), (3, u "REPL"), (0, u "C"), (2, u "LATIN1"), (1, u "UTF16")] 323

def k7m0 : Method := { name := "<init>", desc := "()V", sig := { parameters := [], returnType := none }, accessFlags := 1, code := none }
def k7c1 : Code := { maxStack := 5, maxLocals := 2, code := jdk_42_method_3_code, exceptionTable := #[], attributes := #[] }
def k7m1 : Method := { name := "<init>", desc := "([C)V", sig := { parameters := [(.array .char)], returnType := none }, accessFlags := 1, code := some k7c1 }
def k7c2 : Code := { maxStack := 2, maxLocals := 1, code := jdk_42_method_54_code, exceptionTable := #[], attributes := #[] }
def k7m2 : Method := { name := "length", desc := "()I", sig := { parameters := [], returnType := some .int }, accessFlags := 1, code := some k7c2 }
def k7c3 : Code := { maxStack := 3, maxLocals := 5, code := jdk_42_method_92_code, exceptionTable := #[], attributes := #[] }
def k7m3 : Method := { name := "substring", desc := "(II)Ljava/lang/String;", sig := { parameters := [.int, .int], returnType := some (.object "java/lang/String") }, accessFlags := 1, code := some k7c3 }
def k7c4 : Code := { maxStack := 4, maxLocals := 6, code := jdk_42_method_149_code, exceptionTable := #[], attributes := #[] }
def k7m4 : Method := { name := "<init>", desc := "([CIILjava/lang/Void;)V", sig := { parameters := [(.array .char), .int, .int, (.object "java/lang/Void")], returnType := none }, accessFlags := 2, code := some k7c4 }
def k7c5 : Code := { maxStack := 2, maxLocals := 3, code := jdk_42_method_151_code, exceptionTable := #[], attributes := #[] }
def k7m5 : Method := { name := "<init>", desc := "([BB)V", sig := { parameters := [(.array .byte), .byte], returnType := none }, accessFlags := 0, code := some k7c5 }
def k7c6 : Code := { maxStack := 1, maxLocals := 1, code := jdk_42_method_152_code, exceptionTable := #[], attributes := #[] }
def k7m6 : Method := { name := "coder", desc := "()B", sig := { parameters := [], returnType := some .byte }, accessFlags := 0, code := some k7c6 }
def k7c7 : Code := { maxStack := 1, maxLocals := 1, code := jdk_42_method_154_code, exceptionTable := #[], attributes := #[] }
def k7m7 : Method := { name := "isLatin1", desc := "()Z", sig := { parameters := [], returnType := some .boolean }, accessFlags := 0, code := some k7c7 }
def k7c8 : Code := { maxStack := 4, maxLocals := 3, code := jdk_42_method_158_code, exceptionTable := #[], attributes := #[] }
def k7m8 : Method := { name := "checkBoundsBeginEnd", desc := "(III)V", sig := { parameters := [.int, .int, .int], returnType := none }, accessFlags := 8, code := some k7c8 }
/-- java/lang/String -/
def k7 : Class := { plain "java/lang/String" (some 0) with
  accessFlags := 49
  interfaces := #[2, 3, 4, 5, 6]
  cf := some (fileOf pool7 10 #[.nestMembers #[1103]] #[{ accessFlags := 1, nameIndex := 5, descriptorIndex := 6, attributes := #[] }, { accessFlags := 1, nameIndex := 5, descriptorIndex := 1010, attributes := #[] }, { accessFlags := 1, nameIndex := 507, descriptorIndex := 334, attributes := #[] }, { accessFlags := 1, nameIndex := 683, descriptorIndex := 684, attributes := #[] }, { accessFlags := 2, nameIndex := 5, descriptorIndex := 29, attributes := #[] }, { accessFlags := 0, nameIndex := 5, descriptorIndex := 211, attributes := #[] }, { accessFlags := 0, nameIndex := 17, descriptorIndex := 337, attributes := #[] }, { accessFlags := 0, nameIndex := 494, descriptorIndex := 142, attributes := #[] }, { accessFlags := 8, nameIndex := 523, descriptorIndex := 524, attributes := #[] }] 49 2 #[1106, 1108, 575, 1110, 1112] #[{ accessFlags := 18, nameIndex := 13, descriptorIndex := 14, attributes := #[] }, { accessFlags := 18, nameIndex := 17, descriptorIndex := 18, attributes := #[] }, { accessFlags := 2, nameIndex := 21, descriptorIndex := 22, attributes := #[] }, { accessFlags := 2, nameIndex := 25, descriptorIndex := 26, attributes := #[] }, { accessFlags := 26, nameIndex := 1116, descriptorIndex := 1117, attributes := #[] }, { accessFlags := 24, nameIndex := 40, descriptorIndex := 26, attributes := #[] }, { accessFlags := 26, nameIndex := 1101, descriptorIndex := 1102, attributes := #[] }, { accessFlags := 26, nameIndex := 1121, descriptorIndex := 1122, attributes := #[] }, { accessFlags := 25, nameIndex := 599, descriptorIndex := 600, attributes := #[] }, { accessFlags := 24, nameIndex := 1125, descriptorIndex := 18, attributes := #[] }, { accessFlags := 24, nameIndex := 1127, descriptorIndex := 18, attributes := #[] }])
  fields := #[{ name := "value", type := (.array .byte), accessFlags := 18, slot := 0, constantValue := 0 }, { name := "coder", type := .byte, accessFlags := 18, slot := 1, constantValue := 0 }, { name := "hash", type := .int, accessFlags := 2, slot := 2, constantValue := 0 }, { name := "hashIsZero", type := .boolean, accessFlags := 2, slot := 3, constantValue := 0 }, { name := "serialVersionUID", type := .long, accessFlags := 26, slot := 0, constantValue := 0 }, { name := "COMPACT_STRINGS", type := .boolean, accessFlags := 24, slot := 1, constantValue := 0 }, { name := "serialPersistentFields", type := (.array (.object "java/io/ObjectStreamField")), accessFlags := 26, slot := 2, constantValue := 0 }, { name := "REPL", type := .char, accessFlags := 26, slot := 3, constantValue := 0 }, { name := "CASE_INSENSITIVE_ORDER", type := (.object "java/util/Comparator"), accessFlags := 25, slot := 4, constantValue := 0 }, { name := "LATIN1", type := .byte, accessFlags := 24, slot := 5, constantValue := 0 }, { name := "UTF16", type := .byte, accessFlags := 24, slot := 6, constantValue := 0 }]
  methods := #[k7m0, k7m1, k7m2, k7m3, k7m4, k7m5, k7m6, k7m7, k7m8]
  instanceTypes := #[(.array .byte), .byte, .int, .boolean]
  staticTypes := #[.long, .boolean, (.array (.object "java/io/ObjectStreamField")), .char, (.object "java/util/Comparator"), .byte, .byte]
  resolved := Array.replicate 1451 none
  statics := some 0 }

def pool8 : Array CpInfo := pool [(6, .class_ 8), (1, u "java/lang/Object"), (0, u "<init>"), (0, u "()V"), (1, .class_ 14), (1, u "java/lang/StringUTF16"), (31, u "$assertionsDisabled"), (0, u "Z"), (13, u "HI_BYTE_SHIFT"), (0, u "I"), (2, u "LO_BYTE_SHIFT"), (49, .methodref 12 116), (0, .nameAndType 117 118), (0, u "compress"), (0, u "([CI[BII)I"), (3, u "([CII)[B"), (138, u "coderFromArrayLen"), (0, u "([BI)B"), (106, .class_ 371), (1, u "java/lang/StringUTF16$LinesSpliterator"), (58, u "MAX_LENGTH"), (196, .class_ 628), (0, u "java/lang/StringUTF16$CodePointsSpliterator"), (0, .class_ 630), (0, u "java/lang/StringUTF16$CharsSpliterator")] 4

def k8m0 : Method := { name := "<init>", desc := "()V", sig := { parameters := [], returnType := none }, accessFlags := 0, code := none }
def k8c1 : Code := { maxStack := 2, maxLocals := 2, code := jdk_52_method_15_code, exceptionTable := #[], attributes := #[] }
def k8m1 : Method := { name := "coderFromArrayLen", desc := "([BI)B", sig := { parameters := [(.array .byte), .int], returnType := some .byte }, accessFlags := 8, code := some k8c1 }
def k8c2 : Code := { maxStack := 5, maxLocals := 6, code := jdk_52_method_16_code, exceptionTable := #[], attributes := #[] }
def k8m2 : Method := { name := "compress", desc := "([CII)[B", sig := { parameters := [(.array .char), .int, .int], returnType := some (.array .byte) }, accessFlags := 9, code := some k8c2 }
def k8c3 : Code := { maxStack := 3, maxLocals := 7, code := jdk_52_method_21_code, exceptionTable := #[], attributes := #[] }
def k8m3 : Method := { name := "compress", desc := "([CI[BII)I", sig := { parameters := [(.array .char), .int, (.array .byte), .int, .int], returnType := some .int }, accessFlags := 9, code := some k8c3 }
/-- java/lang/StringUTF16 -/
def k8 : Class := { plain "java/lang/StringUTF16" (some 0) with
  accessFlags := 48
  interfaces := #[]
  cf := some (fileOf pool8 12 #[.nestMembers #[627, 629, 369]] #[{ accessFlags := 0, nameIndex := 9, descriptorIndex := 10, attributes := #[] }, { accessFlags := 8, nameIndex := 261, descriptorIndex := 262, attributes := #[] }, { accessFlags := 9, nameIndex := 117, descriptorIndex := 122, attributes := #[] }, { accessFlags := 9, nameIndex := 117, descriptorIndex := 118, attributes := #[] }] 48 6 #[] #[{ accessFlags := 26, nameIndex := 61, descriptorIndex := 62, attributes := #[] }, { accessFlags := 26, nameIndex := 65, descriptorIndex := 62, attributes := #[] }, { accessFlags := 24, nameIndex := 430, descriptorIndex := 62, attributes := #[] }, { accessFlags := 4120, nameIndex := 46, descriptorIndex := 47, attributes := #[] }])
  fields := #[{ name := "HI_BYTE_SHIFT", type := .int, accessFlags := 26, slot := 0, constantValue := 0 }, { name := "LO_BYTE_SHIFT", type := .int, accessFlags := 26, slot := 1, constantValue := 0 }, { name := "MAX_LENGTH", type := .int, accessFlags := 24, slot := 2, constantValue := 0 }, { name := "$assertionsDisabled", type := .boolean, accessFlags := 4120, slot := 3, constantValue := 0 }]
  methods := #[k8m0, k8m1, k8m2, k8m3]
  instanceTypes := #[]
  staticTypes := #[.int, .int, .int, .boolean]
  resolved := Array.replicate 635 none
  statics := none }

def pool9 : Array CpInfo := pool [(1, .methodref 2 3), (0, .class_ 4), (0, .nameAndType 5 6), (0, u "java/lang/Object"), (0, u "<init>"), (0, u "()V"), (0, .class_ 8), (0, u "java/lang/Record")] 13

def k9c0 : Code := { maxStack := 1, maxLocals := 1, code := jdk_30_method_1_code, exceptionTable := #[], attributes := #[] }
def k9m0 : Method := { name := "<init>", desc := "()V", sig := { parameters := [], returnType := none }, accessFlags := 4, code := some k9c0 }
/-- java/lang/Record -/
def k9 : Class := { plain "java/lang/Record" (some 0) with
  accessFlags := 1057
  interfaces := #[]
  cf := some (fileOf pool9 7 #[] #[{ accessFlags := 4, nameIndex := 5, descriptorIndex := 6, attributes := #[] }] 1057 2 #[] #[])
  fields := #[]
  methods := #[k9m0]
  instanceTypes := #[]
  staticTypes := #[]
  resolved := Array.replicate 22 none
  statics := none }

def pool10 : Array CpInfo := pool [(1, .methodref 2 3), (0, .class_ 4), (0, .nameAndType 5 6), (0, u "java/lang/Record"), (0, u "<init>"), (0, u "()V"), (0, .fieldref 8 9), (0, .class_ 10), (0, .nameAndType 11 12), (0, u "com/example/talao/talao/Field"), (0, u "name"), (0, u "Ljava/lang/String;"), (0, .fieldref 8 14), (0, .nameAndType 15 16), (0, u "start"), (0, u "I"), (0, .fieldref 8 18), (0, .nameAndType 19 16), (0, u "end"), (0, .fieldref 8 21), (0, .nameAndType 22 23), (0, u "numeric"), (0, u "Z"), (0, .methodref 25 26), (0, .class_ 27), (0, .nameAndType 28 29), (0, u "java/lang/String"), (0, u "substring"), (0, u "(II)Ljava/lang/String;"), (3, u "()I"), (2, u "width"), (41, u "in"), (0, u "(Ljava/lang/String;)Ljava/lang/String;"), (28, .methodref 8 109), (0, .nameAndType 5 110), (0, u "(Ljava/lang/String;IIZ)V"), (33, u "through"), (0, u "(Lcom/example/talao/talao/Field;)Lcom/example/talao/talao/Field;")] 40

def k10c0 : Code := { maxStack := 2, maxLocals := 5, code := prog_66_method_1_code, exceptionTable := #[], attributes := #[] }
def k10m0 : Method := { name := "<init>", desc := "(Ljava/lang/String;IIZ)V", sig := { parameters := [(.object "java/lang/String"), .int, .int, .boolean], returnType := none }, accessFlags := 0, code := some k10c0 }
def k10c1 : Code := { maxStack := 3, maxLocals := 2, code := prog_66_method_2_code, exceptionTable := #[], attributes := #[] }
def k10m1 : Method := { name := "in", desc := "(Ljava/lang/String;)Ljava/lang/String;", sig := { parameters := [(.object "java/lang/String")], returnType := some (.object "java/lang/String") }, accessFlags := 0, code := some k10c1 }
def k10c2 : Code := { maxStack := 2, maxLocals := 1, code := prog_66_method_12_code, exceptionTable := #[], attributes := #[] }
def k10m2 : Method := { name := "width", desc := "()I", sig := { parameters := [], returnType := some .int }, accessFlags := 0, code := some k10c2 }
def k10c3 : Code := { maxStack := 6, maxLocals := 2, code := prog_66_method_13_code, exceptionTable := #[], attributes := #[] }
def k10m3 : Method := { name := "through", desc := "(Lcom/example/talao/talao/Field;)Lcom/example/talao/talao/Field;", sig := { parameters := [(.object "com/example/talao/talao/Field")], returnType := some (.object "com/example/talao/talao/Field") }, accessFlags := 0, code := some k10c3 }
/-- com/example/talao/talao/Field -/
def k10 : Class := { plain "com/example/talao/talao/Field" (some 9) with
  accessFlags := 48
  interfaces := #[]
  cf := some (fileOf pool10 8 #[] #[{ accessFlags := 0, nameIndex := 5, descriptorIndex := 110, attributes := #[] }, { accessFlags := 0, nameIndex := 78, descriptorIndex := 79, attributes := #[] }, { accessFlags := 0, nameIndex := 36, descriptorIndex := 33, attributes := #[] }, { accessFlags := 0, nameIndex := 144, descriptorIndex := 145, attributes := #[] }] 48 2 #[] #[{ accessFlags := 18, nameIndex := 11, descriptorIndex := 12, attributes := #[] }, { accessFlags := 18, nameIndex := 15, descriptorIndex := 16, attributes := #[] }, { accessFlags := 18, nameIndex := 19, descriptorIndex := 16, attributes := #[] }, { accessFlags := 18, nameIndex := 22, descriptorIndex := 23, attributes := #[] }])
  fields := #[{ name := "name", type := (.object "java/lang/String"), accessFlags := 18, slot := 0, constantValue := 0 }, { name := "start", type := .int, accessFlags := 18, slot := 1, constantValue := 0 }, { name := "end", type := .int, accessFlags := 18, slot := 2, constantValue := 0 }, { name := "numeric", type := .boolean, accessFlags := 18, slot := 3, constantValue := 0 }]
  methods := #[k10m0, k10m1, k10m2, k10m3]
  instanceTypes := #[(.object "java/lang/String"), .int, .int, .boolean]
  staticTypes := #[]
  resolved := Array.replicate 186 none
  statics := none }

def pool11 : Array CpInfo := pool [(2, .class_ 4), (1, u "java/lang/Object"), (0, u "<init>"), (0, u "()V"), (17, .class_ 26), (1, u "jdk/internal/util/Preconditions"), (20, u "checkFromToIndex"), (7, .class_ 56), (0, u "jdk/internal/util/Preconditions$4"), (57, .class_ 115), (0, u "jdk/internal/util/Preconditions$1"), (7, u "SIOOBE_FORMATTER"), (0, u "Ljava/util/function/BiFunction;"), (0, .class_ 126), (0, u "jdk/internal/util/Preconditions$2"), (3, u "AIOOBE_FORMATTER"), (0, .class_ 132), (0, u "jdk/internal/util/Preconditions$3"), (3, u "IOOBE_FORMATTER"), (46, u "(IIILjava/util/function/BiFunction;)I")] 10

def k11m0 : Method := { name := "<init>", desc := "()V", sig := { parameters := [], returnType := none }, accessFlags := 1, code := none }
def k11c1 : Code := { maxStack := 4, maxLocals := 4, code := jdk_41_method_12_code, exceptionTable := #[], attributes := #[] }
def k11m1 : Method := { name := "checkFromToIndex", desc := "(IIILjava/util/function/BiFunction;)I", sig := { parameters := [.int, .int, .int, (.object "java/util/function/BiFunction")], returnType := some .int }, accessFlags := 9, code := some k11c1 }
/-- jdk/internal/util/Preconditions -/
def k11 : Class := { plain "jdk/internal/util/Preconditions" (some 0) with
  accessFlags := 33
  interfaces := #[]
  cf := some (fileOf pool11 24 #[.nestMembers #[55, 131, 125, 114]] #[{ accessFlags := 1, nameIndex := 5, descriptorIndex := 6, attributes := #[] }, { accessFlags := 9, nameIndex := 47, descriptorIndex := 183, attributes := #[] }] 33 2 #[] #[{ accessFlags := 25, nameIndex := 123, descriptorIndex := 124, attributes := #[] }, { accessFlags := 25, nameIndex := 130, descriptorIndex := 124, attributes := #[] }, { accessFlags := 25, nameIndex := 136, descriptorIndex := 124, attributes := #[] }])
  fields := #[{ name := "SIOOBE_FORMATTER", type := (.object "java/util/function/BiFunction"), accessFlags := 25, slot := 0, constantValue := 0 }, { name := "AIOOBE_FORMATTER", type := (.object "java/util/function/BiFunction"), accessFlags := 25, slot := 1, constantValue := 0 }, { name := "IOOBE_FORMATTER", type := (.object "java/util/function/BiFunction"), accessFlags := 25, slot := 2, constantValue := 0 }]
  methods := #[k11m0, k11m1]
  instanceTypes := #[]
  staticTypes := #[(.object "java/util/function/BiFunction"), (.object "java/util/function/BiFunction"), (.object "java/util/function/BiFunction")]
  resolved := Array.replicate 194 none
  statics := some 1 }

def pool12 : Array CpInfo := pool [(1, .class_ 2), (0, u "java/lang/String"), (1, .class_ 6), (1, u "java/lang/Object"), (0, u "<init>"), (0, u "()V"), (5, .class_ 16), (1, u "java/lang/StringLatin1"), (95, .methodref 1 113), (0, .nameAndType 7 114), (0, u "([BB)V"), (6, u "$assertionsDisabled"), (0, u "Z"), (8, .class_ 133), (1, u "java/util/Arrays"), (17, .string 152), (0, u ""), (43, u "newString"), (0, u "([BII)Ljava/lang/String;"), (23, .class_ 223), (1, u "java/lang/StringLatin1$LinesSpliterator"), (8, .methodref 131 233), (0, .nameAndType 234 235), (0, u "copyOfRange"), (0, u "([BII)[B"), (154, .class_ 391), (0, u "java/lang/StringLatin1$CharsSpliterator")] 3

def k12m0 : Method := { name := "<init>", desc := "()V", sig := { parameters := [], returnType := none }, accessFlags := 0, code := none }
def k12c1 : Code := { maxStack := 6, maxLocals := 3, code := jdk_43_method_47_code, exceptionTable := #[], attributes := #[] }
def k12m1 : Method := { name := "newString", desc := "([BII)Ljava/lang/String;", sig := { parameters := [(.array .byte), .int, .int], returnType := some (.object "java/lang/String") }, accessFlags := 9, code := some k12c1 }
/-- java/lang/StringLatin1 -/
def k12 : Class := { plain "java/lang/StringLatin1" (some 0) with
  accessFlags := 48
  interfaces := #[]
  cf := some (fileOf pool12 14 #[.nestMembers #[390, 221]] #[{ accessFlags := 0, nameIndex := 7, descriptorIndex := 8, attributes := #[] }, { accessFlags := 9, nameIndex := 196, descriptorIndex := 197, attributes := #[] }] 48 4 #[] #[{ accessFlags := 4120, nameIndex := 121, descriptorIndex := 122, attributes := #[] }])
  fields := #[{ name := "$assertionsDisabled", type := .boolean, accessFlags := 4120, slot := 0, constantValue := 0 }]
  methods := #[k12m0, k12m1]
  instanceTypes := #[]
  staticTypes := #[.boolean]
  resolved := Array.replicate 395 none
  statics := none }

def pool13 : Array CpInfo := pool [(2, .class_ 4), (1, u "java/lang/Object"), (0, u "<init>"), (0, u "()V"), (7, .class_ 16), (1, u "java/util/Arrays"), (57, .class_ 76), (1, u "java/util/Arrays$NaturalOrder"), (36, .class_ 115), (1, u "java/util/Arrays$LegacyMergeSort"), (1, u "Z"), (21, u "copyOfRange"), (10, .methodref 151 152), (0, .class_ 153), (0, .nameAndType 154 155), (0, u "java/lang/System"), (0, u "arraycopy"), (0, u "(Ljava/lang/Object;ILjava/lang/Object;II)V"), (148, .methodref 305 306), (0, .class_ 307), (0, .nameAndType 308 309), (0, u "java/lang/Math"), (0, u "min"), (0, u "(II)I"), (29, .methodref 14 340), (0, .nameAndType 341 342), (0, u "copyOfRangeByte"), (0, u "([BII)[B"), (0, .methodref 14 344), (0, .nameAndType 345 346), (0, u "checkLength"), (0, u "(II)V"), (28, .class_ 376), (0, u "java/util/Arrays$ArrayList"), (68, u "$assertionsDisabled"), (269, u "MIN_ARRAY_SORT_GRAN"), (0, u "I"), (2, u "INSERTIONSORT_THRESHOLD"), (255, .class_ 976), (0, u "java/util/Arrays$ArrayItr")] 52

def k13m0 : Method := { name := "<init>", desc := "()V", sig := { parameters := [], returnType := none }, accessFlags := 2, code := none }
def k13c1 : Code := { maxStack := 4, maxLocals := 2, code := jdk_65_method_131_code, exceptionTable := #[], attributes := #[] }
def k13m1 : Method := { name := "checkLength", desc := "(II)V", sig := { parameters := [.int, .int], returnType := none }, accessFlags := 10, code := some k13c1 }
def k13c2 : Code := { maxStack := 3, maxLocals := 3, code := jdk_65_method_132_code, exceptionTable := #[], attributes := #[] }
def k13m2 : Method := { name := "copyOfRange", desc := "([BII)[B", sig := { parameters := [(.array .byte), .int, .int], returnType := some (.array .byte) }, accessFlags := 9, code := some k13c2 }
def k13c3 : Code := { maxStack := 6, maxLocals := 5, code := jdk_65_method_133_code, exceptionTable := #[], attributes := #[] }
def k13m3 : Method := { name := "copyOfRangeByte", desc := "([BII)[B", sig := { parameters := [(.array .byte), .int, .int], returnType := some (.array .byte) }, accessFlags := 10, code := some k13c3 }
/-- java/util/Arrays -/
def k13 : Class := { plain "java/util/Arrays" (some 0) with
  accessFlags := 49
  interfaces := #[]
  cf := some (fileOf pool13 14 #[.nestMembers #[975, 375, 113, 74]] #[{ accessFlags := 2, nameIndex := 5, descriptorIndex := 6, attributes := #[] }, { accessFlags := 10, nameIndex := 345, descriptorIndex := 346, attributes := #[] }, { accessFlags := 9, nameIndex := 139, descriptorIndex := 342, attributes := #[] }, { accessFlags := 10, nameIndex := 341, descriptorIndex := 342, attributes := #[] }] 49 2 #[] #[{ accessFlags := 26, nameIndex := 715, descriptorIndex := 716, attributes := #[] }, { accessFlags := 26, nameIndex := 719, descriptorIndex := 716, attributes := #[] }, { accessFlags := 4120, nameIndex := 445, descriptorIndex := 117, attributes := #[] }])
  fields := #[{ name := "MIN_ARRAY_SORT_GRAN", type := .int, accessFlags := 26, slot := 0, constantValue := 0 }, { name := "INSERTIONSORT_THRESHOLD", type := .int, accessFlags := 26, slot := 1, constantValue := 0 }, { name := "$assertionsDisabled", type := .boolean, accessFlags := 4120, slot := 2, constantValue := 0 }]
  methods := #[k13m0, k13m1, k13m2, k13m3]
  instanceTypes := #[]
  staticTypes := #[.int, .int, .boolean]
  resolved := Array.replicate 1029 none
  statics := none }

def pool14 : Array CpInfo := pool [(1, .class_ 2), (0, u "java/lang/Math"), (1, .class_ 6), (1, u "java/lang/Object"), (0, u "<init>"), (0, u "()V"), (89, .class_ 100), (1, u "java/lang/Math$RandomNumberGeneratorHolder"), (71, u "negativeZeroFloatBits"), (0, u "J"), (2, u "negativeZeroDoubleBits"), (24, u "min"), (43, u "$assertionsDisabled"), (0, u "Z"), (88, u "(II)I"), (2, u "twoToTheDoubleScaleDown"), (0, u "D"), (4, u "twoToTheDoubleScaleUp"), (9, u "E"), (3, u "PI"), (2, u "TAU"), (2, u "DEGREES_TO_RADIANS"), (0, u "RADIANS_TO_DEGREES")] 94

def k14m0 : Method := { name := "<init>", desc := "()V", sig := { parameters := [], returnType := none }, accessFlags := 2, code := none }
def k14c1 : Code := { maxStack := 2, maxLocals := 2, code := jdk_29_method_69_code, exceptionTable := #[], attributes := #[] }
def k14m1 : Method := { name := "min", desc := "(II)I", sig := { parameters := [.int, .int], returnType := some .int }, accessFlags := 9, code := some k14c1 }
/-- java/lang/Math -/
def k14 : Class := { plain "java/lang/Math" (some 0) with
  accessFlags := 49
  interfaces := #[]
  cf := some (fileOf pool14 1 #[.nestMembers #[98]] #[{ accessFlags := 2, nameIndex := 7, descriptorIndex := 8, attributes := #[] }, { accessFlags := 9, nameIndex := 201, descriptorIndex := 335, attributes := #[] }] 49 4 #[] #[{ accessFlags := 25, nameIndex := 354, descriptorIndex := 339, attributes := #[] }, { accessFlags := 25, nameIndex := 358, descriptorIndex := 339, attributes := #[] }, { accessFlags := 25, nameIndex := 361, descriptorIndex := 339, attributes := #[] }, { accessFlags := 26, nameIndex := 364, descriptorIndex := 339, attributes := #[] }, { accessFlags := 26, nameIndex := 365, descriptorIndex := 339, attributes := #[] }, { accessFlags := 26, nameIndex := 172, descriptorIndex := 173, attributes := #[] }, { accessFlags := 26, nameIndex := 176, descriptorIndex := 173, attributes := #[] }, { accessFlags := 8, nameIndex := 344, descriptorIndex := 339, attributes := #[] }, { accessFlags := 8, nameIndex := 338, descriptorIndex := 339, attributes := #[] }, { accessFlags := 4120, nameIndex := 245, descriptorIndex := 246, attributes := #[] }])
  fields := #[{ name := "E", type := .double, accessFlags := 25, slot := 0, constantValue := 0 }, { name := "PI", type := .double, accessFlags := 25, slot := 1, constantValue := 0 }, { name := "TAU", type := .double, accessFlags := 25, slot := 2, constantValue := 0 }, { name := "DEGREES_TO_RADIANS", type := .double, accessFlags := 26, slot := 3, constantValue := 0 }, { name := "RADIANS_TO_DEGREES", type := .double, accessFlags := 26, slot := 4, constantValue := 0 }, { name := "negativeZeroFloatBits", type := .long, accessFlags := 26, slot := 5, constantValue := 0 }, { name := "negativeZeroDoubleBits", type := .long, accessFlags := 26, slot := 6, constantValue := 0 }, { name := "twoToTheDoubleScaleUp", type := .double, accessFlags := 8, slot := 7, constantValue := 0 }, { name := "twoToTheDoubleScaleDown", type := .double, accessFlags := 8, slot := 8, constantValue := 0 }, { name := "$assertionsDisabled", type := .boolean, accessFlags := 4120, slot := 9, constantValue := 0 }]
  methods := #[k14m0, k14m1]
  instanceTypes := #[]
  staticTypes := #[.double, .double, .double, .double, .double, .long, .long, .double, .double, .boolean]
  resolved := Array.replicate 460 none
  statics := none }

def pool15 : Array CpInfo := pool [(2, .class_ 4), (1, u "java/lang/Object"), (0, u "<init>"), (0, u "()V"), (1, .class_ 10), (1, u "java/lang/System"), (0, u "allowSecurityManager"), (0, u "I"), (16, u "cons"), (0, u "Ljava/io/Console;"), (77, .class_ 110), (1, u "java/lang/System$CallersHolder"), (43, u "initialErrStream"), (0, u "Ljava/io/PrintStream;"), (19, u "security"), (0, u "Ljava/lang/SecurityManager;"), (31, .class_ 209), (0, u "java/lang/System$1"), (7, u "props"), (0, u "Ljava/util/Properties;"), (2, u "lineSeparator"), (0, u "Ljava/lang/String;"), (96, .class_ 321), (1, u "java/lang/System$LoggerFinder"), (5, .class_ 328), (0, u "java/lang/System$Logger"), (67, u "err"), (2, u "out"), (91, u "notSupportedJnuEncoding"), (15, u "in"), (17, u "initialIn"), (0, u "Ljava/io/InputStream;"), (35, u "bootLayer"), (0, u "Ljava/lang/ModuleLayer;"), (99, .class_ 664), (0, u "java/lang/System$2"), (9, u "NEVER"), (2, u "MAYBE"), (49, u "arraycopy"), (0, u "(Ljava/lang/Object;ILjava/lang/Object;II)V"), (72, .class_ 802), (0, u "java/lang/System$Logger$Level")] 31

def k15m0 : Method := { name := "<init>", desc := "()V", sig := { parameters := [], returnType := none }, accessFlags := 2, code := none }
def k15m1 : Method := { name := "arraycopy", desc := "(Ljava/lang/Object;ILjava/lang/Object;II)V", sig := { parameters := [(.object "java/lang/Object"), .int, (.object "java/lang/Object"), .int, .int], returnType := none }, accessFlags := 265, code := none }
/-- java/lang/System -/
def k15 : Class := { plain "java/lang/System" (some 0) with
  accessFlags := 49
  interfaces := #[]
  cf := some (fileOf pool15 8 #[.nestMembers #[319, 327, 801, 108, 663, 208]] #[{ accessFlags := 2, nameIndex := 5, descriptorIndex := 6, attributes := #[] }, { accessFlags := 265, nameIndex := 727, descriptorIndex := 728, attributes := #[] }] 49 2 #[] #[{ accessFlags := 25, nameIndex := 507, descriptorIndex := 526, attributes := #[] }, { accessFlags := 25, nameIndex := 399, descriptorIndex := 155, attributes := #[] }, { accessFlags := 25, nameIndex := 396, descriptorIndex := 155, attributes := #[] }, { accessFlags := 10, nameIndex := 525, descriptorIndex := 526, attributes := #[] }, { accessFlags := 26, nameIndex := 674, descriptorIndex := 12, attributes := #[] }, { accessFlags := 26, nameIndex := 677, descriptorIndex := 12, attributes := #[] }, { accessFlags := 10, nameIndex := 11, descriptorIndex := 12, attributes := #[] }, { accessFlags := 74, nameIndex := 175, descriptorIndex := 176, attributes := #[] }, { accessFlags := 10, nameIndex := 491, descriptorIndex := 222, attributes := #[] }, { accessFlags := 74, nameIndex := 29, descriptorIndex := 30, attributes := #[] }, { accessFlags := 74, nameIndex := 154, descriptorIndex := 155, attributes := #[] }, { accessFlags := 10, nameIndex := 217, descriptorIndex := 218, attributes := #[] }, { accessFlags := 10, nameIndex := 221, descriptorIndex := 222, attributes := #[] }, { accessFlags := 8, nameIndex := 562, descriptorIndex := 563, attributes := #[] }])
  fields := #[{ name := "in", type := (.object "java/io/InputStream"), accessFlags := 25, slot := 0, constantValue := 0 }, { name := "out", type := (.object "java/io/PrintStream"), accessFlags := 25, slot := 1, constantValue := 0 }, { name := "err", type := (.object "java/io/PrintStream"), accessFlags := 25, slot := 2, constantValue := 0 }, { name := "initialIn", type := (.object "java/io/InputStream"), accessFlags := 10, slot := 3, constantValue := 0 }, { name := "NEVER", type := .int, accessFlags := 26, slot := 4, constantValue := 0 }, { name := "MAYBE", type := .int, accessFlags := 26, slot := 5, constantValue := 0 }, { name := "allowSecurityManager", type := .int, accessFlags := 10, slot := 6, constantValue := 0 }, { name := "security", type := (.object "java/lang/SecurityManager"), accessFlags := 74, slot := 7, constantValue := 0 }, { name := "notSupportedJnuEncoding", type := (.object "java/lang/String"), accessFlags := 10, slot := 8, constantValue := 0 }, { name := "cons", type := (.object "java/io/Console"), accessFlags := 74, slot := 9, constantValue := 0 }, { name := "initialErrStream", type := (.object "java/io/PrintStream"), accessFlags := 74, slot := 10, constantValue := 0 }, { name := "props", type := (.object "java/util/Properties"), accessFlags := 10, slot := 11, constantValue := 0 }, { name := "lineSeparator", type := (.object "java/lang/String"), accessFlags := 10, slot := 12, constantValue := 0 }, { name := "bootLayer", type := (.object "java/lang/ModuleLayer"), accessFlags := 8, slot := 13, constantValue := 0 }]
  methods := #[k15m0, k15m1]
  instanceTypes := #[]
  staticTypes := #[(.object "java/io/InputStream"), (.object "java/io/PrintStream"), (.object "java/io/PrintStream"), (.object "java/io/InputStream"), .int, .int, .int, (.object "java/lang/SecurityManager"), (.object "java/lang/String"), (.object "java/io/Console"), (.object "java/io/PrintStream"), (.object "java/util/Properties"), (.object "java/lang/String"), (.object "java/lang/ModuleLayer")]
  resolved := Array.replicate 834 none
  statics := none }

def pool16 : Array CpInfo := pool [(9, u "<init>"), (6, .class_ 18), (1, u "java/lang/Object"), (0, u "()V"), (1, .class_ 23), (1, u "jdk/internal/util/ArraysSupport"), (0, u "LOG2_ARRAY_LONG_INDEX_SCALE"), (0, u "I"), (2, u "U"), (0, u "Ljdk/internal/misc/Unsafe;"), (8, u "BIG_ENDIAN"), (0, u "Z"), (8, u "LOG2_BYTE_BIT_SIZE"), (4, u "LOG2_ARRAY_INT_INDEX_SCALE"), (54, u "JLA"), (0, u "Ljdk/internal/access/JavaLangAccess;"), (11, u "LOG2_ARRAY_BOOLEAN_INDEX_SCALE"), (9, u "LOG2_ARRAY_BYTE_INDEX_SCALE"), (5, u "LOG2_ARRAY_CHAR_INDEX_SCALE"), (5, u "LOG2_ARRAY_SHORT_INDEX_SCALE"), (18, u "LOG2_ARRAY_FLOAT_INDEX_SCALE"), (24, u "LOG2_ARRAY_DOUBLE_INDEX_SCALE"), (89, u "T_BOOLEAN"), (2, u "T_CHAR"), (1, u "T_FLOAT"), (1, u "T_DOUBLE"), (1, u "T_BYTE"), (1, u "T_SHORT"), (1, u "T_INT"), (1, u "T_LONG"), (1, u "SOFT_MAX_ARRAY_LENGTH")] 83

def k16m0 : Method := { name := "<init>", desc := "()V", sig := { parameters := [], returnType := none }, accessFlags := 2, code := none }
/-- jdk/internal/util/ArraysSupport -/
def k16 : Class := { plain "jdk/internal/util/ArraysSupport" (some 0) with
  accessFlags := 33
  interfaces := #[]
  cf := some (fileOf pool16 21 #[] #[{ accessFlags := 2, nameIndex := 9, descriptorIndex := 19, attributes := #[] }] 33 16 #[] #[{ accessFlags := 24, nameIndex := 28, descriptorIndex := 29, attributes := #[] }, { accessFlags := 26, nameIndex := 38, descriptorIndex := 39, attributes := #[] }, { accessFlags := 25, nameIndex := 121, descriptorIndex := 25, attributes := #[] }, { accessFlags := 25, nameIndex := 131, descriptorIndex := 25, attributes := #[] }, { accessFlags := 25, nameIndex := 137, descriptorIndex := 25, attributes := #[] }, { accessFlags := 25, nameIndex := 143, descriptorIndex := 25, attributes := #[] }, { accessFlags := 25, nameIndex := 53, descriptorIndex := 25, attributes := #[] }, { accessFlags := 25, nameIndex := 24, descriptorIndex := 25, attributes := #[] }, { accessFlags := 25, nameIndex := 162, descriptorIndex := 25, attributes := #[] }, { accessFlags := 25, nameIndex := 187, descriptorIndex := 25, attributes := #[] }, { accessFlags := 26, nameIndex := 48, descriptorIndex := 25, attributes := #[] }, { accessFlags := 25, nameIndex := 277, descriptorIndex := 25, attributes := #[] }, { accessFlags := 25, nameIndex := 280, descriptorIndex := 25, attributes := #[] }, { accessFlags := 25, nameIndex := 282, descriptorIndex := 25, attributes := #[] }, { accessFlags := 25, nameIndex := 284, descriptorIndex := 25, attributes := #[] }, { accessFlags := 25, nameIndex := 286, descriptorIndex := 25, attributes := #[] }, { accessFlags := 25, nameIndex := 288, descriptorIndex := 25, attributes := #[] }, { accessFlags := 25, nameIndex := 290, descriptorIndex := 25, attributes := #[] }, { accessFlags := 25, nameIndex := 292, descriptorIndex := 25, attributes := #[] }, { accessFlags := 26, nameIndex := 108, descriptorIndex := 109, attributes := #[] }, { accessFlags := 25, nameIndex := 294, descriptorIndex := 25, attributes := #[] }])
  fields := #[{ name := "U", type := (.object "jdk/internal/misc/Unsafe"), accessFlags := 24, slot := 0, constantValue := 0 }, { name := "BIG_ENDIAN", type := .boolean, accessFlags := 26, slot := 1, constantValue := 0 }, { name := "LOG2_ARRAY_BOOLEAN_INDEX_SCALE", type := .int, accessFlags := 25, slot := 2, constantValue := 0 }, { name := "LOG2_ARRAY_BYTE_INDEX_SCALE", type := .int, accessFlags := 25, slot := 3, constantValue := 0 }, { name := "LOG2_ARRAY_CHAR_INDEX_SCALE", type := .int, accessFlags := 25, slot := 4, constantValue := 0 }, { name := "LOG2_ARRAY_SHORT_INDEX_SCALE", type := .int, accessFlags := 25, slot := 5, constantValue := 0 }, { name := "LOG2_ARRAY_INT_INDEX_SCALE", type := .int, accessFlags := 25, slot := 6, constantValue := 0 }, { name := "LOG2_ARRAY_LONG_INDEX_SCALE", type := .int, accessFlags := 25, slot := 7, constantValue := 0 }, { name := "LOG2_ARRAY_FLOAT_INDEX_SCALE", type := .int, accessFlags := 25, slot := 8, constantValue := 0 }, { name := "LOG2_ARRAY_DOUBLE_INDEX_SCALE", type := .int, accessFlags := 25, slot := 9, constantValue := 0 }, { name := "LOG2_BYTE_BIT_SIZE", type := .int, accessFlags := 26, slot := 10, constantValue := 0 }, { name := "T_BOOLEAN", type := .int, accessFlags := 25, slot := 11, constantValue := 0 }, { name := "T_CHAR", type := .int, accessFlags := 25, slot := 12, constantValue := 0 }, { name := "T_FLOAT", type := .int, accessFlags := 25, slot := 13, constantValue := 0 }, { name := "T_DOUBLE", type := .int, accessFlags := 25, slot := 14, constantValue := 0 }, { name := "T_BYTE", type := .int, accessFlags := 25, slot := 15, constantValue := 0 }, { name := "T_SHORT", type := .int, accessFlags := 25, slot := 16, constantValue := 0 }, { name := "T_INT", type := .int, accessFlags := 25, slot := 17, constantValue := 0 }, { name := "T_LONG", type := .int, accessFlags := 25, slot := 18, constantValue := 0 }, { name := "JLA", type := (.object "jdk/internal/access/JavaLangAccess"), accessFlags := 26, slot := 19, constantValue := 0 }, { name := "SOFT_MAX_ARRAY_LENGTH", type := .int, accessFlags := 25, slot := 20, constantValue := 0 }]
  methods := #[k16m0]
  instanceTypes := #[]
  staticTypes := #[(.object "jdk/internal/misc/Unsafe"), .boolean, .int, .int, .int, .int, .int, .int, .int, .int, .int, .int, .int, .int, .int, .int, .int, .int, .int, (.object "jdk/internal/access/JavaLangAccess"), .int]
  resolved := Array.replicate 378 none
  statics := none }

def pool17 : Array CpInfo := pool [(1, u "java/lang/Cloneable"), (0, .class_ 1), (0, u "java/lang/Object"), (0, .class_ 3)] 3

/-- java/lang/Cloneable -/
def k17 : Class := { plain "java/lang/Cloneable" (some 0) with
  accessFlags := 1537
  interfaces := #[]
  cf := some (fileOf pool17 2 #[] #[] 1537 4 #[] #[])
  fields := #[]
  methods := #[]
  instanceTypes := #[]
  staticTypes := #[]
  resolved := Array.replicate 8 none
  statics := none }

/-- the primitive byte -/
def k18 : Class := { plain "byte" none with kind := .primitive 'B', accessFlags := 0x411 }
/-- [B -/
def k19 : Class := { plain "[B" (some 0) with kind := .array 18 .byte, interfaces := #[17, 2], accessFlags := 1041 }

/-- the primitive char -/
def k20 : Class := { plain "char" none with kind := .primitive 'C', accessFlags := 0x411 }
/-- [C -/
def k21 : Class := { plain "[C" (some 0) with kind := .array 20 .char, interfaces := #[17, 2], accessFlags := 1041 }

/-- the primitive int -/
def k22 : Class := { plain "int" none with kind := .primitive 'I', accessFlags := 0x411 }
/-- [I -/
def k23 : Class := { plain "[I" (some 0) with kind := .array 22 .int, interfaces := #[17, 2], accessFlags := 1041 }

def heap : Heap := #[{ cls := 7, slots := #[.long 0, .int 1, .null, .int 0, .null, .int 0, .int 0], vm := .statics 7 },
  { cls := 11, slots := #[.null, .null, .null], vm := .statics 11 }]
def classes : Array Class := #[k0, k1, k2, k3, k4, k5, k6, k7, k8, k9, k10, k11, k12, k13, k14, k15, k16, k17, k18, k19, k20, k21, k22, k23]
def interned : List (Array UInt16 × Addr) := []
def slotsUsed : Nat := 10
def theMethod : MethodId := ⟨1, 1⟩
def args0 : Array Value := #[.int 5, .int 4, .int 3, .int 2, .int 1, .int 7]
def aboutOver (below : List Frame) : State where
  vm := { classes := classes, interned := interned.toArray }
  heap := heap
  slotsUsed := slotsUsed
  threads := #[{ frames := .invoking theMethod args0 :: below }]
def below0 : List Frame := [.native { method := ⟨0, 0⟩, args := #[] }]
def about1 : State := aboutOver below0
def p0 : Program := .bare "" "" ""
def e0 : Env := launch0.env 0 0 0
theorem w_frames : about1.frames = Frame.invoking theMethod args0 :: below0 := rfl
set_option maxRecDepth 65536 in
theorem w_args : argsFit about1.vm theMethod args0 = true := by decide +kernel
set_option maxRecDepth 65536 in
theorem w_heap : heapFits about1 = true := by decide +kernel
set_option maxRecDepth 65536 in
theorem w_runnable : about1.curStatus? = some .runnable := by decide +kernel
set_option maxRecDepth 65536 in
theorem w_alone : about1.alone = true := by decide +kernel
set_option maxRecDepth 65536 in
theorem w_named : about1.methodNamed? x = some theMethod := by decide +kernel
set_option maxRecDepth 65536 in
theorem w_hears : about1.hears theMethod below0 = true := by decide +kernel
set_option maxRecDepth 65536 in
theorem w_ripe : about1.ripe theMethod args0 below0 = true := by decide +kernel
theorem w_running : about1.status = .running := rfl
set_option maxRecDepth 65536 in
theorem w_room : about1.hasRoom e0.platform room_1 = true :=
  launch0.hasRoom_least _ room_1 (by decide +kernel) (by decide +kernel) (by decide +kernel) (by decide +kernel) (by decide +kernel) (by decide +kernel)
theorem allAtoms_all (ts : List Jvm.Cond) (a : Array Jvm.Value) (st : Jvm.State) : (allAtoms ts).before a st = ts.all (fun c => c.before a st) := by
  induction ts with
  | nil => rfl
  | cons c t ih =>
    show (Jvm.Cond.and c (allAtoms t)).before a st = _
    rw [Jvm.Cond.before_and, ih, List.all_cons]
def words1 : List Jvm.Cond := Jvm.Cond.code x code maxLocals ret :: tables_1
/-- a 'code' word, met by the world's own term for the bytes: nothing is compared byte by byte -/
theorem code_word {y : MethodName} {bytes : ByteArray} {mx : Nat} {rt : Option FieldType} {a : Array Value} {s : State} {m : MethodId} {meth : Method} {c : Code} (h1 : s.methodNamed? y = some m) (h2 : s.vm.method? m = some meth) (h3 : meth.code = some c) (h4 : c.code = bytes)
    (h5 : (c.maxLocals == mx && c.exceptionTable.isEmpty && decide (c.maxStack ≤ mostOperands) && decide (meth.sig.returnType = rt) && !meth.locks && decide (parseMethodDescriptor y.desc = some meth.sig)) = true) : (Jvm.Cond.code y bytes mx rt).before a s = true := by
  simp only [Bool.and_eq_true, beq_iff_eq, Bool.not_eq_true', decide_eq_true_eq] at h5
  obtain ⟨⟨⟨⟨⟨g1, g2⟩, g3⟩, g4⟩, g5⟩, g6⟩ := h5
  simp [Cond.before, Cond.holds, Cond.value, h1, h2, h3, h4, g1, g2, g3, g4, g5, g6]
def isCode : Jvm.Cond → Bool
  | .code _ _ _ _ => true
  | _ => false
theorem all_split {L : List Jvm.Cond} {P : Jvm.Cond → Bool} (h1 : L.all (fun c => isCode c || P c) = true) (h2 : ∀ c ∈ L.filter isCode, P c = true) : L.all P = true := by
  refine List.all_eq_true.mpr fun c hc => ?_
  have h := List.all_eq_true.mp h1 c hc
  rcases Bool.eq_false_or_eq_true (isCode c) with hi | hi
  · exact h2 c (List.mem_filter.mpr ⟨hc, hi⟩)
  · simpa [hi] using h
set_option maxRecDepth 65536 in
theorem w_c0 : (Jvm.Cond.code x code maxLocals ret).before args0 about1 = true := code_word (m := ⟨1, 1⟩) (meth := k1m1) (c := k1c1) (by decide +kernel) rfl rfl rfl (by decide +kernel)
set_option maxRecDepth 65536 in
theorem w_c1 : (Jvm.Cond.code ({ cls := "java/lang/String", name := "<init>", desc := "([C)V" } : Jvm.MethodName) jdk_42_method_3_code (2 : Nat) (Option.none : Option Jvm.ClassFile.FieldType)).before args0 about1 = true := code_word (m := ⟨7, 1⟩) (meth := k7m1) (c := k7c1) (by decide +kernel) rfl rfl rfl (by decide +kernel)
set_option maxRecDepth 65536 in
theorem w_c2 : (Jvm.Cond.code ({ cls := "java/lang/String", name := "<init>", desc := "([CIILjava/lang/Void;)V" } : Jvm.MethodName) jdk_42_method_149_code (6 : Nat) (Option.none : Option Jvm.ClassFile.FieldType)).before args0 about1 = true := code_word (m := ⟨7, 4⟩) (meth := k7m4) (c := k7c4) (by decide +kernel) rfl rfl rfl (by decide +kernel)
set_option maxRecDepth 65536 in
theorem w_c3 : (Jvm.Cond.code ({ cls := "java/lang/Object", name := "<init>", desc := "()V" } : Jvm.MethodName) object_method_1_code (1 : Nat) (Option.none : Option Jvm.ClassFile.FieldType)).before args0 about1 = true := code_word (m := ⟨0, 0⟩) (meth := k0m0) (c := k0c0) (by decide +kernel) rfl rfl rfl (by decide +kernel)
set_option maxRecDepth 65536 in
theorem w_c4 : (Jvm.Cond.code ({ cls := "java/lang/StringUTF16", name := "compress", desc := "([CII)[B" } : Jvm.MethodName) jdk_52_method_16_code (6 : Nat) (Option.some (Jvm.ClassFile.FieldType.array Jvm.ClassFile.FieldType.byte))).before args0 about1 = true := code_word (m := ⟨8, 2⟩) (meth := k8m2) (c := k8c2) (by decide +kernel) rfl rfl rfl (by decide +kernel)
set_option maxRecDepth 65536 in
theorem w_c5 : (Jvm.Cond.code ({ cls := "java/lang/StringUTF16", name := "compress", desc := "([CI[BII)I" } : Jvm.MethodName) jdk_52_method_21_code (7 : Nat) (Option.some Jvm.ClassFile.FieldType.int)).before args0 about1 = true := code_word (m := ⟨8, 3⟩) (meth := k8m3) (c := k8c3) (by decide +kernel) rfl rfl rfl (by decide +kernel)
set_option maxRecDepth 65536 in
theorem w_c6 : (Jvm.Cond.code ({ cls := "java/lang/StringUTF16", name := "coderFromArrayLen", desc := "([BI)B" } : Jvm.MethodName) jdk_52_method_15_code (2 : Nat) (Option.some Jvm.ClassFile.FieldType.byte)).before args0 about1 = true := code_word (m := ⟨8, 1⟩) (meth := k8m1) (c := k8c1) (by decide +kernel) rfl rfl rfl (by decide +kernel)
set_option maxRecDepth 65536 in
theorem w_c7 : (Jvm.Cond.code ({ cls := "com/example/talao/talao/Field", name := "<init>", desc := "(Ljava/lang/String;IIZ)V" } : Jvm.MethodName) prog_66_method_1_code (5 : Nat) (Option.none : Option Jvm.ClassFile.FieldType)).before args0 about1 = true := code_word (m := ⟨10, 0⟩) (meth := k10m0) (c := k10c0) (by decide +kernel) rfl rfl rfl (by decide +kernel)
set_option maxRecDepth 65536 in
theorem w_c8 : (Jvm.Cond.code ({ cls := "java/lang/Record", name := "<init>", desc := "()V" } : Jvm.MethodName) jdk_30_method_1_code (1 : Nat) (Option.none : Option Jvm.ClassFile.FieldType)).before args0 about1 = true := code_word (m := ⟨9, 0⟩) (meth := k9m0) (c := k9c0) (by decide +kernel) rfl rfl rfl (by decide +kernel)
set_option maxRecDepth 65536 in
theorem w_c9 : (Jvm.Cond.code ({ cls := "com/example/talao/talao/Field", name := "width", desc := "()I" } : Jvm.MethodName) prog_66_method_12_code (1 : Nat) (Option.some Jvm.ClassFile.FieldType.int)).before args0 about1 = true := code_word (m := ⟨10, 2⟩) (meth := k10m2) (c := k10c2) (by decide +kernel) rfl rfl rfl (by decide +kernel)
set_option maxRecDepth 65536 in
theorem w_c10 : (Jvm.Cond.code ({ cls := "com/example/talao/talao/Field", name := "in", desc := "(Ljava/lang/String;)Ljava/lang/String;" } : Jvm.MethodName) prog_66_method_2_code (2 : Nat) (Option.some (Jvm.ClassFile.FieldType.object "java/lang/String"))).before args0 about1 = true := code_word (m := ⟨10, 1⟩) (meth := k10m1) (c := k10c1) (by decide +kernel) rfl rfl rfl (by decide +kernel)
set_option maxRecDepth 65536 in
theorem w_c11 : (Jvm.Cond.code ({ cls := "java/lang/String", name := "substring", desc := "(II)Ljava/lang/String;" } : Jvm.MethodName) jdk_42_method_92_code (5 : Nat) (Option.some (Jvm.ClassFile.FieldType.object "java/lang/String"))).before args0 about1 = true := code_word (m := ⟨7, 3⟩) (meth := k7m3) (c := k7c3) (by decide +kernel) rfl rfl rfl (by decide +kernel)
set_option maxRecDepth 65536 in
theorem w_c12 : (Jvm.Cond.code ({ cls := "java/lang/String", name := "length", desc := "()I" } : Jvm.MethodName) jdk_42_method_54_code (1 : Nat) (Option.some Jvm.ClassFile.FieldType.int)).before args0 about1 = true := code_word (m := ⟨7, 2⟩) (meth := k7m2) (c := k7c2) (by decide +kernel) rfl rfl rfl (by decide +kernel)
set_option maxRecDepth 65536 in
theorem w_c13 : (Jvm.Cond.code ({ cls := "java/lang/String", name := "coder", desc := "()B" } : Jvm.MethodName) jdk_42_method_152_code (1 : Nat) (Option.some Jvm.ClassFile.FieldType.byte)).before args0 about1 = true := code_word (m := ⟨7, 6⟩) (meth := k7m6) (c := k7c6) (by decide +kernel) rfl rfl rfl (by decide +kernel)
set_option maxRecDepth 65536 in
theorem w_c14 : (Jvm.Cond.code ({ cls := "java/lang/String", name := "checkBoundsBeginEnd", desc := "(III)V" } : Jvm.MethodName) jdk_42_method_158_code (3 : Nat) (Option.none : Option Jvm.ClassFile.FieldType)).before args0 about1 = true := code_word (m := ⟨7, 8⟩) (meth := k7m8) (c := k7c8) (by decide +kernel) rfl rfl rfl (by decide +kernel)
set_option maxRecDepth 65536 in
theorem w_c15 : (Jvm.Cond.code ({ cls := "jdk/internal/util/Preconditions", name := "checkFromToIndex", desc := "(IIILjava/util/function/BiFunction;)I" } : Jvm.MethodName) jdk_41_method_12_code (4 : Nat) (Option.some Jvm.ClassFile.FieldType.int)).before args0 about1 = true := code_word (m := ⟨11, 1⟩) (meth := k11m1) (c := k11c1) (by decide +kernel) rfl rfl rfl (by decide +kernel)
set_option maxRecDepth 65536 in
theorem w_c16 : (Jvm.Cond.code ({ cls := "java/lang/String", name := "isLatin1", desc := "()Z" } : Jvm.MethodName) jdk_42_method_154_code (1 : Nat) (Option.some Jvm.ClassFile.FieldType.boolean)).before args0 about1 = true := code_word (m := ⟨7, 7⟩) (meth := k7m7) (c := k7c7) (by decide +kernel) rfl rfl rfl (by decide +kernel)
set_option maxRecDepth 65536 in
theorem w_c17 : (Jvm.Cond.code ({ cls := "java/lang/StringLatin1", name := "newString", desc := "([BII)Ljava/lang/String;" } : Jvm.MethodName) jdk_43_method_47_code (3 : Nat) (Option.some (Jvm.ClassFile.FieldType.object "java/lang/String"))).before args0 about1 = true := code_word (m := ⟨12, 1⟩) (meth := k12m1) (c := k12c1) (by decide +kernel) rfl rfl rfl (by decide +kernel)
set_option maxRecDepth 65536 in
theorem w_c18 : (Jvm.Cond.code ({ cls := "com/example/talao/talao/Field", name := "through", desc := "(Lcom/example/talao/talao/Field;)Lcom/example/talao/talao/Field;" } : Jvm.MethodName) prog_66_method_13_code (2 : Nat) (Option.some (Jvm.ClassFile.FieldType.object "com/example/talao/talao/Field"))).before args0 about1 = true := code_word (m := ⟨10, 3⟩) (meth := k10m3) (c := k10c3) (by decide +kernel) rfl rfl rfl (by decide +kernel)
set_option maxRecDepth 65536 in
theorem w_c19 : (Jvm.Cond.code ({ cls := "java/util/Arrays", name := "copyOfRange", desc := "([BII)[B" } : Jvm.MethodName) jdk_65_method_132_code (3 : Nat) (Option.some (Jvm.ClassFile.FieldType.array Jvm.ClassFile.FieldType.byte))).before args0 about1 = true := code_word (m := ⟨13, 2⟩) (meth := k13m2) (c := k13c2) (by decide +kernel) rfl rfl rfl (by decide +kernel)
set_option maxRecDepth 65536 in
theorem w_c20 : (Jvm.Cond.code ({ cls := "java/util/Arrays", name := "copyOfRangeByte", desc := "([BII)[B" } : Jvm.MethodName) jdk_65_method_133_code (5 : Nat) (Option.some (Jvm.ClassFile.FieldType.array Jvm.ClassFile.FieldType.byte))).before args0 about1 = true := code_word (m := ⟨13, 3⟩) (meth := k13m3) (c := k13c3) (by decide +kernel) rfl rfl rfl (by decide +kernel)
set_option maxRecDepth 65536 in
theorem w_c21 : (Jvm.Cond.code ({ cls := "java/util/Arrays", name := "checkLength", desc := "(II)V" } : Jvm.MethodName) jdk_65_method_131_code (2 : Nat) (Option.none : Option Jvm.ClassFile.FieldType)).before args0 about1 = true := code_word (m := ⟨13, 1⟩) (meth := k13m1) (c := k13c1) (by decide +kernel) rfl rfl rfl (by decide +kernel)
set_option maxRecDepth 65536 in
theorem w_c22 : (Jvm.Cond.code ({ cls := "java/lang/Math", name := "min", desc := "(II)I" } : Jvm.MethodName) jdk_29_method_69_code (2 : Nat) (Option.some Jvm.ClassFile.FieldType.int)).before args0 about1 = true := code_word (m := ⟨14, 1⟩) (meth := k14m1) (c := k14c1) (by decide +kernel) rfl rfl rfl (by decide +kernel)
set_option maxRecDepth 65536 in
theorem w_c23 : (Jvm.Cond.code ({ cls := "java/lang/String", name := "<init>", desc := "([BB)V" } : Jvm.MethodName) jdk_42_method_151_code (3 : Nat) (Option.none : Option Jvm.ClassFile.FieldType)).before args0 about1 = true := code_word (m := ⟨7, 5⟩) (meth := k7m5) (c := k7c5) (by decide +kernel) rfl rfl rfl (by decide +kernel)
def codes1 : List Jvm.Cond := [Jvm.Cond.code x code maxLocals ret, Jvm.Cond.code ({ cls := "java/lang/String", name := "<init>", desc := "([C)V" } : Jvm.MethodName) jdk_42_method_3_code (2 : Nat) (Option.none : Option Jvm.ClassFile.FieldType), Jvm.Cond.code ({ cls := "java/lang/String", name := "<init>", desc := "([CIILjava/lang/Void;)V" } : Jvm.MethodName) jdk_42_method_149_code (6 : Nat) (Option.none : Option Jvm.ClassFile.FieldType), Jvm.Cond.code ({ cls := "java/lang/Object", name := "<init>", desc := "()V" } : Jvm.MethodName) object_method_1_code (1 : Nat) (Option.none : Option Jvm.ClassFile.FieldType), Jvm.Cond.code ({ cls := "java/lang/StringUTF16", name := "compress", desc := "([CII)[B" } : Jvm.MethodName) jdk_52_method_16_code (6 : Nat) (Option.some (Jvm.ClassFile.FieldType.array Jvm.ClassFile.FieldType.byte)), Jvm.Cond.code ({ cls := "java/lang/StringUTF16", name := "compress", desc := "([CI[BII)I" } : Jvm.MethodName) jdk_52_method_21_code (7 : Nat) (Option.some Jvm.ClassFile.FieldType.int), Jvm.Cond.code ({ cls := "java/lang/StringUTF16", name := "coderFromArrayLen", desc := "([BI)B" } : Jvm.MethodName) jdk_52_method_15_code (2 : Nat) (Option.some Jvm.ClassFile.FieldType.byte), Jvm.Cond.code ({ cls := "com/example/talao/talao/Field", name := "<init>", desc := "(Ljava/lang/String;IIZ)V" } : Jvm.MethodName) prog_66_method_1_code (5 : Nat) (Option.none : Option Jvm.ClassFile.FieldType), Jvm.Cond.code ({ cls := "java/lang/Record", name := "<init>", desc := "()V" } : Jvm.MethodName) jdk_30_method_1_code (1 : Nat) (Option.none : Option Jvm.ClassFile.FieldType), Jvm.Cond.code ({ cls := "com/example/talao/talao/Field", name := "width", desc := "()I" } : Jvm.MethodName) prog_66_method_12_code (1 : Nat) (Option.some Jvm.ClassFile.FieldType.int), Jvm.Cond.code ({ cls := "com/example/talao/talao/Field", name := "in", desc := "(Ljava/lang/String;)Ljava/lang/String;" } : Jvm.MethodName) prog_66_method_2_code (2 : Nat) (Option.some (Jvm.ClassFile.FieldType.object "java/lang/String")), Jvm.Cond.code ({ cls := "java/lang/String", name := "substring", desc := "(II)Ljava/lang/String;" } : Jvm.MethodName) jdk_42_method_92_code (5 : Nat) (Option.some (Jvm.ClassFile.FieldType.object "java/lang/String")), Jvm.Cond.code ({ cls := "java/lang/String", name := "length", desc := "()I" } : Jvm.MethodName) jdk_42_method_54_code (1 : Nat) (Option.some Jvm.ClassFile.FieldType.int), Jvm.Cond.code ({ cls := "java/lang/String", name := "coder", desc := "()B" } : Jvm.MethodName) jdk_42_method_152_code (1 : Nat) (Option.some Jvm.ClassFile.FieldType.byte), Jvm.Cond.code ({ cls := "java/lang/String", name := "checkBoundsBeginEnd", desc := "(III)V" } : Jvm.MethodName) jdk_42_method_158_code (3 : Nat) (Option.none : Option Jvm.ClassFile.FieldType), Jvm.Cond.code ({ cls := "jdk/internal/util/Preconditions", name := "checkFromToIndex", desc := "(IIILjava/util/function/BiFunction;)I" } : Jvm.MethodName) jdk_41_method_12_code (4 : Nat) (Option.some Jvm.ClassFile.FieldType.int), Jvm.Cond.code ({ cls := "java/lang/String", name := "isLatin1", desc := "()Z" } : Jvm.MethodName) jdk_42_method_154_code (1 : Nat) (Option.some Jvm.ClassFile.FieldType.boolean), Jvm.Cond.code ({ cls := "java/lang/StringLatin1", name := "newString", desc := "([BII)Ljava/lang/String;" } : Jvm.MethodName) jdk_43_method_47_code (3 : Nat) (Option.some (Jvm.ClassFile.FieldType.object "java/lang/String")), Jvm.Cond.code ({ cls := "com/example/talao/talao/Field", name := "through", desc := "(Lcom/example/talao/talao/Field;)Lcom/example/talao/talao/Field;" } : Jvm.MethodName) prog_66_method_13_code (2 : Nat) (Option.some (Jvm.ClassFile.FieldType.object "com/example/talao/talao/Field")), Jvm.Cond.code ({ cls := "java/util/Arrays", name := "copyOfRange", desc := "([BII)[B" } : Jvm.MethodName) jdk_65_method_132_code (3 : Nat) (Option.some (Jvm.ClassFile.FieldType.array Jvm.ClassFile.FieldType.byte)), Jvm.Cond.code ({ cls := "java/util/Arrays", name := "copyOfRangeByte", desc := "([BII)[B" } : Jvm.MethodName) jdk_65_method_133_code (5 : Nat) (Option.some (Jvm.ClassFile.FieldType.array Jvm.ClassFile.FieldType.byte)), Jvm.Cond.code ({ cls := "java/util/Arrays", name := "checkLength", desc := "(II)V" } : Jvm.MethodName) jdk_65_method_131_code (2 : Nat) (Option.none : Option Jvm.ClassFile.FieldType), Jvm.Cond.code ({ cls := "java/lang/Math", name := "min", desc := "(II)I" } : Jvm.MethodName) jdk_29_method_69_code (2 : Nat) (Option.some Jvm.ClassFile.FieldType.int), Jvm.Cond.code ({ cls := "java/lang/String", name := "<init>", desc := "([BB)V" } : Jvm.MethodName) jdk_42_method_151_code (3 : Nat) (Option.none : Option Jvm.ClassFile.FieldType)]
set_option maxRecDepth 65536 in
theorem codes_eq : words1.filter isCode = codes1 := rfl
theorem w_codes : ∀ c ∈ words1.filter isCode, c.before args0 about1 = true := by
  rw [codes_eq]
  intro c hc
  simp only [codes1, List.mem_cons, List.not_mem_nil, or_false] at hc
  rcases hc with rfl | rfl | rfl | rfl | rfl | rfl | rfl | rfl | rfl | rfl | rfl | rfl | rfl | rfl | rfl | rfl | rfl | rfl | rfl | rfl | rfl | rfl | rfl | rfl
  · exact w_c0
  · exact w_c1
  · exact w_c2
  · exact w_c3
  · exact w_c4
  · exact w_c5
  · exact w_c6
  · exact w_c7
  · exact w_c8
  · exact w_c9
  · exact w_c10
  · exact w_c11
  · exact w_c12
  · exact w_c13
  · exact w_c14
  · exact w_c15
  · exact w_c16
  · exact w_c17
  · exact w_c18
  · exact w_c19
  · exact w_c20
  · exact w_c21
  · exact w_c22
  · exact w_c23
set_option maxRecDepth 65536 in
theorem w_t1 : (words1.take 24).all (fun c => isCode c || c.before args0 about1) = true := by decide +kernel
set_option maxRecDepth 65536 in
theorem w_t2 : ((words1.drop 24).take 24).all (fun c => isCode c || c.before args0 about1) = true := by decide +kernel
set_option maxRecDepth 65536 in
theorem w_t3 : (((words1.drop 24).drop 24).take 24).all (fun c => isCode c || c.before args0 about1) = true := by decide +kernel
set_option maxRecDepth 65536 in
theorem w_t4 : ((((words1.drop 24).drop 24).drop 24).take 24).all (fun c => isCode c || c.before args0 about1) = true := by decide +kernel
set_option maxRecDepth 65536 in
theorem w_t5 : (((((words1.drop 24).drop 24).drop 24).drop 24).take 24).all (fun c => isCode c || c.before args0 about1) = true := by decide +kernel
set_option maxRecDepth 65536 in
theorem w_t6 : (((((words1.drop 24).drop 24).drop 24).drop 24).drop 24).all (fun c => isCode c || c.before args0 about1) = true := by decide +kernel
theorem w_tables : (allAtoms (Jvm.Cond.code x code maxLocals ret :: tables_1)).before args0 about1 = true := by
  rw [allAtoms_all]
  show words1.all (fun c => c.before args0 about1) = true
  refine all_split ?_ w_codes
  rw [← List.take_append_drop 24 words1, List.all_append, w_t1, ← List.take_append_drop 24 (words1.drop 24), List.all_append, w_t2, ← List.take_append_drop 24 ((words1.drop 24).drop 24), List.all_append, w_t3, ← List.take_append_drop 24 (((words1.drop 24).drop 24).drop 24), List.all_append, w_t4, ← List.take_append_drop 24 ((((words1.drop 24).drop 24).drop 24).drop 24), List.all_append, w_t5, w_t6]
  rfl
set_option maxRecDepth 65536 in
theorem w_rest : rest_1_c.before args0 about1 = true := by decide +kernel
set_option maxRecDepth 65536 in
theorem w_case : (Jvm.Cond.and given_1 narrow_1).before args0 about1 = true := by decide +kernel
set_option maxRecDepth 65536 in
theorem w_consts : constsHeld consts_1 about1 := Jvm.Lit.constsHeldB_iff.mp (by decide +kernel)
theorem w_applies : (headSpec (Jvm.Cond.code x code maxLocals ret :: tables_1) room_1).applies x e0.platform about1 = true :=
  (Spec.applies_iff w_frames).mpr ⟨w_running, w_runnable, w_alone, w_named, w_hears, w_ripe, w_room, w_tables⟩
theorem atStart : AtStart classFile x code maxLocals ret World_1 tables_1 room_1 Calls_1 rest_1 Pre_1 launch0 p0 e0 about1 theMethod args0 below0 :=
  ⟨lists_1, trivial, launch0.admits_env _ _ _, launch0.least_env, fairChoices_fair.cas, fairChoices_fair.clock, w_frames, w_args, w_heap, w_applies, ⟨w_consts, trivial⟩, w_rest, w_case⟩
end start1
theorem witness_1 : WitnessClaimed_1 := ⟨start1.p0, start1.e0, start1.about1, start1.theMethod, start1.args0, start1.below0, start1.atStart⟩
end Jvm.Pilot.@@N@@
