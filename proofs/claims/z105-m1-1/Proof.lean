import JvmDerived
import JvmDerived.Pilot.@@N@@Statement
import JvmDerived.Pilot.@@N@@Code
set_option linter.unusedVariables false
set_option linter.unusedSimpArgs false
namespace Jvm.RoadKit
open Sem ClassFile Op Lib Jvm.Stand Jvm.Free Jvm.LawKit
section New
variable {p : Program} {l : Launch} {e : Env} {R : Room} {s : State} {m : MethodId} {args : Array Value} {below : List Frame} {meth : Method} {c : Code} {T : State} {locs : List Loc} {cells slots : Nat}
theorem own_retI (X : Stand p l e R s m args below meth c T locs cells slots) (hx : p.tables.exec = Jvm.exec) {pc : Nat} {Ls : Array Slot} {z : Int32} {rest : List Value} (hret : meth.sig.returnType = some .int) (hd : decode c.code pc = .ok (.ireturn, 1)) {fs : List Frame}
    (hl : ∀ (f : JFrame) (acts : List Action), f.method = m → f.locked = none → f.entered = [] → (doReturn e (T.setTop f) acts (some (.int z))).1 = T.setFrames fs) : Steps p.tables e below (T.setTop (mkF m pc Ls (.int z :: rest))) (T.setFrames fs) := by
  have hm' : T.vm.method? m = some meth := X.method'
  have hn : narrow .int (.int z) = .int z := rfl
  show Steps p.tables e below (T.setTop { method := m, pc := pc, locals := Ls, stack := _ :: rest, locked := none }) _
  jvm_step X.here [X.here.top, hx, hd, hm', hret, hn]
  first | (intro acts; rw [hl _ acts rfl rfl rfl]) | rw [hl _ _ rfl rfl rfl]
  exact Steps.refl _
theorem own_retL (X : Stand p l e R s m args below meth c T locs cells slots) (hx : p.tables.exec = Jvm.exec) {pc : Nat} {Ls : Array Slot} {z : Int64} {rest : List Value} (hret : meth.sig.returnType = some .long) (hd : decode c.code pc = .ok (.lreturn, 1)) {fs : List Frame}
    (hl : ∀ (f : JFrame) (acts : List Action), f.method = m → f.locked = none → f.entered = [] → (doReturn e (T.setTop f) acts (some (.long z))).1 = T.setFrames fs) : Steps p.tables e below (T.setTop (mkF m pc Ls (.long z :: rest))) (T.setFrames fs) := by
  have hm' : T.vm.method? m = some meth := X.method'
  have hn : narrow .long (.long z) = .long z := rfl
  show Steps p.tables e below (T.setTop { method := m, pc := pc, locals := Ls, stack := _ :: rest, locked := none }) _
  jvm_step X.here [X.here.top, hx, hd, hm', hret, hn]
  first | (intro acts; rw [hl _ acts rfl rfl rfl]) | rw [hl _ _ rfl rfl rfl]
  exact Steps.refl _
theorem own_retR (X : Stand p l e R s m args below meth c T locs cells slots) (hx : p.tables.exec = Jvm.exec) {pc : Nat} {Ls : Array Slot} {w : Value} {t : FieldType} {rest : List Value} (hret : meth.sig.returnType = some t) (hn : narrow t w = w) (ht : t.isReference = true) (hw : w.isRef = true) (hd : decode c.code pc = .ok (.areturn, 1)) {fs : List Frame}
    (hl : ∀ (f : JFrame) (acts : List Action), f.method = m → f.locked = none → f.entered = [] → (doReturn e (T.setTop f) acts (some w)).1 = T.setFrames fs) : Steps p.tables e below (T.setTop (mkF m pc Ls (w :: rest))) (T.setFrames fs) := by
  have hm' : T.vm.method? m = some meth := X.method'
  show Steps p.tables e below (T.setTop { method := m, pc := pc, locals := Ls, stack := _ :: rest, locked := none }) _
  jvm_step X.here [X.here.top, hx, hd, hm', hret, hn, hw]
  try (refine ⟨ht, ?_⟩)
  first | (intro acts; rw [hl _ acts rfl rfl rfl]) | rw [hl _ _ rfl rfl rfl]
  exact Steps.refl _
/-- from here the run comes to a state of which G holds -/
def Out (tb : Tables) (e : Env) (below : List Frame) (G : State → Prop) (T : State) (g : JFrame) : Prop := ∃ U, Steps tb e below (T.setTop g) U ∧ G U
theorem Out.via {tb : Tables} {G : State → Prop} {T' : State} {g g' : JFrame} (h : ∀ target, Steps tb e below (T'.setTop g') target → Steps tb e below (T.setTop g) target) (k : Out tb e below G T' g') : Out tb e below G T g := by
  obtain ⟨U, h1, h2⟩ := k
  exact ⟨U, h _ h1, h2⟩
theorem Out.to {tb : Tables} {G : State → Prop} {T' : State} {g g' : JFrame} (h : Steps tb e below (T.setTop g) (T'.setTop g')) (k : Out tb e below G T' g') : Out tb e below G T g := by
  obtain ⟨U, h1, h2⟩ := k
  exact ⟨U, h.trans h1, h2⟩
/-- what a contract asks of the end -/
def End (s : State) (below : List Frame) (Q : Option Value → Heap → List Loc → Prop) (kc ks : Nat) (U : State) : Prop := U.status = .running ∧ ∃ o, Ended U below o ∧ ∃ v L, o = .returned v ∧ Q v U.heap L ∧ FrameEnd s o U L kc ks
theorem Out.start {tb : Tables} {Q : Option Value → Heap → List Loc → Prop} {kc ks : Nat} {g g' : JFrame} (q : g = g') (k : Out tb e below (End s below Q kc ks) T g') : ∃ s₂ o, Steps tb e below (T.setTop g) s₂ ∧ s₂.status = .running ∧ Ended s₂ below o ∧ ∃ v L, o = .returned v ∧ Q v s₂.heap L ∧ FrameEnd s o s₂ L kc ks := by
  subst q
  obtain ⟨U, h1, h2, o, h3, h4⟩ := k
  exact ⟨U, o, h1, h2, h3, h4⟩
/-- the end of a narrow walk, whatever the return's kind -/
theorem Out.endN (X : Stand p l e R s m args below meth c T locs cells slots) {g : JFrame} {v : Option Value} {Q : Option Value → Heap → List Loc → Prop} {kc ks : Nat} (hv : meth.sig.returnType = none → v = none) (hk : meth.locks = false) (hc : cells ≤ kc) (hs : slots ≤ ks) (hq : Q v T.heap locs)
    (st : ∀ fs : List Frame, (∀ (f : JFrame) (acts : List Action), f.method = m → f.locked = none → f.entered = [] → (doReturn e (T.setTop f) acts v).1 = T.setFrames fs) → Steps p.tables e below (T.setTop g) (T.setFrames fs)) : Out p.tables e below (End s below Q kc ks) T g := by
  obtain ⟨fs, hr, hrun, hended, hW, hsame⟩ := X.leave (v := v) hv hk
  exact ⟨_, st fs hr, hrun, _, hended, _, _, rfl, hq, ⟨_, rfl⟩, hW, hsame.mono hc hs⟩
/-- what a contract asks of the end, where literals may have been interned -/
def EndW (s : State) (below : List Frame) (Q : Option Value → Heap → List Loc → Prop) (kc ks : Nat) (U : State) : Prop := U.status = .running ∧ ∃ o, Ended U below o ∧ ∃ v L, o = .returned v ∧ Q v U.heap L ∧ ReturnedEndW s o U L kc ks
theorem Out.startW {tb : Tables} {Q : Option Value → Heap → List Loc → Prop} {kc ks : Nat} {g g' : JFrame} (q : g = g') (k : Out tb e below (EndW s below Q kc ks) T g') : ∃ s₂ o, Steps tb e below (T.setTop g) s₂ ∧ s₂.status = .running ∧ Ended s₂ below o ∧ ∃ v L, o = .returned v ∧ Q v s₂.heap L ∧ ReturnedEndW s o s₂ L kc ks := by
  subst q
  obtain ⟨U, h1, h2, o, h3, h4⟩ := k
  exact ⟨U, o, h1, h2, h3, h4⟩
theorem Out.endW {vm0 : Vm} {n : Nat} (X : Stand p l e R (s.setVm vm0) m args below meth c T locs cells slots) (hS : s.Since vm0 n) (hn : n ≤ T.heap.size) {g : JFrame} {v : Option Value} {Q : Option Value → Heap → List Loc → Prop} {kc ks : Nat} (hv : meth.sig.returnType = none → v = none) (hk : meth.locks = false) (hc : cells ≤ kc) (hs : slots ≤ ks) (hq : Q v T.heap locs)
    (st : ∀ fs : List Frame, (∀ (f : JFrame) (acts : List Action), f.method = m → f.locked = none → f.entered = [] → (doReturn e (T.setTop f) acts v).1 = T.setFrames fs) → Steps p.tables e below (T.setTop g) (T.setFrames fs)) : Out p.tables e below (EndW s below Q kc ks) T g := by
  obtain ⟨fs, hr, hrun, hended, h1, h2, h3, h4⟩ := X.leaveW hS hn (v := v) hv hk
  exact ⟨_, st fs hr, hrun, _, hended, _, _, rfl, hq, h1, h2, h3, h4.mono hc hs⟩
/-- .. and the assumed word on the literals goes on -/
def EndH (Z : State) (EL : List (String × Nat)) (s : State) (below : List Frame) (Q : Option Value → Heap → List Loc → Prop) (kc ks : Nat) (U : State) : Prop := U.status = .running ∧ ∃ o, Ended U below o ∧ ∃ v L, o = .returned v ∧ Q v U.heap L ∧ CHr Z EL s.vm s.heap U.vm U.heap ∧ ReturnedEndW s o U L kc ks
theorem Out.startH {tb : Tables} {Z : State} {EL : List (String × Nat)} {Q : Option Value → Heap → List Loc → Prop} {kc ks : Nat} {g g' : JFrame} (q : g = g') (k : Out tb e below (EndH Z EL s below Q kc ks) T g') : ∃ s₂ o, Steps tb e below (T.setTop g) s₂ ∧ s₂.status = .running ∧ Ended s₂ below o ∧ ∃ v L, o = .returned v ∧ Q v s₂.heap L ∧ CHr Z EL s.vm s.heap s₂.vm s₂.heap ∧ ReturnedEndW s o s₂ L kc ks := by
  subst q
  obtain ⟨U, h1, h2, o, h3, h4⟩ := k
  exact ⟨U, o, h1, h2, h3, h4⟩
theorem Out.endH {Z : State} {a0 : Array Value} {EL : List (String × Nat)} {vm0 : Vm} {n : Nat} (X : Stand p l e R (s.setVm vm0) m args below meth c T locs cells slots) (hS : s.Since vm0 n) (hn : n ≤ T.heap.size) (hZ : Z.Warmed39 (s.setVm vm0).vm) (w : EW Z a0 EL) (CR : CHr Z EL s.vm s.heap vm0 T.heap) {g : JFrame} {v : Option Value} {Q : Option Value → Heap → List Loc → Prop} {kc ks : Nat} (hv : meth.sig.returnType = none → v = none) (hk : meth.locks = false) (hc : cells ≤ kc) (hs : slots ≤ ks) (hq : Q v T.heap locs)
    (st : ∀ fs : List Frame, (∀ (f : JFrame) (acts : List Action), f.method = m → f.locked = none → f.entered = [] → (doReturn e (T.setTop f) acts v).1 = T.setFrames fs) → Steps p.tables e below (T.setTop g) (T.setFrames fs)) : Out p.tables e below (EndH Z EL s below Q kc ks) T g := by
  obtain ⟨fs, hr, hrun, hended, h1, h2, h3, h4⟩ := X.leaveW hS hn (v := v) hv hk
  have q : CHr Z EL vm0 T.heap T.vm T.heap := CHv.at X hZ w CR.1
  exact ⟨_, st fs hr, hrun, _, hended, _, _, rfl, hq, CR.trans q, h1, h2, h3, h4.mono hc hs⟩
theorem own_since0 (s : State) (n : Nat) : s.Since s.vm n := (State.WarmedH.refl s).since n
/-- castore into an array whose values are known: what stands behind it -/
theorem own_stC (X : Stand p l e R s m args below meth c T locs cells slots) (hx : p.tables.exec = Jvm.exec) {Z : State} (hZ : Z.Warmed39 s.vm) {h h1 : Heap} (eT : T.heap = h) {a : Addr} {k : ClassId} {z : Int32} {vs : List Value} {dv : Value} (V : Arv Z h a k .char z vs dv) {j x : Int32} (hj : ¬ j < 0 ∧ j < z) (i : Nat) (hi : j.toNatClampNeg = i) (hl : i < vs.length)
    {n0 : Nat} (ga : n0 ≤ a) (N : Fr n0 locs) (O : Old Z n0 h) {ws : List Addr} (K : Keep h1 h ws) (hK : a ∈ ws ∨ h1.size ≤ a) {g : JFrame} (hg : g.method = m) {rest : List Value} (hs : g.stack = .int x :: .int j :: .ref a :: rest) (hd : decode c.code g.pc = .ok (.castore, 1)) :
    ∃ T' h' L', Stand p l e R s m args below meth c T' L' cells slots ∧ T'.heap = h' ∧ Arv Z h' a k .char z (vs.set i (.int (nar .char x))) dv ∧ Fr n0 L' ∧ Old Z n0 h' ∧ Keep h1 h' ws ∧ ∀ target, Steps p.tables e below (T'.setTop { g with pc := g.pc + 1, stack := rest }) target → Steps p.tables e below (T.setTop g) target := by
  obtain ⟨cl, Ar, q, S, M, H, G⟩ := V
  obtain ⟨T', h', X', e', W, st⟩ := stC X hx hZ eT Ar (j := j) (inb_of S hj) hg hs hd
  exact ⟨T', h', _, X', e', Arv.set Ar q S M H G (fits_nar_char _) W i hi hl, Fr.snoc X' N ga, O.wr W ga, K.wr W hK, st⟩
theorem own_z0 {Z : State} {n0 : Nat} {h : Heap} (O : Old Z n0 h) : n0 ≤ h.size := O.1 ▸ O.2.1
end New
end Jvm.RoadKit
/- laws to paste: Road.backV, Road.lenW, Road.codOf (cut by pick.py; bodies as the Statement names them) -/
namespace Jvm.Pilot.@@N@@
namespace StrChars
open Jvm Sem ClassFile Op Lib Jvm.Stand Jvm.Free.XT Jvm.Free.ALB Jvm.Free.JM Jvm.Free
open Jvm.Lib.Cold (StaticIs)
/-- a char array whose places are chars -/
def Ch (a : Addr) (A : Cell) (U : State) : Prop := Arr .char a A U ∧ Typed .char A
theorem Ch.mv {a : Addr} {A : Cell} {U U' : State} (h : Ch a A U) (hal : U.vm.Alike U'.vm) (hh : U'.heap = U.heap) : Ch a A U' := ⟨h.1.mv hal hh, h.2⟩
theorem Ch.keep {a : Addr} {A : Cell} {U U' : State} (h : Ch a A U) (hal : U.vm.Alike U'.vm) (hk : U'.heap[a]? = some A) : Ch a A U' := ⟨h.1.keep hal hk, h.2⟩
/-- what place i of a char[]'s cell holds -/
def cv (A : Cell) (i : Nat) : Int32 := match A.slots[i]? with | some (.int x) => x | _ => 0
theorem Ch.get {a : Addr} {A : Cell} {U : State} (h : Ch a A U) {i : Nat} (hi : i < A.slots.size) : A.slots[i]? = some (.int (cv A i)) := by
  have e := Array.getElem?_eq_getElem hi
  have f := h.2 i _ e
  unfold cv; rw [e]
  generalize A.slots[i] = v at f
  cases v <;> simp [fits] at f ⊢
/-- the byte that i2b leaves of a char -/
def lo8 (x : Int32) : Int32 := x.toInt8.toInt32
theorem fits_lo8 (y : Int32) : fits .byte (.int (lo8 y)) = true := by
  have h1 := y.toInt8.le_toInt
  have h2 := y.toInt8.toInt_lt
  simp only [lo8, fits, Bool.and_eq_true, decide_eq_true_eq, Int32.le_iff_toInt_le, Int8.toInt_toInt32, show (-128 : Int32).toInt = -128 from by decide, show (127 : Int32).toInt = 127 from by decide]
  omega
/-- A' is A but that each place j of lo .. hi - 1 holds f j -/
def Laid (A A' : Cell) (lo hi : Nat) (f : Nat → Value) : Prop := A'.cls = A.cls ∧ A'.vm = A.vm ∧ A'.slots.size = A.slots.size ∧ ∀ i, A'.slots[i]? = if lo ≤ i ∧ i < hi then some (f i) else A.slots[i]?
theorem Laid.zero (A : Cell) (lo : Nat) (f : Nat → Value) : Laid A A lo (lo + 0) f := ⟨rfl, rfl, rfl, fun i => by rw [if_neg (by omega)]⟩
theorem Laid.step {A Ak : Cell} {lo k : Nat} {f : Nat → Value} {v : Value} (h : Laid A Ak lo k f) (hlo : lo ≤ k) (hk : k < Ak.slots.size) (hv : v = f k) : Laid A (Ak.setSlot k v) lo (k + 1) f := by
  refine ⟨h.1, h.2.1, by simpa [Cell.setSlot] using h.2.2.1, fun i => ?_⟩
  by_cases e : k = i
  · subst e; rw [Cell.slots_setSlot_self v hk, if_pos (by omega), hv]
  · rw [Cell.slots_setSlot_ne v e, h.2.2.2 i]
    by_cases q : lo ≤ i ∧ i < k
    · rw [if_pos q, if_pos (by omega)]
    · rw [if_neg q, if_neg (by omega)]
def U16 : String := "java/lang/StringUTF16"
namespace Cmp5
def yN : MethodName := ⟨"java/lang/StringUTF16", "compress", "([CI[BII)I"⟩
abbrev yB : ByteArray := jdk_52_method_21_code
theorem d0 : decode yB 0 = .ok (.iconst 0, 1) := by decide +kernel
theorem d1 : decode yB 1 = .ok (.istore 5, 2) := by decide +kernel
theorem d3 : decode yB 3 = .ok (.iload 5, 2) := by decide +kernel
theorem d5 : decode yB 5 = .ok (.iload 4, 2) := by decide +kernel
theorem d7 : decode yB 7 = .ok (.if_icmp (.ge) 37, 3) := by decide +kernel
theorem d10 : decode yB 10 = .ok (.aload_n 0, 1) := by decide +kernel
theorem d11 : decode yB 11 = .ok (.iload_n 1, 1) := by decide +kernel
theorem d12 : decode yB 12 = .ok (.caload, 1) := by decide +kernel
theorem d13 : decode yB 13 = .ok (.istore 6, 2) := by decide +kernel
theorem d15 : decode yB 15 = .ok (.iload 6, 2) := by decide +kernel
theorem d17 : decode yB 17 = .ok (.sipush 255, 3) := by decide +kernel
theorem d20 : decode yB 20 = .ok (.if_icmp (.le) 6, 3) := by decide +kernel
theorem d26 : decode yB 26 = .ok (.aload_n 2, 1) := by decide +kernel
theorem d27 : decode yB 27 = .ok (.iload_n 3, 1) := by decide +kernel
theorem d28 : decode yB 28 = .ok (.iload 6, 2) := by decide +kernel
theorem d30 : decode yB 30 = .ok (.i2b, 1) := by decide +kernel
theorem d31 : decode yB 31 = .ok (.bastore, 1) := by decide +kernel
theorem d32 : decode yB 32 = .ok (.iinc 1 1, 3) := by decide +kernel
theorem d35 : decode yB 35 = .ok (.iinc 3 1, 3) := by decide +kernel
theorem d38 : decode yB 38 = .ok (.iinc 5 1, 3) := by decide +kernel
theorem d41 : decode yB 41 = .ok (.goto (-38), 3) := by decide +kernel
theorem d44 : decode yB 44 = .ok (.iload 4, 2) := by decide +kernel
theorem d46 : decode yB 46 = .ok (.ireturn, 1) := by decide +kernel
def site : List Cond := []
def tab : Cond := tabOf yN yB 7 (some .int) site
def P (b : Addr) (A : Cell) (d : Addr) (B : Cell) (o q len : Nat) (args : Array Value) (s : State) : Prop := args = #[.ref b, .int (Int32.ofNat o), .ref d, .int (Int32.ofNat q), .int (Int32.ofNat len)] ∧ Ch b A s ∧ Arr .byte d B s ∧ b ≠ d ∧ o + len ≤ A.slots.size ∧ q + len ≤ B.slots.size ∧ ∀ i, i < len → ¬ 255 < cv A (o + i)
def E (b : Addr) (A : Cell) (d : Addr) (B : Cell) (o q len : Nat) (r : Option Value) (s u : State) : Prop := r = some (.int (Int32.ofNat len)) ∧ ∃ B', Put d B' s u ∧ Laid B B' q (q + len) (fun j => Value.int (lo8 (cv A (o + (j - q)))))
/-- no char of the range above 255: len; the places written hold each char's low byte -/
theorem law (l : Launch) (b : Addr) (A : Cell) (d : Addr) (B : Cell) (o q len : Nat) : Law l yN 5 5 0 0 yB 7 (some .int) site (P b A d B o q len) (E b A d B o q len) (copyLocs d q len) 0 0 := by
  refine Law.of_walk (plainFor_of_name (by decide +kernel)) (by decide +kernel) (by decide +kernel) (by decide) (fun _ _ h => by rw [h.1]; rfl) (fun _ U U' hal hh h => ⟨h.1, h.2.1.mv hal hh, h.2.2.1.mv hal hh, h.2.2.2⟩) (fun r U U' V V' h1 hal h2 h => ⟨h.1, h.2.elim fun B' q => ⟨B', q.1.mv h1 h2, q.2⟩⟩) ?_
  intro p e s m args below meth c s₁ X0 hexec hbytes hml hret hlk hnm hown hh0 W hP
  obtain ⟨rfl, hA, hB, hne, l1, l2, hp⟩ := hP
  have c1 : Steps p.tables e below (s₁.setTop (entryFrame m #[.ref b, .int (Int32.ofNat o), .ref d, .int (Int32.ofNat q), .int (Int32.ofNat len)] 7)) (s₁.setTop (mkF m 0 #[.val (.ref b), .val (.int (Int32.ofNat o)), .val (.ref d), .val (.int (Int32.ofNat q)), .val (.int (Int32.ofNat len)), .unset, .unset] [])) := entry rfl
  have hA0 := hA.1.mv X0.warmed.alike hh0
  have hB0 := hB.mv X0.warmed.alike hh0
  have a31 := hA.1.2.2.2
  have c2 : Steps p.tables e below (s₁.setTop (entryFrame m #[.ref b, .int (Int32.ofNat o), .ref d, .int (Int32.ofNat q), .int (Int32.ofNat len)] 7)) (s₁.setTop (mkF m 3 #[.val (.ref b), .val (.int (Int32.ofNat o)), .val (.ref d), .val (.int (Int32.ofNat q)), .val (.int (Int32.ofNat len)), .val (.int 0), .unset] [])) := c1.trans (by
    refine iconstV X0.here hexec rfl 0 (hb hbytes d0) (by decide) ?_
    refine XS.istore X0.here hexec rfl (hb hbytes d1) rfl rfl ?_
    exact Steps.refl _)
  have loop : ∀ (r i : Nat), i + r = len → ∀ (z : Slot), (z = .unset ∨ ∃ w, z = .val w ∧ w.category = 1) → ∀ (Tl : State) (Bk : Cell), Stand p l e { frames := 0, locals := 0, cells := 0, slots := 0 } s m #[.ref b, .int (Int32.ofNat o), .ref d, .int (Int32.ofNat q), .int (Int32.ofNat len)] below meth c Tl ([] ++ copyLocs d q i) 0 0 → Put d Bk s₁ Tl → Laid B Bk q (q + i) (fun j => Value.int (lo8 (cv A (o + (j - q))))) →
      Steps p.tables e below (s₁.setTop (entryFrame m #[.ref b, .int (Int32.ofNat o), .ref d, .int (Int32.ofNat q), .int (Int32.ofNat len)] 7)) (Tl.setTop (mkF m 3 #[.val (.ref b), .val (.int (Int32.ofNat (o + i))), .val (.ref d), .val (.int (Int32.ofNat (q + i))), .val (.int (Int32.ofNat len)), .val (.int (Int32.ofNat i)), z] [])) → ∃ (T' : State) (B' : Cell) (z' : Slot), Stand p l e { frames := 0, locals := 0, cells := 0, slots := 0 } s m #[.ref b, .int (Int32.ofNat o), .ref d, .int (Int32.ofNat q), .int (Int32.ofNat len)] below meth c T' ([] ++ copyLocs d q len) 0 0 ∧ Put d B' s₁ T' ∧ Laid B B' q (q + len) (fun j => Value.int (lo8 (cv A (o + (j - q))))) ∧
      Steps p.tables e below (s₁.setTop (entryFrame m #[.ref b, .int (Int32.ofNat o), .ref d, .int (Int32.ofNat q), .int (Int32.ofNat len)] 7)) (T'.setTop (mkF m 3 #[.val (.ref b), .val (.int (Int32.ofNat (o + len))), .val (.ref d), .val (.int (Int32.ofNat (q + len))), .val (.int (Int32.ofNat len)), .val (.int (Int32.ofNat len)), z'] [])) := by
    intro r
    induction r with
    | zero =>
      intro i hi z hz Tl Bk Xl pl fl cl
      have hil : i = len := by omega
      rw [hil] at Xl fl cl
      exact ⟨Tl, Bk, z, Xl, pl, fl, cl⟩
    | succ r ih =>
      intro i hi z hz Tl Bk Xl pl fl cl
      have all := X0.warmed.alike.symm.trans Xl.warmed.alike
      have hAl := hA0.keep all (pl.other hne hA0.1)
      have hBk := hB0.like all pl.1 fl.1 fl.2.1 fl.2.2.1
      have hlt : q + i < Bk.slots.size := by rw [fl.2.2.1]; omega
      have c3 : Steps p.tables e below (s₁.setTop (entryFrame m #[.ref b, .int (Int32.ofNat o), .ref d, .int (Int32.ofNat q), .int (Int32.ofNat len)] 7)) (Tl.setTop (mkF m 12 #[.val (.ref b), .val (.int (Int32.ofNat (o + i))), .val (.ref d), .val (.int (Int32.ofNat (q + i))), .val (.int (Int32.ofNat len)), .val (.int (Int32.ofNat i)), z] [.int (Int32.ofNat (o + i)), .ref b])) := cl.trans (by
        refine XS.iload Xl.here hexec rfl (hb hbytes d3) rfl ?_
        refine XS.iload Xl.here hexec rfl (hb hbytes d5) rfl ?_
        refine XS.icmpNo Xl.here hexec rfl (hb hbytes d7) rfl (ii_ge_f (lt32 (by omega) (by omega))) ?_
        refine XS.aloadN Xl.here hexec rfl (hb hbytes d10) rfl rfl ?_
        refine XS.iloadN Xl.here hexec rfl (hb hbytes d11) rfl ?_
        exact Steps.refl _)
      have c4 : Steps p.tables e below (s₁.setTop (entryFrame m #[.ref b, .int (Int32.ofNat o), .ref d, .int (Int32.ofNat q), .int (Int32.ofNat len)] 7)) (Tl.setTop (mkF m 13 #[.val (.ref b), .val (.int (Int32.ofNat (o + i))), .val (.ref d), .val (.int (Int32.ofNat (q + i))), .val (.int (Int32.ofNat len)), .val (.int (Int32.ofNat i)), z] [.int (cv A (o + i))])) := c3.trans (by
        refine Xl.aget hexec hAl rfl (hA.get (i := o + i) (by omega)) rfl rfl (hb hbytes d12) ?_
        exact Steps.refl _)
      have c5 : Steps p.tables e below (s₁.setTop (entryFrame m #[.ref b, .int (Int32.ofNat o), .ref d, .int (Int32.ofNat q), .int (Int32.ofNat len)] 7)) (Tl.setTop (mkF m 15 #[.val (.ref b), .val (.int (Int32.ofNat (o + i))), .val (.ref d), .val (.int (Int32.ofNat (q + i))), .val (.int (Int32.ofNat len)), .val (.int (Int32.ofNat i)), .val (.int (cv A (o + i)))] [])) := c4.trans (by
        refine XS.istoreS Xl.here hexec rfl (hb hbytes d13) rfl rfl hz ?_
        exact Steps.refl _)
      have c6 : Steps p.tables e below (s₁.setTop (entryFrame m #[.ref b, .int (Int32.ofNat o), .ref d, .int (Int32.ofNat q), .int (Int32.ofNat len)] 7)) (Tl.setTop (mkF m 31 #[.val (.ref b), .val (.int (Int32.ofNat (o + i))), .val (.ref d), .val (.int (Int32.ofNat (q + i))), .val (.int (Int32.ofNat len)), .val (.int (Int32.ofNat i)), .val (.int (cv A (o + i)))] [.int (lo8 (cv A (o + i))), .int (Int32.ofNat (q + i)), .ref d])) := c5.trans (by
        refine XS.iload Xl.here hexec rfl (hb hbytes d15) rfl ?_
        refine sipushV Xl.here hexec rfl 255 (hb hbytes d17) (by decide) ?_
        refine XS.icmpYes Xl.here hexec rfl (pc0 := 20) rfl (hb hbytes d20) rfl (ii_le_t (hp i (by omega))) (by decide) rfl ?_
        refine XS.aloadN Xl.here hexec rfl (hb hbytes d26) rfl rfl ?_
        refine XS.iloadN Xl.here hexec rfl (hb hbytes d27) rfl ?_
        refine XS.iload Xl.here hexec rfl (hb hbytes d28) rfl ?_
        refine i2b Xl.here hexec rfl (hb hbytes d30) rfl ?_
        exact Steps.refl _)
      obtain ⟨T7, X7, p7, st7⟩ := Xl.aput hexec hBk rfl hlt rfl (fits_lo8 (cv A (o + i))) (g := (mkF m 31 #[.val (.ref b), .val (.int (Int32.ofNat (o + i))), .val (.ref d), .val (.int (Int32.ofNat (q + i))), .val (.int (Int32.ofNat len)), .val (.int (Int32.ofNat i)), .val (.int (cv A (o + i)))] [.int (lo8 (cv A (o + i))), .int (Int32.ofNat (q + i)), .ref d])) rfl (rest := []) rfl (hb hbytes d31)
      have c8 : Steps p.tables e below (s₁.setTop (entryFrame m #[.ref b, .int (Int32.ofNat o), .ref d, .int (Int32.ofNat q), .int (Int32.ofNat len)] 7)) (T7.setTop (mkF m 32 #[.val (.ref b), .val (.int (Int32.ofNat (o + i))), .val (.ref d), .val (.int (Int32.ofNat (q + i))), .val (.int (Int32.ofNat len)), .val (.int (Int32.ofNat i)), .val (.int (cv A (o + i)))] [])) := c6.trans (st7 _ (Steps.refl _))
      have c9 : Steps p.tables e below (s₁.setTop (entryFrame m #[.ref b, .int (Int32.ofNat o), .ref d, .int (Int32.ofNat q), .int (Int32.ofNat len)] 7)) (T7.setTop (mkF m 3 #[.val (.ref b), .val (.int (Int32.ofNat (o + i) + 1)), .val (.ref d), .val (.int (Int32.ofNat (q + i) + 1)), .val (.int (Int32.ofNat len)), .val (.int (Int32.ofNat i + 1)), .val (.int (cv A (o + i)))] [])) := c8.trans (by
        refine iincV X7.here hexec rfl 1 (hb hbytes d32) (by decide) rfl rfl ?_
        refine iincV X7.here hexec rfl 1 (hb hbytes d35) (by decide) rfl rfl ?_
        refine iincV X7.here hexec rfl 1 (hb hbytes d38) (by decide) rfl rfl ?_
        refine XS.goto X7.here hexec rfl (pc0 := 41) rfl (hb hbytes d41) (by decide) rfl ?_
        exact Steps.refl _)
      have c10 : Steps p.tables e below (s₁.setTop (entryFrame m #[.ref b, .int (Int32.ofNat o), .ref d, .int (Int32.ofNat q), .int (Int32.ofNat len)] 7)) (T7.setTop (mkF m 3 #[.val (.ref b), .val (.int (Int32.ofNat (o + (i + 1)))), .val (.ref d), .val (.int (Int32.ofNat (q + (i + 1)))), .val (.int (Int32.ofNat len)), .val (.int (Int32.ofNat (i + 1))), .val (.int (cv A (o + i)))] [])) := by
        have := c9
        rw [succ32, succ32, succ32] at this
        exact this
      exact ih (i + 1) (by omega) _ (Or.inr ⟨_, rfl, rfl⟩) T7 _ (by rw [copyLocs_step, ← List.append_assoc]; exact X7) (pl.trans p7) (fl.step (by omega) hlt (by simp)) c10
  obtain ⟨T9, B9, z9, X9, p9, f9, g9⟩ := loop len 0 (by omega) .unset (Or.inl rfl) s₁ B (by simpa [copyLocs] using X0) ⟨hB0.1, fun _ _ => rfl, rfl⟩ (Laid.zero _ _ _) c2
  have c11 : Steps p.tables e below (s₁.setTop (entryFrame m #[.ref b, .int (Int32.ofNat o), .ref d, .int (Int32.ofNat q), .int (Int32.ofNat len)] 7)) (T9.setTop (mkF m 46 #[.val (.ref b), .val (.int (Int32.ofNat (o + len))), .val (.ref d), .val (.int (Int32.ofNat (q + len))), .val (.int (Int32.ofNat len)), .val (.int (Int32.ofNat len)), z9] [.int (Int32.ofNat len)])) := g9.trans (by
    refine XS.iload X9.here hexec rfl (hb hbytes d3) rfl ?_
    refine XS.iload X9.here hexec rfl (hb hbytes d5) rfl ?_
    refine XS.icmpYes X9.here hexec rfl (pc0 := 7) rfl (hb hbytes d7) rfl (ii_ge_t (nlt32 (by omega) (Nat.le_refl _))) (by decide) rfl ?_
    refine XS.iload X9.here hexec rfl (hb hbytes d44) rfl ?_
    exact Steps.refl _)
  exact ⟨T9, some (.int (Int32.ofNat len)), _, _, _, X9, by simp, rfl, rfl, (fun h => by cases h), ⟨rfl, B9, p9.from hh0, f9⟩, fun fs hl => c11.trans (X9.ireturnOut hexec hret rfl (Or.inl rfl) (hb hbytes d46) hl)⟩
end Cmp5
namespace Cmp3
def yN : MethodName := ⟨"java/lang/StringUTF16", "compress", "([CII)[B"⟩
abbrev yB : ByteArray := jdk_52_method_16_code
theorem d0 : decode yB 0 = .ok (.iload_n 2, 1) := by decide +kernel
theorem d1 : decode yB 1 = .ok (.newarray .byte, 2) := by decide +kernel
theorem d3 : decode yB 3 = .ok (.astore_n 3, 1) := by decide +kernel
theorem d4 : decode yB 4 = .ok (.aload_n 0, 1) := by decide +kernel
theorem d5 : decode yB 5 = .ok (.iload_n 1, 1) := by decide +kernel
theorem d6 : decode yB 6 = .ok (.aload_n 3, 1) := by decide +kernel
theorem d7 : decode yB 7 = .ok (.iconst 0, 1) := by decide +kernel
theorem d8 : decode yB 8 = .ok (.iload_n 2, 1) := by decide +kernel
theorem d9 : decode yB 9 = .ok (.invokestatic 115, 3) := by decide +kernel
theorem d12 : decode yB 12 = .ok (.istore 4, 2) := by decide +kernel
theorem d14 : decode yB 14 = .ok (.iload 4, 2) := by decide +kernel
theorem d16 : decode yB 16 = .ok (.iload_n 2, 1) := by decide +kernel
theorem d17 : decode yB 17 = .ok (.if_icmp (.eq) 40, 3) := by decide +kernel
theorem d57 : decode yB 57 = .ok (.aload_n 3, 1) := by decide +kernel
theorem d58 : decode yB 58 = .ok (.areturn, 1) := by decide +kernel
def site : List Cond := [.arrayClass .byte, Cmp5.tab] ++ staticW U16 115 Cmp5.yN
def tab : Cond := tabOf yN yB 6 (some (.array .byte)) site
def P (b : Addr) (A : Cell) (o len : Nat) (args : Array Value) (s : State) : Prop := args = #[.ref b, .int (Int32.ofNat o), .int (Int32.ofNat len)] ∧ Ch b A s ∧ o + len ≤ A.slots.size ∧ len ≤ 536870912 ∧ ∀ i, i < len → ¬ 255 < cv A (o + i)
def E (b : Addr) (A : Cell) (o len : Nat) (r : Option Value) (s u : State) : Prop := NewArr .byte "[B" len (fun j => .int (lo8 (cv A (o + j)))) r s u ∧ u.heap.size = s.heap.size + 1
/-- no char of the range above 255: a new byte[] of their low bytes -/
theorem law (l : Launch) (b : Addr) (A : Cell) (o len : Nat) : Law l yN 3 3 1 18 yB 6 (some (.array .byte)) site (P b A o len) (E b A o len) [] 1 len := by
  refine Law.of_walk (plainFor_of_name (by decide +kernel)) (by decide +kernel) (by decide +kernel) (by decide) (fun _ _ h => by rw [h.1]; rfl) (fun _ U U' hal hh h => ⟨h.1, h.2.1.mv hal hh, h.2.2⟩) (fun r U U' V V' h1 hal h2 h => ⟨NewArr.mv r U U' V V' h1 hal h2 h.1, by rw [h1, h2]; exact h.2⟩) ?_
  intro p e s m args below meth c s₁ X0 hexec hbytes hml hret hlk hnm hown hh0 W hP
  obtain ⟨rfl, hA, l1, l2, hp⟩ := hP
  have a31 := hA.1.2.2.2
  have c1 : Steps p.tables e below (s₁.setTop (entryFrame m #[.ref b, .int (Int32.ofNat o), .int (Int32.ofNat len)] 6)) (s₁.setTop (mkF m 0 #[.val (.ref b), .val (.int (Int32.ofNat o)), .val (.int (Int32.ofNat len)), .unset, .unset, .unset] [])) := entry rfl
  have c2 : Steps p.tables e below (s₁.setTop (entryFrame m #[.ref b, .int (Int32.ofNat o), .int (Int32.ofNat len)] 6)) (s₁.setTop (mkF m 1 #[.val (.ref b), .val (.int (Int32.ofNat o)), .val (.int (Int32.ofNat len)), .unset, .unset, .unset] [.int (Int32.ofNat len)])) := c1.trans (by
    refine XS.iloadN X0.here hexec rfl (hb hbytes d0) rfl ?_
    exact Steps.refl _)
  obtain ⟨T3, B3, X3, ba3, bs3, bv3, bh3, bf3, st3⟩ := X0.anew hexec (atype := .byte) (wk W (.arrayClass .byte)) rfl (by show len * 1 ≤ _; omega) (by omega) (g := (mkF m 1 #[.val (.ref b), .val (.int (Int32.ofNat o)), .val (.int (Int32.ofNat len)), .unset, .unset, .unset] [.int (Int32.ofNat len)])) rfl (hb hbytes d1) (rest := []) rfl (Nat.le_refl _) (by show 0 + len ≤ len; omega)
  rw [hh0] at ba3 st3
  have kp3 : XT.Kept s T3 := (XT.Kept.of_eq hh0).push bh3
  have hA3 := hA.keep X3.warmed.alike (kp3 _ _ hA.1.1)
  have hne : b ≠ s.heap.size := hA.1.ne
  have c4 : Steps p.tables e below (s₁.setTop (entryFrame m #[.ref b, .int (Int32.ofNat o), .int (Int32.ofNat len)] 6)) (T3.setTop (mkF m 3 #[.val (.ref b), .val (.int (Int32.ofNat o)), .val (.int (Int32.ofNat len)), .unset, .unset, .unset] [.ref s.heap.size])) := c2.trans (st3 _ (Steps.refl _))
  have c5 : Steps p.tables e below (s₁.setTop (entryFrame m #[.ref b, .int (Int32.ofNat o), .int (Int32.ofNat len)] 6)) (T3.setTop (mkF m 9 #[.val (.ref b), .val (.int (Int32.ofNat o)), .val (.int (Int32.ofNat len)), .val (.ref s.heap.size), .unset, .unset] [.int (Int32.ofNat len), .int 0, .ref s.heap.size, .int (Int32.ofNat o), .ref b])) := c4.trans (by
    refine XS.astoreN X3.here hexec rfl (hb hbytes d3) rfl rfl rfl ?_
    refine XS.aloadN X3.here hexec rfl (hb hbytes d4) rfl rfl ?_
    refine XS.iloadN X3.here hexec rfl (hb hbytes d5) rfl ?_
    refine XS.aloadN X3.here hexec rfl (hb hbytes d6) rfl rfl ?_
    refine iconstV X3.here hexec rfl 0 (hb hbytes d7) (by decide) ?_
    refine XS.iloadN X3.here hexec rfl (hb hbytes d8) rfl ?_
    exact Steps.refl _)
  obtain ⟨v6, T6, X6, E6, g6⟩ := X3.callS hexec (Cmp5.law l b A s.heap.size B3 o 0 len) hown (wks W (staticW U16 115 Cmp5.yN)) (wk W Cmp5.tab) (W := 0) (Nat.le_of_ble_eq_true rfl) (Nat.le_of_ble_eq_true rfl) (Nat.le_refl _) (by show 0 + len + 0 ≤ len; omega) (g := (mkF m 9 #[.val (.ref b), .val (.int (Int32.ofNat o)), .val (.int (Int32.ofNat len)), .val (.ref s.heap.size), .unset, .unset] [.int (Int32.ofNat len), .int (Int32.ofNat 0), .ref s.heap.size, .int (Int32.ofNat o), .ref b])) rfl (by rw [hml]; rfl) c5 (argsL := [.ref b, .int (Int32.ofNat o), .ref s.heap.size, .int (Int32.ofNat 0), .int (Int32.ofNat len)]) (rest := []) rfl rfl (by show 2 * 0 + 0 ≤ _; decide) (hb hbytes d9) (⟨rfl, hA3, ba3, hne, l1, by rw [bs3]; simp, hp⟩)
  obtain ⟨rfl, B6, p6, f6⟩ := E6
  have c7 : Steps p.tables e below (s₁.setTop (entryFrame m #[.ref b, .int (Int32.ofNat o), .int (Int32.ofNat len)] 6)) (T6.setTop (mkF m 12 #[.val (.ref b), .val (.int (Int32.ofNat o)), .val (.int (Int32.ofNat len)), .val (.ref s.heap.size), .unset, .unset] [.int (Int32.ofNat len)])) := g6
  have c8 : Steps p.tables e below (s₁.setTop (entryFrame m #[.ref b, .int (Int32.ofNat o), .int (Int32.ofNat len)] 6)) (T6.setTop (mkF m 58 #[.val (.ref b), .val (.int (Int32.ofNat o)), .val (.int (Int32.ofNat len)), .val (.ref s.heap.size), .val (.int (Int32.ofNat len)), .unset] [.ref s.heap.size])) := c7.trans (by
    refine XS.istore X6.here hexec rfl (hb hbytes d12) rfl rfl ?_
    refine XS.iload X6.here hexec rfl (hb hbytes d14) rfl ?_
    refine XS.iloadN X6.here hexec rfl (hb hbytes d16) rfl ?_
    refine XS.icmpYes X6.here hexec rfl (pc0 := 17) rfl (hb hbytes d17) rfl (ii_eq_t rfl) (by decide) rfl ?_
    refine XS.aloadN X6.here hexec rfl (hb hbytes d57) rfl rfl ?_
    exact Steps.refl _)
  have X8 := X6.wide (L' := []) (cells' := 1) (slots' := len) (fun x hx hlt => by
    simp only [List.nil_append, copyLocs, List.mem_map, List.mem_range] at hx
    obtain ⟨i, -, rfl⟩ := hx
    exact absurd hlt (Nat.lt_irrefl _)) (Nat.le_refl _) (by omega)
  exact ⟨T6, some (.ref s.heap.size), _, _, _, X8, rfl, rfl, rfl, (fun h => by cases h), ⟨⟨rfl, B6, ba3.like (X3.warmed.alike.symm.trans X6.warmed.alike) p6.1 f6.1 f6.2.1 f6.2.2.1, f6.2.1.trans bv3, by rw [X6.warmed.alike.findClass, f6.1]; exact bf3, by rw [f6.2.2.1, bs3]; simp, fun j hj => by rw [f6.2.2.2 j, if_pos (by omega)]; rfl, kp3.put p6 (Nat.le_refl _)⟩, by rw [p6.2.2, bh3, hh0]; simp⟩, fun fs hl => c8.trans (X8.areturnOut hexec rfl hret rfl (hb hbytes d58) hl)⟩
end Cmp3
namespace CodL
def yN : MethodName := ⟨"java/lang/StringUTF16", "coderFromArrayLen", "([BI)B"⟩
abbrev yB : ByteArray := jdk_52_method_15_code
theorem d0 : decode yB 0 = .ok (.iload_n 1, 1) := by decide +kernel
theorem d1 : decode yB 1 = .ok (.aload_n 0, 1) := by decide +kernel
theorem d2 : decode yB 2 = .ok (.arraylength, 1) := by decide +kernel
theorem d3 : decode yB 3 = .ok (.isub, 1) := by decide +kernel
theorem d4 : decode yB 4 = .ok (.bipush 31, 2) := by decide +kernel
theorem d6 : decode yB 6 = .ok (.iushr, 1) := by decide +kernel
theorem d7 : decode yB 7 = .ok (.i2b, 1) := by decide +kernel
theorem d8 : decode yB 8 = .ok (.ireturn, 1) := by decide +kernel
def site : List Cond := []
def tab : Cond := tabOf yN yB 2 (some .byte) site
def P (d : Addr) (B : Cell) (args : Array Value) (s : State) : Prop := args = #[.ref d, .int (Int32.ofNat B.slots.size)] ∧ Arr .byte d B s
def E (r : Option Value) (s u : State) : Prop := XT.PureE (some (.int 0)) r s u
/-- an array as long as the number of chars: LATIN1 -/
theorem law (l : Launch) (d : Addr) (B : Cell) : Law l yN 2 2 0 0 yB 2 (some .byte) site (P d B) E [] 0 0 := by
  refine Law.of_walk (plainFor_of_name (by decide +kernel)) (by decide +kernel) (by decide +kernel) (by decide) (fun _ _ h => by rw [h.1]; rfl) (fun _ U U' hal hh h => ⟨h.1, h.2.mv hal hh⟩) (fun r U U' V V' h1 hal h2 h => XT.PureE.mv r U U' V V' h1 hal h2 h) ?_
  intro p e s m args below meth c s₁ X0 hexec hbytes hml hret hlk hnm hown hh0 W hP
  obtain ⟨rfl, hB⟩ := hP
  have hB0 := hB.mv X0.warmed.alike hh0
  have c1 : Steps p.tables e below (s₁.setTop (entryFrame m #[.ref d, .int (Int32.ofNat B.slots.size)] 2)) (s₁.setTop (mkF m 0 #[.val (.ref d), .val (.int (Int32.ofNat B.slots.size))] [])) := entry rfl
  have c2 : Steps p.tables e below (s₁.setTop (entryFrame m #[.ref d, .int (Int32.ofNat B.slots.size)] 2)) (s₁.setTop (mkF m 2 #[.val (.ref d), .val (.int (Int32.ofNat B.slots.size))] [.ref d, .int (Int32.ofNat B.slots.size)])) := c1.trans (by
    refine XS.iloadN X0.here hexec rfl (hb hbytes d0) rfl ?_
    refine XS.aloadN X0.here hexec rfl (hb hbytes d1) rfl rfl ?_
    exact Steps.refl _)
  have c3 : Steps p.tables e below (s₁.setTop (entryFrame m #[.ref d, .int (Int32.ofNat B.slots.size)] 2)) (s₁.setTop (mkF m 8 #[.val (.ref d), .val (.int (Int32.ofNat B.slots.size))] [.int (lo8 (ushr (Int32.ofNat B.slots.size - Int32.ofNat B.slots.size) 31))])) := c2.trans (by
    refine X0.alen hexec hB0 rfl rfl (hb hbytes d2) ?_
    refine XS.isub X0.here hexec rfl (hb hbytes d3) rfl ?_
    refine bipushV X0.here hexec rfl 31 (hb hbytes d4) (by decide) ?_
    refine iushr X0.here hexec rfl (hb hbytes d6) rfl ?_
    refine i2b X0.here hexec rfl (hb hbytes d7) rfl ?_
    exact Steps.refl _)
  have e0 : lo8 (ushr (Int32.ofNat B.slots.size - Int32.ofNat B.slots.size) 31) = 0 := by rw [Int32.sub_self]; decide
  rw [e0] at c3
  exact ⟨s₁, some (.int 0), _, _, _, X0, rfl, rfl, rfl, (fun h => by cases h), ⟨rfl, hh0⟩, fun fs hl => c3.trans (X0.ireturnOut hexec hret rfl (Or.inr (Or.inr (Or.inl rfl))) (hb hbytes d8) hl)⟩
end CodL
/-- the String at a is Latin-1 over a new byte[] (the heap's one new cell): the low bytes of the len chars of A from o on; every cell but a is kept -/
def Got (a : Addr) (D : Cell) (fV fC : Field) (A : Cell) (o len : Nat) (r : Option Value) (s u : State) : Prop := r = none ∧ ∃ D' V : Cell, Blank "java/lang/String" a D' u ∧ Same D D' [fV.slot, fC.slot] ∧ D'.slots[fV.slot]? = some (.ref s.heap.size) ∧ D'.slots[fC.slot]? = some (.int 0) ∧ Arr .byte s.heap.size V u ∧ V.vm = .none ∧ u.vm.findClass "[B" = some V.cls ∧ V.slots.size = len ∧ (∀ j, j < len → V.slots[j]? = some (.int (lo8 (cv A (o + j))))) ∧ (∀ (y : Addr) (c : Cell), y ≠ a → s.heap[y]? = some c → u.heap[y]? = some c) ∧ u.heap.size = s.heap.size + 1
theorem Got.mv {a : Addr} {D A : Cell} {fV fC : Field} {o len : Nat} : ∀ r (U U' V V' : State), U'.heap = U.heap → V.vm.Alike V'.vm → V'.heap = V.heap → Got a D fV fC A o len r U V → Got a D fV fC A o len r U' V' :=
  fun r U U' V V' h1 hal h2 ⟨e0, D', X, a1, a2, a3, a4, a5, a6, a7, a8, a9, a10, a11⟩ => ⟨e0, D', X, a1.mv hal h2, a2, by rw [h1]; exact a3, a4, by rw [h1]; exact a5.mv hal h2, a6, by rw [hal.findClass]; exact a7, a8, a9, by rw [h1, h2]; exact a10, by rw [h1, h2]; exact a11⟩
namespace New4
def yN : MethodName := ⟨"java/lang/String", "<init>", "([CIILjava/lang/Void;)V"⟩
abbrev yB : ByteArray := jdk_42_method_149_code
theorem d0 : decode yB 0 = .ok (.aload_n 0, 1) := by decide +kernel
theorem d1 : decode yB 1 = .ok (.invokespecial 1, 3) := by decide +kernel
theorem d4 : decode yB 4 = .ok (.iload_n 3, 1) := by decide +kernel
theorem d5 : decode yB 5 = .ok (.ifCond (.ne) 22, 3) := by decide +kernel
theorem d27 : decode yB 27 = .ok (.getstatic 38, 3) := by decide +kernel
theorem d30 : decode yB 30 = .ok (.ifCond (.eq) 28, 3) := by decide +kernel
theorem d33 : decode yB 33 = .ok (.aload_n 1, 1) := by decide +kernel
theorem d34 : decode yB 34 = .ok (.iload_n 2, 1) := by decide +kernel
theorem d35 : decode yB 35 = .ok (.iload_n 3, 1) := by decide +kernel
theorem d36 : decode yB 36 = .ok (.invokestatic 177, 3) := by decide +kernel
theorem d39 : decode yB 39 = .ok (.astore 5, 2) := by decide +kernel
theorem d41 : decode yB 41 = .ok (.aload_n 0, 1) := by decide +kernel
theorem d42 : decode yB 42 = .ok (.aload 5, 2) := by decide +kernel
theorem d44 : decode yB 44 = .ok (.iload_n 3, 1) := by decide +kernel
theorem d45 : decode yB 45 = .ok (.invokestatic 47, 3) := by decide +kernel
theorem d48 : decode yB 48 = .ok (.putfield 15, 3) := by decide +kernel
theorem d51 : decode yB 51 = .ok (.aload_n 0, 1) := by decide +kernel
theorem d52 : decode yB 52 = .ok (.aload 5, 2) := by decide +kernel
theorem d54 : decode yB 54 = .ok (.putfield 9, 3) := by decide +kernel
theorem d57 : decode yB 57 = .ok (.return_, 1) := by decide +kernel
def site : List Cond := [.fieldLink "java/lang/String" 38 "java/lang/String" "COMPACT_STRINGS" "Z", Cmp3.tab, CodL.tab, .laysFinal "java/lang/String" "java/lang/String" "value" "[B", .fieldLink "java/lang/String" 9 "java/lang/String" "value" "[B", .laysFinal "java/lang/String" "java/lang/String" "coder" "B", .fieldLink "java/lang/String" 15 "java/lang/String" "coder" "B"] ++ objW "java/lang/String" 1 ++ staticW "java/lang/String" 177 Cmp3.yN ++ staticW "java/lang/String" 47 CodL.yN
def tab : Cond := tabOf yN yB 6 none site
def P (a : Addr) (D : Cell) (fV fC : Field) (b : Addr) (A : Cell) (z : Int32) (o len : Nat) (args : Array Value) (s : State) : Prop := args = #[.ref a, .ref b, .int (Int32.ofNat o), .int (Int32.ofNat len), .null] ∧ Blank "java/lang/String" a D s ∧ Found "java/lang/String" "value" "[B" fV s ∧ Found "java/lang/String" "coder" "B" fC s ∧ Ch b A s ∧ StaticIs s "java/lang/String" "COMPACT_STRINGS" "Z" (.int z) ∧ ¬ z = 0 ∧ 0 < len ∧ o + len ≤ A.slots.size ∧ len ≤ 536870912 ∧ ∀ i, i < len → ¬ 255 < cv A (o + i)
def E (a : Addr) (D : Cell) (fV fC : Field) (A : Cell) (o len : Nat) (r : Option Value) (s u : State) : Prop := Got a D fV fC A o len r s u
/-- len > 0, no char of the range above 255: a Latin-1 String of their low bytes -/
theorem law (l : Launch) (a : Addr) (D : Cell) (fV fC : Field) (b : Addr) (A : Cell) (z : Int32) (o len : Nat) : Law l yN 5 4 2 35 yB 6 none site (P a D fV fC b A z o len) (E a D fV fC A o len) [⟨a, fC.slot⟩, ⟨a, fV.slot⟩] 1 len := by
  refine Law.of_walk (plainFor_of_name (by decide +kernel)) (by decide +kernel) (by decide +kernel) (by decide) (fun _ _ h => by rw [h.1]; rfl) (fun _ U U' hal hh h => ⟨h.1, h.2.1.mv hal hh, h.2.2.1.al hal, h.2.2.2.1.al hal, h.2.2.2.2.1.mv hal hh, h.2.2.2.2.2.1.there hal hh, h.2.2.2.2.2.2⟩) (fun r U U' V V' h1 hal h2 h => Got.mv r U U' V V' h1 hal h2 h) ?_
  intro p e s m args below meth c s₁ X0 hexec hbytes hml hret hlk hnm hown hh0 W hP
  obtain ⟨rfl, hB, f1, f2, hA, s1, hz, l0, l1, l2, hp⟩ := hP
  have a31 := hA.1.2.2.2
  have c1 : Steps p.tables e below (s₁.setTop (entryFrame m #[.ref a, .ref b, .int (Int32.ofNat o), .int (Int32.ofNat len), .null] 6)) (s₁.setTop (mkF m 0 #[.val (.ref a), .val (.ref b), .val (.int (Int32.ofNat o)), .val (.int (Int32.ofNat len)), .val .null, .unset] [])) := entry rfl
  have c2 : Steps p.tables e below (s₁.setTop (entryFrame m #[.ref a, .ref b, .int (Int32.ofNat o), .int (Int32.ofNat len), .null] 6)) (s₁.setTop (mkF m 1 #[.val (.ref a), .val (.ref b), .val (.int (Int32.ofNat o)), .val (.int (Int32.ofNat len)), .val .null, .unset] [.ref a])) := c1.trans (by
    refine XS.aloadN X0.here hexec rfl (hb hbytes d0) rfl rfl ?_
    exact Steps.refl _)
  obtain ⟨T3, X3, q3, st3⟩ := X0.oinit hexec hown (wks W (objW "java/lang/String" 1)) (g := (mkF m 1 #[.val (.ref a), .val (.ref b), .val (.int (Int32.ofNat o)), .val (.int (Int32.ofNat len)), .val .null, .unset] [.ref a])) rfl (by rw [hml]; rfl) (rest := []) rfl (hb hbytes d1) (W := 0) (by show 2 * 0 + 0 ≤ _; decide) (Nat.le_of_ble_eq_true rfl) (Nat.le_of_ble_eq_true rfl)
  have hh3 := q3.trans hh0
  have c4 : Steps p.tables e below (s₁.setTop (entryFrame m #[.ref a, .ref b, .int (Int32.ofNat o), .int (Int32.ofNat len), .null] 6)) (T3.setTop (mkF m 27 #[.val (.ref a), .val (.ref b), .val (.int (Int32.ofNat o)), .val (.int (Int32.ofNat len)), .val .null, .unset] [])) := (c2.trans (st3 _ (Steps.refl _))).trans (by
    refine XS.iloadN X3.here hexec rfl (hb hbytes d4) rfl ?_
    refine XS.ifYes X3.here hexec rfl (pc0 := 5) rfl (hb hbytes d5) rfl (i0_ne_t (nz32 (by omega) l0)) (by decide) rfl ?_
    exact Steps.refl _)
  obtain ⟨T5, X5, q5, st5⟩ := X3.sget hexec hown (wk W (.fieldLink "java/lang/String" 38 "java/lang/String" "COMPACT_STRINGS" "Z")) s1 (fun _ _ h => by rw [hh3]; exact h) (g := (mkF m 27 #[.val (.ref a), .val (.ref b), .val (.int (Int32.ofNat o)), .val (.int (Int32.ofNat len)), .val .null, .unset] [])) rfl (hb hbytes d27)
  have hh5 := q5.trans hh3
  have c6 : Steps p.tables e below (s₁.setTop (entryFrame m #[.ref a, .ref b, .int (Int32.ofNat o), .int (Int32.ofNat len), .null] 6)) (T5.setTop (mkF m 30 #[.val (.ref a), .val (.ref b), .val (.int (Int32.ofNat o)), .val (.int (Int32.ofNat len)), .val .null, .unset] [.int z])) := c4.trans (st5 _ (Steps.refl _))
  have c7 : Steps p.tables e below (s₁.setTop (entryFrame m #[.ref a, .ref b, .int (Int32.ofNat o), .int (Int32.ofNat len), .null] 6)) (T5.setTop (mkF m 36 #[.val (.ref a), .val (.ref b), .val (.int (Int32.ofNat o)), .val (.int (Int32.ofNat len)), .val .null, .unset] [.int (Int32.ofNat len), .int (Int32.ofNat o), .ref b])) := c6.trans (by
    refine XS.ifNo X5.here hexec rfl (hb hbytes d30) rfl (i0_eq_f hz) ?_
    refine XS.aloadN X5.here hexec rfl (hb hbytes d33) rfl rfl ?_
    refine XS.iloadN X5.here hexec rfl (hb hbytes d34) rfl ?_
    refine XS.iloadN X5.here hexec rfl (hb hbytes d35) rfl ?_
    exact Steps.refl _)
  obtain ⟨v8, T8, X8, E8, g8⟩ := X5.callS hexec (Cmp3.law l b A o len) hown (wks W (staticW "java/lang/String" 177 Cmp3.yN)) (wk W Cmp3.tab) (W := 0) (Nat.le_of_ble_eq_true rfl) (Nat.le_of_ble_eq_true rfl) (Nat.le_refl _) (by show 0 + len ≤ len; omega) (g := (mkF m 36 #[.val (.ref a), .val (.ref b), .val (.int (Int32.ofNat o)), .val (.int (Int32.ofNat len)), .val .null, .unset] [.int (Int32.ofNat len), .int (Int32.ofNat o), .ref b])) rfl (by rw [hml]; rfl) c7 (argsL := [.ref b, .int (Int32.ofNat o), .int (Int32.ofNat len)]) (rest := []) rfl rfl (by show 2 * 0 + 0 ≤ _; decide) (hb hbytes d36) (⟨rfl, hA.mv X5.warmed.alike hh5, l1, l2, hp⟩)
  obtain ⟨e8, z8⟩ := E8
  obtain ⟨rfl, N, n1, n2, n3, n4, n5, n6⟩ := NewArr.mv _ T5 s _ _ hh5.symm (Vm.Alike.refl _) rfl e8
  rw [hh5] at z8
  have hB1 := hB.keep X8.warmed.alike (n6 _ _ hB.1)
  have hne : s.heap.size ≠ a := (Nat.ne_of_lt (Array.getElem?_eq_some_iff.mp hB.1).1).symm
  have c9 : Steps p.tables e below (s₁.setTop (entryFrame m #[.ref a, .ref b, .int (Int32.ofNat o), .int (Int32.ofNat len), .null] 6)) (T8.setTop (mkF m 39 #[.val (.ref a), .val (.ref b), .val (.int (Int32.ofNat o)), .val (.int (Int32.ofNat len)), .val .null, .unset] [.ref s.heap.size])) := g8
  have c10 : Steps p.tables e below (s₁.setTop (entryFrame m #[.ref a, .ref b, .int (Int32.ofNat o), .int (Int32.ofNat len), .null] 6)) (T8.setTop (mkF m 45 #[.val (.ref a), .val (.ref b), .val (.int (Int32.ofNat o)), .val (.int (Int32.ofNat len)), .val .null, .val (.ref s.heap.size)] [.int (Int32.ofNat N.slots.size), .ref s.heap.size, .ref a])) := by
    have hc : Steps p.tables e below (s₁.setTop (entryFrame m #[.ref a, .ref b, .int (Int32.ofNat o), .int (Int32.ofNat len), .null] 6)) (T8.setTop (mkF m 45 #[.val (.ref a), .val (.ref b), .val (.int (Int32.ofNat o)), .val (.int (Int32.ofNat len)), .val .null, .val (.ref s.heap.size)] [.int (Int32.ofNat len), .ref s.heap.size, .ref a])) := c9.trans (by
      refine XS.astore X8.here hexec rfl (hb hbytes d39) rfl rfl rfl ?_
      refine XS.aloadN X8.here hexec rfl (hb hbytes d41) rfl rfl ?_
      refine XS.aload X8.here hexec rfl (hb hbytes d42) rfl rfl ?_
      refine XS.iloadN X8.here hexec rfl (hb hbytes d44) rfl ?_
      exact Steps.refl _)
    rw [n4]; exact hc
  obtain ⟨v11, T11, X11, E11, g11⟩ := X8.callS hexec (CodL.law l s.heap.size N) hown (wks W (staticW "java/lang/String" 47 CodL.yN)) (wk W CodL.tab) (W := 1) (Nat.le_of_ble_eq_true rfl) (Nat.le_of_ble_eq_true rfl) (Nat.le_refl _) (by show 0 + len + 0 ≤ len; omega) (g := (mkF m 45 #[.val (.ref a), .val (.ref b), .val (.int (Int32.ofNat o)), .val (.int (Int32.ofNat len)), .val .null, .val (.ref s.heap.size)] [.int (Int32.ofNat N.slots.size), .ref s.heap.size, .ref a])) rfl (by rw [hml]; rfl) c10 (argsL := [.ref s.heap.size, .int (Int32.ofNat N.slots.size)]) (rest := [.ref a]) rfl rfl (by show 2 * 0 + (1 + 0) ≤ _; decide) (hb hbytes d45) (⟨rfl, n1⟩)
  obtain ⟨rfl, q11⟩ := E11
  have hB11 := hB1.mv (X8.warmed.alike.symm.trans X11.warmed.alike) q11
  have c12 : Steps p.tables e below (s₁.setTop (entryFrame m #[.ref a, .ref b, .int (Int32.ofNat o), .int (Int32.ofNat len), .null] 6)) (T11.setTop (mkF m 48 #[.val (.ref a), .val (.ref b), .val (.int (Int32.ofNat o)), .val (.int (Int32.ofNat len)), .val .null, .val (.ref s.heap.size)] [.int 0, .ref a])) := g11
  obtain ⟨T13, X13, p13, bl13, sl13, st13⟩ := X11.finit hexec hown (wk W (.fieldLink "java/lang/String" 15 "java/lang/String" "coder" "B")) (Or.inr ⟨_, (wk W (.laysFinal "java/lang/String" "java/lang/String" "coder" "B"))⟩) (Or.inl ⟨rfl, hnm⟩) f2 (Or.inl rfl) hB11 (t := .byte) (by decide +kernel) rfl (g := (mkF m 48 #[.val (.ref a), .val (.ref b), .val (.int (Int32.ofNat o)), .val (.int (Int32.ofNat len)), .val .null, .val (.ref s.heap.size)] [.int 0, .ref a])) rfl (rest := []) rfl (hb hbytes d48)
  have c14 : Steps p.tables e below (s₁.setTop (entryFrame m #[.ref a, .ref b, .int (Int32.ofNat o), .int (Int32.ofNat len), .null] 6)) (T13.setTop (mkF m 54 #[.val (.ref a), .val (.ref b), .val (.int (Int32.ofNat o)), .val (.int (Int32.ofNat len)), .val .null, .val (.ref s.heap.size)] [.ref s.heap.size, .ref a])) := (c12.trans (st13 _ (Steps.refl _))).trans (by
    refine XS.aloadN X13.here hexec rfl (hb hbytes d51) rfl rfl ?_
    refine XS.aload X13.here hexec rfl (hb hbytes d52) rfl rfl ?_
    exact Steps.refl _)
  obtain ⟨T15, X15, p15, bl15, sl15, st15⟩ := X13.finit hexec hown (wk W (.fieldLink "java/lang/String" 9 "java/lang/String" "value" "[B")) (Or.inr ⟨_, (wk W (.laysFinal "java/lang/String" "java/lang/String" "value" "[B"))⟩) (Or.inl ⟨rfl, hnm⟩) f1 (Or.inl rfl) bl13 (t := (.array .byte)) (by decide +kernel) rfl (g := (mkF m 54 #[.val (.ref a), .val (.ref b), .val (.int (Int32.ofNat o)), .val (.int (Int32.ofNat len)), .val .null, .val (.ref s.heap.size)] [.ref s.heap.size, .ref a])) rfl (rest := []) rfl (hb hbytes d54)
  have c16 : Steps p.tables e below (s₁.setTop (entryFrame m #[.ref a, .ref b, .int (Int32.ofNat o), .int (Int32.ofNat len), .null] 6)) (T15.setTop (mkF m 57 #[.val (.ref a), .val (.ref b), .val (.int (Int32.ofNat o)), .val (.int (Int32.ofNat len)), .val .null, .val (.ref s.heap.size)] [])) := c14.trans (st15 _ (Steps.refl _))
  have ap := apart (Or.inr ⟨_, (wk W (.laysFinal "java/lang/String" "java/lang/String" "value" "[B"))⟩) (Or.inr ⟨_, (wk W (.laysFinal "java/lang/String" "java/lang/String" "coder" "B"))⟩) f1 f2 (t₁ := .array .byte) (t₂ := .byte) (by decide +kernel) (by decide +kernel) (by decide)
  have al := X8.warmed.alike.symm.trans X15.warmed.alike
  have n7 : T11.heap[s.heap.size]? = some N := by rw [q11]; exact n1.1
  exact ⟨T15, none, _, _, _, X15, by simp, rfl, by omega, (fun _ => rfl), ⟨rfl, _, N, bl15, ((Same.refl D _).set _ (by simp)).set _ (by simp), sl15, (Cell.slots_setSlot_ne _ ap).trans sl13, n1.keep al (p15.other hne (p13.other hne n7)), n2, by rw [al.findClass]; exact n3, n4, n5, fun y c h1 h2 => p15.other h1 (p13.other h1 (by rw [q11]; exact n6 y c h2)), by rw [p15.2.2, p13.2.2, q11]; exact z8⟩, fun fs hl => c16.trans (X15.returnOut hexec hret (hb hbytes d57) hl)⟩
end New4
namespace New1
def yN : MethodName := ⟨"java/lang/String", "<init>", "([C)V"⟩
abbrev yB : ByteArray := jdk_42_method_3_code
theorem d0 : decode yB 0 = .ok (.aload_n 0, 1) := by decide +kernel
theorem d1 : decode yB 1 = .ok (.aload_n 1, 1) := by decide +kernel
theorem d2 : decode yB 2 = .ok (.iconst 0, 1) := by decide +kernel
theorem d3 : decode yB 3 = .ok (.aload_n 1, 1) := by decide +kernel
theorem d4 : decode yB 4 = .ok (.arraylength, 1) := by decide +kernel
theorem d5 : decode yB 5 = .ok (.aconst_null, 1) := by decide +kernel
theorem d6 : decode yB 6 = .ok (.invokespecial 27, 3) := by decide +kernel
theorem d9 : decode yB 9 = .ok (.return_, 1) := by decide +kernel
def site : List Cond := [New4.tab] ++ initW "java/lang/String" 27 New4.yN
def tab : Cond := tabOf yN yB 2 none site
def P (a : Addr) (D : Cell) (fV fC : Field) (b : Addr) (A : Cell) (z : Int32) (args : Array Value) (s : State) : Prop := args = #[.ref a, .ref b] ∧ Blank "java/lang/String" a D s ∧ Found "java/lang/String" "value" "[B" fV s ∧ Found "java/lang/String" "coder" "B" fC s ∧ Ch b A s ∧ StaticIs s "java/lang/String" "COMPACT_STRINGS" "Z" (.int z) ∧ ¬ z = 0 ∧ 0 < A.slots.size ∧ A.slots.size ≤ 536870912 ∧ ∀ i, i < A.slots.size → ¬ 255 < cv A i
def E (a : Addr) (D : Cell) (fV fC : Field) (A : Cell) (r : Option Value) (s u : State) : Prop := Got a D fV fC A 0 A.slots.size r s u
/-- new String(chars), not empty, no char above 255: a Latin-1 String of their low bytes -/
theorem law (l : Launch) (a : Addr) (D : Cell) (fV fC : Field) (b : Addr) (A : Cell) (z : Int32) : Law l yN 2 1 3 52 yB 2 none site (P a D fV fC b A z) (E a D fV fC A) [⟨a, fC.slot⟩, ⟨a, fV.slot⟩] 1 A.slots.size := by
  refine Law.of_walk (plainFor_of_name (by decide +kernel)) (by decide +kernel) (by decide +kernel) (by decide) (fun _ _ h => by rw [h.1]; rfl) (fun _ U U' hal hh h => ⟨h.1, h.2.1.mv hal hh, h.2.2.1.al hal, h.2.2.2.1.al hal, h.2.2.2.2.1.mv hal hh, h.2.2.2.2.2.1.there hal hh, h.2.2.2.2.2.2⟩) (fun r U U' V V' h1 hal h2 h => Got.mv r U U' V V' h1 hal h2 h) ?_
  intro p e s m args below meth c s₁ X0 hexec hbytes hml hret hlk hnm hown hh0 W hP
  obtain ⟨rfl, hB, f1, f2, hA, s1, hz, l0, l2, hp⟩ := hP
  have c1 : Steps p.tables e below (s₁.setTop (entryFrame m #[.ref a, .ref b] 2)) (s₁.setTop (mkF m 0 #[.val (.ref a), .val (.ref b)] [])) := entry rfl
  have c2 : Steps p.tables e below (s₁.setTop (entryFrame m #[.ref a, .ref b] 2)) (s₁.setTop (mkF m 6 #[.val (.ref a), .val (.ref b)] [.null, .int (Int32.ofNat A.slots.size), .int 0, .ref b, .ref a])) := c1.trans (by
    refine XS.aloadN X0.here hexec rfl (hb hbytes d0) rfl rfl ?_
    refine XS.aloadN X0.here hexec rfl (hb hbytes d1) rfl rfl ?_
    refine iconstV X0.here hexec rfl 0 (hb hbytes d2) (by decide) ?_
    refine XS.aloadN X0.here hexec rfl (hb hbytes d3) rfl rfl ?_
    refine X0.alen hexec (hA.1.mv X0.warmed.alike hh0) rfl rfl (hb hbytes d4) ?_
    refine XS.aconstNull X0.here hexec rfl (hb hbytes d5) ?_
    exact Steps.refl _)
  obtain ⟨v3, T3, X3, E3, g3⟩ := X0.callN hexec (New4.law l a D fV fC b A z 0 A.slots.size) rfl hown (wks W (initW "java/lang/String" 27 New4.yN)) (W New4.tab (by simp only [site, List.mem_cons, List.mem_append, true_or, or_true])) (W := 0) (Nat.le_of_ble_eq_true rfl) (Nat.le_of_ble_eq_true rfl) (Nat.le_refl _) (by show 0 + A.slots.size ≤ A.slots.size; omega) (g := (mkF m 6 #[.val (.ref a), .val (.ref b)] [.null, .int (Int32.ofNat A.slots.size), .int (Int32.ofNat 0), .ref b, .ref a])) rfl (by rw [hml]; rfl) c2 (argsL := [.ref b, .int (Int32.ofNat 0), .int (Int32.ofNat A.slots.size), .null]) (rest := []) rfl rfl (by show 2 * 0 + 0 ≤ _; decide) (hb hbytes d6) (⟨rfl, hB.mv X0.warmed.alike hh0, f1.al X0.warmed.alike, f2.al X0.warmed.alike, hA.mv X0.warmed.alike hh0, s1.there X0.warmed.alike hh0, hz, l0, by omega, l2, fun i hi => by rw [Nat.zero_add]; exact hp i hi⟩)
  have e0 := Got.mv _ s₁ s _ _ hh0.symm (Vm.Alike.refl _) rfl E3
  obtain rfl := e0.1
  have c4 : Steps p.tables e below (s₁.setTop (entryFrame m #[.ref a, .ref b] 2)) (T3.setTop (mkF m 9 #[.val (.ref a), .val (.ref b)] [])) := g3
  exact ⟨T3, none, _, _, _, X3, by simp, rfl, by omega, (fun _ => rfl), e0, fun fs hl => c4.trans (X3.returnOut hexec hret (hb hbytes d9) hl)⟩
theorem pays {l : Launch} {R : Room} {p : Program} {e : Env} {below : List Frame} {s : State} {sargs : Array Value} {len W : Nat} (a : Addr) (D : Cell) (fV fC : Field) (b : Addr) (A : Cell) (z : Int32) (htab : tab.before sargs s = true) (hfr : 4 ≤ R.frames) (hlo : W + 65 ≤ R.locals) :
    Back l R p e below s sargs yN len W (fun A₁ a₁ => A₁.cells + 1 ≤ R.cells ∧ A₁.slots + A.slots.size ≤ R.slots ∧ P a D fV fC b A z a₁ A₁.U) (fun A₁ _ v₁ B₁ => E a D fV fC A v₁ A₁.U B₁.U ∧ B₁.locs = A₁.locs ++ [⟨a, fC.slot⟩, ⟨a, fV.slot⟩] ∧ B₁.cells = A₁.cells + 1 ∧ B₁.slots = A₁.slots + A.slots.size) :=
  (law l a D fV fC b A z).pays htab hfr (by omega)
end New1
end StrChars
namespace StrChars.Road
open Jvm Sem ClassFile Op Lib Jvm.Stand Jvm.Free Jvm.Free.XT
open Jvm.Lib.Cold (StaticIs)
abbrev ST : String := "java/lang/String"
/-- every table word that New1's law asks, flat -/
abbrev words : List Jvm.Cond := [.code New1.yN New1.yB 2 none, .initialized ST, .methodLink ST 27 New4.yN, .instanceMethod New4.yN,
  .code New4.yN New4.yB 6 none, .fieldLink ST 38 ST "COMPACT_STRINGS" "Z", .laysFinal ST ST "value" "[B", .fieldLink ST 9 ST "value" "[B", .laysFinal ST ST "coder" "B", .fieldLink ST 15 ST "coder" "B",
  .methodLink ST 1 Lib.objectInit, .instanceMethod Lib.objectInit, .code Lib.objectInit ⟨#[0xb1]⟩ 1 none, .methodLink ST 177 Cmp3.yN, .static Cmp3.yN, .methodLink ST 47 CodL.yN, .static CodL.yN,
  .code Cmp3.yN Cmp3.yB 6 (some (.array .byte)), .initialized U16, .arrayClass .byte, .methodLink U16 115 Cmp5.yN, .static Cmp5.yN, .code Cmp5.yN Cmp5.yB 7 (some .int), .code CodL.yN CodL.yB 2 (some .byte)]
theorem tab_of {a : Array Value} {s : State} (h : ∀ w ∈ words, w.before a s = true) : New1.tab.before a s = true := by
  have h5 : Cmp5.tab.before a s = true := unparts (wk h (.code Cmp5.yN Cmp5.yB 7 (some .int))) (wks h (.initialized Cmp5.yN.cls :: Cmp5.site))
  have hc : CodL.tab.before a s = true := unparts (wk h (.code CodL.yN CodL.yB 2 (some .byte))) (wks h (.initialized CodL.yN.cls :: CodL.site))
  have q5 : ∀ w ∈ Cmp5.tab :: words, w.before a s = true := fun w hw => (List.mem_cons.mp hw).elim (fun e => e ▸ h5) (h w)
  have h3 : Cmp3.tab.before a s = true := unparts (wk q5 (.code Cmp3.yN Cmp3.yB 6 (some (.array .byte)))) (wks q5 (.initialized Cmp3.yN.cls :: Cmp3.site))
  have q3 : ∀ w ∈ Cmp3.tab :: CodL.tab :: words, w.before a s = true := fun w hw => (List.mem_cons.mp hw).elim (fun e => e ▸ h3) fun hw => (List.mem_cons.mp hw).elim (fun e => e ▸ hc) (h w)
  have h4 : New4.tab.before a s = true := unparts (wk q3 (.code New4.yN New4.yB 6 none)) (wks q3 (.initialized New4.yN.cls :: New4.site))
  have q4 : ∀ w ∈ New4.tab :: words, w.before a s = true := fun w hw => (List.mem_cons.mp hw).elim (fun e => e ▸ h4) (h w)
  exact unparts (wk q4 (.code New1.yN New1.yB 2 none)) (wks q4 (.initialized New1.yN.cls :: New1.site))
/-- the words ride from the start Z to the walk's own state -/
theorem moved {Z s : State} {a0 args : Array Value} (hZ : Z.Warmed39 s.vm) (hw : ∀ d ∈ words, d.before a0 Z = true) : ∀ d ∈ words, d.before args s = true := fun d hd => by
  have q := hw d hd
  have t : ∀ d ∈ words, d = .arrayClass .byte ∨ (d.onTables && d.keepsFace) = true := by decide +kernel
  rcases t d hd with rfl | t
  · exact RoadKit.mvA hZ q
  · exact RoadKit.mv hZ q t
/-- WHAT COMES BACK, over the tables of the start Z: h the heap at the call, h' behind it -/
def Q (Z : State) (x : Addr) (A : Cell) (h : Heap) (v : Option Value) (h' : Heap) (L : List Loc) : Prop := v = none ∧ (∀ y ∈ L, y.base = x) ∧ RoadKit.Keep h h' [x] ∧ h'.size = h.size + 1 ∧ RoadKit.Exa Z h' x ST ∧ RoadKit.Fld Z h' x ST "value" "[B" (.ref h.size) ∧ RoadKit.Fld Z h' x ST "coder" "B" (.int 0) ∧
  (∃ V : Cell, RoadKit.Arr Z h' h.size V .byte ∧ V.vm = .none ∧ Z.vm.findClass "[B" = some V.cls ∧ V.slots.size = A.slots.size ∧ ∀ j, j < A.slots.size → V.slots[j]? = some (.int (lo8 (cv A j)))) ∧
  ∀ (O n d : String) (w : Value), RoadKit.Fld Z h x O n d w → RoadKit.slotOf Z O n d ≠ RoadKit.slotOf Z ST "value" "[B" → RoadKit.slotOf Z O n d ≠ RoadKit.slotOf Z ST "coder" "B" → RoadKit.Fld Z h' x O n d w
/-- **new String(chars) AT A CALL, IN THE ROAD'S FORM**: for specialBack behind newO: x the fresh String, b the char[] with the cell A -/
theorem back {p : Program} {l : Launch} {e : Env} {R : Room} {s : State} {args : Array Value} {below : List Frame} {len W : Nat} {Z : State} {a0 : Array Value} {h : Heap} (hZ : Z.Warmed39 s.vm) (hw : ∀ d ∈ words, d.before a0 Z = true) {kI : Nat} (wi : (Jvm.Cond.instantiable ST kI).before a0 Z = true)
    {x b : Addr} {A : Cell} {z : Int32} {v0 c0 : Value} (E : RoadKit.Exa Z h x ST) (V : RoadKit.Fld Z h x ST "value" "[B" v0) (C : RoadKit.Fld Z h x ST "coder" "B" c0) (K : RoadKit.Arr Z h b A .char) (hty : Typed .char A) (S : RoadKit.Sta Z h ST "COMPACT_STRINGS" "Z" (.int z)) (hz : ¬ z = 0)
    (l0 : 0 < A.slots.size) (l2 : A.slots.size ≤ 536870912) (hp : ∀ i, i < A.slots.size → ¬ 255 < cv A i) (hfr : 4 ≤ R.frames) (hlo : W + 65 ≤ R.locals) :
    Back l R p e below s args New1.yN len W (fun P a => a = #[.ref x, .ref b] ∧ P.U.heap = h ∧ P.cells + 1 ≤ R.cells ∧ P.slots + A.slots.size ≤ R.slots)
      (fun P _ v B => ∃ L, Q Z x A h v B.U.heap L ∧ B.locs = P.locs ++ L ∧ B.cells = P.cells + 1 ∧ B.slots = P.slots + A.slots.size) := by
  intro m meth c P g ig mk a X hg hsize hdg hW hn hp'
  obtain ⟨rfl, rfl, r1, r2⟩ := hp'
  have al : Z.vm.Alike P.U.vm := hZ.alike.trans X.warmed.alike
  obtain ⟨D, cfV, kV, iV, fV, hD, gV, stV, knV, obV, asV, slV⟩ := id V
  obtain ⟨D', cfC, kC, iC, fC, hD', gC, stC, -, -, asC, slC⟩ := id C
  cases hD.symm.trans hD'
  obtain ⟨D2, kD, e1, e2, e3, e4, e5⟩ := id E
  cases hD.symm.trans e1
  obtain ⟨c2, k2, i1, i2, i3, -⟩ := Cond.instantiable_spec wi
  cases e2.symm.trans i1
  cases e3.symm.trans i2
  obtain ⟨kU, u1, u2⟩ := al.2.2 _ _ e3
  have hB : Blank ST x D P.U := ⟨hD, ⟨knV, fun q hq => by rw [hq] at obV; cases obV⟩, by rw [al.findClass]; exact e2, kU, u1, by rw [u2]; exact i3, by rw [u2]; exact e5 i3⟩
  have F1 : Found ST "value" "[B" fV P.U := ⟨SBG.found_only al ⟨cfV, kV, iV, gV⟩, stV⟩
  have F2 : Found ST "coder" "B" fC P.U := ⟨SBG.found_only al ⟨cfC, kC, iC, gC⟩, stC⟩
  have hA : Ch b A P.U := ⟨⟨K.1, State.isArrayOf_alike al K.2.1, K.2.2, by omega⟩, hty⟩
  have hS : StaticIs P.U ST "COMPACT_STRINGS" "Z" (.int z) := by
    obtain ⟨cfS, iS, kS, fS, st, cS, t1, t2, t3, t4, t5, t6, t7⟩ := S
    exact StaticIs.there (s := { Z with heap := P.U.heap }) ⟨cfS, iS, kS, fS, st, cS, t1, t2, t3, t4, t5, (fun q => by rw [q] at t6; cases t6), t7⟩ al rfl
  obtain ⟨v, B, X', ⟨⟨hv, E', V', q1, q2, q3, q4, q5, q6, q7, q8, q9, q10, q11⟩, hl, hc, hs⟩, st⟩ := New1.pays x D fV fC b A z (tab_of (moved hZ hw)) hfr hlo m meth c P g ig mk _ X hg hsize hdg hW hn ⟨r1, r2, rfl, hB, F1, F2, hA, hS, hz, l0, l2, hp⟩
  have al' : Z.vm.Alike B.U.vm := hZ.alike.trans X'.warmed.alike
  have hsz : E'.slots.size = D.slots.size := by
    obtain ⟨-, -, -, kB, w1, w2, w3⟩ := q1
    obtain ⟨kB', y1, y2⟩ := al'.2.2 _ _ e3
    rw [q2.2.1] at w1
    cases w1.symm.trans y1
    rw [w3, e5 i3, y2]
  refine ⟨v, B, X', ⟨_, ⟨hv, ?_, ⟨by omega, fun y cy hy hn' => q10 y cy (by simpa using hn') hy, fun y cy hy => ?_⟩, q11, ⟨E', _, q1.1, by rw [q2.2.1]; exact e2, by rw [q2.2.1]; exact e3, by rw [q2.1]; exact obV, fun _ => by rw [hsz]; exact e5 i3⟩,
    ⟨E', cfV, kV, iV, fV, q1.1, gV, stV, by rw [q2.1]; exact knV, by rw [q2.1]; exact obV, by rw [q2.2.1]; exact asV, q3⟩, ⟨E', cfC, kC, iC, fC, q1.1, gC, stC, by rw [q2.1]; exact knV, by rw [q2.1]; exact obV, by rw [q2.2.1]; exact asC, q4⟩,
    ⟨V', ⟨q5.1, State.isArrayOf_alike al'.symm q5.2.1, q5.2.2.1⟩, q6, by rw [← al'.findClass]; exact q7, q8, fun j hj => by have := q9 j hj; rwa [Nat.zero_add] at this⟩, fun O n d w F n1 n2 => ?_⟩, hl, hc, hs⟩, st⟩
  · intro y hy
    simp only [List.mem_cons, List.not_mem_nil, or_false] at hy
    rcases hy with rfl | rfl <;> rfl
  · by_cases q : y = x
    · subst q
      cases hD.symm.trans hy
      exact ⟨E', q1.1, q2.2.1, q2.1, hsz⟩
    · exact ⟨cy, q10 y cy q hy, rfl, rfl, rfl⟩
  · obtain ⟨D3, cf, k, i, f, g1, g2, g3, g4, g5, g6, g7⟩ := F
    cases hD.symm.trans g1
    simp only [RoadKit.slotOf, g2, gV, gC, Option.map_some, Option.getD_some] at n1 n2
    exact ⟨E', cf, k, i, f, q1.1, g2, g3, by rw [q2.1]; exact g4, by rw [q2.1]; exact g5, by rw [q2.2.1]; exact g6, by rw [q2.2.2 f.slot (by simp [n1, n2])]; exact g7⟩
end StrChars.Road
namespace StrChars.Road
open Jvm Sem ClassFile Op Lib Jvm.Stand Jvm.Free Jvm.Free.XT
/-- WHAT COMES BACK, the byte[] as a list of values -/
def QA (Z : State) (x : Addr) (zn : Int32) (cs : List Int32) (h : Heap) (v : Option Value) (h' : Heap) (L : List Loc) : Prop := v = none ∧ (∀ y ∈ L, y.base = x) ∧ RoadKit.Keep h h' [x] ∧ h'.size = h.size + 1 ∧ RoadKit.Exa Z h' x ST ∧ RoadKit.Fld Z h' x ST "value" "[B" (.ref h.size) ∧ RoadKit.Fld Z h' x ST "coder" "B" (.int 0) ∧
  (∃ kb, Z.vm.findClass "[B" = some kb ∧ RoadKit.Arv Z h' h.size kb .byte zn (cs.map fun c => .int (lo8 c)) (.int 0)) ∧
  ∀ (O n d : String) (w : Value), RoadKit.Fld Z h x O n d w → RoadKit.slotOf Z O n d ≠ RoadKit.slotOf Z ST "value" "[B" → RoadKit.slotOf Z O n d ≠ RoadKit.slotOf Z ST "coder" "B" → RoadKit.Fld Z h' x O n d w
/-- **new String(chars) AT A CALL, THE ARRAYS AS LISTS**: the char[] at b holds cs, not empty, no char above 255 -/
theorem backArv {p : Program} {l : Launch} {e : Env} {R : Room} {s : State} {args : Array Value} {below : List Frame} {len W : Nat} {Z : State} {a0 : Array Value} {h : Heap} (hZ : Z.Warmed39 s.vm) (hw : ∀ d ∈ words, d.before a0 Z = true) {kI : Nat} (wi : (Jvm.Cond.instantiable ST kI).before a0 Z = true)
    {x b : Addr} {k : ClassId} {zn z : Int32} {cs : List Int32} {dv v0 c0 : Value} (E : RoadKit.Exa Z h x ST) (V : RoadKit.Fld Z h x ST "value" "[B" v0) (C : RoadKit.Fld Z h x ST "coder" "B" c0) (K : RoadKit.Arv Z h b k .char zn (cs.map Value.int) dv) (S : RoadKit.Sta Z h ST "COMPACT_STRINGS" "Z" (.int z)) (hz : ¬ z = 0)
    (hlen : zn.toNatClampNeg = cs.length) (h0 : 0 < cs.length) (hbig : cs.length ≤ 536870912) (hall : ∀ c ∈ cs, ¬ 255 < c) (hfr : 4 ≤ R.frames) (hlo : W + 65 ≤ R.locals) :
    Back l R p e below s args New1.yN len W (fun P a => a = #[.ref x, .ref b] ∧ P.U.heap = h ∧ P.cells + 1 ≤ R.cells ∧ P.slots + cs.length ≤ R.slots)
      (fun P _ v B => ∃ L, QA Z x zn cs h v B.U.heap L ∧ B.locs = P.locs ++ L ∧ B.cells = P.cells + 1 ∧ B.slots = P.slots + cs.length) := by
  obtain ⟨A, K1, K2, K3, K4, K5, K6⟩ := K
  have e : A.slots.size = cs.length := K3.trans hlen
  have hat : ∀ (i : Nat) (hi : i < cs.length), A.slots[i]? = some (.int cs[i]) := fun i hi => by rw [K5 i (by omega)]; simp [List.getD_eq_getElem?_getD, hi]
  have hcv : ∀ (i : Nat) (hi : i < cs.length), cv A i = cs[i] := fun i hi => by unfold cv; rw [hat i hi]
  have hty : Typed .char A := fun i v hv => by
    have hi : i < A.slots.size := (Array.getElem?_eq_some_iff.mp hv).1
    have q := K5 i hi
    rw [hv] at q
    rw [Option.some.inj q]
    exact K6 i hi
  refine Back.mono (back hZ hw wi E V C K1 hty S hz (by omega) (by omega) (fun i hi => by rw [hcv i (by omega)]; exact hall _ (List.getElem_mem _)) hfr hlo) (fun P a hp => ⟨hp.1, hp.2.1, hp.2.2.1, by rw [e]; exact hp.2.2.2⟩) (fun P a v B hp hq => ?_)
  obtain ⟨L, ⟨q1, q2, q3, q4, q5, q6, q7, ⟨V', v1, v2, v3, v4, v5⟩, q9⟩, hl, hc, hs⟩ := hq
  refine ⟨L, ⟨q1, q2, q3, q4, q5, q6, q7, ⟨V'.cls, v3, V', v1, rfl, by rw [v4, e, hlen], K4, fun i hi => ?_, fun i hi => ?_⟩, q9⟩, hl, hc, by rw [hs, e]⟩
  · have hi' : i < cs.length := by omega
    rw [v5 i (by omega), hcv i hi']; simp [List.getD_eq_getElem?_getD, hi']
  · have hi' : i < cs.length := by omega
    simp only [List.getD_eq_getElem?_getD, List.getElem?_map, List.getElem?_eq_getElem hi', Option.map_some, Option.getD_some]
    exact fits_lo8 _
end StrChars.Road
namespace StrChars.Road
open Jvm Sem ClassFile Op Lib Jvm.Stand Jvm.Free Jvm.Free.XT
/-- WHAT COMES BACK, in the writer's own shape -/
def QV (Z : State) (x : Addr) (N : Int32) (bs : List Int32) (h : Heap) (n0 : Nat) (v : Option Value) (h' : Heap) (L : List Loc) : Prop := v = none ∧ RoadKit.Fr n0 L ∧ RoadKit.Keep h h' [x] ∧ RoadKit.Exa Z h' x ST ∧ RoadKit.Fld Z h' x ST "coder" "B" (.int 0) ∧
  ∃ (t : Addr) (kb : ClassId), n0 ≤ t ∧ h.size ≤ t ∧ ¬ t = x ∧ RoadKit.Fld Z h' x ST "value" "[B" (.ref t) ∧ RoadKit.Arv Z h' t kb .byte N (bs.map Value.int) (.int 0)
/-- **new String(chars) AT A CALL, FOR THE WRITER**: a char[] of n known ints, each 0 to 255 -/
theorem backV {p : Program} {l : Launch} {e : Env} {R : Room} {s : State} {args : Array Value} {below : List Frame} {len W : Nat} {Z : State} {a0 : Array Value} {h : Heap} (hZ : Z.Warmed39 s.vm) (hw : ∀ d ∈ words, d.before a0 Z = true) {kI : Nat} (wi : (Jvm.Cond.instantiable ST kI).before a0 Z = true)
    {x b : Addr} {kC : ClassId} {cs bs : List Int32} {d v0 c0 : Value} {z N : Int32} {n n0 : Nat} (hx0 : n0 ≤ x) (hh0 : n0 ≤ h.size) (E : RoadKit.Exa Z h x ST) (V : RoadKit.Fld Z h x ST "value" "[B" v0) (C : RoadKit.Fld Z h x ST "coder" "B" c0) (K : RoadKit.Arv Z h b kC .char N (cs.map Value.int) d) (S : RoadKit.Sta Z h ST "COMPACT_STRINGS" "Z" (.int z)) (hz : ¬ z = 0)
    (hn : cs.length = n) (hN : N = Int32.ofNat n) (l0 : 0 < n) (l2 : n ≤ 4000) (hp : ∀ c ∈ cs, ¬ c < 0 ∧ ¬ (255 : Int32) < c) (hb : bs = cs.map (fun c => c.toInt8.toInt32)) (hfr : 4 ≤ R.frames) (hlo : W + 65 ≤ R.locals) :
    Back l R p e below s args (⟨"java/lang/String", "<init>", "([C)V"⟩ : MethodName) len W (fun P a => a = #[.ref x, .ref b] ∧ P.U.heap = h ∧ P.cells + 1 ≤ R.cells ∧ P.slots + n ≤ R.slots)
      (fun P _ v B => ∃ L, QV Z x N bs h n0 v B.U.heap L ∧ B.locs = P.locs ++ L ∧ B.cells = P.cells + 1 ∧ B.slots = P.slots + n) := by
  subst hn hN hb
  refine Back.mono (backArv hZ hw wi E V C K S hz (n32 (by omega)) l0 (by omega) (fun c hc => (hp c hc).2) hfr hlo) (fun P a hp => hp) (fun P a v B hp hq => ?_)
  obtain ⟨L, ⟨q1, q2, q3, q4, q5, q6, q7, ⟨kb, v1, v2⟩, q9⟩, hl, hc, hs⟩ := hq
  exact ⟨L, ⟨q1, fun y hy => by rw [q2 y hy]; exact hx0, q3, q5, q7, h.size, kb, hh0, Nat.le_refl _, Nat.ne_of_gt E.lt, q6, by rw [List.map_map]; exact v2⟩, hl, hc, hs⟩
end StrChars.Road
namespace StrChars
open Jvm Sem ClassFile Op Lib Jvm.Stand Jvm.Free.XT Jvm.Free.ALB Jvm.Free.JM Jvm.Free
open Jvm.Lib.Cold (StaticIs)
def hi8 (x : Int32) : Int32 := lo8 (x >>> ((8 : Int32) &&& 31))
theorem shr0 (c : Int32) : c >>> ((0 : Int32) &&& 31) = c := by
  have e : ((0 : Int32) &&& 31) = 0 := by decide
  rw [e]
  apply Int32.toBitVec_inj.mp
  rw [Int32.toBitVec_shiftRight]
  have e1 : ((0 : Int32).toBitVec.smod 32) = 0#32 := by decide
  rw [e1, BitVec.sshiftRight_eq']
  exact BitVec.sshiftRight_zero
end StrChars
namespace StrChars
open Jvm Sem ClassFile Op Lib Jvm.Stand Jvm.Free.XT Jvm.Free.ALB Jvm.Free.JM Jvm.Free
open Jvm.Lib.Cold (StaticIs)
theorem shr1 {n : Nat} (h : 2 * n < 2 ^ 31) : Int32.ofNat (2 * n) >>> ((1 : Int32) &&& 31) = Int32.ofNat n := by
  have e : ((1 : Int32) &&& 31) = 1 := by decide
  rw [e]
  apply Int32.toBitVec_inj.mp
  rw [Int32.toBitVec_shiftRight]
  have e1 : ((1 : Int32).toBitVec.smod 32) = 1#32 := by decide
  have hm : (BitVec.ofNat 32 (2 * n)).toNat = 2 * n := by rw [BitVec.toNat_ofNat, Nat.mod_eq_of_lt (by omega)]
  rw [e1, BitVec.sshiftRight_eq']
  apply BitVec.eq_of_toNat_eq
  show ((BitVec.ofNat 32 (2 * n)).sshiftRight 1).toNat = (BitVec.ofNat 32 n).toNat
  rw [BitVec.toNat_sshiftRight_of_msb_false (by rw [BitVec.msb_eq_false_iff_two_mul_lt, hm]; omega), hm, BitVec.toNat_ofNat, Nat.shiftRight_eq_div_pow]
  omega
/-- the array's cell V codes the n chars f 0 .. f (n - 1) by the coder cd, as the JDK does: coder 1 just where some char is above 255 -/
def Cod (cd : Int32) (n : Nat) (f : Nat → Int32) (V : Cell) : Prop := (cd = 0 ∧ V.slots.size = n ∧ ∀ j, j < n → V.slots[j]? = some (.int (lo8 (f j))) ∧ ¬ 255 < f j) ∨ (cd = 1 ∧ V.slots.size = 2 * n ∧ (∀ j, j < n → V.slots[2 * j]? = some (.int (lo8 (f j))) ∧ V.slots[2 * j + 1]? = some (.int (hi8 (f j)))) ∧ ∃ j, j < n ∧ 255 < f j)
theorem Cod.cd {cd : Int32} {n : Nat} {f : Nat → Int32} {V : Cell} (h : Cod cd n f V) : cd = 0 ∨ cd = 1 := h.imp (fun q => q.1) fun q => q.1
theorem Cod.len {cd : Int32} {n : Nat} {f : Nat → Int32} {V : Cell} (h : Cod cd n f V) (hs : V.slots.size < 2 ^ 31) : Int32.ofNat V.slots.size >>> (cd &&& 31) = Int32.ofNat n := by
  rcases h with ⟨rfl, h, -⟩ | ⟨rfl, h, -⟩
  · rw [shr0, h]
  · rw [h, shr1 (by omega)]
/-- **x is a String of the n chars f 0 .. f (n - 1)**, Latin-1 or UTF-16; its array at t has the cell V -/
def Txt (x t : Addr) (V : Cell) (cd : Int32) (n : Nat) (f : Nat → Int32) (U : State) : Prop := Exact "java/lang/String" x U ∧ Has x "java/lang/String" "value" "[B" (.ref t) U ∧ Has x "java/lang/String" "coder" "B" (.int cd) U ∧ XT.Arr .byte t V U ∧ Cod cd n f V ∧ ∀ j, j < n → ¬ f j < 0 ∧ ¬ 65535 < f j
theorem Txt.mv {x t : Addr} {V : Cell} {cd : Int32} {n : Nat} {f : Nat → Int32} {U U' : State} (h : Txt x t V cd n f U) (hal : U.vm.Alike U'.vm) (hh : U'.heap = U.heap) : Txt x t V cd n f U' := ⟨h.1.mv hal hh, h.2.1.mv hal hh, h.2.2.1.mv hal hh, h.2.2.2.1.mv hal hh, h.2.2.2.2⟩
namespace Cdr
def yN : MethodName := ⟨"java/lang/String", "coder", "()B"⟩
abbrev yB : ByteArray := jdk_42_method_152_code
theorem d0 : decode yB 0 = .ok (.getstatic 38, 3) := by decide +kernel
theorem d3 : decode yB 3 = .ok (.ifCond (.eq) 10, 3) := by decide +kernel
theorem d6 : decode yB 6 = .ok (.aload_n 0, 1) := by decide +kernel
theorem d7 : decode yB 7 = .ok (.getfield 15, 3) := by decide +kernel
theorem d10 : decode yB 10 = .ok (.goto 4, 3) := by decide +kernel
theorem d14 : decode yB 14 = .ok (.ireturn, 1) := by decide +kernel
def site : List Cond := [.fieldLink "java/lang/String" 38 "java/lang/String" "COMPACT_STRINGS" "Z", .fieldLink "java/lang/String" 15 "java/lang/String" "coder" "B"]
def tab : Cond := tabOf yN yB 1 (some .byte) site
def P (x : Addr) (cd z : Int32) (args : Array Value) (s : State) : Prop := args = #[.ref x] ∧ Has x "java/lang/String" "coder" "B" (.int cd) s ∧ (cd = 0 ∨ cd = 1) ∧ StaticIs s "java/lang/String" "COMPACT_STRINGS" "Z" (.int z) ∧ ¬ z = 0
def E (cd : Int32) (r : Option Value) (s u : State) : Prop := XT.PureE (some (.int cd)) r s u
theorem law (l : Launch) (x : Addr) (cd z : Int32) : Law l yN 1 0 0 0 yB 1 (some .byte) site (P x cd z) (E cd) [] 0 0 := by
  refine Law.of_walk (plainFor_of_name (by decide +kernel)) (by decide +kernel) (by decide +kernel) (by decide) (fun _ _ h => by rw [h.1]; rfl) (fun _ U U' hal hh h => ⟨h.1, h.2.1.mv hal hh, h.2.2.1, h.2.2.2.1.there hal hh, h.2.2.2.2⟩) (fun r U U' V V' h1 hal h2 h => XT.PureE.mv r U U' V V' h1 hal h2 h) ?_
  intro p e s m args below meth c s₁ X0 hexec hbytes hml hret hlk hnm hown hh0 W hP
  obtain ⟨rfl, hx, hc, s1, hz⟩ := hP
  have c1 : Steps p.tables e below (s₁.setTop (entryFrame m #[.ref x] 1)) (s₁.setTop (mkF m 0 #[.val (.ref x)] [])) := entry rfl
  obtain ⟨T2, X2, q2, st2⟩ := X0.sget hexec hown (wk W (.fieldLink "java/lang/String" 38 "java/lang/String" "COMPACT_STRINGS" "Z")) s1 (fun _ _ h => by rw [hh0]; exact h) (g := (mkF m 0 #[.val (.ref x)] [])) rfl (hb hbytes d0)
  have hh2 := q2.trans hh0
  have c3 : Steps p.tables e below (s₁.setTop (entryFrame m #[.ref x] 1)) (T2.setTop (mkF m 7 #[.val (.ref x)] [.ref x])) := (c1.trans (st2 _ (Steps.refl _))).trans (by
    refine XS.ifNo X2.here hexec rfl (hb hbytes d3) rfl (i0_eq_f hz) ?_
    refine XS.aloadN X2.here hexec rfl (hb hbytes d6) rfl rfl ?_
    exact Steps.refl _)
  obtain ⟨T4, X4, q4, st4⟩ := X2.hget hexec hown (wk W (.fieldLink "java/lang/String" 15 "java/lang/String" "coder" "B")) (hx.mv X2.warmed.alike hh2) (g := (mkF m 7 #[.val (.ref x)] [.ref x])) rfl (rest := []) rfl (hb hbytes d7)
  have c5 : Steps p.tables e below (s₁.setTop (entryFrame m #[.ref x] 1)) (T4.setTop (mkF m 14 #[.val (.ref x)] [.int cd])) := (c3.trans (st4 _ (Steps.refl _))).trans (by
    refine XS.goto X4.here hexec rfl (pc0 := 10) rfl (hb hbytes d10) (by decide) rfl ?_
    exact Steps.refl _)
  exact ⟨T4, some (.int cd), _, _, _, X4, rfl, rfl, rfl, (fun h => by cases h), ⟨rfl, q4.trans hh2⟩, fun fs hl => c5.trans (X4.ireturnOut hexec hret (by rcases hc with rfl | rfl <;> rfl) (Or.inr (Or.inr (Or.inl rfl))) (hb hbytes d14) hl)⟩
end Cdr
namespace Len
def yN : MethodName := ⟨"java/lang/String", "length", "()I"⟩
abbrev yB : ByteArray := jdk_42_method_54_code
theorem d0 : decode yB 0 = .ok (.aload_n 0, 1) := by decide +kernel
theorem d1 : decode yB 1 = .ok (.getfield 9, 3) := by decide +kernel
theorem d4 : decode yB 4 = .ok (.arraylength, 1) := by decide +kernel
theorem d5 : decode yB 5 = .ok (.aload_n 0, 1) := by decide +kernel
theorem d6 : decode yB 6 = .ok (.invokevirtual 335, 3) := by decide +kernel
theorem d9 : decode yB 9 = .ok (.ishr, 1) := by decide +kernel
theorem d10 : decode yB 10 = .ok (.ireturn, 1) := by decide +kernel
def site : List Cond := [.fieldLink "java/lang/String" 9 "java/lang/String" "value" "[B", Cdr.tab] ++ virtW "java/lang/String" 335 "java/lang/String" Cdr.yN Cdr.yN
def tab : Cond := tabOf yN yB 1 (some .int) site
def P (x t : Addr) (V : Cell) (cd : Int32) (n : Nat) (f : Nat → Int32) (z : Int32) (args : Array Value) (s : State) : Prop := args = #[.ref x] ∧ Txt x t V cd n f s ∧ StaticIs s "java/lang/String" "COMPACT_STRINGS" "Z" (.int z) ∧ ¬ z = 0
def E (n : Nat) (r : Option Value) (s u : State) : Prop := XT.PureE (some (.int (Int32.ofNat n))) r s u
/-- length() of a String of n chars, in either coding -/
theorem law (l : Launch) (x t : Addr) (V : Cell) (cd : Int32) (n : Nat) (f : Nat → Int32) (z : Int32) : Law l yN 1 0 1 13 yB 1 (some .int) site (P x t V cd n f z) (E n) [] 0 0 := by
  refine Law.of_walk (plainFor_of_name (by decide +kernel)) (by decide +kernel) (by decide +kernel) (by decide) (fun _ _ h => by rw [h.1]; rfl) (fun _ U U' hal hh h => ⟨h.1, h.2.1.mv hal hh, h.2.2.1.there hal hh, h.2.2.2⟩) (fun r U U' V V' h1 hal h2 h => XT.PureE.mv r U U' V V' h1 hal h2 h) ?_
  intro p e s m args below meth c s₁ X0 hexec hbytes hml hret hlk hnm hown hh0 W hP
  obtain ⟨rfl, hx, s1, hz⟩ := hP
  have v31 := hx.2.2.2.1.2.2.2
  have c1 : Steps p.tables e below (s₁.setTop (entryFrame m #[.ref x] 1)) (s₁.setTop (mkF m 1 #[.val (.ref x)] [.ref x])) := Steps.trans (entry rfl) (by
    show Steps p.tables e below (s₁.setTop (mkF m 0 #[.val (.ref x)] [])) _
    refine XS.aloadN X0.here hexec rfl (hb hbytes d0) rfl rfl ?_
    exact Steps.refl _)
  obtain ⟨T2, X2, q2, st2⟩ := X0.hget hexec hown (wk W (.fieldLink "java/lang/String" 9 "java/lang/String" "value" "[B")) (hx.mv X0.warmed.alike hh0).2.1 (g := (mkF m 1 #[.val (.ref x)] [.ref x])) rfl (rest := []) rfl (hb hbytes d1)
  have hh2 := q2.trans hh0
  have hx2 := hx.mv X2.warmed.alike hh2
  have c3 : Steps p.tables e below (s₁.setTop (entryFrame m #[.ref x] 1)) (T2.setTop (mkF m 6 #[.val (.ref x)] [.ref x, .int (Int32.ofNat V.slots.size)])) := (c1.trans (st2 _ (Steps.refl _))).trans (by
    refine X2.alen hexec hx2.2.2.2.1 rfl rfl (hb hbytes d4) ?_
    refine XS.aloadN X2.here hexec rfl (hb hbytes d5) rfl rfl ?_
    exact Steps.refl _)
  obtain ⟨v4, T4, X4, E4, g4⟩ := X2.callV hexec (Cdr.law l x cd z) hown (wks W (virtW "java/lang/String" 335 "java/lang/String" Cdr.yN Cdr.yN)) rfl (by decide) (wk W Cdr.tab) (W := 1) (Nat.le_of_ble_eq_true rfl) (Nat.le_of_ble_eq_true rfl) (Nat.le_refl _) (Nat.le_refl _) (hx2.1.fc X2.warmed.alike) hx2.1.is (g := (mkF m 6 #[.val (.ref x)] [.ref x, .int (Int32.ofNat V.slots.size)])) rfl (by rw [hml]; rfl) c3 (argsL := []) (rest := [.int (Int32.ofNat V.slots.size)]) rfl rfl (by show 2 * 0 + (1 + 0) ≤ _; decide) (hb hbytes d6) (⟨rfl, hx2.2.2.1, hx.2.2.2.2.1.cd, s1.there X2.warmed.alike hh2, hz⟩)
  obtain ⟨rfl, q4⟩ := E4
  have c5 : Steps p.tables e below (s₁.setTop (entryFrame m #[.ref x] 1)) (T4.setTop (mkF m 10 #[.val (.ref x)] [.int (Int32.ofNat V.slots.size >>> (cd &&& 31))])) := Steps.trans g4 (by
    refine ishr X4.here hexec rfl (hb hbytes d9) rfl ?_
    exact Steps.refl _)
  rw [hx.2.2.2.2.1.len v31] at c5
  exact ⟨T4, some (.int (Int32.ofNat n)), _, _, _, X4, rfl, rfl, rfl, (fun h => by cases h), ⟨rfl, q4.trans hh2⟩, fun fs hl => c5.trans (X4.ireturnOut hexec hret rfl (Or.inl rfl) (hb hbytes d10) hl)⟩
theorem pays {l : Launch} {R : Room} {p : Program} {e : Env} {below : List Frame} {s : State} {sargs : Array Value} {len W : Nat} (x t : Addr) (V : Cell) (cd : Int32) (n : Nat) (f : Nat → Int32) (z : Int32) (htab : tab.before sargs s = true) (hfr : 2 ≤ R.frames) (hlo : W + 25 ≤ R.locals) :
    Back l R p e below s sargs yN len W (fun A₁ a₁ => A₁.cells + 0 ≤ R.cells ∧ A₁.slots + 0 ≤ R.slots ∧ P x t V cd n f z a₁ A₁.U) (fun A₁ _ v₁ B₁ => E n v₁ A₁.U B₁.U ∧ B₁.locs = A₁.locs ++ [] ∧ B₁.cells = A₁.cells + 0 ∧ B₁.slots = A₁.slots + 0) :=
  (law l x t V cd n f z).pays htab hfr (by omega)
end Len
end StrChars
namespace StrChars.Road
open Jvm Sem ClassFile Op Lib Jvm.Stand Jvm.Free Jvm.Free.XT
open Jvm.Lib.Cold (StaticIs)
theorem consq {a : Array Value} {s : State} {c : Jvm.Cond} {L : List Jvm.Cond} (h0 : c.before a s = true) (h : ∀ w ∈ L, w.before a s = true) : ∀ w ∈ c :: L, w.before a s = true := fun w hw => (List.mem_cons.mp hw).elim (fun e => e ▸ h0) (h w)
/-- the words of String.length(), either coding -/
abbrev wordsLen : List Jvm.Cond := [.code Len.yN Len.yB 1 (some .int), .initialized ST, .fieldLink ST 9 ST "value" "[B", .fieldLink ST 38 ST "COMPACT_STRINGS" "Z", .fieldLink ST 15 ST "coder" "B", .code Cdr.yN Cdr.yB 1 (some .byte), .methodLink ST 335 Cdr.yN, .declares Cdr.yN, .selects ST Cdr.yN Cdr.yN, .instanceMethod Cdr.yN]
theorem tabLen_of {a : Array Value} {s : State} (h : ∀ w ∈ wordsLen, w.before a s = true) : Len.tab.before a s = true := by
  have hc : Cdr.tab.before a s = true := unparts (wk h (.code Cdr.yN Cdr.yB 1 (some .byte))) (wks h (.initialized Cdr.yN.cls :: Cdr.site))
  have q := consq hc h
  exact unparts (wk q (.code Len.yN Len.yB 1 (some .int))) (wks q (.initialized Len.yN.cls :: Len.site))
theorem movedLen {Z s : State} {a0 args : Array Value} (hZ : Z.Warmed39 s.vm) (hw : ∀ d ∈ wordsLen, d.before a0 Z = true) : ∀ d ∈ wordsLen, d.before args s = true := fun d hd => by
  have q := hw d hd
  have t : ∀ d ∈ wordsLen, d = .arrayClass .byte ∨ (d.onTables && d.keepsFace) = true := by decide +kernel
  rcases t d hd with rfl | t
  · exact RoadKit.mvA hZ q
  · exact RoadKit.mv hZ q t
/-- the bytes of the chars cs, low before high -/
def wideBytes : List Int32 → List Value
  | [] => []
  | c :: cs => .int (lo8 c) :: .int (hi8 c) :: wideBytes cs
theorem wide_lo (d : Value) : ∀ (cs : List Int32) (j : Nat), j < cs.length → (wideBytes cs).getD (2 * j) d = .int (lo8 (cs.getD j 0))
  | [], j, h => absurd h (Nat.not_lt_zero j)
  | c :: cs, 0, _ => rfl
  | c :: cs, j + 1, h => by
    have q := wide_lo d cs j (by simpa using h)
    rw [show 2 * (j + 1) = 2 * j + 1 + 1 from by omega]
    simpa [wideBytes] using q
theorem wide_hi (d : Value) : ∀ (cs : List Int32) (j : Nat), j < cs.length → (wideBytes cs).getD (2 * j + 1) d = .int (hi8 (cs.getD j 0))
  | [], j, h => absurd h (Nat.not_lt_zero j)
  | c :: cs, 0, _ => rfl
  | c :: cs, j + 1, h => by
    have q := wide_hi d cs j (by simpa using h)
    rw [show 2 * (j + 1) + 1 = 2 * j + 1 + 1 + 1 from by omega]
    simpa [wideBytes] using q
theorem low_at (d : Value) (cs : List Int32) (j : Nat) (h : j < cs.length) : (cs.map fun c => Value.int (lo8 c)).getD j d = .int (lo8 (cs.getD j 0)) := by
  simp [List.getD_eq_getElem?_getD, h]
/-- an array of N2 bytes vs codes the chars cs by the coder cd -/
def CodA (cs : List Int32) (cd N2 : Int32) (vs : List Value) : Prop := (cd = 0 ∧ N2 = Int32.ofNat cs.length ∧ vs = (cs.map fun c => Value.int (lo8 c)) ∧ ∀ c ∈ cs, ¬ 255 < c) ∨ (cd = 1 ∧ N2 = Int32.ofNat (2 * cs.length) ∧ vs = wideBytes cs ∧ ∃ c ∈ cs, 255 < c)
theorem CodA.cod {cs : List Int32} {cd N2 : Int32} {vs : List Value} {V : Cell} (h : CodA cs cd N2 vs) (hn : 2 * cs.length < 2 ^ 31) (hs : V.slots.size = N2.toNatClampNeg) (hv : RoadKit.Has V vs (.int 0)) : Cod cd cs.length (fun j => cs.getD j 0) V := by
  rcases h with ⟨rfl, rfl, rfl, h⟩ | ⟨rfl, rfl, rfl, c, hc, hw⟩
  · rw [n32 (by omega)] at hs
    exact Or.inl ⟨rfl, hs, fun j hj => ⟨by rw [hv j (by omega), low_at _ _ _ hj], by
      have e : cs.getD j 0 = cs[j] := by simp [List.getD_eq_getElem?_getD, hj]
      show ¬ 255 < cs.getD j 0
      rw [e]; exact h _ (List.getElem_mem _)⟩⟩
  · rw [n32 (by omega)] at hs
    obtain ⟨j, hj, rfl⟩ := List.getElem_of_mem hc
    exact Or.inr ⟨rfl, hs, fun j hj => ⟨by rw [hv _ (by omega), wide_lo _ _ _ hj], by rw [hv _ (by omega), wide_hi _ _ _ hj]⟩, j, hj, by
      have e : cs.getD j 0 = cs[j] := by simp [List.getD_eq_getElem?_getD, hj]
      show 255 < cs.getD j 0
      rw [e]; exact hw⟩
/-- an object of exactly java/lang/String, its two fields found: as the laws ask it -/
theorem strObj {Z U : State} {a0 : Array Value} {kI : Nat} (wi : (Jvm.Cond.instantiable ST kI).before a0 Z = true) (al : Z.vm.Alike U.vm) {x : Addr} {v0 c0 : Value} (E : RoadKit.Exa Z U.heap x ST) (V : RoadKit.Fld Z U.heap x ST "value" "[B" v0) (C : RoadKit.Fld Z U.heap x ST "coder" "B" c0) :
    ∃ (D : Cell) (fV fC : Field), Blank ST x D U ∧ Found ST "value" "[B" fV U ∧ Found ST "coder" "B" fC U ∧ D.slots[fV.slot]? = some v0 ∧ D.slots[fC.slot]? = some c0 ∧ RoadKit.slotOf Z ST "value" "[B" = fV.slot ∧ RoadKit.slotOf Z ST "coder" "B" = fC.slot := by
  obtain ⟨D, cfV, kV, iV, fV, hD, gV, stV, knV, obV, asV, slV⟩ := V
  obtain ⟨D', cfC, kC, iC, fC, hD', gC, stC, -, -, asC, slC⟩ := C
  cases hD.symm.trans hD'
  obtain ⟨D2, kD, e1, e2, e3, e4, e5⟩ := E
  cases hD.symm.trans e1
  obtain ⟨c2, k2, i1, i2, i3, -⟩ := Cond.instantiable_spec wi
  cases e2.symm.trans i1
  cases e3.symm.trans i2
  obtain ⟨kU, u1, u2⟩ := al.2.2 _ _ e3
  exact ⟨D, fV, fC, ⟨hD, ⟨knV, fun q hq => by rw [hq] at obV; cases obV⟩, by rw [al.findClass]; exact e2, kU, u1, by rw [u2]; exact i3, by rw [u2]; exact e5 i3⟩, ⟨SBG.found_only al ⟨cfV, kV, iV, gV⟩, stV⟩, ⟨SBG.found_only al ⟨cfC, kC, iC, gC⟩, stC⟩, slV, slC, by simp [RoadKit.slotOf, gV], by simp [RoadKit.slotOf, gC]⟩
theorem sta_is {Z U : State} (al : Z.vm.Alike U.vm) {C n d : String} {v : Value} (S : RoadKit.Sta Z U.heap C n d v) : StaticIs U C n d v := by
  obtain ⟨cfS, iS, kS, fS, st, cS, t1, t2, t3, t4, t5, t6, t7⟩ := S
  exact StaticIs.there (s := { Z with heap := U.heap }) ⟨cfS, iS, kS, fS, st, cS, t1, t2, t3, t4, t5, (fun q => by rw [q] at t6; cases t6), t7⟩ al rfl
/-- **length() OF SUCH A STRING** -/
theorem lenW {p : Program} {l : Launch} {e : Env} {R : Room} {s : State} {args : Array Value} {below : List Frame} {len W : Nat} {Z : State} {a0 : Array Value} {h : Heap} (hZ : Z.Warmed39 s.vm) (hw : ∀ d ∈ wordsLen, d.before a0 Z = true) {kI : Nat} (wi : (Jvm.Cond.instantiable ST kI).before a0 Z = true)
    {x t : Addr} {kb : ClassId} {cs : List Int32} {cd N2 z : Int32} {vs : List Value} (E : RoadKit.Exa Z h x ST) (V : RoadKit.Fld Z h x ST "value" "[B" (.ref t)) (C : RoadKit.Fld Z h x ST "coder" "B" (.int cd)) (K : RoadKit.Arv Z h t kb .byte N2 vs (.int 0)) (hc : CodA cs cd N2 vs) (hb : ∀ c ∈ cs, ¬ c < 0 ∧ ¬ (65535 : Int32) < c)
    (S : RoadKit.Sta Z h ST "COMPACT_STRINGS" "Z" (.int z)) (hz : ¬ z = 0) (l2 : cs.length ≤ 4000) (hfr : 2 ≤ R.frames) (hlo : W + 25 ≤ R.locals) :
    Back l R p e below s args (⟨"java/lang/String", "length", "()I"⟩ : MethodName) len W (fun P a => a = #[.ref x] ∧ P.U.heap = h ∧ P.cells + 0 ≤ R.cells ∧ P.slots + 0 ≤ R.slots)
      (fun P _ v B => ∃ L, (v = some (.int (Int32.ofNat cs.length)) ∧ L = [] ∧ B.U.heap = h) ∧ B.locs = P.locs ++ L ∧ B.cells = P.cells + 0 ∧ B.slots = P.slots + 0) := by
  obtain ⟨A, K1, K2, K3, K4, K5, K6⟩ := K
  have hcod := hc.cod (by omega) K3 K5
  intro m meth c P g ig mk a X hg hsize hdg hW hn hp'
  obtain ⟨rfl, rfl, r1, r2⟩ := hp'
  have al : Z.vm.Alike P.U.vm := hZ.alike.trans X.warmed.alike
  obtain ⟨D, fV, fC, hB, F1, F2, g1, g2, -, -⟩ := strObj wi al E V C
  have hx : Txt x t A cd cs.length (fun j => cs.getD j 0) P.U := ⟨⟨_, hB.2.2.1, D, hB.1, rfl, by cases q : D.vm <;> first | rfl | exact absurd q (hB.2.1.2 _)⟩, Has.of hB F1 g1, Has.of hB F2 g2, ⟨K1.1, State.isArrayOf_alike al K1.2.1, K1.2.2, by rcases hcod with ⟨-, q, -⟩ | ⟨-, q, -⟩ <;> omega⟩, hcod, fun j hj => by
    have e : cs.getD j 0 = cs[j] := by simp [List.getD_eq_getElem?_getD, hj]
    show ¬ cs.getD j 0 < 0 ∧ ¬ 65535 < cs.getD j 0
    rw [e]; exact hb _ (List.getElem_mem _)⟩
  obtain ⟨v, B, X', ⟨⟨hv, hh⟩, hl, hk, hs⟩, st⟩ := Len.pays x t A cd cs.length (fun j => cs.getD j 0) z (tabLen_of (movedLen hZ hw)) hfr hlo m meth c P g ig mk _ X hg hsize hdg hW hn ⟨r1, r2, rfl, hx, sta_is al S, hz⟩
  exact ⟨v, B, X', ⟨[], ⟨hv, rfl, hh⟩, hl, hk, hs⟩, st⟩
end StrChars.Road
namespace StrChars.Road
open Jvm Sem ClassFile Op Lib Jvm.Stand Jvm.Free Jvm.Free.XT
open Jvm.Lib.Cold (StaticIs)
/-- what backV says of its String, as the contracts of this text ask it: cs's low bytes, coder 0 -/
theorem codOf {cs : List Int32} {n : Nat} (hn : cs.length = n) (hb : ∀ c ∈ cs, ¬ 255 < c) : CodA cs 0 (Int32.ofNat n) ((cs.map lo8).map Value.int) := Or.inl ⟨rfl, by rw [hn], by simp [List.map_map, Function.comp_def], hb⟩
end StrChars.Road
end Jvm.Pilot.@@N@@
namespace Jvm.Pilot.@@N@@
open Jvm Jvm.ClassFile Sem Op Lib Jvm.Free Jvm.Stand Jvm.LawKit Jvm.RoadKit Bundle Jvm.Pilot.@@N@@.Jvm.D
/-- a char of Latin-1 -/
def own_lat (c : Int32) : Prop := ¬ c < 0 ∧ ¬ (255 : Int32) < c
theorem own_lat_cases {c : Int32} (h : own_lat c) : ∃ k : Fin 256, c = Int32.ofNat k.val := by
  obtain ⟨h0, h1⟩ := h
  rw [Int32.lt_iff_toInt_lt] at h0 h1
  have e0 : (0 : Int32).toInt = 0 := rfl
  have e1 : (255 : Int32).toInt = 255 := rfl
  refine ⟨⟨c.toInt.toNat, by omega⟩, Int32.toInt_inj.mp ?_⟩
  show c.toInt = (Int32.ofNat c.toInt.toNat).toInt
  rw [Int32.toInt_ofNat_small (by omega)]
  omega
theorem own_lat_nar {c : Int32} (h : own_lat c) : nar .char c = c := by
  obtain ⟨k, rfl⟩ := own_lat_cases h
  exact (by decide +kernel : ∀ k : Fin 256, nar .char (Int32.ofNat k.val) = Int32.ofNat k.val) k
theorem own_lat_ofNat (k : Fin 256) : own_lat ((Int32.ofNat k.val).toUInt32.toUInt16.toUInt32.toInt32) := by
  unfold own_lat
  revert k
  decide +kernel
theorem own_mask (x : Int32) : own_lat ((x &&& (255 : Int32)).toUInt32.toUInt16.toUInt32.toInt32) := by
  have h : (x &&& 255).toBitVec.toNat < 256 := by
    simp only [Int32.toBitVec_and, BitVec.toNat_and]
    exact Nat.lt_succ_of_le Nat.and_le_right
  have e : (x &&& 255) = Int32.ofNat (x &&& 255).toBitVec.toNat := by
    apply Int32.toBitVec_inj.mp
    show _ = BitVec.ofNat 32 _
    rw [BitVec.ofNat_toNat]; simp
  rw [e]
  exact own_lat_ofNat ⟨_, h⟩
theorem own_up (cs : List Int32) (h : ∀ c ∈ cs, own_lat c) : ∀ c ∈ cs, ¬ c < 0 ∧ ¬ (65535 : Int32) < c := fun c hc => ⟨(h c hc).1, fun q => (h c hc).2 (by rw [Int32.lt_iff_toInt_lt] at q ⊢; have e1 : (65535 : Int32).toInt = 65535 := rfl; have e2 : (255 : Int32).toInt = 255 := rfl; omega)⟩
theorem own_fitsR {v : Value} {C : String} (h : v.isRef = true) : fits (.object C) v = true := by rcases ref_cases h with rfl | ⟨_, rfl⟩ <;> rfl
theorem own_all0 {P : Int32 → Prop} : ∀ x ∈ ([] : List Int32), P x := fun _ q => nomatch q
theorem own_allS {P : Int32 → Prop} {y : Int32} {L : List Int32} (q : P y) (r : ∀ x ∈ L, P x) : ∀ x ∈ y :: L, P x := fun x z => (List.mem_cons.mp z).elim (fun u => u ▸ q) (r x)
/-- the String at x is compact and spells cs -/
def own_Str (Z : State) (h : Heap) (x : Addr) (cs : List Int32) : Prop := (∀ c ∈ cs, own_lat c) ∧ Exa Z h x "java/lang/String" ∧ Fld Z h x "java/lang/String" "coder" "B" (.int (0 : Int32)) ∧
  ∃ (t : Addr) (kb : ClassId), Fld Z h x "java/lang/String" "value" "[B" (.ref t) ∧ Arv Z h t kb .byte (Int32.ofNat cs.length) ((cs.map (fun c => c.toInt8.toInt32)).map Value.int) (.int (0 : Int32))
theorem own_Str.ext {Z : State} {h h' : Heap} {x : Addr} {cs : List Int32} (S : own_Str Z h x cs) (E : Ext h h') : own_Str Z h' x cs := by
  obtain ⟨h1, h2, h3, t, kb, h4, h5⟩ := S
  exact ⟨h1, h2.ext E, h3.ext E, t, kb, h4.ext E, h5.ext E⟩
theorem own_Str.keep {Z : State} {h h' : Heap} {x : Addr} {cs : List Int32} (S : own_Str Z h x cs) (K : Keep h h' []) : own_Str Z h' x cs := by
  obtain ⟨h1, h2, h3, t, kb, h4, h5⟩ := S
  exact ⟨h1, h2.keep K, h3.keep K nin0, t, kb, h4.keep K nin0, h5.keep K nin0⟩
theorem own_Str.keepS {Z : State} {h h' : Heap} {x a : Addr} {cs : List Int32} {a0 : Array Value} {C : String} {n : Nat} (S : own_Str Z h x cs) (K : Keep h h' [a]) (E : Exa Z h a C) (w : (Jvm.Cond.instantiable C n).before a0 Z = true) (q : x ≠ a) : own_Str Z h' x cs := by
  obtain ⟨h1, h2, h3, t, kb, h4, h5⟩ := S
  exact ⟨h1, h2.keep K, h3.keep K (ninS q nin0), t, kb, h4.keep K (ninS q nin0), h5.keep K (ninS (Ne.symm (E.neArv h5 w)) nin0)⟩
theorem own_Str.lt {Z : State} {h : Heap} {x : Addr} {cs : List Int32} (S : own_Str Z h x cs) : x < h.size := S.2.1.lt
/-- length() of such a String, at a call -/
theorem own_lenB {p : Program} {l : Launch} {e : Env} {R : Room} {s : State} {args : Array Value} {below : List Frame} {len W : Nat} {Z : State} {a0 : Array Value} {h : Heap} (hZ : Z.Warmed39 s.vm) (hw : ∀ d ∈ tables_1, d.before a0 Z = true) {kI : Nat} (wi : (Jvm.Cond.instantiable "java/lang/String" kI).before a0 Z = true)
    {x : Addr} {cs : List Int32} {z : Int32} (S : own_Str Z h x cs) (C : Sta Z h "java/lang/String" "COMPACT_STRINGS" "Z" (.int z)) (hz : ¬ z = 0) (l2 : cs.length ≤ 4000) (hfr : 2 ≤ R.frames) (hlo : W + 25 ≤ R.locals) :
    Back l R p e below s args (⟨"java/lang/String", "length", "()I"⟩ : MethodName) len W (fun P a => a = #[.ref x] ∧ P.U.heap = h ∧ P.cells + 0 ≤ R.cells ∧ P.slots + 0 ≤ R.slots)
      (fun P _ v B => ∃ L, (v = some (.int (Int32.ofNat cs.length)) ∧ L = [] ∧ B.U.heap = h) ∧ B.locs = P.locs ++ L ∧ B.cells = P.cells + 0 ∧ B.slots = P.slots + 0) := by
  obtain ⟨h1, h2, h3, t, kb, h4, h5⟩ := S
  exact StrChars.Road.lenW hZ (fun d hd => hw d ((by decide +kernel : ∀ d ∈ StrChars.Road.wordsLen, d ∈ tables_1) d hd)) wi h2 h4 h3 h5 (StrChars.Road.codOf rfl (fun x hx => (h1 x hx).2)) (own_up _ h1) C hz l2 hfr hlo
def own_EL : List (String × Nat) := [("java/lang/String", 7)]
theorem own_hEL {Z : State} {a0 : Array Value} (hw : ∀ d ∈ tables_1, d.before a0 Z = true) : EW Z a0 own_EL := EW.cons (hw _ (List.mem_of_getElem? (i := 18) rfl)) (by decide) EW.nil
theorem own_wS {Z : State} {a0 : Array Value} (hw : ∀ d ∈ tables_1, d.before a0 Z = true) : ∀ a ∈ Bundle.stringAtoms, a.before a0 Z = true := fun d hd => hw d ((by decide +kernel : ∀ d ∈ Bundle.stringAtoms, d ∈ tables_1) d hd)
/-- a String whose value isn't set yet is no literal that the tables book -/
theorem own_safe_fresh {Z : State} {EL : List (String × Nat)} {vm : Vm} {h : Heap} {x : Addr} (hZ : Z.Warmed39 vm) (E : Exa Z h x "java/lang/String") (V : Fld Z h x "java/lang/String" "value" "[B" .null) : Safe Z EL vm h x := fun B => by
  have hal : Z.vm.Alike vm := hZ.alike
  obtain ⟨p, -, u, a, -, q, -, F, rfl | rfl⟩ := B
  · obtain ⟨cell, cf, k, i, f, h1, h2, h3, h4, h5, h6, h7⟩ := V
    obtain ⟨cS, ⟨⟨g1, -, -, ⟨c1, k1, i1, w1, -⟩, -, -, -, w8, -⟩, -⟩, -⟩ := F
    cases (show h[q.sa]? = some q.sC from g1).symm.trans h1
    obtain ⟨k', hf, -⟩ := State.fieldFound?_setVm (s := Z) hal h2
    have w1' : (Z.setVm vm).fieldFound? "java/lang/String" "value" "[B" = some (c1, k1, i1, q.fSV) := w1
    cases w1'.symm.trans hf
    cases (show q.sC.slots[q.fSV.slot]? = some (.ref q.sd) from w8).symm.trans h7
  · obtain ⟨cell, k, e1, e2, e3, -, -⟩ := E
    cases (show h[q.sd]? = some q.SA from F.hd).symm.trans e1
    obtain ⟨cS, -, -, f, -⟩ := F
    have f' : vm.findClass "[B" = some q.SA.cls := f
    rw [hal.findClass] at f'
    obtain ⟨k1, q1, q2⟩ := Vm.findClass_spec f'
    obtain ⟨k2, q3, q4⟩ := Vm.findClass_spec e2
    cases q1.symm.trans q3
    exact absurd (q2.symm.trans q4) (by decide)
theorem own_pn0 : plainName "java/lang/String" = true := by first | (simp [plainName, overriddenIn]; done) | decide +kernel
theorem own_d0_0 : decode jdk_42_method_149_code 0 = .ok (.aload_n 0, 1) := by decide +kernel
theorem own_d0_1 : decode jdk_42_method_149_code 1 = .ok (.invokespecial 1, 3) := by decide +kernel
theorem own_d0_4 : decode jdk_42_method_149_code 4 = .ok (.iload_n 3, 1) := by decide +kernel
theorem own_d0_5 : decode jdk_42_method_149_code 5 = .ok (.ifCond .ne 22, 3) := by decide +kernel
theorem own_d0_8 : decode jdk_42_method_149_code 8 = .ok (.aload_n 0, 1) := by decide +kernel
theorem own_d0_9 : decode jdk_42_method_149_code 9 = .ok (.ldc 7, 2) := by decide +kernel
theorem own_d0_11 : decode jdk_42_method_149_code 11 = .ok (.getfield 9, 3) := by decide +kernel
theorem own_d0_14 : decode jdk_42_method_149_code 14 = .ok (.putfield 9, 3) := by decide +kernel
theorem own_d0_17 : decode jdk_42_method_149_code 17 = .ok (.aload_n 0, 1) := by decide +kernel
theorem own_d0_18 : decode jdk_42_method_149_code 18 = .ok (.ldc 7, 2) := by decide +kernel
theorem own_d0_20 : decode jdk_42_method_149_code 20 = .ok (.getfield 15, 3) := by decide +kernel
theorem own_d0_23 : decode jdk_42_method_149_code 23 = .ok (.putfield 15, 3) := by decide +kernel
theorem own_d0_26 : decode jdk_42_method_149_code 26 = .ok (.return_, 1) := by decide +kernel
theorem own_ef3 (m : MethodId) (x0 : Addr) (x1 : Addr) (x2 : Int32) (x3 : Int32) : entryFrame m #[(.ref x0), (.ref x1), (.int x2), (.int x3), .null] 6 = mkF m 0 #[.val (.ref x0), .val (.ref x1), .val (.int x2), .val (.int x3), .val .null, .unset] [] := by first | (simp [entryFrame, mkF, argsToLocals, Value.category]; done) | rfl
abbrev own_Q3 (Z : State) (a b : Addr) (h0 : Heap) (n0 : Nat) : Option Value → Heap → List Loc → Prop := fun v h L => v = none ∧ Fr n0 L ∧ Keep h0 h [a] ∧ own_Str Z h a []
set_option maxRecDepth 65536 in
set_option maxHeartbeats 40000000 in
theorem own_rm3 (l : Launch) (Z : State) (a0 : Array Value) (hw : ∀ d ∈ tables_1, d.before a0 Z = true) (ws : List Jvm.Cond) (a b : Addr) (h0 : Heap) (n0 : Nat) (O : Old Z n0 h0) (g_a : n0 ≤ a) (E1 : Exa Z h0 a "java/lang/String") (F_value_a : Fld Z h0 a "java/lang/String" "value" "[B" .null) (F_coder_a : Fld Z h0 a "java/lang/String" "coder" "B" (.int (0 : Int32))) :
    MetFree l (⟨"java/lang/String", "<init>", "([CIILjava/lang/Void;)V"⟩ : MethodName) (head1 (Jvm.Cond.code (⟨"java/lang/String", "<init>", "([CIILjava/lang/Void;)V"⟩ : MethodName) jdk_42_method_149_code 6 none :: ws) ({ frames := 1, cells := 2, slots := 4, locals := 12 } : Room)) (fun aa U => aa = #[(.ref a), (.ref b), (.int (0 : Int32)), (.int (0 : Int32)), .null] ∧ Z.Warmed39 U.vm ∧ U.heap = h0 ∧ CHv Z own_EL U.vm h0) (fun _ _ _ _ _ => True) (fun _ U o U' => ∃ v L, o = .returned v ∧ (own_Q3 Z a b h0 n0) v U'.heap L ∧ CHr Z own_EL U.vm U.heap U'.vm U'.heap ∧ ReturnedEndW U o U' L ({ frames := 1, cells := 2, slots := 4, locals := 12 } : Room).cells ({ frames := 1, cells := 2, slots := 4, locals := 12 } : Room).slots) := by
  refine MetFree.of_bodySF (plainFor_of_name own_pn0) hisR ?_
  intro p e s m args below meth c s₁ Bd hml0 hP hK
  obtain ⟨rfl, hZ, hh, hCH⟩ := hP
  have hx := Bd.exec
  have hby := Bd.bytes
  have hml : c.maxLocals = 6 := hml0
  have hown : s.vm.findClass "java/lang/String" = some m.cls := findClass_of_methodNamed Bd.named
  have hnm := (name_of_methodNamed Bd.named Bd.method).1
  have X0 : Stand p l e ({ frames := 1, cells := 2, slots := 4, locals := 12 } : Room) (s.setVm s.vm) m #[(.ref a), (.ref b), (.int (0 : Int32)), (.int (0 : Int32)), .null] below meth c s₁ [] 0 0 := Stand.of_body Bd
  have e0 : s₁.heap = h0 := by rw [← hh, Bd.state]; rfl
  have N0 := Fr.nil n0
  have hS := own_since0 s 0
  have hk : 0 ≤ h0.size := Nat.zero_le _
  have CR : CHr Z own_EL s.vm h0 s.vm h0 := CHr.refl hCH
  refine Out.startH (Q := own_Q3 Z a b h0 n0) (own_ef3 m a b (0 : Int32) (0 : Int32) ) ?_
  have hEL := own_hEL hw
  have wS := own_wS hw
  have Kp := Keep.refl h0 [a]
  have sf_a := own_safe_fresh (EL := own_EL) hZ E1 F_value_a
  refine Out.via (g' := (mkF m 1 #[.val (.ref a), .val (.ref b), .val (.int (0 : Int32)), .val (.int (0 : Int32)), .val .null, .unset] [(.ref a)])) (fun _ k => XS.aloadN X0.here hx rfl (hb hby own_d0_0) rfl rfl k) ?_
  obtain ⟨T1, X1, e1, st1⟩ := initO X0 hx hZ hown (hw _ (List.mem_of_getElem? (i := 15) rfl)) (hw _ (List.mem_of_getElem? (i := 16) rfl)) (hw _ (List.mem_of_getElem? (i := 17) rfl)) e0 (g := (mkF m 1 #[.val (.ref a), .val (.ref b), .val (.int (0 : Int32)), .val (.int (0 : Int32)), .val .null, .unset] [(.ref a)])) rfl (by rw [hml]; rfl) rfl (hb hby own_d0_1) (by decide) (W := 0) (by show 2 * 0 + _ ≤ _; exact Nat.le_of_eq rfl) (by decide)
  refine Out.via (g' := (mkF m 4 #[.val (.ref a), .val (.ref b), .val (.int (0 : Int32)), .val (.int (0 : Int32)), .val .null, .unset] [])) st1 ?_
  refine Out.via (g' := (mkF m 5 #[.val (.ref a), .val (.ref b), .val (.int (0 : Int32)), .val (.int (0 : Int32)), .val .null, .unset] [(.int (0 : Int32))])) (fun _ k => XS.iloadN X1.here hx rfl (hb hby own_d0_4) rfl k) ?_
  refine Out.via (g' := (mkF m 8 #[.val (.ref a), .val (.ref b), .val (.int (0 : Int32)), .val (.int (0 : Int32)), .val .null, .unset] [])) (fun _ k => XS.ifNo X1.here hx rfl (hb hby own_d0_5) rfl ((if0 _ _).trans (teq rfl).2) k) ?_
  refine Out.via (g' := (mkF m 9 #[.val (.ref a), .val (.ref b), .val (.int (0 : Int32)), .val (.int (0 : Int32)), .val .null, .unset] [(.ref a)])) (fun _ k => XS.aloadN X1.here hx rfl (hb hby own_d0_8) rfl rfl k) ?_
  obtain ⟨la, T2, h2, kk2, lb, kb_la, X2, e2, E2, hS, hk, hZ, hown, Eq_la, Cq_la, Vq_la, Aq_la, lt_la, lt_lb, CR2, Lit_la, nes_la, st2⟩ := ldcCH X1 hx hZ hown (hw _ (List.mem_of_getElem? (i := 18) rfl)) wS e1 hS hk hEL (by decide) CR.1 (vs := []) (z := (0 : Int32)) ⟨by decide, rfl⟩ (by decide) rfl (g := (mkF m 9 #[.val (.ref a), .val (.ref b), .val (.int (0 : Int32)), .val (.int (0 : Int32)), .val .null, .unset] [(.ref a)])) rfl (hb hby own_d0_9) (n := 0) (by decide) (by decide) (by decide) (by decide)
  replace sf_a := CR2.safe E1.lt sf_a
  have ne_a_la := (nes_la a sf_a).1
  have ne_a_lb := (nes_la a sf_a).2
  replace E1 := E1.ext E2
  replace F_value_a := F_value_a.ext E2
  replace F_coder_a := F_coder_a.ext E2
  replace O := O.ext E2
  replace Kp := Kp.ext E2
  replace CR := CR.trans CR2
  refine Out.via (g' := (mkF m 11 #[.val (.ref a), .val (.ref b), .val (.int (0 : Int32)), .val (.int (0 : Int32)), .val .null, .unset] [(.ref la), (.ref a)])) st2 ?_
  obtain ⟨T3, X3, e3, st3⟩ := getF X2 hx hZ hown (host := "") (Or.inl (hw _ (List.mem_of_getElem? (i := 24) rfl))) Via.refl e2 Vq_la (g := (mkF m 11 #[.val (.ref a), .val (.ref b), .val (.int (0 : Int32)), .val (.int (0 : Int32)), .val .null, .unset] [(.ref la), (.ref a)])) rfl rfl (hb hby own_d0_11)
  refine Out.via (g' := (mkF m 14 #[.val (.ref a), .val (.ref b), .val (.int (0 : Int32)), .val (.int (0 : Int32)), .val .null, .unset] [(.ref lb), (.ref a)])) st3 ?_
  obtain ⟨T4, h4, X4, e4, W4, st4⟩ := putF X3 hx hZ hown (host := "") (Or.inl (hw _ (List.mem_of_getElem? (i := 24) rfl))) Via.refl e3 F_value_a E1 (Or.inr ⟨(hw _ (List.mem_of_getElem? (i := 20) rfl)), rfl, hnm⟩) (hw _ (List.mem_of_getElem? (i := 5) rfl)) (ty := (.array .byte)) (by decide) rfl rfl (g := (mkF m 14 #[.val (.ref a), .val (.ref b), .val (.int (0 : Int32)), .val (.int (0 : Int32)), .val .null, .unset] [(.ref lb), (.ref a)])) rfl rfl (hb hby own_d0_14)
  replace F_value_a := F_value_a.same W4
  have sfw := sf_a
  replace sf_a := Safe.wr W4 sfw CR.1 sf_a
  replace CR := CR.trans (CHr.wr W4 sfw CR.1)
  replace hk : _ ≤ h4.size := Nat.le_trans hk (Keep.of_wr W4).1
  replace F_coder_a := F_coder_a.other W4 (Or.inr (slot_ne (Or.inr (hw _ (List.mem_of_getElem? (i := 21) rfl))) (Or.inr (hw _ (List.mem_of_getElem? (i := 20) rfl))) (by decide) (t := .byte) (t' := (.array .byte)) (by decide) (by decide)))
  replace Vq_la := Vq_la.other W4 (Or.inl (Ne.symm ne_a_la))
  replace Cq_la := Cq_la.other W4 (Or.inl (Ne.symm ne_a_la))
  replace E1 := E1.wr W4
  replace Eq_la := Eq_la.wr W4
  replace Aq_la := Aq_la.other W4 (Ne.symm ne_a_lb)
  replace O := O.wr W4 g_a
  replace Kp := Kp.wr W4 (Or.inl (List.mem_of_getElem? (i := 0) rfl))
  replace N0 := Fr.snoc X4 N0 g_a
  refine Out.via (g' := (mkF m 17 #[.val (.ref a), .val (.ref b), .val (.int (0 : Int32)), .val (.int (0 : Int32)), .val .null, .unset] [])) st4 ?_
  refine Out.via (g' := (mkF m 18 #[.val (.ref a), .val (.ref b), .val (.int (0 : Int32)), .val (.int (0 : Int32)), .val .null, .unset] [(.ref a)])) (fun _ k => XS.aloadN X4.here hx rfl (hb hby own_d0_17) rfl rfl k) ?_
  refine Out.via (g' := (mkF m 20 #[.val (.ref a), .val (.ref b), .val (.int (0 : Int32)), .val (.int (0 : Int32)), .val .null, .unset] [(.ref la), (.ref a)])) (ldcAgain X4 hx hZ hown (hw _ (List.mem_of_getElem? (i := 18) rfl)) Lit_la (g := (mkF m 18 #[.val (.ref a), .val (.ref b), .val (.int (0 : Int32)), .val (.int (0 : Int32)), .val .null, .unset] [(.ref a)])) rfl (hb hby own_d0_18)) ?_
  obtain ⟨T5, X5, e5, st5⟩ := getF X4 hx hZ hown (host := "") (Or.inl (hw _ (List.mem_of_getElem? (i := 25) rfl))) Via.refl e4 Cq_la (g := (mkF m 20 #[.val (.ref a), .val (.ref b), .val (.int (0 : Int32)), .val (.int (0 : Int32)), .val .null, .unset] [(.ref la), (.ref a)])) rfl rfl (hb hby own_d0_20)
  refine Out.via (g' := (mkF m 23 #[.val (.ref a), .val (.ref b), .val (.int (0 : Int32)), .val (.int (0 : Int32)), .val .null, .unset] [(.int (0 : Int32)), (.ref a)])) st5 ?_
  obtain ⟨T6, h6, X6, e6, W6, st6⟩ := putFN X5 hx hZ hown (hw _ (List.mem_of_getElem? (i := 25) rfl)) Via.refl e5 F_coder_a E1 (Or.inr ⟨(hw _ (List.mem_of_getElem? (i := 21) rfl)), rfl, hnm⟩) (hw _ (List.mem_of_getElem? (i := 5) rfl)) (ty := .byte) (v' := (.int (0 : Int32))) (by decide) rfl (by decide) (g := (mkF m 23 #[.val (.ref a), .val (.ref b), .val (.int (0 : Int32)), .val (.int (0 : Int32)), .val .null, .unset] [(.int (0 : Int32)), (.ref a)])) rfl rfl (hb hby own_d0_23)
  replace F_coder_a := F_coder_a.same W6
  have sfw := sf_a
  replace sf_a := Safe.wr W6 sfw CR.1 sf_a
  replace CR := CR.trans (CHr.wr W6 sfw CR.1)
  replace hk : _ ≤ h6.size := Nat.le_trans hk (Keep.of_wr W6).1
  replace F_value_a := F_value_a.other W6 (Or.inr (slot_ne (Or.inr (hw _ (List.mem_of_getElem? (i := 20) rfl))) (Or.inr (hw _ (List.mem_of_getElem? (i := 21) rfl))) (by decide) (t := (.array .byte)) (t' := .byte) (by decide) (by decide)))
  replace Vq_la := Vq_la.other W6 (Or.inl (Ne.symm ne_a_la))
  replace Cq_la := Cq_la.other W6 (Or.inl (Ne.symm ne_a_la))
  replace E1 := E1.wr W6
  replace Eq_la := Eq_la.wr W6
  replace Aq_la := Aq_la.other W6 (Ne.symm ne_a_lb)
  replace O := O.wr W6 g_a
  replace Kp := Kp.wr W6 (Or.inl (List.mem_of_getElem? (i := 0) rfl))
  replace N0 := Fr.snoc X6 N0 g_a
  refine Out.via (g' := (mkF m 26 #[.val (.ref a), .val (.ref b), .val (.int (0 : Int32)), .val (.int (0 : Int32)), .val .null, .unset] [])) st6 ?_
  exact Out.endH X6 hS (by rw [e6]; exact hk) hZ hEL (by rw [hh, e6]; exact CR) (fun _ => rfl) Bd.notSynchronized (by decide) (by decide) (by rw [e6]; exact ⟨rfl, N0, Kp, own_all0, E1, F_coder_a, lb, kb_la, F_value_a, Aq_la⟩) (fun fs hr => X6.returnOut hx Bd.returns (hb hby own_d0_26) hr)
theorem own_d1_0 : decode jdk_42_method_3_code 0 = .ok (.aload_n 0, 1) := by decide +kernel
theorem own_d1_1 : decode jdk_42_method_3_code 1 = .ok (.aload_n 1, 1) := by decide +kernel
theorem own_d1_2 : decode jdk_42_method_3_code 2 = .ok (.iconst 0, 1) := by decide +kernel
theorem own_d1_3 : decode jdk_42_method_3_code 3 = .ok (.aload_n 1, 1) := by decide +kernel
theorem own_d1_4 : decode jdk_42_method_3_code 4 = .ok (.arraylength, 1) := by decide +kernel
theorem own_d1_5 : decode jdk_42_method_3_code 5 = .ok (.aconst_null, 1) := by decide +kernel
theorem own_d1_6 : decode jdk_42_method_3_code 6 = .ok (.invokespecial 27, 3) := by decide +kernel
theorem own_pd1 : parseMethodDescriptor "([CIILjava/lang/Void;)V" = some ⟨[(.array .char), .int, .int, (.object "java/lang/Void")], none⟩ := by decide +kernel
theorem own_d1_9 : decode jdk_42_method_3_code 9 = .ok (.return_, 1) := by decide +kernel
theorem own_ef2 (m : MethodId) (x0 : Addr) (x1 : Addr) : entryFrame m #[(.ref x0), (.ref x1)] 2 = mkF m 0 #[.val (.ref x0), .val (.ref x1)] [] := by first | (simp [entryFrame, mkF, argsToLocals, Value.category]; done) | rfl
abbrev own_Q2 (Z : State) (a b : Addr) (kc : ClassId) (dc : Value) (h0 : Heap) (n0 : Nat) : Option Value → Heap → List Loc → Prop := fun v h L => v = none ∧ Fr n0 L ∧ Keep h0 h [a] ∧ own_Str Z h a []
set_option maxRecDepth 65536 in
set_option maxHeartbeats 40000000 in
theorem own_rm2 (l : Launch) (Z : State) (a0 : Array Value) (hw : ∀ d ∈ tables_1, d.before a0 Z = true) (ws : List Jvm.Cond) (a b : Addr) (kc : ClassId) (dc : Value) (h0 : Heap) (n0 : Nat) (O : Old Z n0 h0) (g_a : n0 ≤ a) (E1 : Exa Z h0 a "java/lang/String") (F_value_a : Fld Z h0 a "java/lang/String" "value" "[B" .null) (F_coder_a : Fld Z h0 a "java/lang/String" "coder" "B" (.int (0 : Int32))) (Ab : Arv Z h0 b kc .char (0 : Int32) [] dc) :
    MetFree l (⟨"java/lang/String", "<init>", "([C)V"⟩ : MethodName) (head1 (Jvm.Cond.code (⟨"java/lang/String", "<init>", "([C)V"⟩ : MethodName) jdk_42_method_3_code 2 none :: ws) ({ frames := 2, cells := 2, slots := 4, locals := 29 } : Room)) (fun aa U => aa = #[(.ref a), (.ref b)] ∧ Z.Warmed39 U.vm ∧ U.heap = h0 ∧ CHv Z own_EL U.vm h0) (fun _ _ _ _ _ => True) (fun _ U o U' => ∃ v L, o = .returned v ∧ (own_Q2 Z a b kc dc h0 n0) v U'.heap L ∧ CHr Z own_EL U.vm U.heap U'.vm U'.heap ∧ ReturnedEndW U o U' L ({ frames := 2, cells := 2, slots := 4, locals := 29 } : Room).cells ({ frames := 2, cells := 2, slots := 4, locals := 29 } : Room).slots) := by
  refine MetFree.of_bodySF (plainFor_of_name own_pn0) hisR ?_
  intro p e s m args below meth c s₁ Bd hml0 hP hK
  obtain ⟨rfl, hZ, hh, hCH⟩ := hP
  have hx := Bd.exec
  have hby := Bd.bytes
  have hml : c.maxLocals = 2 := hml0
  have hown : s.vm.findClass "java/lang/String" = some m.cls := findClass_of_methodNamed Bd.named
  have hnm := (name_of_methodNamed Bd.named Bd.method).1
  have X0 : Stand p l e ({ frames := 2, cells := 2, slots := 4, locals := 29 } : Room) (s.setVm s.vm) m #[(.ref a), (.ref b)] below meth c s₁ [] 0 0 := Stand.of_body Bd
  have e0 : s₁.heap = h0 := by rw [← hh, Bd.state]; rfl
  have N0 := Fr.nil n0
  have hS := own_since0 s 0
  have hk : 0 ≤ h0.size := Nat.zero_le _
  have CR : CHr Z own_EL s.vm h0 s.vm h0 := CHr.refl hCH
  refine Out.startH (Q := own_Q2 Z a b kc dc h0 n0) (own_ef2 m a b ) ?_
  have hEL := own_hEL hw
  obtain ⟨cl_b, Ar_b, q_b, S_b, M_b, H_b, G_b⟩ := id Ab
  refine Out.via (g' := (mkF m 1 #[.val (.ref a), .val (.ref b)] [(.ref a)])) (fun _ k => XS.aloadN X0.here hx rfl (hb hby own_d1_0) rfl rfl k) ?_
  refine Out.via (g' := (mkF m 2 #[.val (.ref a), .val (.ref b)] [(.ref b), (.ref a)])) (fun _ k => XS.aloadN X0.here hx rfl (hb hby own_d1_1) rfl rfl k) ?_
  refine Out.via (g' := (mkF m 3 #[.val (.ref a), .val (.ref b)] [(.int (0 : Int32)), (.ref b), (.ref a)])) (fun _ k => XS.iconst X0.here hx rfl (hb hby own_d1_2) k) ?_
  refine Out.via (g' := (mkF m 4 #[.val (.ref a), .val (.ref b)] [(.ref b), (.int (0 : Int32)), (.ref b), (.ref a)])) (fun _ k => XS.aloadN X0.here hx rfl (hb hby own_d1_3) rfl rfl k) ?_
  refine Out.via (g' := (mkF m 5 #[.val (.ref a), .val (.ref b)] [(.int cl_b.slots.size.toInt32), (.int (0 : Int32)), (.ref b), (.ref a)])) (fun _ k => X0.arraylength hx (by rw [e0]; exact Ar_b.1) (State.isArrayOf_alike hZ.alike Ar_b.2.1) (g := (mkF m 4 #[.val (.ref a), .val (.ref b)] [(.ref b), (.int (0 : Int32)), (.ref b), (.ref a)])) rfl rfl (hb hby own_d1_4) _ k) ?_
  rw [len_of S_b M_b]
  refine Out.via (g' := (mkF m 6 #[.val (.ref a), .val (.ref b)] [.null, (.int (0 : Int32)), (.int (0 : Int32)), (.ref b), (.ref a)])) (fun _ k => XS.aconstNull X0.here hx rfl (hb hby own_d1_5) k) ?_
  obtain ⟨_, _, ⟨T1, L1, kc1, ks1⟩, -, X1, hS1, hg1, ⟨Lc1, hQ1, l1, y1, z1, CR1⟩, st1⟩ := X0.specialBackS hx (y := (⟨"java/lang/String", "<init>", "([CIILjava/lang/Void;)V"⟩ : MethodName)) rfl hown (mvT hZ (hw _ (List.mem_of_getElem? (i := 11) rfl))) (mvT hZ (hw _ (List.mem_of_getElem? (i := 12) rfl))) (mvT hZ (hw _ (List.mem_of_getElem? (i := 14) rfl))) (by decide) (backOfSH (W := 0) (own_rm3 l Z a0 hw [] a b h0 n0 O g_a E1 F_value_a F_coder_a) hZ (hw _ (List.mem_of_getElem? (i := 14) rfl)) (hw _ (List.mem_of_getElem? (i := 6) rfl)) (by decide) (by decide) hEL CR.1) (g := (mkF m 6 #[.val (.ref a), .val (.ref b)] [.null, (.int (0 : Int32)), (.int (0 : Int32)), (.ref b), (.ref a)])) rfl (by rw [hml]; rfl) (Steps.refl _) (a := a) (argsL := [(.ref b), (.int (0 : Int32)), (.int (0 : Int32)), .null]) (rest := []) (lenOf own_pd1 rfl) rfl (by show 2 * 0 + _ ≤ _; exact Nat.le_of_eq rfl) (hb hby own_d1_6) (fun _ _ => ⟨rfl, e0, (by decide : 0 + 2 ≤ _), (by decide : 0 + 4 ≤ _)⟩)
  dsimp only [Pt.U, Pt.locs, Pt.cells, Pt.slots] at X1 l1 y1 z1 st1 hQ1 hS1 hg1 CR1
  subst l1 y1 z1
  rw [e0] at hg1
  obtain ⟨X1, hS, hZ, hown⟩ := rebS hS hk X1 hS1 hg1 hZ hown
  replace hk := Nat.le_refl T1.heap.size
  replace CR := CR.trans CR1
  obtain ⟨rfl, Nq, Kq, Sq⟩ := hQ1
  refine Out.to (g' := (mkF m 9 #[.val (.ref a), .val (.ref b)] [])) st1 ?_
  exact Out.endH X1 hS hk hZ hEL (by rw [hh]; exact CR) (fun _ => rfl) Bd.notSynchronized (by decide) (by decide) (⟨rfl, Fr.app N0 Nq, Kq, Sq⟩) (fun fs hr => X1.returnOut hx Bd.returns (hb hby own_d1_9) hr)
theorem own_d2_0 : decode jdk_42_method_151_code 0 = .ok (.aload_n 0, 1) := by decide +kernel
theorem own_d2_1 : decode jdk_42_method_151_code 1 = .ok (.invokespecial 1, 3) := by decide +kernel
theorem own_d2_4 : decode jdk_42_method_151_code 4 = .ok (.aload_n 0, 1) := by decide +kernel
theorem own_d2_5 : decode jdk_42_method_151_code 5 = .ok (.aload_n 1, 1) := by decide +kernel
theorem own_d2_6 : decode jdk_42_method_151_code 6 = .ok (.putfield 9, 3) := by decide +kernel
theorem own_d2_9 : decode jdk_42_method_151_code 9 = .ok (.aload_n 0, 1) := by decide +kernel
theorem own_d2_10 : decode jdk_42_method_151_code 10 = .ok (.iload_n 2, 1) := by decide +kernel
theorem own_d2_11 : decode jdk_42_method_151_code 11 = .ok (.putfield 15, 3) := by decide +kernel
theorem own_d2_14 : decode jdk_42_method_151_code 14 = .ok (.return_, 1) := by decide +kernel
theorem own_ef19 (m : MethodId) (x0 : Addr) (x1 : Addr) (x2 : Int32) : entryFrame m #[(.ref x0), (.ref x1), (.int x2)] 3 = mkF m 0 #[.val (.ref x0), .val (.ref x1), .val (.int x2)] [] := by first | (simp [entryFrame, mkF, argsToLocals, Value.category]; done) | rfl
abbrev own_Q19 (Z : State) (a b : Addr) (h0 : Heap) (n0 : Nat) : Option Value → Heap → List Loc → Prop := fun v h L => v = none ∧ Fr n0 L ∧ Keep h0 h [a] ∧ Exa Z h a "java/lang/String" ∧ Fld Z h a "java/lang/String" "value" "[B" (.ref b) ∧ Fld Z h a "java/lang/String" "coder" "B" (.int (0 : Int32))
set_option maxRecDepth 65536 in
set_option maxHeartbeats 40000000 in
theorem own_rm19 (l : Launch) (Z : State) (a0 : Array Value) (hw : ∀ d ∈ tables_1, d.before a0 Z = true) (ws : List Jvm.Cond) (a b : Addr) (h0 : Heap) (n0 : Nat) (O : Old Z n0 h0) (g_a : n0 ≤ a) (E1 : Exa Z h0 a "java/lang/String") (F_value_a : Fld Z h0 a "java/lang/String" "value" "[B" .null) (F_coder_a : Fld Z h0 a "java/lang/String" "coder" "B" (.int (0 : Int32))) :
    MetFree l (⟨"java/lang/String", "<init>", "([BB)V"⟩ : MethodName) (head1 (Jvm.Cond.code (⟨"java/lang/String", "<init>", "([BB)V"⟩ : MethodName) jdk_42_method_151_code 3 none :: ws) ({ frames := 1, cells := 0, slots := 0, locals := 12 } : Room)) (fun aa U => aa = #[(.ref a), (.ref b), (.int (0 : Int32))] ∧ Z.Warmed39 U.vm ∧ U.heap = h0) (fun _ _ _ _ _ => True) (fun _ U o U' => ∃ v L, o = .returned v ∧ (own_Q19 Z a b h0 n0) v U'.heap L ∧ FrameEnd U o U' L ({ frames := 1, cells := 0, slots := 0, locals := 12 } : Room).cells ({ frames := 1, cells := 0, slots := 0, locals := 12 } : Room).slots) := by
  refine MetFree.of_bodySF (plainFor_of_name own_pn0) hisR ?_
  intro p e s m args below meth c s₁ Bd hml0 hP hK
  obtain ⟨rfl, hZ, hh⟩ := hP
  have hx := Bd.exec
  have hby := Bd.bytes
  have hml : c.maxLocals = 3 := hml0
  have hown : s.vm.findClass "java/lang/String" = some m.cls := findClass_of_methodNamed Bd.named
  have hnm := (name_of_methodNamed Bd.named Bd.method).1
  have X0 : Stand p l e ({ frames := 1, cells := 0, slots := 0, locals := 12 } : Room) s m #[(.ref a), (.ref b), (.int (0 : Int32))] below meth c s₁ [] 0 0 := Stand.of_body Bd
  have e0 : s₁.heap = h0 := by rw [← hh, Bd.state]; rfl
  have N0 := Fr.nil n0
  refine Out.start (Q := own_Q19 Z a b h0 n0) (own_ef19 m a b (0 : Int32) ) ?_
  have Kp := Keep.refl h0 [a]
  refine Out.via (g' := (mkF m 1 #[.val (.ref a), .val (.ref b), .val (.int (0 : Int32))] [(.ref a)])) (fun _ k => XS.aloadN X0.here hx rfl (hb hby own_d2_0) rfl rfl k) ?_
  obtain ⟨T1, X1, e1, st1⟩ := initO X0 hx hZ hown (hw _ (List.mem_of_getElem? (i := 15) rfl)) (hw _ (List.mem_of_getElem? (i := 16) rfl)) (hw _ (List.mem_of_getElem? (i := 17) rfl)) e0 (g := (mkF m 1 #[.val (.ref a), .val (.ref b), .val (.int (0 : Int32))] [(.ref a)])) rfl (by rw [hml]; rfl) rfl (hb hby own_d2_1) (by decide) (W := 0) (by show 2 * 0 + _ ≤ _; exact Nat.le_of_eq rfl) (by decide)
  refine Out.via (g' := (mkF m 4 #[.val (.ref a), .val (.ref b), .val (.int (0 : Int32))] [])) st1 ?_
  refine Out.via (g' := (mkF m 5 #[.val (.ref a), .val (.ref b), .val (.int (0 : Int32))] [(.ref a)])) (fun _ k => XS.aloadN X1.here hx rfl (hb hby own_d2_4) rfl rfl k) ?_
  refine Out.via (g' := (mkF m 6 #[.val (.ref a), .val (.ref b), .val (.int (0 : Int32))] [(.ref b), (.ref a)])) (fun _ k => XS.aloadN X1.here hx rfl (hb hby own_d2_5) rfl rfl k) ?_
  obtain ⟨T2, h2, X2, e2, W2, st2⟩ := putF X1 hx hZ hown (host := "") (Or.inl (hw _ (List.mem_of_getElem? (i := 24) rfl))) Via.refl e1 F_value_a E1 (Or.inr ⟨(hw _ (List.mem_of_getElem? (i := 20) rfl)), rfl, hnm⟩) (hw _ (List.mem_of_getElem? (i := 5) rfl)) (ty := (.array .byte)) (by decide) rfl rfl (g := (mkF m 6 #[.val (.ref a), .val (.ref b), .val (.int (0 : Int32))] [(.ref b), (.ref a)])) rfl rfl (hb hby own_d2_6)
  replace F_value_a := F_value_a.same W2
  replace F_coder_a := F_coder_a.other W2 (Or.inr (slot_ne (Or.inr (hw _ (List.mem_of_getElem? (i := 21) rfl))) (Or.inr (hw _ (List.mem_of_getElem? (i := 20) rfl))) (by decide) (t := .byte) (t' := (.array .byte)) (by decide) (by decide)))
  replace E1 := E1.wr W2
  replace O := O.wr W2 g_a
  replace Kp := Kp.wr W2 (Or.inl (List.mem_of_getElem? (i := 0) rfl))
  replace N0 := Fr.snoc X2 N0 g_a
  refine Out.via (g' := (mkF m 9 #[.val (.ref a), .val (.ref b), .val (.int (0 : Int32))] [])) st2 ?_
  refine Out.via (g' := (mkF m 10 #[.val (.ref a), .val (.ref b), .val (.int (0 : Int32))] [(.ref a)])) (fun _ k => XS.aloadN X2.here hx rfl (hb hby own_d2_9) rfl rfl k) ?_
  refine Out.via (g' := (mkF m 11 #[.val (.ref a), .val (.ref b), .val (.int (0 : Int32))] [(.int (0 : Int32)), (.ref a)])) (fun _ k => XS.iloadN X2.here hx rfl (hb hby own_d2_10) rfl k) ?_
  obtain ⟨T3, h3, X3, e3, W3, st3⟩ := putFN X2 hx hZ hown (hw _ (List.mem_of_getElem? (i := 25) rfl)) Via.refl e2 F_coder_a E1 (Or.inr ⟨(hw _ (List.mem_of_getElem? (i := 21) rfl)), rfl, hnm⟩) (hw _ (List.mem_of_getElem? (i := 5) rfl)) (ty := .byte) (v' := (.int (0 : Int32))) (by decide) rfl (by decide) (g := (mkF m 11 #[.val (.ref a), .val (.ref b), .val (.int (0 : Int32))] [(.int (0 : Int32)), (.ref a)])) rfl rfl (hb hby own_d2_11)
  replace F_coder_a := F_coder_a.same W3
  replace F_value_a := F_value_a.other W3 (Or.inr (slot_ne (Or.inr (hw _ (List.mem_of_getElem? (i := 20) rfl))) (Or.inr (hw _ (List.mem_of_getElem? (i := 21) rfl))) (by decide) (t := (.array .byte)) (t' := .byte) (by decide) (by decide)))
  replace E1 := E1.wr W3
  replace O := O.wr W3 g_a
  replace Kp := Kp.wr W3 (Or.inl (List.mem_of_getElem? (i := 0) rfl))
  replace N0 := Fr.snoc X3 N0 g_a
  refine Out.via (g' := (mkF m 14 #[.val (.ref a), .val (.ref b), .val (.int (0 : Int32))] [])) st3 ?_
  exact Out.endN X3 (fun _ => rfl) Bd.notSynchronized (by decide) (by decide) (by rw [e3]; exact ⟨rfl, N0, Kp, E1, F_value_a, F_coder_a⟩) (fun fs hr => X3.returnOut hx Bd.returns (hb hby own_d2_14) hr)
theorem own_pn2 : plainName "java/lang/StringLatin1" = true := by first | (simp [plainName, overriddenIn]; done) | decide +kernel
theorem own_d3_0 : decode jdk_43_method_3_code 0 = .ok (.iload_n 0, 1) := by decide +kernel
theorem own_d3_1 : decode jdk_43_method_3_code 1 = .ok (.sipush 255, 3) := by decide +kernel
theorem own_d3_4 : decode jdk_43_method_3_code 4 = .ok (.if_icmp .gt 7, 3) := by decide +kernel
theorem own_d3_7 : decode jdk_43_method_3_code 7 = .ok (.iconst 1, 1) := by decide +kernel
theorem own_d3_8 : decode jdk_43_method_3_code 8 = .ok (.goto 4, 3) := by decide +kernel
theorem own_d3_12 : decode jdk_43_method_3_code 12 = .ok (.ireturn, 1) := by decide +kernel
theorem own_ef17 (m : MethodId) (x0 : Int32) : entryFrame m #[(.int x0)] 1 = mkF m 0 #[.val (.int x0)] [] := by first | (simp [entryFrame, mkF, argsToLocals, Value.category]; done) | rfl
abbrev own_Q17 (Z : State) (c0 : Int32) (h0 : Heap) (n0 : Nat) : Option Value → Heap → List Loc → Prop := fun v h L => v = some (.int (1 : Int32)) ∧ Fr n0 L ∧ h = h0
set_option maxRecDepth 65536 in
set_option maxHeartbeats 40000000 in
theorem own_rm17 (l : Launch) (Z : State) (a0 : Array Value) (hw : ∀ d ∈ tables_1, d.before a0 Z = true) (ws : List Jvm.Cond) (c0 : Int32) (h0 : Heap) (n0 : Nat) (O : Old Z n0 h0) (hc : own_lat c0) :
    MetFree l (⟨"java/lang/StringLatin1", "canEncode", "(C)Z"⟩ : MethodName) (head1 (Jvm.Cond.code (⟨"java/lang/StringLatin1", "canEncode", "(C)Z"⟩ : MethodName) jdk_43_method_3_code 1 (some .boolean) :: ws) ({ frames := 0, cells := 0, slots := 0, locals := 0 } : Room)) (fun aa U => aa = #[(.int c0)] ∧ Z.Warmed39 U.vm ∧ U.heap = h0) (fun _ _ _ _ _ => True) (fun _ U o U' => ∃ v L, o = .returned v ∧ (own_Q17 Z c0 h0 n0) v U'.heap L ∧ FrameEnd U o U' L ({ frames := 0, cells := 0, slots := 0, locals := 0 } : Room).cells ({ frames := 0, cells := 0, slots := 0, locals := 0 } : Room).slots) := by
  refine MetFree.of_bodySF (plainFor_of_name own_pn2) hisR ?_
  intro p e s m args below meth c s₁ Bd hml0 hP hK
  obtain ⟨rfl, hZ, hh⟩ := hP
  have hx := Bd.exec
  have hby := Bd.bytes
  have hml : c.maxLocals = 1 := hml0
  have hown : s.vm.findClass "java/lang/StringLatin1" = some m.cls := findClass_of_methodNamed Bd.named
  have hnm := (name_of_methodNamed Bd.named Bd.method).1
  have X0 : Stand p l e ({ frames := 0, cells := 0, slots := 0, locals := 0 } : Room) s m #[(.int c0)] below meth c s₁ [] 0 0 := Stand.of_body Bd
  have e0 : s₁.heap = h0 := by rw [← hh, Bd.state]; rfl
  have N0 := Fr.nil n0
  refine Out.start (Q := own_Q17 Z c0 h0 n0) (own_ef17 m c0 ) ?_
  refine Out.via (g' := (mkF m 1 #[.val (.int c0)] [(.int c0)])) (fun _ k => XS.iloadN X0.here hx rfl (hb hby own_d3_0) rfl k) ?_
  refine Out.via (g' := (mkF m 4 #[.val (.int c0)] [(.int (255 : Int32)), (.int c0)])) (fun _ k => XS.sipush X0.here hx rfl (hb hby own_d3_1) k) ?_
  refine Out.via (g' := (mkF m 7 #[.val (.int c0)] [])) (fun _ k => XS.icmpNo X0.here hx rfl (hb hby own_d3_4) rfl (flt hc.2).2.2.1 k) ?_
  refine Out.via (g' := (mkF m 8 #[.val (.int c0)] [(.int (1 : Int32))])) (fun _ k => XS.iconst X0.here hx rfl (hb hby own_d3_7) k) ?_
  refine Out.via (g' := (mkF m 12 #[.val (.int c0)] [(.int (1 : Int32))])) (fun _ k => XS.goto X0.here hx rfl (pc0 := 8) (pc' := 12) rfl (hb hby own_d3_8) (by decide) (by decide) k) ?_
  exact Out.endN X0 (fun h => by rw [Bd.returns] at h; cases h) Bd.notSynchronized (by decide) (by decide) (by rw [e0]; exact ⟨rfl, N0, rfl⟩) (fun fs hr => Jvm.RoadKit.retN X0 hx (t := .boolean) Bd.returns (by simp) (hb hby own_d3_12) hr)
theorem own_d4_0 : decode jdk_43_method_46_code 0 = .ok (.iconst 1, 1) := by decide +kernel
theorem own_d4_1 : decode jdk_43_method_46_code 1 = .ok (.newarray .byte, 2) := by decide +kernel
theorem own_d4_3 : decode jdk_43_method_46_code 3 = .ok (.dup, 1) := by decide +kernel
theorem own_d4_4 : decode jdk_43_method_46_code 4 = .ok (.iconst 0, 1) := by decide +kernel
theorem own_d4_5 : decode jdk_43_method_46_code 5 = .ok (.iload_n 0, 1) := by decide +kernel
theorem own_d4_6 : decode jdk_43_method_46_code 6 = .ok (.i2b, 1) := by decide +kernel
theorem own_d4_7 : decode jdk_43_method_46_code 7 = .ok (.bastore, 1) := by decide +kernel
theorem own_d4_8 : decode jdk_43_method_46_code 8 = .ok (.areturn, 1) := by decide +kernel
theorem own_ef18 (m : MethodId) (x0 : Int32) : entryFrame m #[(.int x0)] 1 = mkF m 0 #[.val (.int x0)] [] := by first | (simp [entryFrame, mkF, argsToLocals, Value.category]; done) | rfl
abbrev own_Q18 (Z : State) (c0 : Int32) (h0 : Heap) (n0 : Nat) : Option Value → Heap → List Loc → Prop := fun v h L => ∃ (b : Addr) (k : ClassId), v = some (.ref b) ∧ Fr n0 L ∧ Keep h0 h [] ∧ h0.size ≤ b ∧ Arv Z h b k .byte (1 : Int32) [.int c0.toInt8.toInt32] (.int (0 : Int32))
set_option maxRecDepth 65536 in
set_option maxHeartbeats 40000000 in
theorem own_rm18 (l : Launch) (Z : State) (a0 : Array Value) (hw : ∀ d ∈ tables_1, d.before a0 Z = true) (ws : List Jvm.Cond) (c0 : Int32) (h0 : Heap) (n0 : Nat) (O : Old Z n0 h0) :
    MetFree l (⟨"java/lang/StringLatin1", "toBytes", "(C)[B"⟩ : MethodName) (head1 (Jvm.Cond.code (⟨"java/lang/StringLatin1", "toBytes", "(C)[B"⟩ : MethodName) jdk_43_method_46_code 1 (some (.array .byte)) :: ws) ({ frames := 0, cells := 1, slots := 1, locals := 0 } : Room)) (fun aa U => aa = #[(.int c0)] ∧ Z.Warmed39 U.vm ∧ U.heap = h0) (fun _ _ _ _ _ => True) (fun _ U o U' => ∃ v L, o = .returned v ∧ (own_Q18 Z c0 h0 n0) v U'.heap L ∧ FrameEnd U o U' L ({ frames := 0, cells := 1, slots := 1, locals := 0 } : Room).cells ({ frames := 0, cells := 1, slots := 1, locals := 0 } : Room).slots) := by
  refine MetFree.of_bodySF (plainFor_of_name own_pn2) hisR ?_
  intro p e s m args below meth c s₁ Bd hml0 hP hK
  obtain ⟨rfl, hZ, hh⟩ := hP
  have hx := Bd.exec
  have hby := Bd.bytes
  have hml : c.maxLocals = 1 := hml0
  have hown : s.vm.findClass "java/lang/StringLatin1" = some m.cls := findClass_of_methodNamed Bd.named
  have hnm := (name_of_methodNamed Bd.named Bd.method).1
  have X0 : Stand p l e ({ frames := 0, cells := 1, slots := 1, locals := 0 } : Room) s m #[(.int c0)] below meth c s₁ [] 0 0 := Stand.of_body Bd
  have e0 : s₁.heap = h0 := by rw [← hh, Bd.state]; rfl
  have N0 := Fr.nil n0
  refine Out.start (Q := own_Q18 Z c0 h0 n0) (own_ef18 m c0 ) ?_
  have Kp := Keep.refl h0 []
  refine Out.via (g' := (mkF m 1 #[.val (.int c0)] [(.int (1 : Int32))])) (fun _ k => XS.iconst X0.here hx rfl (hb hby own_d4_0) k) ?_
  obtain ⟨T1, h1, k1, X1, e1, E1, A1, st1⟩ := newP X0 hx hZ (hw _ (List.mem_of_getElem? (i := 19) rfl)) e0 (g := (mkF m 1 #[.val (.int c0)] [(.int (1 : Int32))])) rfl (hb hby own_d4_1) rfl (by decide) (cap := 1) (by decide) (by decide) (by decide) (by decide)
  obtain ⟨b, gq1⟩ : ∃ z, z = h0.size := ⟨_, rfl⟩
  rw [← gq1] at A1 st1
  have g_b : n0 ≤ b := Nat.le_trans (own_z0 O) (Nat.le_of_eq gq1.symm)
  have sz_b : h0.size ≤ b := Nat.le_trans Kp.1 (Nat.le_of_eq gq1.symm)
  replace O := O.ext E1
  replace Kp := Kp.ext E1
  have V_b : Arv Z h1 b k1 .byte (1 : Int32) [(.int (0 : Int32))] (.int (0 : Int32)) := (Arv.new A1 (by decide)).pad (pad_rep [] (.int (0 : Int32)) 1)
  refine Out.via (g' := (mkF m 3 #[.val (.int c0)] [(.ref b)])) st1 ?_
  refine Out.via (g' := (mkF m 4 #[.val (.int c0)] [(.ref b), (.ref b)])) (fun _ k => XS.dup X1.here hx rfl (hb hby own_d4_3) rfl rfl k) ?_
  refine Out.via (g' := (mkF m 5 #[.val (.int c0)] [(.int (0 : Int32)), (.ref b), (.ref b)])) (fun _ k => XS.iconst X1.here hx rfl (hb hby own_d4_4) k) ?_
  refine Out.via (g' := (mkF m 6 #[.val (.int c0)] [(.int c0), (.int (0 : Int32)), (.ref b), (.ref b)])) (fun _ k => XS.iloadN X1.here hx rfl (hb hby own_d4_5) rfl k) ?_
  refine Out.via (g' := (mkF m 7 #[.val (.int c0)] [(.int (c0.toInt8.toInt32)), (.int (0 : Int32)), (.ref b), (.ref b)])) (fun _ k => XS.i2b X1.here hx rfl (hb hby own_d4_6) rfl k) ?_
  obtain ⟨cl2, Ar2, q2, S2, M2, H2, G2⟩ := V_b
  have hin2 : ¬ ((0 : Int32) < 0 ∨ cl2.slots.size ≤ ((0 : Int32)).toNatClampNeg) := inb_of S2 ⟨by decide, by decide⟩
  obtain ⟨T2, h2, X2, e2, W2, st2⟩ := stB X1 hx hZ e1 Ar2 (j := (0 : Int32)) hin2 (g := (mkF m 7 #[.val (.int c0)] [(.int (c0.toInt8.toInt32)), (.int (0 : Int32)), (.ref b), (.ref b)])) rfl rfl (hb hby own_d4_7)
  have V_b : Arv Z h2 b k1 .byte (1 : Int32) [(.int (nar .byte (c0.toInt8.toInt32)))] (.int (0 : Int32)) := Arv.set Ar2 q2 S2 M2 H2 G2 (fits_nar_byte _) W2 0 rfl (Nat.le_of_ble_eq_true rfl)
  replace O := O.wr W2 g_b
  replace Kp := Kp.wr W2 (Or.inr sz_b)
  replace N0 := Fr.snoc X2 N0 g_b
  refine Out.via (g' := (mkF m 8 #[.val (.int c0)] [(.ref b)])) st2 ?_
  have hbb : nar .byte c0.toInt8.toInt32 = c0.toInt8.toInt32 := by simp [nar]
  rw [hbb] at V_b
  exact Out.endN X2 (fun h => by rw [Bd.returns] at h; cases h) Bd.notSynchronized (by decide) (by decide) (by rw [e2]; exact ⟨b, _, rfl, N0, Kp, sz_b, V_b⟩) (fun fs hr => own_retR X2 hx (t := (.array .byte)) Bd.returns rfl rfl rfl (hb hby own_d4_8) hr)
theorem own_d5_0 : decode jdk_42_method_139_code 0 = .ok (.getstatic 38, 3) := by decide +kernel
theorem own_d5_3 : decode jdk_42_method_139_code 3 = .ok (.ifCond .eq 23, 3) := by decide +kernel
theorem own_d5_6 : decode jdk_42_method_139_code 6 = .ok (.iload_n 0, 1) := by decide +kernel
theorem own_d5_7 : decode jdk_42_method_139_code 7 = .ok (.invokestatic 1015, 3) := by decide +kernel
theorem own_pd3 : parseMethodDescriptor "(C)Z" = some ⟨[.char], some .boolean⟩ := by decide +kernel
theorem own_d5_10 : decode jdk_42_method_139_code 10 = .ok (.ifCond .eq 16, 3) := by decide +kernel
theorem own_d5_13 : decode jdk_42_method_139_code 13 = .ok (.new 10, 3) := by decide +kernel
theorem own_d5_16 : decode jdk_42_method_139_code 16 = .ok (.dup, 1) := by decide +kernel
theorem own_d5_17 : decode jdk_42_method_139_code 17 = .ok (.iload_n 0, 1) := by decide +kernel
theorem own_d5_18 : decode jdk_42_method_139_code 18 = .ok (.invokestatic 1018, 3) := by decide +kernel
theorem own_pd4 : parseMethodDescriptor "(C)[B" = some ⟨[.char], some (.array .byte)⟩ := by decide +kernel
theorem own_d5_21 : decode jdk_42_method_139_code 21 = .ok (.iconst 0, 1) := by decide +kernel
theorem own_d5_22 : decode jdk_42_method_139_code 22 = .ok (.invokespecial 209, 3) := by decide +kernel
theorem own_pd5 : parseMethodDescriptor "([BB)V" = some ⟨[(.array .byte), .byte], none⟩ := by decide +kernel
theorem own_d5_25 : decode jdk_42_method_139_code 25 = .ok (.areturn, 1) := by decide +kernel
theorem own_ef16 (m : MethodId) (x0 : Int32) : entryFrame m #[(.int x0)] 1 = mkF m 0 #[.val (.int x0)] [] := by first | (simp [entryFrame, mkF, argsToLocals, Value.category]; done) | rfl
abbrev own_Q16 (Z : State) (c0 G1 : Int32) (h0 : Heap) (n0 : Nat) : Option Value → Heap → List Loc → Prop := fun v h L => ∃ b : Addr, v = some (.ref b) ∧ Fr n0 L ∧ Keep h0 h [] ∧ h0.size ≤ b ∧ own_Str Z h b [c0]
set_option maxRecDepth 65536 in
set_option maxHeartbeats 40000000 in
theorem own_rm16 (l : Launch) (Z : State) (a0 : Array Value) (hw : ∀ d ∈ tables_1, d.before a0 Z = true) (ws : List Jvm.Cond) (c0 G1 : Int32) (h0 : Heap) (n0 : Nat) (O : Old Z n0 h0) (hc : own_lat c0) (O2 : Sta Z Z.heap "java/lang/String" "COMPACT_STRINGS" "Z" (.int G1)) (P5 : ¬ (G1 = (0 : Int32))) :
    MetFree l (⟨"java/lang/String", "valueOf", "(C)Ljava/lang/String;"⟩ : MethodName) (head1 (Jvm.Cond.code (⟨"java/lang/String", "valueOf", "(C)Ljava/lang/String;"⟩ : MethodName) jdk_42_method_139_code 1 (some (.object "java/lang/String")) :: ws) ({ frames := 2, cells := 2, slots := 5, locals := 27 } : Room)) (fun aa U => aa = #[(.int c0)] ∧ Z.Warmed39 U.vm ∧ U.heap = h0) (fun _ _ _ _ _ => True) (fun _ U o U' => ∃ v L, o = .returned v ∧ (own_Q16 Z c0 G1 h0 n0) v U'.heap L ∧ FrameEnd U o U' L ({ frames := 2, cells := 2, slots := 5, locals := 27 } : Room).cells ({ frames := 2, cells := 2, slots := 5, locals := 27 } : Room).slots) := by
  refine MetFree.of_bodySF (plainFor_of_name own_pn0) hisR ?_
  intro p e s m args below meth c s₁ Bd hml0 hP hK
  obtain ⟨rfl, hZ, hh⟩ := hP
  have hx := Bd.exec
  have hby := Bd.bytes
  have hml : c.maxLocals = 1 := hml0
  have hown : s.vm.findClass "java/lang/String" = some m.cls := findClass_of_methodNamed Bd.named
  have hnm := (name_of_methodNamed Bd.named Bd.method).1
  have X0 : Stand p l e ({ frames := 2, cells := 2, slots := 5, locals := 27 } : Room) s m #[(.int c0)] below meth c s₁ [] 0 0 := Stand.of_body Bd
  have e0 : s₁.heap = h0 := by rw [← hh, Bd.state]; rfl
  have N0 := Fr.nil n0
  refine Out.start (Q := own_Q16 Z c0 G1 h0 n0) (own_ef16 m c0 ) ?_
  have Kp := Keep.refl h0 []
  obtain ⟨T1, X1, e1, st1⟩ := getS2 X0 hx hZ hown (host := "") (Or.inl (hw _ (List.mem_of_getElem? (i := 71) rfl))) Via.refl e0 (O2.ext O.2) (g := (mkF m 0 #[.val (.int c0)] [])) rfl (hb hby own_d5_0)
  refine Out.via (g' := (mkF m 3 #[.val (.int c0)] [(.int G1)])) st1 ?_
  refine Out.via (g' := (mkF m 6 #[.val (.int c0)] [])) (fun _ k => XS.ifNo X1.here hx rfl (hb hby own_d5_3) rfl ((if0 _ _).trans (feq P5).1) k) ?_
  refine Out.via (g' := (mkF m 7 #[.val (.int c0)] [(.int c0)])) (fun _ k => XS.iloadN X1.here hx rfl (hb hby own_d5_6) rfl k) ?_
  obtain ⟨_, _, ⟨T2, L2, kc2, ks2⟩, -, X2, ⟨Lc2, hQ2, l2, y2, z2⟩, st2⟩ := Jvm.LawKit.callS X1 hx (y := (⟨"java/lang/StringLatin1", "canEncode", "(C)Z"⟩ : MethodName)) hown (mvT hZ (hw _ (List.mem_of_getElem? (i := 91) rfl))) (mvT hZ (hw _ (List.mem_of_getElem? (i := 92) rfl))) (mvT hZ (hw _ (List.mem_of_getElem? (i := 93) rfl))) (mvT hZ (hw _ (List.mem_of_getElem? (i := 94) rfl))) (by decide) (backOf (W := 0) (own_rm17 l Z a0 hw [] c0 h0 n0 O hc) hZ (hw _ (List.mem_of_getElem? (i := 94) rfl)) (hw _ (List.mem_of_getElem? (i := 93) rfl)) (by decide) (by decide)) (g := (mkF m 7 #[.val (.int c0)] [(.int c0)])) rfl (by rw [hml]; rfl) (argsL := [(.int c0)]) (rest := []) (lenOf own_pd3 rfl) rfl (by show 2 * 0 + _ ≤ _; exact Nat.le_of_eq rfl) (hb hby own_d5_7) (fun _ _ => ⟨rfl, e1, (by decide : 0 + 0 ≤ _), (by decide : 0 + 0 ≤ _)⟩)
  dsimp only [Pt.U, Pt.locs, Pt.cells, Pt.slots] at X2 l2 y2 z2 st2 hQ2
  subst l2 y2 z2
  obtain ⟨rfl, Nq2, eq2⟩ := hQ2
  replace N0 := Fr.app N0 Nq2
  refine Out.via (g' := (mkF m 10 #[.val (.int c0)] [(.int (1 : Int32))])) st2 ?_
  refine Out.via (g' := (mkF m 13 #[.val (.int c0)] [])) (fun _ k => XS.ifNo X2.here hx rfl (hb hby own_d5_10) rfl ((if0 _ _).trans (feq (by decide)).1) k) ?_
  obtain ⟨T3, h3, X3, e3, E3, A3, D3, -, st3⟩ := newO X2 hx hZ hown (hw _ (List.mem_of_getElem? (i := 95) rfl)) (hw _ (List.mem_of_getElem? (i := 5) rfl)) (hw _ (List.mem_of_getElem? (i := 6) rfl)) eq2 (g := (mkF m 13 #[.val (.int c0)] [])) rfl (hb hby own_d5_13) (by decide) (by decide)
  obtain ⟨b, gq3⟩ : ∃ z, z = h0.size := ⟨_, rfl⟩
  rw [← gq3] at A3 D3 st3
  have g_b : n0 ≤ b := Nat.le_trans (own_z0 O) (Nat.le_of_eq gq3.symm)
  have sz_b : h0.size ≤ b := Nat.le_trans Kp.1 (Nat.le_of_eq gq3.symm)
  replace O := O.ext E3
  replace Kp := Kp.ext E3
  have F_value_b : Fld Z h3 b "java/lang/String" "value" "[B" .null := D3 (Or.inr (hw _ (List.mem_of_getElem? (i := 20) rfl))) (ty := (.array .byte)) (by decide)
  have F_coder_b : Fld Z h3 b "java/lang/String" "coder" "B" (.int (0 : Int32)) := D3 (Or.inr (hw _ (List.mem_of_getElem? (i := 21) rfl))) (ty := .byte) (by decide)
  refine Out.via (g' := (mkF m 16 #[.val (.int c0)] [(.ref b)])) st3 ?_
  refine Out.via (g' := (mkF m 17 #[.val (.int c0)] [(.ref b), (.ref b)])) (fun _ k => XS.dup X3.here hx rfl (hb hby own_d5_16) rfl rfl k) ?_
  refine Out.via (g' := (mkF m 18 #[.val (.int c0)] [(.int c0), (.ref b), (.ref b)])) (fun _ k => XS.iloadN X3.here hx rfl (hb hby own_d5_17) rfl k) ?_
  obtain ⟨_, _, ⟨T4, L4, kc4, ks4⟩, -, X4, ⟨Lc4, hQ4, l4, y4, z4⟩, st4⟩ := Jvm.LawKit.callS X3 hx (y := (⟨"java/lang/StringLatin1", "toBytes", "(C)[B"⟩ : MethodName)) hown (mvT hZ (hw _ (List.mem_of_getElem? (i := 96) rfl))) (mvT hZ (hw _ (List.mem_of_getElem? (i := 97) rfl))) (mvT hZ (hw _ (List.mem_of_getElem? (i := 93) rfl))) (mvT hZ (hw _ (List.mem_of_getElem? (i := 98) rfl))) (by decide) (backOf (W := 2) (own_rm18 l Z a0 hw [] c0 h3 n0 O) hZ (hw _ (List.mem_of_getElem? (i := 98) rfl)) (hw _ (List.mem_of_getElem? (i := 93) rfl)) (by decide) (by decide)) (g := (mkF m 18 #[.val (.int c0)] [(.int c0), (.ref b), (.ref b)])) rfl (by rw [hml]; rfl) (argsL := [(.int c0)]) (rest := [(.ref b), (.ref b)]) (lenOf own_pd4 rfl) rfl (by show 2 * 0 + _ ≤ _; exact Nat.le_of_eq rfl) (hb hby own_d5_18) (fun _ _ => ⟨rfl, e3, (by decide : 1 + 1 ≤ _), (by decide : 4 + 1 ≤ _)⟩)
  dsimp only [Pt.U, Pt.locs, Pt.cells, Pt.slots] at X4 l4 y4 z4 st4 hQ4
  subst l4 y4 z4
  obtain ⟨t, kt, rfl, Nq4, Kq4, le_t, At⟩ := hQ4
  replace N0 := Fr.app N0 Nq4
  have ne_b_t : b ≠ t := Nat.ne_of_lt (Nat.lt_of_lt_of_le A3.lt le_t)
  replace F_value_b := F_value_b.keep Kq4 nin0
  replace F_coder_b := F_coder_b.keep Kq4 nin0
  replace A3 := A3.keep Kq4
  replace O := O.keep Kq4 all0
  replace Kp := Kp.trans Kq4 all0
  refine Out.via (g' := (mkF m 21 #[.val (.int c0)] [(.ref t), (.ref b), (.ref b)])) st4 ?_
  refine Out.via (g' := (mkF m 22 #[.val (.int c0)] [(.int (0 : Int32)), (.ref t), (.ref b), (.ref b)])) (fun _ k => XS.iconst X4.here hx rfl (hb hby own_d5_21) k) ?_
  obtain ⟨_, _, ⟨T5, L5, kc5, ks5⟩, -, X5, ⟨Lc5, hQ5, l5, y5, z5⟩, st5⟩ := X4.specialBack hx (y := (⟨"java/lang/String", "<init>", "([BB)V"⟩ : MethodName)) rfl hown (mvT hZ (hw _ (List.mem_of_getElem? (i := 99) rfl))) (mvT hZ (hw _ (List.mem_of_getElem? (i := 100) rfl))) (mvT hZ (hw _ (List.mem_of_getElem? (i := 101) rfl))) (by decide) (backOf (W := 1) (own_rm19 l Z a0 hw [] b t T4.heap n0 O g_b A3 F_value_b F_coder_b) hZ (hw _ (List.mem_of_getElem? (i := 101) rfl)) (hw _ (List.mem_of_getElem? (i := 6) rfl)) (by decide) (by decide)) (g := (mkF m 22 #[.val (.int c0)] [(.int (0 : Int32)), (.ref t), (.ref b), (.ref b)])) rfl (by rw [hml]; rfl) (Steps.refl _) (a := b) (argsL := [(.ref t), (.int (0 : Int32))]) (rest := [(.ref b)]) (lenOf own_pd5 rfl) rfl (by show 2 * 0 + _ ≤ _; exact Nat.le_of_eq rfl) (hb hby own_d5_22) (fun _ _ => ⟨rfl, rfl, (by decide : 2 + 0 ≤ _), (by decide : 5 + 0 ≤ _)⟩)
  dsimp only [Pt.U, Pt.locs, Pt.cells, Pt.slots] at X5 l5 y5 z5 st5 hQ5
  subst l5 y5 z5
  obtain ⟨rfl, Nq5, Kq5, Eb, Vb, Cb⟩ := hQ5
  replace N0 := Fr.app N0 Nq5
  replace A3 := A3.keep Kq5
  replace At := At.keep Kq5 (ninS (Ne.symm ne_b_t) nin0)
  replace O := O.keep Kq5 (allS g_b all0)
  replace Kp := Kp.trans Kq5 (allS (Or.inr sz_b) all0)
  refine Out.to (g' := (mkF m 25 #[.val (.int c0)] [(.ref b)])) st5 ?_
  exact Out.endN X5 (fun h => by rw [Bd.returns] at h; cases h) Bd.notSynchronized (by decide) (by decide) (⟨b, rfl, N0, Kp, sz_b, own_allS hc own_all0, Eb, Cb, t, kt, Vb, At⟩) (fun fs hr => own_retR X5 hx (t := (.object "java/lang/String")) Bd.returns rfl rfl rfl (hb hby own_d5_25) hr)
theorem own_pn6 : plainName "com/example/faultwright/faultwright/PlaceDocumentPinLaw" = true := by first | (simp [plainName, overriddenIn]; done) | decide +kernel
theorem own_d6_0 : decode method_2_code 0 = .ok (.iload_n 1, 1) := by decide +kernel
theorem own_d6_1 : decode method_2_code 1 = .ok (.sipush 255, 3) := by decide +kernel
theorem own_d6_4 : decode method_2_code 4 = .ok (.iand, 1) := by decide +kernel
theorem own_d6_5 : decode method_2_code 5 = .ok (.i2c, 1) := by decide +kernel
theorem own_d6_6 : decode method_2_code 6 = .ok (.istore_n 2, 1) := by decide +kernel
theorem own_d6_7 : decode method_2_code 7 = .ok (.iload_n 1, 1) := by decide +kernel
theorem own_d6_8 : decode method_2_code 8 = .ok (.bipush 8, 2) := by decide +kernel
theorem own_d6_10 : decode method_2_code 10 = .ok (.iushr, 1) := by decide +kernel
theorem own_d6_11 : decode method_2_code 11 = .ok (.sipush 255, 3) := by decide +kernel
theorem own_d6_14 : decode method_2_code 14 = .ok (.iand, 1) := by decide +kernel
theorem own_d6_15 : decode method_2_code 15 = .ok (.i2c, 1) := by decide +kernel
theorem own_d6_16 : decode method_2_code 16 = .ok (.istore_n 3, 1) := by decide +kernel
theorem own_d6_17 : decode method_2_code 17 = .ok (.iload_n 1, 1) := by decide +kernel
theorem own_d6_18 : decode method_2_code 18 = .ok (.bipush 16, 2) := by decide +kernel
theorem own_d6_20 : decode method_2_code 20 = .ok (.iushr, 1) := by decide +kernel
theorem own_d6_21 : decode method_2_code 21 = .ok (.sipush 255, 3) := by decide +kernel
theorem own_d6_24 : decode method_2_code 24 = .ok (.iand, 1) := by decide +kernel
theorem own_d6_25 : decode method_2_code 25 = .ok (.i2c, 1) := by decide +kernel
theorem own_d6_26 : decode method_2_code 26 = .ok (.istore 4, 2) := by decide +kernel
theorem own_d6_28 : decode method_2_code 28 = .ok (.iload_n 0, 1) := by decide +kernel
theorem own_d6_29 : decode method_2_code 29 = .ok (.ifCond .ne 14, 3) := by decide +kernel
theorem own_d6_32 : decode method_2_code 32 = .ok (.new 7, 3) := by decide +kernel
theorem own_d6_35 : decode method_2_code 35 = .ok (.dup, 1) := by decide +kernel
theorem own_d6_36 : decode method_2_code 36 = .ok (.iconst 0, 1) := by decide +kernel
theorem own_d6_37 : decode method_2_code 37 = .ok (.newarray .char, 2) := by decide +kernel
theorem own_d6_39 : decode method_2_code 39 = .ok (.invokespecial 9, 3) := by decide +kernel
theorem own_pd7 : parseMethodDescriptor "([C)V" = some ⟨[(.array .char)], none⟩ := by decide +kernel
theorem own_d6_42 : decode method_2_code 42 = .ok (.areturn, 1) := by decide +kernel
theorem own_d6_43 : decode method_2_code 43 = .ok (.iload_n 0, 1) := by decide +kernel
theorem own_d6_44 : decode method_2_code 44 = .ok (.iconst 1, 1) := by decide +kernel
theorem own_d6_45 : decode method_2_code 45 = .ok (.if_icmp .ne 8, 3) := by decide +kernel
theorem own_d6_48 : decode method_2_code 48 = .ok (.iload_n 2, 1) := by decide +kernel
theorem own_d6_49 : decode method_2_code 49 = .ok (.invokestatic 12, 3) := by decide +kernel
theorem own_pd8 : parseMethodDescriptor "(C)Ljava/lang/String;" = some ⟨[.char], some (.object "java/lang/String")⟩ := by decide +kernel
theorem own_d6_52 : decode method_2_code 52 = .ok (.areturn, 1) := by decide +kernel
theorem own_d6_53 : decode method_2_code 53 = .ok (.iload_n 0, 1) := by decide +kernel
theorem own_d6_54 : decode method_2_code 54 = .ok (.iconst 2, 1) := by decide +kernel
theorem own_d6_55 : decode method_2_code 55 = .ok (.if_icmp .ne 22, 3) := by decide +kernel
theorem own_d6_58 : decode method_2_code 58 = .ok (.new 7, 3) := by decide +kernel
theorem own_d6_61 : decode method_2_code 61 = .ok (.dup, 1) := by decide +kernel
theorem own_d6_62 : decode method_2_code 62 = .ok (.iconst 2, 1) := by decide +kernel
theorem own_d6_63 : decode method_2_code 63 = .ok (.newarray .char, 2) := by decide +kernel
theorem own_d6_65 : decode method_2_code 65 = .ok (.dup, 1) := by decide +kernel
theorem own_d6_66 : decode method_2_code 66 = .ok (.iconst 0, 1) := by decide +kernel
theorem own_d6_67 : decode method_2_code 67 = .ok (.iload_n 2, 1) := by decide +kernel
theorem own_d6_68 : decode method_2_code 68 = .ok (.castore, 1) := by decide +kernel
theorem own_d6_69 : decode method_2_code 69 = .ok (.dup, 1) := by decide +kernel
theorem own_d6_70 : decode method_2_code 70 = .ok (.iconst 1, 1) := by decide +kernel
theorem own_d6_71 : decode method_2_code 71 = .ok (.iload_n 3, 1) := by decide +kernel
theorem own_d6_72 : decode method_2_code 72 = .ok (.castore, 1) := by decide +kernel
theorem own_d6_73 : decode method_2_code 73 = .ok (.invokespecial 9, 3) := by decide +kernel
theorem own_d6_76 : decode method_2_code 76 = .ok (.areturn, 1) := by decide +kernel
theorem own_d6_77 : decode method_2_code 77 = .ok (.new 7, 3) := by decide +kernel
theorem own_d6_80 : decode method_2_code 80 = .ok (.dup, 1) := by decide +kernel
theorem own_d6_81 : decode method_2_code 81 = .ok (.iconst 3, 1) := by decide +kernel
theorem own_d6_82 : decode method_2_code 82 = .ok (.newarray .char, 2) := by decide +kernel
theorem own_d6_84 : decode method_2_code 84 = .ok (.dup, 1) := by decide +kernel
theorem own_d6_85 : decode method_2_code 85 = .ok (.iconst 0, 1) := by decide +kernel
theorem own_d6_86 : decode method_2_code 86 = .ok (.iload_n 2, 1) := by decide +kernel
theorem own_d6_87 : decode method_2_code 87 = .ok (.castore, 1) := by decide +kernel
theorem own_d6_88 : decode method_2_code 88 = .ok (.dup, 1) := by decide +kernel
theorem own_d6_89 : decode method_2_code 89 = .ok (.iconst 1, 1) := by decide +kernel
theorem own_d6_90 : decode method_2_code 90 = .ok (.iload_n 3, 1) := by decide +kernel
theorem own_d6_91 : decode method_2_code 91 = .ok (.castore, 1) := by decide +kernel
theorem own_d6_92 : decode method_2_code 92 = .ok (.dup, 1) := by decide +kernel
theorem own_d6_93 : decode method_2_code 93 = .ok (.iconst 2, 1) := by decide +kernel
theorem own_d6_94 : decode method_2_code 94 = .ok (.iload 4, 2) := by decide +kernel
theorem own_d6_96 : decode method_2_code 96 = .ok (.castore, 1) := by decide +kernel
theorem own_d6_97 : decode method_2_code 97 = .ok (.invokespecial 9, 3) := by decide +kernel
theorem own_d6_100 : decode method_2_code 100 = .ok (.areturn, 1) := by decide +kernel
theorem own_ef1 (m : MethodId) (x0 : Int32) (x1 : Int32) : entryFrame m #[(.int x0), (.int x1)] 5 = mkF m 0 #[.val (.int x0), .val (.int x1), .unset, .unset, .unset] [] := by first | (simp [entryFrame, mkF, argsToLocals, Value.category]; done) | rfl
abbrev own_Q1 (Z : State) (p1 p2 G1 : Int32) (kN : Nat) (h0 : Heap) (n0 : Nat) : Option Value → Heap → List Loc → Prop := fun v h L => ∃ (b : Addr) (cs : List Int32), v = some (.ref b) ∧ Fr n0 L ∧ Keep h0 h [] ∧ h0.size ≤ b ∧ cs.length = kN ∧ own_Str Z h b cs
set_option maxRecDepth 65536 in
set_option maxHeartbeats 40000000 in
theorem own_rm1 (l : Launch) (Z : State) (a0 : Array Value) (hw : ∀ d ∈ tables_1, d.before a0 Z = true) (ws : List Jvm.Cond) (p1 p2 G1 : Int32) (kN : Nat) (h0 : Heap) (n0 : Nat) (O : Old Z n0 h0) (hkN : kN < 4) (hp1 : p1 = Int32.ofNat kN) (O2 : Sta Z Z.heap "java/lang/String" "COMPACT_STRINGS" "Z" (.int G1)) (P5 : ¬ (G1 = (0 : Int32))) :
    MetFree l (⟨"com/example/faultwright/faultwright/PlaceDocumentPinLaw", "drawn", "(II)Ljava/lang/String;"⟩ : MethodName) (head1 (Jvm.Cond.code (⟨"com/example/faultwright/faultwright/PlaceDocumentPinLaw", "drawn", "(II)Ljava/lang/String;"⟩ : MethodName) method_2_code 5 (some (.object "java/lang/String")) :: ws) ({ frames := 4, cells := 4, slots := 10, locals := 66 } : Room)) (fun aa U => aa = #[(.int p1), (.int p2)] ∧ Z.Warmed39 U.vm ∧ U.heap = h0 ∧ CHv Z own_EL U.vm h0) (fun _ _ _ _ _ => True) (fun _ U o U' => ∃ v L, o = .returned v ∧ (own_Q1 Z p1 p2 G1 kN h0 n0) v U'.heap L ∧ CHr Z own_EL U.vm U.heap U'.vm U'.heap ∧ ReturnedEndW U o U' L ({ frames := 4, cells := 4, slots := 10, locals := 66 } : Room).cells ({ frames := 4, cells := 4, slots := 10, locals := 66 } : Room).slots) := by
  refine MetFree.of_bodySF (plainFor_of_name own_pn6) hisR ?_
  intro p e s m args below meth c s₁ Bd hml0 hP hK
  obtain ⟨rfl, hZ, hh, hCH⟩ := hP
  have hx := Bd.exec
  have hby := Bd.bytes
  have hml : c.maxLocals = 5 := hml0
  have hown : s.vm.findClass "com/example/faultwright/faultwright/PlaceDocumentPinLaw" = some m.cls := findClass_of_methodNamed Bd.named
  have hnm := (name_of_methodNamed Bd.named Bd.method).1
  have X0 : Stand p l e ({ frames := 4, cells := 4, slots := 10, locals := 66 } : Room) (s.setVm s.vm) m #[(.int p1), (.int p2)] below meth c s₁ [] 0 0 := Stand.of_body Bd
  have e0 : s₁.heap = h0 := by rw [← hh, Bd.state]; rfl
  have N0 := Fr.nil n0
  have hS := own_since0 s 0
  have hk : 0 ≤ h0.size := Nat.zero_le _
  have CR : CHr Z own_EL s.vm h0 s.vm h0 := CHr.refl hCH
  refine Out.startH (Q := own_Q1 Z p1 p2 G1 kN h0 n0) (own_ef1 m p1 p2 ) ?_
  have Kp := Keep.refl h0 []
  have hEL := own_hEL hw
  have hws : ∀ d ∈ StrChars.Road.words, d.before a0 Z = true := fun d hd => hw d ((by decide +kernel : ∀ d ∈ StrChars.Road.words, d ∈ tables_1) d hd)
  refine Out.via (g' := (mkF m 1 #[.val (.int p1), .val (.int p2), .unset, .unset, .unset] [(.int p2)])) (fun _ k => XS.iloadN X0.here hx rfl (hb hby own_d6_0) rfl k) ?_
  refine Out.via (g' := (mkF m 4 #[.val (.int p1), .val (.int p2), .unset, .unset, .unset] [(.int (255 : Int32)), (.int p2)])) (fun _ k => XS.sipush X0.here hx rfl (hb hby own_d6_1) k) ?_
  refine Out.via (g' := (mkF m 5 #[.val (.int p1), .val (.int p2), .unset, .unset, .unset] [(.int (p2 &&& (255 : Int32)))])) (fun _ k => XS.iand X0.here hx rfl (hb hby own_d6_4) rfl k) ?_
  refine Out.via (g' := (mkF m 6 #[.val (.int p1), .val (.int p2), .unset, .unset, .unset] [(.int ((p2 &&& (255 : Int32)).toUInt32.toUInt16.toUInt32.toInt32))])) (fun _ k => XS.i2c X0.here hx rfl (hb hby own_d6_5) rfl k) ?_
  refine Out.via (g' := (mkF m 7 #[.val (.int p1), .val (.int p2), .val (.int ((p2 &&& (255 : Int32)).toUInt32.toUInt16.toUInt32.toInt32)), .unset, .unset] [])) (fun _ k => XS.istoreN X0.here hx rfl (hb hby own_d6_6) rfl (l' := #[.val (.int p1), .val (.int p2), .val (.int ((p2 &&& (255 : Int32)).toUInt32.toUInt16.toUInt32.toInt32)), .unset, .unset]) rfl k) ?_
  generalize hq_c0 : ((p2 &&& (255 : Int32)).toUInt32.toUInt16.toUInt32.toInt32) = c0
  have D_c0 : own_lat c0 := hq_c0 ▸ own_mask _
  refine Out.via (g' := (mkF m 8 #[.val (.int p1), .val (.int p2), .val (.int c0), .unset, .unset] [(.int p2)])) (fun _ k => XS.iloadN X0.here hx rfl (hb hby own_d6_7) rfl k) ?_
  refine Out.via (g' := (mkF m 10 #[.val (.int p1), .val (.int p2), .val (.int c0), .unset, .unset] [(.int (8 : Int32)), (.int p2)])) (fun _ k => XS.bipush X0.here hx rfl (hb hby own_d6_8) k) ?_
  refine Out.via (g' := (mkF m 11 #[.val (.int p1), .val (.int p2), .val (.int c0), .unset, .unset] [(.int ((p2.toUInt32 >>> ((8 : Int32) &&& 31).toUInt32).toInt32))])) (fun _ k => XS.iushr X0.here hx rfl (hb hby own_d6_10) rfl k) ?_
  refine Out.via (g' := (mkF m 14 #[.val (.int p1), .val (.int p2), .val (.int c0), .unset, .unset] [(.int (255 : Int32)), (.int ((p2.toUInt32 >>> ((8 : Int32) &&& 31).toUInt32).toInt32))])) (fun _ k => XS.sipush X0.here hx rfl (hb hby own_d6_11) k) ?_
  refine Out.via (g' := (mkF m 15 #[.val (.int p1), .val (.int p2), .val (.int c0), .unset, .unset] [(.int (((p2.toUInt32 >>> ((8 : Int32) &&& 31).toUInt32).toInt32) &&& (255 : Int32)))])) (fun _ k => XS.iand X0.here hx rfl (hb hby own_d6_14) rfl k) ?_
  refine Out.via (g' := (mkF m 16 #[.val (.int p1), .val (.int p2), .val (.int c0), .unset, .unset] [(.int ((((p2.toUInt32 >>> ((8 : Int32) &&& 31).toUInt32).toInt32) &&& (255 : Int32)).toUInt32.toUInt16.toUInt32.toInt32))])) (fun _ k => XS.i2c X0.here hx rfl (hb hby own_d6_15) rfl k) ?_
  refine Out.via (g' := (mkF m 17 #[.val (.int p1), .val (.int p2), .val (.int c0), .val (.int ((((p2.toUInt32 >>> ((8 : Int32) &&& 31).toUInt32).toInt32) &&& (255 : Int32)).toUInt32.toUInt16.toUInt32.toInt32)), .unset] [])) (fun _ k => XS.istoreN X0.here hx rfl (hb hby own_d6_16) rfl (l' := #[.val (.int p1), .val (.int p2), .val (.int c0), .val (.int ((((p2.toUInt32 >>> ((8 : Int32) &&& 31).toUInt32).toInt32) &&& (255 : Int32)).toUInt32.toUInt16.toUInt32.toInt32)), .unset]) rfl k) ?_
  generalize hq_c1 : ((((p2.toUInt32 >>> ((8 : Int32) &&& 31).toUInt32).toInt32) &&& (255 : Int32)).toUInt32.toUInt16.toUInt32.toInt32) = c1
  have D_c1 : own_lat c1 := hq_c1 ▸ own_mask _
  refine Out.via (g' := (mkF m 18 #[.val (.int p1), .val (.int p2), .val (.int c0), .val (.int c1), .unset] [(.int p2)])) (fun _ k => XS.iloadN X0.here hx rfl (hb hby own_d6_17) rfl k) ?_
  refine Out.via (g' := (mkF m 20 #[.val (.int p1), .val (.int p2), .val (.int c0), .val (.int c1), .unset] [(.int (16 : Int32)), (.int p2)])) (fun _ k => XS.bipush X0.here hx rfl (hb hby own_d6_18) k) ?_
  refine Out.via (g' := (mkF m 21 #[.val (.int p1), .val (.int p2), .val (.int c0), .val (.int c1), .unset] [(.int ((p2.toUInt32 >>> ((16 : Int32) &&& 31).toUInt32).toInt32))])) (fun _ k => XS.iushr X0.here hx rfl (hb hby own_d6_20) rfl k) ?_
  refine Out.via (g' := (mkF m 24 #[.val (.int p1), .val (.int p2), .val (.int c0), .val (.int c1), .unset] [(.int (255 : Int32)), (.int ((p2.toUInt32 >>> ((16 : Int32) &&& 31).toUInt32).toInt32))])) (fun _ k => XS.sipush X0.here hx rfl (hb hby own_d6_21) k) ?_
  refine Out.via (g' := (mkF m 25 #[.val (.int p1), .val (.int p2), .val (.int c0), .val (.int c1), .unset] [(.int (((p2.toUInt32 >>> ((16 : Int32) &&& 31).toUInt32).toInt32) &&& (255 : Int32)))])) (fun _ k => XS.iand X0.here hx rfl (hb hby own_d6_24) rfl k) ?_
  refine Out.via (g' := (mkF m 26 #[.val (.int p1), .val (.int p2), .val (.int c0), .val (.int c1), .unset] [(.int ((((p2.toUInt32 >>> ((16 : Int32) &&& 31).toUInt32).toInt32) &&& (255 : Int32)).toUInt32.toUInt16.toUInt32.toInt32))])) (fun _ k => XS.i2c X0.here hx rfl (hb hby own_d6_25) rfl k) ?_
  refine Out.via (g' := (mkF m 28 #[.val (.int p1), .val (.int p2), .val (.int c0), .val (.int c1), .val (.int ((((p2.toUInt32 >>> ((16 : Int32) &&& 31).toUInt32).toInt32) &&& (255 : Int32)).toUInt32.toUInt16.toUInt32.toInt32))] [])) (fun _ k => XS.istore X0.here hx rfl (hb hby own_d6_26) rfl (l' := #[.val (.int p1), .val (.int p2), .val (.int c0), .val (.int c1), .val (.int ((((p2.toUInt32 >>> ((16 : Int32) &&& 31).toUInt32).toInt32) &&& (255 : Int32)).toUInt32.toUInt16.toUInt32.toInt32))]) rfl k) ?_
  generalize hq_c2 : ((((p2.toUInt32 >>> ((16 : Int32) &&& 31).toUInt32).toInt32) &&& (255 : Int32)).toUInt32.toUInt16.toUInt32.toInt32) = c2
  have D_c2 : own_lat c2 := hq_c2 ▸ own_mask _
  rcases (by omega : kN = 0 ∨ kN = 1 ∨ kN = 2 ∨ kN = 3) with rfl | rfl | rfl | rfl
  · subst hp1
    refine Out.via (g' := (mkF m 29 #[.val (.int (Int32.ofNat 0)), .val (.int p2), .val (.int c0), .val (.int c1), .val (.int c2)] [(.int (Int32.ofNat 0))])) (fun _ k => XS.iloadN X0.here hx rfl (hb hby own_d6_28) rfl k) ?_
    refine Out.via (g' := (mkF m 32 #[.val (.int (Int32.ofNat 0)), .val (.int p2), .val (.int c0), .val (.int c1), .val (.int c2)] [])) (fun _ k => XS.ifNo X0.here hx rfl (hb hby own_d6_29) rfl ((if0 _ _).trans (teq (by decide)).2) k) ?_
    obtain ⟨T1, h1, X1, e1, E1, A1, D1, -, st1⟩ := newO X0 hx hZ hown (hw _ (List.mem_of_getElem? (i := 4) rfl)) (hw _ (List.mem_of_getElem? (i := 5) rfl)) (hw _ (List.mem_of_getElem? (i := 6) rfl)) e0 (g := (mkF m 32 #[.val (.int (Int32.ofNat 0)), .val (.int p2), .val (.int c0), .val (.int c1), .val (.int c2)] [])) rfl (hb hby own_d6_32) (by decide) (by decide)
    obtain ⟨b, gq1⟩ : ∃ z, z = h0.size := ⟨_, rfl⟩
    rw [← gq1] at A1 D1 st1
    have g_b : n0 ≤ b := Nat.le_trans (own_z0 O) (Nat.le_of_eq gq1.symm)
    have sz_b : h0.size ≤ b := Nat.le_trans Kp.1 (Nat.le_of_eq gq1.symm)
    replace O := O.ext E1
    replace Kp := Kp.ext E1
    replace CR := CR.trans (CHr.ext E1 CR.1)
    replace hk := Nat.le_trans hk E1.1
    have F_value_b : Fld Z h1 b "java/lang/String" "value" "[B" .null := D1 (Or.inr (hw _ (List.mem_of_getElem? (i := 20) rfl))) (ty := (.array .byte)) (by decide)
    have F_coder_b : Fld Z h1 b "java/lang/String" "coder" "B" (.int (0 : Int32)) := D1 (Or.inr (hw _ (List.mem_of_getElem? (i := 21) rfl))) (ty := .byte) (by decide)
    refine Out.via (g' := (mkF m 35 #[.val (.int (Int32.ofNat 0)), .val (.int p2), .val (.int c0), .val (.int c1), .val (.int c2)] [(.ref b)])) st1 ?_
    have sf_b := own_safe_fresh (EL := own_EL) hZ A1 F_value_b
    refine Out.via (g' := (mkF m 36 #[.val (.int (Int32.ofNat 0)), .val (.int p2), .val (.int c0), .val (.int c1), .val (.int c2)] [(.ref b), (.ref b)])) (fun _ k => XS.dup X1.here hx rfl (hb hby own_d6_35) rfl rfl k) ?_
    refine Out.via (g' := (mkF m 37 #[.val (.int (Int32.ofNat 0)), .val (.int p2), .val (.int c0), .val (.int c1), .val (.int c2)] [(.int (0 : Int32)), (.ref b), (.ref b)])) (fun _ k => XS.iconst X1.here hx rfl (hb hby own_d6_36) k) ?_
    obtain ⟨T2, h2, k2, X2, e2, E2, A2, st2⟩ := newP X1 hx hZ (hw _ (List.mem_of_getElem? (i := 7) rfl)) e1 (g := (mkF m 37 #[.val (.int (Int32.ofNat 0)), .val (.int p2), .val (.int c0), .val (.int c1), .val (.int c2)] [(.int (0 : Int32)), (.ref b), (.ref b)])) rfl (hb hby own_d6_37) rfl (by decide) (cap := 0) (by decide) (by decide) (by decide) (by decide)
    obtain ⟨ca, gq2⟩ : ∃ z, z = h1.size := ⟨_, rfl⟩
    rw [← gq2] at A2 st2
    have ne_b_ca : b ≠ ca := Nat.ne_of_lt (Nat.lt_of_lt_of_le A1.lt (Nat.le_of_eq gq2.symm))
    have g_ca : n0 ≤ ca := Nat.le_trans (own_z0 O) (Nat.le_of_eq gq2.symm)
    have sz_ca : h0.size ≤ ca := Nat.le_trans Kp.1 (Nat.le_of_eq gq2.symm)
    replace F_value_b := F_value_b.ext E2
    replace F_coder_b := F_coder_b.ext E2
    replace A1 := A1.ext E2
    replace O := O.ext E2
    replace Kp := Kp.ext E2
    replace sf_b := Safe.ext E2 CR.1 sf_b
    replace CR := CR.trans (CHr.ext E2 CR.1)
    replace hk := Nat.le_trans hk E2.1
    have V_ca : Arv Z h2 ca k2 .char (0 : Int32) [] (.int (0 : Int32)) := (Arv.new A2 (by decide)).pad (pad_rep [] (.int (0 : Int32)) 0)
    refine Out.via (g' := (mkF m 39 #[.val (.int (Int32.ofNat 0)), .val (.int p2), .val (.int c0), .val (.int c1), .val (.int c2)] [(.ref ca), (.ref b), (.ref b)])) st2 ?_
    obtain ⟨_, _, ⟨T3, L3, kc3, ks3⟩, -, X3, hS3, hg3, ⟨Lc3, hQ3, l3, y3, z3, CR3⟩, st3⟩ := X2.specialBackS hx (y := (⟨"java/lang/String", "<init>", "([C)V"⟩ : MethodName)) rfl hown (mvT hZ (hw _ (List.mem_of_getElem? (i := 8) rfl))) (mvT hZ (hw _ (List.mem_of_getElem? (i := 9) rfl))) (mvT hZ (hw _ (List.mem_of_getElem? (i := 10) rfl))) (by decide) (backOfSH (W := 1) (own_rm2 l Z a0 hw [] b ca k2 (.int (0 : Int32)) h2 n0 O g_b A1 F_value_b F_coder_b V_ca) hZ (hw _ (List.mem_of_getElem? (i := 10) rfl)) (hw _ (List.mem_of_getElem? (i := 6) rfl)) (by decide) (by decide) hEL CR.1) (g := (mkF m 39 #[.val (.int (Int32.ofNat 0)), .val (.int p2), .val (.int c0), .val (.int c1), .val (.int c2)] [(.ref ca), (.ref b), (.ref b)])) rfl (by rw [hml]; rfl) (Steps.refl _) (a := b) (argsL := [(.ref ca)]) (rest := [(.ref b)]) (lenOf own_pd7 rfl) rfl (by show 2 * 0 + _ ≤ _; exact Nat.le_of_eq rfl) (hb hby own_d6_39) (fun _ _ => ⟨rfl, e2, (by decide : 2 + 2 ≤ _), (by decide : 4 + 4 ≤ _)⟩)
    dsimp only [Pt.U, Pt.locs, Pt.cells, Pt.slots] at X3 l3 y3 z3 st3 hQ3 hS3 hg3 CR3
    subst l3 y3 z3
    rw [e2] at hg3
    obtain ⟨X3, hS, hZ, hown⟩ := rebS hS hk X3 hS3 hg3 hZ hown
    replace hk := Nat.le_refl T3.heap.size
    replace CR := CR.trans CR3
    obtain ⟨rfl, Nq, Kq, Sq⟩ := hQ3
    replace Kp := Kp.trans Kq (allS (Or.inr sz_b) all0)
    refine Out.to (g' := (mkF m 42 #[.val (.int (Int32.ofNat 0)), .val (.int p2), .val (.int c0), .val (.int c1), .val (.int c2)] [(.ref b)])) st3 ?_
    exact Out.endH X3 hS hk hZ hEL (by rw [hh]; exact CR) (fun h => by rw [Bd.returns] at h; cases h) Bd.notSynchronized (by decide) (by decide) (⟨b, [], rfl, Fr.app N0 Nq, Kp, sz_b, rfl, Sq⟩) (fun fs hr => own_retR X3 hx (t := (.object "java/lang/String")) Bd.returns rfl rfl rfl (hb hby own_d6_42) hr)
  · subst hp1
    refine Out.via (g' := (mkF m 29 #[.val (.int (Int32.ofNat 1)), .val (.int p2), .val (.int c0), .val (.int c1), .val (.int c2)] [(.int (Int32.ofNat 1))])) (fun _ k => XS.iloadN X0.here hx rfl (hb hby own_d6_28) rfl k) ?_
    refine Out.via (g' := (mkF m 43 #[.val (.int (Int32.ofNat 1)), .val (.int p2), .val (.int c0), .val (.int c1), .val (.int c2)] [])) (fun _ k => XS.ifYes X0.here hx rfl (pc0 := 29) (pc' := 43) rfl (hb hby own_d6_29) rfl ((if0 _ _).trans (feq (by decide)).2) (by decide) (by decide) k) ?_
    refine Out.via (g' := (mkF m 44 #[.val (.int (Int32.ofNat 1)), .val (.int p2), .val (.int c0), .val (.int c1), .val (.int c2)] [(.int (Int32.ofNat 1))])) (fun _ k => XS.iloadN X0.here hx rfl (hb hby own_d6_43) rfl k) ?_
    refine Out.via (g' := (mkF m 45 #[.val (.int (Int32.ofNat 1)), .val (.int p2), .val (.int c0), .val (.int c1), .val (.int c2)] [(.int (1 : Int32)), (.int (Int32.ofNat 1))])) (fun _ k => XS.iconst X0.here hx rfl (hb hby own_d6_44) k) ?_
    refine Out.via (g' := (mkF m 48 #[.val (.int (Int32.ofNat 1)), .val (.int p2), .val (.int c0), .val (.int c1), .val (.int c2)] [])) (fun _ k => XS.icmpNo X0.here hx rfl (hb hby own_d6_45) rfl (teq (by decide)).2 k) ?_
    refine Out.via (g' := (mkF m 49 #[.val (.int (Int32.ofNat 1)), .val (.int p2), .val (.int c0), .val (.int c1), .val (.int c2)] [(.int c0)])) (fun _ k => XS.iloadN X0.here hx rfl (hb hby own_d6_48) rfl k) ?_
    obtain ⟨_, _, ⟨T1, L1, kc1, ks1⟩, -, X1, ⟨Lc1, hQ1, l1, y1, z1⟩, st1⟩ := Jvm.LawKit.callS X0 hx (y := (⟨"java/lang/String", "valueOf", "(C)Ljava/lang/String;"⟩ : MethodName)) hown (mvT hZ (hw _ (List.mem_of_getElem? (i := 88) rfl))) (mvT hZ (hw _ (List.mem_of_getElem? (i := 89) rfl))) (mvT hZ (hw _ (List.mem_of_getElem? (i := 6) rfl))) (mvT hZ (hw _ (List.mem_of_getElem? (i := 90) rfl))) (by decide) (backOf (W := 0) (own_rm16 l Z a0 hw [] c0 G1 h0 n0 O D_c0 O2 P5) hZ (hw _ (List.mem_of_getElem? (i := 90) rfl)) (hw _ (List.mem_of_getElem? (i := 6) rfl)) (by decide) (by decide)) (g := (mkF m 49 #[.val (.int (Int32.ofNat 1)), .val (.int p2), .val (.int c0), .val (.int c1), .val (.int c2)] [(.int c0)])) rfl (by rw [hml]; rfl) (argsL := [(.int c0)]) (rest := []) (lenOf own_pd8 rfl) rfl (by show 2 * 0 + _ ≤ _; exact Nat.le_of_eq rfl) (hb hby own_d6_49) (fun _ _ => ⟨rfl, e0, (by decide : 0 + 2 ≤ _), (by decide : 0 + 5 ≤ _)⟩)
    dsimp only [Pt.U, Pt.locs, Pt.cells, Pt.slots] at X1 l1 y1 z1 st1 hQ1
    subst l1 y1 z1
    obtain ⟨b, rfl, Nq, Kq, le_b, Sq⟩ := hQ1
    replace CR := CR.trans (CHr.keep Kq sf0 CR.1)
    replace hk : _ ≤ T1.heap.size := Nat.le_trans hk Kq.1
    replace O := O.keep Kq all0
    replace Kp := Kp.trans Kq all0
    refine Out.via (g' := (mkF m 52 #[.val (.int (Int32.ofNat 1)), .val (.int p2), .val (.int c0), .val (.int c1), .val (.int c2)] [(.ref b)])) st1 ?_
    exact Out.endH X1 hS hk hZ hEL (by rw [hh]; exact CR) (fun h => by rw [Bd.returns] at h; cases h) Bd.notSynchronized (by decide) (by decide) (⟨b, [c0], rfl, Fr.app N0 Nq, Kp, le_b, rfl, Sq⟩) (fun fs hr => own_retR X1 hx (t := (.object "java/lang/String")) Bd.returns rfl rfl rfl (hb hby own_d6_52) hr)
  · subst hp1
    refine Out.via (g' := (mkF m 29 #[.val (.int (Int32.ofNat 2)), .val (.int p2), .val (.int c0), .val (.int c1), .val (.int c2)] [(.int (Int32.ofNat 2))])) (fun _ k => XS.iloadN X0.here hx rfl (hb hby own_d6_28) rfl k) ?_
    refine Out.via (g' := (mkF m 43 #[.val (.int (Int32.ofNat 2)), .val (.int p2), .val (.int c0), .val (.int c1), .val (.int c2)] [])) (fun _ k => XS.ifYes X0.here hx rfl (pc0 := 29) (pc' := 43) rfl (hb hby own_d6_29) rfl ((if0 _ _).trans (feq (by decide)).2) (by decide) (by decide) k) ?_
    refine Out.via (g' := (mkF m 44 #[.val (.int (Int32.ofNat 2)), .val (.int p2), .val (.int c0), .val (.int c1), .val (.int c2)] [(.int (Int32.ofNat 2))])) (fun _ k => XS.iloadN X0.here hx rfl (hb hby own_d6_43) rfl k) ?_
    refine Out.via (g' := (mkF m 45 #[.val (.int (Int32.ofNat 2)), .val (.int p2), .val (.int c0), .val (.int c1), .val (.int c2)] [(.int (1 : Int32)), (.int (Int32.ofNat 2))])) (fun _ k => XS.iconst X0.here hx rfl (hb hby own_d6_44) k) ?_
    refine Out.via (g' := (mkF m 53 #[.val (.int (Int32.ofNat 2)), .val (.int p2), .val (.int c0), .val (.int c1), .val (.int c2)] [])) (fun _ k => XS.icmpYes X0.here hx rfl (pc0 := 45) (pc' := 53) rfl (hb hby own_d6_45) rfl (feq (by decide)).2 (by decide) (by decide) k) ?_
    refine Out.via (g' := (mkF m 54 #[.val (.int (Int32.ofNat 2)), .val (.int p2), .val (.int c0), .val (.int c1), .val (.int c2)] [(.int (Int32.ofNat 2))])) (fun _ k => XS.iloadN X0.here hx rfl (hb hby own_d6_53) rfl k) ?_
    refine Out.via (g' := (mkF m 55 #[.val (.int (Int32.ofNat 2)), .val (.int p2), .val (.int c0), .val (.int c1), .val (.int c2)] [(.int (2 : Int32)), (.int (Int32.ofNat 2))])) (fun _ k => XS.iconst X0.here hx rfl (hb hby own_d6_54) k) ?_
    refine Out.via (g' := (mkF m 58 #[.val (.int (Int32.ofNat 2)), .val (.int p2), .val (.int c0), .val (.int c1), .val (.int c2)] [])) (fun _ k => XS.icmpNo X0.here hx rfl (hb hby own_d6_55) rfl (teq (by decide)).2 k) ?_
    obtain ⟨T1, h1, X1, e1, E1, A1, D1, -, st1⟩ := newO X0 hx hZ hown (hw _ (List.mem_of_getElem? (i := 4) rfl)) (hw _ (List.mem_of_getElem? (i := 5) rfl)) (hw _ (List.mem_of_getElem? (i := 6) rfl)) e0 (g := (mkF m 58 #[.val (.int (Int32.ofNat 2)), .val (.int p2), .val (.int c0), .val (.int c1), .val (.int c2)] [])) rfl (hb hby own_d6_58) (by decide) (by decide)
    obtain ⟨b, gq1⟩ : ∃ z, z = h0.size := ⟨_, rfl⟩
    rw [← gq1] at A1 D1 st1
    have g_b : n0 ≤ b := Nat.le_trans (own_z0 O) (Nat.le_of_eq gq1.symm)
    have sz_b : h0.size ≤ b := Nat.le_trans Kp.1 (Nat.le_of_eq gq1.symm)
    replace O := O.ext E1
    replace Kp := Kp.ext E1
    replace CR := CR.trans (CHr.ext E1 CR.1)
    replace hk := Nat.le_trans hk E1.1
    have F_value_b : Fld Z h1 b "java/lang/String" "value" "[B" .null := D1 (Or.inr (hw _ (List.mem_of_getElem? (i := 20) rfl))) (ty := (.array .byte)) (by decide)
    have F_coder_b : Fld Z h1 b "java/lang/String" "coder" "B" (.int (0 : Int32)) := D1 (Or.inr (hw _ (List.mem_of_getElem? (i := 21) rfl))) (ty := .byte) (by decide)
    refine Out.via (g' := (mkF m 61 #[.val (.int (Int32.ofNat 2)), .val (.int p2), .val (.int c0), .val (.int c1), .val (.int c2)] [(.ref b)])) st1 ?_
    have sf_b := own_safe_fresh (EL := own_EL) hZ A1 F_value_b
    refine Out.via (g' := (mkF m 62 #[.val (.int (Int32.ofNat 2)), .val (.int p2), .val (.int c0), .val (.int c1), .val (.int c2)] [(.ref b), (.ref b)])) (fun _ k => XS.dup X1.here hx rfl (hb hby own_d6_61) rfl rfl k) ?_
    refine Out.via (g' := (mkF m 63 #[.val (.int (Int32.ofNat 2)), .val (.int p2), .val (.int c0), .val (.int c1), .val (.int c2)] [(.int (2 : Int32)), (.ref b), (.ref b)])) (fun _ k => XS.iconst X1.here hx rfl (hb hby own_d6_62) k) ?_
    obtain ⟨T2, h2, k2, X2, e2, E2, A2, st2⟩ := newP X1 hx hZ (hw _ (List.mem_of_getElem? (i := 7) rfl)) e1 (g := (mkF m 63 #[.val (.int (Int32.ofNat 2)), .val (.int p2), .val (.int c0), .val (.int c1), .val (.int c2)] [(.int (2 : Int32)), (.ref b), (.ref b)])) rfl (hb hby own_d6_63) rfl (by decide) (cap := 2) (by decide) (by decide) (by decide) (by decide)
    obtain ⟨ca, gq2⟩ : ∃ z, z = h1.size := ⟨_, rfl⟩
    rw [← gq2] at A2 st2
    have ne_b_ca : b ≠ ca := Nat.ne_of_lt (Nat.lt_of_lt_of_le A1.lt (Nat.le_of_eq gq2.symm))
    have g_ca : n0 ≤ ca := Nat.le_trans (own_z0 O) (Nat.le_of_eq gq2.symm)
    have sz_ca : h0.size ≤ ca := Nat.le_trans Kp.1 (Nat.le_of_eq gq2.symm)
    replace F_value_b := F_value_b.ext E2
    replace F_coder_b := F_coder_b.ext E2
    replace A1 := A1.ext E2
    replace O := O.ext E2
    replace Kp := Kp.ext E2
    replace sf_b := Safe.ext E2 CR.1 sf_b
    replace CR := CR.trans (CHr.ext E2 CR.1)
    replace hk := Nat.le_trans hk E2.1
    have V_ca : Arv Z h2 ca k2 .char (2 : Int32) [(.int (0 : Int32)), (.int (0 : Int32))] (.int (0 : Int32)) := (Arv.new A2 (by decide)).pad (pad_rep [] (.int (0 : Int32)) 2)
    refine Out.via (g' := (mkF m 65 #[.val (.int (Int32.ofNat 2)), .val (.int p2), .val (.int c0), .val (.int c1), .val (.int c2)] [(.ref ca), (.ref b), (.ref b)])) st2 ?_
    refine Out.via (g' := (mkF m 66 #[.val (.int (Int32.ofNat 2)), .val (.int p2), .val (.int c0), .val (.int c1), .val (.int c2)] [(.ref ca), (.ref ca), (.ref b), (.ref b)])) (fun _ k => XS.dup X2.here hx rfl (hb hby own_d6_65) rfl rfl k) ?_
    refine Out.via (g' := (mkF m 67 #[.val (.int (Int32.ofNat 2)), .val (.int p2), .val (.int c0), .val (.int c1), .val (.int c2)] [(.int (0 : Int32)), (.ref ca), (.ref ca), (.ref b), (.ref b)])) (fun _ k => XS.iconst X2.here hx rfl (hb hby own_d6_66) k) ?_
    refine Out.via (g' := (mkF m 68 #[.val (.int (Int32.ofNat 2)), .val (.int p2), .val (.int c0), .val (.int c1), .val (.int c2)] [(.int c0), (.int (0 : Int32)), (.ref ca), (.ref ca), (.ref b), (.ref b)])) (fun _ k => XS.iloadN X2.here hx rfl (hb hby own_d6_67) rfl k) ?_
    have sfo3 := (Safe.arv (EL := own_EL) hZ.alike V_ca (by decide))
    obtain ⟨cl3, Ar3, q3, S3, M3, H3, G3⟩ := V_ca
    have hin3 : ¬ ((0 : Int32) < 0 ∨ cl3.slots.size ≤ ((0 : Int32)).toNatClampNeg) := inb_of S3 ⟨by decide, by decide⟩
    obtain ⟨T3, h3, X3, e3, W3, st3⟩ := stC X2 hx hZ e2 Ar3 (j := (0 : Int32)) hin3 (g := (mkF m 68 #[.val (.int (Int32.ofNat 2)), .val (.int p2), .val (.int c0), .val (.int c1), .val (.int c2)] [(.int c0), (.int (0 : Int32)), (.ref ca), (.ref ca), (.ref b), (.ref b)])) rfl rfl (hb hby own_d6_68)
    have V_ca : Arv Z h3 ca k2 .char (2 : Int32) [(.int (nar .char c0)), (.int (0 : Int32))] (.int (0 : Int32)) := Arv.set Ar3 q3 S3 M3 H3 G3 (fits_nar_char _) W3 0 rfl (Nat.le_of_ble_eq_true rfl)
    have sfw := sfo3
    replace sf_b := Safe.wr W3 sfw CR.1 sf_b
    replace CR := CR.trans (CHr.wr W3 sfw CR.1)
    replace hk : _ ≤ h3.size := Nat.le_trans hk (Keep.of_wr W3).1
    replace F_value_b := F_value_b.other W3 (Or.inl ne_b_ca)
    replace F_coder_b := F_coder_b.other W3 (Or.inl ne_b_ca)
    replace A1 := A1.wr W3
    replace O := O.wr W3 g_ca
    replace Kp := Kp.wr W3 (Or.inr sz_ca)
    replace N0 := Fr.snoc X3 N0 g_ca
    refine Out.via (g' := (mkF m 69 #[.val (.int (Int32.ofNat 2)), .val (.int p2), .val (.int c0), .val (.int c1), .val (.int c2)] [(.ref ca), (.ref b), (.ref b)])) st3 ?_
    refine Out.via (g' := (mkF m 70 #[.val (.int (Int32.ofNat 2)), .val (.int p2), .val (.int c0), .val (.int c1), .val (.int c2)] [(.ref ca), (.ref ca), (.ref b), (.ref b)])) (fun _ k => XS.dup X3.here hx rfl (hb hby own_d6_69) rfl rfl k) ?_
    refine Out.via (g' := (mkF m 71 #[.val (.int (Int32.ofNat 2)), .val (.int p2), .val (.int c0), .val (.int c1), .val (.int c2)] [(.int (1 : Int32)), (.ref ca), (.ref ca), (.ref b), (.ref b)])) (fun _ k => XS.iconst X3.here hx rfl (hb hby own_d6_70) k) ?_
    refine Out.via (g' := (mkF m 72 #[.val (.int (Int32.ofNat 2)), .val (.int p2), .val (.int c0), .val (.int c1), .val (.int c2)] [(.int c1), (.int (1 : Int32)), (.ref ca), (.ref ca), (.ref b), (.ref b)])) (fun _ k => XS.iloadN X3.here hx rfl (hb hby own_d6_71) rfl k) ?_
    have sfo4 := (Safe.arv (EL := own_EL) hZ.alike V_ca (by decide))
    obtain ⟨cl4, Ar4, q4, S4, M4, H4, G4⟩ := V_ca
    have hin4 : ¬ ((1 : Int32) < 0 ∨ cl4.slots.size ≤ ((1 : Int32)).toNatClampNeg) := inb_of S4 ⟨by decide, by decide⟩
    obtain ⟨T4, h4, X4, e4, W4, st4⟩ := stC X3 hx hZ e3 Ar4 (j := (1 : Int32)) hin4 (g := (mkF m 72 #[.val (.int (Int32.ofNat 2)), .val (.int p2), .val (.int c0), .val (.int c1), .val (.int c2)] [(.int c1), (.int (1 : Int32)), (.ref ca), (.ref ca), (.ref b), (.ref b)])) rfl rfl (hb hby own_d6_72)
    have V_ca : Arv Z h4 ca k2 .char (2 : Int32) [(.int (nar .char c0)), (.int (nar .char c1))] (.int (0 : Int32)) := Arv.set Ar4 q4 S4 M4 H4 G4 (fits_nar_char _) W4 1 rfl (Nat.le_of_ble_eq_true rfl)
    have sfw := sfo4
    replace sf_b := Safe.wr W4 sfw CR.1 sf_b
    replace CR := CR.trans (CHr.wr W4 sfw CR.1)
    replace hk : _ ≤ h4.size := Nat.le_trans hk (Keep.of_wr W4).1
    replace F_value_b := F_value_b.other W4 (Or.inl ne_b_ca)
    replace F_coder_b := F_coder_b.other W4 (Or.inl ne_b_ca)
    replace A1 := A1.wr W4
    replace O := O.wr W4 g_ca
    replace Kp := Kp.wr W4 (Or.inr sz_ca)
    replace N0 := Fr.snoc X4 N0 g_ca
    refine Out.via (g' := (mkF m 73 #[.val (.int (Int32.ofNat 2)), .val (.int p2), .val (.int c0), .val (.int c1), .val (.int c2)] [(.ref ca), (.ref b), (.ref b)])) st4 ?_
    have hp : ∀ c ∈ ([nar .char c0, nar .char c1] : List Int32), own_lat c := own_allS (by rw [own_lat_nar D_c0]; exact D_c0) (own_allS (by rw [own_lat_nar D_c1]; exact D_c1) (own_all0))
    obtain ⟨_, _, ⟨T5, L5, kc5, ks5⟩, -, X5, ⟨Lc5, hQ5, l5, y5, z5⟩, st5⟩ := X4.specialBack hx (y := (⟨"java/lang/String", "<init>", "([C)V"⟩ : MethodName)) rfl hown (mvT hZ (hw _ (List.mem_of_getElem? (i := 8) rfl))) (mvT hZ (hw _ (List.mem_of_getElem? (i := 9) rfl))) (mvT hZ (hw _ (List.mem_of_getElem? (i := 10) rfl))) (by decide) (StrChars.Road.backV (W := 1) hZ hws (kI := 4) (hw _ (List.mem_of_getElem? (i := 5) rfl)) (cs := ([nar .char c0, nar .char c1] : List Int32)) (bs := ([nar .char c0, nar .char c1] : List Int32).map (fun c => c.toInt8.toInt32)) (n := 2) g_b (own_z0 O) A1 F_value_b F_coder_b V_ca (O2.ext O.2) P5 rfl rfl (by decide) (by decide) hp rfl (by decide) (by decide)) (g := (mkF m 73 #[.val (.int (Int32.ofNat 2)), .val (.int p2), .val (.int c0), .val (.int c1), .val (.int c2)] [(.ref ca), (.ref b), (.ref b)])) rfl (by rw [hml]; rfl) (Steps.refl _) (a := b) (argsL := [(.ref ca)]) (rest := [(.ref b)]) (lenOf own_pd7 rfl) rfl (by show 2 * 0 + _ ≤ _; exact Nat.le_of_eq rfl) (hb hby own_d6_73) (fun _ _ => ⟨rfl, e4, (by decide : 2 + 1 ≤ _), (by decide : 6 + 2 ≤ _)⟩)
    dsimp only [Pt.U, Pt.locs, Pt.cells, Pt.slots] at X5 l5 y5 z5 st5 hQ5
    subst l5 y5 z5
    obtain ⟨rfl, Nq, Kq, Eq, Cq, tb, kb, ut, vt, wt, Vq, Aq⟩ := hQ5
    have sfk := sf_b
    replace sf_b := Safe.keep Kq (sfS sfk sf0) CR.1 sf_b
    replace CR := CR.trans (CHr.keep Kq (sfS sfk sf0) CR.1)
    replace hk : _ ≤ T5.heap.size := Nat.le_trans hk Kq.1
    replace A1 := A1.keep Kq
    replace V_ca := V_ca.keep Kq (ninS (Ne.symm ne_b_ca) nin0)
    replace O := O.keep Kq (allS g_b all0)
    replace Kp := Kp.trans Kq (allS (Or.inr sz_b) all0)
    refine Out.to (g' := (mkF m 76 #[.val (.int (Int32.ofNat 2)), .val (.int p2), .val (.int c0), .val (.int c1), .val (.int c2)] [(.ref b)])) st5 ?_
    exact Out.endH X5 hS hk hZ hEL (by rw [hh]; exact CR) (fun h => by rw [Bd.returns] at h; cases h) Bd.notSynchronized (by decide) (by decide) (⟨b, ([nar .char c0, nar .char c1] : List Int32), rfl, Fr.app N0 Nq, Kp, sz_b, rfl, hp, Eq, Cq, tb, kb, Vq, Aq⟩) (fun fs hr => own_retR X5 hx (t := (.object "java/lang/String")) Bd.returns rfl rfl rfl (hb hby own_d6_76) hr)
  · subst hp1
    refine Out.via (g' := (mkF m 29 #[.val (.int (Int32.ofNat 3)), .val (.int p2), .val (.int c0), .val (.int c1), .val (.int c2)] [(.int (Int32.ofNat 3))])) (fun _ k => XS.iloadN X0.here hx rfl (hb hby own_d6_28) rfl k) ?_
    refine Out.via (g' := (mkF m 43 #[.val (.int (Int32.ofNat 3)), .val (.int p2), .val (.int c0), .val (.int c1), .val (.int c2)] [])) (fun _ k => XS.ifYes X0.here hx rfl (pc0 := 29) (pc' := 43) rfl (hb hby own_d6_29) rfl ((if0 _ _).trans (feq (by decide)).2) (by decide) (by decide) k) ?_
    refine Out.via (g' := (mkF m 44 #[.val (.int (Int32.ofNat 3)), .val (.int p2), .val (.int c0), .val (.int c1), .val (.int c2)] [(.int (Int32.ofNat 3))])) (fun _ k => XS.iloadN X0.here hx rfl (hb hby own_d6_43) rfl k) ?_
    refine Out.via (g' := (mkF m 45 #[.val (.int (Int32.ofNat 3)), .val (.int p2), .val (.int c0), .val (.int c1), .val (.int c2)] [(.int (1 : Int32)), (.int (Int32.ofNat 3))])) (fun _ k => XS.iconst X0.here hx rfl (hb hby own_d6_44) k) ?_
    refine Out.via (g' := (mkF m 53 #[.val (.int (Int32.ofNat 3)), .val (.int p2), .val (.int c0), .val (.int c1), .val (.int c2)] [])) (fun _ k => XS.icmpYes X0.here hx rfl (pc0 := 45) (pc' := 53) rfl (hb hby own_d6_45) rfl (feq (by decide)).2 (by decide) (by decide) k) ?_
    refine Out.via (g' := (mkF m 54 #[.val (.int (Int32.ofNat 3)), .val (.int p2), .val (.int c0), .val (.int c1), .val (.int c2)] [(.int (Int32.ofNat 3))])) (fun _ k => XS.iloadN X0.here hx rfl (hb hby own_d6_53) rfl k) ?_
    refine Out.via (g' := (mkF m 55 #[.val (.int (Int32.ofNat 3)), .val (.int p2), .val (.int c0), .val (.int c1), .val (.int c2)] [(.int (2 : Int32)), (.int (Int32.ofNat 3))])) (fun _ k => XS.iconst X0.here hx rfl (hb hby own_d6_54) k) ?_
    refine Out.via (g' := (mkF m 77 #[.val (.int (Int32.ofNat 3)), .val (.int p2), .val (.int c0), .val (.int c1), .val (.int c2)] [])) (fun _ k => XS.icmpYes X0.here hx rfl (pc0 := 55) (pc' := 77) rfl (hb hby own_d6_55) rfl (feq (by decide)).2 (by decide) (by decide) k) ?_
    obtain ⟨T1, h1, X1, e1, E1, A1, D1, -, st1⟩ := newO X0 hx hZ hown (hw _ (List.mem_of_getElem? (i := 4) rfl)) (hw _ (List.mem_of_getElem? (i := 5) rfl)) (hw _ (List.mem_of_getElem? (i := 6) rfl)) e0 (g := (mkF m 77 #[.val (.int (Int32.ofNat 3)), .val (.int p2), .val (.int c0), .val (.int c1), .val (.int c2)] [])) rfl (hb hby own_d6_77) (by decide) (by decide)
    obtain ⟨b, gq1⟩ : ∃ z, z = h0.size := ⟨_, rfl⟩
    rw [← gq1] at A1 D1 st1
    have g_b : n0 ≤ b := Nat.le_trans (own_z0 O) (Nat.le_of_eq gq1.symm)
    have sz_b : h0.size ≤ b := Nat.le_trans Kp.1 (Nat.le_of_eq gq1.symm)
    replace O := O.ext E1
    replace Kp := Kp.ext E1
    replace CR := CR.trans (CHr.ext E1 CR.1)
    replace hk := Nat.le_trans hk E1.1
    have F_value_b : Fld Z h1 b "java/lang/String" "value" "[B" .null := D1 (Or.inr (hw _ (List.mem_of_getElem? (i := 20) rfl))) (ty := (.array .byte)) (by decide)
    have F_coder_b : Fld Z h1 b "java/lang/String" "coder" "B" (.int (0 : Int32)) := D1 (Or.inr (hw _ (List.mem_of_getElem? (i := 21) rfl))) (ty := .byte) (by decide)
    refine Out.via (g' := (mkF m 80 #[.val (.int (Int32.ofNat 3)), .val (.int p2), .val (.int c0), .val (.int c1), .val (.int c2)] [(.ref b)])) st1 ?_
    have sf_b := own_safe_fresh (EL := own_EL) hZ A1 F_value_b
    refine Out.via (g' := (mkF m 81 #[.val (.int (Int32.ofNat 3)), .val (.int p2), .val (.int c0), .val (.int c1), .val (.int c2)] [(.ref b), (.ref b)])) (fun _ k => XS.dup X1.here hx rfl (hb hby own_d6_80) rfl rfl k) ?_
    refine Out.via (g' := (mkF m 82 #[.val (.int (Int32.ofNat 3)), .val (.int p2), .val (.int c0), .val (.int c1), .val (.int c2)] [(.int (3 : Int32)), (.ref b), (.ref b)])) (fun _ k => XS.iconst X1.here hx rfl (hb hby own_d6_81) k) ?_
    obtain ⟨T2, h2, k2, X2, e2, E2, A2, st2⟩ := newP X1 hx hZ (hw _ (List.mem_of_getElem? (i := 7) rfl)) e1 (g := (mkF m 82 #[.val (.int (Int32.ofNat 3)), .val (.int p2), .val (.int c0), .val (.int c1), .val (.int c2)] [(.int (3 : Int32)), (.ref b), (.ref b)])) rfl (hb hby own_d6_82) rfl (by decide) (cap := 3) (by decide) (by decide) (by decide) (by decide)
    obtain ⟨ca, gq2⟩ : ∃ z, z = h1.size := ⟨_, rfl⟩
    rw [← gq2] at A2 st2
    have ne_b_ca : b ≠ ca := Nat.ne_of_lt (Nat.lt_of_lt_of_le A1.lt (Nat.le_of_eq gq2.symm))
    have g_ca : n0 ≤ ca := Nat.le_trans (own_z0 O) (Nat.le_of_eq gq2.symm)
    have sz_ca : h0.size ≤ ca := Nat.le_trans Kp.1 (Nat.le_of_eq gq2.symm)
    replace F_value_b := F_value_b.ext E2
    replace F_coder_b := F_coder_b.ext E2
    replace A1 := A1.ext E2
    replace O := O.ext E2
    replace Kp := Kp.ext E2
    replace sf_b := Safe.ext E2 CR.1 sf_b
    replace CR := CR.trans (CHr.ext E2 CR.1)
    replace hk := Nat.le_trans hk E2.1
    have V_ca : Arv Z h2 ca k2 .char (3 : Int32) [(.int (0 : Int32)), (.int (0 : Int32)), (.int (0 : Int32))] (.int (0 : Int32)) := (Arv.new A2 (by decide)).pad (pad_rep [] (.int (0 : Int32)) 3)
    refine Out.via (g' := (mkF m 84 #[.val (.int (Int32.ofNat 3)), .val (.int p2), .val (.int c0), .val (.int c1), .val (.int c2)] [(.ref ca), (.ref b), (.ref b)])) st2 ?_
    refine Out.via (g' := (mkF m 85 #[.val (.int (Int32.ofNat 3)), .val (.int p2), .val (.int c0), .val (.int c1), .val (.int c2)] [(.ref ca), (.ref ca), (.ref b), (.ref b)])) (fun _ k => XS.dup X2.here hx rfl (hb hby own_d6_84) rfl rfl k) ?_
    refine Out.via (g' := (mkF m 86 #[.val (.int (Int32.ofNat 3)), .val (.int p2), .val (.int c0), .val (.int c1), .val (.int c2)] [(.int (0 : Int32)), (.ref ca), (.ref ca), (.ref b), (.ref b)])) (fun _ k => XS.iconst X2.here hx rfl (hb hby own_d6_85) k) ?_
    refine Out.via (g' := (mkF m 87 #[.val (.int (Int32.ofNat 3)), .val (.int p2), .val (.int c0), .val (.int c1), .val (.int c2)] [(.int c0), (.int (0 : Int32)), (.ref ca), (.ref ca), (.ref b), (.ref b)])) (fun _ k => XS.iloadN X2.here hx rfl (hb hby own_d6_86) rfl k) ?_
    have sfo3 := (Safe.arv (EL := own_EL) hZ.alike V_ca (by decide))
    obtain ⟨cl3, Ar3, q3, S3, M3, H3, G3⟩ := V_ca
    have hin3 : ¬ ((0 : Int32) < 0 ∨ cl3.slots.size ≤ ((0 : Int32)).toNatClampNeg) := inb_of S3 ⟨by decide, by decide⟩
    obtain ⟨T3, h3, X3, e3, W3, st3⟩ := stC X2 hx hZ e2 Ar3 (j := (0 : Int32)) hin3 (g := (mkF m 87 #[.val (.int (Int32.ofNat 3)), .val (.int p2), .val (.int c0), .val (.int c1), .val (.int c2)] [(.int c0), (.int (0 : Int32)), (.ref ca), (.ref ca), (.ref b), (.ref b)])) rfl rfl (hb hby own_d6_87)
    have V_ca : Arv Z h3 ca k2 .char (3 : Int32) [(.int (nar .char c0)), (.int (0 : Int32)), (.int (0 : Int32))] (.int (0 : Int32)) := Arv.set Ar3 q3 S3 M3 H3 G3 (fits_nar_char _) W3 0 rfl (Nat.le_of_ble_eq_true rfl)
    have sfw := sfo3
    replace sf_b := Safe.wr W3 sfw CR.1 sf_b
    replace CR := CR.trans (CHr.wr W3 sfw CR.1)
    replace hk : _ ≤ h3.size := Nat.le_trans hk (Keep.of_wr W3).1
    replace F_value_b := F_value_b.other W3 (Or.inl ne_b_ca)
    replace F_coder_b := F_coder_b.other W3 (Or.inl ne_b_ca)
    replace A1 := A1.wr W3
    replace O := O.wr W3 g_ca
    replace Kp := Kp.wr W3 (Or.inr sz_ca)
    replace N0 := Fr.snoc X3 N0 g_ca
    refine Out.via (g' := (mkF m 88 #[.val (.int (Int32.ofNat 3)), .val (.int p2), .val (.int c0), .val (.int c1), .val (.int c2)] [(.ref ca), (.ref b), (.ref b)])) st3 ?_
    refine Out.via (g' := (mkF m 89 #[.val (.int (Int32.ofNat 3)), .val (.int p2), .val (.int c0), .val (.int c1), .val (.int c2)] [(.ref ca), (.ref ca), (.ref b), (.ref b)])) (fun _ k => XS.dup X3.here hx rfl (hb hby own_d6_88) rfl rfl k) ?_
    refine Out.via (g' := (mkF m 90 #[.val (.int (Int32.ofNat 3)), .val (.int p2), .val (.int c0), .val (.int c1), .val (.int c2)] [(.int (1 : Int32)), (.ref ca), (.ref ca), (.ref b), (.ref b)])) (fun _ k => XS.iconst X3.here hx rfl (hb hby own_d6_89) k) ?_
    refine Out.via (g' := (mkF m 91 #[.val (.int (Int32.ofNat 3)), .val (.int p2), .val (.int c0), .val (.int c1), .val (.int c2)] [(.int c1), (.int (1 : Int32)), (.ref ca), (.ref ca), (.ref b), (.ref b)])) (fun _ k => XS.iloadN X3.here hx rfl (hb hby own_d6_90) rfl k) ?_
    have sfo4 := (Safe.arv (EL := own_EL) hZ.alike V_ca (by decide))
    obtain ⟨cl4, Ar4, q4, S4, M4, H4, G4⟩ := V_ca
    have hin4 : ¬ ((1 : Int32) < 0 ∨ cl4.slots.size ≤ ((1 : Int32)).toNatClampNeg) := inb_of S4 ⟨by decide, by decide⟩
    obtain ⟨T4, h4, X4, e4, W4, st4⟩ := stC X3 hx hZ e3 Ar4 (j := (1 : Int32)) hin4 (g := (mkF m 91 #[.val (.int (Int32.ofNat 3)), .val (.int p2), .val (.int c0), .val (.int c1), .val (.int c2)] [(.int c1), (.int (1 : Int32)), (.ref ca), (.ref ca), (.ref b), (.ref b)])) rfl rfl (hb hby own_d6_91)
    have V_ca : Arv Z h4 ca k2 .char (3 : Int32) [(.int (nar .char c0)), (.int (nar .char c1)), (.int (0 : Int32))] (.int (0 : Int32)) := Arv.set Ar4 q4 S4 M4 H4 G4 (fits_nar_char _) W4 1 rfl (Nat.le_of_ble_eq_true rfl)
    have sfw := sfo4
    replace sf_b := Safe.wr W4 sfw CR.1 sf_b
    replace CR := CR.trans (CHr.wr W4 sfw CR.1)
    replace hk : _ ≤ h4.size := Nat.le_trans hk (Keep.of_wr W4).1
    replace F_value_b := F_value_b.other W4 (Or.inl ne_b_ca)
    replace F_coder_b := F_coder_b.other W4 (Or.inl ne_b_ca)
    replace A1 := A1.wr W4
    replace O := O.wr W4 g_ca
    replace Kp := Kp.wr W4 (Or.inr sz_ca)
    replace N0 := Fr.snoc X4 N0 g_ca
    refine Out.via (g' := (mkF m 92 #[.val (.int (Int32.ofNat 3)), .val (.int p2), .val (.int c0), .val (.int c1), .val (.int c2)] [(.ref ca), (.ref b), (.ref b)])) st4 ?_
    refine Out.via (g' := (mkF m 93 #[.val (.int (Int32.ofNat 3)), .val (.int p2), .val (.int c0), .val (.int c1), .val (.int c2)] [(.ref ca), (.ref ca), (.ref b), (.ref b)])) (fun _ k => XS.dup X4.here hx rfl (hb hby own_d6_92) rfl rfl k) ?_
    refine Out.via (g' := (mkF m 94 #[.val (.int (Int32.ofNat 3)), .val (.int p2), .val (.int c0), .val (.int c1), .val (.int c2)] [(.int (2 : Int32)), (.ref ca), (.ref ca), (.ref b), (.ref b)])) (fun _ k => XS.iconst X4.here hx rfl (hb hby own_d6_93) k) ?_
    refine Out.via (g' := (mkF m 96 #[.val (.int (Int32.ofNat 3)), .val (.int p2), .val (.int c0), .val (.int c1), .val (.int c2)] [(.int c2), (.int (2 : Int32)), (.ref ca), (.ref ca), (.ref b), (.ref b)])) (fun _ k => XS.iload X4.here hx rfl (hb hby own_d6_94) rfl k) ?_
    have sfo5 := (Safe.arv (EL := own_EL) hZ.alike V_ca (by decide))
    obtain ⟨cl5, Ar5, q5, S5, M5, H5, G5⟩ := V_ca
    have hin5 : ¬ ((2 : Int32) < 0 ∨ cl5.slots.size ≤ ((2 : Int32)).toNatClampNeg) := inb_of S5 ⟨by decide, by decide⟩
    obtain ⟨T5, h5, X5, e5, W5, st5⟩ := stC X4 hx hZ e4 Ar5 (j := (2 : Int32)) hin5 (g := (mkF m 96 #[.val (.int (Int32.ofNat 3)), .val (.int p2), .val (.int c0), .val (.int c1), .val (.int c2)] [(.int c2), (.int (2 : Int32)), (.ref ca), (.ref ca), (.ref b), (.ref b)])) rfl rfl (hb hby own_d6_96)
    have V_ca : Arv Z h5 ca k2 .char (3 : Int32) [(.int (nar .char c0)), (.int (nar .char c1)), (.int (nar .char c2))] (.int (0 : Int32)) := Arv.set Ar5 q5 S5 M5 H5 G5 (fits_nar_char _) W5 2 rfl (Nat.le_of_ble_eq_true rfl)
    have sfw := sfo5
    replace sf_b := Safe.wr W5 sfw CR.1 sf_b
    replace CR := CR.trans (CHr.wr W5 sfw CR.1)
    replace hk : _ ≤ h5.size := Nat.le_trans hk (Keep.of_wr W5).1
    replace F_value_b := F_value_b.other W5 (Or.inl ne_b_ca)
    replace F_coder_b := F_coder_b.other W5 (Or.inl ne_b_ca)
    replace A1 := A1.wr W5
    replace O := O.wr W5 g_ca
    replace Kp := Kp.wr W5 (Or.inr sz_ca)
    replace N0 := Fr.snoc X5 N0 g_ca
    refine Out.via (g' := (mkF m 97 #[.val (.int (Int32.ofNat 3)), .val (.int p2), .val (.int c0), .val (.int c1), .val (.int c2)] [(.ref ca), (.ref b), (.ref b)])) st5 ?_
    have hp : ∀ c ∈ ([nar .char c0, nar .char c1, nar .char c2] : List Int32), own_lat c := own_allS (by rw [own_lat_nar D_c0]; exact D_c0) (own_allS (by rw [own_lat_nar D_c1]; exact D_c1) (own_allS (by rw [own_lat_nar D_c2]; exact D_c2) (own_all0)))
    obtain ⟨_, _, ⟨T6, L6, kc6, ks6⟩, -, X6, ⟨Lc6, hQ6, l6, y6, z6⟩, st6⟩ := X5.specialBack hx (y := (⟨"java/lang/String", "<init>", "([C)V"⟩ : MethodName)) rfl hown (mvT hZ (hw _ (List.mem_of_getElem? (i := 8) rfl))) (mvT hZ (hw _ (List.mem_of_getElem? (i := 9) rfl))) (mvT hZ (hw _ (List.mem_of_getElem? (i := 10) rfl))) (by decide) (StrChars.Road.backV (W := 1) hZ hws (kI := 4) (hw _ (List.mem_of_getElem? (i := 5) rfl)) (cs := ([nar .char c0, nar .char c1, nar .char c2] : List Int32)) (bs := ([nar .char c0, nar .char c1, nar .char c2] : List Int32).map (fun c => c.toInt8.toInt32)) (n := 3) g_b (own_z0 O) A1 F_value_b F_coder_b V_ca (O2.ext O.2) P5 rfl rfl (by decide) (by decide) hp rfl (by decide) (by decide)) (g := (mkF m 97 #[.val (.int (Int32.ofNat 3)), .val (.int p2), .val (.int c0), .val (.int c1), .val (.int c2)] [(.ref ca), (.ref b), (.ref b)])) rfl (by rw [hml]; rfl) (Steps.refl _) (a := b) (argsL := [(.ref ca)]) (rest := [(.ref b)]) (lenOf own_pd7 rfl) rfl (by show 2 * 0 + _ ≤ _; exact Nat.le_of_eq rfl) (hb hby own_d6_97) (fun _ _ => ⟨rfl, e5, (by decide : 2 + 1 ≤ _), (by decide : 7 + 3 ≤ _)⟩)
    dsimp only [Pt.U, Pt.locs, Pt.cells, Pt.slots] at X6 l6 y6 z6 st6 hQ6
    subst l6 y6 z6
    obtain ⟨rfl, Nq, Kq, Eq, Cq, tb, kb, ut, vt, wt, Vq, Aq⟩ := hQ6
    have sfk := sf_b
    replace sf_b := Safe.keep Kq (sfS sfk sf0) CR.1 sf_b
    replace CR := CR.trans (CHr.keep Kq (sfS sfk sf0) CR.1)
    replace hk : _ ≤ T6.heap.size := Nat.le_trans hk Kq.1
    replace A1 := A1.keep Kq
    replace V_ca := V_ca.keep Kq (ninS (Ne.symm ne_b_ca) nin0)
    replace O := O.keep Kq (allS g_b all0)
    replace Kp := Kp.trans Kq (allS (Or.inr sz_b) all0)
    refine Out.to (g' := (mkF m 100 #[.val (.int (Int32.ofNat 3)), .val (.int p2), .val (.int c0), .val (.int c1), .val (.int c2)] [(.ref b)])) st6 ?_
    exact Out.endH X6 hS hk hZ hEL (by rw [hh]; exact CR) (fun h => by rw [Bd.returns] at h; cases h) Bd.notSynchronized (by decide) (by decide) (⟨b, ([nar .char c0, nar .char c1, nar .char c2] : List Int32), rfl, Fr.app N0 Nq, Kp, sz_b, rfl, hp, Eq, Cq, tb, kb, Vq, Aq⟩) (fun fs hr => own_retR X6 hx (t := (.object "java/lang/String")) Bd.returns rfl rfl rfl (hb hby own_d6_100) hr)
theorem own_pn9 : plainName "com/example/faultwright/faultwright/Place" = true := by first | (simp [plainName, overriddenIn]; done) | decide +kernel
theorem own_d7_0 : decode prog_59_method_1_code 0 = .ok (.aload_n 0, 1) := by decide +kernel
theorem own_d7_1 : decode prog_59_method_1_code 1 = .ok (.invokespecial 1, 3) := by decide +kernel
theorem own_d7_4 : decode prog_59_method_1_code 4 = .ok (.aload_n 0, 1) := by decide +kernel
theorem own_d7_5 : decode prog_59_method_1_code 5 = .ok (.aload_n 1, 1) := by decide +kernel
theorem own_d7_6 : decode prog_59_method_1_code 6 = .ok (.putfield 7, 3) := by decide +kernel
theorem own_d7_9 : decode prog_59_method_1_code 9 = .ok (.aload_n 0, 1) := by decide +kernel
theorem own_d7_10 : decode prog_59_method_1_code 10 = .ok (.aload_n 2, 1) := by decide +kernel
theorem own_d7_11 : decode prog_59_method_1_code 11 = .ok (.putfield 13, 3) := by decide +kernel
theorem own_d7_14 : decode prog_59_method_1_code 14 = .ok (.aload_n 0, 1) := by decide +kernel
theorem own_d7_15 : decode prog_59_method_1_code 15 = .ok (.aload_n 3, 1) := by decide +kernel
theorem own_d7_16 : decode prog_59_method_1_code 16 = .ok (.putfield 17, 3) := by decide +kernel
theorem own_d7_19 : decode prog_59_method_1_code 19 = .ok (.aload_n 0, 1) := by decide +kernel
theorem own_d7_20 : decode prog_59_method_1_code 20 = .ok (.lload 4, 2) := by decide +kernel
theorem own_d7_22 : decode prog_59_method_1_code 22 = .ok (.putfield 20, 3) := by decide +kernel
theorem own_d7_25 : decode prog_59_method_1_code 25 = .ok (.aload_n 0, 1) := by decide +kernel
theorem own_d7_26 : decode prog_59_method_1_code 26 = .ok (.lload 6, 2) := by decide +kernel
theorem own_d7_28 : decode prog_59_method_1_code 28 = .ok (.putfield 24, 3) := by decide +kernel
theorem own_d7_31 : decode prog_59_method_1_code 31 = .ok (.return_, 1) := by decide +kernel
set_option maxHeartbeats 4000000 in
theorem own_ef6 (m : MethodId) (x0 : Addr) (x1 : Value) (x2 : Value) (x3 : Value) (x4 : Int64) (x5 : Int64) (r1 : x1.isRef = true) (r2 : x2.isRef = true) (r3 : x3.isRef = true) : entryFrame m #[(.ref x0), x1, x2, x3, (.long x4), (.long x5)] 8 = mkF m 0 #[.val (.ref x0), .val x1, .val x2, .val x3, .val (.long x4), .second, .val (.long x5), .second] [] := by 
  rcases ref_cases r1 with rfl | ⟨_, rfl⟩ <;>
  rcases ref_cases r2 with rfl | ⟨_, rfl⟩ <;>
  rcases ref_cases r3 with rfl | ⟨_, rfl⟩ <;>
  (first | (simp [entryFrame, mkF, argsToLocals, Value.category]; done) | rfl)
abbrev own_Q6 (Z : State) (a : Addr) (vp vn vl : Value) (q0 q1 : Int64) (h0 : Heap) (n0 : Nat) : Option Value → Heap → List Loc → Prop := fun v h L => v = none ∧ Fr n0 L ∧ Keep h0 h [a] ∧ Exa Z h a "com/example/faultwright/faultwright/Place" ∧ Fld Z h a "com/example/faultwright/faultwright/Place" "parent" "Lcom/example/faultwright/faultwright/Place;" vp ∧ Fld Z h a "com/example/faultwright/faultwright/Place" "order" "J" (.long q0) ∧ Fld Z h a "com/example/faultwright/faultwright/Place" "pathLength" "J" (.long q1)
set_option maxRecDepth 65536 in
set_option maxHeartbeats 40000000 in
theorem own_rm6 (l : Launch) (Z : State) (a0 : Array Value) (hw : ∀ d ∈ tables_1, d.before a0 Z = true) (ws : List Jvm.Cond) (a : Addr) (vp vn vl : Value) (q0 q1 : Int64) (h0 : Heap) (n0 : Nat) (O : Old Z n0 h0) (g_a : n0 ≤ a) (E1 : Exa Z h0 a "com/example/faultwright/faultwright/Place") (F_parent_a : Fld Z h0 a "com/example/faultwright/faultwright/Place" "parent" "Lcom/example/faultwright/faultwright/Place;" .null) (F_name_a : Fld Z h0 a "com/example/faultwright/faultwright/Place" "name" "Ljava/lang/String;" .null) (F_label_a : Fld Z h0 a "com/example/faultwright/faultwright/Place" "label" "Ljava/lang/String;" .null) (F_order_a : Fld Z h0 a "com/example/faultwright/faultwright/Place" "order" "J" (.long (0 : Int64))) (F_pathLength_a : Fld Z h0 a "com/example/faultwright/faultwright/Place" "pathLength" "J" (.long (0 : Int64))) (r1 : vp.isRef = true) (r2 : vn.isRef = true) (r3 : vl.isRef = true) :
    MetFree l (⟨"com/example/faultwright/faultwright/Place", "<init>", "(Lcom/example/faultwright/faultwright/Place;Ljava/lang/String;Ljava/lang/String;JJ)V"⟩ : MethodName) (head1 (Jvm.Cond.code (⟨"com/example/faultwright/faultwright/Place", "<init>", "(Lcom/example/faultwright/faultwright/Place;Ljava/lang/String;Ljava/lang/String;JJ)V"⟩ : MethodName) prog_59_method_1_code 8 none :: ws) ({ frames := 1, cells := 0, slots := 0, locals := 12 } : Room)) (fun aa U => aa = #[(.ref a), vp, vn, vl, (.long q0), (.long q1)] ∧ Z.Warmed39 U.vm ∧ U.heap = h0) (fun _ _ _ _ _ => True) (fun _ U o U' => ∃ v L, o = .returned v ∧ (own_Q6 Z a vp vn vl q0 q1 h0 n0) v U'.heap L ∧ FrameEnd U o U' L ({ frames := 1, cells := 0, slots := 0, locals := 12 } : Room).cells ({ frames := 1, cells := 0, slots := 0, locals := 12 } : Room).slots) := by
  refine MetFree.of_bodySF (plainFor_of_name own_pn9) hisR ?_
  intro p e s m args below meth c s₁ Bd hml0 hP hK
  obtain ⟨rfl, hZ, hh⟩ := hP
  have hx := Bd.exec
  have hby := Bd.bytes
  have hml : c.maxLocals = 8 := hml0
  have hown : s.vm.findClass "com/example/faultwright/faultwright/Place" = some m.cls := findClass_of_methodNamed Bd.named
  have hnm := (name_of_methodNamed Bd.named Bd.method).1
  have X0 : Stand p l e ({ frames := 1, cells := 0, slots := 0, locals := 12 } : Room) s m #[(.ref a), vp, vn, vl, (.long q0), (.long q1)] below meth c s₁ [] 0 0 := Stand.of_body Bd
  have e0 : s₁.heap = h0 := by rw [← hh, Bd.state]; rfl
  have N0 := Fr.nil n0
  refine Out.start (Q := own_Q6 Z a vp vn vl q0 q1 h0 n0) (own_ef6 m a vp vn vl q0 q1 r1 r2 r3) ?_
  have Kp := Keep.refl h0 [a]
  refine Out.via (g' := (mkF m 1 #[.val (.ref a), .val vp, .val vn, .val vl, .val (.long q0), .second, .val (.long q1), .second] [(.ref a)])) (fun _ k => XS.aloadN X0.here hx rfl (hb hby own_d7_0) rfl rfl k) ?_
  obtain ⟨T1, X1, e1, st1⟩ := initO X0 hx hZ hown (hw _ (List.mem_of_getElem? (i := 35) rfl)) (hw _ (List.mem_of_getElem? (i := 16) rfl)) (hw _ (List.mem_of_getElem? (i := 17) rfl)) e0 (g := (mkF m 1 #[.val (.ref a), .val vp, .val vn, .val vl, .val (.long q0), .second, .val (.long q1), .second] [(.ref a)])) rfl (by rw [hml]; rfl) rfl (hb hby own_d7_1) (by decide) (W := 0) (by show 2 * 0 + _ ≤ _; exact Nat.le_of_eq rfl) (by decide)
  refine Out.via (g' := (mkF m 4 #[.val (.ref a), .val vp, .val vn, .val vl, .val (.long q0), .second, .val (.long q1), .second] [])) st1 ?_
  refine Out.via (g' := (mkF m 5 #[.val (.ref a), .val vp, .val vn, .val vl, .val (.long q0), .second, .val (.long q1), .second] [(.ref a)])) (fun _ k => XS.aloadN X1.here hx rfl (hb hby own_d7_4) rfl rfl k) ?_
  refine Out.via (g' := (mkF m 6 #[.val (.ref a), .val vp, .val vn, .val vl, .val (.long q0), .second, .val (.long q1), .second] [vp, (.ref a)])) (fun _ k => XS.aloadN X1.here hx rfl (hb hby own_d7_5) rfl r1 k) ?_
  obtain ⟨T2, h2, X2, e2, W2, st2⟩ := putF X1 hx hZ hown (host := "") (Or.inl (hw _ (List.mem_of_getElem? (i := 36) rfl))) Via.refl e1 F_parent_a E1 (Or.inr ⟨(hw _ (List.mem_of_getElem? (i := 37) rfl)), rfl, hnm⟩) (hw _ (List.mem_of_getElem? (i := 31) rfl)) (ty := (.object "com/example/faultwright/faultwright/Place")) (by decide) (rfl) (own_fitsR r1) (g := (mkF m 6 #[.val (.ref a), .val vp, .val vn, .val vl, .val (.long q0), .second, .val (.long q1), .second] [vp, (.ref a)])) rfl rfl (hb hby own_d7_6)
  replace F_parent_a := F_parent_a.same W2
  replace F_name_a := F_name_a.other W2 (Or.inr (slot_ne (Or.inr (hw _ (List.mem_of_getElem? (i := 39) rfl))) (Or.inr (hw _ (List.mem_of_getElem? (i := 37) rfl))) (by decide) (t := (.object "java/lang/String")) (t' := (.object "com/example/faultwright/faultwright/Place")) (by decide) (by decide)))
  replace F_label_a := F_label_a.other W2 (Or.inr (slot_ne (Or.inr (hw _ (List.mem_of_getElem? (i := 41) rfl))) (Or.inr (hw _ (List.mem_of_getElem? (i := 37) rfl))) (by decide) (t := (.object "java/lang/String")) (t' := (.object "com/example/faultwright/faultwright/Place")) (by decide) (by decide)))
  replace F_order_a := F_order_a.other W2 (Or.inr (slot_ne (Or.inr (hw _ (List.mem_of_getElem? (i := 43) rfl))) (Or.inr (hw _ (List.mem_of_getElem? (i := 37) rfl))) (by decide) (t := .long) (t' := (.object "com/example/faultwright/faultwright/Place")) (by decide) (by decide)))
  replace F_pathLength_a := F_pathLength_a.other W2 (Or.inr (slot_ne (Or.inr (hw _ (List.mem_of_getElem? (i := 45) rfl))) (Or.inr (hw _ (List.mem_of_getElem? (i := 37) rfl))) (by decide) (t := .long) (t' := (.object "com/example/faultwright/faultwright/Place")) (by decide) (by decide)))
  replace E1 := E1.wr W2
  replace O := O.wr W2 g_a
  replace Kp := Kp.wr W2 (Or.inl (List.mem_of_getElem? (i := 0) rfl))
  replace N0 := Fr.snoc X2 N0 g_a
  refine Out.via (g' := (mkF m 9 #[.val (.ref a), .val vp, .val vn, .val vl, .val (.long q0), .second, .val (.long q1), .second] [])) st2 ?_
  refine Out.via (g' := (mkF m 10 #[.val (.ref a), .val vp, .val vn, .val vl, .val (.long q0), .second, .val (.long q1), .second] [(.ref a)])) (fun _ k => XS.aloadN X2.here hx rfl (hb hby own_d7_9) rfl rfl k) ?_
  refine Out.via (g' := (mkF m 11 #[.val (.ref a), .val vp, .val vn, .val vl, .val (.long q0), .second, .val (.long q1), .second] [vn, (.ref a)])) (fun _ k => XS.aloadN X2.here hx rfl (hb hby own_d7_10) rfl r2 k) ?_
  obtain ⟨T3, h3, X3, e3, W3, st3⟩ := putF X2 hx hZ hown (host := "") (Or.inl (hw _ (List.mem_of_getElem? (i := 38) rfl))) Via.refl e2 F_name_a E1 (Or.inr ⟨(hw _ (List.mem_of_getElem? (i := 39) rfl)), rfl, hnm⟩) (hw _ (List.mem_of_getElem? (i := 31) rfl)) (ty := (.object "java/lang/String")) (by decide) (rfl) (own_fitsR r2) (g := (mkF m 11 #[.val (.ref a), .val vp, .val vn, .val vl, .val (.long q0), .second, .val (.long q1), .second] [vn, (.ref a)])) rfl rfl (hb hby own_d7_11)
  replace F_name_a := F_name_a.same W3
  replace F_parent_a := F_parent_a.other W3 (Or.inr (slot_ne (Or.inr (hw _ (List.mem_of_getElem? (i := 37) rfl))) (Or.inr (hw _ (List.mem_of_getElem? (i := 39) rfl))) (by decide) (t := (.object "com/example/faultwright/faultwright/Place")) (t' := (.object "java/lang/String")) (by decide) (by decide)))
  replace F_label_a := F_label_a.other W3 (Or.inr (slot_ne (Or.inr (hw _ (List.mem_of_getElem? (i := 41) rfl))) (Or.inr (hw _ (List.mem_of_getElem? (i := 39) rfl))) (by decide) (t := (.object "java/lang/String")) (t' := (.object "java/lang/String")) (by decide) (by decide)))
  replace F_order_a := F_order_a.other W3 (Or.inr (slot_ne (Or.inr (hw _ (List.mem_of_getElem? (i := 43) rfl))) (Or.inr (hw _ (List.mem_of_getElem? (i := 39) rfl))) (by decide) (t := .long) (t' := (.object "java/lang/String")) (by decide) (by decide)))
  replace F_pathLength_a := F_pathLength_a.other W3 (Or.inr (slot_ne (Or.inr (hw _ (List.mem_of_getElem? (i := 45) rfl))) (Or.inr (hw _ (List.mem_of_getElem? (i := 39) rfl))) (by decide) (t := .long) (t' := (.object "java/lang/String")) (by decide) (by decide)))
  replace E1 := E1.wr W3
  replace O := O.wr W3 g_a
  replace Kp := Kp.wr W3 (Or.inl (List.mem_of_getElem? (i := 0) rfl))
  replace N0 := Fr.snoc X3 N0 g_a
  refine Out.via (g' := (mkF m 14 #[.val (.ref a), .val vp, .val vn, .val vl, .val (.long q0), .second, .val (.long q1), .second] [])) st3 ?_
  refine Out.via (g' := (mkF m 15 #[.val (.ref a), .val vp, .val vn, .val vl, .val (.long q0), .second, .val (.long q1), .second] [(.ref a)])) (fun _ k => XS.aloadN X3.here hx rfl (hb hby own_d7_14) rfl rfl k) ?_
  refine Out.via (g' := (mkF m 16 #[.val (.ref a), .val vp, .val vn, .val vl, .val (.long q0), .second, .val (.long q1), .second] [vl, (.ref a)])) (fun _ k => XS.aloadN X3.here hx rfl (hb hby own_d7_15) rfl r3 k) ?_
  obtain ⟨T4, h4, X4, e4, W4, st4⟩ := putF X3 hx hZ hown (host := "") (Or.inl (hw _ (List.mem_of_getElem? (i := 40) rfl))) Via.refl e3 F_label_a E1 (Or.inr ⟨(hw _ (List.mem_of_getElem? (i := 41) rfl)), rfl, hnm⟩) (hw _ (List.mem_of_getElem? (i := 31) rfl)) (ty := (.object "java/lang/String")) (by decide) (rfl) (own_fitsR r3) (g := (mkF m 16 #[.val (.ref a), .val vp, .val vn, .val vl, .val (.long q0), .second, .val (.long q1), .second] [vl, (.ref a)])) rfl rfl (hb hby own_d7_16)
  replace F_label_a := F_label_a.same W4
  replace F_parent_a := F_parent_a.other W4 (Or.inr (slot_ne (Or.inr (hw _ (List.mem_of_getElem? (i := 37) rfl))) (Or.inr (hw _ (List.mem_of_getElem? (i := 41) rfl))) (by decide) (t := (.object "com/example/faultwright/faultwright/Place")) (t' := (.object "java/lang/String")) (by decide) (by decide)))
  replace F_name_a := F_name_a.other W4 (Or.inr (slot_ne (Or.inr (hw _ (List.mem_of_getElem? (i := 39) rfl))) (Or.inr (hw _ (List.mem_of_getElem? (i := 41) rfl))) (by decide) (t := (.object "java/lang/String")) (t' := (.object "java/lang/String")) (by decide) (by decide)))
  replace F_order_a := F_order_a.other W4 (Or.inr (slot_ne (Or.inr (hw _ (List.mem_of_getElem? (i := 43) rfl))) (Or.inr (hw _ (List.mem_of_getElem? (i := 41) rfl))) (by decide) (t := .long) (t' := (.object "java/lang/String")) (by decide) (by decide)))
  replace F_pathLength_a := F_pathLength_a.other W4 (Or.inr (slot_ne (Or.inr (hw _ (List.mem_of_getElem? (i := 45) rfl))) (Or.inr (hw _ (List.mem_of_getElem? (i := 41) rfl))) (by decide) (t := .long) (t' := (.object "java/lang/String")) (by decide) (by decide)))
  replace E1 := E1.wr W4
  replace O := O.wr W4 g_a
  replace Kp := Kp.wr W4 (Or.inl (List.mem_of_getElem? (i := 0) rfl))
  replace N0 := Fr.snoc X4 N0 g_a
  refine Out.via (g' := (mkF m 19 #[.val (.ref a), .val vp, .val vn, .val vl, .val (.long q0), .second, .val (.long q1), .second] [])) st4 ?_
  refine Out.via (g' := (mkF m 20 #[.val (.ref a), .val vp, .val vn, .val vl, .val (.long q0), .second, .val (.long q1), .second] [(.ref a)])) (fun _ k => XS.aloadN X4.here hx rfl (hb hby own_d7_19) rfl rfl k) ?_
  refine Out.via (g' := (mkF m 22 #[.val (.ref a), .val vp, .val vn, .val vl, .val (.long q0), .second, .val (.long q1), .second] [(.long q0), (.ref a)])) (fun _ k => XS.lload X4.here hx rfl (hb hby own_d7_20) rfl k) ?_
  obtain ⟨T5, h5, X5, e5, W5, st5⟩ := putF X4 hx hZ hown (host := "") (Or.inl (hw _ (List.mem_of_getElem? (i := 42) rfl))) Via.refl e4 F_order_a E1 (Or.inr ⟨(hw _ (List.mem_of_getElem? (i := 43) rfl)), rfl, hnm⟩) (hw _ (List.mem_of_getElem? (i := 31) rfl)) (ty := .long) (by decide) rfl rfl (g := (mkF m 22 #[.val (.ref a), .val vp, .val vn, .val vl, .val (.long q0), .second, .val (.long q1), .second] [(.long q0), (.ref a)])) rfl rfl (hb hby own_d7_22)
  replace F_order_a := F_order_a.same W5
  replace F_parent_a := F_parent_a.other W5 (Or.inr (slot_ne (Or.inr (hw _ (List.mem_of_getElem? (i := 37) rfl))) (Or.inr (hw _ (List.mem_of_getElem? (i := 43) rfl))) (by decide) (t := (.object "com/example/faultwright/faultwright/Place")) (t' := .long) (by decide) (by decide)))
  replace F_name_a := F_name_a.other W5 (Or.inr (slot_ne (Or.inr (hw _ (List.mem_of_getElem? (i := 39) rfl))) (Or.inr (hw _ (List.mem_of_getElem? (i := 43) rfl))) (by decide) (t := (.object "java/lang/String")) (t' := .long) (by decide) (by decide)))
  replace F_label_a := F_label_a.other W5 (Or.inr (slot_ne (Or.inr (hw _ (List.mem_of_getElem? (i := 41) rfl))) (Or.inr (hw _ (List.mem_of_getElem? (i := 43) rfl))) (by decide) (t := (.object "java/lang/String")) (t' := .long) (by decide) (by decide)))
  replace F_pathLength_a := F_pathLength_a.other W5 (Or.inr (slot_ne (Or.inr (hw _ (List.mem_of_getElem? (i := 45) rfl))) (Or.inr (hw _ (List.mem_of_getElem? (i := 43) rfl))) (by decide) (t := .long) (t' := .long) (by decide) (by decide)))
  replace E1 := E1.wr W5
  replace O := O.wr W5 g_a
  replace Kp := Kp.wr W5 (Or.inl (List.mem_of_getElem? (i := 0) rfl))
  replace N0 := Fr.snoc X5 N0 g_a
  refine Out.via (g' := (mkF m 25 #[.val (.ref a), .val vp, .val vn, .val vl, .val (.long q0), .second, .val (.long q1), .second] [])) st5 ?_
  refine Out.via (g' := (mkF m 26 #[.val (.ref a), .val vp, .val vn, .val vl, .val (.long q0), .second, .val (.long q1), .second] [(.ref a)])) (fun _ k => XS.aloadN X5.here hx rfl (hb hby own_d7_25) rfl rfl k) ?_
  refine Out.via (g' := (mkF m 28 #[.val (.ref a), .val vp, .val vn, .val vl, .val (.long q0), .second, .val (.long q1), .second] [(.long q1), (.ref a)])) (fun _ k => XS.lload X5.here hx rfl (hb hby own_d7_26) rfl k) ?_
  obtain ⟨T6, h6, X6, e6, W6, st6⟩ := putF X5 hx hZ hown (host := "") (Or.inl (hw _ (List.mem_of_getElem? (i := 44) rfl))) Via.refl e5 F_pathLength_a E1 (Or.inr ⟨(hw _ (List.mem_of_getElem? (i := 45) rfl)), rfl, hnm⟩) (hw _ (List.mem_of_getElem? (i := 31) rfl)) (ty := .long) (by decide) rfl rfl (g := (mkF m 28 #[.val (.ref a), .val vp, .val vn, .val vl, .val (.long q0), .second, .val (.long q1), .second] [(.long q1), (.ref a)])) rfl rfl (hb hby own_d7_28)
  replace F_pathLength_a := F_pathLength_a.same W6
  replace F_parent_a := F_parent_a.other W6 (Or.inr (slot_ne (Or.inr (hw _ (List.mem_of_getElem? (i := 37) rfl))) (Or.inr (hw _ (List.mem_of_getElem? (i := 45) rfl))) (by decide) (t := (.object "com/example/faultwright/faultwright/Place")) (t' := .long) (by decide) (by decide)))
  replace F_name_a := F_name_a.other W6 (Or.inr (slot_ne (Or.inr (hw _ (List.mem_of_getElem? (i := 39) rfl))) (Or.inr (hw _ (List.mem_of_getElem? (i := 45) rfl))) (by decide) (t := (.object "java/lang/String")) (t' := .long) (by decide) (by decide)))
  replace F_label_a := F_label_a.other W6 (Or.inr (slot_ne (Or.inr (hw _ (List.mem_of_getElem? (i := 41) rfl))) (Or.inr (hw _ (List.mem_of_getElem? (i := 45) rfl))) (by decide) (t := (.object "java/lang/String")) (t' := .long) (by decide) (by decide)))
  replace F_order_a := F_order_a.other W6 (Or.inr (slot_ne (Or.inr (hw _ (List.mem_of_getElem? (i := 43) rfl))) (Or.inr (hw _ (List.mem_of_getElem? (i := 45) rfl))) (by decide) (t := .long) (t' := .long) (by decide) (by decide)))
  replace E1 := E1.wr W6
  replace O := O.wr W6 g_a
  replace Kp := Kp.wr W6 (Or.inl (List.mem_of_getElem? (i := 0) rfl))
  replace N0 := Fr.snoc X6 N0 g_a
  refine Out.via (g' := (mkF m 31 #[.val (.ref a), .val vp, .val vn, .val vl, .val (.long q0), .second, .val (.long q1), .second] [])) st6 ?_
  exact Out.endN X6 (fun _ => rfl) Bd.notSynchronized (by decide) (by decide) (by rw [e6]; exact ⟨rfl, N0, Kp, E1, F_parent_a, F_order_a, F_pathLength_a⟩) (fun fs hr => X6.returnOut hx Bd.returns (hb hby own_d7_31) hr)
theorem own_d8_0 : decode prog_59_method_2_code 0 = .ok (.new 8, 3) := by decide +kernel
theorem own_d8_3 : decode prog_59_method_2_code 3 = .ok (.dup, 1) := by decide +kernel
theorem own_d8_4 : decode prog_59_method_2_code 4 = .ok (.aconst_null, 1) := by decide +kernel
theorem own_d8_5 : decode prog_59_method_2_code 5 = .ok (.aconst_null, 1) := by decide +kernel
theorem own_d8_6 : decode prog_59_method_2_code 6 = .ok (.aconst_null, 1) := by decide +kernel
theorem own_d8_7 : decode prog_59_method_2_code 7 = .ok (.lconst 0, 1) := by decide +kernel
theorem own_d8_8 : decode prog_59_method_2_code 8 = .ok (.lconst 1, 1) := by decide +kernel
theorem own_d8_9 : decode prog_59_method_2_code 9 = .ok (.invokespecial 27, 3) := by decide +kernel
theorem own_pd10 : parseMethodDescriptor "(Lcom/example/faultwright/faultwright/Place;Ljava/lang/String;Ljava/lang/String;JJ)V" = some ⟨[(.object "com/example/faultwright/faultwright/Place"), (.object "java/lang/String"), (.object "java/lang/String"), .long, .long], none⟩ := by decide +kernel
theorem own_d8_12 : decode prog_59_method_2_code 12 = .ok (.areturn, 1) := by decide +kernel
theorem own_ef5 (m : MethodId)  : entryFrame m #[] 0 = mkF m 0 #[] [] := by first | (simp [entryFrame, mkF, argsToLocals, Value.category]; done) | rfl
abbrev own_Q5 (Z : State)  (h0 : Heap) (n0 : Nat) : Option Value → Heap → List Loc → Prop := fun v h L => ∃ b : Addr, v = some (.ref b) ∧ Fr n0 L ∧ Keep h0 h [] ∧ h0.size ≤ b ∧ Exa Z h b "com/example/faultwright/faultwright/Place" ∧ Fld Z h b "com/example/faultwright/faultwright/Place" "parent" "Lcom/example/faultwright/faultwright/Place;" .null ∧ Fld Z h b "com/example/faultwright/faultwright/Place" "order" "J" (.long (0 : Int64)) ∧ Fld Z h b "com/example/faultwright/faultwright/Place" "pathLength" "J" (.long (1 : Int64))
set_option maxRecDepth 65536 in
set_option maxHeartbeats 40000000 in
theorem own_rm5 (l : Launch) (Z : State) (a0 : Array Value) (hw : ∀ d ∈ tables_1, d.before a0 Z = true) (ws : List Jvm.Cond)  (h0 : Heap) (n0 : Nat) (O : Old Z n0 h0) :
    MetFree l (⟨"com/example/faultwright/faultwright/Place", "document", "()Lcom/example/faultwright/faultwright/Place;"⟩ : MethodName) (head1 (Jvm.Cond.code (⟨"com/example/faultwright/faultwright/Place", "document", "()Lcom/example/faultwright/faultwright/Place;"⟩ : MethodName) prog_59_method_2_code 0 (some (.object "com/example/faultwright/faultwright/Place")) :: ws) ({ frames := 2, cells := 1, slots := 5, locals := 32 } : Room)) (fun aa U => aa = #[] ∧ Z.Warmed39 U.vm ∧ U.heap = h0) (fun _ _ _ _ _ => True) (fun _ U o U' => ∃ v L, o = .returned v ∧ (own_Q5 Z  h0 n0) v U'.heap L ∧ FrameEnd U o U' L ({ frames := 2, cells := 1, slots := 5, locals := 32 } : Room).cells ({ frames := 2, cells := 1, slots := 5, locals := 32 } : Room).slots) := by
  refine MetFree.of_bodySF (plainFor_of_name own_pn9) hisR ?_
  intro p e s m args below meth c s₁ Bd hml0 hP hK
  obtain ⟨rfl, hZ, hh⟩ := hP
  have hx := Bd.exec
  have hby := Bd.bytes
  have hml : c.maxLocals = 0 := hml0
  have hown : s.vm.findClass "com/example/faultwright/faultwright/Place" = some m.cls := findClass_of_methodNamed Bd.named
  have hnm := (name_of_methodNamed Bd.named Bd.method).1
  have X0 : Stand p l e ({ frames := 2, cells := 1, slots := 5, locals := 32 } : Room) s m #[] below meth c s₁ [] 0 0 := Stand.of_body Bd
  have e0 : s₁.heap = h0 := by rw [← hh, Bd.state]; rfl
  have N0 := Fr.nil n0
  refine Out.start (Q := own_Q5 Z  h0 n0) (own_ef5 m  ) ?_
  have Kp := Keep.refl h0 []
  obtain ⟨T1, h1, X1, e1, E1, A1, D1, -, st1⟩ := newO X0 hx hZ hown (hw _ (List.mem_of_getElem? (i := 30) rfl)) (hw _ (List.mem_of_getElem? (i := 31) rfl)) (hw _ (List.mem_of_getElem? (i := 28) rfl)) e0 (g := (mkF m 0 #[] [])) rfl (hb hby own_d8_0) (by decide) (by decide)
  obtain ⟨b, gq1⟩ : ∃ z, z = h0.size := ⟨_, rfl⟩
  rw [← gq1] at A1 D1 st1
  have g_b : n0 ≤ b := Nat.le_trans (own_z0 O) (Nat.le_of_eq gq1.symm)
  have sz_b : h0.size ≤ b := Nat.le_trans Kp.1 (Nat.le_of_eq gq1.symm)
  replace O := O.ext E1
  replace Kp := Kp.ext E1
  have F_parent_b : Fld Z h1 b "com/example/faultwright/faultwright/Place" "parent" "Lcom/example/faultwright/faultwright/Place;" .null := D1 (Or.inr (hw _ (List.mem_of_getElem? (i := 37) rfl))) (ty := (.object "com/example/faultwright/faultwright/Place")) (by decide)
  have F_name_b : Fld Z h1 b "com/example/faultwright/faultwright/Place" "name" "Ljava/lang/String;" .null := D1 (Or.inr (hw _ (List.mem_of_getElem? (i := 39) rfl))) (ty := (.object "java/lang/String")) (by decide)
  have F_label_b : Fld Z h1 b "com/example/faultwright/faultwright/Place" "label" "Ljava/lang/String;" .null := D1 (Or.inr (hw _ (List.mem_of_getElem? (i := 41) rfl))) (ty := (.object "java/lang/String")) (by decide)
  have F_order_b : Fld Z h1 b "com/example/faultwright/faultwright/Place" "order" "J" (.long (0 : Int64)) := D1 (Or.inr (hw _ (List.mem_of_getElem? (i := 43) rfl))) (ty := .long) (by decide)
  have F_pathLength_b : Fld Z h1 b "com/example/faultwright/faultwright/Place" "pathLength" "J" (.long (0 : Int64)) := D1 (Or.inr (hw _ (List.mem_of_getElem? (i := 45) rfl))) (ty := .long) (by decide)
  refine Out.via (g' := (mkF m 3 #[] [(.ref b)])) st1 ?_
  refine Out.via (g' := (mkF m 4 #[] [(.ref b), (.ref b)])) (fun _ k => XS.dup X1.here hx rfl (hb hby own_d8_3) rfl rfl k) ?_
  refine Out.via (g' := (mkF m 5 #[] [.null, (.ref b), (.ref b)])) (fun _ k => XS.aconstNull X1.here hx rfl (hb hby own_d8_4) k) ?_
  refine Out.via (g' := (mkF m 6 #[] [.null, .null, (.ref b), (.ref b)])) (fun _ k => XS.aconstNull X1.here hx rfl (hb hby own_d8_5) k) ?_
  refine Out.via (g' := (mkF m 7 #[] [.null, .null, .null, (.ref b), (.ref b)])) (fun _ k => XS.aconstNull X1.here hx rfl (hb hby own_d8_6) k) ?_
  refine Out.via (g' := (mkF m 8 #[] [(.long (0 : Int64)), .null, .null, .null, (.ref b), (.ref b)])) (fun _ k => XS.lconst X1.here hx rfl (hb hby own_d8_7) k) ?_
  refine Out.via (g' := (mkF m 9 #[] [(.long (1 : Int64)), (.long (0 : Int64)), .null, .null, .null, (.ref b), (.ref b)])) (fun _ k => XS.lconst X1.here hx rfl (hb hby own_d8_8) k) ?_
  obtain ⟨_, _, ⟨T2, L2, kc2, ks2⟩, -, X2, ⟨Lc2, hQ2, l2, y2, z2⟩, st2⟩ := X1.specialBack hx (y := (⟨"com/example/faultwright/faultwright/Place", "<init>", "(Lcom/example/faultwright/faultwright/Place;Ljava/lang/String;Ljava/lang/String;JJ)V"⟩ : MethodName)) rfl hown (mvT hZ (hw _ (List.mem_of_getElem? (i := 32) rfl))) (mvT hZ (hw _ (List.mem_of_getElem? (i := 33) rfl))) (mvT hZ (hw _ (List.mem_of_getElem? (i := 34) rfl))) (by decide) (backOf (W := 1) (own_rm6 l Z a0 hw [] b .null .null .null (0 : Int64) (1 : Int64) h1 n0 O g_b A1 F_parent_b F_name_b F_label_b F_order_b F_pathLength_b rfl rfl rfl) hZ (hw _ (List.mem_of_getElem? (i := 34) rfl)) (hw _ (List.mem_of_getElem? (i := 28) rfl)) (by decide) (by decide)) (g := (mkF m 9 #[] [(.long (1 : Int64)), (.long (0 : Int64)), .null, .null, .null, (.ref b), (.ref b)])) rfl (by rw [hml]; rfl) (Steps.refl _) (a := b) (argsL := [.null, .null, .null, (.long (0 : Int64)), (.long (1 : Int64))]) (rest := [(.ref b)]) (lenOf own_pd10 rfl) rfl (by show 2 * 0 + _ ≤ _; exact Nat.le_of_eq rfl) (hb hby own_d8_9) (fun _ _ => ⟨rfl, e1, (by decide : 1 + 0 ≤ _), (by decide : 5 + 0 ≤ _)⟩)
  dsimp only [Pt.U, Pt.locs, Pt.cells, Pt.slots] at X2 l2 y2 z2 st2 hQ2
  subst l2 y2 z2
  obtain ⟨rfl, Nq2, Kq2, Eb, Pb, Ob, Lb⟩ := hQ2
  replace N0 := Fr.app N0 Nq2
  replace A1 := A1.keep Kq2
  replace O := O.keep Kq2 (allS g_b all0)
  replace Kp := Kp.trans Kq2 (allS (Or.inr sz_b) all0)
  refine Out.to (g' := (mkF m 12 #[] [(.ref b)])) st2 ?_
  exact Out.endN X2 (fun h => by rw [Bd.returns] at h; cases h) Bd.notSynchronized (by decide) (by decide) (⟨b, rfl, N0, Kp, sz_b, Eb, Pb, Ob, Lb⟩) (fun fs hr => own_retR X2 hx (t := (.object "com/example/faultwright/faultwright/Place")) Bd.returns rfl rfl rfl (hb hby own_d8_12) hr)
theorem own_d9_0 : decode prog_59_method_5_code 0 = .ok (.aload_n 0, 1) := by decide +kernel
theorem own_d9_1 : decode prog_59_method_5_code 1 = .ok (.getfield 20, 3) := by decide +kernel
theorem own_d9_4 : decode prog_59_method_5_code 4 = .ok (.lreturn, 1) := by decide +kernel
theorem own_ef7 (m : MethodId) (x0 : Addr) : entryFrame m #[(.ref x0)] 1 = mkF m 0 #[.val (.ref x0)] [] := by first | (simp [entryFrame, mkF, argsToLocals, Value.category]; done) | rfl
abbrev own_Q7 (Z : State) (a : Addr) (q : Int64) (h0 : Heap) (n0 : Nat) : Option Value → Heap → List Loc → Prop := fun v h L => v = some (.long q) ∧ Fr n0 L ∧ h = h0
set_option maxRecDepth 65536 in
set_option maxHeartbeats 40000000 in
theorem own_rm7 (l : Launch) (Z : State) (a0 : Array Value) (hw : ∀ d ∈ tables_1, d.before a0 Z = true) (ws : List Jvm.Cond) (a : Addr) (q : Int64) (h0 : Heap) (n0 : Nat) (O : Old Z n0 h0) (F1 : Fld Z h0 a "com/example/faultwright/faultwright/Place" "order" "J" (.long q)) :
    MetFree l (⟨"com/example/faultwright/faultwright/Place", "getOrder", "()J"⟩ : MethodName) (head1 (Jvm.Cond.code (⟨"com/example/faultwright/faultwright/Place", "getOrder", "()J"⟩ : MethodName) prog_59_method_5_code 1 (some .long) :: ws) ({ frames := 0, cells := 0, slots := 0, locals := 0 } : Room)) (fun aa U => aa = #[(.ref a)] ∧ Z.Warmed39 U.vm ∧ U.heap = h0) (fun _ _ _ _ _ => True) (fun _ U o U' => ∃ v L, o = .returned v ∧ (own_Q7 Z a q h0 n0) v U'.heap L ∧ FrameEnd U o U' L ({ frames := 0, cells := 0, slots := 0, locals := 0 } : Room).cells ({ frames := 0, cells := 0, slots := 0, locals := 0 } : Room).slots) := by
  refine MetFree.of_bodySF (plainFor_of_name own_pn9) hisR ?_
  intro p e s m args below meth c s₁ Bd hml0 hP hK
  obtain ⟨rfl, hZ, hh⟩ := hP
  have hx := Bd.exec
  have hby := Bd.bytes
  have hml : c.maxLocals = 1 := hml0
  have hown : s.vm.findClass "com/example/faultwright/faultwright/Place" = some m.cls := findClass_of_methodNamed Bd.named
  have hnm := (name_of_methodNamed Bd.named Bd.method).1
  have X0 : Stand p l e ({ frames := 0, cells := 0, slots := 0, locals := 0 } : Room) s m #[(.ref a)] below meth c s₁ [] 0 0 := Stand.of_body Bd
  have e0 : s₁.heap = h0 := by rw [← hh, Bd.state]; rfl
  have N0 := Fr.nil n0
  refine Out.start (Q := own_Q7 Z a q h0 n0) (own_ef7 m a ) ?_
  refine Out.via (g' := (mkF m 1 #[.val (.ref a)] [(.ref a)])) (fun _ k => XS.aloadN X0.here hx rfl (hb hby own_d9_0) rfl rfl k) ?_
  obtain ⟨T1, X1, e1, st1⟩ := getF X0 hx hZ hown (host := "") (Or.inl (hw _ (List.mem_of_getElem? (i := 42) rfl))) Via.refl e0 F1 (g := (mkF m 1 #[.val (.ref a)] [(.ref a)])) rfl rfl (hb hby own_d9_1)
  refine Out.via (g' := (mkF m 4 #[.val (.ref a)] [(.long q)])) st1 ?_
  exact Out.endN X1 (fun h => by rw [Bd.returns] at h; cases h) Bd.notSynchronized (by decide) (by decide) (by rw [e1]; exact ⟨rfl, N0, rfl⟩) (fun fs hr => own_retL X1 hx Bd.returns (hb hby own_d9_4) hr)
theorem own_d10_0 : decode prog_59_method_6_code 0 = .ok (.aload_n 0, 1) := by decide +kernel
theorem own_d10_1 : decode prog_59_method_6_code 1 = .ok (.getfield 24, 3) := by decide +kernel
theorem own_d10_4 : decode prog_59_method_6_code 4 = .ok (.lreturn, 1) := by decide +kernel
theorem own_ef8 (m : MethodId) (x0 : Addr) : entryFrame m #[(.ref x0)] 1 = mkF m 0 #[.val (.ref x0)] [] := by first | (simp [entryFrame, mkF, argsToLocals, Value.category]; done) | rfl
abbrev own_Q8 (Z : State) (a : Addr) (q : Int64) (h0 : Heap) (n0 : Nat) : Option Value → Heap → List Loc → Prop := fun v h L => v = some (.long q) ∧ Fr n0 L ∧ h = h0
set_option maxRecDepth 65536 in
set_option maxHeartbeats 40000000 in
theorem own_rm8 (l : Launch) (Z : State) (a0 : Array Value) (hw : ∀ d ∈ tables_1, d.before a0 Z = true) (ws : List Jvm.Cond) (a : Addr) (q : Int64) (h0 : Heap) (n0 : Nat) (O : Old Z n0 h0) (F1 : Fld Z h0 a "com/example/faultwright/faultwright/Place" "pathLength" "J" (.long q)) :
    MetFree l (⟨"com/example/faultwright/faultwright/Place", "pathLength", "()J"⟩ : MethodName) (head1 (Jvm.Cond.code (⟨"com/example/faultwright/faultwright/Place", "pathLength", "()J"⟩ : MethodName) prog_59_method_6_code 1 (some .long) :: ws) ({ frames := 0, cells := 0, slots := 0, locals := 0 } : Room)) (fun aa U => aa = #[(.ref a)] ∧ Z.Warmed39 U.vm ∧ U.heap = h0) (fun _ _ _ _ _ => True) (fun _ U o U' => ∃ v L, o = .returned v ∧ (own_Q8 Z a q h0 n0) v U'.heap L ∧ FrameEnd U o U' L ({ frames := 0, cells := 0, slots := 0, locals := 0 } : Room).cells ({ frames := 0, cells := 0, slots := 0, locals := 0 } : Room).slots) := by
  refine MetFree.of_bodySF (plainFor_of_name own_pn9) hisR ?_
  intro p e s m args below meth c s₁ Bd hml0 hP hK
  obtain ⟨rfl, hZ, hh⟩ := hP
  have hx := Bd.exec
  have hby := Bd.bytes
  have hml : c.maxLocals = 1 := hml0
  have hown : s.vm.findClass "com/example/faultwright/faultwright/Place" = some m.cls := findClass_of_methodNamed Bd.named
  have hnm := (name_of_methodNamed Bd.named Bd.method).1
  have X0 : Stand p l e ({ frames := 0, cells := 0, slots := 0, locals := 0 } : Room) s m #[(.ref a)] below meth c s₁ [] 0 0 := Stand.of_body Bd
  have e0 : s₁.heap = h0 := by rw [← hh, Bd.state]; rfl
  have N0 := Fr.nil n0
  refine Out.start (Q := own_Q8 Z a q h0 n0) (own_ef8 m a ) ?_
  refine Out.via (g' := (mkF m 1 #[.val (.ref a)] [(.ref a)])) (fun _ k => XS.aloadN X0.here hx rfl (hb hby own_d10_0) rfl rfl k) ?_
  obtain ⟨T1, X1, e1, st1⟩ := getF X0 hx hZ hown (host := "") (Or.inl (hw _ (List.mem_of_getElem? (i := 44) rfl))) Via.refl e0 F1 (g := (mkF m 1 #[.val (.ref a)] [(.ref a)])) rfl rfl (hb hby own_d10_1)
  refine Out.via (g' := (mkF m 4 #[.val (.ref a)] [(.long q)])) st1 ?_
  exact Out.endN X1 (fun h => by rw [Bd.returns] at h; cases h) Bd.notSynchronized (by decide) (by decide) (by rw [e1]; exact ⟨rfl, N0, rfl⟩) (fun fs hr => own_retL X1 hx Bd.returns (hb hby own_d10_4) hr)
theorem own_d11_0 : decode prog_59_method_4_code 0 = .ok (.aload_n 0, 1) := by decide +kernel
theorem own_d11_1 : decode prog_59_method_4_code 1 = .ok (.getfield 7, 3) := by decide +kernel
theorem own_d11_4 : decode prog_59_method_4_code 4 = .ok (.ifnonnull 7, 3) := by decide +kernel
theorem own_d11_7 : decode prog_59_method_4_code 7 = .ok (.lconst 0, 1) := by decide +kernel
theorem own_d11_8 : decode prog_59_method_4_code 8 = .ok (.goto 7, 3) := by decide +kernel
theorem own_d11_15 : decode prog_59_method_4_code 15 = .ok (.lstore 5, 2) := by decide +kernel
theorem own_d11_17 : decode prog_59_method_4_code 17 = .ok (.aload_n 1, 1) := by decide +kernel
theorem own_d11_18 : decode prog_59_method_4_code 18 = .ok (.invokevirtual 34, 3) := by decide +kernel
theorem own_pd11 : parseMethodDescriptor "()I" = some ⟨[], some .int⟩ := by decide +kernel
theorem own_d11_21 : decode prog_59_method_4_code 21 = .ok (.aload_n 2, 1) := by decide +kernel
theorem own_d11_22 : decode prog_59_method_4_code 22 = .ok (.ifnonnull 7, 3) := by decide +kernel
theorem own_d11_25 : decode prog_59_method_4_code 25 = .ok (.iconst 0, 1) := by decide +kernel
theorem own_d11_26 : decode prog_59_method_4_code 26 = .ok (.goto 9, 3) := by decide +kernel
theorem own_d11_35 : decode prog_59_method_4_code 35 = .ok (.iadd, 1) := by decide +kernel
theorem own_d11_36 : decode prog_59_method_4_code 36 = .ok (.i2l, 1) := by decide +kernel
theorem own_d11_37 : decode prog_59_method_4_code 37 = .ok (.lstore 7, 2) := by decide +kernel
theorem own_d11_39 : decode prog_59_method_4_code 39 = .ok (.new 8, 3) := by decide +kernel
theorem own_d11_42 : decode prog_59_method_4_code 42 = .ok (.dup, 1) := by decide +kernel
theorem own_d11_43 : decode prog_59_method_4_code 43 = .ok (.aload_n 0, 1) := by decide +kernel
theorem own_d11_44 : decode prog_59_method_4_code 44 = .ok (.aload_n 1, 1) := by decide +kernel
theorem own_d11_45 : decode prog_59_method_4_code 45 = .ok (.aload_n 2, 1) := by decide +kernel
theorem own_d11_46 : decode prog_59_method_4_code 46 = .ok (.lload_n 3, 1) := by decide +kernel
theorem own_d11_47 : decode prog_59_method_4_code 47 = .ok (.lload 5, 2) := by decide +kernel
theorem own_d11_49 : decode prog_59_method_4_code 49 = .ok (.lconst 1, 1) := by decide +kernel
theorem own_d11_50 : decode prog_59_method_4_code 50 = .ok (.ladd, 1) := by decide +kernel
theorem own_d11_51 : decode prog_59_method_4_code 51 = .ok (.lload 7, 2) := by decide +kernel
theorem own_d11_53 : decode prog_59_method_4_code 53 = .ok (.ladd, 1) := by decide +kernel
theorem own_d11_54 : decode prog_59_method_4_code 54 = .ok (.invokespecial 27, 3) := by decide +kernel
theorem own_d11_57 : decode prog_59_method_4_code 57 = .ok (.areturn, 1) := by decide +kernel
theorem own_ef9 (m : MethodId) (x0 : Addr) (x1 : Addr) (x3 : Int64) : entryFrame m #[(.ref x0), (.ref x1), .null, (.long x3)] 9 = mkF m 0 #[.val (.ref x0), .val (.ref x1), .val .null, .val (.long x3), .second, .unset, .unset, .unset, .unset] [] := by first | (simp [entryFrame, mkF, argsToLocals, Value.category]; done) | rfl
abbrev own_Q9 (Z : State) (a x : Addr) (cs : List Int32) (q : Int64) (G1 : Int32) (h0 : Heap) (n0 : Nat) : Option Value → Heap → List Loc → Prop := fun v h L => ∃ b : Addr, v = some (.ref b) ∧ Fr n0 L ∧ Keep h0 h [] ∧ h0.size ≤ b ∧ Exa Z h b "com/example/faultwright/faultwright/Place" ∧ Fld Z h b "com/example/faultwright/faultwright/Place" "parent" "Lcom/example/faultwright/faultwright/Place;" (.ref a) ∧ Fld Z h b "com/example/faultwright/faultwright/Place" "order" "J" (.long q) ∧ Fld Z h b "com/example/faultwright/faultwright/Place" "pathLength" "J" (.long ((0 : Int64) + (1 : Int64) + (Int32.ofNat cs.length + (0 : Int32)).toInt64))
set_option maxRecDepth 65536 in
set_option maxHeartbeats 40000000 in
theorem own_rm9 (l : Launch) (Z : State) (a0 : Array Value) (hw : ∀ d ∈ tables_1, d.before a0 Z = true) (ws : List Jvm.Cond) (a x : Addr) (cs : List Int32) (q : Int64) (G1 : Int32) (h0 : Heap) (n0 : Nat) (O : Old Z n0 h0) (E1 : Exa Z h0 a "com/example/faultwright/faultwright/Place") (F1 : Fld Z h0 a "com/example/faultwright/faultwright/Place" "parent" "Lcom/example/faultwright/faultwright/Place;" .null) (Sn : own_Str Z h0 x cs) (ln : cs.length < 4) (O2 : Sta Z Z.heap "java/lang/String" "COMPACT_STRINGS" "Z" (.int G1)) (P5 : ¬ (G1 = (0 : Int32))) :
    MetFree l (⟨"com/example/faultwright/faultwright/Place", "child", "(Ljava/lang/String;Ljava/lang/String;J)Lcom/example/faultwright/faultwright/Place;"⟩ : MethodName) (head1 (Jvm.Cond.code (⟨"com/example/faultwright/faultwright/Place", "child", "(Ljava/lang/String;Ljava/lang/String;J)Lcom/example/faultwright/faultwright/Place;"⟩ : MethodName) prog_59_method_4_code 9 (some (.object "com/example/faultwright/faultwright/Place")) :: ws) ({ frames := 2, cells := 1, slots := 5, locals := 40 } : Room)) (fun aa U => aa = #[(.ref a), (.ref x), .null, (.long q)] ∧ Z.Warmed39 U.vm ∧ U.heap = h0) (fun _ _ _ _ _ => True) (fun _ U o U' => ∃ v L, o = .returned v ∧ (own_Q9 Z a x cs q G1 h0 n0) v U'.heap L ∧ FrameEnd U o U' L ({ frames := 2, cells := 1, slots := 5, locals := 40 } : Room).cells ({ frames := 2, cells := 1, slots := 5, locals := 40 } : Room).slots) := by
  refine MetFree.of_bodySF (plainFor_of_name own_pn9) hisR ?_
  intro p e s m args below meth c s₁ Bd hml0 hP hK
  obtain ⟨rfl, hZ, hh⟩ := hP
  have hx := Bd.exec
  have hby := Bd.bytes
  have hml : c.maxLocals = 9 := hml0
  have hown : s.vm.findClass "com/example/faultwright/faultwright/Place" = some m.cls := findClass_of_methodNamed Bd.named
  have hnm := (name_of_methodNamed Bd.named Bd.method).1
  have X0 : Stand p l e ({ frames := 2, cells := 1, slots := 5, locals := 40 } : Room) s m #[(.ref a), (.ref x), .null, (.long q)] below meth c s₁ [] 0 0 := Stand.of_body Bd
  have e0 : s₁.heap = h0 := by rw [← hh, Bd.state]; rfl
  have N0 := Fr.nil n0
  refine Out.start (Q := own_Q9 Z a x cs q G1 h0 n0) (own_ef9 m a x q ) ?_
  have Kp := Keep.refl h0 []
  refine Out.via (g' := (mkF m 1 #[.val (.ref a), .val (.ref x), .val .null, .val (.long q), .second, .unset, .unset, .unset, .unset] [(.ref a)])) (fun _ k => XS.aloadN X0.here hx rfl (hb hby own_d11_0) rfl rfl k) ?_
  obtain ⟨T1, X1, e1, st1⟩ := getF X0 hx hZ hown (host := "") (Or.inl (hw _ (List.mem_of_getElem? (i := 36) rfl))) Via.refl e0 F1 (g := (mkF m 1 #[.val (.ref a), .val (.ref x), .val .null, .val (.long q), .second, .unset, .unset, .unset, .unset] [(.ref a)])) rfl rfl (hb hby own_d11_1)
  refine Out.via (g' := (mkF m 4 #[.val (.ref a), .val (.ref x), .val .null, .val (.long q), .second, .unset, .unset, .unset, .unset] [.null])) st1 ?_
  refine Out.via (g' := (mkF m 7 #[.val (.ref a), .val (.ref x), .val .null, .val (.long q), .second, .unset, .unset, .unset, .unset] [])) (fun _ k => XS.ifnonnullNo X1.here hx rfl (hb hby own_d11_4) rfl k) ?_
  refine Out.via (g' := (mkF m 8 #[.val (.ref a), .val (.ref x), .val .null, .val (.long q), .second, .unset, .unset, .unset, .unset] [(.long (0 : Int64))])) (fun _ k => XS.lconst X1.here hx rfl (hb hby own_d11_7) k) ?_
  refine Out.via (g' := (mkF m 15 #[.val (.ref a), .val (.ref x), .val .null, .val (.long q), .second, .unset, .unset, .unset, .unset] [(.long (0 : Int64))])) (fun _ k => XS.goto X1.here hx rfl (pc0 := 8) (pc' := 15) rfl (hb hby own_d11_8) (by decide) (by decide) k) ?_
  refine Out.via (g' := (mkF m 17 #[.val (.ref a), .val (.ref x), .val .null, .val (.long q), .second, .val (.long (0 : Int64)), .second, .unset, .unset] [])) (fun _ k => XS.lstore X1.here hx rfl (hb hby own_d11_15) rfl (l' := #[.val (.ref a), .val (.ref x), .val .null, .val (.long q), .second, .val (.long (0 : Int64)), .second, .unset, .unset]) rfl k) ?_
  refine Out.via (g' := (mkF m 18 #[.val (.ref a), .val (.ref x), .val .null, .val (.long q), .second, .val (.long (0 : Int64)), .second, .unset, .unset] [(.ref x)])) (fun _ k => XS.aloadN X1.here hx rfl (hb hby own_d11_17) rfl rfl k) ?_
  obtain ⟨cq2, kq2, q2a, q2b, q2c⟩ := isOf hZ e1 Sn.2.1
  obtain ⟨_, _, ⟨T2, L2, kc2, ks2⟩, -, X2, ⟨Lc2, hQ2, l2, y2, z2⟩, st2⟩ := X1.virtualBack hx (y := (⟨"java/lang/String", "length", "()I"⟩ : MethodName)) (z := (⟨"java/lang/String", "length", "()I"⟩ : MethodName)) hown (mvT hZ (hw _ (List.mem_of_getElem? (i := 61) rfl))) (mvT hZ (hw _ (List.mem_of_getElem? (i := 62) rfl))) (notFace_of_selects (args := #[]) (mvT hZ (hw _ (List.mem_of_getElem? (i := 64) rfl)))) (mvT hZ (hw _ (List.mem_of_getElem? (i := 64) rfl))) (mvT hZ (hw _ (List.mem_of_getElem? (i := 63) rfl))) (by decide) (own_lenB (W := 0) hZ hw (kI := 4) (hw _ (List.mem_of_getElem? (i := 5) rfl)) Sn (O2.ext O.2) P5 (by omega) (by decide) (by decide)) q2a q2c (g := (mkF m 18 #[.val (.ref a), .val (.ref x), .val .null, .val (.long q), .second, .val (.long (0 : Int64)), .second, .unset, .unset] [(.ref x)])) rfl (by rw [hml]; rfl) (Steps.refl _) (argsL := []) (rest := []) (lenOf own_pd11 rfl) rfl (by show 2 * 0 + _ ≤ _; exact Nat.le_of_eq rfl) (hb hby own_d11_18) (fun _ _ => ⟨rfl, e1, (by decide : 0 + 0 ≤ _), (by decide : 0 + 0 ≤ _)⟩)
  dsimp only [Pt.U, Pt.locs, Pt.cells, Pt.slots] at X2 l2 y2 z2 st2 hQ2
  subst l2 y2 z2
  obtain ⟨rfl, rfl, eq2⟩ := hQ2
  replace N0 := Fr.app N0 (Fr.nil n0)
  refine Out.to (g' := (mkF m 21 #[.val (.ref a), .val (.ref x), .val .null, .val (.long q), .second, .val (.long (0 : Int64)), .second, .unset, .unset] [(.int (Int32.ofNat cs.length))])) st2 ?_
  refine Out.via (g' := (mkF m 22 #[.val (.ref a), .val (.ref x), .val .null, .val (.long q), .second, .val (.long (0 : Int64)), .second, .unset, .unset] [.null, (.int (Int32.ofNat cs.length))])) (fun _ k => XS.aloadN X2.here hx rfl (hb hby own_d11_21) rfl rfl k) ?_
  refine Out.via (g' := (mkF m 25 #[.val (.ref a), .val (.ref x), .val .null, .val (.long q), .second, .val (.long (0 : Int64)), .second, .unset, .unset] [(.int (Int32.ofNat cs.length))])) (fun _ k => XS.ifnonnullNo X2.here hx rfl (hb hby own_d11_22) rfl k) ?_
  refine Out.via (g' := (mkF m 26 #[.val (.ref a), .val (.ref x), .val .null, .val (.long q), .second, .val (.long (0 : Int64)), .second, .unset, .unset] [(.int (0 : Int32)), (.int (Int32.ofNat cs.length))])) (fun _ k => XS.iconst X2.here hx rfl (hb hby own_d11_25) k) ?_
  refine Out.via (g' := (mkF m 35 #[.val (.ref a), .val (.ref x), .val .null, .val (.long q), .second, .val (.long (0 : Int64)), .second, .unset, .unset] [(.int (0 : Int32)), (.int (Int32.ofNat cs.length))])) (fun _ k => XS.goto X2.here hx rfl (pc0 := 26) (pc' := 35) rfl (hb hby own_d11_26) (by decide) (by decide) k) ?_
  refine Out.via (g' := (mkF m 36 #[.val (.ref a), .val (.ref x), .val .null, .val (.long q), .second, .val (.long (0 : Int64)), .second, .unset, .unset] [(.int ((Int32.ofNat cs.length) + (0 : Int32)))])) (fun _ k => XS.iadd X2.here hx rfl (hb hby own_d11_35) rfl k) ?_
  refine Out.via (g' := (mkF m 37 #[.val (.ref a), .val (.ref x), .val .null, .val (.long q), .second, .val (.long (0 : Int64)), .second, .unset, .unset] [(.long (((Int32.ofNat cs.length) + (0 : Int32)).toInt64))])) (fun _ k => XS.i2l X2.here hx rfl (hb hby own_d11_36) rfl k) ?_
  refine Out.via (g' := (mkF m 39 #[.val (.ref a), .val (.ref x), .val .null, .val (.long q), .second, .val (.long (0 : Int64)), .second, .val (.long (((Int32.ofNat cs.length) + (0 : Int32)).toInt64)), .second] [])) (fun _ k => XS.lstore X2.here hx rfl (hb hby own_d11_37) rfl (l' := #[.val (.ref a), .val (.ref x), .val .null, .val (.long q), .second, .val (.long (0 : Int64)), .second, .val (.long (((Int32.ofNat cs.length) + (0 : Int32)).toInt64)), .second]) rfl k) ?_
  obtain ⟨T3, h3, X3, e3, E3, A3, D3, -, st3⟩ := newO X2 hx hZ hown (hw _ (List.mem_of_getElem? (i := 30) rfl)) (hw _ (List.mem_of_getElem? (i := 31) rfl)) (hw _ (List.mem_of_getElem? (i := 28) rfl)) eq2 (g := (mkF m 39 #[.val (.ref a), .val (.ref x), .val .null, .val (.long q), .second, .val (.long (0 : Int64)), .second, .val (.long (((Int32.ofNat cs.length) + (0 : Int32)).toInt64)), .second] [])) rfl (hb hby own_d11_39) (by decide) (by decide)
  obtain ⟨b, gq3⟩ : ∃ z, z = h0.size := ⟨_, rfl⟩
  rw [← gq3] at A3 D3 st3
  have ne_a_b : a ≠ b := Nat.ne_of_lt (Nat.lt_of_lt_of_le E1.lt (Nat.le_of_eq gq3.symm))
  have g_b : n0 ≤ b := Nat.le_trans (own_z0 O) (Nat.le_of_eq gq3.symm)
  have sz_b : h0.size ≤ b := Nat.le_trans Kp.1 (Nat.le_of_eq gq3.symm)
  replace F1 := F1.ext E3
  replace E1 := E1.ext E3
  replace O := O.ext E3
  replace Kp := Kp.ext E3
  have F_parent_b : Fld Z h3 b "com/example/faultwright/faultwright/Place" "parent" "Lcom/example/faultwright/faultwright/Place;" .null := D3 (Or.inr (hw _ (List.mem_of_getElem? (i := 37) rfl))) (ty := (.object "com/example/faultwright/faultwright/Place")) (by decide)
  have F_name_b : Fld Z h3 b "com/example/faultwright/faultwright/Place" "name" "Ljava/lang/String;" .null := D3 (Or.inr (hw _ (List.mem_of_getElem? (i := 39) rfl))) (ty := (.object "java/lang/String")) (by decide)
  have F_label_b : Fld Z h3 b "com/example/faultwright/faultwright/Place" "label" "Ljava/lang/String;" .null := D3 (Or.inr (hw _ (List.mem_of_getElem? (i := 41) rfl))) (ty := (.object "java/lang/String")) (by decide)
  have F_order_b : Fld Z h3 b "com/example/faultwright/faultwright/Place" "order" "J" (.long (0 : Int64)) := D3 (Or.inr (hw _ (List.mem_of_getElem? (i := 43) rfl))) (ty := .long) (by decide)
  have F_pathLength_b : Fld Z h3 b "com/example/faultwright/faultwright/Place" "pathLength" "J" (.long (0 : Int64)) := D3 (Or.inr (hw _ (List.mem_of_getElem? (i := 45) rfl))) (ty := .long) (by decide)
  refine Out.via (g' := (mkF m 42 #[.val (.ref a), .val (.ref x), .val .null, .val (.long q), .second, .val (.long (0 : Int64)), .second, .val (.long (((Int32.ofNat cs.length) + (0 : Int32)).toInt64)), .second] [(.ref b)])) st3 ?_
  refine Out.via (g' := (mkF m 43 #[.val (.ref a), .val (.ref x), .val .null, .val (.long q), .second, .val (.long (0 : Int64)), .second, .val (.long (((Int32.ofNat cs.length) + (0 : Int32)).toInt64)), .second] [(.ref b), (.ref b)])) (fun _ k => XS.dup X3.here hx rfl (hb hby own_d11_42) rfl rfl k) ?_
  refine Out.via (g' := (mkF m 44 #[.val (.ref a), .val (.ref x), .val .null, .val (.long q), .second, .val (.long (0 : Int64)), .second, .val (.long (((Int32.ofNat cs.length) + (0 : Int32)).toInt64)), .second] [(.ref a), (.ref b), (.ref b)])) (fun _ k => XS.aloadN X3.here hx rfl (hb hby own_d11_43) rfl rfl k) ?_
  refine Out.via (g' := (mkF m 45 #[.val (.ref a), .val (.ref x), .val .null, .val (.long q), .second, .val (.long (0 : Int64)), .second, .val (.long (((Int32.ofNat cs.length) + (0 : Int32)).toInt64)), .second] [(.ref x), (.ref a), (.ref b), (.ref b)])) (fun _ k => XS.aloadN X3.here hx rfl (hb hby own_d11_44) rfl rfl k) ?_
  refine Out.via (g' := (mkF m 46 #[.val (.ref a), .val (.ref x), .val .null, .val (.long q), .second, .val (.long (0 : Int64)), .second, .val (.long (((Int32.ofNat cs.length) + (0 : Int32)).toInt64)), .second] [.null, (.ref x), (.ref a), (.ref b), (.ref b)])) (fun _ k => XS.aloadN X3.here hx rfl (hb hby own_d11_45) rfl rfl k) ?_
  refine Out.via (g' := (mkF m 47 #[.val (.ref a), .val (.ref x), .val .null, .val (.long q), .second, .val (.long (0 : Int64)), .second, .val (.long (((Int32.ofNat cs.length) + (0 : Int32)).toInt64)), .second] [(.long q), .null, (.ref x), (.ref a), (.ref b), (.ref b)])) (fun _ k => XS.lloadN X3.here hx rfl (hb hby own_d11_46) rfl k) ?_
  refine Out.via (g' := (mkF m 49 #[.val (.ref a), .val (.ref x), .val .null, .val (.long q), .second, .val (.long (0 : Int64)), .second, .val (.long (((Int32.ofNat cs.length) + (0 : Int32)).toInt64)), .second] [(.long (0 : Int64)), (.long q), .null, (.ref x), (.ref a), (.ref b), (.ref b)])) (fun _ k => XS.lload X3.here hx rfl (hb hby own_d11_47) rfl k) ?_
  refine Out.via (g' := (mkF m 50 #[.val (.ref a), .val (.ref x), .val .null, .val (.long q), .second, .val (.long (0 : Int64)), .second, .val (.long (((Int32.ofNat cs.length) + (0 : Int32)).toInt64)), .second] [(.long (1 : Int64)), (.long (0 : Int64)), (.long q), .null, (.ref x), (.ref a), (.ref b), (.ref b)])) (fun _ k => XS.lconst X3.here hx rfl (hb hby own_d11_49) k) ?_
  refine Out.via (g' := (mkF m 51 #[.val (.ref a), .val (.ref x), .val .null, .val (.long q), .second, .val (.long (0 : Int64)), .second, .val (.long (((Int32.ofNat cs.length) + (0 : Int32)).toInt64)), .second] [(.long ((0 : Int64) + (1 : Int64))), (.long q), .null, (.ref x), (.ref a), (.ref b), (.ref b)])) (fun _ k => XS.ladd X3.here hx rfl (hb hby own_d11_50) rfl k) ?_
  refine Out.via (g' := (mkF m 53 #[.val (.ref a), .val (.ref x), .val .null, .val (.long q), .second, .val (.long (0 : Int64)), .second, .val (.long (((Int32.ofNat cs.length) + (0 : Int32)).toInt64)), .second] [(.long (((Int32.ofNat cs.length) + (0 : Int32)).toInt64)), (.long ((0 : Int64) + (1 : Int64))), (.long q), .null, (.ref x), (.ref a), (.ref b), (.ref b)])) (fun _ k => XS.lload X3.here hx rfl (hb hby own_d11_51) rfl k) ?_
  refine Out.via (g' := (mkF m 54 #[.val (.ref a), .val (.ref x), .val .null, .val (.long q), .second, .val (.long (0 : Int64)), .second, .val (.long (((Int32.ofNat cs.length) + (0 : Int32)).toInt64)), .second] [(.long (((0 : Int64) + (1 : Int64)) + (((Int32.ofNat cs.length) + (0 : Int32)).toInt64))), (.long q), .null, (.ref x), (.ref a), (.ref b), (.ref b)])) (fun _ k => XS.ladd X3.here hx rfl (hb hby own_d11_53) rfl k) ?_
  obtain ⟨_, _, ⟨T4, L4, kc4, ks4⟩, -, X4, ⟨Lc4, hQ4, l4, y4, z4⟩, st4⟩ := X3.specialBack hx (y := (⟨"com/example/faultwright/faultwright/Place", "<init>", "(Lcom/example/faultwright/faultwright/Place;Ljava/lang/String;Ljava/lang/String;JJ)V"⟩ : MethodName)) rfl hown (mvT hZ (hw _ (List.mem_of_getElem? (i := 32) rfl))) (mvT hZ (hw _ (List.mem_of_getElem? (i := 33) rfl))) (mvT hZ (hw _ (List.mem_of_getElem? (i := 34) rfl))) (by decide) (backOf (W := 1) (own_rm6 l Z a0 hw [] b (.ref a) (.ref x) .null q ((0 : Int64) + (1 : Int64) + (Int32.ofNat cs.length + (0 : Int32)).toInt64) h3 n0 O g_b A3 F_parent_b F_name_b F_label_b F_order_b F_pathLength_b rfl rfl rfl) hZ (hw _ (List.mem_of_getElem? (i := 34) rfl)) (hw _ (List.mem_of_getElem? (i := 28) rfl)) (by decide) (by decide)) (g := (mkF m 54 #[.val (.ref a), .val (.ref x), .val .null, .val (.long q), .second, .val (.long (0 : Int64)), .second, .val (.long (((Int32.ofNat cs.length) + (0 : Int32)).toInt64)), .second] [(.long (((0 : Int64) + (1 : Int64)) + (((Int32.ofNat cs.length) + (0 : Int32)).toInt64))), (.long q), .null, (.ref x), (.ref a), (.ref b), (.ref b)])) rfl (by rw [hml]; rfl) (Steps.refl _) (a := b) (argsL := [(.ref a), (.ref x), .null, (.long q), (.long (((0 : Int64) + (1 : Int64)) + (((Int32.ofNat cs.length) + (0 : Int32)).toInt64)))]) (rest := [(.ref b)]) (lenOf own_pd10 rfl) rfl (by show 2 * 0 + _ ≤ _; exact Nat.le_of_eq rfl) (hb hby own_d11_54) (fun _ _ => ⟨rfl, e3, (by decide : 1 + 0 ≤ _), (by decide : 5 + 0 ≤ _)⟩)
  dsimp only [Pt.U, Pt.locs, Pt.cells, Pt.slots] at X4 l4 y4 z4 st4 hQ4
  subst l4 y4 z4
  obtain ⟨rfl, Nq4, Kq4, Eb, Pb, Ob, Lb⟩ := hQ4
  replace N0 := Fr.app N0 Nq4
  replace F1 := F1.keep Kq4 (ninS ne_a_b nin0)
  replace E1 := E1.keep Kq4
  replace A3 := A3.keep Kq4
  replace O := O.keep Kq4 (allS g_b all0)
  replace Kp := Kp.trans Kq4 (allS (Or.inr sz_b) all0)
  refine Out.to (g' := (mkF m 57 #[.val (.ref a), .val (.ref x), .val .null, .val (.long q), .second, .val (.long (0 : Int64)), .second, .val (.long (((Int32.ofNat cs.length) + (0 : Int32)).toInt64)), .second] [(.ref b)])) st4 ?_
  exact Out.endN X4 (fun h => by rw [Bd.returns] at h; cases h) Bd.notSynchronized (by decide) (by decide) (⟨b, rfl, N0, Kp, sz_b, Eb, Pb, Ob, Lb⟩) (fun fs hr => own_retR X4 hx (t := (.object "com/example/faultwright/faultwright/Place")) Bd.returns rfl rfl rfl (hb hby own_d11_57) hr)
theorem own_d11_29 : decode prog_59_method_4_code 29 = .ok (.aload_n 2, 1) := by decide +kernel
theorem own_d11_30 : decode prog_59_method_4_code 30 = .ok (.invokevirtual 34, 3) := by decide +kernel
theorem own_d11_33 : decode prog_59_method_4_code 33 = .ok (.iconst 2, 1) := by decide +kernel
theorem own_d11_34 : decode prog_59_method_4_code 34 = .ok (.iadd, 1) := by decide +kernel
theorem own_ef9L (m : MethodId) (x0 : Addr) (x1 : Addr) (x2 : Addr) (x3 : Int64) : entryFrame m #[(.ref x0), (.ref x1), (.ref x2), (.long x3)] 9 = mkF m 0 #[.val (.ref x0), .val (.ref x1), .val (.ref x2), .val (.long x3), .second, .unset, .unset, .unset, .unset] [] := by first | (simp [entryFrame, mkF, argsToLocals, Value.category]; done) | rfl
abbrev own_Q9L (Z : State) (a x z : Addr) (cs ds : List Int32) (q : Int64) (G1 : Int32) (h0 : Heap) (n0 : Nat) : Option Value → Heap → List Loc → Prop := fun v h L => ∃ b : Addr, v = some (.ref b) ∧ Fr n0 L ∧ Keep h0 h [] ∧ h0.size ≤ b ∧ Exa Z h b "com/example/faultwright/faultwright/Place" ∧ Fld Z h b "com/example/faultwright/faultwright/Place" "parent" "Lcom/example/faultwright/faultwright/Place;" (.ref a) ∧ Fld Z h b "com/example/faultwright/faultwright/Place" "order" "J" (.long q) ∧ Fld Z h b "com/example/faultwright/faultwright/Place" "pathLength" "J" (.long ((0 : Int64) + (1 : Int64) + (Int32.ofNat cs.length + (Int32.ofNat ds.length + (2 : Int32))).toInt64))
set_option maxRecDepth 65536 in
set_option maxHeartbeats 40000000 in
theorem own_rm9L (l : Launch) (Z : State) (a0 : Array Value) (hw : ∀ d ∈ tables_1, d.before a0 Z = true) (ws : List Jvm.Cond) (a x z : Addr) (cs ds : List Int32) (q : Int64) (G1 : Int32) (h0 : Heap) (n0 : Nat) (O : Old Z n0 h0) (E1 : Exa Z h0 a "com/example/faultwright/faultwright/Place") (F1 : Fld Z h0 a "com/example/faultwright/faultwright/Place" "parent" "Lcom/example/faultwright/faultwright/Place;" .null) (Sn : own_Str Z h0 x cs) (ln : cs.length < 4) (O2 : Sta Z Z.heap "java/lang/String" "COMPACT_STRINGS" "Z" (.int G1)) (P5 : ¬ (G1 = (0 : Int32))) (Sl : own_Str Z h0 z ds) (ld : ds.length < 4) :
    MetFree l (⟨"com/example/faultwright/faultwright/Place", "child", "(Ljava/lang/String;Ljava/lang/String;J)Lcom/example/faultwright/faultwright/Place;"⟩ : MethodName) (head1 (Jvm.Cond.code (⟨"com/example/faultwright/faultwright/Place", "child", "(Ljava/lang/String;Ljava/lang/String;J)Lcom/example/faultwright/faultwright/Place;"⟩ : MethodName) prog_59_method_4_code 9 (some (.object "com/example/faultwright/faultwright/Place")) :: ws) ({ frames := 2, cells := 1, slots := 5, locals := 40 } : Room)) (fun aa U => aa = #[(.ref a), (.ref x), (.ref z), (.long q)] ∧ Z.Warmed39 U.vm ∧ U.heap = h0) (fun _ _ _ _ _ => True) (fun _ U o U' => ∃ v L, o = .returned v ∧ (own_Q9L Z a x z cs ds q G1 h0 n0) v U'.heap L ∧ FrameEnd U o U' L ({ frames := 2, cells := 1, slots := 5, locals := 40 } : Room).cells ({ frames := 2, cells := 1, slots := 5, locals := 40 } : Room).slots) := by
  refine MetFree.of_bodySF (plainFor_of_name own_pn9) hisR ?_
  intro p e s m args below meth c s₁ Bd hml0 hP hK
  obtain ⟨rfl, hZ, hh⟩ := hP
  have hx := Bd.exec
  have hby := Bd.bytes
  have hml : c.maxLocals = 9 := hml0
  have hown : s.vm.findClass "com/example/faultwright/faultwright/Place" = some m.cls := findClass_of_methodNamed Bd.named
  have hnm := (name_of_methodNamed Bd.named Bd.method).1
  have X0 : Stand p l e ({ frames := 2, cells := 1, slots := 5, locals := 40 } : Room) s m #[(.ref a), (.ref x), (.ref z), (.long q)] below meth c s₁ [] 0 0 := Stand.of_body Bd
  have e0 : s₁.heap = h0 := by rw [← hh, Bd.state]; rfl
  have N0 := Fr.nil n0
  refine Out.start (Q := own_Q9L Z a x z cs ds q G1 h0 n0) (own_ef9L m a x z q ) ?_
  have Kp := Keep.refl h0 []
  refine Out.via (g' := (mkF m 1 #[.val (.ref a), .val (.ref x), .val (.ref z), .val (.long q), .second, .unset, .unset, .unset, .unset] [(.ref a)])) (fun _ k => XS.aloadN X0.here hx rfl (hb hby own_d11_0) rfl rfl k) ?_
  obtain ⟨T1, X1, e1, st1⟩ := getF X0 hx hZ hown (host := "") (Or.inl (hw _ (List.mem_of_getElem? (i := 36) rfl))) Via.refl e0 F1 (g := (mkF m 1 #[.val (.ref a), .val (.ref x), .val (.ref z), .val (.long q), .second, .unset, .unset, .unset, .unset] [(.ref a)])) rfl rfl (hb hby own_d11_1)
  refine Out.via (g' := (mkF m 4 #[.val (.ref a), .val (.ref x), .val (.ref z), .val (.long q), .second, .unset, .unset, .unset, .unset] [.null])) st1 ?_
  refine Out.via (g' := (mkF m 7 #[.val (.ref a), .val (.ref x), .val (.ref z), .val (.long q), .second, .unset, .unset, .unset, .unset] [])) (fun _ k => XS.ifnonnullNo X1.here hx rfl (hb hby own_d11_4) rfl k) ?_
  refine Out.via (g' := (mkF m 8 #[.val (.ref a), .val (.ref x), .val (.ref z), .val (.long q), .second, .unset, .unset, .unset, .unset] [(.long (0 : Int64))])) (fun _ k => XS.lconst X1.here hx rfl (hb hby own_d11_7) k) ?_
  refine Out.via (g' := (mkF m 15 #[.val (.ref a), .val (.ref x), .val (.ref z), .val (.long q), .second, .unset, .unset, .unset, .unset] [(.long (0 : Int64))])) (fun _ k => XS.goto X1.here hx rfl (pc0 := 8) (pc' := 15) rfl (hb hby own_d11_8) (by decide) (by decide) k) ?_
  refine Out.via (g' := (mkF m 17 #[.val (.ref a), .val (.ref x), .val (.ref z), .val (.long q), .second, .val (.long (0 : Int64)), .second, .unset, .unset] [])) (fun _ k => XS.lstore X1.here hx rfl (hb hby own_d11_15) rfl (l' := #[.val (.ref a), .val (.ref x), .val (.ref z), .val (.long q), .second, .val (.long (0 : Int64)), .second, .unset, .unset]) rfl k) ?_
  refine Out.via (g' := (mkF m 18 #[.val (.ref a), .val (.ref x), .val (.ref z), .val (.long q), .second, .val (.long (0 : Int64)), .second, .unset, .unset] [(.ref x)])) (fun _ k => XS.aloadN X1.here hx rfl (hb hby own_d11_17) rfl rfl k) ?_
  obtain ⟨cq2, kq2, q2a, q2b, q2c⟩ := isOf hZ e1 Sn.2.1
  obtain ⟨_, _, ⟨T2, L2, kc2, ks2⟩, -, X2, ⟨Lc2, hQ2, l2, y2, z2⟩, st2⟩ := X1.virtualBack hx (y := (⟨"java/lang/String", "length", "()I"⟩ : MethodName)) (z := (⟨"java/lang/String", "length", "()I"⟩ : MethodName)) hown (mvT hZ (hw _ (List.mem_of_getElem? (i := 61) rfl))) (mvT hZ (hw _ (List.mem_of_getElem? (i := 62) rfl))) (notFace_of_selects (args := #[]) (mvT hZ (hw _ (List.mem_of_getElem? (i := 64) rfl)))) (mvT hZ (hw _ (List.mem_of_getElem? (i := 64) rfl))) (mvT hZ (hw _ (List.mem_of_getElem? (i := 63) rfl))) (by decide) (own_lenB (W := 0) hZ hw (kI := 4) (hw _ (List.mem_of_getElem? (i := 5) rfl)) Sn (O2.ext O.2) P5 (by omega) (by decide) (by decide)) q2a q2c (g := (mkF m 18 #[.val (.ref a), .val (.ref x), .val (.ref z), .val (.long q), .second, .val (.long (0 : Int64)), .second, .unset, .unset] [(.ref x)])) rfl (by rw [hml]; rfl) (Steps.refl _) (argsL := []) (rest := []) (lenOf own_pd11 rfl) rfl (by show 2 * 0 + _ ≤ _; exact Nat.le_of_eq rfl) (hb hby own_d11_18) (fun _ _ => ⟨rfl, e1, (by decide : 0 + 0 ≤ _), (by decide : 0 + 0 ≤ _)⟩)
  dsimp only [Pt.U, Pt.locs, Pt.cells, Pt.slots] at X2 l2 y2 z2 st2 hQ2
  subst l2 y2 z2
  obtain ⟨rfl, rfl, eq2⟩ := hQ2
  replace N0 := Fr.app N0 (Fr.nil n0)
  refine Out.to (g' := (mkF m 21 #[.val (.ref a), .val (.ref x), .val (.ref z), .val (.long q), .second, .val (.long (0 : Int64)), .second, .unset, .unset] [(.int (Int32.ofNat cs.length))])) st2 ?_
  refine Out.via (g' := (mkF m 22 #[.val (.ref a), .val (.ref x), .val (.ref z), .val (.long q), .second, .val (.long (0 : Int64)), .second, .unset, .unset] [(.ref z), (.int (Int32.ofNat cs.length))])) (fun _ k => XS.aloadN X2.here hx rfl (hb hby own_d11_21) rfl rfl k) ?_
  refine Out.via (g' := (mkF m 29 #[.val (.ref a), .val (.ref x), .val (.ref z), .val (.long q), .second, .val (.long (0 : Int64)), .second, .unset, .unset] [(.int (Int32.ofNat cs.length))])) (fun _ k => XS.ifnonnullYes X2.here hx rfl (pc0 := 22) (pc' := 29) rfl (hb hby own_d11_22) rfl (by decide) (by decide) k) ?_
  refine Out.via (g' := (mkF m 30 #[.val (.ref a), .val (.ref x), .val (.ref z), .val (.long q), .second, .val (.long (0 : Int64)), .second, .unset, .unset] [(.ref z), (.int (Int32.ofNat cs.length))])) (fun _ k => XS.aloadN X2.here hx rfl (hb hby own_d11_29) rfl rfl k) ?_
  obtain ⟨cq3, kq3, q3a, q3b, q3c⟩ := isOf hZ eq2 Sl.2.1
  obtain ⟨_, _, ⟨T3, L3, kc3, ks3⟩, -, X3, ⟨Lc3, hQ3, l3, y3, z3⟩, st3⟩ := X2.virtualBack hx (y := (⟨"java/lang/String", "length", "()I"⟩ : MethodName)) (z := (⟨"java/lang/String", "length", "()I"⟩ : MethodName)) hown (mvT hZ (hw _ (List.mem_of_getElem? (i := 61) rfl))) (mvT hZ (hw _ (List.mem_of_getElem? (i := 62) rfl))) (notFace_of_selects (args := #[]) (mvT hZ (hw _ (List.mem_of_getElem? (i := 64) rfl)))) (mvT hZ (hw _ (List.mem_of_getElem? (i := 64) rfl))) (mvT hZ (hw _ (List.mem_of_getElem? (i := 63) rfl))) (by decide) (own_lenB (W := 1) hZ hw (kI := 4) (hw _ (List.mem_of_getElem? (i := 5) rfl)) Sl (O2.ext O.2) P5 (by omega) (by decide) (by decide)) q3a q3c (g := (mkF m 30 #[.val (.ref a), .val (.ref x), .val (.ref z), .val (.long q), .second, .val (.long (0 : Int64)), .second, .unset, .unset] [(.ref z), (.int (Int32.ofNat cs.length))])) rfl (by rw [hml]; rfl) (Steps.refl _) (argsL := []) (rest := [(.int (Int32.ofNat cs.length))]) (lenOf own_pd11 rfl) rfl (by show 2 * 0 + _ ≤ _; exact Nat.le_of_eq rfl) (hb hby own_d11_30) (fun _ _ => ⟨rfl, eq2, (by decide : 0 + 0 ≤ _), (by decide : 0 + 0 ≤ _)⟩)
  dsimp only [Pt.U, Pt.locs, Pt.cells, Pt.slots] at X3 l3 y3 z3 st3 hQ3
  subst l3 y3 z3
  obtain ⟨rfl, rfl, eq3⟩ := hQ3
  replace N0 := Fr.app N0 (Fr.nil n0)
  refine Out.to (g' := (mkF m 33 #[.val (.ref a), .val (.ref x), .val (.ref z), .val (.long q), .second, .val (.long (0 : Int64)), .second, .unset, .unset] [(.int (Int32.ofNat ds.length)), (.int (Int32.ofNat cs.length))])) st3 ?_
  refine Out.via (g' := (mkF m 34 #[.val (.ref a), .val (.ref x), .val (.ref z), .val (.long q), .second, .val (.long (0 : Int64)), .second, .unset, .unset] [(.int (2 : Int32)), (.int (Int32.ofNat ds.length)), (.int (Int32.ofNat cs.length))])) (fun _ k => XS.iconst X3.here hx rfl (hb hby own_d11_33) k) ?_
  refine Out.via (g' := (mkF m 35 #[.val (.ref a), .val (.ref x), .val (.ref z), .val (.long q), .second, .val (.long (0 : Int64)), .second, .unset, .unset] [(.int ((Int32.ofNat ds.length) + (2 : Int32))), (.int (Int32.ofNat cs.length))])) (fun _ k => XS.iadd X3.here hx rfl (hb hby own_d11_34) rfl k) ?_
  refine Out.via (g' := (mkF m 36 #[.val (.ref a), .val (.ref x), .val (.ref z), .val (.long q), .second, .val (.long (0 : Int64)), .second, .unset, .unset] [(.int ((Int32.ofNat cs.length) + ((Int32.ofNat ds.length) + (2 : Int32))))])) (fun _ k => XS.iadd X3.here hx rfl (hb hby own_d11_35) rfl k) ?_
  refine Out.via (g' := (mkF m 37 #[.val (.ref a), .val (.ref x), .val (.ref z), .val (.long q), .second, .val (.long (0 : Int64)), .second, .unset, .unset] [(.long (((Int32.ofNat cs.length) + ((Int32.ofNat ds.length) + (2 : Int32))).toInt64))])) (fun _ k => XS.i2l X3.here hx rfl (hb hby own_d11_36) rfl k) ?_
  refine Out.via (g' := (mkF m 39 #[.val (.ref a), .val (.ref x), .val (.ref z), .val (.long q), .second, .val (.long (0 : Int64)), .second, .val (.long (((Int32.ofNat cs.length) + ((Int32.ofNat ds.length) + (2 : Int32))).toInt64)), .second] [])) (fun _ k => XS.lstore X3.here hx rfl (hb hby own_d11_37) rfl (l' := #[.val (.ref a), .val (.ref x), .val (.ref z), .val (.long q), .second, .val (.long (0 : Int64)), .second, .val (.long (((Int32.ofNat cs.length) + ((Int32.ofNat ds.length) + (2 : Int32))).toInt64)), .second]) rfl k) ?_
  obtain ⟨T4, h4, X4, e4, E4, A4, D4, -, st4⟩ := newO X3 hx hZ hown (hw _ (List.mem_of_getElem? (i := 30) rfl)) (hw _ (List.mem_of_getElem? (i := 31) rfl)) (hw _ (List.mem_of_getElem? (i := 28) rfl)) eq3 (g := (mkF m 39 #[.val (.ref a), .val (.ref x), .val (.ref z), .val (.long q), .second, .val (.long (0 : Int64)), .second, .val (.long (((Int32.ofNat cs.length) + ((Int32.ofNat ds.length) + (2 : Int32))).toInt64)), .second] [])) rfl (hb hby own_d11_39) (by decide) (by decide)
  obtain ⟨b, gq4⟩ : ∃ z, z = h0.size := ⟨_, rfl⟩
  rw [← gq4] at A4 D4 st4
  have ne_a_b : a ≠ b := Nat.ne_of_lt (Nat.lt_of_lt_of_le E1.lt (Nat.le_of_eq gq4.symm))
  have g_b : n0 ≤ b := Nat.le_trans (own_z0 O) (Nat.le_of_eq gq4.symm)
  have sz_b : h0.size ≤ b := Nat.le_trans Kp.1 (Nat.le_of_eq gq4.symm)
  replace F1 := F1.ext E4
  replace E1 := E1.ext E4
  replace O := O.ext E4
  replace Kp := Kp.ext E4
  have F_parent_b : Fld Z h4 b "com/example/faultwright/faultwright/Place" "parent" "Lcom/example/faultwright/faultwright/Place;" .null := D4 (Or.inr (hw _ (List.mem_of_getElem? (i := 37) rfl))) (ty := (.object "com/example/faultwright/faultwright/Place")) (by decide)
  have F_name_b : Fld Z h4 b "com/example/faultwright/faultwright/Place" "name" "Ljava/lang/String;" .null := D4 (Or.inr (hw _ (List.mem_of_getElem? (i := 39) rfl))) (ty := (.object "java/lang/String")) (by decide)
  have F_label_b : Fld Z h4 b "com/example/faultwright/faultwright/Place" "label" "Ljava/lang/String;" .null := D4 (Or.inr (hw _ (List.mem_of_getElem? (i := 41) rfl))) (ty := (.object "java/lang/String")) (by decide)
  have F_order_b : Fld Z h4 b "com/example/faultwright/faultwright/Place" "order" "J" (.long (0 : Int64)) := D4 (Or.inr (hw _ (List.mem_of_getElem? (i := 43) rfl))) (ty := .long) (by decide)
  have F_pathLength_b : Fld Z h4 b "com/example/faultwright/faultwright/Place" "pathLength" "J" (.long (0 : Int64)) := D4 (Or.inr (hw _ (List.mem_of_getElem? (i := 45) rfl))) (ty := .long) (by decide)
  refine Out.via (g' := (mkF m 42 #[.val (.ref a), .val (.ref x), .val (.ref z), .val (.long q), .second, .val (.long (0 : Int64)), .second, .val (.long (((Int32.ofNat cs.length) + ((Int32.ofNat ds.length) + (2 : Int32))).toInt64)), .second] [(.ref b)])) st4 ?_
  refine Out.via (g' := (mkF m 43 #[.val (.ref a), .val (.ref x), .val (.ref z), .val (.long q), .second, .val (.long (0 : Int64)), .second, .val (.long (((Int32.ofNat cs.length) + ((Int32.ofNat ds.length) + (2 : Int32))).toInt64)), .second] [(.ref b), (.ref b)])) (fun _ k => XS.dup X4.here hx rfl (hb hby own_d11_42) rfl rfl k) ?_
  refine Out.via (g' := (mkF m 44 #[.val (.ref a), .val (.ref x), .val (.ref z), .val (.long q), .second, .val (.long (0 : Int64)), .second, .val (.long (((Int32.ofNat cs.length) + ((Int32.ofNat ds.length) + (2 : Int32))).toInt64)), .second] [(.ref a), (.ref b), (.ref b)])) (fun _ k => XS.aloadN X4.here hx rfl (hb hby own_d11_43) rfl rfl k) ?_
  refine Out.via (g' := (mkF m 45 #[.val (.ref a), .val (.ref x), .val (.ref z), .val (.long q), .second, .val (.long (0 : Int64)), .second, .val (.long (((Int32.ofNat cs.length) + ((Int32.ofNat ds.length) + (2 : Int32))).toInt64)), .second] [(.ref x), (.ref a), (.ref b), (.ref b)])) (fun _ k => XS.aloadN X4.here hx rfl (hb hby own_d11_44) rfl rfl k) ?_
  refine Out.via (g' := (mkF m 46 #[.val (.ref a), .val (.ref x), .val (.ref z), .val (.long q), .second, .val (.long (0 : Int64)), .second, .val (.long (((Int32.ofNat cs.length) + ((Int32.ofNat ds.length) + (2 : Int32))).toInt64)), .second] [(.ref z), (.ref x), (.ref a), (.ref b), (.ref b)])) (fun _ k => XS.aloadN X4.here hx rfl (hb hby own_d11_45) rfl rfl k) ?_
  refine Out.via (g' := (mkF m 47 #[.val (.ref a), .val (.ref x), .val (.ref z), .val (.long q), .second, .val (.long (0 : Int64)), .second, .val (.long (((Int32.ofNat cs.length) + ((Int32.ofNat ds.length) + (2 : Int32))).toInt64)), .second] [(.long q), (.ref z), (.ref x), (.ref a), (.ref b), (.ref b)])) (fun _ k => XS.lloadN X4.here hx rfl (hb hby own_d11_46) rfl k) ?_
  refine Out.via (g' := (mkF m 49 #[.val (.ref a), .val (.ref x), .val (.ref z), .val (.long q), .second, .val (.long (0 : Int64)), .second, .val (.long (((Int32.ofNat cs.length) + ((Int32.ofNat ds.length) + (2 : Int32))).toInt64)), .second] [(.long (0 : Int64)), (.long q), (.ref z), (.ref x), (.ref a), (.ref b), (.ref b)])) (fun _ k => XS.lload X4.here hx rfl (hb hby own_d11_47) rfl k) ?_
  refine Out.via (g' := (mkF m 50 #[.val (.ref a), .val (.ref x), .val (.ref z), .val (.long q), .second, .val (.long (0 : Int64)), .second, .val (.long (((Int32.ofNat cs.length) + ((Int32.ofNat ds.length) + (2 : Int32))).toInt64)), .second] [(.long (1 : Int64)), (.long (0 : Int64)), (.long q), (.ref z), (.ref x), (.ref a), (.ref b), (.ref b)])) (fun _ k => XS.lconst X4.here hx rfl (hb hby own_d11_49) k) ?_
  refine Out.via (g' := (mkF m 51 #[.val (.ref a), .val (.ref x), .val (.ref z), .val (.long q), .second, .val (.long (0 : Int64)), .second, .val (.long (((Int32.ofNat cs.length) + ((Int32.ofNat ds.length) + (2 : Int32))).toInt64)), .second] [(.long ((0 : Int64) + (1 : Int64))), (.long q), (.ref z), (.ref x), (.ref a), (.ref b), (.ref b)])) (fun _ k => XS.ladd X4.here hx rfl (hb hby own_d11_50) rfl k) ?_
  refine Out.via (g' := (mkF m 53 #[.val (.ref a), .val (.ref x), .val (.ref z), .val (.long q), .second, .val (.long (0 : Int64)), .second, .val (.long (((Int32.ofNat cs.length) + ((Int32.ofNat ds.length) + (2 : Int32))).toInt64)), .second] [(.long (((Int32.ofNat cs.length) + ((Int32.ofNat ds.length) + (2 : Int32))).toInt64)), (.long ((0 : Int64) + (1 : Int64))), (.long q), (.ref z), (.ref x), (.ref a), (.ref b), (.ref b)])) (fun _ k => XS.lload X4.here hx rfl (hb hby own_d11_51) rfl k) ?_
  refine Out.via (g' := (mkF m 54 #[.val (.ref a), .val (.ref x), .val (.ref z), .val (.long q), .second, .val (.long (0 : Int64)), .second, .val (.long (((Int32.ofNat cs.length) + ((Int32.ofNat ds.length) + (2 : Int32))).toInt64)), .second] [(.long (((0 : Int64) + (1 : Int64)) + (((Int32.ofNat cs.length) + ((Int32.ofNat ds.length) + (2 : Int32))).toInt64))), (.long q), (.ref z), (.ref x), (.ref a), (.ref b), (.ref b)])) (fun _ k => XS.ladd X4.here hx rfl (hb hby own_d11_53) rfl k) ?_
  obtain ⟨_, _, ⟨T5, L5, kc5, ks5⟩, -, X5, ⟨Lc5, hQ5, l5, y5, z5⟩, st5⟩ := X4.specialBack hx (y := (⟨"com/example/faultwright/faultwright/Place", "<init>", "(Lcom/example/faultwright/faultwright/Place;Ljava/lang/String;Ljava/lang/String;JJ)V"⟩ : MethodName)) rfl hown (mvT hZ (hw _ (List.mem_of_getElem? (i := 32) rfl))) (mvT hZ (hw _ (List.mem_of_getElem? (i := 33) rfl))) (mvT hZ (hw _ (List.mem_of_getElem? (i := 34) rfl))) (by decide) (backOf (W := 1) (own_rm6 l Z a0 hw [] b (.ref a) (.ref x) (.ref z) q ((0 : Int64) + (1 : Int64) + (Int32.ofNat cs.length + (Int32.ofNat ds.length + (2 : Int32))).toInt64) h4 n0 O g_b A4 F_parent_b F_name_b F_label_b F_order_b F_pathLength_b rfl rfl rfl) hZ (hw _ (List.mem_of_getElem? (i := 34) rfl)) (hw _ (List.mem_of_getElem? (i := 28) rfl)) (by decide) (by decide)) (g := (mkF m 54 #[.val (.ref a), .val (.ref x), .val (.ref z), .val (.long q), .second, .val (.long (0 : Int64)), .second, .val (.long (((Int32.ofNat cs.length) + ((Int32.ofNat ds.length) + (2 : Int32))).toInt64)), .second] [(.long (((0 : Int64) + (1 : Int64)) + (((Int32.ofNat cs.length) + ((Int32.ofNat ds.length) + (2 : Int32))).toInt64))), (.long q), (.ref z), (.ref x), (.ref a), (.ref b), (.ref b)])) rfl (by rw [hml]; rfl) (Steps.refl _) (a := b) (argsL := [(.ref a), (.ref x), (.ref z), (.long q), (.long (((0 : Int64) + (1 : Int64)) + (((Int32.ofNat cs.length) + ((Int32.ofNat ds.length) + (2 : Int32))).toInt64)))]) (rest := [(.ref b)]) (lenOf own_pd10 rfl) rfl (by show 2 * 0 + _ ≤ _; exact Nat.le_of_eq rfl) (hb hby own_d11_54) (fun _ _ => ⟨rfl, e4, (by decide : 1 + 0 ≤ _), (by decide : 5 + 0 ≤ _)⟩)
  dsimp only [Pt.U, Pt.locs, Pt.cells, Pt.slots] at X5 l5 y5 z5 st5 hQ5
  subst l5 y5 z5
  obtain ⟨rfl, Nq5, Kq5, Eb, Pb, Ob, Lb⟩ := hQ5
  replace N0 := Fr.app N0 Nq5
  replace F1 := F1.keep Kq5 (ninS ne_a_b nin0)
  replace E1 := E1.keep Kq5
  replace A4 := A4.keep Kq5
  replace O := O.keep Kq5 (allS g_b all0)
  replace Kp := Kp.trans Kq5 (allS (Or.inr sz_b) all0)
  refine Out.to (g' := (mkF m 57 #[.val (.ref a), .val (.ref x), .val (.ref z), .val (.long q), .second, .val (.long (0 : Int64)), .second, .val (.long (((Int32.ofNat cs.length) + ((Int32.ofNat ds.length) + (2 : Int32))).toInt64)), .second] [(.ref b)])) st5 ?_
  exact Out.endN X5 (fun h => by rw [Bd.returns] at h; cases h) Bd.notSynchronized (by decide) (by decide) (⟨b, rfl, N0, Kp, sz_b, Eb, Pb, Ob, Lb⟩) (fun fs hr => own_retR X5 hx (t := (.object "com/example/faultwright/faultwright/Place")) Bd.returns rfl rfl rfl (hb hby own_d11_57) hr)
theorem own_d12_0 : decode prog_59_method_3_code 0 = .ok (.aload_n 0, 1) := by decide +kernel
theorem own_d12_1 : decode prog_59_method_3_code 1 = .ok (.aload_n 1, 1) := by decide +kernel
theorem own_d12_2 : decode prog_59_method_3_code 2 = .ok (.aconst_null, 1) := by decide +kernel
theorem own_d12_3 : decode prog_59_method_3_code 3 = .ok (.lload_n 2, 1) := by decide +kernel
theorem own_d12_4 : decode prog_59_method_3_code 4 = .ok (.invokevirtual 30, 3) := by decide +kernel
theorem own_pd12 : parseMethodDescriptor "(Ljava/lang/String;Ljava/lang/String;J)Lcom/example/faultwright/faultwright/Place;" = some ⟨[(.object "java/lang/String"), (.object "java/lang/String"), .long], some (.object "com/example/faultwright/faultwright/Place")⟩ := by decide +kernel
theorem own_d12_7 : decode prog_59_method_3_code 7 = .ok (.areturn, 1) := by decide +kernel
theorem own_ef12 (m : MethodId) (x0 : Addr) (x1 : Addr) (x2 : Int64) : entryFrame m #[(.ref x0), (.ref x1), (.long x2)] 4 = mkF m 0 #[.val (.ref x0), .val (.ref x1), .val (.long x2), .second] [] := by first | (simp [entryFrame, mkF, argsToLocals, Value.category]; done) | rfl
abbrev own_Q12 (Z : State) (a x : Addr) (cs : List Int32) (q : Int64) (G1 : Int32) (h0 : Heap) (n0 : Nat) : Option Value → Heap → List Loc → Prop := fun v h L => ∃ b : Addr, v = some (.ref b) ∧ Fr n0 L ∧ Keep h0 h [] ∧ h0.size ≤ b ∧ Exa Z h b "com/example/faultwright/faultwright/Place" ∧ Fld Z h b "com/example/faultwright/faultwright/Place" "parent" "Lcom/example/faultwright/faultwright/Place;" (.ref a) ∧ Fld Z h b "com/example/faultwright/faultwright/Place" "order" "J" (.long q) ∧ Fld Z h b "com/example/faultwright/faultwright/Place" "pathLength" "J" (.long ((0 : Int64) + (1 : Int64) + (Int32.ofNat cs.length + (0 : Int32)).toInt64))
set_option maxRecDepth 65536 in
set_option maxHeartbeats 40000000 in
theorem own_rm12 (l : Launch) (Z : State) (a0 : Array Value) (hw : ∀ d ∈ tables_1, d.before a0 Z = true) (ws : List Jvm.Cond) (a x : Addr) (cs : List Int32) (q : Int64) (G1 : Int32) (h0 : Heap) (n0 : Nat) (O : Old Z n0 h0) (E1 : Exa Z h0 a "com/example/faultwright/faultwright/Place") (F1 : Fld Z h0 a "com/example/faultwright/faultwright/Place" "parent" "Lcom/example/faultwright/faultwright/Place;" .null) (Sn : own_Str Z h0 x cs) (ln : cs.length < 4) (O2 : Sta Z Z.heap "java/lang/String" "COMPACT_STRINGS" "Z" (.int G1)) (P5 : ¬ (G1 = (0 : Int32))) :
    MetFree l (⟨"com/example/faultwright/faultwright/Place", "child", "(Ljava/lang/String;J)Lcom/example/faultwright/faultwright/Place;"⟩ : MethodName) (head1 (Jvm.Cond.code (⟨"com/example/faultwright/faultwright/Place", "child", "(Ljava/lang/String;J)Lcom/example/faultwright/faultwright/Place;"⟩ : MethodName) prog_59_method_3_code 4 (some (.object "com/example/faultwright/faultwright/Place")) :: ws) ({ frames := 3, cells := 1, slots := 5, locals := 60 } : Room)) (fun aa U => aa = #[(.ref a), (.ref x), (.long q)] ∧ Z.Warmed39 U.vm ∧ U.heap = h0) (fun _ _ _ _ _ => True) (fun _ U o U' => ∃ v L, o = .returned v ∧ (own_Q12 Z a x cs q G1 h0 n0) v U'.heap L ∧ FrameEnd U o U' L ({ frames := 3, cells := 1, slots := 5, locals := 60 } : Room).cells ({ frames := 3, cells := 1, slots := 5, locals := 60 } : Room).slots) := by
  refine MetFree.of_bodySF (plainFor_of_name own_pn9) hisR ?_
  intro p e s m args below meth c s₁ Bd hml0 hP hK
  obtain ⟨rfl, hZ, hh⟩ := hP
  have hx := Bd.exec
  have hby := Bd.bytes
  have hml : c.maxLocals = 4 := hml0
  have hown : s.vm.findClass "com/example/faultwright/faultwright/Place" = some m.cls := findClass_of_methodNamed Bd.named
  have hnm := (name_of_methodNamed Bd.named Bd.method).1
  have X0 : Stand p l e ({ frames := 3, cells := 1, slots := 5, locals := 60 } : Room) s m #[(.ref a), (.ref x), (.long q)] below meth c s₁ [] 0 0 := Stand.of_body Bd
  have e0 : s₁.heap = h0 := by rw [← hh, Bd.state]; rfl
  have N0 := Fr.nil n0
  refine Out.start (Q := own_Q12 Z a x cs q G1 h0 n0) (own_ef12 m a x q ) ?_
  refine Out.via (g' := (mkF m 1 #[.val (.ref a), .val (.ref x), .val (.long q), .second] [(.ref a)])) (fun _ k => XS.aloadN X0.here hx rfl (hb hby own_d12_0) rfl rfl k) ?_
  refine Out.via (g' := (mkF m 2 #[.val (.ref a), .val (.ref x), .val (.long q), .second] [(.ref x), (.ref a)])) (fun _ k => XS.aloadN X0.here hx rfl (hb hby own_d12_1) rfl rfl k) ?_
  refine Out.via (g' := (mkF m 3 #[.val (.ref a), .val (.ref x), .val (.long q), .second] [.null, (.ref x), (.ref a)])) (fun _ k => XS.aconstNull X0.here hx rfl (hb hby own_d12_2) k) ?_
  refine Out.via (g' := (mkF m 4 #[.val (.ref a), .val (.ref x), .val (.long q), .second] [(.long q), .null, (.ref x), (.ref a)])) (fun _ k => XS.lloadN X0.here hx rfl (hb hby own_d12_3) rfl k) ?_
  obtain ⟨cq1, kq1, q1a, q1b, q1c⟩ := isOf hZ e0 E1
  obtain ⟨_, _, ⟨T1, L1, kc1, ks1⟩, -, X1, ⟨Lc1, hQ1, l1, y1, z1⟩, st1⟩ := X0.virtualBack hx (y := (⟨"com/example/faultwright/faultwright/Place", "child", "(Ljava/lang/String;Ljava/lang/String;J)Lcom/example/faultwright/faultwright/Place;"⟩ : MethodName)) (z := (⟨"com/example/faultwright/faultwright/Place", "child", "(Ljava/lang/String;Ljava/lang/String;J)Lcom/example/faultwright/faultwright/Place;"⟩ : MethodName)) hown (mvT hZ (hw _ (List.mem_of_getElem? (i := 77) rfl))) (mvT hZ (hw _ (List.mem_of_getElem? (i := 57) rfl))) (notFace_of_selects (args := #[]) (mvT hZ (hw _ (List.mem_of_getElem? (i := 59) rfl)))) (mvT hZ (hw _ (List.mem_of_getElem? (i := 59) rfl))) (mvT hZ (hw _ (List.mem_of_getElem? (i := 58) rfl))) (by decide) (backOf (W := 0) (own_rm9 l Z a0 hw [] a x cs q G1 h0 n0 O E1 F1 Sn ln O2 P5) hZ (hw _ (List.mem_of_getElem? (i := 60) rfl)) (hw _ (List.mem_of_getElem? (i := 28) rfl)) (by decide) (by decide)) q1a q1c (g := (mkF m 4 #[.val (.ref a), .val (.ref x), .val (.long q), .second] [(.long q), .null, (.ref x), (.ref a)])) rfl (by rw [hml]; rfl) (Steps.refl _) (argsL := [(.ref x), .null, (.long q)]) (rest := []) (lenOf own_pd12 rfl) rfl (by show 2 * 0 + _ ≤ _; exact Nat.le_of_eq rfl) (hb hby own_d12_4) (fun _ _ => ⟨rfl, e0, (by decide : 0 + 1 ≤ _), (by decide : 0 + 5 ≤ _)⟩)
  dsimp only [Pt.U, Pt.locs, Pt.cells, Pt.slots] at X1 l1 y1 z1 st1 hQ1
  subst l1 y1 z1
  obtain ⟨b, rfl, Nq, Kq, le_b, Q1⟩ := hQ1
  refine Out.to (g' := (mkF m 7 #[.val (.ref a), .val (.ref x), .val (.long q), .second] [(.ref b)])) st1 ?_
  exact Out.endN X1 (fun h => by rw [Bd.returns] at h; cases h) Bd.notSynchronized (by decide) (by decide) (⟨b, rfl, Fr.app N0 Nq, Kq, le_b, Q1⟩) (fun fs hr => own_retR X1 hx (t := (.object "com/example/faultwright/faultwright/Place")) Bd.returns rfl rfl rfl (hb hby own_d12_7) hr)
theorem own_and3 (x : Int32) : ∃ k : Nat, k < 4 ∧ x &&& (3 : Int32) = Int32.ofNat k := by
  have h : (x &&& 3).toBitVec.toNat < 4 := by
    simp only [Int32.toBitVec_and, BitVec.toNat_and]
    exact Nat.lt_succ_of_le Nat.and_le_right
  refine ⟨(x &&& 3).toBitVec.toNat, h, ?_⟩
  apply Int32.toBitVec_inj.mp
  show _ = BitVec.ofNat 32 _
  rw [BitVec.ofNat_toNat]; simp
theorem own_v0 : ∀ k : Fin 4, (0 : Int64) + (1 : Int64) + (Int32.ofNat k.val + (0 : Int32)).toInt64 = (1 : Int64) + (Int32.ofNat k.val).toInt64 + (0 : Int64) := by decide +kernel
theorem own_v1 : ∀ k : Fin 4, (0 : Int64) + (1 : Int64) + (Int32.ofNat k.val + (0 : Int32)).toInt64 = (1 : Int64) + (Int32.ofNat k.val).toInt64 := by decide +kernel
theorem own_v2 : ∀ k j : Fin 4, (0 : Int64) + (1 : Int64) + (Int32.ofNat k.val + (Int32.ofNat j.val + (2 : Int32))).toInt64 = (1 : Int64) + (Int32.ofNat k.val).toInt64 + (Int32.ofNat j.val + (2 : Int32)).toInt64 := by decide +kernel
theorem own_l0 {x y : Int64} (h : x = y) : lcmpW x y = (0 : Int32) := (lw_eq x y).mpr h
theorem own_pd13 : parseMethodDescriptor "(II)Ljava/lang/String;" = some ⟨[.int, .int], some (.object "java/lang/String")⟩ := by decide +kernel
theorem own_pd14 : parseMethodDescriptor "()Lcom/example/faultwright/faultwright/Place;" = some ⟨[], some (.object "com/example/faultwright/faultwright/Place")⟩ := by decide +kernel
theorem own_pd15 : parseMethodDescriptor "()J" = some ⟨[], some .long⟩ := by decide +kernel
theorem own_pd16 : parseMethodDescriptor "(Ljava/lang/String;J)Lcom/example/faultwright/faultwright/Place;" = some ⟨[(.object "java/lang/String"), .long], some (.object "com/example/faultwright/faultwright/Place")⟩ := by decide +kernel
theorem own_ef0 (m : MethodId) (x0 : Int32) (x1 : Int32) (x2 : Int32) (x3 : Int64) : entryFrame m #[(.int x0), (.int x1), (.int x2), (.long x3)] maxLocals = mkF m 0 #[.val (.int x0), .val (.int x1), .val (.int x2), .val (.long x3), .second, .unset, .unset, .unset, .unset, .unset, .unset, .unset, .unset, .unset, .unset] [] := by first | (simp [entryFrame, mkF, argsToLocals, Value.category, maxLocals]; done) | rfl
set_option maxRecDepth 65536 in
set_option maxHeartbeats 40000000 in
theorem own_rm0 (l : Launch) (Z : State) (a0 : Array Value) (hw : ∀ d ∈ tables_1, d.before a0 Z = true) (ws : List Jvm.Cond) (p0 p1 p2 : Int32) (p3 : Int64) (G1 : Int32) (h0 : Heap) (n0 : Nat) (O : Old Z n0 h0) (O2 : Sta Z Z.heap "java/lang/String" "COMPACT_STRINGS" "Z" (.int G1)) (P5 : ¬ (G1 = (0 : Int32))) :
    MetFree l x (head1 (Jvm.Cond.code x code maxLocals ret :: ws) room_1) (fun aa U => aa = #[(.int p0), (.int p1), (.int p2), (.long p3)] ∧ Z.Warmed39 U.vm ∧ U.heap = h0 ∧ CHv Z own_EL U.vm h0) (fun _ _ _ _ _ => True) (fun _ U o U' => ∃ v L, o = .returned v ∧ (fun v h L => v = some (.int (1 : Int32)) ∧ Fr n0 L) v U'.heap L ∧ ReturnedEndW U o U' L room_1.cells room_1.slots) := by
  refine MetFree.of_bodySF (plainFor_of_name own_pn6) hisR ?_
  intro p e s m args below meth c s₁ Bd hml0 hP hK
  obtain ⟨rfl, hZ, hh, hCH⟩ := hP
  have hx := Bd.exec
  have hby := Bd.bytes
  have hml : c.maxLocals = 15 := hml0
  have hown : s.vm.findClass "com/example/faultwright/faultwright/PlaceDocumentPinLaw" = some m.cls := findClass_of_methodNamed Bd.named
  have hnm := (name_of_methodNamed Bd.named Bd.method).1
  have X0 : Stand p l e room_1 (s.setVm s.vm) m #[(.int p0), (.int p1), (.int p2), (.long p3)] below meth c s₁ [] 0 0 := Stand.of_body Bd
  have e0 : s₁.heap = h0 := by rw [← hh, Bd.state]; rfl
  have N0 := Fr.nil n0
  have hS := own_since0 s 0
  have hk : 0 ≤ h0.size := Nat.zero_le _
  have CR : CHr Z own_EL s.vm h0 s.vm h0 := CHr.refl hCH
  refine Out.startW (Q := fun v h L => v = some (.int (1 : Int32)) ∧ Fr n0 L) (own_ef0 m p0 p1 p2 p3 ) ?_
  have hEL := own_hEL hw
  refine Out.via (g' := (mkF m 1 #[.val (.int p0), .val (.int p1), .val (.int p2), .val (.long p3), .second, .unset, .unset, .unset, .unset, .unset, .unset, .unset, .unset, .unset, .unset] [(.int p0)])) (fun _ k => XS.iloadN X0.here hx rfl (hb hby at_0) rfl k) ?_
  refine Out.via (g' := (mkF m 2 #[.val (.int p0), .val (.int p1), .val (.int p2), .val (.long p3), .second, .unset, .unset, .unset, .unset, .unset, .unset, .unset, .unset, .unset, .unset] [(.int (3 : Int32)), (.int p0)])) (fun _ k => XS.iconst X0.here hx rfl (hb hby at_1) k) ?_
  refine Out.via (g' := (mkF m 3 #[.val (.int p0), .val (.int p1), .val (.int p2), .val (.long p3), .second, .unset, .unset, .unset, .unset, .unset, .unset, .unset, .unset, .unset, .unset] [(.int (p0 &&& (3 : Int32)))])) (fun _ k => XS.iand X0.here hx rfl (hb hby at_2) rfl k) ?_
  refine Out.via (g' := (mkF m 5 #[.val (.int p0), .val (.int p1), .val (.int p2), .val (.long p3), .second, .val (.int (p0 &&& (3 : Int32))), .unset, .unset, .unset, .unset, .unset, .unset, .unset, .unset, .unset] [])) (fun _ k => XS.istore X0.here hx rfl (hb hby at_3) rfl (l' := #[.val (.int p0), .val (.int p1), .val (.int p2), .val (.long p3), .second, .val (.int (p0 &&& (3 : Int32))), .unset, .unset, .unset, .unset, .unset, .unset, .unset, .unset, .unset]) rfl k) ?_
  obtain ⟨kN, hkN, hn⟩ := own_and3 p0
  rw [hn]
  refine Out.via (g' := (mkF m 7 #[.val (.int p0), .val (.int p1), .val (.int p2), .val (.long p3), .second, .val (.int (Int32.ofNat kN)), .unset, .unset, .unset, .unset, .unset, .unset, .unset, .unset, .unset] [(.int (Int32.ofNat kN))])) (fun _ k => XS.iload X0.here hx rfl (hb hby at_5) rfl k) ?_
  refine Out.via (g' := (mkF m 8 #[.val (.int p0), .val (.int p1), .val (.int p2), .val (.long p3), .second, .val (.int (Int32.ofNat kN)), .unset, .unset, .unset, .unset, .unset, .unset, .unset, .unset, .unset] [(.int p0), (.int (Int32.ofNat kN))])) (fun _ k => XS.iloadN X0.here hx rfl (hb hby at_7) rfl k) ?_
  refine Out.via (g' := (mkF m 9 #[.val (.int p0), .val (.int p1), .val (.int p2), .val (.long p3), .second, .val (.int (Int32.ofNat kN)), .unset, .unset, .unset, .unset, .unset, .unset, .unset, .unset, .unset] [(.int (2 : Int32)), (.int p0), (.int (Int32.ofNat kN))])) (fun _ k => XS.iconst X0.here hx rfl (hb hby at_8) k) ?_
  refine Out.via (g' := (mkF m 10 #[.val (.int p0), .val (.int p1), .val (.int p2), .val (.long p3), .second, .val (.int (Int32.ofNat kN)), .unset, .unset, .unset, .unset, .unset, .unset, .unset, .unset, .unset] [(.int ((p0.toUInt32 >>> ((2 : Int32) &&& 31).toUInt32).toInt32)), (.int (Int32.ofNat kN))])) (fun _ k => XS.iushr X0.here hx rfl (hb hby at_9) rfl k) ?_
  obtain ⟨_, _, ⟨T1, L1, kc1, ks1⟩, -, X1, hS1, hg1, ⟨Lc1, hQ1, l1, y1, z1, CR1⟩, st1⟩ := callSS X0 hx (y := (⟨"com/example/faultwright/faultwright/PlaceDocumentPinLaw", "drawn", "(II)Ljava/lang/String;"⟩ : MethodName)) hown (mvT hZ (hw _ (List.mem_of_getElem? (i := 0) rfl))) (mvT hZ (hw _ (List.mem_of_getElem? (i := 1) rfl))) (mvT hZ (hw _ (List.mem_of_getElem? (i := 2) rfl))) (mvT hZ (hw _ (List.mem_of_getElem? (i := 3) rfl))) (by decide) (backOfSH (W := 0) (own_rm1 l Z a0 hw [] (Int32.ofNat kN) ((p0.toUInt32 >>> ((2 : Int32) &&& 31).toUInt32).toInt32) G1 kN h0 n0 O hkN rfl O2 P5) hZ (hw _ (List.mem_of_getElem? (i := 3) rfl)) (hw _ (List.mem_of_getElem? (i := 2) rfl)) (by decide) (by decide) hEL CR.1) (g := (mkF m 10 #[.val (.int p0), .val (.int p1), .val (.int p2), .val (.long p3), .second, .val (.int (Int32.ofNat kN)), .unset, .unset, .unset, .unset, .unset, .unset, .unset, .unset, .unset] [(.int ((p0.toUInt32 >>> ((2 : Int32) &&& 31).toUInt32).toInt32)), (.int (Int32.ofNat kN))])) rfl (by rw [hml]; rfl) (argsL := [(.int (Int32.ofNat kN)), (.int ((p0.toUInt32 >>> ((2 : Int32) &&& 31).toUInt32).toInt32))]) (rest := []) (lenOf own_pd13 rfl) rfl (by show 2 * 0 + _ ≤ _; exact Nat.le_of_eq rfl) (hb hby at_10) (fun _ _ => ⟨rfl, e0, (by decide : 0 + 4 ≤ _), (by decide : 0 + 10 ≤ _)⟩)
  dsimp only [Pt.U, Pt.locs, Pt.cells, Pt.slots] at X1 l1 y1 z1 st1 hQ1 hS1 hg1 CR1
  subst l1 y1 z1
  rw [e0] at hg1
  obtain ⟨X1, hS, hZ, hown⟩ := rebS hS hk X1 hS1 hg1 hZ hown
  replace hk := Nat.le_refl T1.heap.size
  replace CR := CR.trans CR1
  obtain ⟨xs, cs, rfl, Nq1, Kq1, le_xs, len_xs, Sq_xs⟩ := hQ1
  replace N0 := Fr.app N0 Nq1
  replace O := O.keep Kq1 all0
  refine Out.to (g' := (mkF m 13 #[.val (.int p0), .val (.int p1), .val (.int p2), .val (.long p3), .second, .val (.int (Int32.ofNat kN)), .unset, .unset, .unset, .unset, .unset, .unset, .unset, .unset, .unset] [(.ref xs)])) st1 ?_
  refine Out.via (g' := (mkF m 15 #[.val (.int p0), .val (.int p1), .val (.int p2), .val (.long p3), .second, .val (.int (Int32.ofNat kN)), .val (.ref xs), .unset, .unset, .unset, .unset, .unset, .unset, .unset, .unset] [])) (fun _ k => XS.astore X1.here hx rfl (hb hby at_13) rfl rfl (l' := #[.val (.int p0), .val (.int p1), .val (.int p2), .val (.long p3), .second, .val (.int (Int32.ofNat kN)), .val (.ref xs), .unset, .unset, .unset, .unset, .unset, .unset, .unset, .unset]) rfl k) ?_
  refine Out.via (g' := (mkF m 16 #[.val (.int p0), .val (.int p1), .val (.int p2), .val (.long p3), .second, .val (.int (Int32.ofNat kN)), .val (.ref xs), .unset, .unset, .unset, .unset, .unset, .unset, .unset, .unset] [(.int p2)])) (fun _ k => XS.iloadN X1.here hx rfl (hb hby at_15) rfl k) ?_
  refine Out.via (g' := (mkF m 17 #[.val (.int p0), .val (.int p1), .val (.int p2), .val (.long p3), .second, .val (.int (Int32.ofNat kN)), .val (.ref xs), .unset, .unset, .unset, .unset, .unset, .unset, .unset, .unset] [(.int (1 : Int32)), (.int p2)])) (fun _ k => XS.iconst X1.here hx rfl (hb hby at_16) k) ?_
  refine Out.via (g' := (mkF m 18 #[.val (.int p0), .val (.int p1), .val (.int p2), .val (.long p3), .second, .val (.int (Int32.ofNat kN)), .val (.ref xs), .unset, .unset, .unset, .unset, .unset, .unset, .unset, .unset] [(.int (p2 &&& (1 : Int32)))])) (fun _ k => XS.iand X1.here hx rfl (hb hby at_17) rfl k) ?_
  by_cases hf : (p2 &&& (1 : Int32)) = (0 : Int32)
  · refine Out.via (g' := (mkF m 25 #[.val (.int p0), .val (.int p1), .val (.int p2), .val (.long p3), .second, .val (.int (Int32.ofNat kN)), .val (.ref xs), .unset, .unset, .unset, .unset, .unset, .unset, .unset, .unset] [])) (fun _ k => XS.ifYes X1.here hx rfl (pc0 := 18) (pc' := 25) rfl (hb hby at_18) rfl ((if0 _ _).trans (teq hf).1) (by decide) (by decide) k) ?_
    refine Out.via (g' := (mkF m 26 #[.val (.int p0), .val (.int p1), .val (.int p2), .val (.long p3), .second, .val (.int (Int32.ofNat kN)), .val (.ref xs), .unset, .unset, .unset, .unset, .unset, .unset, .unset, .unset] [(.int (0 : Int32))])) (fun _ k => XS.iconst X1.here hx rfl (hb hby at_25) k) ?_
    refine Out.via (g' := (mkF m 28 #[.val (.int p0), .val (.int p1), .val (.int p2), .val (.long p3), .second, .val (.int (Int32.ofNat kN)), .val (.ref xs), .val (.int (0 : Int32)), .unset, .unset, .unset, .unset, .unset, .unset, .unset] [])) (fun _ k => XS.istore X1.here hx rfl (hb hby at_26) rfl (l' := #[.val (.int p0), .val (.int p1), .val (.int p2), .val (.long p3), .second, .val (.int (Int32.ofNat kN)), .val (.ref xs), .val (.int (0 : Int32)), .unset, .unset, .unset, .unset, .unset, .unset, .unset]) rfl k) ?_
    refine Out.via (g' := (mkF m 29 #[.val (.int p0), .val (.int p1), .val (.int p2), .val (.long p3), .second, .val (.int (Int32.ofNat kN)), .val (.ref xs), .val (.int (0 : Int32)), .unset, .unset, .unset, .unset, .unset, .unset, .unset] [(.int p2)])) (fun _ k => XS.iloadN X1.here hx rfl (hb hby at_28) rfl k) ?_
    refine Out.via (g' := (mkF m 30 #[.val (.int p0), .val (.int p1), .val (.int p2), .val (.long p3), .second, .val (.int (Int32.ofNat kN)), .val (.ref xs), .val (.int (0 : Int32)), .unset, .unset, .unset, .unset, .unset, .unset, .unset] [(.int (1 : Int32)), (.int p2)])) (fun _ k => XS.iconst X1.here hx rfl (hb hby at_29) k) ?_
    refine Out.via (g' := (mkF m 31 #[.val (.int p0), .val (.int p1), .val (.int p2), .val (.long p3), .second, .val (.int (Int32.ofNat kN)), .val (.ref xs), .val (.int (0 : Int32)), .unset, .unset, .unset, .unset, .unset, .unset, .unset] [(.int ((p2.toUInt32 >>> ((1 : Int32) &&& 31).toUInt32).toInt32))])) (fun _ k => XS.iushr X1.here hx rfl (hb hby at_30) rfl k) ?_
    refine Out.via (g' := (mkF m 32 #[.val (.int p0), .val (.int p1), .val (.int p2), .val (.long p3), .second, .val (.int (Int32.ofNat kN)), .val (.ref xs), .val (.int (0 : Int32)), .unset, .unset, .unset, .unset, .unset, .unset, .unset] [(.int (3 : Int32)), (.int ((p2.toUInt32 >>> ((1 : Int32) &&& 31).toUInt32).toInt32))])) (fun _ k => XS.iconst X1.here hx rfl (hb hby at_31) k) ?_
    refine Out.via (g' := (mkF m 33 #[.val (.int p0), .val (.int p1), .val (.int p2), .val (.long p3), .second, .val (.int (Int32.ofNat kN)), .val (.ref xs), .val (.int (0 : Int32)), .unset, .unset, .unset, .unset, .unset, .unset, .unset] [(.int (((p2.toUInt32 >>> ((1 : Int32) &&& 31).toUInt32).toInt32) &&& (3 : Int32)))])) (fun _ k => XS.iand X1.here hx rfl (hb hby at_32) rfl k) ?_
    refine Out.via (g' := (mkF m 35 #[.val (.int p0), .val (.int p1), .val (.int p2), .val (.long p3), .second, .val (.int (Int32.ofNat kN)), .val (.ref xs), .val (.int (0 : Int32)), .val (.int (((p2.toUInt32 >>> ((1 : Int32) &&& 31).toUInt32).toInt32) &&& (3 : Int32))), .unset, .unset, .unset, .unset, .unset, .unset] [])) (fun _ k => XS.istore X1.here hx rfl (hb hby at_33) rfl (l' := #[.val (.int p0), .val (.int p1), .val (.int p2), .val (.long p3), .second, .val (.int (Int32.ofNat kN)), .val (.ref xs), .val (.int (0 : Int32)), .val (.int (((p2.toUInt32 >>> ((1 : Int32) &&& 31).toUInt32).toInt32) &&& (3 : Int32))), .unset, .unset, .unset, .unset, .unset, .unset]) rfl k) ?_
    obtain ⟨mN, hmN, hm⟩ := own_and3 ((p2.toUInt32 >>> ((1 : Int32) &&& 31).toUInt32).toInt32)
    rw [hm]
    refine Out.via (g' := (mkF m 37 #[.val (.int p0), .val (.int p1), .val (.int p2), .val (.long p3), .second, .val (.int (Int32.ofNat kN)), .val (.ref xs), .val (.int (0 : Int32)), .val (.int (Int32.ofNat mN)), .unset, .unset, .unset, .unset, .unset, .unset] [(.int (0 : Int32))])) (fun _ k => XS.iload X1.here hx rfl (hb hby at_35) rfl k) ?_
    refine Out.via (g' := (mkF m 49 #[.val (.int p0), .val (.int p1), .val (.int p2), .val (.long p3), .second, .val (.int (Int32.ofNat kN)), .val (.ref xs), .val (.int (0 : Int32)), .val (.int (Int32.ofNat mN)), .unset, .unset, .unset, .unset, .unset, .unset] [])) (fun _ k => XS.ifYes X1.here hx rfl (pc0 := 37) (pc' := 49) rfl (hb hby at_37) rfl ((if0 _ _).trans (teq (by decide)).1) (by decide) (by decide) k) ?_
    refine Out.via (g' := (mkF m 50 #[.val (.int p0), .val (.int p1), .val (.int p2), .val (.long p3), .second, .val (.int (Int32.ofNat kN)), .val (.ref xs), .val (.int (0 : Int32)), .val (.int (Int32.ofNat mN)), .unset, .unset, .unset, .unset, .unset, .unset] [.null])) (fun _ k => XS.aconstNull X1.here hx rfl (hb hby at_49) k) ?_
    refine Out.via (g' := (mkF m 52 #[.val (.int p0), .val (.int p1), .val (.int p2), .val (.long p3), .second, .val (.int (Int32.ofNat kN)), .val (.ref xs), .val (.int (0 : Int32)), .val (.int (Int32.ofNat mN)), .val .null, .unset, .unset, .unset, .unset, .unset] [])) (fun _ k => XS.astore X1.here hx rfl (hb hby at_50) rfl rfl (l' := #[.val (.int p0), .val (.int p1), .val (.int p2), .val (.long p3), .second, .val (.int (Int32.ofNat kN)), .val (.ref xs), .val (.int (0 : Int32)), .val (.int (Int32.ofNat mN)), .val .null, .unset, .unset, .unset, .unset, .unset]) rfl k) ?_
    obtain ⟨_, _, ⟨T2, L2, kc2, ks2⟩, -, X2, ⟨Lc2, hQ2, l2, y2, z2⟩, st2⟩ := Jvm.LawKit.callS X1 hx (y := (⟨"com/example/faultwright/faultwright/Place", "document", "()Lcom/example/faultwright/faultwright/Place;"⟩ : MethodName)) hown (mvT hZ (hw _ (List.mem_of_getElem? (i := 26) rfl))) (mvT hZ (hw _ (List.mem_of_getElem? (i := 27) rfl))) (mvT hZ (hw _ (List.mem_of_getElem? (i := 28) rfl))) (mvT hZ (hw _ (List.mem_of_getElem? (i := 29) rfl))) (by decide) (backOf (W := 0) (own_rm5 l Z a0 hw [] T1.heap n0 O) hZ (hw _ (List.mem_of_getElem? (i := 29) rfl)) (hw _ (List.mem_of_getElem? (i := 28) rfl)) (by decide) (by decide)) (g := (mkF m 52 #[.val (.int p0), .val (.int p1), .val (.int p2), .val (.long p3), .second, .val (.int (Int32.ofNat kN)), .val (.ref xs), .val (.int (0 : Int32)), .val (.int (Int32.ofNat mN)), .val .null, .unset, .unset, .unset, .unset, .unset] [])) rfl (by rw [hml]; rfl) (argsL := []) (rest := []) (lenOf own_pd14 rfl) rfl (by show 2 * 0 + _ ≤ _; exact Nat.le_of_eq rfl) (hb hby at_52) (fun _ _ => ⟨rfl, rfl, (by decide : 4 + 1 ≤ _), (by decide : 10 + 5 ≤ _)⟩)
    dsimp only [Pt.U, Pt.locs, Pt.cells, Pt.slots] at X2 l2 y2 z2 st2 hQ2
    subst l2 y2 z2
    obtain ⟨pd, rfl, Nq2, Kq2, le_pd, E_pd, P_pd, O_pd, L_pd⟩ := hQ2
    replace N0 := Fr.app N0 Nq2
    replace hk : _ ≤ T2.heap.size := Nat.le_trans hk Kq2.1
    replace Sq_xs := Sq_xs.keep Kq2
    replace O := O.keep Kq2 all0
    refine Out.via (g' := (mkF m 55 #[.val (.int p0), .val (.int p1), .val (.int p2), .val (.long p3), .second, .val (.int (Int32.ofNat kN)), .val (.ref xs), .val (.int (0 : Int32)), .val (.int (Int32.ofNat mN)), .val .null, .unset, .unset, .unset, .unset, .unset] [(.ref pd)])) st2 ?_
    refine Out.via (g' := (mkF m 57 #[.val (.int p0), .val (.int p1), .val (.int p2), .val (.long p3), .second, .val (.int (Int32.ofNat kN)), .val (.ref xs), .val (.int (0 : Int32)), .val (.int (Int32.ofNat mN)), .val .null, .val (.ref pd), .unset, .unset, .unset, .unset] [])) (fun _ k => XS.astore X2.here hx rfl (hb hby at_55) rfl rfl (l' := #[.val (.int p0), .val (.int p1), .val (.int p2), .val (.long p3), .second, .val (.int (Int32.ofNat kN)), .val (.ref xs), .val (.int (0 : Int32)), .val (.int (Int32.ofNat mN)), .val .null, .val (.ref pd), .unset, .unset, .unset, .unset]) rfl k) ?_
    refine Out.via (g' := (mkF m 59 #[.val (.int p0), .val (.int p1), .val (.int p2), .val (.long p3), .second, .val (.int (Int32.ofNat kN)), .val (.ref xs), .val (.int (0 : Int32)), .val (.int (Int32.ofNat mN)), .val .null, .val (.ref pd), .unset, .unset, .unset, .unset] [(.ref pd)])) (fun _ k => XS.aload X2.here hx rfl (hb hby at_57) rfl rfl k) ?_
    obtain ⟨cq3, kq3, q3a, q3b, q3c⟩ := isOf hZ rfl E_pd
    obtain ⟨_, _, ⟨T3, L3, kc3, ks3⟩, -, X3, ⟨Lc3, hQ3, l3, y3, z3⟩, st3⟩ := X2.virtualBack hx (y := (⟨"com/example/faultwright/faultwright/Place", "getOrder", "()J"⟩ : MethodName)) (z := (⟨"com/example/faultwright/faultwright/Place", "getOrder", "()J"⟩ : MethodName)) hown (mvT hZ (hw _ (List.mem_of_getElem? (i := 46) rfl))) (mvT hZ (hw _ (List.mem_of_getElem? (i := 47) rfl))) (notFace_of_selects (args := #[]) (mvT hZ (hw _ (List.mem_of_getElem? (i := 49) rfl)))) (mvT hZ (hw _ (List.mem_of_getElem? (i := 49) rfl))) (mvT hZ (hw _ (List.mem_of_getElem? (i := 48) rfl))) (by decide) (backOf (W := 0) (own_rm7 l Z a0 hw [] pd (0 : Int64) T2.heap n0 O O_pd) hZ (hw _ (List.mem_of_getElem? (i := 50) rfl)) (hw _ (List.mem_of_getElem? (i := 28) rfl)) (by decide) (by decide)) q3a q3c (g := (mkF m 59 #[.val (.int p0), .val (.int p1), .val (.int p2), .val (.long p3), .second, .val (.int (Int32.ofNat kN)), .val (.ref xs), .val (.int (0 : Int32)), .val (.int (Int32.ofNat mN)), .val .null, .val (.ref pd), .unset, .unset, .unset, .unset] [(.ref pd)])) rfl (by rw [hml]; rfl) (Steps.refl _) (argsL := []) (rest := []) (lenOf own_pd15 rfl) rfl (by show 2 * 0 + _ ≤ _; exact Nat.le_of_eq rfl) (hb hby at_59) (fun _ _ => ⟨rfl, rfl, (by decide : 5 + 0 ≤ _), (by decide : 15 + 0 ≤ _)⟩)
    dsimp only [Pt.U, Pt.locs, Pt.cells, Pt.slots] at X3 l3 y3 z3 st3 hQ3
    subst l3 y3 z3
    obtain ⟨rfl, Nq3, eq3⟩ := hQ3
    replace N0 := Fr.app N0 Nq3
    refine Out.to (g' := (mkF m 62 #[.val (.int p0), .val (.int p1), .val (.int p2), .val (.long p3), .second, .val (.int (Int32.ofNat kN)), .val (.ref xs), .val (.int (0 : Int32)), .val (.int (Int32.ofNat mN)), .val .null, .val (.ref pd), .unset, .unset, .unset, .unset] [(.long (0 : Int64))])) st3 ?_
    refine Out.via (g' := (mkF m 63 #[.val (.int p0), .val (.int p1), .val (.int p2), .val (.long p3), .second, .val (.int (Int32.ofNat kN)), .val (.ref xs), .val (.int (0 : Int32)), .val (.int (Int32.ofNat mN)), .val .null, .val (.ref pd), .unset, .unset, .unset, .unset] [(.long (0 : Int64)), (.long (0 : Int64))])) (fun _ k => XS.lconst X3.here hx rfl (hb hby at_62) k) ?_
    refine Out.via (g' := (mkF m 64 #[.val (.int p0), .val (.int p1), .val (.int p2), .val (.long p3), .second, .val (.int (Int32.ofNat kN)), .val (.ref xs), .val (.int (0 : Int32)), .val (.int (Int32.ofNat mN)), .val .null, .val (.ref pd), .unset, .unset, .unset, .unset] [(.int (lcmpW (0 : Int64) (0 : Int64)))])) (fun _ k => XS.lcmp X3.here hx rfl (hb hby at_63) rfl k) ?_
    refine Out.via (g' := (mkF m 69 #[.val (.int p0), .val (.int p1), .val (.int p2), .val (.long p3), .second, .val (.int (Int32.ofNat kN)), .val (.ref xs), .val (.int (0 : Int32)), .val (.int (Int32.ofNat mN)), .val .null, .val (.ref pd), .unset, .unset, .unset, .unset] [])) (fun _ k => XS.ifYes X3.here hx rfl (pc0 := 64) (pc' := 69) rfl (hb hby at_64) rfl ((if0 _ _).trans (teq (own_l0 rfl)).1) (by decide) (by decide) k) ?_
    refine Out.via (g' := (mkF m 71 #[.val (.int p0), .val (.int p1), .val (.int p2), .val (.long p3), .second, .val (.int (Int32.ofNat kN)), .val (.ref xs), .val (.int (0 : Int32)), .val (.int (Int32.ofNat mN)), .val .null, .val (.ref pd), .unset, .unset, .unset, .unset] [(.ref pd)])) (fun _ k => XS.aload X3.here hx rfl (hb hby at_69) rfl rfl k) ?_
    obtain ⟨cq4, kq4, q4a, q4b, q4c⟩ := isOf hZ eq3 E_pd
    obtain ⟨_, _, ⟨T4, L4, kc4, ks4⟩, -, X4, ⟨Lc4, hQ4, l4, y4, z4⟩, st4⟩ := X3.virtualBack hx (y := (⟨"com/example/faultwright/faultwright/Place", "pathLength", "()J"⟩ : MethodName)) (z := (⟨"com/example/faultwright/faultwright/Place", "pathLength", "()J"⟩ : MethodName)) hown (mvT hZ (hw _ (List.mem_of_getElem? (i := 51) rfl))) (mvT hZ (hw _ (List.mem_of_getElem? (i := 52) rfl))) (notFace_of_selects (args := #[]) (mvT hZ (hw _ (List.mem_of_getElem? (i := 54) rfl)))) (mvT hZ (hw _ (List.mem_of_getElem? (i := 54) rfl))) (mvT hZ (hw _ (List.mem_of_getElem? (i := 53) rfl))) (by decide) (backOf (W := 0) (own_rm8 l Z a0 hw [] pd (1 : Int64) T2.heap n0 O L_pd) hZ (hw _ (List.mem_of_getElem? (i := 55) rfl)) (hw _ (List.mem_of_getElem? (i := 28) rfl)) (by decide) (by decide)) q4a q4c (g := (mkF m 71 #[.val (.int p0), .val (.int p1), .val (.int p2), .val (.long p3), .second, .val (.int (Int32.ofNat kN)), .val (.ref xs), .val (.int (0 : Int32)), .val (.int (Int32.ofNat mN)), .val .null, .val (.ref pd), .unset, .unset, .unset, .unset] [(.ref pd)])) rfl (by rw [hml]; rfl) (Steps.refl _) (argsL := []) (rest := []) (lenOf own_pd15 rfl) rfl (by show 2 * 0 + _ ≤ _; exact Nat.le_of_eq rfl) (hb hby at_71) (fun _ _ => ⟨rfl, eq3, (by decide : 5 + 0 ≤ _), (by decide : 15 + 0 ≤ _)⟩)
    dsimp only [Pt.U, Pt.locs, Pt.cells, Pt.slots] at X4 l4 y4 z4 st4 hQ4
    subst l4 y4 z4
    obtain ⟨rfl, Nq4, eq4⟩ := hQ4
    replace N0 := Fr.app N0 Nq4
    refine Out.to (g' := (mkF m 74 #[.val (.int p0), .val (.int p1), .val (.int p2), .val (.long p3), .second, .val (.int (Int32.ofNat kN)), .val (.ref xs), .val (.int (0 : Int32)), .val (.int (Int32.ofNat mN)), .val .null, .val (.ref pd), .unset, .unset, .unset, .unset] [(.long (1 : Int64))])) st4 ?_
    refine Out.via (g' := (mkF m 75 #[.val (.int p0), .val (.int p1), .val (.int p2), .val (.long p3), .second, .val (.int (Int32.ofNat kN)), .val (.ref xs), .val (.int (0 : Int32)), .val (.int (Int32.ofNat mN)), .val .null, .val (.ref pd), .unset, .unset, .unset, .unset] [(.long (1 : Int64)), (.long (1 : Int64))])) (fun _ k => XS.lconst X4.here hx rfl (hb hby at_74) k) ?_
    refine Out.via (g' := (mkF m 76 #[.val (.int p0), .val (.int p1), .val (.int p2), .val (.long p3), .second, .val (.int (Int32.ofNat kN)), .val (.ref xs), .val (.int (0 : Int32)), .val (.int (Int32.ofNat mN)), .val .null, .val (.ref pd), .unset, .unset, .unset, .unset] [(.int (lcmpW (1 : Int64) (1 : Int64)))])) (fun _ k => XS.lcmp X4.here hx rfl (hb hby at_75) rfl k) ?_
    refine Out.via (g' := (mkF m 81 #[.val (.int p0), .val (.int p1), .val (.int p2), .val (.long p3), .second, .val (.int (Int32.ofNat kN)), .val (.ref xs), .val (.int (0 : Int32)), .val (.int (Int32.ofNat mN)), .val .null, .val (.ref pd), .unset, .unset, .unset, .unset] [])) (fun _ k => XS.ifYes X4.here hx rfl (pc0 := 76) (pc' := 81) rfl (hb hby at_76) rfl ((if0 _ _).trans (teq (own_l0 rfl)).1) (by decide) (by decide) k) ?_
    refine Out.via (g' := (mkF m 83 #[.val (.int p0), .val (.int p1), .val (.int p2), .val (.long p3), .second, .val (.int (Int32.ofNat kN)), .val (.ref xs), .val (.int (0 : Int32)), .val (.int (Int32.ofNat mN)), .val .null, .val (.ref pd), .unset, .unset, .unset, .unset] [(.ref pd)])) (fun _ k => XS.aload X4.here hx rfl (hb hby at_81) rfl rfl k) ?_
    refine Out.via (g' := (mkF m 85 #[.val (.int p0), .val (.int p1), .val (.int p2), .val (.long p3), .second, .val (.int (Int32.ofNat kN)), .val (.ref xs), .val (.int (0 : Int32)), .val (.int (Int32.ofNat mN)), .val .null, .val (.ref pd), .unset, .unset, .unset, .unset] [(.ref xs), (.ref pd)])) (fun _ k => XS.aload X4.here hx rfl (hb hby at_83) rfl rfl k) ?_
    refine Out.via (g' := (mkF m 87 #[.val (.int p0), .val (.int p1), .val (.int p2), .val (.long p3), .second, .val (.int (Int32.ofNat kN)), .val (.ref xs), .val (.int (0 : Int32)), .val (.int (Int32.ofNat mN)), .val .null, .val (.ref pd), .unset, .unset, .unset, .unset] [.null, (.ref xs), (.ref pd)])) (fun _ k => XS.aload X4.here hx rfl (hb hby at_85) rfl rfl k) ?_
    refine Out.via (g' := (mkF m 88 #[.val (.int p0), .val (.int p1), .val (.int p2), .val (.long p3), .second, .val (.int (Int32.ofNat kN)), .val (.ref xs), .val (.int (0 : Int32)), .val (.int (Int32.ofNat mN)), .val .null, .val (.ref pd), .unset, .unset, .unset, .unset] [(.long p3), .null, (.ref xs), (.ref pd)])) (fun _ k => XS.lloadN X4.here hx rfl (hb hby at_87) rfl k) ?_
    have lnn : cs.length < 4 := by omega
    obtain ⟨cq5, kq5, q5a, q5b, q5c⟩ := isOf hZ eq4 E_pd
    obtain ⟨_, _, ⟨T5, L5, kc5, ks5⟩, -, X5, ⟨Lc5, hQ5, l5, y5, z5⟩, st5⟩ := X4.virtualBack hx (y := (⟨"com/example/faultwright/faultwright/Place", "child", "(Ljava/lang/String;Ljava/lang/String;J)Lcom/example/faultwright/faultwright/Place;"⟩ : MethodName)) (z := (⟨"com/example/faultwright/faultwright/Place", "child", "(Ljava/lang/String;Ljava/lang/String;J)Lcom/example/faultwright/faultwright/Place;"⟩ : MethodName)) hown (mvT hZ (hw _ (List.mem_of_getElem? (i := 56) rfl))) (mvT hZ (hw _ (List.mem_of_getElem? (i := 57) rfl))) (notFace_of_selects (args := #[]) (mvT hZ (hw _ (List.mem_of_getElem? (i := 59) rfl)))) (mvT hZ (hw _ (List.mem_of_getElem? (i := 59) rfl))) (mvT hZ (hw _ (List.mem_of_getElem? (i := 58) rfl))) (by decide) (backOf (W := 0) (own_rm9 l Z a0 hw [] pd xs cs p3 G1 T2.heap n0 O E_pd P_pd Sq_xs lnn O2 P5) hZ (hw _ (List.mem_of_getElem? (i := 60) rfl)) (hw _ (List.mem_of_getElem? (i := 28) rfl)) (by decide) (by decide)) q5a q5c (g := (mkF m 88 #[.val (.int p0), .val (.int p1), .val (.int p2), .val (.long p3), .second, .val (.int (Int32.ofNat kN)), .val (.ref xs), .val (.int (0 : Int32)), .val (.int (Int32.ofNat mN)), .val .null, .val (.ref pd), .unset, .unset, .unset, .unset] [(.long p3), .null, (.ref xs), (.ref pd)])) rfl (by rw [hml]; rfl) (Steps.refl _) (argsL := [(.ref xs), .null, (.long p3)]) (rest := []) (lenOf own_pd12 rfl) rfl (by show 2 * 0 + _ ≤ _; exact Nat.le_of_eq rfl) (hb hby at_88) (fun _ _ => ⟨rfl, eq4, (by decide : 5 + 1 ≤ _), (by decide : 15 + 5 ≤ _)⟩)
    dsimp only [Pt.U, Pt.locs, Pt.cells, Pt.slots] at X5 l5 y5 z5 st5 hQ5
    subst l5 y5 z5
    obtain ⟨pk, rfl, Nq5, Kq5, le_pk, E_pk, P_pk, O_pk, L_pk⟩ := hQ5
    replace N0 := Fr.app N0 Nq5
    replace hk : _ ≤ T5.heap.size := Nat.le_trans hk Kq5.1
    replace Sq_xs := Sq_xs.keep Kq5
    replace P_pd := P_pd.keep Kq5 nin0
    replace O_pd := O_pd.keep Kq5 nin0
    replace L_pd := L_pd.keep Kq5 nin0
    replace E_pd := E_pd.keep Kq5
    replace O := O.keep Kq5 all0
    refine Out.to (g' := (mkF m 91 #[.val (.int p0), .val (.int p1), .val (.int p2), .val (.long p3), .second, .val (.int (Int32.ofNat kN)), .val (.ref xs), .val (.int (0 : Int32)), .val (.int (Int32.ofNat mN)), .val .null, .val (.ref pd), .unset, .unset, .unset, .unset] [(.ref pk)])) st5 ?_
    refine Out.via (g' := (mkF m 93 #[.val (.int p0), .val (.int p1), .val (.int p2), .val (.long p3), .second, .val (.int (Int32.ofNat kN)), .val (.ref xs), .val (.int (0 : Int32)), .val (.int (Int32.ofNat mN)), .val .null, .val (.ref pd), .val (.ref pk), .unset, .unset, .unset] [])) (fun _ k => XS.astore X5.here hx rfl (hb hby at_91) rfl rfl (l' := #[.val (.int p0), .val (.int p1), .val (.int p2), .val (.long p3), .second, .val (.int (Int32.ofNat kN)), .val (.ref xs), .val (.int (0 : Int32)), .val (.int (Int32.ofNat mN)), .val .null, .val (.ref pd), .val (.ref pk), .unset, .unset, .unset]) rfl k) ?_
    refine Out.via (g' := (mkF m 94 #[.val (.int p0), .val (.int p1), .val (.int p2), .val (.long p3), .second, .val (.int (Int32.ofNat kN)), .val (.ref xs), .val (.int (0 : Int32)), .val (.int (Int32.ofNat mN)), .val .null, .val (.ref pd), .val (.ref pk), .unset, .unset, .unset] [(.long (1 : Int64))])) (fun _ k => XS.lconst X5.here hx rfl (hb hby at_93) k) ?_
    refine Out.via (g' := (mkF m 96 #[.val (.int p0), .val (.int p1), .val (.int p2), .val (.long p3), .second, .val (.int (Int32.ofNat kN)), .val (.ref xs), .val (.int (0 : Int32)), .val (.int (Int32.ofNat mN)), .val .null, .val (.ref pd), .val (.ref pk), .unset, .unset, .unset] [(.int (Int32.ofNat kN)), (.long (1 : Int64))])) (fun _ k => XS.iload X5.here hx rfl (hb hby at_94) rfl k) ?_
    refine Out.via (g' := (mkF m 97 #[.val (.int p0), .val (.int p1), .val (.int p2), .val (.long p3), .second, .val (.int (Int32.ofNat kN)), .val (.ref xs), .val (.int (0 : Int32)), .val (.int (Int32.ofNat mN)), .val .null, .val (.ref pd), .val (.ref pk), .unset, .unset, .unset] [(.long ((Int32.ofNat kN).toInt64)), (.long (1 : Int64))])) (fun _ k => XS.i2l X5.here hx rfl (hb hby at_96) rfl k) ?_
    refine Out.via (g' := (mkF m 98 #[.val (.int p0), .val (.int p1), .val (.int p2), .val (.long p3), .second, .val (.int (Int32.ofNat kN)), .val (.ref xs), .val (.int (0 : Int32)), .val (.int (Int32.ofNat mN)), .val .null, .val (.ref pd), .val (.ref pk), .unset, .unset, .unset] [(.long ((1 : Int64) + ((Int32.ofNat kN).toInt64)))])) (fun _ k => XS.ladd X5.here hx rfl (hb hby at_97) rfl k) ?_
    refine Out.via (g' := (mkF m 100 #[.val (.int p0), .val (.int p1), .val (.int p2), .val (.long p3), .second, .val (.int (Int32.ofNat kN)), .val (.ref xs), .val (.int (0 : Int32)), .val (.int (Int32.ofNat mN)), .val .null, .val (.ref pd), .val (.ref pk), .unset, .unset, .unset] [(.int (0 : Int32)), (.long ((1 : Int64) + ((Int32.ofNat kN).toInt64)))])) (fun _ k => XS.iload X5.here hx rfl (hb hby at_98) rfl k) ?_
    refine Out.via (g' := (mkF m 111 #[.val (.int p0), .val (.int p1), .val (.int p2), .val (.long p3), .second, .val (.int (Int32.ofNat kN)), .val (.ref xs), .val (.int (0 : Int32)), .val (.int (Int32.ofNat mN)), .val .null, .val (.ref pd), .val (.ref pk), .unset, .unset, .unset] [(.long ((1 : Int64) + ((Int32.ofNat kN).toInt64)))])) (fun _ k => XS.ifYes X5.here hx rfl (pc0 := 100) (pc' := 111) rfl (hb hby at_100) rfl ((if0 _ _).trans (teq (by decide)).1) (by decide) (by decide) k) ?_
    refine Out.via (g' := (mkF m 112 #[.val (.int p0), .val (.int p1), .val (.int p2), .val (.long p3), .second, .val (.int (Int32.ofNat kN)), .val (.ref xs), .val (.int (0 : Int32)), .val (.int (Int32.ofNat mN)), .val .null, .val (.ref pd), .val (.ref pk), .unset, .unset, .unset] [(.long (0 : Int64)), (.long ((1 : Int64) + ((Int32.ofNat kN).toInt64)))])) (fun _ k => XS.lconst X5.here hx rfl (hb hby at_111) k) ?_
    refine Out.via (g' := (mkF m 113 #[.val (.int p0), .val (.int p1), .val (.int p2), .val (.long p3), .second, .val (.int (Int32.ofNat kN)), .val (.ref xs), .val (.int (0 : Int32)), .val (.int (Int32.ofNat mN)), .val .null, .val (.ref pd), .val (.ref pk), .unset, .unset, .unset] [(.long (((1 : Int64) + ((Int32.ofNat kN).toInt64)) + (0 : Int64)))])) (fun _ k => XS.ladd X5.here hx rfl (hb hby at_112) rfl k) ?_
    refine Out.via (g' := (mkF m 115 #[.val (.int p0), .val (.int p1), .val (.int p2), .val (.long p3), .second, .val (.int (Int32.ofNat kN)), .val (.ref xs), .val (.int (0 : Int32)), .val (.int (Int32.ofNat mN)), .val .null, .val (.ref pd), .val (.ref pk), .val (.long (((1 : Int64) + ((Int32.ofNat kN).toInt64)) + (0 : Int64))), .second, .unset] [])) (fun _ k => XS.lstore X5.here hx rfl (hb hby at_113) rfl (l' := #[.val (.int p0), .val (.int p1), .val (.int p2), .val (.long p3), .second, .val (.int (Int32.ofNat kN)), .val (.ref xs), .val (.int (0 : Int32)), .val (.int (Int32.ofNat mN)), .val .null, .val (.ref pd), .val (.ref pk), .val (.long (((1 : Int64) + ((Int32.ofNat kN).toInt64)) + (0 : Int64))), .second, .unset]) rfl k) ?_
    refine Out.via (g' := (mkF m 117 #[.val (.int p0), .val (.int p1), .val (.int p2), .val (.long p3), .second, .val (.int (Int32.ofNat kN)), .val (.ref xs), .val (.int (0 : Int32)), .val (.int (Int32.ofNat mN)), .val .null, .val (.ref pd), .val (.ref pk), .val (.long (((1 : Int64) + ((Int32.ofNat kN).toInt64)) + (0 : Int64))), .second, .unset] [(.ref pk)])) (fun _ k => XS.aload X5.here hx rfl (hb hby at_115) rfl rfl k) ?_
    obtain ⟨cq6, kq6, q6a, q6b, q6c⟩ := isOf hZ rfl E_pk
    obtain ⟨_, _, ⟨T6, L6, kc6, ks6⟩, -, X6, ⟨Lc6, hQ6, l6, y6, z6⟩, st6⟩ := X5.virtualBack hx (y := (⟨"com/example/faultwright/faultwright/Place", "getOrder", "()J"⟩ : MethodName)) (z := (⟨"com/example/faultwright/faultwright/Place", "getOrder", "()J"⟩ : MethodName)) hown (mvT hZ (hw _ (List.mem_of_getElem? (i := 46) rfl))) (mvT hZ (hw _ (List.mem_of_getElem? (i := 47) rfl))) (notFace_of_selects (args := #[]) (mvT hZ (hw _ (List.mem_of_getElem? (i := 49) rfl)))) (mvT hZ (hw _ (List.mem_of_getElem? (i := 49) rfl))) (mvT hZ (hw _ (List.mem_of_getElem? (i := 48) rfl))) (by decide) (backOf (W := 0) (own_rm7 l Z a0 hw [] pk p3 T5.heap n0 O O_pk) hZ (hw _ (List.mem_of_getElem? (i := 50) rfl)) (hw _ (List.mem_of_getElem? (i := 28) rfl)) (by decide) (by decide)) q6a q6c (g := (mkF m 117 #[.val (.int p0), .val (.int p1), .val (.int p2), .val (.long p3), .second, .val (.int (Int32.ofNat kN)), .val (.ref xs), .val (.int (0 : Int32)), .val (.int (Int32.ofNat mN)), .val .null, .val (.ref pd), .val (.ref pk), .val (.long (((1 : Int64) + ((Int32.ofNat kN).toInt64)) + (0 : Int64))), .second, .unset] [(.ref pk)])) rfl (by rw [hml]; rfl) (Steps.refl _) (argsL := []) (rest := []) (lenOf own_pd15 rfl) rfl (by show 2 * 0 + _ ≤ _; exact Nat.le_of_eq rfl) (hb hby at_117) (fun _ _ => ⟨rfl, rfl, (by decide : 6 + 0 ≤ _), (by decide : 20 + 0 ≤ _)⟩)
    dsimp only [Pt.U, Pt.locs, Pt.cells, Pt.slots] at X6 l6 y6 z6 st6 hQ6
    subst l6 y6 z6
    obtain ⟨rfl, Nq6, eq6⟩ := hQ6
    replace N0 := Fr.app N0 Nq6
    refine Out.to (g' := (mkF m 120 #[.val (.int p0), .val (.int p1), .val (.int p2), .val (.long p3), .second, .val (.int (Int32.ofNat kN)), .val (.ref xs), .val (.int (0 : Int32)), .val (.int (Int32.ofNat mN)), .val .null, .val (.ref pd), .val (.ref pk), .val (.long (((1 : Int64) + ((Int32.ofNat kN).toInt64)) + (0 : Int64))), .second, .unset] [(.long p3)])) st6 ?_
    refine Out.via (g' := (mkF m 121 #[.val (.int p0), .val (.int p1), .val (.int p2), .val (.long p3), .second, .val (.int (Int32.ofNat kN)), .val (.ref xs), .val (.int (0 : Int32)), .val (.int (Int32.ofNat mN)), .val .null, .val (.ref pd), .val (.ref pk), .val (.long (((1 : Int64) + ((Int32.ofNat kN).toInt64)) + (0 : Int64))), .second, .unset] [(.long p3), (.long p3)])) (fun _ k => XS.lloadN X6.here hx rfl (hb hby at_120) rfl k) ?_
    refine Out.via (g' := (mkF m 122 #[.val (.int p0), .val (.int p1), .val (.int p2), .val (.long p3), .second, .val (.int (Int32.ofNat kN)), .val (.ref xs), .val (.int (0 : Int32)), .val (.int (Int32.ofNat mN)), .val .null, .val (.ref pd), .val (.ref pk), .val (.long (((1 : Int64) + ((Int32.ofNat kN).toInt64)) + (0 : Int64))), .second, .unset] [(.int (lcmpW p3 p3))])) (fun _ k => XS.lcmp X6.here hx rfl (hb hby at_121) rfl k) ?_
    refine Out.via (g' := (mkF m 127 #[.val (.int p0), .val (.int p1), .val (.int p2), .val (.long p3), .second, .val (.int (Int32.ofNat kN)), .val (.ref xs), .val (.int (0 : Int32)), .val (.int (Int32.ofNat mN)), .val .null, .val (.ref pd), .val (.ref pk), .val (.long (((1 : Int64) + ((Int32.ofNat kN).toInt64)) + (0 : Int64))), .second, .unset] [])) (fun _ k => XS.ifYes X6.here hx rfl (pc0 := 122) (pc' := 127) rfl (hb hby at_122) rfl ((if0 _ _).trans (teq (own_l0 rfl)).1) (by decide) (by decide) k) ?_
    refine Out.via (g' := (mkF m 129 #[.val (.int p0), .val (.int p1), .val (.int p2), .val (.long p3), .second, .val (.int (Int32.ofNat kN)), .val (.ref xs), .val (.int (0 : Int32)), .val (.int (Int32.ofNat mN)), .val .null, .val (.ref pd), .val (.ref pk), .val (.long (((1 : Int64) + ((Int32.ofNat kN).toInt64)) + (0 : Int64))), .second, .unset] [(.ref pk)])) (fun _ k => XS.aload X6.here hx rfl (hb hby at_127) rfl rfl k) ?_
    obtain ⟨cq7, kq7, q7a, q7b, q7c⟩ := isOf hZ eq6 E_pk
    obtain ⟨_, _, ⟨T7, L7, kc7, ks7⟩, -, X7, ⟨Lc7, hQ7, l7, y7, z7⟩, st7⟩ := X6.virtualBack hx (y := (⟨"com/example/faultwright/faultwright/Place", "pathLength", "()J"⟩ : MethodName)) (z := (⟨"com/example/faultwright/faultwright/Place", "pathLength", "()J"⟩ : MethodName)) hown (mvT hZ (hw _ (List.mem_of_getElem? (i := 51) rfl))) (mvT hZ (hw _ (List.mem_of_getElem? (i := 52) rfl))) (notFace_of_selects (args := #[]) (mvT hZ (hw _ (List.mem_of_getElem? (i := 54) rfl)))) (mvT hZ (hw _ (List.mem_of_getElem? (i := 54) rfl))) (mvT hZ (hw _ (List.mem_of_getElem? (i := 53) rfl))) (by decide) (backOf (W := 0) (own_rm8 l Z a0 hw [] pk ((0 : Int64) + (1 : Int64) + (Int32.ofNat cs.length + (0 : Int32)).toInt64) T5.heap n0 O L_pk) hZ (hw _ (List.mem_of_getElem? (i := 55) rfl)) (hw _ (List.mem_of_getElem? (i := 28) rfl)) (by decide) (by decide)) q7a q7c (g := (mkF m 129 #[.val (.int p0), .val (.int p1), .val (.int p2), .val (.long p3), .second, .val (.int (Int32.ofNat kN)), .val (.ref xs), .val (.int (0 : Int32)), .val (.int (Int32.ofNat mN)), .val .null, .val (.ref pd), .val (.ref pk), .val (.long (((1 : Int64) + ((Int32.ofNat kN).toInt64)) + (0 : Int64))), .second, .unset] [(.ref pk)])) rfl (by rw [hml]; rfl) (Steps.refl _) (argsL := []) (rest := []) (lenOf own_pd15 rfl) rfl (by show 2 * 0 + _ ≤ _; exact Nat.le_of_eq rfl) (hb hby at_129) (fun _ _ => ⟨rfl, eq6, (by decide : 6 + 0 ≤ _), (by decide : 20 + 0 ≤ _)⟩)
    dsimp only [Pt.U, Pt.locs, Pt.cells, Pt.slots] at X7 l7 y7 z7 st7 hQ7
    subst l7 y7 z7
    obtain ⟨rfl, Nq7, eq7⟩ := hQ7
    replace N0 := Fr.app N0 Nq7
    refine Out.to (g' := (mkF m 132 #[.val (.int p0), .val (.int p1), .val (.int p2), .val (.long p3), .second, .val (.int (Int32.ofNat kN)), .val (.ref xs), .val (.int (0 : Int32)), .val (.int (Int32.ofNat mN)), .val .null, .val (.ref pd), .val (.ref pk), .val (.long (((1 : Int64) + ((Int32.ofNat kN).toInt64)) + (0 : Int64))), .second, .unset] [(.long ((0 : Int64) + (1 : Int64) + (Int32.ofNat cs.length + (0 : Int32)).toInt64))])) st7 ?_
    refine Out.via (g' := (mkF m 134 #[.val (.int p0), .val (.int p1), .val (.int p2), .val (.long p3), .second, .val (.int (Int32.ofNat kN)), .val (.ref xs), .val (.int (0 : Int32)), .val (.int (Int32.ofNat mN)), .val .null, .val (.ref pd), .val (.ref pk), .val (.long (((1 : Int64) + ((Int32.ofNat kN).toInt64)) + (0 : Int64))), .second, .unset] [(.long (((1 : Int64) + ((Int32.ofNat kN).toInt64)) + (0 : Int64))), (.long ((0 : Int64) + (1 : Int64) + (Int32.ofNat cs.length + (0 : Int32)).toInt64))])) (fun _ k => XS.lload X7.here hx rfl (hb hby at_132) rfl k) ?_
    refine Out.via (g' := (mkF m 135 #[.val (.int p0), .val (.int p1), .val (.int p2), .val (.long p3), .second, .val (.int (Int32.ofNat kN)), .val (.ref xs), .val (.int (0 : Int32)), .val (.int (Int32.ofNat mN)), .val .null, .val (.ref pd), .val (.ref pk), .val (.long (((1 : Int64) + ((Int32.ofNat kN).toInt64)) + (0 : Int64))), .second, .unset] [(.int (lcmpW ((0 : Int64) + (1 : Int64) + (Int32.ofNat cs.length + (0 : Int32)).toInt64) (((1 : Int64) + ((Int32.ofNat kN).toInt64)) + (0 : Int64))))])) (fun _ k => XS.lcmp X7.here hx rfl (hb hby at_134) rfl k) ?_
    refine Out.via (g' := (mkF m 140 #[.val (.int p0), .val (.int p1), .val (.int p2), .val (.long p3), .second, .val (.int (Int32.ofNat kN)), .val (.ref xs), .val (.int (0 : Int32)), .val (.int (Int32.ofNat mN)), .val .null, .val (.ref pd), .val (.ref pk), .val (.long (((1 : Int64) + ((Int32.ofNat kN).toInt64)) + (0 : Int64))), .second, .unset] [])) (fun _ k => XS.ifYes X7.here hx rfl (pc0 := 135) (pc' := 140) rfl (hb hby at_135) rfl ((if0 _ _).trans (teq (own_l0 (by rw [len_xs]; exact own_v0 ⟨kN, hkN⟩))).1) (by decide) (by decide) k) ?_
    refine Out.via (g' := (mkF m 142 #[.val (.int p0), .val (.int p1), .val (.int p2), .val (.long p3), .second, .val (.int (Int32.ofNat kN)), .val (.ref xs), .val (.int (0 : Int32)), .val (.int (Int32.ofNat mN)), .val .null, .val (.ref pd), .val (.ref pk), .val (.long (((1 : Int64) + ((Int32.ofNat kN).toInt64)) + (0 : Int64))), .second, .unset] [(.ref pd)])) (fun _ k => XS.aload X7.here hx rfl (hb hby at_140) rfl rfl k) ?_
    refine Out.via (g' := (mkF m 144 #[.val (.int p0), .val (.int p1), .val (.int p2), .val (.long p3), .second, .val (.int (Int32.ofNat kN)), .val (.ref xs), .val (.int (0 : Int32)), .val (.int (Int32.ofNat mN)), .val .null, .val (.ref pd), .val (.ref pk), .val (.long (((1 : Int64) + ((Int32.ofNat kN).toInt64)) + (0 : Int64))), .second, .unset] [(.ref xs), (.ref pd)])) (fun _ k => XS.aload X7.here hx rfl (hb hby at_142) rfl rfl k) ?_
    refine Out.via (g' := (mkF m 145 #[.val (.int p0), .val (.int p1), .val (.int p2), .val (.long p3), .second, .val (.int (Int32.ofNat kN)), .val (.ref xs), .val (.int (0 : Int32)), .val (.int (Int32.ofNat mN)), .val .null, .val (.ref pd), .val (.ref pk), .val (.long (((1 : Int64) + ((Int32.ofNat kN).toInt64)) + (0 : Int64))), .second, .unset] [(.long p3), (.ref xs), (.ref pd)])) (fun _ k => XS.lloadN X7.here hx rfl (hb hby at_144) rfl k) ?_
    obtain ⟨cq8, kq8, q8a, q8b, q8c⟩ := isOf hZ eq7 E_pd
    obtain ⟨_, _, ⟨T8, L8, kc8, ks8⟩, -, X8, ⟨Lc8, hQ8, l8, y8, z8⟩, st8⟩ := X7.virtualBack hx (y := (⟨"com/example/faultwright/faultwright/Place", "child", "(Ljava/lang/String;J)Lcom/example/faultwright/faultwright/Place;"⟩ : MethodName)) (z := (⟨"com/example/faultwright/faultwright/Place", "child", "(Ljava/lang/String;J)Lcom/example/faultwright/faultwright/Place;"⟩ : MethodName)) hown (mvT hZ (hw _ (List.mem_of_getElem? (i := 72) rfl))) (mvT hZ (hw _ (List.mem_of_getElem? (i := 73) rfl))) (notFace_of_selects (args := #[]) (mvT hZ (hw _ (List.mem_of_getElem? (i := 75) rfl)))) (mvT hZ (hw _ (List.mem_of_getElem? (i := 75) rfl))) (mvT hZ (hw _ (List.mem_of_getElem? (i := 74) rfl))) (by decide) (backOf (W := 0) (own_rm12 l Z a0 hw [] pd xs cs p3 G1 T5.heap n0 O E_pd P_pd Sq_xs lnn O2 P5) hZ (hw _ (List.mem_of_getElem? (i := 76) rfl)) (hw _ (List.mem_of_getElem? (i := 28) rfl)) (by decide) (by decide)) q8a q8c (g := (mkF m 145 #[.val (.int p0), .val (.int p1), .val (.int p2), .val (.long p3), .second, .val (.int (Int32.ofNat kN)), .val (.ref xs), .val (.int (0 : Int32)), .val (.int (Int32.ofNat mN)), .val .null, .val (.ref pd), .val (.ref pk), .val (.long (((1 : Int64) + ((Int32.ofNat kN).toInt64)) + (0 : Int64))), .second, .unset] [(.long p3), (.ref xs), (.ref pd)])) rfl (by rw [hml]; rfl) (Steps.refl _) (argsL := [(.ref xs), (.long p3)]) (rest := []) (lenOf own_pd16 rfl) rfl (by show 2 * 0 + _ ≤ _; exact Nat.le_of_eq rfl) (hb hby at_145) (fun _ _ => ⟨rfl, eq7, (by decide : 6 + 1 ≤ _), (by decide : 20 + 5 ≤ _)⟩)
    dsimp only [Pt.U, Pt.locs, Pt.cells, Pt.slots] at X8 l8 y8 z8 st8 hQ8
    subst l8 y8 z8
    obtain ⟨pj, rfl, Nq8, Kq8, le_pj, E_pj, P_pj, O_pj, L_pj⟩ := hQ8
    replace N0 := Fr.app N0 Nq8
    replace hk : _ ≤ T8.heap.size := Nat.le_trans hk Kq8.1
    replace Sq_xs := Sq_xs.keep Kq8
    replace P_pd := P_pd.keep Kq8 nin0
    replace O_pd := O_pd.keep Kq8 nin0
    replace L_pd := L_pd.keep Kq8 nin0
    replace P_pk := P_pk.keep Kq8 nin0
    replace O_pk := O_pk.keep Kq8 nin0
    replace L_pk := L_pk.keep Kq8 nin0
    replace E_pd := E_pd.keep Kq8
    replace E_pk := E_pk.keep Kq8
    replace O := O.keep Kq8 all0
    refine Out.to (g' := (mkF m 148 #[.val (.int p0), .val (.int p1), .val (.int p2), .val (.long p3), .second, .val (.int (Int32.ofNat kN)), .val (.ref xs), .val (.int (0 : Int32)), .val (.int (Int32.ofNat mN)), .val .null, .val (.ref pd), .val (.ref pk), .val (.long (((1 : Int64) + ((Int32.ofNat kN).toInt64)) + (0 : Int64))), .second, .unset] [(.ref pj)])) st8 ?_
    refine Out.via (g' := (mkF m 150 #[.val (.int p0), .val (.int p1), .val (.int p2), .val (.long p3), .second, .val (.int (Int32.ofNat kN)), .val (.ref xs), .val (.int (0 : Int32)), .val (.int (Int32.ofNat mN)), .val .null, .val (.ref pd), .val (.ref pk), .val (.long (((1 : Int64) + ((Int32.ofNat kN).toInt64)) + (0 : Int64))), .second, .val (.ref pj)] [])) (fun _ k => XS.astore X8.here hx rfl (hb hby at_148) rfl rfl (l' := #[.val (.int p0), .val (.int p1), .val (.int p2), .val (.long p3), .second, .val (.int (Int32.ofNat kN)), .val (.ref xs), .val (.int (0 : Int32)), .val (.int (Int32.ofNat mN)), .val .null, .val (.ref pd), .val (.ref pk), .val (.long (((1 : Int64) + ((Int32.ofNat kN).toInt64)) + (0 : Int64))), .second, .val (.ref pj)]) rfl k) ?_
    refine Out.via (g' := (mkF m 152 #[.val (.int p0), .val (.int p1), .val (.int p2), .val (.long p3), .second, .val (.int (Int32.ofNat kN)), .val (.ref xs), .val (.int (0 : Int32)), .val (.int (Int32.ofNat mN)), .val .null, .val (.ref pd), .val (.ref pk), .val (.long (((1 : Int64) + ((Int32.ofNat kN).toInt64)) + (0 : Int64))), .second, .val (.ref pj)] [(.ref pj)])) (fun _ k => XS.aload X8.here hx rfl (hb hby at_150) rfl rfl k) ?_
    obtain ⟨cq9, kq9, q9a, q9b, q9c⟩ := isOf hZ rfl E_pj
    obtain ⟨_, _, ⟨T9, L9, kc9, ks9⟩, -, X9, ⟨Lc9, hQ9, l9, y9, z9⟩, st9⟩ := X8.virtualBack hx (y := (⟨"com/example/faultwright/faultwright/Place", "pathLength", "()J"⟩ : MethodName)) (z := (⟨"com/example/faultwright/faultwright/Place", "pathLength", "()J"⟩ : MethodName)) hown (mvT hZ (hw _ (List.mem_of_getElem? (i := 51) rfl))) (mvT hZ (hw _ (List.mem_of_getElem? (i := 52) rfl))) (notFace_of_selects (args := #[]) (mvT hZ (hw _ (List.mem_of_getElem? (i := 54) rfl)))) (mvT hZ (hw _ (List.mem_of_getElem? (i := 54) rfl))) (mvT hZ (hw _ (List.mem_of_getElem? (i := 53) rfl))) (by decide) (backOf (W := 0) (own_rm8 l Z a0 hw [] pj ((0 : Int64) + (1 : Int64) + (Int32.ofNat cs.length + (0 : Int32)).toInt64) T8.heap n0 O L_pj) hZ (hw _ (List.mem_of_getElem? (i := 55) rfl)) (hw _ (List.mem_of_getElem? (i := 28) rfl)) (by decide) (by decide)) q9a q9c (g := (mkF m 152 #[.val (.int p0), .val (.int p1), .val (.int p2), .val (.long p3), .second, .val (.int (Int32.ofNat kN)), .val (.ref xs), .val (.int (0 : Int32)), .val (.int (Int32.ofNat mN)), .val .null, .val (.ref pd), .val (.ref pk), .val (.long (((1 : Int64) + ((Int32.ofNat kN).toInt64)) + (0 : Int64))), .second, .val (.ref pj)] [(.ref pj)])) rfl (by rw [hml]; rfl) (Steps.refl _) (argsL := []) (rest := []) (lenOf own_pd15 rfl) rfl (by show 2 * 0 + _ ≤ _; exact Nat.le_of_eq rfl) (hb hby at_152) (fun _ _ => ⟨rfl, rfl, (by decide : 7 + 0 ≤ _), (by decide : 25 + 0 ≤ _)⟩)
    dsimp only [Pt.U, Pt.locs, Pt.cells, Pt.slots] at X9 l9 y9 z9 st9 hQ9
    subst l9 y9 z9
    obtain ⟨rfl, Nq9, eq9⟩ := hQ9
    replace N0 := Fr.app N0 Nq9
    refine Out.to (g' := (mkF m 155 #[.val (.int p0), .val (.int p1), .val (.int p2), .val (.long p3), .second, .val (.int (Int32.ofNat kN)), .val (.ref xs), .val (.int (0 : Int32)), .val (.int (Int32.ofNat mN)), .val .null, .val (.ref pd), .val (.ref pk), .val (.long (((1 : Int64) + ((Int32.ofNat kN).toInt64)) + (0 : Int64))), .second, .val (.ref pj)] [(.long ((0 : Int64) + (1 : Int64) + (Int32.ofNat cs.length + (0 : Int32)).toInt64))])) st9 ?_
    refine Out.via (g' := (mkF m 156 #[.val (.int p0), .val (.int p1), .val (.int p2), .val (.long p3), .second, .val (.int (Int32.ofNat kN)), .val (.ref xs), .val (.int (0 : Int32)), .val (.int (Int32.ofNat mN)), .val .null, .val (.ref pd), .val (.ref pk), .val (.long (((1 : Int64) + ((Int32.ofNat kN).toInt64)) + (0 : Int64))), .second, .val (.ref pj)] [(.long (1 : Int64)), (.long ((0 : Int64) + (1 : Int64) + (Int32.ofNat cs.length + (0 : Int32)).toInt64))])) (fun _ k => XS.lconst X9.here hx rfl (hb hby at_155) k) ?_
    refine Out.via (g' := (mkF m 158 #[.val (.int p0), .val (.int p1), .val (.int p2), .val (.long p3), .second, .val (.int (Int32.ofNat kN)), .val (.ref xs), .val (.int (0 : Int32)), .val (.int (Int32.ofNat mN)), .val .null, .val (.ref pd), .val (.ref pk), .val (.long (((1 : Int64) + ((Int32.ofNat kN).toInt64)) + (0 : Int64))), .second, .val (.ref pj)] [(.int (Int32.ofNat kN)), (.long (1 : Int64)), (.long ((0 : Int64) + (1 : Int64) + (Int32.ofNat cs.length + (0 : Int32)).toInt64))])) (fun _ k => XS.iload X9.here hx rfl (hb hby at_156) rfl k) ?_
    refine Out.via (g' := (mkF m 159 #[.val (.int p0), .val (.int p1), .val (.int p2), .val (.long p3), .second, .val (.int (Int32.ofNat kN)), .val (.ref xs), .val (.int (0 : Int32)), .val (.int (Int32.ofNat mN)), .val .null, .val (.ref pd), .val (.ref pk), .val (.long (((1 : Int64) + ((Int32.ofNat kN).toInt64)) + (0 : Int64))), .second, .val (.ref pj)] [(.long ((Int32.ofNat kN).toInt64)), (.long (1 : Int64)), (.long ((0 : Int64) + (1 : Int64) + (Int32.ofNat cs.length + (0 : Int32)).toInt64))])) (fun _ k => XS.i2l X9.here hx rfl (hb hby at_158) rfl k) ?_
    refine Out.via (g' := (mkF m 160 #[.val (.int p0), .val (.int p1), .val (.int p2), .val (.long p3), .second, .val (.int (Int32.ofNat kN)), .val (.ref xs), .val (.int (0 : Int32)), .val (.int (Int32.ofNat mN)), .val .null, .val (.ref pd), .val (.ref pk), .val (.long (((1 : Int64) + ((Int32.ofNat kN).toInt64)) + (0 : Int64))), .second, .val (.ref pj)] [(.long ((1 : Int64) + ((Int32.ofNat kN).toInt64))), (.long ((0 : Int64) + (1 : Int64) + (Int32.ofNat cs.length + (0 : Int32)).toInt64))])) (fun _ k => XS.ladd X9.here hx rfl (hb hby at_159) rfl k) ?_
    refine Out.via (g' := (mkF m 161 #[.val (.int p0), .val (.int p1), .val (.int p2), .val (.long p3), .second, .val (.int (Int32.ofNat kN)), .val (.ref xs), .val (.int (0 : Int32)), .val (.int (Int32.ofNat mN)), .val .null, .val (.ref pd), .val (.ref pk), .val (.long (((1 : Int64) + ((Int32.ofNat kN).toInt64)) + (0 : Int64))), .second, .val (.ref pj)] [(.int (lcmpW ((0 : Int64) + (1 : Int64) + (Int32.ofNat cs.length + (0 : Int32)).toInt64) ((1 : Int64) + ((Int32.ofNat kN).toInt64))))])) (fun _ k => XS.lcmp X9.here hx rfl (hb hby at_160) rfl k) ?_
    refine Out.via (g' := (mkF m 164 #[.val (.int p0), .val (.int p1), .val (.int p2), .val (.long p3), .second, .val (.int (Int32.ofNat kN)), .val (.ref xs), .val (.int (0 : Int32)), .val (.int (Int32.ofNat mN)), .val .null, .val (.ref pd), .val (.ref pk), .val (.long (((1 : Int64) + ((Int32.ofNat kN).toInt64)) + (0 : Int64))), .second, .val (.ref pj)] [])) (fun _ k => XS.ifNo X9.here hx rfl (hb hby at_161) rfl ((if0 _ _).trans (teq (own_l0 (by rw [len_xs]; exact own_v1 ⟨kN, hkN⟩))).2) k) ?_
    refine Out.via (g' := (mkF m 165 #[.val (.int p0), .val (.int p1), .val (.int p2), .val (.long p3), .second, .val (.int (Int32.ofNat kN)), .val (.ref xs), .val (.int (0 : Int32)), .val (.int (Int32.ofNat mN)), .val .null, .val (.ref pd), .val (.ref pk), .val (.long (((1 : Int64) + ((Int32.ofNat kN).toInt64)) + (0 : Int64))), .second, .val (.ref pj)] [(.int (1 : Int32))])) (fun _ k => XS.iconst X9.here hx rfl (hb hby at_164) k) ?_
    refine Out.via (g' := (mkF m 169 #[.val (.int p0), .val (.int p1), .val (.int p2), .val (.long p3), .second, .val (.int (Int32.ofNat kN)), .val (.ref xs), .val (.int (0 : Int32)), .val (.int (Int32.ofNat mN)), .val .null, .val (.ref pd), .val (.ref pk), .val (.long (((1 : Int64) + ((Int32.ofNat kN).toInt64)) + (0 : Int64))), .second, .val (.ref pj)] [(.int (1 : Int32))])) (fun _ k => XS.goto X9.here hx rfl (pc0 := 165) (pc' := 169) rfl (hb hby at_165) (by decide) (by decide) k) ?_
    exact Out.endW X9 hS (by rw [eq9]; exact hk) (fun h => by rw [Bd.returns] at h; cases h) Bd.notSynchronized (by decide) (by decide) (⟨rfl, N0⟩) (fun fs hr => Jvm.RoadKit.retN X9 hx (t := .boolean) Bd.returns (by simp) (hb hby at_169) hr)
  · refine Out.via (g' := (mkF m 21 #[.val (.int p0), .val (.int p1), .val (.int p2), .val (.long p3), .second, .val (.int (Int32.ofNat kN)), .val (.ref xs), .unset, .unset, .unset, .unset, .unset, .unset, .unset, .unset] [])) (fun _ k => XS.ifNo X1.here hx rfl (hb hby at_18) rfl ((if0 _ _).trans (feq hf).1) k) ?_
    refine Out.via (g' := (mkF m 22 #[.val (.int p0), .val (.int p1), .val (.int p2), .val (.long p3), .second, .val (.int (Int32.ofNat kN)), .val (.ref xs), .unset, .unset, .unset, .unset, .unset, .unset, .unset, .unset] [(.int (1 : Int32))])) (fun _ k => XS.iconst X1.here hx rfl (hb hby at_21) k) ?_
    refine Out.via (g' := (mkF m 26 #[.val (.int p0), .val (.int p1), .val (.int p2), .val (.long p3), .second, .val (.int (Int32.ofNat kN)), .val (.ref xs), .unset, .unset, .unset, .unset, .unset, .unset, .unset, .unset] [(.int (1 : Int32))])) (fun _ k => XS.goto X1.here hx rfl (pc0 := 22) (pc' := 26) rfl (hb hby at_22) (by decide) (by decide) k) ?_
    refine Out.via (g' := (mkF m 28 #[.val (.int p0), .val (.int p1), .val (.int p2), .val (.long p3), .second, .val (.int (Int32.ofNat kN)), .val (.ref xs), .val (.int (1 : Int32)), .unset, .unset, .unset, .unset, .unset, .unset, .unset] [])) (fun _ k => XS.istore X1.here hx rfl (hb hby at_26) rfl (l' := #[.val (.int p0), .val (.int p1), .val (.int p2), .val (.long p3), .second, .val (.int (Int32.ofNat kN)), .val (.ref xs), .val (.int (1 : Int32)), .unset, .unset, .unset, .unset, .unset, .unset, .unset]) rfl k) ?_
    refine Out.via (g' := (mkF m 29 #[.val (.int p0), .val (.int p1), .val (.int p2), .val (.long p3), .second, .val (.int (Int32.ofNat kN)), .val (.ref xs), .val (.int (1 : Int32)), .unset, .unset, .unset, .unset, .unset, .unset, .unset] [(.int p2)])) (fun _ k => XS.iloadN X1.here hx rfl (hb hby at_28) rfl k) ?_
    refine Out.via (g' := (mkF m 30 #[.val (.int p0), .val (.int p1), .val (.int p2), .val (.long p3), .second, .val (.int (Int32.ofNat kN)), .val (.ref xs), .val (.int (1 : Int32)), .unset, .unset, .unset, .unset, .unset, .unset, .unset] [(.int (1 : Int32)), (.int p2)])) (fun _ k => XS.iconst X1.here hx rfl (hb hby at_29) k) ?_
    refine Out.via (g' := (mkF m 31 #[.val (.int p0), .val (.int p1), .val (.int p2), .val (.long p3), .second, .val (.int (Int32.ofNat kN)), .val (.ref xs), .val (.int (1 : Int32)), .unset, .unset, .unset, .unset, .unset, .unset, .unset] [(.int ((p2.toUInt32 >>> ((1 : Int32) &&& 31).toUInt32).toInt32))])) (fun _ k => XS.iushr X1.here hx rfl (hb hby at_30) rfl k) ?_
    refine Out.via (g' := (mkF m 32 #[.val (.int p0), .val (.int p1), .val (.int p2), .val (.long p3), .second, .val (.int (Int32.ofNat kN)), .val (.ref xs), .val (.int (1 : Int32)), .unset, .unset, .unset, .unset, .unset, .unset, .unset] [(.int (3 : Int32)), (.int ((p2.toUInt32 >>> ((1 : Int32) &&& 31).toUInt32).toInt32))])) (fun _ k => XS.iconst X1.here hx rfl (hb hby at_31) k) ?_
    refine Out.via (g' := (mkF m 33 #[.val (.int p0), .val (.int p1), .val (.int p2), .val (.long p3), .second, .val (.int (Int32.ofNat kN)), .val (.ref xs), .val (.int (1 : Int32)), .unset, .unset, .unset, .unset, .unset, .unset, .unset] [(.int (((p2.toUInt32 >>> ((1 : Int32) &&& 31).toUInt32).toInt32) &&& (3 : Int32)))])) (fun _ k => XS.iand X1.here hx rfl (hb hby at_32) rfl k) ?_
    refine Out.via (g' := (mkF m 35 #[.val (.int p0), .val (.int p1), .val (.int p2), .val (.long p3), .second, .val (.int (Int32.ofNat kN)), .val (.ref xs), .val (.int (1 : Int32)), .val (.int (((p2.toUInt32 >>> ((1 : Int32) &&& 31).toUInt32).toInt32) &&& (3 : Int32))), .unset, .unset, .unset, .unset, .unset, .unset] [])) (fun _ k => XS.istore X1.here hx rfl (hb hby at_33) rfl (l' := #[.val (.int p0), .val (.int p1), .val (.int p2), .val (.long p3), .second, .val (.int (Int32.ofNat kN)), .val (.ref xs), .val (.int (1 : Int32)), .val (.int (((p2.toUInt32 >>> ((1 : Int32) &&& 31).toUInt32).toInt32) &&& (3 : Int32))), .unset, .unset, .unset, .unset, .unset, .unset]) rfl k) ?_
    obtain ⟨mN, hmN, hm⟩ := own_and3 ((p2.toUInt32 >>> ((1 : Int32) &&& 31).toUInt32).toInt32)
    rw [hm]
    refine Out.via (g' := (mkF m 37 #[.val (.int p0), .val (.int p1), .val (.int p2), .val (.long p3), .second, .val (.int (Int32.ofNat kN)), .val (.ref xs), .val (.int (1 : Int32)), .val (.int (Int32.ofNat mN)), .unset, .unset, .unset, .unset, .unset, .unset] [(.int (1 : Int32))])) (fun _ k => XS.iload X1.here hx rfl (hb hby at_35) rfl k) ?_
    refine Out.via (g' := (mkF m 40 #[.val (.int p0), .val (.int p1), .val (.int p2), .val (.long p3), .second, .val (.int (Int32.ofNat kN)), .val (.ref xs), .val (.int (1 : Int32)), .val (.int (Int32.ofNat mN)), .unset, .unset, .unset, .unset, .unset, .unset] [])) (fun _ k => XS.ifNo X1.here hx rfl (hb hby at_37) rfl ((if0 _ _).trans (feq (by decide)).1) k) ?_
    refine Out.via (g' := (mkF m 42 #[.val (.int p0), .val (.int p1), .val (.int p2), .val (.long p3), .second, .val (.int (Int32.ofNat kN)), .val (.ref xs), .val (.int (1 : Int32)), .val (.int (Int32.ofNat mN)), .unset, .unset, .unset, .unset, .unset, .unset] [(.int (Int32.ofNat mN))])) (fun _ k => XS.iload X1.here hx rfl (hb hby at_40) rfl k) ?_
    refine Out.via (g' := (mkF m 43 #[.val (.int p0), .val (.int p1), .val (.int p2), .val (.long p3), .second, .val (.int (Int32.ofNat kN)), .val (.ref xs), .val (.int (1 : Int32)), .val (.int (Int32.ofNat mN)), .unset, .unset, .unset, .unset, .unset, .unset] [(.int p1), (.int (Int32.ofNat mN))])) (fun _ k => XS.iloadN X1.here hx rfl (hb hby at_42) rfl k) ?_
    obtain ⟨_, _, ⟨T2, L2, kc2, ks2⟩, -, X2, hS2, hg2, ⟨Lc2, hQ2, l2, y2, z2, CR2⟩, st2⟩ := callSS X1 hx (y := (⟨"com/example/faultwright/faultwright/PlaceDocumentPinLaw", "drawn", "(II)Ljava/lang/String;"⟩ : MethodName)) hown (mvT hZ (hw _ (List.mem_of_getElem? (i := 0) rfl))) (mvT hZ (hw _ (List.mem_of_getElem? (i := 1) rfl))) (mvT hZ (hw _ (List.mem_of_getElem? (i := 2) rfl))) (mvT hZ (hw _ (List.mem_of_getElem? (i := 3) rfl))) (by decide) (backOfSH (W := 0) (own_rm1 l Z a0 hw [] (Int32.ofNat mN) p1 G1 mN T1.heap n0 O hmN rfl O2 P5) hZ (hw _ (List.mem_of_getElem? (i := 3) rfl)) (hw _ (List.mem_of_getElem? (i := 2) rfl)) (by decide) (by decide) hEL CR.1) (g := (mkF m 43 #[.val (.int p0), .val (.int p1), .val (.int p2), .val (.long p3), .second, .val (.int (Int32.ofNat kN)), .val (.ref xs), .val (.int (1 : Int32)), .val (.int (Int32.ofNat mN)), .unset, .unset, .unset, .unset, .unset, .unset] [(.int p1), (.int (Int32.ofNat mN))])) rfl (by rw [hml]; rfl) (argsL := [(.int (Int32.ofNat mN)), (.int p1)]) (rest := []) (lenOf own_pd13 rfl) rfl (by show 2 * 0 + _ ≤ _; exact Nat.le_of_eq rfl) (hb hby at_43) (fun _ _ => ⟨rfl, rfl, (by decide : 4 + 4 ≤ _), (by decide : 10 + 10 ≤ _)⟩)
    dsimp only [Pt.U, Pt.locs, Pt.cells, Pt.slots] at X2 l2 y2 z2 st2 hQ2 hS2 hg2 CR2
    subst l2 y2 z2
    obtain ⟨X2, hS, hZ, hown⟩ := rebS hS hk X2 hS2 hg2 hZ hown
    replace hk := Nat.le_refl T2.heap.size
    replace CR := CR.trans CR2
    obtain ⟨xl, ds, rfl, Nq2, Kq2, le_xl, len_xl, Sq_xl⟩ := hQ2
    replace N0 := Fr.app N0 Nq2
    replace O := O.keep Kq2 all0
    replace Sq_xs := Sq_xs.keep Kq2
    refine Out.to (g' := (mkF m 46 #[.val (.int p0), .val (.int p1), .val (.int p2), .val (.long p3), .second, .val (.int (Int32.ofNat kN)), .val (.ref xs), .val (.int (1 : Int32)), .val (.int (Int32.ofNat mN)), .unset, .unset, .unset, .unset, .unset, .unset] [(.ref xl)])) st2 ?_
    refine Out.via (g' := (mkF m 50 #[.val (.int p0), .val (.int p1), .val (.int p2), .val (.long p3), .second, .val (.int (Int32.ofNat kN)), .val (.ref xs), .val (.int (1 : Int32)), .val (.int (Int32.ofNat mN)), .unset, .unset, .unset, .unset, .unset, .unset] [(.ref xl)])) (fun _ k => XS.goto X2.here hx rfl (pc0 := 46) (pc' := 50) rfl (hb hby at_46) (by decide) (by decide) k) ?_
    refine Out.via (g' := (mkF m 52 #[.val (.int p0), .val (.int p1), .val (.int p2), .val (.long p3), .second, .val (.int (Int32.ofNat kN)), .val (.ref xs), .val (.int (1 : Int32)), .val (.int (Int32.ofNat mN)), .val (.ref xl), .unset, .unset, .unset, .unset, .unset] [])) (fun _ k => XS.astore X2.here hx rfl (hb hby at_50) rfl rfl (l' := #[.val (.int p0), .val (.int p1), .val (.int p2), .val (.long p3), .second, .val (.int (Int32.ofNat kN)), .val (.ref xs), .val (.int (1 : Int32)), .val (.int (Int32.ofNat mN)), .val (.ref xl), .unset, .unset, .unset, .unset, .unset]) rfl k) ?_
    obtain ⟨_, _, ⟨T3, L3, kc3, ks3⟩, -, X3, ⟨Lc3, hQ3, l3, y3, z3⟩, st3⟩ := Jvm.LawKit.callS X2 hx (y := (⟨"com/example/faultwright/faultwright/Place", "document", "()Lcom/example/faultwright/faultwright/Place;"⟩ : MethodName)) hown (mvT hZ (hw _ (List.mem_of_getElem? (i := 26) rfl))) (mvT hZ (hw _ (List.mem_of_getElem? (i := 27) rfl))) (mvT hZ (hw _ (List.mem_of_getElem? (i := 28) rfl))) (mvT hZ (hw _ (List.mem_of_getElem? (i := 29) rfl))) (by decide) (backOf (W := 0) (own_rm5 l Z a0 hw [] T2.heap n0 O) hZ (hw _ (List.mem_of_getElem? (i := 29) rfl)) (hw _ (List.mem_of_getElem? (i := 28) rfl)) (by decide) (by decide)) (g := (mkF m 52 #[.val (.int p0), .val (.int p1), .val (.int p2), .val (.long p3), .second, .val (.int (Int32.ofNat kN)), .val (.ref xs), .val (.int (1 : Int32)), .val (.int (Int32.ofNat mN)), .val (.ref xl), .unset, .unset, .unset, .unset, .unset] [])) rfl (by rw [hml]; rfl) (argsL := []) (rest := []) (lenOf own_pd14 rfl) rfl (by show 2 * 0 + _ ≤ _; exact Nat.le_of_eq rfl) (hb hby at_52) (fun _ _ => ⟨rfl, rfl, (by decide : 8 + 1 ≤ _), (by decide : 20 + 5 ≤ _)⟩)
    dsimp only [Pt.U, Pt.locs, Pt.cells, Pt.slots] at X3 l3 y3 z3 st3 hQ3
    subst l3 y3 z3
    obtain ⟨pd, rfl, Nq3, Kq3, le_pd, E_pd, P_pd, O_pd, L_pd⟩ := hQ3
    replace N0 := Fr.app N0 Nq3
    replace hk : _ ≤ T3.heap.size := Nat.le_trans hk Kq3.1
    replace Sq_xs := Sq_xs.keep Kq3
    replace Sq_xl := Sq_xl.keep Kq3
    replace O := O.keep Kq3 all0
    refine Out.via (g' := (mkF m 55 #[.val (.int p0), .val (.int p1), .val (.int p2), .val (.long p3), .second, .val (.int (Int32.ofNat kN)), .val (.ref xs), .val (.int (1 : Int32)), .val (.int (Int32.ofNat mN)), .val (.ref xl), .unset, .unset, .unset, .unset, .unset] [(.ref pd)])) st3 ?_
    refine Out.via (g' := (mkF m 57 #[.val (.int p0), .val (.int p1), .val (.int p2), .val (.long p3), .second, .val (.int (Int32.ofNat kN)), .val (.ref xs), .val (.int (1 : Int32)), .val (.int (Int32.ofNat mN)), .val (.ref xl), .val (.ref pd), .unset, .unset, .unset, .unset] [])) (fun _ k => XS.astore X3.here hx rfl (hb hby at_55) rfl rfl (l' := #[.val (.int p0), .val (.int p1), .val (.int p2), .val (.long p3), .second, .val (.int (Int32.ofNat kN)), .val (.ref xs), .val (.int (1 : Int32)), .val (.int (Int32.ofNat mN)), .val (.ref xl), .val (.ref pd), .unset, .unset, .unset, .unset]) rfl k) ?_
    refine Out.via (g' := (mkF m 59 #[.val (.int p0), .val (.int p1), .val (.int p2), .val (.long p3), .second, .val (.int (Int32.ofNat kN)), .val (.ref xs), .val (.int (1 : Int32)), .val (.int (Int32.ofNat mN)), .val (.ref xl), .val (.ref pd), .unset, .unset, .unset, .unset] [(.ref pd)])) (fun _ k => XS.aload X3.here hx rfl (hb hby at_57) rfl rfl k) ?_
    obtain ⟨cq4, kq4, q4a, q4b, q4c⟩ := isOf hZ rfl E_pd
    obtain ⟨_, _, ⟨T4, L4, kc4, ks4⟩, -, X4, ⟨Lc4, hQ4, l4, y4, z4⟩, st4⟩ := X3.virtualBack hx (y := (⟨"com/example/faultwright/faultwright/Place", "getOrder", "()J"⟩ : MethodName)) (z := (⟨"com/example/faultwright/faultwright/Place", "getOrder", "()J"⟩ : MethodName)) hown (mvT hZ (hw _ (List.mem_of_getElem? (i := 46) rfl))) (mvT hZ (hw _ (List.mem_of_getElem? (i := 47) rfl))) (notFace_of_selects (args := #[]) (mvT hZ (hw _ (List.mem_of_getElem? (i := 49) rfl)))) (mvT hZ (hw _ (List.mem_of_getElem? (i := 49) rfl))) (mvT hZ (hw _ (List.mem_of_getElem? (i := 48) rfl))) (by decide) (backOf (W := 0) (own_rm7 l Z a0 hw [] pd (0 : Int64) T3.heap n0 O O_pd) hZ (hw _ (List.mem_of_getElem? (i := 50) rfl)) (hw _ (List.mem_of_getElem? (i := 28) rfl)) (by decide) (by decide)) q4a q4c (g := (mkF m 59 #[.val (.int p0), .val (.int p1), .val (.int p2), .val (.long p3), .second, .val (.int (Int32.ofNat kN)), .val (.ref xs), .val (.int (1 : Int32)), .val (.int (Int32.ofNat mN)), .val (.ref xl), .val (.ref pd), .unset, .unset, .unset, .unset] [(.ref pd)])) rfl (by rw [hml]; rfl) (Steps.refl _) (argsL := []) (rest := []) (lenOf own_pd15 rfl) rfl (by show 2 * 0 + _ ≤ _; exact Nat.le_of_eq rfl) (hb hby at_59) (fun _ _ => ⟨rfl, rfl, (by decide : 9 + 0 ≤ _), (by decide : 25 + 0 ≤ _)⟩)
    dsimp only [Pt.U, Pt.locs, Pt.cells, Pt.slots] at X4 l4 y4 z4 st4 hQ4
    subst l4 y4 z4
    obtain ⟨rfl, Nq4, eq4⟩ := hQ4
    replace N0 := Fr.app N0 Nq4
    refine Out.to (g' := (mkF m 62 #[.val (.int p0), .val (.int p1), .val (.int p2), .val (.long p3), .second, .val (.int (Int32.ofNat kN)), .val (.ref xs), .val (.int (1 : Int32)), .val (.int (Int32.ofNat mN)), .val (.ref xl), .val (.ref pd), .unset, .unset, .unset, .unset] [(.long (0 : Int64))])) st4 ?_
    refine Out.via (g' := (mkF m 63 #[.val (.int p0), .val (.int p1), .val (.int p2), .val (.long p3), .second, .val (.int (Int32.ofNat kN)), .val (.ref xs), .val (.int (1 : Int32)), .val (.int (Int32.ofNat mN)), .val (.ref xl), .val (.ref pd), .unset, .unset, .unset, .unset] [(.long (0 : Int64)), (.long (0 : Int64))])) (fun _ k => XS.lconst X4.here hx rfl (hb hby at_62) k) ?_
    refine Out.via (g' := (mkF m 64 #[.val (.int p0), .val (.int p1), .val (.int p2), .val (.long p3), .second, .val (.int (Int32.ofNat kN)), .val (.ref xs), .val (.int (1 : Int32)), .val (.int (Int32.ofNat mN)), .val (.ref xl), .val (.ref pd), .unset, .unset, .unset, .unset] [(.int (lcmpW (0 : Int64) (0 : Int64)))])) (fun _ k => XS.lcmp X4.here hx rfl (hb hby at_63) rfl k) ?_
    refine Out.via (g' := (mkF m 69 #[.val (.int p0), .val (.int p1), .val (.int p2), .val (.long p3), .second, .val (.int (Int32.ofNat kN)), .val (.ref xs), .val (.int (1 : Int32)), .val (.int (Int32.ofNat mN)), .val (.ref xl), .val (.ref pd), .unset, .unset, .unset, .unset] [])) (fun _ k => XS.ifYes X4.here hx rfl (pc0 := 64) (pc' := 69) rfl (hb hby at_64) rfl ((if0 _ _).trans (teq (own_l0 rfl)).1) (by decide) (by decide) k) ?_
    refine Out.via (g' := (mkF m 71 #[.val (.int p0), .val (.int p1), .val (.int p2), .val (.long p3), .second, .val (.int (Int32.ofNat kN)), .val (.ref xs), .val (.int (1 : Int32)), .val (.int (Int32.ofNat mN)), .val (.ref xl), .val (.ref pd), .unset, .unset, .unset, .unset] [(.ref pd)])) (fun _ k => XS.aload X4.here hx rfl (hb hby at_69) rfl rfl k) ?_
    obtain ⟨cq5, kq5, q5a, q5b, q5c⟩ := isOf hZ eq4 E_pd
    obtain ⟨_, _, ⟨T5, L5, kc5, ks5⟩, -, X5, ⟨Lc5, hQ5, l5, y5, z5⟩, st5⟩ := X4.virtualBack hx (y := (⟨"com/example/faultwright/faultwright/Place", "pathLength", "()J"⟩ : MethodName)) (z := (⟨"com/example/faultwright/faultwright/Place", "pathLength", "()J"⟩ : MethodName)) hown (mvT hZ (hw _ (List.mem_of_getElem? (i := 51) rfl))) (mvT hZ (hw _ (List.mem_of_getElem? (i := 52) rfl))) (notFace_of_selects (args := #[]) (mvT hZ (hw _ (List.mem_of_getElem? (i := 54) rfl)))) (mvT hZ (hw _ (List.mem_of_getElem? (i := 54) rfl))) (mvT hZ (hw _ (List.mem_of_getElem? (i := 53) rfl))) (by decide) (backOf (W := 0) (own_rm8 l Z a0 hw [] pd (1 : Int64) T3.heap n0 O L_pd) hZ (hw _ (List.mem_of_getElem? (i := 55) rfl)) (hw _ (List.mem_of_getElem? (i := 28) rfl)) (by decide) (by decide)) q5a q5c (g := (mkF m 71 #[.val (.int p0), .val (.int p1), .val (.int p2), .val (.long p3), .second, .val (.int (Int32.ofNat kN)), .val (.ref xs), .val (.int (1 : Int32)), .val (.int (Int32.ofNat mN)), .val (.ref xl), .val (.ref pd), .unset, .unset, .unset, .unset] [(.ref pd)])) rfl (by rw [hml]; rfl) (Steps.refl _) (argsL := []) (rest := []) (lenOf own_pd15 rfl) rfl (by show 2 * 0 + _ ≤ _; exact Nat.le_of_eq rfl) (hb hby at_71) (fun _ _ => ⟨rfl, eq4, (by decide : 9 + 0 ≤ _), (by decide : 25 + 0 ≤ _)⟩)
    dsimp only [Pt.U, Pt.locs, Pt.cells, Pt.slots] at X5 l5 y5 z5 st5 hQ5
    subst l5 y5 z5
    obtain ⟨rfl, Nq5, eq5⟩ := hQ5
    replace N0 := Fr.app N0 Nq5
    refine Out.to (g' := (mkF m 74 #[.val (.int p0), .val (.int p1), .val (.int p2), .val (.long p3), .second, .val (.int (Int32.ofNat kN)), .val (.ref xs), .val (.int (1 : Int32)), .val (.int (Int32.ofNat mN)), .val (.ref xl), .val (.ref pd), .unset, .unset, .unset, .unset] [(.long (1 : Int64))])) st5 ?_
    refine Out.via (g' := (mkF m 75 #[.val (.int p0), .val (.int p1), .val (.int p2), .val (.long p3), .second, .val (.int (Int32.ofNat kN)), .val (.ref xs), .val (.int (1 : Int32)), .val (.int (Int32.ofNat mN)), .val (.ref xl), .val (.ref pd), .unset, .unset, .unset, .unset] [(.long (1 : Int64)), (.long (1 : Int64))])) (fun _ k => XS.lconst X5.here hx rfl (hb hby at_74) k) ?_
    refine Out.via (g' := (mkF m 76 #[.val (.int p0), .val (.int p1), .val (.int p2), .val (.long p3), .second, .val (.int (Int32.ofNat kN)), .val (.ref xs), .val (.int (1 : Int32)), .val (.int (Int32.ofNat mN)), .val (.ref xl), .val (.ref pd), .unset, .unset, .unset, .unset] [(.int (lcmpW (1 : Int64) (1 : Int64)))])) (fun _ k => XS.lcmp X5.here hx rfl (hb hby at_75) rfl k) ?_
    refine Out.via (g' := (mkF m 81 #[.val (.int p0), .val (.int p1), .val (.int p2), .val (.long p3), .second, .val (.int (Int32.ofNat kN)), .val (.ref xs), .val (.int (1 : Int32)), .val (.int (Int32.ofNat mN)), .val (.ref xl), .val (.ref pd), .unset, .unset, .unset, .unset] [])) (fun _ k => XS.ifYes X5.here hx rfl (pc0 := 76) (pc' := 81) rfl (hb hby at_76) rfl ((if0 _ _).trans (teq (own_l0 rfl)).1) (by decide) (by decide) k) ?_
    refine Out.via (g' := (mkF m 83 #[.val (.int p0), .val (.int p1), .val (.int p2), .val (.long p3), .second, .val (.int (Int32.ofNat kN)), .val (.ref xs), .val (.int (1 : Int32)), .val (.int (Int32.ofNat mN)), .val (.ref xl), .val (.ref pd), .unset, .unset, .unset, .unset] [(.ref pd)])) (fun _ k => XS.aload X5.here hx rfl (hb hby at_81) rfl rfl k) ?_
    refine Out.via (g' := (mkF m 85 #[.val (.int p0), .val (.int p1), .val (.int p2), .val (.long p3), .second, .val (.int (Int32.ofNat kN)), .val (.ref xs), .val (.int (1 : Int32)), .val (.int (Int32.ofNat mN)), .val (.ref xl), .val (.ref pd), .unset, .unset, .unset, .unset] [(.ref xs), (.ref pd)])) (fun _ k => XS.aload X5.here hx rfl (hb hby at_83) rfl rfl k) ?_
    refine Out.via (g' := (mkF m 87 #[.val (.int p0), .val (.int p1), .val (.int p2), .val (.long p3), .second, .val (.int (Int32.ofNat kN)), .val (.ref xs), .val (.int (1 : Int32)), .val (.int (Int32.ofNat mN)), .val (.ref xl), .val (.ref pd), .unset, .unset, .unset, .unset] [(.ref xl), (.ref xs), (.ref pd)])) (fun _ k => XS.aload X5.here hx rfl (hb hby at_85) rfl rfl k) ?_
    refine Out.via (g' := (mkF m 88 #[.val (.int p0), .val (.int p1), .val (.int p2), .val (.long p3), .second, .val (.int (Int32.ofNat kN)), .val (.ref xs), .val (.int (1 : Int32)), .val (.int (Int32.ofNat mN)), .val (.ref xl), .val (.ref pd), .unset, .unset, .unset, .unset] [(.long p3), (.ref xl), (.ref xs), (.ref pd)])) (fun _ k => XS.lloadN X5.here hx rfl (hb hby at_87) rfl k) ?_
    have lnn : cs.length < 4 := by omega
    have lnl : ds.length < 4 := by omega
    obtain ⟨cq6, kq6, q6a, q6b, q6c⟩ := isOf hZ eq5 E_pd
    obtain ⟨_, _, ⟨T6, L6, kc6, ks6⟩, -, X6, ⟨Lc6, hQ6, l6, y6, z6⟩, st6⟩ := X5.virtualBack hx (y := (⟨"com/example/faultwright/faultwright/Place", "child", "(Ljava/lang/String;Ljava/lang/String;J)Lcom/example/faultwright/faultwright/Place;"⟩ : MethodName)) (z := (⟨"com/example/faultwright/faultwright/Place", "child", "(Ljava/lang/String;Ljava/lang/String;J)Lcom/example/faultwright/faultwright/Place;"⟩ : MethodName)) hown (mvT hZ (hw _ (List.mem_of_getElem? (i := 56) rfl))) (mvT hZ (hw _ (List.mem_of_getElem? (i := 57) rfl))) (notFace_of_selects (args := #[]) (mvT hZ (hw _ (List.mem_of_getElem? (i := 59) rfl)))) (mvT hZ (hw _ (List.mem_of_getElem? (i := 59) rfl))) (mvT hZ (hw _ (List.mem_of_getElem? (i := 58) rfl))) (by decide) (backOf (W := 0) (own_rm9L l Z a0 hw [] pd xs xl cs ds p3 G1 T3.heap n0 O E_pd P_pd Sq_xs lnn O2 P5 Sq_xl lnl) hZ (hw _ (List.mem_of_getElem? (i := 60) rfl)) (hw _ (List.mem_of_getElem? (i := 28) rfl)) (by decide) (by decide)) q6a q6c (g := (mkF m 88 #[.val (.int p0), .val (.int p1), .val (.int p2), .val (.long p3), .second, .val (.int (Int32.ofNat kN)), .val (.ref xs), .val (.int (1 : Int32)), .val (.int (Int32.ofNat mN)), .val (.ref xl), .val (.ref pd), .unset, .unset, .unset, .unset] [(.long p3), (.ref xl), (.ref xs), (.ref pd)])) rfl (by rw [hml]; rfl) (Steps.refl _) (argsL := [(.ref xs), (.ref xl), (.long p3)]) (rest := []) (lenOf own_pd12 rfl) rfl (by show 2 * 0 + _ ≤ _; exact Nat.le_of_eq rfl) (hb hby at_88) (fun _ _ => ⟨rfl, eq5, (by decide : 9 + 1 ≤ _), (by decide : 25 + 5 ≤ _)⟩)
    dsimp only [Pt.U, Pt.locs, Pt.cells, Pt.slots] at X6 l6 y6 z6 st6 hQ6
    subst l6 y6 z6
    obtain ⟨pk, rfl, Nq6, Kq6, le_pk, E_pk, P_pk, O_pk, L_pk⟩ := hQ6
    replace N0 := Fr.app N0 Nq6
    replace hk : _ ≤ T6.heap.size := Nat.le_trans hk Kq6.1
    replace Sq_xs := Sq_xs.keep Kq6
    replace Sq_xl := Sq_xl.keep Kq6
    replace P_pd := P_pd.keep Kq6 nin0
    replace O_pd := O_pd.keep Kq6 nin0
    replace L_pd := L_pd.keep Kq6 nin0
    replace E_pd := E_pd.keep Kq6
    replace O := O.keep Kq6 all0
    refine Out.to (g' := (mkF m 91 #[.val (.int p0), .val (.int p1), .val (.int p2), .val (.long p3), .second, .val (.int (Int32.ofNat kN)), .val (.ref xs), .val (.int (1 : Int32)), .val (.int (Int32.ofNat mN)), .val (.ref xl), .val (.ref pd), .unset, .unset, .unset, .unset] [(.ref pk)])) st6 ?_
    refine Out.via (g' := (mkF m 93 #[.val (.int p0), .val (.int p1), .val (.int p2), .val (.long p3), .second, .val (.int (Int32.ofNat kN)), .val (.ref xs), .val (.int (1 : Int32)), .val (.int (Int32.ofNat mN)), .val (.ref xl), .val (.ref pd), .val (.ref pk), .unset, .unset, .unset] [])) (fun _ k => XS.astore X6.here hx rfl (hb hby at_91) rfl rfl (l' := #[.val (.int p0), .val (.int p1), .val (.int p2), .val (.long p3), .second, .val (.int (Int32.ofNat kN)), .val (.ref xs), .val (.int (1 : Int32)), .val (.int (Int32.ofNat mN)), .val (.ref xl), .val (.ref pd), .val (.ref pk), .unset, .unset, .unset]) rfl k) ?_
    refine Out.via (g' := (mkF m 94 #[.val (.int p0), .val (.int p1), .val (.int p2), .val (.long p3), .second, .val (.int (Int32.ofNat kN)), .val (.ref xs), .val (.int (1 : Int32)), .val (.int (Int32.ofNat mN)), .val (.ref xl), .val (.ref pd), .val (.ref pk), .unset, .unset, .unset] [(.long (1 : Int64))])) (fun _ k => XS.lconst X6.here hx rfl (hb hby at_93) k) ?_
    refine Out.via (g' := (mkF m 96 #[.val (.int p0), .val (.int p1), .val (.int p2), .val (.long p3), .second, .val (.int (Int32.ofNat kN)), .val (.ref xs), .val (.int (1 : Int32)), .val (.int (Int32.ofNat mN)), .val (.ref xl), .val (.ref pd), .val (.ref pk), .unset, .unset, .unset] [(.int (Int32.ofNat kN)), (.long (1 : Int64))])) (fun _ k => XS.iload X6.here hx rfl (hb hby at_94) rfl k) ?_
    refine Out.via (g' := (mkF m 97 #[.val (.int p0), .val (.int p1), .val (.int p2), .val (.long p3), .second, .val (.int (Int32.ofNat kN)), .val (.ref xs), .val (.int (1 : Int32)), .val (.int (Int32.ofNat mN)), .val (.ref xl), .val (.ref pd), .val (.ref pk), .unset, .unset, .unset] [(.long ((Int32.ofNat kN).toInt64)), (.long (1 : Int64))])) (fun _ k => XS.i2l X6.here hx rfl (hb hby at_96) rfl k) ?_
    refine Out.via (g' := (mkF m 98 #[.val (.int p0), .val (.int p1), .val (.int p2), .val (.long p3), .second, .val (.int (Int32.ofNat kN)), .val (.ref xs), .val (.int (1 : Int32)), .val (.int (Int32.ofNat mN)), .val (.ref xl), .val (.ref pd), .val (.ref pk), .unset, .unset, .unset] [(.long ((1 : Int64) + ((Int32.ofNat kN).toInt64)))])) (fun _ k => XS.ladd X6.here hx rfl (hb hby at_97) rfl k) ?_
    refine Out.via (g' := (mkF m 100 #[.val (.int p0), .val (.int p1), .val (.int p2), .val (.long p3), .second, .val (.int (Int32.ofNat kN)), .val (.ref xs), .val (.int (1 : Int32)), .val (.int (Int32.ofNat mN)), .val (.ref xl), .val (.ref pd), .val (.ref pk), .unset, .unset, .unset] [(.int (1 : Int32)), (.long ((1 : Int64) + ((Int32.ofNat kN).toInt64)))])) (fun _ k => XS.iload X6.here hx rfl (hb hby at_98) rfl k) ?_
    refine Out.via (g' := (mkF m 103 #[.val (.int p0), .val (.int p1), .val (.int p2), .val (.long p3), .second, .val (.int (Int32.ofNat kN)), .val (.ref xs), .val (.int (1 : Int32)), .val (.int (Int32.ofNat mN)), .val (.ref xl), .val (.ref pd), .val (.ref pk), .unset, .unset, .unset] [(.long ((1 : Int64) + ((Int32.ofNat kN).toInt64)))])) (fun _ k => XS.ifNo X6.here hx rfl (hb hby at_100) rfl ((if0 _ _).trans (feq (by decide)).1) k) ?_
    refine Out.via (g' := (mkF m 105 #[.val (.int p0), .val (.int p1), .val (.int p2), .val (.long p3), .second, .val (.int (Int32.ofNat kN)), .val (.ref xs), .val (.int (1 : Int32)), .val (.int (Int32.ofNat mN)), .val (.ref xl), .val (.ref pd), .val (.ref pk), .unset, .unset, .unset] [(.int (Int32.ofNat mN)), (.long ((1 : Int64) + ((Int32.ofNat kN).toInt64)))])) (fun _ k => XS.iload X6.here hx rfl (hb hby at_103) rfl k) ?_
    refine Out.via (g' := (mkF m 106 #[.val (.int p0), .val (.int p1), .val (.int p2), .val (.long p3), .second, .val (.int (Int32.ofNat kN)), .val (.ref xs), .val (.int (1 : Int32)), .val (.int (Int32.ofNat mN)), .val (.ref xl), .val (.ref pd), .val (.ref pk), .unset, .unset, .unset] [(.int (2 : Int32)), (.int (Int32.ofNat mN)), (.long ((1 : Int64) + ((Int32.ofNat kN).toInt64)))])) (fun _ k => XS.iconst X6.here hx rfl (hb hby at_105) k) ?_
    refine Out.via (g' := (mkF m 107 #[.val (.int p0), .val (.int p1), .val (.int p2), .val (.long p3), .second, .val (.int (Int32.ofNat kN)), .val (.ref xs), .val (.int (1 : Int32)), .val (.int (Int32.ofNat mN)), .val (.ref xl), .val (.ref pd), .val (.ref pk), .unset, .unset, .unset] [(.int ((Int32.ofNat mN) + (2 : Int32))), (.long ((1 : Int64) + ((Int32.ofNat kN).toInt64)))])) (fun _ k => XS.iadd X6.here hx rfl (hb hby at_106) rfl k) ?_
    refine Out.via (g' := (mkF m 108 #[.val (.int p0), .val (.int p1), .val (.int p2), .val (.long p3), .second, .val (.int (Int32.ofNat kN)), .val (.ref xs), .val (.int (1 : Int32)), .val (.int (Int32.ofNat mN)), .val (.ref xl), .val (.ref pd), .val (.ref pk), .unset, .unset, .unset] [(.long (((Int32.ofNat mN) + (2 : Int32)).toInt64)), (.long ((1 : Int64) + ((Int32.ofNat kN).toInt64)))])) (fun _ k => XS.i2l X6.here hx rfl (hb hby at_107) rfl k) ?_
    refine Out.via (g' := (mkF m 112 #[.val (.int p0), .val (.int p1), .val (.int p2), .val (.long p3), .second, .val (.int (Int32.ofNat kN)), .val (.ref xs), .val (.int (1 : Int32)), .val (.int (Int32.ofNat mN)), .val (.ref xl), .val (.ref pd), .val (.ref pk), .unset, .unset, .unset] [(.long (((Int32.ofNat mN) + (2 : Int32)).toInt64)), (.long ((1 : Int64) + ((Int32.ofNat kN).toInt64)))])) (fun _ k => XS.goto X6.here hx rfl (pc0 := 108) (pc' := 112) rfl (hb hby at_108) (by decide) (by decide) k) ?_
    refine Out.via (g' := (mkF m 113 #[.val (.int p0), .val (.int p1), .val (.int p2), .val (.long p3), .second, .val (.int (Int32.ofNat kN)), .val (.ref xs), .val (.int (1 : Int32)), .val (.int (Int32.ofNat mN)), .val (.ref xl), .val (.ref pd), .val (.ref pk), .unset, .unset, .unset] [(.long (((1 : Int64) + ((Int32.ofNat kN).toInt64)) + (((Int32.ofNat mN) + (2 : Int32)).toInt64)))])) (fun _ k => XS.ladd X6.here hx rfl (hb hby at_112) rfl k) ?_
    refine Out.via (g' := (mkF m 115 #[.val (.int p0), .val (.int p1), .val (.int p2), .val (.long p3), .second, .val (.int (Int32.ofNat kN)), .val (.ref xs), .val (.int (1 : Int32)), .val (.int (Int32.ofNat mN)), .val (.ref xl), .val (.ref pd), .val (.ref pk), .val (.long (((1 : Int64) + ((Int32.ofNat kN).toInt64)) + (((Int32.ofNat mN) + (2 : Int32)).toInt64))), .second, .unset] [])) (fun _ k => XS.lstore X6.here hx rfl (hb hby at_113) rfl (l' := #[.val (.int p0), .val (.int p1), .val (.int p2), .val (.long p3), .second, .val (.int (Int32.ofNat kN)), .val (.ref xs), .val (.int (1 : Int32)), .val (.int (Int32.ofNat mN)), .val (.ref xl), .val (.ref pd), .val (.ref pk), .val (.long (((1 : Int64) + ((Int32.ofNat kN).toInt64)) + (((Int32.ofNat mN) + (2 : Int32)).toInt64))), .second, .unset]) rfl k) ?_
    refine Out.via (g' := (mkF m 117 #[.val (.int p0), .val (.int p1), .val (.int p2), .val (.long p3), .second, .val (.int (Int32.ofNat kN)), .val (.ref xs), .val (.int (1 : Int32)), .val (.int (Int32.ofNat mN)), .val (.ref xl), .val (.ref pd), .val (.ref pk), .val (.long (((1 : Int64) + ((Int32.ofNat kN).toInt64)) + (((Int32.ofNat mN) + (2 : Int32)).toInt64))), .second, .unset] [(.ref pk)])) (fun _ k => XS.aload X6.here hx rfl (hb hby at_115) rfl rfl k) ?_
    obtain ⟨cq7, kq7, q7a, q7b, q7c⟩ := isOf hZ rfl E_pk
    obtain ⟨_, _, ⟨T7, L7, kc7, ks7⟩, -, X7, ⟨Lc7, hQ7, l7, y7, z7⟩, st7⟩ := X6.virtualBack hx (y := (⟨"com/example/faultwright/faultwright/Place", "getOrder", "()J"⟩ : MethodName)) (z := (⟨"com/example/faultwright/faultwright/Place", "getOrder", "()J"⟩ : MethodName)) hown (mvT hZ (hw _ (List.mem_of_getElem? (i := 46) rfl))) (mvT hZ (hw _ (List.mem_of_getElem? (i := 47) rfl))) (notFace_of_selects (args := #[]) (mvT hZ (hw _ (List.mem_of_getElem? (i := 49) rfl)))) (mvT hZ (hw _ (List.mem_of_getElem? (i := 49) rfl))) (mvT hZ (hw _ (List.mem_of_getElem? (i := 48) rfl))) (by decide) (backOf (W := 0) (own_rm7 l Z a0 hw [] pk p3 T6.heap n0 O O_pk) hZ (hw _ (List.mem_of_getElem? (i := 50) rfl)) (hw _ (List.mem_of_getElem? (i := 28) rfl)) (by decide) (by decide)) q7a q7c (g := (mkF m 117 #[.val (.int p0), .val (.int p1), .val (.int p2), .val (.long p3), .second, .val (.int (Int32.ofNat kN)), .val (.ref xs), .val (.int (1 : Int32)), .val (.int (Int32.ofNat mN)), .val (.ref xl), .val (.ref pd), .val (.ref pk), .val (.long (((1 : Int64) + ((Int32.ofNat kN).toInt64)) + (((Int32.ofNat mN) + (2 : Int32)).toInt64))), .second, .unset] [(.ref pk)])) rfl (by rw [hml]; rfl) (Steps.refl _) (argsL := []) (rest := []) (lenOf own_pd15 rfl) rfl (by show 2 * 0 + _ ≤ _; exact Nat.le_of_eq rfl) (hb hby at_117) (fun _ _ => ⟨rfl, rfl, (by decide : 10 + 0 ≤ _), (by decide : 30 + 0 ≤ _)⟩)
    dsimp only [Pt.U, Pt.locs, Pt.cells, Pt.slots] at X7 l7 y7 z7 st7 hQ7
    subst l7 y7 z7
    obtain ⟨rfl, Nq7, eq7⟩ := hQ7
    replace N0 := Fr.app N0 Nq7
    refine Out.to (g' := (mkF m 120 #[.val (.int p0), .val (.int p1), .val (.int p2), .val (.long p3), .second, .val (.int (Int32.ofNat kN)), .val (.ref xs), .val (.int (1 : Int32)), .val (.int (Int32.ofNat mN)), .val (.ref xl), .val (.ref pd), .val (.ref pk), .val (.long (((1 : Int64) + ((Int32.ofNat kN).toInt64)) + (((Int32.ofNat mN) + (2 : Int32)).toInt64))), .second, .unset] [(.long p3)])) st7 ?_
    refine Out.via (g' := (mkF m 121 #[.val (.int p0), .val (.int p1), .val (.int p2), .val (.long p3), .second, .val (.int (Int32.ofNat kN)), .val (.ref xs), .val (.int (1 : Int32)), .val (.int (Int32.ofNat mN)), .val (.ref xl), .val (.ref pd), .val (.ref pk), .val (.long (((1 : Int64) + ((Int32.ofNat kN).toInt64)) + (((Int32.ofNat mN) + (2 : Int32)).toInt64))), .second, .unset] [(.long p3), (.long p3)])) (fun _ k => XS.lloadN X7.here hx rfl (hb hby at_120) rfl k) ?_
    refine Out.via (g' := (mkF m 122 #[.val (.int p0), .val (.int p1), .val (.int p2), .val (.long p3), .second, .val (.int (Int32.ofNat kN)), .val (.ref xs), .val (.int (1 : Int32)), .val (.int (Int32.ofNat mN)), .val (.ref xl), .val (.ref pd), .val (.ref pk), .val (.long (((1 : Int64) + ((Int32.ofNat kN).toInt64)) + (((Int32.ofNat mN) + (2 : Int32)).toInt64))), .second, .unset] [(.int (lcmpW p3 p3))])) (fun _ k => XS.lcmp X7.here hx rfl (hb hby at_121) rfl k) ?_
    refine Out.via (g' := (mkF m 127 #[.val (.int p0), .val (.int p1), .val (.int p2), .val (.long p3), .second, .val (.int (Int32.ofNat kN)), .val (.ref xs), .val (.int (1 : Int32)), .val (.int (Int32.ofNat mN)), .val (.ref xl), .val (.ref pd), .val (.ref pk), .val (.long (((1 : Int64) + ((Int32.ofNat kN).toInt64)) + (((Int32.ofNat mN) + (2 : Int32)).toInt64))), .second, .unset] [])) (fun _ k => XS.ifYes X7.here hx rfl (pc0 := 122) (pc' := 127) rfl (hb hby at_122) rfl ((if0 _ _).trans (teq (own_l0 rfl)).1) (by decide) (by decide) k) ?_
    refine Out.via (g' := (mkF m 129 #[.val (.int p0), .val (.int p1), .val (.int p2), .val (.long p3), .second, .val (.int (Int32.ofNat kN)), .val (.ref xs), .val (.int (1 : Int32)), .val (.int (Int32.ofNat mN)), .val (.ref xl), .val (.ref pd), .val (.ref pk), .val (.long (((1 : Int64) + ((Int32.ofNat kN).toInt64)) + (((Int32.ofNat mN) + (2 : Int32)).toInt64))), .second, .unset] [(.ref pk)])) (fun _ k => XS.aload X7.here hx rfl (hb hby at_127) rfl rfl k) ?_
    obtain ⟨cq8, kq8, q8a, q8b, q8c⟩ := isOf hZ eq7 E_pk
    obtain ⟨_, _, ⟨T8, L8, kc8, ks8⟩, -, X8, ⟨Lc8, hQ8, l8, y8, z8⟩, st8⟩ := X7.virtualBack hx (y := (⟨"com/example/faultwright/faultwright/Place", "pathLength", "()J"⟩ : MethodName)) (z := (⟨"com/example/faultwright/faultwright/Place", "pathLength", "()J"⟩ : MethodName)) hown (mvT hZ (hw _ (List.mem_of_getElem? (i := 51) rfl))) (mvT hZ (hw _ (List.mem_of_getElem? (i := 52) rfl))) (notFace_of_selects (args := #[]) (mvT hZ (hw _ (List.mem_of_getElem? (i := 54) rfl)))) (mvT hZ (hw _ (List.mem_of_getElem? (i := 54) rfl))) (mvT hZ (hw _ (List.mem_of_getElem? (i := 53) rfl))) (by decide) (backOf (W := 0) (own_rm8 l Z a0 hw [] pk ((0 : Int64) + (1 : Int64) + (Int32.ofNat cs.length + (Int32.ofNat ds.length + (2 : Int32))).toInt64) T6.heap n0 O L_pk) hZ (hw _ (List.mem_of_getElem? (i := 55) rfl)) (hw _ (List.mem_of_getElem? (i := 28) rfl)) (by decide) (by decide)) q8a q8c (g := (mkF m 129 #[.val (.int p0), .val (.int p1), .val (.int p2), .val (.long p3), .second, .val (.int (Int32.ofNat kN)), .val (.ref xs), .val (.int (1 : Int32)), .val (.int (Int32.ofNat mN)), .val (.ref xl), .val (.ref pd), .val (.ref pk), .val (.long (((1 : Int64) + ((Int32.ofNat kN).toInt64)) + (((Int32.ofNat mN) + (2 : Int32)).toInt64))), .second, .unset] [(.ref pk)])) rfl (by rw [hml]; rfl) (Steps.refl _) (argsL := []) (rest := []) (lenOf own_pd15 rfl) rfl (by show 2 * 0 + _ ≤ _; exact Nat.le_of_eq rfl) (hb hby at_129) (fun _ _ => ⟨rfl, eq7, (by decide : 10 + 0 ≤ _), (by decide : 30 + 0 ≤ _)⟩)
    dsimp only [Pt.U, Pt.locs, Pt.cells, Pt.slots] at X8 l8 y8 z8 st8 hQ8
    subst l8 y8 z8
    obtain ⟨rfl, Nq8, eq8⟩ := hQ8
    replace N0 := Fr.app N0 Nq8
    refine Out.to (g' := (mkF m 132 #[.val (.int p0), .val (.int p1), .val (.int p2), .val (.long p3), .second, .val (.int (Int32.ofNat kN)), .val (.ref xs), .val (.int (1 : Int32)), .val (.int (Int32.ofNat mN)), .val (.ref xl), .val (.ref pd), .val (.ref pk), .val (.long (((1 : Int64) + ((Int32.ofNat kN).toInt64)) + (((Int32.ofNat mN) + (2 : Int32)).toInt64))), .second, .unset] [(.long ((0 : Int64) + (1 : Int64) + (Int32.ofNat cs.length + (Int32.ofNat ds.length + (2 : Int32))).toInt64))])) st8 ?_
    refine Out.via (g' := (mkF m 134 #[.val (.int p0), .val (.int p1), .val (.int p2), .val (.long p3), .second, .val (.int (Int32.ofNat kN)), .val (.ref xs), .val (.int (1 : Int32)), .val (.int (Int32.ofNat mN)), .val (.ref xl), .val (.ref pd), .val (.ref pk), .val (.long (((1 : Int64) + ((Int32.ofNat kN).toInt64)) + (((Int32.ofNat mN) + (2 : Int32)).toInt64))), .second, .unset] [(.long (((1 : Int64) + ((Int32.ofNat kN).toInt64)) + (((Int32.ofNat mN) + (2 : Int32)).toInt64))), (.long ((0 : Int64) + (1 : Int64) + (Int32.ofNat cs.length + (Int32.ofNat ds.length + (2 : Int32))).toInt64))])) (fun _ k => XS.lload X8.here hx rfl (hb hby at_132) rfl k) ?_
    refine Out.via (g' := (mkF m 135 #[.val (.int p0), .val (.int p1), .val (.int p2), .val (.long p3), .second, .val (.int (Int32.ofNat kN)), .val (.ref xs), .val (.int (1 : Int32)), .val (.int (Int32.ofNat mN)), .val (.ref xl), .val (.ref pd), .val (.ref pk), .val (.long (((1 : Int64) + ((Int32.ofNat kN).toInt64)) + (((Int32.ofNat mN) + (2 : Int32)).toInt64))), .second, .unset] [(.int (lcmpW ((0 : Int64) + (1 : Int64) + (Int32.ofNat cs.length + (Int32.ofNat ds.length + (2 : Int32))).toInt64) (((1 : Int64) + ((Int32.ofNat kN).toInt64)) + (((Int32.ofNat mN) + (2 : Int32)).toInt64))))])) (fun _ k => XS.lcmp X8.here hx rfl (hb hby at_134) rfl k) ?_
    refine Out.via (g' := (mkF m 140 #[.val (.int p0), .val (.int p1), .val (.int p2), .val (.long p3), .second, .val (.int (Int32.ofNat kN)), .val (.ref xs), .val (.int (1 : Int32)), .val (.int (Int32.ofNat mN)), .val (.ref xl), .val (.ref pd), .val (.ref pk), .val (.long (((1 : Int64) + ((Int32.ofNat kN).toInt64)) + (((Int32.ofNat mN) + (2 : Int32)).toInt64))), .second, .unset] [])) (fun _ k => XS.ifYes X8.here hx rfl (pc0 := 135) (pc' := 140) rfl (hb hby at_135) rfl ((if0 _ _).trans (teq (own_l0 (by rw [len_xs, len_xl]; exact own_v2 ⟨kN, hkN⟩ ⟨mN, hmN⟩))).1) (by decide) (by decide) k) ?_
    refine Out.via (g' := (mkF m 142 #[.val (.int p0), .val (.int p1), .val (.int p2), .val (.long p3), .second, .val (.int (Int32.ofNat kN)), .val (.ref xs), .val (.int (1 : Int32)), .val (.int (Int32.ofNat mN)), .val (.ref xl), .val (.ref pd), .val (.ref pk), .val (.long (((1 : Int64) + ((Int32.ofNat kN).toInt64)) + (((Int32.ofNat mN) + (2 : Int32)).toInt64))), .second, .unset] [(.ref pd)])) (fun _ k => XS.aload X8.here hx rfl (hb hby at_140) rfl rfl k) ?_
    refine Out.via (g' := (mkF m 144 #[.val (.int p0), .val (.int p1), .val (.int p2), .val (.long p3), .second, .val (.int (Int32.ofNat kN)), .val (.ref xs), .val (.int (1 : Int32)), .val (.int (Int32.ofNat mN)), .val (.ref xl), .val (.ref pd), .val (.ref pk), .val (.long (((1 : Int64) + ((Int32.ofNat kN).toInt64)) + (((Int32.ofNat mN) + (2 : Int32)).toInt64))), .second, .unset] [(.ref xs), (.ref pd)])) (fun _ k => XS.aload X8.here hx rfl (hb hby at_142) rfl rfl k) ?_
    refine Out.via (g' := (mkF m 145 #[.val (.int p0), .val (.int p1), .val (.int p2), .val (.long p3), .second, .val (.int (Int32.ofNat kN)), .val (.ref xs), .val (.int (1 : Int32)), .val (.int (Int32.ofNat mN)), .val (.ref xl), .val (.ref pd), .val (.ref pk), .val (.long (((1 : Int64) + ((Int32.ofNat kN).toInt64)) + (((Int32.ofNat mN) + (2 : Int32)).toInt64))), .second, .unset] [(.long p3), (.ref xs), (.ref pd)])) (fun _ k => XS.lloadN X8.here hx rfl (hb hby at_144) rfl k) ?_
    obtain ⟨cq9, kq9, q9a, q9b, q9c⟩ := isOf hZ eq8 E_pd
    obtain ⟨_, _, ⟨T9, L9, kc9, ks9⟩, -, X9, ⟨Lc9, hQ9, l9, y9, z9⟩, st9⟩ := X8.virtualBack hx (y := (⟨"com/example/faultwright/faultwright/Place", "child", "(Ljava/lang/String;J)Lcom/example/faultwright/faultwright/Place;"⟩ : MethodName)) (z := (⟨"com/example/faultwright/faultwright/Place", "child", "(Ljava/lang/String;J)Lcom/example/faultwright/faultwright/Place;"⟩ : MethodName)) hown (mvT hZ (hw _ (List.mem_of_getElem? (i := 72) rfl))) (mvT hZ (hw _ (List.mem_of_getElem? (i := 73) rfl))) (notFace_of_selects (args := #[]) (mvT hZ (hw _ (List.mem_of_getElem? (i := 75) rfl)))) (mvT hZ (hw _ (List.mem_of_getElem? (i := 75) rfl))) (mvT hZ (hw _ (List.mem_of_getElem? (i := 74) rfl))) (by decide) (backOf (W := 0) (own_rm12 l Z a0 hw [] pd xs cs p3 G1 T6.heap n0 O E_pd P_pd Sq_xs lnn O2 P5) hZ (hw _ (List.mem_of_getElem? (i := 76) rfl)) (hw _ (List.mem_of_getElem? (i := 28) rfl)) (by decide) (by decide)) q9a q9c (g := (mkF m 145 #[.val (.int p0), .val (.int p1), .val (.int p2), .val (.long p3), .second, .val (.int (Int32.ofNat kN)), .val (.ref xs), .val (.int (1 : Int32)), .val (.int (Int32.ofNat mN)), .val (.ref xl), .val (.ref pd), .val (.ref pk), .val (.long (((1 : Int64) + ((Int32.ofNat kN).toInt64)) + (((Int32.ofNat mN) + (2 : Int32)).toInt64))), .second, .unset] [(.long p3), (.ref xs), (.ref pd)])) rfl (by rw [hml]; rfl) (Steps.refl _) (argsL := [(.ref xs), (.long p3)]) (rest := []) (lenOf own_pd16 rfl) rfl (by show 2 * 0 + _ ≤ _; exact Nat.le_of_eq rfl) (hb hby at_145) (fun _ _ => ⟨rfl, eq8, (by decide : 10 + 1 ≤ _), (by decide : 30 + 5 ≤ _)⟩)
    dsimp only [Pt.U, Pt.locs, Pt.cells, Pt.slots] at X9 l9 y9 z9 st9 hQ9
    subst l9 y9 z9
    obtain ⟨pj, rfl, Nq9, Kq9, le_pj, E_pj, P_pj, O_pj, L_pj⟩ := hQ9
    replace N0 := Fr.app N0 Nq9
    replace hk : _ ≤ T9.heap.size := Nat.le_trans hk Kq9.1
    replace Sq_xs := Sq_xs.keep Kq9
    replace Sq_xl := Sq_xl.keep Kq9
    replace P_pd := P_pd.keep Kq9 nin0
    replace O_pd := O_pd.keep Kq9 nin0
    replace L_pd := L_pd.keep Kq9 nin0
    replace P_pk := P_pk.keep Kq9 nin0
    replace O_pk := O_pk.keep Kq9 nin0
    replace L_pk := L_pk.keep Kq9 nin0
    replace E_pd := E_pd.keep Kq9
    replace E_pk := E_pk.keep Kq9
    replace O := O.keep Kq9 all0
    refine Out.to (g' := (mkF m 148 #[.val (.int p0), .val (.int p1), .val (.int p2), .val (.long p3), .second, .val (.int (Int32.ofNat kN)), .val (.ref xs), .val (.int (1 : Int32)), .val (.int (Int32.ofNat mN)), .val (.ref xl), .val (.ref pd), .val (.ref pk), .val (.long (((1 : Int64) + ((Int32.ofNat kN).toInt64)) + (((Int32.ofNat mN) + (2 : Int32)).toInt64))), .second, .unset] [(.ref pj)])) st9 ?_
    refine Out.via (g' := (mkF m 150 #[.val (.int p0), .val (.int p1), .val (.int p2), .val (.long p3), .second, .val (.int (Int32.ofNat kN)), .val (.ref xs), .val (.int (1 : Int32)), .val (.int (Int32.ofNat mN)), .val (.ref xl), .val (.ref pd), .val (.ref pk), .val (.long (((1 : Int64) + ((Int32.ofNat kN).toInt64)) + (((Int32.ofNat mN) + (2 : Int32)).toInt64))), .second, .val (.ref pj)] [])) (fun _ k => XS.astore X9.here hx rfl (hb hby at_148) rfl rfl (l' := #[.val (.int p0), .val (.int p1), .val (.int p2), .val (.long p3), .second, .val (.int (Int32.ofNat kN)), .val (.ref xs), .val (.int (1 : Int32)), .val (.int (Int32.ofNat mN)), .val (.ref xl), .val (.ref pd), .val (.ref pk), .val (.long (((1 : Int64) + ((Int32.ofNat kN).toInt64)) + (((Int32.ofNat mN) + (2 : Int32)).toInt64))), .second, .val (.ref pj)]) rfl k) ?_
    refine Out.via (g' := (mkF m 152 #[.val (.int p0), .val (.int p1), .val (.int p2), .val (.long p3), .second, .val (.int (Int32.ofNat kN)), .val (.ref xs), .val (.int (1 : Int32)), .val (.int (Int32.ofNat mN)), .val (.ref xl), .val (.ref pd), .val (.ref pk), .val (.long (((1 : Int64) + ((Int32.ofNat kN).toInt64)) + (((Int32.ofNat mN) + (2 : Int32)).toInt64))), .second, .val (.ref pj)] [(.ref pj)])) (fun _ k => XS.aload X9.here hx rfl (hb hby at_150) rfl rfl k) ?_
    obtain ⟨cq10, kq10, q10a, q10b, q10c⟩ := isOf hZ rfl E_pj
    obtain ⟨_, _, ⟨T10, L10, kc10, ks10⟩, -, X10, ⟨Lc10, hQ10, l10, y10, z10⟩, st10⟩ := X9.virtualBack hx (y := (⟨"com/example/faultwright/faultwright/Place", "pathLength", "()J"⟩ : MethodName)) (z := (⟨"com/example/faultwright/faultwright/Place", "pathLength", "()J"⟩ : MethodName)) hown (mvT hZ (hw _ (List.mem_of_getElem? (i := 51) rfl))) (mvT hZ (hw _ (List.mem_of_getElem? (i := 52) rfl))) (notFace_of_selects (args := #[]) (mvT hZ (hw _ (List.mem_of_getElem? (i := 54) rfl)))) (mvT hZ (hw _ (List.mem_of_getElem? (i := 54) rfl))) (mvT hZ (hw _ (List.mem_of_getElem? (i := 53) rfl))) (by decide) (backOf (W := 0) (own_rm8 l Z a0 hw [] pj ((0 : Int64) + (1 : Int64) + (Int32.ofNat cs.length + (0 : Int32)).toInt64) T9.heap n0 O L_pj) hZ (hw _ (List.mem_of_getElem? (i := 55) rfl)) (hw _ (List.mem_of_getElem? (i := 28) rfl)) (by decide) (by decide)) q10a q10c (g := (mkF m 152 #[.val (.int p0), .val (.int p1), .val (.int p2), .val (.long p3), .second, .val (.int (Int32.ofNat kN)), .val (.ref xs), .val (.int (1 : Int32)), .val (.int (Int32.ofNat mN)), .val (.ref xl), .val (.ref pd), .val (.ref pk), .val (.long (((1 : Int64) + ((Int32.ofNat kN).toInt64)) + (((Int32.ofNat mN) + (2 : Int32)).toInt64))), .second, .val (.ref pj)] [(.ref pj)])) rfl (by rw [hml]; rfl) (Steps.refl _) (argsL := []) (rest := []) (lenOf own_pd15 rfl) rfl (by show 2 * 0 + _ ≤ _; exact Nat.le_of_eq rfl) (hb hby at_152) (fun _ _ => ⟨rfl, rfl, (by decide : 11 + 0 ≤ _), (by decide : 35 + 0 ≤ _)⟩)
    dsimp only [Pt.U, Pt.locs, Pt.cells, Pt.slots] at X10 l10 y10 z10 st10 hQ10
    subst l10 y10 z10
    obtain ⟨rfl, Nq10, eq10⟩ := hQ10
    replace N0 := Fr.app N0 Nq10
    refine Out.to (g' := (mkF m 155 #[.val (.int p0), .val (.int p1), .val (.int p2), .val (.long p3), .second, .val (.int (Int32.ofNat kN)), .val (.ref xs), .val (.int (1 : Int32)), .val (.int (Int32.ofNat mN)), .val (.ref xl), .val (.ref pd), .val (.ref pk), .val (.long (((1 : Int64) + ((Int32.ofNat kN).toInt64)) + (((Int32.ofNat mN) + (2 : Int32)).toInt64))), .second, .val (.ref pj)] [(.long ((0 : Int64) + (1 : Int64) + (Int32.ofNat cs.length + (0 : Int32)).toInt64))])) st10 ?_
    refine Out.via (g' := (mkF m 156 #[.val (.int p0), .val (.int p1), .val (.int p2), .val (.long p3), .second, .val (.int (Int32.ofNat kN)), .val (.ref xs), .val (.int (1 : Int32)), .val (.int (Int32.ofNat mN)), .val (.ref xl), .val (.ref pd), .val (.ref pk), .val (.long (((1 : Int64) + ((Int32.ofNat kN).toInt64)) + (((Int32.ofNat mN) + (2 : Int32)).toInt64))), .second, .val (.ref pj)] [(.long (1 : Int64)), (.long ((0 : Int64) + (1 : Int64) + (Int32.ofNat cs.length + (0 : Int32)).toInt64))])) (fun _ k => XS.lconst X10.here hx rfl (hb hby at_155) k) ?_
    refine Out.via (g' := (mkF m 158 #[.val (.int p0), .val (.int p1), .val (.int p2), .val (.long p3), .second, .val (.int (Int32.ofNat kN)), .val (.ref xs), .val (.int (1 : Int32)), .val (.int (Int32.ofNat mN)), .val (.ref xl), .val (.ref pd), .val (.ref pk), .val (.long (((1 : Int64) + ((Int32.ofNat kN).toInt64)) + (((Int32.ofNat mN) + (2 : Int32)).toInt64))), .second, .val (.ref pj)] [(.int (Int32.ofNat kN)), (.long (1 : Int64)), (.long ((0 : Int64) + (1 : Int64) + (Int32.ofNat cs.length + (0 : Int32)).toInt64))])) (fun _ k => XS.iload X10.here hx rfl (hb hby at_156) rfl k) ?_
    refine Out.via (g' := (mkF m 159 #[.val (.int p0), .val (.int p1), .val (.int p2), .val (.long p3), .second, .val (.int (Int32.ofNat kN)), .val (.ref xs), .val (.int (1 : Int32)), .val (.int (Int32.ofNat mN)), .val (.ref xl), .val (.ref pd), .val (.ref pk), .val (.long (((1 : Int64) + ((Int32.ofNat kN).toInt64)) + (((Int32.ofNat mN) + (2 : Int32)).toInt64))), .second, .val (.ref pj)] [(.long ((Int32.ofNat kN).toInt64)), (.long (1 : Int64)), (.long ((0 : Int64) + (1 : Int64) + (Int32.ofNat cs.length + (0 : Int32)).toInt64))])) (fun _ k => XS.i2l X10.here hx rfl (hb hby at_158) rfl k) ?_
    refine Out.via (g' := (mkF m 160 #[.val (.int p0), .val (.int p1), .val (.int p2), .val (.long p3), .second, .val (.int (Int32.ofNat kN)), .val (.ref xs), .val (.int (1 : Int32)), .val (.int (Int32.ofNat mN)), .val (.ref xl), .val (.ref pd), .val (.ref pk), .val (.long (((1 : Int64) + ((Int32.ofNat kN).toInt64)) + (((Int32.ofNat mN) + (2 : Int32)).toInt64))), .second, .val (.ref pj)] [(.long ((1 : Int64) + ((Int32.ofNat kN).toInt64))), (.long ((0 : Int64) + (1 : Int64) + (Int32.ofNat cs.length + (0 : Int32)).toInt64))])) (fun _ k => XS.ladd X10.here hx rfl (hb hby at_159) rfl k) ?_
    refine Out.via (g' := (mkF m 161 #[.val (.int p0), .val (.int p1), .val (.int p2), .val (.long p3), .second, .val (.int (Int32.ofNat kN)), .val (.ref xs), .val (.int (1 : Int32)), .val (.int (Int32.ofNat mN)), .val (.ref xl), .val (.ref pd), .val (.ref pk), .val (.long (((1 : Int64) + ((Int32.ofNat kN).toInt64)) + (((Int32.ofNat mN) + (2 : Int32)).toInt64))), .second, .val (.ref pj)] [(.int (lcmpW ((0 : Int64) + (1 : Int64) + (Int32.ofNat cs.length + (0 : Int32)).toInt64) ((1 : Int64) + ((Int32.ofNat kN).toInt64))))])) (fun _ k => XS.lcmp X10.here hx rfl (hb hby at_160) rfl k) ?_
    refine Out.via (g' := (mkF m 164 #[.val (.int p0), .val (.int p1), .val (.int p2), .val (.long p3), .second, .val (.int (Int32.ofNat kN)), .val (.ref xs), .val (.int (1 : Int32)), .val (.int (Int32.ofNat mN)), .val (.ref xl), .val (.ref pd), .val (.ref pk), .val (.long (((1 : Int64) + ((Int32.ofNat kN).toInt64)) + (((Int32.ofNat mN) + (2 : Int32)).toInt64))), .second, .val (.ref pj)] [])) (fun _ k => XS.ifNo X10.here hx rfl (hb hby at_161) rfl ((if0 _ _).trans (teq (own_l0 (by rw [len_xs]; exact own_v1 ⟨kN, hkN⟩))).2) k) ?_
    refine Out.via (g' := (mkF m 165 #[.val (.int p0), .val (.int p1), .val (.int p2), .val (.long p3), .second, .val (.int (Int32.ofNat kN)), .val (.ref xs), .val (.int (1 : Int32)), .val (.int (Int32.ofNat mN)), .val (.ref xl), .val (.ref pd), .val (.ref pk), .val (.long (((1 : Int64) + ((Int32.ofNat kN).toInt64)) + (((Int32.ofNat mN) + (2 : Int32)).toInt64))), .second, .val (.ref pj)] [(.int (1 : Int32))])) (fun _ k => XS.iconst X10.here hx rfl (hb hby at_164) k) ?_
    refine Out.via (g' := (mkF m 169 #[.val (.int p0), .val (.int p1), .val (.int p2), .val (.long p3), .second, .val (.int (Int32.ofNat kN)), .val (.ref xs), .val (.int (1 : Int32)), .val (.int (Int32.ofNat mN)), .val (.ref xl), .val (.ref pd), .val (.ref pk), .val (.long (((1 : Int64) + ((Int32.ofNat kN).toInt64)) + (((Int32.ofNat mN) + (2 : Int32)).toInt64))), .second, .val (.ref pj)] [(.int (1 : Int32))])) (fun _ k => XS.goto X10.here hx rfl (pc0 := 165) (pc' := 169) rfl (hb hby at_165) (by decide) (by decide) k) ?_
    exact Out.endW X10 hS (by rw [eq10]; exact hk) (fun h => by rw [Bd.returns] at h; cases h) Bd.notSynchronized (by decide) (by decide) (⟨rfl, N0⟩) (fun fs hr => Jvm.RoadKit.retN X10 hx (t := .boolean) Bd.returns (by simp) (hb hby at_169) hr)
set_option maxRecDepth 65536 in
set_option maxHeartbeats 40000000 in
theorem comes_1 {Post : Tables → Env → Array Value → State → Outcome → State → Prop} (hpost : ∀ tb e args s v u, (limb_1_1.after args s (.returned v) u = true ∧ limb_1_2.after args s (.returned v) u = true ∧ True) → ReturnedEndW s (.returned v) u (Jvm.fieldLocs frame_1_writes args s ++ Jvm.arrayLocs frame_1_arrays args s ++ Jvm.staticLocs frame_1_statics s) 32 1216 → Post tb e args s (.returned v) u) :
    ArmFor flags0 classFile x code maxLocals ret World_1 tables_1 room_1 Calls_1 rest_1 Pre_1 Post := by
  intro l hfl _ _ p e ha hc hk s m args below hf hA hF happ hP
  obtain ⟨hcalls, hrest, hpre⟩ := hP
  obtain ⟨-, -, -, hnamed, -, -, -, hat⟩ := (Spec.applies_iff hf).mp happ
  obtain ⟨hg, hn⟩ := and_e (Cond.before_iff.mp (show (Jvm.Cond.and given_1 narrow_1).before args s = true from hpre))
  obtain ⟨h1, h2⟩ := and_e hg
  obtain ⟨g0, h2⟩ := and_e h2
  obtain ⟨g1, h2⟩ := and_e h2
  obtain ⟨g2, g3⟩ := and_e h2
  obtain ⟨w0, w1, w2, w3, rfl⟩ : ∃ w0 w1 w2 w3 : Value, args = #[w0, w1, w2, w3] := by
    have hs : args.size = 4 := by simpa [Cond.value, given_1] using h1
    obtain ⟨L⟩ := args
    match L, hs with
    | [w0, w1, w2, w3], _ => exact ⟨w0, w1, w2, w3, rfl⟩
  have hw := fun d (hd : d ∈ tables_1) => atoms_spec (ws := Jvm.Cond.code x code maxLocals ret :: tables_1) hat d (List.mem_cons_of_mem _ hd)
  obtain ⟨hsets, hown0⟩ := atoms_of _ (rest_1_c_eq ▸ (show rest_1_c.before _ s = true from hrest))
  obtain ⟨i0, ei0⟩ := is_v g0
  obtain rfl : w0 = (.int i0) := Option.some.inj ei0
  obtain ⟨i1, ei1⟩ := is_v g1
  obtain rfl : w1 = (.int i1) := Option.some.inj ei1
  obtain ⟨i2, ei2⟩ := is_v g2
  obtain rfl : w2 = (.int i2) := Option.some.inj ei2
  obtain ⟨i3, ei3⟩ := isL_v g3
  obtain rfl : w3 = (.long i3) := Option.some.inj ei3
  have n5 := not_v (Cond.before_iff.mp (hsets _ (List.mem_of_getElem? (i := 2) rfl)))
  obtain ⟨i11, e10⟩ := is_v (Cond.before_iff.mp (hsets _ (List.mem_of_getElem? (i := 1) rfl)))
  have S12 : Sta s s.heap "java/lang/String" "COMPACT_STRINGS" "Z" (.int i11) := Sta.start e10 (Or.inl (hsets _ (List.mem_of_getElem? (i := 0) rfl)))
  have c17 : ¬ (i11 = (0 : Int32)) := gotF (Cond.eq_ints e10 (Term.int_eval (0))) n5
  have hcw := hsets _ (List.mem_of_getElem? (i := 2) rfl)
  have hheld := hcalls.1
  have hCH : CHv s own_EL s.vm s.heap := CHv.start (own_hEL hw) (fun q hq => hheld q hq) hcw (hw _ (List.mem_of_getElem? (i := 19) rfl)) (hw _ (List.mem_of_getElem? (i := 5) rfl))
  obtain ⟨n, o, h1, h2, h3, _, L, rfl, ⟨rfl, N⟩, hq⟩ := own_rm0 l s _ hw tables_1 i0 i1 i2 i3 i11 s.heap s.heap.size (Old.start s) S12 c17 p e ha hc hk s m _ below hf ((Spec.applies_iff_loose hf).mp happ).1 ⟨rfl, State.Warmed39.refl s, rfl, hCH⟩ trivial
  refine ⟨n, _, h1, h2, h3, hpost _ _ _ _ _ _ ⟨Cond.after_iff.mpr rfl, Cond.after_iff.mpr (eq_i res_at (Term.int_eval (1)) rfl), trivial⟩ ⟨hq.1, hq.2.1, hq.2.2.1, (hq.2.2.2.sift fun y hy => Or.inr (N y hy)).mono (by decide) (by decide)⟩⟩
theorem main_1_1 : Claimed_1_1 := comes_1 fun _ _ _ _ _ _ h hF => ⟨h.1, hF⟩
theorem main_1_2 : Claimed_1_2 := comes_1 fun _ _ _ _ _ _ h hF => ⟨h.2.1, hF⟩
end Jvm.Pilot.@@N@@
namespace Jvm.Pilot.@@N@@
open Jvm Jvm.ClassFile Sem Op Lib Jvm.Free Jvm.Stand Jvm.Pilot.@@N@@.Jvm.D
/-! MADE BY PROGRAM (witnessworld.py) out of the Statement's table words and the real class files: 20 classes; the members and pool entries that the words name. The judged class is class 1, her method 2. -/
namespace start1
open Jvm.ClassFile
def u (s : String) : CpInfo := .utf8 (stringToUtf16 s)
/-- a pool by its gaps: so many unusable entries, then the entry; so many at the end -/
def gap : Nat → List CpInfo → List CpInfo
  | 0, r => r
  | n + 1, r => .unusable :: gap n r
def poolList (es : List (Nat × CpInfo)) (last : Nat) : List CpInfo := es.foldr (fun e r => gap e.1 (e.2 :: r)) (gap last [])
def pool (es : List (Nat × CpInfo)) (last : Nat) : Array CpInfo := ⟨poolList es last⟩
def fileOf (pool : Array CpInfo) (this : Nat) (attrs : Array Attribute := #[]) (ms : Array MethodInfo := #[]) (fl : Nat := 33) (sup : Nat := 0) (ifs : Array Nat := #[]) (fds : Array FieldInfo := #[]) : ClassFile where
  minorVersion := 0
  majorVersion := 65
  constantPool := pool
  accessFlags := fl
  thisClass := this
  superClass := sup
  interfaces := ifs
  fields := fds
  methods := ms
  attributes := attrs
def plain (name : String) (sup : Option ClassId) : Class where
  name := name
  kind := .ordinary
  loader := none
  accessFlags := 33
  super := sup
  interfaces := #[]
  cf := none
  fields := #[]
  methods := #[]
  instanceTypes := #[]
  staticTypes := #[]
  resolved := #[]
  callSites := []
  init := .initialized
  statics := none
  mirror := none

def pool0 : Array CpInfo := pool [(5, u "<init>"), (0, u "()V"), (1, .class_ 10), (1, u "java/lang/Object")] 113

def k0c0 : Code := { maxStack := 0, maxLocals := 1, code := object_method_1_code, exceptionTable := #[], attributes := #[] }
def k0m0 : Method := { name := "<init>", desc := "()V", sig := { parameters := [], returnType := none }, accessFlags := 1, code := some k0c0 }
/-- java/lang/Object -/
def k0 : Class := { plain "java/lang/Object" none with
  accessFlags := 33
  interfaces := #[]
  cf := some (fileOf pool0 8 #[] #[{ accessFlags := 1, nameIndex := 5, descriptorIndex := 6, attributes := #[] }] 33 0 #[] #[])
  fields := #[]
  methods := #[k0m0]
  instanceTypes := #[]
  staticTypes := #[]
  resolved := Array.replicate 124 none
  statics := none }

def pool1 : Array CpInfo := pool [(2, .class_ 4), (1, u "java/lang/Object"), (0, u "<init>"), (0, u "()V"), (0, .class_ 8), (0, u "java/lang/String"), (0, .methodref 7 10), (0, .nameAndType 5 11), (0, u "([C)V"), (0, .methodref 7 13), (0, .nameAndType 14 15), (0, u "valueOf"), (0, u "(C)Ljava/lang/String;"), (0, .methodref 17 18), (0, .class_ 19), (0, .nameAndType 20 21), (0, u "com/example/faultwright/faultwright/PlaceDocumentPinLaw"), (0, u "drawn"), (0, u "(II)Ljava/lang/String;"), (0, .methodref 23 24), (0, .class_ 25), (0, .nameAndType 26 27), (0, u "com/example/faultwright/faultwright/Place"), (0, u "document"), (0, u "()Lcom/example/faultwright/faultwright/Place;"), (0, .methodref 23 29), (0, .nameAndType 30 31), (0, u "getOrder"), (0, u "()J"), (0, .methodref 23 33), (0, .nameAndType 34 31), (0, u "pathLength"), (0, .methodref 23 36), (0, .nameAndType 37 38), (0, u "child"), (0, u "(Ljava/lang/String;Ljava/lang/String;J)Lcom/example/faultwright/faultwright/Place;"), (0, .methodref 23 40), (0, .nameAndType 37 41), (0, u "(Ljava/lang/String;J)Lcom/example/faultwright/faultwright/Place;"), (3, u "law"), (0, u "(IIIJ)Z")] 2

def k1m0 : Method := { name := "<init>", desc := "()V", sig := { parameters := [], returnType := none }, accessFlags := 1, code := none }
def k1c1 : Code := { maxStack := 6, maxLocals := 5, code := method_2_code, exceptionTable := #[], attributes := #[] }
def k1m1 : Method := { name := "drawn", desc := "(II)Ljava/lang/String;", sig := { parameters := [.int, .int], returnType := some (.object "java/lang/String") }, accessFlags := 10, code := some k1c1 }
def k1c2 : Code := { maxStack := 6, maxLocals := 15, code := code, exceptionTable := #[], attributes := #[] }
def k1m2 : Method := { name := "law", desc := "(IIIJ)Z", sig := { parameters := [.int, .int, .int, .long], returnType := some .boolean }, accessFlags := 9, code := some k1c2 }
/-- com/example/faultwright/faultwright/PlaceDocumentPinLaw -/
def k1 : Class := { plain "com/example/faultwright/faultwright/PlaceDocumentPinLaw" (some 0) with
  accessFlags := 49
  interfaces := #[]
  cf := some (fileOf pool1 17 #[] #[{ accessFlags := 1, nameIndex := 5, descriptorIndex := 6, attributes := #[] }, { accessFlags := 10, nameIndex := 20, descriptorIndex := 21, attributes := #[] }, { accessFlags := 9, nameIndex := 45, descriptorIndex := 46, attributes := #[] }] 49 2 #[] #[])
  fields := #[]
  methods := #[k1m0, k1m1, k1m2]
  instanceTypes := #[]
  staticTypes := #[]
  resolved := Array.replicate 49 none
  statics := none }

def pool2 : Array CpInfo := pool [(1, .class_ 2), (0, u "java/io/Serializable"), (0, .class_ 4), (0, u "java/lang/Object")] 2

/-- java/io/Serializable -/
def k2 : Class := { plain "java/io/Serializable" (some 0) with
  accessFlags := 1537
  interfaces := #[]
  cf := some (fileOf pool2 1 #[] #[] 1537 3 #[] #[])
  fields := #[]
  methods := #[]
  instanceTypes := #[]
  staticTypes := #[]
  resolved := Array.replicate 7 none
  statics := none }

def pool3 : Array CpInfo := pool [(1, .class_ 2), (0, u "java/lang/Comparable"), (0, .class_ 4), (0, u "java/lang/Object")] 7

/-- java/lang/Comparable -/
def k3 : Class := { plain "java/lang/Comparable" (some 0) with
  accessFlags := 1537
  interfaces := #[]
  cf := some (fileOf pool3 1 #[] #[] 1537 3 #[] #[])
  fields := #[]
  methods := #[]
  instanceTypes := #[]
  staticTypes := #[]
  resolved := Array.replicate 12 none
  statics := none }

def pool4 : Array CpInfo := pool [(2, .class_ 4), (1, u "java/lang/CharSequence"), (42, .class_ 48), (0, u "java/lang/CharSequence$1CodePointIterator"), (10, .class_ 60), (0, u "java/lang/CharSequence$1CharIterator"), (5, .class_ 67), (0, u "java/lang/Object")] 63

/-- java/lang/CharSequence -/
def k4 : Class := { plain "java/lang/CharSequence" (some 0) with
  accessFlags := 1537
  interfaces := #[]
  cf := some (fileOf pool4 2 #[.nestMembers #[47, 59]] #[] 1537 66 #[] #[])
  fields := #[]
  methods := #[]
  instanceTypes := #[]
  staticTypes := #[]
  resolved := Array.replicate 131 none
  statics := none }

def pool5 : Array CpInfo := pool [(1, .class_ 2), (0, u "java/lang/constant/Constable"), (0, .class_ 4), (0, u "java/lang/Object")] 6

/-- java/lang/constant/Constable -/
def k5 : Class := { plain "java/lang/constant/Constable" (some 0) with
  accessFlags := 1537
  interfaces := #[]
  cf := some (fileOf pool5 1 #[] #[] 1537 3 #[] #[])
  fields := #[]
  methods := #[]
  instanceTypes := #[]
  staticTypes := #[]
  resolved := Array.replicate 11 none
  statics := none }

def pool6 : Array CpInfo := pool [(1, .class_ 2), (0, u "java/lang/constant/ConstantDesc"), (0, .class_ 4), (0, u "java/lang/Object")] 32

/-- java/lang/constant/ConstantDesc -/
def k6 : Class := { plain "java/lang/constant/ConstantDesc" (some 0) with
  accessFlags := 1537
  interfaces := #[]
  cf := some (fileOf pool6 1 #[] #[] 1537 3 #[] #[])
  fields := #[]
  methods := #[]
  instanceTypes := #[]
  staticTypes := #[]
  resolved := Array.replicate 37 none
  statics := none }

def pool7 : Array CpInfo := pool [(1, .methodref 2 3), (0, .class_ 4), (0, .nameAndType 5 6), (0, u "java/lang/Object"), (0, u "<init>"), (0, u "()V"), (0, .string 8), (0, u ""), (0, .fieldref 10 11), (0, .class_ 12), (0, .nameAndType 13 14), (0, u "java/lang/String"), (0, u "value"), (0, u "[B"), (0, .fieldref 10 16), (0, .nameAndType 17 18), (0, u "coder"), (0, u "B"), (2, u "hash"), (0, u "I"), (2, u "hashIsZero"), (0, u "Z"), (0, .methodref 10 28), (0, .nameAndType 5 29), (0, u "([CIILjava/lang/Void;)V"), (8, .fieldref 10 39), (0, .nameAndType 40 26), (0, u "COMPACT_STRINGS"), (1, .class_ 44), (1, u "java/lang/StringUTF16"), (0, u "compress"), (1, .methodref 42 48), (0, .nameAndType 49 50), (0, u "coderFromArrayLen"), (0, u "([BI)B"), (2, u "toBytes"), (53, .class_ 109), (1, u "java/lang/StringLatin1"), (67, .methodref 42 178), (0, .nameAndType 45 179), (0, u "([CII)[B"), (29, .methodref 10 210), (0, .nameAndType 5 211), (0, u "([BB)V"), (122, u "()I"), (0, .methodref 10 336), (0, .nameAndType 17 337), (0, u "()B"), (31, u "(C)Z"), (137, u "length"), (67, .class_ 576), (0, u "java/lang/CharSequence"), (22, u "CASE_INSENSITIVE_ORDER"), (0, u "Ljava/util/Comparator;"), (181, u "valueOf"), (0, u "(C)Ljava/lang/String;"), (226, u "([C)V"), (4, .methodref 107 1016), (0, .nameAndType 1017 369), (0, u "canEncode"), (0, .methodref 107 1019), (0, .nameAndType 53 1020), (0, u "(C)[B"), (80, u "serialPersistentFields"), (0, u "[Ljava/io/ObjectStreamField;"), (0, .class_ 1104), (0, u "java/lang/String$CaseInsensitiveComparator"), (1, .class_ 1107), (0, u "java/io/Serializable"), (0, .class_ 1109), (0, u "java/lang/Comparable"), (0, .class_ 1111), (0, u "java/lang/constant/Constable"), (0, .class_ 1113), (0, u "java/lang/constant/ConstantDesc"), (2, u "serialVersionUID"), (0, u "J"), (3, u "REPL"), (0, u "C"), (2, u "LATIN1"), (1, u "UTF16")] 323

def k7m0 : Method := { name := "<init>", desc := "()V", sig := { parameters := [], returnType := none }, accessFlags := 1, code := none }
def k7c1 : Code := { maxStack := 5, maxLocals := 2, code := jdk_42_method_3_code, exceptionTable := #[], attributes := #[] }
def k7m1 : Method := { name := "<init>", desc := "([C)V", sig := { parameters := [(.array .char)], returnType := none }, accessFlags := 1, code := some k7c1 }
def k7c2 : Code := { maxStack := 2, maxLocals := 1, code := jdk_42_method_54_code, exceptionTable := #[], attributes := #[] }
def k7m2 : Method := { name := "length", desc := "()I", sig := { parameters := [], returnType := some .int }, accessFlags := 1, code := some k7c2 }
def k7c3 : Code := { maxStack := 4, maxLocals := 1, code := jdk_42_method_139_code, exceptionTable := #[], attributes := #[] }
def k7m3 : Method := { name := "valueOf", desc := "(C)Ljava/lang/String;", sig := { parameters := [.char], returnType := some (.object "java/lang/String") }, accessFlags := 9, code := some k7c3 }
def k7c4 : Code := { maxStack := 4, maxLocals := 6, code := jdk_42_method_149_code, exceptionTable := #[], attributes := #[] }
def k7m4 : Method := { name := "<init>", desc := "([CIILjava/lang/Void;)V", sig := { parameters := [(.array .char), .int, .int, (.object "java/lang/Void")], returnType := none }, accessFlags := 2, code := some k7c4 }
def k7c5 : Code := { maxStack := 2, maxLocals := 3, code := jdk_42_method_151_code, exceptionTable := #[], attributes := #[] }
def k7m5 : Method := { name := "<init>", desc := "([BB)V", sig := { parameters := [(.array .byte), .byte], returnType := none }, accessFlags := 0, code := some k7c5 }
def k7c6 : Code := { maxStack := 1, maxLocals := 1, code := jdk_42_method_152_code, exceptionTable := #[], attributes := #[] }
def k7m6 : Method := { name := "coder", desc := "()B", sig := { parameters := [], returnType := some .byte }, accessFlags := 0, code := some k7c6 }
/-- java/lang/String -/
def k7 : Class := { plain "java/lang/String" (some 0) with
  accessFlags := 49
  interfaces := #[2, 3, 4, 5, 6]
  cf := some (fileOf pool7 10 #[.nestMembers #[1103]] #[{ accessFlags := 1, nameIndex := 5, descriptorIndex := 6, attributes := #[] }, { accessFlags := 1, nameIndex := 5, descriptorIndex := 1010, attributes := #[] }, { accessFlags := 1, nameIndex := 507, descriptorIndex := 334, attributes := #[] }, { accessFlags := 9, nameIndex := 782, descriptorIndex := 783, attributes := #[] }, { accessFlags := 2, nameIndex := 5, descriptorIndex := 29, attributes := #[] }, { accessFlags := 0, nameIndex := 5, descriptorIndex := 211, attributes := #[] }, { accessFlags := 0, nameIndex := 17, descriptorIndex := 337, attributes := #[] }] 49 2 #[1106, 1108, 575, 1110, 1112] #[{ accessFlags := 18, nameIndex := 13, descriptorIndex := 14, attributes := #[] }, { accessFlags := 18, nameIndex := 17, descriptorIndex := 18, attributes := #[] }, { accessFlags := 2, nameIndex := 21, descriptorIndex := 22, attributes := #[] }, { accessFlags := 2, nameIndex := 25, descriptorIndex := 26, attributes := #[] }, { accessFlags := 26, nameIndex := 1116, descriptorIndex := 1117, attributes := #[] }, { accessFlags := 24, nameIndex := 40, descriptorIndex := 26, attributes := #[] }, { accessFlags := 26, nameIndex := 1101, descriptorIndex := 1102, attributes := #[] }, { accessFlags := 26, nameIndex := 1121, descriptorIndex := 1122, attributes := #[] }, { accessFlags := 25, nameIndex := 599, descriptorIndex := 600, attributes := #[] }, { accessFlags := 24, nameIndex := 1125, descriptorIndex := 18, attributes := #[] }, { accessFlags := 24, nameIndex := 1127, descriptorIndex := 18, attributes := #[] }])
  fields := #[{ name := "value", type := (.array .byte), accessFlags := 18, slot := 0, constantValue := 0 }, { name := "coder", type := .byte, accessFlags := 18, slot := 1, constantValue := 0 }, { name := "hash", type := .int, accessFlags := 2, slot := 2, constantValue := 0 }, { name := "hashIsZero", type := .boolean, accessFlags := 2, slot := 3, constantValue := 0 }, { name := "serialVersionUID", type := .long, accessFlags := 26, slot := 0, constantValue := 0 }, { name := "COMPACT_STRINGS", type := .boolean, accessFlags := 24, slot := 1, constantValue := 0 }, { name := "serialPersistentFields", type := (.array (.object "java/io/ObjectStreamField")), accessFlags := 26, slot := 2, constantValue := 0 }, { name := "REPL", type := .char, accessFlags := 26, slot := 3, constantValue := 0 }, { name := "CASE_INSENSITIVE_ORDER", type := (.object "java/util/Comparator"), accessFlags := 25, slot := 4, constantValue := 0 }, { name := "LATIN1", type := .byte, accessFlags := 24, slot := 5, constantValue := 0 }, { name := "UTF16", type := .byte, accessFlags := 24, slot := 6, constantValue := 0 }]
  methods := #[k7m0, k7m1, k7m2, k7m3, k7m4, k7m5, k7m6]
  instanceTypes := #[(.array .byte), .byte, .int, .boolean]
  staticTypes := #[.long, .boolean, (.array (.object "java/io/ObjectStreamField")), .char, (.object "java/util/Comparator"), .byte, .byte]
  resolved := Array.replicate 1451 none
  statics := some 0 }

def pool8 : Array CpInfo := pool [(1, .methodref 2 3), (0, .class_ 4), (0, .nameAndType 5 6), (0, u "java/lang/Object"), (0, u "<init>"), (0, u "()V"), (0, .fieldref 8 9), (0, .class_ 10), (0, .nameAndType 11 12), (0, u "com/example/faultwright/faultwright/Place"), (0, u "parent"), (0, u "Lcom/example/faultwright/faultwright/Place;"), (0, .fieldref 8 14), (0, .nameAndType 15 16), (0, u "name"), (0, u "Ljava/lang/String;"), (0, .fieldref 8 18), (0, .nameAndType 19 16), (0, u "label"), (0, .fieldref 8 21), (0, .nameAndType 22 23), (0, u "order"), (0, u "J"), (0, .fieldref 8 25), (0, .nameAndType 26 23), (0, u "pathLength"), (0, .methodref 8 28), (0, .nameAndType 5 29), (0, u "(Lcom/example/faultwright/faultwright/Place;Ljava/lang/String;Ljava/lang/String;JJ)V"), (0, .methodref 8 31), (0, .nameAndType 32 33), (0, u "child"), (0, u "(Ljava/lang/String;Ljava/lang/String;J)Lcom/example/faultwright/faultwright/Place;"), (0, .methodref 35 36), (0, .class_ 37), (0, .nameAndType 38 39), (0, u "java/lang/String"), (0, u "length"), (0, u "()I"), (39, u "document"), (0, u "()Lcom/example/faultwright/faultwright/Place;"), (0, u "(Ljava/lang/String;J)Lcom/example/faultwright/faultwright/Place;"), (1, u "getOrder"), (0, u "()J")] 6

def k8c0 : Code := { maxStack := 3, maxLocals := 8, code := prog_59_method_1_code, exceptionTable := #[], attributes := #[] }
def k8m0 : Method := { name := "<init>", desc := "(Lcom/example/faultwright/faultwright/Place;Ljava/lang/String;Ljava/lang/String;JJ)V", sig := { parameters := [(.object "com/example/faultwright/faultwright/Place"), (.object "java/lang/String"), (.object "java/lang/String"), .long, .long], returnType := none }, accessFlags := 2, code := some k8c0 }
def k8c1 : Code := { maxStack := 9, maxLocals := 0, code := prog_59_method_2_code, exceptionTable := #[], attributes := #[] }
def k8m1 : Method := { name := "document", desc := "()Lcom/example/faultwright/faultwright/Place;", sig := { parameters := [], returnType := some (.object "com/example/faultwright/faultwright/Place") }, accessFlags := 8, code := some k8c1 }
def k8c2 : Code := { maxStack := 5, maxLocals := 4, code := prog_59_method_3_code, exceptionTable := #[], attributes := #[] }
def k8m2 : Method := { name := "child", desc := "(Ljava/lang/String;J)Lcom/example/faultwright/faultwright/Place;", sig := { parameters := [(.object "java/lang/String"), .long], returnType := some (.object "com/example/faultwright/faultwright/Place") }, accessFlags := 0, code := some k8c2 }
def k8c3 : Code := { maxStack := 11, maxLocals := 9, code := prog_59_method_4_code, exceptionTable := #[], attributes := #[] }
def k8m3 : Method := { name := "child", desc := "(Ljava/lang/String;Ljava/lang/String;J)Lcom/example/faultwright/faultwright/Place;", sig := { parameters := [(.object "java/lang/String"), (.object "java/lang/String"), .long], returnType := some (.object "com/example/faultwright/faultwright/Place") }, accessFlags := 0, code := some k8c3 }
def k8c4 : Code := { maxStack := 2, maxLocals := 1, code := prog_59_method_5_code, exceptionTable := #[], attributes := #[] }
def k8m4 : Method := { name := "getOrder", desc := "()J", sig := { parameters := [], returnType := some .long }, accessFlags := 0, code := some k8c4 }
def k8c5 : Code := { maxStack := 2, maxLocals := 1, code := prog_59_method_6_code, exceptionTable := #[], attributes := #[] }
def k8m5 : Method := { name := "pathLength", desc := "()J", sig := { parameters := [], returnType := some .long }, accessFlags := 0, code := some k8c5 }
/-- com/example/faultwright/faultwright/Place -/
def k8 : Class := { plain "com/example/faultwright/faultwright/Place" (some 0) with
  accessFlags := 48
  interfaces := #[]
  cf := some (fileOf pool8 8 #[] #[{ accessFlags := 2, nameIndex := 5, descriptorIndex := 29, attributes := #[] }, { accessFlags := 8, nameIndex := 79, descriptorIndex := 80, attributes := #[] }, { accessFlags := 0, nameIndex := 32, descriptorIndex := 81, attributes := #[] }, { accessFlags := 0, nameIndex := 32, descriptorIndex := 33, attributes := #[] }, { accessFlags := 0, nameIndex := 83, descriptorIndex := 84, attributes := #[] }, { accessFlags := 0, nameIndex := 26, descriptorIndex := 84, attributes := #[] }] 48 2 #[] #[{ accessFlags := 18, nameIndex := 11, descriptorIndex := 12, attributes := #[] }, { accessFlags := 18, nameIndex := 15, descriptorIndex := 16, attributes := #[] }, { accessFlags := 18, nameIndex := 19, descriptorIndex := 16, attributes := #[] }, { accessFlags := 18, nameIndex := 22, descriptorIndex := 23, attributes := #[] }, { accessFlags := 18, nameIndex := 26, descriptorIndex := 23, attributes := #[] }])
  fields := #[{ name := "parent", type := (.object "com/example/faultwright/faultwright/Place"), accessFlags := 18, slot := 0, constantValue := 0 }, { name := "name", type := (.object "java/lang/String"), accessFlags := 18, slot := 1, constantValue := 0 }, { name := "label", type := (.object "java/lang/String"), accessFlags := 18, slot := 2, constantValue := 0 }, { name := "order", type := .long, accessFlags := 18, slot := 3, constantValue := 0 }, { name := "pathLength", type := .long, accessFlags := 18, slot := 4, constantValue := 0 }]
  methods := #[k8m0, k8m1, k8m2, k8m3, k8m4, k8m5]
  instanceTypes := #[(.object "com/example/faultwright/faultwright/Place"), (.object "java/lang/String"), (.object "java/lang/String"), .long, .long]
  staticTypes := #[]
  resolved := Array.replicate 91 none
  statics := none }

def pool9 : Array CpInfo := pool [(6, .class_ 8), (1, u "java/lang/Object"), (0, u "<init>"), (0, u "()V"), (1, .class_ 14), (1, u "java/lang/StringUTF16"), (31, u "$assertionsDisabled"), (0, u "Z"), (13, u "HI_BYTE_SHIFT"), (0, u "I"), (2, u "LO_BYTE_SHIFT"), (49, .methodref 12 116), (0, .nameAndType 117 118), (0, u "compress"), (0, u "([CI[BII)I"), (3, u "([CII)[B"), (138, u "coderFromArrayLen"), (0, u "([BI)B"), (106, .class_ 371), (1, u "java/lang/StringUTF16$LinesSpliterator"), (58, u "MAX_LENGTH"), (196, .class_ 628), (0, u "java/lang/StringUTF16$CodePointsSpliterator"), (0, .class_ 630), (0, u "java/lang/StringUTF16$CharsSpliterator")] 4

def k9m0 : Method := { name := "<init>", desc := "()V", sig := { parameters := [], returnType := none }, accessFlags := 0, code := none }
def k9c1 : Code := { maxStack := 2, maxLocals := 2, code := jdk_52_method_15_code, exceptionTable := #[], attributes := #[] }
def k9m1 : Method := { name := "coderFromArrayLen", desc := "([BI)B", sig := { parameters := [(.array .byte), .int], returnType := some .byte }, accessFlags := 8, code := some k9c1 }
def k9c2 : Code := { maxStack := 5, maxLocals := 6, code := jdk_52_method_16_code, exceptionTable := #[], attributes := #[] }
def k9m2 : Method := { name := "compress", desc := "([CII)[B", sig := { parameters := [(.array .char), .int, .int], returnType := some (.array .byte) }, accessFlags := 9, code := some k9c2 }
def k9c3 : Code := { maxStack := 3, maxLocals := 7, code := jdk_52_method_21_code, exceptionTable := #[], attributes := #[] }
def k9m3 : Method := { name := "compress", desc := "([CI[BII)I", sig := { parameters := [(.array .char), .int, (.array .byte), .int, .int], returnType := some .int }, accessFlags := 9, code := some k9c3 }
/-- java/lang/StringUTF16 -/
def k9 : Class := { plain "java/lang/StringUTF16" (some 0) with
  accessFlags := 48
  interfaces := #[]
  cf := some (fileOf pool9 12 #[.nestMembers #[627, 629, 369]] #[{ accessFlags := 0, nameIndex := 9, descriptorIndex := 10, attributes := #[] }, { accessFlags := 8, nameIndex := 261, descriptorIndex := 262, attributes := #[] }, { accessFlags := 9, nameIndex := 117, descriptorIndex := 122, attributes := #[] }, { accessFlags := 9, nameIndex := 117, descriptorIndex := 118, attributes := #[] }] 48 6 #[] #[{ accessFlags := 26, nameIndex := 61, descriptorIndex := 62, attributes := #[] }, { accessFlags := 26, nameIndex := 65, descriptorIndex := 62, attributes := #[] }, { accessFlags := 24, nameIndex := 430, descriptorIndex := 62, attributes := #[] }, { accessFlags := 4120, nameIndex := 46, descriptorIndex := 47, attributes := #[] }])
  fields := #[{ name := "HI_BYTE_SHIFT", type := .int, accessFlags := 26, slot := 0, constantValue := 0 }, { name := "LO_BYTE_SHIFT", type := .int, accessFlags := 26, slot := 1, constantValue := 0 }, { name := "MAX_LENGTH", type := .int, accessFlags := 24, slot := 2, constantValue := 0 }, { name := "$assertionsDisabled", type := .boolean, accessFlags := 4120, slot := 3, constantValue := 0 }]
  methods := #[k9m0, k9m1, k9m2, k9m3]
  instanceTypes := #[]
  staticTypes := #[.int, .int, .int, .boolean]
  resolved := Array.replicate 635 none
  statics := none }

def pool10 : Array CpInfo := pool [(4, .class_ 6), (1, u "java/lang/Object"), (0, u "<init>"), (0, u "()V"), (5, .class_ 16), (1, u "java/lang/StringLatin1"), (73, u "canEncode"), (14, u "(C)Z"), (15, u "$assertionsDisabled"), (0, u "Z"), (98, .class_ 223), (1, u "java/lang/StringLatin1$LinesSpliterator"), (156, u "toBytes"), (1, u "(C)[B"), (7, .class_ 391), (0, u "java/lang/StringLatin1$CharsSpliterator")] 3

def k10m0 : Method := { name := "<init>", desc := "()V", sig := { parameters := [], returnType := none }, accessFlags := 0, code := none }
def k10c1 : Code := { maxStack := 2, maxLocals := 1, code := jdk_43_method_3_code, exceptionTable := #[], attributes := #[] }
def k10m1 : Method := { name := "canEncode", desc := "(C)Z", sig := { parameters := [.char], returnType := some .boolean }, accessFlags := 9, code := some k10c1 }
def k10c2 : Code := { maxStack := 4, maxLocals := 1, code := jdk_43_method_46_code, exceptionTable := #[], attributes := #[] }
def k10m2 : Method := { name := "toBytes", desc := "(C)[B", sig := { parameters := [.char], returnType := some (.array .byte) }, accessFlags := 9, code := some k10c2 }
/-- java/lang/StringLatin1 -/
def k10 : Class := { plain "java/lang/StringLatin1" (some 0) with
  accessFlags := 48
  interfaces := #[]
  cf := some (fileOf pool10 14 #[.nestMembers #[390, 221]] #[{ accessFlags := 0, nameIndex := 7, descriptorIndex := 8, attributes := #[] }, { accessFlags := 9, nameIndex := 90, descriptorIndex := 105, attributes := #[] }, { accessFlags := 9, nameIndex := 380, descriptorIndex := 382, attributes := #[] }] 48 4 #[] #[{ accessFlags := 4120, nameIndex := 121, descriptorIndex := 122, attributes := #[] }])
  fields := #[{ name := "$assertionsDisabled", type := .boolean, accessFlags := 4120, slot := 0, constantValue := 0 }]
  methods := #[k10m0, k10m1, k10m2]
  instanceTypes := #[]
  staticTypes := #[.boolean]
  resolved := Array.replicate 395 none
  statics := none }

def pool11 : Array CpInfo := pool [(2, .class_ 4), (1, u "java/lang/Object"), (0, u "<init>"), (0, u "()V"), (17, .class_ 26), (1, u "jdk/internal/util/Preconditions"), (28, .class_ 56), (0, u "jdk/internal/util/Preconditions$4"), (57, .class_ 115), (0, u "jdk/internal/util/Preconditions$1"), (7, u "SIOOBE_FORMATTER"), (0, u "Ljava/util/function/BiFunction;"), (0, .class_ 126), (0, u "jdk/internal/util/Preconditions$2"), (3, u "AIOOBE_FORMATTER"), (0, .class_ 132), (0, u "jdk/internal/util/Preconditions$3"), (3, u "IOOBE_FORMATTER")] 57

def k11m0 : Method := { name := "<init>", desc := "()V", sig := { parameters := [], returnType := none }, accessFlags := 1, code := none }
/-- jdk/internal/util/Preconditions -/
def k11 : Class := { plain "jdk/internal/util/Preconditions" (some 0) with
  accessFlags := 33
  interfaces := #[]
  cf := some (fileOf pool11 24 #[.nestMembers #[55, 131, 125, 114]] #[{ accessFlags := 1, nameIndex := 5, descriptorIndex := 6, attributes := #[] }] 33 2 #[] #[{ accessFlags := 25, nameIndex := 123, descriptorIndex := 124, attributes := #[] }, { accessFlags := 25, nameIndex := 130, descriptorIndex := 124, attributes := #[] }, { accessFlags := 25, nameIndex := 136, descriptorIndex := 124, attributes := #[] }])
  fields := #[{ name := "SIOOBE_FORMATTER", type := (.object "java/util/function/BiFunction"), accessFlags := 25, slot := 0, constantValue := 0 }, { name := "AIOOBE_FORMATTER", type := (.object "java/util/function/BiFunction"), accessFlags := 25, slot := 1, constantValue := 0 }, { name := "IOOBE_FORMATTER", type := (.object "java/util/function/BiFunction"), accessFlags := 25, slot := 2, constantValue := 0 }]
  methods := #[k11m0]
  instanceTypes := #[]
  staticTypes := #[(.object "java/util/function/BiFunction"), (.object "java/util/function/BiFunction"), (.object "java/util/function/BiFunction")]
  resolved := Array.replicate 194 none
  statics := some 1 }

def pool12 : Array CpInfo := pool [(9, u "<init>"), (6, .class_ 18), (1, u "java/lang/Object"), (0, u "()V"), (1, .class_ 23), (1, u "jdk/internal/util/ArraysSupport"), (0, u "LOG2_ARRAY_LONG_INDEX_SCALE"), (0, u "I"), (2, u "U"), (0, u "Ljdk/internal/misc/Unsafe;"), (8, u "BIG_ENDIAN"), (0, u "Z"), (8, u "LOG2_BYTE_BIT_SIZE"), (4, u "LOG2_ARRAY_INT_INDEX_SCALE"), (54, u "JLA"), (0, u "Ljdk/internal/access/JavaLangAccess;"), (11, u "LOG2_ARRAY_BOOLEAN_INDEX_SCALE"), (9, u "LOG2_ARRAY_BYTE_INDEX_SCALE"), (5, u "LOG2_ARRAY_CHAR_INDEX_SCALE"), (5, u "LOG2_ARRAY_SHORT_INDEX_SCALE"), (18, u "LOG2_ARRAY_FLOAT_INDEX_SCALE"), (24, u "LOG2_ARRAY_DOUBLE_INDEX_SCALE"), (89, u "T_BOOLEAN"), (2, u "T_CHAR"), (1, u "T_FLOAT"), (1, u "T_DOUBLE"), (1, u "T_BYTE"), (1, u "T_SHORT"), (1, u "T_INT"), (1, u "T_LONG"), (1, u "SOFT_MAX_ARRAY_LENGTH")] 83

def k12m0 : Method := { name := "<init>", desc := "()V", sig := { parameters := [], returnType := none }, accessFlags := 2, code := none }
/-- jdk/internal/util/ArraysSupport -/
def k12 : Class := { plain "jdk/internal/util/ArraysSupport" (some 0) with
  accessFlags := 33
  interfaces := #[]
  cf := some (fileOf pool12 21 #[] #[{ accessFlags := 2, nameIndex := 9, descriptorIndex := 19, attributes := #[] }] 33 16 #[] #[{ accessFlags := 24, nameIndex := 28, descriptorIndex := 29, attributes := #[] }, { accessFlags := 26, nameIndex := 38, descriptorIndex := 39, attributes := #[] }, { accessFlags := 25, nameIndex := 121, descriptorIndex := 25, attributes := #[] }, { accessFlags := 25, nameIndex := 131, descriptorIndex := 25, attributes := #[] }, { accessFlags := 25, nameIndex := 137, descriptorIndex := 25, attributes := #[] }, { accessFlags := 25, nameIndex := 143, descriptorIndex := 25, attributes := #[] }, { accessFlags := 25, nameIndex := 53, descriptorIndex := 25, attributes := #[] }, { accessFlags := 25, nameIndex := 24, descriptorIndex := 25, attributes := #[] }, { accessFlags := 25, nameIndex := 162, descriptorIndex := 25, attributes := #[] }, { accessFlags := 25, nameIndex := 187, descriptorIndex := 25, attributes := #[] }, { accessFlags := 26, nameIndex := 48, descriptorIndex := 25, attributes := #[] }, { accessFlags := 25, nameIndex := 277, descriptorIndex := 25, attributes := #[] }, { accessFlags := 25, nameIndex := 280, descriptorIndex := 25, attributes := #[] }, { accessFlags := 25, nameIndex := 282, descriptorIndex := 25, attributes := #[] }, { accessFlags := 25, nameIndex := 284, descriptorIndex := 25, attributes := #[] }, { accessFlags := 25, nameIndex := 286, descriptorIndex := 25, attributes := #[] }, { accessFlags := 25, nameIndex := 288, descriptorIndex := 25, attributes := #[] }, { accessFlags := 25, nameIndex := 290, descriptorIndex := 25, attributes := #[] }, { accessFlags := 25, nameIndex := 292, descriptorIndex := 25, attributes := #[] }, { accessFlags := 26, nameIndex := 108, descriptorIndex := 109, attributes := #[] }, { accessFlags := 25, nameIndex := 294, descriptorIndex := 25, attributes := #[] }])
  fields := #[{ name := "U", type := (.object "jdk/internal/misc/Unsafe"), accessFlags := 24, slot := 0, constantValue := 0 }, { name := "BIG_ENDIAN", type := .boolean, accessFlags := 26, slot := 1, constantValue := 0 }, { name := "LOG2_ARRAY_BOOLEAN_INDEX_SCALE", type := .int, accessFlags := 25, slot := 2, constantValue := 0 }, { name := "LOG2_ARRAY_BYTE_INDEX_SCALE", type := .int, accessFlags := 25, slot := 3, constantValue := 0 }, { name := "LOG2_ARRAY_CHAR_INDEX_SCALE", type := .int, accessFlags := 25, slot := 4, constantValue := 0 }, { name := "LOG2_ARRAY_SHORT_INDEX_SCALE", type := .int, accessFlags := 25, slot := 5, constantValue := 0 }, { name := "LOG2_ARRAY_INT_INDEX_SCALE", type := .int, accessFlags := 25, slot := 6, constantValue := 0 }, { name := "LOG2_ARRAY_LONG_INDEX_SCALE", type := .int, accessFlags := 25, slot := 7, constantValue := 0 }, { name := "LOG2_ARRAY_FLOAT_INDEX_SCALE", type := .int, accessFlags := 25, slot := 8, constantValue := 0 }, { name := "LOG2_ARRAY_DOUBLE_INDEX_SCALE", type := .int, accessFlags := 25, slot := 9, constantValue := 0 }, { name := "LOG2_BYTE_BIT_SIZE", type := .int, accessFlags := 26, slot := 10, constantValue := 0 }, { name := "T_BOOLEAN", type := .int, accessFlags := 25, slot := 11, constantValue := 0 }, { name := "T_CHAR", type := .int, accessFlags := 25, slot := 12, constantValue := 0 }, { name := "T_FLOAT", type := .int, accessFlags := 25, slot := 13, constantValue := 0 }, { name := "T_DOUBLE", type := .int, accessFlags := 25, slot := 14, constantValue := 0 }, { name := "T_BYTE", type := .int, accessFlags := 25, slot := 15, constantValue := 0 }, { name := "T_SHORT", type := .int, accessFlags := 25, slot := 16, constantValue := 0 }, { name := "T_INT", type := .int, accessFlags := 25, slot := 17, constantValue := 0 }, { name := "T_LONG", type := .int, accessFlags := 25, slot := 18, constantValue := 0 }, { name := "JLA", type := (.object "jdk/internal/access/JavaLangAccess"), accessFlags := 26, slot := 19, constantValue := 0 }, { name := "SOFT_MAX_ARRAY_LENGTH", type := .int, accessFlags := 25, slot := 20, constantValue := 0 }]
  methods := #[k12m0]
  instanceTypes := #[]
  staticTypes := #[(.object "jdk/internal/misc/Unsafe"), .boolean, .int, .int, .int, .int, .int, .int, .int, .int, .int, .int, .int, .int, .int, .int, .int, .int, .int, (.object "jdk/internal/access/JavaLangAccess"), .int]
  resolved := Array.replicate 378 none
  statics := none }

def pool13 : Array CpInfo := pool [(1, u "java/lang/Cloneable"), (0, .class_ 1), (0, u "java/lang/Object"), (0, .class_ 3)] 3

/-- java/lang/Cloneable -/
def k13 : Class := { plain "java/lang/Cloneable" (some 0) with
  accessFlags := 1537
  interfaces := #[]
  cf := some (fileOf pool13 2 #[] #[] 1537 4 #[] #[])
  fields := #[]
  methods := #[]
  instanceTypes := #[]
  staticTypes := #[]
  resolved := Array.replicate 8 none
  statics := none }

/-- the primitive byte -/
def k14 : Class := { plain "byte" none with kind := .primitive 'B', accessFlags := 0x411 }
/-- [B -/
def k15 : Class := { plain "[B" (some 0) with kind := .array 14 .byte, interfaces := #[13, 2], accessFlags := 1041 }

/-- the primitive char -/
def k16 : Class := { plain "char" none with kind := .primitive 'C', accessFlags := 0x411 }
/-- [C -/
def k17 : Class := { plain "[C" (some 0) with kind := .array 16 .char, interfaces := #[13, 2], accessFlags := 1041 }

/-- the primitive int -/
def k18 : Class := { plain "int" none with kind := .primitive 'I', accessFlags := 0x411 }
/-- [I -/
def k19 : Class := { plain "[I" (some 0) with kind := .array 18 .int, interfaces := #[13, 2], accessFlags := 1041 }

def heap : Heap := #[{ cls := 7, slots := #[.long 0, .int 1, .null, .int 0, .null, .int 0, .int 0], vm := .statics 7 },
  { cls := 11, slots := #[.null, .null, .null], vm := .statics 11 }]
def classes : Array Class := #[k0, k1, k2, k3, k4, k5, k6, k7, k8, k9, k10, k11, k12, k13, k14, k15, k16, k17, k18, k19]
def interned : List (Array UInt16 × Addr) := []
def slotsUsed : Nat := 10
def theMethod : MethodId := ⟨1, 2⟩
def args0 : Array Value := #[.int 5, .int 5, .int 5, .long 5]
def aboutOver (below : List Frame) : State where
  vm := { classes := classes, interned := interned.toArray }
  heap := heap
  slotsUsed := slotsUsed
  threads := #[{ frames := .invoking theMethod args0 :: below }]
def below0 : List Frame := [.native { method := ⟨0, 0⟩, args := #[] }]
def about1 : State := aboutOver below0
def p0 : Program := .bare "" "" ""
def e0 : Env := launch0.env 0 0 0
theorem w_frames : about1.frames = Frame.invoking theMethod args0 :: below0 := rfl
set_option maxRecDepth 65536 in
theorem w_args : argsFit about1.vm theMethod args0 = true := by decide +kernel
set_option maxRecDepth 65536 in
theorem w_heap : heapFits about1 = true := by decide +kernel
set_option maxRecDepth 65536 in
theorem w_runnable : about1.curStatus? = some .runnable := by decide +kernel
set_option maxRecDepth 65536 in
theorem w_alone : about1.alone = true := by decide +kernel
set_option maxRecDepth 65536 in
theorem w_named : about1.methodNamed? x = some theMethod := by decide +kernel
set_option maxRecDepth 65536 in
theorem w_hears : about1.hears theMethod below0 = true := by decide +kernel
set_option maxRecDepth 65536 in
theorem w_ripe : about1.ripe theMethod args0 below0 = true := by decide +kernel
theorem w_running : about1.status = .running := rfl
set_option maxRecDepth 65536 in
theorem w_room : about1.hasRoom e0.platform room_1 = true :=
  launch0.hasRoom_least _ room_1 (by decide +kernel) (by decide +kernel) (by decide +kernel) (by decide +kernel) (by decide +kernel) (by decide +kernel)
theorem allAtoms_all (ts : List Jvm.Cond) (a : Array Jvm.Value) (st : Jvm.State) : (allAtoms ts).before a st = ts.all (fun c => c.before a st) := by
  induction ts with
  | nil => rfl
  | cons c t ih =>
    show (Jvm.Cond.and c (allAtoms t)).before a st = _
    rw [Jvm.Cond.before_and, ih, List.all_cons]
def words1 : List Jvm.Cond := Jvm.Cond.code x code maxLocals ret :: tables_1
/-- a 'code' word, met by the world's own term for the bytes: nothing is compared byte by byte -/
theorem code_word {y : MethodName} {bytes : ByteArray} {mx : Nat} {rt : Option FieldType} {a : Array Value} {s : State} {m : MethodId} {meth : Method} {c : Code} (h1 : s.methodNamed? y = some m) (h2 : s.vm.method? m = some meth) (h3 : meth.code = some c) (h4 : c.code = bytes)
    (h5 : (c.maxLocals == mx && c.exceptionTable.isEmpty && decide (c.maxStack ≤ mostOperands) && decide (meth.sig.returnType = rt) && !meth.locks && decide (parseMethodDescriptor y.desc = some meth.sig)) = true) : (Jvm.Cond.code y bytes mx rt).before a s = true := by
  simp only [Bool.and_eq_true, beq_iff_eq, Bool.not_eq_true', decide_eq_true_eq] at h5
  obtain ⟨⟨⟨⟨⟨g1, g2⟩, g3⟩, g4⟩, g5⟩, g6⟩ := h5
  simp [Cond.before, Cond.holds, Cond.value, h1, h2, h3, h4, g1, g2, g3, g4, g5, g6]
def isCode : Jvm.Cond → Bool
  | .code _ _ _ _ => true
  | _ => false
theorem all_split {L : List Jvm.Cond} {P : Jvm.Cond → Bool} (h1 : L.all (fun c => isCode c || P c) = true) (h2 : ∀ c ∈ L.filter isCode, P c = true) : L.all P = true := by
  refine List.all_eq_true.mpr fun c hc => ?_
  have h := List.all_eq_true.mp h1 c hc
  rcases Bool.eq_false_or_eq_true (isCode c) with hi | hi
  · exact h2 c (List.mem_filter.mpr ⟨hc, hi⟩)
  · simpa [hi] using h
set_option maxRecDepth 65536 in
theorem w_c0 : (Jvm.Cond.code x code maxLocals ret).before args0 about1 = true := code_word (m := ⟨1, 2⟩) (meth := k1m2) (c := k1c2) (by decide +kernel) rfl rfl rfl (by decide +kernel)
set_option maxRecDepth 65536 in
theorem w_c1 : (Jvm.Cond.code ({ cls := "com/example/faultwright/faultwright/PlaceDocumentPinLaw", name := "drawn", desc := "(II)Ljava/lang/String;" } : Jvm.MethodName) method_2_code (5 : Nat) (Option.some (Jvm.ClassFile.FieldType.object "java/lang/String"))).before args0 about1 = true := code_word (m := ⟨1, 1⟩) (meth := k1m1) (c := k1c1) (by decide +kernel) rfl rfl rfl (by decide +kernel)
set_option maxRecDepth 65536 in
theorem w_c2 : (Jvm.Cond.code ({ cls := "java/lang/String", name := "<init>", desc := "([C)V" } : Jvm.MethodName) jdk_42_method_3_code (2 : Nat) (Option.none : Option Jvm.ClassFile.FieldType)).before args0 about1 = true := code_word (m := ⟨7, 1⟩) (meth := k7m1) (c := k7c1) (by decide +kernel) rfl rfl rfl (by decide +kernel)
set_option maxRecDepth 65536 in
theorem w_c3 : (Jvm.Cond.code ({ cls := "java/lang/String", name := "<init>", desc := "([CIILjava/lang/Void;)V" } : Jvm.MethodName) jdk_42_method_149_code (6 : Nat) (Option.none : Option Jvm.ClassFile.FieldType)).before args0 about1 = true := code_word (m := ⟨7, 4⟩) (meth := k7m4) (c := k7c4) (by decide +kernel) rfl rfl rfl (by decide +kernel)
set_option maxRecDepth 65536 in
theorem w_c4 : (Jvm.Cond.code ({ cls := "java/lang/Object", name := "<init>", desc := "()V" } : Jvm.MethodName) object_method_1_code (1 : Nat) (Option.none : Option Jvm.ClassFile.FieldType)).before args0 about1 = true := code_word (m := ⟨0, 0⟩) (meth := k0m0) (c := k0c0) (by decide +kernel) rfl rfl rfl (by decide +kernel)
set_option maxRecDepth 65536 in
theorem w_c5 : (Jvm.Cond.code ({ cls := "com/example/faultwright/faultwright/Place", name := "document", desc := "()Lcom/example/faultwright/faultwright/Place;" } : Jvm.MethodName) prog_59_method_2_code (0 : Nat) (Option.some (Jvm.ClassFile.FieldType.object "com/example/faultwright/faultwright/Place"))).before args0 about1 = true := code_word (m := ⟨8, 1⟩) (meth := k8m1) (c := k8c1) (by decide +kernel) rfl rfl rfl (by decide +kernel)
set_option maxRecDepth 65536 in
theorem w_c6 : (Jvm.Cond.code ({ cls := "com/example/faultwright/faultwright/Place", name := "<init>", desc := "(Lcom/example/faultwright/faultwright/Place;Ljava/lang/String;Ljava/lang/String;JJ)V" } : Jvm.MethodName) prog_59_method_1_code (8 : Nat) (Option.none : Option Jvm.ClassFile.FieldType)).before args0 about1 = true := code_word (m := ⟨8, 0⟩) (meth := k8m0) (c := k8c0) (by decide +kernel) rfl rfl rfl (by decide +kernel)
set_option maxRecDepth 65536 in
theorem w_c7 : (Jvm.Cond.code ({ cls := "com/example/faultwright/faultwright/Place", name := "getOrder", desc := "()J" } : Jvm.MethodName) prog_59_method_5_code (1 : Nat) (Option.some Jvm.ClassFile.FieldType.long)).before args0 about1 = true := code_word (m := ⟨8, 4⟩) (meth := k8m4) (c := k8c4) (by decide +kernel) rfl rfl rfl (by decide +kernel)
set_option maxRecDepth 65536 in
theorem w_c8 : (Jvm.Cond.code ({ cls := "com/example/faultwright/faultwright/Place", name := "pathLength", desc := "()J" } : Jvm.MethodName) prog_59_method_6_code (1 : Nat) (Option.some Jvm.ClassFile.FieldType.long)).before args0 about1 = true := code_word (m := ⟨8, 5⟩) (meth := k8m5) (c := k8c5) (by decide +kernel) rfl rfl rfl (by decide +kernel)
set_option maxRecDepth 65536 in
theorem w_c9 : (Jvm.Cond.code ({ cls := "com/example/faultwright/faultwright/Place", name := "child", desc := "(Ljava/lang/String;Ljava/lang/String;J)Lcom/example/faultwright/faultwright/Place;" } : Jvm.MethodName) prog_59_method_4_code (9 : Nat) (Option.some (Jvm.ClassFile.FieldType.object "com/example/faultwright/faultwright/Place"))).before args0 about1 = true := code_word (m := ⟨8, 3⟩) (meth := k8m3) (c := k8c3) (by decide +kernel) rfl rfl rfl (by decide +kernel)
set_option maxRecDepth 65536 in
theorem w_c10 : (Jvm.Cond.code ({ cls := "java/lang/String", name := "length", desc := "()I" } : Jvm.MethodName) jdk_42_method_54_code (1 : Nat) (Option.some Jvm.ClassFile.FieldType.int)).before args0 about1 = true := code_word (m := ⟨7, 2⟩) (meth := k7m2) (c := k7c2) (by decide +kernel) rfl rfl rfl (by decide +kernel)
set_option maxRecDepth 65536 in
theorem w_c11 : (Jvm.Cond.code ({ cls := "java/lang/String", name := "coder", desc := "()B" } : Jvm.MethodName) jdk_42_method_152_code (1 : Nat) (Option.some Jvm.ClassFile.FieldType.byte)).before args0 about1 = true := code_word (m := ⟨7, 6⟩) (meth := k7m6) (c := k7c6) (by decide +kernel) rfl rfl rfl (by decide +kernel)
set_option maxRecDepth 65536 in
theorem w_c12 : (Jvm.Cond.code ({ cls := "com/example/faultwright/faultwright/Place", name := "child", desc := "(Ljava/lang/String;J)Lcom/example/faultwright/faultwright/Place;" } : Jvm.MethodName) prog_59_method_3_code (4 : Nat) (Option.some (Jvm.ClassFile.FieldType.object "com/example/faultwright/faultwright/Place"))).before args0 about1 = true := code_word (m := ⟨8, 2⟩) (meth := k8m2) (c := k8c2) (by decide +kernel) rfl rfl rfl (by decide +kernel)
set_option maxRecDepth 65536 in
theorem w_c13 : (Jvm.Cond.code ({ cls := "java/lang/StringUTF16", name := "compress", desc := "([CII)[B" } : Jvm.MethodName) jdk_52_method_16_code (6 : Nat) (Option.some (Jvm.ClassFile.FieldType.array Jvm.ClassFile.FieldType.byte))).before args0 about1 = true := code_word (m := ⟨9, 2⟩) (meth := k9m2) (c := k9c2) (by decide +kernel) rfl rfl rfl (by decide +kernel)
set_option maxRecDepth 65536 in
theorem w_c14 : (Jvm.Cond.code ({ cls := "java/lang/StringUTF16", name := "compress", desc := "([CI[BII)I" } : Jvm.MethodName) jdk_52_method_21_code (7 : Nat) (Option.some Jvm.ClassFile.FieldType.int)).before args0 about1 = true := code_word (m := ⟨9, 3⟩) (meth := k9m3) (c := k9c3) (by decide +kernel) rfl rfl rfl (by decide +kernel)
set_option maxRecDepth 65536 in
theorem w_c15 : (Jvm.Cond.code ({ cls := "java/lang/StringUTF16", name := "coderFromArrayLen", desc := "([BI)B" } : Jvm.MethodName) jdk_52_method_15_code (2 : Nat) (Option.some Jvm.ClassFile.FieldType.byte)).before args0 about1 = true := code_word (m := ⟨9, 1⟩) (meth := k9m1) (c := k9c1) (by decide +kernel) rfl rfl rfl (by decide +kernel)
set_option maxRecDepth 65536 in
theorem w_c16 : (Jvm.Cond.code ({ cls := "java/lang/String", name := "valueOf", desc := "(C)Ljava/lang/String;" } : Jvm.MethodName) jdk_42_method_139_code (1 : Nat) (Option.some (Jvm.ClassFile.FieldType.object "java/lang/String"))).before args0 about1 = true := code_word (m := ⟨7, 3⟩) (meth := k7m3) (c := k7c3) (by decide +kernel) rfl rfl rfl (by decide +kernel)
set_option maxRecDepth 65536 in
theorem w_c17 : (Jvm.Cond.code ({ cls := "java/lang/StringLatin1", name := "canEncode", desc := "(C)Z" } : Jvm.MethodName) jdk_43_method_3_code (1 : Nat) (Option.some Jvm.ClassFile.FieldType.boolean)).before args0 about1 = true := code_word (m := ⟨10, 1⟩) (meth := k10m1) (c := k10c1) (by decide +kernel) rfl rfl rfl (by decide +kernel)
set_option maxRecDepth 65536 in
theorem w_c18 : (Jvm.Cond.code ({ cls := "java/lang/StringLatin1", name := "toBytes", desc := "(C)[B" } : Jvm.MethodName) jdk_43_method_46_code (1 : Nat) (Option.some (Jvm.ClassFile.FieldType.array Jvm.ClassFile.FieldType.byte))).before args0 about1 = true := code_word (m := ⟨10, 2⟩) (meth := k10m2) (c := k10c2) (by decide +kernel) rfl rfl rfl (by decide +kernel)
set_option maxRecDepth 65536 in
theorem w_c19 : (Jvm.Cond.code ({ cls := "java/lang/String", name := "<init>", desc := "([BB)V" } : Jvm.MethodName) jdk_42_method_151_code (3 : Nat) (Option.none : Option Jvm.ClassFile.FieldType)).before args0 about1 = true := code_word (m := ⟨7, 5⟩) (meth := k7m5) (c := k7c5) (by decide +kernel) rfl rfl rfl (by decide +kernel)
def codes1 : List Jvm.Cond := [Jvm.Cond.code x code maxLocals ret, Jvm.Cond.code ({ cls := "com/example/faultwright/faultwright/PlaceDocumentPinLaw", name := "drawn", desc := "(II)Ljava/lang/String;" } : Jvm.MethodName) method_2_code (5 : Nat) (Option.some (Jvm.ClassFile.FieldType.object "java/lang/String")), Jvm.Cond.code ({ cls := "java/lang/String", name := "<init>", desc := "([C)V" } : Jvm.MethodName) jdk_42_method_3_code (2 : Nat) (Option.none : Option Jvm.ClassFile.FieldType), Jvm.Cond.code ({ cls := "java/lang/String", name := "<init>", desc := "([CIILjava/lang/Void;)V" } : Jvm.MethodName) jdk_42_method_149_code (6 : Nat) (Option.none : Option Jvm.ClassFile.FieldType), Jvm.Cond.code ({ cls := "java/lang/Object", name := "<init>", desc := "()V" } : Jvm.MethodName) object_method_1_code (1 : Nat) (Option.none : Option Jvm.ClassFile.FieldType), Jvm.Cond.code ({ cls := "com/example/faultwright/faultwright/Place", name := "document", desc := "()Lcom/example/faultwright/faultwright/Place;" } : Jvm.MethodName) prog_59_method_2_code (0 : Nat) (Option.some (Jvm.ClassFile.FieldType.object "com/example/faultwright/faultwright/Place")), Jvm.Cond.code ({ cls := "com/example/faultwright/faultwright/Place", name := "<init>", desc := "(Lcom/example/faultwright/faultwright/Place;Ljava/lang/String;Ljava/lang/String;JJ)V" } : Jvm.MethodName) prog_59_method_1_code (8 : Nat) (Option.none : Option Jvm.ClassFile.FieldType), Jvm.Cond.code ({ cls := "com/example/faultwright/faultwright/Place", name := "getOrder", desc := "()J" } : Jvm.MethodName) prog_59_method_5_code (1 : Nat) (Option.some Jvm.ClassFile.FieldType.long), Jvm.Cond.code ({ cls := "com/example/faultwright/faultwright/Place", name := "pathLength", desc := "()J" } : Jvm.MethodName) prog_59_method_6_code (1 : Nat) (Option.some Jvm.ClassFile.FieldType.long), Jvm.Cond.code ({ cls := "com/example/faultwright/faultwright/Place", name := "child", desc := "(Ljava/lang/String;Ljava/lang/String;J)Lcom/example/faultwright/faultwright/Place;" } : Jvm.MethodName) prog_59_method_4_code (9 : Nat) (Option.some (Jvm.ClassFile.FieldType.object "com/example/faultwright/faultwright/Place")), Jvm.Cond.code ({ cls := "java/lang/String", name := "length", desc := "()I" } : Jvm.MethodName) jdk_42_method_54_code (1 : Nat) (Option.some Jvm.ClassFile.FieldType.int), Jvm.Cond.code ({ cls := "java/lang/String", name := "coder", desc := "()B" } : Jvm.MethodName) jdk_42_method_152_code (1 : Nat) (Option.some Jvm.ClassFile.FieldType.byte), Jvm.Cond.code ({ cls := "com/example/faultwright/faultwright/Place", name := "child", desc := "(Ljava/lang/String;J)Lcom/example/faultwright/faultwright/Place;" } : Jvm.MethodName) prog_59_method_3_code (4 : Nat) (Option.some (Jvm.ClassFile.FieldType.object "com/example/faultwright/faultwright/Place")), Jvm.Cond.code ({ cls := "java/lang/StringUTF16", name := "compress", desc := "([CII)[B" } : Jvm.MethodName) jdk_52_method_16_code (6 : Nat) (Option.some (Jvm.ClassFile.FieldType.array Jvm.ClassFile.FieldType.byte)), Jvm.Cond.code ({ cls := "java/lang/StringUTF16", name := "compress", desc := "([CI[BII)I" } : Jvm.MethodName) jdk_52_method_21_code (7 : Nat) (Option.some Jvm.ClassFile.FieldType.int), Jvm.Cond.code ({ cls := "java/lang/StringUTF16", name := "coderFromArrayLen", desc := "([BI)B" } : Jvm.MethodName) jdk_52_method_15_code (2 : Nat) (Option.some Jvm.ClassFile.FieldType.byte), Jvm.Cond.code ({ cls := "java/lang/String", name := "valueOf", desc := "(C)Ljava/lang/String;" } : Jvm.MethodName) jdk_42_method_139_code (1 : Nat) (Option.some (Jvm.ClassFile.FieldType.object "java/lang/String")), Jvm.Cond.code ({ cls := "java/lang/StringLatin1", name := "canEncode", desc := "(C)Z" } : Jvm.MethodName) jdk_43_method_3_code (1 : Nat) (Option.some Jvm.ClassFile.FieldType.boolean), Jvm.Cond.code ({ cls := "java/lang/StringLatin1", name := "toBytes", desc := "(C)[B" } : Jvm.MethodName) jdk_43_method_46_code (1 : Nat) (Option.some (Jvm.ClassFile.FieldType.array Jvm.ClassFile.FieldType.byte)), Jvm.Cond.code ({ cls := "java/lang/String", name := "<init>", desc := "([BB)V" } : Jvm.MethodName) jdk_42_method_151_code (3 : Nat) (Option.none : Option Jvm.ClassFile.FieldType)]
set_option maxRecDepth 65536 in
theorem codes_eq : words1.filter isCode = codes1 := rfl
theorem w_codes : ∀ c ∈ words1.filter isCode, c.before args0 about1 = true := by
  rw [codes_eq]
  intro c hc
  simp only [codes1, List.mem_cons, List.not_mem_nil, or_false] at hc
  rcases hc with rfl | rfl | rfl | rfl | rfl | rfl | rfl | rfl | rfl | rfl | rfl | rfl | rfl | rfl | rfl | rfl | rfl | rfl | rfl | rfl
  · exact w_c0
  · exact w_c1
  · exact w_c2
  · exact w_c3
  · exact w_c4
  · exact w_c5
  · exact w_c6
  · exact w_c7
  · exact w_c8
  · exact w_c9
  · exact w_c10
  · exact w_c11
  · exact w_c12
  · exact w_c13
  · exact w_c14
  · exact w_c15
  · exact w_c16
  · exact w_c17
  · exact w_c18
  · exact w_c19
set_option maxRecDepth 65536 in
theorem w_t1 : (words1.take 24).all (fun c => isCode c || c.before args0 about1) = true := by decide +kernel
set_option maxRecDepth 65536 in
theorem w_t2 : ((words1.drop 24).take 24).all (fun c => isCode c || c.before args0 about1) = true := by decide +kernel
set_option maxRecDepth 65536 in
theorem w_t3 : (((words1.drop 24).drop 24).take 24).all (fun c => isCode c || c.before args0 about1) = true := by decide +kernel
set_option maxRecDepth 65536 in
theorem w_t4 : ((((words1.drop 24).drop 24).drop 24).take 24).all (fun c => isCode c || c.before args0 about1) = true := by decide +kernel
set_option maxRecDepth 65536 in
theorem w_t5 : ((((words1.drop 24).drop 24).drop 24).drop 24).all (fun c => isCode c || c.before args0 about1) = true := by decide +kernel
theorem w_tables : (allAtoms (Jvm.Cond.code x code maxLocals ret :: tables_1)).before args0 about1 = true := by
  rw [allAtoms_all]
  show words1.all (fun c => c.before args0 about1) = true
  refine all_split ?_ w_codes
  rw [← List.take_append_drop 24 words1, List.all_append, w_t1, ← List.take_append_drop 24 (words1.drop 24), List.all_append, w_t2, ← List.take_append_drop 24 ((words1.drop 24).drop 24), List.all_append, w_t3, ← List.take_append_drop 24 (((words1.drop 24).drop 24).drop 24), List.all_append, w_t4, w_t5]
  rfl
set_option maxRecDepth 65536 in
theorem w_rest : rest_1_c.before args0 about1 = true := by decide +kernel
set_option maxRecDepth 65536 in
theorem w_case : (Jvm.Cond.and given_1 narrow_1).before args0 about1 = true := by decide +kernel
set_option maxRecDepth 65536 in
theorem w_consts : constsHeld consts_1 about1 := Jvm.Lit.constsHeldB_iff.mp (by decide +kernel)
theorem w_applies : (headSpec (Jvm.Cond.code x code maxLocals ret :: tables_1) room_1).applies x e0.platform about1 = true :=
  (Spec.applies_iff w_frames).mpr ⟨w_running, w_runnable, w_alone, w_named, w_hears, w_ripe, w_room, w_tables⟩
theorem atStart : AtStart classFile x code maxLocals ret World_1 tables_1 room_1 Calls_1 rest_1 Pre_1 launch0 p0 e0 about1 theMethod args0 below0 :=
  ⟨lists_1, trivial, launch0.admits_env _ _ _, launch0.least_env, fairChoices_fair.cas, fairChoices_fair.clock, w_frames, w_args, w_heap, w_applies, ⟨w_consts, trivial⟩, w_rest, w_case⟩
end start1
theorem witness_1 : WitnessClaimed_1 := ⟨start1.p0, start1.e0, start1.about1, start1.theMethod, start1.args0, start1.below0, start1.atStart⟩
end Jvm.Pilot.@@N@@
