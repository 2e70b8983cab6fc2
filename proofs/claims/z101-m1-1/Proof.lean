import JvmDerived
import JvmDerived.Pilot.@@N@@Statement
import JvmDerived.Pilot.@@N@@Code
set_option linter.unusedVariables false
set_option linter.unusedSimpArgs false
namespace Jvm.RoadKit
open Sem ClassFile Op Lib Jvm.Stand Jvm.Free Jvm.LawKit
section New
variable {p : Program} {l : Launch} {e : Env} {R : Room} {s : State} {m : MethodId} {args : Array Value} {below : List Frame} {meth : Method} {c : Code} {T : State} {locs : List Loc} {cells slots : Nat}
theorem own_retI (X : Stand p l e R s m args below meth c T locs cells slots) (hx : p.tables.exec = Jvm.exec) {pc : Nat} {Ls : Array Slot} {z : Int32} {rest : List Value} (hret : meth.sig.returnType = some .int) (hd : decode c.code pc = .ok (.ireturn, 1)) {fs : List Frame}
    (hl : ∀ (f : JFrame) (acts : List Action), f.method = m → f.locked = none → f.entered = [] → (doReturn e (T.setTop f) acts (some (.int z))).1 = T.setFrames fs) : Steps p.tables e below (T.setTop (mkF m pc Ls (.int z :: rest))) (T.setFrames fs) := by
  have hm' : T.vm.method? m = some meth := X.method'
  have hn : narrow .int (.int z) = .int z := rfl
  show Steps p.tables e below (T.setTop { method := m, pc := pc, locals := Ls, stack := _ :: rest, locked := none }) _
  jvm_step X.here [X.here.top, hx, hd, hm', hret, hn]
  first | (intro acts; rw [hl _ acts rfl rfl rfl]) | rw [hl _ _ rfl rfl rfl]
  exact Steps.refl _
theorem own_retL (X : Stand p l e R s m args below meth c T locs cells slots) (hx : p.tables.exec = Jvm.exec) {pc : Nat} {Ls : Array Slot} {z : Int64} {rest : List Value} (hret : meth.sig.returnType = some .long) (hd : decode c.code pc = .ok (.lreturn, 1)) {fs : List Frame}
    (hl : ∀ (f : JFrame) (acts : List Action), f.method = m → f.locked = none → f.entered = [] → (doReturn e (T.setTop f) acts (some (.long z))).1 = T.setFrames fs) : Steps p.tables e below (T.setTop (mkF m pc Ls (.long z :: rest))) (T.setFrames fs) := by
  have hm' : T.vm.method? m = some meth := X.method'
  have hn : narrow .long (.long z) = .long z := rfl
  show Steps p.tables e below (T.setTop { method := m, pc := pc, locals := Ls, stack := _ :: rest, locked := none }) _
  jvm_step X.here [X.here.top, hx, hd, hm', hret, hn]
  first | (intro acts; rw [hl _ acts rfl rfl rfl]) | rw [hl _ _ rfl rfl rfl]
  exact Steps.refl _
theorem own_retR (X : Stand p l e R s m args below meth c T locs cells slots) (hx : p.tables.exec = Jvm.exec) {pc : Nat} {Ls : Array Slot} {w : Value} {t : FieldType} {rest : List Value} (hret : meth.sig.returnType = some t) (hn : narrow t w = w) (ht : t.isReference = true) (hw : w.isRef = true) (hd : decode c.code pc = .ok (.areturn, 1)) {fs : List Frame}
    (hl : ∀ (f : JFrame) (acts : List Action), f.method = m → f.locked = none → f.entered = [] → (doReturn e (T.setTop f) acts (some w)).1 = T.setFrames fs) : Steps p.tables e below (T.setTop (mkF m pc Ls (w :: rest))) (T.setFrames fs) := by
  have hm' : T.vm.method? m = some meth := X.method'
  show Steps p.tables e below (T.setTop { method := m, pc := pc, locals := Ls, stack := _ :: rest, locked := none }) _
  jvm_step X.here [X.here.top, hx, hd, hm', hret, hn, hw]
  try (refine ⟨ht, ?_⟩)
  first | (intro acts; rw [hl _ acts rfl rfl rfl]) | rw [hl _ _ rfl rfl rfl]
  exact Steps.refl _
/-- from here the run comes to a state of which G holds -/
def Out (tb : Tables) (e : Env) (below : List Frame) (G : State → Prop) (T : State) (g : JFrame) : Prop := ∃ U, Steps tb e below (T.setTop g) U ∧ G U
theorem Out.via {tb : Tables} {G : State → Prop} {T' : State} {g g' : JFrame} (h : ∀ target, Steps tb e below (T'.setTop g') target → Steps tb e below (T.setTop g) target) (k : Out tb e below G T' g') : Out tb e below G T g := by
  obtain ⟨U, h1, h2⟩ := k
  exact ⟨U, h _ h1, h2⟩
theorem Out.to {tb : Tables} {G : State → Prop} {T' : State} {g g' : JFrame} (h : Steps tb e below (T.setTop g) (T'.setTop g')) (k : Out tb e below G T' g') : Out tb e below G T g := by
  obtain ⟨U, h1, h2⟩ := k
  exact ⟨U, h.trans h1, h2⟩
/-- what a contract asks of the end -/
def End (s : State) (below : List Frame) (Q : Option Value → Heap → List Loc → Prop) (kc ks : Nat) (U : State) : Prop := U.status = .running ∧ ∃ o, Ended U below o ∧ ∃ v L, o = .returned v ∧ Q v U.heap L ∧ FrameEnd s o U L kc ks
theorem Out.start {tb : Tables} {Q : Option Value → Heap → List Loc → Prop} {kc ks : Nat} {g g' : JFrame} (q : g = g') (k : Out tb e below (End s below Q kc ks) T g') : ∃ s₂ o, Steps tb e below (T.setTop g) s₂ ∧ s₂.status = .running ∧ Ended s₂ below o ∧ ∃ v L, o = .returned v ∧ Q v s₂.heap L ∧ FrameEnd s o s₂ L kc ks := by
  subst q
  obtain ⟨U, h1, h2, o, h3, h4⟩ := k
  exact ⟨U, o, h1, h2, h3, h4⟩
/-- the end of a narrow walk, whatever the return's kind -/
theorem Out.endN (X : Stand p l e R s m args below meth c T locs cells slots) {g : JFrame} {v : Option Value} {Q : Option Value → Heap → List Loc → Prop} {kc ks : Nat} (hv : meth.sig.returnType = none → v = none) (hk : meth.locks = false) (hc : cells ≤ kc) (hs : slots ≤ ks) (hq : Q v T.heap locs)
    (st : ∀ fs : List Frame, (∀ (f : JFrame) (acts : List Action), f.method = m → f.locked = none → f.entered = [] → (doReturn e (T.setTop f) acts v).1 = T.setFrames fs) → Steps p.tables e below (T.setTop g) (T.setFrames fs)) : Out p.tables e below (End s below Q kc ks) T g := by
  obtain ⟨fs, hr, hrun, hended, hW, hsame⟩ := X.leave (v := v) hv hk
  exact ⟨_, st fs hr, hrun, _, hended, _, _, rfl, hq, ⟨_, rfl⟩, hW, hsame.mono hc hs⟩
/-- what a contract asks of the end, where literals may have been interned -/
def EndW (s : State) (below : List Frame) (Q : Option Value → Heap → List Loc → Prop) (kc ks : Nat) (U : State) : Prop := U.status = .running ∧ ∃ o, Ended U below o ∧ ∃ v L, o = .returned v ∧ Q v U.heap L ∧ ReturnedEndW s o U L kc ks
theorem Out.startW {tb : Tables} {Q : Option Value → Heap → List Loc → Prop} {kc ks : Nat} {g g' : JFrame} (q : g = g') (k : Out tb e below (EndW s below Q kc ks) T g') : ∃ s₂ o, Steps tb e below (T.setTop g) s₂ ∧ s₂.status = .running ∧ Ended s₂ below o ∧ ∃ v L, o = .returned v ∧ Q v s₂.heap L ∧ ReturnedEndW s o s₂ L kc ks := by
  subst q
  obtain ⟨U, h1, h2, o, h3, h4⟩ := k
  exact ⟨U, o, h1, h2, h3, h4⟩
theorem Out.endW {vm0 : Vm} {n : Nat} (X : Stand p l e R (s.setVm vm0) m args below meth c T locs cells slots) (hS : s.Since vm0 n) (hn : n ≤ T.heap.size) {g : JFrame} {v : Option Value} {Q : Option Value → Heap → List Loc → Prop} {kc ks : Nat} (hv : meth.sig.returnType = none → v = none) (hk : meth.locks = false) (hc : cells ≤ kc) (hs : slots ≤ ks) (hq : Q v T.heap locs)
    (st : ∀ fs : List Frame, (∀ (f : JFrame) (acts : List Action), f.method = m → f.locked = none → f.entered = [] → (doReturn e (T.setTop f) acts v).1 = T.setFrames fs) → Steps p.tables e below (T.setTop g) (T.setFrames fs)) : Out p.tables e below (EndW s below Q kc ks) T g := by
  obtain ⟨fs, hr, hrun, hended, h1, h2, h3, h4⟩ := X.leaveW hS hn (v := v) hv hk
  exact ⟨_, st fs hr, hrun, _, hended, _, _, rfl, hq, h1, h2, h3, h4.mono hc hs⟩
/-- .. and the assumed word on the literals goes on -/
def EndH (Z : State) (EL : List (String × Nat)) (s : State) (below : List Frame) (Q : Option Value → Heap → List Loc → Prop) (kc ks : Nat) (U : State) : Prop := U.status = .running ∧ ∃ o, Ended U below o ∧ ∃ v L, o = .returned v ∧ Q v U.heap L ∧ CHr Z EL s.vm s.heap U.vm U.heap ∧ ReturnedEndW s o U L kc ks
theorem Out.startH {tb : Tables} {Z : State} {EL : List (String × Nat)} {Q : Option Value → Heap → List Loc → Prop} {kc ks : Nat} {g g' : JFrame} (q : g = g') (k : Out tb e below (EndH Z EL s below Q kc ks) T g') : ∃ s₂ o, Steps tb e below (T.setTop g) s₂ ∧ s₂.status = .running ∧ Ended s₂ below o ∧ ∃ v L, o = .returned v ∧ Q v s₂.heap L ∧ CHr Z EL s.vm s.heap s₂.vm s₂.heap ∧ ReturnedEndW s o s₂ L kc ks := by
  subst q
  obtain ⟨U, h1, h2, o, h3, h4⟩ := k
  exact ⟨U, o, h1, h2, h3, h4⟩
theorem Out.endH {Z : State} {a0 : Array Value} {EL : List (String × Nat)} {vm0 : Vm} {n : Nat} (X : Stand p l e R (s.setVm vm0) m args below meth c T locs cells slots) (hS : s.Since vm0 n) (hn : n ≤ T.heap.size) (hZ : Z.Warmed39 (s.setVm vm0).vm) (w : EW Z a0 EL) (CR : CHr Z EL s.vm s.heap vm0 T.heap) {g : JFrame} {v : Option Value} {Q : Option Value → Heap → List Loc → Prop} {kc ks : Nat} (hv : meth.sig.returnType = none → v = none) (hk : meth.locks = false) (hc : cells ≤ kc) (hs : slots ≤ ks) (hq : Q v T.heap locs)
    (st : ∀ fs : List Frame, (∀ (f : JFrame) (acts : List Action), f.method = m → f.locked = none → f.entered = [] → (doReturn e (T.setTop f) acts v).1 = T.setFrames fs) → Steps p.tables e below (T.setTop g) (T.setFrames fs)) : Out p.tables e below (EndH Z EL s below Q kc ks) T g := by
  obtain ⟨fs, hr, hrun, hended, h1, h2, h3, h4⟩ := X.leaveW hS hn (v := v) hv hk
  have q : CHr Z EL vm0 T.heap T.vm T.heap := CHv.at X hZ w CR.1
  exact ⟨_, st fs hr, hrun, _, hended, _, _, rfl, hq, CR.trans q, h1, h2, h3, h4.mono hc hs⟩
theorem own_since0 (s : State) (n : Nat) : s.Since s.vm n := (State.WarmedH.refl s).since n
/-- castore into an array whose values are known: what stands behind it -/
theorem own_stC (X : Stand p l e R s m args below meth c T locs cells slots) (hx : p.tables.exec = Jvm.exec) {Z : State} (hZ : Z.Warmed39 s.vm) {h h1 : Heap} (eT : T.heap = h) {a : Addr} {k : ClassId} {z : Int32} {vs : List Value} {dv : Value} (V : Arv Z h a k .char z vs dv) {j x : Int32} (hj : ¬ j < 0 ∧ j < z) (i : Nat) (hi : j.toNatClampNeg = i) (hl : i < vs.length)
    {n0 : Nat} (ga : n0 ≤ a) (N : Fr n0 locs) (O : Old Z n0 h) {ws : List Addr} (K : Keep h1 h ws) (hK : a ∈ ws ∨ h1.size ≤ a) {g : JFrame} (hg : g.method = m) {rest : List Value} (hs : g.stack = .int x :: .int j :: .ref a :: rest) (hd : decode c.code g.pc = .ok (.castore, 1)) :
    ∃ T' h' L', Stand p l e R s m args below meth c T' L' cells slots ∧ T'.heap = h' ∧ Arv Z h' a k .char z (vs.set i (.int (nar .char x))) dv ∧ Fr n0 L' ∧ Old Z n0 h' ∧ Keep h1 h' ws ∧ ∀ target, Steps p.tables e below (T'.setTop { g with pc := g.pc + 1, stack := rest }) target → Steps p.tables e below (T.setTop g) target := by
  obtain ⟨cl, Ar, q, S, M, H, G⟩ := V
  obtain ⟨T', h', X', e', W, st⟩ := stC X hx hZ eT Ar (j := j) (inb_of S hj) hg hs hd
  exact ⟨T', h', _, X', e', Arv.set Ar q S M H G (fits_nar_char _) W i hi hl, Fr.snoc X' N ga, O.wr W ga, K.wr W hK, st⟩
theorem own_z0 {Z : State} {n0 : Nat} {h : Heap} (O : Old Z n0 h) : n0 ≤ h.size := O.1 ▸ O.2.1
end New
end Jvm.RoadKit
/- laws to paste: Road.eqW, Road.codOf (cut by pick.py; bodies as the Statement names them) -/
namespace Jvm.Pilot.@@N@@
namespace StrChars
open Jvm Sem ClassFile Op Lib Jvm.Stand Jvm.Free.XT Jvm.Free.ALB Jvm.Free.JM Jvm.Free
open Jvm.Lib.Cold (StaticIs)
/-- a char array whose places are chars -/
def Ch (a : Addr) (A : Cell) (U : State) : Prop := Arr .char a A U ∧ Typed .char A
theorem Ch.mv {a : Addr} {A : Cell} {U U' : State} (h : Ch a A U) (hal : U.vm.Alike U'.vm) (hh : U'.heap = U.heap) : Ch a A U' := ⟨h.1.mv hal hh, h.2⟩
theorem Ch.keep {a : Addr} {A : Cell} {U U' : State} (h : Ch a A U) (hal : U.vm.Alike U'.vm) (hk : U'.heap[a]? = some A) : Ch a A U' := ⟨h.1.keep hal hk, h.2⟩
/-- what place i of a char[]'s cell holds -/
def cv (A : Cell) (i : Nat) : Int32 := match A.slots[i]? with | some (.int x) => x | _ => 0
theorem Ch.get {a : Addr} {A : Cell} {U : State} (h : Ch a A U) {i : Nat} (hi : i < A.slots.size) : A.slots[i]? = some (.int (cv A i)) := by
  have e := Array.getElem?_eq_getElem hi
  have f := h.2 i _ e
  unfold cv; rw [e]
  generalize A.slots[i] = v at f
  cases v <;> simp [fits] at f ⊢
/-- the byte that i2b leaves of a char -/
def lo8 (x : Int32) : Int32 := x.toInt8.toInt32
theorem fits_lo8 (y : Int32) : fits .byte (.int (lo8 y)) = true := by
  have h1 := y.toInt8.le_toInt
  have h2 := y.toInt8.toInt_lt
  simp only [lo8, fits, Bool.and_eq_true, decide_eq_true_eq, Int32.le_iff_toInt_le, Int8.toInt_toInt32, show (-128 : Int32).toInt = -128 from by decide, show (127 : Int32).toInt = 127 from by decide]
  omega
/-- A' is A but that each place j of lo .. hi - 1 holds f j -/
def Laid (A A' : Cell) (lo hi : Nat) (f : Nat → Value) : Prop := A'.cls = A.cls ∧ A'.vm = A.vm ∧ A'.slots.size = A.slots.size ∧ ∀ i, A'.slots[i]? = if lo ≤ i ∧ i < hi then some (f i) else A.slots[i]?
theorem Laid.zero (A : Cell) (lo : Nat) (f : Nat → Value) : Laid A A lo (lo + 0) f := ⟨rfl, rfl, rfl, fun i => by rw [if_neg (by omega)]⟩
theorem Laid.step {A Ak : Cell} {lo k : Nat} {f : Nat → Value} {v : Value} (h : Laid A Ak lo k f) (hlo : lo ≤ k) (hk : k < Ak.slots.size) (hv : v = f k) : Laid A (Ak.setSlot k v) lo (k + 1) f := by
  refine ⟨h.1, h.2.1, by simpa [Cell.setSlot] using h.2.2.1, fun i => ?_⟩
  by_cases e : k = i
  · subst e; rw [Cell.slots_setSlot_self v hk, if_pos (by omega), hv]
  · rw [Cell.slots_setSlot_ne v e, h.2.2.2 i]
    by_cases q : lo ≤ i ∧ i < k
    · rw [if_pos q, if_pos (by omega)]
    · rw [if_neg q, if_neg (by omega)]
def U16 : String := "java/lang/StringUTF16"
/-- the byte, read back as charAt reads it, is the char -/
theorem lo8_mask {x : Int32} (h0 : ¬ x < 0) (h1 : ¬ 255 < x) : lo8 x &&& 255 = x := by
  have t : ∀ k : Fin 256, lo8 (Int32.ofNat k.val) &&& 255 = Int32.ofNat k.val := by decide +kernel
  rw [Int32.lt_iff_toInt_lt] at h0 h1
  have e0 : (0 : Int32).toInt = 0 := rfl
  have e1 : (255 : Int32).toInt = 255 := rfl
  obtain ⟨k, hk⟩ : ∃ k : Nat, x.toInt = k := ⟨x.toInt.toNat, by omega⟩
  have hx : x = Int32.ofNat k := Int32.toInt_inj.mp (by rw [hk, Int32.toInt_ofNat_small (by omega)])
  rw [hx]
  exact t ⟨k, by omega⟩
end StrChars
namespace StrChars.Road
open Jvm Sem ClassFile Op Lib Jvm.Stand Jvm.Free Jvm.Free.XT
open Jvm.Lib.Cold (StaticIs)
abbrev ST : String := "java/lang/String"
end StrChars.Road
namespace StrChars.Road
open Jvm Sem ClassFile Op Lib Jvm.Stand Jvm.Free Jvm.Free.XT
end StrChars.Road
namespace StrChars.Road
open Jvm Sem ClassFile Op Lib Jvm.Stand Jvm.Free Jvm.Free.XT
end StrChars.Road
namespace StrChars
open Jvm Sem ClassFile Op Lib Jvm.Stand Jvm.Free.XT Jvm.Free.ALB Jvm.Free.JM Jvm.Free
open Jvm.Lib.Cold (StaticIs)
def hi8 (x : Int32) : Int32 := lo8 (x >>> ((8 : Int32) &&& 31))
/-- what StringUTF16.getChar makes of two bytes -/
def pairCh (u v : Int32) : Int32 := (((u &&& 255) <<< ((0 : Int32) &&& 31)) ||| ((v &&& 255) <<< ((8 : Int32) &&& 31))).toUInt32.toUInt16.toUInt32.toInt32
theorem lo8_and (x : Int32) : (lo8 x &&& 255).toBitVec.toNat = x.toBitVec.toNat % 256 := by
  have h : (lo8 x).toBitVec = (x.toBitVec.signExtend 8).signExtend 32 := by rw [lo8, Int8.toBitVec_toInt32, Int32.toBitVec_toInt8]
  rw [Int32.toBitVec_and, BitVec.toNat_and, h]
  have e : ((x.toBitVec.signExtend 8).signExtend 32).toNat % 256 = x.toBitVec.toNat % 256 := by
    rw [BitVec.toNat_signExtend]
    have hlt := x.toBitVec.isLt
    simp only [BitVec.toNat_setWidth, BitVec.toNat_signExtend]
    split <;> split <;> omega
  rw [← e]
  exact Nat.and_two_pow_sub_one_eq_mod _ 8
theorem pair_says {c : Int32} (h0 : ¬ c < 0) (h1 : ¬ 65535 < c) : pairCh (lo8 c) (hi8 c) = c := by
  rw [Int32.lt_iff_toInt_lt] at h0 h1
  have e0 : (0 : Int32).toInt = 0 := rfl
  have e1 : (65535 : Int32).toInt = 65535 := rfl
  have hc : c.toInt = c.toBitVec.toNat := by
    have := c.toBitVec.isLt
    have e : c.toInt = c.toBitVec.toInt := rfl
    rw [e] at h0 h1
    rw [e]
    rw [BitVec.toInt_eq_toNat_cond] at h0 h1 ⊢
    split at h0 <;> split <;> omega
  have hn : c.toBitVec.toNat < 65536 := by omega
  have a1 := lo8_and c
  have a2 : (hi8 c &&& 255).toBitVec.toNat = c.toBitVec.toNat / 256 := by
    rw [hi8, lo8_and]
    have e : ((8 : Int32) &&& 31) = 8 := by decide
    rw [e, Int32.toBitVec_shiftRight]
    have e2 : ((8 : Int32).toBitVec.smod 32) = 8#32 := by decide
    rw [e2, BitVec.sshiftRight_eq', BitVec.toNat_sshiftRight_of_msb_false (by rw [BitVec.msb_eq_false_iff_two_mul_lt]; omega)]
    show c.toBitVec.toNat >>> 8 % 256 = _
    rw [Nat.shiftRight_eq_div_pow]
    omega
  unfold pairCh
  apply Int32.toBitVec_inj.mp
  apply BitVec.eq_of_toNat_eq
  have f0 : ((0 : Int32) &&& 31) = 0 := by decide
  have f8 : ((8 : Int32) &&& 31) = 8 := by decide
  rw [f0, f8]
  have g : (((lo8 c &&& 255) <<< (0 : Int32)) ||| ((hi8 c &&& 255) <<< (8 : Int32))).toBitVec.toNat = c.toBitVec.toNat := by
    rw [Int32.toBitVec_or, Int32.toBitVec_shiftLeft, Int32.toBitVec_shiftLeft]
    have s0 : ((0 : Int32).toBitVec.smod 32) = 0#32 := by decide
    have s8 : ((8 : Int32).toBitVec.smod 32) = 8#32 := by decide
    rw [s0, s8, BitVec.toNat_or]
    simp only [BitVec.shiftLeft_eq', BitVec.toNat_shiftLeft, a1, a2]
    show (c.toBitVec.toNat % 256) <<< 0 % 2 ^ 32 ||| (c.toBitVec.toNat / 256) <<< 8 % 2 ^ 32 = _
    rw [Nat.shiftLeft_zero, Nat.mod_eq_of_lt (show c.toBitVec.toNat % 256 < 2 ^ 32 by omega), Nat.mod_eq_of_lt (show (c.toBitVec.toNat / 256) <<< 8 < 2 ^ 32 by rw [Nat.shiftLeft_eq]; omega), Nat.or_comm, ← Nat.shiftLeft_add_eq_or_of_lt (by omega), Nat.shiftLeft_eq]
    omega
  show BitVec.toNat (((((lo8 c &&& 255) <<< (0 : Int32)) ||| ((hi8 c &&& 255) <<< (8 : Int32))).toBitVec.setWidth 16).setWidth 32) = _
  rw [BitVec.toNat_setWidth, BitVec.toNat_setWidth, g]
  omega
end StrChars
namespace StrChars
open Jvm Sem ClassFile Op Lib Jvm.Stand Jvm.Free.XT Jvm.Free.ALB Jvm.Free.JM Jvm.Free
open Jvm.Lib.Cold (StaticIs)
/-- the array's cell V codes the n chars f 0 .. f (n - 1) by the coder cd, as the JDK does: coder 1 just where some char is above 255 -/
def Cod (cd : Int32) (n : Nat) (f : Nat → Int32) (V : Cell) : Prop := (cd = 0 ∧ V.slots.size = n ∧ ∀ j, j < n → V.slots[j]? = some (.int (lo8 (f j))) ∧ ¬ 255 < f j) ∨ (cd = 1 ∧ V.slots.size = 2 * n ∧ (∀ j, j < n → V.slots[2 * j]? = some (.int (lo8 (f j))) ∧ V.slots[2 * j + 1]? = some (.int (hi8 (f j)))) ∧ ∃ j, j < n ∧ 255 < f j)
/-- **x is a String of the n chars f 0 .. f (n - 1)**, Latin-1 or UTF-16; its array at t has the cell V -/
def Txt (x t : Addr) (V : Cell) (cd : Int32) (n : Nat) (f : Nat → Int32) (U : State) : Prop := Exact "java/lang/String" x U ∧ Has x "java/lang/String" "value" "[B" (.ref t) U ∧ Has x "java/lang/String" "coder" "B" (.int cd) U ∧ XT.Arr .byte t V U ∧ Cod cd n f V ∧ ∀ j, j < n → ¬ f j < 0 ∧ ¬ 65535 < f j
theorem Txt.mv {x t : Addr} {V : Cell} {cd : Int32} {n : Nat} {f : Nat → Int32} {U U' : State} (h : Txt x t V cd n f U) (hal : U.vm.Alike U'.vm) (hh : U'.heap = U.heap) : Txt x t V cd n f U' := ⟨h.1.mv hal hh, h.2.1.mv hal hh, h.2.2.1.mv hal hh, h.2.2.2.1.mv hal hh, h.2.2.2.2⟩
end StrChars
namespace StrChars.Road
open Jvm Sem ClassFile Op Lib Jvm.Stand Jvm.Free Jvm.Free.XT
open Jvm.Lib.Cold (StaticIs)
theorem consq {a : Array Value} {s : State} {c : Jvm.Cond} {L : List Jvm.Cond} (h0 : c.before a s = true) (h : ∀ w ∈ L, w.before a s = true) : ∀ w ∈ c :: L, w.before a s = true := fun w hw => (List.mem_cons.mp hw).elim (fun e => e ▸ h0) (h w)
/-- the bytes of the chars cs, low before high -/
def wideBytes : List Int32 → List Value
  | [] => []
  | c :: cs => .int (lo8 c) :: .int (hi8 c) :: wideBytes cs
theorem wide_lo (d : Value) : ∀ (cs : List Int32) (j : Nat), j < cs.length → (wideBytes cs).getD (2 * j) d = .int (lo8 (cs.getD j 0))
  | [], j, h => absurd h (Nat.not_lt_zero j)
  | c :: cs, 0, _ => rfl
  | c :: cs, j + 1, h => by
    have q := wide_lo d cs j (by simpa using h)
    rw [show 2 * (j + 1) = 2 * j + 1 + 1 from by omega]
    simpa [wideBytes] using q
theorem wide_hi (d : Value) : ∀ (cs : List Int32) (j : Nat), j < cs.length → (wideBytes cs).getD (2 * j + 1) d = .int (hi8 (cs.getD j 0))
  | [], j, h => absurd h (Nat.not_lt_zero j)
  | c :: cs, 0, _ => rfl
  | c :: cs, j + 1, h => by
    have q := wide_hi d cs j (by simpa using h)
    rw [show 2 * (j + 1) + 1 = 2 * j + 1 + 1 + 1 from by omega]
    simpa [wideBytes] using q
theorem low_at (d : Value) (cs : List Int32) (j : Nat) (h : j < cs.length) : (cs.map fun c => Value.int (lo8 c)).getD j d = .int (lo8 (cs.getD j 0)) := by
  simp [List.getD_eq_getElem?_getD, h]
/-- an array of N2 bytes vs codes the chars cs by the coder cd -/
def CodA (cs : List Int32) (cd N2 : Int32) (vs : List Value) : Prop := (cd = 0 ∧ N2 = Int32.ofNat cs.length ∧ vs = (cs.map fun c => Value.int (lo8 c)) ∧ ∀ c ∈ cs, ¬ 255 < c) ∨ (cd = 1 ∧ N2 = Int32.ofNat (2 * cs.length) ∧ vs = wideBytes cs ∧ ∃ c ∈ cs, 255 < c)
theorem CodA.cod {cs : List Int32} {cd N2 : Int32} {vs : List Value} {V : Cell} (h : CodA cs cd N2 vs) (hn : 2 * cs.length < 2 ^ 31) (hs : V.slots.size = N2.toNatClampNeg) (hv : RoadKit.Has V vs (.int 0)) : Cod cd cs.length (fun j => cs.getD j 0) V := by
  rcases h with ⟨rfl, rfl, rfl, h⟩ | ⟨rfl, rfl, rfl, c, hc, hw⟩
  · rw [n32 (by omega)] at hs
    exact Or.inl ⟨rfl, hs, fun j hj => ⟨by rw [hv j (by omega), low_at _ _ _ hj], by
      have e : cs.getD j 0 = cs[j] := by simp [List.getD_eq_getElem?_getD, hj]
      show ¬ 255 < cs.getD j 0
      rw [e]; exact h _ (List.getElem_mem _)⟩⟩
  · rw [n32 (by omega)] at hs
    obtain ⟨j, hj, rfl⟩ := List.getElem_of_mem hc
    exact Or.inr ⟨rfl, hs, fun j hj => ⟨by rw [hv _ (by omega), wide_lo _ _ _ hj], by rw [hv _ (by omega), wide_hi _ _ _ hj]⟩, j, hj, by
      have e : cs.getD j 0 = cs[j] := by simp [List.getD_eq_getElem?_getD, hj]
      show 255 < cs.getD j 0
      rw [e]; exact hw⟩
/-- an object of exactly java/lang/String, its two fields found: as the laws ask it -/
theorem strObj {Z U : State} {a0 : Array Value} {kI : Nat} (wi : (Jvm.Cond.instantiable ST kI).before a0 Z = true) (al : Z.vm.Alike U.vm) {x : Addr} {v0 c0 : Value} (E : RoadKit.Exa Z U.heap x ST) (V : RoadKit.Fld Z U.heap x ST "value" "[B" v0) (C : RoadKit.Fld Z U.heap x ST "coder" "B" c0) :
    ∃ (D : Cell) (fV fC : Field), Blank ST x D U ∧ Found ST "value" "[B" fV U ∧ Found ST "coder" "B" fC U ∧ D.slots[fV.slot]? = some v0 ∧ D.slots[fC.slot]? = some c0 ∧ RoadKit.slotOf Z ST "value" "[B" = fV.slot ∧ RoadKit.slotOf Z ST "coder" "B" = fC.slot := by
  obtain ⟨D, cfV, kV, iV, fV, hD, gV, stV, knV, obV, asV, slV⟩ := V
  obtain ⟨D', cfC, kC, iC, fC, hD', gC, stC, -, -, asC, slC⟩ := C
  cases hD.symm.trans hD'
  obtain ⟨D2, kD, e1, e2, e3, e4, e5⟩ := E
  cases hD.symm.trans e1
  obtain ⟨c2, k2, i1, i2, i3, -⟩ := Cond.instantiable_spec wi
  cases e2.symm.trans i1
  cases e3.symm.trans i2
  obtain ⟨kU, u1, u2⟩ := al.2.2 _ _ e3
  exact ⟨D, fV, fC, ⟨hD, ⟨knV, fun q hq => by rw [hq] at obV; cases obV⟩, by rw [al.findClass]; exact e2, kU, u1, by rw [u2]; exact i3, by rw [u2]; exact e5 i3⟩, ⟨SBG.found_only al ⟨cfV, kV, iV, gV⟩, stV⟩, ⟨SBG.found_only al ⟨cfC, kC, iC, gC⟩, stC⟩, slV, slC, by simp [RoadKit.slotOf, gV], by simp [RoadKit.slotOf, gC]⟩
theorem sta_is {Z U : State} (al : Z.vm.Alike U.vm) {C n d : String} {v : Value} (S : RoadKit.Sta Z U.heap C n d v) : StaticIs U C n d v := by
  obtain ⟨cfS, iS, kS, fS, st, cS, t1, t2, t3, t4, t5, t6, t7⟩ := S
  exact StaticIs.there (s := { Z with heap := U.heap }) ⟨cfS, iS, kS, fS, st, cS, t1, t2, t3, t4, t5, (fun q => by rw [q] at t6; cases t6), t7⟩ al rfl
end StrChars.Road
namespace StrChars
open Jvm Sem ClassFile Op Lib Jvm.Stand Jvm.Free.XT Jvm.Free.ALB Jvm.Free.JM Jvm.Free
open Jvm.Lib.Cold (StaticIs)
/-- what place i of a byte[]'s cell holds -/
def yv (A : Cell) (i : Nat) : Int32 := match A.slots[i]? with | some (.int x) => x | _ => 0
theorem yv_get {a : Addr} {A : Cell} {U : State} (h : XT.Arr .byte a A U) (ht : Typed .byte A) {i : Nat} (hi : i < A.slots.size) : A.slots[i]? = some (.int (yv A i)) := by
  have e := Array.getElem?_eq_getElem hi
  have f := ht i _ e
  unfold yv; rw [e]
  generalize A.slots[i] = v at f
  cases v <;> simp [fits] at f ⊢
/-- the two arrays are equal, place for place -/
def EqC (A B : Cell) : Prop := A.slots.size = B.slots.size ∧ ∀ i, i < A.slots.size → yv A i = yv B i
/-- a boolean that says whether p -/
def Says01 (q : Prop) (r : Option Value) (s u : State) : Prop := ∃ v : Int32, r = some (.int v) ∧ u.heap = s.heap ∧ ((v = 1 ∧ q) ∨ (v = 0 ∧ ¬ q))
theorem Says01.mv {q : Prop} : ∀ r (U U' V V' : State), U'.heap = U.heap → V.vm.Alike V'.vm → V'.heap = V.heap → Says01 q r U V → Says01 q r U' V' :=
  fun r U U' V V' h1 _ h2 ⟨v, a, b, c⟩ => ⟨v, a, by rw [h1, h2]; exact b, c⟩
namespace LEq
def yN : MethodName := ⟨"java/lang/StringLatin1", "equals", "([B[B)Z"⟩
abbrev yB : ByteArray := jdk_43_method_13_code
theorem d0 : decode yB 0 = .ok (.aload_n 0, 1) := by decide +kernel
theorem d1 : decode yB 1 = .ok (.arraylength, 1) := by decide +kernel
theorem d2 : decode yB 2 = .ok (.aload_n 1, 1) := by decide +kernel
theorem d3 : decode yB 3 = .ok (.arraylength, 1) := by decide +kernel
theorem d4 : decode yB 4 = .ok (.if_icmp (.ne) 30, 3) := by decide +kernel
theorem d7 : decode yB 7 = .ok (.iconst 0, 1) := by decide +kernel
theorem d8 : decode yB 8 = .ok (.istore_n 2, 1) := by decide +kernel
theorem d9 : decode yB 9 = .ok (.iload_n 2, 1) := by decide +kernel
theorem d10 : decode yB 10 = .ok (.aload_n 0, 1) := by decide +kernel
theorem d11 : decode yB 11 = .ok (.arraylength, 1) := by decide +kernel
theorem d12 : decode yB 12 = .ok (.if_icmp (.ge) 20, 3) := by decide +kernel
theorem d15 : decode yB 15 = .ok (.aload_n 0, 1) := by decide +kernel
theorem d16 : decode yB 16 = .ok (.iload_n 2, 1) := by decide +kernel
theorem d17 : decode yB 17 = .ok (.baload, 1) := by decide +kernel
theorem d18 : decode yB 18 = .ok (.aload_n 1, 1) := by decide +kernel
theorem d19 : decode yB 19 = .ok (.iload_n 2, 1) := by decide +kernel
theorem d20 : decode yB 20 = .ok (.baload, 1) := by decide +kernel
theorem d21 : decode yB 21 = .ok (.if_icmp (.eq) 5, 3) := by decide +kernel
theorem d24 : decode yB 24 = .ok (.iconst 0, 1) := by decide +kernel
theorem d25 : decode yB 25 = .ok (.ireturn, 1) := by decide +kernel
theorem d26 : decode yB 26 = .ok (.iinc 2 1, 3) := by decide +kernel
theorem d29 : decode yB 29 = .ok (.goto (-20), 3) := by decide +kernel
theorem d32 : decode yB 32 = .ok (.iconst 1, 1) := by decide +kernel
theorem d33 : decode yB 33 = .ok (.ireturn, 1) := by decide +kernel
theorem d34 : decode yB 34 = .ok (.iconst 0, 1) := by decide +kernel
theorem d35 : decode yB 35 = .ok (.ireturn, 1) := by decide +kernel
def site : List Cond := []
def tab : Cond := tabOf yN yB 3 (some .boolean) site
def P (a : Addr) (A : Cell) (b : Addr) (B : Cell) (args : Array Value) (s : State) : Prop := args = #[.ref a, .ref b] ∧ XT.Arr .byte a A s ∧ Typed .byte A ∧ XT.Arr .byte b B s ∧ Typed .byte B
/-- whether two byte[] are equal, place for place -/
theorem law (l : Launch) (a : Addr) (A : Cell) (b : Addr) (B : Cell) : Law l yN 2 2 0 0 yB 3 (some .boolean) site (P a A b B) (Says01 (EqC A B)) [] 0 0 := by
  refine Law.of_walk (plainFor_of_name (by decide +kernel)) (by decide +kernel) (by decide +kernel) (by decide) (fun _ _ h => by rw [h.1]; rfl) (fun _ U U' hal hh h => ⟨h.1, h.2.1.mv hal hh, h.2.2.1, h.2.2.2.1.mv hal hh, h.2.2.2.2⟩) (fun r U U' V V' h1 hal h2 h => Says01.mv r U U' V V' h1 hal h2 h) ?_
  intro p e s m args below meth c s₁ X0 hexec hbytes hml hret hlk hnm hown hh0 W hP
  obtain ⟨rfl, hA, tA, hB, tB⟩ := hP
  have a31 := hA.2.2.2
  have b31 := hB.2.2.2
  have hA0 := hA.mv X0.warmed.alike hh0
  have hB0 := hB.mv X0.warmed.alike hh0
  have c1 : Steps p.tables e below (s₁.setTop (entryFrame m #[.ref a, .ref b] 3)) (s₁.setTop (mkF m 0 #[.val (.ref a), .val (.ref b), .unset] [])) := entry rfl
  have c2 : Steps p.tables e below (s₁.setTop (entryFrame m #[.ref a, .ref b] 3)) (s₁.setTop (mkF m 4 #[.val (.ref a), .val (.ref b), .unset] [.int (Int32.ofNat B.slots.size), .int (Int32.ofNat A.slots.size)])) := c1.trans (by
    refine XS.aloadN X0.here hexec rfl (hb hbytes d0) rfl rfl ?_
    refine X0.alen hexec hA0 rfl rfl (hb hbytes d1) ?_
    refine XS.aloadN X0.here hexec rfl (hb hbytes d2) rfl rfl ?_
    refine X0.alen hexec hB0 rfl rfl (hb hbytes d3) ?_
    exact Steps.refl _)
  by_cases hs : A.slots.size = B.slots.size
  · have c3 : Steps p.tables e below (s₁.setTop (entryFrame m #[.ref a, .ref b] 3)) (s₁.setTop (mkF m 9 #[.val (.ref a), .val (.ref b), .val (.int 0)] [])) := c2.trans (by
      refine XS.icmpNo X0.here hexec rfl (hb hbytes d4) rfl (ii_ne_f (by rw [hs])) ?_
      refine iconstV X0.here hexec rfl 0 (hb hbytes d7) (by decide) ?_
      refine XS.istoreN X0.here hexec rfl (hb hbytes d8) rfl rfl ?_
      exact Steps.refl _)
    have loop : ∀ (r i : Nat), i + r = A.slots.size → (∀ j, j < i → yv A j = yv B j) → Steps p.tables e below (s₁.setTop (entryFrame m #[.ref a, .ref b] 3)) (s₁.setTop (mkF m 9 #[.val (.ref a), .val (.ref b), .val (.int (Int32.ofNat i))] [])) → ∃ (pc : Nat) (Ls : Array Slot) (v : Int32), (pc = 25 ∨ pc = 33) ∧ ((v = 1 ∧ EqC A B) ∨ (v = 0 ∧ ¬ EqC A B)) ∧ Steps p.tables e below (s₁.setTop (entryFrame m #[.ref a, .ref b] 3)) (s₁.setTop (mkF m pc Ls [.int v])) := by
      intro r
      induction r with
      | zero =>
        intro i hi he cl
        exact ⟨33, _, 1, Or.inr rfl, Or.inl ⟨rfl, hs, fun j hj => he j (by omega)⟩, cl.trans (by
          refine XS.iloadN X0.here hexec rfl (hb hbytes d9) rfl ?_
          refine XS.aloadN X0.here hexec rfl (hb hbytes d10) rfl rfl ?_
          refine X0.alen hexec hA0 rfl rfl (hb hbytes d11) ?_
          refine XS.icmpYes X0.here hexec rfl (pc0 := 12) rfl (hb hbytes d12) rfl (ii_ge_t (nlt32 (by omega) (by omega))) (by decide) rfl ?_
          refine iconstV X0.here hexec rfl 1 (hb hbytes d32) (by decide) ?_
          exact Steps.refl _)⟩
      | succ r ih =>
        intro i hi he cl
        have c4 : Steps p.tables e below (s₁.setTop (entryFrame m #[.ref a, .ref b] 3)) (s₁.setTop (mkF m 21 #[.val (.ref a), .val (.ref b), .val (.int (Int32.ofNat i))] [.int (yv B i), .int (yv A i)])) := cl.trans (by
          refine XS.iloadN X0.here hexec rfl (hb hbytes d9) rfl ?_
          refine XS.aloadN X0.here hexec rfl (hb hbytes d10) rfl rfl ?_
          refine X0.alen hexec hA0 rfl rfl (hb hbytes d11) ?_
          refine XS.icmpNo X0.here hexec rfl (hb hbytes d12) rfl (ii_ge_f (lt32 (by omega) (by omega))) ?_
          refine XS.aloadN X0.here hexec rfl (hb hbytes d15) rfl rfl ?_
          refine XS.iloadN X0.here hexec rfl (hb hbytes d16) rfl ?_
          refine X0.aget hexec hA0 rfl (yv_get hA tA (i := i) (by omega)) rfl rfl (hb hbytes d17) ?_
          refine XS.aloadN X0.here hexec rfl (hb hbytes d18) rfl rfl ?_
          refine XS.iloadN X0.here hexec rfl (hb hbytes d19) rfl ?_
          refine X0.aget hexec hB0 rfl (yv_get hB tB (i := i) (by omega)) rfl rfl (hb hbytes d20) ?_
          exact Steps.refl _)
        by_cases hv : yv A i = yv B i
        · have c5 : Steps p.tables e below (s₁.setTop (entryFrame m #[.ref a, .ref b] 3)) (s₁.setTop (mkF m 9 #[.val (.ref a), .val (.ref b), .val (.int (Int32.ofNat i + 1))] [])) := c4.trans (by
            refine XS.icmpYes X0.here hexec rfl (pc0 := 21) rfl (hb hbytes d21) rfl (ii_eq_t hv) (by decide) rfl ?_
            refine iincV X0.here hexec rfl 1 (hb hbytes d26) (by decide) rfl rfl ?_
            refine XS.goto X0.here hexec rfl (pc0 := 29) rfl (hb hbytes d29) (by decide) rfl ?_
            exact Steps.refl _)
          rw [succ32] at c5
          exact ih (i + 1) (by omega) (fun j hj => by
            by_cases e : j = i
            · rw [e]; exact hv
            · exact he j (by omega)) c5
        · exact ⟨25, _, 0, Or.inl rfl, Or.inr ⟨rfl, fun q => hv (q.2 i (by omega))⟩, c4.trans (by
            refine XS.icmpNo X0.here hexec rfl (hb hbytes d21) rfl (ii_eq_f hv) ?_
            refine iconstV X0.here hexec rfl 0 (hb hbytes d24) (by decide) ?_
            exact Steps.refl _)⟩
    obtain ⟨pc, Ls, v, hpc, hv, cz⟩ := loop A.slots.size 0 (by omega) (fun j hj => absurd hj (Nat.not_lt_zero j)) c3
    have nv : narrow .boolean (.int v) = .int v := by rcases hv with ⟨rfl, -⟩ | ⟨rfl, -⟩ <;> rfl
    rcases hpc with rfl | rfl
    · exact ⟨s₁, some (.int v), _, _, _, X0, rfl, rfl, rfl, (fun h => by cases h), ⟨v, rfl, hh0, hv⟩, fun fs hl => cz.trans (X0.ireturnOut hexec hret nv (Or.inr (Or.inl rfl)) (hb hbytes d25) hl)⟩
    · exact ⟨s₁, some (.int v), _, _, _, X0, rfl, rfl, rfl, (fun h => by cases h), ⟨v, rfl, hh0, hv⟩, fun fs hl => cz.trans (X0.ireturnOut hexec hret nv (Or.inr (Or.inl rfl)) (hb hbytes d33) hl)⟩
  · have c3 : Steps p.tables e below (s₁.setTop (entryFrame m #[.ref a, .ref b] 3)) (s₁.setTop (mkF m 35 #[.val (.ref a), .val (.ref b), .unset] [.int 0])) := c2.trans (by
      refine XS.icmpYes X0.here hexec rfl (pc0 := 4) rfl (hb hbytes d4) rfl (ii_ne_t (ne32 a31 b31 hs)) (by decide) rfl ?_
      refine iconstV X0.here hexec rfl 0 (hb hbytes d34) (by decide) ?_
      exact Steps.refl _)
    exact ⟨s₁, some (.int 0), _, _, _, X0, rfl, rfl, rfl, (fun h => by cases h), ⟨0, rfl, hh0, Or.inr ⟨rfl, fun q => hs q.1⟩⟩, fun fs hl => c3.trans (X0.ireturnOut hexec hret rfl (Or.inr (Or.inl rfl)) (hb hbytes d35) hl)⟩
end LEq
theorem Cod.ty {cd : Int32} {n : Nat} {f : Nat → Int32} {V : Cell} (h : Cod cd n f V) : Typed .byte V := fun i v hv => by
  have hi : i < V.slots.size := (Array.getElem?_eq_some_iff.mp hv).1
  rcases h with ⟨-, k1, k2⟩ | ⟨-, k1, k2, -⟩
  · rw [(k2 i (by omega)).1] at hv; cases hv; exact fits_lo8 _
  · rcases Nat.mod_two_eq_zero_or_one i with e | e
    · obtain ⟨j, rfl⟩ : ∃ j, i = 2 * j := ⟨i / 2, by omega⟩
      rw [(k2 j (by omega)).1] at hv; cases hv; exact fits_lo8 _
    · obtain ⟨j, rfl⟩ : ∃ j, i = 2 * j + 1 := ⟨i / 2, by omega⟩
      rw [(k2 j (by omega)).2] at hv; cases hv; exact fits_lo8 _
/-- the same text -/
def SameT (n : Nat) (f : Nat → Int32) (k : Nat) (g : Nat → Int32) : Prop := n = k ∧ ∀ j, j < n → f j = g j
theorem lo8_inj {x y : Int32} (h0 : ¬ x < 0) (h1 : ¬ 255 < x) (k0 : ¬ y < 0) (k1 : ¬ 255 < y) (h : lo8 x = lo8 y) : x = y := by
  rw [← lo8_mask h0 h1, ← lo8_mask k0 k1, h]
/-- arrays coded by one coder are equal just where the texts are -/
theorem Cod.eqv {cd : Int32} {n k : Nat} {f g : Nat → Int32} {V V' : Cell} (h : Cod cd n f V) (h' : Cod cd k g V') (hf : ∀ j, j < n → ¬ f j < 0 ∧ ¬ 65535 < f j) (hg : ∀ j, j < k → ¬ g j < 0 ∧ ¬ 65535 < g j) : EqC V V' ↔ SameT n f k g := by
  have yvv : ∀ {W : Cell} {i : Nat} {x : Int32}, W.slots[i]? = some (.int x) → yv W i = x := fun q => by unfold yv; rw [q]
  rcases h with ⟨rfl, k1, k2⟩ | ⟨rfl, k1, k2, -⟩
  · rcases h' with ⟨-, m1, m2⟩ | ⟨e, -⟩
    · constructor
      · rintro ⟨e1, e2⟩
        refine ⟨by omega, fun j hj => ?_⟩
        have q := e2 j (by omega)
        rw [yvv (k2 j hj).1, yvv (m2 j (by omega)).1] at q
        exact lo8_inj (hf j hj).1 (k2 j hj).2 (hg j (by omega)).1 (m2 j (by omega)).2 q
      · rintro ⟨rfl, e2⟩
        refine ⟨by omega, fun j hj => ?_⟩
        rw [yvv (k2 j (by omega)).1, yvv (m2 j (by omega)).1, e2 j (by omega)]
    · exact absurd e (by decide)
  · rcases h' with ⟨e, -⟩ | ⟨-, m1, m2, -⟩
    · exact absurd e (by decide)
    · constructor
      · rintro ⟨e1, e2⟩
        refine ⟨by omega, fun j hj => ?_⟩
        have q1 := e2 (2 * j) (by omega)
        have q2 := e2 (2 * j + 1) (by omega)
        rw [yvv (k2 j hj).1, yvv (m2 j (by omega)).1] at q1
        rw [yvv (k2 j hj).2, yvv (m2 j (by omega)).2] at q2
        rw [← pair_says (hf j hj).1 (hf j hj).2, ← pair_says (hg j (by omega)).1 (hg j (by omega)).2, q1, q2]
      · rintro ⟨rfl, e2⟩
        refine ⟨by omega, fun i hi => ?_⟩
        rcases Nat.mod_two_eq_zero_or_one i with e | e
        · obtain ⟨j, rfl⟩ : ∃ j, i = 2 * j := ⟨i / 2, by omega⟩
          rw [yvv (k2 j (by omega)).1, yvv (m2 j (by omega)).1, e2 j (by omega)]
        · obtain ⟨j, rfl⟩ : ∃ j, i = 2 * j + 1 := ⟨i / 2, by omega⟩
          rw [yvv (k2 j (by omega)).2, yvv (m2 j (by omega)).2, e2 j (by omega)]
/-- two codings differ: so do the texts -/
theorem Cod.dif {cd cd' : Int32} {n k : Nat} {f g : Nat → Int32} {V V' : Cell} (h : Cod cd n f V) (h' : Cod cd' k g V') (hne : ¬ cd = cd') : ¬ SameT n f k g := by
  rintro ⟨rfl, e⟩
  rcases h with ⟨rfl, -, k2⟩ | ⟨rfl, -, -, j, hj, hw⟩
  · rcases h' with ⟨rfl, -⟩ | ⟨-, -, -, j, hj, hw⟩
    · exact hne rfl
    · exact (k2 j hj).2 (by rw [e j hj]; exact hw)
  · rcases h' with ⟨-, -, m2⟩ | ⟨rfl, -⟩
    · exact (m2 j hj).2 (by rw [← e j hj]; exact hw)
    · exact hne rfl
/-- an object of exactly C is an instance of C -/
theorem cinst {p : Program} {l : Launch} {e : Env} {R : Room} {s : State} {m : MethodId} {args : Array Value} {below : List Frame} {meth : Method} {c : Code} {T : State} {locs : List Loc} {cells slots : Nat} (X : Stand p l e R s m args below meth c T locs cells slots) (hexec : p.tables.exec = Jvm.exec) {own C : String} {index : Nat} (hown : s.vm.findClass own = some m.cls) (hlink : (Cond.classLink own index C).before args s = true) {a : Addr} (hE : Exact C a T)
    {g : JFrame} (hg : g.method = m) {rest : List Value} (hstack : g.stack = .ref a :: rest) (hdg : decode c.code g.pc = .ok (.instanceof index, 3)) :
    ∃ T', Stand p l e R s m args below meth c T' locs cells slots ∧ T'.heap = T.heap ∧ ∀ target, Steps p.tables e below (T'.setTop { g with pc := g.pc + 3, stack := .int 1 :: rest }) target → Steps p.tables e below (T.setTop g) target := by
  obtain ⟨cB, h1, D, h2, h3, h4⟩ := hE
  have h1' : s.vm.findClass C = some cB := by rw [← X.warmed.alike.findClass]; exact h1
  obtain ⟨vm', X', st⟩ := X.instanceofYes hexec hown hlink h2 h4 h1' (by rw [h3]; exact Jvm.Free.SB.assignable_self _ _) hg hstack hdg
  exact ⟨_, X', rfl, st⟩
theorem cself {p : Program} {l : Launch} {e : Env} {R : Room} {s : State} {m : MethodId} {args : Array Value} {below : List Frame} {meth : Method} {c : Code} {T : State} {locs : List Loc} {cells slots : Nat} (X : Stand p l e R s m args below meth c T locs cells slots) (hexec : p.tables.exec = Jvm.exec) {own C : String} {index : Nat} (hown : s.vm.findClass own = some m.cls) (hlink : (Cond.classLink own index C).before args s = true) {a : Addr} (hE : Exact C a T)
    {g : JFrame} (hg : g.method = m) {rest : List Value} (hstack : g.stack = .ref a :: rest) (hdg : decode c.code g.pc = .ok (.checkcast index, 3)) :
    ∃ T', Stand p l e R s m args below meth c T' locs cells slots ∧ T'.heap = T.heap ∧ ∀ target, Steps p.tables e below (T'.setTop { g with pc := g.pc + 3, stack := .ref a :: rest }) target → Steps p.tables e below (T.setTop g) target := by
  obtain ⟨cB, h1, D, h2, h3, h4⟩ := hE
  have h1' : s.vm.findClass C = some cB := by rw [← X.warmed.alike.findClass]; exact h1
  obtain ⟨vm', X', st⟩ := X.checkcastYes hexec hown hlink h2 h4 h1' (by rw [h3]; exact Jvm.Free.SB.assignable_self _ _) hg hstack hdg
  exact ⟨_, X', rfl, fun t h => st t (by rw [← hstack] at h; exact h)⟩
namespace SEq
def yN : MethodName := ⟨"java/lang/String", "equals", "(Ljava/lang/Object;)Z"⟩
abbrev yB : ByteArray := jdk_42_method_66_code
theorem d0 : decode yB 0 = .ok (.aload_n 0, 1) := by decide +kernel
theorem d1 : decode yB 1 = .ok (.aload_n 1, 1) := by decide +kernel
theorem d2 : decode yB 2 = .ok (.if_acmp (.ne) 5, 3) := by decide +kernel
theorem d5 : decode yB 5 = .ok (.iconst 1, 1) := by decide +kernel
theorem d6 : decode yB 6 = .ok (.ireturn, 1) := by decide +kernel
theorem d7 : decode yB 7 = .ok (.aload_n 1, 1) := by decide +kernel
theorem d8 : decode yB 8 = .ok (.instanceof 10, 3) := by decide +kernel
theorem d11 : decode yB 11 = .ok (.ifCond (.eq) 43, 3) := by decide +kernel
theorem d14 : decode yB 14 = .ok (.aload_n 1, 1) := by decide +kernel
theorem d15 : decode yB 15 = .ok (.checkcast 10, 3) := by decide +kernel
theorem d18 : decode yB 18 = .ok (.astore_n 2, 1) := by decide +kernel
theorem d19 : decode yB 19 = .ok (.getstatic 38, 3) := by decide +kernel
theorem d22 : decode yB 22 = .ok (.ifCond (.eq) 14, 3) := by decide +kernel
theorem d25 : decode yB 25 = .ok (.aload_n 0, 1) := by decide +kernel
theorem d26 : decode yB 26 = .ok (.getfield 15, 3) := by decide +kernel
theorem d29 : decode yB 29 = .ok (.aload_n 2, 1) := by decide +kernel
theorem d30 : decode yB 30 = .ok (.getfield 15, 3) := by decide +kernel
theorem d33 : decode yB 33 = .ok (.if_icmp (.ne) 21, 3) := by decide +kernel
theorem d36 : decode yB 36 = .ok (.aload_n 0, 1) := by decide +kernel
theorem d37 : decode yB 37 = .ok (.getfield 9, 3) := by decide +kernel
theorem d40 : decode yB 40 = .ok (.aload_n 2, 1) := by decide +kernel
theorem d41 : decode yB 41 = .ok (.getfield 9, 3) := by decide +kernel
theorem d44 : decode yB 44 = .ok (.invokestatic 541, 3) := by decide +kernel
theorem d47 : decode yB 47 = .ok (.ifCond (.eq) 7, 3) := by decide +kernel
theorem d50 : decode yB 50 = .ok (.iconst 1, 1) := by decide +kernel
theorem d51 : decode yB 51 = .ok (.goto 4, 3) := by decide +kernel
theorem d54 : decode yB 54 = .ok (.iconst 0, 1) := by decide +kernel
theorem d55 : decode yB 55 = .ok (.ireturn, 1) := by decide +kernel
def site : List Cond := [.classLink "java/lang/String" 10 "java/lang/String", .fieldLink "java/lang/String" 38 "java/lang/String" "COMPACT_STRINGS" "Z", .fieldLink "java/lang/String" 15 "java/lang/String" "coder" "B", .fieldLink "java/lang/String" 9 "java/lang/String" "value" "[B", LEq.tab] ++ staticW "java/lang/String" 541 LEq.yN
def tab : Cond := tabOf yN yB 3 (some .boolean) site
def P (x t : Addr) (V : Cell) (cd : Int32) (n : Nat) (f : Nat → Int32) (y t' : Addr) (V' : Cell) (cd' : Int32) (k : Nat) (g : Nat → Int32) (z : Int32) (args : Array Value) (s : State) : Prop := args = #[.ref x, .ref y] ∧ Txt x t V cd n f s ∧ Txt y t' V' cd' k g s ∧ StaticIs s "java/lang/String" "COMPACT_STRINGS" "Z" (.int z) ∧ ¬ z = 0
/-- equals(Object) of two Strings: whether the texts are the same -/
theorem law (l : Launch) (x t : Addr) (V : Cell) (cd : Int32) (n : Nat) (f : Nat → Int32) (y t' : Addr) (V' : Cell) (cd' : Int32) (k : Nat) (g : Nat → Int32) (z : Int32) : Law l yN 2 1 1 14 yB 3 (some .boolean) site (P x t V cd n f y t' V' cd' k g z) (Says01 (SameT n f k g)) [] 0 0 := by
  refine Law.of_walk (plainFor_of_name (by decide +kernel)) (by decide +kernel) (by decide +kernel) (by decide) (fun _ _ h => by rw [h.1]; rfl) (fun _ U U' hal hh h => ⟨h.1, h.2.1.mv hal hh, h.2.2.1.mv hal hh, h.2.2.2.1.there hal hh, h.2.2.2.2⟩) (fun r U U' V V' h1 hal h2 h => Says01.mv r U U' V V' h1 hal h2 h) ?_
  intro p e s m args below meth c s₁ X0 hexec hbytes hml hret hlk hnm hown hh0 W hP
  obtain ⟨rfl, hx, hy, s1, hz⟩ := hP
  have c1 : Steps p.tables e below (s₁.setTop (entryFrame m #[.ref x, .ref y] 3)) (s₁.setTop (mkF m 2 #[.val (.ref x), .val (.ref y), .unset] [.ref y, .ref x])) := Steps.trans (entry rfl) (by
    show Steps p.tables e below (s₁.setTop (mkF m 0 #[.val (.ref x), .val (.ref y), .unset] [])) _
    refine XS.aloadN X0.here hexec rfl (hb hbytes d0) rfl rfl ?_
    refine XS.aloadN X0.here hexec rfl (hb hbytes d1) rfl rfl ?_
    exact Steps.refl _)
  by_cases hxy : x = y
  · have c2 : Steps p.tables e below (s₁.setTop (entryFrame m #[.ref x, .ref y] 3)) (s₁.setTop (mkF m 6 #[.val (.ref x), .val (.ref y), .unset] [.int 1])) := c1.trans (by
      refine acmpNo X0.here hexec rfl (hb hbytes d2) rfl rfl rfl (by simp [acmp, hxy]) ?_
      refine iconstV X0.here hexec rfl 1 (hb hbytes d5) (by decide) ?_
      exact Steps.refl _)
    subst hxy
    have ec : cd = cd' := by
      obtain ⟨D, fd, a1, a2, a3⟩ := hx.2.2.1
      obtain ⟨D', fd', b1, b2, b3⟩ := hy.2.2.1
      cases a1.symm.trans b1
      obtain ⟨q1, q2, q3, q4⟩ := a2.1
      obtain ⟨r1, r2, r3, r4⟩ := b2.1
      cases q4.symm.trans r4
      cases a3.symm.trans b3; rfl
    have et : t = t' := by
      obtain ⟨D, fd, a1, a2, a3⟩ := hx.2.1
      obtain ⟨D', fd', b1, b2, b3⟩ := hy.2.1
      cases a1.symm.trans b1
      obtain ⟨q1, q2, q3, q4⟩ := a2.1
      obtain ⟨r1, r2, r3, r4⟩ := b2.1
      cases q4.symm.trans r4
      cases a3.symm.trans b3; rfl
    subst ec et
    have ev : V = V' := by cases hx.2.2.2.1.1.symm.trans hy.2.2.2.1.1; rfl
    subst ev
    have hs : SameT n f k g := (Cod.eqv hx.2.2.2.2.1 hy.2.2.2.2.1 hx.2.2.2.2.2 hy.2.2.2.2.2).mp ⟨rfl, fun _ _ => rfl⟩
    exact ⟨s₁, some (.int 1), _, _, _, X0, rfl, rfl, rfl, (fun h => by cases h), ⟨1, rfl, hh0, Or.inl ⟨rfl, hs⟩⟩, fun fs hl => c2.trans (X0.ireturnOut hexec hret rfl (Or.inr (Or.inl rfl)) (hb hbytes d6) hl)⟩
  · have c2 : Steps p.tables e below (s₁.setTop (entryFrame m #[.ref x, .ref y] 3)) (s₁.setTop (mkF m 8 #[.val (.ref x), .val (.ref y), .unset] [.ref y])) := c1.trans (by
      refine acmpYes X0.here hexec rfl (pc0 := 2) rfl (hb hbytes d2) rfl rfl rfl (by simp [acmp, hxy]) (by decide) rfl ?_
      refine XS.aloadN X0.here hexec rfl (hb hbytes d7) rfl rfl ?_
      exact Steps.refl _)
    obtain ⟨T3, X3, q3, st3⟩ := cinst X0 hexec hown (wk W (.classLink "java/lang/String" 10 "java/lang/String")) (hy.mv X0.warmed.alike hh0).1 (g := (mkF m 8 #[.val (.ref x), .val (.ref y), .unset] [.ref y])) rfl (rest := []) rfl (hb hbytes d8)
    have hh3 := q3.trans hh0
    have c4 : Steps p.tables e below (s₁.setTop (entryFrame m #[.ref x, .ref y] 3)) (T3.setTop (mkF m 15 #[.val (.ref x), .val (.ref y), .unset] [.ref y])) := (c2.trans (st3 _ (Steps.refl _))).trans (by
      refine XS.ifNo X3.here hexec rfl (hb hbytes d11) rfl (i0_eq_f (by decide)) ?_
      refine XS.aloadN X3.here hexec rfl (hb hbytes d14) rfl rfl ?_
      exact Steps.refl _)
    obtain ⟨T5, X5, q5, st5⟩ := cself X3 hexec hown (wk W (.classLink "java/lang/String" 10 "java/lang/String")) (hy.mv X3.warmed.alike hh3).1 (g := (mkF m 15 #[.val (.ref x), .val (.ref y), .unset] [.ref y])) rfl (rest := []) rfl (hb hbytes d15)
    have hh5 := q5.trans hh3
    have c6 : Steps p.tables e below (s₁.setTop (entryFrame m #[.ref x, .ref y] 3)) (T5.setTop (mkF m 19 #[.val (.ref x), .val (.ref y), .val (.ref y)] [])) := (c4.trans (st5 _ (Steps.refl _))).trans (by
      refine XS.astoreN X5.here hexec rfl (hb hbytes d18) rfl rfl rfl ?_
      exact Steps.refl _)
    obtain ⟨T7, X7, q7, st7⟩ := X5.sget hexec hown (wk W (.fieldLink "java/lang/String" 38 "java/lang/String" "COMPACT_STRINGS" "Z")) s1 (fun _ _ h => by rw [hh5]; exact h) (g := (mkF m 19 #[.val (.ref x), .val (.ref y), .val (.ref y)] [])) rfl (hb hbytes d19)
    have hh7 := q7.trans hh5
    have c8 : Steps p.tables e below (s₁.setTop (entryFrame m #[.ref x, .ref y] 3)) (T7.setTop (mkF m 26 #[.val (.ref x), .val (.ref y), .val (.ref y)] [.ref x])) := (c6.trans (st7 _ (Steps.refl _))).trans (by
      refine XS.ifNo X7.here hexec rfl (hb hbytes d22) rfl (i0_eq_f hz) ?_
      refine XS.aloadN X7.here hexec rfl (hb hbytes d25) rfl rfl ?_
      exact Steps.refl _)
    obtain ⟨T9, X9, q9, st9⟩ := X7.hget hexec hown (wk W (.fieldLink "java/lang/String" 15 "java/lang/String" "coder" "B")) (hx.mv X7.warmed.alike hh7).2.2.1 (g := (mkF m 26 #[.val (.ref x), .val (.ref y), .val (.ref y)] [.ref x])) rfl (rest := []) rfl (hb hbytes d26)
    have hh9 := q9.trans hh7
    have c10 : Steps p.tables e below (s₁.setTop (entryFrame m #[.ref x, .ref y] 3)) (T9.setTop (mkF m 30 #[.val (.ref x), .val (.ref y), .val (.ref y)] [.ref y, .int cd])) := (c8.trans (st9 _ (Steps.refl _))).trans (by
      refine XS.aloadN X9.here hexec rfl (hb hbytes d29) rfl rfl ?_
      exact Steps.refl _)
    obtain ⟨T11, X11, q11, st11⟩ := X9.hget hexec hown (wk W (.fieldLink "java/lang/String" 15 "java/lang/String" "coder" "B")) (hy.mv X9.warmed.alike hh9).2.2.1 (g := (mkF m 30 #[.val (.ref x), .val (.ref y), .val (.ref y)] [.ref y, .int cd])) rfl (rest := [.int cd]) rfl (hb hbytes d30)
    have hh11 := q11.trans hh9
    have c12 : Steps p.tables e below (s₁.setTop (entryFrame m #[.ref x, .ref y] 3)) (T11.setTop (mkF m 33 #[.val (.ref x), .val (.ref y), .val (.ref y)] [.int cd', .int cd])) := c10.trans (st11 _ (Steps.refl _))
    by_cases hcd : cd = cd'
    · subst hcd
      have c13 : Steps p.tables e below (s₁.setTop (entryFrame m #[.ref x, .ref y] 3)) (T11.setTop (mkF m 37 #[.val (.ref x), .val (.ref y), .val (.ref y)] [.ref x])) := c12.trans (by
        refine XS.icmpNo X11.here hexec rfl (hb hbytes d33) rfl (ii_ne_f rfl) ?_
        refine XS.aloadN X11.here hexec rfl (hb hbytes d36) rfl rfl ?_
        exact Steps.refl _)
      obtain ⟨T14, X14, q14, st14⟩ := X11.hget hexec hown (wk W (.fieldLink "java/lang/String" 9 "java/lang/String" "value" "[B")) (hx.mv X11.warmed.alike hh11).2.1 (g := (mkF m 37 #[.val (.ref x), .val (.ref y), .val (.ref y)] [.ref x])) rfl (rest := []) rfl (hb hbytes d37)
      have hh14 := q14.trans hh11
      have c15 : Steps p.tables e below (s₁.setTop (entryFrame m #[.ref x, .ref y] 3)) (T14.setTop (mkF m 41 #[.val (.ref x), .val (.ref y), .val (.ref y)] [.ref y, .ref t])) := (c13.trans (st14 _ (Steps.refl _))).trans (by
        refine XS.aloadN X14.here hexec rfl (hb hbytes d40) rfl rfl ?_
        exact Steps.refl _)
      obtain ⟨T16, X16, q16, st16⟩ := X14.hget hexec hown (wk W (.fieldLink "java/lang/String" 9 "java/lang/String" "value" "[B")) (hy.mv X14.warmed.alike hh14).2.1 (g := (mkF m 41 #[.val (.ref x), .val (.ref y), .val (.ref y)] [.ref y, .ref t])) rfl (rest := [.ref t]) rfl (hb hbytes d41)
      have hh16 := q16.trans hh14
      have c17 : Steps p.tables e below (s₁.setTop (entryFrame m #[.ref x, .ref y] 3)) (T16.setTop (mkF m 44 #[.val (.ref x), .val (.ref y), .val (.ref y)] [.ref t', .ref t])) := c15.trans (st16 _ (Steps.refl _))
      obtain ⟨v18, T18, X18, E18, g18⟩ := X16.callS hexec (LEq.law l t V t' V') hown (wks W (staticW "java/lang/String" 541 LEq.yN)) (wk W LEq.tab) (W := 0) (Nat.le_of_ble_eq_true rfl) (Nat.le_of_ble_eq_true rfl) (Nat.le_refl _) (Nat.le_refl _) (g := (mkF m 44 #[.val (.ref x), .val (.ref y), .val (.ref y)] [.ref t', .ref t])) rfl (by rw [hml]; rfl) c17 (argsL := [.ref t, .ref t']) (rest := []) rfl rfl (by show 2 * 0 + 0 ≤ _; decide) (hb hbytes d44) (⟨rfl, hx.2.2.2.1.mv X16.warmed.alike hh16, hx.2.2.2.2.1.ty, hy.2.2.2.1.mv X16.warmed.alike hh16, hy.2.2.2.2.1.ty⟩)
      obtain ⟨v, rfl, q18, hv⟩ := E18
      have iff := Cod.eqv hx.2.2.2.2.1 hy.2.2.2.2.1 hx.2.2.2.2.2 hy.2.2.2.2.2
      rcases hv with ⟨rfl, he⟩ | ⟨rfl, he⟩
      · have c19 : Steps p.tables e below (s₁.setTop (entryFrame m #[.ref x, .ref y] 3)) (T18.setTop (mkF m 55 #[.val (.ref x), .val (.ref y), .val (.ref y)] [.int 1])) := Steps.trans g18 (by
          refine XS.ifNo X18.here hexec rfl (hb hbytes d47) rfl (i0_eq_f (by decide)) ?_
          refine iconstV X18.here hexec rfl 1 (hb hbytes d50) (by decide) ?_
          refine XS.goto X18.here hexec rfl (pc0 := 51) rfl (hb hbytes d51) (by decide) rfl ?_
          exact Steps.refl _)
        exact ⟨T18, some (.int 1), _, _, _, X18, rfl, rfl, rfl, (fun h => by cases h), ⟨1, rfl, q18.trans hh16, Or.inl ⟨rfl, iff.mp he⟩⟩, fun fs hl => c19.trans (X18.ireturnOut hexec hret rfl (Or.inr (Or.inl rfl)) (hb hbytes d55) hl)⟩
      · have c19 : Steps p.tables e below (s₁.setTop (entryFrame m #[.ref x, .ref y] 3)) (T18.setTop (mkF m 55 #[.val (.ref x), .val (.ref y), .val (.ref y)] [.int 0])) := Steps.trans g18 (by
          refine XS.ifYes X18.here hexec rfl (pc0 := 47) rfl (hb hbytes d47) rfl (i0_eq_t rfl) (by decide) rfl ?_
          refine iconstV X18.here hexec rfl 0 (hb hbytes d54) (by decide) ?_
          exact Steps.refl _)
        exact ⟨T18, some (.int 0), _, _, _, X18, rfl, rfl, rfl, (fun h => by cases h), ⟨0, rfl, q18.trans hh16, Or.inr ⟨rfl, fun q => he (iff.mpr q)⟩⟩, fun fs hl => c19.trans (X18.ireturnOut hexec hret rfl (Or.inr (Or.inl rfl)) (hb hbytes d55) hl)⟩
    · have c13 : Steps p.tables e below (s₁.setTop (entryFrame m #[.ref x, .ref y] 3)) (T11.setTop (mkF m 55 #[.val (.ref x), .val (.ref y), .val (.ref y)] [.int 0])) := c12.trans (by
        refine XS.icmpYes X11.here hexec rfl (pc0 := 33) rfl (hb hbytes d33) rfl (ii_ne_t hcd) (by decide) rfl ?_
        refine iconstV X11.here hexec rfl 0 (hb hbytes d54) (by decide) ?_
        exact Steps.refl _)
      exact ⟨T11, some (.int 0), _, _, _, X11, rfl, rfl, rfl, (fun h => by cases h), ⟨0, rfl, hh11, Or.inr ⟨rfl, Cod.dif hx.2.2.2.2.1 hy.2.2.2.2.1 hcd⟩⟩, fun fs hl => c13.trans (X11.ireturnOut hexec hret rfl (Or.inr (Or.inl rfl)) (hb hbytes d55) hl)⟩
theorem pays {l : Launch} {R : Room} {p : Program} {e : Env} {below : List Frame} {s : State} {sargs : Array Value} {len W : Nat} (x t : Addr) (V : Cell) (cd : Int32) (n : Nat) (f : Nat → Int32) (y t' : Addr) (V' : Cell) (cd' : Int32) (k : Nat) (g : Nat → Int32) (z : Int32) (htab : tab.before sargs s = true) (hfr : 2 ≤ R.frames) (hlo : W + 28 ≤ R.locals) :
    Back l R p e below s sargs yN len W (fun A₁ a₁ => A₁.cells + 0 ≤ R.cells ∧ A₁.slots + 0 ≤ R.slots ∧ P x t V cd n f y t' V' cd' k g z a₁ A₁.U) (fun A₁ _ v₁ B₁ => Says01 (SameT n f k g) v₁ A₁.U B₁.U ∧ B₁.locs = A₁.locs ++ [] ∧ B₁.cells = A₁.cells + 0 ∧ B₁.slots = A₁.slots + 0) :=
  (law l x t V cd n f y t' V' cd' k g z).pays htab hfr (by omega)
end SEq
end StrChars
namespace StrChars.Road
open Jvm Sem ClassFile Op Lib Jvm.Stand Jvm.Free Jvm.Free.XT
open Jvm.Lib.Cold (StaticIs)
/-- the words of String.equals(Object) -/
abbrev wordsEq : List Jvm.Cond := [.code SEq.yN SEq.yB 3 (some .boolean), .initialized ST, .classLink ST 10 ST, .fieldLink ST 38 ST "COMPACT_STRINGS" "Z", .fieldLink ST 15 ST "coder" "B", .fieldLink ST 9 ST "value" "[B", .methodLink ST 541 LEq.yN, .static LEq.yN, .code LEq.yN LEq.yB 3 (some .boolean), .initialized "java/lang/StringLatin1"]
theorem tabEq_of {a : Array Value} {s : State} (h : ∀ w ∈ wordsEq, w.before a s = true) : SEq.tab.before a s = true := by
  have hl : LEq.tab.before a s = true := unparts (wk h (.code LEq.yN LEq.yB 3 (some .boolean))) (wks h (.initialized LEq.yN.cls :: LEq.site))
  have q := consq hl h
  exact unparts (wk q (.code SEq.yN SEq.yB 3 (some .boolean))) (wks q (.initialized SEq.yN.cls :: SEq.site))
theorem movedEq {Z s : State} {a0 args : Array Value} (hZ : Z.Warmed39 s.vm) (hw : ∀ d ∈ wordsEq, d.before a0 Z = true) : ∀ d ∈ wordsEq, d.before args s = true := fun d hd => by
  have t : ∀ d ∈ wordsEq, (d.onTables && d.keepsFace) = true := by decide +kernel
  exact RoadKit.mv hZ (hw d hd) (t d hd)
/-- the road's facts of a String, as the laws ask it -/
theorem txt_of {Z U : State} {a0 : Array Value} {kI : Nat} (wi : (Jvm.Cond.instantiable ST kI).before a0 Z = true) (al : Z.vm.Alike U.vm) {x t : Addr} {kb : ClassId} {cs : List Int32} {cd N2 : Int32} {vs : List Value} (E : RoadKit.Exa Z U.heap x ST) (V : RoadKit.Fld Z U.heap x ST "value" "[B" (.ref t)) (C : RoadKit.Fld Z U.heap x ST "coder" "B" (.int cd)) (K : RoadKit.Arv Z U.heap t kb .byte N2 vs (.int 0)) (hc : CodA cs cd N2 vs) (hb : ∀ c ∈ cs, ¬ c < 0 ∧ ¬ (65535 : Int32) < c) (l2 : cs.length ≤ 4000) :
    ∃ A, Txt x t A cd cs.length (fun j => cs.getD j 0) U := by
  obtain ⟨A, K1, K2, K3, K4, K5, K6⟩ := K
  have hcod := hc.cod (by omega) K3 K5
  obtain ⟨D, fV, fC, hB, F1, F2, g1, g2, -, -⟩ := strObj wi al E V C
  exact ⟨A, ⟨_, hB.2.2.1, D, hB.1, rfl, by cases q : D.vm <;> first | rfl | exact absurd q (hB.2.1.2 _)⟩, Has.of hB F1 g1, Has.of hB F2 g2, ⟨K1.1, State.isArrayOf_alike al K1.2.1, K1.2.2, by rcases hcod with ⟨-, q, -⟩ | ⟨-, q, -⟩ <;> omega⟩, hcod, fun j hj => by
    have e : cs.getD j 0 = cs[j] := by simp [List.getD_eq_getElem?_getD, hj]
    show ¬ cs.getD j 0 < 0 ∧ ¬ 65535 < cs.getD j 0
    rw [e]; exact hb _ (List.getElem_mem _)⟩
theorem same_list (cs ds : List Int32) : SameT cs.length (fun j => cs.getD j 0) ds.length (fun j => ds.getD j 0) ↔ cs = ds := by
  constructor
  · rintro ⟨e, q⟩
    refine List.ext_getElem e fun j h1 h2 => ?_
    have := q j h1
    simpa [List.getD_eq_getElem?_getD, h1, h2] using this
  · rintro rfl
    exact ⟨rfl, fun _ _ => rfl⟩
/-- **equals(Object) OF TWO SUCH STRINGS**: 1 just where the chars are the same -/
theorem eqW {p : Program} {l : Launch} {e : Env} {R : Room} {s : State} {args : Array Value} {below : List Frame} {len W : Nat} {Z : State} {a0 : Array Value} {h : Heap} (hZ : Z.Warmed39 s.vm) (hw : ∀ d ∈ wordsEq, d.before a0 Z = true) {kI : Nat} (wi : (Jvm.Cond.instantiable ST kI).before a0 Z = true)
    {x t : Addr} {kb : ClassId} {cs : List Int32} {cd N2 : Int32} {vs : List Value} (E : RoadKit.Exa Z h x ST) (V : RoadKit.Fld Z h x ST "value" "[B" (.ref t)) (C : RoadKit.Fld Z h x ST "coder" "B" (.int cd)) (K : RoadKit.Arv Z h t kb .byte N2 vs (.int 0)) (hc : CodA cs cd N2 vs) (hb : ∀ c ∈ cs, ¬ c < 0 ∧ ¬ (65535 : Int32) < c) (l2 : cs.length ≤ 4000)
    {y t' : Addr} {kb' : ClassId} {ds : List Int32} {cd' N2' : Int32} {vs' : List Value} (E' : RoadKit.Exa Z h y ST) (V' : RoadKit.Fld Z h y ST "value" "[B" (.ref t')) (C' : RoadKit.Fld Z h y ST "coder" "B" (.int cd')) (K' : RoadKit.Arv Z h t' kb' .byte N2' vs' (.int 0)) (hc' : CodA ds cd' N2' vs') (hb' : ∀ c ∈ ds, ¬ c < 0 ∧ ¬ (65535 : Int32) < c) (l2' : ds.length ≤ 4000)
    {z : Int32} (S : RoadKit.Sta Z h ST "COMPACT_STRINGS" "Z" (.int z)) (hz : ¬ z = 0) (hfr : 2 ≤ R.frames) (hlo : W + 28 ≤ R.locals) :
    Back l R p e below s args (⟨"java/lang/String", "equals", "(Ljava/lang/Object;)Z"⟩ : MethodName) len W (fun P a => a = #[.ref x, .ref y] ∧ P.U.heap = h ∧ P.cells + 0 ≤ R.cells ∧ P.slots + 0 ≤ R.slots)
      (fun P _ v B => ∃ L, (((v = some (.int 1) ∧ cs = ds) ∨ (v = some (.int 0) ∧ ¬ cs = ds)) ∧ L = [] ∧ B.U.heap = h) ∧ B.locs = P.locs ++ L ∧ B.cells = P.cells + 0 ∧ B.slots = P.slots + 0) := by
  intro m meth c P g ig mk a X hg hsize hdg hW hn hp'
  obtain ⟨rfl, rfl, r1, r2⟩ := hp'
  have al : Z.vm.Alike P.U.vm := hZ.alike.trans X.warmed.alike
  obtain ⟨A, hx⟩ := txt_of wi al E V C K hc hb l2
  obtain ⟨A', hy⟩ := txt_of wi al E' V' C' K' hc' hb' l2'
  obtain ⟨v, B, X', ⟨⟨w, hv, hh, hq⟩, hl, hk, hs⟩, st⟩ := SEq.pays x t A cd cs.length (fun j => cs.getD j 0) y t' A' cd' ds.length (fun j => ds.getD j 0) z (tabEq_of (movedEq hZ hw)) hfr hlo m meth c P g ig mk _ X hg hsize hdg hW hn ⟨r1, r2, rfl, hx, hy, sta_is al S, hz⟩
  refine ⟨v, B, X', ⟨[], ⟨?_, rfl, hh⟩, hl, hk, hs⟩, st⟩
  rcases hq with ⟨rfl, q⟩ | ⟨rfl, q⟩
  · exact Or.inl ⟨hv, (same_list cs ds).mp q⟩
  · exact Or.inr ⟨hv, fun e => q ((same_list cs ds).mpr e)⟩
end StrChars.Road
namespace StrChars.Road
open Jvm Sem ClassFile Op Lib Jvm.Stand Jvm.Free Jvm.Free.XT
open Jvm.Lib.Cold (StaticIs)
/-- what backV says of its String, as the contracts of this text ask it: cs's low bytes, coder 0 -/
theorem codOf {cs : List Int32} {n : Nat} (hn : cs.length = n) (hb : ∀ c ∈ cs, ¬ 255 < c) : CodA cs 0 (Int32.ofNat n) ((cs.map lo8).map Value.int) := Or.inl ⟨rfl, by rw [hn], by simp [List.map_map, Function.comp_def], hb⟩
end StrChars.Road
end Jvm.Pilot.@@N@@
namespace Jvm.Pilot.@@N@@
open Jvm Jvm.ClassFile Sem Op Lib Jvm.Free Jvm.Stand Jvm.LawKit Jvm.RoadKit Bundle Jvm.Pilot.@@N@@.Jvm.D
/-- a char of Latin-1 -/
def own_lat (c : Int32) : Prop := ¬ c < 0 ∧ ¬ (255 : Int32) < c
theorem own_lat_cases {c : Int32} (h : own_lat c) : ∃ k : Fin 256, c = Int32.ofNat k.val := by
  obtain ⟨h0, h1⟩ := h
  rw [Int32.lt_iff_toInt_lt] at h0 h1
  have e0 : (0 : Int32).toInt = 0 := rfl
  have e1 : (255 : Int32).toInt = 255 := rfl
  refine ⟨⟨c.toInt.toNat, by omega⟩, Int32.toInt_inj.mp ?_⟩
  show c.toInt = (Int32.ofNat c.toInt.toNat).toInt
  rw [Int32.toInt_ofNat_small (by omega)]
  omega
theorem own_lat_nar {c : Int32} (h : own_lat c) : nar .char c = c := by
  obtain ⟨k, rfl⟩ := own_lat_cases h
  exact (by decide +kernel : ∀ k : Fin 256, nar .char (Int32.ofNat k.val) = Int32.ofNat k.val) k
theorem own_lat_ofNat (k : Fin 256) : own_lat ((Int32.ofNat k.val).toUInt32.toUInt16.toUInt32.toInt32) := by
  unfold own_lat
  revert k
  decide +kernel
theorem own_mask (x : Int32) : own_lat ((x &&& (255 : Int32)).toUInt32.toUInt16.toUInt32.toInt32) := by
  have h : (x &&& 255).toBitVec.toNat < 256 := by
    simp only [Int32.toBitVec_and, BitVec.toNat_and]
    exact Nat.lt_succ_of_le Nat.and_le_right
  have e : (x &&& 255) = Int32.ofNat (x &&& 255).toBitVec.toNat := by
    apply Int32.toBitVec_inj.mp
    show _ = BitVec.ofNat 32 _
    rw [BitVec.ofNat_toNat]; simp
  rw [e]
  exact own_lat_ofNat ⟨_, h⟩
theorem own_up (cs : List Int32) (h : ∀ c ∈ cs, own_lat c) : ∀ c ∈ cs, ¬ c < 0 ∧ ¬ (65535 : Int32) < c := fun c hc => ⟨(h c hc).1, fun q => (h c hc).2 (by rw [Int32.lt_iff_toInt_lt] at q ⊢; have e1 : (65535 : Int32).toInt = 65535 := rfl; have e2 : (255 : Int32).toInt = 255 := rfl; omega)⟩
theorem own_fitsR {v : Value} {C : String} (h : v.isRef = true) : fits (.object C) v = true := by rcases ref_cases h with rfl | ⟨_, rfl⟩ <;> rfl
theorem own_all0 {P : Int32 → Prop} : ∀ x ∈ ([] : List Int32), P x := fun _ q => nomatch q
theorem own_allS {P : Int32 → Prop} {y : Int32} {L : List Int32} (q : P y) (r : ∀ x ∈ L, P x) : ∀ x ∈ y :: L, P x := fun x z => (List.mem_cons.mp z).elim (fun u => u ▸ q) (r x)
/-- the String at x is compact and spells cs -/
def own_Str (Z : State) (h : Heap) (x : Addr) (cs : List Int32) : Prop := (∀ c ∈ cs, own_lat c) ∧ Exa Z h x "java/lang/String" ∧ Fld Z h x "java/lang/String" "coder" "B" (.int (0 : Int32)) ∧
  ∃ (t : Addr) (kb : ClassId), Fld Z h x "java/lang/String" "value" "[B" (.ref t) ∧ Arv Z h t kb .byte (Int32.ofNat cs.length) ((cs.map (fun c => c.toInt8.toInt32)).map Value.int) (.int (0 : Int32))
theorem own_Str.ext {Z : State} {h h' : Heap} {x : Addr} {cs : List Int32} (S : own_Str Z h x cs) (E : Ext h h') : own_Str Z h' x cs := by
  obtain ⟨h1, h2, h3, t, kb, h4, h5⟩ := S
  exact ⟨h1, h2.ext E, h3.ext E, t, kb, h4.ext E, h5.ext E⟩
theorem own_Str.keep {Z : State} {h h' : Heap} {x : Addr} {cs : List Int32} (S : own_Str Z h x cs) (K : Keep h h' []) : own_Str Z h' x cs := by
  obtain ⟨h1, h2, h3, t, kb, h4, h5⟩ := S
  exact ⟨h1, h2.keep K, h3.keep K nin0, t, kb, h4.keep K nin0, h5.keep K nin0⟩
theorem own_Str.keepS {Z : State} {h h' : Heap} {x a : Addr} {cs : List Int32} {a0 : Array Value} {C : String} {n : Nat} (S : own_Str Z h x cs) (K : Keep h h' [a]) (E : Exa Z h a C) (w : (Jvm.Cond.instantiable C n).before a0 Z = true) (q : x ≠ a) : own_Str Z h' x cs := by
  obtain ⟨h1, h2, h3, t, kb, h4, h5⟩ := S
  exact ⟨h1, h2.keep K, h3.keep K (ninS q nin0), t, kb, h4.keep K (ninS q nin0), h5.keep K (ninS (Ne.symm (E.neArv h5 w)) nin0)⟩
theorem own_Str.lt {Z : State} {h : Heap} {x : Addr} {cs : List Int32} (S : own_Str Z h x cs) : x < h.size := S.2.1.lt
/-- equals() of two such Strings, at a call -/
theorem own_eqB {p : Program} {l : Launch} {e : Env} {R : Room} {s : State} {args : Array Value} {below : List Frame} {len W : Nat} {Z : State} {a0 : Array Value} {h : Heap} (hZ : Z.Warmed39 s.vm) (hw : ∀ d ∈ tables_1, d.before a0 Z = true) {kI : Nat} (wi : (Jvm.Cond.instantiable "java/lang/String" kI).before a0 Z = true)
    {x y : Addr} {cs ds : List Int32} {z : Int32} (S : own_Str Z h x cs) (l2 : cs.length ≤ 4000) (S' : own_Str Z h y ds) (l2' : ds.length ≤ 4000) (C : Sta Z h "java/lang/String" "COMPACT_STRINGS" "Z" (.int z)) (hz : ¬ z = 0) (hfr : 2 ≤ R.frames) (hlo : W + 28 ≤ R.locals) :
    Back l R p e below s args (⟨"java/lang/String", "equals", "(Ljava/lang/Object;)Z"⟩ : MethodName) len W (fun P a => a = #[.ref x, .ref y] ∧ P.U.heap = h ∧ P.cells + 0 ≤ R.cells ∧ P.slots + 0 ≤ R.slots)
      (fun P _ v B => ∃ L, (((v = some (.int 1) ∧ cs = ds) ∨ (v = some (.int 0) ∧ ¬ cs = ds)) ∧ L = [] ∧ B.U.heap = h) ∧ B.locs = P.locs ++ L ∧ B.cells = P.cells + 0 ∧ B.slots = P.slots + 0) := by
  obtain ⟨h1, h2, h3, t, kb, h4, h5⟩ := S
  obtain ⟨g1, g2, g3, t', kb', g4, g5⟩ := S'
  exact StrChars.Road.eqW hZ (fun d hd => hw d ((by decide +kernel : ∀ d ∈ StrChars.Road.wordsEq, d ∈ tables_1) d hd)) wi h2 h4 h3 h5 (StrChars.Road.codOf rfl (fun x hx => (h1 x hx).2)) (own_up _ h1) l2 g2 g4 g3 g5 (StrChars.Road.codOf rfl (fun x hx => (g1 x hx).2)) (own_up _ g1) l2' C hz hfr hlo
theorem own_wS {Z : State} {a0 : Array Value} (hw : ∀ d ∈ tables_1, d.before a0 Z = true) : ∀ a ∈ Bundle.stringAtoms, a.before a0 Z = true := fun d hd => hw d ((by decide +kernel : ∀ d ∈ Bundle.stringAtoms, d ∈ tables_1) d hd)
theorem own_pn0 : plainName "java/util/Objects" = true := by first | (simp [plainName, overriddenIn]; done) | decide +kernel
theorem own_d0_0 : decode jdk_31_method_11_code 0 = .ok (.aload_n 0, 1) := by decide +kernel
theorem own_d0_1 : decode jdk_31_method_11_code 1 = .ok (.ifnonnull 12, 3) := by decide +kernel
theorem own_d0_13 : decode jdk_31_method_11_code 13 = .ok (.aload_n 0, 1) := by decide +kernel
theorem own_d0_14 : decode jdk_31_method_11_code 14 = .ok (.areturn, 1) := by decide +kernel
theorem own_efN2 (m : MethodId) (x0 : Addr) (x1 : Addr) : entryFrame m #[(.ref x0), (.ref x1)] 2 = mkF m 0 #[.val (.ref x0), .val (.ref x1)] [] := by first | (simp [entryFrame, mkF, argsToLocals, Value.category]; done) | rfl
abbrev own_QN2 (Z : State) (a b : Addr) (h0 : Heap) (n0 : Nat) : Option Value → Heap → List Loc → Prop := fun v h L => v = some (.ref a) ∧ Fr n0 L ∧ h = h0
set_option maxRecDepth 65536 in
set_option maxHeartbeats 40000000 in
theorem own_rmN2 (l : Launch) (Z : State) (a0 : Array Value) (hw : ∀ d ∈ tables_1, d.before a0 Z = true) (ws : List Jvm.Cond) (a b : Addr) (h0 : Heap) (n0 : Nat) (O : Old Z n0 h0) :
    MetFree l (⟨"java/util/Objects", "requireNonNull", "(Ljava/lang/Object;Ljava/lang/String;)Ljava/lang/Object;"⟩ : MethodName) (head1 (Jvm.Cond.code (⟨"java/util/Objects", "requireNonNull", "(Ljava/lang/Object;Ljava/lang/String;)Ljava/lang/Object;"⟩ : MethodName) jdk_31_method_11_code 2 (some (.object "java/lang/Object")) :: ws) ({ frames := 0, cells := 0, slots := 0, locals := 0 } : Room)) (fun aa U => aa = #[(.ref a), (.ref b)] ∧ Z.Warmed39 U.vm ∧ U.heap = h0) (fun _ _ _ _ _ => True) (fun _ U o U' => ∃ v L, o = .returned v ∧ (own_QN2 Z a b h0 n0) v U'.heap L ∧ FrameEnd U o U' L ({ frames := 0, cells := 0, slots := 0, locals := 0 } : Room).cells ({ frames := 0, cells := 0, slots := 0, locals := 0 } : Room).slots) := by
  refine MetFree.of_bodySF (plainFor_of_name own_pn0) hisR ?_
  intro p e s m args below meth c s₁ Bd hml0 hP hK
  obtain ⟨rfl, hZ, hh⟩ := hP
  have hx := Bd.exec
  have hby := Bd.bytes
  have hml : c.maxLocals = 2 := hml0
  have hown : s.vm.findClass "java/util/Objects" = some m.cls := findClass_of_methodNamed Bd.named
  have hnm := (name_of_methodNamed Bd.named Bd.method).1
  have X0 : Stand p l e ({ frames := 0, cells := 0, slots := 0, locals := 0 } : Room) s m #[(.ref a), (.ref b)] below meth c s₁ [] 0 0 := Stand.of_body Bd
  have e0 : s₁.heap = h0 := by rw [← hh, Bd.state]; rfl
  have N0 := Fr.nil n0
  refine Out.start (Q := own_QN2 Z a b h0 n0) (own_efN2 m a b ) ?_
  refine Out.via (g' := (mkF m 1 #[.val (.ref a), .val (.ref b)] [(.ref a)])) (fun _ k => XS.aloadN X0.here hx rfl (hb hby own_d0_0) rfl rfl k) ?_
  refine Out.via (g' := (mkF m 13 #[.val (.ref a), .val (.ref b)] [])) (fun _ k => XS.ifnonnullYes X0.here hx rfl (pc0 := 1) (pc' := 13) rfl (hb hby own_d0_1) rfl (by decide) (by decide) k) ?_
  refine Out.via (g' := (mkF m 14 #[.val (.ref a), .val (.ref b)] [(.ref a)])) (fun _ k => XS.aloadN X0.here hx rfl (hb hby own_d0_13) rfl rfl k) ?_
  exact Out.endN X0 (fun h => by rw [Bd.returns] at h; cases h) Bd.notSynchronized (by decide) (by decide) (by rw [e0]; exact ⟨rfl, N0, rfl⟩) (fun fs hr => own_retR X0 hx (t := (.object "java/lang/Object")) Bd.returns rfl rfl rfl (hb hby own_d0_14) hr)
theorem own_d1_0 : decode jdk_31_method_10_code 0 = .ok (.aload_n 0, 1) := by decide +kernel
theorem own_d1_1 : decode jdk_31_method_10_code 1 = .ok (.ifnonnull 11, 3) := by decide +kernel
theorem own_d1_12 : decode jdk_31_method_10_code 12 = .ok (.aload_n 0, 1) := by decide +kernel
theorem own_d1_13 : decode jdk_31_method_10_code 13 = .ok (.areturn, 1) := by decide +kernel
theorem own_efN1 (m : MethodId) (x0 : Addr) : entryFrame m #[(.ref x0)] 1 = mkF m 0 #[.val (.ref x0)] [] := by first | (simp [entryFrame, mkF, argsToLocals, Value.category]; done) | rfl
abbrev own_QN1 (Z : State) (a : Addr) (h0 : Heap) (n0 : Nat) : Option Value → Heap → List Loc → Prop := fun v h L => v = some (.ref a) ∧ Fr n0 L ∧ h = h0
set_option maxRecDepth 65536 in
set_option maxHeartbeats 40000000 in
theorem own_rmN1 (l : Launch) (Z : State) (a0 : Array Value) (hw : ∀ d ∈ tables_1, d.before a0 Z = true) (ws : List Jvm.Cond) (a : Addr) (h0 : Heap) (n0 : Nat) (O : Old Z n0 h0) :
    MetFree l (⟨"java/util/Objects", "requireNonNull", "(Ljava/lang/Object;)Ljava/lang/Object;"⟩ : MethodName) (head1 (Jvm.Cond.code (⟨"java/util/Objects", "requireNonNull", "(Ljava/lang/Object;)Ljava/lang/Object;"⟩ : MethodName) jdk_31_method_10_code 1 (some (.object "java/lang/Object")) :: ws) ({ frames := 0, cells := 0, slots := 0, locals := 0 } : Room)) (fun aa U => aa = #[(.ref a)] ∧ Z.Warmed39 U.vm ∧ U.heap = h0) (fun _ _ _ _ _ => True) (fun _ U o U' => ∃ v L, o = .returned v ∧ (own_QN1 Z a h0 n0) v U'.heap L ∧ FrameEnd U o U' L ({ frames := 0, cells := 0, slots := 0, locals := 0 } : Room).cells ({ frames := 0, cells := 0, slots := 0, locals := 0 } : Room).slots) := by
  refine MetFree.of_bodySF (plainFor_of_name own_pn0) hisR ?_
  intro p e s m args below meth c s₁ Bd hml0 hP hK
  obtain ⟨rfl, hZ, hh⟩ := hP
  have hx := Bd.exec
  have hby := Bd.bytes
  have hml : c.maxLocals = 1 := hml0
  have hown : s.vm.findClass "java/util/Objects" = some m.cls := findClass_of_methodNamed Bd.named
  have hnm := (name_of_methodNamed Bd.named Bd.method).1
  have X0 : Stand p l e ({ frames := 0, cells := 0, slots := 0, locals := 0 } : Room) s m #[(.ref a)] below meth c s₁ [] 0 0 := Stand.of_body Bd
  have e0 : s₁.heap = h0 := by rw [← hh, Bd.state]; rfl
  have N0 := Fr.nil n0
  refine Out.start (Q := own_QN1 Z a h0 n0) (own_efN1 m a ) ?_
  refine Out.via (g' := (mkF m 1 #[.val (.ref a)] [(.ref a)])) (fun _ k => XS.aloadN X0.here hx rfl (hb hby own_d1_0) rfl rfl k) ?_
  refine Out.via (g' := (mkF m 12 #[.val (.ref a)] [])) (fun _ k => XS.ifnonnullYes X0.here hx rfl (pc0 := 1) (pc' := 12) rfl (hb hby own_d1_1) rfl (by decide) (by decide) k) ?_
  refine Out.via (g' := (mkF m 13 #[.val (.ref a)] [(.ref a)])) (fun _ k => XS.aloadN X0.here hx rfl (hb hby own_d1_12) rfl rfl k) ?_
  exact Out.endN X0 (fun h => by rw [Bd.returns] at h; cases h) Bd.notSynchronized (by decide) (by decide) (by rw [e0]; exact ⟨rfl, N0, rfl⟩) (fun fs hr => own_retR X0 hx (t := (.object "java/lang/Object")) Bd.returns rfl rfl rfl (hb hby own_d1_13) hr)
theorem own_pn1 : plainName "java/util/AbstractCollection" = true := by first | (simp [plainName, overriddenIn]; done) | decide +kernel
theorem own_d2_0 : decode jdk_22_method_1_code 0 = .ok (.aload_n 0, 1) := by decide +kernel
theorem own_d2_1 : decode jdk_22_method_1_code 1 = .ok (.invokespecial 1, 3) := by decide +kernel
theorem own_d2_4 : decode jdk_22_method_1_code 4 = .ok (.return_, 1) := by decide +kernel
theorem own_efA1 (m : MethodId) (x0 : Addr) : entryFrame m #[(.ref x0)] 1 = mkF m 0 #[.val (.ref x0)] [] := by first | (simp [entryFrame, mkF, argsToLocals, Value.category]; done) | rfl
abbrev own_QA1 (Z : State) (a : Addr) (h0 : Heap) (n0 : Nat) : Option Value → Heap → List Loc → Prop := fun v h L => v = none ∧ Fr n0 L ∧ h = h0
set_option maxRecDepth 65536 in
set_option maxHeartbeats 40000000 in
theorem own_rmA1 (l : Launch) (Z : State) (a0 : Array Value) (hw : ∀ d ∈ tables_1, d.before a0 Z = true) (ws : List Jvm.Cond) (a : Addr) (h0 : Heap) (n0 : Nat) (O : Old Z n0 h0) :
    MetFree l (⟨"java/util/AbstractCollection", "<init>", "()V"⟩ : MethodName) (head1 (Jvm.Cond.code (⟨"java/util/AbstractCollection", "<init>", "()V"⟩ : MethodName) jdk_22_method_1_code 1 none :: ws) ({ frames := 1, cells := 0, slots := 0, locals := 12 } : Room)) (fun aa U => aa = #[(.ref a)] ∧ Z.Warmed39 U.vm ∧ U.heap = h0) (fun _ _ _ _ _ => True) (fun _ U o U' => ∃ v L, o = .returned v ∧ (own_QA1 Z a h0 n0) v U'.heap L ∧ FrameEnd U o U' L ({ frames := 1, cells := 0, slots := 0, locals := 12 } : Room).cells ({ frames := 1, cells := 0, slots := 0, locals := 12 } : Room).slots) := by
  refine MetFree.of_bodySF (plainFor_of_name own_pn1) hisR ?_
  intro p e s m args below meth c s₁ Bd hml0 hP hK
  obtain ⟨rfl, hZ, hh⟩ := hP
  have hx := Bd.exec
  have hby := Bd.bytes
  have hml : c.maxLocals = 1 := hml0
  have hown : s.vm.findClass "java/util/AbstractCollection" = some m.cls := findClass_of_methodNamed Bd.named
  have hnm := (name_of_methodNamed Bd.named Bd.method).1
  have X0 : Stand p l e ({ frames := 1, cells := 0, slots := 0, locals := 12 } : Room) s m #[(.ref a)] below meth c s₁ [] 0 0 := Stand.of_body Bd
  have e0 : s₁.heap = h0 := by rw [← hh, Bd.state]; rfl
  have N0 := Fr.nil n0
  refine Out.start (Q := own_QA1 Z a h0 n0) (own_efA1 m a ) ?_
  refine Out.via (g' := (mkF m 1 #[.val (.ref a)] [(.ref a)])) (fun _ k => XS.aloadN X0.here hx rfl (hb hby own_d2_0) rfl rfl k) ?_
  obtain ⟨T1, X1, e1, st1⟩ := initO X0 hx hZ hown (hw _ (List.mem_of_getElem? (i := 101) rfl)) (hw _ (List.mem_of_getElem? (i := 18) rfl)) (hw _ (List.mem_of_getElem? (i := 19) rfl)) e0 (g := (mkF m 1 #[.val (.ref a)] [(.ref a)])) rfl (by rw [hml]; rfl) rfl (hb hby own_d2_1) (by decide) (W := 0) (by show 2 * 0 + _ ≤ _; exact Nat.le_of_eq rfl) (by decide)
  refine Out.via (g' := (mkF m 4 #[.val (.ref a)] [])) st1 ?_
  exact Out.endN X1 (fun _ => rfl) Bd.notSynchronized (by decide) (by decide) (by rw [e1]; exact ⟨rfl, N0, rfl⟩) (fun fs hr => X1.returnOut hx Bd.returns (hb hby own_d2_4) hr)
theorem own_pn2 : plainName "java/util/ImmutableCollections$AbstractImmutableCollection" = true := by first | (simp [plainName, overriddenIn]; done) | decide +kernel
theorem own_d3_0 : decode jdk_47_method_1_code 0 = .ok (.aload_n 0, 1) := by decide +kernel
theorem own_d3_1 : decode jdk_47_method_1_code 1 = .ok (.invokespecial 1, 3) := by decide +kernel
theorem own_pd3 : parseMethodDescriptor "()V" = some ⟨[], none⟩ := by decide +kernel
theorem own_d3_4 : decode jdk_47_method_1_code 4 = .ok (.return_, 1) := by decide +kernel
theorem own_efA2 (m : MethodId) (x0 : Addr) : entryFrame m #[(.ref x0)] 1 = mkF m 0 #[.val (.ref x0)] [] := by first | (simp [entryFrame, mkF, argsToLocals, Value.category]; done) | rfl
abbrev own_QA2 (Z : State) (a : Addr) (h0 : Heap) (n0 : Nat) : Option Value → Heap → List Loc → Prop := fun v h L => v = none ∧ Fr n0 L ∧ h = h0
set_option maxRecDepth 65536 in
set_option maxHeartbeats 40000000 in
theorem own_rmA2 (l : Launch) (Z : State) (a0 : Array Value) (hw : ∀ d ∈ tables_1, d.before a0 Z = true) (ws : List Jvm.Cond) (a : Addr) (h0 : Heap) (n0 : Nat) (O : Old Z n0 h0) :
    MetFree l (⟨"java/util/ImmutableCollections$AbstractImmutableCollection", "<init>", "()V"⟩ : MethodName) (head1 (Jvm.Cond.code (⟨"java/util/ImmutableCollections$AbstractImmutableCollection", "<init>", "()V"⟩ : MethodName) jdk_47_method_1_code 1 none :: ws) ({ frames := 2, cells := 0, slots := 0, locals := 24 } : Room)) (fun aa U => aa = #[(.ref a)] ∧ Z.Warmed39 U.vm ∧ U.heap = h0) (fun _ _ _ _ _ => True) (fun _ U o U' => ∃ v L, o = .returned v ∧ (own_QA2 Z a h0 n0) v U'.heap L ∧ FrameEnd U o U' L ({ frames := 2, cells := 0, slots := 0, locals := 24 } : Room).cells ({ frames := 2, cells := 0, slots := 0, locals := 24 } : Room).slots) := by
  refine MetFree.of_bodySF (plainFor_of_name own_pn2) hisR ?_
  intro p e s m args below meth c s₁ Bd hml0 hP hK
  obtain ⟨rfl, hZ, hh⟩ := hP
  have hx := Bd.exec
  have hby := Bd.bytes
  have hml : c.maxLocals = 1 := hml0
  have hown : s.vm.findClass "java/util/ImmutableCollections$AbstractImmutableCollection" = some m.cls := findClass_of_methodNamed Bd.named
  have hnm := (name_of_methodNamed Bd.named Bd.method).1
  have X0 : Stand p l e ({ frames := 2, cells := 0, slots := 0, locals := 24 } : Room) s m #[(.ref a)] below meth c s₁ [] 0 0 := Stand.of_body Bd
  have e0 : s₁.heap = h0 := by rw [← hh, Bd.state]; rfl
  have N0 := Fr.nil n0
  refine Out.start (Q := own_QA2 Z a h0 n0) (own_efA2 m a ) ?_
  refine Out.via (g' := (mkF m 1 #[.val (.ref a)] [(.ref a)])) (fun _ k => XS.aloadN X0.here hx rfl (hb hby own_d3_0) rfl rfl k) ?_
  obtain ⟨_, _, ⟨T1, L1, kc1, ks1⟩, -, X1, ⟨Lc1, hQ1, l1, y1, z1⟩, st1⟩ := X0.specialBack hx (y := (⟨"java/util/AbstractCollection", "<init>", "()V"⟩ : MethodName)) rfl hown (mvT hZ (hw _ (List.mem_of_getElem? (i := 95) rfl))) (mvT hZ (hw _ (List.mem_of_getElem? (i := 96) rfl))) (mvT hZ (hw _ (List.mem_of_getElem? (i := 100) rfl))) (by decide) (backOf (W := 0) (own_rmA1 l Z a0 hw [] a h0 n0 O) hZ (hw _ (List.mem_of_getElem? (i := 100) rfl)) (hw _ (List.mem_of_getElem? (i := 99) rfl)) (by decide) (by decide)) (g := (mkF m 1 #[.val (.ref a)] [(.ref a)])) rfl (by rw [hml]; rfl) (Steps.refl _) (a := a) (argsL := []) (rest := []) (lenOf own_pd3 rfl) rfl (by show 2 * 0 + _ ≤ _; exact Nat.le_of_eq rfl) (hb hby own_d3_1) (fun _ _ => ⟨rfl, e0, (by decide : 0 + 0 ≤ _), (by decide : 0 + 0 ≤ _)⟩)
  dsimp only [Pt.U, Pt.locs, Pt.cells, Pt.slots] at X1 l1 y1 z1 st1 hQ1
  subst l1 y1 z1
  obtain ⟨rfl, Nq1, eq1⟩ := hQ1
  replace N0 := Fr.app N0 Nq1
  refine Out.to (g' := (mkF m 4 #[.val (.ref a)] [])) st1 ?_
  exact Out.endN X1 (fun _ => rfl) Bd.notSynchronized (by decide) (by decide) (by rw [eq1]; exact ⟨rfl, N0, rfl⟩) (fun fs hr => X1.returnOut hx Bd.returns (hb hby own_d3_4) hr)
theorem own_pn4 : plainName "java/util/ImmutableCollections$AbstractImmutableSet" = true := by first | (simp [plainName, overriddenIn]; done) | decide +kernel
theorem own_d4_0 : decode jdk_100_method_1_code 0 = .ok (.aload_n 0, 1) := by decide +kernel
theorem own_d4_1 : decode jdk_100_method_1_code 1 = .ok (.invokespecial 1, 3) := by decide +kernel
theorem own_d4_4 : decode jdk_100_method_1_code 4 = .ok (.return_, 1) := by decide +kernel
theorem own_efA3 (m : MethodId) (x0 : Addr) : entryFrame m #[(.ref x0)] 1 = mkF m 0 #[.val (.ref x0)] [] := by first | (simp [entryFrame, mkF, argsToLocals, Value.category]; done) | rfl
abbrev own_QA3 (Z : State) (a : Addr) (h0 : Heap) (n0 : Nat) : Option Value → Heap → List Loc → Prop := fun v h L => v = none ∧ Fr n0 L ∧ h = h0
set_option maxRecDepth 65536 in
set_option maxHeartbeats 40000000 in
theorem own_rmA3 (l : Launch) (Z : State) (a0 : Array Value) (hw : ∀ d ∈ tables_1, d.before a0 Z = true) (ws : List Jvm.Cond) (a : Addr) (h0 : Heap) (n0 : Nat) (O : Old Z n0 h0) :
    MetFree l (⟨"java/util/ImmutableCollections$AbstractImmutableSet", "<init>", "()V"⟩ : MethodName) (head1 (Jvm.Cond.code (⟨"java/util/ImmutableCollections$AbstractImmutableSet", "<init>", "()V"⟩ : MethodName) jdk_100_method_1_code 1 none :: ws) ({ frames := 3, cells := 0, slots := 0, locals := 36 } : Room)) (fun aa U => aa = #[(.ref a)] ∧ Z.Warmed39 U.vm ∧ U.heap = h0) (fun _ _ _ _ _ => True) (fun _ U o U' => ∃ v L, o = .returned v ∧ (own_QA3 Z a h0 n0) v U'.heap L ∧ FrameEnd U o U' L ({ frames := 3, cells := 0, slots := 0, locals := 36 } : Room).cells ({ frames := 3, cells := 0, slots := 0, locals := 36 } : Room).slots) := by
  refine MetFree.of_bodySF (plainFor_of_name own_pn4) hisR ?_
  intro p e s m args below meth c s₁ Bd hml0 hP hK
  obtain ⟨rfl, hZ, hh⟩ := hP
  have hx := Bd.exec
  have hby := Bd.bytes
  have hml : c.maxLocals = 1 := hml0
  have hown : s.vm.findClass "java/util/ImmutableCollections$AbstractImmutableSet" = some m.cls := findClass_of_methodNamed Bd.named
  have hnm := (name_of_methodNamed Bd.named Bd.method).1
  have X0 : Stand p l e ({ frames := 3, cells := 0, slots := 0, locals := 36 } : Room) s m #[(.ref a)] below meth c s₁ [] 0 0 := Stand.of_body Bd
  have e0 : s₁.heap = h0 := by rw [← hh, Bd.state]; rfl
  have N0 := Fr.nil n0
  refine Out.start (Q := own_QA3 Z a h0 n0) (own_efA3 m a ) ?_
  refine Out.via (g' := (mkF m 1 #[.val (.ref a)] [(.ref a)])) (fun _ k => XS.aloadN X0.here hx rfl (hb hby own_d4_0) rfl rfl k) ?_
  obtain ⟨_, _, ⟨T1, L1, kc1, ks1⟩, -, X1, ⟨Lc1, hQ1, l1, y1, z1⟩, st1⟩ := X0.specialBack hx (y := (⟨"java/util/ImmutableCollections$AbstractImmutableCollection", "<init>", "()V"⟩ : MethodName)) rfl hown (mvT hZ (hw _ (List.mem_of_getElem? (i := 89) rfl))) (mvT hZ (hw _ (List.mem_of_getElem? (i := 90) rfl))) (mvT hZ (hw _ (List.mem_of_getElem? (i := 94) rfl))) (by decide) (backOf (W := 0) (own_rmA2 l Z a0 hw [] a h0 n0 O) hZ (hw _ (List.mem_of_getElem? (i := 94) rfl)) (hw _ (List.mem_of_getElem? (i := 93) rfl)) (by decide) (by decide)) (g := (mkF m 1 #[.val (.ref a)] [(.ref a)])) rfl (by rw [hml]; rfl) (Steps.refl _) (a := a) (argsL := []) (rest := []) (lenOf own_pd3 rfl) rfl (by show 2 * 0 + _ ≤ _; exact Nat.le_of_eq rfl) (hb hby own_d4_1) (fun _ _ => ⟨rfl, e0, (by decide : 0 + 0 ≤ _), (by decide : 0 + 0 ≤ _)⟩)
  dsimp only [Pt.U, Pt.locs, Pt.cells, Pt.slots] at X1 l1 y1 z1 st1 hQ1
  subst l1 y1 z1
  obtain ⟨rfl, Nq1, eq1⟩ := hQ1
  replace N0 := Fr.app N0 Nq1
  refine Out.to (g' := (mkF m 4 #[.val (.ref a)] [])) st1 ?_
  exact Out.endN X1 (fun _ => rfl) Bd.notSynchronized (by decide) (by decide) (by rw [eq1]; exact ⟨rfl, N0, rfl⟩) (fun fs hr => X1.returnOut hx Bd.returns (hb hby own_d4_4) hr)
theorem own_pn5 : plainName "java/util/ImmutableCollections$Set12" = true := by first | (simp [plainName, overriddenIn]; done) | decide +kernel
theorem own_d5_0 : decode jdk_101_method_1_code 0 = .ok (.aload_n 0, 1) := by decide +kernel
theorem own_d5_1 : decode jdk_101_method_1_code 1 = .ok (.invokespecial 1, 3) := by decide +kernel
theorem own_d5_4 : decode jdk_101_method_1_code 4 = .ok (.aload_n 0, 1) := by decide +kernel
theorem own_d5_5 : decode jdk_101_method_1_code 5 = .ok (.aload_n 1, 1) := by decide +kernel
theorem own_d5_6 : decode jdk_101_method_1_code 6 = .ok (.invokestatic 7, 3) := by decide +kernel
theorem own_pd6 : parseMethodDescriptor "(Ljava/lang/Object;)Ljava/lang/Object;" = some ⟨[(.object "java/lang/Object")], some (.object "java/lang/Object")⟩ := by decide +kernel
theorem own_d5_9 : decode jdk_101_method_1_code 9 = .ok (.putfield 13, 3) := by decide +kernel
theorem own_d5_12 : decode jdk_101_method_1_code 12 = .ok (.aload_n 0, 1) := by decide +kernel
theorem own_d5_13 : decode jdk_101_method_1_code 13 = .ok (.getstatic 19, 3) := by decide +kernel
theorem own_d5_16 : decode jdk_101_method_1_code 16 = .ok (.putfield 24, 3) := by decide +kernel
theorem own_d5_19 : decode jdk_101_method_1_code 19 = .ok (.return_, 1) := by decide +kernel
theorem own_efS (m : MethodId) (x0 : Addr) (x1 : Addr) : entryFrame m #[(.ref x0), (.ref x1)] 2 = mkF m 0 #[.val (.ref x0), .val (.ref x1)] [] := by first | (simp [entryFrame, mkF, argsToLocals, Value.category]; done) | rfl
abbrev own_QS (Z : State) (a w em : Addr) (h0 : Heap) (n0 : Nat) : Option Value → Heap → List Loc → Prop := fun v h L => v = none ∧ Fr n0 L ∧ Keep h0 h [a] ∧ Exa Z h a "java/util/ImmutableCollections$Set12" ∧ Fld Z h a "java/util/ImmutableCollections$Set12" "e0" "Ljava/lang/Object;" (.ref w) ∧ Fld Z h a "java/util/ImmutableCollections$Set12" "e1" "Ljava/lang/Object;" (.ref em)
set_option maxRecDepth 65536 in
set_option maxHeartbeats 40000000 in
theorem own_rmS (l : Launch) (Z : State) (a0 : Array Value) (hw : ∀ d ∈ tables_1, d.before a0 Z = true) (ws : List Jvm.Cond) (a w em : Addr) (h0 : Heap) (n0 : Nat) (O : Old Z n0 h0) (g_a : n0 ≤ a) (E1 : Exa Z h0 a "java/util/ImmutableCollections$Set12") (F_e0_a : Fld Z h0 a "java/util/ImmutableCollections$Set12" "e0" "Ljava/lang/Object;" .null) (F_e1_a : Fld Z h0 a "java/util/ImmutableCollections$Set12" "e1" "Ljava/lang/Object;" .null) (OE : Sta Z Z.heap "java/util/ImmutableCollections" "EMPTY" "Ljava/lang/Object;" (.ref em)) :
    MetFree l (⟨"java/util/ImmutableCollections$Set12", "<init>", "(Ljava/lang/Object;)V"⟩ : MethodName) (head1 (Jvm.Cond.code (⟨"java/util/ImmutableCollections$Set12", "<init>", "(Ljava/lang/Object;)V"⟩ : MethodName) jdk_101_method_1_code 2 none :: ws) ({ frames := 4, cells := 0, slots := 0, locals := 48 } : Room)) (fun aa U => aa = #[(.ref a), (.ref w)] ∧ Z.Warmed39 U.vm ∧ U.heap = h0) (fun _ _ _ _ _ => True) (fun _ U o U' => ∃ v L, o = .returned v ∧ (own_QS Z a w em h0 n0) v U'.heap L ∧ FrameEnd U o U' L ({ frames := 4, cells := 0, slots := 0, locals := 48 } : Room).cells ({ frames := 4, cells := 0, slots := 0, locals := 48 } : Room).slots) := by
  refine MetFree.of_bodySF (plainFor_of_name own_pn5) hisR ?_
  intro p e s m args below meth c s₁ Bd hml0 hP hK
  obtain ⟨rfl, hZ, hh⟩ := hP
  have hx := Bd.exec
  have hby := Bd.bytes
  have hml : c.maxLocals = 2 := hml0
  have hown : s.vm.findClass "java/util/ImmutableCollections$Set12" = some m.cls := findClass_of_methodNamed Bd.named
  have hnm := (name_of_methodNamed Bd.named Bd.method).1
  have X0 : Stand p l e ({ frames := 4, cells := 0, slots := 0, locals := 48 } : Room) s m #[(.ref a), (.ref w)] below meth c s₁ [] 0 0 := Stand.of_body Bd
  have e0 : s₁.heap = h0 := by rw [← hh, Bd.state]; rfl
  have N0 := Fr.nil n0
  refine Out.start (Q := own_QS Z a w em h0 n0) (own_efS m a w ) ?_
  have Kp := Keep.refl h0 [a]
  refine Out.via (g' := (mkF m 1 #[.val (.ref a), .val (.ref w)] [(.ref a)])) (fun _ k => XS.aloadN X0.here hx rfl (hb hby own_d5_0) rfl rfl k) ?_
  obtain ⟨_, _, ⟨T1, L1, kc1, ks1⟩, -, X1, ⟨Lc1, hQ1, l1, y1, z1⟩, st1⟩ := X0.specialBack hx (y := (⟨"java/util/ImmutableCollections$AbstractImmutableSet", "<init>", "()V"⟩ : MethodName)) rfl hown (mvT hZ (hw _ (List.mem_of_getElem? (i := 83) rfl))) (mvT hZ (hw _ (List.mem_of_getElem? (i := 84) rfl))) (mvT hZ (hw _ (List.mem_of_getElem? (i := 88) rfl))) (by decide) (backOf (W := 0) (own_rmA3 l Z a0 hw [] a h0 n0 O) hZ (hw _ (List.mem_of_getElem? (i := 88) rfl)) (hw _ (List.mem_of_getElem? (i := 87) rfl)) (by decide) (by decide)) (g := (mkF m 1 #[.val (.ref a), .val (.ref w)] [(.ref a)])) rfl (by rw [hml]; rfl) (Steps.refl _) (a := a) (argsL := []) (rest := []) (lenOf own_pd3 rfl) rfl (by show 2 * 0 + _ ≤ _; exact Nat.le_of_eq rfl) (hb hby own_d5_1) (fun _ _ => ⟨rfl, e0, (by decide : 0 + 0 ≤ _), (by decide : 0 + 0 ≤ _)⟩)
  dsimp only [Pt.U, Pt.locs, Pt.cells, Pt.slots] at X1 l1 y1 z1 st1 hQ1
  subst l1 y1 z1
  obtain ⟨rfl, Nq1, eq1⟩ := hQ1
  replace N0 := Fr.app N0 Nq1
  refine Out.to (g' := (mkF m 4 #[.val (.ref a), .val (.ref w)] [])) st1 ?_
  refine Out.via (g' := (mkF m 5 #[.val (.ref a), .val (.ref w)] [(.ref a)])) (fun _ k => XS.aloadN X1.here hx rfl (hb hby own_d5_4) rfl rfl k) ?_
  refine Out.via (g' := (mkF m 6 #[.val (.ref a), .val (.ref w)] [(.ref w), (.ref a)])) (fun _ k => XS.aloadN X1.here hx rfl (hb hby own_d5_5) rfl rfl k) ?_
  obtain ⟨_, _, ⟨T2, L2, kc2, ks2⟩, -, X2, ⟨Lc2, hQ2, l2, y2, z2⟩, st2⟩ := Jvm.LawKit.callS X1 hx (y := (⟨"java/util/Objects", "requireNonNull", "(Ljava/lang/Object;)Ljava/lang/Object;"⟩ : MethodName)) hown (mvT hZ (hw _ (List.mem_of_getElem? (i := 102) rfl))) (mvT hZ (hw _ (List.mem_of_getElem? (i := 103) rfl))) (mvT hZ (hw _ (List.mem_of_getElem? (i := 32) rfl))) (mvT hZ (hw _ (List.mem_of_getElem? (i := 104) rfl))) (by decide) (backOf (W := 1) (own_rmN1 l Z a0 hw [] w h0 n0 O) hZ (hw _ (List.mem_of_getElem? (i := 104) rfl)) (hw _ (List.mem_of_getElem? (i := 32) rfl)) (by decide) (by decide)) (g := (mkF m 6 #[.val (.ref a), .val (.ref w)] [(.ref w), (.ref a)])) rfl (by rw [hml]; rfl) (argsL := [(.ref w)]) (rest := [(.ref a)]) (lenOf own_pd6 rfl) rfl (by show 2 * 0 + _ ≤ _; exact Nat.le_of_eq rfl) (hb hby own_d5_6) (fun _ _ => ⟨rfl, eq1, (by decide : 0 + 0 ≤ _), (by decide : 0 + 0 ≤ _)⟩)
  dsimp only [Pt.U, Pt.locs, Pt.cells, Pt.slots] at X2 l2 y2 z2 st2 hQ2
  subst l2 y2 z2
  obtain ⟨rfl, Nq2, eq2⟩ := hQ2
  replace N0 := Fr.app N0 Nq2
  refine Out.via (g' := (mkF m 9 #[.val (.ref a), .val (.ref w)] [(.ref w), (.ref a)])) st2 ?_
  obtain ⟨T3, h3, X3, e3, W3, st3⟩ := putF X2 hx hZ hown (host := "") (Or.inl (hw _ (List.mem_of_getElem? (i := 105) rfl))) Via.refl eq2 F_e0_a E1 (Or.inr ⟨(hw _ (List.mem_of_getElem? (i := 106) rfl)), rfl, hnm⟩) (hw _ (List.mem_of_getElem? (i := 77) rfl)) (ty := (.object "java/lang/Object")) (by decide) rfl rfl (g := (mkF m 9 #[.val (.ref a), .val (.ref w)] [(.ref w), (.ref a)])) rfl rfl (hb hby own_d5_9)
  replace F_e0_a := F_e0_a.same W3
  replace F_e1_a := F_e1_a.other W3 (Or.inr (slot_ne (Or.inr (hw _ (List.mem_of_getElem? (i := 110) rfl))) (Or.inr (hw _ (List.mem_of_getElem? (i := 106) rfl))) (by decide) (t := (.object "java/lang/Object")) (t' := (.object "java/lang/Object")) (by decide) (by decide)))
  replace E1 := E1.wr W3
  replace O := O.wr W3 g_a
  replace Kp := Kp.wr W3 (Or.inl (List.mem_of_getElem? (i := 0) rfl))
  replace N0 := Fr.snoc X3 N0 g_a
  refine Out.via (g' := (mkF m 12 #[.val (.ref a), .val (.ref w)] [])) st3 ?_
  refine Out.via (g' := (mkF m 13 #[.val (.ref a), .val (.ref w)] [(.ref a)])) (fun _ k => XS.aloadN X3.here hx rfl (hb hby own_d5_12) rfl rfl k) ?_
  obtain ⟨T4, X4, e4, st4⟩ := getS2 X3 hx hZ hown (Or.inr (hw _ (List.mem_of_getElem? (i := 107) rfl))) Via.refl e3 (OE.ext O.2) (g := (mkF m 13 #[.val (.ref a), .val (.ref w)] [(.ref a)])) rfl (hb hby own_d5_13)
  refine Out.via (g' := (mkF m 16 #[.val (.ref a), .val (.ref w)] [(.ref em), (.ref a)])) st4 ?_
  obtain ⟨T5, h5, X5, e5, W5, st5⟩ := putF X4 hx hZ hown (host := "") (Or.inl (hw _ (List.mem_of_getElem? (i := 109) rfl))) Via.refl e4 F_e1_a E1 (Or.inr ⟨(hw _ (List.mem_of_getElem? (i := 110) rfl)), rfl, hnm⟩) (hw _ (List.mem_of_getElem? (i := 77) rfl)) (ty := (.object "java/lang/Object")) (by decide) rfl rfl (g := (mkF m 16 #[.val (.ref a), .val (.ref w)] [(.ref em), (.ref a)])) rfl rfl (hb hby own_d5_16)
  replace F_e1_a := F_e1_a.same W5
  replace F_e0_a := F_e0_a.other W5 (Or.inr (slot_ne (Or.inr (hw _ (List.mem_of_getElem? (i := 106) rfl))) (Or.inr (hw _ (List.mem_of_getElem? (i := 110) rfl))) (by decide) (t := (.object "java/lang/Object")) (t' := (.object "java/lang/Object")) (by decide) (by decide)))
  replace E1 := E1.wr W5
  replace O := O.wr W5 g_a
  replace Kp := Kp.wr W5 (Or.inl (List.mem_of_getElem? (i := 0) rfl))
  replace N0 := Fr.snoc X5 N0 g_a
  refine Out.via (g' := (mkF m 19 #[.val (.ref a), .val (.ref w)] [])) st5 ?_
  exact Out.endN X5 (fun _ => rfl) Bd.notSynchronized (by decide) (by decide) (by rw [e5]; exact ⟨rfl, N0, Kp, E1, F_e0_a, F_e1_a⟩) (fun fs hr => X5.returnOut hx Bd.returns (hb hby own_d5_19) hr)
theorem own_pn7 : plainName "java/util/Set" = true := by first | (simp [plainName, overriddenIn]; done) | decide +kernel
theorem own_d6_0 : decode jdk_96_method_18_code 0 = .ok (.new 15, 3) := by decide +kernel
theorem own_d6_3 : decode jdk_96_method_18_code 3 = .ok (.dup, 1) := by decide +kernel
theorem own_d6_4 : decode jdk_96_method_18_code 4 = .ok (.aload_n 0, 1) := by decide +kernel
theorem own_d6_5 : decode jdk_96_method_18_code 5 = .ok (.invokespecial 17, 3) := by decide +kernel
theorem own_pd8 : parseMethodDescriptor "(Ljava/lang/Object;)V" = some ⟨[(.object "java/lang/Object")], none⟩ := by decide +kernel
theorem own_d6_8 : decode jdk_96_method_18_code 8 = .ok (.areturn, 1) := by decide +kernel
theorem own_efOF (m : MethodId) (x0 : Addr) : entryFrame m #[(.ref x0)] 1 = mkF m 0 #[.val (.ref x0)] [] := by first | (simp [entryFrame, mkF, argsToLocals, Value.category]; done) | rfl
abbrev own_QOF (Z : State) (w em : Addr) (h0 : Heap) (n0 : Nat) : Option Value → Heap → List Loc → Prop := fun v h L => ∃ b : Addr, v = some (.ref b) ∧ Fr n0 L ∧ Keep h0 h [] ∧ h0.size ≤ b ∧ Exa Z h b "java/util/ImmutableCollections$Set12" ∧ Fld Z h b "java/util/ImmutableCollections$Set12" "e0" "Ljava/lang/Object;" (.ref w) ∧ Fld Z h b "java/util/ImmutableCollections$Set12" "e1" "Ljava/lang/Object;" (.ref em)
set_option maxRecDepth 65536 in
set_option maxHeartbeats 40000000 in
theorem own_rmOF (l : Launch) (Z : State) (a0 : Array Value) (hw : ∀ d ∈ tables_1, d.before a0 Z = true) (ws : List Jvm.Cond) (w em : Addr) (h0 : Heap) (n0 : Nat) (O : Old Z n0 h0) (OE : Sta Z Z.heap "java/util/ImmutableCollections" "EMPTY" "Ljava/lang/Object;" (.ref em)) :
    MetFree l (⟨"java/util/Set", "of", "(Ljava/lang/Object;)Ljava/util/Set;"⟩ : MethodName) (head1 (Jvm.Cond.code (⟨"java/util/Set", "of", "(Ljava/lang/Object;)Ljava/util/Set;"⟩ : MethodName) jdk_96_method_18_code 1 (some (.object "java/util/Set")) :: ws) ({ frames := 5, cells := 1, slots := 2, locals := 62 } : Room)) (fun aa U => aa = #[(.ref w)] ∧ Z.Warmed39 U.vm ∧ U.heap = h0) (fun _ _ _ _ _ => True) (fun _ U o U' => ∃ v L, o = .returned v ∧ (own_QOF Z w em h0 n0) v U'.heap L ∧ FrameEnd U o U' L ({ frames := 5, cells := 1, slots := 2, locals := 62 } : Room).cells ({ frames := 5, cells := 1, slots := 2, locals := 62 } : Room).slots) := by
  refine MetFree.of_bodySF (plainFor_of_name own_pn7) hisR ?_
  intro p e s m args below meth c s₁ Bd hml0 hP hK
  obtain ⟨rfl, hZ, hh⟩ := hP
  have hx := Bd.exec
  have hby := Bd.bytes
  have hml : c.maxLocals = 1 := hml0
  have hown : s.vm.findClass "java/util/Set" = some m.cls := findClass_of_methodNamed Bd.named
  have hnm := (name_of_methodNamed Bd.named Bd.method).1
  have X0 : Stand p l e ({ frames := 5, cells := 1, slots := 2, locals := 62 } : Room) s m #[(.ref w)] below meth c s₁ [] 0 0 := Stand.of_body Bd
  have e0 : s₁.heap = h0 := by rw [← hh, Bd.state]; rfl
  have N0 := Fr.nil n0
  refine Out.start (Q := own_QOF Z w em h0 n0) (own_efOF m w ) ?_
  have Kp := Keep.refl h0 []
  obtain ⟨T1, h1, X1, e1, E1, A1, D1, -, st1⟩ := newO X0 hx hZ hown (hw _ (List.mem_of_getElem? (i := 76) rfl)) (hw _ (List.mem_of_getElem? (i := 77) rfl)) (hw _ (List.mem_of_getElem? (i := 78) rfl)) e0 (g := (mkF m 0 #[.val (.ref w)] [])) rfl (hb hby own_d6_0) (by decide) (by decide)
  obtain ⟨b, gq1⟩ : ∃ z, z = h0.size := ⟨_, rfl⟩
  rw [← gq1] at A1 D1 st1
  have g_b : n0 ≤ b := Nat.le_trans (own_z0 O) (Nat.le_of_eq gq1.symm)
  have sz_b : h0.size ≤ b := Nat.le_trans Kp.1 (Nat.le_of_eq gq1.symm)
  replace O := O.ext E1
  replace Kp := Kp.ext E1
  have F_e0_b : Fld Z h1 b "java/util/ImmutableCollections$Set12" "e0" "Ljava/lang/Object;" .null := D1 (Or.inr (hw _ (List.mem_of_getElem? (i := 106) rfl))) (ty := (.object "java/lang/Object")) (by decide)
  have F_e1_b : Fld Z h1 b "java/util/ImmutableCollections$Set12" "e1" "Ljava/lang/Object;" .null := D1 (Or.inr (hw _ (List.mem_of_getElem? (i := 110) rfl))) (ty := (.object "java/lang/Object")) (by decide)
  refine Out.via (g' := (mkF m 3 #[.val (.ref w)] [(.ref b)])) st1 ?_
  refine Out.via (g' := (mkF m 4 #[.val (.ref w)] [(.ref b), (.ref b)])) (fun _ k => XS.dup X1.here hx rfl (hb hby own_d6_3) rfl rfl k) ?_
  refine Out.via (g' := (mkF m 5 #[.val (.ref w)] [(.ref w), (.ref b), (.ref b)])) (fun _ k => XS.aloadN X1.here hx rfl (hb hby own_d6_4) rfl rfl k) ?_
  obtain ⟨_, _, ⟨T2, L2, kc2, ks2⟩, -, X2, ⟨Lc2, hQ2, l2, y2, z2⟩, st2⟩ := X1.specialBack hx (y := (⟨"java/util/ImmutableCollections$Set12", "<init>", "(Ljava/lang/Object;)V"⟩ : MethodName)) rfl hown (mvT hZ (hw _ (List.mem_of_getElem? (i := 79) rfl))) (mvT hZ (hw _ (List.mem_of_getElem? (i := 80) rfl))) (mvT hZ (hw _ (List.mem_of_getElem? (i := 82) rfl))) (by decide) (backOf (W := 1) (own_rmS l Z a0 hw [] b w em h1 n0 O g_b A1 F_e0_b F_e1_b OE) hZ (hw _ (List.mem_of_getElem? (i := 82) rfl)) (hw _ (List.mem_of_getElem? (i := 78) rfl)) (by decide) (by decide)) (g := (mkF m 5 #[.val (.ref w)] [(.ref w), (.ref b), (.ref b)])) rfl (by rw [hml]; rfl) (Steps.refl _) (a := b) (argsL := [(.ref w)]) (rest := [(.ref b)]) (lenOf own_pd8 rfl) rfl (by show 2 * 0 + _ ≤ _; exact Nat.le_of_eq rfl) (hb hby own_d6_5) (fun _ _ => ⟨rfl, e1, (by decide : 1 + 0 ≤ _), (by decide : 2 + 0 ≤ _)⟩)
  dsimp only [Pt.U, Pt.locs, Pt.cells, Pt.slots] at X2 l2 y2 z2 st2 hQ2
  subst l2 y2 z2
  obtain ⟨rfl, Nq, Kq, Eb, F0, F1⟩ := hQ2
  replace N0 := Fr.app N0 Nq
  replace A1 := A1.keep Kq
  replace O := O.keep Kq (allS g_b all0)
  replace Kp := Kp.trans Kq (allS (Or.inr sz_b) all0)
  refine Out.to (g' := (mkF m 8 #[.val (.ref w)] [(.ref b)])) st2 ?_
  exact Out.endN X2 (fun h => by rw [Bd.returns] at h; cases h) Bd.notSynchronized (by decide) (by decide) (⟨b, rfl, N0, Kp, sz_b, Eb, F0, F1⟩) (fun fs hr => own_retR X2 hx (t := (.object "java/util/Set")) Bd.returns rfl rfl rfl (hb hby own_d6_8) hr)
theorem own_d7_0 : decode jdk_96_method_29_code 0 = .ok (.aload_n 0, 1) := by decide +kernel
theorem own_d7_1 : decode jdk_96_method_29_code 1 = .ok (.instanceof 31, 3) := by decide +kernel
theorem own_d7_4 : decode jdk_96_method_29_code 4 = .ok (.ifCond .eq 8, 3) := by decide +kernel
theorem own_d7_7 : decode jdk_96_method_29_code 7 = .ok (.aload_n 0, 1) := by decide +kernel
theorem own_d7_8 : decode jdk_96_method_29_code 8 = .ok (.checkcast 33, 3) := by decide +kernel
theorem own_d7_11 : decode jdk_96_method_29_code 11 = .ok (.areturn, 1) := by decide +kernel
theorem own_efCO (m : MethodId) (x0 : Addr) : entryFrame m #[(.ref x0)] 1 = mkF m 0 #[.val (.ref x0)] [] := by first | (simp [entryFrame, mkF, argsToLocals, Value.category]; done) | rfl
abbrev own_QCO (Z : State) (a : Addr) (h0 : Heap) (n0 : Nat) : Option Value → Heap → List Loc → Prop := fun v h L => v = some (.ref a) ∧ Fr n0 L ∧ h = h0
set_option maxRecDepth 65536 in
set_option maxHeartbeats 40000000 in
theorem own_rmCO (l : Launch) (Z : State) (a0 : Array Value) (hw : ∀ d ∈ tables_1, d.before a0 Z = true) (ws : List Jvm.Cond) (a : Addr) (h0 : Heap) (n0 : Nat) (O : Old Z n0 h0) (E1 : Exa Z h0 a "java/util/ImmutableCollections$Set12") :
    MetFree l (⟨"java/util/Set", "copyOf", "(Ljava/util/Collection;)Ljava/util/Set;"⟩ : MethodName) (head1 (Jvm.Cond.code (⟨"java/util/Set", "copyOf", "(Ljava/util/Collection;)Ljava/util/Set;"⟩ : MethodName) jdk_96_method_29_code 1 (some (.object "java/util/Set")) :: ws) ({ frames := 0, cells := 0, slots := 0, locals := 0 } : Room)) (fun aa U => aa = #[(.ref a)] ∧ Z.Warmed39 U.vm ∧ U.heap = h0) (fun _ _ _ _ _ => True) (fun _ U o U' => ∃ v L, o = .returned v ∧ (own_QCO Z a h0 n0) v U'.heap L ∧ FrameEnd U o U' L ({ frames := 0, cells := 0, slots := 0, locals := 0 } : Room).cells ({ frames := 0, cells := 0, slots := 0, locals := 0 } : Room).slots) := by
  refine MetFree.of_bodySF (plainFor_of_name own_pn7) hisR ?_
  intro p e s m args below meth c s₁ Bd hml0 hP hK
  obtain ⟨rfl, hZ, hh⟩ := hP
  have hx := Bd.exec
  have hby := Bd.bytes
  have hml : c.maxLocals = 1 := hml0
  have hown : s.vm.findClass "java/util/Set" = some m.cls := findClass_of_methodNamed Bd.named
  have hnm := (name_of_methodNamed Bd.named Bd.method).1
  have X0 : Stand p l e ({ frames := 0, cells := 0, slots := 0, locals := 0 } : Room) s m #[(.ref a)] below meth c s₁ [] 0 0 := Stand.of_body Bd
  have e0 : s₁.heap = h0 := by rw [← hh, Bd.state]; rfl
  have N0 := Fr.nil n0
  refine Out.start (Q := own_QCO Z a h0 n0) (own_efCO m a ) ?_
  refine Out.via (g' := (mkF m 1 #[.val (.ref a)] [(.ref a)])) (fun _ k => XS.aloadN X0.here hx rfl (hb hby own_d7_0) rfl rfl k) ?_
  obtain ⟨T1, X1, e1, st1⟩ := instY X0 hx hZ hown (hw _ (List.mem_of_getElem? (i := 114) rfl)) e0 (Ins.of_exa E1 (hw _ (List.mem_of_getElem? (i := 86) rfl))) (g := (mkF m 1 #[.val (.ref a)] [(.ref a)])) rfl rfl (hb hby own_d7_1)
  refine Out.via (g' := (mkF m 4 #[.val (.ref a)] [(.int (1 : Int32))])) st1 ?_
  refine Out.via (g' := (mkF m 7 #[.val (.ref a)] [])) (fun _ k => XS.ifNo X1.here hx rfl (hb hby own_d7_4) rfl ((if0 _ _).trans (feq (by decide)).1) k) ?_
  refine Out.via (g' := (mkF m 8 #[.val (.ref a)] [(.ref a)])) (fun _ k => XS.aloadN X1.here hx rfl (hb hby own_d7_7) rfl rfl k) ?_
  obtain ⟨T2, X2, e2, st2⟩ := castY X1 hx hZ hown (hw _ (List.mem_of_getElem? (i := 115) rfl)) e1 (Ins.of_exa E1 (hw _ (List.mem_of_getElem? (i := 116) rfl))) (g := (mkF m 8 #[.val (.ref a)] [(.ref a)])) rfl rfl (hb hby own_d7_8)
  refine Out.via (g' := (mkF m 11 #[.val (.ref a)] [(.ref a)])) st2 ?_
  exact Out.endN X2 (fun h => by rw [Bd.returns] at h; cases h) Bd.notSynchronized (by decide) (by decide) (by rw [e2]; exact ⟨rfl, N0, rfl⟩) (fun fs hr => own_retR X2 hx (t := (.object "java/util/Set")) Bd.returns rfl rfl rfl (hb hby own_d7_11) hr)
theorem own_pn9 : plainName "com/example/lamassu/lamassu/model/Channel" = true := by first | (simp [plainName, overriddenIn]; done) | decide +kernel
theorem own_d8_0 : decode prog_18_method_4_code 0 = .ok (.aload_n 0, 1) := by decide +kernel
theorem own_d8_1 : decode prog_18_method_4_code 1 = .ok (.getfield 32, 3) := by decide +kernel
theorem own_d8_4 : decode prog_18_method_4_code 4 = .ok (.areturn, 1) := by decide +kernel
theorem own_efK (m : MethodId) (x0 : Addr) : entryFrame m #[(.ref x0)] 1 = mkF m 0 #[.val (.ref x0)] [] := by first | (simp [entryFrame, mkF, argsToLocals, Value.category]; done) | rfl
abbrev own_QK (Z : State) (c w : Addr) (h0 : Heap) (n0 : Nat) : Option Value → Heap → List Loc → Prop := fun v h L => v = some (.ref w) ∧ Fr n0 L ∧ h = h0
set_option maxRecDepth 65536 in
set_option maxHeartbeats 40000000 in
theorem own_rmK (l : Launch) (Z : State) (a0 : Array Value) (hw : ∀ d ∈ tables_1, d.before a0 Z = true) (ws : List Jvm.Cond) (c w : Addr) (h0 : Heap) (n0 : Nat) (O : Old Z n0 h0) (F1 : Fld Z h0 c "com/example/lamassu/lamassu/model/Channel" "keyword" "Ljava/lang/String;" (.ref w)) :
    MetFree l (⟨"com/example/lamassu/lamassu/model/Channel", "keyword", "()Ljava/lang/String;"⟩ : MethodName) (head1 (Jvm.Cond.code (⟨"com/example/lamassu/lamassu/model/Channel", "keyword", "()Ljava/lang/String;"⟩ : MethodName) prog_18_method_4_code 1 (some (.object "java/lang/String")) :: ws) ({ frames := 0, cells := 0, slots := 0, locals := 0 } : Room)) (fun aa U => aa = #[(.ref c)] ∧ Z.Warmed39 U.vm ∧ U.heap = h0) (fun _ _ _ _ _ => True) (fun _ U o U' => ∃ v L, o = .returned v ∧ (own_QK Z c w h0 n0) v U'.heap L ∧ FrameEnd U o U' L ({ frames := 0, cells := 0, slots := 0, locals := 0 } : Room).cells ({ frames := 0, cells := 0, slots := 0, locals := 0 } : Room).slots) := by
  refine MetFree.of_bodySF (plainFor_of_name own_pn9) hisR ?_
  intro p e s m args below meth cc s₁ Bd hml0 hP hK
  obtain ⟨rfl, hZ, hh⟩ := hP
  have hx := Bd.exec
  have hby := Bd.bytes
  have hml : cc.maxLocals = 1 := hml0
  have hown : s.vm.findClass "com/example/lamassu/lamassu/model/Channel" = some m.cls := findClass_of_methodNamed Bd.named
  have hnm := (name_of_methodNamed Bd.named Bd.method).1
  have X0 : Stand p l e ({ frames := 0, cells := 0, slots := 0, locals := 0 } : Room) s m #[(.ref c)] below meth cc s₁ [] 0 0 := Stand.of_body Bd
  have e0 : s₁.heap = h0 := by rw [← hh, Bd.state]; rfl
  have N0 := Fr.nil n0
  refine Out.start (Q := own_QK Z c w h0 n0) (own_efK m c ) ?_
  refine Out.via (g' := (mkF m 1 #[.val (.ref c)] [(.ref c)])) (fun _ k => XS.aloadN X0.here hx rfl (hb hby own_d8_0) rfl rfl k) ?_
  obtain ⟨T1, X1, e1, st1⟩ := getF X0 hx hZ hown (host := "") (Or.inl (hw _ (List.mem_of_getElem? (i := 70) rfl))) Via.refl e0 F1 (g := (mkF m 1 #[.val (.ref c)] [(.ref c)])) rfl rfl (hb hby own_d8_1)
  refine Out.via (g' := (mkF m 4 #[.val (.ref c)] [(.ref w)])) st1 ?_
  exact Out.endN X1 (fun h => by rw [Bd.returns] at h; cases h) Bd.notSynchronized (by decide) (by decide) (by rw [e1]; exact ⟨rfl, N0, rfl⟩) (fun fs hr => own_retR X1 hx (t := (.object "java/lang/String")) Bd.returns rfl rfl rfl (hb hby own_d8_4) hr)
theorem own_d9_0 : decode jdk_101_method_3_code 0 = .ok (.aload_n 0, 1) := by decide +kernel
theorem own_d9_1 : decode jdk_101_method_3_code 1 = .ok (.getfield 24, 3) := by decide +kernel
theorem own_d9_4 : decode jdk_101_method_3_code 4 = .ok (.getstatic 19, 3) := by decide +kernel
theorem own_d9_7 : decode jdk_101_method_3_code 7 = .ok (.if_acmp .ne 7, 3) := by decide +kernel
theorem own_d9_10 : decode jdk_101_method_3_code 10 = .ok (.iconst 1, 1) := by decide +kernel
theorem own_d9_11 : decode jdk_101_method_3_code 11 = .ok (.goto 4, 3) := by decide +kernel
theorem own_d9_15 : decode jdk_101_method_3_code 15 = .ok (.ireturn, 1) := by decide +kernel
theorem own_efSZ (m : MethodId) (x0 : Addr) : entryFrame m #[(.ref x0)] 1 = mkF m 0 #[.val (.ref x0)] [] := by first | (simp [entryFrame, mkF, argsToLocals, Value.category]; done) | rfl
abbrev own_QSZ (Z : State) (a em : Addr) (h0 : Heap) (n0 : Nat) : Option Value → Heap → List Loc → Prop := fun v h L => v = some (.int (1 : Int32)) ∧ Fr n0 L ∧ h = h0
set_option maxRecDepth 65536 in
set_option maxHeartbeats 40000000 in
theorem own_rmSZ (l : Launch) (Z : State) (a0 : Array Value) (hw : ∀ d ∈ tables_1, d.before a0 Z = true) (ws : List Jvm.Cond) (a em : Addr) (h0 : Heap) (n0 : Nat) (O : Old Z n0 h0) (F1 : Fld Z h0 a "java/util/ImmutableCollections$Set12" "e1" "Ljava/lang/Object;" (.ref em)) (OE : Sta Z Z.heap "java/util/ImmutableCollections" "EMPTY" "Ljava/lang/Object;" (.ref em)) :
    MetFree l (⟨"java/util/ImmutableCollections$Set12", "size", "()I"⟩ : MethodName) (head1 (Jvm.Cond.code (⟨"java/util/ImmutableCollections$Set12", "size", "()I"⟩ : MethodName) jdk_101_method_3_code 1 (some .int) :: ws) ({ frames := 0, cells := 0, slots := 0, locals := 0 } : Room)) (fun aa U => aa = #[(.ref a)] ∧ Z.Warmed39 U.vm ∧ U.heap = h0) (fun _ _ _ _ _ => True) (fun _ U o U' => ∃ v L, o = .returned v ∧ (own_QSZ Z a em h0 n0) v U'.heap L ∧ FrameEnd U o U' L ({ frames := 0, cells := 0, slots := 0, locals := 0 } : Room).cells ({ frames := 0, cells := 0, slots := 0, locals := 0 } : Room).slots) := by
  refine MetFree.of_bodySF (plainFor_of_name own_pn5) hisR ?_
  intro p e s m args below meth c s₁ Bd hml0 hP hK
  obtain ⟨rfl, hZ, hh⟩ := hP
  have hx := Bd.exec
  have hby := Bd.bytes
  have hml : c.maxLocals = 1 := hml0
  have hown : s.vm.findClass "java/util/ImmutableCollections$Set12" = some m.cls := findClass_of_methodNamed Bd.named
  have hnm := (name_of_methodNamed Bd.named Bd.method).1
  have X0 : Stand p l e ({ frames := 0, cells := 0, slots := 0, locals := 0 } : Room) s m #[(.ref a)] below meth c s₁ [] 0 0 := Stand.of_body Bd
  have e0 : s₁.heap = h0 := by rw [← hh, Bd.state]; rfl
  have N0 := Fr.nil n0
  refine Out.start (Q := own_QSZ Z a em h0 n0) (own_efSZ m a ) ?_
  refine Out.via (g' := (mkF m 1 #[.val (.ref a)] [(.ref a)])) (fun _ k => XS.aloadN X0.here hx rfl (hb hby own_d9_0) rfl rfl k) ?_
  obtain ⟨T1, X1, e1, st1⟩ := getF X0 hx hZ hown (host := "") (Or.inl (hw _ (List.mem_of_getElem? (i := 109) rfl))) Via.refl e0 F1 (g := (mkF m 1 #[.val (.ref a)] [(.ref a)])) rfl rfl (hb hby own_d9_1)
  refine Out.via (g' := (mkF m 4 #[.val (.ref a)] [(.ref em)])) st1 ?_
  obtain ⟨T2, X2, e2, st2⟩ := getS2 X1 hx hZ hown (Or.inr (hw _ (List.mem_of_getElem? (i := 107) rfl))) Via.refl e1 (OE.ext O.2) (g := (mkF m 4 #[.val (.ref a)] [(.ref em)])) rfl (hb hby own_d9_4)
  refine Out.via (g' := (mkF m 7 #[.val (.ref a)] [(.ref em), (.ref em)])) st2 ?_
  refine Out.via (g' := (mkF m 10 #[.val (.ref a)] [])) (fun _ k => Jvm.RoadKit.acmp (g := (mkF m 7 #[.val (.ref a)] [(.ref em), (.ref em)])) X2 hx rfl rfl rfl (pc0 := 7) (pc' := 10) (same := true) rfl (hb hby own_d9_7) rfl (decide_eq_true rfl) (by decide) (by decide) k) ?_
  refine Out.via (g' := (mkF m 11 #[.val (.ref a)] [(.int (1 : Int32))])) (fun _ k => XS.iconst X2.here hx rfl (hb hby own_d9_10) k) ?_
  refine Out.via (g' := (mkF m 15 #[.val (.ref a)] [(.int (1 : Int32))])) (fun _ k => XS.goto X2.here hx rfl (pc0 := 11) (pc' := 15) rfl (hb hby own_d9_11) (by decide) (by decide) k) ?_
  exact Out.endN X2 (fun h => by rw [Bd.returns] at h; cases h) Bd.notSynchronized (by decide) (by decide) (by rw [e2]; exact ⟨rfl, N0, rfl⟩) (fun fs hr => own_retI X2 hx Bd.returns (hb hby own_d9_15) hr)
/-- Object.equals of two references that differ, walked in place: the sheet bears no word that Object is initialised, so no contract of it applies ('Back' made by hand) -/
theorem own_objEq {l : Launch} {R : Room} {p : Program} {e : Env} {below : List Frame} {Z s : State} {sargs a0 : Array Value} {W n0 : Nat} {a b : Addr} {h : Heap} (hx : p.tables.exec = Jvm.exec) (hZ : Z.Warmed39 s.vm)
    (wc : (Jvm.Cond.code (⟨"java/lang/Object", "equals", "(Ljava/lang/Object;)Z"⟩ : MethodName) object_method_4_code 2 (some .boolean)).before a0 Z = true) (hne : ¬ a = b) (hf : 1 ≤ R.frames) (hl : W + 13 ≤ R.locals) :
    Back l R p e below s sargs (⟨"java/lang/Object", "equals", "(Ljava/lang/Object;)Z"⟩ : MethodName) 3 W (fun A x => x = #[.ref a, .ref b] ∧ A.U.heap = h ∧ A.cells + 0 ≤ R.cells ∧ A.slots + 0 ≤ R.slots)
      (fun A _ v B => ∃ L, (v = some (.int (0 : Int32)) ∧ Fr n0 L ∧ B.U.heap = h) ∧ B.locs = A.locs ++ L ∧ B.cells = A.cells + 0 ∧ B.slots = A.slots + 0) := by
  intro m meth c A g ig mk x Y hg hsize hd hW hn hp
  obtain ⟨rfl, hh, -, -⟩ := hp
  subst hg
  have hU : Z.Warmed39 A.U.vm := wtrans hZ Y.warmed
  have wc' : (Jvm.Cond.code (⟨"java/lang/Object", "equals", "(Ljava/lang/Object;)Z"⟩ : MethodName) object_method_4_code 2 (some .boolean)).before a0 A.U = true := mv hU wc
  obtain ⟨mM, cM, hm, hc, hby, hlo, hret, hlk, -, -⟩ := Cond.code_spec hn wc'
  have hpl : A.U.plainMethod mk := State.plainMethod.of_named (by decide +kernel) hn hm
  have hroom := Y.notFull (g := g) (vars := cM.maxLocals) hsize hf (by rw [hlo]; omega)
  refine ⟨some (.int (0 : Int32)), A, Y, ⟨[], ⟨rfl, Fr.nil n0, hh⟩, by simp, rfl, rfl⟩, ?_⟩
  rw [doInvoke_enter Y.here.top [] hm hc hlk hroom]
  have hA := Y.here.enter (g := g) #[.ref a, .ref b] hm hc hpl
  have hfr := frames_entered (g := g) Y.here.top (.java (entryFrame mk #[.ref a, .ref b] cM.maxLocals))
  have hback := setFrames_entered (g := g) Y.here.top (.java (entryFrame mk #[.ref a, .ref b] cM.maxLocals))
  have hvm : ((A.U.setTop g).pushFrame (.java (entryFrame mk #[.ref a, .ref b] cM.maxLocals))).vm = A.U.vm := rfl
  have hcg : ((A.U.setTop g).pushFrame (.java (entryFrame mk #[.ref a, .ref b] cM.maxLocals))).code? g.method = some c := by
    have := Y.here.code
    rw [State.code?_eq] at this ⊢
    simpa [State.pushFrame, State.setFrames] using this
  generalize (A.U.setTop g).pushFrame (.java (entryFrame mk #[.ref a, .ref b] cM.maxLocals)) = u at hA hfr hback hvm hcg ⊢
  have hm' : u.vm.method? mk = some mM := by rw [hvm]; exact hm
  have hloc : argsToLocals #[.ref a, .ref b] 2 = #[.val (.ref a), .val (.ref b)] := rfl
  have d0 : decode cM.code 0 = .ok (.aload_n 0, 1) := by rw [hby]; decide +kernel
  have d1 : decode cM.code 1 = .ok (.aload_n 1, 1) := by rw [hby]; decide +kernel
  have d2 : decode cM.code 2 = .ok (.if_acmp .ne 7, 3) := by rw [hby]; decide +kernel
  have d9 : decode cM.code 9 = .ok (.iconst 0, 1) := by rw [hby]; decide +kernel
  have d10 : decode cM.code 10 = .ok (.ireturn, 1) := by rw [hby]; decide +kernel
  have hb2 : if_acmp.holds .ne (some a) (some b) = true := by simp [if_acmp.holds, hne]
  have hn0 : narrow .boolean (.int (0 : Int32)) = .int (0 : Int32) := by decide
  unfold entryFrame
  rw [hlo, hloc]
  refine XS.aloadN (g := mkF mk 0 #[.val (.ref a), .val (.ref b)] []) hA hx rfl d0 rfl rfl ?_
  refine XS.aloadN (g := mkF mk 1 #[.val (.ref a), .val (.ref b)] [.ref a]) hA hx rfl d1 rfl rfl ?_
  show Steps p.tables e below (u.setTop { method := mk, pc := 2, locals := #[.val (.ref a), .val (.ref b)], stack := [.ref b, .ref a], locked := none }) _
  jvm_step hA [hA.top, hx, d2, if_acmp.sem, hb2]
  refine XS.iconst (g := mkF mk 9 #[.val (.ref a), .val (.ref b)] []) hA hx rfl d9 ?_
  show Steps p.tables e below (u.setTop { method := mk, pc := 10, locals := #[.val (.ref a), .val (.ref b)], stack := [.int (0 : Int32)], locked := none }) _
  jvm_step hA [hA.top, hx, d10, hm', hret, hn0]
  intro acts'
  rw [doReturn_leave (g := g) (meth := mM) (cg := c) (ig := ig) (len := 3) acts' hfr hm' hlk rfl rfl hcg hd, hback, State.setTop_setTop]
  exact Steps.refl _
theorem own_d10_0 : decode jdk_101_method_5_code 0 = .ok (.aload_n 1, 1) := by decide +kernel
theorem own_d10_1 : decode jdk_101_method_5_code 1 = .ok (.aload_n 0, 1) := by decide +kernel
theorem own_d10_2 : decode jdk_101_method_5_code 2 = .ok (.getfield 13, 3) := by decide +kernel
theorem own_d10_5 : decode jdk_101_method_5_code 5 = .ok (.invokevirtual 27, 3) := by decide +kernel
theorem own_pd10 : parseMethodDescriptor "(Ljava/lang/Object;)Z" = some ⟨[(.object "java/lang/Object")], some .boolean⟩ := by decide +kernel
theorem own_d10_8 : decode jdk_101_method_5_code 8 = .ok (.ifCond .ne 14, 3) := by decide +kernel
theorem own_d10_22 : decode jdk_101_method_5_code 22 = .ok (.iconst 1, 1) := by decide +kernel
theorem own_d10_23 : decode jdk_101_method_5_code 23 = .ok (.goto 4, 3) := by decide +kernel
theorem own_d10_27 : decode jdk_101_method_5_code 27 = .ok (.ireturn, 1) := by decide +kernel
theorem own_d10_11 : decode jdk_101_method_5_code 11 = .ok (.aload_n 0, 1) := by decide +kernel
theorem own_d10_12 : decode jdk_101_method_5_code 12 = .ok (.getfield 24, 3) := by decide +kernel
theorem own_d10_15 : decode jdk_101_method_5_code 15 = .ok (.aload_n 1, 1) := by decide +kernel
theorem own_d10_16 : decode jdk_101_method_5_code 16 = .ok (.invokevirtual 27, 3) := by decide +kernel
theorem own_d10_19 : decode jdk_101_method_5_code 19 = .ok (.ifCond .eq 7, 3) := by decide +kernel
theorem own_d10_26 : decode jdk_101_method_5_code 26 = .ok (.iconst 0, 1) := by decide +kernel
theorem own_efCT (m : MethodId) (x0 : Addr) (x1 : Addr) : entryFrame m #[(.ref x0), (.ref x1)] 2 = mkF m 0 #[.val (.ref x0), .val (.ref x1)] [] := by first | (simp [entryFrame, mkF, argsToLocals, Value.category]; done) | rfl
abbrev own_QCT (Z : State) (a x w em : Addr) (cs ds : List Int32) (G1 : Int32) (h0 : Heap) (n0 : Nat) : Option Value → Heap → List Loc → Prop := fun v h L => ((v = some (.int (1 : Int32)) ∧ cs = ds) ∨ (v = some (.int (0 : Int32)) ∧ ¬ cs = ds)) ∧ Fr n0 L ∧ h = h0
set_option maxRecDepth 65536 in
set_option maxHeartbeats 40000000 in
theorem own_rmCT (l : Launch) (Z : State) (a0 : Array Value) (hw : ∀ d ∈ tables_1, d.before a0 Z = true) (ws : List Jvm.Cond) (a x w em : Addr) (cs ds : List Int32) (G1 : Int32) (h0 : Heap) (n0 : Nat) (O : Old Z n0 h0) (F0 : Fld Z h0 a "java/util/ImmutableCollections$Set12" "e0" "Ljava/lang/Object;" (.ref w)) (F1 : Fld Z h0 a "java/util/ImmutableCollections$Set12" "e1" "Ljava/lang/Object;" (.ref em)) (Sx : own_Str Z h0 x cs) (lx : cs.length ≤ 4000) (Sw : own_Str Z h0 w ds) (lw : ds.length ≤ 4000) (Ee : Exa Z h0 em "java/lang/Object") (O2 : Sta Z Z.heap "java/lang/String" "COMPACT_STRINGS" "Z" (.int G1)) (P5 : ¬ (G1 = (0 : Int32))) :
    MetFree l (⟨"java/util/ImmutableCollections$Set12", "contains", "(Ljava/lang/Object;)Z"⟩ : MethodName) (head1 (Jvm.Cond.code (⟨"java/util/ImmutableCollections$Set12", "contains", "(Ljava/lang/Object;)Z"⟩ : MethodName) jdk_101_method_5_code 2 (some .boolean) :: ws) ({ frames := 2, cells := 0, slots := 0, locals := 28 } : Room)) (fun aa U => aa = #[(.ref a), (.ref x)] ∧ Z.Warmed39 U.vm ∧ U.heap = h0) (fun _ _ _ _ _ => True) (fun _ U o U' => ∃ v L, o = .returned v ∧ (own_QCT Z a x w em cs ds G1 h0 n0) v U'.heap L ∧ FrameEnd U o U' L ({ frames := 2, cells := 0, slots := 0, locals := 28 } : Room).cells ({ frames := 2, cells := 0, slots := 0, locals := 28 } : Room).slots) := by
  refine MetFree.of_bodySF (plainFor_of_name own_pn5) hisR ?_
  intro p e s m args below meth c s₁ Bd hml0 hP hK
  obtain ⟨rfl, hZ, hh⟩ := hP
  have hx := Bd.exec
  have hby := Bd.bytes
  have hml : c.maxLocals = 2 := hml0
  have hown : s.vm.findClass "java/util/ImmutableCollections$Set12" = some m.cls := findClass_of_methodNamed Bd.named
  have hnm := (name_of_methodNamed Bd.named Bd.method).1
  have X0 : Stand p l e ({ frames := 2, cells := 0, slots := 0, locals := 28 } : Room) s m #[(.ref a), (.ref x)] below meth c s₁ [] 0 0 := Stand.of_body Bd
  have e0 : s₁.heap = h0 := by rw [← hh, Bd.state]; rfl
  have N0 := Fr.nil n0
  refine Out.start (Q := own_QCT Z a x w em cs ds G1 h0 n0) (own_efCT m a x ) ?_
  refine Out.via (g' := (mkF m 1 #[.val (.ref a), .val (.ref x)] [(.ref x)])) (fun _ k => XS.aloadN X0.here hx rfl (hb hby own_d10_0) rfl rfl k) ?_
  refine Out.via (g' := (mkF m 2 #[.val (.ref a), .val (.ref x)] [(.ref a), (.ref x)])) (fun _ k => XS.aloadN X0.here hx rfl (hb hby own_d10_1) rfl rfl k) ?_
  obtain ⟨T1, X1, e1, st1⟩ := getF X0 hx hZ hown (host := "") (Or.inl (hw _ (List.mem_of_getElem? (i := 105) rfl))) Via.refl e0 F0 (g := (mkF m 2 #[.val (.ref a), .val (.ref x)] [(.ref a), (.ref x)])) rfl rfl (hb hby own_d10_2)
  refine Out.via (g' := (mkF m 5 #[.val (.ref a), .val (.ref x)] [(.ref w), (.ref x)])) st1 ?_
  obtain ⟨cq2, kq2, q2a, q2b, q2c⟩ := isOf hZ e1 Sx.2.1
  obtain ⟨_, _, ⟨T2, L2, kc2, ks2⟩, -, X2, ⟨Lc2, hQ2, l2, y2, z2⟩, st2⟩ := X1.virtualBack hx (y := (⟨"java/lang/Object", "equals", "(Ljava/lang/Object;)Z"⟩ : MethodName)) (z := (⟨"java/lang/String", "equals", "(Ljava/lang/Object;)Z"⟩ : MethodName)) hown (mvT hZ (hw _ (List.mem_of_getElem? (i := 134) rfl))) (mvT hZ (hw _ (List.mem_of_getElem? (i := 135) rfl))) (notFace_of_selects (args := #[]) (mvT hZ (hw _ (List.mem_of_getElem? (i := 153) rfl)))) (mvT hZ (hw _ (List.mem_of_getElem? (i := 137) rfl))) (mvT hZ (hw _ (List.mem_of_getElem? (i := 138) rfl))) (by decide) (own_eqB (W := 0) hZ hw (kI := 4) (hw _ (List.mem_of_getElem? (i := 24) rfl)) Sx lx Sw lw (O2.ext O.2) P5 (by decide) (by decide)) q2a q2c (g := (mkF m 5 #[.val (.ref a), .val (.ref x)] [(.ref w), (.ref x)])) rfl (by rw [hml]; rfl) (Steps.refl _) (argsL := [(.ref w)]) (rest := []) (lenOf own_pd10 rfl) rfl (by show 2 * 0 + _ ≤ _; exact Nat.le_of_eq rfl) (hb hby own_d10_5) (fun _ _ => ⟨rfl, e1, (by decide : 0 + 0 ≤ _), (by decide : 0 + 0 ≤ _)⟩)
  dsimp only [Pt.U, Pt.locs, Pt.cells, Pt.slots] at X2 l2 y2 z2 st2 hQ2
  subst l2 y2 z2
  obtain ⟨hc, rfl, eq2⟩ := hQ2
  replace N0 := Fr.app N0 (Fr.nil n0)
  rcases hc with ⟨rfl, hc⟩ | ⟨rfl, hc⟩
  · refine Out.to (g' := (mkF m 8 #[.val (.ref a), .val (.ref x)] [(.int (1 : Int32))])) st2 ?_
    refine Out.via (g' := (mkF m 22 #[.val (.ref a), .val (.ref x)] [])) (fun _ k => XS.ifYes X2.here hx rfl (pc0 := 8) (pc' := 22) rfl (hb hby own_d10_8) rfl ((if0 _ _).trans (feq (by decide)).2) (by decide) (by decide) k) ?_
    refine Out.via (g' := (mkF m 23 #[.val (.ref a), .val (.ref x)] [(.int (1 : Int32))])) (fun _ k => XS.iconst X2.here hx rfl (hb hby own_d10_22) k) ?_
    refine Out.via (g' := (mkF m 27 #[.val (.ref a), .val (.ref x)] [(.int (1 : Int32))])) (fun _ k => XS.goto X2.here hx rfl (pc0 := 23) (pc' := 27) rfl (hb hby own_d10_23) (by decide) (by decide) k) ?_
    exact Out.endN X2 (fun h => by rw [Bd.returns] at h; cases h) Bd.notSynchronized (by decide) (by decide) (by rw [eq2]; exact ⟨Or.inl ⟨rfl, hc⟩, N0, rfl⟩) (fun fs hr => Jvm.RoadKit.retN X2 hx (t := .boolean) Bd.returns (by simp) (hb hby own_d10_27) hr)
  · refine Out.to (g' := (mkF m 8 #[.val (.ref a), .val (.ref x)] [(.int (0 : Int32))])) st2 ?_
    refine Out.via (g' := (mkF m 11 #[.val (.ref a), .val (.ref x)] [])) (fun _ k => XS.ifNo X2.here hx rfl (hb hby own_d10_8) rfl ((if0 _ _).trans (teq rfl).2) k) ?_
    refine Out.via (g' := (mkF m 12 #[.val (.ref a), .val (.ref x)] [(.ref a)])) (fun _ k => XS.aloadN X2.here hx rfl (hb hby own_d10_11) rfl rfl k) ?_
    obtain ⟨T3, X3, e3, st3⟩ := getF X2 hx hZ hown (host := "") (Or.inl (hw _ (List.mem_of_getElem? (i := 109) rfl))) Via.refl eq2 F1 (g := (mkF m 12 #[.val (.ref a), .val (.ref x)] [(.ref a)])) rfl rfl (hb hby own_d10_12)
    refine Out.via (g' := (mkF m 15 #[.val (.ref a), .val (.ref x)] [(.ref em)])) st3 ?_
    refine Out.via (g' := (mkF m 16 #[.val (.ref a), .val (.ref x)] [(.ref x), (.ref em)])) (fun _ k => XS.aloadN X3.here hx rfl (hb hby own_d10_15) rfl rfl k) ?_
    have hnx : ¬ em = x := Exa.ne Ee Sx.2.1 (by decide)
    obtain ⟨cq4, kq4, q4a, q4b, q4c⟩ := isOf hZ e3 Ee
    obtain ⟨_, _, ⟨T4, L4, kc4, ks4⟩, -, X4, ⟨Lc4, hQ4, l4, y4, z4⟩, st4⟩ := X3.virtualBack hx (y := (⟨"java/lang/Object", "equals", "(Ljava/lang/Object;)Z"⟩ : MethodName)) (z := (⟨"java/lang/Object", "equals", "(Ljava/lang/Object;)Z"⟩ : MethodName)) hown (mvT hZ (hw _ (List.mem_of_getElem? (i := 134) rfl))) (mvT hZ (hw _ (List.mem_of_getElem? (i := 135) rfl))) (notFace_of_selects (args := #[]) (mvT hZ (hw _ (List.mem_of_getElem? (i := 153) rfl)))) (mvT hZ (hw _ (List.mem_of_getElem? (i := 153) rfl))) (mvT hZ (hw _ (List.mem_of_getElem? (i := 136) rfl))) (by decide) (own_objEq (W := 0) (n0 := n0) hx hZ (hw _ (List.mem_of_getElem? (i := 154) rfl)) hnx (by decide) (by decide)) q4a q4c (g := (mkF m 16 #[.val (.ref a), .val (.ref x)] [(.ref x), (.ref em)])) rfl (by rw [hml]; rfl) (Steps.refl _) (argsL := [(.ref x)]) (rest := []) (lenOf own_pd10 rfl) rfl (by show 2 * 0 + _ ≤ _; exact Nat.le_of_eq rfl) (hb hby own_d10_16) (fun _ _ => ⟨rfl, e3, (by decide : 0 + 0 ≤ _), (by decide : 0 + 0 ≤ _)⟩)
    dsimp only [Pt.U, Pt.locs, Pt.cells, Pt.slots] at X4 l4 y4 z4 st4 hQ4
    subst l4 y4 z4
    obtain ⟨rfl, Nq4, eq4⟩ := hQ4
    replace N0 := Fr.app N0 Nq4
    refine Out.to (g' := (mkF m 19 #[.val (.ref a), .val (.ref x)] [(.int (0 : Int32))])) st4 ?_
    refine Out.via (g' := (mkF m 26 #[.val (.ref a), .val (.ref x)] [])) (fun _ k => XS.ifYes X4.here hx rfl (pc0 := 19) (pc' := 26) rfl (hb hby own_d10_19) rfl ((if0 _ _).trans (teq rfl).1) (by decide) (by decide) k) ?_
    refine Out.via (g' := (mkF m 27 #[.val (.ref a), .val (.ref x)] [(.int (0 : Int32))])) (fun _ k => XS.iconst X4.here hx rfl (hb hby own_d10_26) k) ?_
    exact Out.endN X4 (fun h => by rw [Bd.returns] at h; cases h) Bd.notSynchronized (by decide) (by decide) (by rw [eq4]; exact ⟨Or.inr ⟨rfl, hc⟩, N0, rfl⟩) (fun fs hr => Jvm.RoadKit.retN X4 hx (t := .boolean) Bd.returns (by simp) (hb hby own_d10_27) hr)
theorem own_pn11 : plainName "com/example/lamassu/lamassu/model/ListedTargetsGrant" = true := by first | (simp [plainName, overriddenIn]; done) | decide +kernel
theorem own_d11_0 : decode prog_27_method_5_code 0 = .ok (.aload_n 0, 1) := by decide +kernel
theorem own_d11_1 : decode prog_27_method_5_code 1 = .ok (.getfield 28, 3) := by decide +kernel
theorem own_d11_4 : decode prog_27_method_5_code 4 = .ok (.ifnonnull 16, 3) := by decide +kernel
theorem own_d11_7 : decode prog_27_method_5_code 7 = .ok (.aload_n 0, 1) := by decide +kernel
theorem own_d11_8 : decode prog_27_method_5_code 8 = .ok (.getfield 17, 3) := by decide +kernel
theorem own_d11_11 : decode prog_27_method_5_code 11 = .ok (.invokevirtual 75, 3) := by decide +kernel
theorem own_pd12 : parseMethodDescriptor "()Ljava/lang/String;" = some ⟨[], some (.object "java/lang/String")⟩ := by decide +kernel
theorem own_d11_14 : decode prog_27_method_5_code 14 = .ok (.invokestatic 78, 3) := by decide +kernel
theorem own_pd13 : parseMethodDescriptor "(Ljava/lang/Object;)Ljava/util/Set;" = some ⟨[(.object "java/lang/Object")], some (.object "java/util/Set")⟩ := by decide +kernel
theorem own_d11_17 : decode prog_27_method_5_code 17 = .ok (.goto 7, 3) := by decide +kernel
theorem own_d11_24 : decode prog_27_method_5_code 24 = .ok (.areturn, 1) := by decide +kernel
theorem own_efRK (m : MethodId) (x0 : Addr) : entryFrame m #[(.ref x0)] 1 = mkF m 0 #[.val (.ref x0)] [] := by first | (simp [entryFrame, mkF, argsToLocals, Value.category]; done) | rfl
abbrev own_QRK (Z : State) (a ch w em : Addr) (h0 : Heap) (n0 : Nat) : Option Value → Heap → List Loc → Prop := fun v h L => ∃ b : Addr, v = some (.ref b) ∧ Fr n0 L ∧ Keep h0 h [] ∧ h0.size ≤ b ∧ Exa Z h b "java/util/ImmutableCollections$Set12" ∧ Fld Z h b "java/util/ImmutableCollections$Set12" "e0" "Ljava/lang/Object;" (.ref w) ∧ Fld Z h b "java/util/ImmutableCollections$Set12" "e1" "Ljava/lang/Object;" (.ref em)
set_option maxRecDepth 65536 in
set_option maxHeartbeats 40000000 in
theorem own_rmRK (l : Launch) (Z : State) (a0 : Array Value) (hw : ∀ d ∈ tables_1, d.before a0 Z = true) (ws : List Jvm.Cond) (a ch w em : Addr) (h0 : Heap) (n0 : Nat) (O : Old Z n0 h0) (F1 : Fld Z h0 a "com/example/lamassu/lamassu/model/ListedTargetsGrant" "targets" "Ljava/util/Set;" .null) (F2 : Fld Z h0 a "com/example/lamassu/lamassu/model/ListedTargetsGrant" "channel" "Lcom/example/lamassu/lamassu/model/Channel;" (.ref ch)) (E3 : Exa Z h0 ch "com/example/lamassu/lamassu/model/Channel") (F3 : Fld Z h0 ch "com/example/lamassu/lamassu/model/Channel" "keyword" "Ljava/lang/String;" (.ref w)) (OE : Sta Z Z.heap "java/util/ImmutableCollections" "EMPTY" "Ljava/lang/Object;" (.ref em)) :
    MetFree l (⟨"com/example/lamassu/lamassu/model/ListedTargetsGrant", "requestKeys", "()Ljava/util/Set;"⟩ : MethodName) (head1 (Jvm.Cond.code (⟨"com/example/lamassu/lamassu/model/ListedTargetsGrant", "requestKeys", "()Ljava/util/Set;"⟩ : MethodName) prog_27_method_5_code 1 (some (.object "java/util/Set")) :: ws) ({ frames := 6, cells := 1, slots := 2, locals := 74 } : Room)) (fun aa U => aa = #[(.ref a)] ∧ Z.Warmed39 U.vm ∧ U.heap = h0) (fun _ _ _ _ _ => True) (fun _ U o U' => ∃ v L, o = .returned v ∧ (own_QRK Z a ch w em h0 n0) v U'.heap L ∧ FrameEnd U o U' L ({ frames := 6, cells := 1, slots := 2, locals := 74 } : Room).cells ({ frames := 6, cells := 1, slots := 2, locals := 74 } : Room).slots) := by
  refine MetFree.of_bodySF (plainFor_of_name own_pn11) hisR ?_
  intro p e s m args below meth c s₁ Bd hml0 hP hK
  obtain ⟨rfl, hZ, hh⟩ := hP
  have hx := Bd.exec
  have hby := Bd.bytes
  have hml : c.maxLocals = 1 := hml0
  have hown : s.vm.findClass "com/example/lamassu/lamassu/model/ListedTargetsGrant" = some m.cls := findClass_of_methodNamed Bd.named
  have hnm := (name_of_methodNamed Bd.named Bd.method).1
  have X0 : Stand p l e ({ frames := 6, cells := 1, slots := 2, locals := 74 } : Room) s m #[(.ref a)] below meth c s₁ [] 0 0 := Stand.of_body Bd
  have e0 : s₁.heap = h0 := by rw [← hh, Bd.state]; rfl
  have N0 := Fr.nil n0
  refine Out.start (Q := own_QRK Z a ch w em h0 n0) (own_efRK m a ) ?_
  refine Out.via (g' := (mkF m 1 #[.val (.ref a)] [(.ref a)])) (fun _ k => XS.aloadN X0.here hx rfl (hb hby own_d11_0) rfl rfl k) ?_
  obtain ⟨T1, X1, e1, st1⟩ := getF X0 hx hZ hown (host := "") (Or.inl (hw _ (List.mem_of_getElem? (i := 53) rfl))) Via.refl e0 F1 (g := (mkF m 1 #[.val (.ref a)] [(.ref a)])) rfl rfl (hb hby own_d11_1)
  refine Out.via (g' := (mkF m 4 #[.val (.ref a)] [.null])) st1 ?_
  refine Out.via (g' := (mkF m 7 #[.val (.ref a)] [])) (fun _ k => XS.ifnonnullNo X1.here hx rfl (hb hby own_d11_4) rfl k) ?_
  refine Out.via (g' := (mkF m 8 #[.val (.ref a)] [(.ref a)])) (fun _ k => XS.aloadN X1.here hx rfl (hb hby own_d11_7) rfl rfl k) ?_
  obtain ⟨T2, X2, e2, st2⟩ := getF X1 hx hZ hown (host := "") (Or.inl (hw _ (List.mem_of_getElem? (i := 51) rfl))) Via.refl e1 F2 (g := (mkF m 8 #[.val (.ref a)] [(.ref a)])) rfl rfl (hb hby own_d11_8)
  refine Out.via (g' := (mkF m 11 #[.val (.ref a)] [(.ref ch)])) st2 ?_
  obtain ⟨cq3, kq3, q3a, q3b, q3c⟩ := isOf hZ e2 E3
  obtain ⟨_, _, ⟨T3, L3, kc3, ks3⟩, -, X3, ⟨Lc3, hQ3, l3, y3, z3⟩, st3⟩ := X2.virtualBack hx (y := (⟨"com/example/lamassu/lamassu/model/Channel", "keyword", "()Ljava/lang/String;"⟩ : MethodName)) (z := (⟨"com/example/lamassu/lamassu/model/Channel", "keyword", "()Ljava/lang/String;"⟩ : MethodName)) hown (mvT hZ (hw _ (List.mem_of_getElem? (i := 65) rfl))) (mvT hZ (hw _ (List.mem_of_getElem? (i := 66) rfl))) (notFace_of_selects (args := #[]) (mvT hZ (hw _ (List.mem_of_getElem? (i := 68) rfl)))) (mvT hZ (hw _ (List.mem_of_getElem? (i := 68) rfl))) (mvT hZ (hw _ (List.mem_of_getElem? (i := 67) rfl))) (by decide) (backOf (W := 0) (own_rmK l Z a0 hw [] ch w h0 n0 O F3) hZ (hw _ (List.mem_of_getElem? (i := 69) rfl)) (hw _ (List.mem_of_getElem? (i := 6) rfl)) (by decide) (by decide)) q3a q3c (g := (mkF m 11 #[.val (.ref a)] [(.ref ch)])) rfl (by rw [hml]; rfl) (Steps.refl _) (argsL := []) (rest := []) (lenOf own_pd12 rfl) rfl (by show 2 * 0 + _ ≤ _; exact Nat.le_of_eq rfl) (hb hby own_d11_11) (fun _ _ => ⟨rfl, e2, (by decide : 0 + 0 ≤ _), (by decide : 0 + 0 ≤ _)⟩)
  dsimp only [Pt.U, Pt.locs, Pt.cells, Pt.slots] at X3 l3 y3 z3 st3 hQ3
  subst l3 y3 z3
  obtain ⟨rfl, Nq3, eq3⟩ := hQ3
  replace N0 := Fr.app N0 Nq3
  refine Out.to (g' := (mkF m 14 #[.val (.ref a)] [(.ref w)])) st3 ?_
  obtain ⟨_, _, ⟨T4, L4, kc4, ks4⟩, -, X4, ⟨Lc4, hQ4, l4, y4, z4⟩, st4⟩ := Jvm.LawKit.callS X3 hx (y := (⟨"java/util/Set", "of", "(Ljava/lang/Object;)Ljava/util/Set;"⟩ : MethodName)) hown (mvT hZ (hw _ (List.mem_of_getElem? (i := 72) rfl))) (mvT hZ (hw _ (List.mem_of_getElem? (i := 73) rfl))) (mvT hZ (hw _ (List.mem_of_getElem? (i := 74) rfl))) (mvT hZ (hw _ (List.mem_of_getElem? (i := 75) rfl))) (by decide) (backOf (W := 0) (own_rmOF l Z a0 hw [] w em h0 n0 O OE) hZ (hw _ (List.mem_of_getElem? (i := 75) rfl)) (hw _ (List.mem_of_getElem? (i := 74) rfl)) (by decide) (by decide)) (g := (mkF m 14 #[.val (.ref a)] [(.ref w)])) rfl (by rw [hml]; rfl) (argsL := [(.ref w)]) (rest := []) (lenOf own_pd13 rfl) rfl (by show 2 * 0 + _ ≤ _; exact Nat.le_of_eq rfl) (hb hby own_d11_14) (fun _ _ => ⟨rfl, eq3, (by decide : 0 + 1 ≤ _), (by decide : 0 + 2 ≤ _)⟩)
  dsimp only [Pt.U, Pt.locs, Pt.cells, Pt.slots] at X4 l4 y4 z4 st4 hQ4
  subst l4 y4 z4
  obtain ⟨b, rfl, Nq, Kq, le_b, Q1⟩ := hQ4
  refine Out.via (g' := (mkF m 17 #[.val (.ref a)] [(.ref b)])) st4 ?_
  refine Out.via (g' := (mkF m 24 #[.val (.ref a)] [(.ref b)])) (fun _ k => XS.goto X4.here hx rfl (pc0 := 17) (pc' := 24) rfl (hb hby own_d11_17) (by decide) (by decide) k) ?_
  exact Out.endN X4 (fun h => by rw [Bd.returns] at h; cases h) Bd.notSynchronized (by decide) (by decide) (⟨b, rfl, Fr.app N0 Nq, Kq, le_b, Q1⟩) (fun fs hr => own_retR X4 hx (t := (.object "java/util/Set")) Bd.returns rfl rfl rfl (hb hby own_d11_24) hr)
theorem own_d11_20 : decode prog_27_method_5_code 20 = .ok (.aload_n 0, 1) := by decide +kernel
theorem own_d11_21 : decode prog_27_method_5_code 21 = .ok (.getfield 28, 3) := by decide +kernel
theorem own_efRL (m : MethodId) (x0 : Addr) : entryFrame m #[(.ref x0)] 1 = mkF m 0 #[.val (.ref x0)] [] := by first | (simp [entryFrame, mkF, argsToLocals, Value.category]; done) | rfl
abbrev own_QRL (Z : State) (a k : Addr) (h0 : Heap) (n0 : Nat) : Option Value → Heap → List Loc → Prop := fun v h L => v = some (.ref k) ∧ Fr n0 L ∧ h = h0
set_option maxRecDepth 65536 in
set_option maxHeartbeats 40000000 in
theorem own_rmRL (l : Launch) (Z : State) (a0 : Array Value) (hw : ∀ d ∈ tables_1, d.before a0 Z = true) (ws : List Jvm.Cond) (a k : Addr) (h0 : Heap) (n0 : Nat) (O : Old Z n0 h0) (F1 : Fld Z h0 a "com/example/lamassu/lamassu/model/ListedTargetsGrant" "targets" "Ljava/util/Set;" (.ref k)) :
    MetFree l (⟨"com/example/lamassu/lamassu/model/ListedTargetsGrant", "requestKeys", "()Ljava/util/Set;"⟩ : MethodName) (head1 (Jvm.Cond.code (⟨"com/example/lamassu/lamassu/model/ListedTargetsGrant", "requestKeys", "()Ljava/util/Set;"⟩ : MethodName) prog_27_method_5_code 1 (some (.object "java/util/Set")) :: ws) ({ frames := 0, cells := 0, slots := 0, locals := 0 } : Room)) (fun aa U => aa = #[(.ref a)] ∧ Z.Warmed39 U.vm ∧ U.heap = h0) (fun _ _ _ _ _ => True) (fun _ U o U' => ∃ v L, o = .returned v ∧ (own_QRL Z a k h0 n0) v U'.heap L ∧ FrameEnd U o U' L ({ frames := 0, cells := 0, slots := 0, locals := 0 } : Room).cells ({ frames := 0, cells := 0, slots := 0, locals := 0 } : Room).slots) := by
  refine MetFree.of_bodySF (plainFor_of_name own_pn11) hisR ?_
  intro p e s m args below meth c s₁ Bd hml0 hP hK
  obtain ⟨rfl, hZ, hh⟩ := hP
  have hx := Bd.exec
  have hby := Bd.bytes
  have hml : c.maxLocals = 1 := hml0
  have hown : s.vm.findClass "com/example/lamassu/lamassu/model/ListedTargetsGrant" = some m.cls := findClass_of_methodNamed Bd.named
  have hnm := (name_of_methodNamed Bd.named Bd.method).1
  have X0 : Stand p l e ({ frames := 0, cells := 0, slots := 0, locals := 0 } : Room) s m #[(.ref a)] below meth c s₁ [] 0 0 := Stand.of_body Bd
  have e0 : s₁.heap = h0 := by rw [← hh, Bd.state]; rfl
  have N0 := Fr.nil n0
  refine Out.start (Q := own_QRL Z a k h0 n0) (own_efRL m a ) ?_
  refine Out.via (g' := (mkF m 1 #[.val (.ref a)] [(.ref a)])) (fun _ k => XS.aloadN X0.here hx rfl (hb hby own_d11_0) rfl rfl k) ?_
  obtain ⟨T1, X1, e1, st1⟩ := getF X0 hx hZ hown (host := "") (Or.inl (hw _ (List.mem_of_getElem? (i := 53) rfl))) Via.refl e0 F1 (g := (mkF m 1 #[.val (.ref a)] [(.ref a)])) rfl rfl (hb hby own_d11_1)
  refine Out.via (g' := (mkF m 4 #[.val (.ref a)] [(.ref k)])) st1 ?_
  refine Out.via (g' := (mkF m 20 #[.val (.ref a)] [])) (fun _ k => XS.ifnonnullYes X1.here hx rfl (pc0 := 4) (pc' := 20) rfl (hb hby own_d11_4) rfl (by decide) (by decide) k) ?_
  refine Out.via (g' := (mkF m 21 #[.val (.ref a)] [(.ref a)])) (fun _ k => XS.aloadN X1.here hx rfl (hb hby own_d11_20) rfl rfl k) ?_
  obtain ⟨T2, X2, e2, st2⟩ := getF X1 hx hZ hown (host := "") (Or.inl (hw _ (List.mem_of_getElem? (i := 53) rfl))) Via.refl e1 F1 (g := (mkF m 21 #[.val (.ref a)] [(.ref a)])) rfl rfl (hb hby own_d11_21)
  refine Out.via (g' := (mkF m 24 #[.val (.ref a)] [(.ref k)])) st2 ?_
  exact Out.endN X2 (fun h => by rw [Bd.returns] at h; cases h) Bd.notSynchronized (by decide) (by decide) (by rw [e2]; exact ⟨rfl, N0, rfl⟩) (fun fs hr => own_retR X2 hx (t := (.object "java/util/Set")) Bd.returns rfl rfl rfl (hb hby own_d11_24) hr)
theorem own_pn14 : plainName "com/example/lamassu/lamassu/model/Conditions" = true := by first | (simp [plainName, overriddenIn]; done) | decide +kernel
theorem own_d12_0 : decode prog_19_method_1_code 0 = .ok (.aload_n 0, 1) := by decide +kernel
theorem own_d12_1 : decode prog_19_method_1_code 1 = .ok (.invokespecial 1, 3) := by decide +kernel
theorem own_d12_4 : decode prog_19_method_1_code 4 = .ok (.aload_n 0, 1) := by decide +kernel
theorem own_d12_5 : decode prog_19_method_1_code 5 = .ok (.aload_n 1, 1) := by decide +kernel
theorem own_d12_6 : decode prog_19_method_1_code 6 = .ok (.ifnonnull 7, 3) := by decide +kernel
theorem own_d12_9 : decode prog_19_method_1_code 9 = .ok (.aconst_null, 1) := by decide +kernel
theorem own_d12_10 : decode prog_19_method_1_code 10 = .ok (.goto 7, 3) := by decide +kernel
theorem own_d12_17 : decode prog_19_method_1_code 17 = .ok (.putfield 13, 3) := by decide +kernel
theorem own_d12_20 : decode prog_19_method_1_code 20 = .ok (.aload_n 0, 1) := by decide +kernel
theorem own_d12_21 : decode prog_19_method_1_code 21 = .ok (.aload_n 2, 1) := by decide +kernel
theorem own_d12_22 : decode prog_19_method_1_code 22 = .ok (.ldc 19, 2) := by decide +kernel
theorem own_d12_24 : decode prog_19_method_1_code 24 = .ok (.invokestatic 21, 3) := by decide +kernel
theorem own_pd15 : parseMethodDescriptor "(Ljava/lang/Object;Ljava/lang/String;)Ljava/lang/Object;" = some ⟨[(.object "java/lang/Object"), (.object "java/lang/String")], some (.object "java/lang/Object")⟩ := by decide +kernel
theorem own_d12_27 : decode prog_19_method_1_code 27 = .ok (.checkcast 27, 3) := by decide +kernel
theorem own_d12_30 : decode prog_19_method_1_code 30 = .ok (.putfield 29, 3) := by decide +kernel
theorem own_d12_33 : decode prog_19_method_1_code 33 = .ok (.aload_n 0, 1) := by decide +kernel
theorem own_d12_34 : decode prog_19_method_1_code 34 = .ok (.aload_n 3, 1) := by decide +kernel
theorem own_d12_35 : decode prog_19_method_1_code 35 = .ok (.putfield 32, 3) := by decide +kernel
theorem own_d12_38 : decode prog_19_method_1_code 38 = .ok (.return_, 1) := by decide +kernel
theorem own_efC (m : MethodId) (x0 : Addr) (x2 : Addr) : entryFrame m #[(.ref x0), .null, (.ref x2), .null] 4 = mkF m 0 #[.val (.ref x0), .val .null, .val (.ref x2), .val .null] [] := by first | (simp [entryFrame, mkF, argsToLocals, Value.category]; done) | rfl
abbrev own_QC (Z : State) (a d : Addr) (h0 : Heap) (n0 : Nat) : Option Value → Heap → List Loc → Prop := fun v h L => v = none ∧ Fr n0 L ∧ Keep h0 h [a] ∧ Exa Z h a "com/example/lamassu/lamassu/model/Conditions"
set_option maxRecDepth 65536 in
set_option maxHeartbeats 40000000 in
theorem own_rmC (l : Launch) (Z : State) (a0 : Array Value) (hw : ∀ d ∈ tables_1, d.before a0 Z = true) (ws : List Jvm.Cond) (a d : Addr) (h0 : Heap) (n0 : Nat) (O : Old Z n0 h0) (g_a : n0 ≤ a) (E1 : Exa Z h0 a "com/example/lamassu/lamassu/model/Conditions") (F_permissions_a : Fld Z h0 a "com/example/lamassu/lamassu/model/Conditions" "permissions" "Ljava/util/Set;" .null) (F_decisionPoint_a : Fld Z h0 a "com/example/lamassu/lamassu/model/Conditions" "decisionPoint" "Lcom/example/lamassu/lamassu/model/DecisionPoint;" .null) (F_description_a : Fld Z h0 a "com/example/lamassu/lamassu/model/Conditions" "description" "Ljava/lang/String;" .null) (Ed : Exa Z Z.heap d "com/example/lamassu/lamassu/model/DecisionPoint") :
    MetFree l (⟨"com/example/lamassu/lamassu/model/Conditions", "<init>", "(Ljava/util/Set;Lcom/example/lamassu/lamassu/model/DecisionPoint;Ljava/lang/String;)V"⟩ : MethodName) (head1 (Jvm.Cond.code (⟨"com/example/lamassu/lamassu/model/Conditions", "<init>", "(Ljava/util/Set;Lcom/example/lamassu/lamassu/model/DecisionPoint;Ljava/lang/String;)V"⟩ : MethodName) prog_19_method_1_code 4 none :: ws) ({ frames := 1, cells := 2, slots := 56, locals := 14 } : Room)) (fun aa U => aa = #[(.ref a), .null, (.ref d), .null] ∧ Z.Warmed39 U.vm ∧ U.heap = h0) (fun _ _ _ _ _ => True) (fun _ U o U' => ∃ v L, o = .returned v ∧ (own_QC Z a d h0 n0) v U'.heap L ∧ ReturnedEndW U o U' L ({ frames := 1, cells := 2, slots := 56, locals := 14 } : Room).cells ({ frames := 1, cells := 2, slots := 56, locals := 14 } : Room).slots) := by
  refine MetFree.of_bodySF (plainFor_of_name own_pn14) hisR ?_
  intro p e s m args below meth c s₁ Bd hml0 hP hK
  obtain ⟨rfl, hZ, hh⟩ := hP
  have hx := Bd.exec
  have hby := Bd.bytes
  have hml : c.maxLocals = 4 := hml0
  have hown : s.vm.findClass "com/example/lamassu/lamassu/model/Conditions" = some m.cls := findClass_of_methodNamed Bd.named
  have hnm := (name_of_methodNamed Bd.named Bd.method).1
  have X0 : Stand p l e ({ frames := 1, cells := 2, slots := 56, locals := 14 } : Room) (s.setVm s.vm) m #[(.ref a), .null, (.ref d), .null] below meth c s₁ [] 0 0 := Stand.of_body Bd
  have e0 : s₁.heap = h0 := by rw [← hh, Bd.state]; rfl
  have N0 := Fr.nil n0
  have hS := own_since0 s 0
  have hk : 0 ≤ h0.size := Nat.zero_le _
  refine Out.startW (Q := own_QC Z a d h0 n0) (own_efC m a d ) ?_
  have Kp := Keep.refl h0 [a]
  have wS := own_wS hw
  refine Out.via (g' := (mkF m 1 #[.val (.ref a), .val .null, .val (.ref d), .val .null] [(.ref a)])) (fun _ k => XS.aloadN X0.here hx rfl (hb hby own_d12_0) rfl rfl k) ?_
  obtain ⟨T1, X1, e1, st1⟩ := initO X0 hx hZ hown (hw _ (List.mem_of_getElem? (i := 17) rfl)) (hw _ (List.mem_of_getElem? (i := 18) rfl)) (hw _ (List.mem_of_getElem? (i := 19) rfl)) e0 (g := (mkF m 1 #[.val (.ref a), .val .null, .val (.ref d), .val .null] [(.ref a)])) rfl (by rw [hml]; rfl) rfl (hb hby own_d12_1) (by decide) (W := 0) (by show 2 * 0 + _ ≤ _; exact Nat.le_of_eq rfl) (by decide)
  refine Out.via (g' := (mkF m 4 #[.val (.ref a), .val .null, .val (.ref d), .val .null] [])) st1 ?_
  refine Out.via (g' := (mkF m 5 #[.val (.ref a), .val .null, .val (.ref d), .val .null] [(.ref a)])) (fun _ k => XS.aloadN X1.here hx rfl (hb hby own_d12_4) rfl rfl k) ?_
  refine Out.via (g' := (mkF m 6 #[.val (.ref a), .val .null, .val (.ref d), .val .null] [.null, (.ref a)])) (fun _ k => XS.aloadN X1.here hx rfl (hb hby own_d12_5) rfl rfl k) ?_
  refine Out.via (g' := (mkF m 9 #[.val (.ref a), .val .null, .val (.ref d), .val .null] [(.ref a)])) (fun _ k => XS.ifnonnullNo X1.here hx rfl (hb hby own_d12_6) rfl k) ?_
  refine Out.via (g' := (mkF m 10 #[.val (.ref a), .val .null, .val (.ref d), .val .null] [.null, (.ref a)])) (fun _ k => XS.aconstNull X1.here hx rfl (hb hby own_d12_9) k) ?_
  refine Out.via (g' := (mkF m 17 #[.val (.ref a), .val .null, .val (.ref d), .val .null] [.null, (.ref a)])) (fun _ k => XS.goto X1.here hx rfl (pc0 := 10) (pc' := 17) rfl (hb hby own_d12_10) (by decide) (by decide) k) ?_
  obtain ⟨T2, h2, X2, e2, W2, st2⟩ := putF X1 hx hZ hown (host := "") (Or.inl (hw _ (List.mem_of_getElem? (i := 20) rfl))) Via.refl e1 F_permissions_a E1 (Or.inr ⟨(hw _ (List.mem_of_getElem? (i := 21) rfl)), rfl, hnm⟩) (hw _ (List.mem_of_getElem? (i := 12) rfl)) (ty := (.object "java/util/Set")) (by decide) rfl rfl (g := (mkF m 17 #[.val (.ref a), .val .null, .val (.ref d), .val .null] [.null, (.ref a)])) rfl rfl (hb hby own_d12_17)
  replace F_permissions_a := F_permissions_a.same W2
  replace hk : _ ≤ h2.size := Nat.le_trans hk (Keep.of_wr W2).1
  replace F_decisionPoint_a := F_decisionPoint_a.other W2 (Or.inr (slot_ne (Or.inr (hw _ (List.mem_of_getElem? (i := 37) rfl))) (Or.inr (hw _ (List.mem_of_getElem? (i := 21) rfl))) (by decide) (t := (.object "com/example/lamassu/lamassu/model/DecisionPoint")) (t' := (.object "java/util/Set")) (by decide) (by decide)))
  replace F_description_a := F_description_a.other W2 (Or.inr (slot_ne (Or.inr (hw _ (List.mem_of_getElem? (i := 39) rfl))) (Or.inr (hw _ (List.mem_of_getElem? (i := 21) rfl))) (by decide) (t := (.object "java/lang/String")) (t' := (.object "java/util/Set")) (by decide) (by decide)))
  replace E1 := E1.wr W2
  replace O := O.wr W2 g_a
  replace Kp := Kp.wr W2 (Or.inl (List.mem_of_getElem? (i := 0) rfl))
  replace N0 := Fr.snoc X2 N0 g_a
  refine Out.via (g' := (mkF m 20 #[.val (.ref a), .val .null, .val (.ref d), .val .null] [])) st2 ?_
  refine Out.via (g' := (mkF m 21 #[.val (.ref a), .val .null, .val (.ref d), .val .null] [(.ref a)])) (fun _ k => XS.aloadN X2.here hx rfl (hb hby own_d12_20) rfl rfl k) ?_
  refine Out.via (g' := (mkF m 22 #[.val (.ref a), .val .null, .val (.ref d), .val .null] [(.ref d), (.ref a)])) (fun _ k => XS.aloadN X2.here hx rfl (hb hby own_d12_21) rfl rfl k) ?_
  obtain ⟨la, T3, h3, kk3, X3, e3, E3, hS, hk, hZ, hown, st3⟩ := ldcS X2 hx hZ hown (hw _ (List.mem_of_getElem? (i := 22) rfl)) wS e2 hS hk (g := (mkF m 22 #[.val (.ref a), .val .null, .val (.ref d), .val .null] [(.ref d), (.ref a)])) rfl (hb hby own_d12_22) (n := 52) (by decide) (by decide) (by decide) (by decide)
  replace F_permissions_a := F_permissions_a.ext E3
  replace F_decisionPoint_a := F_decisionPoint_a.ext E3
  replace F_description_a := F_description_a.ext E3
  replace E1 := E1.ext E3
  replace O := O.ext E3
  replace Kp := Kp.ext E3
  refine Out.via (g' := (mkF m 24 #[.val (.ref a), .val .null, .val (.ref d), .val .null] [(.ref la), (.ref d), (.ref a)])) st3 ?_
  obtain ⟨_, _, ⟨T4, L4, kc4, ks4⟩, -, X4, ⟨Lc4, hQ4, l4, y4, z4⟩, st4⟩ := Jvm.LawKit.callS X3 hx (y := (⟨"java/util/Objects", "requireNonNull", "(Ljava/lang/Object;Ljava/lang/String;)Ljava/lang/Object;"⟩ : MethodName)) hown (mvT hZ (hw _ (List.mem_of_getElem? (i := 30) rfl))) (mvT hZ (hw _ (List.mem_of_getElem? (i := 31) rfl))) (mvT hZ (hw _ (List.mem_of_getElem? (i := 32) rfl))) (mvT hZ (hw _ (List.mem_of_getElem? (i := 33) rfl))) (by decide) (backOf (W := 1) (own_rmN2 l Z a0 hw [] d la h3 n0 O) hZ (hw _ (List.mem_of_getElem? (i := 33) rfl)) (hw _ (List.mem_of_getElem? (i := 32) rfl)) (by decide) (by decide)) (g := (mkF m 24 #[.val (.ref a), .val .null, .val (.ref d), .val .null] [(.ref la), (.ref d), (.ref a)])) rfl (by rw [hml]; rfl) (argsL := [(.ref d), (.ref la)]) (rest := [(.ref a)]) (lenOf own_pd15 rfl) rfl (by show 2 * 0 + _ ≤ _; exact Nat.le_of_eq rfl) (hb hby own_d12_24) (fun _ _ => ⟨rfl, e3, (by decide : 2 + 0 ≤ _), (by decide : 56 + 0 ≤ _)⟩)
  dsimp only [Pt.U, Pt.locs, Pt.cells, Pt.slots] at X4 l4 y4 z4 st4 hQ4
  subst l4 y4 z4
  obtain ⟨rfl, Nq4, eq4⟩ := hQ4
  replace N0 := Fr.app N0 Nq4
  refine Out.via (g' := (mkF m 27 #[.val (.ref a), .val .null, .val (.ref d), .val .null] [(.ref d), (.ref a)])) st4 ?_
  obtain ⟨T5, X5, e5, st5⟩ := castY X4 hx hZ hown (hw _ (List.mem_of_getElem? (i := 34) rfl)) eq4 (Ins.self (Ed.ext O.2)) (g := (mkF m 27 #[.val (.ref a), .val .null, .val (.ref d), .val .null] [(.ref d), (.ref a)])) rfl rfl (hb hby own_d12_27)
  refine Out.via (g' := (mkF m 30 #[.val (.ref a), .val .null, .val (.ref d), .val .null] [(.ref d), (.ref a)])) st5 ?_
  obtain ⟨T6, h6, X6, e6, W6, st6⟩ := putF X5 hx hZ hown (host := "") (Or.inl (hw _ (List.mem_of_getElem? (i := 36) rfl))) Via.refl e5 F_decisionPoint_a E1 (Or.inr ⟨(hw _ (List.mem_of_getElem? (i := 37) rfl)), rfl, hnm⟩) (hw _ (List.mem_of_getElem? (i := 12) rfl)) (ty := (.object "com/example/lamassu/lamassu/model/DecisionPoint")) (by decide) rfl rfl (g := (mkF m 30 #[.val (.ref a), .val .null, .val (.ref d), .val .null] [(.ref d), (.ref a)])) rfl rfl (hb hby own_d12_30)
  replace F_decisionPoint_a := F_decisionPoint_a.same W6
  replace hk : _ ≤ h6.size := Nat.le_trans hk (Keep.of_wr W6).1
  replace F_permissions_a := F_permissions_a.other W6 (Or.inr (slot_ne (Or.inr (hw _ (List.mem_of_getElem? (i := 21) rfl))) (Or.inr (hw _ (List.mem_of_getElem? (i := 37) rfl))) (by decide) (t := (.object "java/util/Set")) (t' := (.object "com/example/lamassu/lamassu/model/DecisionPoint")) (by decide) (by decide)))
  replace F_description_a := F_description_a.other W6 (Or.inr (slot_ne (Or.inr (hw _ (List.mem_of_getElem? (i := 39) rfl))) (Or.inr (hw _ (List.mem_of_getElem? (i := 37) rfl))) (by decide) (t := (.object "java/lang/String")) (t' := (.object "com/example/lamassu/lamassu/model/DecisionPoint")) (by decide) (by decide)))
  replace E1 := E1.wr W6
  replace O := O.wr W6 g_a
  replace Kp := Kp.wr W6 (Or.inl (List.mem_of_getElem? (i := 0) rfl))
  replace N0 := Fr.snoc X6 N0 g_a
  refine Out.via (g' := (mkF m 33 #[.val (.ref a), .val .null, .val (.ref d), .val .null] [])) st6 ?_
  refine Out.via (g' := (mkF m 34 #[.val (.ref a), .val .null, .val (.ref d), .val .null] [(.ref a)])) (fun _ k => XS.aloadN X6.here hx rfl (hb hby own_d12_33) rfl rfl k) ?_
  refine Out.via (g' := (mkF m 35 #[.val (.ref a), .val .null, .val (.ref d), .val .null] [.null, (.ref a)])) (fun _ k => XS.aloadN X6.here hx rfl (hb hby own_d12_34) rfl rfl k) ?_
  obtain ⟨T7, h7, X7, e7, W7, st7⟩ := putF X6 hx hZ hown (host := "") (Or.inl (hw _ (List.mem_of_getElem? (i := 38) rfl))) Via.refl e6 F_description_a E1 (Or.inr ⟨(hw _ (List.mem_of_getElem? (i := 39) rfl)), rfl, hnm⟩) (hw _ (List.mem_of_getElem? (i := 12) rfl)) (ty := (.object "java/lang/String")) (by decide) rfl rfl (g := (mkF m 35 #[.val (.ref a), .val .null, .val (.ref d), .val .null] [.null, (.ref a)])) rfl rfl (hb hby own_d12_35)
  replace F_description_a := F_description_a.same W7
  replace hk : _ ≤ h7.size := Nat.le_trans hk (Keep.of_wr W7).1
  replace F_permissions_a := F_permissions_a.other W7 (Or.inr (slot_ne (Or.inr (hw _ (List.mem_of_getElem? (i := 21) rfl))) (Or.inr (hw _ (List.mem_of_getElem? (i := 39) rfl))) (by decide) (t := (.object "java/util/Set")) (t' := (.object "java/lang/String")) (by decide) (by decide)))
  replace F_decisionPoint_a := F_decisionPoint_a.other W7 (Or.inr (slot_ne (Or.inr (hw _ (List.mem_of_getElem? (i := 37) rfl))) (Or.inr (hw _ (List.mem_of_getElem? (i := 39) rfl))) (by decide) (t := (.object "com/example/lamassu/lamassu/model/DecisionPoint")) (t' := (.object "java/lang/String")) (by decide) (by decide)))
  replace E1 := E1.wr W7
  replace O := O.wr W7 g_a
  replace Kp := Kp.wr W7 (Or.inl (List.mem_of_getElem? (i := 0) rfl))
  replace N0 := Fr.snoc X7 N0 g_a
  refine Out.via (g' := (mkF m 38 #[.val (.ref a), .val .null, .val (.ref d), .val .null] [])) st7 ?_
  exact Out.endW X7 hS (by rw [e7]; exact hk) (fun _ => rfl) Bd.notSynchronized (by decide) (by decide) (by rw [e7]; exact ⟨rfl, N0, Kp, E1⟩) (fun fs hr => X7.returnOut hx Bd.returns (hb hby own_d12_38) hr)
theorem own_d13_0 : decode prog_27_method_1_code 0 = .ok (.aload_n 0, 1) := by decide +kernel
theorem own_d13_1 : decode prog_27_method_1_code 1 = .ok (.invokespecial 1, 3) := by decide +kernel
theorem own_d13_4 : decode prog_27_method_1_code 4 = .ok (.aload_n 0, 1) := by decide +kernel
theorem own_d13_5 : decode prog_27_method_1_code 5 = .ok (.aload_n 1, 1) := by decide +kernel
theorem own_d13_6 : decode prog_27_method_1_code 6 = .ok (.ldc 7, 2) := by decide +kernel
theorem own_d13_8 : decode prog_27_method_1_code 8 = .ok (.invokestatic 9, 3) := by decide +kernel
theorem own_d13_11 : decode prog_27_method_1_code 11 = .ok (.checkcast 15, 3) := by decide +kernel
theorem own_d13_14 : decode prog_27_method_1_code 14 = .ok (.putfield 17, 3) := by decide +kernel
theorem own_d13_17 : decode prog_27_method_1_code 17 = .ok (.aload_n 0, 1) := by decide +kernel
theorem own_d13_18 : decode prog_27_method_1_code 18 = .ok (.aload_n 2, 1) := by decide +kernel
theorem own_d13_19 : decode prog_27_method_1_code 19 = .ok (.ifnonnull 7, 3) := by decide +kernel
theorem own_d13_22 : decode prog_27_method_1_code 22 = .ok (.aconst_null, 1) := by decide +kernel
theorem own_d13_23 : decode prog_27_method_1_code 23 = .ok (.goto 7, 3) := by decide +kernel
theorem own_d13_30 : decode prog_27_method_1_code 30 = .ok (.putfield 28, 3) := by decide +kernel
theorem own_d13_33 : decode prog_27_method_1_code 33 = .ok (.aload_n 0, 1) := by decide +kernel
theorem own_d13_34 : decode prog_27_method_1_code 34 = .ok (.aload_n 3, 1) := by decide +kernel
theorem own_d13_35 : decode prog_27_method_1_code 35 = .ok (.ldc 32, 2) := by decide +kernel
theorem own_d13_37 : decode prog_27_method_1_code 37 = .ok (.invokestatic 9, 3) := by decide +kernel
theorem own_d13_40 : decode prog_27_method_1_code 40 = .ok (.checkcast 34, 3) := by decide +kernel
theorem own_d13_43 : decode prog_27_method_1_code 43 = .ok (.putfield 36, 3) := by decide +kernel
theorem own_d13_46 : decode prog_27_method_1_code 46 = .ok (.return_, 1) := by decide +kernel
theorem own_efG (m : MethodId) (x0 : Addr) (x1 : Addr) (x3 : Addr) : entryFrame m #[(.ref x0), (.ref x1), .null, (.ref x3)] 4 = mkF m 0 #[.val (.ref x0), .val (.ref x1), .val .null, .val (.ref x3)] [] := by first | (simp [entryFrame, mkF, argsToLocals, Value.category]; done) | rfl
abbrev own_QG (Z : State) (a ch co : Addr) (h0 : Heap) (n0 : Nat) : Option Value → Heap → List Loc → Prop := fun v h L => v = none ∧ Fr n0 L ∧ Keep h0 h [a] ∧ Exa Z h a "com/example/lamassu/lamassu/model/ListedTargetsGrant" ∧ Fld Z h a "com/example/lamassu/lamassu/model/ListedTargetsGrant" "channel" "Lcom/example/lamassu/lamassu/model/Channel;" (.ref ch) ∧ Fld Z h a "com/example/lamassu/lamassu/model/ListedTargetsGrant" "targets" "Ljava/util/Set;" .null
set_option maxRecDepth 65536 in
set_option maxHeartbeats 40000000 in
theorem own_rmG (l : Launch) (Z : State) (a0 : Array Value) (hw : ∀ d ∈ tables_1, d.before a0 Z = true) (ws : List Jvm.Cond) (a ch co : Addr) (h0 : Heap) (n0 : Nat) (O : Old Z n0 h0) (g_a : n0 ≤ a) (E1 : Exa Z h0 a "com/example/lamassu/lamassu/model/ListedTargetsGrant") (F_channel_a : Fld Z h0 a "com/example/lamassu/lamassu/model/ListedTargetsGrant" "channel" "Lcom/example/lamassu/lamassu/model/Channel;" .null) (F_targets_a : Fld Z h0 a "com/example/lamassu/lamassu/model/ListedTargetsGrant" "targets" "Ljava/util/Set;" .null) (F_conditions_a : Fld Z h0 a "com/example/lamassu/lamassu/model/ListedTargetsGrant" "conditions" "Lcom/example/lamassu/lamassu/model/Conditions;" .null) (Ec : Exa Z Z.heap ch "com/example/lamassu/lamassu/model/Channel") (Eo : Exa Z h0 co "com/example/lamassu/lamassu/model/Conditions") :
    MetFree l (⟨"com/example/lamassu/lamassu/model/ListedTargetsGrant", "<init>", "(Lcom/example/lamassu/lamassu/model/Channel;Ljava/util/Set;Lcom/example/lamassu/lamassu/model/Conditions;)V"⟩ : MethodName) (head1 (Jvm.Cond.code (⟨"com/example/lamassu/lamassu/model/ListedTargetsGrant", "<init>", "(Lcom/example/lamassu/lamassu/model/Channel;Ljava/util/Set;Lcom/example/lamassu/lamassu/model/Conditions;)V"⟩ : MethodName) prog_27_method_1_code 4 none :: ws) ({ frames := 1, cells := 4, slots := 76, locals := 14 } : Room)) (fun aa U => aa = #[(.ref a), (.ref ch), .null, (.ref co)] ∧ Z.Warmed39 U.vm ∧ U.heap = h0) (fun _ _ _ _ _ => True) (fun _ U o U' => ∃ v L, o = .returned v ∧ (own_QG Z a ch co h0 n0) v U'.heap L ∧ ReturnedEndW U o U' L ({ frames := 1, cells := 4, slots := 76, locals := 14 } : Room).cells ({ frames := 1, cells := 4, slots := 76, locals := 14 } : Room).slots) := by
  refine MetFree.of_bodySF (plainFor_of_name own_pn11) hisR ?_
  intro p e s m args below meth c s₁ Bd hml0 hP hK
  obtain ⟨rfl, hZ, hh⟩ := hP
  have hx := Bd.exec
  have hby := Bd.bytes
  have hml : c.maxLocals = 4 := hml0
  have hown : s.vm.findClass "com/example/lamassu/lamassu/model/ListedTargetsGrant" = some m.cls := findClass_of_methodNamed Bd.named
  have hnm := (name_of_methodNamed Bd.named Bd.method).1
  have X0 : Stand p l e ({ frames := 1, cells := 4, slots := 76, locals := 14 } : Room) (s.setVm s.vm) m #[(.ref a), (.ref ch), .null, (.ref co)] below meth c s₁ [] 0 0 := Stand.of_body Bd
  have e0 : s₁.heap = h0 := by rw [← hh, Bd.state]; rfl
  have N0 := Fr.nil n0
  have hS := own_since0 s 0
  have hk : 0 ≤ h0.size := Nat.zero_le _
  refine Out.startW (Q := own_QG Z a ch co h0 n0) (own_efG m a ch co ) ?_
  have Kp := Keep.refl h0 [a]
  have wS := own_wS hw
  refine Out.via (g' := (mkF m 1 #[.val (.ref a), .val (.ref ch), .val .null, .val (.ref co)] [(.ref a)])) (fun _ k => XS.aloadN X0.here hx rfl (hb hby own_d13_0) rfl rfl k) ?_
  obtain ⟨T1, X1, e1, st1⟩ := initO X0 hx hZ hown (hw _ (List.mem_of_getElem? (i := 46) rfl)) (hw _ (List.mem_of_getElem? (i := 18) rfl)) (hw _ (List.mem_of_getElem? (i := 19) rfl)) e0 (g := (mkF m 1 #[.val (.ref a), .val (.ref ch), .val .null, .val (.ref co)] [(.ref a)])) rfl (by rw [hml]; rfl) rfl (hb hby own_d13_1) (by decide) (W := 0) (by show 2 * 0 + _ ≤ _; exact Nat.le_of_eq rfl) (by decide)
  refine Out.via (g' := (mkF m 4 #[.val (.ref a), .val (.ref ch), .val .null, .val (.ref co)] [])) st1 ?_
  refine Out.via (g' := (mkF m 5 #[.val (.ref a), .val (.ref ch), .val .null, .val (.ref co)] [(.ref a)])) (fun _ k => XS.aloadN X1.here hx rfl (hb hby own_d13_4) rfl rfl k) ?_
  refine Out.via (g' := (mkF m 6 #[.val (.ref a), .val (.ref ch), .val .null, .val (.ref co)] [(.ref ch), (.ref a)])) (fun _ k => XS.aloadN X1.here hx rfl (hb hby own_d13_5) rfl rfl k) ?_
  obtain ⟨la, T2, h2, kk2, X2, e2, E2, hS, hk, hZ, hown, st2⟩ := ldcS X1 hx hZ hown (hw _ (List.mem_of_getElem? (i := 47) rfl)) wS e1 hS hk (g := (mkF m 6 #[.val (.ref a), .val (.ref ch), .val .null, .val (.ref co)] [(.ref ch), (.ref a)])) rfl (hb hby own_d13_6) (n := 28) (by decide) (by decide) (by decide) (by decide)
  replace F_channel_a := F_channel_a.ext E2
  replace F_targets_a := F_targets_a.ext E2
  replace F_conditions_a := F_conditions_a.ext E2
  replace E1 := E1.ext E2
  replace Eo := Eo.ext E2
  replace O := O.ext E2
  replace Kp := Kp.ext E2
  refine Out.via (g' := (mkF m 8 #[.val (.ref a), .val (.ref ch), .val .null, .val (.ref co)] [(.ref la), (.ref ch), (.ref a)])) st2 ?_
  obtain ⟨_, _, ⟨T3, L3, kc3, ks3⟩, -, X3, ⟨Lc3, hQ3, l3, y3, z3⟩, st3⟩ := Jvm.LawKit.callS X2 hx (y := (⟨"java/util/Objects", "requireNonNull", "(Ljava/lang/Object;Ljava/lang/String;)Ljava/lang/Object;"⟩ : MethodName)) hown (mvT hZ (hw _ (List.mem_of_getElem? (i := 48) rfl))) (mvT hZ (hw _ (List.mem_of_getElem? (i := 31) rfl))) (mvT hZ (hw _ (List.mem_of_getElem? (i := 32) rfl))) (mvT hZ (hw _ (List.mem_of_getElem? (i := 33) rfl))) (by decide) (backOf (W := 1) (own_rmN2 l Z a0 hw [] ch la h2 n0 O) hZ (hw _ (List.mem_of_getElem? (i := 33) rfl)) (hw _ (List.mem_of_getElem? (i := 32) rfl)) (by decide) (by decide)) (g := (mkF m 8 #[.val (.ref a), .val (.ref ch), .val .null, .val (.ref co)] [(.ref la), (.ref ch), (.ref a)])) rfl (by rw [hml]; rfl) (argsL := [(.ref ch), (.ref la)]) (rest := [(.ref a)]) (lenOf own_pd15 rfl) rfl (by show 2 * 0 + _ ≤ _; exact Nat.le_of_eq rfl) (hb hby own_d13_8) (fun _ _ => ⟨rfl, e2, (by decide : 2 + 0 ≤ _), (by decide : 32 + 0 ≤ _)⟩)
  dsimp only [Pt.U, Pt.locs, Pt.cells, Pt.slots] at X3 l3 y3 z3 st3 hQ3
  subst l3 y3 z3
  obtain ⟨rfl, Nq3, eq3⟩ := hQ3
  replace N0 := Fr.app N0 Nq3
  refine Out.via (g' := (mkF m 11 #[.val (.ref a), .val (.ref ch), .val .null, .val (.ref co)] [(.ref ch), (.ref a)])) st3 ?_
  obtain ⟨T4, X4, e4, st4⟩ := castY X3 hx hZ hown (hw _ (List.mem_of_getElem? (i := 49) rfl)) eq3 (Ins.self (Ec.ext O.2)) (g := (mkF m 11 #[.val (.ref a), .val (.ref ch), .val .null, .val (.ref co)] [(.ref ch), (.ref a)])) rfl rfl (hb hby own_d13_11)
  refine Out.via (g' := (mkF m 14 #[.val (.ref a), .val (.ref ch), .val .null, .val (.ref co)] [(.ref ch), (.ref a)])) st4 ?_
  obtain ⟨T5, h5, X5, e5, W5, st5⟩ := putF X4 hx hZ hown (host := "") (Or.inl (hw _ (List.mem_of_getElem? (i := 51) rfl))) Via.refl e4 F_channel_a E1 (Or.inr ⟨(hw _ (List.mem_of_getElem? (i := 52) rfl)), rfl, hnm⟩) (hw _ (List.mem_of_getElem? (i := 41) rfl)) (ty := (.object "com/example/lamassu/lamassu/model/Channel")) (by decide) rfl rfl (g := (mkF m 14 #[.val (.ref a), .val (.ref ch), .val .null, .val (.ref co)] [(.ref ch), (.ref a)])) rfl rfl (hb hby own_d13_14)
  replace F_channel_a := F_channel_a.same W5
  replace hk : _ ≤ h5.size := Nat.le_trans hk (Keep.of_wr W5).1
  replace F_targets_a := F_targets_a.other W5 (Or.inr (slot_ne (Or.inr (hw _ (List.mem_of_getElem? (i := 54) rfl))) (Or.inr (hw _ (List.mem_of_getElem? (i := 52) rfl))) (by decide) (t := (.object "java/util/Set")) (t' := (.object "com/example/lamassu/lamassu/model/Channel")) (by decide) (by decide)))
  replace F_conditions_a := F_conditions_a.other W5 (Or.inr (slot_ne (Or.inr (hw _ (List.mem_of_getElem? (i := 59) rfl))) (Or.inr (hw _ (List.mem_of_getElem? (i := 52) rfl))) (by decide) (t := (.object "com/example/lamassu/lamassu/model/Conditions")) (t' := (.object "com/example/lamassu/lamassu/model/Channel")) (by decide) (by decide)))
  replace E1 := E1.wr W5
  replace Eo := Eo.wr W5
  replace O := O.wr W5 g_a
  replace Kp := Kp.wr W5 (Or.inl (List.mem_of_getElem? (i := 0) rfl))
  replace N0 := Fr.snoc X5 N0 g_a
  refine Out.via (g' := (mkF m 17 #[.val (.ref a), .val (.ref ch), .val .null, .val (.ref co)] [])) st5 ?_
  refine Out.via (g' := (mkF m 18 #[.val (.ref a), .val (.ref ch), .val .null, .val (.ref co)] [(.ref a)])) (fun _ k => XS.aloadN X5.here hx rfl (hb hby own_d13_17) rfl rfl k) ?_
  refine Out.via (g' := (mkF m 19 #[.val (.ref a), .val (.ref ch), .val .null, .val (.ref co)] [.null, (.ref a)])) (fun _ k => XS.aloadN X5.here hx rfl (hb hby own_d13_18) rfl rfl k) ?_
  refine Out.via (g' := (mkF m 22 #[.val (.ref a), .val (.ref ch), .val .null, .val (.ref co)] [(.ref a)])) (fun _ k => XS.ifnonnullNo X5.here hx rfl (hb hby own_d13_19) rfl k) ?_
  refine Out.via (g' := (mkF m 23 #[.val (.ref a), .val (.ref ch), .val .null, .val (.ref co)] [.null, (.ref a)])) (fun _ k => XS.aconstNull X5.here hx rfl (hb hby own_d13_22) k) ?_
  refine Out.via (g' := (mkF m 30 #[.val (.ref a), .val (.ref ch), .val .null, .val (.ref co)] [.null, (.ref a)])) (fun _ k => XS.goto X5.here hx rfl (pc0 := 23) (pc' := 30) rfl (hb hby own_d13_23) (by decide) (by decide) k) ?_
  obtain ⟨T6, h6, X6, e6, W6, st6⟩ := putF X5 hx hZ hown (host := "") (Or.inl (hw _ (List.mem_of_getElem? (i := 53) rfl))) Via.refl e5 F_targets_a E1 (Or.inr ⟨(hw _ (List.mem_of_getElem? (i := 54) rfl)), rfl, hnm⟩) (hw _ (List.mem_of_getElem? (i := 41) rfl)) (ty := (.object "java/util/Set")) (by decide) rfl rfl (g := (mkF m 30 #[.val (.ref a), .val (.ref ch), .val .null, .val (.ref co)] [.null, (.ref a)])) rfl rfl (hb hby own_d13_30)
  replace F_targets_a := F_targets_a.same W6
  replace hk : _ ≤ h6.size := Nat.le_trans hk (Keep.of_wr W6).1
  replace F_channel_a := F_channel_a.other W6 (Or.inr (slot_ne (Or.inr (hw _ (List.mem_of_getElem? (i := 52) rfl))) (Or.inr (hw _ (List.mem_of_getElem? (i := 54) rfl))) (by decide) (t := (.object "com/example/lamassu/lamassu/model/Channel")) (t' := (.object "java/util/Set")) (by decide) (by decide)))
  replace F_conditions_a := F_conditions_a.other W6 (Or.inr (slot_ne (Or.inr (hw _ (List.mem_of_getElem? (i := 59) rfl))) (Or.inr (hw _ (List.mem_of_getElem? (i := 54) rfl))) (by decide) (t := (.object "com/example/lamassu/lamassu/model/Conditions")) (t' := (.object "java/util/Set")) (by decide) (by decide)))
  replace E1 := E1.wr W6
  replace Eo := Eo.wr W6
  replace O := O.wr W6 g_a
  replace Kp := Kp.wr W6 (Or.inl (List.mem_of_getElem? (i := 0) rfl))
  replace N0 := Fr.snoc X6 N0 g_a
  refine Out.via (g' := (mkF m 33 #[.val (.ref a), .val (.ref ch), .val .null, .val (.ref co)] [])) st6 ?_
  refine Out.via (g' := (mkF m 34 #[.val (.ref a), .val (.ref ch), .val .null, .val (.ref co)] [(.ref a)])) (fun _ k => XS.aloadN X6.here hx rfl (hb hby own_d13_33) rfl rfl k) ?_
  refine Out.via (g' := (mkF m 35 #[.val (.ref a), .val (.ref ch), .val .null, .val (.ref co)] [(.ref co), (.ref a)])) (fun _ k => XS.aloadN X6.here hx rfl (hb hby own_d13_34) rfl rfl k) ?_
  obtain ⟨lb, T7, h7, kk7, X7, e7, E7, hS, hk, hZ, hown, st7⟩ := ldcS X6 hx hZ hown (hw _ (List.mem_of_getElem? (i := 55) rfl)) wS e6 hS hk (g := (mkF m 35 #[.val (.ref a), .val (.ref ch), .val .null, .val (.ref co)] [(.ref co), (.ref a)])) rfl (hb hby own_d13_35) (n := 40) (by decide) (by decide) (by decide) (by decide)
  replace F_channel_a := F_channel_a.ext E7
  replace F_targets_a := F_targets_a.ext E7
  replace F_conditions_a := F_conditions_a.ext E7
  replace E1 := E1.ext E7
  replace Eo := Eo.ext E7
  replace O := O.ext E7
  replace Kp := Kp.ext E7
  refine Out.via (g' := (mkF m 37 #[.val (.ref a), .val (.ref ch), .val .null, .val (.ref co)] [(.ref lb), (.ref co), (.ref a)])) st7 ?_
  obtain ⟨_, _, ⟨T8, L8, kc8, ks8⟩, -, X8, ⟨Lc8, hQ8, l8, y8, z8⟩, st8⟩ := Jvm.LawKit.callS X7 hx (y := (⟨"java/util/Objects", "requireNonNull", "(Ljava/lang/Object;Ljava/lang/String;)Ljava/lang/Object;"⟩ : MethodName)) hown (mvT hZ (hw _ (List.mem_of_getElem? (i := 48) rfl))) (mvT hZ (hw _ (List.mem_of_getElem? (i := 31) rfl))) (mvT hZ (hw _ (List.mem_of_getElem? (i := 32) rfl))) (mvT hZ (hw _ (List.mem_of_getElem? (i := 33) rfl))) (by decide) (backOf (W := 1) (own_rmN2 l Z a0 hw [] co lb h7 n0 O) hZ (hw _ (List.mem_of_getElem? (i := 33) rfl)) (hw _ (List.mem_of_getElem? (i := 32) rfl)) (by decide) (by decide)) (g := (mkF m 37 #[.val (.ref a), .val (.ref ch), .val .null, .val (.ref co)] [(.ref lb), (.ref co), (.ref a)])) rfl (by rw [hml]; rfl) (argsL := [(.ref co), (.ref lb)]) (rest := [(.ref a)]) (lenOf own_pd15 rfl) rfl (by show 2 * 0 + _ ≤ _; exact Nat.le_of_eq rfl) (hb hby own_d13_37) (fun _ _ => ⟨rfl, e7, (by decide : 4 + 0 ≤ _), (by decide : 76 + 0 ≤ _)⟩)
  dsimp only [Pt.U, Pt.locs, Pt.cells, Pt.slots] at X8 l8 y8 z8 st8 hQ8
  subst l8 y8 z8
  obtain ⟨rfl, Nq8, eq8⟩ := hQ8
  replace N0 := Fr.app N0 Nq8
  refine Out.via (g' := (mkF m 40 #[.val (.ref a), .val (.ref ch), .val .null, .val (.ref co)] [(.ref co), (.ref a)])) st8 ?_
  obtain ⟨T9, X9, e9, st9⟩ := castY X8 hx hZ hown (hw _ (List.mem_of_getElem? (i := 56) rfl)) eq8 (Ins.self Eo) (g := (mkF m 40 #[.val (.ref a), .val (.ref ch), .val .null, .val (.ref co)] [(.ref co), (.ref a)])) rfl rfl (hb hby own_d13_40)
  refine Out.via (g' := (mkF m 43 #[.val (.ref a), .val (.ref ch), .val .null, .val (.ref co)] [(.ref co), (.ref a)])) st9 ?_
  obtain ⟨T10, h10, X10, e10, W10, st10⟩ := putF X9 hx hZ hown (host := "") (Or.inl (hw _ (List.mem_of_getElem? (i := 58) rfl))) Via.refl e9 F_conditions_a E1 (Or.inr ⟨(hw _ (List.mem_of_getElem? (i := 59) rfl)), rfl, hnm⟩) (hw _ (List.mem_of_getElem? (i := 41) rfl)) (ty := (.object "com/example/lamassu/lamassu/model/Conditions")) (by decide) rfl rfl (g := (mkF m 43 #[.val (.ref a), .val (.ref ch), .val .null, .val (.ref co)] [(.ref co), (.ref a)])) rfl rfl (hb hby own_d13_43)
  replace F_conditions_a := F_conditions_a.same W10
  replace hk : _ ≤ h10.size := Nat.le_trans hk (Keep.of_wr W10).1
  replace F_channel_a := F_channel_a.other W10 (Or.inr (slot_ne (Or.inr (hw _ (List.mem_of_getElem? (i := 52) rfl))) (Or.inr (hw _ (List.mem_of_getElem? (i := 59) rfl))) (by decide) (t := (.object "com/example/lamassu/lamassu/model/Channel")) (t' := (.object "com/example/lamassu/lamassu/model/Conditions")) (by decide) (by decide)))
  replace F_targets_a := F_targets_a.other W10 (Or.inr (slot_ne (Or.inr (hw _ (List.mem_of_getElem? (i := 54) rfl))) (Or.inr (hw _ (List.mem_of_getElem? (i := 59) rfl))) (by decide) (t := (.object "java/util/Set")) (t' := (.object "com/example/lamassu/lamassu/model/Conditions")) (by decide) (by decide)))
  replace E1 := E1.wr W10
  replace Eo := Eo.wr W10
  replace O := O.wr W10 g_a
  replace Kp := Kp.wr W10 (Or.inl (List.mem_of_getElem? (i := 0) rfl))
  replace N0 := Fr.snoc X10 N0 g_a
  refine Out.via (g' := (mkF m 46 #[.val (.ref a), .val (.ref ch), .val .null, .val (.ref co)] [])) st10 ?_
  exact Out.endW X10 hS (by rw [e10]; exact hk) (fun _ => rfl) Bd.notSynchronized (by decide) (by decide) (by rw [e10]; exact ⟨rfl, N0, Kp, E1, F_channel_a, F_targets_a⟩) (fun fs hr => X10.returnOut hx Bd.returns (hb hby own_d13_46) hr)
theorem own_d13_26 : decode prog_27_method_1_code 26 = .ok (.aload_n 2, 1) := by decide +kernel
theorem own_d13_27 : decode prog_27_method_1_code 27 = .ok (.invokestatic 22, 3) := by decide +kernel
theorem own_pd16 : parseMethodDescriptor "(Ljava/util/Collection;)Ljava/util/Set;" = some ⟨[(.object "java/util/Collection")], some (.object "java/util/Set")⟩ := by decide +kernel
theorem own_efGL (m : MethodId) (x0 : Addr) (x1 : Addr) (x2 : Addr) (x3 : Addr) : entryFrame m #[(.ref x0), (.ref x1), (.ref x2), (.ref x3)] 4 = mkF m 0 #[.val (.ref x0), .val (.ref x1), .val (.ref x2), .val (.ref x3)] [] := by first | (simp [entryFrame, mkF, argsToLocals, Value.category]; done) | rfl
abbrev own_QGL (Z : State) (a ch co k : Addr) (h0 : Heap) (n0 : Nat) : Option Value → Heap → List Loc → Prop := fun v h L => v = none ∧ Fr n0 L ∧ Keep h0 h [a] ∧ Exa Z h a "com/example/lamassu/lamassu/model/ListedTargetsGrant" ∧ Fld Z h a "com/example/lamassu/lamassu/model/ListedTargetsGrant" "channel" "Lcom/example/lamassu/lamassu/model/Channel;" (.ref ch) ∧ Fld Z h a "com/example/lamassu/lamassu/model/ListedTargetsGrant" "targets" "Ljava/util/Set;" (.ref k)
set_option maxRecDepth 65536 in
set_option maxHeartbeats 40000000 in
theorem own_rmGL (l : Launch) (Z : State) (a0 : Array Value) (hw : ∀ d ∈ tables_1, d.before a0 Z = true) (ws : List Jvm.Cond) (a ch co k : Addr) (h0 : Heap) (n0 : Nat) (O : Old Z n0 h0) (g_a : n0 ≤ a) (E1 : Exa Z h0 a "com/example/lamassu/lamassu/model/ListedTargetsGrant") (F_channel_a : Fld Z h0 a "com/example/lamassu/lamassu/model/ListedTargetsGrant" "channel" "Lcom/example/lamassu/lamassu/model/Channel;" .null) (F_targets_a : Fld Z h0 a "com/example/lamassu/lamassu/model/ListedTargetsGrant" "targets" "Ljava/util/Set;" .null) (F_conditions_a : Fld Z h0 a "com/example/lamassu/lamassu/model/ListedTargetsGrant" "conditions" "Lcom/example/lamassu/lamassu/model/Conditions;" .null) (Ec : Exa Z Z.heap ch "com/example/lamassu/lamassu/model/Channel") (Eo : Exa Z h0 co "com/example/lamassu/lamassu/model/Conditions") (Ek : Exa Z h0 k "java/util/ImmutableCollections$Set12") :
    MetFree l (⟨"com/example/lamassu/lamassu/model/ListedTargetsGrant", "<init>", "(Lcom/example/lamassu/lamassu/model/Channel;Ljava/util/Set;Lcom/example/lamassu/lamassu/model/Conditions;)V"⟩ : MethodName) (head1 (Jvm.Cond.code (⟨"com/example/lamassu/lamassu/model/ListedTargetsGrant", "<init>", "(Lcom/example/lamassu/lamassu/model/Channel;Ljava/util/Set;Lcom/example/lamassu/lamassu/model/Conditions;)V"⟩ : MethodName) prog_27_method_1_code 4 none :: ws) ({ frames := 1, cells := 4, slots := 76, locals := 14 } : Room)) (fun aa U => aa = #[(.ref a), (.ref ch), (.ref k), (.ref co)] ∧ Z.Warmed39 U.vm ∧ U.heap = h0) (fun _ _ _ _ _ => True) (fun _ U o U' => ∃ v L, o = .returned v ∧ (own_QGL Z a ch co k h0 n0) v U'.heap L ∧ ReturnedEndW U o U' L ({ frames := 1, cells := 4, slots := 76, locals := 14 } : Room).cells ({ frames := 1, cells := 4, slots := 76, locals := 14 } : Room).slots) := by
  refine MetFree.of_bodySF (plainFor_of_name own_pn11) hisR ?_
  intro p e s m args below meth c s₁ Bd hml0 hP hK
  obtain ⟨rfl, hZ, hh⟩ := hP
  have hx := Bd.exec
  have hby := Bd.bytes
  have hml : c.maxLocals = 4 := hml0
  have hown : s.vm.findClass "com/example/lamassu/lamassu/model/ListedTargetsGrant" = some m.cls := findClass_of_methodNamed Bd.named
  have hnm := (name_of_methodNamed Bd.named Bd.method).1
  have X0 : Stand p l e ({ frames := 1, cells := 4, slots := 76, locals := 14 } : Room) (s.setVm s.vm) m #[(.ref a), (.ref ch), (.ref k), (.ref co)] below meth c s₁ [] 0 0 := Stand.of_body Bd
  have e0 : s₁.heap = h0 := by rw [← hh, Bd.state]; rfl
  have N0 := Fr.nil n0
  have hS := own_since0 s 0
  have hk : 0 ≤ h0.size := Nat.zero_le _
  refine Out.startW (Q := own_QGL Z a ch co k h0 n0) (own_efGL m a ch k co ) ?_
  have Kp := Keep.refl h0 [a]
  have wS := own_wS hw
  refine Out.via (g' := (mkF m 1 #[.val (.ref a), .val (.ref ch), .val (.ref k), .val (.ref co)] [(.ref a)])) (fun _ k => XS.aloadN X0.here hx rfl (hb hby own_d13_0) rfl rfl k) ?_
  obtain ⟨T1, X1, e1, st1⟩ := initO X0 hx hZ hown (hw _ (List.mem_of_getElem? (i := 46) rfl)) (hw _ (List.mem_of_getElem? (i := 18) rfl)) (hw _ (List.mem_of_getElem? (i := 19) rfl)) e0 (g := (mkF m 1 #[.val (.ref a), .val (.ref ch), .val (.ref k), .val (.ref co)] [(.ref a)])) rfl (by rw [hml]; rfl) rfl (hb hby own_d13_1) (by decide) (W := 0) (by show 2 * 0 + _ ≤ _; exact Nat.le_of_eq rfl) (by decide)
  refine Out.via (g' := (mkF m 4 #[.val (.ref a), .val (.ref ch), .val (.ref k), .val (.ref co)] [])) st1 ?_
  refine Out.via (g' := (mkF m 5 #[.val (.ref a), .val (.ref ch), .val (.ref k), .val (.ref co)] [(.ref a)])) (fun _ k => XS.aloadN X1.here hx rfl (hb hby own_d13_4) rfl rfl k) ?_
  refine Out.via (g' := (mkF m 6 #[.val (.ref a), .val (.ref ch), .val (.ref k), .val (.ref co)] [(.ref ch), (.ref a)])) (fun _ k => XS.aloadN X1.here hx rfl (hb hby own_d13_5) rfl rfl k) ?_
  obtain ⟨la, T2, h2, kk2, X2, e2, E2, hS, hk, hZ, hown, st2⟩ := ldcS X1 hx hZ hown (hw _ (List.mem_of_getElem? (i := 47) rfl)) wS e1 hS hk (g := (mkF m 6 #[.val (.ref a), .val (.ref ch), .val (.ref k), .val (.ref co)] [(.ref ch), (.ref a)])) rfl (hb hby own_d13_6) (n := 28) (by decide) (by decide) (by decide) (by decide)
  replace F_channel_a := F_channel_a.ext E2
  replace F_targets_a := F_targets_a.ext E2
  replace F_conditions_a := F_conditions_a.ext E2
  replace E1 := E1.ext E2
  replace Eo := Eo.ext E2
  replace Ek := Ek.ext E2
  replace O := O.ext E2
  replace Kp := Kp.ext E2
  refine Out.via (g' := (mkF m 8 #[.val (.ref a), .val (.ref ch), .val (.ref k), .val (.ref co)] [(.ref la), (.ref ch), (.ref a)])) st2 ?_
  obtain ⟨_, _, ⟨T3, L3, kc3, ks3⟩, -, X3, ⟨Lc3, hQ3, l3, y3, z3⟩, st3⟩ := Jvm.LawKit.callS X2 hx (y := (⟨"java/util/Objects", "requireNonNull", "(Ljava/lang/Object;Ljava/lang/String;)Ljava/lang/Object;"⟩ : MethodName)) hown (mvT hZ (hw _ (List.mem_of_getElem? (i := 48) rfl))) (mvT hZ (hw _ (List.mem_of_getElem? (i := 31) rfl))) (mvT hZ (hw _ (List.mem_of_getElem? (i := 32) rfl))) (mvT hZ (hw _ (List.mem_of_getElem? (i := 33) rfl))) (by decide) (backOf (W := 1) (own_rmN2 l Z a0 hw [] ch la h2 n0 O) hZ (hw _ (List.mem_of_getElem? (i := 33) rfl)) (hw _ (List.mem_of_getElem? (i := 32) rfl)) (by decide) (by decide)) (g := (mkF m 8 #[.val (.ref a), .val (.ref ch), .val (.ref k), .val (.ref co)] [(.ref la), (.ref ch), (.ref a)])) rfl (by rw [hml]; rfl) (argsL := [(.ref ch), (.ref la)]) (rest := [(.ref a)]) (lenOf own_pd15 rfl) rfl (by show 2 * 0 + _ ≤ _; exact Nat.le_of_eq rfl) (hb hby own_d13_8) (fun _ _ => ⟨rfl, e2, (by decide : 2 + 0 ≤ _), (by decide : 32 + 0 ≤ _)⟩)
  dsimp only [Pt.U, Pt.locs, Pt.cells, Pt.slots] at X3 l3 y3 z3 st3 hQ3
  subst l3 y3 z3
  obtain ⟨rfl, Nq3, eq3⟩ := hQ3
  replace N0 := Fr.app N0 Nq3
  refine Out.via (g' := (mkF m 11 #[.val (.ref a), .val (.ref ch), .val (.ref k), .val (.ref co)] [(.ref ch), (.ref a)])) st3 ?_
  obtain ⟨T4, X4, e4, st4⟩ := castY X3 hx hZ hown (hw _ (List.mem_of_getElem? (i := 49) rfl)) eq3 (Ins.self (Ec.ext O.2)) (g := (mkF m 11 #[.val (.ref a), .val (.ref ch), .val (.ref k), .val (.ref co)] [(.ref ch), (.ref a)])) rfl rfl (hb hby own_d13_11)
  refine Out.via (g' := (mkF m 14 #[.val (.ref a), .val (.ref ch), .val (.ref k), .val (.ref co)] [(.ref ch), (.ref a)])) st4 ?_
  obtain ⟨T5, h5, X5, e5, W5, st5⟩ := putF X4 hx hZ hown (host := "") (Or.inl (hw _ (List.mem_of_getElem? (i := 51) rfl))) Via.refl e4 F_channel_a E1 (Or.inr ⟨(hw _ (List.mem_of_getElem? (i := 52) rfl)), rfl, hnm⟩) (hw _ (List.mem_of_getElem? (i := 41) rfl)) (ty := (.object "com/example/lamassu/lamassu/model/Channel")) (by decide) rfl rfl (g := (mkF m 14 #[.val (.ref a), .val (.ref ch), .val (.ref k), .val (.ref co)] [(.ref ch), (.ref a)])) rfl rfl (hb hby own_d13_14)
  replace F_channel_a := F_channel_a.same W5
  replace hk : _ ≤ h5.size := Nat.le_trans hk (Keep.of_wr W5).1
  replace F_targets_a := F_targets_a.other W5 (Or.inr (slot_ne (Or.inr (hw _ (List.mem_of_getElem? (i := 54) rfl))) (Or.inr (hw _ (List.mem_of_getElem? (i := 52) rfl))) (by decide) (t := (.object "java/util/Set")) (t' := (.object "com/example/lamassu/lamassu/model/Channel")) (by decide) (by decide)))
  replace F_conditions_a := F_conditions_a.other W5 (Or.inr (slot_ne (Or.inr (hw _ (List.mem_of_getElem? (i := 59) rfl))) (Or.inr (hw _ (List.mem_of_getElem? (i := 52) rfl))) (by decide) (t := (.object "com/example/lamassu/lamassu/model/Conditions")) (t' := (.object "com/example/lamassu/lamassu/model/Channel")) (by decide) (by decide)))
  replace E1 := E1.wr W5
  replace Eo := Eo.wr W5
  replace Ek := Ek.wr W5
  replace O := O.wr W5 g_a
  replace Kp := Kp.wr W5 (Or.inl (List.mem_of_getElem? (i := 0) rfl))
  replace N0 := Fr.snoc X5 N0 g_a
  refine Out.via (g' := (mkF m 17 #[.val (.ref a), .val (.ref ch), .val (.ref k), .val (.ref co)] [])) st5 ?_
  refine Out.via (g' := (mkF m 18 #[.val (.ref a), .val (.ref ch), .val (.ref k), .val (.ref co)] [(.ref a)])) (fun _ k => XS.aloadN X5.here hx rfl (hb hby own_d13_17) rfl rfl k) ?_
  refine Out.via (g' := (mkF m 19 #[.val (.ref a), .val (.ref ch), .val (.ref k), .val (.ref co)] [(.ref k), (.ref a)])) (fun _ k => XS.aloadN X5.here hx rfl (hb hby own_d13_18) rfl rfl k) ?_
  refine Out.via (g' := (mkF m 26 #[.val (.ref a), .val (.ref ch), .val (.ref k), .val (.ref co)] [(.ref a)])) (fun _ k => XS.ifnonnullYes X5.here hx rfl (pc0 := 19) (pc' := 26) rfl (hb hby own_d13_19) rfl (by decide) (by decide) k) ?_
  refine Out.via (g' := (mkF m 27 #[.val (.ref a), .val (.ref ch), .val (.ref k), .val (.ref co)] [(.ref k), (.ref a)])) (fun _ k => XS.aloadN X5.here hx rfl (hb hby own_d13_26) rfl rfl k) ?_
  obtain ⟨_, _, ⟨T6, L6, kc6, ks6⟩, -, X6, ⟨Lc6, hQ6, l6, y6, z6⟩, st6⟩ := Jvm.LawKit.callS X5 hx (y := (⟨"java/util/Set", "copyOf", "(Ljava/util/Collection;)Ljava/util/Set;"⟩ : MethodName)) hown (mvT hZ (hw _ (List.mem_of_getElem? (i := 111) rfl))) (mvT hZ (hw _ (List.mem_of_getElem? (i := 112) rfl))) (mvT hZ (hw _ (List.mem_of_getElem? (i := 74) rfl))) (mvT hZ (hw _ (List.mem_of_getElem? (i := 113) rfl))) (by decide) (backOf (W := 1) (own_rmCO l Z a0 hw [] k h5 n0 O Ek) hZ (hw _ (List.mem_of_getElem? (i := 113) rfl)) (hw _ (List.mem_of_getElem? (i := 74) rfl)) (by decide) (by decide)) (g := (mkF m 27 #[.val (.ref a), .val (.ref ch), .val (.ref k), .val (.ref co)] [(.ref k), (.ref a)])) rfl (by rw [hml]; rfl) (argsL := [(.ref k)]) (rest := [(.ref a)]) (lenOf own_pd16 rfl) rfl (by show 2 * 0 + _ ≤ _; exact Nat.le_of_eq rfl) (hb hby own_d13_27) (fun _ _ => ⟨rfl, e5, (by decide : 2 + 0 ≤ _), (by decide : 32 + 0 ≤ _)⟩)
  dsimp only [Pt.U, Pt.locs, Pt.cells, Pt.slots] at X6 l6 y6 z6 st6 hQ6
  subst l6 y6 z6
  obtain ⟨rfl, Nq6, eq6⟩ := hQ6
  replace N0 := Fr.app N0 Nq6
  refine Out.via (g' := (mkF m 30 #[.val (.ref a), .val (.ref ch), .val (.ref k), .val (.ref co)] [(.ref k), (.ref a)])) st6 ?_
  obtain ⟨T7, h7, X7, e7, W7, st7⟩ := putF X6 hx hZ hown (host := "") (Or.inl (hw _ (List.mem_of_getElem? (i := 53) rfl))) Via.refl eq6 F_targets_a E1 (Or.inr ⟨(hw _ (List.mem_of_getElem? (i := 54) rfl)), rfl, hnm⟩) (hw _ (List.mem_of_getElem? (i := 41) rfl)) (ty := (.object "java/util/Set")) (by decide) rfl rfl (g := (mkF m 30 #[.val (.ref a), .val (.ref ch), .val (.ref k), .val (.ref co)] [(.ref k), (.ref a)])) rfl rfl (hb hby own_d13_30)
  replace F_targets_a := F_targets_a.same W7
  replace hk : _ ≤ h7.size := Nat.le_trans hk (Keep.of_wr W7).1
  replace F_channel_a := F_channel_a.other W7 (Or.inr (slot_ne (Or.inr (hw _ (List.mem_of_getElem? (i := 52) rfl))) (Or.inr (hw _ (List.mem_of_getElem? (i := 54) rfl))) (by decide) (t := (.object "com/example/lamassu/lamassu/model/Channel")) (t' := (.object "java/util/Set")) (by decide) (by decide)))
  replace F_conditions_a := F_conditions_a.other W7 (Or.inr (slot_ne (Or.inr (hw _ (List.mem_of_getElem? (i := 59) rfl))) (Or.inr (hw _ (List.mem_of_getElem? (i := 54) rfl))) (by decide) (t := (.object "com/example/lamassu/lamassu/model/Conditions")) (t' := (.object "java/util/Set")) (by decide) (by decide)))
  replace E1 := E1.wr W7
  replace Eo := Eo.wr W7
  replace Ek := Ek.wr W7
  replace O := O.wr W7 g_a
  replace Kp := Kp.wr W7 (Or.inl (List.mem_of_getElem? (i := 0) rfl))
  replace N0 := Fr.snoc X7 N0 g_a
  refine Out.via (g' := (mkF m 33 #[.val (.ref a), .val (.ref ch), .val (.ref k), .val (.ref co)] [])) st7 ?_
  refine Out.via (g' := (mkF m 34 #[.val (.ref a), .val (.ref ch), .val (.ref k), .val (.ref co)] [(.ref a)])) (fun _ k => XS.aloadN X7.here hx rfl (hb hby own_d13_33) rfl rfl k) ?_
  refine Out.via (g' := (mkF m 35 #[.val (.ref a), .val (.ref ch), .val (.ref k), .val (.ref co)] [(.ref co), (.ref a)])) (fun _ k => XS.aloadN X7.here hx rfl (hb hby own_d13_34) rfl rfl k) ?_
  obtain ⟨lb, T8, h8, kk8, X8, e8, E8, hS, hk, hZ, hown, st8⟩ := ldcS X7 hx hZ hown (hw _ (List.mem_of_getElem? (i := 55) rfl)) wS e7 hS hk (g := (mkF m 35 #[.val (.ref a), .val (.ref ch), .val (.ref k), .val (.ref co)] [(.ref co), (.ref a)])) rfl (hb hby own_d13_35) (n := 40) (by decide) (by decide) (by decide) (by decide)
  replace F_channel_a := F_channel_a.ext E8
  replace F_targets_a := F_targets_a.ext E8
  replace F_conditions_a := F_conditions_a.ext E8
  replace E1 := E1.ext E8
  replace Eo := Eo.ext E8
  replace Ek := Ek.ext E8
  replace O := O.ext E8
  replace Kp := Kp.ext E8
  refine Out.via (g' := (mkF m 37 #[.val (.ref a), .val (.ref ch), .val (.ref k), .val (.ref co)] [(.ref lb), (.ref co), (.ref a)])) st8 ?_
  obtain ⟨_, _, ⟨T9, L9, kc9, ks9⟩, -, X9, ⟨Lc9, hQ9, l9, y9, z9⟩, st9⟩ := Jvm.LawKit.callS X8 hx (y := (⟨"java/util/Objects", "requireNonNull", "(Ljava/lang/Object;Ljava/lang/String;)Ljava/lang/Object;"⟩ : MethodName)) hown (mvT hZ (hw _ (List.mem_of_getElem? (i := 48) rfl))) (mvT hZ (hw _ (List.mem_of_getElem? (i := 31) rfl))) (mvT hZ (hw _ (List.mem_of_getElem? (i := 32) rfl))) (mvT hZ (hw _ (List.mem_of_getElem? (i := 33) rfl))) (by decide) (backOf (W := 1) (own_rmN2 l Z a0 hw [] co lb h8 n0 O) hZ (hw _ (List.mem_of_getElem? (i := 33) rfl)) (hw _ (List.mem_of_getElem? (i := 32) rfl)) (by decide) (by decide)) (g := (mkF m 37 #[.val (.ref a), .val (.ref ch), .val (.ref k), .val (.ref co)] [(.ref lb), (.ref co), (.ref a)])) rfl (by rw [hml]; rfl) (argsL := [(.ref co), (.ref lb)]) (rest := [(.ref a)]) (lenOf own_pd15 rfl) rfl (by show 2 * 0 + _ ≤ _; exact Nat.le_of_eq rfl) (hb hby own_d13_37) (fun _ _ => ⟨rfl, e8, (by decide : 4 + 0 ≤ _), (by decide : 76 + 0 ≤ _)⟩)
  dsimp only [Pt.U, Pt.locs, Pt.cells, Pt.slots] at X9 l9 y9 z9 st9 hQ9
  subst l9 y9 z9
  obtain ⟨rfl, Nq9, eq9⟩ := hQ9
  replace N0 := Fr.app N0 Nq9
  refine Out.via (g' := (mkF m 40 #[.val (.ref a), .val (.ref ch), .val (.ref k), .val (.ref co)] [(.ref co), (.ref a)])) st9 ?_
  obtain ⟨T10, X10, e10, st10⟩ := castY X9 hx hZ hown (hw _ (List.mem_of_getElem? (i := 56) rfl)) eq9 (Ins.self Eo) (g := (mkF m 40 #[.val (.ref a), .val (.ref ch), .val (.ref k), .val (.ref co)] [(.ref co), (.ref a)])) rfl rfl (hb hby own_d13_40)
  refine Out.via (g' := (mkF m 43 #[.val (.ref a), .val (.ref ch), .val (.ref k), .val (.ref co)] [(.ref co), (.ref a)])) st10 ?_
  obtain ⟨T11, h11, X11, e11, W11, st11⟩ := putF X10 hx hZ hown (host := "") (Or.inl (hw _ (List.mem_of_getElem? (i := 58) rfl))) Via.refl e10 F_conditions_a E1 (Or.inr ⟨(hw _ (List.mem_of_getElem? (i := 59) rfl)), rfl, hnm⟩) (hw _ (List.mem_of_getElem? (i := 41) rfl)) (ty := (.object "com/example/lamassu/lamassu/model/Conditions")) (by decide) rfl rfl (g := (mkF m 43 #[.val (.ref a), .val (.ref ch), .val (.ref k), .val (.ref co)] [(.ref co), (.ref a)])) rfl rfl (hb hby own_d13_43)
  replace F_conditions_a := F_conditions_a.same W11
  replace hk : _ ≤ h11.size := Nat.le_trans hk (Keep.of_wr W11).1
  replace F_channel_a := F_channel_a.other W11 (Or.inr (slot_ne (Or.inr (hw _ (List.mem_of_getElem? (i := 52) rfl))) (Or.inr (hw _ (List.mem_of_getElem? (i := 59) rfl))) (by decide) (t := (.object "com/example/lamassu/lamassu/model/Channel")) (t' := (.object "com/example/lamassu/lamassu/model/Conditions")) (by decide) (by decide)))
  replace F_targets_a := F_targets_a.other W11 (Or.inr (slot_ne (Or.inr (hw _ (List.mem_of_getElem? (i := 54) rfl))) (Or.inr (hw _ (List.mem_of_getElem? (i := 59) rfl))) (by decide) (t := (.object "java/util/Set")) (t' := (.object "com/example/lamassu/lamassu/model/Conditions")) (by decide) (by decide)))
  replace E1 := E1.wr W11
  replace Eo := Eo.wr W11
  replace Ek := Ek.wr W11
  replace O := O.wr W11 g_a
  replace Kp := Kp.wr W11 (Or.inl (List.mem_of_getElem? (i := 0) rfl))
  replace N0 := Fr.snoc X11 N0 g_a
  refine Out.via (g' := (mkF m 46 #[.val (.ref a), .val (.ref ch), .val (.ref k), .val (.ref co)] [])) st11 ?_
  exact Out.endW X11 hS (by rw [e11]; exact hk) (fun _ => rfl) Bd.notSynchronized (by decide) (by decide) (by rw [e11]; exact ⟨rfl, N0, Kp, E1, F_channel_a, F_targets_a⟩) (fun fs hr => X11.returnOut hx Bd.returns (hb hby own_d13_46) hr)
theorem own_pn17 : plainName "com/example/lamassu/lamassu/model/ListedTargetsGrantRequestKeysPinLaw" = true := by first | (simp [plainName, overriddenIn]; done) | decide +kernel
theorem own_d14_0 : decode method_2_code 0 = .ok (.iload_n 0, 1) := by decide +kernel
theorem own_d14_1 : decode method_2_code 1 = .ok (.ldc 7, 2) := by decide +kernel
theorem own_d14_3 : decode method_2_code 3 = .ok (.iand, 1) := by decide +kernel
theorem own_d14_4 : decode method_2_code 4 = .ok (.iconst 3, 1) := by decide +kernel
theorem own_d14_5 : decode method_2_code 5 = .ok (.irem, 1) := by decide +kernel
theorem own_d14_6 : decode method_2_code 6 = .ok (.istore_n 1, 1) := by decide +kernel
theorem own_d14_7 : decode method_2_code 7 = .ok (.iload_n 1, 1) := by decide +kernel
theorem own_d14_8 : decode method_2_code 8 = .ok (.ifCond .ne 7, 3) := by decide +kernel
theorem own_d14_11 : decode method_2_code 11 = .ok (.getstatic 8, 3) := by decide +kernel
theorem own_d14_14 : decode method_2_code 14 = .ok (.areturn, 1) := by decide +kernel
theorem own_d14_15 : decode method_2_code 15 = .ok (.iload_n 1, 1) := by decide +kernel
theorem own_d14_16 : decode method_2_code 16 = .ok (.iconst 1, 1) := by decide +kernel
theorem own_d14_17 : decode method_2_code 17 = .ok (.if_icmp .ne 7, 3) := by decide +kernel
theorem own_d14_20 : decode method_2_code 20 = .ok (.getstatic 14, 3) := by decide +kernel
theorem own_d14_23 : decode method_2_code 23 = .ok (.areturn, 1) := by decide +kernel
theorem own_d14_24 : decode method_2_code 24 = .ok (.getstatic 17, 3) := by decide +kernel
theorem own_d14_27 : decode method_2_code 27 = .ok (.areturn, 1) := by decide +kernel
theorem own_efP (m : MethodId) (x0 : Int32) : entryFrame m #[(.int x0)] 2 = mkF m 0 #[.val (.int x0), .unset] [] := by first | (simp [entryFrame, mkF, argsToLocals, Value.category]; done) | rfl
abbrev own_QP (Z : State) (p1 : Int32) (js ev ht : Addr) (h0 : Heap) (n0 : Nat) : Option Value → Heap → List Loc → Prop := fun v h L => (∃ c : Addr, v = some (.ref c) ∧ (c = js ∨ c = ev ∨ c = ht)) ∧ Fr n0 L ∧ h = h0
set_option maxRecDepth 65536 in
set_option maxHeartbeats 40000000 in
theorem own_rmP (l : Launch) (Z : State) (a0 : Array Value) (hw : ∀ d ∈ tables_1, d.before a0 Z = true) (ws : List Jvm.Cond) (p1 : Int32) (js ev ht : Addr) (h0 : Heap) (n0 : Nat) (O : Old Z n0 h0) (V_js : Sta Z Z.heap "com/example/lamassu/lamassu/model/Channel" "JS_INTERFACE" "Lcom/example/lamassu/lamassu/model/Channel;" (.ref js)) (V_ev : Sta Z Z.heap "com/example/lamassu/lamassu/model/Channel" "EVENT_HANDLER" "Lcom/example/lamassu/lamassu/model/Channel;" (.ref ev)) (V_ht : Sta Z Z.heap "com/example/lamassu/lamassu/model/Channel" "HTML5" "Lcom/example/lamassu/lamassu/model/Channel;" (.ref ht)) :
    MetFree l (⟨"com/example/lamassu/lamassu/model/ListedTargetsGrantRequestKeysPinLaw", "pick", "(I)Lcom/example/lamassu/lamassu/model/Channel;"⟩ : MethodName) (head1 (Jvm.Cond.code (⟨"com/example/lamassu/lamassu/model/ListedTargetsGrantRequestKeysPinLaw", "pick", "(I)Lcom/example/lamassu/lamassu/model/Channel;"⟩ : MethodName) method_2_code 2 (some (.object "com/example/lamassu/lamassu/model/Channel")) :: ws) ({ frames := 0, cells := 0, slots := 0, locals := 0 } : Room)) (fun aa U => aa = #[(.int p1)] ∧ Z.Warmed39 U.vm ∧ U.heap = h0) (fun _ _ _ _ _ => True) (fun _ U o U' => ∃ v L, o = .returned v ∧ (own_QP Z p1 js ev ht h0 n0) v U'.heap L ∧ FrameEnd U o U' L ({ frames := 0, cells := 0, slots := 0, locals := 0 } : Room).cells ({ frames := 0, cells := 0, slots := 0, locals := 0 } : Room).slots) := by
  refine MetFree.of_bodySF (plainFor_of_name own_pn17) hisR ?_
  intro p e s m args below meth c s₁ Bd hml0 hP hK
  obtain ⟨rfl, hZ, hh⟩ := hP
  have hx := Bd.exec
  have hby := Bd.bytes
  have hml : c.maxLocals = 2 := hml0
  have hown : s.vm.findClass "com/example/lamassu/lamassu/model/ListedTargetsGrantRequestKeysPinLaw" = some m.cls := findClass_of_methodNamed Bd.named
  have hnm := (name_of_methodNamed Bd.named Bd.method).1
  have X0 : Stand p l e ({ frames := 0, cells := 0, slots := 0, locals := 0 } : Room) s m #[(.int p1)] below meth c s₁ [] 0 0 := Stand.of_body Bd
  have e0 : s₁.heap = h0 := by rw [← hh, Bd.state]; rfl
  have N0 := Fr.nil n0
  refine Out.start (Q := own_QP Z p1 js ev ht h0 n0) (own_efP m p1 ) ?_
  refine Out.via (g' := (mkF m 1 #[.val (.int p1), .unset] [(.int p1)])) (fun _ k => XS.iloadN X0.here hx rfl (hb hby own_d14_0) rfl k) ?_
  refine Out.via (g' := (mkF m 3 #[.val (.int p1), .unset] [(.int (2147483647 : Int32)), (.int p1)])) (fun _ k => X0.ldcInt hx hown (mvT hZ (hw _ (List.mem_of_getElem? (i := 4) rfl))) (g := (mkF m 1 #[.val (.int p1), .unset] [(.int p1)])) rfl (hb hby own_d14_1) _ k) ?_
  refine Out.via (g' := (mkF m 4 #[.val (.int p1), .unset] [(.int (p1 &&& (2147483647 : Int32)))])) (fun _ k => XS.iand X0.here hx rfl (hb hby own_d14_3) rfl k) ?_
  refine Out.via (g' := (mkF m 5 #[.val (.int p1), .unset] [(.int (3 : Int32)), (.int (p1 &&& (2147483647 : Int32)))])) (fun _ k => XS.iconst X0.here hx rfl (hb hby own_d14_4) k) ?_
  refine Out.via (g' := (mkF m 6 #[.val (.int p1), .unset] [(.int ((p1 &&& (2147483647 : Int32)) % (3 : Int32)))])) (fun _ k => iremM (g := (mkF m 5 #[.val (.int p1), .unset] [(.int (3 : Int32)), (.int (p1 &&& (2147483647 : Int32)))])) X0 hx rfl (hb hby own_d14_5) rfl (by decide) k) ?_
  refine Out.via (g' := (mkF m 7 #[.val (.int p1), .val (.int ((p1 &&& (2147483647 : Int32)) % (3 : Int32)))] [])) (fun _ k => XS.istoreN X0.here hx rfl (hb hby own_d14_6) rfl (l' := #[.val (.int p1), .val (.int ((p1 &&& (2147483647 : Int32)) % (3 : Int32)))]) rfl k) ?_
  refine Out.via (g' := (mkF m 8 #[.val (.int p1), .val (.int ((p1 &&& (2147483647 : Int32)) % (3 : Int32)))] [(.int ((p1 &&& (2147483647 : Int32)) % (3 : Int32)))])) (fun _ k => XS.iloadN X0.here hx rfl (hb hby own_d14_7) rfl k) ?_
  by_cases hz : ((p1 &&& (2147483647 : Int32)) % (3 : Int32)) = (0 : Int32)
  · refine Out.via (g' := (mkF m 11 #[.val (.int p1), .val (.int ((p1 &&& (2147483647 : Int32)) % (3 : Int32)))] [])) (fun _ k => XS.ifNo X0.here hx rfl (hb hby own_d14_8) rfl ((if0 _ _).trans (teq hz).2) k) ?_
    obtain ⟨T1, X1, e1, st1⟩ := getS2 X0 hx hZ hown (host := "") (Or.inl (hw _ (List.mem_of_getElem? (i := 5) rfl))) Via.refl e0 (V_js.ext O.2) (g := (mkF m 11 #[.val (.int p1), .val (.int ((p1 &&& (2147483647 : Int32)) % (3 : Int32)))] [])) rfl (hb hby own_d14_11)
    refine Out.via (g' := (mkF m 14 #[.val (.int p1), .val (.int ((p1 &&& (2147483647 : Int32)) % (3 : Int32)))] [(.ref js)])) st1 ?_
    exact Out.endN X1 (fun h => by rw [Bd.returns] at h; cases h) Bd.notSynchronized (by decide) (by decide) (by rw [e1]; exact ⟨⟨_, rfl, Or.inl rfl⟩, N0, rfl⟩) (fun fs hr => own_retR X1 hx (t := (.object "com/example/lamassu/lamassu/model/Channel")) Bd.returns rfl rfl rfl (hb hby own_d14_14) hr)
  · refine Out.via (g' := (mkF m 15 #[.val (.int p1), .val (.int ((p1 &&& (2147483647 : Int32)) % (3 : Int32)))] [])) (fun _ k => XS.ifYes X0.here hx rfl (pc0 := 8) (pc' := 15) rfl (hb hby own_d14_8) rfl ((if0 _ _).trans (feq hz).2) (by decide) (by decide) k) ?_
    refine Out.via (g' := (mkF m 16 #[.val (.int p1), .val (.int ((p1 &&& (2147483647 : Int32)) % (3 : Int32)))] [(.int ((p1 &&& (2147483647 : Int32)) % (3 : Int32)))])) (fun _ k => XS.iloadN X0.here hx rfl (hb hby own_d14_15) rfl k) ?_
    refine Out.via (g' := (mkF m 17 #[.val (.int p1), .val (.int ((p1 &&& (2147483647 : Int32)) % (3 : Int32)))] [(.int (1 : Int32)), (.int ((p1 &&& (2147483647 : Int32)) % (3 : Int32)))])) (fun _ k => XS.iconst X0.here hx rfl (hb hby own_d14_16) k) ?_
    by_cases hy : ((p1 &&& (2147483647 : Int32)) % (3 : Int32)) = (1 : Int32)
    · refine Out.via (g' := (mkF m 20 #[.val (.int p1), .val (.int ((p1 &&& (2147483647 : Int32)) % (3 : Int32)))] [])) (fun _ k => XS.icmpNo X0.here hx rfl (hb hby own_d14_17) rfl (teq hy).2 k) ?_
      obtain ⟨T1, X1, e1, st1⟩ := getS2 X0 hx hZ hown (host := "") (Or.inl (hw _ (List.mem_of_getElem? (i := 140) rfl))) Via.refl e0 (V_ev.ext O.2) (g := (mkF m 20 #[.val (.int p1), .val (.int ((p1 &&& (2147483647 : Int32)) % (3 : Int32)))] [])) rfl (hb hby own_d14_20)
      refine Out.via (g' := (mkF m 23 #[.val (.int p1), .val (.int ((p1 &&& (2147483647 : Int32)) % (3 : Int32)))] [(.ref ev)])) st1 ?_
      exact Out.endN X1 (fun h => by rw [Bd.returns] at h; cases h) Bd.notSynchronized (by decide) (by decide) (by rw [e1]; exact ⟨⟨_, rfl, Or.inr (Or.inl rfl)⟩, N0, rfl⟩) (fun fs hr => own_retR X1 hx (t := (.object "com/example/lamassu/lamassu/model/Channel")) Bd.returns rfl rfl rfl (hb hby own_d14_23) hr)
    · refine Out.via (g' := (mkF m 24 #[.val (.int p1), .val (.int ((p1 &&& (2147483647 : Int32)) % (3 : Int32)))] [])) (fun _ k => XS.icmpYes X0.here hx rfl (pc0 := 17) (pc' := 24) rfl (hb hby own_d14_17) rfl (feq hy).2 (by decide) (by decide) k) ?_
      obtain ⟨T1, X1, e1, st1⟩ := getS2 X0 hx hZ hown (host := "") (Or.inl (hw _ (List.mem_of_getElem? (i := 155) rfl))) Via.refl e0 (V_ht.ext O.2) (g := (mkF m 24 #[.val (.int p1), .val (.int ((p1 &&& (2147483647 : Int32)) % (3 : Int32)))] [])) rfl (hb hby own_d14_24)
      refine Out.via (g' := (mkF m 27 #[.val (.int p1), .val (.int ((p1 &&& (2147483647 : Int32)) % (3 : Int32)))] [(.ref ht)])) st1 ?_
      exact Out.endN X1 (fun h => by rw [Bd.returns] at h; cases h) Bd.notSynchronized (by decide) (by decide) (by rw [e1]; exact ⟨⟨_, rfl, Or.inr (Or.inr rfl)⟩, N0, rfl⟩) (fun fs hr => own_retR X1 hx (t := (.object "com/example/lamassu/lamassu/model/Channel")) Bd.returns rfl rfl rfl (hb hby own_d14_27) hr)
/-- a channel: its keyword's String, and what that spells -/
def own_Ch (Z : State) (c w : Addr) (cs : List Int32) : Prop := Exa Z Z.heap c "com/example/lamassu/lamassu/model/Channel" ∧ Fld Z Z.heap c "com/example/lamassu/lamassu/model/Channel" "keyword" "Ljava/lang/String;" (.ref w) ∧ own_Str Z Z.heap w cs ∧ cs.length ≤ 4000
theorem own_any {Z : State} {js ev ht wj we wh : Addr} {cj ce chh : List Int32} (Cj : own_Ch Z js wj cj) (Ce : own_Ch Z ev we ce) (Ct : own_Ch Z ht wh chh) {c : Addr} (h : c = js ∨ c = ev ∨ c = ht) : ∃ (w : Addr) (cs : List Int32), own_Ch Z c w cs ∧ ((c = js ∧ cs = cj) ∨ (c = ev ∧ cs = ce) ∨ (c = ht ∧ cs = chh)) := by
  rcases h with rfl | rfl | rfl
  · exact ⟨wj, cj, Cj, Or.inl ⟨rfl, rfl⟩⟩
  · exact ⟨we, ce, Ce, Or.inr (Or.inl ⟨rfl, rfl⟩)⟩
  · exact ⟨wh, chh, Ct, Or.inr (Or.inr ⟨rfl, rfl⟩)⟩
theorem own_iff {js ev ht c d : Addr} {cj ce chh cs ds : List Int32} (h1 : cj ≠ ce) (h2 : cj ≠ chh) (h3 : ce ≠ chh) (n1 : js ≠ ev) (n2 : js ≠ ht) (n3 : ev ≠ ht) (hc : (c = js ∧ cs = cj) ∨ (c = ev ∧ cs = ce) ∨ (c = ht ∧ cs = chh)) (hd : (d = js ∧ ds = cj) ∨ (d = ev ∧ ds = ce) ∨ (d = ht ∧ ds = chh)) : (c = d ↔ ds = cs) := by
  rcases hc with ⟨rfl, rfl⟩ | ⟨rfl, rfl⟩ | ⟨rfl, rfl⟩ <;> rcases hd with ⟨rfl, rfl⟩ | ⟨rfl, rfl⟩ | ⟨rfl, rfl⟩ <;> first | exact ⟨fun _ => rfl, fun _ => rfl⟩ | (constructor <;> intro q <;> exfalso <;> first | exact n1 q | exact n1 q.symm | exact n2 q | exact n2 q.symm | exact n3 q | exact n3 q.symm | exact h1 q | exact h1 q.symm | exact h2 q | exact h2 q.symm | exact h3 q | exact h3 q.symm)
theorem own_pd18 : parseMethodDescriptor "(I)Lcom/example/lamassu/lamassu/model/Channel;" = some ⟨[.int], some (.object "com/example/lamassu/lamassu/model/Channel")⟩ := by decide +kernel
theorem own_pd19 : parseMethodDescriptor "(Ljava/util/Set;Lcom/example/lamassu/lamassu/model/DecisionPoint;Ljava/lang/String;)V" = some ⟨[(.object "java/util/Set"), (.object "com/example/lamassu/lamassu/model/DecisionPoint"), (.object "java/lang/String")], none⟩ := by decide +kernel
theorem own_pd20 : parseMethodDescriptor "(Lcom/example/lamassu/lamassu/model/Channel;Ljava/util/Set;Lcom/example/lamassu/lamassu/model/Conditions;)V" = some ⟨[(.object "com/example/lamassu/lamassu/model/Channel"), (.object "java/util/Set"), (.object "com/example/lamassu/lamassu/model/Conditions")], none⟩ := by decide +kernel
theorem own_pd21 : parseMethodDescriptor "()Ljava/util/Set;" = some ⟨[], some (.object "java/util/Set")⟩ := by decide +kernel
theorem own_pd22 : parseMethodDescriptor "()I" = some ⟨[], some .int⟩ := by decide +kernel
theorem own_ef0 (m : MethodId) (x0 : Int32) (x1 : Int32) (x2 : Int32) : entryFrame m #[(.int x0), (.int x1), (.int x2)] maxLocals = mkF m 0 #[.val (.int x0), .val (.int x1), .val (.int x2), .unset, .unset, .unset, .unset, .unset, .unset, .unset, .unset, .unset, .unset, .unset, .unset] [] := by first | (simp [entryFrame, mkF, argsToLocals, Value.category, maxLocals]; done) | rfl
set_option maxRecDepth 65536 in
set_option maxHeartbeats 40000000 in
theorem own_rm0 (l : Launch) (Z : State) (a0 : Array Value) (hw : ∀ d ∈ tables_1, d.before a0 Z = true) (ws : List Jvm.Cond) (p0 p1 p2 : Int32) (js ev ht us sy wj we wh em : Addr) (cj ce chh : List Int32) (G1 : Int32) (h0 : Heap) (n0 : Nat) (O : Old Z n0 h0) (V_js : Sta Z Z.heap "com/example/lamassu/lamassu/model/Channel" "JS_INTERFACE" "Lcom/example/lamassu/lamassu/model/Channel;" (.ref js)) (V_ev : Sta Z Z.heap "com/example/lamassu/lamassu/model/Channel" "EVENT_HANDLER" "Lcom/example/lamassu/lamassu/model/Channel;" (.ref ev)) (V_ht : Sta Z Z.heap "com/example/lamassu/lamassu/model/Channel" "HTML5" "Lcom/example/lamassu/lamassu/model/Channel;" (.ref ht)) (V_us : Sta Z Z.heap "com/example/lamassu/lamassu/model/DecisionPoint" "USER" "Lcom/example/lamassu/lamassu/model/DecisionPoint;" (.ref us)) (V_sy : Sta Z Z.heap "com/example/lamassu/lamassu/model/DecisionPoint" "SYSTEM" "Lcom/example/lamassu/lamassu/model/DecisionPoint;" (.ref sy)) (E_us : Exa Z Z.heap us "com/example/lamassu/lamassu/model/DecisionPoint") (E_sy : Exa Z Z.heap sy "com/example/lamassu/lamassu/model/DecisionPoint") (Cj : own_Ch Z js wj cj) (Ce : own_Ch Z ev we ce) (Ct : own_Ch Z ht wh chh) (h1 : cj ≠ ce) (h2 : cj ≠ chh) (h3 : ce ≠ chh) (n1 : js ≠ ev) (n2 : js ≠ ht) (n3 : ev ≠ ht) (OE : Sta Z Z.heap "java/util/ImmutableCollections" "EMPTY" "Ljava/lang/Object;" (.ref em)) (Ee : Exa Z Z.heap em "java/lang/Object") (O2 : Sta Z Z.heap "java/lang/String" "COMPACT_STRINGS" "Z" (.int G1)) (P5 : ¬ (G1 = (0 : Int32))) :
    MetFree l x (head1 (Jvm.Cond.code x code maxLocals ret :: ws) room_1) (fun aa U => aa = #[(.int p0), (.int p1), (.int p2)] ∧ Z.Warmed39 U.vm ∧ U.heap = h0) (fun _ _ _ _ _ => True) (fun _ U o U' => ∃ v L, o = .returned v ∧ (fun v h L => v = some (.int (1 : Int32)) ∧ Fr n0 L) v U'.heap L ∧ ReturnedEndW U o U' L room_1.cells room_1.slots) := by
  refine MetFree.of_bodySF (plainFor_of_name own_pn17) hisR ?_
  intro p e s m args below meth c s₁ Bd hml0 hP hK
  obtain ⟨rfl, hZ, hh⟩ := hP
  have hx := Bd.exec
  have hby := Bd.bytes
  have hml : c.maxLocals = 15 := hml0
  have hown : s.vm.findClass "com/example/lamassu/lamassu/model/ListedTargetsGrantRequestKeysPinLaw" = some m.cls := findClass_of_methodNamed Bd.named
  have hnm := (name_of_methodNamed Bd.named Bd.method).1
  have X0 : Stand p l e room_1 (s.setVm s.vm) m #[(.int p0), (.int p1), (.int p2)] below meth c s₁ [] 0 0 := Stand.of_body Bd
  have e0 : s₁.heap = h0 := by rw [← hh, Bd.state]; rfl
  have N0 := Fr.nil n0
  have hS := own_since0 s 0
  have hk : 0 ≤ h0.size := Nat.zero_le _
  refine Out.startW (Q := fun v h L => v = some (.int (1 : Int32)) ∧ Fr n0 L) (own_ef0 m p0 p1 p2 ) ?_
  refine Out.via (g' := (mkF m 1 #[.val (.int p0), .val (.int p1), .val (.int p2), .unset, .unset, .unset, .unset, .unset, .unset, .unset, .unset, .unset, .unset, .unset, .unset] [(.int p0)])) (fun _ k => XS.iloadN X0.here hx rfl (hb hby at_0) rfl k) ?_
  obtain ⟨_, _, ⟨T1, L1, kc1, ks1⟩, -, X1, ⟨Lc1, hQ1, l1, y1, z1⟩, st1⟩ := Jvm.LawKit.callS X0 hx (y := (⟨"com/example/lamassu/lamassu/model/ListedTargetsGrantRequestKeysPinLaw", "pick", "(I)Lcom/example/lamassu/lamassu/model/Channel;"⟩ : MethodName)) hown (mvT hZ (hw _ (List.mem_of_getElem? (i := 0) rfl))) (mvT hZ (hw _ (List.mem_of_getElem? (i := 1) rfl))) (mvT hZ (hw _ (List.mem_of_getElem? (i := 2) rfl))) (mvT hZ (hw _ (List.mem_of_getElem? (i := 3) rfl))) (by decide) (backOf (W := 0) (own_rmP l Z a0 hw [] p0 js ev ht h0 n0 O V_js V_ev V_ht) hZ (hw _ (List.mem_of_getElem? (i := 3) rfl)) (hw _ (List.mem_of_getElem? (i := 2) rfl)) (by decide) (by decide)) (g := (mkF m 1 #[.val (.int p0), .val (.int p1), .val (.int p2), .unset, .unset, .unset, .unset, .unset, .unset, .unset, .unset, .unset, .unset, .unset, .unset] [(.int p0)])) rfl (by rw [hml]; rfl) (argsL := [(.int p0)]) (rest := []) (lenOf own_pd18 rfl) rfl (by show 2 * 0 + _ ≤ _; exact Nat.le_of_eq rfl) (hb hby at_1) (fun _ _ => ⟨rfl, e0, (by decide : 0 + 0 ≤ _), (by decide : 0 + 0 ≤ _)⟩)
  dsimp only [Pt.U, Pt.locs, Pt.cells, Pt.slots] at X1 l1 y1 z1 st1 hQ1
  subst l1 y1 z1
  obtain ⟨⟨c1, rfl, hc1⟩, Nq1, eq1⟩ := hQ1
  replace N0 := Fr.app N0 Nq1
  obtain ⟨w1, s1, C1, t1⟩ := own_any Cj Ce Ct hc1
  refine Out.via (g' := (mkF m 4 #[.val (.int p0), .val (.int p1), .val (.int p2), .unset, .unset, .unset, .unset, .unset, .unset, .unset, .unset, .unset, .unset, .unset, .unset] [(.ref c1)])) st1 ?_
  refine Out.via (g' := (mkF m 5 #[.val (.int p0), .val (.int p1), .val (.int p2), .val (.ref c1), .unset, .unset, .unset, .unset, .unset, .unset, .unset, .unset, .unset, .unset, .unset] [])) (fun _ k => XS.astoreN X1.here hx rfl (hb hby at_4) rfl rfl (l' := #[.val (.int p0), .val (.int p1), .val (.int p2), .val (.ref c1), .unset, .unset, .unset, .unset, .unset, .unset, .unset, .unset, .unset, .unset, .unset]) rfl k) ?_
  refine Out.via (g' := (mkF m 6 #[.val (.int p0), .val (.int p1), .val (.int p2), .val (.ref c1), .unset, .unset, .unset, .unset, .unset, .unset, .unset, .unset, .unset, .unset, .unset] [(.int p1)])) (fun _ k => XS.iloadN X1.here hx rfl (hb hby at_5) rfl k) ?_
  obtain ⟨_, _, ⟨T2, L2, kc2, ks2⟩, -, X2, ⟨Lc2, hQ2, l2, y2, z2⟩, st2⟩ := Jvm.LawKit.callS X1 hx (y := (⟨"com/example/lamassu/lamassu/model/ListedTargetsGrantRequestKeysPinLaw", "pick", "(I)Lcom/example/lamassu/lamassu/model/Channel;"⟩ : MethodName)) hown (mvT hZ (hw _ (List.mem_of_getElem? (i := 0) rfl))) (mvT hZ (hw _ (List.mem_of_getElem? (i := 1) rfl))) (mvT hZ (hw _ (List.mem_of_getElem? (i := 2) rfl))) (mvT hZ (hw _ (List.mem_of_getElem? (i := 3) rfl))) (by decide) (backOf (W := 0) (own_rmP l Z a0 hw [] p1 js ev ht h0 n0 O V_js V_ev V_ht) hZ (hw _ (List.mem_of_getElem? (i := 3) rfl)) (hw _ (List.mem_of_getElem? (i := 2) rfl)) (by decide) (by decide)) (g := (mkF m 6 #[.val (.int p0), .val (.int p1), .val (.int p2), .val (.ref c1), .unset, .unset, .unset, .unset, .unset, .unset, .unset, .unset, .unset, .unset, .unset] [(.int p1)])) rfl (by rw [hml]; rfl) (argsL := [(.int p1)]) (rest := []) (lenOf own_pd18 rfl) rfl (by show 2 * 0 + _ ≤ _; exact Nat.le_of_eq rfl) (hb hby at_6) (fun _ _ => ⟨rfl, eq1, (by decide : 0 + 0 ≤ _), (by decide : 0 + 0 ≤ _)⟩)
  dsimp only [Pt.U, Pt.locs, Pt.cells, Pt.slots] at X2 l2 y2 z2 st2 hQ2
  subst l2 y2 z2
  obtain ⟨⟨c2, rfl, hc2⟩, Nq2, eq2⟩ := hQ2
  replace N0 := Fr.app N0 Nq2
  obtain ⟨w2, s2, C2, t2⟩ := own_any Cj Ce Ct hc2
  refine Out.via (g' := (mkF m 9 #[.val (.int p0), .val (.int p1), .val (.int p2), .val (.ref c1), .unset, .unset, .unset, .unset, .unset, .unset, .unset, .unset, .unset, .unset, .unset] [(.ref c2)])) st2 ?_
  have hiff := own_iff h1 h2 h3 n1 n2 n3 t1 t2
  refine Out.via (g' := (mkF m 11 #[.val (.int p0), .val (.int p1), .val (.int p2), .val (.ref c1), .val (.ref c2), .unset, .unset, .unset, .unset, .unset, .unset, .unset, .unset, .unset, .unset] [])) (fun _ k => XS.astore X2.here hx rfl (hb hby at_9) rfl rfl (l' := #[.val (.int p0), .val (.int p1), .val (.int p2), .val (.ref c1), .val (.ref c2), .unset, .unset, .unset, .unset, .unset, .unset, .unset, .unset, .unset, .unset]) rfl k) ?_
  refine Out.via (g' := (mkF m 12 #[.val (.int p0), .val (.int p1), .val (.int p2), .val (.ref c1), .val (.ref c2), .unset, .unset, .unset, .unset, .unset, .unset, .unset, .unset, .unset, .unset] [(.int p2)])) (fun _ k => XS.iloadN X2.here hx rfl (hb hby at_11) rfl k) ?_
  refine Out.via (g' := (mkF m 13 #[.val (.int p0), .val (.int p1), .val (.int p2), .val (.ref c1), .val (.ref c2), .unset, .unset, .unset, .unset, .unset, .unset, .unset, .unset, .unset, .unset] [(.int (1 : Int32)), (.int p2)])) (fun _ k => XS.iconst X2.here hx rfl (hb hby at_12) k) ?_
  refine Out.via (g' := (mkF m 14 #[.val (.int p0), .val (.int p1), .val (.int p2), .val (.ref c1), .val (.ref c2), .unset, .unset, .unset, .unset, .unset, .unset, .unset, .unset, .unset, .unset] [(.int (p2 &&& (1 : Int32)))])) (fun _ k => XS.iand X2.here hx rfl (hb hby at_13) rfl k) ?_
  suffices rest : ∀ (T' : State) (dp : Addr), T'.heap = h0 → Exa Z Z.heap dp "com/example/lamassu/lamassu/model/DecisionPoint" → Stand p l e room_1 (s.setVm s.vm) m #[(.int p0), (.int p1), (.int p2)] below meth c T' _ _ _ → RoadKit.Out p.tables e below (EndW s below (fun v h L => v = some (.int (1 : Int32)) ∧ Fr n0 L) room_1.cells room_1.slots) T' (mkF m 26 #[.val (.int p0), .val (.int p1), .val (.int p2), .val (.ref c1), .val (.ref c2), .unset, .unset, .unset, .unset, .unset, .unset, .unset, .unset, .unset, .unset] [(.ref dp)]) by
    by_cases hf : (p2 &&& (1 : Int32)) = (0 : Int32)
    · refine Out.via (g' := (mkF m 23 #[.val (.int p0), .val (.int p1), .val (.int p2), .val (.ref c1), .val (.ref c2), .unset, .unset, .unset, .unset, .unset, .unset, .unset, .unset, .unset, .unset] [])) (fun _ k => XS.ifYes X2.here hx rfl (pc0 := 14) (pc' := 23) rfl (hb hby at_14) rfl ((if0 _ _).trans (teq hf).1) (by decide) (by decide) k) ?_
      obtain ⟨T3, X3, e3, st3⟩ := getS2 X2 hx hZ hown (host := "") (Or.inl (hw _ (List.mem_of_getElem? (i := 8) rfl))) Via.refl eq2 (V_sy.ext O.2) (g := (mkF m 23 #[.val (.int p0), .val (.int p1), .val (.int p2), .val (.ref c1), .val (.ref c2), .unset, .unset, .unset, .unset, .unset, .unset, .unset, .unset, .unset, .unset] [])) rfl (hb hby at_23)
      refine Out.via (g' := (mkF m 26 #[.val (.int p0), .val (.int p1), .val (.int p2), .val (.ref c1), .val (.ref c2), .unset, .unset, .unset, .unset, .unset, .unset, .unset, .unset, .unset, .unset] [(.ref sy)])) st3 ?_
      exact rest _ _ e3 E_sy X3
    · refine Out.via (g' := (mkF m 17 #[.val (.int p0), .val (.int p1), .val (.int p2), .val (.ref c1), .val (.ref c2), .unset, .unset, .unset, .unset, .unset, .unset, .unset, .unset, .unset, .unset] [])) (fun _ k => XS.ifNo X2.here hx rfl (hb hby at_14) rfl ((if0 _ _).trans (feq hf).1) k) ?_
      obtain ⟨T3, X3, e3, st3⟩ := getS2 X2 hx hZ hown (host := "") (Or.inl (hw _ (List.mem_of_getElem? (i := 142) rfl))) Via.refl eq2 (V_us.ext O.2) (g := (mkF m 17 #[.val (.int p0), .val (.int p1), .val (.int p2), .val (.ref c1), .val (.ref c2), .unset, .unset, .unset, .unset, .unset, .unset, .unset, .unset, .unset, .unset] [])) rfl (hb hby at_17)
      refine Out.via (g' := (mkF m 20 #[.val (.int p0), .val (.int p1), .val (.int p2), .val (.ref c1), .val (.ref c2), .unset, .unset, .unset, .unset, .unset, .unset, .unset, .unset, .unset, .unset] [(.ref us)])) st3 ?_
      refine Out.via (g' := (mkF m 26 #[.val (.int p0), .val (.int p1), .val (.int p2), .val (.ref c1), .val (.ref c2), .unset, .unset, .unset, .unset, .unset, .unset, .unset, .unset, .unset, .unset] [(.ref us)])) (fun _ k => XS.goto X3.here hx rfl (pc0 := 20) (pc' := 26) rfl (hb hby at_20) (by decide) (by decide) k) ?_
      exact rest _ _ e3 E_us X3
  intro Td dp ed Ed Xd
  refine Out.via (g' := (mkF m 28 #[.val (.int p0), .val (.int p1), .val (.int p2), .val (.ref c1), .val (.ref c2), .val (.ref dp), .unset, .unset, .unset, .unset, .unset, .unset, .unset, .unset, .unset] [])) (fun _ k => XS.astore Xd.here hx rfl (hb hby at_26) rfl rfl (l' := #[.val (.int p0), .val (.int p1), .val (.int p2), .val (.ref c1), .val (.ref c2), .val (.ref dp), .unset, .unset, .unset, .unset, .unset, .unset, .unset, .unset, .unset]) rfl k) ?_
  obtain ⟨T3, h3, X3, e3, E3, A3, D3, -, st3⟩ := newO Xd hx hZ hown (hw _ (List.mem_of_getElem? (i := 11) rfl)) (hw _ (List.mem_of_getElem? (i := 12) rfl)) (hw _ (List.mem_of_getElem? (i := 13) rfl)) ed (g := (mkF m 28 #[.val (.int p0), .val (.int p1), .val (.int p2), .val (.ref c1), .val (.ref c2), .val (.ref dp), .unset, .unset, .unset, .unset, .unset, .unset, .unset, .unset, .unset] [])) rfl (hb hby at_28) (by decide) (by decide)
  obtain ⟨co, gq3⟩ : ∃ z, z = h0.size := ⟨_, rfl⟩
  rw [← gq3] at A3 D3 st3
  have g_co : n0 ≤ co := Nat.le_trans (own_z0 O) (Nat.le_of_eq gq3.symm)
  replace O := O.ext E3
  replace hk := Nat.le_trans hk E3.1
  have F_permissions_co : Fld Z h3 co "com/example/lamassu/lamassu/model/Conditions" "permissions" "Ljava/util/Set;" .null := D3 (Or.inr (hw _ (List.mem_of_getElem? (i := 21) rfl))) (ty := (.object "java/util/Set")) (by decide)
  have F_decisionPoint_co : Fld Z h3 co "com/example/lamassu/lamassu/model/Conditions" "decisionPoint" "Lcom/example/lamassu/lamassu/model/DecisionPoint;" .null := D3 (Or.inr (hw _ (List.mem_of_getElem? (i := 37) rfl))) (ty := (.object "com/example/lamassu/lamassu/model/DecisionPoint")) (by decide)
  have F_description_co : Fld Z h3 co "com/example/lamassu/lamassu/model/Conditions" "description" "Ljava/lang/String;" .null := D3 (Or.inr (hw _ (List.mem_of_getElem? (i := 39) rfl))) (ty := (.object "java/lang/String")) (by decide)
  refine Out.via (g' := (mkF m 31 #[.val (.int p0), .val (.int p1), .val (.int p2), .val (.ref c1), .val (.ref c2), .val (.ref dp), .unset, .unset, .unset, .unset, .unset, .unset, .unset, .unset, .unset] [(.ref co)])) st3 ?_
  refine Out.via (g' := (mkF m 32 #[.val (.int p0), .val (.int p1), .val (.int p2), .val (.ref c1), .val (.ref c2), .val (.ref dp), .unset, .unset, .unset, .unset, .unset, .unset, .unset, .unset, .unset] [(.ref co), (.ref co)])) (fun _ k => XS.dup X3.here hx rfl (hb hby at_31) rfl rfl k) ?_
  refine Out.via (g' := (mkF m 33 #[.val (.int p0), .val (.int p1), .val (.int p2), .val (.ref c1), .val (.ref c2), .val (.ref dp), .unset, .unset, .unset, .unset, .unset, .unset, .unset, .unset, .unset] [.null, (.ref co), (.ref co)])) (fun _ k => XS.aconstNull X3.here hx rfl (hb hby at_32) k) ?_
  refine Out.via (g' := (mkF m 35 #[.val (.int p0), .val (.int p1), .val (.int p2), .val (.ref c1), .val (.ref c2), .val (.ref dp), .unset, .unset, .unset, .unset, .unset, .unset, .unset, .unset, .unset] [(.ref dp), .null, (.ref co), (.ref co)])) (fun _ k => XS.aload X3.here hx rfl (hb hby at_33) rfl rfl k) ?_
  refine Out.via (g' := (mkF m 36 #[.val (.int p0), .val (.int p1), .val (.int p2), .val (.ref c1), .val (.ref c2), .val (.ref dp), .unset, .unset, .unset, .unset, .unset, .unset, .unset, .unset, .unset] [.null, (.ref dp), .null, (.ref co), (.ref co)])) (fun _ k => XS.aconstNull X3.here hx rfl (hb hby at_35) k) ?_
  obtain ⟨_, _, ⟨T4, L4, kc4, ks4⟩, -, X4, hS4, hg4, ⟨Lc4, hQ4, l4, y4, z4⟩, st4⟩ := X3.specialBackS hx (y := (⟨"com/example/lamassu/lamassu/model/Conditions", "<init>", "(Ljava/util/Set;Lcom/example/lamassu/lamassu/model/DecisionPoint;Ljava/lang/String;)V"⟩ : MethodName)) rfl hown (mvT hZ (hw _ (List.mem_of_getElem? (i := 14) rfl))) (mvT hZ (hw _ (List.mem_of_getElem? (i := 15) rfl))) (mvT hZ (hw _ (List.mem_of_getElem? (i := 16) rfl))) (by decide) (backOfS (W := 1) (own_rmC l Z a0 hw [] co dp h3 n0 O g_co A3 F_permissions_co F_decisionPoint_co F_description_co Ed) hZ (hw _ (List.mem_of_getElem? (i := 16) rfl)) (hw _ (List.mem_of_getElem? (i := 13) rfl)) (by decide) (by decide)) (g := (mkF m 36 #[.val (.int p0), .val (.int p1), .val (.int p2), .val (.ref c1), .val (.ref c2), .val (.ref dp), .unset, .unset, .unset, .unset, .unset, .unset, .unset, .unset, .unset] [.null, (.ref dp), .null, (.ref co), (.ref co)])) rfl (by rw [hml]; rfl) (Steps.refl _) (a := co) (argsL := [.null, (.ref dp), .null]) (rest := [(.ref co)]) (lenOf own_pd19 rfl) rfl (by show 2 * 0 + _ ≤ _; exact Nat.le_of_eq rfl) (hb hby at_36) (fun _ _ => ⟨rfl, e3, (by decide : 1 + 2 ≤ _), (by decide : 3 + 56 ≤ _)⟩)
  dsimp only [Pt.U, Pt.locs, Pt.cells, Pt.slots] at X4 l4 y4 z4 st4 hQ4 hS4 hg4
  subst l4 y4 z4
  rw [e3] at hg4
  obtain ⟨X4, hS, hZ, hown⟩ := rebS hS hk X4 hS4 hg4 hZ hown
  replace hk := Nat.le_refl T4.heap.size
  obtain ⟨rfl, Nq4, Kq4, E_co⟩ := hQ4
  replace N0 := Fr.app N0 Nq4
  replace O := O.keep Kq4 (allS g_co all0)
  refine Out.to (g' := (mkF m 39 #[.val (.int p0), .val (.int p1), .val (.int p2), .val (.ref c1), .val (.ref c2), .val (.ref dp), .unset, .unset, .unset, .unset, .unset, .unset, .unset, .unset, .unset] [(.ref co)])) st4 ?_
  refine Out.via (g' := (mkF m 41 #[.val (.int p0), .val (.int p1), .val (.int p2), .val (.ref c1), .val (.ref c2), .val (.ref dp), .val (.ref co), .unset, .unset, .unset, .unset, .unset, .unset, .unset, .unset] [])) (fun _ k => XS.astore X4.here hx rfl (hb hby at_39) rfl rfl (l' := #[.val (.int p0), .val (.int p1), .val (.int p2), .val (.ref c1), .val (.ref c2), .val (.ref dp), .val (.ref co), .unset, .unset, .unset, .unset, .unset, .unset, .unset, .unset]) rfl k) ?_
  obtain ⟨T5, h5, X5, e5, E5, A5, D5, -, st5⟩ := newO X4 hx hZ hown (hw _ (List.mem_of_getElem? (i := 40) rfl)) (hw _ (List.mem_of_getElem? (i := 41) rfl)) (hw _ (List.mem_of_getElem? (i := 42) rfl)) rfl (g := (mkF m 41 #[.val (.int p0), .val (.int p1), .val (.int p2), .val (.ref c1), .val (.ref c2), .val (.ref dp), .val (.ref co), .unset, .unset, .unset, .unset, .unset, .unset, .unset, .unset] [])) rfl (hb hby at_41) (by decide) (by decide)
  obtain ⟨g1, gq5⟩ : ∃ z, z = T4.heap.size := ⟨_, rfl⟩
  rw [← gq5] at A5 D5 st5
  have ne_co_g1 : co ≠ g1 := Nat.ne_of_lt (Nat.lt_of_lt_of_le E_co.lt (Nat.le_of_eq gq5.symm))
  have g_g1 : n0 ≤ g1 := Nat.le_trans (own_z0 O) (Nat.le_of_eq gq5.symm)
  replace E_co := E_co.ext E5
  replace O := O.ext E5
  replace hk := Nat.le_trans hk E5.1
  have F_channel_g1 : Fld Z h5 g1 "com/example/lamassu/lamassu/model/ListedTargetsGrant" "channel" "Lcom/example/lamassu/lamassu/model/Channel;" .null := D5 (Or.inr (hw _ (List.mem_of_getElem? (i := 52) rfl))) (ty := (.object "com/example/lamassu/lamassu/model/Channel")) (by decide)
  have F_targets_g1 : Fld Z h5 g1 "com/example/lamassu/lamassu/model/ListedTargetsGrant" "targets" "Ljava/util/Set;" .null := D5 (Or.inr (hw _ (List.mem_of_getElem? (i := 54) rfl))) (ty := (.object "java/util/Set")) (by decide)
  have F_conditions_g1 : Fld Z h5 g1 "com/example/lamassu/lamassu/model/ListedTargetsGrant" "conditions" "Lcom/example/lamassu/lamassu/model/Conditions;" .null := D5 (Or.inr (hw _ (List.mem_of_getElem? (i := 59) rfl))) (ty := (.object "com/example/lamassu/lamassu/model/Conditions")) (by decide)
  refine Out.via (g' := (mkF m 44 #[.val (.int p0), .val (.int p1), .val (.int p2), .val (.ref c1), .val (.ref c2), .val (.ref dp), .val (.ref co), .unset, .unset, .unset, .unset, .unset, .unset, .unset, .unset] [(.ref g1)])) st5 ?_
  refine Out.via (g' := (mkF m 45 #[.val (.int p0), .val (.int p1), .val (.int p2), .val (.ref c1), .val (.ref c2), .val (.ref dp), .val (.ref co), .unset, .unset, .unset, .unset, .unset, .unset, .unset, .unset] [(.ref g1), (.ref g1)])) (fun _ k => XS.dup X5.here hx rfl (hb hby at_44) rfl rfl k) ?_
  refine Out.via (g' := (mkF m 46 #[.val (.int p0), .val (.int p1), .val (.int p2), .val (.ref c1), .val (.ref c2), .val (.ref dp), .val (.ref co), .unset, .unset, .unset, .unset, .unset, .unset, .unset, .unset] [(.ref c1), (.ref g1), (.ref g1)])) (fun _ k => XS.aloadN X5.here hx rfl (hb hby at_45) rfl rfl k) ?_
  refine Out.via (g' := (mkF m 47 #[.val (.int p0), .val (.int p1), .val (.int p2), .val (.ref c1), .val (.ref c2), .val (.ref dp), .val (.ref co), .unset, .unset, .unset, .unset, .unset, .unset, .unset, .unset] [.null, (.ref c1), (.ref g1), (.ref g1)])) (fun _ k => XS.aconstNull X5.here hx rfl (hb hby at_46) k) ?_
  refine Out.via (g' := (mkF m 49 #[.val (.int p0), .val (.int p1), .val (.int p2), .val (.ref c1), .val (.ref c2), .val (.ref dp), .val (.ref co), .unset, .unset, .unset, .unset, .unset, .unset, .unset, .unset] [(.ref co), .null, (.ref c1), (.ref g1), (.ref g1)])) (fun _ k => XS.aload X5.here hx rfl (hb hby at_47) rfl rfl k) ?_
  obtain ⟨_, _, ⟨T6, L6, kc6, ks6⟩, -, X6, hS6, hg6, ⟨Lc6, hQ6, l6, y6, z6⟩, st6⟩ := X5.specialBackS hx (y := (⟨"com/example/lamassu/lamassu/model/ListedTargetsGrant", "<init>", "(Lcom/example/lamassu/lamassu/model/Channel;Ljava/util/Set;Lcom/example/lamassu/lamassu/model/Conditions;)V"⟩ : MethodName)) rfl hown (mvT hZ (hw _ (List.mem_of_getElem? (i := 43) rfl))) (mvT hZ (hw _ (List.mem_of_getElem? (i := 44) rfl))) (mvT hZ (hw _ (List.mem_of_getElem? (i := 45) rfl))) (by decide) (backOfS (W := 1) (own_rmG l Z a0 hw [] g1 c1 co h5 n0 O g_g1 A5 F_channel_g1 F_targets_g1 F_conditions_g1 C1.1 E_co) hZ (hw _ (List.mem_of_getElem? (i := 45) rfl)) (hw _ (List.mem_of_getElem? (i := 42) rfl)) (by decide) (by decide)) (g := (mkF m 49 #[.val (.int p0), .val (.int p1), .val (.int p2), .val (.ref c1), .val (.ref c2), .val (.ref dp), .val (.ref co), .unset, .unset, .unset, .unset, .unset, .unset, .unset, .unset] [(.ref co), .null, (.ref c1), (.ref g1), (.ref g1)])) rfl (by rw [hml]; rfl) (Steps.refl _) (a := g1) (argsL := [(.ref c1), .null, (.ref co)]) (rest := [(.ref g1)]) (lenOf own_pd20 rfl) rfl (by show 2 * 0 + _ ≤ _; exact Nat.le_of_eq rfl) (hb hby at_49) (fun _ _ => ⟨rfl, e5, (by decide : 4 + 4 ≤ _), (by decide : 62 + 76 ≤ _)⟩)
  dsimp only [Pt.U, Pt.locs, Pt.cells, Pt.slots] at X6 l6 y6 z6 st6 hQ6 hS6 hg6
  subst l6 y6 z6
  rw [e5] at hg6
  obtain ⟨X6, hS, hZ, hown⟩ := rebS hS hk X6 hS6 hg6 hZ hown
  replace hk := Nat.le_refl T6.heap.size
  obtain ⟨rfl, Nq6, Kq6, E_g1, Fc_g1, Ft_g1⟩ := hQ6
  replace N0 := Fr.app N0 Nq6
  replace O := O.keep Kq6 (allS g_g1 all0)
  replace E_co := E_co.keep Kq6
  refine Out.to (g' := (mkF m 52 #[.val (.int p0), .val (.int p1), .val (.int p2), .val (.ref c1), .val (.ref c2), .val (.ref dp), .val (.ref co), .unset, .unset, .unset, .unset, .unset, .unset, .unset, .unset] [(.ref g1)])) st6 ?_
  refine Out.via (g' := (mkF m 54 #[.val (.int p0), .val (.int p1), .val (.int p2), .val (.ref c1), .val (.ref c2), .val (.ref dp), .val (.ref co), .val (.ref g1), .unset, .unset, .unset, .unset, .unset, .unset, .unset] [])) (fun _ k => XS.astore X6.here hx rfl (hb hby at_52) rfl rfl (l' := #[.val (.int p0), .val (.int p1), .val (.int p2), .val (.ref c1), .val (.ref c2), .val (.ref dp), .val (.ref co), .val (.ref g1), .unset, .unset, .unset, .unset, .unset, .unset, .unset]) rfl k) ?_
  refine Out.via (g' := (mkF m 56 #[.val (.int p0), .val (.int p1), .val (.int p2), .val (.ref c1), .val (.ref c2), .val (.ref dp), .val (.ref co), .val (.ref g1), .unset, .unset, .unset, .unset, .unset, .unset, .unset] [(.ref g1)])) (fun _ k => XS.aload X6.here hx rfl (hb hby at_54) rfl rfl k) ?_
  obtain ⟨cq7, kq7, q7a, q7b, q7c⟩ := isOf hZ rfl E_g1
  obtain ⟨_, _, ⟨T7, L7, kc7, ks7⟩, -, X7, ⟨Lc7, hQ7, l7, y7, z7⟩, st7⟩ := X6.virtualBack hx (y := (⟨"com/example/lamassu/lamassu/model/ListedTargetsGrant", "requestKeys", "()Ljava/util/Set;"⟩ : MethodName)) (z := (⟨"com/example/lamassu/lamassu/model/ListedTargetsGrant", "requestKeys", "()Ljava/util/Set;"⟩ : MethodName)) hown (mvT hZ (hw _ (List.mem_of_getElem? (i := 60) rfl))) (mvT hZ (hw _ (List.mem_of_getElem? (i := 61) rfl))) (notFace_of_selects (args := #[]) (mvT hZ (hw _ (List.mem_of_getElem? (i := 63) rfl)))) (mvT hZ (hw _ (List.mem_of_getElem? (i := 63) rfl))) (mvT hZ (hw _ (List.mem_of_getElem? (i := 62) rfl))) (by decide) (backOf (W := 0) (own_rmRK l Z a0 hw [] g1 c1 w1 em T6.heap n0 O Ft_g1 Fc_g1 (C1.1.ext O.2) (C1.2.1.ext O.2) OE) hZ (hw _ (List.mem_of_getElem? (i := 64) rfl)) (hw _ (List.mem_of_getElem? (i := 42) rfl)) (by decide) (by decide)) q7a q7c (g := (mkF m 56 #[.val (.int p0), .val (.int p1), .val (.int p2), .val (.ref c1), .val (.ref c2), .val (.ref dp), .val (.ref co), .val (.ref g1), .unset, .unset, .unset, .unset, .unset, .unset, .unset] [(.ref g1)])) rfl (by rw [hml]; rfl) (Steps.refl _) (argsL := []) (rest := []) (lenOf own_pd21 rfl) rfl (by show 2 * 0 + _ ≤ _; exact Nat.le_of_eq rfl) (hb hby at_56) (fun _ _ => ⟨rfl, rfl, (by decide : 8 + 1 ≤ _), (by decide : 138 + 2 ≤ _)⟩)
  dsimp only [Pt.U, Pt.locs, Pt.cells, Pt.slots] at X7 l7 y7 z7 st7 hQ7
  subst l7 y7 z7
  obtain ⟨k1, rfl, Nq7, Kq7, le_k1, E_k1, F0_k1, F1_k1⟩ := hQ7
  replace N0 := Fr.app N0 Nq7
  replace hk : _ ≤ T7.heap.size := Nat.le_trans hk Kq7.1
  replace Fc_g1 := Fc_g1.keep Kq7 nin0
  replace Ft_g1 := Ft_g1.keep Kq7 nin0
  replace E_co := E_co.keep Kq7
  replace E_g1 := E_g1.keep Kq7
  replace O := O.keep Kq7 all0
  refine Out.to (g' := (mkF m 59 #[.val (.int p0), .val (.int p1), .val (.int p2), .val (.ref c1), .val (.ref c2), .val (.ref dp), .val (.ref co), .val (.ref g1), .unset, .unset, .unset, .unset, .unset, .unset, .unset] [(.ref k1)])) st7 ?_
  refine Out.via (g' := (mkF m 61 #[.val (.int p0), .val (.int p1), .val (.int p2), .val (.ref c1), .val (.ref c2), .val (.ref dp), .val (.ref co), .val (.ref g1), .val (.ref k1), .unset, .unset, .unset, .unset, .unset, .unset] [])) (fun _ k => XS.astore X7.here hx rfl (hb hby at_59) rfl rfl (l' := #[.val (.int p0), .val (.int p1), .val (.int p2), .val (.ref c1), .val (.ref c2), .val (.ref dp), .val (.ref co), .val (.ref g1), .val (.ref k1), .unset, .unset, .unset, .unset, .unset, .unset]) rfl k) ?_
  refine Out.via (g' := (mkF m 63 #[.val (.int p0), .val (.int p1), .val (.int p2), .val (.ref c1), .val (.ref c2), .val (.ref dp), .val (.ref co), .val (.ref g1), .val (.ref k1), .unset, .unset, .unset, .unset, .unset, .unset] [(.ref k1)])) (fun _ k => XS.aload X7.here hx rfl (hb hby at_61) rfl rfl k) ?_
  refine Out.via (g' := (mkF m 68 #[.val (.int p0), .val (.int p1), .val (.int p2), .val (.ref c1), .val (.ref c2), .val (.ref dp), .val (.ref co), .val (.ref g1), .val (.ref k1), .unset, .unset, .unset, .unset, .unset, .unset] [])) (fun _ k => XS.ifnonnullYes X7.here hx rfl (pc0 := 63) (pc' := 68) rfl (hb hby at_63) rfl (by decide) (by decide) k) ?_
  obtain ⟨T8, h8, X8, e8, E8, A8, D8, -, st8⟩ := newO X7 hx hZ hown (hw _ (List.mem_of_getElem? (i := 40) rfl)) (hw _ (List.mem_of_getElem? (i := 41) rfl)) (hw _ (List.mem_of_getElem? (i := 42) rfl)) rfl (g := (mkF m 68 #[.val (.int p0), .val (.int p1), .val (.int p2), .val (.ref c1), .val (.ref c2), .val (.ref dp), .val (.ref co), .val (.ref g1), .val (.ref k1), .unset, .unset, .unset, .unset, .unset, .unset] [])) rfl (hb hby at_68) (by decide) (by decide)
  obtain ⟨g2, gq8⟩ : ∃ z, z = T7.heap.size := ⟨_, rfl⟩
  rw [← gq8] at A8 D8 st8
  have ne_k1_g2 : k1 ≠ g2 := Nat.ne_of_lt (Nat.lt_of_lt_of_le E_k1.lt (Nat.le_of_eq gq8.symm))
  have ne_co_g2 : co ≠ g2 := Nat.ne_of_lt (Nat.lt_of_lt_of_le E_co.lt (Nat.le_of_eq gq8.symm))
  have g_g2 : n0 ≤ g2 := Nat.le_trans (own_z0 O) (Nat.le_of_eq gq8.symm)
  replace F0_k1 := F0_k1.ext E8
  replace F1_k1 := F1_k1.ext E8
  replace E_co := E_co.ext E8
  replace E_k1 := E_k1.ext E8
  replace O := O.ext E8
  replace hk := Nat.le_trans hk E8.1
  have F_channel_g2 : Fld Z h8 g2 "com/example/lamassu/lamassu/model/ListedTargetsGrant" "channel" "Lcom/example/lamassu/lamassu/model/Channel;" .null := D8 (Or.inr (hw _ (List.mem_of_getElem? (i := 52) rfl))) (ty := (.object "com/example/lamassu/lamassu/model/Channel")) (by decide)
  have F_targets_g2 : Fld Z h8 g2 "com/example/lamassu/lamassu/model/ListedTargetsGrant" "targets" "Ljava/util/Set;" .null := D8 (Or.inr (hw _ (List.mem_of_getElem? (i := 54) rfl))) (ty := (.object "java/util/Set")) (by decide)
  have F_conditions_g2 : Fld Z h8 g2 "com/example/lamassu/lamassu/model/ListedTargetsGrant" "conditions" "Lcom/example/lamassu/lamassu/model/Conditions;" .null := D8 (Or.inr (hw _ (List.mem_of_getElem? (i := 59) rfl))) (ty := (.object "com/example/lamassu/lamassu/model/Conditions")) (by decide)
  refine Out.via (g' := (mkF m 71 #[.val (.int p0), .val (.int p1), .val (.int p2), .val (.ref c1), .val (.ref c2), .val (.ref dp), .val (.ref co), .val (.ref g1), .val (.ref k1), .unset, .unset, .unset, .unset, .unset, .unset] [(.ref g2)])) st8 ?_
  refine Out.via (g' := (mkF m 72 #[.val (.int p0), .val (.int p1), .val (.int p2), .val (.ref c1), .val (.ref c2), .val (.ref dp), .val (.ref co), .val (.ref g1), .val (.ref k1), .unset, .unset, .unset, .unset, .unset, .unset] [(.ref g2), (.ref g2)])) (fun _ k => XS.dup X8.here hx rfl (hb hby at_71) rfl rfl k) ?_
  refine Out.via (g' := (mkF m 74 #[.val (.int p0), .val (.int p1), .val (.int p2), .val (.ref c1), .val (.ref c2), .val (.ref dp), .val (.ref co), .val (.ref g1), .val (.ref k1), .unset, .unset, .unset, .unset, .unset, .unset] [(.ref c2), (.ref g2), (.ref g2)])) (fun _ k => XS.aload X8.here hx rfl (hb hby at_72) rfl rfl k) ?_
  refine Out.via (g' := (mkF m 76 #[.val (.int p0), .val (.int p1), .val (.int p2), .val (.ref c1), .val (.ref c2), .val (.ref dp), .val (.ref co), .val (.ref g1), .val (.ref k1), .unset, .unset, .unset, .unset, .unset, .unset] [(.ref k1), (.ref c2), (.ref g2), (.ref g2)])) (fun _ k => XS.aload X8.here hx rfl (hb hby at_74) rfl rfl k) ?_
  refine Out.via (g' := (mkF m 78 #[.val (.int p0), .val (.int p1), .val (.int p2), .val (.ref c1), .val (.ref c2), .val (.ref dp), .val (.ref co), .val (.ref g1), .val (.ref k1), .unset, .unset, .unset, .unset, .unset, .unset] [(.ref co), (.ref k1), (.ref c2), (.ref g2), (.ref g2)])) (fun _ k => XS.aload X8.here hx rfl (hb hby at_76) rfl rfl k) ?_
  obtain ⟨_, _, ⟨T9, L9, kc9, ks9⟩, -, X9, hS9, hg9, ⟨Lc9, hQ9, l9, y9, z9⟩, st9⟩ := X8.specialBackS hx (y := (⟨"com/example/lamassu/lamassu/model/ListedTargetsGrant", "<init>", "(Lcom/example/lamassu/lamassu/model/Channel;Ljava/util/Set;Lcom/example/lamassu/lamassu/model/Conditions;)V"⟩ : MethodName)) rfl hown (mvT hZ (hw _ (List.mem_of_getElem? (i := 43) rfl))) (mvT hZ (hw _ (List.mem_of_getElem? (i := 44) rfl))) (mvT hZ (hw _ (List.mem_of_getElem? (i := 45) rfl))) (by decide) (backOfS (W := 1) (own_rmGL l Z a0 hw [] g2 c2 co k1 h8 n0 O g_g2 A8 F_channel_g2 F_targets_g2 F_conditions_g2 C2.1 E_co E_k1) hZ (hw _ (List.mem_of_getElem? (i := 45) rfl)) (hw _ (List.mem_of_getElem? (i := 42) rfl)) (by decide) (by decide)) (g := (mkF m 78 #[.val (.int p0), .val (.int p1), .val (.int p2), .val (.ref c1), .val (.ref c2), .val (.ref dp), .val (.ref co), .val (.ref g1), .val (.ref k1), .unset, .unset, .unset, .unset, .unset, .unset] [(.ref co), (.ref k1), (.ref c2), (.ref g2), (.ref g2)])) rfl (by rw [hml]; rfl) (Steps.refl _) (a := g2) (argsL := [(.ref c2), (.ref k1), (.ref co)]) (rest := [(.ref g2)]) (lenOf own_pd20 rfl) rfl (by show 2 * 0 + _ ≤ _; exact Nat.le_of_eq rfl) (hb hby at_78) (fun _ _ => ⟨rfl, e8, (by decide : 10 + 4 ≤ _), (by decide : 143 + 76 ≤ _)⟩)
  dsimp only [Pt.U, Pt.locs, Pt.cells, Pt.slots] at X9 l9 y9 z9 st9 hQ9 hS9 hg9
  subst l9 y9 z9
  rw [e8] at hg9
  obtain ⟨X9, hS, hZ, hown⟩ := rebS hS hk X9 hS9 hg9 hZ hown
  replace hk := Nat.le_refl T9.heap.size
  obtain ⟨rfl, Nq9, Kq9, E_g2, Fc_g2, Ft_g2⟩ := hQ9
  replace N0 := Fr.app N0 Nq9
  replace O := O.keep Kq9 (allS g_g2 all0)
  replace E_co := E_co.keep Kq9
  replace E_k1 := E_k1.keep Kq9
  replace F0_k1 := F0_k1.keep Kq9 (ninS ne_k1_g2 nin0)
  replace F1_k1 := F1_k1.keep Kq9 (ninS ne_k1_g2 nin0)
  refine Out.to (g' := (mkF m 81 #[.val (.int p0), .val (.int p1), .val (.int p2), .val (.ref c1), .val (.ref c2), .val (.ref dp), .val (.ref co), .val (.ref g1), .val (.ref k1), .unset, .unset, .unset, .unset, .unset, .unset] [(.ref g2)])) st9 ?_
  refine Out.via (g' := (mkF m 83 #[.val (.int p0), .val (.int p1), .val (.int p2), .val (.ref c1), .val (.ref c2), .val (.ref dp), .val (.ref co), .val (.ref g1), .val (.ref k1), .val (.ref g2), .unset, .unset, .unset, .unset, .unset] [])) (fun _ k => XS.astore X9.here hx rfl (hb hby at_81) rfl rfl (l' := #[.val (.int p0), .val (.int p1), .val (.int p2), .val (.ref c1), .val (.ref c2), .val (.ref dp), .val (.ref co), .val (.ref g1), .val (.ref k1), .val (.ref g2), .unset, .unset, .unset, .unset, .unset]) rfl k) ?_
  refine Out.via (g' := (mkF m 85 #[.val (.int p0), .val (.int p1), .val (.int p2), .val (.ref c1), .val (.ref c2), .val (.ref dp), .val (.ref co), .val (.ref g1), .val (.ref k1), .val (.ref g2), .unset, .unset, .unset, .unset, .unset] [(.ref g2)])) (fun _ k => XS.aload X9.here hx rfl (hb hby at_83) rfl rfl k) ?_
  obtain ⟨cq10, kq10, q10a, q10b, q10c⟩ := isOf hZ rfl E_g2
  obtain ⟨_, _, ⟨T10, L10, kc10, ks10⟩, -, X10, ⟨Lc10, hQ10, l10, y10, z10⟩, st10⟩ := X9.virtualBack hx (y := (⟨"com/example/lamassu/lamassu/model/ListedTargetsGrant", "requestKeys", "()Ljava/util/Set;"⟩ : MethodName)) (z := (⟨"com/example/lamassu/lamassu/model/ListedTargetsGrant", "requestKeys", "()Ljava/util/Set;"⟩ : MethodName)) hown (mvT hZ (hw _ (List.mem_of_getElem? (i := 60) rfl))) (mvT hZ (hw _ (List.mem_of_getElem? (i := 61) rfl))) (notFace_of_selects (args := #[]) (mvT hZ (hw _ (List.mem_of_getElem? (i := 63) rfl)))) (mvT hZ (hw _ (List.mem_of_getElem? (i := 63) rfl))) (mvT hZ (hw _ (List.mem_of_getElem? (i := 62) rfl))) (by decide) (backOf (W := 0) (own_rmRL l Z a0 hw [] g2 k1 T9.heap n0 O Ft_g2) hZ (hw _ (List.mem_of_getElem? (i := 64) rfl)) (hw _ (List.mem_of_getElem? (i := 42) rfl)) (by decide) (by decide)) q10a q10c (g := (mkF m 85 #[.val (.int p0), .val (.int p1), .val (.int p2), .val (.ref c1), .val (.ref c2), .val (.ref dp), .val (.ref co), .val (.ref g1), .val (.ref k1), .val (.ref g2), .unset, .unset, .unset, .unset, .unset] [(.ref g2)])) rfl (by rw [hml]; rfl) (Steps.refl _) (argsL := []) (rest := []) (lenOf own_pd21 rfl) rfl (by show 2 * 0 + _ ≤ _; exact Nat.le_of_eq rfl) (hb hby at_85) (fun _ _ => ⟨rfl, rfl, (by decide : 14 + 0 ≤ _), (by decide : 219 + 0 ≤ _)⟩)
  dsimp only [Pt.U, Pt.locs, Pt.cells, Pt.slots] at X10 l10 y10 z10 st10 hQ10
  subst l10 y10 z10
  obtain ⟨rfl, Nq10, eq10⟩ := hQ10
  replace N0 := Fr.app N0 Nq10
  refine Out.to (g' := (mkF m 88 #[.val (.int p0), .val (.int p1), .val (.int p2), .val (.ref c1), .val (.ref c2), .val (.ref dp), .val (.ref co), .val (.ref g1), .val (.ref k1), .val (.ref g2), .unset, .unset, .unset, .unset, .unset] [(.ref k1)])) st10 ?_
  refine Out.via (g' := (mkF m 90 #[.val (.int p0), .val (.int p1), .val (.int p2), .val (.ref c1), .val (.ref c2), .val (.ref dp), .val (.ref co), .val (.ref g1), .val (.ref k1), .val (.ref g2), .val (.ref k1), .unset, .unset, .unset, .unset] [])) (fun _ k => XS.astore X10.here hx rfl (hb hby at_88) rfl rfl (l' := #[.val (.int p0), .val (.int p1), .val (.int p2), .val (.ref c1), .val (.ref c2), .val (.ref dp), .val (.ref co), .val (.ref g1), .val (.ref k1), .val (.ref g2), .val (.ref k1), .unset, .unset, .unset, .unset]) rfl k) ?_
  refine Out.via (g' := (mkF m 91 #[.val (.int p0), .val (.int p1), .val (.int p2), .val (.ref c1), .val (.ref c2), .val (.ref dp), .val (.ref co), .val (.ref g1), .val (.ref k1), .val (.ref g2), .val (.ref k1), .unset, .unset, .unset, .unset] [(.ref c1)])) (fun _ k => XS.aloadN X10.here hx rfl (hb hby at_90) rfl rfl k) ?_
  obtain ⟨cq11, kq11, q11a, q11b, q11c⟩ := isOf hZ eq10 (C1.1.ext O.2)
  obtain ⟨_, _, ⟨T11, L11, kc11, ks11⟩, -, X11, ⟨Lc11, hQ11, l11, y11, z11⟩, st11⟩ := X10.virtualBack hx (y := (⟨"com/example/lamassu/lamassu/model/Channel", "keyword", "()Ljava/lang/String;"⟩ : MethodName)) (z := (⟨"com/example/lamassu/lamassu/model/Channel", "keyword", "()Ljava/lang/String;"⟩ : MethodName)) hown (mvT hZ (hw _ (List.mem_of_getElem? (i := 117) rfl))) (mvT hZ (hw _ (List.mem_of_getElem? (i := 66) rfl))) (notFace_of_selects (args := #[]) (mvT hZ (hw _ (List.mem_of_getElem? (i := 68) rfl)))) (mvT hZ (hw _ (List.mem_of_getElem? (i := 68) rfl))) (mvT hZ (hw _ (List.mem_of_getElem? (i := 67) rfl))) (by decide) (backOf (W := 0) (own_rmK l Z a0 hw [] c1 w1 T9.heap n0 O (C1.2.1.ext O.2)) hZ (hw _ (List.mem_of_getElem? (i := 69) rfl)) (hw _ (List.mem_of_getElem? (i := 6) rfl)) (by decide) (by decide)) q11a q11c (g := (mkF m 91 #[.val (.int p0), .val (.int p1), .val (.int p2), .val (.ref c1), .val (.ref c2), .val (.ref dp), .val (.ref co), .val (.ref g1), .val (.ref k1), .val (.ref g2), .val (.ref k1), .unset, .unset, .unset, .unset] [(.ref c1)])) rfl (by rw [hml]; rfl) (Steps.refl _) (argsL := []) (rest := []) (lenOf own_pd12 rfl) rfl (by show 2 * 0 + _ ≤ _; exact Nat.le_of_eq rfl) (hb hby at_91) (fun _ _ => ⟨rfl, eq10, (by decide : 14 + 0 ≤ _), (by decide : 219 + 0 ≤ _)⟩)
  dsimp only [Pt.U, Pt.locs, Pt.cells, Pt.slots] at X11 l11 y11 z11 st11 hQ11
  subst l11 y11 z11
  obtain ⟨rfl, Nq11, eq11⟩ := hQ11
  replace N0 := Fr.app N0 Nq11
  refine Out.to (g' := (mkF m 94 #[.val (.int p0), .val (.int p1), .val (.int p2), .val (.ref c1), .val (.ref c2), .val (.ref dp), .val (.ref co), .val (.ref g1), .val (.ref k1), .val (.ref g2), .val (.ref k1), .unset, .unset, .unset, .unset] [(.ref w1)])) st11 ?_
  refine Out.via (g' := (mkF m 96 #[.val (.int p0), .val (.int p1), .val (.int p2), .val (.ref c1), .val (.ref c2), .val (.ref dp), .val (.ref co), .val (.ref g1), .val (.ref k1), .val (.ref g2), .val (.ref k1), .val (.ref w1), .unset, .unset, .unset] [])) (fun _ k => XS.astore X11.here hx rfl (hb hby at_94) rfl rfl (l' := #[.val (.int p0), .val (.int p1), .val (.int p2), .val (.ref c1), .val (.ref c2), .val (.ref dp), .val (.ref co), .val (.ref g1), .val (.ref k1), .val (.ref g2), .val (.ref k1), .val (.ref w1), .unset, .unset, .unset]) rfl k) ?_
  refine Out.via (g' := (mkF m 98 #[.val (.int p0), .val (.int p1), .val (.int p2), .val (.ref c1), .val (.ref c2), .val (.ref dp), .val (.ref co), .val (.ref g1), .val (.ref k1), .val (.ref g2), .val (.ref k1), .val (.ref w1), .unset, .unset, .unset] [(.ref c2)])) (fun _ k => XS.aload X11.here hx rfl (hb hby at_96) rfl rfl k) ?_
  obtain ⟨cq12, kq12, q12a, q12b, q12c⟩ := isOf hZ eq11 (C2.1.ext O.2)
  obtain ⟨_, _, ⟨T12, L12, kc12, ks12⟩, -, X12, ⟨Lc12, hQ12, l12, y12, z12⟩, st12⟩ := X11.virtualBack hx (y := (⟨"com/example/lamassu/lamassu/model/Channel", "keyword", "()Ljava/lang/String;"⟩ : MethodName)) (z := (⟨"com/example/lamassu/lamassu/model/Channel", "keyword", "()Ljava/lang/String;"⟩ : MethodName)) hown (mvT hZ (hw _ (List.mem_of_getElem? (i := 117) rfl))) (mvT hZ (hw _ (List.mem_of_getElem? (i := 66) rfl))) (notFace_of_selects (args := #[]) (mvT hZ (hw _ (List.mem_of_getElem? (i := 68) rfl)))) (mvT hZ (hw _ (List.mem_of_getElem? (i := 68) rfl))) (mvT hZ (hw _ (List.mem_of_getElem? (i := 67) rfl))) (by decide) (backOf (W := 0) (own_rmK l Z a0 hw [] c2 w2 T9.heap n0 O (C2.2.1.ext O.2)) hZ (hw _ (List.mem_of_getElem? (i := 69) rfl)) (hw _ (List.mem_of_getElem? (i := 6) rfl)) (by decide) (by decide)) q12a q12c (g := (mkF m 98 #[.val (.int p0), .val (.int p1), .val (.int p2), .val (.ref c1), .val (.ref c2), .val (.ref dp), .val (.ref co), .val (.ref g1), .val (.ref k1), .val (.ref g2), .val (.ref k1), .val (.ref w1), .unset, .unset, .unset] [(.ref c2)])) rfl (by rw [hml]; rfl) (Steps.refl _) (argsL := []) (rest := []) (lenOf own_pd12 rfl) rfl (by show 2 * 0 + _ ≤ _; exact Nat.le_of_eq rfl) (hb hby at_98) (fun _ _ => ⟨rfl, eq11, (by decide : 14 + 0 ≤ _), (by decide : 219 + 0 ≤ _)⟩)
  dsimp only [Pt.U, Pt.locs, Pt.cells, Pt.slots] at X12 l12 y12 z12 st12 hQ12
  subst l12 y12 z12
  obtain ⟨rfl, Nq12, eq12⟩ := hQ12
  replace N0 := Fr.app N0 Nq12
  refine Out.to (g' := (mkF m 101 #[.val (.int p0), .val (.int p1), .val (.int p2), .val (.ref c1), .val (.ref c2), .val (.ref dp), .val (.ref co), .val (.ref g1), .val (.ref k1), .val (.ref g2), .val (.ref k1), .val (.ref w1), .unset, .unset, .unset] [(.ref w2)])) st12 ?_
  refine Out.via (g' := (mkF m 103 #[.val (.int p0), .val (.int p1), .val (.int p2), .val (.ref c1), .val (.ref c2), .val (.ref dp), .val (.ref co), .val (.ref g1), .val (.ref k1), .val (.ref g2), .val (.ref k1), .val (.ref w1), .val (.ref w2), .unset, .unset] [])) (fun _ k => XS.astore X12.here hx rfl (hb hby at_101) rfl rfl (l' := #[.val (.int p0), .val (.int p1), .val (.int p2), .val (.ref c1), .val (.ref c2), .val (.ref dp), .val (.ref co), .val (.ref g1), .val (.ref k1), .val (.ref g2), .val (.ref k1), .val (.ref w1), .val (.ref w2), .unset, .unset]) rfl k) ?_
  refine Out.via (g' := (mkF m 105 #[.val (.int p0), .val (.int p1), .val (.int p2), .val (.ref c1), .val (.ref c2), .val (.ref dp), .val (.ref co), .val (.ref g1), .val (.ref k1), .val (.ref g2), .val (.ref k1), .val (.ref w1), .val (.ref w2), .unset, .unset] [(.ref k1)])) (fun _ k => XS.aload X12.here hx rfl (hb hby at_103) rfl rfl k) ?_
  obtain ⟨cq13, kq13, q13a, q13b, q13c⟩ := isOf hZ eq12 E_k1
  obtain ⟨_, _, ⟨T13, L13, kc13, ks13⟩, -, X13, ⟨Lc13, hQ13, l13, y13, z13⟩, st13⟩ := X12.interfaceBack hx (xi := (⟨"java/util/Set", "size", "()I"⟩ : MethodName)) (y := (⟨"java/util/ImmutableCollections$Set12", "size", "()I"⟩ : MethodName)) hown (mvT hZ (hw _ (List.mem_of_getElem? (i := 118) rfl))) (mvT hZ (hw _ (List.mem_of_getElem? (i := 119) rfl))) (mvT hZ (hw _ (List.mem_of_getElem? (i := 120) rfl))) (mvT hZ (hw _ (List.mem_of_getElem? (i := 121) rfl))) (mvT hZ (hw _ (List.mem_of_getElem? (i := 122) rfl))) (mvT hZ (hw _ (List.mem_of_getElem? (i := 123) rfl))) (mvT hZ (hw _ (List.mem_of_getElem? (i := 124) rfl))) (mvT hZ (hw _ (List.mem_of_getElem? (i := 116) rfl))) (by decide) (backOf (W := 0) (own_rmSZ l Z a0 hw [] k1 em T9.heap n0 O F1_k1 OE) hZ (hw _ (List.mem_of_getElem? (i := 125) rfl)) (hw _ (List.mem_of_getElem? (i := 78) rfl)) (by decide) (by decide)) q13a q13b q13c (g := (mkF m 105 #[.val (.int p0), .val (.int p1), .val (.int p2), .val (.ref c1), .val (.ref c2), .val (.ref dp), .val (.ref co), .val (.ref g1), .val (.ref k1), .val (.ref g2), .val (.ref k1), .val (.ref w1), .val (.ref w2), .unset, .unset] [(.ref k1)])) rfl (by rw [hml]; rfl) (Steps.refl _) (argsL := []) (rest := []) (lenOf own_pd22 rfl) rfl (by show 2 * 0 + _ ≤ _; exact Nat.le_of_eq rfl) (hb hby at_105) (fun _ _ => ⟨rfl, eq12, (by decide : 14 + 0 ≤ _), (by decide : 219 + 0 ≤ _)⟩)
  dsimp only [Pt.U, Pt.locs, Pt.cells, Pt.slots] at X13 l13 y13 z13 st13 hQ13
  subst l13 y13 z13
  obtain ⟨rfl, Nq13, eq13⟩ := hQ13
  replace N0 := Fr.app N0 Nq13
  refine Out.to (g' := (mkF m 110 #[.val (.int p0), .val (.int p1), .val (.int p2), .val (.ref c1), .val (.ref c2), .val (.ref dp), .val (.ref co), .val (.ref g1), .val (.ref k1), .val (.ref g2), .val (.ref k1), .val (.ref w1), .val (.ref w2), .unset, .unset] [(.int (1 : Int32))])) st13 ?_
  refine Out.via (g' := (mkF m 111 #[.val (.int p0), .val (.int p1), .val (.int p2), .val (.ref c1), .val (.ref c2), .val (.ref dp), .val (.ref co), .val (.ref g1), .val (.ref k1), .val (.ref g2), .val (.ref k1), .val (.ref w1), .val (.ref w2), .unset, .unset] [(.int (1 : Int32)), (.int (1 : Int32))])) (fun _ k => XS.iconst X13.here hx rfl (hb hby at_110) k) ?_
  refine Out.via (g' := (mkF m 114 #[.val (.int p0), .val (.int p1), .val (.int p2), .val (.ref c1), .val (.ref c2), .val (.ref dp), .val (.ref co), .val (.ref g1), .val (.ref k1), .val (.ref g2), .val (.ref k1), .val (.ref w1), .val (.ref w2), .unset, .unset] [])) (fun _ k => XS.icmpNo X13.here hx rfl (hb hby at_111) rfl (teq rfl).2 k) ?_
  refine Out.via (g' := (mkF m 116 #[.val (.int p0), .val (.int p1), .val (.int p2), .val (.ref c1), .val (.ref c2), .val (.ref dp), .val (.ref co), .val (.ref g1), .val (.ref k1), .val (.ref g2), .val (.ref k1), .val (.ref w1), .val (.ref w2), .unset, .unset] [(.ref k1)])) (fun _ k => XS.aload X13.here hx rfl (hb hby at_114) rfl rfl k) ?_
  refine Out.via (g' := (mkF m 118 #[.val (.int p0), .val (.int p1), .val (.int p2), .val (.ref c1), .val (.ref c2), .val (.ref dp), .val (.ref co), .val (.ref g1), .val (.ref k1), .val (.ref g2), .val (.ref k1), .val (.ref w1), .val (.ref w2), .unset, .unset] [(.ref w1), (.ref k1)])) (fun _ k => XS.aload X13.here hx rfl (hb hby at_116) rfl rfl k) ?_
  obtain ⟨cq14, kq14, q14a, q14b, q14c⟩ := isOf hZ eq13 E_k1
  obtain ⟨_, _, ⟨T14, L14, kc14, ks14⟩, -, X14, ⟨Lc14, hQ14, l14, y14, z14⟩, st14⟩ := X13.interfaceBack hx (xi := (⟨"java/util/Set", "contains", "(Ljava/lang/Object;)Z"⟩ : MethodName)) (y := (⟨"java/util/ImmutableCollections$Set12", "contains", "(Ljava/lang/Object;)Z"⟩ : MethodName)) hown (mvT hZ (hw _ (List.mem_of_getElem? (i := 126) rfl))) (mvT hZ (hw _ (List.mem_of_getElem? (i := 127) rfl))) (mvT hZ (hw _ (List.mem_of_getElem? (i := 128) rfl))) (mvT hZ (hw _ (List.mem_of_getElem? (i := 129) rfl))) (mvT hZ (hw _ (List.mem_of_getElem? (i := 130) rfl))) (mvT hZ (hw _ (List.mem_of_getElem? (i := 131) rfl))) (mvT hZ (hw _ (List.mem_of_getElem? (i := 132) rfl))) (mvT hZ (hw _ (List.mem_of_getElem? (i := 116) rfl))) (by decide) (backOf (W := 0) (own_rmCT l Z a0 hw [] k1 w1 w1 em s1 s1 G1 T9.heap n0 O F0_k1 F1_k1 (C1.2.2.1.ext O.2) C1.2.2.2 (C1.2.2.1.ext O.2) C1.2.2.2 (Ee.ext O.2) O2 P5) hZ (hw _ (List.mem_of_getElem? (i := 133) rfl)) (hw _ (List.mem_of_getElem? (i := 78) rfl)) (by decide) (by decide)) q14a q14b q14c (g := (mkF m 118 #[.val (.int p0), .val (.int p1), .val (.int p2), .val (.ref c1), .val (.ref c2), .val (.ref dp), .val (.ref co), .val (.ref g1), .val (.ref k1), .val (.ref g2), .val (.ref k1), .val (.ref w1), .val (.ref w2), .unset, .unset] [(.ref w1), (.ref k1)])) rfl (by rw [hml]; rfl) (Steps.refl _) (argsL := [(.ref w1)]) (rest := []) (lenOf own_pd10 rfl) rfl (by show 2 * 0 + _ ≤ _; exact Nat.le_of_eq rfl) (hb hby at_118) (fun _ _ => ⟨rfl, eq13, (by decide : 14 + 0 ≤ _), (by decide : 219 + 0 ≤ _)⟩)
  dsimp only [Pt.U, Pt.locs, Pt.cells, Pt.slots] at X14 l14 y14 z14 st14 hQ14
  subst l14 y14 z14
  obtain ⟨hct14, Nq14, eq14⟩ := hQ14
  replace N0 := Fr.app N0 Nq14
  obtain ⟨rfl, -⟩ | ⟨-, hno⟩ := hct14
  · refine Out.to (g' := (mkF m 123 #[.val (.int p0), .val (.int p1), .val (.int p2), .val (.ref c1), .val (.ref c2), .val (.ref dp), .val (.ref co), .val (.ref g1), .val (.ref k1), .val (.ref g2), .val (.ref k1), .val (.ref w1), .val (.ref w2), .unset, .unset] [(.int (1 : Int32))])) st14 ?_
    refine Out.via (g' := (mkF m 126 #[.val (.int p0), .val (.int p1), .val (.int p2), .val (.ref c1), .val (.ref c2), .val (.ref dp), .val (.ref co), .val (.ref g1), .val (.ref k1), .val (.ref g2), .val (.ref k1), .val (.ref w1), .val (.ref w2), .unset, .unset] [])) (fun _ k => XS.ifNo X14.here hx rfl (hb hby at_123) rfl ((if0 _ _).trans (feq (by decide)).1) k) ?_
    refine Out.via (g' := (mkF m 127 #[.val (.int p0), .val (.int p1), .val (.int p2), .val (.ref c1), .val (.ref c2), .val (.ref dp), .val (.ref co), .val (.ref g1), .val (.ref k1), .val (.ref g2), .val (.ref k1), .val (.ref w1), .val (.ref w2), .unset, .unset] [(.int (1 : Int32))])) (fun _ k => XS.iconst X14.here hx rfl (hb hby at_126) k) ?_
    refine Out.via (g' := (mkF m 131 #[.val (.int p0), .val (.int p1), .val (.int p2), .val (.ref c1), .val (.ref c2), .val (.ref dp), .val (.ref co), .val (.ref g1), .val (.ref k1), .val (.ref g2), .val (.ref k1), .val (.ref w1), .val (.ref w2), .unset, .unset] [(.int (1 : Int32))])) (fun _ k => XS.goto X14.here hx rfl (pc0 := 127) (pc' := 131) rfl (hb hby at_127) (by decide) (by decide) k) ?_
    refine Out.via (g' := (mkF m 133 #[.val (.int p0), .val (.int p1), .val (.int p2), .val (.ref c1), .val (.ref c2), .val (.ref dp), .val (.ref co), .val (.ref g1), .val (.ref k1), .val (.ref g2), .val (.ref k1), .val (.ref w1), .val (.ref w2), .val (.int (1 : Int32)), .unset] [])) (fun _ k => XS.istore X14.here hx rfl (hb hby at_131) rfl (l' := #[.val (.int p0), .val (.int p1), .val (.int p2), .val (.ref c1), .val (.ref c2), .val (.ref dp), .val (.ref co), .val (.ref g1), .val (.ref k1), .val (.ref g2), .val (.ref k1), .val (.ref w1), .val (.ref w2), .val (.int (1 : Int32)), .unset]) rfl k) ?_
    refine Out.via (g' := (mkF m 135 #[.val (.int p0), .val (.int p1), .val (.int p2), .val (.ref c1), .val (.ref c2), .val (.ref dp), .val (.ref co), .val (.ref g1), .val (.ref k1), .val (.ref g2), .val (.ref k1), .val (.ref w1), .val (.ref w2), .val (.int (1 : Int32)), .unset] [(.ref k1)])) (fun _ k => XS.aload X14.here hx rfl (hb hby at_133) rfl rfl k) ?_
    refine Out.via (g' := (mkF m 138 #[.val (.int p0), .val (.int p1), .val (.int p2), .val (.ref c1), .val (.ref c2), .val (.ref dp), .val (.ref co), .val (.ref g1), .val (.ref k1), .val (.ref g2), .val (.ref k1), .val (.ref w1), .val (.ref w2), .val (.int (1 : Int32)), .unset] [])) (fun _ k => XS.ifnullNo X14.here hx rfl (hb hby at_135) rfl k) ?_
    refine Out.via (g' := (mkF m 140 #[.val (.int p0), .val (.int p1), .val (.int p2), .val (.ref c1), .val (.ref c2), .val (.ref dp), .val (.ref co), .val (.ref g1), .val (.ref k1), .val (.ref g2), .val (.ref k1), .val (.ref w1), .val (.ref w2), .val (.int (1 : Int32)), .unset] [(.ref k1)])) (fun _ k => XS.aload X14.here hx rfl (hb hby at_138) rfl rfl k) ?_
    obtain ⟨cq15, kq15, q15a, q15b, q15c⟩ := isOf hZ eq14 E_k1
    obtain ⟨_, _, ⟨T15, L15, kc15, ks15⟩, -, X15, ⟨Lc15, hQ15, l15, y15, z15⟩, st15⟩ := X14.interfaceBack hx (xi := (⟨"java/util/Set", "size", "()I"⟩ : MethodName)) (y := (⟨"java/util/ImmutableCollections$Set12", "size", "()I"⟩ : MethodName)) hown (mvT hZ (hw _ (List.mem_of_getElem? (i := 118) rfl))) (mvT hZ (hw _ (List.mem_of_getElem? (i := 119) rfl))) (mvT hZ (hw _ (List.mem_of_getElem? (i := 120) rfl))) (mvT hZ (hw _ (List.mem_of_getElem? (i := 121) rfl))) (mvT hZ (hw _ (List.mem_of_getElem? (i := 122) rfl))) (mvT hZ (hw _ (List.mem_of_getElem? (i := 123) rfl))) (mvT hZ (hw _ (List.mem_of_getElem? (i := 124) rfl))) (mvT hZ (hw _ (List.mem_of_getElem? (i := 116) rfl))) (by decide) (backOf (W := 0) (own_rmSZ l Z a0 hw [] k1 em T9.heap n0 O F1_k1 OE) hZ (hw _ (List.mem_of_getElem? (i := 125) rfl)) (hw _ (List.mem_of_getElem? (i := 78) rfl)) (by decide) (by decide)) q15a q15b q15c (g := (mkF m 140 #[.val (.int p0), .val (.int p1), .val (.int p2), .val (.ref c1), .val (.ref c2), .val (.ref dp), .val (.ref co), .val (.ref g1), .val (.ref k1), .val (.ref g2), .val (.ref k1), .val (.ref w1), .val (.ref w2), .val (.int (1 : Int32)), .unset] [(.ref k1)])) rfl (by rw [hml]; rfl) (Steps.refl _) (argsL := []) (rest := []) (lenOf own_pd22 rfl) rfl (by show 2 * 0 + _ ≤ _; exact Nat.le_of_eq rfl) (hb hby at_140) (fun _ _ => ⟨rfl, eq14, (by decide : 14 + 0 ≤ _), (by decide : 219 + 0 ≤ _)⟩)
    dsimp only [Pt.U, Pt.locs, Pt.cells, Pt.slots] at X15 l15 y15 z15 st15 hQ15
    subst l15 y15 z15
    obtain ⟨rfl, Nq15, eq15⟩ := hQ15
    replace N0 := Fr.app N0 Nq15
    refine Out.to (g' := (mkF m 145 #[.val (.int p0), .val (.int p1), .val (.int p2), .val (.ref c1), .val (.ref c2), .val (.ref dp), .val (.ref co), .val (.ref g1), .val (.ref k1), .val (.ref g2), .val (.ref k1), .val (.ref w1), .val (.ref w2), .val (.int (1 : Int32)), .unset] [(.int (1 : Int32))])) st15 ?_
    refine Out.via (g' := (mkF m 146 #[.val (.int p0), .val (.int p1), .val (.int p2), .val (.ref c1), .val (.ref c2), .val (.ref dp), .val (.ref co), .val (.ref g1), .val (.ref k1), .val (.ref g2), .val (.ref k1), .val (.ref w1), .val (.ref w2), .val (.int (1 : Int32)), .unset] [(.int (1 : Int32)), (.int (1 : Int32))])) (fun _ k => XS.iconst X15.here hx rfl (hb hby at_145) k) ?_
    refine Out.via (g' := (mkF m 149 #[.val (.int p0), .val (.int p1), .val (.int p2), .val (.ref c1), .val (.ref c2), .val (.ref dp), .val (.ref co), .val (.ref g1), .val (.ref k1), .val (.ref g2), .val (.ref k1), .val (.ref w1), .val (.ref w2), .val (.int (1 : Int32)), .unset] [])) (fun _ k => XS.icmpNo X15.here hx rfl (hb hby at_146) rfl (teq rfl).2 k) ?_
    refine Out.via (g' := (mkF m 151 #[.val (.int p0), .val (.int p1), .val (.int p2), .val (.ref c1), .val (.ref c2), .val (.ref dp), .val (.ref co), .val (.ref g1), .val (.ref k1), .val (.ref g2), .val (.ref k1), .val (.ref w1), .val (.ref w2), .val (.int (1 : Int32)), .unset] [(.ref k1)])) (fun _ k => XS.aload X15.here hx rfl (hb hby at_149) rfl rfl k) ?_
    refine Out.via (g' := (mkF m 153 #[.val (.int p0), .val (.int p1), .val (.int p2), .val (.ref c1), .val (.ref c2), .val (.ref dp), .val (.ref co), .val (.ref g1), .val (.ref k1), .val (.ref g2), .val (.ref k1), .val (.ref w1), .val (.ref w2), .val (.int (1 : Int32)), .unset] [(.ref w1), (.ref k1)])) (fun _ k => XS.aload X15.here hx rfl (hb hby at_151) rfl rfl k) ?_
    obtain ⟨cq16, kq16, q16a, q16b, q16c⟩ := isOf hZ eq15 E_k1
    obtain ⟨_, _, ⟨T16, L16, kc16, ks16⟩, -, X16, ⟨Lc16, hQ16, l16, y16, z16⟩, st16⟩ := X15.interfaceBack hx (xi := (⟨"java/util/Set", "contains", "(Ljava/lang/Object;)Z"⟩ : MethodName)) (y := (⟨"java/util/ImmutableCollections$Set12", "contains", "(Ljava/lang/Object;)Z"⟩ : MethodName)) hown (mvT hZ (hw _ (List.mem_of_getElem? (i := 126) rfl))) (mvT hZ (hw _ (List.mem_of_getElem? (i := 127) rfl))) (mvT hZ (hw _ (List.mem_of_getElem? (i := 128) rfl))) (mvT hZ (hw _ (List.mem_of_getElem? (i := 129) rfl))) (mvT hZ (hw _ (List.mem_of_getElem? (i := 130) rfl))) (mvT hZ (hw _ (List.mem_of_getElem? (i := 131) rfl))) (mvT hZ (hw _ (List.mem_of_getElem? (i := 132) rfl))) (mvT hZ (hw _ (List.mem_of_getElem? (i := 116) rfl))) (by decide) (backOf (W := 0) (own_rmCT l Z a0 hw [] k1 w1 w1 em s1 s1 G1 T9.heap n0 O F0_k1 F1_k1 (C1.2.2.1.ext O.2) C1.2.2.2 (C1.2.2.1.ext O.2) C1.2.2.2 (Ee.ext O.2) O2 P5) hZ (hw _ (List.mem_of_getElem? (i := 133) rfl)) (hw _ (List.mem_of_getElem? (i := 78) rfl)) (by decide) (by decide)) q16a q16b q16c (g := (mkF m 153 #[.val (.int p0), .val (.int p1), .val (.int p2), .val (.ref c1), .val (.ref c2), .val (.ref dp), .val (.ref co), .val (.ref g1), .val (.ref k1), .val (.ref g2), .val (.ref k1), .val (.ref w1), .val (.ref w2), .val (.int (1 : Int32)), .unset] [(.ref w1), (.ref k1)])) rfl (by rw [hml]; rfl) (Steps.refl _) (argsL := [(.ref w1)]) (rest := []) (lenOf own_pd10 rfl) rfl (by show 2 * 0 + _ ≤ _; exact Nat.le_of_eq rfl) (hb hby at_153) (fun _ _ => ⟨rfl, eq15, (by decide : 14 + 0 ≤ _), (by decide : 219 + 0 ≤ _)⟩)
    dsimp only [Pt.U, Pt.locs, Pt.cells, Pt.slots] at X16 l16 y16 z16 st16 hQ16
    subst l16 y16 z16
    obtain ⟨hct16, Nq16, eq16⟩ := hQ16
    replace N0 := Fr.app N0 Nq16
    obtain ⟨rfl, -⟩ | ⟨-, hno⟩ := hct16
    · refine Out.to (g' := (mkF m 158 #[.val (.int p0), .val (.int p1), .val (.int p2), .val (.ref c1), .val (.ref c2), .val (.ref dp), .val (.ref co), .val (.ref g1), .val (.ref k1), .val (.ref g2), .val (.ref k1), .val (.ref w1), .val (.ref w2), .val (.int (1 : Int32)), .unset] [(.int (1 : Int32))])) st16 ?_
      refine Out.via (g' := (mkF m 161 #[.val (.int p0), .val (.int p1), .val (.int p2), .val (.ref c1), .val (.ref c2), .val (.ref dp), .val (.ref co), .val (.ref g1), .val (.ref k1), .val (.ref g2), .val (.ref k1), .val (.ref w1), .val (.ref w2), .val (.int (1 : Int32)), .unset] [])) (fun _ k => XS.ifNo X16.here hx rfl (hb hby at_158) rfl ((if0 _ _).trans (feq (by decide)).1) k) ?_
      refine Out.via (g' := (mkF m 163 #[.val (.int p0), .val (.int p1), .val (.int p2), .val (.ref c1), .val (.ref c2), .val (.ref dp), .val (.ref co), .val (.ref g1), .val (.ref k1), .val (.ref g2), .val (.ref k1), .val (.ref w1), .val (.ref w2), .val (.int (1 : Int32)), .unset] [(.ref k1)])) (fun _ k => XS.aload X16.here hx rfl (hb hby at_161) rfl rfl k) ?_
      refine Out.via (g' := (mkF m 165 #[.val (.int p0), .val (.int p1), .val (.int p2), .val (.ref c1), .val (.ref c2), .val (.ref dp), .val (.ref co), .val (.ref g1), .val (.ref k1), .val (.ref g2), .val (.ref k1), .val (.ref w1), .val (.ref w2), .val (.int (1 : Int32)), .unset] [(.ref w2), (.ref k1)])) (fun _ k => XS.aload X16.here hx rfl (hb hby at_163) rfl rfl k) ?_
      obtain ⟨cq17, kq17, q17a, q17b, q17c⟩ := isOf hZ eq16 E_k1
      obtain ⟨_, _, ⟨T17, L17, kc17, ks17⟩, -, X17, ⟨Lc17, hQ17, l17, y17, z17⟩, st17⟩ := X16.interfaceBack hx (xi := (⟨"java/util/Set", "contains", "(Ljava/lang/Object;)Z"⟩ : MethodName)) (y := (⟨"java/util/ImmutableCollections$Set12", "contains", "(Ljava/lang/Object;)Z"⟩ : MethodName)) hown (mvT hZ (hw _ (List.mem_of_getElem? (i := 126) rfl))) (mvT hZ (hw _ (List.mem_of_getElem? (i := 127) rfl))) (mvT hZ (hw _ (List.mem_of_getElem? (i := 128) rfl))) (mvT hZ (hw _ (List.mem_of_getElem? (i := 129) rfl))) (mvT hZ (hw _ (List.mem_of_getElem? (i := 130) rfl))) (mvT hZ (hw _ (List.mem_of_getElem? (i := 131) rfl))) (mvT hZ (hw _ (List.mem_of_getElem? (i := 132) rfl))) (mvT hZ (hw _ (List.mem_of_getElem? (i := 116) rfl))) (by decide) (backOf (W := 0) (own_rmCT l Z a0 hw [] k1 w2 w1 em s2 s1 G1 T9.heap n0 O F0_k1 F1_k1 (C2.2.2.1.ext O.2) C2.2.2.2 (C1.2.2.1.ext O.2) C1.2.2.2 (Ee.ext O.2) O2 P5) hZ (hw _ (List.mem_of_getElem? (i := 133) rfl)) (hw _ (List.mem_of_getElem? (i := 78) rfl)) (by decide) (by decide)) q17a q17b q17c (g := (mkF m 165 #[.val (.int p0), .val (.int p1), .val (.int p2), .val (.ref c1), .val (.ref c2), .val (.ref dp), .val (.ref co), .val (.ref g1), .val (.ref k1), .val (.ref g2), .val (.ref k1), .val (.ref w1), .val (.ref w2), .val (.int (1 : Int32)), .unset] [(.ref w2), (.ref k1)])) rfl (by rw [hml]; rfl) (Steps.refl _) (argsL := [(.ref w2)]) (rest := []) (lenOf own_pd10 rfl) rfl (by show 2 * 0 + _ ≤ _; exact Nat.le_of_eq rfl) (hb hby at_165) (fun _ _ => ⟨rfl, eq16, (by decide : 14 + 0 ≤ _), (by decide : 219 + 0 ≤ _)⟩)
      dsimp only [Pt.U, Pt.locs, Pt.cells, Pt.slots] at X17 l17 y17 z17 st17 hQ17
      subst l17 y17 z17
      obtain ⟨hct17, Nq17, eq17⟩ := hQ17
      replace N0 := Fr.app N0 Nq17
      rcases hct17 with ⟨rfl, hq2⟩ | ⟨rfl, hq2⟩
      · have hcc : c1 = c2 := hiff.mpr hq2
        refine Out.to (g' := (mkF m 170 #[.val (.int p0), .val (.int p1), .val (.int p2), .val (.ref c1), .val (.ref c2), .val (.ref dp), .val (.ref co), .val (.ref g1), .val (.ref k1), .val (.ref g2), .val (.ref k1), .val (.ref w1), .val (.ref w2), .val (.int (1 : Int32)), .unset] [(.int (1 : Int32))])) st17 ?_
        refine Out.via (g' := (mkF m 171 #[.val (.int p0), .val (.int p1), .val (.int p2), .val (.ref c1), .val (.ref c2), .val (.ref dp), .val (.ref co), .val (.ref g1), .val (.ref k1), .val (.ref g2), .val (.ref k1), .val (.ref w1), .val (.ref w2), .val (.int (1 : Int32)), .unset] [(.ref c1), (.int (1 : Int32))])) (fun _ k => XS.aloadN X17.here hx rfl (hb hby at_170) rfl rfl k) ?_
        refine Out.via (g' := (mkF m 173 #[.val (.int p0), .val (.int p1), .val (.int p2), .val (.ref c1), .val (.ref c2), .val (.ref dp), .val (.ref co), .val (.ref g1), .val (.ref k1), .val (.ref g2), .val (.ref k1), .val (.ref w1), .val (.ref w2), .val (.int (1 : Int32)), .unset] [(.ref c2), (.ref c1), (.int (1 : Int32))])) (fun _ k => XS.aload X17.here hx rfl (hb hby at_171) rfl rfl k) ?_
        refine Out.via (g' := (mkF m 176 #[.val (.int p0), .val (.int p1), .val (.int p2), .val (.ref c1), .val (.ref c2), .val (.ref dp), .val (.ref co), .val (.ref g1), .val (.ref k1), .val (.ref g2), .val (.ref k1), .val (.ref w1), .val (.ref w2), .val (.int (1 : Int32)), .unset] [(.int (1 : Int32))])) (fun _ k => Jvm.RoadKit.acmp (g := (mkF m 173 #[.val (.int p0), .val (.int p1), .val (.int p2), .val (.ref c1), .val (.ref c2), .val (.ref dp), .val (.ref co), .val (.ref g1), .val (.ref k1), .val (.ref g2), .val (.ref k1), .val (.ref w1), .val (.ref w2), .val (.int (1 : Int32)), .unset] [(.ref c2), (.ref c1), (.int (1 : Int32))])) X17 hx rfl rfl rfl (pc0 := 173) (pc' := 176) (same := true) rfl (hb hby at_173) rfl (decide_eq_true (congrArg Value.ref hcc)) (by decide) (by decide) k) ?_
        refine Out.via (g' := (mkF m 177 #[.val (.int p0), .val (.int p1), .val (.int p2), .val (.ref c1), .val (.ref c2), .val (.ref dp), .val (.ref co), .val (.ref g1), .val (.ref k1), .val (.ref g2), .val (.ref k1), .val (.ref w1), .val (.ref w2), .val (.int (1 : Int32)), .unset] [(.int (1 : Int32)), (.int (1 : Int32))])) (fun _ k => XS.iconst X17.here hx rfl (hb hby at_176) k) ?_
        refine Out.via (g' := (mkF m 181 #[.val (.int p0), .val (.int p1), .val (.int p2), .val (.ref c1), .val (.ref c2), .val (.ref dp), .val (.ref co), .val (.ref g1), .val (.ref k1), .val (.ref g2), .val (.ref k1), .val (.ref w1), .val (.ref w2), .val (.int (1 : Int32)), .unset] [(.int (1 : Int32)), (.int (1 : Int32))])) (fun _ k => XS.goto X17.here hx rfl (pc0 := 177) (pc' := 181) rfl (hb hby at_177) (by decide) (by decide) k) ?_
        refine Out.via (g' := (mkF m 184 #[.val (.int p0), .val (.int p1), .val (.int p2), .val (.ref c1), .val (.ref c2), .val (.ref dp), .val (.ref co), .val (.ref g1), .val (.ref k1), .val (.ref g2), .val (.ref k1), .val (.ref w1), .val (.ref w2), .val (.int (1 : Int32)), .unset] [])) (fun _ k => XS.icmpNo X17.here hx rfl (hb hby at_181) rfl (teq rfl).2 k) ?_
        refine Out.via (g' := (mkF m 185 #[.val (.int p0), .val (.int p1), .val (.int p2), .val (.ref c1), .val (.ref c2), .val (.ref dp), .val (.ref co), .val (.ref g1), .val (.ref k1), .val (.ref g2), .val (.ref k1), .val (.ref w1), .val (.ref w2), .val (.int (1 : Int32)), .unset] [(.int (1 : Int32))])) (fun _ k => XS.iconst X17.here hx rfl (hb hby at_184) k) ?_
        refine Out.via (g' := (mkF m 189 #[.val (.int p0), .val (.int p1), .val (.int p2), .val (.ref c1), .val (.ref c2), .val (.ref dp), .val (.ref co), .val (.ref g1), .val (.ref k1), .val (.ref g2), .val (.ref k1), .val (.ref w1), .val (.ref w2), .val (.int (1 : Int32)), .unset] [(.int (1 : Int32))])) (fun _ k => XS.goto X17.here hx rfl (pc0 := 185) (pc' := 189) rfl (hb hby at_185) (by decide) (by decide) k) ?_
        refine Out.via (g' := (mkF m 191 #[.val (.int p0), .val (.int p1), .val (.int p2), .val (.ref c1), .val (.ref c2), .val (.ref dp), .val (.ref co), .val (.ref g1), .val (.ref k1), .val (.ref g2), .val (.ref k1), .val (.ref w1), .val (.ref w2), .val (.int (1 : Int32)), .val (.int (1 : Int32))] [])) (fun _ k => XS.istore X17.here hx rfl (hb hby at_189) rfl (l' := #[.val (.int p0), .val (.int p1), .val (.int p2), .val (.ref c1), .val (.ref c2), .val (.ref dp), .val (.ref co), .val (.ref g1), .val (.ref k1), .val (.ref g2), .val (.ref k1), .val (.ref w1), .val (.ref w2), .val (.int (1 : Int32)), .val (.int (1 : Int32))]) rfl k) ?_
        refine Out.via (g' := (mkF m 193 #[.val (.int p0), .val (.int p1), .val (.int p2), .val (.ref c1), .val (.ref c2), .val (.ref dp), .val (.ref co), .val (.ref g1), .val (.ref k1), .val (.ref g2), .val (.ref k1), .val (.ref w1), .val (.ref w2), .val (.int (1 : Int32)), .val (.int (1 : Int32))] [(.int (1 : Int32))])) (fun _ k => XS.iload X17.here hx rfl (hb hby at_191) rfl k) ?_
        refine Out.via (g' := (mkF m 196 #[.val (.int p0), .val (.int p1), .val (.int p2), .val (.ref c1), .val (.ref c2), .val (.ref dp), .val (.ref co), .val (.ref g1), .val (.ref k1), .val (.ref g2), .val (.ref k1), .val (.ref w1), .val (.ref w2), .val (.int (1 : Int32)), .val (.int (1 : Int32))] [])) (fun _ k => XS.ifNo X17.here hx rfl (hb hby at_193) rfl ((if0 _ _).trans (feq (by decide)).1) k) ?_
        refine Out.via (g' := (mkF m 198 #[.val (.int p0), .val (.int p1), .val (.int p2), .val (.ref c1), .val (.ref c2), .val (.ref dp), .val (.ref co), .val (.ref g1), .val (.ref k1), .val (.ref g2), .val (.ref k1), .val (.ref w1), .val (.ref w2), .val (.int (1 : Int32)), .val (.int (1 : Int32))] [(.int (1 : Int32))])) (fun _ k => XS.iload X17.here hx rfl (hb hby at_196) rfl k) ?_
        refine Out.via (g' := (mkF m 201 #[.val (.int p0), .val (.int p1), .val (.int p2), .val (.ref c1), .val (.ref c2), .val (.ref dp), .val (.ref co), .val (.ref g1), .val (.ref k1), .val (.ref g2), .val (.ref k1), .val (.ref w1), .val (.ref w2), .val (.int (1 : Int32)), .val (.int (1 : Int32))] [])) (fun _ k => XS.ifNo X17.here hx rfl (hb hby at_198) rfl ((if0 _ _).trans (feq (by decide)).1) k) ?_
        refine Out.via (g' := (mkF m 202 #[.val (.int p0), .val (.int p1), .val (.int p2), .val (.ref c1), .val (.ref c2), .val (.ref dp), .val (.ref co), .val (.ref g1), .val (.ref k1), .val (.ref g2), .val (.ref k1), .val (.ref w1), .val (.ref w2), .val (.int (1 : Int32)), .val (.int (1 : Int32))] [(.int (1 : Int32))])) (fun _ k => XS.iconst X17.here hx rfl (hb hby at_201) k) ?_
        refine Out.via (g' := (mkF m 206 #[.val (.int p0), .val (.int p1), .val (.int p2), .val (.ref c1), .val (.ref c2), .val (.ref dp), .val (.ref co), .val (.ref g1), .val (.ref k1), .val (.ref g2), .val (.ref k1), .val (.ref w1), .val (.ref w2), .val (.int (1 : Int32)), .val (.int (1 : Int32))] [(.int (1 : Int32))])) (fun _ k => XS.goto X17.here hx rfl (pc0 := 202) (pc' := 206) rfl (hb hby at_202) (by decide) (by decide) k) ?_
        exact Out.endW X17 hS (by rw [eq17]; exact hk) (fun h => by rw [Bd.returns] at h; cases h) Bd.notSynchronized (by decide) (by decide) (⟨rfl, N0⟩) (fun fs hr => Jvm.RoadKit.retN X17 hx (t := .boolean) Bd.returns (by simp) (hb hby at_206) hr)
      · have hcc : ¬ c1 = c2 := fun q => hq2 (hiff.mp q)
        refine Out.to (g' := (mkF m 170 #[.val (.int p0), .val (.int p1), .val (.int p2), .val (.ref c1), .val (.ref c2), .val (.ref dp), .val (.ref co), .val (.ref g1), .val (.ref k1), .val (.ref g2), .val (.ref k1), .val (.ref w1), .val (.ref w2), .val (.int (1 : Int32)), .unset] [(.int (0 : Int32))])) st17 ?_
        refine Out.via (g' := (mkF m 171 #[.val (.int p0), .val (.int p1), .val (.int p2), .val (.ref c1), .val (.ref c2), .val (.ref dp), .val (.ref co), .val (.ref g1), .val (.ref k1), .val (.ref g2), .val (.ref k1), .val (.ref w1), .val (.ref w2), .val (.int (1 : Int32)), .unset] [(.ref c1), (.int (0 : Int32))])) (fun _ k => XS.aloadN X17.here hx rfl (hb hby at_170) rfl rfl k) ?_
        refine Out.via (g' := (mkF m 173 #[.val (.int p0), .val (.int p1), .val (.int p2), .val (.ref c1), .val (.ref c2), .val (.ref dp), .val (.ref co), .val (.ref g1), .val (.ref k1), .val (.ref g2), .val (.ref k1), .val (.ref w1), .val (.ref w2), .val (.int (1 : Int32)), .unset] [(.ref c2), (.ref c1), (.int (0 : Int32))])) (fun _ k => XS.aload X17.here hx rfl (hb hby at_171) rfl rfl k) ?_
        refine Out.via (g' := (mkF m 180 #[.val (.int p0), .val (.int p1), .val (.int p2), .val (.ref c1), .val (.ref c2), .val (.ref dp), .val (.ref co), .val (.ref g1), .val (.ref k1), .val (.ref g2), .val (.ref k1), .val (.ref w1), .val (.ref w2), .val (.int (1 : Int32)), .unset] [(.int (0 : Int32))])) (fun _ k => Jvm.RoadKit.acmp (g := (mkF m 173 #[.val (.int p0), .val (.int p1), .val (.int p2), .val (.ref c1), .val (.ref c2), .val (.ref dp), .val (.ref co), .val (.ref g1), .val (.ref k1), .val (.ref g2), .val (.ref k1), .val (.ref w1), .val (.ref w2), .val (.int (1 : Int32)), .unset] [(.ref c2), (.ref c1), (.int (0 : Int32))])) X17 hx rfl rfl rfl (pc0 := 173) (pc' := 180) (same := false) rfl (hb hby at_173) rfl (decide_eq_false fun q => hcc (Value.ref.inj q)) (by decide) (by decide) k) ?_
        refine Out.via (g' := (mkF m 181 #[.val (.int p0), .val (.int p1), .val (.int p2), .val (.ref c1), .val (.ref c2), .val (.ref dp), .val (.ref co), .val (.ref g1), .val (.ref k1), .val (.ref g2), .val (.ref k1), .val (.ref w1), .val (.ref w2), .val (.int (1 : Int32)), .unset] [(.int (0 : Int32)), (.int (0 : Int32))])) (fun _ k => XS.iconst X17.here hx rfl (hb hby at_180) k) ?_
        refine Out.via (g' := (mkF m 184 #[.val (.int p0), .val (.int p1), .val (.int p2), .val (.ref c1), .val (.ref c2), .val (.ref dp), .val (.ref co), .val (.ref g1), .val (.ref k1), .val (.ref g2), .val (.ref k1), .val (.ref w1), .val (.ref w2), .val (.int (1 : Int32)), .unset] [])) (fun _ k => XS.icmpNo X17.here hx rfl (hb hby at_181) rfl (teq rfl).2 k) ?_
        refine Out.via (g' := (mkF m 185 #[.val (.int p0), .val (.int p1), .val (.int p2), .val (.ref c1), .val (.ref c2), .val (.ref dp), .val (.ref co), .val (.ref g1), .val (.ref k1), .val (.ref g2), .val (.ref k1), .val (.ref w1), .val (.ref w2), .val (.int (1 : Int32)), .unset] [(.int (1 : Int32))])) (fun _ k => XS.iconst X17.here hx rfl (hb hby at_184) k) ?_
        refine Out.via (g' := (mkF m 189 #[.val (.int p0), .val (.int p1), .val (.int p2), .val (.ref c1), .val (.ref c2), .val (.ref dp), .val (.ref co), .val (.ref g1), .val (.ref k1), .val (.ref g2), .val (.ref k1), .val (.ref w1), .val (.ref w2), .val (.int (1 : Int32)), .unset] [(.int (1 : Int32))])) (fun _ k => XS.goto X17.here hx rfl (pc0 := 185) (pc' := 189) rfl (hb hby at_185) (by decide) (by decide) k) ?_
        refine Out.via (g' := (mkF m 191 #[.val (.int p0), .val (.int p1), .val (.int p2), .val (.ref c1), .val (.ref c2), .val (.ref dp), .val (.ref co), .val (.ref g1), .val (.ref k1), .val (.ref g2), .val (.ref k1), .val (.ref w1), .val (.ref w2), .val (.int (1 : Int32)), .val (.int (1 : Int32))] [])) (fun _ k => XS.istore X17.here hx rfl (hb hby at_189) rfl (l' := #[.val (.int p0), .val (.int p1), .val (.int p2), .val (.ref c1), .val (.ref c2), .val (.ref dp), .val (.ref co), .val (.ref g1), .val (.ref k1), .val (.ref g2), .val (.ref k1), .val (.ref w1), .val (.ref w2), .val (.int (1 : Int32)), .val (.int (1 : Int32))]) rfl k) ?_
        refine Out.via (g' := (mkF m 193 #[.val (.int p0), .val (.int p1), .val (.int p2), .val (.ref c1), .val (.ref c2), .val (.ref dp), .val (.ref co), .val (.ref g1), .val (.ref k1), .val (.ref g2), .val (.ref k1), .val (.ref w1), .val (.ref w2), .val (.int (1 : Int32)), .val (.int (1 : Int32))] [(.int (1 : Int32))])) (fun _ k => XS.iload X17.here hx rfl (hb hby at_191) rfl k) ?_
        refine Out.via (g' := (mkF m 196 #[.val (.int p0), .val (.int p1), .val (.int p2), .val (.ref c1), .val (.ref c2), .val (.ref dp), .val (.ref co), .val (.ref g1), .val (.ref k1), .val (.ref g2), .val (.ref k1), .val (.ref w1), .val (.ref w2), .val (.int (1 : Int32)), .val (.int (1 : Int32))] [])) (fun _ k => XS.ifNo X17.here hx rfl (hb hby at_193) rfl ((if0 _ _).trans (feq (by decide)).1) k) ?_
        refine Out.via (g' := (mkF m 198 #[.val (.int p0), .val (.int p1), .val (.int p2), .val (.ref c1), .val (.ref c2), .val (.ref dp), .val (.ref co), .val (.ref g1), .val (.ref k1), .val (.ref g2), .val (.ref k1), .val (.ref w1), .val (.ref w2), .val (.int (1 : Int32)), .val (.int (1 : Int32))] [(.int (1 : Int32))])) (fun _ k => XS.iload X17.here hx rfl (hb hby at_196) rfl k) ?_
        refine Out.via (g' := (mkF m 201 #[.val (.int p0), .val (.int p1), .val (.int p2), .val (.ref c1), .val (.ref c2), .val (.ref dp), .val (.ref co), .val (.ref g1), .val (.ref k1), .val (.ref g2), .val (.ref k1), .val (.ref w1), .val (.ref w2), .val (.int (1 : Int32)), .val (.int (1 : Int32))] [])) (fun _ k => XS.ifNo X17.here hx rfl (hb hby at_198) rfl ((if0 _ _).trans (feq (by decide)).1) k) ?_
        refine Out.via (g' := (mkF m 202 #[.val (.int p0), .val (.int p1), .val (.int p2), .val (.ref c1), .val (.ref c2), .val (.ref dp), .val (.ref co), .val (.ref g1), .val (.ref k1), .val (.ref g2), .val (.ref k1), .val (.ref w1), .val (.ref w2), .val (.int (1 : Int32)), .val (.int (1 : Int32))] [(.int (1 : Int32))])) (fun _ k => XS.iconst X17.here hx rfl (hb hby at_201) k) ?_
        refine Out.via (g' := (mkF m 206 #[.val (.int p0), .val (.int p1), .val (.int p2), .val (.ref c1), .val (.ref c2), .val (.ref dp), .val (.ref co), .val (.ref g1), .val (.ref k1), .val (.ref g2), .val (.ref k1), .val (.ref w1), .val (.ref w2), .val (.int (1 : Int32)), .val (.int (1 : Int32))] [(.int (1 : Int32))])) (fun _ k => XS.goto X17.here hx rfl (pc0 := 202) (pc' := 206) rfl (hb hby at_202) (by decide) (by decide) k) ?_
        exact Out.endW X17 hS (by rw [eq17]; exact hk) (fun h => by rw [Bd.returns] at h; cases h) Bd.notSynchronized (by decide) (by decide) (⟨rfl, N0⟩) (fun fs hr => Jvm.RoadKit.retN X17 hx (t := .boolean) Bd.returns (by simp) (hb hby at_206) hr)
    · exact absurd rfl hno
  · exact absurd rfl hno
theorem own_eqI {args : Array Value} {s : State} {t : Term} {n : Int32} (h : (Jvm.Cond.eq t (.int n)).value args s none s [] = some true) : t.eval args s none [] s = some (.int n) := by
  obtain ⟨x, y, h1, h2, hk, hk'⟩ := cmp_v (Or.inl h)
  obtain rfl : y = .int n := (Option.some.inj ((Term.int_eval n).symm.trans h2)).symm
  obtain ⟨z, rfl⟩ : ∃ z, x = .int z := hk'
  rw [h1, gotT (Cond.eq_ints h1 h2) h]
theorem own_eqR {args : Array Value} {s : State} {t u : Term} {a : Addr} (h : (Jvm.Cond.eq t u).value args s none s [] = some true) (hu : u.eval args s none [] s = some (.ref a)) : t.eval args s none [] s = some (.ref a) := by
  obtain ⟨x, y, h1, h2, hk, hk'⟩ := cmp_v (Or.inl h)
  obtain rfl : y = .ref a := (Option.some.inj (hu.symm.trans h2)).symm
  rw [h1, gotT (eq_R h1 h2 hk'.2 hk'.1) h]
theorem own_len {args : Array Value} {s : State} {t : Term} {n : Int32} {a : Addr} {cl : Cell} {ty : FieldType} (h : (Term.length t).eval args s none [] s = some (.int n)) (ht : t.eval args s none [] s = some (.ref a)) (A : Arr s s.heap a cl ty) : cl.slots.size < 2 ^ 31 ∧ cl.slots.size.toInt32 = n := by
  obtain ⟨b, cell, e1, e2, e3, e4⟩ := Jvm.Lib.length_spec h
  cases ht.symm.trans e1
  cases A.1.symm.trans (State.arrayAt?_spec e2).1
  exact ⟨e3, (Value.int.inj e4).symm⟩
theorem own_byte {x : Int32} (h : fits .byte (.int x) = true) : (x &&& 255).toInt8.toInt32 = x := by
  obtain ⟨h1, h2⟩ := rng_byte h
  have t : ∀ k : Fin 256, ((Int32.ofInt ((k.val : Int) - 128)) &&& 255).toInt8.toInt32 = Int32.ofInt ((k.val : Int) - 128) := by decide +kernel
  rw [Int32.lt_iff_toInt_lt] at h1 h2
  have e0 : (-128 : Int32).toInt = -128 := rfl
  have e1 : (127 : Int32).toInt = 127 := rfl
  obtain ⟨k, hk⟩ : ∃ k : Nat, x.toInt + 128 = k := ⟨(x.toInt + 128).toNat, by omega⟩
  have hx : x = Int32.ofInt ((k : Int) - 128) := Int32.toInt_inj.mp (by rw [Int32.toInt_ofInt]; rw [show ((k : Int) - 128) = x.toInt by omega, Int32.toInt_bmod])
  rw [hx]
  exact t ⟨k, by omega⟩
/-- a compact String whose bytes aren't known spells something all the same -/
theorem own_spell {s : State} {a t : Addr} {cl : Cell} {n : Int32} (hf : Fit s) (E : Exa s s.heap a "java/lang/String") (Cd : Fld s s.heap a "java/lang/String" "coder" "B" (.int (0 : Int32))) (W : Fld s s.heap a "java/lang/String" "value" "[B" (.ref t)) (A : Arr s s.heap t cl .byte) (h1 : cl.slots.size < 2 ^ 31) (h2 : cl.slots.size.toInt32 = n) (hn : ¬ n < 0) : ∃ cs : List Int32, cs.length = cl.slots.size ∧ own_Str s s.heap a cs := by
  have hel : ∀ i, i < cl.slots.size → ∃ x : Int32, cl.slots[i]? = some (.int x) ∧ fits .byte (.int x) = true := fun i hi => by
    have q := idx_in hi h1
    obtain ⟨v, e1, e2⟩ := elem_fit hf A q
    obtain ⟨x, rfl⟩ := fit_I e2 (Or.inr (Or.inr (Or.inl rfl)))
    have e3 : i.toInt32.toNatClampNeg = i := by show i.toInt32.toInt.toNat = i; rw [len_toInt (by omega)]; rfl
    rw [e3] at e1
    exact ⟨x, e1, e2⟩
  let f : Nat → Int32 := fun i => match cl.slots[i]? with | some (.int x) => x &&& 255 | _ => 0
  refine ⟨(List.range cl.slots.size).map f, by simp, ?_, E, Cd, t, cl.cls, W, cl, A, rfl, ?_, ?_, ?_, ?_⟩
  · intro c hc
    obtain ⟨i, hi, rfl⟩ := List.mem_map.mp hc
    obtain ⟨x, e1, -⟩ := hel i (List.mem_range.mp hi)
    show own_lat (f i)
    simp only [f, e1]
    have := own_mask x
    rw [i2c_mask] at this
    exact this
  · rw [List.length_map, List.length_range]
    show cl.slots.size = (Int32.ofNat cl.slots.size).toInt.toNat
    rw [Int32.toInt_ofNat_small (by omega)]; rfl
  · rw [List.length_map, List.length_range]
    exact Int32.ofNat_not_neg (by omega)
  · intro i hi
    obtain ⟨x, e1, e2⟩ := hel i hi
    rw [e1]
    simp only [List.map_map, List.getD_eq_getElem?_getD, List.getElem?_map, List.getElem?_range hi, Option.map_some, Option.getD_some, Function.comp, f, e1]
    rw [own_byte e2]
  · intro i hi
    obtain ⟨x, e1, e2⟩ := hel i hi
    simp only [List.map_map, List.getD_eq_getElem?_getD, List.getElem?_map, List.getElem?_range hi, Option.map_some, Option.getD_some, Function.comp, f, e1]
    exact fits_nar_byte _
set_option maxRecDepth 65536 in
set_option maxHeartbeats 40000000 in
theorem comes_1 {Post : Tables → Env → Array Value → State → Outcome → State → Prop} (hpost : ∀ tb e args s v u, (limb_1_1.after args s (.returned v) u = true ∧ limb_1_2.after args s (.returned v) u = true ∧ True) → ReturnedEndW s (.returned v) u (Jvm.fieldLocs frame_1_writes args s ++ Jvm.arrayLocs frame_1_arrays args s ++ Jvm.staticLocs frame_1_statics s) 24 3200 → Post tb e args s (.returned v) u) :
    ArmFor flags0 classFile x code maxLocals ret World_1 tables_1 room_1 Calls_1 rest_1 Pre_1 Post := by
  intro l hfl _ _ p e ha hc hk s m args below hf hA hF happ hP
  obtain ⟨hcalls, hrest, hpre⟩ := hP
  obtain ⟨-, -, -, hnamed, -, -, -, hat⟩ := (Spec.applies_iff hf).mp happ
  obtain ⟨hg, hn⟩ := and_e (Cond.before_iff.mp (show (Jvm.Cond.and given_1 narrow_1).before args s = true from hpre))
  obtain ⟨hcnt, hg⟩ := and_e hg
  obtain ⟨g0, hg⟩ := and_e hg
  obtain ⟨g1, hg⟩ := and_e hg
  have g2 := hg
  obtain ⟨w0, w1, w2, rfl⟩ : ∃ w0 w1 w2 : Value, args = #[w0, w1, w2] := by
    have hs : args.size = 3 := by simpa [Cond.value, given_1] using hcnt
    obtain ⟨L⟩ := args
    match L, hs with
    | [w0, w1, w2], _ => exact ⟨w0, w1, w2, rfl⟩
  have hw := fun d (hd : d ∈ tables_1) => atoms_spec (ws := Jvm.Cond.code x code maxLocals ret :: tables_1) hat d (List.mem_cons_of_mem _ hd)
  obtain ⟨hsets, hown0⟩ := atoms_of _ (rest_1_c_eq ▸ (show rest_1_c.before _ s = true from hrest))
  have hfit : Fit s := fun {y c} hc i hi => by
    obtain ⟨ha, rfl⟩ := Array.getElem?_eq_some_iff.mp hc
    have q := List.all_eq_true.mp ((Array.all_eq_true_iff_forall_mem.mp hF) _ (Array.getElem_mem ha)) i (List.mem_range.mpr hi)
    simpa [Array.getElem?_eq_getElem hi] using q
  obtain ⟨i0, ei0⟩ := is_v g0
  obtain rfl : w0 = (.int i0) := Option.some.inj ei0
  obtain ⟨i1, ei1⟩ := is_v g1
  obtain rfl : w1 = (.int i1) := Option.some.inj ei1
  obtain ⟨i2, ei2⟩ := is_v g2
  obtain rfl : w2 = (.int i2) := Option.some.inj ei2
  have n5 := not_v (Cond.before_iff.mp (hsets _ (List.mem_of_getElem? (i := 11) rfl)))
  obtain ⟨i11, e10⟩ := is_v (Cond.before_iff.mp (hsets _ (List.mem_of_getElem? (i := 10) rfl)))
  have S12 : Sta s s.heap "java/lang/String" "COMPACT_STRINGS" "Z" (.int i11) := Sta.start e10 (Or.inl (hsets _ (List.mem_of_getElem? (i := 9) rfl)))
  have cC : ¬ (i11 = (0 : Int32)) := gotF (Cond.eq_ints e10 (Term.int_eval (0))) n5
  obtain ⟨em, eem⟩ := exa_v (Cond.before_iff.mp (hsets _ (List.mem_of_getElem? (i := 2) rfl)))
  have OE := Sta.start eem (Or.inl (hsets _ (List.mem_of_getElem? (i := 1) rfl)))
  have Ee := Exa.start eem (Cond.before_iff.mp (hsets _ (List.mem_of_getElem? (i := 2) rfl)))
  obtain ⟨c0, hn⟩ := and_e hn
  obtain ⟨c1, hn⟩ := and_e hn
  obtain ⟨c2, hn⟩ := and_e hn
  obtain ⟨c3, hn⟩ := and_e hn
  obtain ⟨c4, hn⟩ := and_e hn
  obtain ⟨c5, hn⟩ := and_e hn
  obtain ⟨c6, hn⟩ := and_e hn
  obtain ⟨c7, hn⟩ := and_e hn
  obtain ⟨c8, hn⟩ := and_e hn
  obtain ⟨c9, hn⟩ := and_e hn
  obtain ⟨c10, hn⟩ := and_e hn
  obtain ⟨c11, hn⟩ := and_e hn
  obtain ⟨c12, hn⟩ := and_e hn
  obtain ⟨c13, hn⟩ := and_e hn
  obtain ⟨c14, hn⟩ := and_e hn
  obtain ⟨c15, hn⟩ := and_e hn
  obtain ⟨c16, hn⟩ := and_e hn
  obtain ⟨c17, hn⟩ := and_e hn
  obtain ⟨c18, hn⟩ := and_e hn
  obtain ⟨c19, hn⟩ := and_e hn
  obtain ⟨c20, hn⟩ := and_e hn
  obtain ⟨c21, hn⟩ := and_e hn
  have c22 := hn
  obtain ⟨js, e_js⟩ := exa_v c0
  have V_js := Sta.start e_js (Or.inr ⟨(hw _ (List.mem_of_getElem? (i := 6) rfl)), (hw _ (List.mem_of_getElem? (i := 7) rfl))⟩)
  have E_js := Exa.start e_js c0
  obtain ⟨w_js, ew_js⟩ := exa_v c2
  have F_js := Fld.start ((fld_at e_js).symm.trans ew_js)
  have Ew_js := Exa.start ew_js c2
  have Cw_js := Fld.start ((fld_at ew_js).symm.trans (own_eqI c7))
  obtain ⟨t_js, et_js⟩ := arr_v c9
  have W_js := Fld.start ((fld_at ew_js).symm.trans et_js)
  obtain ⟨cl_js, A_js⟩ := Arr.start et_js c9
  obtain ⟨la_js, lb_js⟩ := own_len (own_eqI c10) et_js A_js
  obtain ⟨s_js, hs_js, S_js⟩ := own_spell hfit Ew_js Cw_js W_js A_js la_js lb_js (by decide)
  have Or_js := Fld.start ((fld_at e_js).symm.trans (own_eqI c14))
  have z_js : s_js.length = 11 := by rw [hs_js]; have q := len_toInt la_js; rw [lb_js] at q; have q2 : (11 : Int32).toInt = 11 := rfl; omega
  have C_js : own_Ch s js w_js s_js := ⟨E_js, F_js, S_js, by omega⟩
  obtain ⟨ev, e_ev⟩ := exa_v c3
  have V_ev := Sta.start e_ev (Or.inr ⟨(hw _ (List.mem_of_getElem? (i := 6) rfl)), (hw _ (List.mem_of_getElem? (i := 141) rfl))⟩)
  have E_ev := Exa.start e_ev c3
  obtain ⟨w_ev, ew_ev⟩ := exa_v c5
  have F_ev := Fld.start ((fld_at e_ev).symm.trans ew_ev)
  have Ew_ev := Exa.start ew_ev c5
  have Cw_ev := Fld.start ((fld_at ew_ev).symm.trans (own_eqI c8))
  obtain ⟨t_ev, et_ev⟩ := arr_v c11
  have W_ev := Fld.start ((fld_at ew_ev).symm.trans et_ev)
  obtain ⟨cl_ev, A_ev⟩ := Arr.start et_ev c11
  obtain ⟨la_ev, lb_ev⟩ := own_len (own_eqI c12) et_ev A_ev
  obtain ⟨s_ev, hs_ev, S_ev⟩ := own_spell hfit Ew_ev Cw_ev W_ev A_ev la_ev lb_ev (by decide)
  have Or_ev := Fld.start ((fld_at e_ev).symm.trans (own_eqI c13))
  have z_ev : s_ev.length = 12 := by rw [hs_ev]; have q := len_toInt la_ev; rw [lb_ev] at q; have q2 : (12 : Int32).toInt = 12 := rfl; omega
  have C_ev : own_Ch s ev w_ev s_ev := ⟨E_ev, F_ev, S_ev, by omega⟩
  obtain ⟨ht, e_ht⟩ := exa_v c15
  have V_ht := Sta.start e_ht (Or.inr ⟨(hw _ (List.mem_of_getElem? (i := 6) rfl)), (hw _ (List.mem_of_getElem? (i := 156) rfl))⟩)
  have E_ht := Exa.start e_ht c15
  obtain ⟨w_ht, ew_ht⟩ := exa_v c16
  have F_ht := Fld.start ((fld_at e_ht).symm.trans ew_ht)
  have Ew_ht := Exa.start ew_ht c16
  have Cw_ht := Fld.start ((fld_at ew_ht).symm.trans (own_eqI c18))
  obtain ⟨t_ht, et_ht⟩ := arr_v c19
  have W_ht := Fld.start ((fld_at ew_ht).symm.trans et_ht)
  obtain ⟨cl_ht, A_ht⟩ := Arr.start et_ht c19
  obtain ⟨la_ht, lb_ht⟩ := own_len (own_eqI c20) et_ht A_ht
  obtain ⟨s_ht, hs_ht, S_ht⟩ := own_spell hfit Ew_ht Cw_ht W_ht A_ht la_ht lb_ht (by decide)
  have Or_ht := Fld.start ((fld_at e_ht).symm.trans (own_eqI c21))
  have z_ht : s_ht.length = 5 := by rw [hs_ht]; have q := len_toInt la_ht; rw [lb_ht] at q; have q2 : (5 : Int32).toInt = 5 := rfl; omega
  have C_ht : own_Ch s ht w_ht s_ht := ⟨E_ht, F_ht, S_ht, by omega⟩
  obtain ⟨sy, e_sy⟩ := exa_v c1
  have V_sy := Sta.start e_sy (Or.inr ⟨(hw _ (List.mem_of_getElem? (i := 9) rfl)), (hw _ (List.mem_of_getElem? (i := 10) rfl))⟩)
  have E_sy := Exa.start e_sy c1
  obtain ⟨us, e_us⟩ := exa_v c4
  have V_us := Sta.start e_us (Or.inr ⟨(hw _ (List.mem_of_getElem? (i := 9) rfl)), (hw _ (List.mem_of_getElem? (i := 143) rfl))⟩)
  have E_us := Exa.start e_us c4
  have h1 : s_js ≠ s_ev := fun q => by have := congrArg List.length q; omega
  have n1 : js ≠ ev := Fld.ne Or_js Or_ev (by decide)
  have h2 : s_js ≠ s_ht := fun q => by have := congrArg List.length q; omega
  have n2 : js ≠ ht := Fld.ne Or_js Or_ht (by decide)
  have h3 : s_ev ≠ s_ht := fun q => by have := congrArg List.length q; omega
  have n3 : ev ≠ ht := Fld.ne Or_ev Or_ht (by decide)
  obtain ⟨n, o, h1, h2, h3, _, L, rfl, ⟨rfl, N⟩, hq⟩ := own_rm0 l s _ hw tables_1 i0 i1 i2 js ev ht us sy w_js w_ev w_ht em s_js s_ev s_ht i11 s.heap s.heap.size (Old.start s) V_js V_ev V_ht V_us V_sy E_us E_sy C_js C_ev C_ht h1 h2 h3 n1 n2 n3 OE Ee S12 cC p e ha hc hk s m _ below hf ((Spec.applies_iff_loose hf).mp happ).1 ⟨rfl, State.Warmed39.refl s, rfl⟩ trivial
  refine ⟨n, _, h1, h2, h3, hpost _ _ _ _ _ _ ⟨Cond.after_iff.mpr rfl, Cond.after_iff.mpr (eq_i res_at (Term.int_eval (1)) rfl), trivial⟩ ⟨hq.1, hq.2.1, hq.2.2.1, (hq.2.2.2.sift fun y hy => Or.inr (N y hy)).mono (by decide) (by decide)⟩⟩
theorem main_1_1 : Claimed_1_1 := comes_1 fun _ _ _ _ _ _ h hF => ⟨h.1, hF⟩
theorem main_1_2 : Claimed_1_2 := comes_1 fun _ _ _ _ _ _ h hF => ⟨h.2.1, hF⟩
end Jvm.Pilot.@@N@@
namespace Jvm.Pilot.@@N@@
open Jvm Jvm.ClassFile Sem Op Lib Jvm.Free Jvm.Stand Jvm.Pilot.@@N@@.Jvm.D
/-! MADE BY PROGRAM (witnessworld.py) out of the Statement's table words and the real class files: 36 classes; the members and pool entries that the words name. The judged class is class 1, her method 2. -/
namespace start1
open Jvm.ClassFile
def u (s : String) : CpInfo := .utf8 (stringToUtf16 s)
/-- a pool by its gaps: so many unusable entries, then the entry; so many at the end -/
def gap : Nat → List CpInfo → List CpInfo
  | 0, r => r
  | n + 1, r => .unusable :: gap n r
def poolList (es : List (Nat × CpInfo)) (last : Nat) : List CpInfo := es.foldr (fun e r => gap e.1 (e.2 :: r)) (gap last [])
def pool (es : List (Nat × CpInfo)) (last : Nat) : Array CpInfo := ⟨poolList es last⟩
def fileOf (pool : Array CpInfo) (this : Nat) (attrs : Array Attribute := #[]) (ms : Array MethodInfo := #[]) (fl : Nat := 33) (sup : Nat := 0) (ifs : Array Nat := #[]) (fds : Array FieldInfo := #[]) : ClassFile where
  minorVersion := 0
  majorVersion := 65
  constantPool := pool
  accessFlags := fl
  thisClass := this
  superClass := sup
  interfaces := ifs
  fields := fds
  methods := ms
  attributes := attrs
def plain (name : String) (sup : Option ClassId) : Class where
  name := name
  kind := .ordinary
  loader := none
  accessFlags := 33
  super := sup
  interfaces := #[]
  cf := none
  fields := #[]
  methods := #[]
  instanceTypes := #[]
  staticTypes := #[]
  resolved := #[]
  callSites := []
  init := .initialized
  statics := none
  mirror := none

def pool0 : Array CpInfo := pool [(5, u "<init>"), (0, u "()V"), (1, .class_ 10), (1, u "java/lang/Object"), (81, u "equals"), (0, u "(Ljava/lang/Object;)Z")] 30

def k0c0 : Code := { maxStack := 0, maxLocals := 1, code := object_method_1_code, exceptionTable := #[], attributes := #[] }
def k0m0 : Method := { name := "<init>", desc := "()V", sig := { parameters := [], returnType := none }, accessFlags := 1, code := some k0c0 }
def k0c1 : Code := { maxStack := 2, maxLocals := 2, code := object_method_4_code, exceptionTable := #[], attributes := #[] }
def k0m1 : Method := { name := "equals", desc := "(Ljava/lang/Object;)Z", sig := { parameters := [(.object "java/lang/Object")], returnType := some .boolean }, accessFlags := 1, code := some k0c1 }
/-- java/lang/Object -/
def k0 : Class := { plain "java/lang/Object" none with
  accessFlags := 33
  interfaces := #[]
  cf := some (fileOf pool0 8 #[] #[{ accessFlags := 1, nameIndex := 5, descriptorIndex := 6, attributes := #[] }, { accessFlags := 1, nameIndex := 92, descriptorIndex := 93, attributes := #[] }] 33 0 #[] #[])
  fields := #[]
  methods := #[k0m0, k0m1]
  instanceTypes := #[]
  staticTypes := #[]
  resolved := Array.replicate 124 none
  statics := none }

def pool1 : Array CpInfo := pool [(2, .class_ 4), (1, u "java/lang/Object"), (0, u "<init>"), (0, u "()V"), (0, .integer 2147483647), (0, .fieldref 9 10), (0, .class_ 11), (0, .nameAndType 12 13), (0, u "com/example/lamassu/lamassu/model/Channel"), (0, u "JS_INTERFACE"), (0, u "Lcom/example/lamassu/lamassu/model/Channel;"), (0, .fieldref 9 15), (0, .nameAndType 16 13), (0, u "EVENT_HANDLER"), (0, .fieldref 9 18), (0, .nameAndType 19 13), (0, u "HTML5"), (0, .methodref 21 22), (0, .class_ 23), (0, .nameAndType 24 25), (0, u "com/example/lamassu/lamassu/model/ListedTargetsGrantRequestKeysPinLaw"), (0, u "pick"), (0, u "(I)Lcom/example/lamassu/lamassu/model/Channel;"), (0, .fieldref 27 28), (0, .class_ 29), (0, .nameAndType 30 31), (0, u "com/example/lamassu/lamassu/model/DecisionPoint"), (0, u "USER"), (0, u "Lcom/example/lamassu/lamassu/model/DecisionPoint;"), (0, .fieldref 27 33), (0, .nameAndType 34 31), (0, u "SYSTEM"), (0, .class_ 36), (0, u "com/example/lamassu/lamassu/model/Conditions"), (0, .methodref 35 38), (0, .nameAndType 5 39), (0, u "(Ljava/util/Set;Lcom/example/lamassu/lamassu/model/DecisionPoint;Ljava/lang/String;)V"), (0, .class_ 41), (0, u "com/example/lamassu/lamassu/model/ListedTargetsGrant"), (0, .methodref 40 43), (0, .nameAndType 5 44), (0, u "(Lcom/example/lamassu/lamassu/model/Channel;Ljava/util/Set;Lcom/example/lamassu/lamassu/model/Conditions;)V"), (0, .methodref 40 46), (0, .nameAndType 47 48), (0, u "requestKeys"), (0, u "()Ljava/util/Set;"), (0, .methodref 9 50), (0, .nameAndType 51 52), (0, u "keyword"), (0, u "()Ljava/lang/String;"), (0, .interfaceMethodref 54 55), (0, .class_ 56), (0, .nameAndType 57 58), (0, u "java/util/Set"), (0, u "size"), (0, u "()I"), (0, .interfaceMethodref 54 60), (0, .nameAndType 61 62), (0, u "contains"), (0, u "(Ljava/lang/Object;)Z"), (3, u "law"), (0, u "(III)Z")] 4

def k1m0 : Method := { name := "<init>", desc := "()V", sig := { parameters := [], returnType := none }, accessFlags := 1, code := none }
def k1c1 : Code := { maxStack := 2, maxLocals := 2, code := method_2_code, exceptionTable := #[], attributes := #[] }
def k1m1 : Method := { name := "pick", desc := "(I)Lcom/example/lamassu/lamassu/model/Channel;", sig := { parameters := [.int], returnType := some (.object "com/example/lamassu/lamassu/model/Channel") }, accessFlags := 10, code := some k1c1 }
def k1c2 : Code := { maxStack := 5, maxLocals := 15, code := code, exceptionTable := #[], attributes := #[] }
def k1m2 : Method := { name := "law", desc := "(III)Z", sig := { parameters := [.int, .int, .int], returnType := some .boolean }, accessFlags := 9, code := some k1c2 }
/-- com/example/lamassu/lamassu/model/ListedTargetsGrantRequestKeysPinLaw -/
def k1 : Class := { plain "com/example/lamassu/lamassu/model/ListedTargetsGrantRequestKeysPinLaw" (some 0) with
  accessFlags := 49
  interfaces := #[]
  cf := some (fileOf pool1 21 #[] #[{ accessFlags := 1, nameIndex := 5, descriptorIndex := 6, attributes := #[] }, { accessFlags := 10, nameIndex := 24, descriptorIndex := 25, attributes := #[] }, { accessFlags := 9, nameIndex := 66, descriptorIndex := 67, attributes := #[] }] 49 2 #[] #[])
  fields := #[]
  methods := #[k1m0, k1m1, k1m2]
  instanceTypes := #[]
  staticTypes := #[]
  resolved := Array.replicate 72 none
  statics := none }

def pool2 : Array CpInfo := pool [(1, .class_ 2), (0, u "java/lang/constant/Constable"), (0, .class_ 4), (0, u "java/lang/Object")] 6

/-- java/lang/constant/Constable -/
def k2 : Class := { plain "java/lang/constant/Constable" (some 0) with
  accessFlags := 1537
  interfaces := #[]
  cf := some (fileOf pool2 1 #[] #[] 1537 3 #[] #[])
  fields := #[]
  methods := #[]
  instanceTypes := #[]
  staticTypes := #[]
  resolved := Array.replicate 11 none
  statics := none }

def pool3 : Array CpInfo := pool [(1, .class_ 2), (0, u "java/lang/Comparable"), (0, .class_ 4), (0, u "java/lang/Object")] 7

/-- java/lang/Comparable -/
def k3 : Class := { plain "java/lang/Comparable" (some 0) with
  accessFlags := 1537
  interfaces := #[]
  cf := some (fileOf pool3 1 #[] #[] 1537 3 #[] #[])
  fields := #[]
  methods := #[]
  instanceTypes := #[]
  staticTypes := #[]
  resolved := Array.replicate 12 none
  statics := none }

def pool4 : Array CpInfo := pool [(1, .class_ 2), (0, u "java/io/Serializable"), (0, .class_ 4), (0, u "java/lang/Object")] 2

/-- java/io/Serializable -/
def k4 : Class := { plain "java/io/Serializable" (some 0) with
  accessFlags := 1537
  interfaces := #[]
  cf := some (fileOf pool4 1 #[] #[] 1537 3 #[] #[])
  fields := #[]
  methods := #[]
  instanceTypes := #[]
  staticTypes := #[]
  resolved := Array.replicate 7 none
  statics := none }

def pool5 : Array CpInfo := pool [(2, .class_ 4), (1, u "java/lang/Enum"), (0, u "name"), (0, u "Ljava/lang/String;"), (2, u "ordinal"), (0, u "I"), (1, .class_ 14), (1, u "java/lang/Object"), (4, u "hash"), (86, .class_ 108), (1, u "java/lang/Enum$EnumDesc"), (2, .class_ 112), (0, u "java/lang/constant/Constable"), (0, .class_ 114), (0, u "java/lang/Comparable"), (0, .class_ 116), (0, u "java/io/Serializable")] 87

/-- java/lang/Enum -/
def k5 : Class := { plain "java/lang/Enum" (some 0) with
  accessFlags := 1057
  interfaces := #[2, 3, 4]
  cf := some (fileOf pool5 2 #[.nestMembers #[106]] #[] 1057 12 #[111, 113, 115] #[{ accessFlags := 18, nameIndex := 5, descriptorIndex := 6, attributes := #[] }, { accessFlags := 18, nameIndex := 9, descriptorIndex := 10, attributes := #[] }, { accessFlags := 2, nameIndex := 19, descriptorIndex := 10, attributes := #[] }])
  fields := #[{ name := "name", type := (.object "java/lang/String"), accessFlags := 18, slot := 0, constantValue := 0 }, { name := "ordinal", type := .int, accessFlags := 18, slot := 1, constantValue := 0 }, { name := "hash", type := .int, accessFlags := 2, slot := 2, constantValue := 0 }]
  methods := #[]
  instanceTypes := #[(.object "java/lang/String"), .int, .int]
  staticTypes := #[]
  resolved := Array.replicate 204 none
  statics := none }

def pool6 : Array CpInfo := pool [(1, .class_ 2), (0, u "com/example/lamassu/lamassu/model/Channel"), (2, u "JS_INTERFACE"), (0, u "Lcom/example/lamassu/lamassu/model/Channel;"), (2, u "EVENT_HANDLER"), (2, u "HTML5"), (2, u "$VALUES"), (0, u "[Lcom/example/lamassu/lamassu/model/Channel;"), (6, .class_ 25), (1, u "java/lang/Enum"), (6, .fieldref 1 33), (0, .nameAndType 34 35), (0, u "keyword"), (0, u "Ljava/lang/String;"), (2, u "targets"), (0, u "Ljava/util/Set;"), (78, u "()Ljava/lang/String;")] 22

def k6c0 : Code := { maxStack := 1, maxLocals := 1, code := prog_18_method_4_code, exceptionTable := #[], attributes := #[] }
def k6m0 : Method := { name := "keyword", desc := "()Ljava/lang/String;", sig := { parameters := [], returnType := some (.object "java/lang/String") }, accessFlags := 1, code := some k6c0 }
/-- com/example/lamassu/lamassu/model/Channel -/
def k6 : Class := { plain "com/example/lamassu/lamassu/model/Channel" (some 5) with
  accessFlags := 16433
  interfaces := #[]
  cf := some (fileOf pool6 1 #[] #[{ accessFlags := 1, nameIndex := 34, descriptorIndex := 118, attributes := #[] }] 16433 23 #[] #[{ accessFlags := 16409, nameIndex := 5, descriptorIndex := 6, attributes := #[] }, { accessFlags := 16409, nameIndex := 9, descriptorIndex := 6, attributes := #[] }, { accessFlags := 16409, nameIndex := 12, descriptorIndex := 6, attributes := #[] }, { accessFlags := 18, nameIndex := 34, descriptorIndex := 35, attributes := #[] }, { accessFlags := 18, nameIndex := 38, descriptorIndex := 39, attributes := #[] }, { accessFlags := 4122, nameIndex := 15, descriptorIndex := 16, attributes := #[] }])
  fields := #[{ name := "JS_INTERFACE", type := (.object "com/example/lamassu/lamassu/model/Channel"), accessFlags := 16409, slot := 0, constantValue := 0 }, { name := "EVENT_HANDLER", type := (.object "com/example/lamassu/lamassu/model/Channel"), accessFlags := 16409, slot := 1, constantValue := 0 }, { name := "HTML5", type := (.object "com/example/lamassu/lamassu/model/Channel"), accessFlags := 16409, slot := 2, constantValue := 0 }, { name := "keyword", type := (.object "java/lang/String"), accessFlags := 18, slot := 3, constantValue := 0 }, { name := "targets", type := (.object "java/util/Set"), accessFlags := 18, slot := 4, constantValue := 0 }, { name := "$VALUES", type := (.array (.object "com/example/lamassu/lamassu/model/Channel")), accessFlags := 4122, slot := 3, constantValue := 0 }]
  methods := #[k6m0]
  instanceTypes := #[(.object "java/lang/String"), .int, .int, (.object "java/lang/String"), (.object "java/util/Set")]
  staticTypes := #[(.object "com/example/lamassu/lamassu/model/Channel"), (.object "com/example/lamassu/lamassu/model/Channel"), (.object "com/example/lamassu/lamassu/model/Channel"), (.array (.object "com/example/lamassu/lamassu/model/Channel"))]
  resolved := Array.replicate 141 none
  statics := some 0 }

def pool7 : Array CpInfo := pool [(1, .class_ 2), (0, u "com/example/lamassu/lamassu/model/DecisionPoint"), (2, u "SYSTEM"), (0, u "Lcom/example/lamassu/lamassu/model/DecisionPoint;"), (2, u "USER"), (2, u "$VALUES"), (0, u "[Lcom/example/lamassu/lamassu/model/DecisionPoint;"), (6, .class_ 22), (1, u "java/lang/Enum"), (8, u "keyword"), (0, u "Ljava/lang/String;"), (2, u "verdict"), (0, u "Lcom/example/lamassu/lamassu/model/Verdict;")] 68

/-- com/example/lamassu/lamassu/model/DecisionPoint -/
def k7 : Class := { plain "com/example/lamassu/lamassu/model/DecisionPoint" (some 5) with
  accessFlags := 16433
  interfaces := #[]
  cf := some (fileOf pool7 1 #[] #[] 16433 20 #[] #[{ accessFlags := 16409, nameIndex := 5, descriptorIndex := 6, attributes := #[] }, { accessFlags := 16409, nameIndex := 9, descriptorIndex := 6, attributes := #[] }, { accessFlags := 18, nameIndex := 31, descriptorIndex := 32, attributes := #[] }, { accessFlags := 18, nameIndex := 35, descriptorIndex := 36, attributes := #[] }, { accessFlags := 4122, nameIndex := 12, descriptorIndex := 13, attributes := #[] }])
  fields := #[{ name := "SYSTEM", type := (.object "com/example/lamassu/lamassu/model/DecisionPoint"), accessFlags := 16409, slot := 0, constantValue := 0 }, { name := "USER", type := (.object "com/example/lamassu/lamassu/model/DecisionPoint"), accessFlags := 16409, slot := 1, constantValue := 0 }, { name := "keyword", type := (.object "java/lang/String"), accessFlags := 18, slot := 3, constantValue := 0 }, { name := "verdict", type := (.object "com/example/lamassu/lamassu/model/Verdict"), accessFlags := 18, slot := 4, constantValue := 0 }, { name := "$VALUES", type := (.array (.object "com/example/lamassu/lamassu/model/DecisionPoint")), accessFlags := 4122, slot := 2, constantValue := 0 }]
  methods := #[]
  instanceTypes := #[(.object "java/lang/String"), .int, .int, (.object "java/lang/String"), (.object "com/example/lamassu/lamassu/model/Verdict")]
  staticTypes := #[(.object "com/example/lamassu/lamassu/model/DecisionPoint"), (.object "com/example/lamassu/lamassu/model/DecisionPoint"), (.array (.object "com/example/lamassu/lamassu/model/DecisionPoint"))]
  resolved := Array.replicate 105 none
  statics := some 1 }

def pool8 : Array CpInfo := pool [(1, .methodref 2 3), (0, .class_ 4), (0, .nameAndType 5 6), (0, u "java/lang/Object"), (0, u "<init>"), (0, u "()V"), (0, .interfaceMethodref 8 9), (0, .class_ 10), (0, .nameAndType 11 12), (0, u "java/util/Set"), (0, u "copyOf"), (0, u "(Ljava/util/Collection;)Ljava/util/Set;"), (0, .fieldref 14 15), (0, .class_ 16), (0, .nameAndType 17 18), (0, u "com/example/lamassu/lamassu/model/Conditions"), (0, u "permissions"), (0, u "Ljava/util/Set;"), (0, .string 20), (0, u "decisionPoint"), (0, .methodref 22 23), (0, .class_ 24), (0, .nameAndType 25 26), (0, u "java/util/Objects"), (0, u "requireNonNull"), (0, u "(Ljava/lang/Object;Ljava/lang/String;)Ljava/lang/Object;"), (0, .class_ 28), (0, u "com/example/lamassu/lamassu/model/DecisionPoint"), (0, .fieldref 14 30), (0, .nameAndType 20 31), (0, u "Lcom/example/lamassu/lamassu/model/DecisionPoint;"), (0, .fieldref 14 33), (0, .nameAndType 34 35), (0, u "description"), (0, u "Ljava/lang/String;"), (21, u "(Ljava/util/Set;Lcom/example/lamassu/lamassu/model/DecisionPoint;Ljava/lang/String;)V")] 16

def k8c0 : Code := { maxStack := 3, maxLocals := 4, code := prog_19_method_1_code, exceptionTable := #[], attributes := #[] }
def k8m0 : Method := { name := "<init>", desc := "(Ljava/util/Set;Lcom/example/lamassu/lamassu/model/DecisionPoint;Ljava/lang/String;)V", sig := { parameters := [(.object "java/util/Set"), (.object "com/example/lamassu/lamassu/model/DecisionPoint"), (.object "java/lang/String")], returnType := none }, accessFlags := 1, code := some k8c0 }
/-- com/example/lamassu/lamassu/model/Conditions -/
def k8 : Class := { plain "com/example/lamassu/lamassu/model/Conditions" (some 0) with
  accessFlags := 49
  interfaces := #[]
  cf := some (fileOf pool8 14 #[] #[{ accessFlags := 1, nameIndex := 5, descriptorIndex := 57, attributes := #[] }] 49 2 #[] #[{ accessFlags := 18, nameIndex := 17, descriptorIndex := 18, attributes := #[] }, { accessFlags := 18, nameIndex := 20, descriptorIndex := 31, attributes := #[] }, { accessFlags := 18, nameIndex := 34, descriptorIndex := 35, attributes := #[] }])
  fields := #[{ name := "permissions", type := (.object "java/util/Set"), accessFlags := 18, slot := 0, constantValue := 0 }, { name := "decisionPoint", type := (.object "com/example/lamassu/lamassu/model/DecisionPoint"), accessFlags := 18, slot := 1, constantValue := 0 }, { name := "description", type := (.object "java/lang/String"), accessFlags := 18, slot := 2, constantValue := 0 }]
  methods := #[k8m0]
  instanceTypes := #[(.object "java/util/Set"), (.object "com/example/lamassu/lamassu/model/DecisionPoint"), (.object "java/lang/String")]
  staticTypes := #[]
  resolved := Array.replicate 74 none
  statics := none }

def pool9 : Array CpInfo := pool [(2, .class_ 4), (1, u "java/lang/CharSequence"), (42, .class_ 48), (0, u "java/lang/CharSequence$1CodePointIterator"), (10, .class_ 60), (0, u "java/lang/CharSequence$1CharIterator"), (5, .class_ 67), (0, u "java/lang/Object")] 63

/-- java/lang/CharSequence -/
def k9 : Class := { plain "java/lang/CharSequence" (some 0) with
  accessFlags := 1537
  interfaces := #[]
  cf := some (fileOf pool9 2 #[.nestMembers #[47, 59]] #[] 1537 66 #[] #[])
  fields := #[]
  methods := #[]
  instanceTypes := #[]
  staticTypes := #[]
  resolved := Array.replicate 131 none
  statics := none }

def pool10 : Array CpInfo := pool [(1, .class_ 2), (0, u "java/lang/constant/ConstantDesc"), (0, .class_ 4), (0, u "java/lang/Object")] 32

/-- java/lang/constant/ConstantDesc -/
def k10 : Class := { plain "java/lang/constant/ConstantDesc" (some 0) with
  accessFlags := 1537
  interfaces := #[]
  cf := some (fileOf pool10 1 #[] #[] 1537 3 #[] #[])
  fields := #[]
  methods := #[]
  instanceTypes := #[]
  staticTypes := #[]
  resolved := Array.replicate 37 none
  statics := none }

def pool11 : Array CpInfo := pool [(2, .class_ 4), (1, u "java/lang/Object"), (0, u "<init>"), (0, u "()V"), (2, .fieldref 10 11), (0, .class_ 12), (0, .nameAndType 13 14), (0, u "java/lang/String"), (0, u "value"), (0, u "[B"), (0, .fieldref 10 16), (0, .nameAndType 17 18), (0, u "coder"), (0, u "B"), (2, u "hash"), (0, u "I"), (2, u "hashIsZero"), (0, u "Z"), (11, .fieldref 10 39), (0, .nameAndType 40 26), (0, u "COMPACT_STRINGS"), (66, .class_ 109), (1, u "java/lang/StringLatin1"), (431, .methodref 107 542), (0, .nameAndType 543 544), (0, u "equals"), (0, u "([B[B)Z"), (28, u "(Ljava/lang/Object;)Z"), (1, .class_ 576), (0, u "java/lang/CharSequence"), (22, u "CASE_INSENSITIVE_ORDER"), (0, u "Ljava/util/Comparator;"), (500, u "serialPersistentFields"), (0, u "[Ljava/io/ObjectStreamField;"), (0, .class_ 1104), (0, u "java/lang/String$CaseInsensitiveComparator"), (1, .class_ 1107), (0, u "java/io/Serializable"), (0, .class_ 1109), (0, u "java/lang/Comparable"), (0, .class_ 1111), (0, u "java/lang/constant/Constable"), (0, .class_ 1113), (0, u "java/lang/constant/ConstantDesc"), (2, u "serialVersionUID"), (0, u "J"), (3, u "REPL"), (0, u "C"), (2, u "LATIN1"), (1, u "UTF16")] 323

def k11m0 : Method := { name := "<init>", desc := "()V", sig := { parameters := [], returnType := none }, accessFlags := 1, code := none }
def k11c1 : Code := { maxStack := 2, maxLocals := 3, code := jdk_42_method_66_code, exceptionTable := #[], attributes := #[] }
def k11m1 : Method := { name := "equals", desc := "(Ljava/lang/Object;)Z", sig := { parameters := [(.object "java/lang/Object")], returnType := some .boolean }, accessFlags := 1, code := some k11c1 }
/-- java/lang/String -/
def k11 : Class := { plain "java/lang/String" (some 0) with
  accessFlags := 49
  interfaces := #[4, 3, 9, 2, 10]
  cf := some (fileOf pool11 10 #[.nestMembers #[1103]] #[{ accessFlags := 1, nameIndex := 5, descriptorIndex := 6, attributes := #[] }, { accessFlags := 1, nameIndex := 543, descriptorIndex := 573, attributes := #[] }] 49 2 #[1106, 1108, 575, 1110, 1112] #[{ accessFlags := 18, nameIndex := 13, descriptorIndex := 14, attributes := #[] }, { accessFlags := 18, nameIndex := 17, descriptorIndex := 18, attributes := #[] }, { accessFlags := 2, nameIndex := 21, descriptorIndex := 22, attributes := #[] }, { accessFlags := 2, nameIndex := 25, descriptorIndex := 26, attributes := #[] }, { accessFlags := 26, nameIndex := 1116, descriptorIndex := 1117, attributes := #[] }, { accessFlags := 24, nameIndex := 40, descriptorIndex := 26, attributes := #[] }, { accessFlags := 26, nameIndex := 1101, descriptorIndex := 1102, attributes := #[] }, { accessFlags := 26, nameIndex := 1121, descriptorIndex := 1122, attributes := #[] }, { accessFlags := 25, nameIndex := 599, descriptorIndex := 600, attributes := #[] }, { accessFlags := 24, nameIndex := 1125, descriptorIndex := 18, attributes := #[] }, { accessFlags := 24, nameIndex := 1127, descriptorIndex := 18, attributes := #[] }])
  fields := #[{ name := "value", type := (.array .byte), accessFlags := 18, slot := 0, constantValue := 0 }, { name := "coder", type := .byte, accessFlags := 18, slot := 1, constantValue := 0 }, { name := "hash", type := .int, accessFlags := 2, slot := 2, constantValue := 0 }, { name := "hashIsZero", type := .boolean, accessFlags := 2, slot := 3, constantValue := 0 }, { name := "serialVersionUID", type := .long, accessFlags := 26, slot := 0, constantValue := 0 }, { name := "COMPACT_STRINGS", type := .boolean, accessFlags := 24, slot := 1, constantValue := 0 }, { name := "serialPersistentFields", type := (.array (.object "java/io/ObjectStreamField")), accessFlags := 26, slot := 2, constantValue := 0 }, { name := "REPL", type := .char, accessFlags := 26, slot := 3, constantValue := 0 }, { name := "CASE_INSENSITIVE_ORDER", type := (.object "java/util/Comparator"), accessFlags := 25, slot := 4, constantValue := 0 }, { name := "LATIN1", type := .byte, accessFlags := 24, slot := 5, constantValue := 0 }, { name := "UTF16", type := .byte, accessFlags := 24, slot := 6, constantValue := 0 }]
  methods := #[k11m0, k11m1]
  instanceTypes := #[(.array .byte), .byte, .int, .boolean]
  staticTypes := #[.long, .boolean, (.array (.object "java/io/ObjectStreamField")), .char, (.object "java/util/Comparator"), .byte, .byte]
  resolved := Array.replicate 1451 none
  statics := some 2 }

def pool12 : Array CpInfo := pool [(2, .class_ 4), (1, u "java/lang/Object"), (0, u "<init>"), (0, u "()V"), (35, .class_ 44), (1, u "java/util/Objects"), (0, u "requireNonNull"), (0, u "(Ljava/lang/Object;)Ljava/lang/Object;"), (47, u "(Ljava/lang/Object;Ljava/lang/String;)Ljava/lang/Object;")] 89

def k12m0 : Method := { name := "<init>", desc := "()V", sig := { parameters := [], returnType := none }, accessFlags := 2, code := none }
def k12c1 : Code := { maxStack := 2, maxLocals := 1, code := jdk_31_method_10_code, exceptionTable := #[], attributes := #[] }
def k12m1 : Method := { name := "requireNonNull", desc := "(Ljava/lang/Object;)Ljava/lang/Object;", sig := { parameters := [(.object "java/lang/Object")], returnType := some (.object "java/lang/Object") }, accessFlags := 9, code := some k12c1 }
def k12c2 : Code := { maxStack := 3, maxLocals := 2, code := jdk_31_method_11_code, exceptionTable := #[], attributes := #[] }
def k12m2 : Method := { name := "requireNonNull", desc := "(Ljava/lang/Object;Ljava/lang/String;)Ljava/lang/Object;", sig := { parameters := [(.object "java/lang/Object"), (.object "java/lang/String")], returnType := some (.object "java/lang/Object") }, accessFlags := 9, code := some k12c2 }
/-- java/util/Objects -/
def k12 : Class := { plain "java/util/Objects" (some 0) with
  accessFlags := 49
  interfaces := #[]
  cf := some (fileOf pool12 42 #[] #[{ accessFlags := 2, nameIndex := 5, descriptorIndex := 6, attributes := #[] }, { accessFlags := 9, nameIndex := 45, descriptorIndex := 46, attributes := #[] }, { accessFlags := 9, nameIndex := 45, descriptorIndex := 94, attributes := #[] }] 49 2 #[] #[])
  fields := #[]
  methods := #[k12m0, k12m1, k12m2]
  instanceTypes := #[]
  staticTypes := #[]
  resolved := Array.replicate 184 none
  statics := none }

def pool13 : Array CpInfo := pool [(1, .class_ 2), (0, u "com/example/lamassu/lamassu/model/Grant"), (0, .class_ 4), (0, u "java/lang/Object"), (13, .class_ 19), (0, u "com/example/lamassu/lamassu/model/Grant$Coverage")] 2

/-- com/example/lamassu/lamassu/model/Grant -/
def k13 : Class := { plain "com/example/lamassu/lamassu/model/Grant" (some 0) with
  accessFlags := 1537
  interfaces := #[]
  cf := some (fileOf pool13 1 #[.nestMembers #[18]] #[] 1537 3 #[] #[])
  fields := #[]
  methods := #[]
  instanceTypes := #[]
  staticTypes := #[]
  resolved := Array.replicate 22 none
  statics := none }

def pool14 : Array CpInfo := pool [(1, .methodref 2 3), (0, .class_ 4), (0, .nameAndType 5 6), (0, u "java/lang/Object"), (0, u "<init>"), (0, u "()V"), (0, .string 8), (0, u "channel"), (0, .methodref 10 11), (0, .class_ 12), (0, .nameAndType 13 14), (0, u "java/util/Objects"), (0, u "requireNonNull"), (0, u "(Ljava/lang/Object;Ljava/lang/String;)Ljava/lang/Object;"), (0, .class_ 16), (0, u "com/example/lamassu/lamassu/model/Channel"), (0, .fieldref 18 19), (0, .class_ 20), (0, .nameAndType 8 21), (0, u "com/example/lamassu/lamassu/model/ListedTargetsGrant"), (0, u "Lcom/example/lamassu/lamassu/model/Channel;"), (0, .interfaceMethodref 23 24), (0, .class_ 25), (0, .nameAndType 26 27), (0, u "java/util/Set"), (0, u "copyOf"), (0, u "(Ljava/util/Collection;)Ljava/util/Set;"), (0, .fieldref 18 29), (0, .nameAndType 30 31), (0, u "targets"), (0, u "Ljava/util/Set;"), (0, .string 33), (0, u "conditions"), (0, .class_ 35), (0, u "com/example/lamassu/lamassu/model/Conditions"), (0, .fieldref 18 37), (0, .nameAndType 33 38), (0, u "Lcom/example/lamassu/lamassu/model/Conditions;"), (7, u "()Ljava/lang/String;"), (22, u "of"), (5, .methodref 15 76), (0, .nameAndType 77 46), (0, u "keyword"), (0, .interfaceMethodref 23 79), (0, .nameAndType 69 80), (0, u "(Ljava/lang/Object;)Ljava/util/Set;"), (0, .class_ 82), (0, u "com/example/lamassu/lamassu/model/Grant"), (2, u "(Lcom/example/lamassu/lamassu/model/Channel;Ljava/util/Set;Lcom/example/lamassu/lamassu/model/Conditions;)V"), (5, u "requestKeys"), (0, u "()Ljava/util/Set;")] 5

def k14c0 : Code := { maxStack := 3, maxLocals := 4, code := prog_27_method_1_code, exceptionTable := #[], attributes := #[] }
def k14m0 : Method := { name := "<init>", desc := "(Lcom/example/lamassu/lamassu/model/Channel;Ljava/util/Set;Lcom/example/lamassu/lamassu/model/Conditions;)V", sig := { parameters := [(.object "com/example/lamassu/lamassu/model/Channel"), (.object "java/util/Set"), (.object "com/example/lamassu/lamassu/model/Conditions")], returnType := none }, accessFlags := 1, code := some k14c0 }
def k14c1 : Code := { maxStack := 1, maxLocals := 1, code := prog_27_method_5_code, exceptionTable := #[], attributes := #[] }
def k14m1 : Method := { name := "requestKeys", desc := "()Ljava/util/Set;", sig := { parameters := [], returnType := some (.object "java/util/Set") }, accessFlags := 1, code := some k14c1 }
/-- com/example/lamassu/lamassu/model/ListedTargetsGrant -/
def k14 : Class := { plain "com/example/lamassu/lamassu/model/ListedTargetsGrant" (some 0) with
  accessFlags := 49
  interfaces := #[13]
  cf := some (fileOf pool14 18 #[] #[{ accessFlags := 1, nameIndex := 5, descriptorIndex := 85, attributes := #[] }, { accessFlags := 1, nameIndex := 91, descriptorIndex := 92, attributes := #[] }] 49 2 #[81] #[{ accessFlags := 18, nameIndex := 8, descriptorIndex := 21, attributes := #[] }, { accessFlags := 18, nameIndex := 30, descriptorIndex := 31, attributes := #[] }, { accessFlags := 18, nameIndex := 33, descriptorIndex := 38, attributes := #[] }])
  fields := #[{ name := "channel", type := (.object "com/example/lamassu/lamassu/model/Channel"), accessFlags := 18, slot := 0, constantValue := 0 }, { name := "targets", type := (.object "java/util/Set"), accessFlags := 18, slot := 1, constantValue := 0 }, { name := "conditions", type := (.object "com/example/lamassu/lamassu/model/Conditions"), accessFlags := 18, slot := 2, constantValue := 0 }]
  methods := #[k14m0, k14m1]
  instanceTypes := #[(.object "com/example/lamassu/lamassu/model/Channel"), (.object "java/util/Set"), (.object "com/example/lamassu/lamassu/model/Conditions")]
  staticTypes := #[]
  resolved := Array.replicate 98 none
  statics := none }

def pool15 : Array CpInfo := pool [(8, .class_ 10), (1, u "java/lang/Iterable"), (24, .class_ 36), (0, u "java/lang/Object")] 25

/-- java/lang/Iterable -/
def k15 : Class := { plain "java/lang/Iterable" (some 0) with
  accessFlags := 1537
  interfaces := #[]
  cf := some (fileOf pool15 8 #[] #[] 1537 35 #[] #[])
  fields := #[]
  methods := #[]
  instanceTypes := #[]
  staticTypes := #[]
  resolved := Array.replicate 62 none
  statics := none }

def pool16 : Array CpInfo := pool [(10, .class_ 12), (1, u "java/util/Collection"), (47, .class_ 61), (0, u "java/lang/Object"), (0, .class_ 63), (0, u "java/lang/Iterable")] 51

/-- java/util/Collection -/
def k16 : Class := { plain "java/util/Collection" (some 0) with
  accessFlags := 1537
  interfaces := #[15]
  cf := some (fileOf pool16 10 #[] #[] 1537 60 #[62] #[])
  fields := #[]
  methods := #[]
  instanceTypes := #[]
  staticTypes := #[]
  resolved := Array.replicate 115 none
  statics := none }

def pool17 : Array CpInfo := pool [(15, .class_ 16), (0, u "java/util/ImmutableCollections$Set12"), (0, .methodref 15 18), (0, .nameAndType 19 20), (0, u "<init>"), (0, u "(Ljava/lang/Object;)V"), (5, .class_ 27), (0, u "java/lang/Object"), (3, .class_ 32), (0, u "java/util/ImmutableCollections$AbstractImmutableSet"), (0, .class_ 34), (0, u "java/util/Set"), (1, .class_ 38), (1, u "java/util/Collection"), (4, u "of"), (13, u "size"), (0, u "()I"), (0, u "contains"), (0, u "(Ljava/lang/Object;)Z"), (30, u "(Ljava/lang/Object;)Ljava/util/Set;"), (39, u "copyOf"), (0, u "(Ljava/util/Collection;)Ljava/util/Set;")] 11

def k17m0 : Method := { name := "size", desc := "()I", sig := { parameters := [], returnType := some .int }, accessFlags := 1025, code := none }
def k17m1 : Method := { name := "contains", desc := "(Ljava/lang/Object;)Z", sig := { parameters := [(.object "java/lang/Object")], returnType := some .boolean }, accessFlags := 1025, code := none }
def k17c2 : Code := { maxStack := 3, maxLocals := 1, code := jdk_96_method_18_code, exceptionTable := #[], attributes := #[] }
def k17m2 : Method := { name := "of", desc := "(Ljava/lang/Object;)Ljava/util/Set;", sig := { parameters := [(.object "java/lang/Object")], returnType := some (.object "java/util/Set") }, accessFlags := 9, code := some k17c2 }
def k17c3 : Code := { maxStack := 3, maxLocals := 1, code := jdk_96_method_29_code, exceptionTable := #[], attributes := #[] }
def k17m3 : Method := { name := "copyOf", desc := "(Ljava/util/Collection;)Ljava/util/Set;", sig := { parameters := [(.object "java/util/Collection")], returnType := some (.object "java/util/Set") }, accessFlags := 9, code := some k17c3 }
/-- java/util/Set -/
def k17 : Class := { plain "java/util/Set" (some 0) with
  accessFlags := 1537
  interfaces := #[16]
  cf := some (fileOf pool17 33 #[] #[{ accessFlags := 1025, nameIndex := 57, descriptorIndex := 58, attributes := #[] }, { accessFlags := 1025, nameIndex := 59, descriptorIndex := 60, attributes := #[] }, { accessFlags := 9, nameIndex := 43, descriptorIndex := 91, attributes := #[] }, { accessFlags := 9, nameIndex := 131, descriptorIndex := 132, attributes := #[] }] 1537 26 #[36] #[])
  fields := #[]
  methods := #[k17m0, k17m1, k17m2, k17m3]
  instanceTypes := #[]
  staticTypes := #[]
  resolved := Array.replicate 144 none
  statics := none }

def pool18 : Array CpInfo := pool [(1, .methodref 2 3), (0, .class_ 4), (0, .nameAndType 5 6), (0, u "java/lang/Object"), (0, u "<init>"), (0, u "()V"), (1, .class_ 10), (1, u "java/util/AbstractCollection"), (66, .class_ 78), (0, u "java/util/Collection")] 81

def k18c0 : Code := { maxStack := 1, maxLocals := 1, code := jdk_22_method_1_code, exceptionTable := #[], attributes := #[] }
def k18m0 : Method := { name := "<init>", desc := "()V", sig := { parameters := [], returnType := none }, accessFlags := 4, code := some k18c0 }
/-- java/util/AbstractCollection -/
def k18 : Class := { plain "java/util/AbstractCollection" (some 0) with
  accessFlags := 1057
  interfaces := #[16]
  cf := some (fileOf pool18 8 #[] #[{ accessFlags := 4, nameIndex := 5, descriptorIndex := 6, attributes := #[] }] 1057 2 #[77] #[])
  fields := #[]
  methods := #[k18m0]
  instanceTypes := #[]
  staticTypes := #[]
  resolved := Array.replicate 160 none
  statics := none }

def pool19 : Array CpInfo := pool [(1, .methodref 2 3), (0, .class_ 4), (0, .nameAndType 5 6), (0, u "java/util/AbstractCollection"), (0, u "<init>"), (0, u "()V"), (1, .class_ 10), (1, u "java/util/ImmutableCollections"), (2, .class_ 14), (0, u "java/util/ImmutableCollections$AbstractImmutableCollection")] 41

def k19c0 : Code := { maxStack := 1, maxLocals := 1, code := jdk_47_method_1_code, exceptionTable := #[], attributes := #[] }
def k19m0 : Method := { name := "<init>", desc := "()V", sig := { parameters := [], returnType := none }, accessFlags := 0, code := some k19c0 }
/-- java/util/ImmutableCollections$AbstractImmutableCollection -/
def k19 : Class := { plain "java/util/ImmutableCollections$AbstractImmutableCollection" (some 18) with
  accessFlags := 1056
  interfaces := #[]
  cf := some (fileOf pool19 13 #[.nestHost 8] #[{ accessFlags := 0, nameIndex := 5, descriptorIndex := 6, attributes := #[] }] 1056 2 #[] #[])
  fields := #[]
  methods := #[k19m0]
  instanceTypes := #[]
  staticTypes := #[]
  resolved := Array.replicate 56 none
  statics := none }

def pool20 : Array CpInfo := pool [(1, .methodref 2 3), (0, .class_ 4), (0, .nameAndType 5 6), (0, u "java/util/ImmutableCollections$AbstractImmutableCollection"), (0, u "<init>"), (0, u "()V"), (0, .class_ 8), (0, u "java/util/Set"), (7, .class_ 17), (0, u "java/util/ImmutableCollections$AbstractImmutableSet"), (43, .class_ 62), (0, u "java/util/ImmutableCollections")] 3

def k20c0 : Code := { maxStack := 1, maxLocals := 1, code := jdk_100_method_1_code, exceptionTable := #[], attributes := #[] }
def k20m0 : Method := { name := "<init>", desc := "()V", sig := { parameters := [], returnType := none }, accessFlags := 0, code := some k20c0 }
/-- java/util/ImmutableCollections$AbstractImmutableSet -/
def k20 : Class := { plain "java/util/ImmutableCollections$AbstractImmutableSet" (some 19) with
  accessFlags := 1056
  interfaces := #[17]
  cf := some (fileOf pool20 16 #[.nestHost 61] #[{ accessFlags := 0, nameIndex := 5, descriptorIndex := 6, attributes := #[] }] 1056 2 #[7] #[])
  fields := #[]
  methods := #[k20m0]
  instanceTypes := #[]
  staticTypes := #[]
  resolved := Array.replicate 66 none
  statics := none }

def pool21 : Array CpInfo := pool [(1, .methodref 2 3), (0, .class_ 4), (0, .nameAndType 5 6), (0, u "java/util/ImmutableCollections$AbstractImmutableSet"), (0, u "<init>"), (0, u "()V"), (0, .methodref 8 9), (0, .class_ 10), (0, .nameAndType 11 12), (0, u "java/util/Objects"), (0, u "requireNonNull"), (0, u "(Ljava/lang/Object;)Ljava/lang/Object;"), (0, .fieldref 14 15), (0, .class_ 16), (0, .nameAndType 17 18), (0, u "java/util/ImmutableCollections$Set12"), (0, u "e0"), (0, u "Ljava/lang/Object;"), (0, .fieldref 20 21), (0, .class_ 22), (0, .nameAndType 23 18), (0, u "java/util/ImmutableCollections"), (0, u "EMPTY"), (0, .fieldref 14 25), (0, .nameAndType 26 18), (0, u "e1"), (0, .methodref 28 29), (0, .class_ 30), (0, .nameAndType 31 32), (0, u "java/lang/Object"), (0, u "equals"), (0, u "(Ljava/lang/Object;)Z"), (24, u "()I"), (21, u "size"), (17, .class_ 98), (0, u "java/io/Serializable"), (4, u "(Ljava/lang/Object;)V"), (13, u "contains")] 31

def k21c0 : Code := { maxStack := 2, maxLocals := 2, code := jdk_101_method_1_code, exceptionTable := #[], attributes := #[] }
def k21m0 : Method := { name := "<init>", desc := "(Ljava/lang/Object;)V", sig := { parameters := [(.object "java/lang/Object")], returnType := none }, accessFlags := 0, code := some k21c0 }
def k21c1 : Code := { maxStack := 2, maxLocals := 1, code := jdk_101_method_3_code, exceptionTable := #[], attributes := #[] }
def k21m1 : Method := { name := "size", desc := "()I", sig := { parameters := [], returnType := some .int }, accessFlags := 1, code := some k21c1 }
def k21c2 : Code := { maxStack := 2, maxLocals := 2, code := jdk_101_method_5_code, exceptionTable := #[], attributes := #[] }
def k21m2 : Method := { name := "contains", desc := "(Ljava/lang/Object;)Z", sig := { parameters := [(.object "java/lang/Object")], returnType := some .boolean }, accessFlags := 1, code := some k21c2 }
/-- java/util/ImmutableCollections$Set12 -/
def k21 : Class := { plain "java/util/ImmutableCollections$Set12" (some 20) with
  accessFlags := 48
  interfaces := #[4]
  cf := some (fileOf pool21 14 #[.nestHost 20] #[{ accessFlags := 0, nameIndex := 5, descriptorIndex := 103, attributes := #[] }, { accessFlags := 1, nameIndex := 79, descriptorIndex := 57, attributes := #[] }, { accessFlags := 1, nameIndex := 117, descriptorIndex := 32, attributes := #[] }] 48 2 #[97] #[{ accessFlags := 18, nameIndex := 17, descriptorIndex := 18, attributes := #[] }, { accessFlags := 18, nameIndex := 26, descriptorIndex := 18, attributes := #[] }])
  fields := #[{ name := "e0", type := (.object "java/lang/Object"), accessFlags := 18, slot := 0, constantValue := 0 }, { name := "e1", type := (.object "java/lang/Object"), accessFlags := 18, slot := 1, constantValue := 0 }]
  methods := #[k21m0, k21m1, k21m2]
  instanceTypes := #[(.object "java/lang/Object"), (.object "java/lang/Object")]
  staticTypes := #[]
  resolved := Array.replicate 149 none
  statics := none }

def pool22 : Array CpInfo := pool [(2, .class_ 4), (1, u "java/lang/Object"), (0, u "<init>"), (0, u "()V"), (3, .class_ 11), (0, u "java/util/ImmutableCollections$List12"), (0, .class_ 13), (0, u "java/util/ImmutableCollections$ListN"), (3, u "Z"), (29, .class_ 49), (1, u "java/util/ImmutableCollections"), (0, u "$assertionsDisabled"), (5, u "[Ljava/lang/Object;"), (5, u "EMPTY_LIST"), (0, u "Ljava/util/ImmutableCollections$ListN;"), (8, u "EMPTY_LIST_NULLS"), (22, u "SALT32L"), (0, u "J"), (2, u "REVERSE"), (6, u "archivedObjects"), (2, u "EMPTY"), (0, u "Ljava/lang/Object;"), (0, .class_ 112), (0, u "java/util/ImmutableCollections$SetN"), (5, u "EMPTY_SET"), (0, u "Ljava/util/ImmutableCollections$SetN;"), (0, .class_ 121), (0, u "java/util/ImmutableCollections$MapN"), (3, u "EMPTY_MAP"), (0, u "Ljava/util/ImmutableCollections$MapN;"), (4, u "EXPAND_FACTOR"), (0, u "I"), (36, .class_ 170), (0, u "java/util/ImmutableCollections$MapN$MapNIterator"), (0, .class_ 172), (0, u "java/util/ImmutableCollections$MapN$1"), (0, .class_ 174), (0, u "java/util/ImmutableCollections$Map1"), (0, .class_ 176), (0, u "java/util/ImmutableCollections$AbstractImmutableMap"), (0, .class_ 178), (0, u "java/util/ImmutableCollections$SetN$SetNIterator"), (0, .class_ 180), (0, u "java/util/ImmutableCollections$Set12"), (0, .class_ 182), (0, u "java/util/ImmutableCollections$Set12$1"), (0, .class_ 184), (0, u "java/util/ImmutableCollections$AbstractImmutableSet"), (0, .class_ 186), (0, u "java/util/ImmutableCollections$SubList"), (0, .class_ 188), (0, u "java/util/ImmutableCollections$ListItr"), (0, .class_ 190), (0, u "java/util/ImmutableCollections$AbstractImmutableList"), (0, .class_ 192), (0, u "java/util/ImmutableCollections$AbstractImmutableCollection"), (0, .class_ 194), (0, u "java/util/ImmutableCollections$Access"), (0, .class_ 196), (0, u "java/util/ImmutableCollections$Access$1")] 16

def k22m0 : Method := { name := "<init>", desc := "()V", sig := { parameters := [], returnType := none }, accessFlags := 2, code := none }
/-- java/util/ImmutableCollections -/
def k22 : Class := { plain "java/util/ImmutableCollections" (some 0) with
  accessFlags := 32
  interfaces := #[]
  cf := some (fileOf pool22 47 #[.nestMembers #[120, 169, 171, 173, 175, 111, 177, 179, 181, 183, 12, 10, 185, 187, 189, 191, 193, 195]] #[{ accessFlags := 2, nameIndex := 5, descriptorIndex := 6, attributes := #[] }] 32 2 #[] #[{ accessFlags := 26, nameIndex := 95, descriptorIndex := 96, attributes := #[] }, { accessFlags := 26, nameIndex := 99, descriptorIndex := 17, attributes := #[] }, { accessFlags := 10, nameIndex := 106, descriptorIndex := 56, attributes := #[] }, { accessFlags := 26, nameIndex := 109, descriptorIndex := 110, attributes := #[] }, { accessFlags := 24, nameIndex := 62, descriptorIndex := 63, attributes := #[] }, { accessFlags := 24, nameIndex := 72, descriptorIndex := 63, attributes := #[] }, { accessFlags := 24, nameIndex := 118, descriptorIndex := 119, attributes := #[] }, { accessFlags := 24, nameIndex := 125, descriptorIndex := 126, attributes := #[] }, { accessFlags := 24, nameIndex := 131, descriptorIndex := 132, attributes := #[] }, { accessFlags := 4120, nameIndex := 50, descriptorIndex := 17, attributes := #[] }])
  fields := #[{ name := "SALT32L", type := .long, accessFlags := 26, slot := 0, constantValue := 0 }, { name := "REVERSE", type := .boolean, accessFlags := 26, slot := 1, constantValue := 0 }, { name := "archivedObjects", type := (.array (.object "java/lang/Object")), accessFlags := 10, slot := 2, constantValue := 0 }, { name := "EMPTY", type := (.object "java/lang/Object"), accessFlags := 26, slot := 3, constantValue := 0 }, { name := "EMPTY_LIST", type := (.object "java/util/ImmutableCollections$ListN"), accessFlags := 24, slot := 4, constantValue := 0 }, { name := "EMPTY_LIST_NULLS", type := (.object "java/util/ImmutableCollections$ListN"), accessFlags := 24, slot := 5, constantValue := 0 }, { name := "EMPTY_SET", type := (.object "java/util/ImmutableCollections$SetN"), accessFlags := 24, slot := 6, constantValue := 0 }, { name := "EMPTY_MAP", type := (.object "java/util/ImmutableCollections$MapN"), accessFlags := 24, slot := 7, constantValue := 0 }, { name := "EXPAND_FACTOR", type := .int, accessFlags := 24, slot := 8, constantValue := 0 }, { name := "$assertionsDisabled", type := .boolean, accessFlags := 4120, slot := 9, constantValue := 0 }]
  methods := #[k22m0]
  instanceTypes := #[]
  staticTypes := #[.long, .boolean, (.array (.object "java/lang/Object")), (.object "java/lang/Object"), (.object "java/util/ImmutableCollections$ListN"), (.object "java/util/ImmutableCollections$ListN"), (.object "java/util/ImmutableCollections$SetN"), (.object "java/util/ImmutableCollections$MapN"), .int, .boolean]
  resolved := Array.replicate 213 none
  statics := some 3 }

def pool23 : Array CpInfo := pool [(4, .class_ 6), (1, u "java/lang/Object"), (0, u "<init>"), (0, u "()V"), (5, .class_ 16), (1, u "java/lang/StringLatin1"), (104, u "$assertionsDisabled"), (0, u "Z"), (98, .class_ 223), (1, u "java/lang/StringLatin1$LinesSpliterator"), (57, u "equals"), (0, u "([B[B)Z"), (107, .class_ 391), (0, u "java/lang/StringLatin1$CharsSpliterator")] 3

def k23m0 : Method := { name := "<init>", desc := "()V", sig := { parameters := [], returnType := none }, accessFlags := 0, code := none }
def k23c1 : Code := { maxStack := 3, maxLocals := 3, code := jdk_43_method_13_code, exceptionTable := #[], attributes := #[] }
def k23m1 : Method := { name := "equals", desc := "([B[B)Z", sig := { parameters := [(.array .byte), (.array .byte)], returnType := some .boolean }, accessFlags := 9, code := some k23c1 }
/-- java/lang/StringLatin1 -/
def k23 : Class := { plain "java/lang/StringLatin1" (some 0) with
  accessFlags := 48
  interfaces := #[]
  cf := some (fileOf pool23 14 #[.nestMembers #[390, 221]] #[{ accessFlags := 0, nameIndex := 7, descriptorIndex := 8, attributes := #[] }, { accessFlags := 9, nameIndex := 281, descriptorIndex := 282, attributes := #[] }] 48 4 #[] #[{ accessFlags := 4120, nameIndex := 121, descriptorIndex := 122, attributes := #[] }])
  fields := #[{ name := "$assertionsDisabled", type := .boolean, accessFlags := 4120, slot := 0, constantValue := 0 }]
  methods := #[k23m0, k23m1]
  instanceTypes := #[]
  staticTypes := #[.boolean]
  resolved := Array.replicate 395 none
  statics := none }

def pool24 : Array CpInfo := pool [(2, .class_ 4), (1, u "java/lang/Object"), (0, u "<init>"), (0, u "()V"), (17, .class_ 26), (1, u "jdk/internal/util/Preconditions"), (28, .class_ 56), (0, u "jdk/internal/util/Preconditions$4"), (57, .class_ 115), (0, u "jdk/internal/util/Preconditions$1"), (7, u "SIOOBE_FORMATTER"), (0, u "Ljava/util/function/BiFunction;"), (0, .class_ 126), (0, u "jdk/internal/util/Preconditions$2"), (3, u "AIOOBE_FORMATTER"), (0, .class_ 132), (0, u "jdk/internal/util/Preconditions$3"), (3, u "IOOBE_FORMATTER")] 57

def k24m0 : Method := { name := "<init>", desc := "()V", sig := { parameters := [], returnType := none }, accessFlags := 1, code := none }
/-- jdk/internal/util/Preconditions -/
def k24 : Class := { plain "jdk/internal/util/Preconditions" (some 0) with
  accessFlags := 33
  interfaces := #[]
  cf := some (fileOf pool24 24 #[.nestMembers #[55, 131, 125, 114]] #[{ accessFlags := 1, nameIndex := 5, descriptorIndex := 6, attributes := #[] }] 33 2 #[] #[{ accessFlags := 25, nameIndex := 123, descriptorIndex := 124, attributes := #[] }, { accessFlags := 25, nameIndex := 130, descriptorIndex := 124, attributes := #[] }, { accessFlags := 25, nameIndex := 136, descriptorIndex := 124, attributes := #[] }])
  fields := #[{ name := "SIOOBE_FORMATTER", type := (.object "java/util/function/BiFunction"), accessFlags := 25, slot := 0, constantValue := 0 }, { name := "AIOOBE_FORMATTER", type := (.object "java/util/function/BiFunction"), accessFlags := 25, slot := 1, constantValue := 0 }, { name := "IOOBE_FORMATTER", type := (.object "java/util/function/BiFunction"), accessFlags := 25, slot := 2, constantValue := 0 }]
  methods := #[k24m0]
  instanceTypes := #[]
  staticTypes := #[(.object "java/util/function/BiFunction"), (.object "java/util/function/BiFunction"), (.object "java/util/function/BiFunction")]
  resolved := Array.replicate 194 none
  statics := some 4 }

def pool25 : Array CpInfo := pool [(9, u "<init>"), (6, .class_ 18), (1, u "java/lang/Object"), (0, u "()V"), (1, .class_ 23), (1, u "jdk/internal/util/ArraysSupport"), (0, u "LOG2_ARRAY_LONG_INDEX_SCALE"), (0, u "I"), (2, u "U"), (0, u "Ljdk/internal/misc/Unsafe;"), (8, u "BIG_ENDIAN"), (0, u "Z"), (8, u "LOG2_BYTE_BIT_SIZE"), (4, u "LOG2_ARRAY_INT_INDEX_SCALE"), (54, u "JLA"), (0, u "Ljdk/internal/access/JavaLangAccess;"), (11, u "LOG2_ARRAY_BOOLEAN_INDEX_SCALE"), (9, u "LOG2_ARRAY_BYTE_INDEX_SCALE"), (5, u "LOG2_ARRAY_CHAR_INDEX_SCALE"), (5, u "LOG2_ARRAY_SHORT_INDEX_SCALE"), (18, u "LOG2_ARRAY_FLOAT_INDEX_SCALE"), (24, u "LOG2_ARRAY_DOUBLE_INDEX_SCALE"), (89, u "T_BOOLEAN"), (2, u "T_CHAR"), (1, u "T_FLOAT"), (1, u "T_DOUBLE"), (1, u "T_BYTE"), (1, u "T_SHORT"), (1, u "T_INT"), (1, u "T_LONG"), (1, u "SOFT_MAX_ARRAY_LENGTH")] 83

def k25m0 : Method := { name := "<init>", desc := "()V", sig := { parameters := [], returnType := none }, accessFlags := 2, code := none }
/-- jdk/internal/util/ArraysSupport -/
def k25 : Class := { plain "jdk/internal/util/ArraysSupport" (some 0) with
  accessFlags := 33
  interfaces := #[]
  cf := some (fileOf pool25 21 #[] #[{ accessFlags := 2, nameIndex := 9, descriptorIndex := 19, attributes := #[] }] 33 16 #[] #[{ accessFlags := 24, nameIndex := 28, descriptorIndex := 29, attributes := #[] }, { accessFlags := 26, nameIndex := 38, descriptorIndex := 39, attributes := #[] }, { accessFlags := 25, nameIndex := 121, descriptorIndex := 25, attributes := #[] }, { accessFlags := 25, nameIndex := 131, descriptorIndex := 25, attributes := #[] }, { accessFlags := 25, nameIndex := 137, descriptorIndex := 25, attributes := #[] }, { accessFlags := 25, nameIndex := 143, descriptorIndex := 25, attributes := #[] }, { accessFlags := 25, nameIndex := 53, descriptorIndex := 25, attributes := #[] }, { accessFlags := 25, nameIndex := 24, descriptorIndex := 25, attributes := #[] }, { accessFlags := 25, nameIndex := 162, descriptorIndex := 25, attributes := #[] }, { accessFlags := 25, nameIndex := 187, descriptorIndex := 25, attributes := #[] }, { accessFlags := 26, nameIndex := 48, descriptorIndex := 25, attributes := #[] }, { accessFlags := 25, nameIndex := 277, descriptorIndex := 25, attributes := #[] }, { accessFlags := 25, nameIndex := 280, descriptorIndex := 25, attributes := #[] }, { accessFlags := 25, nameIndex := 282, descriptorIndex := 25, attributes := #[] }, { accessFlags := 25, nameIndex := 284, descriptorIndex := 25, attributes := #[] }, { accessFlags := 25, nameIndex := 286, descriptorIndex := 25, attributes := #[] }, { accessFlags := 25, nameIndex := 288, descriptorIndex := 25, attributes := #[] }, { accessFlags := 25, nameIndex := 290, descriptorIndex := 25, attributes := #[] }, { accessFlags := 25, nameIndex := 292, descriptorIndex := 25, attributes := #[] }, { accessFlags := 26, nameIndex := 108, descriptorIndex := 109, attributes := #[] }, { accessFlags := 25, nameIndex := 294, descriptorIndex := 25, attributes := #[] }])
  fields := #[{ name := "U", type := (.object "jdk/internal/misc/Unsafe"), accessFlags := 24, slot := 0, constantValue := 0 }, { name := "BIG_ENDIAN", type := .boolean, accessFlags := 26, slot := 1, constantValue := 0 }, { name := "LOG2_ARRAY_BOOLEAN_INDEX_SCALE", type := .int, accessFlags := 25, slot := 2, constantValue := 0 }, { name := "LOG2_ARRAY_BYTE_INDEX_SCALE", type := .int, accessFlags := 25, slot := 3, constantValue := 0 }, { name := "LOG2_ARRAY_CHAR_INDEX_SCALE", type := .int, accessFlags := 25, slot := 4, constantValue := 0 }, { name := "LOG2_ARRAY_SHORT_INDEX_SCALE", type := .int, accessFlags := 25, slot := 5, constantValue := 0 }, { name := "LOG2_ARRAY_INT_INDEX_SCALE", type := .int, accessFlags := 25, slot := 6, constantValue := 0 }, { name := "LOG2_ARRAY_LONG_INDEX_SCALE", type := .int, accessFlags := 25, slot := 7, constantValue := 0 }, { name := "LOG2_ARRAY_FLOAT_INDEX_SCALE", type := .int, accessFlags := 25, slot := 8, constantValue := 0 }, { name := "LOG2_ARRAY_DOUBLE_INDEX_SCALE", type := .int, accessFlags := 25, slot := 9, constantValue := 0 }, { name := "LOG2_BYTE_BIT_SIZE", type := .int, accessFlags := 26, slot := 10, constantValue := 0 }, { name := "T_BOOLEAN", type := .int, accessFlags := 25, slot := 11, constantValue := 0 }, { name := "T_CHAR", type := .int, accessFlags := 25, slot := 12, constantValue := 0 }, { name := "T_FLOAT", type := .int, accessFlags := 25, slot := 13, constantValue := 0 }, { name := "T_DOUBLE", type := .int, accessFlags := 25, slot := 14, constantValue := 0 }, { name := "T_BYTE", type := .int, accessFlags := 25, slot := 15, constantValue := 0 }, { name := "T_SHORT", type := .int, accessFlags := 25, slot := 16, constantValue := 0 }, { name := "T_INT", type := .int, accessFlags := 25, slot := 17, constantValue := 0 }, { name := "T_LONG", type := .int, accessFlags := 25, slot := 18, constantValue := 0 }, { name := "JLA", type := (.object "jdk/internal/access/JavaLangAccess"), accessFlags := 26, slot := 19, constantValue := 0 }, { name := "SOFT_MAX_ARRAY_LENGTH", type := .int, accessFlags := 25, slot := 20, constantValue := 0 }]
  methods := #[k25m0]
  instanceTypes := #[]
  staticTypes := #[(.object "jdk/internal/misc/Unsafe"), .boolean, .int, .int, .int, .int, .int, .int, .int, .int, .int, .int, .int, .int, .int, .int, .int, .int, .int, (.object "jdk/internal/access/JavaLangAccess"), .int]
  resolved := Array.replicate 378 none
  statics := none }

def pool26 : Array CpInfo := pool [(8, .class_ 10), (1, u "java/util/SequencedCollection"), (15, .class_ 27), (0, u "java/lang/Object"), (0, .class_ 29), (0, u "java/util/Collection")] 27

/-- java/util/SequencedCollection -/
def k26 : Class := { plain "java/util/SequencedCollection" (some 0) with
  accessFlags := 1537
  interfaces := #[16]
  cf := some (fileOf pool26 8 #[] #[] 1537 26 #[28] #[])
  fields := #[]
  methods := #[]
  instanceTypes := #[]
  staticTypes := #[]
  resolved := Array.replicate 57 none
  statics := none }

def pool27 : Array CpInfo := pool [(8, .class_ 10), (1, u "java/util/List"), (92, .class_ 104), (0, u "java/lang/Object"), (15, .class_ 121), (0, u "java/util/SequencedCollection")] 129

/-- java/util/List -/
def k27 : Class := { plain "java/util/List" (some 0) with
  accessFlags := 1537
  interfaces := #[26]
  cf := some (fileOf pool27 8 #[] #[] 1537 103 #[120] #[])
  fields := #[]
  methods := #[]
  instanceTypes := #[]
  staticTypes := #[]
  resolved := Array.replicate 251 none
  statics := none }

def pool28 : Array CpInfo := pool [(1, .class_ 2), (0, u "java/util/RandomAccess"), (0, .class_ 4), (0, u "java/lang/Object")] 2

/-- java/util/RandomAccess -/
def k28 : Class := { plain "java/util/RandomAccess" (some 0) with
  accessFlags := 1537
  interfaces := #[]
  cf := some (fileOf pool28 1 #[] #[] 1537 3 #[] #[])
  fields := #[]
  methods := #[]
  instanceTypes := #[]
  staticTypes := #[]
  resolved := Array.replicate 7 none
  statics := none }

def pool29 : Array CpInfo := pool [(2, .class_ 4), (1, u "java/util/ImmutableCollections$AbstractImmutableCollection"), (0, u "<init>"), (0, u "()V"), (1, .class_ 10), (1, u "java/util/ImmutableCollections"), (3, .class_ 16), (1, u "java/util/ImmutableCollections$AbstractImmutableList"), (60, .class_ 78), (0, u "java/util/List"), (45, .class_ 125), (0, u "java/util/RandomAccess")] 70

def k29m0 : Method := { name := "<init>", desc := "()V", sig := { parameters := [], returnType := none }, accessFlags := 0, code := none }
/-- java/util/ImmutableCollections$AbstractImmutableList -/
def k29 : Class := { plain "java/util/ImmutableCollections$AbstractImmutableList" (some 19) with
  accessFlags := 1056
  interfaces := #[27, 28]
  cf := some (fileOf pool29 14 #[.nestHost 8] #[{ accessFlags := 0, nameIndex := 5, descriptorIndex := 6, attributes := #[] }] 1056 2 #[77, 124] #[])
  fields := #[]
  methods := #[k29m0]
  instanceTypes := #[]
  staticTypes := #[]
  resolved := Array.replicate 196 none
  statics := none }

def pool30 : Array CpInfo := pool [(2, .class_ 4), (1, u "java/util/ImmutableCollections$AbstractImmutableList"), (3, .class_ 10), (1, u "java/util/ImmutableCollections$ListN"), (0, u "elements"), (0, u "[Ljava/lang/Object;"), (2, u "allowNulls"), (0, u "Z"), (42, .class_ 60), (0, u "java/io/Serializable"), (53, .class_ 115), (0, u "java/util/ImmutableCollections")] 3

/-- java/util/ImmutableCollections$ListN -/
def k30 : Class := { plain "java/util/ImmutableCollections$ListN" (some 29) with
  accessFlags := 48
  interfaces := #[4]
  cf := some (fileOf pool30 8 #[.nestHost 114] #[] 48 2 #[59] #[{ accessFlags := 18, nameIndex := 11, descriptorIndex := 12, attributes := #[] }, { accessFlags := 18, nameIndex := 15, descriptorIndex := 16, attributes := #[] }])
  fields := #[{ name := "elements", type := (.array (.object "java/lang/Object")), accessFlags := 18, slot := 0, constantValue := 0 }, { name := "allowNulls", type := .boolean, accessFlags := 18, slot := 1, constantValue := 0 }]
  methods := #[]
  instanceTypes := #[(.array (.object "java/lang/Object")), .boolean]
  staticTypes := #[]
  resolved := Array.replicate 119 none
  statics := none }

def pool31 : Array CpInfo := pool [(1, u "java/lang/Cloneable"), (0, .class_ 1), (0, u "java/lang/Object"), (0, .class_ 3)] 3

/-- java/lang/Cloneable -/
def k31 : Class := { plain "java/lang/Cloneable" (some 0) with
  accessFlags := 1537
  interfaces := #[]
  cf := some (fileOf pool31 2 #[] #[] 1537 4 #[] #[])
  fields := #[]
  methods := #[]
  instanceTypes := #[]
  staticTypes := #[]
  resolved := Array.replicate 8 none
  statics := none }

/-- the primitive byte -/
def k32 : Class := { plain "byte" none with kind := .primitive 'B', accessFlags := 0x411 }
/-- [B -/
def k33 : Class := { plain "[B" (some 0) with kind := .array 32 .byte, interfaces := #[31, 4], accessFlags := 1041 }

/-- the primitive int -/
def k34 : Class := { plain "int" none with kind := .primitive 'I', accessFlags := 0x411 }
/-- [I -/
def k35 : Class := { plain "[I" (some 0) with kind := .array 34 .int, interfaces := #[31, 4], accessFlags := 1041 }

def heap : Heap := #[{ cls := 6, slots := #[.ref 11, .ref 12, .ref 13, .null], vm := .statics 6 },
  { cls := 7, slots := #[.ref 14, .ref 15, .null], vm := .statics 7 },
  { cls := 11, slots := #[.long 0, .int 1, .null, .int 0, .null, .int 0, .int 0], vm := .statics 11 },
  { cls := 22, slots := #[.long 0, .int 0, .null, .ref 16, .ref 17, .null, .null, .null, .int 0, .int 1], vm := .statics 22 },
  { cls := 24, slots := #[.null, .null, .null], vm := .statics 24 },
  { cls := 33, slots := #[.int 97, .int 97, .int 97, .int 97, .int 97, .int 97, .int 97, .int 97, .int 97, .int 97, .int 97], vm := .none },
  { cls := 33, slots := #[.int 97, .int 97, .int 97, .int 97, .int 97, .int 97, .int 97, .int 97, .int 97, .int 97, .int 97, .int 97], vm := .none },
  { cls := 33, slots := #[.int 97, .int 97, .int 97, .int 97, .int 97], vm := .none },
  { cls := 11, slots := #[.ref 5, .int 0, .int 0, .int 0], vm := .none },
  { cls := 11, slots := #[.ref 6, .int 0, .int 0, .int 0], vm := .none },
  { cls := 11, slots := #[.ref 7, .int 0, .int 0, .int 0], vm := .none },
  { cls := 6, slots := #[.null, .int 0, .int 0, .ref 8, .null], vm := .none },
  { cls := 6, slots := #[.null, .int 1, .int 0, .ref 9, .null], vm := .none },
  { cls := 6, slots := #[.null, .int 2, .int 0, .ref 10, .null], vm := .none },
  { cls := 7, slots := #[.null, .int 0, .int 0, .null, .null], vm := .none },
  { cls := 7, slots := #[.null, .int 1, .int 0, .null, .null], vm := .none },
  { cls := 0, slots := #[], vm := .none },
  { cls := 30, slots := #[.null, .int 0], vm := .none }]
def classes : Array Class := #[k0, k1, k2, k3, k4, k5, k6, k7, k8, k9, k10, k11, k12, k13, k14, k15, k16, k17, k18, k19, k20, k21, k22, k23, k24, k25, k26, k27, k28, k29, k30, k31, k32, k33, k34, k35]
def interned : List (Array UInt16 × Addr) := []
def slotsUsed : Nat := 94
def theMethod : MethodId := ⟨1, 2⟩
def args0 : Array Value := #[.int 5, .int 4, .int 3]
def aboutOver (below : List Frame) : State where
  vm := { classes := classes, interned := interned.toArray }
  heap := heap
  slotsUsed := slotsUsed
  threads := #[{ frames := .invoking theMethod args0 :: below }]
def below0 : List Frame := [.native { method := ⟨0, 0⟩, args := #[] }]
def about1 : State := aboutOver below0
def p0 : Program := .bare "" "" ""
def e0 : Env := launch0.env 0 0 0
theorem w_frames : about1.frames = Frame.invoking theMethod args0 :: below0 := rfl
set_option maxRecDepth 65536 in
theorem w_args : argsFit about1.vm theMethod args0 = true := by decide +kernel
set_option maxRecDepth 65536 in
theorem w_heap : heapFits about1 = true := by decide +kernel
set_option maxRecDepth 65536 in
theorem w_runnable : about1.curStatus? = some .runnable := by decide +kernel
set_option maxRecDepth 65536 in
theorem w_alone : about1.alone = true := by decide +kernel
set_option maxRecDepth 65536 in
theorem w_named : about1.methodNamed? x = some theMethod := by decide +kernel
set_option maxRecDepth 65536 in
theorem w_hears : about1.hears theMethod below0 = true := by decide +kernel
set_option maxRecDepth 65536 in
theorem w_ripe : about1.ripe theMethod args0 below0 = true := by decide +kernel
theorem w_running : about1.status = .running := rfl
set_option maxRecDepth 65536 in
theorem w_room : about1.hasRoom e0.platform room_1 = true :=
  launch0.hasRoom_least _ room_1 (by decide +kernel) (by decide +kernel) (by decide +kernel) (by decide +kernel) (by decide +kernel) (by decide +kernel)
theorem allAtoms_all (ts : List Jvm.Cond) (a : Array Jvm.Value) (st : Jvm.State) : (allAtoms ts).before a st = ts.all (fun c => c.before a st) := by
  induction ts with
  | nil => rfl
  | cons c t ih =>
    show (Jvm.Cond.and c (allAtoms t)).before a st = _
    rw [Jvm.Cond.before_and, ih, List.all_cons]
def words1 : List Jvm.Cond := Jvm.Cond.code x code maxLocals ret :: tables_1
/-- a 'code' word, met by the world's own term for the bytes: nothing is compared byte by byte -/
theorem code_word {y : MethodName} {bytes : ByteArray} {mx : Nat} {rt : Option FieldType} {a : Array Value} {s : State} {m : MethodId} {meth : Method} {c : Code} (h1 : s.methodNamed? y = some m) (h2 : s.vm.method? m = some meth) (h3 : meth.code = some c) (h4 : c.code = bytes)
    (h5 : (c.maxLocals == mx && c.exceptionTable.isEmpty && decide (c.maxStack ≤ mostOperands) && decide (meth.sig.returnType = rt) && !meth.locks && decide (parseMethodDescriptor y.desc = some meth.sig)) = true) : (Jvm.Cond.code y bytes mx rt).before a s = true := by
  simp only [Bool.and_eq_true, beq_iff_eq, Bool.not_eq_true', decide_eq_true_eq] at h5
  obtain ⟨⟨⟨⟨⟨g1, g2⟩, g3⟩, g4⟩, g5⟩, g6⟩ := h5
  simp [Cond.before, Cond.holds, Cond.value, h1, h2, h3, h4, g1, g2, g3, g4, g5, g6]
def isCode : Jvm.Cond → Bool
  | .code _ _ _ _ => true
  | _ => false
theorem all_split {L : List Jvm.Cond} {P : Jvm.Cond → Bool} (h1 : L.all (fun c => isCode c || P c) = true) (h2 : ∀ c ∈ L.filter isCode, P c = true) : L.all P = true := by
  refine List.all_eq_true.mpr fun c hc => ?_
  have h := List.all_eq_true.mp h1 c hc
  rcases Bool.eq_false_or_eq_true (isCode c) with hi | hi
  · exact h2 c (List.mem_filter.mpr ⟨hc, hi⟩)
  · simpa [hi] using h
set_option maxRecDepth 65536 in
theorem w_c0 : (Jvm.Cond.code x code maxLocals ret).before args0 about1 = true := code_word (m := ⟨1, 2⟩) (meth := k1m2) (c := k1c2) (by decide +kernel) rfl rfl rfl (by decide +kernel)
set_option maxRecDepth 65536 in
theorem w_c1 : (Jvm.Cond.code ({ cls := "com/example/lamassu/lamassu/model/ListedTargetsGrantRequestKeysPinLaw", name := "pick", desc := "(I)Lcom/example/lamassu/lamassu/model/Channel;" } : Jvm.MethodName) method_2_code (2 : Nat) (Option.some (Jvm.ClassFile.FieldType.object "com/example/lamassu/lamassu/model/Channel"))).before args0 about1 = true := code_word (m := ⟨1, 1⟩) (meth := k1m1) (c := k1c1) (by decide +kernel) rfl rfl rfl (by decide +kernel)
set_option maxRecDepth 65536 in
theorem w_c2 : (Jvm.Cond.code ({ cls := "com/example/lamassu/lamassu/model/Conditions", name := "<init>", desc := "(Ljava/util/Set;Lcom/example/lamassu/lamassu/model/DecisionPoint;Ljava/lang/String;)V" } : Jvm.MethodName) prog_19_method_1_code (4 : Nat) (Option.none : Option Jvm.ClassFile.FieldType)).before args0 about1 = true := code_word (m := ⟨8, 0⟩) (meth := k8m0) (c := k8c0) (by decide +kernel) rfl rfl rfl (by decide +kernel)
set_option maxRecDepth 65536 in
theorem w_c3 : (Jvm.Cond.code ({ cls := "java/lang/Object", name := "<init>", desc := "()V" } : Jvm.MethodName) object_method_1_code (1 : Nat) (Option.none : Option Jvm.ClassFile.FieldType)).before args0 about1 = true := code_word (m := ⟨0, 0⟩) (meth := k0m0) (c := k0c0) (by decide +kernel) rfl rfl rfl (by decide +kernel)
set_option maxRecDepth 65536 in
theorem w_c4 : (Jvm.Cond.code ({ cls := "java/util/Objects", name := "requireNonNull", desc := "(Ljava/lang/Object;Ljava/lang/String;)Ljava/lang/Object;" } : Jvm.MethodName) jdk_31_method_11_code (2 : Nat) (Option.some (Jvm.ClassFile.FieldType.object "java/lang/Object"))).before args0 about1 = true := code_word (m := ⟨12, 2⟩) (meth := k12m2) (c := k12c2) (by decide +kernel) rfl rfl rfl (by decide +kernel)
set_option maxRecDepth 65536 in
theorem w_c5 : (Jvm.Cond.code ({ cls := "com/example/lamassu/lamassu/model/ListedTargetsGrant", name := "<init>", desc := "(Lcom/example/lamassu/lamassu/model/Channel;Ljava/util/Set;Lcom/example/lamassu/lamassu/model/Conditions;)V" } : Jvm.MethodName) prog_27_method_1_code (4 : Nat) (Option.none : Option Jvm.ClassFile.FieldType)).before args0 about1 = true := code_word (m := ⟨14, 0⟩) (meth := k14m0) (c := k14c0) (by decide +kernel) rfl rfl rfl (by decide +kernel)
set_option maxRecDepth 65536 in
theorem w_c6 : (Jvm.Cond.code ({ cls := "com/example/lamassu/lamassu/model/ListedTargetsGrant", name := "requestKeys", desc := "()Ljava/util/Set;" } : Jvm.MethodName) prog_27_method_5_code (1 : Nat) (Option.some (Jvm.ClassFile.FieldType.object "java/util/Set"))).before args0 about1 = true := code_word (m := ⟨14, 1⟩) (meth := k14m1) (c := k14c1) (by decide +kernel) rfl rfl rfl (by decide +kernel)
set_option maxRecDepth 65536 in
theorem w_c7 : (Jvm.Cond.code ({ cls := "com/example/lamassu/lamassu/model/Channel", name := "keyword", desc := "()Ljava/lang/String;" } : Jvm.MethodName) prog_18_method_4_code (1 : Nat) (Option.some (Jvm.ClassFile.FieldType.object "java/lang/String"))).before args0 about1 = true := code_word (m := ⟨6, 0⟩) (meth := k6m0) (c := k6c0) (by decide +kernel) rfl rfl rfl (by decide +kernel)
set_option maxRecDepth 65536 in
theorem w_c8 : (Jvm.Cond.code ({ cls := "java/util/Set", name := "of", desc := "(Ljava/lang/Object;)Ljava/util/Set;" } : Jvm.MethodName) jdk_96_method_18_code (1 : Nat) (Option.some (Jvm.ClassFile.FieldType.object "java/util/Set"))).before args0 about1 = true := code_word (m := ⟨17, 2⟩) (meth := k17m2) (c := k17c2) (by decide +kernel) rfl rfl rfl (by decide +kernel)
set_option maxRecDepth 65536 in
theorem w_c9 : (Jvm.Cond.code ({ cls := "java/util/ImmutableCollections$Set12", name := "<init>", desc := "(Ljava/lang/Object;)V" } : Jvm.MethodName) jdk_101_method_1_code (2 : Nat) (Option.none : Option Jvm.ClassFile.FieldType)).before args0 about1 = true := code_word (m := ⟨21, 0⟩) (meth := k21m0) (c := k21c0) (by decide +kernel) rfl rfl rfl (by decide +kernel)
set_option maxRecDepth 65536 in
theorem w_c10 : (Jvm.Cond.code ({ cls := "java/util/ImmutableCollections$AbstractImmutableSet", name := "<init>", desc := "()V" } : Jvm.MethodName) jdk_100_method_1_code (1 : Nat) (Option.none : Option Jvm.ClassFile.FieldType)).before args0 about1 = true := code_word (m := ⟨20, 0⟩) (meth := k20m0) (c := k20c0) (by decide +kernel) rfl rfl rfl (by decide +kernel)
set_option maxRecDepth 65536 in
theorem w_c11 : (Jvm.Cond.code ({ cls := "java/util/ImmutableCollections$AbstractImmutableCollection", name := "<init>", desc := "()V" } : Jvm.MethodName) jdk_47_method_1_code (1 : Nat) (Option.none : Option Jvm.ClassFile.FieldType)).before args0 about1 = true := code_word (m := ⟨19, 0⟩) (meth := k19m0) (c := k19c0) (by decide +kernel) rfl rfl rfl (by decide +kernel)
set_option maxRecDepth 65536 in
theorem w_c12 : (Jvm.Cond.code ({ cls := "java/util/AbstractCollection", name := "<init>", desc := "()V" } : Jvm.MethodName) jdk_22_method_1_code (1 : Nat) (Option.none : Option Jvm.ClassFile.FieldType)).before args0 about1 = true := code_word (m := ⟨18, 0⟩) (meth := k18m0) (c := k18c0) (by decide +kernel) rfl rfl rfl (by decide +kernel)
set_option maxRecDepth 65536 in
theorem w_c13 : (Jvm.Cond.code ({ cls := "java/util/Objects", name := "requireNonNull", desc := "(Ljava/lang/Object;)Ljava/lang/Object;" } : Jvm.MethodName) jdk_31_method_10_code (1 : Nat) (Option.some (Jvm.ClassFile.FieldType.object "java/lang/Object"))).before args0 about1 = true := code_word (m := ⟨12, 1⟩) (meth := k12m1) (c := k12c1) (by decide +kernel) rfl rfl rfl (by decide +kernel)
set_option maxRecDepth 65536 in
theorem w_c14 : (Jvm.Cond.code ({ cls := "java/util/Set", name := "copyOf", desc := "(Ljava/util/Collection;)Ljava/util/Set;" } : Jvm.MethodName) jdk_96_method_29_code (1 : Nat) (Option.some (Jvm.ClassFile.FieldType.object "java/util/Set"))).before args0 about1 = true := code_word (m := ⟨17, 3⟩) (meth := k17m3) (c := k17c3) (by decide +kernel) rfl rfl rfl (by decide +kernel)
set_option maxRecDepth 65536 in
theorem w_c15 : (Jvm.Cond.code ({ cls := "java/util/ImmutableCollections$Set12", name := "size", desc := "()I" } : Jvm.MethodName) jdk_101_method_3_code (1 : Nat) (Option.some Jvm.ClassFile.FieldType.int)).before args0 about1 = true := code_word (m := ⟨21, 1⟩) (meth := k21m1) (c := k21c1) (by decide +kernel) rfl rfl rfl (by decide +kernel)
set_option maxRecDepth 65536 in
theorem w_c16 : (Jvm.Cond.code ({ cls := "java/util/ImmutableCollections$Set12", name := "contains", desc := "(Ljava/lang/Object;)Z" } : Jvm.MethodName) jdk_101_method_5_code (2 : Nat) (Option.some Jvm.ClassFile.FieldType.boolean)).before args0 about1 = true := code_word (m := ⟨21, 2⟩) (meth := k21m2) (c := k21c2) (by decide +kernel) rfl rfl rfl (by decide +kernel)
set_option maxRecDepth 65536 in
theorem w_c17 : (Jvm.Cond.code ({ cls := "java/lang/String", name := "equals", desc := "(Ljava/lang/Object;)Z" } : Jvm.MethodName) jdk_42_method_66_code (3 : Nat) (Option.some Jvm.ClassFile.FieldType.boolean)).before args0 about1 = true := code_word (m := ⟨11, 1⟩) (meth := k11m1) (c := k11c1) (by decide +kernel) rfl rfl rfl (by decide +kernel)
set_option maxRecDepth 65536 in
theorem w_c18 : (Jvm.Cond.code ({ cls := "java/lang/StringLatin1", name := "equals", desc := "([B[B)Z" } : Jvm.MethodName) jdk_43_method_13_code (3 : Nat) (Option.some Jvm.ClassFile.FieldType.boolean)).before args0 about1 = true := code_word (m := ⟨23, 1⟩) (meth := k23m1) (c := k23c1) (by decide +kernel) rfl rfl rfl (by decide +kernel)
set_option maxRecDepth 65536 in
theorem w_c19 : (Jvm.Cond.code ({ cls := "java/lang/Object", name := "equals", desc := "(Ljava/lang/Object;)Z" } : Jvm.MethodName) object_method_4_code (2 : Nat) (Option.some Jvm.ClassFile.FieldType.boolean)).before args0 about1 = true := code_word (m := ⟨0, 1⟩) (meth := k0m1) (c := k0c1) (by decide +kernel) rfl rfl rfl (by decide +kernel)
def codes1 : List Jvm.Cond := [Jvm.Cond.code x code maxLocals ret, Jvm.Cond.code ({ cls := "com/example/lamassu/lamassu/model/ListedTargetsGrantRequestKeysPinLaw", name := "pick", desc := "(I)Lcom/example/lamassu/lamassu/model/Channel;" } : Jvm.MethodName) method_2_code (2 : Nat) (Option.some (Jvm.ClassFile.FieldType.object "com/example/lamassu/lamassu/model/Channel")), Jvm.Cond.code ({ cls := "com/example/lamassu/lamassu/model/Conditions", name := "<init>", desc := "(Ljava/util/Set;Lcom/example/lamassu/lamassu/model/DecisionPoint;Ljava/lang/String;)V" } : Jvm.MethodName) prog_19_method_1_code (4 : Nat) (Option.none : Option Jvm.ClassFile.FieldType), Jvm.Cond.code ({ cls := "java/lang/Object", name := "<init>", desc := "()V" } : Jvm.MethodName) object_method_1_code (1 : Nat) (Option.none : Option Jvm.ClassFile.FieldType), Jvm.Cond.code ({ cls := "java/util/Objects", name := "requireNonNull", desc := "(Ljava/lang/Object;Ljava/lang/String;)Ljava/lang/Object;" } : Jvm.MethodName) jdk_31_method_11_code (2 : Nat) (Option.some (Jvm.ClassFile.FieldType.object "java/lang/Object")), Jvm.Cond.code ({ cls := "com/example/lamassu/lamassu/model/ListedTargetsGrant", name := "<init>", desc := "(Lcom/example/lamassu/lamassu/model/Channel;Ljava/util/Set;Lcom/example/lamassu/lamassu/model/Conditions;)V" } : Jvm.MethodName) prog_27_method_1_code (4 : Nat) (Option.none : Option Jvm.ClassFile.FieldType), Jvm.Cond.code ({ cls := "com/example/lamassu/lamassu/model/ListedTargetsGrant", name := "requestKeys", desc := "()Ljava/util/Set;" } : Jvm.MethodName) prog_27_method_5_code (1 : Nat) (Option.some (Jvm.ClassFile.FieldType.object "java/util/Set")), Jvm.Cond.code ({ cls := "com/example/lamassu/lamassu/model/Channel", name := "keyword", desc := "()Ljava/lang/String;" } : Jvm.MethodName) prog_18_method_4_code (1 : Nat) (Option.some (Jvm.ClassFile.FieldType.object "java/lang/String")), Jvm.Cond.code ({ cls := "java/util/Set", name := "of", desc := "(Ljava/lang/Object;)Ljava/util/Set;" } : Jvm.MethodName) jdk_96_method_18_code (1 : Nat) (Option.some (Jvm.ClassFile.FieldType.object "java/util/Set")), Jvm.Cond.code ({ cls := "java/util/ImmutableCollections$Set12", name := "<init>", desc := "(Ljava/lang/Object;)V" } : Jvm.MethodName) jdk_101_method_1_code (2 : Nat) (Option.none : Option Jvm.ClassFile.FieldType), Jvm.Cond.code ({ cls := "java/util/ImmutableCollections$AbstractImmutableSet", name := "<init>", desc := "()V" } : Jvm.MethodName) jdk_100_method_1_code (1 : Nat) (Option.none : Option Jvm.ClassFile.FieldType), Jvm.Cond.code ({ cls := "java/util/ImmutableCollections$AbstractImmutableCollection", name := "<init>", desc := "()V" } : Jvm.MethodName) jdk_47_method_1_code (1 : Nat) (Option.none : Option Jvm.ClassFile.FieldType), Jvm.Cond.code ({ cls := "java/util/AbstractCollection", name := "<init>", desc := "()V" } : Jvm.MethodName) jdk_22_method_1_code (1 : Nat) (Option.none : Option Jvm.ClassFile.FieldType), Jvm.Cond.code ({ cls := "java/util/Objects", name := "requireNonNull", desc := "(Ljava/lang/Object;)Ljava/lang/Object;" } : Jvm.MethodName) jdk_31_method_10_code (1 : Nat) (Option.some (Jvm.ClassFile.FieldType.object "java/lang/Object")), Jvm.Cond.code ({ cls := "java/util/Set", name := "copyOf", desc := "(Ljava/util/Collection;)Ljava/util/Set;" } : Jvm.MethodName) jdk_96_method_29_code (1 : Nat) (Option.some (Jvm.ClassFile.FieldType.object "java/util/Set")), Jvm.Cond.code ({ cls := "java/util/ImmutableCollections$Set12", name := "size", desc := "()I" } : Jvm.MethodName) jdk_101_method_3_code (1 : Nat) (Option.some Jvm.ClassFile.FieldType.int), Jvm.Cond.code ({ cls := "java/util/ImmutableCollections$Set12", name := "contains", desc := "(Ljava/lang/Object;)Z" } : Jvm.MethodName) jdk_101_method_5_code (2 : Nat) (Option.some Jvm.ClassFile.FieldType.boolean), Jvm.Cond.code ({ cls := "java/lang/String", name := "equals", desc := "(Ljava/lang/Object;)Z" } : Jvm.MethodName) jdk_42_method_66_code (3 : Nat) (Option.some Jvm.ClassFile.FieldType.boolean), Jvm.Cond.code ({ cls := "java/lang/StringLatin1", name := "equals", desc := "([B[B)Z" } : Jvm.MethodName) jdk_43_method_13_code (3 : Nat) (Option.some Jvm.ClassFile.FieldType.boolean), Jvm.Cond.code ({ cls := "java/lang/Object", name := "equals", desc := "(Ljava/lang/Object;)Z" } : Jvm.MethodName) object_method_4_code (2 : Nat) (Option.some Jvm.ClassFile.FieldType.boolean)]
set_option maxRecDepth 65536 in
theorem codes_eq : words1.filter isCode = codes1 := rfl
theorem w_codes : ∀ c ∈ words1.filter isCode, c.before args0 about1 = true := by
  rw [codes_eq]
  intro c hc
  simp only [codes1, List.mem_cons, List.not_mem_nil, or_false] at hc
  rcases hc with rfl | rfl | rfl | rfl | rfl | rfl | rfl | rfl | rfl | rfl | rfl | rfl | rfl | rfl | rfl | rfl | rfl | rfl | rfl | rfl
  · exact w_c0
  · exact w_c1
  · exact w_c2
  · exact w_c3
  · exact w_c4
  · exact w_c5
  · exact w_c6
  · exact w_c7
  · exact w_c8
  · exact w_c9
  · exact w_c10
  · exact w_c11
  · exact w_c12
  · exact w_c13
  · exact w_c14
  · exact w_c15
  · exact w_c16
  · exact w_c17
  · exact w_c18
  · exact w_c19
set_option maxRecDepth 65536 in
theorem w_t1 : (words1.take 24).all (fun c => isCode c || c.before args0 about1) = true := by decide +kernel
set_option maxRecDepth 65536 in
theorem w_t2 : ((words1.drop 24).take 24).all (fun c => isCode c || c.before args0 about1) = true := by decide +kernel
set_option maxRecDepth 65536 in
theorem w_t3 : (((words1.drop 24).drop 24).take 24).all (fun c => isCode c || c.before args0 about1) = true := by decide +kernel
set_option maxRecDepth 65536 in
theorem w_t4 : ((((words1.drop 24).drop 24).drop 24).take 24).all (fun c => isCode c || c.before args0 about1) = true := by decide +kernel
set_option maxRecDepth 65536 in
theorem w_t5 : (((((words1.drop 24).drop 24).drop 24).drop 24).take 24).all (fun c => isCode c || c.before args0 about1) = true := by decide +kernel
set_option maxRecDepth 65536 in
theorem w_t6 : ((((((words1.drop 24).drop 24).drop 24).drop 24).drop 24).take 24).all (fun c => isCode c || c.before args0 about1) = true := by decide +kernel
set_option maxRecDepth 65536 in
theorem w_t7 : ((((((words1.drop 24).drop 24).drop 24).drop 24).drop 24).drop 24).all (fun c => isCode c || c.before args0 about1) = true := by decide +kernel
theorem w_tables : (allAtoms (Jvm.Cond.code x code maxLocals ret :: tables_1)).before args0 about1 = true := by
  rw [allAtoms_all]
  show words1.all (fun c => c.before args0 about1) = true
  refine all_split ?_ w_codes
  rw [← List.take_append_drop 24 words1, List.all_append, w_t1, ← List.take_append_drop 24 (words1.drop 24), List.all_append, w_t2, ← List.take_append_drop 24 ((words1.drop 24).drop 24), List.all_append, w_t3, ← List.take_append_drop 24 (((words1.drop 24).drop 24).drop 24), List.all_append, w_t4, ← List.take_append_drop 24 ((((words1.drop 24).drop 24).drop 24).drop 24), List.all_append, w_t5, ← List.take_append_drop 24 (((((words1.drop 24).drop 24).drop 24).drop 24).drop 24), List.all_append, w_t6, w_t7]
  rfl
set_option maxRecDepth 65536 in
theorem w_rest : rest_1_c.before args0 about1 = true := by decide +kernel
set_option maxRecDepth 65536 in
theorem w_case : (Jvm.Cond.and given_1 narrow_1).before args0 about1 = true := by decide +kernel
theorem w_applies : (headSpec (Jvm.Cond.code x code maxLocals ret :: tables_1) room_1).applies x e0.platform about1 = true :=
  (Spec.applies_iff w_frames).mpr ⟨w_running, w_runnable, w_alone, w_named, w_hears, w_ripe, w_room, w_tables⟩
theorem atStart : AtStart classFile x code maxLocals ret World_1 tables_1 room_1 Calls_1 rest_1 Pre_1 launch0 p0 e0 about1 theMethod args0 below0 :=
  ⟨lists_1, trivial, launch0.admits_env _ _ _, launch0.least_env, fairChoices_fair.cas, fairChoices_fair.clock, w_frames, w_args, w_heap, w_applies, trivial, w_rest, w_case⟩
end start1
theorem witness_1 : WitnessClaimed_1 := ⟨start1.p0, start1.e0, start1.about1, start1.theMethod, start1.args0, start1.below0, start1.atStart⟩
end Jvm.Pilot.@@N@@
