import JvmDerived
import JvmDerived.Pilot.@@N@@Statement
import JvmDerived.Pilot.@@N@@Code
set_option linter.unusedVariables false
set_option linter.unusedSimpArgs false
namespace Jvm.Pilot.@@N@@
open Jvm Jvm.ClassFile Sem Op Lib Jvm.Free Jvm.Stand Jvm.LawKit Jvm.RoadKit Bundle Jvm.Pilot.@@N@@.Jvm.D
section own_walk
variable {p : Program} {l : Launch} {e : Env} {R : Room} {s : State} {m : MethodId} {args : Array Value} {below : List Frame} {meth : Method} {c : Code} {T : State} {locs : List Loc} {cells slots : Nat} {Z : State} {h h' : Heap}
def own_Fin (p : Program) (e : Env) (below : List Frame) (P : Outcome → State → Prop) (g : State) : Prop :=
  ∃ s₂ o, Steps p.tables e below g s₂ ∧ s₂.status = .running ∧ Ended s₂ below o ∧ P o s₂
def own_P (Q : Option Value → Heap → List Loc → Prop) (s : State) (k n : Nat) (o : Outcome) (s₂ : State) : Prop :=
  ∃ v L, o = .returned v ∧ Q v s₂.heap L ∧ FrameEnd s o s₂ L k n
theorem own_via {P : Outcome → State → Prop} {g g' : State} (k : ∀ t, Steps p.tables e below g' t → Steps p.tables e below g t) (H : own_Fin p e below P g') : own_Fin p e below P g := by
  obtain ⟨s₂, o, a, b⟩ := H
  exact ⟨s₂, o, k _ a, b⟩
theorem own_ret {v : Option Value} {g : State} {Q : Option Value → Heap → List Loc → Prop} {k n : Nat} (X : Stand p l e R s m args below meth c T locs cells slots) (hlk : meth.locks = false) (hv : meth.sig.returnType = none → v = none)
    (hst : ∀ fs, (∀ (f : JFrame) (acts : List Action), f.method = m → f.locked = none → f.entered = [] → (doReturn e (T.setTop f) acts v).1 = T.setFrames fs) → Steps p.tables e below g (T.setFrames fs))
    (hQ : Q v T.heap locs) (hk : cells ≤ k) (hn : slots ≤ n) : own_Fin p e below (own_P Q s k n) g := by
  obtain ⟨fs, hr, hrun, hended, hW, hsame⟩ := X.leave (v := v) hv hlk
  exact ⟨_, _, hst fs hr, hrun, hended, _, _, rfl, hQ, ⟨_, rfl⟩, hW, hsame.mono hk hn⟩
theorem own_retW {w : Value} {t : FieldType} {i : Instr} {pc : Nat} {Ls : Array Slot} {rest : List Value} {Q : Option Value → Heap → List Loc → Prop} {k n : Nat} (X : Stand p l e R s m args below meth c T locs cells slots) (hx : p.tables.exec = Jvm.exec) (hlk : meth.locks = false) (hret : meth.sig.returnType = some t) (hnw : narrow t w = w)
    (hi : (i = .ireturn ∧ (t = .int ∨ t = .boolean ∨ t = .byte ∨ t = .char ∨ t = .short) ∧ ∃ z, w = .int z) ∨ (i = .lreturn ∧ t = .long ∧ ∃ z, w = .long z) ∨ (i = .dreturn ∧ t = .double ∧ ∃ z, w = .double z) ∨ (i = .freturn ∧ t = .float ∧ ∃ z, w = .float z) ∨ (i = .areturn ∧ t.isReference = true ∧ w.isRef = true))
    (hd : decode c.code pc = .ok (i, 1)) (hQ : Q (some w) T.heap locs) (hk : cells ≤ k) (hn : slots ≤ n) : own_Fin p e below (own_P Q s k n) (T.setTop (mkF m pc Ls (w :: rest))) :=
  own_ret X hlk (fun q => by rw [hret] at q; cases q) (fun fs hr => retOut X hx hret hnw hi hd hr) hQ hk hn
theorem own_retI {z : Int32} {pc : Nat} {Ls : Array Slot} {rest : List Value} {Q : Option Value → Heap → List Loc → Prop} {k n : Nat} (X : Stand p l e R s m args below meth c T locs cells slots) (hx : p.tables.exec = Jvm.exec) (hlk : meth.locks = false) (hret : meth.sig.returnType = some .int)
    (hd : decode c.code pc = .ok (.ireturn, 1)) (hQ : Q (some (.int z)) T.heap locs) (hk : cells ≤ k) (hn : slots ≤ n) : own_Fin p e below (own_P Q s k n) (T.setTop (mkF m pc Ls (.int z :: rest))) :=
  own_retW X hx hlk hret rfl (Or.inl ⟨rfl, Or.inl rfl, z, rfl⟩) hd hQ hk hn
theorem own_retJ {z : Int64} {pc : Nat} {Ls : Array Slot} {rest : List Value} {Q : Option Value → Heap → List Loc → Prop} {k n : Nat} (X : Stand p l e R s m args below meth c T locs cells slots) (hx : p.tables.exec = Jvm.exec) (hlk : meth.locks = false) (hret : meth.sig.returnType = some .long)
    (hd : decode c.code pc = .ok (.lreturn, 1)) (hQ : Q (some (.long z)) T.heap locs) (hk : cells ≤ k) (hn : slots ≤ n) : own_Fin p e below (own_P Q s k n) (T.setTop (mkF m pc Ls (.long z :: rest))) :=
  own_retW X hx hlk hret rfl (Or.inr (Or.inl ⟨rfl, rfl, z, rfl⟩)) hd hQ hk hn
theorem own_nref {t : FieldType} {w : Value} (hw : w.isRef = true) : narrow t w = w := by
  cases w <;> first | (cases t <;> rfl) | (cases hw)
theorem own_fitR {c : String} {w : Value} (hw : w.isRef = true) : fits (.object c) w = true := by
  cases w <;> first | rfl | (cases hw)
theorem own_retA {w : Value} {t : FieldType} {pc : Nat} {Ls : Array Slot} {rest : List Value} {Q : Option Value → Heap → List Loc → Prop} {k n : Nat} (X : Stand p l e R s m args below meth c T locs cells slots) (hx : p.tables.exec = Jvm.exec) (hlk : meth.locks = false) (hw : w.isRef = true) (hret : meth.sig.returnType = some t) (ht : t.isReference = true)
    (hd : decode c.code pc = .ok (.areturn, 1)) (hQ : Q (some w) T.heap locs) (hk : cells ≤ k) (hn : slots ≤ n) : own_Fin p e below (own_P Q s k n) (T.setTop (mkF m pc Ls (w :: rest))) :=
  own_retW X hx hlk hret (own_nref hw) (Or.inr (Or.inr (Or.inr (Or.inr ⟨rfl, ht, hw⟩)))) hd hQ hk hn
theorem own_retB {z : Int32} {t : FieldType} {pc : Nat} {Ls : Array Slot} {rest : List Value} {Q : Option Value → Heap → List Loc → Prop} {k n : Nat} (X : Stand p l e R s m args below meth c T locs cells slots) (hx : p.tables.exec = Jvm.exec) (hlk : meth.locks = false) (hret : meth.sig.returnType = some t) (ht : t = .boolean ∨ t = .byte ∨ t = .char ∨ t = .short)
    (hd : decode c.code pc = .ok (.ireturn, 1)) (hQ : Q (some (.int (nar t z))) T.heap locs) (hk : cells ≤ k) (hn : slots ≤ n) : own_Fin p e below (own_P Q s k n) (T.setTop (mkF m pc Ls (.int z :: rest))) :=
  own_ret X hlk (fun q => by rw [hret] at q; cases q) (fun fs hr => retN X hx hret ht hd hr) hQ hk hn
theorem own_retV {pc : Nat} {Ls : Array Slot} {Q : Option Value → Heap → List Loc → Prop} {k n : Nat} (X : Stand p l e R s m args below meth c T locs cells slots) (hx : p.tables.exec = Jvm.exec) (hlk : meth.locks = false) (hret : meth.sig.returnType = none)
    (hd : decode c.code pc = .ok (.return_, 1)) (hQ : Q none T.heap locs) (hk : cells ≤ k) (hn : slots ≤ n) : own_Fin p e below (own_P Q s k n) (T.setTop (mkF m pc Ls [])) :=
  own_ret X hlk (fun _ => rfl) (fun fs hr => X.returnOut hx hret hd hr) hQ hk hn
/-- an array: its kind and its members -/
def own_Ar (Z : State) (h : Heap) (a : Addr) (ty : FieldType) (L : List Value) : Prop := ∃ c : Cell, Arr Z h a c ty ∧ c.slots.toList = L
theorem own_Ar.ext {a : Addr} {ty : FieldType} {L : List Value} (F : own_Ar Z h a ty L) (E : Ext h h') : own_Ar Z h' a ty L := by obtain ⟨c, A, r⟩ := F; exact ⟨c, A.ext E, r⟩
theorem own_Ar.other {a b : Addr} {sl : Nat} {v : Value} {ty : FieldType} {L : List Value} (F : own_Ar Z h b ty L) (W : Wr h h' a sl v) (q : b ≠ a) : own_Ar Z h' b ty L := by obtain ⟨c, A, r⟩ := F; exact ⟨c, A.other W q, r⟩
theorem own_Ar.keep {a : Addr} {ws : List Addr} {ty : FieldType} {L : List Value} (F : own_Ar Z h a ty L) (K : Keep h h' ws) (q : a ∉ ws) : own_Ar Z h' a ty L := by obtain ⟨c, A, r⟩ := F; exact ⟨c, ⟨K.2.1 a c A.1 q, A.2⟩, r⟩
theorem own_Ar.lt {a : Addr} {ty : FieldType} {L : List Value} (F : own_Ar Z h a ty L) : a < h.size := by obtain ⟨c, A, r⟩ := F; exact A.lt
theorem own_Ar.set {a : Addr} {j : Nat} {v : Value} {ty : FieldType} {L : List Value} (F : own_Ar Z h a ty L) (W : Wr h h' a j v) : own_Ar Z h' a ty (L.set j v) := by
  obtain ⟨c, A, r⟩ := F
  refine ⟨_, A.same W, ?_⟩
  subst r
  simp [Cell.setSlot]
theorem own_in {c : Cell} {L : List Value} (r : c.slots.toList = L) {j : Int32} (h0 : ¬ j < 0) (hj : j.toNatClampNeg < L.length) : ¬ (j < 0 ∨ c.slots.size ≤ j.toNatClampNeg) := by
  subst r
  simp only [Array.length_toList] at hj
  intro q
  rcases q with q | q
  · exact h0 q
  · omega
theorem own_at {c : Cell} {L : List Value} (r : c.slots.toList = L) {j : Nat} {v : Value} (hv : L[j]? = some v) : c.slots[j]? = some v := by
  subst r; simpa using hv
theorem own_inv {c : Cell} {L : List Value} (r : c.slots.toList = L) {j : Int32} {v : Value} (h0 : ¬ j < 0) (hv : L[j.toNatClampNeg]? = some v) : ¬ (j < 0 ∨ c.slots.size ≤ j.toNatClampNeg) :=
  own_in r h0 (List.getElem?_eq_some_iff.mp hv).1
theorem own_newP {a0 : Array Value} (X : Stand p l e R s m args below meth c T locs cells slots) (hx : p.tables.exec = Jvm.exec) (hZ : Z.Warmed39 s.vm) {aty : ArrayType} (w : (Cond.arrayClass (newarray.typeOf aty)).before a0 Z = true) (eT : T.heap = h) {g : JFrame} (hg : g.method = m) (hd : decode c.code g.pc = .ok (.newarray aty, 2)) {n : Int32} {rest : List Value} (hs : g.stack = .int n :: rest)
    (hn : ¬ n < 0) {cap : Nat} (hcap : n.toNatClampNeg ≤ cap) (hb : cap * 8 ≤ 536870912) (hc : cells + 1 ≤ R.cells) (hl : slots + cap ≤ R.slots) :
    ∃ T' h', Stand p l e R s m args below meth c T' locs (cells + 1) (slots + cap) ∧ T'.heap = h' ∧ Ext h h' ∧ own_Ar Z h' h.size (newarray.typeOf aty) (List.replicate n.toNatClampNeg (defaultValue (newarray.typeOf aty))) ∧
      ∀ target, Steps p.tables e below (T'.setTop { g with pc := g.pc + 2, stack := .ref h.size :: rest }) target → Steps p.tables e below (T.setTop g) target := by
  obtain ⟨T', h', cA, X', e', E', A', st⟩ := newP X hx hZ w eT hg hd hs hn hcap hb hc hl
  exact ⟨T', h', X', e', E', ⟨_, A', by simp [newA]⟩, st⟩
theorem own_stJ (X : Stand p l e R s m args below meth c T locs cells slots) (hx : p.tables.exec = Jvm.exec) (hZ : Z.Warmed39 s.vm) (eT : T.heap = h) {a : Addr} {L : List Value} (A : own_Ar Z h a .long L) {j : Int32} {x : Int64} (h0 : ¬ j < 0) (hj : j.toNatClampNeg < L.length) {g : JFrame} (hg : g.method = m) {rest : List Value} (hs : g.stack = .long x :: .int j :: .ref a :: rest) (hd : decode c.code g.pc = .ok (.lastore, 1)) :
    ∃ T' h', Stand p l e R s m args below meth c T' (locs ++ [⟨a, j.toNatClampNeg⟩]) cells slots ∧ T'.heap = h' ∧ Wr h h' a j.toNatClampNeg (.long x) ∧ own_Ar Z h' a .long (L.set j.toNatClampNeg (.long x)) ∧ ∀ target, Steps p.tables e below (T'.setTop { g with pc := g.pc + 1, stack := rest }) target → Steps p.tables e below (T.setTop g) target := by
  obtain ⟨cl, A', r⟩ := id A
  obtain ⟨T', h', X', e', W', st⟩ := stJ X hx hZ eT A' (own_in r h0 hj) hg hs hd
  exact ⟨T', h', X', e', W', A.set W', st⟩
theorem own_stI (X : Stand p l e R s m args below meth c T locs cells slots) (hx : p.tables.exec = Jvm.exec) (hZ : Z.Warmed39 s.vm) (eT : T.heap = h) {a : Addr} {L : List Value} (A : own_Ar Z h a .int L) {j : Int32} {x : Int32} (h0 : ¬ j < 0) (hj : j.toNatClampNeg < L.length) {g : JFrame} (hg : g.method = m) {rest : List Value} (hs : g.stack = .int x :: .int j :: .ref a :: rest) (hd : decode c.code g.pc = .ok (.iastore, 1)) :
    ∃ T' h', Stand p l e R s m args below meth c T' (locs ++ [⟨a, j.toNatClampNeg⟩]) cells slots ∧ T'.heap = h' ∧ Wr h h' a j.toNatClampNeg (.int x) ∧ own_Ar Z h' a .int (L.set j.toNatClampNeg (.int x)) ∧ ∀ target, Steps p.tables e below (T'.setTop { g with pc := g.pc + 1, stack := rest }) target → Steps p.tables e below (T.setTop g) target := by
  obtain ⟨cl, A', r⟩ := id A
  obtain ⟨T', h', X', e', W', st⟩ := stI X hx hZ eT A' (own_in r h0 hj) hg hs hd
  exact ⟨T', h', X', e', W', A.set W', st⟩
theorem own_stB (X : Stand p l e R s m args below meth c T locs cells slots) (hx : p.tables.exec = Jvm.exec) (hZ : Z.Warmed39 s.vm) (eT : T.heap = h) {a : Addr} {L : List Value} (A : own_Ar Z h a .byte L) {j : Int32} {x : Int32} (h0 : ¬ j < 0) (hj : j.toNatClampNeg < L.length) {g : JFrame} (hg : g.method = m) {rest : List Value} (hs : g.stack = .int x :: .int j :: .ref a :: rest) (hd : decode c.code g.pc = .ok (.bastore, 1)) :
    ∃ T' h', Stand p l e R s m args below meth c T' (locs ++ [⟨a, j.toNatClampNeg⟩]) cells slots ∧ T'.heap = h' ∧ Wr h h' a j.toNatClampNeg (.int (nar .byte x)) ∧ own_Ar Z h' a .byte (L.set j.toNatClampNeg (.int (nar .byte x))) ∧ ∀ target, Steps p.tables e below (T'.setTop { g with pc := g.pc + 1, stack := rest }) target → Steps p.tables e below (T.setTop g) target := by
  obtain ⟨cl, A', r⟩ := id A
  obtain ⟨T', h', X', e', W', st⟩ := stB X hx hZ eT A' (own_in r h0 hj) hg hs hd
  exact ⟨T', h', X', e', W', A.set W', st⟩
theorem own_stZ (X : Stand p l e R s m args below meth c T locs cells slots) (hx : p.tables.exec = Jvm.exec) (hZ : Z.Warmed39 s.vm) (eT : T.heap = h) {a : Addr} {L : List Value} (A : own_Ar Z h a .boolean L) {j : Int32} {x : Int32} (h0 : ¬ j < 0) (hj : j.toNatClampNeg < L.length) {g : JFrame} (hg : g.method = m) {rest : List Value} (hs : g.stack = .int x :: .int j :: .ref a :: rest) (hd : decode c.code g.pc = .ok (.bastore, 1)) :
    ∃ T' h', Stand p l e R s m args below meth c T' (locs ++ [⟨a, j.toNatClampNeg⟩]) cells slots ∧ T'.heap = h' ∧ Wr h h' a j.toNatClampNeg (.int (nar .boolean x)) ∧ own_Ar Z h' a .boolean (L.set j.toNatClampNeg (.int (nar .boolean x))) ∧ ∀ target, Steps p.tables e below (T'.setTop { g with pc := g.pc + 1, stack := rest }) target → Steps p.tables e below (T.setTop g) target := by
  obtain ⟨cl, A', r⟩ := id A
  obtain ⟨T', h', X', e', W', st⟩ := stZ X hx hZ eT A' (own_in r h0 hj) hg hs hd
  exact ⟨T', h', X', e', W', A.set W', st⟩
theorem own_stC (X : Stand p l e R s m args below meth c T locs cells slots) (hx : p.tables.exec = Jvm.exec) (hZ : Z.Warmed39 s.vm) (eT : T.heap = h) {a : Addr} {L : List Value} (A : own_Ar Z h a .char L) {j : Int32} {x : Int32} (h0 : ¬ j < 0) (hj : j.toNatClampNeg < L.length) {g : JFrame} (hg : g.method = m) {rest : List Value} (hs : g.stack = .int x :: .int j :: .ref a :: rest) (hd : decode c.code g.pc = .ok (.castore, 1)) :
    ∃ T' h', Stand p l e R s m args below meth c T' (locs ++ [⟨a, j.toNatClampNeg⟩]) cells slots ∧ T'.heap = h' ∧ Wr h h' a j.toNatClampNeg (.int (nar .char x)) ∧ own_Ar Z h' a .char (L.set j.toNatClampNeg (.int (nar .char x))) ∧ ∀ target, Steps p.tables e below (T'.setTop { g with pc := g.pc + 1, stack := rest }) target → Steps p.tables e below (T.setTop g) target := by
  obtain ⟨cl, A', r⟩ := id A
  obtain ⟨T', h', X', e', W', st⟩ := stC X hx hZ eT A' (own_in r h0 hj) hg hs hd
  exact ⟨T', h', X', e', W', A.set W', st⟩
theorem own_ldJ (X : Stand p l e R s m args below meth c T locs cells slots) (hx : p.tables.exec = Jvm.exec) (hZ : Z.Warmed39 s.vm) (eT : T.heap = h) {a : Addr} {L : List Value} (A : own_Ar Z h a .long L) {j : Int32} {v : Value} (h0 : ¬ j < 0) (hv : L[j.toNatClampNeg]? = some v) {g : JFrame} (hg : g.method = m) {rest : List Value} (hs : g.stack = .int j :: .ref a :: rest) (hd : decode c.code g.pc = .ok (.laload, 1)) (target : State)
    (hr : Steps p.tables e below (T.setTop { g with pc := g.pc + 1, stack := v :: rest }) target) : Steps p.tables e below (T.setTop g) target := by
  obtain ⟨cl, A', r⟩ := A
  exact X.laload hx (by rw [eT]; exact A'.1) (State.isArrayOf_alike hZ.alike A'.2.1) A'.2.2 (own_inv r h0 hv) (own_at r hv) hg hs hd target hr
theorem own_ldI (X : Stand p l e R s m args below meth c T locs cells slots) (hx : p.tables.exec = Jvm.exec) (hZ : Z.Warmed39 s.vm) (eT : T.heap = h) {a : Addr} {L : List Value} (A : own_Ar Z h a .int L) {j : Int32} {v : Value} (h0 : ¬ j < 0) (hv : L[j.toNatClampNeg]? = some v) {g : JFrame} (hg : g.method = m) {rest : List Value} (hs : g.stack = .int j :: .ref a :: rest) (hd : decode c.code g.pc = .ok (.iaload, 1)) (target : State)
    (hr : Steps p.tables e below (T.setTop { g with pc := g.pc + 1, stack := v :: rest }) target) : Steps p.tables e below (T.setTop g) target := by
  obtain ⟨cl, A', r⟩ := A
  exact X.iaload hx (by rw [eT]; exact A'.1) (State.isArrayOf_alike hZ.alike A'.2.1) A'.2.2 (own_inv r h0 hv) (own_at r hv) hg hs hd target hr
theorem own_ldB (X : Stand p l e R s m args below meth c T locs cells slots) (hx : p.tables.exec = Jvm.exec) (hZ : Z.Warmed39 s.vm) (eT : T.heap = h) {a : Addr} {L : List Value} (A : own_Ar Z h a .byte L) {j : Int32} {v : Value} (h0 : ¬ j < 0) (hv : L[j.toNatClampNeg]? = some v) {g : JFrame} (hg : g.method = m) {rest : List Value} (hs : g.stack = .int j :: .ref a :: rest) (hd : decode c.code g.pc = .ok (.baload, 1)) (target : State)
    (hr : Steps p.tables e below (T.setTop { g with pc := g.pc + 1, stack := v :: rest }) target) : Steps p.tables e below (T.setTop g) target := by
  obtain ⟨cl, A', r⟩ := A
  exact X.baloadBytes hx (by rw [eT]; exact A'.1) (State.isArrayOf_alike hZ.alike A'.2.1) A'.2.2 (own_inv r h0 hv) (own_at r hv) hg hs hd target hr
theorem own_ldZ (X : Stand p l e R s m args below meth c T locs cells slots) (hx : p.tables.exec = Jvm.exec) (hZ : Z.Warmed39 s.vm) (eT : T.heap = h) {a : Addr} {L : List Value} (A : own_Ar Z h a .boolean L) {j : Int32} {v : Value} (h0 : ¬ j < 0) (hv : L[j.toNatClampNeg]? = some v) {g : JFrame} (hg : g.method = m) {rest : List Value} (hs : g.stack = .int j :: .ref a :: rest) (hd : decode c.code g.pc = .ok (.baload, 1)) (target : State)
    (hr : Steps p.tables e below (T.setTop { g with pc := g.pc + 1, stack := v :: rest }) target) : Steps p.tables e below (T.setTop g) target := by
  obtain ⟨cl, A', r⟩ := A
  exact X.baloadBooleans hx (by rw [eT]; exact A'.1) (State.isArrayOf_alike hZ.alike A'.2.1) A'.2.2 (own_inv r h0 hv) (own_at r hv) hg hs hd target hr
theorem own_ldC (X : Stand p l e R s m args below meth c T locs cells slots) (hx : p.tables.exec = Jvm.exec) (hZ : Z.Warmed39 s.vm) (eT : T.heap = h) {a : Addr} {L : List Value} (A : own_Ar Z h a .char L) {j : Int32} {v : Value} (h0 : ¬ j < 0) (hv : L[j.toNatClampNeg]? = some v) {g : JFrame} (hg : g.method = m) {rest : List Value} (hs : g.stack = .int j :: .ref a :: rest) (hd : decode c.code g.pc = .ok (.caload, 1)) (target : State)
    (hr : Steps p.tables e below (T.setTop { g with pc := g.pc + 1, stack := v :: rest }) target) : Steps p.tables e below (T.setTop g) target := by
  obtain ⟨cl, A', r⟩ := A
  exact X.caload hx (by rw [eT]; exact A'.1) (State.isArrayOf_alike hZ.alike A'.2.1) A'.2.2 (own_inv r h0 hv) (own_at r hv) hg hs hd target hr
theorem own_len (X : Stand p l e R s m args below meth c T locs cells slots) (hx : p.tables.exec = Jvm.exec) (hZ : Z.Warmed39 s.vm) (eT : T.heap = h) {a : Addr} {ty : FieldType} {L : List Value} (A : own_Ar Z h a ty L) {n : Int32} (hn : L.length.toInt32 = n) {g : JFrame} (hg : g.method = m) {rest : List Value} (hs : g.stack = .ref a :: rest) (hd : decode c.code g.pc = .ok (.arraylength, 1)) (target : State)
    (hr : Steps p.tables e below (T.setTop { g with pc := g.pc + 1, stack := .int n :: rest }) target) : Steps p.tables e below (T.setTop g) target := by
  obtain ⟨cl, A', r⟩ := A
  refine X.arraylength hx (by rw [eT]; exact A'.1) (State.isArrayOf_alike hZ.alike A'.2.1) hg hs hd target ?_
  have q : cl.slots.size.toInt32 = n := by rw [← hn, ← r]; simp
  rw [q]; exact hr
theorem own_sta_keep {C n d : String} {w : Value} {ws : List Addr} (F : Sta Z h C n d w) (K : Keep h h' ws) (q : ∀ (a : Addr) (c : Cell), h[a]? = some c → c.vm.isStatics = true → a ∉ ws) : Sta Z h' C n d w := by
  obtain ⟨cf, i, k, f, st, cell, h1, h2, h3, h4, h5, h6, h7⟩ := F
  exact ⟨cf, i, k, f, st, cell, h1, h2, h3, h4, K.2.1 st cell h5 (q st cell h5 h6), h6, h7⟩
theorem own_nr {a b : Addr} (q : ¬ Value.ref a = Value.ref b) : ¬ a = b := fun r => q (congrArg Value.ref r)
end own_walk
section own_walkS
variable {p : Program} {l : Launch} {e : Env} {R : Room} {s : State} {vm0 : Vm} {kS : Nat} {m : MethodId} {args : Array Value} {below : List Frame} {meth : Method} {c : Code} {T : State} {locs : List Loc} {cells slots : Nat} {Z : State} {h h' : Heap}
def own_PW (Q : Option Value → Heap → List Loc → Prop) (s : State) (k n : Nat) (o : Outcome) (s₂ : State) : Prop :=
  ∃ v L, o = .returned v ∧ Q v s₂.heap L ∧ ReturnedEndW s o s₂ L k n
theorem own_retS {v : Option Value} {g : State} {Q : Option Value → Heap → List Loc → Prop} {k n : Nat} (X : Stand p l e R (s.setVm vm0) m args below meth c T locs cells slots) (hS : s.Since vm0 kS) (hk : kS ≤ T.heap.size) (hlk : meth.locks = false) (hv : meth.sig.returnType = none → v = none)
    (hst : ∀ fs, (∀ (f : JFrame) (acts : List Action), f.method = m → f.locked = none → f.entered = [] → (doReturn e (T.setTop f) acts v).1 = T.setFrames fs) → Steps p.tables e below g (T.setFrames fs))
    (hQ : Q v T.heap locs) (hc : cells ≤ k) (hn : slots ≤ n) : own_Fin p e below (own_PW Q s k n) g := by
  obtain ⟨fs, hr, hrun, hended, hE⟩ := X.leaveW hS hk (v := v) hv hlk
  exact ⟨_, _, hst fs hr, hrun, hended, _, _, rfl, hQ, hE.1, hE.2.1, hE.2.2.1, hE.2.2.2.mono hc hn⟩
theorem own_retWS {w : Value} {t : FieldType} {i : Instr} {pc : Nat} {Ls : Array Slot} {rest : List Value} {Q : Option Value → Heap → List Loc → Prop} {k n : Nat} (X : Stand p l e R (s.setVm vm0) m args below meth c T locs cells slots) (hS : s.Since vm0 kS) (hkS : kS ≤ T.heap.size) (hx : p.tables.exec = Jvm.exec) (hlk : meth.locks = false) (hret : meth.sig.returnType = some t) (hnw : narrow t w = w)
    (hi : (i = .ireturn ∧ (t = .int ∨ t = .boolean ∨ t = .byte ∨ t = .char ∨ t = .short) ∧ ∃ z, w = .int z) ∨ (i = .lreturn ∧ t = .long ∧ ∃ z, w = .long z) ∨ (i = .dreturn ∧ t = .double ∧ ∃ z, w = .double z) ∨ (i = .freturn ∧ t = .float ∧ ∃ z, w = .float z) ∨ (i = .areturn ∧ t.isReference = true ∧ w.isRef = true))
    (hd : decode c.code pc = .ok (i, 1)) (hQ : Q (some w) T.heap locs) (hk : cells ≤ k) (hn : slots ≤ n) : own_Fin p e below (own_PW Q s k n) (T.setTop (mkF m pc Ls (w :: rest))) :=
  own_retS X hS hkS hlk (fun q => by rw [hret] at q; cases q) (fun fs hr => retOut X hx hret hnw hi hd hr) hQ hk hn
theorem own_retIS {z : Int32} {pc : Nat} {Ls : Array Slot} {rest : List Value} {Q : Option Value → Heap → List Loc → Prop} {k n : Nat} (X : Stand p l e R (s.setVm vm0) m args below meth c T locs cells slots) (hS : s.Since vm0 kS) (hkS : kS ≤ T.heap.size) (hx : p.tables.exec = Jvm.exec) (hlk : meth.locks = false) (hret : meth.sig.returnType = some .int)
    (hd : decode c.code pc = .ok (.ireturn, 1)) (hQ : Q (some (.int z)) T.heap locs) (hk : cells ≤ k) (hn : slots ≤ n) : own_Fin p e below (own_PW Q s k n) (T.setTop (mkF m pc Ls (.int z :: rest))) :=
  own_retWS X hS hkS hx hlk hret rfl (Or.inl ⟨rfl, Or.inl rfl, z, rfl⟩) hd hQ hk hn
theorem own_retJS {z : Int64} {pc : Nat} {Ls : Array Slot} {rest : List Value} {Q : Option Value → Heap → List Loc → Prop} {k n : Nat} (X : Stand p l e R (s.setVm vm0) m args below meth c T locs cells slots) (hS : s.Since vm0 kS) (hkS : kS ≤ T.heap.size) (hx : p.tables.exec = Jvm.exec) (hlk : meth.locks = false) (hret : meth.sig.returnType = some .long)
    (hd : decode c.code pc = .ok (.lreturn, 1)) (hQ : Q (some (.long z)) T.heap locs) (hk : cells ≤ k) (hn : slots ≤ n) : own_Fin p e below (own_PW Q s k n) (T.setTop (mkF m pc Ls (.long z :: rest))) :=
  own_retWS X hS hkS hx hlk hret rfl (Or.inr (Or.inl ⟨rfl, rfl, z, rfl⟩)) hd hQ hk hn
theorem own_retAS {w : Value} {t : FieldType} {pc : Nat} {Ls : Array Slot} {rest : List Value} {Q : Option Value → Heap → List Loc → Prop} {k n : Nat} (X : Stand p l e R (s.setVm vm0) m args below meth c T locs cells slots) (hS : s.Since vm0 kS) (hkS : kS ≤ T.heap.size) (hx : p.tables.exec = Jvm.exec) (hlk : meth.locks = false) (hw : w.isRef = true) (hret : meth.sig.returnType = some t) (ht : t.isReference = true)
    (hd : decode c.code pc = .ok (.areturn, 1)) (hQ : Q (some w) T.heap locs) (hk : cells ≤ k) (hn : slots ≤ n) : own_Fin p e below (own_PW Q s k n) (T.setTop (mkF m pc Ls (w :: rest))) :=
  own_retWS X hS hkS hx hlk hret (own_nref hw) (Or.inr (Or.inr (Or.inr (Or.inr ⟨rfl, ht, hw⟩)))) hd hQ hk hn
theorem own_retBS {z : Int32} {t : FieldType} {pc : Nat} {Ls : Array Slot} {rest : List Value} {Q : Option Value → Heap → List Loc → Prop} {k n : Nat} (X : Stand p l e R (s.setVm vm0) m args below meth c T locs cells slots) (hS : s.Since vm0 kS) (hkS : kS ≤ T.heap.size) (hx : p.tables.exec = Jvm.exec) (hlk : meth.locks = false) (hret : meth.sig.returnType = some t) (ht : t = .boolean ∨ t = .byte ∨ t = .char ∨ t = .short)
    (hd : decode c.code pc = .ok (.ireturn, 1)) (hQ : Q (some (.int (nar t z))) T.heap locs) (hk : cells ≤ k) (hn : slots ≤ n) : own_Fin p e below (own_PW Q s k n) (T.setTop (mkF m pc Ls (.int z :: rest))) :=
  own_retS X hS hkS hlk (fun q => by rw [hret] at q; cases q) (fun fs hr => retN X hx hret ht hd hr) hQ hk hn
theorem own_retVS {pc : Nat} {Ls : Array Slot} {Q : Option Value → Heap → List Loc → Prop} {k n : Nat} (X : Stand p l e R (s.setVm vm0) m args below meth c T locs cells slots) (hS : s.Since vm0 kS) (hkS : kS ≤ T.heap.size) (hx : p.tables.exec = Jvm.exec) (hlk : meth.locks = false) (hret : meth.sig.returnType = none)
    (hd : decode c.code pc = .ok (.return_, 1)) (hQ : Q none T.heap locs) (hk : cells ≤ k) (hn : slots ≤ n) : own_Fin p e below (own_PW Q s k n) (T.setTop (mkF m pc Ls [])) :=
  own_retS X hS hkS hlk (fun _ => rfl) (fun fs hr => X.returnOut hx hret hd hr) hQ hk hn
end own_walkS
theorem own_pn0 : plainName "java/util/AbstractMap" = true := by first | (simp [plainName, overriddenIn]; done) | decide +kernel
theorem own_d4_0 : decode jdk_71_method_1_code 0 = .ok (.aload_n 0, 1) := by decide +kernel
theorem own_d4_1 : decode jdk_71_method_1_code 1 = .ok (.invokespecial 1, 3) := by decide +kernel
theorem own_d4_4 : decode jdk_71_method_1_code 4 = .ok (.return_, 1) := by decide +kernel
theorem ef_own_rm4 (m : MethodId) (a1 : Addr) : entryFrame m #[(.ref a1)] 1 = mkF m 0 #[.val (.ref a1)] [] := by first | (simp [entryFrame, mkF, argsToLocals, Value.category]; done) | rfl
def own_rm4_Q (Z : State) (a1 : Addr)  (h0 : Heap) (n0 : Nat) (v : Option Value) (h : Heap) (L : List Loc) : Prop := v = none ∧ Fr n0 L ∧ h = h0
set_option maxRecDepth 65536 in
set_option maxHeartbeats 40000000 in
theorem own_rm4 (l : Launch) (Z : State) (a0 : Array Value) (hw : ∀ d ∈ tables_1, d.before a0 Z = true) (ws : List Jvm.Cond) (a1 : Addr)  (h0 : Heap) (n0 : Nat) (Z0 : n0 ≤ h0.size) :
    MetFree l (⟨"java/util/AbstractMap", "<init>", "()V"⟩ : MethodName) (head1 (Jvm.Cond.code (⟨"java/util/AbstractMap", "<init>", "()V"⟩ : MethodName) jdk_71_method_1_code 1 none :: ws) ({ frames := 1, cells := 0, slots := 0, locals := 12 } : Room)) (fun a U => a = #[(.ref a1)] ∧ Z.Warmed39 U.vm ∧ U.heap = h0) (fun _ _ _ _ _ => True) (fun _ U o U' => ∃ v L, o = .returned v ∧ own_rm4_Q Z a1  h0 n0 v U'.heap L ∧ FrameEnd U o U' L ({ frames := 1, cells := 0, slots := 0, locals := 12 } : Room).cells ({ frames := 1, cells := 0, slots := 0, locals := 12 } : Room).slots) := by
  refine MetFree.of_bodySF (plainFor_of_name own_pn0) hisR ?_
  intro p e s m args below meth c s₁ Bd hml0 hP hK
  obtain ⟨rfl, hZ, hh⟩ := hP
  have hx := Bd.exec
  have hby := Bd.bytes
  have hml : c.maxLocals = 1 := hml0
  have hown : s.vm.findClass "java/util/AbstractMap" = some m.cls := findClass_of_methodNamed Bd.named
  have hnm := (name_of_methodNamed Bd.named Bd.method).1
  have hlk : meth.locks = false := BodyLoose.notSynchronized Bd
  have X0 : Stand p l e ({ frames := 1, cells := 0, slots := 0, locals := 12 } : Room) s m #[(.ref a1)] below meth c s₁ [] 0 0 := Stand.of_body Bd
  have e0 : s₁.heap = h0 := by rw [← hh, Bd.state]; rfl
  have N0 := Fr.nil n0
  have K0 : Keep h0 h0 [] := Keep.refl h0 []
  show own_Fin p e below (own_P (own_rm4_Q Z a1  h0 n0) s ({ frames := 1, cells := 0, slots := 0, locals := 12 } : Room).cells ({ frames := 1, cells := 0, slots := 0, locals := 12 } : Room).slots) (s₁.setTop (entryFrame m #[(.ref a1)] 1))
  refine own_via (g' := s₁.setTop (mkF m 0 #[.val (.ref a1)] [])) (fun t k => castTop (ef_own_rm4 m a1) k) ?_
  refine own_via (g' := s₁.setTop (mkF m 1 #[.val (.ref a1)] [(.ref a1)])) (fun t k => XS.aloadN X0.here hx rfl (hb hby own_d4_0) rfl (rfl) k) ?_
  obtain ⟨T101, X101, e101, st101⟩ := initO X0 hx hZ hown (hw _ (List.mem_of_getElem? (i := 21) rfl)) (hw _ (List.mem_of_getElem? (i := 7) rfl)) (hw _ (List.mem_of_getElem? (i := 8) rfl)) e0 (g := (mkF m 1 #[.val (.ref a1)] [(.ref a1)])) rfl (by rw [hml]; rfl) rfl (hb hby own_d4_1) (by decide) (W := 0) (by show 2 * 0 + _ ≤ _; exact Nat.le_of_eq rfl) (by decide)
  refine own_via (g' := T101.setTop (mkF m 4 #[.val (.ref a1)] [])) (fun t k => st101 _ k) ?_
  exact own_retV X101 hx hlk Bd.returns (hb hby own_d4_4) ⟨rfl, N0, e101⟩ (by decide) (by decide)
theorem own_pn1 : plainName "java/util/AbstractCollection" = true := by first | (simp [plainName, overriddenIn]; done) | decide +kernel
theorem own_d8_0 : decode jdk_22_method_1_code 0 = .ok (.aload_n 0, 1) := by decide +kernel
theorem own_d8_1 : decode jdk_22_method_1_code 1 = .ok (.invokespecial 1, 3) := by decide +kernel
theorem own_d8_4 : decode jdk_22_method_1_code 4 = .ok (.return_, 1) := by decide +kernel
theorem ef_own_rm8 (m : MethodId) (a1 : Addr) : entryFrame m #[(.ref a1)] 1 = mkF m 0 #[.val (.ref a1)] [] := by first | (simp [entryFrame, mkF, argsToLocals, Value.category]; done) | rfl
def own_rm8_Q (Z : State) (a1 : Addr)  (h0 : Heap) (n0 : Nat) (v : Option Value) (h : Heap) (L : List Loc) : Prop := v = none ∧ Fr n0 L ∧ h = h0
set_option maxRecDepth 65536 in
set_option maxHeartbeats 40000000 in
theorem own_rm8 (l : Launch) (Z : State) (a0 : Array Value) (hw : ∀ d ∈ tables_1, d.before a0 Z = true) (ws : List Jvm.Cond) (a1 : Addr)  (h0 : Heap) (n0 : Nat) (Z0 : n0 ≤ h0.size) :
    MetFree l (⟨"java/util/AbstractCollection", "<init>", "()V"⟩ : MethodName) (head1 (Jvm.Cond.code (⟨"java/util/AbstractCollection", "<init>", "()V"⟩ : MethodName) jdk_22_method_1_code 1 none :: ws) ({ frames := 1, cells := 0, slots := 0, locals := 12 } : Room)) (fun a U => a = #[(.ref a1)] ∧ Z.Warmed39 U.vm ∧ U.heap = h0) (fun _ _ _ _ _ => True) (fun _ U o U' => ∃ v L, o = .returned v ∧ own_rm8_Q Z a1  h0 n0 v U'.heap L ∧ FrameEnd U o U' L ({ frames := 1, cells := 0, slots := 0, locals := 12 } : Room).cells ({ frames := 1, cells := 0, slots := 0, locals := 12 } : Room).slots) := by
  refine MetFree.of_bodySF (plainFor_of_name own_pn1) hisR ?_
  intro p e s m args below meth c s₁ Bd hml0 hP hK
  obtain ⟨rfl, hZ, hh⟩ := hP
  have hx := Bd.exec
  have hby := Bd.bytes
  have hml : c.maxLocals = 1 := hml0
  have hown : s.vm.findClass "java/util/AbstractCollection" = some m.cls := findClass_of_methodNamed Bd.named
  have hnm := (name_of_methodNamed Bd.named Bd.method).1
  have hlk : meth.locks = false := BodyLoose.notSynchronized Bd
  have X0 : Stand p l e ({ frames := 1, cells := 0, slots := 0, locals := 12 } : Room) s m #[(.ref a1)] below meth c s₁ [] 0 0 := Stand.of_body Bd
  have e0 : s₁.heap = h0 := by rw [← hh, Bd.state]; rfl
  have N0 := Fr.nil n0
  have K0 : Keep h0 h0 [] := Keep.refl h0 []
  show own_Fin p e below (own_P (own_rm8_Q Z a1  h0 n0) s ({ frames := 1, cells := 0, slots := 0, locals := 12 } : Room).cells ({ frames := 1, cells := 0, slots := 0, locals := 12 } : Room).slots) (s₁.setTop (entryFrame m #[(.ref a1)] 1))
  refine own_via (g' := s₁.setTop (mkF m 0 #[.val (.ref a1)] [])) (fun t k => castTop (ef_own_rm8 m a1) k) ?_
  refine own_via (g' := s₁.setTop (mkF m 1 #[.val (.ref a1)] [(.ref a1)])) (fun t k => XS.aloadN X0.here hx rfl (hb hby own_d8_0) rfl (rfl) k) ?_
  obtain ⟨T101, X101, e101, st101⟩ := initO X0 hx hZ hown (hw _ (List.mem_of_getElem? (i := 56) rfl)) (hw _ (List.mem_of_getElem? (i := 7) rfl)) (hw _ (List.mem_of_getElem? (i := 8) rfl)) e0 (g := (mkF m 1 #[.val (.ref a1)] [(.ref a1)])) rfl (by rw [hml]; rfl) rfl (hb hby own_d8_1) (by decide) (W := 0) (by show 2 * 0 + _ ≤ _; exact Nat.le_of_eq rfl) (by decide)
  refine own_via (g' := T101.setTop (mkF m 4 #[.val (.ref a1)] [])) (fun t k => st101 _ k) ?_
  exact own_retV X101 hx hlk Bd.returns (hb hby own_d8_4) ⟨rfl, N0, e101⟩ (by decide) (by decide)
theorem own_pn2 : plainName "java/util/AbstractSet" = true := by first | (simp [plainName, overriddenIn]; done) | decide +kernel
theorem own_pd0 : parseMethodDescriptor "()V" = some ⟨[], none⟩ := by decide +kernel
theorem own_d7_0 : decode jdk_91_method_1_code 0 = .ok (.aload_n 0, 1) := by decide +kernel
theorem own_d7_1 : decode jdk_91_method_1_code 1 = .ok (.invokespecial 1, 3) := by decide +kernel
theorem own_d7_4 : decode jdk_91_method_1_code 4 = .ok (.return_, 1) := by decide +kernel
theorem ef_own_rm7 (m : MethodId) (a1 : Addr) : entryFrame m #[(.ref a1)] 1 = mkF m 0 #[.val (.ref a1)] [] := by first | (simp [entryFrame, mkF, argsToLocals, Value.category]; done) | rfl
def own_rm7_Q (Z : State) (a1 : Addr)  (h0 : Heap) (n0 : Nat) (v : Option Value) (h : Heap) (L : List Loc) : Prop := v = none ∧ Fr n0 L ∧ h = h0
set_option maxRecDepth 65536 in
set_option maxHeartbeats 40000000 in
theorem own_rm7 (l : Launch) (Z : State) (a0 : Array Value) (hw : ∀ d ∈ tables_1, d.before a0 Z = true) (ws : List Jvm.Cond) (a1 : Addr)  (h0 : Heap) (n0 : Nat) (Z0 : n0 ≤ h0.size) :
    MetFree l (⟨"java/util/AbstractSet", "<init>", "()V"⟩ : MethodName) (head1 (Jvm.Cond.code (⟨"java/util/AbstractSet", "<init>", "()V"⟩ : MethodName) jdk_91_method_1_code 1 none :: ws) ({ frames := 2, cells := 0, slots := 0, locals := 24 } : Room)) (fun a U => a = #[(.ref a1)] ∧ Z.Warmed39 U.vm ∧ U.heap = h0) (fun _ _ _ _ _ => True) (fun _ U o U' => ∃ v L, o = .returned v ∧ own_rm7_Q Z a1  h0 n0 v U'.heap L ∧ FrameEnd U o U' L ({ frames := 2, cells := 0, slots := 0, locals := 24 } : Room).cells ({ frames := 2, cells := 0, slots := 0, locals := 24 } : Room).slots) := by
  refine MetFree.of_bodySF (plainFor_of_name own_pn2) hisR ?_
  intro p e s m args below meth c s₁ Bd hml0 hP hK
  obtain ⟨rfl, hZ, hh⟩ := hP
  have hx := Bd.exec
  have hby := Bd.bytes
  have hml : c.maxLocals = 1 := hml0
  have hown : s.vm.findClass "java/util/AbstractSet" = some m.cls := findClass_of_methodNamed Bd.named
  have hnm := (name_of_methodNamed Bd.named Bd.method).1
  have hlk : meth.locks = false := BodyLoose.notSynchronized Bd
  have X0 : Stand p l e ({ frames := 2, cells := 0, slots := 0, locals := 24 } : Room) s m #[(.ref a1)] below meth c s₁ [] 0 0 := Stand.of_body Bd
  have e0 : s₁.heap = h0 := by rw [← hh, Bd.state]; rfl
  have N0 := Fr.nil n0
  have K0 : Keep h0 h0 [] := Keep.refl h0 []
  show own_Fin p e below (own_P (own_rm7_Q Z a1  h0 n0) s ({ frames := 2, cells := 0, slots := 0, locals := 24 } : Room).cells ({ frames := 2, cells := 0, slots := 0, locals := 24 } : Room).slots) (s₁.setTop (entryFrame m #[(.ref a1)] 1))
  refine own_via (g' := s₁.setTop (mkF m 0 #[.val (.ref a1)] [])) (fun t k => castTop (ef_own_rm7 m a1) k) ?_
  refine own_via (g' := s₁.setTop (mkF m 1 #[.val (.ref a1)] [(.ref a1)])) (fun t k => XS.aloadN X0.here hx rfl (hb hby own_d7_0) rfl (rfl) k) ?_
  obtain ⟨v101, _, ⟨T101, L101, k101, n101⟩, -, X101, ⟨Lc101, hQ101, l101, y101, z101⟩, st101⟩ := X0.specialBack hx (y := (⟨"java/util/AbstractCollection", "<init>", "()V"⟩ : MethodName)) rfl hown (mvT hZ (hw _ (List.mem_of_getElem? (i := 50) rfl))) (mvT hZ (hw _ (List.mem_of_getElem? (i := 51) rfl))) (mvT hZ (hw _ (List.mem_of_getElem? (i := 55) rfl))) (by decide) (backOf (W := 0) (own_rm8 l Z a0 hw [] a1 h0 n0 (Nat.le_trans Z0 K0.1) ) hZ (hw _ (List.mem_of_getElem? (i := 55) rfl)) (hw _ (List.mem_of_getElem? (i := 54) rfl)) (by decide) (by decide)) (g := (mkF m 1 #[.val (.ref a1)] [(.ref a1)])) rfl (by rw [hml]; rfl) (Steps.refl _) (a := a1) (argsL := []) (rest := []) (lenOf own_pd0 rfl) rfl (by show 2 * 0 + _ ≤ _; exact Nat.le_of_eq rfl) (hb hby own_d7_1) (fun _ _ => ⟨rfl, e0, (by decide : 0 + 0 ≤ _), (by decide : 0 + 0 ≤ _)⟩)
  dsimp only [Pt.U, Pt.locs, Pt.cells, Pt.slots] at X101 l101 y101 z101 st101 hQ101
  subst l101 y101 z101
  obtain ⟨rfl, N101q, e101⟩ := hQ101
  have N101 := Fr.app N0 N101q
  refine own_via (g' := T101.setTop (mkF m 4 #[.val (.ref a1)] [])) (fun t k => st101.trans k) ?_
  exact own_retV X101 hx hlk Bd.returns (hb hby own_d7_4) ⟨rfl, N101, e101⟩ (by decide) (by decide)
theorem own_f0 : cmpValue (FP.fcmp (1061158912 : UInt32) (1061158912 : UInt32)) .l = 0 := by decide +kernel
theorem own_f1 : cmpValue (FP.fcmp (1061158912 : UInt32) 0) .g = 1 := by decide +kernel
theorem own_pn3 : plainName "java/lang/Integer" = true := by first | (simp [plainName, overriddenIn]; done) | decide +kernel
theorem own_d13_0 : decode jdk_33_method_47_code 0 = .ok (.iload_n 0, 1) := by decide +kernel
theorem own_d13_1 : decode jdk_33_method_47_code 1 = .ok (.ifCond .gt 14, 3) := by decide +kernel
theorem own_d13_15 : decode jdk_33_method_47_code 15 = .ok (.bipush 31, 2) := by decide +kernel
theorem own_d13_17 : decode jdk_33_method_47_code 17 = .ok (.istore_n 1, 1) := by decide +kernel
theorem own_d13_18 : decode jdk_33_method_47_code 18 = .ok (.iload_n 0, 1) := by decide +kernel
theorem own_d13_19 : decode jdk_33_method_47_code 19 = .ok (.ldc_w 264, 3) := by decide +kernel
theorem own_d13_22 : decode jdk_33_method_47_code 22 = .ok (.if_icmp .lt 11, 3) := by decide +kernel
theorem own_d13_33 : decode jdk_33_method_47_code 33 = .ok (.iload_n 0, 1) := by decide +kernel
theorem own_d13_34 : decode jdk_33_method_47_code 34 = .ok (.sipush 256, 3) := by decide +kernel
theorem own_d13_37 : decode jdk_33_method_47_code 37 = .ok (.if_icmp .lt 11, 3) := by decide +kernel
theorem own_d13_48 : decode jdk_33_method_47_code 48 = .ok (.iload_n 0, 1) := by decide +kernel
theorem own_d13_49 : decode jdk_33_method_47_code 49 = .ok (.bipush 16, 2) := by decide +kernel
theorem own_d13_51 : decode jdk_33_method_47_code 51 = .ok (.if_icmp .lt 10, 3) := by decide +kernel
theorem own_d13_61 : decode jdk_33_method_47_code 61 = .ok (.iload_n 0, 1) := by decide +kernel
theorem own_d13_62 : decode jdk_33_method_47_code 62 = .ok (.iconst 4, 1) := by decide +kernel
theorem own_d13_63 : decode jdk_33_method_47_code 63 = .ok (.if_icmp .lt 10, 3) := by decide +kernel
theorem own_d13_66 : decode jdk_33_method_47_code 66 = .ok (.iinc 1 (-2), 3) := by decide +kernel
theorem own_d13_69 : decode jdk_33_method_47_code 69 = .ok (.iload_n 0, 1) := by decide +kernel
theorem own_d13_70 : decode jdk_33_method_47_code 70 = .ok (.iconst 2, 1) := by decide +kernel
theorem own_d13_71 : decode jdk_33_method_47_code 71 = .ok (.iushr, 1) := by decide +kernel
theorem own_d13_72 : decode jdk_33_method_47_code 72 = .ok (.istore_n 0, 1) := by decide +kernel
theorem own_d13_73 : decode jdk_33_method_47_code 73 = .ok (.iload_n 1, 1) := by decide +kernel
theorem own_d13_74 : decode jdk_33_method_47_code 74 = .ok (.iload_n 0, 1) := by decide +kernel
theorem own_d13_75 : decode jdk_33_method_47_code 75 = .ok (.iconst 1, 1) := by decide +kernel
theorem own_d13_76 : decode jdk_33_method_47_code 76 = .ok (.iushr, 1) := by decide +kernel
theorem own_d13_77 : decode jdk_33_method_47_code 77 = .ok (.isub, 1) := by decide +kernel
theorem own_d13_78 : decode jdk_33_method_47_code 78 = .ok (.ireturn, 1) := by decide +kernel
theorem ef_own_rm13 (m : MethodId) (p1 : Int32) : entryFrame m #[(.int p1)] 2 = mkF m 0 #[.val (.int p1), .unset] [] := by first | (simp [entryFrame, mkF, argsToLocals, Value.category]; done) | rfl
def own_rm13_Q (Z : State) (p1 : Int32)  (h0 : Heap) (n0 : Nat) (v : Option Value) (h : Heap) (L : List Loc) : Prop := v = some (.int ((28 : Int32))) ∧ Fr n0 L ∧ h = h0
set_option maxRecDepth 65536 in
set_option maxHeartbeats 40000000 in
theorem own_rm13 (l : Launch) (Z : State) (a0 : Array Value) (hw : ∀ d ∈ tables_1, d.before a0 Z = true) (ws : List Jvm.Cond) (p1 : Int32)  (h0 : Heap) (n0 : Nat) (Z0 : n0 ≤ h0.size) (hp : p1 = (15 : Int32)) :
    MetFree l (⟨"java/lang/Integer", "numberOfLeadingZeros", "(I)I"⟩ : MethodName) (head1 (Jvm.Cond.code (⟨"java/lang/Integer", "numberOfLeadingZeros", "(I)I"⟩ : MethodName) jdk_33_method_47_code 2 (some .int) :: ws) ({ frames := 0, cells := 0, slots := 0, locals := 0 } : Room)) (fun a U => a = #[(.int p1)] ∧ Z.Warmed39 U.vm ∧ U.heap = h0) (fun _ _ _ _ _ => True) (fun _ U o U' => ∃ v L, o = .returned v ∧ own_rm13_Q Z p1  h0 n0 v U'.heap L ∧ FrameEnd U o U' L ({ frames := 0, cells := 0, slots := 0, locals := 0 } : Room).cells ({ frames := 0, cells := 0, slots := 0, locals := 0 } : Room).slots) := by
  refine MetFree.of_bodySF (plainFor_of_name own_pn3) hisR ?_
  intro p e s m args below meth c s₁ Bd hml0 hP hK
  obtain ⟨rfl, hZ, hh⟩ := hP
  have hx := Bd.exec
  have hby := Bd.bytes
  have hml : c.maxLocals = 2 := hml0
  have hown : s.vm.findClass "java/lang/Integer" = some m.cls := findClass_of_methodNamed Bd.named
  have hnm := (name_of_methodNamed Bd.named Bd.method).1
  have hlk : meth.locks = false := BodyLoose.notSynchronized Bd
  have X0 : Stand p l e ({ frames := 0, cells := 0, slots := 0, locals := 0 } : Room) s m #[(.int p1)] below meth c s₁ [] 0 0 := Stand.of_body Bd
  have e0 : s₁.heap = h0 := by rw [← hh, Bd.state]; rfl
  have N0 := Fr.nil n0
  have K0 : Keep h0 h0 [] := Keep.refl h0 []
  show own_Fin p e below (own_P (own_rm13_Q Z p1  h0 n0) s ({ frames := 0, cells := 0, slots := 0, locals := 0 } : Room).cells ({ frames := 0, cells := 0, slots := 0, locals := 0 } : Room).slots) (s₁.setTop (entryFrame m #[(.int p1)] 2))
  refine own_via (g' := s₁.setTop (mkF m 0 #[.val (.int p1), .unset] [])) (fun t k => castTop (ef_own_rm13 m p1) k) ?_
  subst hp
  refine own_via (g' := s₁.setTop (mkF m 1 #[.val (.int (15 : Int32)), .unset] [(.int (15 : Int32))])) (fun t k => XS.iloadN X0.here hx rfl (hb hby own_d13_0) rfl k) ?_
  refine own_via (g' := s₁.setTop (mkF m 15 #[.val (.int (15 : Int32)), .unset] [])) (fun t k => XS.ifYes X0.here hx rfl (pc0 := 1) (pc' := 15) rfl (hb hby own_d13_1) rfl (XT.i0_gt_t (by decide)) (by decide) (by decide) k) ?_
  refine own_via (g' := s₁.setTop (mkF m 17 #[.val (.int (15 : Int32)), .unset] [(.int (31 : Int32))])) (fun t k => XS.bipush X0.here hx rfl (hb hby own_d13_15) k) ?_
  refine own_via (g' := s₁.setTop (mkF m 18 #[.val (.int (15 : Int32)), .val (.int (31 : Int32))] [])) (fun t k => XS.istoreN X0.here hx rfl (hb hby own_d13_17) rfl (l' := #[.val (.int (15 : Int32)), .val (.int (31 : Int32))]) rfl k) ?_
  refine own_via (g' := s₁.setTop (mkF m 19 #[.val (.int (15 : Int32)), .val (.int (31 : Int32))] [(.int (15 : Int32))])) (fun t k => XS.iloadN X0.here hx rfl (hb hby own_d13_18) rfl k) ?_
  refine own_via (g' := s₁.setTop (mkF m 22 #[.val (.int (15 : Int32)), .val (.int (31 : Int32))] [(.int (65536 : Int32)), (.int (15 : Int32))])) (fun t k => X0.ldcwInt hx hown (mvT hZ (hw _ (List.mem_of_getElem? (i := 83) rfl))) (g := (mkF m 19 #[.val (.int (15 : Int32)), .val (.int (31 : Int32))] [(.int (15 : Int32))])) rfl (hb hby own_d13_19) _ k) ?_
  refine own_via (g' := s₁.setTop (mkF m 33 #[.val (.int (15 : Int32)), .val (.int (31 : Int32))] [])) (fun t k => XS.icmpYes X0.here hx rfl (pc0 := 22) (pc' := 33) rfl (hb hby own_d13_22) rfl (XT.ii_lt_t (by decide)) (by decide) (by decide) k) ?_
  refine own_via (g' := s₁.setTop (mkF m 34 #[.val (.int (15 : Int32)), .val (.int (31 : Int32))] [(.int (15 : Int32))])) (fun t k => XS.iloadN X0.here hx rfl (hb hby own_d13_33) rfl k) ?_
  refine own_via (g' := s₁.setTop (mkF m 37 #[.val (.int (15 : Int32)), .val (.int (31 : Int32))] [(.int (256 : Int32)), (.int (15 : Int32))])) (fun t k => XS.sipush X0.here hx rfl (hb hby own_d13_34) k) ?_
  refine own_via (g' := s₁.setTop (mkF m 48 #[.val (.int (15 : Int32)), .val (.int (31 : Int32))] [])) (fun t k => XS.icmpYes X0.here hx rfl (pc0 := 37) (pc' := 48) rfl (hb hby own_d13_37) rfl (XT.ii_lt_t (by decide)) (by decide) (by decide) k) ?_
  refine own_via (g' := s₁.setTop (mkF m 49 #[.val (.int (15 : Int32)), .val (.int (31 : Int32))] [(.int (15 : Int32))])) (fun t k => XS.iloadN X0.here hx rfl (hb hby own_d13_48) rfl k) ?_
  refine own_via (g' := s₁.setTop (mkF m 51 #[.val (.int (15 : Int32)), .val (.int (31 : Int32))] [(.int (16 : Int32)), (.int (15 : Int32))])) (fun t k => XS.bipush X0.here hx rfl (hb hby own_d13_49) k) ?_
  refine own_via (g' := s₁.setTop (mkF m 61 #[.val (.int (15 : Int32)), .val (.int (31 : Int32))] [])) (fun t k => XS.icmpYes X0.here hx rfl (pc0 := 51) (pc' := 61) rfl (hb hby own_d13_51) rfl (XT.ii_lt_t (by decide)) (by decide) (by decide) k) ?_
  refine own_via (g' := s₁.setTop (mkF m 62 #[.val (.int (15 : Int32)), .val (.int (31 : Int32))] [(.int (15 : Int32))])) (fun t k => XS.iloadN X0.here hx rfl (hb hby own_d13_61) rfl k) ?_
  refine own_via (g' := s₁.setTop (mkF m 63 #[.val (.int (15 : Int32)), .val (.int (31 : Int32))] [(.int (4 : Int32)), (.int (15 : Int32))])) (fun t k => XS.iconst X0.here hx rfl (hb hby own_d13_62) k) ?_
  refine own_via (g' := s₁.setTop (mkF m 66 #[.val (.int (15 : Int32)), .val (.int (31 : Int32))] [])) (fun t k => XS.icmpNo X0.here hx rfl (hb hby own_d13_63) rfl (XT.ii_lt_f (by decide)) k) ?_
  refine own_via (g' := s₁.setTop (mkF m 69 #[.val (.int (15 : Int32)), .val (.int (29 : Int32))] [])) (fun t k => XS.iinc X0.here hx rfl (hb hby own_d13_66) rfl (l' := #[.val (.int (15 : Int32)), .val (.int (29 : Int32))]) rfl k) ?_
  refine own_via (g' := s₁.setTop (mkF m 70 #[.val (.int (15 : Int32)), .val (.int (29 : Int32))] [(.int (15 : Int32))])) (fun t k => XS.iloadN X0.here hx rfl (hb hby own_d13_69) rfl k) ?_
  refine own_via (g' := s₁.setTop (mkF m 71 #[.val (.int (15 : Int32)), .val (.int (29 : Int32))] [(.int (2 : Int32)), (.int (15 : Int32))])) (fun t k => XS.iconst X0.here hx rfl (hb hby own_d13_70) k) ?_
  refine own_via (g' := s₁.setTop (mkF m 72 #[.val (.int (15 : Int32)), .val (.int (29 : Int32))] [(.int (((15 : Int32).toUInt32 >>> ((2 : Int32) &&& 31).toUInt32).toInt32))])) (fun t k => XS.iushr X0.here hx rfl (hb hby own_d13_71) rfl k) ?_
  rw [show (((15 : Int32).toUInt32 >>> ((2 : Int32) &&& 31).toUInt32).toInt32) = (3 : Int32) from by decide]
  refine own_via (g' := s₁.setTop (mkF m 73 #[.val (.int (3 : Int32)), .val (.int (29 : Int32))] [])) (fun t k => XS.istoreN X0.here hx rfl (hb hby own_d13_72) rfl (l' := #[.val (.int (3 : Int32)), .val (.int (29 : Int32))]) rfl k) ?_
  refine own_via (g' := s₁.setTop (mkF m 74 #[.val (.int (3 : Int32)), .val (.int (29 : Int32))] [(.int (29 : Int32))])) (fun t k => XS.iloadN X0.here hx rfl (hb hby own_d13_73) rfl k) ?_
  refine own_via (g' := s₁.setTop (mkF m 75 #[.val (.int (3 : Int32)), .val (.int (29 : Int32))] [(.int (3 : Int32)), (.int (29 : Int32))])) (fun t k => XS.iloadN X0.here hx rfl (hb hby own_d13_74) rfl k) ?_
  refine own_via (g' := s₁.setTop (mkF m 76 #[.val (.int (3 : Int32)), .val (.int (29 : Int32))] [(.int (1 : Int32)), (.int (3 : Int32)), (.int (29 : Int32))])) (fun t k => XS.iconst X0.here hx rfl (hb hby own_d13_75) k) ?_
  refine own_via (g' := s₁.setTop (mkF m 77 #[.val (.int (3 : Int32)), .val (.int (29 : Int32))] [(.int (((3 : Int32).toUInt32 >>> ((1 : Int32) &&& 31).toUInt32).toInt32)), (.int (29 : Int32))])) (fun t k => XS.iushr X0.here hx rfl (hb hby own_d13_76) rfl k) ?_
  rw [show (((3 : Int32).toUInt32 >>> ((1 : Int32) &&& 31).toUInt32).toInt32) = (1 : Int32) from by decide]
  refine own_via (g' := s₁.setTop (mkF m 78 #[.val (.int (3 : Int32)), .val (.int (29 : Int32))] [(.int ((29 : Int32) - (1 : Int32)))])) (fun t k => XS.isub X0.here hx rfl (hb hby own_d13_77) rfl k) ?_
  rw [show ((29 : Int32) - (1 : Int32)) = (28 : Int32) from by decide]
  exact own_retI X0 hx hlk Bd.returns (hb hby own_d13_78) ⟨rfl, N0, e0⟩ (by decide) (by decide)
theorem own_pn4 : plainName "java/util/HashMap" = true := by first | (simp [plainName, overriddenIn]; done) | decide +kernel
theorem own_pd1 : parseMethodDescriptor "(I)I" = some ⟨[.int], some .int⟩ := by decide +kernel
theorem own_d12_0 : decode jdk_69_method_4_code 0 = .ok (.iconst (-1), 1) := by decide +kernel
theorem own_d12_1 : decode jdk_69_method_4_code 1 = .ok (.iload_n 0, 1) := by decide +kernel
theorem own_d12_2 : decode jdk_69_method_4_code 2 = .ok (.iconst 1, 1) := by decide +kernel
theorem own_d12_3 : decode jdk_69_method_4_code 3 = .ok (.isub, 1) := by decide +kernel
theorem own_d12_4 : decode jdk_69_method_4_code 4 = .ok (.invokestatic 34, 3) := by decide +kernel
theorem own_d12_7 : decode jdk_69_method_4_code 7 = .ok (.iushr, 1) := by decide +kernel
theorem own_d12_8 : decode jdk_69_method_4_code 8 = .ok (.istore_n 1, 1) := by decide +kernel
theorem own_d12_9 : decode jdk_69_method_4_code 9 = .ok (.iload_n 1, 1) := by decide +kernel
theorem own_d12_10 : decode jdk_69_method_4_code 10 = .ok (.ifCond .ge 7, 3) := by decide +kernel
theorem own_d12_17 : decode jdk_69_method_4_code 17 = .ok (.iload_n 1, 1) := by decide +kernel
theorem own_d12_18 : decode jdk_69_method_4_code 18 = .ok (.ldc 42, 2) := by decide +kernel
theorem own_d12_20 : decode jdk_69_method_4_code 20 = .ok (.if_icmp .lt 8, 3) := by decide +kernel
theorem own_d12_28 : decode jdk_69_method_4_code 28 = .ok (.iload_n 1, 1) := by decide +kernel
theorem own_d12_29 : decode jdk_69_method_4_code 29 = .ok (.iconst 1, 1) := by decide +kernel
theorem own_d12_30 : decode jdk_69_method_4_code 30 = .ok (.iadd, 1) := by decide +kernel
theorem own_d12_31 : decode jdk_69_method_4_code 31 = .ok (.ireturn, 1) := by decide +kernel
theorem ef_own_rm12 (m : MethodId) (p1 : Int32) : entryFrame m #[(.int p1)] 2 = mkF m 0 #[.val (.int p1), .unset] [] := by first | (simp [entryFrame, mkF, argsToLocals, Value.category]; done) | rfl
def own_rm12_Q (Z : State) (p1 : Int32)  (h0 : Heap) (n0 : Nat) (v : Option Value) (h : Heap) (L : List Loc) : Prop := v = some (.int ((16 : Int32))) ∧ Fr n0 L ∧ h = h0
set_option maxRecDepth 65536 in
set_option maxHeartbeats 40000000 in
theorem own_rm12 (l : Launch) (Z : State) (a0 : Array Value) (hw : ∀ d ∈ tables_1, d.before a0 Z = true) (ws : List Jvm.Cond) (p1 : Int32)  (h0 : Heap) (n0 : Nat) (Z0 : n0 ≤ h0.size) (hp : p1 = (16 : Int32)) :
    MetFree l (⟨"java/util/HashMap", "tableSizeFor", "(I)I"⟩ : MethodName) (head1 (Jvm.Cond.code (⟨"java/util/HashMap", "tableSizeFor", "(I)I"⟩ : MethodName) jdk_69_method_4_code 2 (some .int) :: ws) ({ frames := 1, cells := 0, slots := 0, locals := 14 } : Room)) (fun a U => a = #[(.int p1)] ∧ Z.Warmed39 U.vm ∧ U.heap = h0) (fun _ _ _ _ _ => True) (fun _ U o U' => ∃ v L, o = .returned v ∧ own_rm12_Q Z p1  h0 n0 v U'.heap L ∧ FrameEnd U o U' L ({ frames := 1, cells := 0, slots := 0, locals := 14 } : Room).cells ({ frames := 1, cells := 0, slots := 0, locals := 14 } : Room).slots) := by
  refine MetFree.of_bodySF (plainFor_of_name own_pn4) hisR ?_
  intro p e s m args below meth c s₁ Bd hml0 hP hK
  obtain ⟨rfl, hZ, hh⟩ := hP
  have hx := Bd.exec
  have hby := Bd.bytes
  have hml : c.maxLocals = 2 := hml0
  have hown : s.vm.findClass "java/util/HashMap" = some m.cls := findClass_of_methodNamed Bd.named
  have hnm := (name_of_methodNamed Bd.named Bd.method).1
  have hlk : meth.locks = false := BodyLoose.notSynchronized Bd
  have X0 : Stand p l e ({ frames := 1, cells := 0, slots := 0, locals := 14 } : Room) s m #[(.int p1)] below meth c s₁ [] 0 0 := Stand.of_body Bd
  have e0 : s₁.heap = h0 := by rw [← hh, Bd.state]; rfl
  have N0 := Fr.nil n0
  have K0 : Keep h0 h0 [] := Keep.refl h0 []
  show own_Fin p e below (own_P (own_rm12_Q Z p1  h0 n0) s ({ frames := 1, cells := 0, slots := 0, locals := 14 } : Room).cells ({ frames := 1, cells := 0, slots := 0, locals := 14 } : Room).slots) (s₁.setTop (entryFrame m #[(.int p1)] 2))
  refine own_via (g' := s₁.setTop (mkF m 0 #[.val (.int p1), .unset] [])) (fun t k => castTop (ef_own_rm12 m p1) k) ?_
  subst hp
  refine own_via (g' := s₁.setTop (mkF m 1 #[.val (.int (16 : Int32)), .unset] [(.int (-1 : Int32))])) (fun t k => XS.iconst X0.here hx rfl (hb hby own_d12_0) k) ?_
  refine own_via (g' := s₁.setTop (mkF m 2 #[.val (.int (16 : Int32)), .unset] [(.int (16 : Int32)), (.int (-1 : Int32))])) (fun t k => XS.iloadN X0.here hx rfl (hb hby own_d12_1) rfl k) ?_
  refine own_via (g' := s₁.setTop (mkF m 3 #[.val (.int (16 : Int32)), .unset] [(.int (1 : Int32)), (.int (16 : Int32)), (.int (-1 : Int32))])) (fun t k => XS.iconst X0.here hx rfl (hb hby own_d12_2) k) ?_
  refine own_via (g' := s₁.setTop (mkF m 4 #[.val (.int (16 : Int32)), .unset] [(.int ((16 : Int32) - (1 : Int32))), (.int (-1 : Int32))])) (fun t k => XS.isub X0.here hx rfl (hb hby own_d12_3) rfl k) ?_
  rw [show ((16 : Int32) - (1 : Int32)) = (15 : Int32) from by decide]
  obtain ⟨v101, _, ⟨T101, L101, k101, n101⟩, -, X101, ⟨Lc101, hQ101, l101, y101, z101⟩, st101⟩ := Jvm.LawKit.callS X0 hx (y := (⟨"java/lang/Integer", "numberOfLeadingZeros", "(I)I"⟩ : MethodName)) hown (mvT hZ (hw _ (List.mem_of_getElem? (i := 79) rfl))) (mvT hZ (hw _ (List.mem_of_getElem? (i := 80) rfl))) (mvT hZ (hw _ (List.mem_of_getElem? (i := 81) rfl))) (mvT hZ (hw _ (List.mem_of_getElem? (i := 82) rfl))) (by decide) (backOf (W := 1) (own_rm13 l Z a0 hw [] (15 : Int32) h0 n0 (Nat.le_trans Z0 K0.1) rfl) hZ (hw _ (List.mem_of_getElem? (i := 82) rfl)) (hw _ (List.mem_of_getElem? (i := 81) rfl)) (by decide) (by decide)) (g := (mkF m 4 #[.val (.int (16 : Int32)), .unset] [(.int (15 : Int32)), (.int (-1 : Int32))])) rfl (by rw [hml]; rfl) (argsL := [(.int (15 : Int32))]) (rest := [(.int (-1 : Int32))]) (lenOf own_pd1 rfl) rfl (by show 2 * 0 + _ ≤ _; exact Nat.le_of_eq rfl) (hb hby own_d12_4) (fun _ _ => ⟨rfl, e0, (by decide : 0 + 0 ≤ _), (by decide : 0 + 0 ≤ _)⟩)
  dsimp only [Pt.U, Pt.locs, Pt.cells, Pt.slots] at X101 l101 y101 z101 st101 hQ101
  subst l101 y101 z101
  obtain ⟨rfl, N101q, e101⟩ := hQ101
  have N101 := Fr.app N0 N101q
  refine own_via (g' := T101.setTop (mkF m 7 #[.val (.int (16 : Int32)), .unset] [(.int (28 : Int32)), (.int (-1 : Int32))])) (fun t k => st101 _ k) ?_
  refine own_via (g' := T101.setTop (mkF m 8 #[.val (.int (16 : Int32)), .unset] [(.int (((-1 : Int32).toUInt32 >>> ((28 : Int32) &&& 31).toUInt32).toInt32))])) (fun t k => XS.iushr X101.here hx rfl (hb hby own_d12_7) rfl k) ?_
  rw [show (((-1 : Int32).toUInt32 >>> ((28 : Int32) &&& 31).toUInt32).toInt32) = (15 : Int32) from by decide]
  refine own_via (g' := T101.setTop (mkF m 9 #[.val (.int (16 : Int32)), .val (.int (15 : Int32))] [])) (fun t k => XS.istoreN X101.here hx rfl (hb hby own_d12_8) rfl (l' := #[.val (.int (16 : Int32)), .val (.int (15 : Int32))]) rfl k) ?_
  refine own_via (g' := T101.setTop (mkF m 10 #[.val (.int (16 : Int32)), .val (.int (15 : Int32))] [(.int (15 : Int32))])) (fun t k => XS.iloadN X101.here hx rfl (hb hby own_d12_9) rfl k) ?_
  refine own_via (g' := T101.setTop (mkF m 17 #[.val (.int (16 : Int32)), .val (.int (15 : Int32))] [])) (fun t k => XS.ifYes X101.here hx rfl (pc0 := 10) (pc' := 17) rfl (hb hby own_d12_10) rfl (XT.i0_ge_t (by decide)) (by decide) (by decide) k) ?_
  refine own_via (g' := T101.setTop (mkF m 18 #[.val (.int (16 : Int32)), .val (.int (15 : Int32))] [(.int (15 : Int32))])) (fun t k => XS.iloadN X101.here hx rfl (hb hby own_d12_17) rfl k) ?_
  refine own_via (g' := T101.setTop (mkF m 20 #[.val (.int (16 : Int32)), .val (.int (15 : Int32))] [(.int (1073741824 : Int32)), (.int (15 : Int32))])) (fun t k => X101.ldcInt hx hown (mvT hZ (hw _ (List.mem_of_getElem? (i := 70) rfl))) (g := (mkF m 18 #[.val (.int (16 : Int32)), .val (.int (15 : Int32))] [(.int (15 : Int32))])) rfl (hb hby own_d12_18) _ k) ?_
  refine own_via (g' := T101.setTop (mkF m 28 #[.val (.int (16 : Int32)), .val (.int (15 : Int32))] [])) (fun t k => XS.icmpYes X101.here hx rfl (pc0 := 20) (pc' := 28) rfl (hb hby own_d12_20) rfl (XT.ii_lt_t (by decide)) (by decide) (by decide) k) ?_
  refine own_via (g' := T101.setTop (mkF m 29 #[.val (.int (16 : Int32)), .val (.int (15 : Int32))] [(.int (15 : Int32))])) (fun t k => XS.iloadN X101.here hx rfl (hb hby own_d12_28) rfl k) ?_
  refine own_via (g' := T101.setTop (mkF m 30 #[.val (.int (16 : Int32)), .val (.int (15 : Int32))] [(.int (1 : Int32)), (.int (15 : Int32))])) (fun t k => XS.iconst X101.here hx rfl (hb hby own_d12_29) k) ?_
  refine own_via (g' := T101.setTop (mkF m 31 #[.val (.int (16 : Int32)), .val (.int (15 : Int32))] [(.int ((15 : Int32) + (1 : Int32)))])) (fun t k => XS.iadd X101.here hx rfl (hb hby own_d12_30) rfl k) ?_
  rw [show ((15 : Int32) + (1 : Int32)) = (16 : Int32) from by decide]
  exact own_retI X101 hx hlk Bd.returns (hb hby own_d12_31) ⟨rfl, N101, e101⟩ (by decide) (by decide)
theorem own_pn5 : plainFor (⟨"java/lang/Float", "isNaN", "(F)Z"⟩ : MethodName) = true := by decide +kernel
theorem own_d11_0 : decode jdk_118_method_6_code 0 = .ok (.fload_n 0, 1) := by decide +kernel
theorem own_d11_1 : decode jdk_118_method_6_code 1 = .ok (.fload_n 0, 1) := by decide +kernel
theorem own_d11_2 : decode jdk_118_method_6_code 2 = .ok (.fcmp .l, 1) := by decide +kernel
theorem own_d11_3 : decode jdk_118_method_6_code 3 = .ok (.ifCond .eq 7, 3) := by decide +kernel
theorem own_d11_10 : decode jdk_118_method_6_code 10 = .ok (.iconst 0, 1) := by decide +kernel
theorem own_d11_11 : decode jdk_118_method_6_code 11 = .ok (.ireturn, 1) := by decide +kernel
theorem ef_own_rm11 (m : MethodId) (f1 : UInt32) : entryFrame m #[(.float f1)] 1 = mkF m 0 #[.val (.float f1)] [] := by first | (simp [entryFrame, mkF, argsToLocals, Value.category]; done) | rfl
def own_rm11_Q (Z : State) (f1 : UInt32)  (h0 : Heap) (n0 : Nat) (v : Option Value) (h : Heap) (L : List Loc) : Prop := v = some (.int ((0 : Int32))) ∧ Fr n0 L ∧ h = h0
set_option maxRecDepth 65536 in
set_option maxHeartbeats 40000000 in
theorem own_rm11 (l : Launch) (Z : State) (a0 : Array Value) (hw : ∀ d ∈ tables_1, d.before a0 Z = true) (ws : List Jvm.Cond) (f1 : UInt32)  (h0 : Heap) (n0 : Nat) (Z0 : n0 ≤ h0.size) (hf : f1 = (1061158912 : UInt32)) :
    MetFree l (⟨"java/lang/Float", "isNaN", "(F)Z"⟩ : MethodName) (head1 (Jvm.Cond.code (⟨"java/lang/Float", "isNaN", "(F)Z"⟩ : MethodName) jdk_118_method_6_code 1 (some .boolean) :: ws) ({ frames := 0, cells := 0, slots := 0, locals := 0 } : Room)) (fun a U => a = #[(.float f1)] ∧ Z.Warmed39 U.vm ∧ U.heap = h0) (fun _ _ _ _ _ => True) (fun _ U o U' => ∃ v L, o = .returned v ∧ own_rm11_Q Z f1  h0 n0 v U'.heap L ∧ FrameEnd U o U' L ({ frames := 0, cells := 0, slots := 0, locals := 0 } : Room).cells ({ frames := 0, cells := 0, slots := 0, locals := 0 } : Room).slots) := by
  refine MetFree.of_bodySF own_pn5 hisR ?_
  intro p e s m args below meth c s₁ Bd hml0 hP hK
  obtain ⟨rfl, hZ, hh⟩ := hP
  have hx := Bd.exec
  have hby := Bd.bytes
  have hml : c.maxLocals = 1 := hml0
  have hown : s.vm.findClass "java/lang/Float" = some m.cls := findClass_of_methodNamed Bd.named
  have hnm := (name_of_methodNamed Bd.named Bd.method).1
  have hlk : meth.locks = false := BodyLoose.notSynchronized Bd
  have X0 : Stand p l e ({ frames := 0, cells := 0, slots := 0, locals := 0 } : Room) s m #[(.float f1)] below meth c s₁ [] 0 0 := Stand.of_body Bd
  have e0 : s₁.heap = h0 := by rw [← hh, Bd.state]; rfl
  have N0 := Fr.nil n0
  have K0 : Keep h0 h0 [] := Keep.refl h0 []
  show own_Fin p e below (own_P (own_rm11_Q Z f1  h0 n0) s ({ frames := 0, cells := 0, slots := 0, locals := 0 } : Room).cells ({ frames := 0, cells := 0, slots := 0, locals := 0 } : Room).slots) (s₁.setTop (entryFrame m #[(.float f1)] 1))
  refine own_via (g' := s₁.setTop (mkF m 0 #[.val (.float f1)] [])) (fun t k => castTop (ef_own_rm11 m f1) k) ?_
  subst hf
  refine own_via (g' := s₁.setTop (mkF m 1 #[.val (.float (1061158912 : UInt32))] [(.float (1061158912 : UInt32))])) (fun t k => XS.floadN X0.here hx rfl (hb hby own_d11_0) rfl k) ?_
  refine own_via (g' := s₁.setTop (mkF m 2 #[.val (.float (1061158912 : UInt32))] [(.float (1061158912 : UInt32)), (.float (1061158912 : UInt32))])) (fun t k => XS.floadN X0.here hx rfl (hb hby own_d11_1) rfl k) ?_
  refine own_via (g' := s₁.setTop (mkF m 3 #[.val (.float (1061158912 : UInt32))] [(.int (0 : Int32))])) (fun t k => XS.fcmpS X0.here hx rfl (hb hby own_d11_2) rfl (v := (0 : Int32)) own_f0 k) ?_
  refine own_via (g' := s₁.setTop (mkF m 10 #[.val (.float (1061158912 : UInt32))] [])) (fun t k => XS.ifYes X0.here hx rfl (pc0 := 3) (pc' := 10) rfl (hb hby own_d11_3) rfl (XT.i0_eq_t (by decide)) (by decide) (by decide) k) ?_
  refine own_via (g' := s₁.setTop (mkF m 11 #[.val (.float (1061158912 : UInt32))] [(.int (0 : Int32))])) (fun t k => XS.iconst X0.here hx rfl (hb hby own_d11_10) k) ?_
  exact own_retB X0 hx hlk (t := .boolean) Bd.returns (by simp) (hb hby own_d11_11) ⟨rfl, N0, e0⟩ (by decide) (by decide)
theorem own_d3_0 : decode jdk_69_method_7_code 0 = .ok (.aload_n 0, 1) := by decide +kernel
theorem own_d3_1 : decode jdk_69_method_7_code 1 = .ok (.invokespecial 43, 3) := by decide +kernel
theorem own_d3_4 : decode jdk_69_method_7_code 4 = .ok (.aload_n 0, 1) := by decide +kernel
theorem own_d3_5 : decode jdk_69_method_7_code 5 = .ok (.ldc 92, 2) := by decide +kernel
theorem own_d3_7 : decode jdk_69_method_7_code 7 = .ok (.putfield 81, 3) := by decide +kernel
theorem own_d3_10 : decode jdk_69_method_7_code 10 = .ok (.return_, 1) := by decide +kernel
theorem ef_own_rm3 (m : MethodId) (a1 : Addr) : entryFrame m #[(.ref a1)] 1 = mkF m 0 #[.val (.ref a1)] [] := by first | (simp [entryFrame, mkF, argsToLocals, Value.category]; done) | rfl
def own_rm3_Q (Z : State) (a1 : Addr)  (h0 : Heap) (n0 : Nat) (v : Option Value) (h : Heap) (L : List Loc) : Prop := v = none ∧ Fr n0 L ∧ Keep h0 h [a1] ∧ Exa Z h a1 "java/util/HashMap" ∧ Fld Z h a1 "java/util/HashMap" "loadFactor" "F" (.float (1061158912 : UInt32))
set_option maxRecDepth 65536 in
set_option maxHeartbeats 40000000 in
theorem own_rm3 (l : Launch) (Z : State) (a0 : Array Value) (hw : ∀ d ∈ tables_1, d.before a0 Z = true) (ws : List Jvm.Cond) (a1 : Addr)  (h0 : Heap) (n0 : Nat) (Z0 : n0 ≤ h0.size) (E_a1 : Exa Z h0 a1 "java/util/HashMap") (Fi_0 : Fld Z h0 a1 "java/util/HashMap" "loadFactor" "F" (.float (0 : UInt32))) (g_a1 : n0 ≤ a1) :
    MetFree l (⟨"java/util/HashMap", "<init>", "()V"⟩ : MethodName) (head1 (Jvm.Cond.code (⟨"java/util/HashMap", "<init>", "()V"⟩ : MethodName) jdk_69_method_7_code 1 none :: ws) ({ frames := 2, cells := 0, slots := 0, locals := 24 } : Room)) (fun a U => a = #[(.ref a1)] ∧ Z.Warmed39 U.vm ∧ U.heap = h0) (fun _ _ _ _ _ => True) (fun _ U o U' => ∃ v L, o = .returned v ∧ own_rm3_Q Z a1  h0 n0 v U'.heap L ∧ FrameEnd U o U' L ({ frames := 2, cells := 0, slots := 0, locals := 24 } : Room).cells ({ frames := 2, cells := 0, slots := 0, locals := 24 } : Room).slots) := by
  refine MetFree.of_bodySF (plainFor_of_name own_pn4) hisR ?_
  intro p e s m args below meth c s₁ Bd hml0 hP hK
  obtain ⟨rfl, hZ, hh⟩ := hP
  have hx := Bd.exec
  have hby := Bd.bytes
  have hml : c.maxLocals = 1 := hml0
  have hown : s.vm.findClass "java/util/HashMap" = some m.cls := findClass_of_methodNamed Bd.named
  have hnm := (name_of_methodNamed Bd.named Bd.method).1
  have hlk : meth.locks = false := BodyLoose.notSynchronized Bd
  have X0 : Stand p l e ({ frames := 2, cells := 0, slots := 0, locals := 24 } : Room) s m #[(.ref a1)] below meth c s₁ [] 0 0 := Stand.of_body Bd
  have e0 : s₁.heap = h0 := by rw [← hh, Bd.state]; rfl
  have N0 := Fr.nil n0
  have K0 : Keep h0 h0 [a1] := Keep.refl h0 [a1]
  show own_Fin p e below (own_P (own_rm3_Q Z a1  h0 n0) s ({ frames := 2, cells := 0, slots := 0, locals := 24 } : Room).cells ({ frames := 2, cells := 0, slots := 0, locals := 24 } : Room).slots) (s₁.setTop (entryFrame m #[(.ref a1)] 1))
  refine own_via (g' := s₁.setTop (mkF m 0 #[.val (.ref a1)] [])) (fun t k => castTop (ef_own_rm3 m a1) k) ?_
  refine own_via (g' := s₁.setTop (mkF m 1 #[.val (.ref a1)] [(.ref a1)])) (fun t k => XS.aloadN X0.here hx rfl (hb hby own_d3_0) rfl (rfl) k) ?_
  obtain ⟨v101, _, ⟨T101, L101, k101, n101⟩, -, X101, ⟨Lc101, hQ101, l101, y101, z101⟩, st101⟩ := X0.specialBack hx (y := (⟨"java/util/AbstractMap", "<init>", "()V"⟩ : MethodName)) rfl hown (mvT hZ (hw _ (List.mem_of_getElem? (i := 15) rfl))) (mvT hZ (hw _ (List.mem_of_getElem? (i := 16) rfl))) (mvT hZ (hw _ (List.mem_of_getElem? (i := 20) rfl))) (by decide) (backOf (W := 0) (own_rm4 l Z a0 hw [] a1 h0 n0 (Nat.le_trans Z0 K0.1) ) hZ (hw _ (List.mem_of_getElem? (i := 20) rfl)) (hw _ (List.mem_of_getElem? (i := 19) rfl)) (by decide) (by decide)) (g := (mkF m 1 #[.val (.ref a1)] [(.ref a1)])) rfl (by rw [hml]; rfl) (Steps.refl _) (a := a1) (argsL := []) (rest := []) (lenOf own_pd0 rfl) rfl (by show 2 * 0 + _ ≤ _; exact Nat.le_of_eq rfl) (hb hby own_d3_1) (fun _ _ => ⟨rfl, e0, (by decide : 0 + 0 ≤ _), (by decide : 0 + 0 ≤ _)⟩)
  dsimp only [Pt.U, Pt.locs, Pt.cells, Pt.slots] at X101 l101 y101 z101 st101 hQ101
  subst l101 y101 z101
  obtain ⟨rfl, N101q, e101⟩ := hQ101
  have N101 := Fr.app N0 N101q
  refine own_via (g' := T101.setTop (mkF m 4 #[.val (.ref a1)] [])) (fun t k => st101.trans k) ?_
  refine own_via (g' := T101.setTop (mkF m 5 #[.val (.ref a1)] [(.ref a1)])) (fun t k => XS.aloadN X101.here hx rfl (hb hby own_d3_4) rfl (rfl) k) ?_
  refine own_via (g' := T101.setTop (mkF m 7 #[.val (.ref a1)] [(.float (1061158912 : UInt32)), (.ref a1)])) (fun t k => X101.ldcFloatC hx hown (mvT hZ (hw _ (List.mem_of_getElem? (i := 22) rfl))) (g := (mkF m 5 #[.val (.ref a1)] [(.ref a1)])) rfl (hb hby own_d3_5) _ k) ?_
  obtain ⟨T102, h102, X102, e102, W102, st102⟩ := putF X101 hx hZ hown (host := "") (Or.inl (hw _ (List.mem_of_getElem? (i := 23) rfl))) Via.refl e101 Fi_0 E_a1 (Or.inr ⟨(hw _ (List.mem_of_getElem? (i := 24) rfl)), rfl, hnm⟩) (hw _ (List.mem_of_getElem? (i := 10) rfl)) (ty := .float) (by decide) rfl rfl (g := (mkF m 7 #[.val (.ref a1)] [(.float (1061158912 : UInt32)), (.ref a1)])) rfl rfl (hb hby own_d3_7)
  have F102 : Fld Z h102 a1 "java/util/HashMap" "loadFactor" "F" (.float (1061158912 : UInt32)) := Fi_0.same W102
  have Kc102 : Keep h0 h102 [a1] := K0.wr W102 (Or.inl (List.mem_of_getElem? (i := 0) rfl))
  have N102 := Fr.snoc X102 N101 g_a1
  refine own_via (g' := T102.setTop (mkF m 10 #[.val (.ref a1)] [])) (fun t k => st102 _ k) ?_
  have eE : T102.heap = h102 := e102
  exact own_retV X102 hx hlk Bd.returns (hb hby own_d3_10) ⟨rfl, N102, (by rw [eE]; exact Kc102), (by rw [eE]; exact (E_a1.wr W102)), (by rw [eE]; exact F102)⟩ (by decide) (by decide)
theorem own_pd2 : parseMethodDescriptor "(F)Z" = some ⟨[.float], some .boolean⟩ := by decide +kernel
theorem own_d10_0 : decode jdk_69_method_5_code 0 = .ok (.aload_n 0, 1) := by decide +kernel
theorem own_d10_1 : decode jdk_69_method_5_code 1 = .ok (.invokespecial 43, 3) := by decide +kernel
theorem own_d10_4 : decode jdk_69_method_5_code 4 = .ok (.iload_n 1, 1) := by decide +kernel
theorem own_d10_5 : decode jdk_69_method_5_code 5 = .ok (.ifCond .ge 30, 3) := by decide +kernel
theorem own_d10_35 : decode jdk_69_method_5_code 35 = .ok (.iload_n 1, 1) := by decide +kernel
theorem own_d10_36 : decode jdk_69_method_5_code 36 = .ok (.ldc 42, 2) := by decide +kernel
theorem own_d10_38 : decode jdk_69_method_5_code 38 = .ok (.if_icmp .le 6, 3) := by decide +kernel
theorem own_d10_44 : decode jdk_69_method_5_code 44 = .ok (.fload_n 2, 1) := by decide +kernel
theorem own_d10_45 : decode jdk_69_method_5_code 45 = .ok (.fconst 0, 1) := by decide +kernel
theorem own_d10_46 : decode jdk_69_method_5_code 46 = .ok (.fcmp .g, 1) := by decide +kernel
theorem own_d10_47 : decode jdk_69_method_5_code 47 = .ok (.ifCond .le 10, 3) := by decide +kernel
theorem own_d10_50 : decode jdk_69_method_5_code 50 = .ok (.fload_n 2, 1) := by decide +kernel
theorem own_d10_51 : decode jdk_69_method_5_code 51 = .ok (.invokestatic 70, 3) := by decide +kernel
theorem own_d10_54 : decode jdk_69_method_5_code 54 = .ok (.ifCond .eq 30, 3) := by decide +kernel
theorem own_d10_84 : decode jdk_69_method_5_code 84 = .ok (.aload_n 0, 1) := by decide +kernel
theorem own_d10_85 : decode jdk_69_method_5_code 85 = .ok (.fload_n 2, 1) := by decide +kernel
theorem own_d10_86 : decode jdk_69_method_5_code 86 = .ok (.putfield 81, 3) := by decide +kernel
theorem own_d10_89 : decode jdk_69_method_5_code 89 = .ok (.aload_n 0, 1) := by decide +kernel
theorem own_d10_90 : decode jdk_69_method_5_code 90 = .ok (.iload_n 1, 1) := by decide +kernel
theorem own_d10_91 : decode jdk_69_method_5_code 91 = .ok (.invokestatic 85, 3) := by decide +kernel
theorem own_d10_94 : decode jdk_69_method_5_code 94 = .ok (.putfield 88, 3) := by decide +kernel
theorem own_d10_97 : decode jdk_69_method_5_code 97 = .ok (.return_, 1) := by decide +kernel
theorem ef_own_rm10 (m : MethodId) (a1 : Addr) (p1 : Int32) (f1 : UInt32) : entryFrame m #[(.ref a1), (.int p1), (.float f1)] 3 = mkF m 0 #[.val (.ref a1), .val (.int p1), .val (.float f1)] [] := by first | (simp [entryFrame, mkF, argsToLocals, Value.category]; done) | rfl
def own_rm10_Q (Z : State) (a1 : Addr) (p1 : Int32) (f1 : UInt32)  (h0 : Heap) (n0 : Nat) (v : Option Value) (h : Heap) (L : List Loc) : Prop := v = none ∧ Fr n0 L ∧ Keep h0 h [a1] ∧ Exa Z h a1 "java/util/LinkedHashMap" ∧ Fld Z h a1 "java/util/HashMap" "loadFactor" "F" (.float (1061158912 : UInt32)) ∧ Fld Z h a1 "java/util/HashMap" "threshold" "I" (.int (16 : Int32)) ∧ Fld Z h a1 "java/util/LinkedHashMap" "putMode" "I" (.int (0 : Int32)) ∧ Fld Z h a1 "java/util/LinkedHashMap" "accessOrder" "Z" (.int (0 : Int32))
set_option maxRecDepth 65536 in
set_option maxHeartbeats 40000000 in
theorem own_rm10 (l : Launch) (Z : State) (a0 : Array Value) (hw : ∀ d ∈ tables_1, d.before a0 Z = true) (ws : List Jvm.Cond) (a1 : Addr) (p1 : Int32) (f1 : UInt32)  (h0 : Heap) (n0 : Nat) (Z0 : n0 ≤ h0.size) (E_a1 : Exa Z h0 a1 "java/util/LinkedHashMap") (Fi_0 : Fld Z h0 a1 "java/util/HashMap" "loadFactor" "F" (.float (0 : UInt32))) (Fi_1 : Fld Z h0 a1 "java/util/HashMap" "threshold" "I" (.int (0 : Int32))) (Fi_2 : Fld Z h0 a1 "java/util/LinkedHashMap" "putMode" "I" (.int (0 : Int32))) (Fi_3 : Fld Z h0 a1 "java/util/LinkedHashMap" "accessOrder" "Z" (.int (0 : Int32))) (g_a1 : n0 ≤ a1) (hp : p1 = (16 : Int32)) (hf : f1 = (1061158912 : UInt32)) :
    MetFree l (⟨"java/util/HashMap", "<init>", "(IF)V"⟩ : MethodName) (head1 (Jvm.Cond.code (⟨"java/util/HashMap", "<init>", "(IF)V"⟩ : MethodName) jdk_69_method_5_code 3 none :: ws) ({ frames := 2, cells := 0, slots := 0, locals := 28 } : Room)) (fun a U => a = #[(.ref a1), (.int p1), (.float f1)] ∧ Z.Warmed39 U.vm ∧ U.heap = h0) (fun _ _ _ _ _ => True) (fun _ U o U' => ∃ v L, o = .returned v ∧ own_rm10_Q Z a1 p1 f1  h0 n0 v U'.heap L ∧ FrameEnd U o U' L ({ frames := 2, cells := 0, slots := 0, locals := 28 } : Room).cells ({ frames := 2, cells := 0, slots := 0, locals := 28 } : Room).slots) := by
  refine MetFree.of_bodySF (plainFor_of_name own_pn4) hisR ?_
  intro p e s m args below meth c s₁ Bd hml0 hP hK
  obtain ⟨rfl, hZ, hh⟩ := hP
  have hx := Bd.exec
  have hby := Bd.bytes
  have hml : c.maxLocals = 3 := hml0
  have hown : s.vm.findClass "java/util/HashMap" = some m.cls := findClass_of_methodNamed Bd.named
  have hnm := (name_of_methodNamed Bd.named Bd.method).1
  have hlk : meth.locks = false := BodyLoose.notSynchronized Bd
  have X0 : Stand p l e ({ frames := 2, cells := 0, slots := 0, locals := 28 } : Room) s m #[(.ref a1), (.int p1), (.float f1)] below meth c s₁ [] 0 0 := Stand.of_body Bd
  have e0 : s₁.heap = h0 := by rw [← hh, Bd.state]; rfl
  have N0 := Fr.nil n0
  have K0 : Keep h0 h0 [a1] := Keep.refl h0 [a1]
  show own_Fin p e below (own_P (own_rm10_Q Z a1 p1 f1  h0 n0) s ({ frames := 2, cells := 0, slots := 0, locals := 28 } : Room).cells ({ frames := 2, cells := 0, slots := 0, locals := 28 } : Room).slots) (s₁.setTop (entryFrame m #[(.ref a1), (.int p1), (.float f1)] 3))
  refine own_via (g' := s₁.setTop (mkF m 0 #[.val (.ref a1), .val (.int p1), .val (.float f1)] [])) (fun t k => castTop (ef_own_rm10 m a1 p1 f1) k) ?_
  subst hp
  subst hf
  refine own_via (g' := s₁.setTop (mkF m 1 #[.val (.ref a1), .val (.int (16 : Int32)), .val (.float (1061158912 : UInt32))] [(.ref a1)])) (fun t k => XS.aloadN X0.here hx rfl (hb hby own_d10_0) rfl (rfl) k) ?_
  obtain ⟨v101, _, ⟨T101, L101, k101, n101⟩, -, X101, ⟨Lc101, hQ101, l101, y101, z101⟩, st101⟩ := X0.specialBack hx (y := (⟨"java/util/AbstractMap", "<init>", "()V"⟩ : MethodName)) rfl hown (mvT hZ (hw _ (List.mem_of_getElem? (i := 15) rfl))) (mvT hZ (hw _ (List.mem_of_getElem? (i := 16) rfl))) (mvT hZ (hw _ (List.mem_of_getElem? (i := 20) rfl))) (by decide) (backOf (W := 0) (own_rm4 l Z a0 hw [] a1 h0 n0 (Nat.le_trans Z0 K0.1) ) hZ (hw _ (List.mem_of_getElem? (i := 20) rfl)) (hw _ (List.mem_of_getElem? (i := 19) rfl)) (by decide) (by decide)) (g := (mkF m 1 #[.val (.ref a1), .val (.int (16 : Int32)), .val (.float (1061158912 : UInt32))] [(.ref a1)])) rfl (by rw [hml]; rfl) (Steps.refl _) (a := a1) (argsL := []) (rest := []) (lenOf own_pd0 rfl) rfl (by show 2 * 0 + _ ≤ _; exact Nat.le_of_eq rfl) (hb hby own_d10_1) (fun _ _ => ⟨rfl, e0, (by decide : 0 + 0 ≤ _), (by decide : 0 + 0 ≤ _)⟩)
  dsimp only [Pt.U, Pt.locs, Pt.cells, Pt.slots] at X101 l101 y101 z101 st101 hQ101
  subst l101 y101 z101
  obtain ⟨rfl, N101q, e101⟩ := hQ101
  have N101 := Fr.app N0 N101q
  refine own_via (g' := T101.setTop (mkF m 4 #[.val (.ref a1), .val (.int (16 : Int32)), .val (.float (1061158912 : UInt32))] [])) (fun t k => st101.trans k) ?_
  refine own_via (g' := T101.setTop (mkF m 5 #[.val (.ref a1), .val (.int (16 : Int32)), .val (.float (1061158912 : UInt32))] [(.int (16 : Int32))])) (fun t k => XS.iloadN X101.here hx rfl (hb hby own_d10_4) rfl k) ?_
  refine own_via (g' := T101.setTop (mkF m 35 #[.val (.ref a1), .val (.int (16 : Int32)), .val (.float (1061158912 : UInt32))] [])) (fun t k => XS.ifYes X101.here hx rfl (pc0 := 5) (pc' := 35) rfl (hb hby own_d10_5) rfl (XT.i0_ge_t (by decide)) (by decide) (by decide) k) ?_
  refine own_via (g' := T101.setTop (mkF m 36 #[.val (.ref a1), .val (.int (16 : Int32)), .val (.float (1061158912 : UInt32))] [(.int (16 : Int32))])) (fun t k => XS.iloadN X101.here hx rfl (hb hby own_d10_35) rfl k) ?_
  refine own_via (g' := T101.setTop (mkF m 38 #[.val (.ref a1), .val (.int (16 : Int32)), .val (.float (1061158912 : UInt32))] [(.int (1073741824 : Int32)), (.int (16 : Int32))])) (fun t k => X101.ldcInt hx hown (mvT hZ (hw _ (List.mem_of_getElem? (i := 70) rfl))) (g := (mkF m 36 #[.val (.ref a1), .val (.int (16 : Int32)), .val (.float (1061158912 : UInt32))] [(.int (16 : Int32))])) rfl (hb hby own_d10_36) _ k) ?_
  refine own_via (g' := T101.setTop (mkF m 44 #[.val (.ref a1), .val (.int (16 : Int32)), .val (.float (1061158912 : UInt32))] [])) (fun t k => XS.icmpYes X101.here hx rfl (pc0 := 38) (pc' := 44) rfl (hb hby own_d10_38) rfl (XT.ii_le_t (by decide)) (by decide) (by decide) k) ?_
  refine own_via (g' := T101.setTop (mkF m 45 #[.val (.ref a1), .val (.int (16 : Int32)), .val (.float (1061158912 : UInt32))] [(.float (1061158912 : UInt32))])) (fun t k => XS.floadN X101.here hx rfl (hb hby own_d10_44) rfl k) ?_
  refine own_via (g' := T101.setTop (mkF m 46 #[.val (.ref a1), .val (.int (16 : Int32)), .val (.float (1061158912 : UInt32))] [(.float (0 : UInt32)), (.float (1061158912 : UInt32))])) (fun t k => XS.fconst0 X101.here hx rfl (hb hby own_d10_45) (v := (0 : UInt32)) (by decide +kernel) k) ?_
  refine own_via (g' := T101.setTop (mkF m 47 #[.val (.ref a1), .val (.int (16 : Int32)), .val (.float (1061158912 : UInt32))] [(.int (1 : Int32))])) (fun t k => XS.fcmpS X101.here hx rfl (hb hby own_d10_46) rfl (v := (1 : Int32)) own_f1 k) ?_
  refine own_via (g' := T101.setTop (mkF m 50 #[.val (.ref a1), .val (.int (16 : Int32)), .val (.float (1061158912 : UInt32))] [])) (fun t k => XS.ifNo X101.here hx rfl (hb hby own_d10_47) rfl (XT.i0_le_f (by decide)) k) ?_
  refine own_via (g' := T101.setTop (mkF m 51 #[.val (.ref a1), .val (.int (16 : Int32)), .val (.float (1061158912 : UInt32))] [(.float (1061158912 : UInt32))])) (fun t k => XS.floadN X101.here hx rfl (hb hby own_d10_50) rfl k) ?_
  obtain ⟨v102, _, ⟨T102, L102, k102, n102⟩, -, X102, ⟨Lc102, hQ102, l102, y102, z102⟩, st102⟩ := Jvm.LawKit.callS X101 hx (y := (⟨"java/lang/Float", "isNaN", "(F)Z"⟩ : MethodName)) hown (mvT hZ (hw _ (List.mem_of_getElem? (i := 71) rfl))) (mvT hZ (hw _ (List.mem_of_getElem? (i := 72) rfl))) (mvT hZ (hw _ (List.mem_of_getElem? (i := 73) rfl))) (mvT hZ (hw _ (List.mem_of_getElem? (i := 74) rfl))) (by decide) (backOf (W := 0) (own_rm11 l Z a0 hw [] (1061158912 : UInt32) h0 n0 (Nat.le_trans Z0 K0.1) rfl) hZ (hw _ (List.mem_of_getElem? (i := 74) rfl)) (hw _ (List.mem_of_getElem? (i := 73) rfl)) (by decide) (by decide)) (g := (mkF m 51 #[.val (.ref a1), .val (.int (16 : Int32)), .val (.float (1061158912 : UInt32))] [(.float (1061158912 : UInt32))])) rfl (by rw [hml]; rfl) (argsL := [(.float (1061158912 : UInt32))]) (rest := []) (lenOf own_pd2 rfl) rfl (by show 2 * 0 + _ ≤ _; exact Nat.le_of_eq rfl) (hb hby own_d10_51) (fun _ _ => ⟨rfl, e101, (by decide : 0 + 0 ≤ _), (by decide : 0 + 0 ≤ _)⟩)
  dsimp only [Pt.U, Pt.locs, Pt.cells, Pt.slots] at X102 l102 y102 z102 st102 hQ102
  subst l102 y102 z102
  obtain ⟨rfl, N102q, e102⟩ := hQ102
  have N102 := Fr.app N101 N102q
  refine own_via (g' := T102.setTop (mkF m 54 #[.val (.ref a1), .val (.int (16 : Int32)), .val (.float (1061158912 : UInt32))] [(.int (0 : Int32))])) (fun t k => st102 _ k) ?_
  refine own_via (g' := T102.setTop (mkF m 84 #[.val (.ref a1), .val (.int (16 : Int32)), .val (.float (1061158912 : UInt32))] [])) (fun t k => XS.ifYes X102.here hx rfl (pc0 := 54) (pc' := 84) rfl (hb hby own_d10_54) rfl (XT.i0_eq_t (by decide)) (by decide) (by decide) k) ?_
  refine own_via (g' := T102.setTop (mkF m 85 #[.val (.ref a1), .val (.int (16 : Int32)), .val (.float (1061158912 : UInt32))] [(.ref a1)])) (fun t k => XS.aloadN X102.here hx rfl (hb hby own_d10_84) rfl (rfl) k) ?_
  refine own_via (g' := T102.setTop (mkF m 86 #[.val (.ref a1), .val (.int (16 : Int32)), .val (.float (1061158912 : UInt32))] [(.float (1061158912 : UInt32)), (.ref a1)])) (fun t k => XS.floadN X102.here hx rfl (hb hby own_d10_85) rfl k) ?_
  obtain ⟨T103, h103, X103, e103, W103, st103⟩ := putF X102 hx hZ hown (host := "") (Or.inl (hw _ (List.mem_of_getElem? (i := 23) rfl))) Via.refl e102 Fi_0 E_a1 (Or.inr ⟨(hw _ (List.mem_of_getElem? (i := 75) rfl)), rfl, hnm⟩) (hw _ (List.mem_of_getElem? (i := 58) rfl)) (ty := .float) (by decide) rfl rfl (g := (mkF m 86 #[.val (.ref a1), .val (.int (16 : Int32)), .val (.float (1061158912 : UInt32))] [(.float (1061158912 : UInt32)), (.ref a1)])) rfl rfl (hb hby own_d10_86)
  have F103 : Fld Z h103 a1 "java/util/HashMap" "loadFactor" "F" (.float (1061158912 : UInt32)) := Fi_0.same W103
  have Kc103 : Keep h0 h103 [a1] := K0.wr W103 (Or.inl (List.mem_of_getElem? (i := 0) rfl))
  have N103 := Fr.snoc X103 N102 g_a1
  refine own_via (g' := T103.setTop (mkF m 89 #[.val (.ref a1), .val (.int (16 : Int32)), .val (.float (1061158912 : UInt32))] [])) (fun t k => st103 _ k) ?_
  refine own_via (g' := T103.setTop (mkF m 90 #[.val (.ref a1), .val (.int (16 : Int32)), .val (.float (1061158912 : UInt32))] [(.ref a1)])) (fun t k => XS.aloadN X103.here hx rfl (hb hby own_d10_89) rfl (rfl) k) ?_
  refine own_via (g' := T103.setTop (mkF m 91 #[.val (.ref a1), .val (.int (16 : Int32)), .val (.float (1061158912 : UInt32))] [(.int (16 : Int32)), (.ref a1)])) (fun t k => XS.iloadN X103.here hx rfl (hb hby own_d10_90) rfl k) ?_
  obtain ⟨v104, _, ⟨T104, L104, k104, n104⟩, -, X104, ⟨Lc104, hQ104, l104, y104, z104⟩, st104⟩ := Jvm.LawKit.callS X103 hx (y := (⟨"java/util/HashMap", "tableSizeFor", "(I)I"⟩ : MethodName)) hown (mvT hZ (hw _ (List.mem_of_getElem? (i := 76) rfl))) (mvT hZ (hw _ (List.mem_of_getElem? (i := 77) rfl))) (mvT hZ (hw _ (List.mem_of_getElem? (i := 11) rfl))) (mvT hZ (hw _ (List.mem_of_getElem? (i := 78) rfl))) (by decide) (backOf (W := 1) (own_rm12 l Z a0 hw [] (16 : Int32) h103 n0 (Nat.le_trans Z0 Kc103.1) rfl) hZ (hw _ (List.mem_of_getElem? (i := 78) rfl)) (hw _ (List.mem_of_getElem? (i := 11) rfl)) (by decide) (by decide)) (g := (mkF m 91 #[.val (.ref a1), .val (.int (16 : Int32)), .val (.float (1061158912 : UInt32))] [(.int (16 : Int32)), (.ref a1)])) rfl (by rw [hml]; rfl) (argsL := [(.int (16 : Int32))]) (rest := [(.ref a1)]) (lenOf own_pd1 rfl) rfl (by show 2 * 0 + _ ≤ _; exact Nat.le_of_eq rfl) (hb hby own_d10_91) (fun _ _ => ⟨rfl, e103, (by decide : 0 + 0 ≤ _), (by decide : 0 + 0 ≤ _)⟩)
  dsimp only [Pt.U, Pt.locs, Pt.cells, Pt.slots] at X104 l104 y104 z104 st104 hQ104
  subst l104 y104 z104
  obtain ⟨rfl, N104q, e104⟩ := hQ104
  have N104 := Fr.app N103 N104q
  refine own_via (g' := T104.setTop (mkF m 94 #[.val (.ref a1), .val (.int (16 : Int32)), .val (.float (1061158912 : UInt32))] [(.int (16 : Int32)), (.ref a1)])) (fun t k => st104 _ k) ?_
  obtain ⟨T105, h105, X105, e105, W105, st105⟩ := putF X104 hx hZ hown (host := "") (Or.inl (hw _ (List.mem_of_getElem? (i := 84) rfl))) Via.refl e104 (Fi_1.other W103 (Or.inr (slot_ne (Or.inl (hw _ (List.mem_of_getElem? (i := 85) rfl))) (Or.inr (hw _ (List.mem_of_getElem? (i := 75) rfl))) (by decide) (t := .int) (t' := .float) (by decide) (by decide)))) (E_a1.wr W103) (Or.inl (hw _ (List.mem_of_getElem? (i := 85) rfl))) (hw _ (List.mem_of_getElem? (i := 58) rfl)) (ty := .int) (by decide) rfl rfl (g := (mkF m 94 #[.val (.ref a1), .val (.int (16 : Int32)), .val (.float (1061158912 : UInt32))] [(.int (16 : Int32)), (.ref a1)])) rfl rfl (hb hby own_d10_94)
  have F105 : Fld Z h105 a1 "java/util/HashMap" "threshold" "I" (.int (16 : Int32)) := (Fi_1.other W103 (Or.inr (slot_ne (Or.inl (hw _ (List.mem_of_getElem? (i := 85) rfl))) (Or.inr (hw _ (List.mem_of_getElem? (i := 75) rfl))) (by decide) (t := .int) (t' := .float) (by decide) (by decide)))).same W105
  have Kc105 : Keep h0 h105 [a1] := Kc103.wr W105 (Or.inl (List.mem_of_getElem? (i := 0) rfl))
  have N105 := Fr.snoc X105 N104 g_a1
  refine own_via (g' := T105.setTop (mkF m 97 #[.val (.ref a1), .val (.int (16 : Int32)), .val (.float (1061158912 : UInt32))] [])) (fun t k => st105 _ k) ?_
  have eE : T105.heap = h105 := e105
  exact own_retV X105 hx hlk Bd.returns (hb hby own_d10_97) ⟨rfl, N105, (by rw [eE]; exact Kc105), (by rw [eE]; exact ((E_a1.wr W103).wr W105)), (by rw [eE]; exact (F103.other W105 (Or.inr (slot_ne (Or.inr (hw _ (List.mem_of_getElem? (i := 75) rfl))) (Or.inl (hw _ (List.mem_of_getElem? (i := 85) rfl))) (by decide) (t := .float) (t' := .int) (by decide) (by decide))))), (by rw [eE]; exact F105), (by rw [eE]; exact ((Fi_2.other W103 (Or.inr (slot_ne (Or.inl (hw _ (List.mem_of_getElem? (i := 87) rfl))) (Or.inr (hw _ (List.mem_of_getElem? (i := 75) rfl))) (by decide) (t := .int) (t' := .float) (by decide) (by decide)))).other W105 (Or.inr (slot_ne (Or.inl (hw _ (List.mem_of_getElem? (i := 87) rfl))) (Or.inl (hw _ (List.mem_of_getElem? (i := 85) rfl))) (by decide) (t := .int) (t' := .int) (by decide) (by decide))))), (by rw [eE]; exact ((Fi_3.other W103 (Or.inr (slot_ne (Or.inr (hw _ (List.mem_of_getElem? (i := 89) rfl))) (Or.inr (hw _ (List.mem_of_getElem? (i := 75) rfl))) (by decide) (t := .boolean) (t' := .float) (by decide) (by decide)))).other W105 (Or.inr (slot_ne (Or.inr (hw _ (List.mem_of_getElem? (i := 89) rfl))) (Or.inl (hw _ (List.mem_of_getElem? (i := 85) rfl))) (by decide) (t := .boolean) (t' := .int) (by decide) (by decide)))))⟩ (by decide) (by decide)
theorem own_pn6 : plainName "java/util/LinkedHashMap" = true := by first | (simp [plainName, overriddenIn]; done) | decide +kernel
theorem own_pd3 : parseMethodDescriptor "(IF)V" = some ⟨[.int, .float], none⟩ := by decide +kernel
theorem own_d9_0 : decode jdk_94_method_14_code 0 = .ok (.aload_n 0, 1) := by decide +kernel
theorem own_d9_1 : decode jdk_94_method_14_code 1 = .ok (.iload_n 1, 1) := by decide +kernel
theorem own_d9_2 : decode jdk_94_method_14_code 2 = .ok (.fload_n 2, 1) := by decide +kernel
theorem own_d9_3 : decode jdk_94_method_14_code 3 = .ok (.invokespecial 81, 3) := by decide +kernel
theorem own_d9_6 : decode jdk_94_method_14_code 6 = .ok (.aload_n 0, 1) := by decide +kernel
theorem own_d9_7 : decode jdk_94_method_14_code 7 = .ok (.iconst 0, 1) := by decide +kernel
theorem own_d9_8 : decode jdk_94_method_14_code 8 = .ok (.putfield 1, 3) := by decide +kernel
theorem own_d9_11 : decode jdk_94_method_14_code 11 = .ok (.aload_n 0, 1) := by decide +kernel
theorem own_d9_12 : decode jdk_94_method_14_code 12 = .ok (.iconst 0, 1) := by decide +kernel
theorem own_d9_13 : decode jdk_94_method_14_code 13 = .ok (.putfield 64, 3) := by decide +kernel
theorem own_d9_16 : decode jdk_94_method_14_code 16 = .ok (.return_, 1) := by decide +kernel
theorem ef_own_rm9 (m : MethodId) (a1 : Addr) (p1 : Int32) (f1 : UInt32) : entryFrame m #[(.ref a1), (.int p1), (.float f1)] 3 = mkF m 0 #[.val (.ref a1), .val (.int p1), .val (.float f1)] [] := by first | (simp [entryFrame, mkF, argsToLocals, Value.category]; done) | rfl
def own_rm9_Q (Z : State) (a1 : Addr) (p1 : Int32) (f1 : UInt32)  (h0 : Heap) (n0 : Nat) (v : Option Value) (h : Heap) (L : List Loc) : Prop := v = none ∧ Fr n0 L ∧ Keep h0 h [a1] ∧ Exa Z h a1 "java/util/LinkedHashMap" ∧ Fld Z h a1 "java/util/HashMap" "loadFactor" "F" (.float (1061158912 : UInt32)) ∧ Fld Z h a1 "java/util/HashMap" "threshold" "I" (.int (16 : Int32)) ∧ Fld Z h a1 "java/util/LinkedHashMap" "putMode" "I" (.int (0 : Int32)) ∧ Fld Z h a1 "java/util/LinkedHashMap" "accessOrder" "Z" (.int (0 : Int32))
set_option maxRecDepth 65536 in
set_option maxHeartbeats 40000000 in
theorem own_rm9 (l : Launch) (Z : State) (a0 : Array Value) (hw : ∀ d ∈ tables_1, d.before a0 Z = true) (ws : List Jvm.Cond) (a1 : Addr) (p1 : Int32) (f1 : UInt32)  (h0 : Heap) (n0 : Nat) (Z0 : n0 ≤ h0.size) (E_a1 : Exa Z h0 a1 "java/util/LinkedHashMap") (Fi_0 : Fld Z h0 a1 "java/util/HashMap" "loadFactor" "F" (.float (0 : UInt32))) (Fi_1 : Fld Z h0 a1 "java/util/HashMap" "threshold" "I" (.int (0 : Int32))) (Fi_2 : Fld Z h0 a1 "java/util/LinkedHashMap" "putMode" "I" (.int (0 : Int32))) (Fi_3 : Fld Z h0 a1 "java/util/LinkedHashMap" "accessOrder" "Z" (.int (0 : Int32))) (g_a1 : n0 ≤ a1) (hp : p1 = (16 : Int32)) (hf : f1 = (1061158912 : UInt32)) :
    MetFree l (⟨"java/util/LinkedHashMap", "<init>", "(IF)V"⟩ : MethodName) (head1 (Jvm.Cond.code (⟨"java/util/LinkedHashMap", "<init>", "(IF)V"⟩ : MethodName) jdk_94_method_14_code 3 none :: ws) ({ frames := 3, cells := 0, slots := 0, locals := 42 } : Room)) (fun a U => a = #[(.ref a1), (.int p1), (.float f1)] ∧ Z.Warmed39 U.vm ∧ U.heap = h0) (fun _ _ _ _ _ => True) (fun _ U o U' => ∃ v L, o = .returned v ∧ own_rm9_Q Z a1 p1 f1  h0 n0 v U'.heap L ∧ FrameEnd U o U' L ({ frames := 3, cells := 0, slots := 0, locals := 42 } : Room).cells ({ frames := 3, cells := 0, slots := 0, locals := 42 } : Room).slots) := by
  refine MetFree.of_bodySF (plainFor_of_name own_pn6) hisR ?_
  intro p e s m args below meth c s₁ Bd hml0 hP hK
  obtain ⟨rfl, hZ, hh⟩ := hP
  have hx := Bd.exec
  have hby := Bd.bytes
  have hml : c.maxLocals = 3 := hml0
  have hown : s.vm.findClass "java/util/LinkedHashMap" = some m.cls := findClass_of_methodNamed Bd.named
  have hnm := (name_of_methodNamed Bd.named Bd.method).1
  have hlk : meth.locks = false := BodyLoose.notSynchronized Bd
  have X0 : Stand p l e ({ frames := 3, cells := 0, slots := 0, locals := 42 } : Room) s m #[(.ref a1), (.int p1), (.float f1)] below meth c s₁ [] 0 0 := Stand.of_body Bd
  have e0 : s₁.heap = h0 := by rw [← hh, Bd.state]; rfl
  have N0 := Fr.nil n0
  have K0 : Keep h0 h0 [a1] := Keep.refl h0 [a1]
  show own_Fin p e below (own_P (own_rm9_Q Z a1 p1 f1  h0 n0) s ({ frames := 3, cells := 0, slots := 0, locals := 42 } : Room).cells ({ frames := 3, cells := 0, slots := 0, locals := 42 } : Room).slots) (s₁.setTop (entryFrame m #[(.ref a1), (.int p1), (.float f1)] 3))
  refine own_via (g' := s₁.setTop (mkF m 0 #[.val (.ref a1), .val (.int p1), .val (.float f1)] [])) (fun t k => castTop (ef_own_rm9 m a1 p1 f1) k) ?_
  subst hp
  subst hf
  refine own_via (g' := s₁.setTop (mkF m 1 #[.val (.ref a1), .val (.int (16 : Int32)), .val (.float (1061158912 : UInt32))] [(.ref a1)])) (fun t k => XS.aloadN X0.here hx rfl (hb hby own_d9_0) rfl (rfl) k) ?_
  refine own_via (g' := s₁.setTop (mkF m 2 #[.val (.ref a1), .val (.int (16 : Int32)), .val (.float (1061158912 : UInt32))] [(.int (16 : Int32)), (.ref a1)])) (fun t k => XS.iloadN X0.here hx rfl (hb hby own_d9_1) rfl k) ?_
  refine own_via (g' := s₁.setTop (mkF m 3 #[.val (.ref a1), .val (.int (16 : Int32)), .val (.float (1061158912 : UInt32))] [(.float (1061158912 : UInt32)), (.int (16 : Int32)), (.ref a1)])) (fun t k => XS.floadN X0.here hx rfl (hb hby own_d9_2) rfl k) ?_
  obtain ⟨v101, _, ⟨T101, L101, k101, n101⟩, -, X101, ⟨Lc101, hQ101, l101, y101, z101⟩, st101⟩ := X0.specialBack hx (y := (⟨"java/util/HashMap", "<init>", "(IF)V"⟩ : MethodName)) rfl hown (mvT hZ (hw _ (List.mem_of_getElem? (i := 64) rfl))) (mvT hZ (hw _ (List.mem_of_getElem? (i := 65) rfl))) (mvT hZ (hw _ (List.mem_of_getElem? (i := 68) rfl))) (by decide) (backOf (W := 0) (own_rm10 l Z a0 hw [] a1 (16 : Int32) (1061158912 : UInt32) h0 n0 (Nat.le_trans Z0 K0.1) E_a1 Fi_0 Fi_1 Fi_2 Fi_3 g_a1 rfl rfl) hZ (hw _ (List.mem_of_getElem? (i := 68) rfl)) (hw _ (List.mem_of_getElem? (i := 11) rfl)) (by decide) (by decide)) (g := (mkF m 3 #[.val (.ref a1), .val (.int (16 : Int32)), .val (.float (1061158912 : UInt32))] [(.float (1061158912 : UInt32)), (.int (16 : Int32)), (.ref a1)])) rfl (by rw [hml]; rfl) (Steps.refl _) (a := a1) (argsL := [(.int (16 : Int32)), (.float (1061158912 : UInt32))]) (rest := []) (lenOf own_pd3 rfl) rfl (by show 2 * 0 + _ ≤ _; exact Nat.le_of_eq rfl) (hb hby own_d9_3) (fun _ _ => ⟨rfl, e0, (by decide : 0 + 0 ≤ _), (by decide : 0 + 0 ≤ _)⟩)
  dsimp only [Pt.U, Pt.locs, Pt.cells, Pt.slots] at X101 l101 y101 z101 st101 hQ101
  subst l101 y101 z101
  obtain ⟨rfl, N101q, K101, A101, Fa101_0, Fa101_1, Fa101_2, Fa101_3⟩ := hQ101
  have Kc101 : Keep h0 T101.heap [a1] := K0.trans K101 (allS (Or.inl (List.mem_of_getElem? (i := 0) rfl)) all0)
  have N101 := Fr.app N0 N101q
  refine own_via (g' := T101.setTop (mkF m 6 #[.val (.ref a1), .val (.int (16 : Int32)), .val (.float (1061158912 : UInt32))] [])) (fun t k => st101.trans k) ?_
  refine own_via (g' := T101.setTop (mkF m 7 #[.val (.ref a1), .val (.int (16 : Int32)), .val (.float (1061158912 : UInt32))] [(.ref a1)])) (fun t k => XS.aloadN X101.here hx rfl (hb hby own_d9_6) rfl (rfl) k) ?_
  refine own_via (g' := T101.setTop (mkF m 8 #[.val (.ref a1), .val (.int (16 : Int32)), .val (.float (1061158912 : UInt32))] [(.int (0 : Int32)), (.ref a1)])) (fun t k => XS.iconst X101.here hx rfl (hb hby own_d9_7) k) ?_
  obtain ⟨T102, h102, X102, e102, W102, st102⟩ := putF X101 hx hZ hown (host := "") (Or.inl (hw _ (List.mem_of_getElem? (i := 86) rfl))) Via.refl rfl Fa101_2 A101 (Or.inl (hw _ (List.mem_of_getElem? (i := 87) rfl))) (hw _ (List.mem_of_getElem? (i := 58) rfl)) (ty := .int) (by decide) rfl rfl (g := (mkF m 8 #[.val (.ref a1), .val (.int (16 : Int32)), .val (.float (1061158912 : UInt32))] [(.int (0 : Int32)), (.ref a1)])) rfl rfl (hb hby own_d9_8)
  have F102 : Fld Z h102 a1 "java/util/LinkedHashMap" "putMode" "I" (.int (0 : Int32)) := Fa101_2.same W102
  have Kc102 : Keep h0 h102 [a1] := Kc101.wr W102 (Or.inl (List.mem_of_getElem? (i := 0) rfl))
  have N102 := Fr.snoc X102 N101 g_a1
  refine own_via (g' := T102.setTop (mkF m 11 #[.val (.ref a1), .val (.int (16 : Int32)), .val (.float (1061158912 : UInt32))] [])) (fun t k => st102 _ k) ?_
  refine own_via (g' := T102.setTop (mkF m 12 #[.val (.ref a1), .val (.int (16 : Int32)), .val (.float (1061158912 : UInt32))] [(.ref a1)])) (fun t k => XS.aloadN X102.here hx rfl (hb hby own_d9_11) rfl (rfl) k) ?_
  refine own_via (g' := T102.setTop (mkF m 13 #[.val (.ref a1), .val (.int (16 : Int32)), .val (.float (1061158912 : UInt32))] [(.int (0 : Int32)), (.ref a1)])) (fun t k => XS.iconst X102.here hx rfl (hb hby own_d9_12) k) ?_
  obtain ⟨T103, h103, X103, e103, W103, st103⟩ := putFN X102 hx hZ hown (hw _ (List.mem_of_getElem? (i := 88) rfl)) Via.refl e102 (Fa101_3.other W102 (Or.inr (slot_ne (Or.inr (hw _ (List.mem_of_getElem? (i := 89) rfl))) (Or.inl (hw _ (List.mem_of_getElem? (i := 87) rfl))) (by decide) (t := .boolean) (t' := .int) (by decide) (by decide)))) (A101.wr W102) (Or.inr ⟨(hw _ (List.mem_of_getElem? (i := 89) rfl)), rfl, hnm⟩) (hw _ (List.mem_of_getElem? (i := 58) rfl)) (ty := .boolean) (v' := (.int (0 : Int32))) (by decide) rfl rfl (g := (mkF m 13 #[.val (.ref a1), .val (.int (16 : Int32)), .val (.float (1061158912 : UInt32))] [(.int (0 : Int32)), (.ref a1)])) rfl rfl (hb hby own_d9_13)
  have F103 : Fld Z h103 a1 "java/util/LinkedHashMap" "accessOrder" "Z" (.int (0 : Int32)) := (Fa101_3.other W102 (Or.inr (slot_ne (Or.inr (hw _ (List.mem_of_getElem? (i := 89) rfl))) (Or.inl (hw _ (List.mem_of_getElem? (i := 87) rfl))) (by decide) (t := .boolean) (t' := .int) (by decide) (by decide)))).same W103
  have Kc103 : Keep h0 h103 [a1] := Kc102.wr W103 (Or.inl (List.mem_of_getElem? (i := 0) rfl))
  have N103 := Fr.snoc X103 N102 g_a1
  refine own_via (g' := T103.setTop (mkF m 16 #[.val (.ref a1), .val (.int (16 : Int32)), .val (.float (1061158912 : UInt32))] [])) (fun t k => st103 _ k) ?_
  have eE : T103.heap = h103 := e103
  exact own_retV X103 hx hlk Bd.returns (hb hby own_d9_16) ⟨rfl, N103, (by rw [eE]; exact Kc103), (by rw [eE]; exact ((A101.wr W102).wr W103)), (by rw [eE]; exact ((Fa101_0.other W102 (Or.inr (slot_ne (Or.inr (hw _ (List.mem_of_getElem? (i := 75) rfl))) (Or.inl (hw _ (List.mem_of_getElem? (i := 87) rfl))) (by decide) (t := .float) (t' := .int) (by decide) (by decide)))).other W103 (Or.inr (slot_ne (Or.inr (hw _ (List.mem_of_getElem? (i := 75) rfl))) (Or.inr (hw _ (List.mem_of_getElem? (i := 89) rfl))) (by decide) (t := .float) (t' := .boolean) (by decide) (by decide))))), (by rw [eE]; exact ((Fa101_1.other W102 (Or.inr (slot_ne (Or.inl (hw _ (List.mem_of_getElem? (i := 85) rfl))) (Or.inl (hw _ (List.mem_of_getElem? (i := 87) rfl))) (by decide) (t := .int) (t' := .int) (by decide) (by decide)))).other W103 (Or.inr (slot_ne (Or.inl (hw _ (List.mem_of_getElem? (i := 85) rfl))) (Or.inr (hw _ (List.mem_of_getElem? (i := 89) rfl))) (by decide) (t := .int) (t' := .boolean) (by decide) (by decide))))), (by rw [eE]; exact (F102.other W103 (Or.inr (slot_ne (Or.inl (hw _ (List.mem_of_getElem? (i := 87) rfl))) (Or.inr (hw _ (List.mem_of_getElem? (i := 89) rfl))) (by decide) (t := .int) (t' := .boolean) (by decide) (by decide))))), (by rw [eE]; exact F103)⟩ (by decide) (by decide)
theorem own_pn7 : plainName "java/util/HashSet" = true := by first | (simp [plainName, overriddenIn]; done) | decide +kernel
theorem own_d6_0 : decode jdk_93_method_5_code 0 = .ok (.aload_n 0, 1) := by decide +kernel
theorem own_d6_1 : decode jdk_93_method_5_code 1 = .ok (.invokespecial 1, 3) := by decide +kernel
theorem own_d6_4 : decode jdk_93_method_5_code 4 = .ok (.aload_n 0, 1) := by decide +kernel
theorem own_d6_5 : decode jdk_93_method_5_code 5 = .ok (.new 42, 3) := by decide +kernel
theorem own_d6_8 : decode jdk_93_method_5_code 8 = .ok (.dup, 1) := by decide +kernel
theorem own_d6_9 : decode jdk_93_method_5_code 9 = .ok (.iload_n 1, 1) := by decide +kernel
theorem own_d6_10 : decode jdk_93_method_5_code 10 = .ok (.fload_n 2, 1) := by decide +kernel
theorem own_d6_11 : decode jdk_93_method_5_code 11 = .ok (.invokespecial 44, 3) := by decide +kernel
theorem own_d6_14 : decode jdk_93_method_5_code 14 = .ok (.putfield 10, 3) := by decide +kernel
theorem own_d6_17 : decode jdk_93_method_5_code 17 = .ok (.return_, 1) := by decide +kernel
theorem ef_own_rm6 (m : MethodId) (a1 : Addr) (p1 : Int32) (f1 : UInt32) (p2 : Int32) : entryFrame m #[(.ref a1), (.int p1), (.float f1), (.int p2)] 4 = mkF m 0 #[.val (.ref a1), .val (.int p1), .val (.float f1), .val (.int p2)] [] := by first | (simp [entryFrame, mkF, argsToLocals, Value.category]; done) | rfl
def own_rm6_Q (Z : State) (a1 : Addr) (p1 : Int32) (f1 : UInt32) (p2 : Int32)  (h0 : Heap) (n0 : Nat) (v : Option Value) (h : Heap) (L : List Loc) : Prop := v = none ∧ Fr n0 L ∧ Keep h0 h [a1] ∧ Exa Z h a1 "java/util/LinkedHashSet"
set_option maxRecDepth 65536 in
set_option maxHeartbeats 40000000 in
theorem own_rm6 (l : Launch) (Z : State) (a0 : Array Value) (hw : ∀ d ∈ tables_1, d.before a0 Z = true) (ws : List Jvm.Cond) (a1 : Addr) (p1 : Int32) (f1 : UInt32) (p2 : Int32)  (h0 : Heap) (n0 : Nat) (Z0 : n0 ≤ h0.size) (E_a1 : Exa Z h0 a1 "java/util/LinkedHashSet") (Fi_0 : Fld Z h0 a1 "java/util/HashSet" "map" "Ljava/util/HashMap;" .null) (g_a1 : n0 ≤ a1) (hp : p1 = (16 : Int32)) (hf : f1 = (1061158912 : UInt32)) :
    MetFree l (⟨"java/util/HashSet", "<init>", "(IFZ)V"⟩ : MethodName) (head1 (Jvm.Cond.code (⟨"java/util/HashSet", "<init>", "(IFZ)V"⟩ : MethodName) jdk_93_method_5_code 4 none :: ws) ({ frames := 4, cells := 1, slots := 12, locals := 58 } : Room)) (fun a U => a = #[(.ref a1), (.int p1), (.float f1), (.int p2)] ∧ Z.Warmed39 U.vm ∧ U.heap = h0) (fun _ _ _ _ _ => True) (fun _ U o U' => ∃ v L, o = .returned v ∧ own_rm6_Q Z a1 p1 f1 p2  h0 n0 v U'.heap L ∧ FrameEnd U o U' L ({ frames := 4, cells := 1, slots := 12, locals := 58 } : Room).cells ({ frames := 4, cells := 1, slots := 12, locals := 58 } : Room).slots) := by
  refine MetFree.of_bodySF (plainFor_of_name own_pn7) hisR ?_
  intro p e s m args below meth c s₁ Bd hml0 hP hK
  obtain ⟨rfl, hZ, hh⟩ := hP
  have hx := Bd.exec
  have hby := Bd.bytes
  have hml : c.maxLocals = 4 := hml0
  have hown : s.vm.findClass "java/util/HashSet" = some m.cls := findClass_of_methodNamed Bd.named
  have hnm := (name_of_methodNamed Bd.named Bd.method).1
  have hlk : meth.locks = false := BodyLoose.notSynchronized Bd
  have X0 : Stand p l e ({ frames := 4, cells := 1, slots := 12, locals := 58 } : Room) s m #[(.ref a1), (.int p1), (.float f1), (.int p2)] below meth c s₁ [] 0 0 := Stand.of_body Bd
  have e0 : s₁.heap = h0 := by rw [← hh, Bd.state]; rfl
  have N0 := Fr.nil n0
  have K0 : Keep h0 h0 [a1] := Keep.refl h0 [a1]
  show own_Fin p e below (own_P (own_rm6_Q Z a1 p1 f1 p2  h0 n0) s ({ frames := 4, cells := 1, slots := 12, locals := 58 } : Room).cells ({ frames := 4, cells := 1, slots := 12, locals := 58 } : Room).slots) (s₁.setTop (entryFrame m #[(.ref a1), (.int p1), (.float f1), (.int p2)] 4))
  refine own_via (g' := s₁.setTop (mkF m 0 #[.val (.ref a1), .val (.int p1), .val (.float f1), .val (.int p2)] [])) (fun t k => castTop (ef_own_rm6 m a1 p1 f1 p2) k) ?_
  subst hp
  subst hf
  refine own_via (g' := s₁.setTop (mkF m 1 #[.val (.ref a1), .val (.int (16 : Int32)), .val (.float (1061158912 : UInt32)), .val (.int p2)] [(.ref a1)])) (fun t k => XS.aloadN X0.here hx rfl (hb hby own_d6_0) rfl (rfl) k) ?_
  obtain ⟨v101, _, ⟨T101, L101, k101, n101⟩, -, X101, ⟨Lc101, hQ101, l101, y101, z101⟩, st101⟩ := X0.specialBack hx (y := (⟨"java/util/AbstractSet", "<init>", "()V"⟩ : MethodName)) rfl hown (mvT hZ (hw _ (List.mem_of_getElem? (i := 44) rfl))) (mvT hZ (hw _ (List.mem_of_getElem? (i := 45) rfl))) (mvT hZ (hw _ (List.mem_of_getElem? (i := 49) rfl))) (by decide) (backOf (W := 0) (own_rm7 l Z a0 hw [] a1 h0 n0 (Nat.le_trans Z0 K0.1) ) hZ (hw _ (List.mem_of_getElem? (i := 49) rfl)) (hw _ (List.mem_of_getElem? (i := 48) rfl)) (by decide) (by decide)) (g := (mkF m 1 #[.val (.ref a1), .val (.int (16 : Int32)), .val (.float (1061158912 : UInt32)), .val (.int p2)] [(.ref a1)])) rfl (by rw [hml]; rfl) (Steps.refl _) (a := a1) (argsL := []) (rest := []) (lenOf own_pd0 rfl) rfl (by show 2 * 0 + _ ≤ _; exact Nat.le_of_eq rfl) (hb hby own_d6_1) (fun _ _ => ⟨rfl, e0, (by decide : 0 + 0 ≤ _), (by decide : 0 + 0 ≤ _)⟩)
  dsimp only [Pt.U, Pt.locs, Pt.cells, Pt.slots] at X101 l101 y101 z101 st101 hQ101
  subst l101 y101 z101
  obtain ⟨rfl, N101q, e101⟩ := hQ101
  have N101 := Fr.app N0 N101q
  refine own_via (g' := T101.setTop (mkF m 4 #[.val (.ref a1), .val (.int (16 : Int32)), .val (.float (1061158912 : UInt32)), .val (.int p2)] [])) (fun t k => st101.trans k) ?_
  refine own_via (g' := T101.setTop (mkF m 5 #[.val (.ref a1), .val (.int (16 : Int32)), .val (.float (1061158912 : UInt32)), .val (.int p2)] [(.ref a1)])) (fun t k => XS.aloadN X101.here hx rfl (hb hby own_d6_4) rfl (rfl) k) ?_
  obtain ⟨T102, h102, X102, e102, E102, A102, D102, -, st102⟩ := newO X101 hx hZ hown (hw _ (List.mem_of_getElem? (i := 57) rfl)) (hw _ (List.mem_of_getElem? (i := 58) rfl)) (hw _ (List.mem_of_getElem? (i := 59) rfl)) e101 (g := (mkF m 5 #[.val (.ref a1), .val (.int (16 : Int32)), .val (.float (1061158912 : UInt32)), .val (.int p2)] [(.ref a1)])) rfl (hb hby own_d6_5) (by decide) (by decide)
  obtain ⟨b102, g102⟩ : ∃ z, z = h0.size := ⟨_, rfl⟩
  rw [← g102] at A102 D102 st102
  have ne_a1_b102 : a1 ≠ b102 := Nat.ne_of_lt (Nat.lt_of_lt_of_le E_a1.lt (Nat.le_of_eq g102.symm))
  have sz_b102 : h0.size ≤ b102 := Nat.le_trans K0.1 (Nat.le_of_eq g102.symm)
  have g_b102 : n0 ≤ b102 := Nat.le_trans Z0 sz_b102
  have Kc102 : Keep h0 h102 [a1] := K0.ext E102
  have F102_75 : Fld Z h102 b102 "java/util/HashMap" "loadFactor" "F" (.float (0 : UInt32)) := D102 (Or.inr (hw _ (List.mem_of_getElem? (i := 75) rfl))) (ty := .float) (by decide)
  have F102_85 : Fld Z h102 b102 "java/util/HashMap" "threshold" "I" (.int (0 : Int32)) := D102 (Or.inl (hw _ (List.mem_of_getElem? (i := 85) rfl))) (ty := .int) (by decide)
  have F102_87 : Fld Z h102 b102 "java/util/LinkedHashMap" "putMode" "I" (.int (0 : Int32)) := D102 (Or.inl (hw _ (List.mem_of_getElem? (i := 87) rfl))) (ty := .int) (by decide)
  have F102_89 : Fld Z h102 b102 "java/util/LinkedHashMap" "accessOrder" "Z" (.int (0 : Int32)) := D102 (Or.inr (hw _ (List.mem_of_getElem? (i := 89) rfl))) (ty := .boolean) (by decide)
  refine own_via (g' := T102.setTop (mkF m 8 #[.val (.ref a1), .val (.int (16 : Int32)), .val (.float (1061158912 : UInt32)), .val (.int p2)] [(.ref b102), (.ref a1)])) (fun t k => st102 _ k) ?_
  refine own_via (g' := T102.setTop (mkF m 9 #[.val (.ref a1), .val (.int (16 : Int32)), .val (.float (1061158912 : UInt32)), .val (.int p2)] [(.ref b102), (.ref b102), (.ref a1)])) (fun t k => XS.dup X102.here hx rfl (hb hby own_d6_8) rfl (rfl) k) ?_
  refine own_via (g' := T102.setTop (mkF m 10 #[.val (.ref a1), .val (.int (16 : Int32)), .val (.float (1061158912 : UInt32)), .val (.int p2)] [(.int (16 : Int32)), (.ref b102), (.ref b102), (.ref a1)])) (fun t k => XS.iloadN X102.here hx rfl (hb hby own_d6_9) rfl k) ?_
  refine own_via (g' := T102.setTop (mkF m 11 #[.val (.ref a1), .val (.int (16 : Int32)), .val (.float (1061158912 : UInt32)), .val (.int p2)] [(.float (1061158912 : UInt32)), (.int (16 : Int32)), (.ref b102), (.ref b102), (.ref a1)])) (fun t k => XS.floadN X102.here hx rfl (hb hby own_d6_10) rfl k) ?_
  obtain ⟨v103, _, ⟨T103, L103, k103, n103⟩, -, X103, ⟨Lc103, hQ103, l103, y103, z103⟩, st103⟩ := X102.specialBack hx (y := (⟨"java/util/LinkedHashMap", "<init>", "(IF)V"⟩ : MethodName)) rfl hown (mvT hZ (hw _ (List.mem_of_getElem? (i := 60) rfl))) (mvT hZ (hw _ (List.mem_of_getElem? (i := 61) rfl))) (mvT hZ (hw _ (List.mem_of_getElem? (i := 63) rfl))) (by decide) (backOf (W := 2) (own_rm9 l Z a0 hw [] b102 (16 : Int32) (1061158912 : UInt32) h102 n0 (Nat.le_trans Z0 Kc102.1) A102 F102_75 F102_85 F102_87 F102_89 g_b102 rfl rfl) hZ (hw _ (List.mem_of_getElem? (i := 63) rfl)) (hw _ (List.mem_of_getElem? (i := 59) rfl)) (by decide) (by decide)) (g := (mkF m 11 #[.val (.ref a1), .val (.int (16 : Int32)), .val (.float (1061158912 : UInt32)), .val (.int p2)] [(.float (1061158912 : UInt32)), (.int (16 : Int32)), (.ref b102), (.ref b102), (.ref a1)])) rfl (by rw [hml]; rfl) (Steps.refl _) (a := b102) (argsL := [(.int (16 : Int32)), (.float (1061158912 : UInt32))]) (rest := [(.ref b102), (.ref a1)]) (lenOf own_pd3 rfl) rfl (by show 2 * 0 + _ ≤ _; exact Nat.le_of_eq rfl) (hb hby own_d6_11) (fun _ _ => ⟨rfl, e102, (by decide : 1 + 0 ≤ _), (by decide : 12 + 0 ≤ _)⟩)
  dsimp only [Pt.U, Pt.locs, Pt.cells, Pt.slots] at X103 l103 y103 z103 st103 hQ103
  subst l103 y103 z103
  obtain ⟨rfl, N103q, K103, A103, Fa103_0, Fa103_1, Fa103_2, Fa103_3⟩ := hQ103
  have Kc103 : Keep h0 T103.heap [a1] := Kc102.trans K103 (allS (Or.inr sz_b102) all0)
  have N103 := Fr.app N101 N103q
  refine own_via (g' := T103.setTop (mkF m 14 #[.val (.ref a1), .val (.int (16 : Int32)), .val (.float (1061158912 : UInt32)), .val (.int p2)] [(.ref b102), (.ref a1)])) (fun t k => st103.trans k) ?_
  obtain ⟨T104, h104, X104, e104, W104, st104⟩ := putF X103 hx hZ hown (host := "") (Or.inl (hw _ (List.mem_of_getElem? (i := 90) rfl))) Via.refl rfl ((Fi_0.ext E102).keep K103 (ninS ne_a1_b102 nin0)) ((E_a1.ext E102).keep K103) (Or.inl (hw _ (List.mem_of_getElem? (i := 91) rfl))) (hw _ (List.mem_of_getElem? (i := 32) rfl)) (ty := (.object "java/util/HashMap")) (by decide) rfl rfl (g := (mkF m 14 #[.val (.ref a1), .val (.int (16 : Int32)), .val (.float (1061158912 : UInt32)), .val (.int p2)] [(.ref b102), (.ref a1)])) rfl rfl (hb hby own_d6_14)
  have F104 : Fld Z h104 a1 "java/util/HashSet" "map" "Ljava/util/HashMap;" (.ref b102) := ((Fi_0.ext E102).keep K103 (ninS ne_a1_b102 nin0)).same W104
  have Kc104 : Keep h0 h104 [a1] := Kc103.wr W104 (Or.inl (List.mem_of_getElem? (i := 0) rfl))
  have N104 := Fr.snoc X104 N103 g_a1
  refine own_via (g' := T104.setTop (mkF m 17 #[.val (.ref a1), .val (.int (16 : Int32)), .val (.float (1061158912 : UInt32)), .val (.int p2)] [])) (fun t k => st104 _ k) ?_
  have eE : T104.heap = h104 := e104
  exact own_retV X104 hx hlk Bd.returns (hb hby own_d6_17) ⟨rfl, N104, (by rw [eE]; exact Kc104), (by rw [eE]; exact (((E_a1.ext E102).keep K103).wr W104))⟩ (by decide) (by decide)
theorem own_pn8 : plainName "java/util/LinkedHashSet" = true := by first | (simp [plainName, overriddenIn]; done) | decide +kernel
theorem own_pd4 : parseMethodDescriptor "(IFZ)V" = some ⟨[.int, .float, .boolean], none⟩ := by decide +kernel
theorem own_d5_0 : decode jdk_2620_method_3_code 0 = .ok (.aload_n 0, 1) := by decide +kernel
theorem own_d5_1 : decode jdk_2620_method_3_code 1 = .ok (.bipush 16, 2) := by decide +kernel
theorem own_d5_3 : decode jdk_2620_method_3_code 3 = .ok (.ldc 7, 2) := by decide +kernel
theorem own_d5_5 : decode jdk_2620_method_3_code 5 = .ok (.iconst 1, 1) := by decide +kernel
theorem own_d5_6 : decode jdk_2620_method_3_code 6 = .ok (.invokespecial 1, 3) := by decide +kernel
theorem own_d5_9 : decode jdk_2620_method_3_code 9 = .ok (.return_, 1) := by decide +kernel
theorem ef_own_rm5 (m : MethodId) (a1 : Addr) : entryFrame m #[(.ref a1)] 1 = mkF m 0 #[.val (.ref a1)] [] := by first | (simp [entryFrame, mkF, argsToLocals, Value.category]; done) | rfl
def own_rm5_Q (Z : State) (a1 : Addr)  (h0 : Heap) (n0 : Nat) (v : Option Value) (h : Heap) (L : List Loc) : Prop := v = none ∧ Fr n0 L ∧ Keep h0 h [a1] ∧ Exa Z h a1 "java/util/LinkedHashSet"
set_option maxRecDepth 65536 in
set_option maxHeartbeats 40000000 in
theorem own_rm5 (l : Launch) (Z : State) (a0 : Array Value) (hw : ∀ d ∈ tables_1, d.before a0 Z = true) (ws : List Jvm.Cond) (a1 : Addr)  (h0 : Heap) (n0 : Nat) (Z0 : n0 ≤ h0.size) (E_a1 : Exa Z h0 a1 "java/util/LinkedHashSet") (Fi_0 : Fld Z h0 a1 "java/util/HashSet" "map" "Ljava/util/HashMap;" .null) (g_a1 : n0 ≤ a1) :
    MetFree l (⟨"java/util/LinkedHashSet", "<init>", "()V"⟩ : MethodName) (head1 (Jvm.Cond.code (⟨"java/util/LinkedHashSet", "<init>", "()V"⟩ : MethodName) jdk_2620_method_3_code 1 none :: ws) ({ frames := 5, cells := 1, slots := 12, locals := 73 } : Room)) (fun a U => a = #[(.ref a1)] ∧ Z.Warmed39 U.vm ∧ U.heap = h0) (fun _ _ _ _ _ => True) (fun _ U o U' => ∃ v L, o = .returned v ∧ own_rm5_Q Z a1  h0 n0 v U'.heap L ∧ FrameEnd U o U' L ({ frames := 5, cells := 1, slots := 12, locals := 73 } : Room).cells ({ frames := 5, cells := 1, slots := 12, locals := 73 } : Room).slots) := by
  refine MetFree.of_bodySF (plainFor_of_name own_pn8) hisR ?_
  intro p e s m args below meth c s₁ Bd hml0 hP hK
  obtain ⟨rfl, hZ, hh⟩ := hP
  have hx := Bd.exec
  have hby := Bd.bytes
  have hml : c.maxLocals = 1 := hml0
  have hown : s.vm.findClass "java/util/LinkedHashSet" = some m.cls := findClass_of_methodNamed Bd.named
  have hnm := (name_of_methodNamed Bd.named Bd.method).1
  have hlk : meth.locks = false := BodyLoose.notSynchronized Bd
  have X0 : Stand p l e ({ frames := 5, cells := 1, slots := 12, locals := 73 } : Room) s m #[(.ref a1)] below meth c s₁ [] 0 0 := Stand.of_body Bd
  have e0 : s₁.heap = h0 := by rw [← hh, Bd.state]; rfl
  have N0 := Fr.nil n0
  have K0 : Keep h0 h0 [a1] := Keep.refl h0 [a1]
  show own_Fin p e below (own_P (own_rm5_Q Z a1  h0 n0) s ({ frames := 5, cells := 1, slots := 12, locals := 73 } : Room).cells ({ frames := 5, cells := 1, slots := 12, locals := 73 } : Room).slots) (s₁.setTop (entryFrame m #[(.ref a1)] 1))
  refine own_via (g' := s₁.setTop (mkF m 0 #[.val (.ref a1)] [])) (fun t k => castTop (ef_own_rm5 m a1) k) ?_
  refine own_via (g' := s₁.setTop (mkF m 1 #[.val (.ref a1)] [(.ref a1)])) (fun t k => XS.aloadN X0.here hx rfl (hb hby own_d5_0) rfl (rfl) k) ?_
  refine own_via (g' := s₁.setTop (mkF m 3 #[.val (.ref a1)] [(.int (16 : Int32)), (.ref a1)])) (fun t k => XS.bipush X0.here hx rfl (hb hby own_d5_1) k) ?_
  refine own_via (g' := s₁.setTop (mkF m 5 #[.val (.ref a1)] [(.float (1061158912 : UInt32)), (.int (16 : Int32)), (.ref a1)])) (fun t k => X0.ldcFloatC hx hown (mvT hZ (hw _ (List.mem_of_getElem? (i := 37) rfl))) (g := (mkF m 3 #[.val (.ref a1)] [(.int (16 : Int32)), (.ref a1)])) rfl (hb hby own_d5_3) _ k) ?_
  refine own_via (g' := s₁.setTop (mkF m 6 #[.val (.ref a1)] [(.int (1 : Int32)), (.float (1061158912 : UInt32)), (.int (16 : Int32)), (.ref a1)])) (fun t k => XS.iconst X0.here hx rfl (hb hby own_d5_5) k) ?_
  obtain ⟨v101, _, ⟨T101, L101, k101, n101⟩, -, X101, ⟨Lc101, hQ101, l101, y101, z101⟩, st101⟩ := X0.specialBack hx (y := (⟨"java/util/HashSet", "<init>", "(IFZ)V"⟩ : MethodName)) rfl hown (mvT hZ (hw _ (List.mem_of_getElem? (i := 38) rfl))) (mvT hZ (hw _ (List.mem_of_getElem? (i := 39) rfl))) (mvT hZ (hw _ (List.mem_of_getElem? (i := 43) rfl))) (by decide) (backOf (W := 0) (own_rm6 l Z a0 hw [] a1 (16 : Int32) (1061158912 : UInt32) (1 : Int32) h0 n0 (Nat.le_trans Z0 K0.1) E_a1 Fi_0 g_a1 rfl rfl) hZ (hw _ (List.mem_of_getElem? (i := 43) rfl)) (hw _ (List.mem_of_getElem? (i := 42) rfl)) (by decide) (by decide)) (g := (mkF m 6 #[.val (.ref a1)] [(.int (1 : Int32)), (.float (1061158912 : UInt32)), (.int (16 : Int32)), (.ref a1)])) rfl (by rw [hml]; rfl) (Steps.refl _) (a := a1) (argsL := [(.int (16 : Int32)), (.float (1061158912 : UInt32)), (.int (1 : Int32))]) (rest := []) (lenOf own_pd4 rfl) rfl (by show 2 * 0 + _ ≤ _; exact Nat.le_of_eq rfl) (hb hby own_d5_6) (fun _ _ => ⟨rfl, e0, (by decide : 0 + 1 ≤ _), (by decide : 0 + 12 ≤ _)⟩)
  dsimp only [Pt.U, Pt.locs, Pt.cells, Pt.slots] at X101 l101 y101 z101 st101 hQ101
  subst l101 y101 z101
  obtain ⟨rfl, N101q, K101, A101⟩ := hQ101
  have Kc101 : Keep h0 T101.heap [a1] := K0.trans K101 (allS (Or.inl (List.mem_of_getElem? (i := 0) rfl)) all0)
  have N101 := Fr.app N0 N101q
  refine own_via (g' := T101.setTop (mkF m 9 #[.val (.ref a1)] [])) (fun t k => st101.trans k) ?_
  have eE : T101.heap = T101.heap := rfl
  exact own_retV X101 hx hlk Bd.returns (hb hby own_d5_9) ⟨rfl, N101, (by rw [eE]; exact Kc101), (by rw [eE]; exact A101)⟩ (by decide) (by decide)
theorem own_pn9 : plainName "com/example/rosterwright/rosterwright/Roster" = true := by first | (simp [plainName, overriddenIn]; done) | decide +kernel
theorem own_d1_0 : decode prog_65_method_1_code 0 = .ok (.aload_n 0, 1) := by decide +kernel
theorem own_d1_1 : decode prog_65_method_1_code 1 = .ok (.invokespecial 1, 3) := by decide +kernel
theorem own_d1_4 : decode prog_65_method_1_code 4 = .ok (.aload_n 0, 1) := by decide +kernel
theorem own_d1_5 : decode prog_65_method_1_code 5 = .ok (.new 7, 3) := by decide +kernel
theorem own_d1_8 : decode prog_65_method_1_code 8 = .ok (.dup, 1) := by decide +kernel
theorem own_d1_9 : decode prog_65_method_1_code 9 = .ok (.invokespecial 9, 3) := by decide +kernel
theorem own_d1_12 : decode prog_65_method_1_code 12 = .ok (.putfield 10, 3) := by decide +kernel
theorem own_d1_15 : decode prog_65_method_1_code 15 = .ok (.aload_n 0, 1) := by decide +kernel
theorem own_d1_16 : decode prog_65_method_1_code 16 = .ok (.new 7, 3) := by decide +kernel
theorem own_d1_19 : decode prog_65_method_1_code 19 = .ok (.dup, 1) := by decide +kernel
theorem own_d1_20 : decode prog_65_method_1_code 20 = .ok (.invokespecial 9, 3) := by decide +kernel
theorem own_d1_23 : decode prog_65_method_1_code 23 = .ok (.putfield 16, 3) := by decide +kernel
theorem own_d1_26 : decode prog_65_method_1_code 26 = .ok (.aload_n 0, 1) := by decide +kernel
theorem own_d1_27 : decode prog_65_method_1_code 27 = .ok (.new 7, 3) := by decide +kernel
theorem own_d1_30 : decode prog_65_method_1_code 30 = .ok (.dup, 1) := by decide +kernel
theorem own_d1_31 : decode prog_65_method_1_code 31 = .ok (.invokespecial 9, 3) := by decide +kernel
theorem own_d1_34 : decode prog_65_method_1_code 34 = .ok (.putfield 19, 3) := by decide +kernel
theorem own_d1_37 : decode prog_65_method_1_code 37 = .ok (.aload_n 0, 1) := by decide +kernel
theorem own_d1_38 : decode prog_65_method_1_code 38 = .ok (.new 22, 3) := by decide +kernel
theorem own_d1_41 : decode prog_65_method_1_code 41 = .ok (.dup, 1) := by decide +kernel
theorem own_d1_42 : decode prog_65_method_1_code 42 = .ok (.invokespecial 24, 3) := by decide +kernel
theorem own_d1_45 : decode prog_65_method_1_code 45 = .ok (.putfield 25, 3) := by decide +kernel
theorem own_d1_48 : decode prog_65_method_1_code 48 = .ok (.return_, 1) := by decide +kernel
theorem ef_own_rm1 (m : MethodId) (a1 : Addr) : entryFrame m #[(.ref a1)] 1 = mkF m 0 #[.val (.ref a1)] [] := by first | (simp [entryFrame, mkF, argsToLocals, Value.category]; done) | rfl
def own_rm1_Q (Z : State) (a1 : Addr)  (h0 : Heap) (n0 : Nat) (v : Option Value) (h : Heap) (L : List Loc) : Prop := v = none ∧ Fr n0 L ∧ Keep h0 h [a1] ∧ Exa Z h a1 "com/example/rosterwright/rosterwright/Roster" ∧ Fld Z h a1 "com/example/rosterwright/rosterwright/Roster" "keepsChanges" "Z" (.int (0 : Int32)) ∧ Fld Z h a1 "com/example/rosterwright/rosterwright/Roster" "changed" "Z" (.int (0 : Int32)) ∧ Fld Z h a1 "com/example/rosterwright/rosterwright/Roster" "keepingChanges" "Z" (.int (0 : Int32)) ∧ Fld Z h a1 "com/example/rosterwright/rosterwright/Roster" "open" "Lcom/example/rosterwright/rosterwright/Roster$Change;" .null
set_option maxRecDepth 65536 in
set_option maxHeartbeats 40000000 in
theorem own_rm1 (l : Launch) (Z : State) (a0 : Array Value) (hw : ∀ d ∈ tables_1, d.before a0 Z = true) (ws : List Jvm.Cond) (a1 : Addr)  (h0 : Heap) (n0 : Nat) (Z0 : n0 ≤ h0.size) (E_a1 : Exa Z h0 a1 "com/example/rosterwright/rosterwright/Roster") (Fi_byDn : Fld Z h0 a1 "com/example/rosterwright/rosterwright/Roster" "byDn" "Ljava/util/Map;" .null) (Fi_byAssociation : Fld Z h0 a1 "com/example/rosterwright/rosterwright/Roster" "byAssociation" "Ljava/util/Map;" .null) (Fi_byValue : Fld Z h0 a1 "com/example/rosterwright/rosterwright/Roster" "byValue" "Ljava/util/Map;" .null) (Fi_pending : Fld Z h0 a1 "com/example/rosterwright/rosterwright/Roster" "pending" "Ljava/util/Set;" .null) (Fi_keepsChanges : Fld Z h0 a1 "com/example/rosterwright/rosterwright/Roster" "keepsChanges" "Z" (.int (0 : Int32))) (Fi_changed : Fld Z h0 a1 "com/example/rosterwright/rosterwright/Roster" "changed" "Z" (.int (0 : Int32))) (Fi_keepingChanges : Fld Z h0 a1 "com/example/rosterwright/rosterwright/Roster" "keepingChanges" "Z" (.int (0 : Int32))) (Fi_open : Fld Z h0 a1 "com/example/rosterwright/rosterwright/Roster" "open" "Lcom/example/rosterwright/rosterwright/Roster$Change;" .null) (g_a1 : n0 ≤ a1) :
    MetFree l (⟨"com/example/rosterwright/rosterwright/Roster", "<init>", "()V"⟩ : MethodName) (head1 (Jvm.Cond.code (⟨"com/example/rosterwright/rosterwright/Roster", "<init>", "()V"⟩ : MethodName) prog_65_method_1_code 1 none :: ws) ({ frames := 6, cells := 5, slots := 37, locals := 87 } : Room)) (fun a U => a = #[(.ref a1)] ∧ Z.Warmed39 U.vm ∧ U.heap = h0) (fun _ _ _ _ _ => True) (fun _ U o U' => ∃ v L, o = .returned v ∧ own_rm1_Q Z a1  h0 n0 v U'.heap L ∧ FrameEnd U o U' L ({ frames := 6, cells := 5, slots := 37, locals := 87 } : Room).cells ({ frames := 6, cells := 5, slots := 37, locals := 87 } : Room).slots) := by
  refine MetFree.of_bodySF (plainFor_of_name own_pn9) hisR ?_
  intro p e s m args below meth c s₁ Bd hml0 hP hK
  obtain ⟨rfl, hZ, hh⟩ := hP
  have hx := Bd.exec
  have hby := Bd.bytes
  have hml : c.maxLocals = 1 := hml0
  have hown : s.vm.findClass "com/example/rosterwright/rosterwright/Roster" = some m.cls := findClass_of_methodNamed Bd.named
  have hnm := (name_of_methodNamed Bd.named Bd.method).1
  have hlk : meth.locks = false := BodyLoose.notSynchronized Bd
  have X0 : Stand p l e ({ frames := 6, cells := 5, slots := 37, locals := 87 } : Room) s m #[(.ref a1)] below meth c s₁ [] 0 0 := Stand.of_body Bd
  have e0 : s₁.heap = h0 := by rw [← hh, Bd.state]; rfl
  have N0 := Fr.nil n0
  have K0 : Keep h0 h0 [a1] := Keep.refl h0 [a1]
  show own_Fin p e below (own_P (own_rm1_Q Z a1  h0 n0) s ({ frames := 6, cells := 5, slots := 37, locals := 87 } : Room).cells ({ frames := 6, cells := 5, slots := 37, locals := 87 } : Room).slots) (s₁.setTop (entryFrame m #[(.ref a1)] 1))
  refine own_via (g' := s₁.setTop (mkF m 0 #[.val (.ref a1)] [])) (fun t k => castTop (ef_own_rm1 m a1) k) ?_
  refine own_via (g' := s₁.setTop (mkF m 1 #[.val (.ref a1)] [(.ref a1)])) (fun t k => XS.aloadN X0.here hx rfl (hb hby own_d1_0) rfl (rfl) k) ?_
  obtain ⟨T101, X101, e101, st101⟩ := initO X0 hx hZ hown (hw _ (List.mem_of_getElem? (i := 6) rfl)) (hw _ (List.mem_of_getElem? (i := 7) rfl)) (hw _ (List.mem_of_getElem? (i := 8) rfl)) e0 (g := (mkF m 1 #[.val (.ref a1)] [(.ref a1)])) rfl (by rw [hml]; rfl) rfl (hb hby own_d1_1) (by decide) (W := 0) (by show 2 * 0 + _ ≤ _; exact Nat.le_of_eq rfl) (by decide)
  refine own_via (g' := T101.setTop (mkF m 4 #[.val (.ref a1)] [])) (fun t k => st101 _ k) ?_
  refine own_via (g' := T101.setTop (mkF m 5 #[.val (.ref a1)] [(.ref a1)])) (fun t k => XS.aloadN X101.here hx rfl (hb hby own_d1_4) rfl (rfl) k) ?_
  obtain ⟨T102, h102, X102, e102, E102, A102, D102, -, st102⟩ := newO X101 hx hZ hown (hw _ (List.mem_of_getElem? (i := 9) rfl)) (hw _ (List.mem_of_getElem? (i := 10) rfl)) (hw _ (List.mem_of_getElem? (i := 11) rfl)) e101 (g := (mkF m 5 #[.val (.ref a1)] [(.ref a1)])) rfl (hb hby own_d1_5) (by decide) (by decide)
  obtain ⟨b102, g102⟩ : ∃ z, z = h0.size := ⟨_, rfl⟩
  rw [← g102] at A102 D102 st102
  have ne_a1_b102 : a1 ≠ b102 := Nat.ne_of_lt (Nat.lt_of_lt_of_le E_a1.lt (Nat.le_of_eq g102.symm))
  have sz_b102 : h0.size ≤ b102 := Nat.le_trans K0.1 (Nat.le_of_eq g102.symm)
  have g_b102 : n0 ≤ b102 := Nat.le_trans Z0 sz_b102
  have Kc102 : Keep h0 h102 [a1] := K0.ext E102
  have F102_24 : Fld Z h102 b102 "java/util/HashMap" "loadFactor" "F" (.float (0 : UInt32)) := D102 (Or.inr (hw _ (List.mem_of_getElem? (i := 24) rfl))) (ty := .float) (by decide)
  refine own_via (g' := T102.setTop (mkF m 8 #[.val (.ref a1)] [(.ref b102), (.ref a1)])) (fun t k => st102 _ k) ?_
  refine own_via (g' := T102.setTop (mkF m 9 #[.val (.ref a1)] [(.ref b102), (.ref b102), (.ref a1)])) (fun t k => XS.dup X102.here hx rfl (hb hby own_d1_8) rfl (rfl) k) ?_
  obtain ⟨v103, _, ⟨T103, L103, k103, n103⟩, -, X103, ⟨Lc103, hQ103, l103, y103, z103⟩, st103⟩ := X102.specialBack hx (y := (⟨"java/util/HashMap", "<init>", "()V"⟩ : MethodName)) rfl hown (mvT hZ (hw _ (List.mem_of_getElem? (i := 12) rfl))) (mvT hZ (hw _ (List.mem_of_getElem? (i := 13) rfl))) (mvT hZ (hw _ (List.mem_of_getElem? (i := 14) rfl))) (by decide) (backOf (W := 2) (own_rm3 l Z a0 hw [] b102 h102 n0 (Nat.le_trans Z0 Kc102.1) A102 F102_24 g_b102) hZ (hw _ (List.mem_of_getElem? (i := 14) rfl)) (hw _ (List.mem_of_getElem? (i := 11) rfl)) (by decide) (by decide)) (g := (mkF m 9 #[.val (.ref a1)] [(.ref b102), (.ref b102), (.ref a1)])) rfl (by rw [hml]; rfl) (Steps.refl _) (a := b102) (argsL := []) (rest := [(.ref b102), (.ref a1)]) (lenOf own_pd0 rfl) rfl (by show 2 * 0 + _ ≤ _; exact Nat.le_of_eq rfl) (hb hby own_d1_9) (fun _ _ => ⟨rfl, e102, (by decide : 1 + 0 ≤ _), (by decide : 8 + 0 ≤ _)⟩)
  dsimp only [Pt.U, Pt.locs, Pt.cells, Pt.slots] at X103 l103 y103 z103 st103 hQ103
  subst l103 y103 z103
  obtain ⟨rfl, N103q, K103, A103, Fa103_0⟩ := hQ103
  have Kc103 : Keep h0 T103.heap [a1] := Kc102.trans K103 (allS (Or.inr sz_b102) all0)
  have N103 := Fr.app N0 N103q
  refine own_via (g' := T103.setTop (mkF m 12 #[.val (.ref a1)] [(.ref b102), (.ref a1)])) (fun t k => st103.trans k) ?_
  obtain ⟨T104, h104, X104, e104, W104, st104⟩ := putF X103 hx hZ hown (host := "") (Or.inl (hw _ (List.mem_of_getElem? (i := 25) rfl))) Via.refl rfl ((Fi_byDn.ext E102).keep K103 (ninS ne_a1_b102 nin0)) ((E_a1.ext E102).keep K103) (Or.inr ⟨(hw _ (List.mem_of_getElem? (i := 26) rfl)), rfl, hnm⟩) (hw _ (List.mem_of_getElem? (i := 1) rfl)) (ty := (.object "java/util/Map")) (by decide) rfl rfl (g := (mkF m 12 #[.val (.ref a1)] [(.ref b102), (.ref a1)])) rfl rfl (hb hby own_d1_12)
  have F104 : Fld Z h104 a1 "com/example/rosterwright/rosterwright/Roster" "byDn" "Ljava/util/Map;" (.ref b102) := ((Fi_byDn.ext E102).keep K103 (ninS ne_a1_b102 nin0)).same W104
  have Kc104 : Keep h0 h104 [a1] := Kc103.wr W104 (Or.inl (List.mem_of_getElem? (i := 0) rfl))
  have N104 := Fr.snoc X104 N103 g_a1
  refine own_via (g' := T104.setTop (mkF m 15 #[.val (.ref a1)] [])) (fun t k => st104 _ k) ?_
  refine own_via (g' := T104.setTop (mkF m 16 #[.val (.ref a1)] [(.ref a1)])) (fun t k => XS.aloadN X104.here hx rfl (hb hby own_d1_15) rfl (rfl) k) ?_
  obtain ⟨T105, h105, X105, e105, E105, A105, D105, -, st105⟩ := newO X104 hx hZ hown (hw _ (List.mem_of_getElem? (i := 9) rfl)) (hw _ (List.mem_of_getElem? (i := 10) rfl)) (hw _ (List.mem_of_getElem? (i := 11) rfl)) e104 (g := (mkF m 16 #[.val (.ref a1)] [(.ref a1)])) rfl (hb hby own_d1_16) (by decide) (by decide)
  obtain ⟨b105, g105⟩ : ∃ z, z = h104.size := ⟨_, rfl⟩
  rw [← g105] at A105 D105 st105
  have ne_a1_b105 : a1 ≠ b105 := Nat.ne_of_lt (Nat.lt_of_lt_of_le (((E_a1.ext E102).keep K103).wr W104).lt (Nat.le_of_eq g105.symm))
  have ne_b102_b105 : b102 ≠ b105 := Nat.ne_of_lt (Nat.lt_of_lt_of_le (A103.wr W104).lt (Nat.le_of_eq g105.symm))
  have sz_b105 : h0.size ≤ b105 := Nat.le_trans Kc104.1 (Nat.le_of_eq g105.symm)
  have g_b105 : n0 ≤ b105 := Nat.le_trans Z0 sz_b105
  have Kc105 : Keep h0 h105 [a1] := Kc104.ext E105
  have F105_24 : Fld Z h105 b105 "java/util/HashMap" "loadFactor" "F" (.float (0 : UInt32)) := D105 (Or.inr (hw _ (List.mem_of_getElem? (i := 24) rfl))) (ty := .float) (by decide)
  refine own_via (g' := T105.setTop (mkF m 19 #[.val (.ref a1)] [(.ref b105), (.ref a1)])) (fun t k => st105 _ k) ?_
  refine own_via (g' := T105.setTop (mkF m 20 #[.val (.ref a1)] [(.ref b105), (.ref b105), (.ref a1)])) (fun t k => XS.dup X105.here hx rfl (hb hby own_d1_19) rfl (rfl) k) ?_
  obtain ⟨v106, _, ⟨T106, L106, k106, n106⟩, -, X106, ⟨Lc106, hQ106, l106, y106, z106⟩, st106⟩ := X105.specialBack hx (y := (⟨"java/util/HashMap", "<init>", "()V"⟩ : MethodName)) rfl hown (mvT hZ (hw _ (List.mem_of_getElem? (i := 12) rfl))) (mvT hZ (hw _ (List.mem_of_getElem? (i := 13) rfl))) (mvT hZ (hw _ (List.mem_of_getElem? (i := 14) rfl))) (by decide) (backOf (W := 2) (own_rm3 l Z a0 hw [] b105 h105 n0 (Nat.le_trans Z0 Kc105.1) A105 F105_24 g_b105) hZ (hw _ (List.mem_of_getElem? (i := 14) rfl)) (hw _ (List.mem_of_getElem? (i := 11) rfl)) (by decide) (by decide)) (g := (mkF m 20 #[.val (.ref a1)] [(.ref b105), (.ref b105), (.ref a1)])) rfl (by rw [hml]; rfl) (Steps.refl _) (a := b105) (argsL := []) (rest := [(.ref b105), (.ref a1)]) (lenOf own_pd0 rfl) rfl (by show 2 * 0 + _ ≤ _; exact Nat.le_of_eq rfl) (hb hby own_d1_20) (fun _ _ => ⟨rfl, e105, (by decide : 2 + 0 ≤ _), (by decide : 16 + 0 ≤ _)⟩)
  dsimp only [Pt.U, Pt.locs, Pt.cells, Pt.slots] at X106 l106 y106 z106 st106 hQ106
  subst l106 y106 z106
  obtain ⟨rfl, N106q, K106, A106, Fa106_0⟩ := hQ106
  have Kc106 : Keep h0 T106.heap [a1] := Kc105.trans K106 (allS (Or.inr sz_b105) all0)
  have N106 := Fr.app N104 N106q
  refine own_via (g' := T106.setTop (mkF m 23 #[.val (.ref a1)] [(.ref b105), (.ref a1)])) (fun t k => st106.trans k) ?_
  obtain ⟨T107, h107, X107, e107, W107, st107⟩ := putF X106 hx hZ hown (host := "") (Or.inl (hw _ (List.mem_of_getElem? (i := 27) rfl))) Via.refl rfl (((((Fi_byAssociation.ext E102).keep K103 (ninS ne_a1_b102 nin0)).other W104 (Or.inr (slot_ne (Or.inr (hw _ (List.mem_of_getElem? (i := 28) rfl))) (Or.inr (hw _ (List.mem_of_getElem? (i := 26) rfl))) (by decide) (t := (.object "java/util/Map")) (t' := (.object "java/util/Map")) (by decide) (by decide)))).ext E105).keep K106 (ninS ne_a1_b105 nin0)) (((((E_a1.ext E102).keep K103).wr W104).ext E105).keep K106) (Or.inr ⟨(hw _ (List.mem_of_getElem? (i := 28) rfl)), rfl, hnm⟩) (hw _ (List.mem_of_getElem? (i := 1) rfl)) (ty := (.object "java/util/Map")) (by decide) rfl rfl (g := (mkF m 23 #[.val (.ref a1)] [(.ref b105), (.ref a1)])) rfl rfl (hb hby own_d1_23)
  have F107 : Fld Z h107 a1 "com/example/rosterwright/rosterwright/Roster" "byAssociation" "Ljava/util/Map;" (.ref b105) := (((((Fi_byAssociation.ext E102).keep K103 (ninS ne_a1_b102 nin0)).other W104 (Or.inr (slot_ne (Or.inr (hw _ (List.mem_of_getElem? (i := 28) rfl))) (Or.inr (hw _ (List.mem_of_getElem? (i := 26) rfl))) (by decide) (t := (.object "java/util/Map")) (t' := (.object "java/util/Map")) (by decide) (by decide)))).ext E105).keep K106 (ninS ne_a1_b105 nin0)).same W107
  have Kc107 : Keep h0 h107 [a1] := Kc106.wr W107 (Or.inl (List.mem_of_getElem? (i := 0) rfl))
  have N107 := Fr.snoc X107 N106 g_a1
  refine own_via (g' := T107.setTop (mkF m 26 #[.val (.ref a1)] [])) (fun t k => st107 _ k) ?_
  refine own_via (g' := T107.setTop (mkF m 27 #[.val (.ref a1)] [(.ref a1)])) (fun t k => XS.aloadN X107.here hx rfl (hb hby own_d1_26) rfl (rfl) k) ?_
  obtain ⟨T108, h108, X108, e108, E108, A108, D108, -, st108⟩ := newO X107 hx hZ hown (hw _ (List.mem_of_getElem? (i := 9) rfl)) (hw _ (List.mem_of_getElem? (i := 10) rfl)) (hw _ (List.mem_of_getElem? (i := 11) rfl)) e107 (g := (mkF m 27 #[.val (.ref a1)] [(.ref a1)])) rfl (hb hby own_d1_27) (by decide) (by decide)
  obtain ⟨b108, g108⟩ : ∃ z, z = h107.size := ⟨_, rfl⟩
  rw [← g108] at A108 D108 st108
  have ne_a1_b108 : a1 ≠ b108 := Nat.ne_of_lt (Nat.lt_of_lt_of_le ((((((E_a1.ext E102).keep K103).wr W104).ext E105).keep K106).wr W107).lt (Nat.le_of_eq g108.symm))
  have ne_b102_b108 : b102 ≠ b108 := Nat.ne_of_lt (Nat.lt_of_lt_of_le ((((A103.wr W104).ext E105).keep K106).wr W107).lt (Nat.le_of_eq g108.symm))
  have ne_b105_b108 : b105 ≠ b108 := Nat.ne_of_lt (Nat.lt_of_lt_of_le (A106.wr W107).lt (Nat.le_of_eq g108.symm))
  have sz_b108 : h0.size ≤ b108 := Nat.le_trans Kc107.1 (Nat.le_of_eq g108.symm)
  have g_b108 : n0 ≤ b108 := Nat.le_trans Z0 sz_b108
  have Kc108 : Keep h0 h108 [a1] := Kc107.ext E108
  have F108_24 : Fld Z h108 b108 "java/util/HashMap" "loadFactor" "F" (.float (0 : UInt32)) := D108 (Or.inr (hw _ (List.mem_of_getElem? (i := 24) rfl))) (ty := .float) (by decide)
  refine own_via (g' := T108.setTop (mkF m 30 #[.val (.ref a1)] [(.ref b108), (.ref a1)])) (fun t k => st108 _ k) ?_
  refine own_via (g' := T108.setTop (mkF m 31 #[.val (.ref a1)] [(.ref b108), (.ref b108), (.ref a1)])) (fun t k => XS.dup X108.here hx rfl (hb hby own_d1_30) rfl (rfl) k) ?_
  obtain ⟨v109, _, ⟨T109, L109, k109, n109⟩, -, X109, ⟨Lc109, hQ109, l109, y109, z109⟩, st109⟩ := X108.specialBack hx (y := (⟨"java/util/HashMap", "<init>", "()V"⟩ : MethodName)) rfl hown (mvT hZ (hw _ (List.mem_of_getElem? (i := 12) rfl))) (mvT hZ (hw _ (List.mem_of_getElem? (i := 13) rfl))) (mvT hZ (hw _ (List.mem_of_getElem? (i := 14) rfl))) (by decide) (backOf (W := 2) (own_rm3 l Z a0 hw [] b108 h108 n0 (Nat.le_trans Z0 Kc108.1) A108 F108_24 g_b108) hZ (hw _ (List.mem_of_getElem? (i := 14) rfl)) (hw _ (List.mem_of_getElem? (i := 11) rfl)) (by decide) (by decide)) (g := (mkF m 31 #[.val (.ref a1)] [(.ref b108), (.ref b108), (.ref a1)])) rfl (by rw [hml]; rfl) (Steps.refl _) (a := b108) (argsL := []) (rest := [(.ref b108), (.ref a1)]) (lenOf own_pd0 rfl) rfl (by show 2 * 0 + _ ≤ _; exact Nat.le_of_eq rfl) (hb hby own_d1_31) (fun _ _ => ⟨rfl, e108, (by decide : 3 + 0 ≤ _), (by decide : 24 + 0 ≤ _)⟩)
  dsimp only [Pt.U, Pt.locs, Pt.cells, Pt.slots] at X109 l109 y109 z109 st109 hQ109
  subst l109 y109 z109
  obtain ⟨rfl, N109q, K109, A109, Fa109_0⟩ := hQ109
  have Kc109 : Keep h0 T109.heap [a1] := Kc108.trans K109 (allS (Or.inr sz_b108) all0)
  have N109 := Fr.app N107 N109q
  refine own_via (g' := T109.setTop (mkF m 34 #[.val (.ref a1)] [(.ref b108), (.ref a1)])) (fun t k => st109.trans k) ?_
  obtain ⟨T110, h110, X110, e110, W110, st110⟩ := putF X109 hx hZ hown (host := "") (Or.inl (hw _ (List.mem_of_getElem? (i := 29) rfl))) Via.refl rfl ((((((((Fi_byValue.ext E102).keep K103 (ninS ne_a1_b102 nin0)).other W104 (Or.inr (slot_ne (Or.inr (hw _ (List.mem_of_getElem? (i := 30) rfl))) (Or.inr (hw _ (List.mem_of_getElem? (i := 26) rfl))) (by decide) (t := (.object "java/util/Map")) (t' := (.object "java/util/Map")) (by decide) (by decide)))).ext E105).keep K106 (ninS ne_a1_b105 nin0)).other W107 (Or.inr (slot_ne (Or.inr (hw _ (List.mem_of_getElem? (i := 30) rfl))) (Or.inr (hw _ (List.mem_of_getElem? (i := 28) rfl))) (by decide) (t := (.object "java/util/Map")) (t' := (.object "java/util/Map")) (by decide) (by decide)))).ext E108).keep K109 (ninS ne_a1_b108 nin0)) ((((((((E_a1.ext E102).keep K103).wr W104).ext E105).keep K106).wr W107).ext E108).keep K109) (Or.inr ⟨(hw _ (List.mem_of_getElem? (i := 30) rfl)), rfl, hnm⟩) (hw _ (List.mem_of_getElem? (i := 1) rfl)) (ty := (.object "java/util/Map")) (by decide) rfl rfl (g := (mkF m 34 #[.val (.ref a1)] [(.ref b108), (.ref a1)])) rfl rfl (hb hby own_d1_34)
  have F110 : Fld Z h110 a1 "com/example/rosterwright/rosterwright/Roster" "byValue" "Ljava/util/Map;" (.ref b108) := ((((((((Fi_byValue.ext E102).keep K103 (ninS ne_a1_b102 nin0)).other W104 (Or.inr (slot_ne (Or.inr (hw _ (List.mem_of_getElem? (i := 30) rfl))) (Or.inr (hw _ (List.mem_of_getElem? (i := 26) rfl))) (by decide) (t := (.object "java/util/Map")) (t' := (.object "java/util/Map")) (by decide) (by decide)))).ext E105).keep K106 (ninS ne_a1_b105 nin0)).other W107 (Or.inr (slot_ne (Or.inr (hw _ (List.mem_of_getElem? (i := 30) rfl))) (Or.inr (hw _ (List.mem_of_getElem? (i := 28) rfl))) (by decide) (t := (.object "java/util/Map")) (t' := (.object "java/util/Map")) (by decide) (by decide)))).ext E108).keep K109 (ninS ne_a1_b108 nin0)).same W110
  have Kc110 : Keep h0 h110 [a1] := Kc109.wr W110 (Or.inl (List.mem_of_getElem? (i := 0) rfl))
  have N110 := Fr.snoc X110 N109 g_a1
  refine own_via (g' := T110.setTop (mkF m 37 #[.val (.ref a1)] [])) (fun t k => st110 _ k) ?_
  refine own_via (g' := T110.setTop (mkF m 38 #[.val (.ref a1)] [(.ref a1)])) (fun t k => XS.aloadN X110.here hx rfl (hb hby own_d1_37) rfl (rfl) k) ?_
  obtain ⟨T111, h111, X111, e111, E111, A111, D111, -, st111⟩ := newO X110 hx hZ hown (hw _ (List.mem_of_getElem? (i := 31) rfl)) (hw _ (List.mem_of_getElem? (i := 32) rfl)) (hw _ (List.mem_of_getElem? (i := 33) rfl)) e110 (g := (mkF m 38 #[.val (.ref a1)] [(.ref a1)])) rfl (hb hby own_d1_38) (by decide) (by decide)
  obtain ⟨b111, g111⟩ : ∃ z, z = h110.size := ⟨_, rfl⟩
  rw [← g111] at A111 D111 st111
  have ne_a1_b111 : a1 ≠ b111 := Nat.ne_of_lt (Nat.lt_of_lt_of_le (((((((((E_a1.ext E102).keep K103).wr W104).ext E105).keep K106).wr W107).ext E108).keep K109).wr W110).lt (Nat.le_of_eq g111.symm))
  have ne_b102_b111 : b102 ≠ b111 := Nat.ne_of_lt (Nat.lt_of_lt_of_le (((((((A103.wr W104).ext E105).keep K106).wr W107).ext E108).keep K109).wr W110).lt (Nat.le_of_eq g111.symm))
  have ne_b105_b111 : b105 ≠ b111 := Nat.ne_of_lt (Nat.lt_of_lt_of_le ((((A106.wr W107).ext E108).keep K109).wr W110).lt (Nat.le_of_eq g111.symm))
  have ne_b108_b111 : b108 ≠ b111 := Nat.ne_of_lt (Nat.lt_of_lt_of_le (A109.wr W110).lt (Nat.le_of_eq g111.symm))
  have sz_b111 : h0.size ≤ b111 := Nat.le_trans Kc110.1 (Nat.le_of_eq g111.symm)
  have g_b111 : n0 ≤ b111 := Nat.le_trans Z0 sz_b111
  have Kc111 : Keep h0 h111 [a1] := Kc110.ext E111
  have F111_91 : Fld Z h111 b111 "java/util/HashSet" "map" "Ljava/util/HashMap;" .null := D111 (Or.inl (hw _ (List.mem_of_getElem? (i := 91) rfl))) (ty := (.object "java/util/HashMap")) (by decide)
  refine own_via (g' := T111.setTop (mkF m 41 #[.val (.ref a1)] [(.ref b111), (.ref a1)])) (fun t k => st111 _ k) ?_
  refine own_via (g' := T111.setTop (mkF m 42 #[.val (.ref a1)] [(.ref b111), (.ref b111), (.ref a1)])) (fun t k => XS.dup X111.here hx rfl (hb hby own_d1_41) rfl (rfl) k) ?_
  obtain ⟨v112, _, ⟨T112, L112, k112, n112⟩, -, X112, ⟨Lc112, hQ112, l112, y112, z112⟩, st112⟩ := X111.specialBack hx (y := (⟨"java/util/LinkedHashSet", "<init>", "()V"⟩ : MethodName)) rfl hown (mvT hZ (hw _ (List.mem_of_getElem? (i := 34) rfl))) (mvT hZ (hw _ (List.mem_of_getElem? (i := 35) rfl))) (mvT hZ (hw _ (List.mem_of_getElem? (i := 36) rfl))) (by decide) (backOf (W := 2) (own_rm5 l Z a0 hw [] b111 h111 n0 (Nat.le_trans Z0 Kc111.1) A111 F111_91 g_b111) hZ (hw _ (List.mem_of_getElem? (i := 36) rfl)) (hw _ (List.mem_of_getElem? (i := 33) rfl)) (by decide) (by decide)) (g := (mkF m 42 #[.val (.ref a1)] [(.ref b111), (.ref b111), (.ref a1)])) rfl (by rw [hml]; rfl) (Steps.refl _) (a := b111) (argsL := []) (rest := [(.ref b111), (.ref a1)]) (lenOf own_pd0 rfl) rfl (by show 2 * 0 + _ ≤ _; exact Nat.le_of_eq rfl) (hb hby own_d1_42) (fun _ _ => ⟨rfl, e111, (by decide : 4 + 1 ≤ _), (by decide : 25 + 12 ≤ _)⟩)
  dsimp only [Pt.U, Pt.locs, Pt.cells, Pt.slots] at X112 l112 y112 z112 st112 hQ112
  subst l112 y112 z112
  obtain ⟨rfl, N112q, K112, A112⟩ := hQ112
  have Kc112 : Keep h0 T112.heap [a1] := Kc111.trans K112 (allS (Or.inr sz_b111) all0)
  have N112 := Fr.app N110 N112q
  refine own_via (g' := T112.setTop (mkF m 45 #[.val (.ref a1)] [(.ref b111), (.ref a1)])) (fun t k => st112.trans k) ?_
  obtain ⟨T113, h113, X113, e113, W113, st113⟩ := putF X112 hx hZ hown (host := "") (Or.inl (hw _ (List.mem_of_getElem? (i := 92) rfl))) Via.refl rfl (((((((((((Fi_pending.ext E102).keep K103 (ninS ne_a1_b102 nin0)).other W104 (Or.inr (slot_ne (Or.inr (hw _ (List.mem_of_getElem? (i := 93) rfl))) (Or.inr (hw _ (List.mem_of_getElem? (i := 26) rfl))) (by decide) (t := (.object "java/util/Set")) (t' := (.object "java/util/Map")) (by decide) (by decide)))).ext E105).keep K106 (ninS ne_a1_b105 nin0)).other W107 (Or.inr (slot_ne (Or.inr (hw _ (List.mem_of_getElem? (i := 93) rfl))) (Or.inr (hw _ (List.mem_of_getElem? (i := 28) rfl))) (by decide) (t := (.object "java/util/Set")) (t' := (.object "java/util/Map")) (by decide) (by decide)))).ext E108).keep K109 (ninS ne_a1_b108 nin0)).other W110 (Or.inr (slot_ne (Or.inr (hw _ (List.mem_of_getElem? (i := 93) rfl))) (Or.inr (hw _ (List.mem_of_getElem? (i := 30) rfl))) (by decide) (t := (.object "java/util/Set")) (t' := (.object "java/util/Map")) (by decide) (by decide)))).ext E111).keep K112 (ninS ne_a1_b111 nin0)) (((((((((((E_a1.ext E102).keep K103).wr W104).ext E105).keep K106).wr W107).ext E108).keep K109).wr W110).ext E111).keep K112) (Or.inr ⟨(hw _ (List.mem_of_getElem? (i := 93) rfl)), rfl, hnm⟩) (hw _ (List.mem_of_getElem? (i := 1) rfl)) (ty := (.object "java/util/Set")) (by decide) rfl rfl (g := (mkF m 45 #[.val (.ref a1)] [(.ref b111), (.ref a1)])) rfl rfl (hb hby own_d1_45)
  have F113 : Fld Z h113 a1 "com/example/rosterwright/rosterwright/Roster" "pending" "Ljava/util/Set;" (.ref b111) := (((((((((((Fi_pending.ext E102).keep K103 (ninS ne_a1_b102 nin0)).other W104 (Or.inr (slot_ne (Or.inr (hw _ (List.mem_of_getElem? (i := 93) rfl))) (Or.inr (hw _ (List.mem_of_getElem? (i := 26) rfl))) (by decide) (t := (.object "java/util/Set")) (t' := (.object "java/util/Map")) (by decide) (by decide)))).ext E105).keep K106 (ninS ne_a1_b105 nin0)).other W107 (Or.inr (slot_ne (Or.inr (hw _ (List.mem_of_getElem? (i := 93) rfl))) (Or.inr (hw _ (List.mem_of_getElem? (i := 28) rfl))) (by decide) (t := (.object "java/util/Set")) (t' := (.object "java/util/Map")) (by decide) (by decide)))).ext E108).keep K109 (ninS ne_a1_b108 nin0)).other W110 (Or.inr (slot_ne (Or.inr (hw _ (List.mem_of_getElem? (i := 93) rfl))) (Or.inr (hw _ (List.mem_of_getElem? (i := 30) rfl))) (by decide) (t := (.object "java/util/Set")) (t' := (.object "java/util/Map")) (by decide) (by decide)))).ext E111).keep K112 (ninS ne_a1_b111 nin0)).same W113
  have Kc113 : Keep h0 h113 [a1] := Kc112.wr W113 (Or.inl (List.mem_of_getElem? (i := 0) rfl))
  have N113 := Fr.snoc X113 N112 g_a1
  refine own_via (g' := T113.setTop (mkF m 48 #[.val (.ref a1)] [])) (fun t k => st113 _ k) ?_
  have eE : T113.heap = h113 := e113
  exact own_retV X113 hx hlk Bd.returns (hb hby own_d1_48) ⟨rfl, N113, (by rw [eE]; exact Kc113), (by rw [eE]; exact ((((((((((((E_a1.ext E102).keep K103).wr W104).ext E105).keep K106).wr W107).ext E108).keep K109).wr W110).ext E111).keep K112).wr W113)), (by rw [eE]; exact ((((((((((((Fi_keepsChanges.ext E102).keep K103 (ninS ne_a1_b102 nin0)).other W104 (Or.inr (slot_ne (Or.inl (hw _ (List.mem_of_getElem? (i := 100) rfl))) (Or.inr (hw _ (List.mem_of_getElem? (i := 26) rfl))) (by decide) (t := .boolean) (t' := (.object "java/util/Map")) (by decide) (by decide)))).ext E105).keep K106 (ninS ne_a1_b105 nin0)).other W107 (Or.inr (slot_ne (Or.inl (hw _ (List.mem_of_getElem? (i := 100) rfl))) (Or.inr (hw _ (List.mem_of_getElem? (i := 28) rfl))) (by decide) (t := .boolean) (t' := (.object "java/util/Map")) (by decide) (by decide)))).ext E108).keep K109 (ninS ne_a1_b108 nin0)).other W110 (Or.inr (slot_ne (Or.inl (hw _ (List.mem_of_getElem? (i := 100) rfl))) (Or.inr (hw _ (List.mem_of_getElem? (i := 30) rfl))) (by decide) (t := .boolean) (t' := (.object "java/util/Map")) (by decide) (by decide)))).ext E111).keep K112 (ninS ne_a1_b111 nin0)).other W113 (Or.inr (slot_ne (Or.inl (hw _ (List.mem_of_getElem? (i := 100) rfl))) (Or.inr (hw _ (List.mem_of_getElem? (i := 93) rfl))) (by decide) (t := .boolean) (t' := (.object "java/util/Set")) (by decide) (by decide))))), (by rw [eE]; exact ((((((((((((Fi_changed.ext E102).keep K103 (ninS ne_a1_b102 nin0)).other W104 (Or.inr (slot_ne (Or.inl (hw _ (List.mem_of_getElem? (i := 107) rfl))) (Or.inr (hw _ (List.mem_of_getElem? (i := 26) rfl))) (by decide) (t := .boolean) (t' := (.object "java/util/Map")) (by decide) (by decide)))).ext E105).keep K106 (ninS ne_a1_b105 nin0)).other W107 (Or.inr (slot_ne (Or.inl (hw _ (List.mem_of_getElem? (i := 107) rfl))) (Or.inr (hw _ (List.mem_of_getElem? (i := 28) rfl))) (by decide) (t := .boolean) (t' := (.object "java/util/Map")) (by decide) (by decide)))).ext E108).keep K109 (ninS ne_a1_b108 nin0)).other W110 (Or.inr (slot_ne (Or.inl (hw _ (List.mem_of_getElem? (i := 107) rfl))) (Or.inr (hw _ (List.mem_of_getElem? (i := 30) rfl))) (by decide) (t := .boolean) (t' := (.object "java/util/Map")) (by decide) (by decide)))).ext E111).keep K112 (ninS ne_a1_b111 nin0)).other W113 (Or.inr (slot_ne (Or.inl (hw _ (List.mem_of_getElem? (i := 107) rfl))) (Or.inr (hw _ (List.mem_of_getElem? (i := 93) rfl))) (by decide) (t := .boolean) (t' := (.object "java/util/Set")) (by decide) (by decide))))), (by rw [eE]; exact ((((((((((((Fi_keepingChanges.ext E102).keep K103 (ninS ne_a1_b102 nin0)).other W104 (Or.inr (slot_ne (Or.inl (hw _ (List.mem_of_getElem? (i := 114) rfl))) (Or.inr (hw _ (List.mem_of_getElem? (i := 26) rfl))) (by decide) (t := .boolean) (t' := (.object "java/util/Map")) (by decide) (by decide)))).ext E105).keep K106 (ninS ne_a1_b105 nin0)).other W107 (Or.inr (slot_ne (Or.inl (hw _ (List.mem_of_getElem? (i := 114) rfl))) (Or.inr (hw _ (List.mem_of_getElem? (i := 28) rfl))) (by decide) (t := .boolean) (t' := (.object "java/util/Map")) (by decide) (by decide)))).ext E108).keep K109 (ninS ne_a1_b108 nin0)).other W110 (Or.inr (slot_ne (Or.inl (hw _ (List.mem_of_getElem? (i := 114) rfl))) (Or.inr (hw _ (List.mem_of_getElem? (i := 30) rfl))) (by decide) (t := .boolean) (t' := (.object "java/util/Map")) (by decide) (by decide)))).ext E111).keep K112 (ninS ne_a1_b111 nin0)).other W113 (Or.inr (slot_ne (Or.inl (hw _ (List.mem_of_getElem? (i := 114) rfl))) (Or.inr (hw _ (List.mem_of_getElem? (i := 93) rfl))) (by decide) (t := .boolean) (t' := (.object "java/util/Set")) (by decide) (by decide))))), (by rw [eE]; exact ((((((((((((Fi_open.ext E102).keep K103 (ninS ne_a1_b102 nin0)).other W104 (Or.inr (slot_ne (Or.inl (hw _ (List.mem_of_getElem? (i := 116) rfl))) (Or.inr (hw _ (List.mem_of_getElem? (i := 26) rfl))) (by decide) (t := (.object "com/example/rosterwright/rosterwright/Roster$Change")) (t' := (.object "java/util/Map")) (by decide) (by decide)))).ext E105).keep K106 (ninS ne_a1_b105 nin0)).other W107 (Or.inr (slot_ne (Or.inl (hw _ (List.mem_of_getElem? (i := 116) rfl))) (Or.inr (hw _ (List.mem_of_getElem? (i := 28) rfl))) (by decide) (t := (.object "com/example/rosterwright/rosterwright/Roster$Change")) (t' := (.object "java/util/Map")) (by decide) (by decide)))).ext E108).keep K109 (ninS ne_a1_b108 nin0)).other W110 (Or.inr (slot_ne (Or.inl (hw _ (List.mem_of_getElem? (i := 116) rfl))) (Or.inr (hw _ (List.mem_of_getElem? (i := 30) rfl))) (by decide) (t := (.object "com/example/rosterwright/rosterwright/Roster$Change")) (t' := (.object "java/util/Map")) (by decide) (by decide)))).ext E111).keep K112 (ninS ne_a1_b111 nin0)).other W113 (Or.inr (slot_ne (Or.inl (hw _ (List.mem_of_getElem? (i := 116) rfl))) (Or.inr (hw _ (List.mem_of_getElem? (i := 93) rfl))) (by decide) (t := (.object "com/example/rosterwright/rosterwright/Roster$Change")) (t' := (.object "java/util/Set")) (by decide) (by decide)))))⟩ (by decide) (by decide)
def own_kc (k : Int32) : Int32 := if k = 0 then 1 else k
def own_ch (k c : Int32) : Int32 := if k = 0 then 1 else c
theorem own_d17_0 : decode prog_65_method_18_code 0 = .ok (.aload_n 0, 1) := by decide +kernel
theorem own_d17_1 : decode prog_65_method_18_code 1 = .ok (.iconst 0, 1) := by decide +kernel
theorem own_d17_2 : decode prog_65_method_18_code 2 = .ok (.putfield 142, 3) := by decide +kernel
theorem own_d17_5 : decode prog_65_method_18_code 5 = .ok (.return_, 1) := by decide +kernel
theorem ef_own_rm17 (m : MethodId) (a1 : Addr) : entryFrame m #[(.ref a1)] 1 = mkF m 0 #[.val (.ref a1)] [] := by first | (simp [entryFrame, mkF, argsToLocals, Value.category]; done) | rfl
def own_rm17_Q (Z : State) (a1 : Addr) (kc : Int32) (ch : Int32) (kg : Int32) (h0 : Heap) (n0 : Nat) (v : Option Value) (h : Heap) (L : List Loc) : Prop := v = none ∧ Fr n0 L ∧ Keep h0 h [a1] ∧ Exa Z h a1 "com/example/rosterwright/rosterwright/Roster" ∧ Fld Z h a1 "com/example/rosterwright/rosterwright/Roster" "keepsChanges" "Z" (.int kc) ∧ Fld Z h a1 "com/example/rosterwright/rosterwright/Roster" "changed" "Z" (.int (0 : Int32)) ∧ Fld Z h a1 "com/example/rosterwright/rosterwright/Roster" "keepingChanges" "Z" (.int kg) ∧ Fld Z h a1 "com/example/rosterwright/rosterwright/Roster" "open" "Lcom/example/rosterwright/rosterwright/Roster$Change;" .null
set_option maxRecDepth 65536 in
set_option maxHeartbeats 40000000 in
theorem own_rm17 (l : Launch) (Z : State) (a0 : Array Value) (hw : ∀ d ∈ tables_1, d.before a0 Z = true) (ws : List Jvm.Cond) (a1 : Addr) (kc : Int32) (ch : Int32) (kg : Int32) (h0 : Heap) (n0 : Nat) (Z0 : n0 ≤ h0.size) (E_a1 : Exa Z h0 a1 "com/example/rosterwright/rosterwright/Roster") (Fi_keepsChanges : Fld Z h0 a1 "com/example/rosterwright/rosterwright/Roster" "keepsChanges" "Z" (.int kc)) (Fi_changed : Fld Z h0 a1 "com/example/rosterwright/rosterwright/Roster" "changed" "Z" (.int ch)) (Fi_keepingChanges : Fld Z h0 a1 "com/example/rosterwright/rosterwright/Roster" "keepingChanges" "Z" (.int kg)) (Fi_open : Fld Z h0 a1 "com/example/rosterwright/rosterwright/Roster" "open" "Lcom/example/rosterwright/rosterwright/Roster$Change;" .null) (g_a1 : n0 ≤ a1) :
    MetFree l (⟨"com/example/rosterwright/rosterwright/Roster", "markKept", "()V"⟩ : MethodName) (head1 (Jvm.Cond.code (⟨"com/example/rosterwright/rosterwright/Roster", "markKept", "()V"⟩ : MethodName) prog_65_method_18_code 1 none :: ws) ({ frames := 0, cells := 0, slots := 0, locals := 0 } : Room)) (fun a U => a = #[(.ref a1)] ∧ Z.Warmed39 U.vm ∧ U.heap = h0) (fun _ _ _ _ _ => True) (fun _ U o U' => ∃ v L, o = .returned v ∧ own_rm17_Q Z a1 kc ch kg h0 n0 v U'.heap L ∧ FrameEnd U o U' L ({ frames := 0, cells := 0, slots := 0, locals := 0 } : Room).cells ({ frames := 0, cells := 0, slots := 0, locals := 0 } : Room).slots) := by
  refine MetFree.of_bodySF (plainFor_of_name own_pn9) hisR ?_
  intro p e s m args below meth c s₁ Bd hml0 hP hK
  obtain ⟨rfl, hZ, hh⟩ := hP
  have hx := Bd.exec
  have hby := Bd.bytes
  have hml : c.maxLocals = 1 := hml0
  have hown : s.vm.findClass "com/example/rosterwright/rosterwright/Roster" = some m.cls := findClass_of_methodNamed Bd.named
  have hnm := (name_of_methodNamed Bd.named Bd.method).1
  have hlk : meth.locks = false := BodyLoose.notSynchronized Bd
  have X0 : Stand p l e ({ frames := 0, cells := 0, slots := 0, locals := 0 } : Room) s m #[(.ref a1)] below meth c s₁ [] 0 0 := Stand.of_body Bd
  have e0 : s₁.heap = h0 := by rw [← hh, Bd.state]; rfl
  have N0 := Fr.nil n0
  have K0 : Keep h0 h0 [a1] := Keep.refl h0 [a1]
  show own_Fin p e below (own_P (own_rm17_Q Z a1 kc ch kg h0 n0) s ({ frames := 0, cells := 0, slots := 0, locals := 0 } : Room).cells ({ frames := 0, cells := 0, slots := 0, locals := 0 } : Room).slots) (s₁.setTop (entryFrame m #[(.ref a1)] 1))
  refine own_via (g' := s₁.setTop (mkF m 0 #[.val (.ref a1)] [])) (fun t k => castTop (ef_own_rm17 m a1) k) ?_
  refine own_via (g' := s₁.setTop (mkF m 1 #[.val (.ref a1)] [(.ref a1)])) (fun t k => XS.aloadN X0.here hx rfl (hb hby own_d17_0) rfl (rfl) k) ?_
  refine own_via (g' := s₁.setTop (mkF m 2 #[.val (.ref a1)] [(.int (0 : Int32)), (.ref a1)])) (fun t k => XS.iconst X0.here hx rfl (hb hby own_d17_1) k) ?_
  obtain ⟨T101, h101, X101, e101, W101, st101⟩ := putFN X0 hx hZ hown (hw _ (List.mem_of_getElem? (i := 106) rfl)) Via.refl e0 Fi_changed E_a1 (Or.inl (hw _ (List.mem_of_getElem? (i := 107) rfl))) (hw _ (List.mem_of_getElem? (i := 1) rfl)) (ty := .boolean) (v' := (.int (0 : Int32))) (by decide) rfl rfl (g := (mkF m 2 #[.val (.ref a1)] [(.int (0 : Int32)), (.ref a1)])) rfl rfl (hb hby own_d17_2)
  have F101 : Fld Z h101 a1 "com/example/rosterwright/rosterwright/Roster" "changed" "Z" (.int (0 : Int32)) := Fi_changed.same W101
  have Kc101 : Keep h0 h101 [a1] := K0.wr W101 (Or.inl (List.mem_of_getElem? (i := 0) rfl))
  have N101 := Fr.snoc X101 N0 g_a1
  refine own_via (g' := T101.setTop (mkF m 5 #[.val (.ref a1)] [])) (fun t k => st101 _ k) ?_
  have eE : T101.heap = h101 := e101
  exact own_retV X101 hx hlk Bd.returns (hb hby own_d17_5) ⟨rfl, N101, (by rw [eE]; exact Kc101), (by rw [eE]; exact (E_a1.wr W101)), (by rw [eE]; exact (Fi_keepsChanges.other W101 (Or.inr (slot_ne (Or.inl (hw _ (List.mem_of_getElem? (i := 100) rfl))) (Or.inl (hw _ (List.mem_of_getElem? (i := 107) rfl))) (by decide) (t := .boolean) (t' := .boolean) (by decide) (by decide))))), (by rw [eE]; exact F101), (by rw [eE]; exact (Fi_keepingChanges.other W101 (Or.inr (slot_ne (Or.inl (hw _ (List.mem_of_getElem? (i := 114) rfl))) (Or.inl (hw _ (List.mem_of_getElem? (i := 107) rfl))) (by decide) (t := .boolean) (t' := .boolean) (by decide) (by decide))))), (by rw [eE]; exact (Fi_open.other W101 (Or.inr (slot_ne (Or.inl (hw _ (List.mem_of_getElem? (i := 116) rfl))) (Or.inl (hw _ (List.mem_of_getElem? (i := 107) rfl))) (by decide) (t := (.object "com/example/rosterwright/rosterwright/Roster$Change")) (t' := .boolean) (by decide) (by decide)))))⟩ (by decide) (by decide)
theorem own_d18_0 : decode prog_65_method_21_code 0 = .ok (.aload_n 0, 1) := by decide +kernel
theorem own_d18_1 : decode prog_65_method_21_code 1 = .ok (.iconst 0, 1) := by decide +kernel
theorem own_d18_2 : decode prog_65_method_21_code 2 = .ok (.putfield 277, 3) := by decide +kernel
theorem own_d18_5 : decode prog_65_method_21_code 5 = .ok (.aload_n 0, 1) := by decide +kernel
theorem own_d18_6 : decode prog_65_method_21_code 6 = .ok (.aconst_null, 1) := by decide +kernel
theorem own_d18_7 : decode prog_65_method_21_code 7 = .ok (.putfield 280, 3) := by decide +kernel
theorem own_d18_10 : decode prog_65_method_21_code 10 = .ok (.return_, 1) := by decide +kernel
theorem ef_own_rm18 (m : MethodId) (a1 : Addr) : entryFrame m #[(.ref a1)] 1 = mkF m 0 #[.val (.ref a1)] [] := by first | (simp [entryFrame, mkF, argsToLocals, Value.category]; done) | rfl
def own_rm18_Q (Z : State) (a1 : Addr) (kc : Int32) (ch : Int32) (kg : Int32) (h0 : Heap) (n0 : Nat) (v : Option Value) (h : Heap) (L : List Loc) : Prop := v = none ∧ Fr n0 L ∧ Keep h0 h [a1] ∧ Exa Z h a1 "com/example/rosterwright/rosterwright/Roster" ∧ Fld Z h a1 "com/example/rosterwright/rosterwright/Roster" "keepsChanges" "Z" (.int kc) ∧ Fld Z h a1 "com/example/rosterwright/rosterwright/Roster" "changed" "Z" (.int ch) ∧ Fld Z h a1 "com/example/rosterwright/rosterwright/Roster" "keepingChanges" "Z" (.int (0 : Int32)) ∧ Fld Z h a1 "com/example/rosterwright/rosterwright/Roster" "open" "Lcom/example/rosterwright/rosterwright/Roster$Change;" .null
set_option maxRecDepth 65536 in
set_option maxHeartbeats 40000000 in
theorem own_rm18 (l : Launch) (Z : State) (a0 : Array Value) (hw : ∀ d ∈ tables_1, d.before a0 Z = true) (ws : List Jvm.Cond) (a1 : Addr) (kc : Int32) (ch : Int32) (kg : Int32) (h0 : Heap) (n0 : Nat) (Z0 : n0 ≤ h0.size) (E_a1 : Exa Z h0 a1 "com/example/rosterwright/rosterwright/Roster") (Fi_keepsChanges : Fld Z h0 a1 "com/example/rosterwright/rosterwright/Roster" "keepsChanges" "Z" (.int kc)) (Fi_changed : Fld Z h0 a1 "com/example/rosterwright/rosterwright/Roster" "changed" "Z" (.int ch)) (Fi_keepingChanges : Fld Z h0 a1 "com/example/rosterwright/rosterwright/Roster" "keepingChanges" "Z" (.int kg)) (Fi_open : Fld Z h0 a1 "com/example/rosterwright/rosterwright/Roster" "open" "Lcom/example/rosterwright/rosterwright/Roster$Change;" .null) (g_a1 : n0 ≤ a1) :
    MetFree l (⟨"com/example/rosterwright/rosterwright/Roster", "keepNoChangesNow", "()V"⟩ : MethodName) (head1 (Jvm.Cond.code (⟨"com/example/rosterwright/rosterwright/Roster", "keepNoChangesNow", "()V"⟩ : MethodName) prog_65_method_21_code 1 none :: ws) ({ frames := 0, cells := 0, slots := 0, locals := 0 } : Room)) (fun a U => a = #[(.ref a1)] ∧ Z.Warmed39 U.vm ∧ U.heap = h0) (fun _ _ _ _ _ => True) (fun _ U o U' => ∃ v L, o = .returned v ∧ own_rm18_Q Z a1 kc ch kg h0 n0 v U'.heap L ∧ FrameEnd U o U' L ({ frames := 0, cells := 0, slots := 0, locals := 0 } : Room).cells ({ frames := 0, cells := 0, slots := 0, locals := 0 } : Room).slots) := by
  refine MetFree.of_bodySF (plainFor_of_name own_pn9) hisR ?_
  intro p e s m args below meth c s₁ Bd hml0 hP hK
  obtain ⟨rfl, hZ, hh⟩ := hP
  have hx := Bd.exec
  have hby := Bd.bytes
  have hml : c.maxLocals = 1 := hml0
  have hown : s.vm.findClass "com/example/rosterwright/rosterwright/Roster" = some m.cls := findClass_of_methodNamed Bd.named
  have hnm := (name_of_methodNamed Bd.named Bd.method).1
  have hlk : meth.locks = false := BodyLoose.notSynchronized Bd
  have X0 : Stand p l e ({ frames := 0, cells := 0, slots := 0, locals := 0 } : Room) s m #[(.ref a1)] below meth c s₁ [] 0 0 := Stand.of_body Bd
  have e0 : s₁.heap = h0 := by rw [← hh, Bd.state]; rfl
  have N0 := Fr.nil n0
  have K0 : Keep h0 h0 [a1] := Keep.refl h0 [a1]
  show own_Fin p e below (own_P (own_rm18_Q Z a1 kc ch kg h0 n0) s ({ frames := 0, cells := 0, slots := 0, locals := 0 } : Room).cells ({ frames := 0, cells := 0, slots := 0, locals := 0 } : Room).slots) (s₁.setTop (entryFrame m #[(.ref a1)] 1))
  refine own_via (g' := s₁.setTop (mkF m 0 #[.val (.ref a1)] [])) (fun t k => castTop (ef_own_rm18 m a1) k) ?_
  refine own_via (g' := s₁.setTop (mkF m 1 #[.val (.ref a1)] [(.ref a1)])) (fun t k => XS.aloadN X0.here hx rfl (hb hby own_d18_0) rfl (rfl) k) ?_
  refine own_via (g' := s₁.setTop (mkF m 2 #[.val (.ref a1)] [(.int (0 : Int32)), (.ref a1)])) (fun t k => XS.iconst X0.here hx rfl (hb hby own_d18_1) k) ?_
  obtain ⟨T101, h101, X101, e101, W101, st101⟩ := putFN X0 hx hZ hown (hw _ (List.mem_of_getElem? (i := 113) rfl)) Via.refl e0 Fi_keepingChanges E_a1 (Or.inl (hw _ (List.mem_of_getElem? (i := 114) rfl))) (hw _ (List.mem_of_getElem? (i := 1) rfl)) (ty := .boolean) (v' := (.int (0 : Int32))) (by decide) rfl rfl (g := (mkF m 2 #[.val (.ref a1)] [(.int (0 : Int32)), (.ref a1)])) rfl rfl (hb hby own_d18_2)
  have F101 : Fld Z h101 a1 "com/example/rosterwright/rosterwright/Roster" "keepingChanges" "Z" (.int (0 : Int32)) := Fi_keepingChanges.same W101
  have Kc101 : Keep h0 h101 [a1] := K0.wr W101 (Or.inl (List.mem_of_getElem? (i := 0) rfl))
  have N101 := Fr.snoc X101 N0 g_a1
  refine own_via (g' := T101.setTop (mkF m 5 #[.val (.ref a1)] [])) (fun t k => st101 _ k) ?_
  refine own_via (g' := T101.setTop (mkF m 6 #[.val (.ref a1)] [(.ref a1)])) (fun t k => XS.aloadN X101.here hx rfl (hb hby own_d18_5) rfl (rfl) k) ?_
  refine own_via (g' := T101.setTop (mkF m 7 #[.val (.ref a1)] [.null, (.ref a1)])) (fun t k => XS.aconstNull X101.here hx rfl (hb hby own_d18_6) k) ?_
  obtain ⟨T102, h102, X102, e102, W102, st102⟩ := putF X101 hx hZ hown (host := "") (Or.inl (hw _ (List.mem_of_getElem? (i := 115) rfl))) Via.refl e101 (Fi_open.other W101 (Or.inr (slot_ne (Or.inl (hw _ (List.mem_of_getElem? (i := 116) rfl))) (Or.inl (hw _ (List.mem_of_getElem? (i := 114) rfl))) (by decide) (t := (.object "com/example/rosterwright/rosterwright/Roster$Change")) (t' := .boolean) (by decide) (by decide)))) (E_a1.wr W101) (Or.inl (hw _ (List.mem_of_getElem? (i := 116) rfl))) (hw _ (List.mem_of_getElem? (i := 1) rfl)) (ty := (.object "com/example/rosterwright/rosterwright/Roster$Change")) (by decide) rfl rfl (g := (mkF m 7 #[.val (.ref a1)] [.null, (.ref a1)])) rfl rfl (hb hby own_d18_7)
  have F102 : Fld Z h102 a1 "com/example/rosterwright/rosterwright/Roster" "open" "Lcom/example/rosterwright/rosterwright/Roster$Change;" .null := (Fi_open.other W101 (Or.inr (slot_ne (Or.inl (hw _ (List.mem_of_getElem? (i := 116) rfl))) (Or.inl (hw _ (List.mem_of_getElem? (i := 114) rfl))) (by decide) (t := (.object "com/example/rosterwright/rosterwright/Roster$Change")) (t' := .boolean) (by decide) (by decide)))).same W102
  have Kc102 : Keep h0 h102 [a1] := Kc101.wr W102 (Or.inl (List.mem_of_getElem? (i := 0) rfl))
  have N102 := Fr.snoc X102 N101 g_a1
  refine own_via (g' := T102.setTop (mkF m 10 #[.val (.ref a1)] [])) (fun t k => st102 _ k) ?_
  have eE : T102.heap = h102 := e102
  exact own_retV X102 hx hlk Bd.returns (hb hby own_d18_10) ⟨rfl, N102, (by rw [eE]; exact Kc102), (by rw [eE]; exact ((E_a1.wr W101).wr W102)), (by rw [eE]; exact ((Fi_keepsChanges.other W101 (Or.inr (slot_ne (Or.inl (hw _ (List.mem_of_getElem? (i := 100) rfl))) (Or.inl (hw _ (List.mem_of_getElem? (i := 114) rfl))) (by decide) (t := .boolean) (t' := .boolean) (by decide) (by decide)))).other W102 (Or.inr (slot_ne (Or.inl (hw _ (List.mem_of_getElem? (i := 100) rfl))) (Or.inl (hw _ (List.mem_of_getElem? (i := 116) rfl))) (by decide) (t := .boolean) (t' := (.object "com/example/rosterwright/rosterwright/Roster$Change")) (by decide) (by decide))))), (by rw [eE]; exact ((Fi_changed.other W101 (Or.inr (slot_ne (Or.inl (hw _ (List.mem_of_getElem? (i := 107) rfl))) (Or.inl (hw _ (List.mem_of_getElem? (i := 114) rfl))) (by decide) (t := .boolean) (t' := .boolean) (by decide) (by decide)))).other W102 (Or.inr (slot_ne (Or.inl (hw _ (List.mem_of_getElem? (i := 107) rfl))) (Or.inl (hw _ (List.mem_of_getElem? (i := 116) rfl))) (by decide) (t := .boolean) (t' := (.object "com/example/rosterwright/rosterwright/Roster$Change")) (by decide) (by decide))))), (by rw [eE]; exact (F101.other W102 (Or.inr (slot_ne (Or.inl (hw _ (List.mem_of_getElem? (i := 114) rfl))) (Or.inl (hw _ (List.mem_of_getElem? (i := 116) rfl))) (by decide) (t := .boolean) (t' := (.object "com/example/rosterwright/rosterwright/Roster$Change")) (by decide) (by decide))))), (by rw [eE]; exact F102)⟩ (by decide) (by decide)
theorem own_d16_0 : decode prog_65_method_19_code 0 = .ok (.aload_n 0, 1) := by decide +kernel
theorem own_d16_1 : decode prog_65_method_19_code 1 = .ok (.getfield 274, 3) := by decide +kernel
theorem own_d16_4 : decode prog_65_method_19_code 4 = .ok (.ifCond .ne 13, 3) := by decide +kernel
theorem own_d16_7 : decode prog_65_method_19_code 7 = .ok (.aload_n 0, 1) := by decide +kernel
theorem own_d16_8 : decode prog_65_method_19_code 8 = .ok (.iconst 1, 1) := by decide +kernel
theorem own_d16_9 : decode prog_65_method_19_code 9 = .ok (.putfield 274, 3) := by decide +kernel
theorem own_d16_12 : decode prog_65_method_19_code 12 = .ok (.aload_n 0, 1) := by decide +kernel
theorem own_d16_13 : decode prog_65_method_19_code 13 = .ok (.iconst 1, 1) := by decide +kernel
theorem own_d16_14 : decode prog_65_method_19_code 14 = .ok (.putfield 142, 3) := by decide +kernel
theorem own_d16_17 : decode prog_65_method_19_code 17 = .ok (.aload_n 0, 1) := by decide +kernel
theorem own_d16_18 : decode prog_65_method_19_code 18 = .ok (.iconst 1, 1) := by decide +kernel
theorem own_d16_19 : decode prog_65_method_19_code 19 = .ok (.putfield 277, 3) := by decide +kernel
theorem own_d16_22 : decode prog_65_method_19_code 22 = .ok (.aload_n 0, 1) := by decide +kernel
theorem own_d16_23 : decode prog_65_method_19_code 23 = .ok (.aconst_null, 1) := by decide +kernel
theorem own_d16_24 : decode prog_65_method_19_code 24 = .ok (.putfield 280, 3) := by decide +kernel
theorem own_d16_27 : decode prog_65_method_19_code 27 = .ok (.return_, 1) := by decide +kernel
theorem ef_own_rm16 (m : MethodId) (a1 : Addr) : entryFrame m #[(.ref a1)] 1 = mkF m 0 #[.val (.ref a1)] [] := by first | (simp [entryFrame, mkF, argsToLocals, Value.category]; done) | rfl
def own_rm16_Q (Z : State) (a1 : Addr) (kc : Int32) (ch : Int32) (kg : Int32) (h0 : Heap) (n0 : Nat) (v : Option Value) (h : Heap) (L : List Loc) : Prop := v = none ∧ Fr n0 L ∧ Keep h0 h [a1] ∧ Exa Z h a1 "com/example/rosterwright/rosterwright/Roster" ∧ Fld Z h a1 "com/example/rosterwright/rosterwright/Roster" "keepsChanges" "Z" (.int (own_kc kc)) ∧ Fld Z h a1 "com/example/rosterwright/rosterwright/Roster" "changed" "Z" (.int (own_ch kc ch)) ∧ Fld Z h a1 "com/example/rosterwright/rosterwright/Roster" "keepingChanges" "Z" (.int (1 : Int32)) ∧ Fld Z h a1 "com/example/rosterwright/rosterwright/Roster" "open" "Lcom/example/rosterwright/rosterwright/Roster$Change;" .null
set_option maxRecDepth 65536 in
set_option maxHeartbeats 40000000 in
theorem own_rm16 (l : Launch) (Z : State) (a0 : Array Value) (hw : ∀ d ∈ tables_1, d.before a0 Z = true) (ws : List Jvm.Cond) (a1 : Addr) (kc : Int32) (ch : Int32) (kg : Int32) (h0 : Heap) (n0 : Nat) (Z0 : n0 ≤ h0.size) (E_a1 : Exa Z h0 a1 "com/example/rosterwright/rosterwright/Roster") (Fi_keepsChanges : Fld Z h0 a1 "com/example/rosterwright/rosterwright/Roster" "keepsChanges" "Z" (.int kc)) (Fi_changed : Fld Z h0 a1 "com/example/rosterwright/rosterwright/Roster" "changed" "Z" (.int ch)) (Fi_keepingChanges : Fld Z h0 a1 "com/example/rosterwright/rosterwright/Roster" "keepingChanges" "Z" (.int kg)) (Fi_open : Fld Z h0 a1 "com/example/rosterwright/rosterwright/Roster" "open" "Lcom/example/rosterwright/rosterwright/Roster$Change;" .null) (g_a1 : n0 ≤ a1) :
    MetFree l (⟨"com/example/rosterwright/rosterwright/Roster", "keepChanges", "()V"⟩ : MethodName) (head1 (Jvm.Cond.code (⟨"com/example/rosterwright/rosterwright/Roster", "keepChanges", "()V"⟩ : MethodName) prog_65_method_19_code 1 none :: ws) ({ frames := 0, cells := 0, slots := 0, locals := 0 } : Room)) (fun a U => a = #[(.ref a1)] ∧ Z.Warmed39 U.vm ∧ U.heap = h0) (fun _ _ _ _ _ => True) (fun _ U o U' => ∃ v L, o = .returned v ∧ own_rm16_Q Z a1 kc ch kg h0 n0 v U'.heap L ∧ FrameEnd U o U' L ({ frames := 0, cells := 0, slots := 0, locals := 0 } : Room).cells ({ frames := 0, cells := 0, slots := 0, locals := 0 } : Room).slots) := by
  refine MetFree.of_bodySF (plainFor_of_name own_pn9) hisR ?_
  intro p e s m args below meth c s₁ Bd hml0 hP hK
  obtain ⟨rfl, hZ, hh⟩ := hP
  have hx := Bd.exec
  have hby := Bd.bytes
  have hml : c.maxLocals = 1 := hml0
  have hown : s.vm.findClass "com/example/rosterwright/rosterwright/Roster" = some m.cls := findClass_of_methodNamed Bd.named
  have hnm := (name_of_methodNamed Bd.named Bd.method).1
  have hlk : meth.locks = false := BodyLoose.notSynchronized Bd
  have X0 : Stand p l e ({ frames := 0, cells := 0, slots := 0, locals := 0 } : Room) s m #[(.ref a1)] below meth c s₁ [] 0 0 := Stand.of_body Bd
  have e0 : s₁.heap = h0 := by rw [← hh, Bd.state]; rfl
  have N0 := Fr.nil n0
  have K0 : Keep h0 h0 [a1] := Keep.refl h0 [a1]
  show own_Fin p e below (own_P (own_rm16_Q Z a1 kc ch kg h0 n0) s ({ frames := 0, cells := 0, slots := 0, locals := 0 } : Room).cells ({ frames := 0, cells := 0, slots := 0, locals := 0 } : Room).slots) (s₁.setTop (entryFrame m #[(.ref a1)] 1))
  refine own_via (g' := s₁.setTop (mkF m 0 #[.val (.ref a1)] [])) (fun t k => castTop (ef_own_rm16 m a1) k) ?_
  refine own_via (g' := s₁.setTop (mkF m 1 #[.val (.ref a1)] [(.ref a1)])) (fun t k => XS.aloadN X0.here hx rfl (hb hby own_d16_0) rfl (rfl) k) ?_
  obtain ⟨T101, X101, e101, st101⟩ := getF X0 hx hZ hown (host := "") (Or.inl (hw _ (List.mem_of_getElem? (i := 99) rfl))) Via.refl e0 Fi_keepsChanges (g := (mkF m 1 #[.val (.ref a1)] [(.ref a1)])) rfl rfl (hb hby own_d16_1)
  refine own_via (g' := T101.setTop (mkF m 4 #[.val (.ref a1)] [(.int kc)])) (fun t k => st101 _ k) ?_
  by_cases hc4_102 : kc = 0
  · refine own_via (g' := T101.setTop (mkF m 7 #[.val (.ref a1)] [])) (fun t k => XS.ifNo X101.here hx rfl (hb hby own_d16_4) rfl (XT.i0_ne_f hc4_102) k) ?_
    refine own_via (g' := T101.setTop (mkF m 8 #[.val (.ref a1)] [(.ref a1)])) (fun t k => XS.aloadN X101.here hx rfl (hb hby own_d16_7) rfl (rfl) k) ?_
    refine own_via (g' := T101.setTop (mkF m 9 #[.val (.ref a1)] [(.int (1 : Int32)), (.ref a1)])) (fun t k => XS.iconst X101.here hx rfl (hb hby own_d16_8) k) ?_
    obtain ⟨T103, h103, X103, e103, W103, st103⟩ := putFN X101 hx hZ hown (hw _ (List.mem_of_getElem? (i := 99) rfl)) Via.refl e101 Fi_keepsChanges E_a1 (Or.inl (hw _ (List.mem_of_getElem? (i := 100) rfl))) (hw _ (List.mem_of_getElem? (i := 1) rfl)) (ty := .boolean) (v' := (.int (1 : Int32))) (by decide) rfl rfl (g := (mkF m 9 #[.val (.ref a1)] [(.int (1 : Int32)), (.ref a1)])) rfl rfl (hb hby own_d16_9)
    have F103 : Fld Z h103 a1 "com/example/rosterwright/rosterwright/Roster" "keepsChanges" "Z" (.int (1 : Int32)) := Fi_keepsChanges.same W103
    have Kc103 : Keep h0 h103 [a1] := K0.wr W103 (Or.inl (List.mem_of_getElem? (i := 0) rfl))
    have N103 := Fr.snoc X103 N0 g_a1
    refine own_via (g' := T103.setTop (mkF m 12 #[.val (.ref a1)] [])) (fun t k => st103 _ k) ?_
    refine own_via (g' := T103.setTop (mkF m 13 #[.val (.ref a1)] [(.ref a1)])) (fun t k => XS.aloadN X103.here hx rfl (hb hby own_d16_12) rfl (rfl) k) ?_
    refine own_via (g' := T103.setTop (mkF m 14 #[.val (.ref a1)] [(.int (1 : Int32)), (.ref a1)])) (fun t k => XS.iconst X103.here hx rfl (hb hby own_d16_13) k) ?_
    obtain ⟨T104, h104, X104, e104, W104, st104⟩ := putFN X103 hx hZ hown (hw _ (List.mem_of_getElem? (i := 106) rfl)) Via.refl e103 (Fi_changed.other W103 (Or.inr (slot_ne (Or.inl (hw _ (List.mem_of_getElem? (i := 107) rfl))) (Or.inl (hw _ (List.mem_of_getElem? (i := 100) rfl))) (by decide) (t := .boolean) (t' := .boolean) (by decide) (by decide)))) (E_a1.wr W103) (Or.inl (hw _ (List.mem_of_getElem? (i := 107) rfl))) (hw _ (List.mem_of_getElem? (i := 1) rfl)) (ty := .boolean) (v' := (.int (1 : Int32))) (by decide) rfl rfl (g := (mkF m 14 #[.val (.ref a1)] [(.int (1 : Int32)), (.ref a1)])) rfl rfl (hb hby own_d16_14)
    have F104 : Fld Z h104 a1 "com/example/rosterwright/rosterwright/Roster" "changed" "Z" (.int (1 : Int32)) := (Fi_changed.other W103 (Or.inr (slot_ne (Or.inl (hw _ (List.mem_of_getElem? (i := 107) rfl))) (Or.inl (hw _ (List.mem_of_getElem? (i := 100) rfl))) (by decide) (t := .boolean) (t' := .boolean) (by decide) (by decide)))).same W104
    have Kc104 : Keep h0 h104 [a1] := Kc103.wr W104 (Or.inl (List.mem_of_getElem? (i := 0) rfl))
    have N104 := Fr.snoc X104 N103 g_a1
    refine own_via (g' := T104.setTop (mkF m 17 #[.val (.ref a1)] [])) (fun t k => st104 _ k) ?_
    refine own_via (g' := T104.setTop (mkF m 18 #[.val (.ref a1)] [(.ref a1)])) (fun t k => XS.aloadN X104.here hx rfl (hb hby own_d16_17) rfl (rfl) k) ?_
    refine own_via (g' := T104.setTop (mkF m 19 #[.val (.ref a1)] [(.int (1 : Int32)), (.ref a1)])) (fun t k => XS.iconst X104.here hx rfl (hb hby own_d16_18) k) ?_
    obtain ⟨T105, h105, X105, e105, W105, st105⟩ := putFN X104 hx hZ hown (hw _ (List.mem_of_getElem? (i := 113) rfl)) Via.refl e104 ((Fi_keepingChanges.other W103 (Or.inr (slot_ne (Or.inl (hw _ (List.mem_of_getElem? (i := 114) rfl))) (Or.inl (hw _ (List.mem_of_getElem? (i := 100) rfl))) (by decide) (t := .boolean) (t' := .boolean) (by decide) (by decide)))).other W104 (Or.inr (slot_ne (Or.inl (hw _ (List.mem_of_getElem? (i := 114) rfl))) (Or.inl (hw _ (List.mem_of_getElem? (i := 107) rfl))) (by decide) (t := .boolean) (t' := .boolean) (by decide) (by decide)))) ((E_a1.wr W103).wr W104) (Or.inl (hw _ (List.mem_of_getElem? (i := 114) rfl))) (hw _ (List.mem_of_getElem? (i := 1) rfl)) (ty := .boolean) (v' := (.int (1 : Int32))) (by decide) rfl rfl (g := (mkF m 19 #[.val (.ref a1)] [(.int (1 : Int32)), (.ref a1)])) rfl rfl (hb hby own_d16_19)
    have F105 : Fld Z h105 a1 "com/example/rosterwright/rosterwright/Roster" "keepingChanges" "Z" (.int (1 : Int32)) := ((Fi_keepingChanges.other W103 (Or.inr (slot_ne (Or.inl (hw _ (List.mem_of_getElem? (i := 114) rfl))) (Or.inl (hw _ (List.mem_of_getElem? (i := 100) rfl))) (by decide) (t := .boolean) (t' := .boolean) (by decide) (by decide)))).other W104 (Or.inr (slot_ne (Or.inl (hw _ (List.mem_of_getElem? (i := 114) rfl))) (Or.inl (hw _ (List.mem_of_getElem? (i := 107) rfl))) (by decide) (t := .boolean) (t' := .boolean) (by decide) (by decide)))).same W105
    have Kc105 : Keep h0 h105 [a1] := Kc104.wr W105 (Or.inl (List.mem_of_getElem? (i := 0) rfl))
    have N105 := Fr.snoc X105 N104 g_a1
    refine own_via (g' := T105.setTop (mkF m 22 #[.val (.ref a1)] [])) (fun t k => st105 _ k) ?_
    refine own_via (g' := T105.setTop (mkF m 23 #[.val (.ref a1)] [(.ref a1)])) (fun t k => XS.aloadN X105.here hx rfl (hb hby own_d16_22) rfl (rfl) k) ?_
    refine own_via (g' := T105.setTop (mkF m 24 #[.val (.ref a1)] [.null, (.ref a1)])) (fun t k => XS.aconstNull X105.here hx rfl (hb hby own_d16_23) k) ?_
    obtain ⟨T106, h106, X106, e106, W106, st106⟩ := putF X105 hx hZ hown (host := "") (Or.inl (hw _ (List.mem_of_getElem? (i := 115) rfl))) Via.refl e105 (((Fi_open.other W103 (Or.inr (slot_ne (Or.inl (hw _ (List.mem_of_getElem? (i := 116) rfl))) (Or.inl (hw _ (List.mem_of_getElem? (i := 100) rfl))) (by decide) (t := (.object "com/example/rosterwright/rosterwright/Roster$Change")) (t' := .boolean) (by decide) (by decide)))).other W104 (Or.inr (slot_ne (Or.inl (hw _ (List.mem_of_getElem? (i := 116) rfl))) (Or.inl (hw _ (List.mem_of_getElem? (i := 107) rfl))) (by decide) (t := (.object "com/example/rosterwright/rosterwright/Roster$Change")) (t' := .boolean) (by decide) (by decide)))).other W105 (Or.inr (slot_ne (Or.inl (hw _ (List.mem_of_getElem? (i := 116) rfl))) (Or.inl (hw _ (List.mem_of_getElem? (i := 114) rfl))) (by decide) (t := (.object "com/example/rosterwright/rosterwright/Roster$Change")) (t' := .boolean) (by decide) (by decide)))) (((E_a1.wr W103).wr W104).wr W105) (Or.inl (hw _ (List.mem_of_getElem? (i := 116) rfl))) (hw _ (List.mem_of_getElem? (i := 1) rfl)) (ty := (.object "com/example/rosterwright/rosterwright/Roster$Change")) (by decide) rfl rfl (g := (mkF m 24 #[.val (.ref a1)] [.null, (.ref a1)])) rfl rfl (hb hby own_d16_24)
    have F106 : Fld Z h106 a1 "com/example/rosterwright/rosterwright/Roster" "open" "Lcom/example/rosterwright/rosterwright/Roster$Change;" .null := (((Fi_open.other W103 (Or.inr (slot_ne (Or.inl (hw _ (List.mem_of_getElem? (i := 116) rfl))) (Or.inl (hw _ (List.mem_of_getElem? (i := 100) rfl))) (by decide) (t := (.object "com/example/rosterwright/rosterwright/Roster$Change")) (t' := .boolean) (by decide) (by decide)))).other W104 (Or.inr (slot_ne (Or.inl (hw _ (List.mem_of_getElem? (i := 116) rfl))) (Or.inl (hw _ (List.mem_of_getElem? (i := 107) rfl))) (by decide) (t := (.object "com/example/rosterwright/rosterwright/Roster$Change")) (t' := .boolean) (by decide) (by decide)))).other W105 (Or.inr (slot_ne (Or.inl (hw _ (List.mem_of_getElem? (i := 116) rfl))) (Or.inl (hw _ (List.mem_of_getElem? (i := 114) rfl))) (by decide) (t := (.object "com/example/rosterwright/rosterwright/Roster$Change")) (t' := .boolean) (by decide) (by decide)))).same W106
    have Kc106 : Keep h0 h106 [a1] := Kc105.wr W106 (Or.inl (List.mem_of_getElem? (i := 0) rfl))
    have N106 := Fr.snoc X106 N105 g_a1
    refine own_via (g' := T106.setTop (mkF m 27 #[.val (.ref a1)] [])) (fun t k => st106 _ k) ?_
    have eE : T106.heap = h106 := e106
    exact own_retV X106 hx hlk Bd.returns (hb hby own_d16_27) ⟨rfl, N106, (by rw [eE]; (first | rw [own_kc, if_pos hc4_102] | rw [own_ch, if_pos hc4_102] | skip); exact Kc106), (by rw [eE]; (first | rw [own_kc, if_pos hc4_102] | rw [own_ch, if_pos hc4_102] | skip); exact ((((E_a1.wr W103).wr W104).wr W105).wr W106)), (by rw [eE]; (first | rw [own_kc, if_pos hc4_102] | rw [own_ch, if_pos hc4_102] | skip); exact (((F103.other W104 (Or.inr (slot_ne (Or.inl (hw _ (List.mem_of_getElem? (i := 100) rfl))) (Or.inl (hw _ (List.mem_of_getElem? (i := 107) rfl))) (by decide) (t := .boolean) (t' := .boolean) (by decide) (by decide)))).other W105 (Or.inr (slot_ne (Or.inl (hw _ (List.mem_of_getElem? (i := 100) rfl))) (Or.inl (hw _ (List.mem_of_getElem? (i := 114) rfl))) (by decide) (t := .boolean) (t' := .boolean) (by decide) (by decide)))).other W106 (Or.inr (slot_ne (Or.inl (hw _ (List.mem_of_getElem? (i := 100) rfl))) (Or.inl (hw _ (List.mem_of_getElem? (i := 116) rfl))) (by decide) (t := .boolean) (t' := (.object "com/example/rosterwright/rosterwright/Roster$Change")) (by decide) (by decide))))), (by rw [eE]; (first | rw [own_kc, if_pos hc4_102] | rw [own_ch, if_pos hc4_102] | skip); exact ((F104.other W105 (Or.inr (slot_ne (Or.inl (hw _ (List.mem_of_getElem? (i := 107) rfl))) (Or.inl (hw _ (List.mem_of_getElem? (i := 114) rfl))) (by decide) (t := .boolean) (t' := .boolean) (by decide) (by decide)))).other W106 (Or.inr (slot_ne (Or.inl (hw _ (List.mem_of_getElem? (i := 107) rfl))) (Or.inl (hw _ (List.mem_of_getElem? (i := 116) rfl))) (by decide) (t := .boolean) (t' := (.object "com/example/rosterwright/rosterwright/Roster$Change")) (by decide) (by decide))))), (by rw [eE]; (first | rw [own_kc, if_pos hc4_102] | rw [own_ch, if_pos hc4_102] | skip); exact (F105.other W106 (Or.inr (slot_ne (Or.inl (hw _ (List.mem_of_getElem? (i := 114) rfl))) (Or.inl (hw _ (List.mem_of_getElem? (i := 116) rfl))) (by decide) (t := .boolean) (t' := (.object "com/example/rosterwright/rosterwright/Roster$Change")) (by decide) (by decide))))), (by rw [eE]; (first | rw [own_kc, if_pos hc4_102] | rw [own_ch, if_pos hc4_102] | skip); exact F106)⟩ (by decide) (by decide)
  · refine own_via (g' := T101.setTop (mkF m 17 #[.val (.ref a1)] [])) (fun t k => XS.ifYes X101.here hx rfl (pc0 := 4) (pc' := 17) rfl (hb hby own_d16_4) rfl (XT.i0_ne_t hc4_102) (by decide) (by decide) k) ?_
    refine own_via (g' := T101.setTop (mkF m 18 #[.val (.ref a1)] [(.ref a1)])) (fun t k => XS.aloadN X101.here hx rfl (hb hby own_d16_17) rfl (rfl) k) ?_
    refine own_via (g' := T101.setTop (mkF m 19 #[.val (.ref a1)] [(.int (1 : Int32)), (.ref a1)])) (fun t k => XS.iconst X101.here hx rfl (hb hby own_d16_18) k) ?_
    obtain ⟨T107, h107, X107, e107, W107, st107⟩ := putFN X101 hx hZ hown (hw _ (List.mem_of_getElem? (i := 113) rfl)) Via.refl e101 Fi_keepingChanges E_a1 (Or.inl (hw _ (List.mem_of_getElem? (i := 114) rfl))) (hw _ (List.mem_of_getElem? (i := 1) rfl)) (ty := .boolean) (v' := (.int (1 : Int32))) (by decide) rfl rfl (g := (mkF m 19 #[.val (.ref a1)] [(.int (1 : Int32)), (.ref a1)])) rfl rfl (hb hby own_d16_19)
    have F107 : Fld Z h107 a1 "com/example/rosterwright/rosterwright/Roster" "keepingChanges" "Z" (.int (1 : Int32)) := Fi_keepingChanges.same W107
    have Kc107 : Keep h0 h107 [a1] := K0.wr W107 (Or.inl (List.mem_of_getElem? (i := 0) rfl))
    have N107 := Fr.snoc X107 N0 g_a1
    refine own_via (g' := T107.setTop (mkF m 22 #[.val (.ref a1)] [])) (fun t k => st107 _ k) ?_
    refine own_via (g' := T107.setTop (mkF m 23 #[.val (.ref a1)] [(.ref a1)])) (fun t k => XS.aloadN X107.here hx rfl (hb hby own_d16_22) rfl (rfl) k) ?_
    refine own_via (g' := T107.setTop (mkF m 24 #[.val (.ref a1)] [.null, (.ref a1)])) (fun t k => XS.aconstNull X107.here hx rfl (hb hby own_d16_23) k) ?_
    obtain ⟨T108, h108, X108, e108, W108, st108⟩ := putF X107 hx hZ hown (host := "") (Or.inl (hw _ (List.mem_of_getElem? (i := 115) rfl))) Via.refl e107 (Fi_open.other W107 (Or.inr (slot_ne (Or.inl (hw _ (List.mem_of_getElem? (i := 116) rfl))) (Or.inl (hw _ (List.mem_of_getElem? (i := 114) rfl))) (by decide) (t := (.object "com/example/rosterwright/rosterwright/Roster$Change")) (t' := .boolean) (by decide) (by decide)))) (E_a1.wr W107) (Or.inl (hw _ (List.mem_of_getElem? (i := 116) rfl))) (hw _ (List.mem_of_getElem? (i := 1) rfl)) (ty := (.object "com/example/rosterwright/rosterwright/Roster$Change")) (by decide) rfl rfl (g := (mkF m 24 #[.val (.ref a1)] [.null, (.ref a1)])) rfl rfl (hb hby own_d16_24)
    have F108 : Fld Z h108 a1 "com/example/rosterwright/rosterwright/Roster" "open" "Lcom/example/rosterwright/rosterwright/Roster$Change;" .null := (Fi_open.other W107 (Or.inr (slot_ne (Or.inl (hw _ (List.mem_of_getElem? (i := 116) rfl))) (Or.inl (hw _ (List.mem_of_getElem? (i := 114) rfl))) (by decide) (t := (.object "com/example/rosterwright/rosterwright/Roster$Change")) (t' := .boolean) (by decide) (by decide)))).same W108
    have Kc108 : Keep h0 h108 [a1] := Kc107.wr W108 (Or.inl (List.mem_of_getElem? (i := 0) rfl))
    have N108 := Fr.snoc X108 N107 g_a1
    refine own_via (g' := T108.setTop (mkF m 27 #[.val (.ref a1)] [])) (fun t k => st108 _ k) ?_
    have eE : T108.heap = h108 := e108
    exact own_retV X108 hx hlk Bd.returns (hb hby own_d16_27) ⟨rfl, N108, (by rw [eE]; (first | rw [own_kc, if_neg hc4_102] | rw [own_ch, if_neg hc4_102] | skip); exact Kc108), (by rw [eE]; (first | rw [own_kc, if_neg hc4_102] | rw [own_ch, if_neg hc4_102] | skip); exact ((E_a1.wr W107).wr W108)), (by rw [eE]; (first | rw [own_kc, if_neg hc4_102] | rw [own_ch, if_neg hc4_102] | skip); exact ((Fi_keepsChanges.other W107 (Or.inr (slot_ne (Or.inl (hw _ (List.mem_of_getElem? (i := 100) rfl))) (Or.inl (hw _ (List.mem_of_getElem? (i := 114) rfl))) (by decide) (t := .boolean) (t' := .boolean) (by decide) (by decide)))).other W108 (Or.inr (slot_ne (Or.inl (hw _ (List.mem_of_getElem? (i := 100) rfl))) (Or.inl (hw _ (List.mem_of_getElem? (i := 116) rfl))) (by decide) (t := .boolean) (t' := (.object "com/example/rosterwright/rosterwright/Roster$Change")) (by decide) (by decide))))), (by rw [eE]; (first | rw [own_kc, if_neg hc4_102] | rw [own_ch, if_neg hc4_102] | skip); exact ((Fi_changed.other W107 (Or.inr (slot_ne (Or.inl (hw _ (List.mem_of_getElem? (i := 107) rfl))) (Or.inl (hw _ (List.mem_of_getElem? (i := 114) rfl))) (by decide) (t := .boolean) (t' := .boolean) (by decide) (by decide)))).other W108 (Or.inr (slot_ne (Or.inl (hw _ (List.mem_of_getElem? (i := 107) rfl))) (Or.inl (hw _ (List.mem_of_getElem? (i := 116) rfl))) (by decide) (t := .boolean) (t' := (.object "com/example/rosterwright/rosterwright/Roster$Change")) (by decide) (by decide))))), (by rw [eE]; (first | rw [own_kc, if_neg hc4_102] | rw [own_ch, if_neg hc4_102] | skip); exact (F107.other W108 (Or.inr (slot_ne (Or.inl (hw _ (List.mem_of_getElem? (i := 114) rfl))) (Or.inl (hw _ (List.mem_of_getElem? (i := 116) rfl))) (by decide) (t := .boolean) (t' := (.object "com/example/rosterwright/rosterwright/Roster$Change")) (by decide) (by decide))))), (by rw [eE]; (first | rw [own_kc, if_neg hc4_102] | rw [own_ch, if_neg hc4_102] | skip); exact F108)⟩ (by decide) (by decide)
theorem own_d14_0 : decode prog_65_method_20_code 0 = .ok (.aload_n 0, 1) := by decide +kernel
theorem own_d14_1 : decode prog_65_method_20_code 1 = .ok (.getfield 274, 3) := by decide +kernel
theorem own_d14_4 : decode prog_65_method_20_code 4 = .ok (.ireturn, 1) := by decide +kernel
theorem ef_own_rm14 (m : MethodId) (a1 : Addr) : entryFrame m #[(.ref a1)] 1 = mkF m 0 #[.val (.ref a1)] [] := by first | (simp [entryFrame, mkF, argsToLocals, Value.category]; done) | rfl
def own_rm14_Q (Z : State) (a1 : Addr) (p1 : Int32) (h0 : Heap) (n0 : Nat) (v : Option Value) (h : Heap) (L : List Loc) : Prop := v = some (.int (p1)) ∧ Fr n0 L ∧ h = h0
set_option maxRecDepth 65536 in
set_option maxHeartbeats 40000000 in
theorem own_rm14 (l : Launch) (Z : State) (a0 : Array Value) (hw : ∀ d ∈ tables_1, d.before a0 Z = true) (ws : List Jvm.Cond) (a1 : Addr) (p1 : Int32) (h0 : Heap) (n0 : Nat) (Z0 : n0 ≤ h0.size) (Fi_0 : Fld Z h0 a1 "com/example/rosterwright/rosterwright/Roster" "keepsChanges" "Z" (.int p1)) (hbit : (p1 = 0 ∨ p1 = 1)) :
    MetFree l (⟨"com/example/rosterwright/rosterwright/Roster", "keepsChanges", "()Z"⟩ : MethodName) (head1 (Jvm.Cond.code (⟨"com/example/rosterwright/rosterwright/Roster", "keepsChanges", "()Z"⟩ : MethodName) prog_65_method_20_code 1 (some .boolean) :: ws) ({ frames := 0, cells := 0, slots := 0, locals := 0 } : Room)) (fun a U => a = #[(.ref a1)] ∧ Z.Warmed39 U.vm ∧ U.heap = h0) (fun _ _ _ _ _ => True) (fun _ U o U' => ∃ v L, o = .returned v ∧ own_rm14_Q Z a1 p1 h0 n0 v U'.heap L ∧ FrameEnd U o U' L ({ frames := 0, cells := 0, slots := 0, locals := 0 } : Room).cells ({ frames := 0, cells := 0, slots := 0, locals := 0 } : Room).slots) := by
  refine MetFree.of_bodySF (plainFor_of_name own_pn9) hisR ?_
  intro p e s m args below meth c s₁ Bd hml0 hP hK
  obtain ⟨rfl, hZ, hh⟩ := hP
  have hx := Bd.exec
  have hby := Bd.bytes
  have hml : c.maxLocals = 1 := hml0
  have hown : s.vm.findClass "com/example/rosterwright/rosterwright/Roster" = some m.cls := findClass_of_methodNamed Bd.named
  have hnm := (name_of_methodNamed Bd.named Bd.method).1
  have hlk : meth.locks = false := BodyLoose.notSynchronized Bd
  have X0 : Stand p l e ({ frames := 0, cells := 0, slots := 0, locals := 0 } : Room) s m #[(.ref a1)] below meth c s₁ [] 0 0 := Stand.of_body Bd
  have e0 : s₁.heap = h0 := by rw [← hh, Bd.state]; rfl
  have N0 := Fr.nil n0
  have K0 : Keep h0 h0 [] := Keep.refl h0 []
  show own_Fin p e below (own_P (own_rm14_Q Z a1 p1 h0 n0) s ({ frames := 0, cells := 0, slots := 0, locals := 0 } : Room).cells ({ frames := 0, cells := 0, slots := 0, locals := 0 } : Room).slots) (s₁.setTop (entryFrame m #[(.ref a1)] 1))
  refine own_via (g' := s₁.setTop (mkF m 0 #[.val (.ref a1)] [])) (fun t k => castTop (ef_own_rm14 m a1) k) ?_
  refine own_via (g' := s₁.setTop (mkF m 1 #[.val (.ref a1)] [(.ref a1)])) (fun t k => XS.aloadN X0.here hx rfl (hb hby own_d14_0) rfl (rfl) k) ?_
  obtain ⟨T101, X101, e101, st101⟩ := getF X0 hx hZ hown (host := "") (Or.inl (hw _ (List.mem_of_getElem? (i := 99) rfl))) Via.refl e0 Fi_0 (g := (mkF m 1 #[.val (.ref a1)] [(.ref a1)])) rfl rfl (hb hby own_d14_1)
  refine own_via (g' := T101.setTop (mkF m 4 #[.val (.ref a1)] [(.int p1)])) (fun t k => st101 _ k) ?_
  exact own_retB X101 hx hlk (t := .boolean) Bd.returns (by simp) (hb hby own_d14_4) ⟨(by rcases hbit with rfl | rfl <;> rfl), N0, e101⟩ (by decide) (by decide)
theorem own_d15_0 : decode prog_65_method_17_code 0 = .ok (.aload_n 0, 1) := by decide +kernel
theorem own_d15_1 : decode prog_65_method_17_code 1 = .ok (.getfield 142, 3) := by decide +kernel
theorem own_d15_4 : decode prog_65_method_17_code 4 = .ok (.ireturn, 1) := by decide +kernel
theorem ef_own_rm15 (m : MethodId) (a1 : Addr) : entryFrame m #[(.ref a1)] 1 = mkF m 0 #[.val (.ref a1)] [] := by first | (simp [entryFrame, mkF, argsToLocals, Value.category]; done) | rfl
def own_rm15_Q (Z : State) (a1 : Addr) (p1 : Int32) (h0 : Heap) (n0 : Nat) (v : Option Value) (h : Heap) (L : List Loc) : Prop := v = some (.int (p1)) ∧ Fr n0 L ∧ h = h0
set_option maxRecDepth 65536 in
set_option maxHeartbeats 40000000 in
theorem own_rm15 (l : Launch) (Z : State) (a0 : Array Value) (hw : ∀ d ∈ tables_1, d.before a0 Z = true) (ws : List Jvm.Cond) (a1 : Addr) (p1 : Int32) (h0 : Heap) (n0 : Nat) (Z0 : n0 ≤ h0.size) (Fi_0 : Fld Z h0 a1 "com/example/rosterwright/rosterwright/Roster" "changed" "Z" (.int p1)) (hbit : (p1 = 0 ∨ p1 = 1)) :
    MetFree l (⟨"com/example/rosterwright/rosterwright/Roster", "isChanged", "()Z"⟩ : MethodName) (head1 (Jvm.Cond.code (⟨"com/example/rosterwright/rosterwright/Roster", "isChanged", "()Z"⟩ : MethodName) prog_65_method_17_code 1 (some .boolean) :: ws) ({ frames := 0, cells := 0, slots := 0, locals := 0 } : Room)) (fun a U => a = #[(.ref a1)] ∧ Z.Warmed39 U.vm ∧ U.heap = h0) (fun _ _ _ _ _ => True) (fun _ U o U' => ∃ v L, o = .returned v ∧ own_rm15_Q Z a1 p1 h0 n0 v U'.heap L ∧ FrameEnd U o U' L ({ frames := 0, cells := 0, slots := 0, locals := 0 } : Room).cells ({ frames := 0, cells := 0, slots := 0, locals := 0 } : Room).slots) := by
  refine MetFree.of_bodySF (plainFor_of_name own_pn9) hisR ?_
  intro p e s m args below meth c s₁ Bd hml0 hP hK
  obtain ⟨rfl, hZ, hh⟩ := hP
  have hx := Bd.exec
  have hby := Bd.bytes
  have hml : c.maxLocals = 1 := hml0
  have hown : s.vm.findClass "com/example/rosterwright/rosterwright/Roster" = some m.cls := findClass_of_methodNamed Bd.named
  have hnm := (name_of_methodNamed Bd.named Bd.method).1
  have hlk : meth.locks = false := BodyLoose.notSynchronized Bd
  have X0 : Stand p l e ({ frames := 0, cells := 0, slots := 0, locals := 0 } : Room) s m #[(.ref a1)] below meth c s₁ [] 0 0 := Stand.of_body Bd
  have e0 : s₁.heap = h0 := by rw [← hh, Bd.state]; rfl
  have N0 := Fr.nil n0
  have K0 : Keep h0 h0 [] := Keep.refl h0 []
  show own_Fin p e below (own_P (own_rm15_Q Z a1 p1 h0 n0) s ({ frames := 0, cells := 0, slots := 0, locals := 0 } : Room).cells ({ frames := 0, cells := 0, slots := 0, locals := 0 } : Room).slots) (s₁.setTop (entryFrame m #[(.ref a1)] 1))
  refine own_via (g' := s₁.setTop (mkF m 0 #[.val (.ref a1)] [])) (fun t k => castTop (ef_own_rm15 m a1) k) ?_
  refine own_via (g' := s₁.setTop (mkF m 1 #[.val (.ref a1)] [(.ref a1)])) (fun t k => XS.aloadN X0.here hx rfl (hb hby own_d15_0) rfl (rfl) k) ?_
  obtain ⟨T101, X101, e101, st101⟩ := getF X0 hx hZ hown (host := "") (Or.inl (hw _ (List.mem_of_getElem? (i := 106) rfl))) Via.refl e0 Fi_0 (g := (mkF m 1 #[.val (.ref a1)] [(.ref a1)])) rfl rfl (hb hby own_d15_1)
  refine own_via (g' := T101.setTop (mkF m 4 #[.val (.ref a1)] [(.int p1)])) (fun t k => st101 _ k) ?_
  exact own_retB X101 hx hlk (t := .boolean) Bd.returns (by simp) (hb hby own_d15_4) ⟨(by rcases hbit with rfl | rfl <;> rfl), N0, e101⟩ (by decide) (by decide)
theorem own_pn10 : plainName "com/example/rosterwright/rosterwright/RosterKeepChangesPinLaw" = true := by first | (simp [plainName, overriddenIn]; done) | decide +kernel
theorem own_pd5 : parseMethodDescriptor "()Z" = some ⟨[], some .boolean⟩ := by decide +kernel
theorem ef_own_rm0 (m : MethodId) (i0 : Int32) : entryFrame m #[(.int i0)] maxLocals = mkF m 0 #[.val (.int i0), .unset, .unset, .unset, .unset, .unset, .unset, .unset, .unset, .unset] [] := by first | (simp [entryFrame, mkF, argsToLocals, Value.category, maxLocals]; done) | rfl
def own_rm0_Q (Z : State) (i0 : Int32)  (h0 : Heap) (n0 : Nat) (v : Option Value) (h : Heap) (L : List Loc) : Prop := v = some (.int 1) ∧ Fr n0 L
set_option maxRecDepth 65536 in
set_option maxHeartbeats 40000000 in
theorem own_rm0 (l : Launch) (Z : State) (a0 : Array Value) (hw : ∀ d ∈ tables_1, d.before a0 Z = true) (ws : List Jvm.Cond) (i0 : Int32)  (h0 : Heap) (n0 : Nat) (Z0 : n0 ≤ h0.size) :
    MetFree l x (head1 (Jvm.Cond.code x code maxLocals ret :: ws) room_1) (fun a U => a = #[(.int i0)] ∧ Z.Warmed39 U.vm ∧ U.heap = h0) (fun _ _ _ _ _ => True) (fun _ U o U' => ∃ v L, o = .returned v ∧ own_rm0_Q Z i0  h0 n0 v U'.heap L ∧ FrameEnd U o U' L room_1.cells room_1.slots) := by
  refine MetFree.of_bodySF (plainFor_of_name own_pn10) hisR ?_
  intro p e s m args below meth c s₁ Bd hml0 hP hK
  obtain ⟨rfl, hZ, hh⟩ := hP
  have hx := Bd.exec
  have hby := Bd.bytes
  have hml : c.maxLocals = 10 := hml0
  have hown : s.vm.findClass "com/example/rosterwright/rosterwright/RosterKeepChangesPinLaw" = some m.cls := findClass_of_methodNamed Bd.named
  have hnm := (name_of_methodNamed Bd.named Bd.method).1
  have hlk : meth.locks = false := BodyLoose.notSynchronized Bd
  have X0 : Stand p l e room_1 s m #[(.int i0)] below meth c s₁ [] 0 0 := Stand.of_body Bd
  have e0 : s₁.heap = h0 := by rw [← hh, Bd.state]; rfl
  have N0 := Fr.nil n0
  have K0 : Keep h0 h0 [] := Keep.refl h0 []
  show own_Fin p e below (own_P (own_rm0_Q Z i0  h0 n0) s room_1.cells room_1.slots) (s₁.setTop (entryFrame m #[(.int i0)] maxLocals))
  refine own_via (g' := s₁.setTop (mkF m 0 #[.val (.int i0), .unset, .unset, .unset, .unset, .unset, .unset, .unset, .unset, .unset] [])) (fun t k => castTop (ef_own_rm0 m i0) k) ?_
  refine own_via (g' := s₁.setTop (mkF m 1 #[.val (.int i0), .unset, .unset, .unset, .unset, .unset, .unset, .unset, .unset, .unset] [(.int i0)])) (fun t k => XS.iloadN X0.here hx rfl (hb hby at_0) rfl k) ?_
  refine own_via (g' := s₁.setTop (mkF m 2 #[.val (.int i0), .unset, .unset, .unset, .unset, .unset, .unset, .unset, .unset, .unset] [(.int (1 : Int32)), (.int i0)])) (fun t k => XS.iconst X0.here hx rfl (hb hby at_1) k) ?_
  refine own_via (g' := s₁.setTop (mkF m 3 #[.val (.int i0), .unset, .unset, .unset, .unset, .unset, .unset, .unset, .unset, .unset] [(.int (i0 &&& (1 : Int32)))])) (fun t k => XS.iand X0.here hx rfl (hb hby at_2) rfl k) ?_
  have J101 : ∀ z1 : Int32, (z1 = 0 ∨ z1 = 1) → own_Fin p e below (own_P (own_rm0_Q Z i0  h0 n0) s room_1.cells room_1.slots) (s₁.setTop (mkF m 11 #[.val (.int i0), .unset, .unset, .unset, .unset, .unset, .unset, .unset, .unset, .unset] [(.int z1)])) := by
    intro z1 hz1
    refine own_via (g' := s₁.setTop (mkF m 12 #[.val (.int i0), .val (.int z1), .unset, .unset, .unset, .unset, .unset, .unset, .unset, .unset] [])) (fun t k => XS.istoreN X0.here hx rfl (hb hby at_11) rfl (l' := #[.val (.int i0), .val (.int z1), .unset, .unset, .unset, .unset, .unset, .unset, .unset, .unset]) rfl k) ?_
    refine own_via (g' := s₁.setTop (mkF m 13 #[.val (.int i0), .val (.int z1), .unset, .unset, .unset, .unset, .unset, .unset, .unset, .unset] [(.int i0)])) (fun t k => XS.iloadN X0.here hx rfl (hb hby at_12) rfl k) ?_
    refine own_via (g' := s₁.setTop (mkF m 14 #[.val (.int i0), .val (.int z1), .unset, .unset, .unset, .unset, .unset, .unset, .unset, .unset] [(.int (2 : Int32)), (.int i0)])) (fun t k => XS.iconst X0.here hx rfl (hb hby at_13) k) ?_
    refine own_via (g' := s₁.setTop (mkF m 15 #[.val (.int i0), .val (.int z1), .unset, .unset, .unset, .unset, .unset, .unset, .unset, .unset] [(.int (i0 &&& (2 : Int32)))])) (fun t k => XS.iand X0.here hx rfl (hb hby at_14) rfl k) ?_
    have J102 : ∀ z2 : Int32, (z2 = 0 ∨ z2 = 1) → own_Fin p e below (own_P (own_rm0_Q Z i0  h0 n0) s room_1.cells room_1.slots) (s₁.setTop (mkF m 23 #[.val (.int i0), .val (.int z1), .unset, .unset, .unset, .unset, .unset, .unset, .unset, .unset] [(.int z2)])) := by
      intro z2 hz2
      refine own_via (g' := s₁.setTop (mkF m 24 #[.val (.int i0), .val (.int z1), .val (.int z2), .unset, .unset, .unset, .unset, .unset, .unset, .unset] [])) (fun t k => XS.istoreN X0.here hx rfl (hb hby at_23) rfl (l' := #[.val (.int i0), .val (.int z1), .val (.int z2), .unset, .unset, .unset, .unset, .unset, .unset, .unset]) rfl k) ?_
      refine own_via (g' := s₁.setTop (mkF m 25 #[.val (.int i0), .val (.int z1), .val (.int z2), .unset, .unset, .unset, .unset, .unset, .unset, .unset] [(.int i0)])) (fun t k => XS.iloadN X0.here hx rfl (hb hby at_24) rfl k) ?_
      refine own_via (g' := s₁.setTop (mkF m 26 #[.val (.int i0), .val (.int z1), .val (.int z2), .unset, .unset, .unset, .unset, .unset, .unset, .unset] [(.int (4 : Int32)), (.int i0)])) (fun t k => XS.iconst X0.here hx rfl (hb hby at_25) k) ?_
      refine own_via (g' := s₁.setTop (mkF m 27 #[.val (.int i0), .val (.int z1), .val (.int z2), .unset, .unset, .unset, .unset, .unset, .unset, .unset] [(.int (i0 &&& (4 : Int32)))])) (fun t k => XS.iand X0.here hx rfl (hb hby at_26) rfl k) ?_
      have J103 : ∀ z3 : Int32, (z3 = 0 ∨ z3 = 1) → own_Fin p e below (own_P (own_rm0_Q Z i0  h0 n0) s room_1.cells room_1.slots) (s₁.setTop (mkF m 35 #[.val (.int i0), .val (.int z1), .val (.int z2), .unset, .unset, .unset, .unset, .unset, .unset, .unset] [(.int z3)])) := by
        intro z3 hz3
        refine own_via (g' := s₁.setTop (mkF m 36 #[.val (.int i0), .val (.int z1), .val (.int z2), .val (.int z3), .unset, .unset, .unset, .unset, .unset, .unset] [])) (fun t k => XS.istoreN X0.here hx rfl (hb hby at_35) rfl (l' := #[.val (.int i0), .val (.int z1), .val (.int z2), .val (.int z3), .unset, .unset, .unset, .unset, .unset, .unset]) rfl k) ?_
        refine own_via (g' := s₁.setTop (mkF m 37 #[.val (.int i0), .val (.int z1), .val (.int z2), .val (.int z3), .unset, .unset, .unset, .unset, .unset, .unset] [(.int i0)])) (fun t k => XS.iloadN X0.here hx rfl (hb hby at_36) rfl k) ?_
        refine own_via (g' := s₁.setTop (mkF m 39 #[.val (.int i0), .val (.int z1), .val (.int z2), .val (.int z3), .unset, .unset, .unset, .unset, .unset, .unset] [(.int (8 : Int32)), (.int i0)])) (fun t k => XS.bipush X0.here hx rfl (hb hby at_37) k) ?_
        refine own_via (g' := s₁.setTop (mkF m 40 #[.val (.int i0), .val (.int z1), .val (.int z2), .val (.int z3), .unset, .unset, .unset, .unset, .unset, .unset] [(.int (i0 &&& (8 : Int32)))])) (fun t k => XS.iand X0.here hx rfl (hb hby at_39) rfl k) ?_
        have J104 : ∀ z4 : Int32, (z4 = 0 ∨ z4 = 1) → own_Fin p e below (own_P (own_rm0_Q Z i0  h0 n0) s room_1.cells room_1.slots) (s₁.setTop (mkF m 48 #[.val (.int i0), .val (.int z1), .val (.int z2), .val (.int z3), .unset, .unset, .unset, .unset, .unset, .unset] [(.int z4)])) := by
          intro z4 hz4
          refine own_via (g' := s₁.setTop (mkF m 50 #[.val (.int i0), .val (.int z1), .val (.int z2), .val (.int z3), .val (.int z4), .unset, .unset, .unset, .unset, .unset] [])) (fun t k => XS.istore X0.here hx rfl (hb hby at_48) rfl (l' := #[.val (.int i0), .val (.int z1), .val (.int z2), .val (.int z3), .val (.int z4), .unset, .unset, .unset, .unset, .unset]) rfl k) ?_
          obtain ⟨T105, h105, X105, e105, E105, A105, D105, -, st105⟩ := newO X0 hx hZ hown (hw _ (List.mem_of_getElem? (i := 0) rfl)) (hw _ (List.mem_of_getElem? (i := 1) rfl)) (hw _ (List.mem_of_getElem? (i := 2) rfl)) e0 (g := (mkF m 50 #[.val (.int i0), .val (.int z1), .val (.int z2), .val (.int z3), .val (.int z4), .unset, .unset, .unset, .unset, .unset] [])) rfl (hb hby at_50) (by decide) (by decide)
          obtain ⟨b105, g105⟩ : ∃ z, z = h0.size := ⟨_, rfl⟩
          rw [← g105] at A105 D105 st105
          have sz_b105 : h0.size ≤ b105 := Nat.le_trans K0.1 (Nat.le_of_eq g105.symm)
          have g_b105 : n0 ≤ b105 := Nat.le_trans Z0 sz_b105
          have Kc105 : Keep h0 h105 [] := K0.ext E105
          have F105_26 : Fld Z h105 b105 "com/example/rosterwright/rosterwright/Roster" "byDn" "Ljava/util/Map;" .null := D105 (Or.inr (hw _ (List.mem_of_getElem? (i := 26) rfl))) (ty := (.object "java/util/Map")) (by decide)
          have F105_28 : Fld Z h105 b105 "com/example/rosterwright/rosterwright/Roster" "byAssociation" "Ljava/util/Map;" .null := D105 (Or.inr (hw _ (List.mem_of_getElem? (i := 28) rfl))) (ty := (.object "java/util/Map")) (by decide)
          have F105_30 : Fld Z h105 b105 "com/example/rosterwright/rosterwright/Roster" "byValue" "Ljava/util/Map;" .null := D105 (Or.inr (hw _ (List.mem_of_getElem? (i := 30) rfl))) (ty := (.object "java/util/Map")) (by decide)
          have F105_93 : Fld Z h105 b105 "com/example/rosterwright/rosterwright/Roster" "pending" "Ljava/util/Set;" .null := D105 (Or.inr (hw _ (List.mem_of_getElem? (i := 93) rfl))) (ty := (.object "java/util/Set")) (by decide)
          have F105_100 : Fld Z h105 b105 "com/example/rosterwright/rosterwright/Roster" "keepsChanges" "Z" (.int (0 : Int32)) := D105 (Or.inl (hw _ (List.mem_of_getElem? (i := 100) rfl))) (ty := .boolean) (by decide)
          have F105_107 : Fld Z h105 b105 "com/example/rosterwright/rosterwright/Roster" "changed" "Z" (.int (0 : Int32)) := D105 (Or.inl (hw _ (List.mem_of_getElem? (i := 107) rfl))) (ty := .boolean) (by decide)
          have F105_114 : Fld Z h105 b105 "com/example/rosterwright/rosterwright/Roster" "keepingChanges" "Z" (.int (0 : Int32)) := D105 (Or.inl (hw _ (List.mem_of_getElem? (i := 114) rfl))) (ty := .boolean) (by decide)
          have F105_116 : Fld Z h105 b105 "com/example/rosterwright/rosterwright/Roster" "open" "Lcom/example/rosterwright/rosterwright/Roster$Change;" .null := D105 (Or.inl (hw _ (List.mem_of_getElem? (i := 116) rfl))) (ty := (.object "com/example/rosterwright/rosterwright/Roster$Change")) (by decide)
          refine own_via (g' := T105.setTop (mkF m 53 #[.val (.int i0), .val (.int z1), .val (.int z2), .val (.int z3), .val (.int z4), .unset, .unset, .unset, .unset, .unset] [(.ref b105)])) (fun t k => st105 _ k) ?_
          refine own_via (g' := T105.setTop (mkF m 54 #[.val (.int i0), .val (.int z1), .val (.int z2), .val (.int z3), .val (.int z4), .unset, .unset, .unset, .unset, .unset] [(.ref b105), (.ref b105)])) (fun t k => XS.dup X105.here hx rfl (hb hby at_53) rfl (rfl) k) ?_
          obtain ⟨v106, _, ⟨T106, L106, k106, n106⟩, -, X106, ⟨Lc106, hQ106, l106, y106, z106⟩, st106⟩ := X105.specialBack hx (y := (⟨"com/example/rosterwright/rosterwright/Roster", "<init>", "()V"⟩ : MethodName)) rfl hown (mvT hZ (hw _ (List.mem_of_getElem? (i := 3) rfl))) (mvT hZ (hw _ (List.mem_of_getElem? (i := 4) rfl))) (mvT hZ (hw _ (List.mem_of_getElem? (i := 5) rfl))) (by decide) (backOf (W := 1) (own_rm1 l Z a0 hw [] b105 h105 n0 (Nat.le_trans Z0 Kc105.1) A105 F105_26 F105_28 F105_30 F105_93 F105_100 F105_107 F105_114 F105_116 g_b105) hZ (hw _ (List.mem_of_getElem? (i := 5) rfl)) (hw _ (List.mem_of_getElem? (i := 2) rfl)) (by decide) (by decide)) (g := (mkF m 54 #[.val (.int i0), .val (.int z1), .val (.int z2), .val (.int z3), .val (.int z4), .unset, .unset, .unset, .unset, .unset] [(.ref b105), (.ref b105)])) rfl (by rw [hml]; rfl) (Steps.refl _) (a := b105) (argsL := []) (rest := [(.ref b105)]) (lenOf own_pd0 rfl) rfl (by show 2 * 0 + _ ≤ _; exact Nat.le_of_eq rfl) (hb hby at_54) (fun _ _ => ⟨rfl, e105, (by decide : 1 + 5 ≤ _), (by decide : 9 + 37 ≤ _)⟩)
          dsimp only [Pt.U, Pt.locs, Pt.cells, Pt.slots] at X106 l106 y106 z106 st106 hQ106
          subst l106 y106 z106
          obtain ⟨rfl, N106q, K106, A106, Fa106_0, Fa106_1, Fa106_2, Fa106_3⟩ := hQ106
          have Kc106 : Keep h0 T106.heap [] := Kc105.trans K106 (allS (Or.inr sz_b105) all0)
          have N106 := Fr.app N0 N106q
          refine own_via (g' := T106.setTop (mkF m 57 #[.val (.int i0), .val (.int z1), .val (.int z2), .val (.int z3), .val (.int z4), .unset, .unset, .unset, .unset, .unset] [(.ref b105)])) (fun t k => st106.trans k) ?_
          refine own_via (g' := T106.setTop (mkF m 59 #[.val (.int i0), .val (.int z1), .val (.int z2), .val (.int z3), .val (.int z4), .val (.ref b105), .unset, .unset, .unset, .unset] [])) (fun t k => XS.astore X106.here hx rfl (hb hby at_57) rfl (rfl) (l' := #[.val (.int i0), .val (.int z1), .val (.int z2), .val (.int z3), .val (.int z4), .val (.ref b105), .unset, .unset, .unset, .unset]) rfl k) ?_
          refine own_via (g' := T106.setTop (mkF m 60 #[.val (.int i0), .val (.int z1), .val (.int z2), .val (.int z3), .val (.int z4), .val (.ref b105), .unset, .unset, .unset, .unset] [(.int z1)])) (fun t k => XS.iloadN X106.here hx rfl (hb hby at_59) rfl k) ?_
          have J107 : ∀ (T107 : State) (h107 : Heap) (l107 : List Loc) (X107 : Stand p l e room_1 s m #[(.int i0)] below meth c T107 l107 6 46) (e107 : T107.heap = h107) (N107 : Fr n0 l107) (Kj107 : Keep h0 h107 []) (kg : Int32) (Ej : Exa Z h107 b105 "com/example/rosterwright/rosterwright/Roster") (Fj_keepsChanges : Fld Z h107 b105 "com/example/rosterwright/rosterwright/Roster" "keepsChanges" "Z" (.int z1)) (Fj_changed : Fld Z h107 b105 "com/example/rosterwright/rosterwright/Roster" "changed" "Z" (.int z1)) (Fj_keepingChanges : Fld Z h107 b105 "com/example/rosterwright/rosterwright/Roster" "keepingChanges" "Z" (.int kg)) (Fj_open : Fld Z h107 b105 "com/example/rosterwright/rosterwright/Roster" "open" "Lcom/example/rosterwright/rosterwright/Roster$Change;" .null), own_Fin p e below (own_P (own_rm0_Q Z i0  h0 n0) s room_1.cells room_1.slots) (T107.setTop (mkF m 68 #[.val (.int i0), .val (.int z1), .val (.int z2), .val (.int z3), .val (.int z4), .val (.ref b105), .unset, .unset, .unset, .unset] [])) := by
            intro T107 h107 l107 X107 e107 N107 Kj107 kg Ej Fj_keepsChanges Fj_changed Fj_keepingChanges Fj_open
            refine own_via (g' := T107.setTop (mkF m 69 #[.val (.int i0), .val (.int z1), .val (.int z2), .val (.int z3), .val (.int z4), .val (.ref b105), .unset, .unset, .unset, .unset] [(.int z2)])) (fun t k => XS.iloadN X107.here hx rfl (hb hby at_68) rfl k) ?_
            have J108 : ∀ (T108 : State) (h108 : Heap) (l108 : List Loc) (X108 : Stand p l e room_1 s m #[(.int i0)] below meth c T108 l108 6 46) (e108 : T108.heap = h108) (N108 : Fr n0 l108) (Kj108 : Keep h0 h108 []) (kg1 : Int32) (c1 : Int32) (hc1 : (c1 = 0 ∨ c1 = 1)) (Ek : Exa Z h108 b105 "com/example/rosterwright/rosterwright/Roster") (Fk_keepsChanges : Fld Z h108 b105 "com/example/rosterwright/rosterwright/Roster" "keepsChanges" "Z" (.int z1)) (Fk_changed : Fld Z h108 b105 "com/example/rosterwright/rosterwright/Roster" "changed" "Z" (.int c1)) (Fk_keepingChanges : Fld Z h108 b105 "com/example/rosterwright/rosterwright/Roster" "keepingChanges" "Z" (.int kg1)) (Fk_open : Fld Z h108 b105 "com/example/rosterwright/rosterwright/Roster" "open" "Lcom/example/rosterwright/rosterwright/Roster$Change;" .null), own_Fin p e below (own_P (own_rm0_Q Z i0  h0 n0) s room_1.cells room_1.slots) (T108.setTop (mkF m 77 #[.val (.int i0), .val (.int z1), .val (.int z2), .val (.int z3), .val (.int z4), .val (.ref b105), .unset, .unset, .unset, .unset] [])) := by
              intro T108 h108 l108 X108 e108 N108 Kj108 kg1 c1 hc1 Ek Fk_keepsChanges Fk_changed Fk_keepingChanges Fk_open
              refine own_via (g' := T108.setTop (mkF m 78 #[.val (.int i0), .val (.int z1), .val (.int z2), .val (.int z3), .val (.int z4), .val (.ref b105), .unset, .unset, .unset, .unset] [(.int z3)])) (fun t k => XS.iloadN X108.here hx rfl (hb hby at_77) rfl k) ?_
              have J109 : ∀ (T109 : State) (h109 : Heap) (l109 : List Loc) (X109 : Stand p l e room_1 s m #[(.int i0)] below meth c T109 l109 6 46) (e109 : T109.heap = h109) (N109 : Fr n0 l109) (Kj109 : Keep h0 h109 []) (kg2 : Int32) (El : Exa Z h109 b105 "com/example/rosterwright/rosterwright/Roster") (Fl_keepsChanges : Fld Z h109 b105 "com/example/rosterwright/rosterwright/Roster" "keepsChanges" "Z" (.int z1)) (Fl_changed : Fld Z h109 b105 "com/example/rosterwright/rosterwright/Roster" "changed" "Z" (.int c1)) (Fl_keepingChanges : Fld Z h109 b105 "com/example/rosterwright/rosterwright/Roster" "keepingChanges" "Z" (.int kg2)) (Fl_open : Fld Z h109 b105 "com/example/rosterwright/rosterwright/Roster" "open" "Lcom/example/rosterwright/rosterwright/Roster$Change;" .null), own_Fin p e below (own_P (own_rm0_Q Z i0  h0 n0) s room_1.cells room_1.slots) (T109.setTop (mkF m 86 #[.val (.int i0), .val (.int z1), .val (.int z2), .val (.int z3), .val (.int z4), .val (.ref b105), .unset, .unset, .unset, .unset] [])) := by
                intro T109 h109 l109 X109 e109 N109 Kj109 kg2 El Fl_keepsChanges Fl_changed Fl_keepingChanges Fl_open
                rcases hz1 with rfl | rfl <;> rcases hc1 with rfl | rfl
                · refine own_via (g' := T109.setTop (mkF m 88 #[.val (.int i0), .val (.int (0 : Int32)), .val (.int z2), .val (.int z3), .val (.int z4), .val (.ref b105), .unset, .unset, .unset, .unset] [(.ref b105)])) (fun t k => XS.aload X109.here hx rfl (hb hby at_86) rfl (rfl) k) ?_
                  obtain ⟨cq110, kq110, q110a, q110b, q110c⟩ := isOf hZ e109 El
                  obtain ⟨v110, _, ⟨T110, L110, k110, n110⟩, -, X110, ⟨Lc110, hQ110, l110, y110, z110⟩, st110⟩ := X109.virtualBack hx (y := (⟨"com/example/rosterwright/rosterwright/Roster", "keepsChanges", "()Z"⟩ : MethodName)) (z := (⟨"com/example/rosterwright/rosterwright/Roster", "keepsChanges", "()Z"⟩ : MethodName)) hown (mvT hZ (hw _ (List.mem_of_getElem? (i := 94) rfl))) (mvT hZ (hw _ (List.mem_of_getElem? (i := 95) rfl))) (notFace_of_selects (args := #[]) (mvT hZ (hw _ (List.mem_of_getElem? (i := 97) rfl)))) (mvT hZ (hw _ (List.mem_of_getElem? (i := 97) rfl))) (mvT hZ (hw _ (List.mem_of_getElem? (i := 96) rfl))) (by decide) (backOf (W := 0) (own_rm14 l Z a0 hw [] b105 (0 : Int32) h109 n0 (Nat.le_trans Z0 Kj109.1) Fl_keepsChanges (by decide)) hZ (hw _ (List.mem_of_getElem? (i := 98) rfl)) (hw _ (List.mem_of_getElem? (i := 2) rfl)) (by decide) (by decide)) q110a q110c (g := (mkF m 88 #[.val (.int i0), .val (.int (0 : Int32)), .val (.int z2), .val (.int z3), .val (.int z4), .val (.ref b105), .unset, .unset, .unset, .unset] [(.ref b105)])) rfl (by rw [hml]; rfl) (Steps.refl _) (argsL := []) (rest := []) (lenOf own_pd5 rfl) rfl (by show 2 * 0 + _ ≤ _; exact Nat.le_of_eq rfl) (hb hby at_88) (fun _ _ => ⟨rfl, e109, (by decide : 6 + 0 ≤ _), (by decide : 46 + 0 ≤ _)⟩)
                  dsimp only [Pt.U, Pt.locs, Pt.cells, Pt.slots] at X110 l110 y110 z110 st110 hQ110
                  subst l110 y110 z110
                  obtain ⟨rfl, N110q, e110⟩ := hQ110
                  have N110 := Fr.app N109 N110q
                  refine own_via (g' := T110.setTop (mkF m 91 #[.val (.int i0), .val (.int (0 : Int32)), .val (.int z2), .val (.int z3), .val (.int z4), .val (.ref b105), .unset, .unset, .unset, .unset] [(.int (0 : Int32))])) (fun t k => st110.trans k) ?_
                  refine own_via (g' := T110.setTop (mkF m 93 #[.val (.int i0), .val (.int (0 : Int32)), .val (.int z2), .val (.int z3), .val (.int z4), .val (.ref b105), .val (.int (0 : Int32)), .unset, .unset, .unset] [])) (fun t k => XS.istore X110.here hx rfl (hb hby at_91) rfl (l' := #[.val (.int i0), .val (.int (0 : Int32)), .val (.int z2), .val (.int z3), .val (.int z4), .val (.ref b105), .val (.int (0 : Int32)), .unset, .unset, .unset]) rfl k) ?_
                  refine own_via (g' := T110.setTop (mkF m 95 #[.val (.int i0), .val (.int (0 : Int32)), .val (.int z2), .val (.int z3), .val (.int z4), .val (.ref b105), .val (.int (0 : Int32)), .unset, .unset, .unset] [(.ref b105)])) (fun t k => XS.aload X110.here hx rfl (hb hby at_93) rfl (rfl) k) ?_
                  obtain ⟨cq111, kq111, q111a, q111b, q111c⟩ := isOf hZ e110 El
                  obtain ⟨v111, _, ⟨T111, L111, k111, n111⟩, -, X111, ⟨Lc111, hQ111, l111, y111, z111⟩, st111⟩ := X110.virtualBack hx (y := (⟨"com/example/rosterwright/rosterwright/Roster", "isChanged", "()Z"⟩ : MethodName)) (z := (⟨"com/example/rosterwright/rosterwright/Roster", "isChanged", "()Z"⟩ : MethodName)) hown (mvT hZ (hw _ (List.mem_of_getElem? (i := 101) rfl))) (mvT hZ (hw _ (List.mem_of_getElem? (i := 102) rfl))) (notFace_of_selects (args := #[]) (mvT hZ (hw _ (List.mem_of_getElem? (i := 104) rfl)))) (mvT hZ (hw _ (List.mem_of_getElem? (i := 104) rfl))) (mvT hZ (hw _ (List.mem_of_getElem? (i := 103) rfl))) (by decide) (backOf (W := 0) (own_rm15 l Z a0 hw [] b105 (0 : Int32) h109 n0 (Nat.le_trans Z0 Kj109.1) Fl_changed (by decide)) hZ (hw _ (List.mem_of_getElem? (i := 105) rfl)) (hw _ (List.mem_of_getElem? (i := 2) rfl)) (by decide) (by decide)) q111a q111c (g := (mkF m 95 #[.val (.int i0), .val (.int (0 : Int32)), .val (.int z2), .val (.int z3), .val (.int z4), .val (.ref b105), .val (.int (0 : Int32)), .unset, .unset, .unset] [(.ref b105)])) rfl (by rw [hml]; rfl) (Steps.refl _) (argsL := []) (rest := []) (lenOf own_pd5 rfl) rfl (by show 2 * 0 + _ ≤ _; exact Nat.le_of_eq rfl) (hb hby at_95) (fun _ _ => ⟨rfl, e110, (by decide : 6 + 0 ≤ _), (by decide : 46 + 0 ≤ _)⟩)
                  dsimp only [Pt.U, Pt.locs, Pt.cells, Pt.slots] at X111 l111 y111 z111 st111 hQ111
                  subst l111 y111 z111
                  obtain ⟨rfl, N111q, e111⟩ := hQ111
                  have N111 := Fr.app N110 N111q
                  refine own_via (g' := T111.setTop (mkF m 98 #[.val (.int i0), .val (.int (0 : Int32)), .val (.int z2), .val (.int z3), .val (.int z4), .val (.ref b105), .val (.int (0 : Int32)), .unset, .unset, .unset] [(.int (0 : Int32))])) (fun t k => st111.trans k) ?_
                  refine own_via (g' := T111.setTop (mkF m 100 #[.val (.int i0), .val (.int (0 : Int32)), .val (.int z2), .val (.int z3), .val (.int z4), .val (.ref b105), .val (.int (0 : Int32)), .val (.int (0 : Int32)), .unset, .unset] [])) (fun t k => XS.istore X111.here hx rfl (hb hby at_98) rfl (l' := #[.val (.int i0), .val (.int (0 : Int32)), .val (.int z2), .val (.int z3), .val (.int z4), .val (.ref b105), .val (.int (0 : Int32)), .val (.int (0 : Int32)), .unset, .unset]) rfl k) ?_
                  refine own_via (g' := T111.setTop (mkF m 102 #[.val (.int i0), .val (.int (0 : Int32)), .val (.int z2), .val (.int z3), .val (.int z4), .val (.ref b105), .val (.int (0 : Int32)), .val (.int (0 : Int32)), .unset, .unset] [(.ref b105)])) (fun t k => XS.aload X111.here hx rfl (hb hby at_100) rfl (rfl) k) ?_
                  obtain ⟨cq112, kq112, q112a, q112b, q112c⟩ := isOf hZ e111 El
                  obtain ⟨v112, _, ⟨T112, L112, k112, n112⟩, -, X112, ⟨Lc112, hQ112, l112, y112, z112⟩, st112⟩ := X111.virtualBack hx (y := (⟨"com/example/rosterwright/rosterwright/Roster", "keepChanges", "()V"⟩ : MethodName)) (z := (⟨"com/example/rosterwright/rosterwright/Roster", "keepChanges", "()V"⟩ : MethodName)) hown (mvT hZ (hw _ (List.mem_of_getElem? (i := 108) rfl))) (mvT hZ (hw _ (List.mem_of_getElem? (i := 109) rfl))) (notFace_of_selects (args := #[]) (mvT hZ (hw _ (List.mem_of_getElem? (i := 111) rfl)))) (mvT hZ (hw _ (List.mem_of_getElem? (i := 111) rfl))) (mvT hZ (hw _ (List.mem_of_getElem? (i := 110) rfl))) (by decide) (backOf (W := 0) (own_rm16 l Z a0 hw [] b105 (0 : Int32) (0 : Int32) kg2 h109 n0 (Nat.le_trans Z0 Kj109.1) El Fl_keepsChanges Fl_changed Fl_keepingChanges Fl_open g_b105) hZ (hw _ (List.mem_of_getElem? (i := 112) rfl)) (hw _ (List.mem_of_getElem? (i := 2) rfl)) (by decide) (by decide)) q112a q112c (g := (mkF m 102 #[.val (.int i0), .val (.int (0 : Int32)), .val (.int z2), .val (.int z3), .val (.int z4), .val (.ref b105), .val (.int (0 : Int32)), .val (.int (0 : Int32)), .unset, .unset] [(.ref b105)])) rfl (by rw [hml]; rfl) (Steps.refl _) (argsL := []) (rest := []) (lenOf own_pd0 rfl) rfl (by show 2 * 0 + _ ≤ _; exact Nat.le_of_eq rfl) (hb hby at_102) (fun _ _ => ⟨rfl, e111, (by decide : 6 + 0 ≤ _), (by decide : 46 + 0 ≤ _)⟩)
                  dsimp only [Pt.U, Pt.locs, Pt.cells, Pt.slots] at X112 l112 y112 z112 st112 hQ112
                  subst l112 y112 z112
                  obtain ⟨rfl, N112q, K112, A112, Fa112_0, Fa112_1, Fa112_2, Fa112_3⟩ := hQ112
                  have Kc112 : Keep h0 T112.heap [] := Kj109.trans K112 (allS (Or.inr sz_b105) all0)
                  rw [show (own_kc (0 : Int32)) = (1 : Int32) from by decide] at Fa112_0
                  rw [show (own_ch (0 : Int32) (0 : Int32)) = (1 : Int32) from by decide] at Fa112_1
                  have N112 := Fr.app N111 N112q
                  refine own_via (g' := T112.setTop (mkF m 105 #[.val (.int i0), .val (.int (0 : Int32)), .val (.int z2), .val (.int z3), .val (.int z4), .val (.ref b105), .val (.int (0 : Int32)), .val (.int (0 : Int32)), .unset, .unset] [])) (fun t k => st112.trans k) ?_
                  refine own_via (g' := T112.setTop (mkF m 107 #[.val (.int i0), .val (.int (0 : Int32)), .val (.int z2), .val (.int z3), .val (.int z4), .val (.ref b105), .val (.int (0 : Int32)), .val (.int (0 : Int32)), .unset, .unset] [(.int (0 : Int32))])) (fun t k => XS.iload X112.here hx rfl (hb hby at_105) rfl k) ?_
                  refine own_via (g' := T112.setTop (mkF m 108 #[.val (.int i0), .val (.int (0 : Int32)), .val (.int z2), .val (.int z3), .val (.int z4), .val (.ref b105), .val (.int (0 : Int32)), .val (.int (0 : Int32)), .unset, .unset] [(.int (0 : Int32)), (.int (0 : Int32))])) (fun t k => XS.iloadN X112.here hx rfl (hb hby at_107) rfl k) ?_
                  refine own_via (g' := T112.setTop (mkF m 111 #[.val (.int i0), .val (.int (0 : Int32)), .val (.int z2), .val (.int z3), .val (.int z4), .val (.ref b105), .val (.int (0 : Int32)), .val (.int (0 : Int32)), .unset, .unset] [])) (fun t k => XS.icmpNo X112.here hx rfl (hb hby at_108) rfl (XT.ii_ne_f (by decide)) k) ?_
                  refine own_via (g' := T112.setTop (mkF m 112 #[.val (.int i0), .val (.int (0 : Int32)), .val (.int z2), .val (.int z3), .val (.int z4), .val (.ref b105), .val (.int (0 : Int32)), .val (.int (0 : Int32)), .unset, .unset] [(.int (1 : Int32))])) (fun t k => XS.iconst X112.here hx rfl (hb hby at_111) k) ?_
                  refine own_via (g' := T112.setTop (mkF m 116 #[.val (.int i0), .val (.int (0 : Int32)), .val (.int z2), .val (.int z3), .val (.int z4), .val (.ref b105), .val (.int (0 : Int32)), .val (.int (0 : Int32)), .unset, .unset] [(.int (1 : Int32))])) (fun t k => XS.goto X112.here hx rfl (pc0 := 112) (pc' := 116) rfl (hb hby at_112) (by decide) (by decide) k) ?_
                  refine own_via (g' := T112.setTop (mkF m 118 #[.val (.int i0), .val (.int (0 : Int32)), .val (.int z2), .val (.int z3), .val (.int z4), .val (.ref b105), .val (.int (0 : Int32)), .val (.int (0 : Int32)), .val (.int (1 : Int32)), .unset] [])) (fun t k => XS.istore X112.here hx rfl (hb hby at_116) rfl (l' := #[.val (.int i0), .val (.int (0 : Int32)), .val (.int z2), .val (.int z3), .val (.int z4), .val (.ref b105), .val (.int (0 : Int32)), .val (.int (0 : Int32)), .val (.int (1 : Int32)), .unset]) rfl k) ?_
                  refine own_via (g' := T112.setTop (mkF m 120 #[.val (.int i0), .val (.int (0 : Int32)), .val (.int z2), .val (.int z3), .val (.int z4), .val (.ref b105), .val (.int (0 : Int32)), .val (.int (0 : Int32)), .val (.int (1 : Int32)), .unset] [(.int (1 : Int32))])) (fun t k => XS.iload X112.here hx rfl (hb hby at_118) rfl k) ?_
                  refine own_via (g' := T112.setTop (mkF m 123 #[.val (.int i0), .val (.int (0 : Int32)), .val (.int z2), .val (.int z3), .val (.int z4), .val (.ref b105), .val (.int (0 : Int32)), .val (.int (0 : Int32)), .val (.int (1 : Int32)), .unset] [])) (fun t k => XS.ifNo X112.here hx rfl (hb hby at_120) rfl (XT.i0_eq_f (by decide)) k) ?_
                  refine own_via (g' := T112.setTop (mkF m 125 #[.val (.int i0), .val (.int (0 : Int32)), .val (.int z2), .val (.int z3), .val (.int z4), .val (.ref b105), .val (.int (0 : Int32)), .val (.int (0 : Int32)), .val (.int (1 : Int32)), .unset] [(.ref b105)])) (fun t k => XS.aload X112.here hx rfl (hb hby at_123) rfl (rfl) k) ?_
                  obtain ⟨cq113, kq113, q113a, q113b, q113c⟩ := isOf hZ rfl A112
                  obtain ⟨v113, _, ⟨T113, L113, k113, n113⟩, -, X113, ⟨Lc113, hQ113, l113, y113, z113⟩, st113⟩ := X112.virtualBack hx (y := (⟨"com/example/rosterwright/rosterwright/Roster", "keepsChanges", "()Z"⟩ : MethodName)) (z := (⟨"com/example/rosterwright/rosterwright/Roster", "keepsChanges", "()Z"⟩ : MethodName)) hown (mvT hZ (hw _ (List.mem_of_getElem? (i := 94) rfl))) (mvT hZ (hw _ (List.mem_of_getElem? (i := 95) rfl))) (notFace_of_selects (args := #[]) (mvT hZ (hw _ (List.mem_of_getElem? (i := 97) rfl)))) (mvT hZ (hw _ (List.mem_of_getElem? (i := 97) rfl))) (mvT hZ (hw _ (List.mem_of_getElem? (i := 96) rfl))) (by decide) (backOf (W := 0) (own_rm14 l Z a0 hw [] b105 (1 : Int32) T112.heap n0 (Nat.le_trans Z0 Kc112.1) Fa112_0 (by decide)) hZ (hw _ (List.mem_of_getElem? (i := 98) rfl)) (hw _ (List.mem_of_getElem? (i := 2) rfl)) (by decide) (by decide)) q113a q113c (g := (mkF m 125 #[.val (.int i0), .val (.int (0 : Int32)), .val (.int z2), .val (.int z3), .val (.int z4), .val (.ref b105), .val (.int (0 : Int32)), .val (.int (0 : Int32)), .val (.int (1 : Int32)), .unset] [(.ref b105)])) rfl (by rw [hml]; rfl) (Steps.refl _) (argsL := []) (rest := []) (lenOf own_pd5 rfl) rfl (by show 2 * 0 + _ ≤ _; exact Nat.le_of_eq rfl) (hb hby at_125) (fun _ _ => ⟨rfl, rfl, (by decide : 6 + 0 ≤ _), (by decide : 46 + 0 ≤ _)⟩)
                  dsimp only [Pt.U, Pt.locs, Pt.cells, Pt.slots] at X113 l113 y113 z113 st113 hQ113
                  subst l113 y113 z113
                  obtain ⟨rfl, N113q, e113⟩ := hQ113
                  have N113 := Fr.app N112 N113q
                  refine own_via (g' := T113.setTop (mkF m 128 #[.val (.int i0), .val (.int (0 : Int32)), .val (.int z2), .val (.int z3), .val (.int z4), .val (.ref b105), .val (.int (0 : Int32)), .val (.int (0 : Int32)), .val (.int (1 : Int32)), .unset] [(.int (1 : Int32))])) (fun t k => st113.trans k) ?_
                  refine own_via (g' := T113.setTop (mkF m 131 #[.val (.int i0), .val (.int (0 : Int32)), .val (.int z2), .val (.int z3), .val (.int z4), .val (.ref b105), .val (.int (0 : Int32)), .val (.int (0 : Int32)), .val (.int (1 : Int32)), .unset] [])) (fun t k => XS.ifNo X113.here hx rfl (hb hby at_128) rfl (XT.i0_eq_f (by decide)) k) ?_
                  refine own_via (g' := T113.setTop (mkF m 132 #[.val (.int i0), .val (.int (0 : Int32)), .val (.int z2), .val (.int z3), .val (.int z4), .val (.ref b105), .val (.int (0 : Int32)), .val (.int (0 : Int32)), .val (.int (1 : Int32)), .unset] [(.int (1 : Int32))])) (fun t k => XS.iconst X113.here hx rfl (hb hby at_131) k) ?_
                  refine own_via (g' := T113.setTop (mkF m 136 #[.val (.int i0), .val (.int (0 : Int32)), .val (.int z2), .val (.int z3), .val (.int z4), .val (.ref b105), .val (.int (0 : Int32)), .val (.int (0 : Int32)), .val (.int (1 : Int32)), .unset] [(.int (1 : Int32))])) (fun t k => XS.goto X113.here hx rfl (pc0 := 132) (pc' := 136) rfl (hb hby at_132) (by decide) (by decide) k) ?_
                  refine own_via (g' := T113.setTop (mkF m 138 #[.val (.int i0), .val (.int (0 : Int32)), .val (.int z2), .val (.int z3), .val (.int z4), .val (.ref b105), .val (.int (0 : Int32)), .val (.int (0 : Int32)), .val (.int (1 : Int32)), .unset] [])) (fun t k => XS.istore X113.here hx rfl (hb hby at_136) rfl (l' := #[.val (.int i0), .val (.int (0 : Int32)), .val (.int z2), .val (.int z3), .val (.int z4), .val (.ref b105), .val (.int (0 : Int32)), .val (.int (0 : Int32)), .val (.int (1 : Int32)), .unset]) rfl k) ?_
                  refine own_via (g' := T113.setTop (mkF m 140 #[.val (.int i0), .val (.int (0 : Int32)), .val (.int z2), .val (.int z3), .val (.int z4), .val (.ref b105), .val (.int (0 : Int32)), .val (.int (0 : Int32)), .val (.int (1 : Int32)), .unset] [(.int (1 : Int32))])) (fun t k => XS.iload X113.here hx rfl (hb hby at_138) rfl k) ?_
                  refine own_via (g' := T113.setTop (mkF m 143 #[.val (.int i0), .val (.int (0 : Int32)), .val (.int z2), .val (.int z3), .val (.int z4), .val (.ref b105), .val (.int (0 : Int32)), .val (.int (0 : Int32)), .val (.int (1 : Int32)), .unset] [])) (fun t k => XS.ifNo X113.here hx rfl (hb hby at_140) rfl (XT.i0_eq_f (by decide)) k) ?_
                  refine own_via (g' := T113.setTop (mkF m 145 #[.val (.int i0), .val (.int (0 : Int32)), .val (.int z2), .val (.int z3), .val (.int z4), .val (.ref b105), .val (.int (0 : Int32)), .val (.int (0 : Int32)), .val (.int (1 : Int32)), .unset] [(.ref b105)])) (fun t k => XS.aload X113.here hx rfl (hb hby at_143) rfl (rfl) k) ?_
                  obtain ⟨cq114, kq114, q114a, q114b, q114c⟩ := isOf hZ e113 A112
                  obtain ⟨v114, _, ⟨T114, L114, k114, n114⟩, -, X114, ⟨Lc114, hQ114, l114, y114, z114⟩, st114⟩ := X113.virtualBack hx (y := (⟨"com/example/rosterwright/rosterwright/Roster", "isChanged", "()Z"⟩ : MethodName)) (z := (⟨"com/example/rosterwright/rosterwright/Roster", "isChanged", "()Z"⟩ : MethodName)) hown (mvT hZ (hw _ (List.mem_of_getElem? (i := 101) rfl))) (mvT hZ (hw _ (List.mem_of_getElem? (i := 102) rfl))) (notFace_of_selects (args := #[]) (mvT hZ (hw _ (List.mem_of_getElem? (i := 104) rfl)))) (mvT hZ (hw _ (List.mem_of_getElem? (i := 104) rfl))) (mvT hZ (hw _ (List.mem_of_getElem? (i := 103) rfl))) (by decide) (backOf (W := 0) (own_rm15 l Z a0 hw [] b105 (1 : Int32) T112.heap n0 (Nat.le_trans Z0 Kc112.1) Fa112_1 (by decide)) hZ (hw _ (List.mem_of_getElem? (i := 105) rfl)) (hw _ (List.mem_of_getElem? (i := 2) rfl)) (by decide) (by decide)) q114a q114c (g := (mkF m 145 #[.val (.int i0), .val (.int (0 : Int32)), .val (.int z2), .val (.int z3), .val (.int z4), .val (.ref b105), .val (.int (0 : Int32)), .val (.int (0 : Int32)), .val (.int (1 : Int32)), .unset] [(.ref b105)])) rfl (by rw [hml]; rfl) (Steps.refl _) (argsL := []) (rest := []) (lenOf own_pd5 rfl) rfl (by show 2 * 0 + _ ≤ _; exact Nat.le_of_eq rfl) (hb hby at_145) (fun _ _ => ⟨rfl, e113, (by decide : 6 + 0 ≤ _), (by decide : 46 + 0 ≤ _)⟩)
                  dsimp only [Pt.U, Pt.locs, Pt.cells, Pt.slots] at X114 l114 y114 z114 st114 hQ114
                  subst l114 y114 z114
                  obtain ⟨rfl, N114q, e114⟩ := hQ114
                  have N114 := Fr.app N113 N114q
                  refine own_via (g' := T114.setTop (mkF m 148 #[.val (.int i0), .val (.int (0 : Int32)), .val (.int z2), .val (.int z3), .val (.int z4), .val (.ref b105), .val (.int (0 : Int32)), .val (.int (0 : Int32)), .val (.int (1 : Int32)), .unset] [(.int (1 : Int32))])) (fun t k => st114.trans k) ?_
                  refine own_via (g' := T114.setTop (mkF m 150 #[.val (.int i0), .val (.int (0 : Int32)), .val (.int z2), .val (.int z3), .val (.int z4), .val (.ref b105), .val (.int (0 : Int32)), .val (.int (0 : Int32)), .val (.int (1 : Int32)), .unset] [(.int (0 : Int32)), (.int (1 : Int32))])) (fun t k => XS.iload X114.here hx rfl (hb hby at_148) rfl k) ?_
                  refine own_via (g' := T114.setTop (mkF m 153 #[.val (.int i0), .val (.int (0 : Int32)), .val (.int z2), .val (.int z3), .val (.int z4), .val (.ref b105), .val (.int (0 : Int32)), .val (.int (0 : Int32)), .val (.int (1 : Int32)), .unset] [(.int (1 : Int32))])) (fun t k => XS.ifNo X114.here hx rfl (hb hby at_150) rfl (XT.i0_ne_f (by decide)) k) ?_
                  refine own_via (g' := T114.setTop (mkF m 155 #[.val (.int i0), .val (.int (0 : Int32)), .val (.int z2), .val (.int z3), .val (.int z4), .val (.ref b105), .val (.int (0 : Int32)), .val (.int (0 : Int32)), .val (.int (1 : Int32)), .unset] [(.int (0 : Int32)), (.int (1 : Int32))])) (fun t k => XS.iload X114.here hx rfl (hb hby at_153) rfl k) ?_
                  refine own_via (g' := T114.setTop (mkF m 158 #[.val (.int i0), .val (.int (0 : Int32)), .val (.int z2), .val (.int z3), .val (.int z4), .val (.ref b105), .val (.int (0 : Int32)), .val (.int (0 : Int32)), .val (.int (1 : Int32)), .unset] [(.int (1 : Int32))])) (fun t k => XS.ifNo X114.here hx rfl (hb hby at_155) rfl (XT.i0_ne_f (by decide)) k) ?_
                  refine own_via (g' := T114.setTop (mkF m 159 #[.val (.int i0), .val (.int (0 : Int32)), .val (.int z2), .val (.int z3), .val (.int z4), .val (.ref b105), .val (.int (0 : Int32)), .val (.int (0 : Int32)), .val (.int (1 : Int32)), .unset] [(.int (1 : Int32)), (.int (1 : Int32))])) (fun t k => XS.iconst X114.here hx rfl (hb hby at_158) k) ?_
                  refine own_via (g' := T114.setTop (mkF m 163 #[.val (.int i0), .val (.int (0 : Int32)), .val (.int z2), .val (.int z3), .val (.int z4), .val (.ref b105), .val (.int (0 : Int32)), .val (.int (0 : Int32)), .val (.int (1 : Int32)), .unset] [(.int (1 : Int32)), (.int (1 : Int32))])) (fun t k => XS.goto X114.here hx rfl (pc0 := 159) (pc' := 163) rfl (hb hby at_159) (by decide) (by decide) k) ?_
                  refine own_via (g' := T114.setTop (mkF m 166 #[.val (.int i0), .val (.int (0 : Int32)), .val (.int z2), .val (.int z3), .val (.int z4), .val (.ref b105), .val (.int (0 : Int32)), .val (.int (0 : Int32)), .val (.int (1 : Int32)), .unset] [])) (fun t k => XS.icmpNo X114.here hx rfl (hb hby at_163) rfl (XT.ii_ne_f (by decide)) k) ?_
                  refine own_via (g' := T114.setTop (mkF m 167 #[.val (.int i0), .val (.int (0 : Int32)), .val (.int z2), .val (.int z3), .val (.int z4), .val (.ref b105), .val (.int (0 : Int32)), .val (.int (0 : Int32)), .val (.int (1 : Int32)), .unset] [(.int (1 : Int32))])) (fun t k => XS.iconst X114.here hx rfl (hb hby at_166) k) ?_
                  refine own_via (g' := T114.setTop (mkF m 171 #[.val (.int i0), .val (.int (0 : Int32)), .val (.int z2), .val (.int z3), .val (.int z4), .val (.ref b105), .val (.int (0 : Int32)), .val (.int (0 : Int32)), .val (.int (1 : Int32)), .unset] [(.int (1 : Int32))])) (fun t k => XS.goto X114.here hx rfl (pc0 := 167) (pc' := 171) rfl (hb hby at_167) (by decide) (by decide) k) ?_
                  refine own_via (g' := T114.setTop (mkF m 173 #[.val (.int i0), .val (.int (0 : Int32)), .val (.int z2), .val (.int z3), .val (.int z4), .val (.ref b105), .val (.int (0 : Int32)), .val (.int (0 : Int32)), .val (.int (1 : Int32)), .unset] [])) (fun t k => XS.istore X114.here hx rfl (hb hby at_171) rfl (l' := #[.val (.int i0), .val (.int (0 : Int32)), .val (.int z2), .val (.int z3), .val (.int z4), .val (.ref b105), .val (.int (0 : Int32)), .val (.int (0 : Int32)), .val (.int (1 : Int32)), .unset]) rfl k) ?_
                  refine own_via (g' := T114.setTop (mkF m 175 #[.val (.int i0), .val (.int (0 : Int32)), .val (.int z2), .val (.int z3), .val (.int z4), .val (.ref b105), .val (.int (0 : Int32)), .val (.int (0 : Int32)), .val (.int (1 : Int32)), .unset] [(.int z4)])) (fun t k => XS.iload X114.here hx rfl (hb hby at_173) rfl k) ?_
                  by_cases hc175_115 : z4 = 0
                  · refine own_via (g' := T114.setTop (mkF m 183 #[.val (.int i0), .val (.int (0 : Int32)), .val (.int z2), .val (.int z3), .val (.int z4), .val (.ref b105), .val (.int (0 : Int32)), .val (.int (0 : Int32)), .val (.int (1 : Int32)), .unset] [])) (fun t k => XS.ifYes X114.here hx rfl (pc0 := 175) (pc' := 183) rfl (hb hby at_175) rfl (XT.i0_eq_t hc175_115) (by decide) (by decide) k) ?_
                    refine own_via (g' := T114.setTop (mkF m 185 #[.val (.int i0), .val (.int (0 : Int32)), .val (.int z2), .val (.int z3), .val (.int z4), .val (.ref b105), .val (.int (0 : Int32)), .val (.int (0 : Int32)), .val (.int (1 : Int32)), .unset] [(.ref b105)])) (fun t k => XS.aload X114.here hx rfl (hb hby at_183) rfl (rfl) k) ?_
                    obtain ⟨cq116, kq116, q116a, q116b, q116c⟩ := isOf hZ e114 A112
                    obtain ⟨v116, _, ⟨T116, L116, k116, n116⟩, -, X116, ⟨Lc116, hQ116, l116, y116, z116⟩, st116⟩ := X114.virtualBack hx (y := (⟨"com/example/rosterwright/rosterwright/Roster", "isChanged", "()Z"⟩ : MethodName)) (z := (⟨"com/example/rosterwright/rosterwright/Roster", "isChanged", "()Z"⟩ : MethodName)) hown (mvT hZ (hw _ (List.mem_of_getElem? (i := 101) rfl))) (mvT hZ (hw _ (List.mem_of_getElem? (i := 102) rfl))) (notFace_of_selects (args := #[]) (mvT hZ (hw _ (List.mem_of_getElem? (i := 104) rfl)))) (mvT hZ (hw _ (List.mem_of_getElem? (i := 104) rfl))) (mvT hZ (hw _ (List.mem_of_getElem? (i := 103) rfl))) (by decide) (backOf (W := 0) (own_rm15 l Z a0 hw [] b105 (1 : Int32) T112.heap n0 (Nat.le_trans Z0 Kc112.1) Fa112_1 (by decide)) hZ (hw _ (List.mem_of_getElem? (i := 105) rfl)) (hw _ (List.mem_of_getElem? (i := 2) rfl)) (by decide) (by decide)) q116a q116c (g := (mkF m 185 #[.val (.int i0), .val (.int (0 : Int32)), .val (.int z2), .val (.int z3), .val (.int z4), .val (.ref b105), .val (.int (0 : Int32)), .val (.int (0 : Int32)), .val (.int (1 : Int32)), .unset] [(.ref b105)])) rfl (by rw [hml]; rfl) (Steps.refl _) (argsL := []) (rest := []) (lenOf own_pd5 rfl) rfl (by show 2 * 0 + _ ≤ _; exact Nat.le_of_eq rfl) (hb hby at_185) (fun _ _ => ⟨rfl, e114, (by decide : 6 + 0 ≤ _), (by decide : 46 + 0 ≤ _)⟩)
                    dsimp only [Pt.U, Pt.locs, Pt.cells, Pt.slots] at X116 l116 y116 z116 st116 hQ116
                    subst l116 y116 z116
                    obtain ⟨rfl, N116q, e116⟩ := hQ116
                    have N116 := Fr.app N114 N116q
                    refine own_via (g' := T116.setTop (mkF m 188 #[.val (.int i0), .val (.int (0 : Int32)), .val (.int z2), .val (.int z3), .val (.int z4), .val (.ref b105), .val (.int (0 : Int32)), .val (.int (0 : Int32)), .val (.int (1 : Int32)), .unset] [(.int (1 : Int32))])) (fun t k => st116.trans k) ?_
                    refine own_via (g' := T116.setTop (mkF m 190 #[.val (.int i0), .val (.int (0 : Int32)), .val (.int z2), .val (.int z3), .val (.int z4), .val (.ref b105), .val (.int (0 : Int32)), .val (.int (0 : Int32)), .val (.int (1 : Int32)), .val (.int (1 : Int32))] [])) (fun t k => XS.istore X116.here hx rfl (hb hby at_188) rfl (l' := #[.val (.int i0), .val (.int (0 : Int32)), .val (.int z2), .val (.int z3), .val (.int z4), .val (.ref b105), .val (.int (0 : Int32)), .val (.int (0 : Int32)), .val (.int (1 : Int32)), .val (.int (1 : Int32))]) rfl k) ?_
                    refine own_via (g' := T116.setTop (mkF m 192 #[.val (.int i0), .val (.int (0 : Int32)), .val (.int z2), .val (.int z3), .val (.int z4), .val (.ref b105), .val (.int (0 : Int32)), .val (.int (0 : Int32)), .val (.int (1 : Int32)), .val (.int (1 : Int32))] [(.ref b105)])) (fun t k => XS.aload X116.here hx rfl (hb hby at_190) rfl (rfl) k) ?_
                    obtain ⟨cq117, kq117, q117a, q117b, q117c⟩ := isOf hZ e116 A112
                    obtain ⟨v117, _, ⟨T117, L117, k117, n117⟩, -, X117, ⟨Lc117, hQ117, l117, y117, z117⟩, st117⟩ := X116.virtualBack hx (y := (⟨"com/example/rosterwright/rosterwright/Roster", "keepChanges", "()V"⟩ : MethodName)) (z := (⟨"com/example/rosterwright/rosterwright/Roster", "keepChanges", "()V"⟩ : MethodName)) hown (mvT hZ (hw _ (List.mem_of_getElem? (i := 108) rfl))) (mvT hZ (hw _ (List.mem_of_getElem? (i := 109) rfl))) (notFace_of_selects (args := #[]) (mvT hZ (hw _ (List.mem_of_getElem? (i := 111) rfl)))) (mvT hZ (hw _ (List.mem_of_getElem? (i := 111) rfl))) (mvT hZ (hw _ (List.mem_of_getElem? (i := 110) rfl))) (by decide) (backOf (W := 0) (own_rm16 l Z a0 hw [] b105 (1 : Int32) (1 : Int32) (1 : Int32) T112.heap n0 (Nat.le_trans Z0 Kc112.1) A112 Fa112_0 Fa112_1 Fa112_2 Fa112_3 g_b105) hZ (hw _ (List.mem_of_getElem? (i := 112) rfl)) (hw _ (List.mem_of_getElem? (i := 2) rfl)) (by decide) (by decide)) q117a q117c (g := (mkF m 192 #[.val (.int i0), .val (.int (0 : Int32)), .val (.int z2), .val (.int z3), .val (.int z4), .val (.ref b105), .val (.int (0 : Int32)), .val (.int (0 : Int32)), .val (.int (1 : Int32)), .val (.int (1 : Int32))] [(.ref b105)])) rfl (by rw [hml]; rfl) (Steps.refl _) (argsL := []) (rest := []) (lenOf own_pd0 rfl) rfl (by show 2 * 0 + _ ≤ _; exact Nat.le_of_eq rfl) (hb hby at_192) (fun _ _ => ⟨rfl, e116, (by decide : 6 + 0 ≤ _), (by decide : 46 + 0 ≤ _)⟩)
                    dsimp only [Pt.U, Pt.locs, Pt.cells, Pt.slots] at X117 l117 y117 z117 st117 hQ117
                    subst l117 y117 z117
                    obtain ⟨rfl, N117q, K117, A117, Fa117_0, Fa117_1, Fa117_2, Fa117_3⟩ := hQ117
                    have Kc117 : Keep h0 T117.heap [] := Kc112.trans K117 (allS (Or.inr sz_b105) all0)
                    rw [show (own_kc (1 : Int32)) = (1 : Int32) from by decide] at Fa117_0
                    rw [show (own_ch (1 : Int32) (1 : Int32)) = (1 : Int32) from by decide] at Fa117_1
                    have N117 := Fr.app N116 N117q
                    refine own_via (g' := T117.setTop (mkF m 195 #[.val (.int i0), .val (.int (0 : Int32)), .val (.int z2), .val (.int z3), .val (.int z4), .val (.ref b105), .val (.int (0 : Int32)), .val (.int (0 : Int32)), .val (.int (1 : Int32)), .val (.int (1 : Int32))] [])) (fun t k => st117.trans k) ?_
                    refine own_via (g' := T117.setTop (mkF m 197 #[.val (.int i0), .val (.int (0 : Int32)), .val (.int z2), .val (.int z3), .val (.int z4), .val (.ref b105), .val (.int (0 : Int32)), .val (.int (0 : Int32)), .val (.int (1 : Int32)), .val (.int (1 : Int32))] [(.int (1 : Int32))])) (fun t k => XS.iload X117.here hx rfl (hb hby at_195) rfl k) ?_
                    refine own_via (g' := T117.setTop (mkF m 200 #[.val (.int i0), .val (.int (0 : Int32)), .val (.int z2), .val (.int z3), .val (.int z4), .val (.ref b105), .val (.int (0 : Int32)), .val (.int (0 : Int32)), .val (.int (1 : Int32)), .val (.int (1 : Int32))] [])) (fun t k => XS.ifNo X117.here hx rfl (hb hby at_197) rfl (XT.i0_eq_f (by decide)) k) ?_
                    refine own_via (g' := T117.setTop (mkF m 202 #[.val (.int i0), .val (.int (0 : Int32)), .val (.int z2), .val (.int z3), .val (.int z4), .val (.ref b105), .val (.int (0 : Int32)), .val (.int (0 : Int32)), .val (.int (1 : Int32)), .val (.int (1 : Int32))] [(.ref b105)])) (fun t k => XS.aload X117.here hx rfl (hb hby at_200) rfl (rfl) k) ?_
                    obtain ⟨cq118, kq118, q118a, q118b, q118c⟩ := isOf hZ rfl A117
                    obtain ⟨v118, _, ⟨T118, L118, k118, n118⟩, -, X118, ⟨Lc118, hQ118, l118, y118, z118⟩, st118⟩ := X117.virtualBack hx (y := (⟨"com/example/rosterwright/rosterwright/Roster", "keepsChanges", "()Z"⟩ : MethodName)) (z := (⟨"com/example/rosterwright/rosterwright/Roster", "keepsChanges", "()Z"⟩ : MethodName)) hown (mvT hZ (hw _ (List.mem_of_getElem? (i := 94) rfl))) (mvT hZ (hw _ (List.mem_of_getElem? (i := 95) rfl))) (notFace_of_selects (args := #[]) (mvT hZ (hw _ (List.mem_of_getElem? (i := 97) rfl)))) (mvT hZ (hw _ (List.mem_of_getElem? (i := 97) rfl))) (mvT hZ (hw _ (List.mem_of_getElem? (i := 96) rfl))) (by decide) (backOf (W := 0) (own_rm14 l Z a0 hw [] b105 (1 : Int32) T117.heap n0 (Nat.le_trans Z0 Kc117.1) Fa117_0 (by decide)) hZ (hw _ (List.mem_of_getElem? (i := 98) rfl)) (hw _ (List.mem_of_getElem? (i := 2) rfl)) (by decide) (by decide)) q118a q118c (g := (mkF m 202 #[.val (.int i0), .val (.int (0 : Int32)), .val (.int z2), .val (.int z3), .val (.int z4), .val (.ref b105), .val (.int (0 : Int32)), .val (.int (0 : Int32)), .val (.int (1 : Int32)), .val (.int (1 : Int32))] [(.ref b105)])) rfl (by rw [hml]; rfl) (Steps.refl _) (argsL := []) (rest := []) (lenOf own_pd5 rfl) rfl (by show 2 * 0 + _ ≤ _; exact Nat.le_of_eq rfl) (hb hby at_202) (fun _ _ => ⟨rfl, rfl, (by decide : 6 + 0 ≤ _), (by decide : 46 + 0 ≤ _)⟩)
                    dsimp only [Pt.U, Pt.locs, Pt.cells, Pt.slots] at X118 l118 y118 z118 st118 hQ118
                    subst l118 y118 z118
                    obtain ⟨rfl, N118q, e118⟩ := hQ118
                    have N118 := Fr.app N117 N118q
                    refine own_via (g' := T118.setTop (mkF m 205 #[.val (.int i0), .val (.int (0 : Int32)), .val (.int z2), .val (.int z3), .val (.int z4), .val (.ref b105), .val (.int (0 : Int32)), .val (.int (0 : Int32)), .val (.int (1 : Int32)), .val (.int (1 : Int32))] [(.int (1 : Int32))])) (fun t k => st118.trans k) ?_
                    refine own_via (g' := T118.setTop (mkF m 208 #[.val (.int i0), .val (.int (0 : Int32)), .val (.int z2), .val (.int z3), .val (.int z4), .val (.ref b105), .val (.int (0 : Int32)), .val (.int (0 : Int32)), .val (.int (1 : Int32)), .val (.int (1 : Int32))] [])) (fun t k => XS.ifNo X118.here hx rfl (hb hby at_205) rfl (XT.i0_eq_f (by decide)) k) ?_
                    refine own_via (g' := T118.setTop (mkF m 209 #[.val (.int i0), .val (.int (0 : Int32)), .val (.int z2), .val (.int z3), .val (.int z4), .val (.ref b105), .val (.int (0 : Int32)), .val (.int (0 : Int32)), .val (.int (1 : Int32)), .val (.int (1 : Int32))] [(.int (1 : Int32))])) (fun t k => XS.iconst X118.here hx rfl (hb hby at_208) k) ?_
                    refine own_via (g' := T118.setTop (mkF m 213 #[.val (.int i0), .val (.int (0 : Int32)), .val (.int z2), .val (.int z3), .val (.int z4), .val (.ref b105), .val (.int (0 : Int32)), .val (.int (0 : Int32)), .val (.int (1 : Int32)), .val (.int (1 : Int32))] [(.int (1 : Int32))])) (fun t k => XS.goto X118.here hx rfl (pc0 := 209) (pc' := 213) rfl (hb hby at_209) (by decide) (by decide) k) ?_
                    refine own_via (g' := T118.setTop (mkF m 215 #[.val (.int i0), .val (.int (0 : Int32)), .val (.int z2), .val (.int z3), .val (.int z4), .val (.ref b105), .val (.int (0 : Int32)), .val (.int (0 : Int32)), .val (.int (1 : Int32)), .val (.int (1 : Int32))] [])) (fun t k => XS.istore X118.here hx rfl (hb hby at_213) rfl (l' := #[.val (.int i0), .val (.int (0 : Int32)), .val (.int z2), .val (.int z3), .val (.int z4), .val (.ref b105), .val (.int (0 : Int32)), .val (.int (0 : Int32)), .val (.int (1 : Int32)), .val (.int (1 : Int32))]) rfl k) ?_
                    refine own_via (g' := T118.setTop (mkF m 217 #[.val (.int i0), .val (.int (0 : Int32)), .val (.int z2), .val (.int z3), .val (.int z4), .val (.ref b105), .val (.int (0 : Int32)), .val (.int (0 : Int32)), .val (.int (1 : Int32)), .val (.int (1 : Int32))] [(.int (1 : Int32))])) (fun t k => XS.iload X118.here hx rfl (hb hby at_215) rfl k) ?_
                    refine own_via (g' := T118.setTop (mkF m 220 #[.val (.int i0), .val (.int (0 : Int32)), .val (.int z2), .val (.int z3), .val (.int z4), .val (.ref b105), .val (.int (0 : Int32)), .val (.int (0 : Int32)), .val (.int (1 : Int32)), .val (.int (1 : Int32))] [])) (fun t k => XS.ifNo X118.here hx rfl (hb hby at_217) rfl (XT.i0_eq_f (by decide)) k) ?_
                    refine own_via (g' := T118.setTop (mkF m 222 #[.val (.int i0), .val (.int (0 : Int32)), .val (.int z2), .val (.int z3), .val (.int z4), .val (.ref b105), .val (.int (0 : Int32)), .val (.int (0 : Int32)), .val (.int (1 : Int32)), .val (.int (1 : Int32))] [(.ref b105)])) (fun t k => XS.aload X118.here hx rfl (hb hby at_220) rfl (rfl) k) ?_
                    obtain ⟨cq119, kq119, q119a, q119b, q119c⟩ := isOf hZ e118 A117
                    obtain ⟨v119, _, ⟨T119, L119, k119, n119⟩, -, X119, ⟨Lc119, hQ119, l119, y119, z119⟩, st119⟩ := X118.virtualBack hx (y := (⟨"com/example/rosterwright/rosterwright/Roster", "isChanged", "()Z"⟩ : MethodName)) (z := (⟨"com/example/rosterwright/rosterwright/Roster", "isChanged", "()Z"⟩ : MethodName)) hown (mvT hZ (hw _ (List.mem_of_getElem? (i := 101) rfl))) (mvT hZ (hw _ (List.mem_of_getElem? (i := 102) rfl))) (notFace_of_selects (args := #[]) (mvT hZ (hw _ (List.mem_of_getElem? (i := 104) rfl)))) (mvT hZ (hw _ (List.mem_of_getElem? (i := 104) rfl))) (mvT hZ (hw _ (List.mem_of_getElem? (i := 103) rfl))) (by decide) (backOf (W := 0) (own_rm15 l Z a0 hw [] b105 (1 : Int32) T117.heap n0 (Nat.le_trans Z0 Kc117.1) Fa117_1 (by decide)) hZ (hw _ (List.mem_of_getElem? (i := 105) rfl)) (hw _ (List.mem_of_getElem? (i := 2) rfl)) (by decide) (by decide)) q119a q119c (g := (mkF m 222 #[.val (.int i0), .val (.int (0 : Int32)), .val (.int z2), .val (.int z3), .val (.int z4), .val (.ref b105), .val (.int (0 : Int32)), .val (.int (0 : Int32)), .val (.int (1 : Int32)), .val (.int (1 : Int32))] [(.ref b105)])) rfl (by rw [hml]; rfl) (Steps.refl _) (argsL := []) (rest := []) (lenOf own_pd5 rfl) rfl (by show 2 * 0 + _ ≤ _; exact Nat.le_of_eq rfl) (hb hby at_222) (fun _ _ => ⟨rfl, e118, (by decide : 6 + 0 ≤ _), (by decide : 46 + 0 ≤ _)⟩)
                    dsimp only [Pt.U, Pt.locs, Pt.cells, Pt.slots] at X119 l119 y119 z119 st119 hQ119
                    subst l119 y119 z119
                    obtain ⟨rfl, N119q, e119⟩ := hQ119
                    have N119 := Fr.app N118 N119q
                    refine own_via (g' := T119.setTop (mkF m 225 #[.val (.int i0), .val (.int (0 : Int32)), .val (.int z2), .val (.int z3), .val (.int z4), .val (.ref b105), .val (.int (0 : Int32)), .val (.int (0 : Int32)), .val (.int (1 : Int32)), .val (.int (1 : Int32))] [(.int (1 : Int32))])) (fun t k => st119.trans k) ?_
                    refine own_via (g' := T119.setTop (mkF m 227 #[.val (.int i0), .val (.int (0 : Int32)), .val (.int z2), .val (.int z3), .val (.int z4), .val (.ref b105), .val (.int (0 : Int32)), .val (.int (0 : Int32)), .val (.int (1 : Int32)), .val (.int (1 : Int32))] [(.int (1 : Int32)), (.int (1 : Int32))])) (fun t k => XS.iload X119.here hx rfl (hb hby at_225) rfl k) ?_
                    refine own_via (g' := T119.setTop (mkF m 230 #[.val (.int i0), .val (.int (0 : Int32)), .val (.int z2), .val (.int z3), .val (.int z4), .val (.ref b105), .val (.int (0 : Int32)), .val (.int (0 : Int32)), .val (.int (1 : Int32)), .val (.int (1 : Int32))] [])) (fun t k => XS.icmpNo X119.here hx rfl (hb hby at_227) rfl (XT.ii_ne_f (by decide)) k) ?_
                    refine own_via (g' := T119.setTop (mkF m 231 #[.val (.int i0), .val (.int (0 : Int32)), .val (.int z2), .val (.int z3), .val (.int z4), .val (.ref b105), .val (.int (0 : Int32)), .val (.int (0 : Int32)), .val (.int (1 : Int32)), .val (.int (1 : Int32))] [(.int (1 : Int32))])) (fun t k => XS.iconst X119.here hx rfl (hb hby at_230) k) ?_
                    refine own_via (g' := T119.setTop (mkF m 235 #[.val (.int i0), .val (.int (0 : Int32)), .val (.int z2), .val (.int z3), .val (.int z4), .val (.ref b105), .val (.int (0 : Int32)), .val (.int (0 : Int32)), .val (.int (1 : Int32)), .val (.int (1 : Int32))] [(.int (1 : Int32))])) (fun t k => XS.goto X119.here hx rfl (pc0 := 231) (pc' := 235) rfl (hb hby at_231) (by decide) (by decide) k) ?_
                    refine own_via (g' := T119.setTop (mkF m 237 #[.val (.int i0), .val (.int (0 : Int32)), .val (.int z2), .val (.int z3), .val (.int z4), .val (.ref b105), .val (.int (0 : Int32)), .val (.int (0 : Int32)), .val (.int (1 : Int32)), .val (.int (1 : Int32))] [])) (fun t k => XS.istore X119.here hx rfl (hb hby at_235) rfl (l' := #[.val (.int i0), .val (.int (0 : Int32)), .val (.int z2), .val (.int z3), .val (.int z4), .val (.ref b105), .val (.int (0 : Int32)), .val (.int (0 : Int32)), .val (.int (1 : Int32)), .val (.int (1 : Int32))]) rfl k) ?_
                    refine own_via (g' := T119.setTop (mkF m 239 #[.val (.int i0), .val (.int (0 : Int32)), .val (.int z2), .val (.int z3), .val (.int z4), .val (.ref b105), .val (.int (0 : Int32)), .val (.int (0 : Int32)), .val (.int (1 : Int32)), .val (.int (1 : Int32))] [(.int (1 : Int32))])) (fun t k => XS.iload X119.here hx rfl (hb hby at_237) rfl k) ?_
                    exact own_retB X119 hx hlk (t := .boolean) Bd.returns (by simp) (hb hby at_239) ⟨rfl, N119⟩ (by decide) (by decide)
                  · refine own_via (g' := T114.setTop (mkF m 178 #[.val (.int i0), .val (.int (0 : Int32)), .val (.int z2), .val (.int z3), .val (.int z4), .val (.ref b105), .val (.int (0 : Int32)), .val (.int (0 : Int32)), .val (.int (1 : Int32)), .unset] [])) (fun t k => XS.ifNo X114.here hx rfl (hb hby at_175) rfl (XT.i0_eq_f hc175_115) k) ?_
                    refine own_via (g' := T114.setTop (mkF m 180 #[.val (.int i0), .val (.int (0 : Int32)), .val (.int z2), .val (.int z3), .val (.int z4), .val (.ref b105), .val (.int (0 : Int32)), .val (.int (0 : Int32)), .val (.int (1 : Int32)), .unset] [(.ref b105)])) (fun t k => XS.aload X114.here hx rfl (hb hby at_178) rfl (rfl) k) ?_
                    obtain ⟨cq120, kq120, q120a, q120b, q120c⟩ := isOf hZ e114 A112
                    obtain ⟨v120, _, ⟨T120, L120, k120, n120⟩, -, X120, ⟨Lc120, hQ120, l120, y120, z120⟩, st120⟩ := X114.virtualBack hx (y := (⟨"com/example/rosterwright/rosterwright/Roster", "markKept", "()V"⟩ : MethodName)) (z := (⟨"com/example/rosterwright/rosterwright/Roster", "markKept", "()V"⟩ : MethodName)) hown (mvT hZ (hw _ (List.mem_of_getElem? (i := 117) rfl))) (mvT hZ (hw _ (List.mem_of_getElem? (i := 118) rfl))) (notFace_of_selects (args := #[]) (mvT hZ (hw _ (List.mem_of_getElem? (i := 120) rfl)))) (mvT hZ (hw _ (List.mem_of_getElem? (i := 120) rfl))) (mvT hZ (hw _ (List.mem_of_getElem? (i := 119) rfl))) (by decide) (backOf (W := 0) (own_rm17 l Z a0 hw [] b105 (1 : Int32) (1 : Int32) (1 : Int32) T112.heap n0 (Nat.le_trans Z0 Kc112.1) A112 Fa112_0 Fa112_1 Fa112_2 Fa112_3 g_b105) hZ (hw _ (List.mem_of_getElem? (i := 121) rfl)) (hw _ (List.mem_of_getElem? (i := 2) rfl)) (by decide) (by decide)) q120a q120c (g := (mkF m 180 #[.val (.int i0), .val (.int (0 : Int32)), .val (.int z2), .val (.int z3), .val (.int z4), .val (.ref b105), .val (.int (0 : Int32)), .val (.int (0 : Int32)), .val (.int (1 : Int32)), .unset] [(.ref b105)])) rfl (by rw [hml]; rfl) (Steps.refl _) (argsL := []) (rest := []) (lenOf own_pd0 rfl) rfl (by show 2 * 0 + _ ≤ _; exact Nat.le_of_eq rfl) (hb hby at_180) (fun _ _ => ⟨rfl, e114, (by decide : 6 + 0 ≤ _), (by decide : 46 + 0 ≤ _)⟩)
                    dsimp only [Pt.U, Pt.locs, Pt.cells, Pt.slots] at X120 l120 y120 z120 st120 hQ120
                    subst l120 y120 z120
                    obtain ⟨rfl, N120q, K120, A120, Fa120_0, Fa120_1, Fa120_2, Fa120_3⟩ := hQ120
                    have Kc120 : Keep h0 T120.heap [] := Kc112.trans K120 (allS (Or.inr sz_b105) all0)
                    have N120 := Fr.app N114 N120q
                    refine own_via (g' := T120.setTop (mkF m 183 #[.val (.int i0), .val (.int (0 : Int32)), .val (.int z2), .val (.int z3), .val (.int z4), .val (.ref b105), .val (.int (0 : Int32)), .val (.int (0 : Int32)), .val (.int (1 : Int32)), .unset] [])) (fun t k => st120.trans k) ?_
                    refine own_via (g' := T120.setTop (mkF m 185 #[.val (.int i0), .val (.int (0 : Int32)), .val (.int z2), .val (.int z3), .val (.int z4), .val (.ref b105), .val (.int (0 : Int32)), .val (.int (0 : Int32)), .val (.int (1 : Int32)), .unset] [(.ref b105)])) (fun t k => XS.aload X120.here hx rfl (hb hby at_183) rfl (rfl) k) ?_
                    obtain ⟨cq121, kq121, q121a, q121b, q121c⟩ := isOf hZ rfl A120
                    obtain ⟨v121, _, ⟨T121, L121, k121, n121⟩, -, X121, ⟨Lc121, hQ121, l121, y121, z121⟩, st121⟩ := X120.virtualBack hx (y := (⟨"com/example/rosterwright/rosterwright/Roster", "isChanged", "()Z"⟩ : MethodName)) (z := (⟨"com/example/rosterwright/rosterwright/Roster", "isChanged", "()Z"⟩ : MethodName)) hown (mvT hZ (hw _ (List.mem_of_getElem? (i := 101) rfl))) (mvT hZ (hw _ (List.mem_of_getElem? (i := 102) rfl))) (notFace_of_selects (args := #[]) (mvT hZ (hw _ (List.mem_of_getElem? (i := 104) rfl)))) (mvT hZ (hw _ (List.mem_of_getElem? (i := 104) rfl))) (mvT hZ (hw _ (List.mem_of_getElem? (i := 103) rfl))) (by decide) (backOf (W := 0) (own_rm15 l Z a0 hw [] b105 (0 : Int32) T120.heap n0 (Nat.le_trans Z0 Kc120.1) Fa120_1 (by decide)) hZ (hw _ (List.mem_of_getElem? (i := 105) rfl)) (hw _ (List.mem_of_getElem? (i := 2) rfl)) (by decide) (by decide)) q121a q121c (g := (mkF m 185 #[.val (.int i0), .val (.int (0 : Int32)), .val (.int z2), .val (.int z3), .val (.int z4), .val (.ref b105), .val (.int (0 : Int32)), .val (.int (0 : Int32)), .val (.int (1 : Int32)), .unset] [(.ref b105)])) rfl (by rw [hml]; rfl) (Steps.refl _) (argsL := []) (rest := []) (lenOf own_pd5 rfl) rfl (by show 2 * 0 + _ ≤ _; exact Nat.le_of_eq rfl) (hb hby at_185) (fun _ _ => ⟨rfl, rfl, (by decide : 6 + 0 ≤ _), (by decide : 46 + 0 ≤ _)⟩)
                    dsimp only [Pt.U, Pt.locs, Pt.cells, Pt.slots] at X121 l121 y121 z121 st121 hQ121
                    subst l121 y121 z121
                    obtain ⟨rfl, N121q, e121⟩ := hQ121
                    have N121 := Fr.app N120 N121q
                    refine own_via (g' := T121.setTop (mkF m 188 #[.val (.int i0), .val (.int (0 : Int32)), .val (.int z2), .val (.int z3), .val (.int z4), .val (.ref b105), .val (.int (0 : Int32)), .val (.int (0 : Int32)), .val (.int (1 : Int32)), .unset] [(.int (0 : Int32))])) (fun t k => st121.trans k) ?_
                    refine own_via (g' := T121.setTop (mkF m 190 #[.val (.int i0), .val (.int (0 : Int32)), .val (.int z2), .val (.int z3), .val (.int z4), .val (.ref b105), .val (.int (0 : Int32)), .val (.int (0 : Int32)), .val (.int (1 : Int32)), .val (.int (0 : Int32))] [])) (fun t k => XS.istore X121.here hx rfl (hb hby at_188) rfl (l' := #[.val (.int i0), .val (.int (0 : Int32)), .val (.int z2), .val (.int z3), .val (.int z4), .val (.ref b105), .val (.int (0 : Int32)), .val (.int (0 : Int32)), .val (.int (1 : Int32)), .val (.int (0 : Int32))]) rfl k) ?_
                    refine own_via (g' := T121.setTop (mkF m 192 #[.val (.int i0), .val (.int (0 : Int32)), .val (.int z2), .val (.int z3), .val (.int z4), .val (.ref b105), .val (.int (0 : Int32)), .val (.int (0 : Int32)), .val (.int (1 : Int32)), .val (.int (0 : Int32))] [(.ref b105)])) (fun t k => XS.aload X121.here hx rfl (hb hby at_190) rfl (rfl) k) ?_
                    obtain ⟨cq122, kq122, q122a, q122b, q122c⟩ := isOf hZ e121 A120
                    obtain ⟨v122, _, ⟨T122, L122, k122, n122⟩, -, X122, ⟨Lc122, hQ122, l122, y122, z122⟩, st122⟩ := X121.virtualBack hx (y := (⟨"com/example/rosterwright/rosterwright/Roster", "keepChanges", "()V"⟩ : MethodName)) (z := (⟨"com/example/rosterwright/rosterwright/Roster", "keepChanges", "()V"⟩ : MethodName)) hown (mvT hZ (hw _ (List.mem_of_getElem? (i := 108) rfl))) (mvT hZ (hw _ (List.mem_of_getElem? (i := 109) rfl))) (notFace_of_selects (args := #[]) (mvT hZ (hw _ (List.mem_of_getElem? (i := 111) rfl)))) (mvT hZ (hw _ (List.mem_of_getElem? (i := 111) rfl))) (mvT hZ (hw _ (List.mem_of_getElem? (i := 110) rfl))) (by decide) (backOf (W := 0) (own_rm16 l Z a0 hw [] b105 (1 : Int32) (0 : Int32) (1 : Int32) T120.heap n0 (Nat.le_trans Z0 Kc120.1) A120 Fa120_0 Fa120_1 Fa120_2 Fa120_3 g_b105) hZ (hw _ (List.mem_of_getElem? (i := 112) rfl)) (hw _ (List.mem_of_getElem? (i := 2) rfl)) (by decide) (by decide)) q122a q122c (g := (mkF m 192 #[.val (.int i0), .val (.int (0 : Int32)), .val (.int z2), .val (.int z3), .val (.int z4), .val (.ref b105), .val (.int (0 : Int32)), .val (.int (0 : Int32)), .val (.int (1 : Int32)), .val (.int (0 : Int32))] [(.ref b105)])) rfl (by rw [hml]; rfl) (Steps.refl _) (argsL := []) (rest := []) (lenOf own_pd0 rfl) rfl (by show 2 * 0 + _ ≤ _; exact Nat.le_of_eq rfl) (hb hby at_192) (fun _ _ => ⟨rfl, e121, (by decide : 6 + 0 ≤ _), (by decide : 46 + 0 ≤ _)⟩)
                    dsimp only [Pt.U, Pt.locs, Pt.cells, Pt.slots] at X122 l122 y122 z122 st122 hQ122
                    subst l122 y122 z122
                    obtain ⟨rfl, N122q, K122, A122, Fa122_0, Fa122_1, Fa122_2, Fa122_3⟩ := hQ122
                    have Kc122 : Keep h0 T122.heap [] := Kc120.trans K122 (allS (Or.inr sz_b105) all0)
                    rw [show (own_kc (1 : Int32)) = (1 : Int32) from by decide] at Fa122_0
                    rw [show (own_ch (1 : Int32) (0 : Int32)) = (0 : Int32) from by decide] at Fa122_1
                    have N122 := Fr.app N121 N122q
                    refine own_via (g' := T122.setTop (mkF m 195 #[.val (.int i0), .val (.int (0 : Int32)), .val (.int z2), .val (.int z3), .val (.int z4), .val (.ref b105), .val (.int (0 : Int32)), .val (.int (0 : Int32)), .val (.int (1 : Int32)), .val (.int (0 : Int32))] [])) (fun t k => st122.trans k) ?_
                    refine own_via (g' := T122.setTop (mkF m 197 #[.val (.int i0), .val (.int (0 : Int32)), .val (.int z2), .val (.int z3), .val (.int z4), .val (.ref b105), .val (.int (0 : Int32)), .val (.int (0 : Int32)), .val (.int (1 : Int32)), .val (.int (0 : Int32))] [(.int (1 : Int32))])) (fun t k => XS.iload X122.here hx rfl (hb hby at_195) rfl k) ?_
                    refine own_via (g' := T122.setTop (mkF m 200 #[.val (.int i0), .val (.int (0 : Int32)), .val (.int z2), .val (.int z3), .val (.int z4), .val (.ref b105), .val (.int (0 : Int32)), .val (.int (0 : Int32)), .val (.int (1 : Int32)), .val (.int (0 : Int32))] [])) (fun t k => XS.ifNo X122.here hx rfl (hb hby at_197) rfl (XT.i0_eq_f (by decide)) k) ?_
                    refine own_via (g' := T122.setTop (mkF m 202 #[.val (.int i0), .val (.int (0 : Int32)), .val (.int z2), .val (.int z3), .val (.int z4), .val (.ref b105), .val (.int (0 : Int32)), .val (.int (0 : Int32)), .val (.int (1 : Int32)), .val (.int (0 : Int32))] [(.ref b105)])) (fun t k => XS.aload X122.here hx rfl (hb hby at_200) rfl (rfl) k) ?_
                    obtain ⟨cq123, kq123, q123a, q123b, q123c⟩ := isOf hZ rfl A122
                    obtain ⟨v123, _, ⟨T123, L123, k123, n123⟩, -, X123, ⟨Lc123, hQ123, l123, y123, z123⟩, st123⟩ := X122.virtualBack hx (y := (⟨"com/example/rosterwright/rosterwright/Roster", "keepsChanges", "()Z"⟩ : MethodName)) (z := (⟨"com/example/rosterwright/rosterwright/Roster", "keepsChanges", "()Z"⟩ : MethodName)) hown (mvT hZ (hw _ (List.mem_of_getElem? (i := 94) rfl))) (mvT hZ (hw _ (List.mem_of_getElem? (i := 95) rfl))) (notFace_of_selects (args := #[]) (mvT hZ (hw _ (List.mem_of_getElem? (i := 97) rfl)))) (mvT hZ (hw _ (List.mem_of_getElem? (i := 97) rfl))) (mvT hZ (hw _ (List.mem_of_getElem? (i := 96) rfl))) (by decide) (backOf (W := 0) (own_rm14 l Z a0 hw [] b105 (1 : Int32) T122.heap n0 (Nat.le_trans Z0 Kc122.1) Fa122_0 (by decide)) hZ (hw _ (List.mem_of_getElem? (i := 98) rfl)) (hw _ (List.mem_of_getElem? (i := 2) rfl)) (by decide) (by decide)) q123a q123c (g := (mkF m 202 #[.val (.int i0), .val (.int (0 : Int32)), .val (.int z2), .val (.int z3), .val (.int z4), .val (.ref b105), .val (.int (0 : Int32)), .val (.int (0 : Int32)), .val (.int (1 : Int32)), .val (.int (0 : Int32))] [(.ref b105)])) rfl (by rw [hml]; rfl) (Steps.refl _) (argsL := []) (rest := []) (lenOf own_pd5 rfl) rfl (by show 2 * 0 + _ ≤ _; exact Nat.le_of_eq rfl) (hb hby at_202) (fun _ _ => ⟨rfl, rfl, (by decide : 6 + 0 ≤ _), (by decide : 46 + 0 ≤ _)⟩)
                    dsimp only [Pt.U, Pt.locs, Pt.cells, Pt.slots] at X123 l123 y123 z123 st123 hQ123
                    subst l123 y123 z123
                    obtain ⟨rfl, N123q, e123⟩ := hQ123
                    have N123 := Fr.app N122 N123q
                    refine own_via (g' := T123.setTop (mkF m 205 #[.val (.int i0), .val (.int (0 : Int32)), .val (.int z2), .val (.int z3), .val (.int z4), .val (.ref b105), .val (.int (0 : Int32)), .val (.int (0 : Int32)), .val (.int (1 : Int32)), .val (.int (0 : Int32))] [(.int (1 : Int32))])) (fun t k => st123.trans k) ?_
                    refine own_via (g' := T123.setTop (mkF m 208 #[.val (.int i0), .val (.int (0 : Int32)), .val (.int z2), .val (.int z3), .val (.int z4), .val (.ref b105), .val (.int (0 : Int32)), .val (.int (0 : Int32)), .val (.int (1 : Int32)), .val (.int (0 : Int32))] [])) (fun t k => XS.ifNo X123.here hx rfl (hb hby at_205) rfl (XT.i0_eq_f (by decide)) k) ?_
                    refine own_via (g' := T123.setTop (mkF m 209 #[.val (.int i0), .val (.int (0 : Int32)), .val (.int z2), .val (.int z3), .val (.int z4), .val (.ref b105), .val (.int (0 : Int32)), .val (.int (0 : Int32)), .val (.int (1 : Int32)), .val (.int (0 : Int32))] [(.int (1 : Int32))])) (fun t k => XS.iconst X123.here hx rfl (hb hby at_208) k) ?_
                    refine own_via (g' := T123.setTop (mkF m 213 #[.val (.int i0), .val (.int (0 : Int32)), .val (.int z2), .val (.int z3), .val (.int z4), .val (.ref b105), .val (.int (0 : Int32)), .val (.int (0 : Int32)), .val (.int (1 : Int32)), .val (.int (0 : Int32))] [(.int (1 : Int32))])) (fun t k => XS.goto X123.here hx rfl (pc0 := 209) (pc' := 213) rfl (hb hby at_209) (by decide) (by decide) k) ?_
                    refine own_via (g' := T123.setTop (mkF m 215 #[.val (.int i0), .val (.int (0 : Int32)), .val (.int z2), .val (.int z3), .val (.int z4), .val (.ref b105), .val (.int (0 : Int32)), .val (.int (0 : Int32)), .val (.int (1 : Int32)), .val (.int (0 : Int32))] [])) (fun t k => XS.istore X123.here hx rfl (hb hby at_213) rfl (l' := #[.val (.int i0), .val (.int (0 : Int32)), .val (.int z2), .val (.int z3), .val (.int z4), .val (.ref b105), .val (.int (0 : Int32)), .val (.int (0 : Int32)), .val (.int (1 : Int32)), .val (.int (0 : Int32))]) rfl k) ?_
                    refine own_via (g' := T123.setTop (mkF m 217 #[.val (.int i0), .val (.int (0 : Int32)), .val (.int z2), .val (.int z3), .val (.int z4), .val (.ref b105), .val (.int (0 : Int32)), .val (.int (0 : Int32)), .val (.int (1 : Int32)), .val (.int (0 : Int32))] [(.int (1 : Int32))])) (fun t k => XS.iload X123.here hx rfl (hb hby at_215) rfl k) ?_
                    refine own_via (g' := T123.setTop (mkF m 220 #[.val (.int i0), .val (.int (0 : Int32)), .val (.int z2), .val (.int z3), .val (.int z4), .val (.ref b105), .val (.int (0 : Int32)), .val (.int (0 : Int32)), .val (.int (1 : Int32)), .val (.int (0 : Int32))] [])) (fun t k => XS.ifNo X123.here hx rfl (hb hby at_217) rfl (XT.i0_eq_f (by decide)) k) ?_
                    refine own_via (g' := T123.setTop (mkF m 222 #[.val (.int i0), .val (.int (0 : Int32)), .val (.int z2), .val (.int z3), .val (.int z4), .val (.ref b105), .val (.int (0 : Int32)), .val (.int (0 : Int32)), .val (.int (1 : Int32)), .val (.int (0 : Int32))] [(.ref b105)])) (fun t k => XS.aload X123.here hx rfl (hb hby at_220) rfl (rfl) k) ?_
                    obtain ⟨cq124, kq124, q124a, q124b, q124c⟩ := isOf hZ e123 A122
                    obtain ⟨v124, _, ⟨T124, L124, k124, n124⟩, -, X124, ⟨Lc124, hQ124, l124, y124, z124⟩, st124⟩ := X123.virtualBack hx (y := (⟨"com/example/rosterwright/rosterwright/Roster", "isChanged", "()Z"⟩ : MethodName)) (z := (⟨"com/example/rosterwright/rosterwright/Roster", "isChanged", "()Z"⟩ : MethodName)) hown (mvT hZ (hw _ (List.mem_of_getElem? (i := 101) rfl))) (mvT hZ (hw _ (List.mem_of_getElem? (i := 102) rfl))) (notFace_of_selects (args := #[]) (mvT hZ (hw _ (List.mem_of_getElem? (i := 104) rfl)))) (mvT hZ (hw _ (List.mem_of_getElem? (i := 104) rfl))) (mvT hZ (hw _ (List.mem_of_getElem? (i := 103) rfl))) (by decide) (backOf (W := 0) (own_rm15 l Z a0 hw [] b105 (0 : Int32) T122.heap n0 (Nat.le_trans Z0 Kc122.1) Fa122_1 (by decide)) hZ (hw _ (List.mem_of_getElem? (i := 105) rfl)) (hw _ (List.mem_of_getElem? (i := 2) rfl)) (by decide) (by decide)) q124a q124c (g := (mkF m 222 #[.val (.int i0), .val (.int (0 : Int32)), .val (.int z2), .val (.int z3), .val (.int z4), .val (.ref b105), .val (.int (0 : Int32)), .val (.int (0 : Int32)), .val (.int (1 : Int32)), .val (.int (0 : Int32))] [(.ref b105)])) rfl (by rw [hml]; rfl) (Steps.refl _) (argsL := []) (rest := []) (lenOf own_pd5 rfl) rfl (by show 2 * 0 + _ ≤ _; exact Nat.le_of_eq rfl) (hb hby at_222) (fun _ _ => ⟨rfl, e123, (by decide : 6 + 0 ≤ _), (by decide : 46 + 0 ≤ _)⟩)
                    dsimp only [Pt.U, Pt.locs, Pt.cells, Pt.slots] at X124 l124 y124 z124 st124 hQ124
                    subst l124 y124 z124
                    obtain ⟨rfl, N124q, e124⟩ := hQ124
                    have N124 := Fr.app N123 N124q
                    refine own_via (g' := T124.setTop (mkF m 225 #[.val (.int i0), .val (.int (0 : Int32)), .val (.int z2), .val (.int z3), .val (.int z4), .val (.ref b105), .val (.int (0 : Int32)), .val (.int (0 : Int32)), .val (.int (1 : Int32)), .val (.int (0 : Int32))] [(.int (0 : Int32))])) (fun t k => st124.trans k) ?_
                    refine own_via (g' := T124.setTop (mkF m 227 #[.val (.int i0), .val (.int (0 : Int32)), .val (.int z2), .val (.int z3), .val (.int z4), .val (.ref b105), .val (.int (0 : Int32)), .val (.int (0 : Int32)), .val (.int (1 : Int32)), .val (.int (0 : Int32))] [(.int (0 : Int32)), (.int (0 : Int32))])) (fun t k => XS.iload X124.here hx rfl (hb hby at_225) rfl k) ?_
                    refine own_via (g' := T124.setTop (mkF m 230 #[.val (.int i0), .val (.int (0 : Int32)), .val (.int z2), .val (.int z3), .val (.int z4), .val (.ref b105), .val (.int (0 : Int32)), .val (.int (0 : Int32)), .val (.int (1 : Int32)), .val (.int (0 : Int32))] [])) (fun t k => XS.icmpNo X124.here hx rfl (hb hby at_227) rfl (XT.ii_ne_f (by decide)) k) ?_
                    refine own_via (g' := T124.setTop (mkF m 231 #[.val (.int i0), .val (.int (0 : Int32)), .val (.int z2), .val (.int z3), .val (.int z4), .val (.ref b105), .val (.int (0 : Int32)), .val (.int (0 : Int32)), .val (.int (1 : Int32)), .val (.int (0 : Int32))] [(.int (1 : Int32))])) (fun t k => XS.iconst X124.here hx rfl (hb hby at_230) k) ?_
                    refine own_via (g' := T124.setTop (mkF m 235 #[.val (.int i0), .val (.int (0 : Int32)), .val (.int z2), .val (.int z3), .val (.int z4), .val (.ref b105), .val (.int (0 : Int32)), .val (.int (0 : Int32)), .val (.int (1 : Int32)), .val (.int (0 : Int32))] [(.int (1 : Int32))])) (fun t k => XS.goto X124.here hx rfl (pc0 := 231) (pc' := 235) rfl (hb hby at_231) (by decide) (by decide) k) ?_
                    refine own_via (g' := T124.setTop (mkF m 237 #[.val (.int i0), .val (.int (0 : Int32)), .val (.int z2), .val (.int z3), .val (.int z4), .val (.ref b105), .val (.int (0 : Int32)), .val (.int (0 : Int32)), .val (.int (1 : Int32)), .val (.int (0 : Int32))] [])) (fun t k => XS.istore X124.here hx rfl (hb hby at_235) rfl (l' := #[.val (.int i0), .val (.int (0 : Int32)), .val (.int z2), .val (.int z3), .val (.int z4), .val (.ref b105), .val (.int (0 : Int32)), .val (.int (0 : Int32)), .val (.int (1 : Int32)), .val (.int (0 : Int32))]) rfl k) ?_
                    refine own_via (g' := T124.setTop (mkF m 239 #[.val (.int i0), .val (.int (0 : Int32)), .val (.int z2), .val (.int z3), .val (.int z4), .val (.ref b105), .val (.int (0 : Int32)), .val (.int (0 : Int32)), .val (.int (1 : Int32)), .val (.int (0 : Int32))] [(.int (1 : Int32))])) (fun t k => XS.iload X124.here hx rfl (hb hby at_237) rfl k) ?_
                    exact own_retB X124 hx hlk (t := .boolean) Bd.returns (by simp) (hb hby at_239) ⟨rfl, N124⟩ (by decide) (by decide)
                · refine own_via (g' := T109.setTop (mkF m 88 #[.val (.int i0), .val (.int (0 : Int32)), .val (.int z2), .val (.int z3), .val (.int z4), .val (.ref b105), .unset, .unset, .unset, .unset] [(.ref b105)])) (fun t k => XS.aload X109.here hx rfl (hb hby at_86) rfl (rfl) k) ?_
                  obtain ⟨cq125, kq125, q125a, q125b, q125c⟩ := isOf hZ e109 El
                  obtain ⟨v125, _, ⟨T125, L125, k125, n125⟩, -, X125, ⟨Lc125, hQ125, l125, y125, z125⟩, st125⟩ := X109.virtualBack hx (y := (⟨"com/example/rosterwright/rosterwright/Roster", "keepsChanges", "()Z"⟩ : MethodName)) (z := (⟨"com/example/rosterwright/rosterwright/Roster", "keepsChanges", "()Z"⟩ : MethodName)) hown (mvT hZ (hw _ (List.mem_of_getElem? (i := 94) rfl))) (mvT hZ (hw _ (List.mem_of_getElem? (i := 95) rfl))) (notFace_of_selects (args := #[]) (mvT hZ (hw _ (List.mem_of_getElem? (i := 97) rfl)))) (mvT hZ (hw _ (List.mem_of_getElem? (i := 97) rfl))) (mvT hZ (hw _ (List.mem_of_getElem? (i := 96) rfl))) (by decide) (backOf (W := 0) (own_rm14 l Z a0 hw [] b105 (0 : Int32) h109 n0 (Nat.le_trans Z0 Kj109.1) Fl_keepsChanges (by decide)) hZ (hw _ (List.mem_of_getElem? (i := 98) rfl)) (hw _ (List.mem_of_getElem? (i := 2) rfl)) (by decide) (by decide)) q125a q125c (g := (mkF m 88 #[.val (.int i0), .val (.int (0 : Int32)), .val (.int z2), .val (.int z3), .val (.int z4), .val (.ref b105), .unset, .unset, .unset, .unset] [(.ref b105)])) rfl (by rw [hml]; rfl) (Steps.refl _) (argsL := []) (rest := []) (lenOf own_pd5 rfl) rfl (by show 2 * 0 + _ ≤ _; exact Nat.le_of_eq rfl) (hb hby at_88) (fun _ _ => ⟨rfl, e109, (by decide : 6 + 0 ≤ _), (by decide : 46 + 0 ≤ _)⟩)
                  dsimp only [Pt.U, Pt.locs, Pt.cells, Pt.slots] at X125 l125 y125 z125 st125 hQ125
                  subst l125 y125 z125
                  obtain ⟨rfl, N125q, e125⟩ := hQ125
                  have N125 := Fr.app N109 N125q
                  refine own_via (g' := T125.setTop (mkF m 91 #[.val (.int i0), .val (.int (0 : Int32)), .val (.int z2), .val (.int z3), .val (.int z4), .val (.ref b105), .unset, .unset, .unset, .unset] [(.int (0 : Int32))])) (fun t k => st125.trans k) ?_
                  refine own_via (g' := T125.setTop (mkF m 93 #[.val (.int i0), .val (.int (0 : Int32)), .val (.int z2), .val (.int z3), .val (.int z4), .val (.ref b105), .val (.int (0 : Int32)), .unset, .unset, .unset] [])) (fun t k => XS.istore X125.here hx rfl (hb hby at_91) rfl (l' := #[.val (.int i0), .val (.int (0 : Int32)), .val (.int z2), .val (.int z3), .val (.int z4), .val (.ref b105), .val (.int (0 : Int32)), .unset, .unset, .unset]) rfl k) ?_
                  refine own_via (g' := T125.setTop (mkF m 95 #[.val (.int i0), .val (.int (0 : Int32)), .val (.int z2), .val (.int z3), .val (.int z4), .val (.ref b105), .val (.int (0 : Int32)), .unset, .unset, .unset] [(.ref b105)])) (fun t k => XS.aload X125.here hx rfl (hb hby at_93) rfl (rfl) k) ?_
                  obtain ⟨cq126, kq126, q126a, q126b, q126c⟩ := isOf hZ e125 El
                  obtain ⟨v126, _, ⟨T126, L126, k126, n126⟩, -, X126, ⟨Lc126, hQ126, l126, y126, z126⟩, st126⟩ := X125.virtualBack hx (y := (⟨"com/example/rosterwright/rosterwright/Roster", "isChanged", "()Z"⟩ : MethodName)) (z := (⟨"com/example/rosterwright/rosterwright/Roster", "isChanged", "()Z"⟩ : MethodName)) hown (mvT hZ (hw _ (List.mem_of_getElem? (i := 101) rfl))) (mvT hZ (hw _ (List.mem_of_getElem? (i := 102) rfl))) (notFace_of_selects (args := #[]) (mvT hZ (hw _ (List.mem_of_getElem? (i := 104) rfl)))) (mvT hZ (hw _ (List.mem_of_getElem? (i := 104) rfl))) (mvT hZ (hw _ (List.mem_of_getElem? (i := 103) rfl))) (by decide) (backOf (W := 0) (own_rm15 l Z a0 hw [] b105 (1 : Int32) h109 n0 (Nat.le_trans Z0 Kj109.1) Fl_changed (by decide)) hZ (hw _ (List.mem_of_getElem? (i := 105) rfl)) (hw _ (List.mem_of_getElem? (i := 2) rfl)) (by decide) (by decide)) q126a q126c (g := (mkF m 95 #[.val (.int i0), .val (.int (0 : Int32)), .val (.int z2), .val (.int z3), .val (.int z4), .val (.ref b105), .val (.int (0 : Int32)), .unset, .unset, .unset] [(.ref b105)])) rfl (by rw [hml]; rfl) (Steps.refl _) (argsL := []) (rest := []) (lenOf own_pd5 rfl) rfl (by show 2 * 0 + _ ≤ _; exact Nat.le_of_eq rfl) (hb hby at_95) (fun _ _ => ⟨rfl, e125, (by decide : 6 + 0 ≤ _), (by decide : 46 + 0 ≤ _)⟩)
                  dsimp only [Pt.U, Pt.locs, Pt.cells, Pt.slots] at X126 l126 y126 z126 st126 hQ126
                  subst l126 y126 z126
                  obtain ⟨rfl, N126q, e126⟩ := hQ126
                  have N126 := Fr.app N125 N126q
                  refine own_via (g' := T126.setTop (mkF m 98 #[.val (.int i0), .val (.int (0 : Int32)), .val (.int z2), .val (.int z3), .val (.int z4), .val (.ref b105), .val (.int (0 : Int32)), .unset, .unset, .unset] [(.int (1 : Int32))])) (fun t k => st126.trans k) ?_
                  refine own_via (g' := T126.setTop (mkF m 100 #[.val (.int i0), .val (.int (0 : Int32)), .val (.int z2), .val (.int z3), .val (.int z4), .val (.ref b105), .val (.int (0 : Int32)), .val (.int (1 : Int32)), .unset, .unset] [])) (fun t k => XS.istore X126.here hx rfl (hb hby at_98) rfl (l' := #[.val (.int i0), .val (.int (0 : Int32)), .val (.int z2), .val (.int z3), .val (.int z4), .val (.ref b105), .val (.int (0 : Int32)), .val (.int (1 : Int32)), .unset, .unset]) rfl k) ?_
                  refine own_via (g' := T126.setTop (mkF m 102 #[.val (.int i0), .val (.int (0 : Int32)), .val (.int z2), .val (.int z3), .val (.int z4), .val (.ref b105), .val (.int (0 : Int32)), .val (.int (1 : Int32)), .unset, .unset] [(.ref b105)])) (fun t k => XS.aload X126.here hx rfl (hb hby at_100) rfl (rfl) k) ?_
                  obtain ⟨cq127, kq127, q127a, q127b, q127c⟩ := isOf hZ e126 El
                  obtain ⟨v127, _, ⟨T127, L127, k127, n127⟩, -, X127, ⟨Lc127, hQ127, l127, y127, z127⟩, st127⟩ := X126.virtualBack hx (y := (⟨"com/example/rosterwright/rosterwright/Roster", "keepChanges", "()V"⟩ : MethodName)) (z := (⟨"com/example/rosterwright/rosterwright/Roster", "keepChanges", "()V"⟩ : MethodName)) hown (mvT hZ (hw _ (List.mem_of_getElem? (i := 108) rfl))) (mvT hZ (hw _ (List.mem_of_getElem? (i := 109) rfl))) (notFace_of_selects (args := #[]) (mvT hZ (hw _ (List.mem_of_getElem? (i := 111) rfl)))) (mvT hZ (hw _ (List.mem_of_getElem? (i := 111) rfl))) (mvT hZ (hw _ (List.mem_of_getElem? (i := 110) rfl))) (by decide) (backOf (W := 0) (own_rm16 l Z a0 hw [] b105 (0 : Int32) (1 : Int32) kg2 h109 n0 (Nat.le_trans Z0 Kj109.1) El Fl_keepsChanges Fl_changed Fl_keepingChanges Fl_open g_b105) hZ (hw _ (List.mem_of_getElem? (i := 112) rfl)) (hw _ (List.mem_of_getElem? (i := 2) rfl)) (by decide) (by decide)) q127a q127c (g := (mkF m 102 #[.val (.int i0), .val (.int (0 : Int32)), .val (.int z2), .val (.int z3), .val (.int z4), .val (.ref b105), .val (.int (0 : Int32)), .val (.int (1 : Int32)), .unset, .unset] [(.ref b105)])) rfl (by rw [hml]; rfl) (Steps.refl _) (argsL := []) (rest := []) (lenOf own_pd0 rfl) rfl (by show 2 * 0 + _ ≤ _; exact Nat.le_of_eq rfl) (hb hby at_102) (fun _ _ => ⟨rfl, e126, (by decide : 6 + 0 ≤ _), (by decide : 46 + 0 ≤ _)⟩)
                  dsimp only [Pt.U, Pt.locs, Pt.cells, Pt.slots] at X127 l127 y127 z127 st127 hQ127
                  subst l127 y127 z127
                  obtain ⟨rfl, N127q, K127, A127, Fa127_0, Fa127_1, Fa127_2, Fa127_3⟩ := hQ127
                  have Kc127 : Keep h0 T127.heap [] := Kj109.trans K127 (allS (Or.inr sz_b105) all0)
                  rw [show (own_kc (0 : Int32)) = (1 : Int32) from by decide] at Fa127_0
                  rw [show (own_ch (0 : Int32) (1 : Int32)) = (1 : Int32) from by decide] at Fa127_1
                  have N127 := Fr.app N126 N127q
                  refine own_via (g' := T127.setTop (mkF m 105 #[.val (.int i0), .val (.int (0 : Int32)), .val (.int z2), .val (.int z3), .val (.int z4), .val (.ref b105), .val (.int (0 : Int32)), .val (.int (1 : Int32)), .unset, .unset] [])) (fun t k => st127.trans k) ?_
                  refine own_via (g' := T127.setTop (mkF m 107 #[.val (.int i0), .val (.int (0 : Int32)), .val (.int z2), .val (.int z3), .val (.int z4), .val (.ref b105), .val (.int (0 : Int32)), .val (.int (1 : Int32)), .unset, .unset] [(.int (0 : Int32))])) (fun t k => XS.iload X127.here hx rfl (hb hby at_105) rfl k) ?_
                  refine own_via (g' := T127.setTop (mkF m 108 #[.val (.int i0), .val (.int (0 : Int32)), .val (.int z2), .val (.int z3), .val (.int z4), .val (.ref b105), .val (.int (0 : Int32)), .val (.int (1 : Int32)), .unset, .unset] [(.int (0 : Int32)), (.int (0 : Int32))])) (fun t k => XS.iloadN X127.here hx rfl (hb hby at_107) rfl k) ?_
                  refine own_via (g' := T127.setTop (mkF m 111 #[.val (.int i0), .val (.int (0 : Int32)), .val (.int z2), .val (.int z3), .val (.int z4), .val (.ref b105), .val (.int (0 : Int32)), .val (.int (1 : Int32)), .unset, .unset] [])) (fun t k => XS.icmpNo X127.here hx rfl (hb hby at_108) rfl (XT.ii_ne_f (by decide)) k) ?_
                  refine own_via (g' := T127.setTop (mkF m 112 #[.val (.int i0), .val (.int (0 : Int32)), .val (.int z2), .val (.int z3), .val (.int z4), .val (.ref b105), .val (.int (0 : Int32)), .val (.int (1 : Int32)), .unset, .unset] [(.int (1 : Int32))])) (fun t k => XS.iconst X127.here hx rfl (hb hby at_111) k) ?_
                  refine own_via (g' := T127.setTop (mkF m 116 #[.val (.int i0), .val (.int (0 : Int32)), .val (.int z2), .val (.int z3), .val (.int z4), .val (.ref b105), .val (.int (0 : Int32)), .val (.int (1 : Int32)), .unset, .unset] [(.int (1 : Int32))])) (fun t k => XS.goto X127.here hx rfl (pc0 := 112) (pc' := 116) rfl (hb hby at_112) (by decide) (by decide) k) ?_
                  refine own_via (g' := T127.setTop (mkF m 118 #[.val (.int i0), .val (.int (0 : Int32)), .val (.int z2), .val (.int z3), .val (.int z4), .val (.ref b105), .val (.int (0 : Int32)), .val (.int (1 : Int32)), .val (.int (1 : Int32)), .unset] [])) (fun t k => XS.istore X127.here hx rfl (hb hby at_116) rfl (l' := #[.val (.int i0), .val (.int (0 : Int32)), .val (.int z2), .val (.int z3), .val (.int z4), .val (.ref b105), .val (.int (0 : Int32)), .val (.int (1 : Int32)), .val (.int (1 : Int32)), .unset]) rfl k) ?_
                  refine own_via (g' := T127.setTop (mkF m 120 #[.val (.int i0), .val (.int (0 : Int32)), .val (.int z2), .val (.int z3), .val (.int z4), .val (.ref b105), .val (.int (0 : Int32)), .val (.int (1 : Int32)), .val (.int (1 : Int32)), .unset] [(.int (1 : Int32))])) (fun t k => XS.iload X127.here hx rfl (hb hby at_118) rfl k) ?_
                  refine own_via (g' := T127.setTop (mkF m 123 #[.val (.int i0), .val (.int (0 : Int32)), .val (.int z2), .val (.int z3), .val (.int z4), .val (.ref b105), .val (.int (0 : Int32)), .val (.int (1 : Int32)), .val (.int (1 : Int32)), .unset] [])) (fun t k => XS.ifNo X127.here hx rfl (hb hby at_120) rfl (XT.i0_eq_f (by decide)) k) ?_
                  refine own_via (g' := T127.setTop (mkF m 125 #[.val (.int i0), .val (.int (0 : Int32)), .val (.int z2), .val (.int z3), .val (.int z4), .val (.ref b105), .val (.int (0 : Int32)), .val (.int (1 : Int32)), .val (.int (1 : Int32)), .unset] [(.ref b105)])) (fun t k => XS.aload X127.here hx rfl (hb hby at_123) rfl (rfl) k) ?_
                  obtain ⟨cq128, kq128, q128a, q128b, q128c⟩ := isOf hZ rfl A127
                  obtain ⟨v128, _, ⟨T128, L128, k128, n128⟩, -, X128, ⟨Lc128, hQ128, l128, y128, z128⟩, st128⟩ := X127.virtualBack hx (y := (⟨"com/example/rosterwright/rosterwright/Roster", "keepsChanges", "()Z"⟩ : MethodName)) (z := (⟨"com/example/rosterwright/rosterwright/Roster", "keepsChanges", "()Z"⟩ : MethodName)) hown (mvT hZ (hw _ (List.mem_of_getElem? (i := 94) rfl))) (mvT hZ (hw _ (List.mem_of_getElem? (i := 95) rfl))) (notFace_of_selects (args := #[]) (mvT hZ (hw _ (List.mem_of_getElem? (i := 97) rfl)))) (mvT hZ (hw _ (List.mem_of_getElem? (i := 97) rfl))) (mvT hZ (hw _ (List.mem_of_getElem? (i := 96) rfl))) (by decide) (backOf (W := 0) (own_rm14 l Z a0 hw [] b105 (1 : Int32) T127.heap n0 (Nat.le_trans Z0 Kc127.1) Fa127_0 (by decide)) hZ (hw _ (List.mem_of_getElem? (i := 98) rfl)) (hw _ (List.mem_of_getElem? (i := 2) rfl)) (by decide) (by decide)) q128a q128c (g := (mkF m 125 #[.val (.int i0), .val (.int (0 : Int32)), .val (.int z2), .val (.int z3), .val (.int z4), .val (.ref b105), .val (.int (0 : Int32)), .val (.int (1 : Int32)), .val (.int (1 : Int32)), .unset] [(.ref b105)])) rfl (by rw [hml]; rfl) (Steps.refl _) (argsL := []) (rest := []) (lenOf own_pd5 rfl) rfl (by show 2 * 0 + _ ≤ _; exact Nat.le_of_eq rfl) (hb hby at_125) (fun _ _ => ⟨rfl, rfl, (by decide : 6 + 0 ≤ _), (by decide : 46 + 0 ≤ _)⟩)
                  dsimp only [Pt.U, Pt.locs, Pt.cells, Pt.slots] at X128 l128 y128 z128 st128 hQ128
                  subst l128 y128 z128
                  obtain ⟨rfl, N128q, e128⟩ := hQ128
                  have N128 := Fr.app N127 N128q
                  refine own_via (g' := T128.setTop (mkF m 128 #[.val (.int i0), .val (.int (0 : Int32)), .val (.int z2), .val (.int z3), .val (.int z4), .val (.ref b105), .val (.int (0 : Int32)), .val (.int (1 : Int32)), .val (.int (1 : Int32)), .unset] [(.int (1 : Int32))])) (fun t k => st128.trans k) ?_
                  refine own_via (g' := T128.setTop (mkF m 131 #[.val (.int i0), .val (.int (0 : Int32)), .val (.int z2), .val (.int z3), .val (.int z4), .val (.ref b105), .val (.int (0 : Int32)), .val (.int (1 : Int32)), .val (.int (1 : Int32)), .unset] [])) (fun t k => XS.ifNo X128.here hx rfl (hb hby at_128) rfl (XT.i0_eq_f (by decide)) k) ?_
                  refine own_via (g' := T128.setTop (mkF m 132 #[.val (.int i0), .val (.int (0 : Int32)), .val (.int z2), .val (.int z3), .val (.int z4), .val (.ref b105), .val (.int (0 : Int32)), .val (.int (1 : Int32)), .val (.int (1 : Int32)), .unset] [(.int (1 : Int32))])) (fun t k => XS.iconst X128.here hx rfl (hb hby at_131) k) ?_
                  refine own_via (g' := T128.setTop (mkF m 136 #[.val (.int i0), .val (.int (0 : Int32)), .val (.int z2), .val (.int z3), .val (.int z4), .val (.ref b105), .val (.int (0 : Int32)), .val (.int (1 : Int32)), .val (.int (1 : Int32)), .unset] [(.int (1 : Int32))])) (fun t k => XS.goto X128.here hx rfl (pc0 := 132) (pc' := 136) rfl (hb hby at_132) (by decide) (by decide) k) ?_
                  refine own_via (g' := T128.setTop (mkF m 138 #[.val (.int i0), .val (.int (0 : Int32)), .val (.int z2), .val (.int z3), .val (.int z4), .val (.ref b105), .val (.int (0 : Int32)), .val (.int (1 : Int32)), .val (.int (1 : Int32)), .unset] [])) (fun t k => XS.istore X128.here hx rfl (hb hby at_136) rfl (l' := #[.val (.int i0), .val (.int (0 : Int32)), .val (.int z2), .val (.int z3), .val (.int z4), .val (.ref b105), .val (.int (0 : Int32)), .val (.int (1 : Int32)), .val (.int (1 : Int32)), .unset]) rfl k) ?_
                  refine own_via (g' := T128.setTop (mkF m 140 #[.val (.int i0), .val (.int (0 : Int32)), .val (.int z2), .val (.int z3), .val (.int z4), .val (.ref b105), .val (.int (0 : Int32)), .val (.int (1 : Int32)), .val (.int (1 : Int32)), .unset] [(.int (1 : Int32))])) (fun t k => XS.iload X128.here hx rfl (hb hby at_138) rfl k) ?_
                  refine own_via (g' := T128.setTop (mkF m 143 #[.val (.int i0), .val (.int (0 : Int32)), .val (.int z2), .val (.int z3), .val (.int z4), .val (.ref b105), .val (.int (0 : Int32)), .val (.int (1 : Int32)), .val (.int (1 : Int32)), .unset] [])) (fun t k => XS.ifNo X128.here hx rfl (hb hby at_140) rfl (XT.i0_eq_f (by decide)) k) ?_
                  refine own_via (g' := T128.setTop (mkF m 145 #[.val (.int i0), .val (.int (0 : Int32)), .val (.int z2), .val (.int z3), .val (.int z4), .val (.ref b105), .val (.int (0 : Int32)), .val (.int (1 : Int32)), .val (.int (1 : Int32)), .unset] [(.ref b105)])) (fun t k => XS.aload X128.here hx rfl (hb hby at_143) rfl (rfl) k) ?_
                  obtain ⟨cq129, kq129, q129a, q129b, q129c⟩ := isOf hZ e128 A127
                  obtain ⟨v129, _, ⟨T129, L129, k129, n129⟩, -, X129, ⟨Lc129, hQ129, l129, y129, z129⟩, st129⟩ := X128.virtualBack hx (y := (⟨"com/example/rosterwright/rosterwright/Roster", "isChanged", "()Z"⟩ : MethodName)) (z := (⟨"com/example/rosterwright/rosterwright/Roster", "isChanged", "()Z"⟩ : MethodName)) hown (mvT hZ (hw _ (List.mem_of_getElem? (i := 101) rfl))) (mvT hZ (hw _ (List.mem_of_getElem? (i := 102) rfl))) (notFace_of_selects (args := #[]) (mvT hZ (hw _ (List.mem_of_getElem? (i := 104) rfl)))) (mvT hZ (hw _ (List.mem_of_getElem? (i := 104) rfl))) (mvT hZ (hw _ (List.mem_of_getElem? (i := 103) rfl))) (by decide) (backOf (W := 0) (own_rm15 l Z a0 hw [] b105 (1 : Int32) T127.heap n0 (Nat.le_trans Z0 Kc127.1) Fa127_1 (by decide)) hZ (hw _ (List.mem_of_getElem? (i := 105) rfl)) (hw _ (List.mem_of_getElem? (i := 2) rfl)) (by decide) (by decide)) q129a q129c (g := (mkF m 145 #[.val (.int i0), .val (.int (0 : Int32)), .val (.int z2), .val (.int z3), .val (.int z4), .val (.ref b105), .val (.int (0 : Int32)), .val (.int (1 : Int32)), .val (.int (1 : Int32)), .unset] [(.ref b105)])) rfl (by rw [hml]; rfl) (Steps.refl _) (argsL := []) (rest := []) (lenOf own_pd5 rfl) rfl (by show 2 * 0 + _ ≤ _; exact Nat.le_of_eq rfl) (hb hby at_145) (fun _ _ => ⟨rfl, e128, (by decide : 6 + 0 ≤ _), (by decide : 46 + 0 ≤ _)⟩)
                  dsimp only [Pt.U, Pt.locs, Pt.cells, Pt.slots] at X129 l129 y129 z129 st129 hQ129
                  subst l129 y129 z129
                  obtain ⟨rfl, N129q, e129⟩ := hQ129
                  have N129 := Fr.app N128 N129q
                  refine own_via (g' := T129.setTop (mkF m 148 #[.val (.int i0), .val (.int (0 : Int32)), .val (.int z2), .val (.int z3), .val (.int z4), .val (.ref b105), .val (.int (0 : Int32)), .val (.int (1 : Int32)), .val (.int (1 : Int32)), .unset] [(.int (1 : Int32))])) (fun t k => st129.trans k) ?_
                  refine own_via (g' := T129.setTop (mkF m 150 #[.val (.int i0), .val (.int (0 : Int32)), .val (.int z2), .val (.int z3), .val (.int z4), .val (.ref b105), .val (.int (0 : Int32)), .val (.int (1 : Int32)), .val (.int (1 : Int32)), .unset] [(.int (1 : Int32)), (.int (1 : Int32))])) (fun t k => XS.iload X129.here hx rfl (hb hby at_148) rfl k) ?_
                  refine own_via (g' := T129.setTop (mkF m 158 #[.val (.int i0), .val (.int (0 : Int32)), .val (.int z2), .val (.int z3), .val (.int z4), .val (.ref b105), .val (.int (0 : Int32)), .val (.int (1 : Int32)), .val (.int (1 : Int32)), .unset] [(.int (1 : Int32))])) (fun t k => XS.ifYes X129.here hx rfl (pc0 := 150) (pc' := 158) rfl (hb hby at_150) rfl (XT.i0_ne_t (by decide)) (by decide) (by decide) k) ?_
                  refine own_via (g' := T129.setTop (mkF m 159 #[.val (.int i0), .val (.int (0 : Int32)), .val (.int z2), .val (.int z3), .val (.int z4), .val (.ref b105), .val (.int (0 : Int32)), .val (.int (1 : Int32)), .val (.int (1 : Int32)), .unset] [(.int (1 : Int32)), (.int (1 : Int32))])) (fun t k => XS.iconst X129.here hx rfl (hb hby at_158) k) ?_
                  refine own_via (g' := T129.setTop (mkF m 163 #[.val (.int i0), .val (.int (0 : Int32)), .val (.int z2), .val (.int z3), .val (.int z4), .val (.ref b105), .val (.int (0 : Int32)), .val (.int (1 : Int32)), .val (.int (1 : Int32)), .unset] [(.int (1 : Int32)), (.int (1 : Int32))])) (fun t k => XS.goto X129.here hx rfl (pc0 := 159) (pc' := 163) rfl (hb hby at_159) (by decide) (by decide) k) ?_
                  refine own_via (g' := T129.setTop (mkF m 166 #[.val (.int i0), .val (.int (0 : Int32)), .val (.int z2), .val (.int z3), .val (.int z4), .val (.ref b105), .val (.int (0 : Int32)), .val (.int (1 : Int32)), .val (.int (1 : Int32)), .unset] [])) (fun t k => XS.icmpNo X129.here hx rfl (hb hby at_163) rfl (XT.ii_ne_f (by decide)) k) ?_
                  refine own_via (g' := T129.setTop (mkF m 167 #[.val (.int i0), .val (.int (0 : Int32)), .val (.int z2), .val (.int z3), .val (.int z4), .val (.ref b105), .val (.int (0 : Int32)), .val (.int (1 : Int32)), .val (.int (1 : Int32)), .unset] [(.int (1 : Int32))])) (fun t k => XS.iconst X129.here hx rfl (hb hby at_166) k) ?_
                  refine own_via (g' := T129.setTop (mkF m 171 #[.val (.int i0), .val (.int (0 : Int32)), .val (.int z2), .val (.int z3), .val (.int z4), .val (.ref b105), .val (.int (0 : Int32)), .val (.int (1 : Int32)), .val (.int (1 : Int32)), .unset] [(.int (1 : Int32))])) (fun t k => XS.goto X129.here hx rfl (pc0 := 167) (pc' := 171) rfl (hb hby at_167) (by decide) (by decide) k) ?_
                  refine own_via (g' := T129.setTop (mkF m 173 #[.val (.int i0), .val (.int (0 : Int32)), .val (.int z2), .val (.int z3), .val (.int z4), .val (.ref b105), .val (.int (0 : Int32)), .val (.int (1 : Int32)), .val (.int (1 : Int32)), .unset] [])) (fun t k => XS.istore X129.here hx rfl (hb hby at_171) rfl (l' := #[.val (.int i0), .val (.int (0 : Int32)), .val (.int z2), .val (.int z3), .val (.int z4), .val (.ref b105), .val (.int (0 : Int32)), .val (.int (1 : Int32)), .val (.int (1 : Int32)), .unset]) rfl k) ?_
                  refine own_via (g' := T129.setTop (mkF m 175 #[.val (.int i0), .val (.int (0 : Int32)), .val (.int z2), .val (.int z3), .val (.int z4), .val (.ref b105), .val (.int (0 : Int32)), .val (.int (1 : Int32)), .val (.int (1 : Int32)), .unset] [(.int z4)])) (fun t k => XS.iload X129.here hx rfl (hb hby at_173) rfl k) ?_
                  by_cases hc175_130 : z4 = 0
                  · refine own_via (g' := T129.setTop (mkF m 183 #[.val (.int i0), .val (.int (0 : Int32)), .val (.int z2), .val (.int z3), .val (.int z4), .val (.ref b105), .val (.int (0 : Int32)), .val (.int (1 : Int32)), .val (.int (1 : Int32)), .unset] [])) (fun t k => XS.ifYes X129.here hx rfl (pc0 := 175) (pc' := 183) rfl (hb hby at_175) rfl (XT.i0_eq_t hc175_130) (by decide) (by decide) k) ?_
                    refine own_via (g' := T129.setTop (mkF m 185 #[.val (.int i0), .val (.int (0 : Int32)), .val (.int z2), .val (.int z3), .val (.int z4), .val (.ref b105), .val (.int (0 : Int32)), .val (.int (1 : Int32)), .val (.int (1 : Int32)), .unset] [(.ref b105)])) (fun t k => XS.aload X129.here hx rfl (hb hby at_183) rfl (rfl) k) ?_
                    obtain ⟨cq131, kq131, q131a, q131b, q131c⟩ := isOf hZ e129 A127
                    obtain ⟨v131, _, ⟨T131, L131, k131, n131⟩, -, X131, ⟨Lc131, hQ131, l131, y131, z131⟩, st131⟩ := X129.virtualBack hx (y := (⟨"com/example/rosterwright/rosterwright/Roster", "isChanged", "()Z"⟩ : MethodName)) (z := (⟨"com/example/rosterwright/rosterwright/Roster", "isChanged", "()Z"⟩ : MethodName)) hown (mvT hZ (hw _ (List.mem_of_getElem? (i := 101) rfl))) (mvT hZ (hw _ (List.mem_of_getElem? (i := 102) rfl))) (notFace_of_selects (args := #[]) (mvT hZ (hw _ (List.mem_of_getElem? (i := 104) rfl)))) (mvT hZ (hw _ (List.mem_of_getElem? (i := 104) rfl))) (mvT hZ (hw _ (List.mem_of_getElem? (i := 103) rfl))) (by decide) (backOf (W := 0) (own_rm15 l Z a0 hw [] b105 (1 : Int32) T127.heap n0 (Nat.le_trans Z0 Kc127.1) Fa127_1 (by decide)) hZ (hw _ (List.mem_of_getElem? (i := 105) rfl)) (hw _ (List.mem_of_getElem? (i := 2) rfl)) (by decide) (by decide)) q131a q131c (g := (mkF m 185 #[.val (.int i0), .val (.int (0 : Int32)), .val (.int z2), .val (.int z3), .val (.int z4), .val (.ref b105), .val (.int (0 : Int32)), .val (.int (1 : Int32)), .val (.int (1 : Int32)), .unset] [(.ref b105)])) rfl (by rw [hml]; rfl) (Steps.refl _) (argsL := []) (rest := []) (lenOf own_pd5 rfl) rfl (by show 2 * 0 + _ ≤ _; exact Nat.le_of_eq rfl) (hb hby at_185) (fun _ _ => ⟨rfl, e129, (by decide : 6 + 0 ≤ _), (by decide : 46 + 0 ≤ _)⟩)
                    dsimp only [Pt.U, Pt.locs, Pt.cells, Pt.slots] at X131 l131 y131 z131 st131 hQ131
                    subst l131 y131 z131
                    obtain ⟨rfl, N131q, e131⟩ := hQ131
                    have N131 := Fr.app N129 N131q
                    refine own_via (g' := T131.setTop (mkF m 188 #[.val (.int i0), .val (.int (0 : Int32)), .val (.int z2), .val (.int z3), .val (.int z4), .val (.ref b105), .val (.int (0 : Int32)), .val (.int (1 : Int32)), .val (.int (1 : Int32)), .unset] [(.int (1 : Int32))])) (fun t k => st131.trans k) ?_
                    refine own_via (g' := T131.setTop (mkF m 190 #[.val (.int i0), .val (.int (0 : Int32)), .val (.int z2), .val (.int z3), .val (.int z4), .val (.ref b105), .val (.int (0 : Int32)), .val (.int (1 : Int32)), .val (.int (1 : Int32)), .val (.int (1 : Int32))] [])) (fun t k => XS.istore X131.here hx rfl (hb hby at_188) rfl (l' := #[.val (.int i0), .val (.int (0 : Int32)), .val (.int z2), .val (.int z3), .val (.int z4), .val (.ref b105), .val (.int (0 : Int32)), .val (.int (1 : Int32)), .val (.int (1 : Int32)), .val (.int (1 : Int32))]) rfl k) ?_
                    refine own_via (g' := T131.setTop (mkF m 192 #[.val (.int i0), .val (.int (0 : Int32)), .val (.int z2), .val (.int z3), .val (.int z4), .val (.ref b105), .val (.int (0 : Int32)), .val (.int (1 : Int32)), .val (.int (1 : Int32)), .val (.int (1 : Int32))] [(.ref b105)])) (fun t k => XS.aload X131.here hx rfl (hb hby at_190) rfl (rfl) k) ?_
                    obtain ⟨cq132, kq132, q132a, q132b, q132c⟩ := isOf hZ e131 A127
                    obtain ⟨v132, _, ⟨T132, L132, k132, n132⟩, -, X132, ⟨Lc132, hQ132, l132, y132, z132⟩, st132⟩ := X131.virtualBack hx (y := (⟨"com/example/rosterwright/rosterwright/Roster", "keepChanges", "()V"⟩ : MethodName)) (z := (⟨"com/example/rosterwright/rosterwright/Roster", "keepChanges", "()V"⟩ : MethodName)) hown (mvT hZ (hw _ (List.mem_of_getElem? (i := 108) rfl))) (mvT hZ (hw _ (List.mem_of_getElem? (i := 109) rfl))) (notFace_of_selects (args := #[]) (mvT hZ (hw _ (List.mem_of_getElem? (i := 111) rfl)))) (mvT hZ (hw _ (List.mem_of_getElem? (i := 111) rfl))) (mvT hZ (hw _ (List.mem_of_getElem? (i := 110) rfl))) (by decide) (backOf (W := 0) (own_rm16 l Z a0 hw [] b105 (1 : Int32) (1 : Int32) (1 : Int32) T127.heap n0 (Nat.le_trans Z0 Kc127.1) A127 Fa127_0 Fa127_1 Fa127_2 Fa127_3 g_b105) hZ (hw _ (List.mem_of_getElem? (i := 112) rfl)) (hw _ (List.mem_of_getElem? (i := 2) rfl)) (by decide) (by decide)) q132a q132c (g := (mkF m 192 #[.val (.int i0), .val (.int (0 : Int32)), .val (.int z2), .val (.int z3), .val (.int z4), .val (.ref b105), .val (.int (0 : Int32)), .val (.int (1 : Int32)), .val (.int (1 : Int32)), .val (.int (1 : Int32))] [(.ref b105)])) rfl (by rw [hml]; rfl) (Steps.refl _) (argsL := []) (rest := []) (lenOf own_pd0 rfl) rfl (by show 2 * 0 + _ ≤ _; exact Nat.le_of_eq rfl) (hb hby at_192) (fun _ _ => ⟨rfl, e131, (by decide : 6 + 0 ≤ _), (by decide : 46 + 0 ≤ _)⟩)
                    dsimp only [Pt.U, Pt.locs, Pt.cells, Pt.slots] at X132 l132 y132 z132 st132 hQ132
                    subst l132 y132 z132
                    obtain ⟨rfl, N132q, K132, A132, Fa132_0, Fa132_1, Fa132_2, Fa132_3⟩ := hQ132
                    have Kc132 : Keep h0 T132.heap [] := Kc127.trans K132 (allS (Or.inr sz_b105) all0)
                    rw [show (own_kc (1 : Int32)) = (1 : Int32) from by decide] at Fa132_0
                    rw [show (own_ch (1 : Int32) (1 : Int32)) = (1 : Int32) from by decide] at Fa132_1
                    have N132 := Fr.app N131 N132q
                    refine own_via (g' := T132.setTop (mkF m 195 #[.val (.int i0), .val (.int (0 : Int32)), .val (.int z2), .val (.int z3), .val (.int z4), .val (.ref b105), .val (.int (0 : Int32)), .val (.int (1 : Int32)), .val (.int (1 : Int32)), .val (.int (1 : Int32))] [])) (fun t k => st132.trans k) ?_
                    refine own_via (g' := T132.setTop (mkF m 197 #[.val (.int i0), .val (.int (0 : Int32)), .val (.int z2), .val (.int z3), .val (.int z4), .val (.ref b105), .val (.int (0 : Int32)), .val (.int (1 : Int32)), .val (.int (1 : Int32)), .val (.int (1 : Int32))] [(.int (1 : Int32))])) (fun t k => XS.iload X132.here hx rfl (hb hby at_195) rfl k) ?_
                    refine own_via (g' := T132.setTop (mkF m 200 #[.val (.int i0), .val (.int (0 : Int32)), .val (.int z2), .val (.int z3), .val (.int z4), .val (.ref b105), .val (.int (0 : Int32)), .val (.int (1 : Int32)), .val (.int (1 : Int32)), .val (.int (1 : Int32))] [])) (fun t k => XS.ifNo X132.here hx rfl (hb hby at_197) rfl (XT.i0_eq_f (by decide)) k) ?_
                    refine own_via (g' := T132.setTop (mkF m 202 #[.val (.int i0), .val (.int (0 : Int32)), .val (.int z2), .val (.int z3), .val (.int z4), .val (.ref b105), .val (.int (0 : Int32)), .val (.int (1 : Int32)), .val (.int (1 : Int32)), .val (.int (1 : Int32))] [(.ref b105)])) (fun t k => XS.aload X132.here hx rfl (hb hby at_200) rfl (rfl) k) ?_
                    obtain ⟨cq133, kq133, q133a, q133b, q133c⟩ := isOf hZ rfl A132
                    obtain ⟨v133, _, ⟨T133, L133, k133, n133⟩, -, X133, ⟨Lc133, hQ133, l133, y133, z133⟩, st133⟩ := X132.virtualBack hx (y := (⟨"com/example/rosterwright/rosterwright/Roster", "keepsChanges", "()Z"⟩ : MethodName)) (z := (⟨"com/example/rosterwright/rosterwright/Roster", "keepsChanges", "()Z"⟩ : MethodName)) hown (mvT hZ (hw _ (List.mem_of_getElem? (i := 94) rfl))) (mvT hZ (hw _ (List.mem_of_getElem? (i := 95) rfl))) (notFace_of_selects (args := #[]) (mvT hZ (hw _ (List.mem_of_getElem? (i := 97) rfl)))) (mvT hZ (hw _ (List.mem_of_getElem? (i := 97) rfl))) (mvT hZ (hw _ (List.mem_of_getElem? (i := 96) rfl))) (by decide) (backOf (W := 0) (own_rm14 l Z a0 hw [] b105 (1 : Int32) T132.heap n0 (Nat.le_trans Z0 Kc132.1) Fa132_0 (by decide)) hZ (hw _ (List.mem_of_getElem? (i := 98) rfl)) (hw _ (List.mem_of_getElem? (i := 2) rfl)) (by decide) (by decide)) q133a q133c (g := (mkF m 202 #[.val (.int i0), .val (.int (0 : Int32)), .val (.int z2), .val (.int z3), .val (.int z4), .val (.ref b105), .val (.int (0 : Int32)), .val (.int (1 : Int32)), .val (.int (1 : Int32)), .val (.int (1 : Int32))] [(.ref b105)])) rfl (by rw [hml]; rfl) (Steps.refl _) (argsL := []) (rest := []) (lenOf own_pd5 rfl) rfl (by show 2 * 0 + _ ≤ _; exact Nat.le_of_eq rfl) (hb hby at_202) (fun _ _ => ⟨rfl, rfl, (by decide : 6 + 0 ≤ _), (by decide : 46 + 0 ≤ _)⟩)
                    dsimp only [Pt.U, Pt.locs, Pt.cells, Pt.slots] at X133 l133 y133 z133 st133 hQ133
                    subst l133 y133 z133
                    obtain ⟨rfl, N133q, e133⟩ := hQ133
                    have N133 := Fr.app N132 N133q
                    refine own_via (g' := T133.setTop (mkF m 205 #[.val (.int i0), .val (.int (0 : Int32)), .val (.int z2), .val (.int z3), .val (.int z4), .val (.ref b105), .val (.int (0 : Int32)), .val (.int (1 : Int32)), .val (.int (1 : Int32)), .val (.int (1 : Int32))] [(.int (1 : Int32))])) (fun t k => st133.trans k) ?_
                    refine own_via (g' := T133.setTop (mkF m 208 #[.val (.int i0), .val (.int (0 : Int32)), .val (.int z2), .val (.int z3), .val (.int z4), .val (.ref b105), .val (.int (0 : Int32)), .val (.int (1 : Int32)), .val (.int (1 : Int32)), .val (.int (1 : Int32))] [])) (fun t k => XS.ifNo X133.here hx rfl (hb hby at_205) rfl (XT.i0_eq_f (by decide)) k) ?_
                    refine own_via (g' := T133.setTop (mkF m 209 #[.val (.int i0), .val (.int (0 : Int32)), .val (.int z2), .val (.int z3), .val (.int z4), .val (.ref b105), .val (.int (0 : Int32)), .val (.int (1 : Int32)), .val (.int (1 : Int32)), .val (.int (1 : Int32))] [(.int (1 : Int32))])) (fun t k => XS.iconst X133.here hx rfl (hb hby at_208) k) ?_
                    refine own_via (g' := T133.setTop (mkF m 213 #[.val (.int i0), .val (.int (0 : Int32)), .val (.int z2), .val (.int z3), .val (.int z4), .val (.ref b105), .val (.int (0 : Int32)), .val (.int (1 : Int32)), .val (.int (1 : Int32)), .val (.int (1 : Int32))] [(.int (1 : Int32))])) (fun t k => XS.goto X133.here hx rfl (pc0 := 209) (pc' := 213) rfl (hb hby at_209) (by decide) (by decide) k) ?_
                    refine own_via (g' := T133.setTop (mkF m 215 #[.val (.int i0), .val (.int (0 : Int32)), .val (.int z2), .val (.int z3), .val (.int z4), .val (.ref b105), .val (.int (0 : Int32)), .val (.int (1 : Int32)), .val (.int (1 : Int32)), .val (.int (1 : Int32))] [])) (fun t k => XS.istore X133.here hx rfl (hb hby at_213) rfl (l' := #[.val (.int i0), .val (.int (0 : Int32)), .val (.int z2), .val (.int z3), .val (.int z4), .val (.ref b105), .val (.int (0 : Int32)), .val (.int (1 : Int32)), .val (.int (1 : Int32)), .val (.int (1 : Int32))]) rfl k) ?_
                    refine own_via (g' := T133.setTop (mkF m 217 #[.val (.int i0), .val (.int (0 : Int32)), .val (.int z2), .val (.int z3), .val (.int z4), .val (.ref b105), .val (.int (0 : Int32)), .val (.int (1 : Int32)), .val (.int (1 : Int32)), .val (.int (1 : Int32))] [(.int (1 : Int32))])) (fun t k => XS.iload X133.here hx rfl (hb hby at_215) rfl k) ?_
                    refine own_via (g' := T133.setTop (mkF m 220 #[.val (.int i0), .val (.int (0 : Int32)), .val (.int z2), .val (.int z3), .val (.int z4), .val (.ref b105), .val (.int (0 : Int32)), .val (.int (1 : Int32)), .val (.int (1 : Int32)), .val (.int (1 : Int32))] [])) (fun t k => XS.ifNo X133.here hx rfl (hb hby at_217) rfl (XT.i0_eq_f (by decide)) k) ?_
                    refine own_via (g' := T133.setTop (mkF m 222 #[.val (.int i0), .val (.int (0 : Int32)), .val (.int z2), .val (.int z3), .val (.int z4), .val (.ref b105), .val (.int (0 : Int32)), .val (.int (1 : Int32)), .val (.int (1 : Int32)), .val (.int (1 : Int32))] [(.ref b105)])) (fun t k => XS.aload X133.here hx rfl (hb hby at_220) rfl (rfl) k) ?_
                    obtain ⟨cq134, kq134, q134a, q134b, q134c⟩ := isOf hZ e133 A132
                    obtain ⟨v134, _, ⟨T134, L134, k134, n134⟩, -, X134, ⟨Lc134, hQ134, l134, y134, z134⟩, st134⟩ := X133.virtualBack hx (y := (⟨"com/example/rosterwright/rosterwright/Roster", "isChanged", "()Z"⟩ : MethodName)) (z := (⟨"com/example/rosterwright/rosterwright/Roster", "isChanged", "()Z"⟩ : MethodName)) hown (mvT hZ (hw _ (List.mem_of_getElem? (i := 101) rfl))) (mvT hZ (hw _ (List.mem_of_getElem? (i := 102) rfl))) (notFace_of_selects (args := #[]) (mvT hZ (hw _ (List.mem_of_getElem? (i := 104) rfl)))) (mvT hZ (hw _ (List.mem_of_getElem? (i := 104) rfl))) (mvT hZ (hw _ (List.mem_of_getElem? (i := 103) rfl))) (by decide) (backOf (W := 0) (own_rm15 l Z a0 hw [] b105 (1 : Int32) T132.heap n0 (Nat.le_trans Z0 Kc132.1) Fa132_1 (by decide)) hZ (hw _ (List.mem_of_getElem? (i := 105) rfl)) (hw _ (List.mem_of_getElem? (i := 2) rfl)) (by decide) (by decide)) q134a q134c (g := (mkF m 222 #[.val (.int i0), .val (.int (0 : Int32)), .val (.int z2), .val (.int z3), .val (.int z4), .val (.ref b105), .val (.int (0 : Int32)), .val (.int (1 : Int32)), .val (.int (1 : Int32)), .val (.int (1 : Int32))] [(.ref b105)])) rfl (by rw [hml]; rfl) (Steps.refl _) (argsL := []) (rest := []) (lenOf own_pd5 rfl) rfl (by show 2 * 0 + _ ≤ _; exact Nat.le_of_eq rfl) (hb hby at_222) (fun _ _ => ⟨rfl, e133, (by decide : 6 + 0 ≤ _), (by decide : 46 + 0 ≤ _)⟩)
                    dsimp only [Pt.U, Pt.locs, Pt.cells, Pt.slots] at X134 l134 y134 z134 st134 hQ134
                    subst l134 y134 z134
                    obtain ⟨rfl, N134q, e134⟩ := hQ134
                    have N134 := Fr.app N133 N134q
                    refine own_via (g' := T134.setTop (mkF m 225 #[.val (.int i0), .val (.int (0 : Int32)), .val (.int z2), .val (.int z3), .val (.int z4), .val (.ref b105), .val (.int (0 : Int32)), .val (.int (1 : Int32)), .val (.int (1 : Int32)), .val (.int (1 : Int32))] [(.int (1 : Int32))])) (fun t k => st134.trans k) ?_
                    refine own_via (g' := T134.setTop (mkF m 227 #[.val (.int i0), .val (.int (0 : Int32)), .val (.int z2), .val (.int z3), .val (.int z4), .val (.ref b105), .val (.int (0 : Int32)), .val (.int (1 : Int32)), .val (.int (1 : Int32)), .val (.int (1 : Int32))] [(.int (1 : Int32)), (.int (1 : Int32))])) (fun t k => XS.iload X134.here hx rfl (hb hby at_225) rfl k) ?_
                    refine own_via (g' := T134.setTop (mkF m 230 #[.val (.int i0), .val (.int (0 : Int32)), .val (.int z2), .val (.int z3), .val (.int z4), .val (.ref b105), .val (.int (0 : Int32)), .val (.int (1 : Int32)), .val (.int (1 : Int32)), .val (.int (1 : Int32))] [])) (fun t k => XS.icmpNo X134.here hx rfl (hb hby at_227) rfl (XT.ii_ne_f (by decide)) k) ?_
                    refine own_via (g' := T134.setTop (mkF m 231 #[.val (.int i0), .val (.int (0 : Int32)), .val (.int z2), .val (.int z3), .val (.int z4), .val (.ref b105), .val (.int (0 : Int32)), .val (.int (1 : Int32)), .val (.int (1 : Int32)), .val (.int (1 : Int32))] [(.int (1 : Int32))])) (fun t k => XS.iconst X134.here hx rfl (hb hby at_230) k) ?_
                    refine own_via (g' := T134.setTop (mkF m 235 #[.val (.int i0), .val (.int (0 : Int32)), .val (.int z2), .val (.int z3), .val (.int z4), .val (.ref b105), .val (.int (0 : Int32)), .val (.int (1 : Int32)), .val (.int (1 : Int32)), .val (.int (1 : Int32))] [(.int (1 : Int32))])) (fun t k => XS.goto X134.here hx rfl (pc0 := 231) (pc' := 235) rfl (hb hby at_231) (by decide) (by decide) k) ?_
                    refine own_via (g' := T134.setTop (mkF m 237 #[.val (.int i0), .val (.int (0 : Int32)), .val (.int z2), .val (.int z3), .val (.int z4), .val (.ref b105), .val (.int (0 : Int32)), .val (.int (1 : Int32)), .val (.int (1 : Int32)), .val (.int (1 : Int32))] [])) (fun t k => XS.istore X134.here hx rfl (hb hby at_235) rfl (l' := #[.val (.int i0), .val (.int (0 : Int32)), .val (.int z2), .val (.int z3), .val (.int z4), .val (.ref b105), .val (.int (0 : Int32)), .val (.int (1 : Int32)), .val (.int (1 : Int32)), .val (.int (1 : Int32))]) rfl k) ?_
                    refine own_via (g' := T134.setTop (mkF m 239 #[.val (.int i0), .val (.int (0 : Int32)), .val (.int z2), .val (.int z3), .val (.int z4), .val (.ref b105), .val (.int (0 : Int32)), .val (.int (1 : Int32)), .val (.int (1 : Int32)), .val (.int (1 : Int32))] [(.int (1 : Int32))])) (fun t k => XS.iload X134.here hx rfl (hb hby at_237) rfl k) ?_
                    exact own_retB X134 hx hlk (t := .boolean) Bd.returns (by simp) (hb hby at_239) ⟨rfl, N134⟩ (by decide) (by decide)
                  · refine own_via (g' := T129.setTop (mkF m 178 #[.val (.int i0), .val (.int (0 : Int32)), .val (.int z2), .val (.int z3), .val (.int z4), .val (.ref b105), .val (.int (0 : Int32)), .val (.int (1 : Int32)), .val (.int (1 : Int32)), .unset] [])) (fun t k => XS.ifNo X129.here hx rfl (hb hby at_175) rfl (XT.i0_eq_f hc175_130) k) ?_
                    refine own_via (g' := T129.setTop (mkF m 180 #[.val (.int i0), .val (.int (0 : Int32)), .val (.int z2), .val (.int z3), .val (.int z4), .val (.ref b105), .val (.int (0 : Int32)), .val (.int (1 : Int32)), .val (.int (1 : Int32)), .unset] [(.ref b105)])) (fun t k => XS.aload X129.here hx rfl (hb hby at_178) rfl (rfl) k) ?_
                    obtain ⟨cq135, kq135, q135a, q135b, q135c⟩ := isOf hZ e129 A127
                    obtain ⟨v135, _, ⟨T135, L135, k135, n135⟩, -, X135, ⟨Lc135, hQ135, l135, y135, z135⟩, st135⟩ := X129.virtualBack hx (y := (⟨"com/example/rosterwright/rosterwright/Roster", "markKept", "()V"⟩ : MethodName)) (z := (⟨"com/example/rosterwright/rosterwright/Roster", "markKept", "()V"⟩ : MethodName)) hown (mvT hZ (hw _ (List.mem_of_getElem? (i := 117) rfl))) (mvT hZ (hw _ (List.mem_of_getElem? (i := 118) rfl))) (notFace_of_selects (args := #[]) (mvT hZ (hw _ (List.mem_of_getElem? (i := 120) rfl)))) (mvT hZ (hw _ (List.mem_of_getElem? (i := 120) rfl))) (mvT hZ (hw _ (List.mem_of_getElem? (i := 119) rfl))) (by decide) (backOf (W := 0) (own_rm17 l Z a0 hw [] b105 (1 : Int32) (1 : Int32) (1 : Int32) T127.heap n0 (Nat.le_trans Z0 Kc127.1) A127 Fa127_0 Fa127_1 Fa127_2 Fa127_3 g_b105) hZ (hw _ (List.mem_of_getElem? (i := 121) rfl)) (hw _ (List.mem_of_getElem? (i := 2) rfl)) (by decide) (by decide)) q135a q135c (g := (mkF m 180 #[.val (.int i0), .val (.int (0 : Int32)), .val (.int z2), .val (.int z3), .val (.int z4), .val (.ref b105), .val (.int (0 : Int32)), .val (.int (1 : Int32)), .val (.int (1 : Int32)), .unset] [(.ref b105)])) rfl (by rw [hml]; rfl) (Steps.refl _) (argsL := []) (rest := []) (lenOf own_pd0 rfl) rfl (by show 2 * 0 + _ ≤ _; exact Nat.le_of_eq rfl) (hb hby at_180) (fun _ _ => ⟨rfl, e129, (by decide : 6 + 0 ≤ _), (by decide : 46 + 0 ≤ _)⟩)
                    dsimp only [Pt.U, Pt.locs, Pt.cells, Pt.slots] at X135 l135 y135 z135 st135 hQ135
                    subst l135 y135 z135
                    obtain ⟨rfl, N135q, K135, A135, Fa135_0, Fa135_1, Fa135_2, Fa135_3⟩ := hQ135
                    have Kc135 : Keep h0 T135.heap [] := Kc127.trans K135 (allS (Or.inr sz_b105) all0)
                    have N135 := Fr.app N129 N135q
                    refine own_via (g' := T135.setTop (mkF m 183 #[.val (.int i0), .val (.int (0 : Int32)), .val (.int z2), .val (.int z3), .val (.int z4), .val (.ref b105), .val (.int (0 : Int32)), .val (.int (1 : Int32)), .val (.int (1 : Int32)), .unset] [])) (fun t k => st135.trans k) ?_
                    refine own_via (g' := T135.setTop (mkF m 185 #[.val (.int i0), .val (.int (0 : Int32)), .val (.int z2), .val (.int z3), .val (.int z4), .val (.ref b105), .val (.int (0 : Int32)), .val (.int (1 : Int32)), .val (.int (1 : Int32)), .unset] [(.ref b105)])) (fun t k => XS.aload X135.here hx rfl (hb hby at_183) rfl (rfl) k) ?_
                    obtain ⟨cq136, kq136, q136a, q136b, q136c⟩ := isOf hZ rfl A135
                    obtain ⟨v136, _, ⟨T136, L136, k136, n136⟩, -, X136, ⟨Lc136, hQ136, l136, y136, z136⟩, st136⟩ := X135.virtualBack hx (y := (⟨"com/example/rosterwright/rosterwright/Roster", "isChanged", "()Z"⟩ : MethodName)) (z := (⟨"com/example/rosterwright/rosterwright/Roster", "isChanged", "()Z"⟩ : MethodName)) hown (mvT hZ (hw _ (List.mem_of_getElem? (i := 101) rfl))) (mvT hZ (hw _ (List.mem_of_getElem? (i := 102) rfl))) (notFace_of_selects (args := #[]) (mvT hZ (hw _ (List.mem_of_getElem? (i := 104) rfl)))) (mvT hZ (hw _ (List.mem_of_getElem? (i := 104) rfl))) (mvT hZ (hw _ (List.mem_of_getElem? (i := 103) rfl))) (by decide) (backOf (W := 0) (own_rm15 l Z a0 hw [] b105 (0 : Int32) T135.heap n0 (Nat.le_trans Z0 Kc135.1) Fa135_1 (by decide)) hZ (hw _ (List.mem_of_getElem? (i := 105) rfl)) (hw _ (List.mem_of_getElem? (i := 2) rfl)) (by decide) (by decide)) q136a q136c (g := (mkF m 185 #[.val (.int i0), .val (.int (0 : Int32)), .val (.int z2), .val (.int z3), .val (.int z4), .val (.ref b105), .val (.int (0 : Int32)), .val (.int (1 : Int32)), .val (.int (1 : Int32)), .unset] [(.ref b105)])) rfl (by rw [hml]; rfl) (Steps.refl _) (argsL := []) (rest := []) (lenOf own_pd5 rfl) rfl (by show 2 * 0 + _ ≤ _; exact Nat.le_of_eq rfl) (hb hby at_185) (fun _ _ => ⟨rfl, rfl, (by decide : 6 + 0 ≤ _), (by decide : 46 + 0 ≤ _)⟩)
                    dsimp only [Pt.U, Pt.locs, Pt.cells, Pt.slots] at X136 l136 y136 z136 st136 hQ136
                    subst l136 y136 z136
                    obtain ⟨rfl, N136q, e136⟩ := hQ136
                    have N136 := Fr.app N135 N136q
                    refine own_via (g' := T136.setTop (mkF m 188 #[.val (.int i0), .val (.int (0 : Int32)), .val (.int z2), .val (.int z3), .val (.int z4), .val (.ref b105), .val (.int (0 : Int32)), .val (.int (1 : Int32)), .val (.int (1 : Int32)), .unset] [(.int (0 : Int32))])) (fun t k => st136.trans k) ?_
                    refine own_via (g' := T136.setTop (mkF m 190 #[.val (.int i0), .val (.int (0 : Int32)), .val (.int z2), .val (.int z3), .val (.int z4), .val (.ref b105), .val (.int (0 : Int32)), .val (.int (1 : Int32)), .val (.int (1 : Int32)), .val (.int (0 : Int32))] [])) (fun t k => XS.istore X136.here hx rfl (hb hby at_188) rfl (l' := #[.val (.int i0), .val (.int (0 : Int32)), .val (.int z2), .val (.int z3), .val (.int z4), .val (.ref b105), .val (.int (0 : Int32)), .val (.int (1 : Int32)), .val (.int (1 : Int32)), .val (.int (0 : Int32))]) rfl k) ?_
                    refine own_via (g' := T136.setTop (mkF m 192 #[.val (.int i0), .val (.int (0 : Int32)), .val (.int z2), .val (.int z3), .val (.int z4), .val (.ref b105), .val (.int (0 : Int32)), .val (.int (1 : Int32)), .val (.int (1 : Int32)), .val (.int (0 : Int32))] [(.ref b105)])) (fun t k => XS.aload X136.here hx rfl (hb hby at_190) rfl (rfl) k) ?_
                    obtain ⟨cq137, kq137, q137a, q137b, q137c⟩ := isOf hZ e136 A135
                    obtain ⟨v137, _, ⟨T137, L137, k137, n137⟩, -, X137, ⟨Lc137, hQ137, l137, y137, z137⟩, st137⟩ := X136.virtualBack hx (y := (⟨"com/example/rosterwright/rosterwright/Roster", "keepChanges", "()V"⟩ : MethodName)) (z := (⟨"com/example/rosterwright/rosterwright/Roster", "keepChanges", "()V"⟩ : MethodName)) hown (mvT hZ (hw _ (List.mem_of_getElem? (i := 108) rfl))) (mvT hZ (hw _ (List.mem_of_getElem? (i := 109) rfl))) (notFace_of_selects (args := #[]) (mvT hZ (hw _ (List.mem_of_getElem? (i := 111) rfl)))) (mvT hZ (hw _ (List.mem_of_getElem? (i := 111) rfl))) (mvT hZ (hw _ (List.mem_of_getElem? (i := 110) rfl))) (by decide) (backOf (W := 0) (own_rm16 l Z a0 hw [] b105 (1 : Int32) (0 : Int32) (1 : Int32) T135.heap n0 (Nat.le_trans Z0 Kc135.1) A135 Fa135_0 Fa135_1 Fa135_2 Fa135_3 g_b105) hZ (hw _ (List.mem_of_getElem? (i := 112) rfl)) (hw _ (List.mem_of_getElem? (i := 2) rfl)) (by decide) (by decide)) q137a q137c (g := (mkF m 192 #[.val (.int i0), .val (.int (0 : Int32)), .val (.int z2), .val (.int z3), .val (.int z4), .val (.ref b105), .val (.int (0 : Int32)), .val (.int (1 : Int32)), .val (.int (1 : Int32)), .val (.int (0 : Int32))] [(.ref b105)])) rfl (by rw [hml]; rfl) (Steps.refl _) (argsL := []) (rest := []) (lenOf own_pd0 rfl) rfl (by show 2 * 0 + _ ≤ _; exact Nat.le_of_eq rfl) (hb hby at_192) (fun _ _ => ⟨rfl, e136, (by decide : 6 + 0 ≤ _), (by decide : 46 + 0 ≤ _)⟩)
                    dsimp only [Pt.U, Pt.locs, Pt.cells, Pt.slots] at X137 l137 y137 z137 st137 hQ137
                    subst l137 y137 z137
                    obtain ⟨rfl, N137q, K137, A137, Fa137_0, Fa137_1, Fa137_2, Fa137_3⟩ := hQ137
                    have Kc137 : Keep h0 T137.heap [] := Kc135.trans K137 (allS (Or.inr sz_b105) all0)
                    rw [show (own_kc (1 : Int32)) = (1 : Int32) from by decide] at Fa137_0
                    rw [show (own_ch (1 : Int32) (0 : Int32)) = (0 : Int32) from by decide] at Fa137_1
                    have N137 := Fr.app N136 N137q
                    refine own_via (g' := T137.setTop (mkF m 195 #[.val (.int i0), .val (.int (0 : Int32)), .val (.int z2), .val (.int z3), .val (.int z4), .val (.ref b105), .val (.int (0 : Int32)), .val (.int (1 : Int32)), .val (.int (1 : Int32)), .val (.int (0 : Int32))] [])) (fun t k => st137.trans k) ?_
                    refine own_via (g' := T137.setTop (mkF m 197 #[.val (.int i0), .val (.int (0 : Int32)), .val (.int z2), .val (.int z3), .val (.int z4), .val (.ref b105), .val (.int (0 : Int32)), .val (.int (1 : Int32)), .val (.int (1 : Int32)), .val (.int (0 : Int32))] [(.int (1 : Int32))])) (fun t k => XS.iload X137.here hx rfl (hb hby at_195) rfl k) ?_
                    refine own_via (g' := T137.setTop (mkF m 200 #[.val (.int i0), .val (.int (0 : Int32)), .val (.int z2), .val (.int z3), .val (.int z4), .val (.ref b105), .val (.int (0 : Int32)), .val (.int (1 : Int32)), .val (.int (1 : Int32)), .val (.int (0 : Int32))] [])) (fun t k => XS.ifNo X137.here hx rfl (hb hby at_197) rfl (XT.i0_eq_f (by decide)) k) ?_
                    refine own_via (g' := T137.setTop (mkF m 202 #[.val (.int i0), .val (.int (0 : Int32)), .val (.int z2), .val (.int z3), .val (.int z4), .val (.ref b105), .val (.int (0 : Int32)), .val (.int (1 : Int32)), .val (.int (1 : Int32)), .val (.int (0 : Int32))] [(.ref b105)])) (fun t k => XS.aload X137.here hx rfl (hb hby at_200) rfl (rfl) k) ?_
                    obtain ⟨cq138, kq138, q138a, q138b, q138c⟩ := isOf hZ rfl A137
                    obtain ⟨v138, _, ⟨T138, L138, k138, n138⟩, -, X138, ⟨Lc138, hQ138, l138, y138, z138⟩, st138⟩ := X137.virtualBack hx (y := (⟨"com/example/rosterwright/rosterwright/Roster", "keepsChanges", "()Z"⟩ : MethodName)) (z := (⟨"com/example/rosterwright/rosterwright/Roster", "keepsChanges", "()Z"⟩ : MethodName)) hown (mvT hZ (hw _ (List.mem_of_getElem? (i := 94) rfl))) (mvT hZ (hw _ (List.mem_of_getElem? (i := 95) rfl))) (notFace_of_selects (args := #[]) (mvT hZ (hw _ (List.mem_of_getElem? (i := 97) rfl)))) (mvT hZ (hw _ (List.mem_of_getElem? (i := 97) rfl))) (mvT hZ (hw _ (List.mem_of_getElem? (i := 96) rfl))) (by decide) (backOf (W := 0) (own_rm14 l Z a0 hw [] b105 (1 : Int32) T137.heap n0 (Nat.le_trans Z0 Kc137.1) Fa137_0 (by decide)) hZ (hw _ (List.mem_of_getElem? (i := 98) rfl)) (hw _ (List.mem_of_getElem? (i := 2) rfl)) (by decide) (by decide)) q138a q138c (g := (mkF m 202 #[.val (.int i0), .val (.int (0 : Int32)), .val (.int z2), .val (.int z3), .val (.int z4), .val (.ref b105), .val (.int (0 : Int32)), .val (.int (1 : Int32)), .val (.int (1 : Int32)), .val (.int (0 : Int32))] [(.ref b105)])) rfl (by rw [hml]; rfl) (Steps.refl _) (argsL := []) (rest := []) (lenOf own_pd5 rfl) rfl (by show 2 * 0 + _ ≤ _; exact Nat.le_of_eq rfl) (hb hby at_202) (fun _ _ => ⟨rfl, rfl, (by decide : 6 + 0 ≤ _), (by decide : 46 + 0 ≤ _)⟩)
                    dsimp only [Pt.U, Pt.locs, Pt.cells, Pt.slots] at X138 l138 y138 z138 st138 hQ138
                    subst l138 y138 z138
                    obtain ⟨rfl, N138q, e138⟩ := hQ138
                    have N138 := Fr.app N137 N138q
                    refine own_via (g' := T138.setTop (mkF m 205 #[.val (.int i0), .val (.int (0 : Int32)), .val (.int z2), .val (.int z3), .val (.int z4), .val (.ref b105), .val (.int (0 : Int32)), .val (.int (1 : Int32)), .val (.int (1 : Int32)), .val (.int (0 : Int32))] [(.int (1 : Int32))])) (fun t k => st138.trans k) ?_
                    refine own_via (g' := T138.setTop (mkF m 208 #[.val (.int i0), .val (.int (0 : Int32)), .val (.int z2), .val (.int z3), .val (.int z4), .val (.ref b105), .val (.int (0 : Int32)), .val (.int (1 : Int32)), .val (.int (1 : Int32)), .val (.int (0 : Int32))] [])) (fun t k => XS.ifNo X138.here hx rfl (hb hby at_205) rfl (XT.i0_eq_f (by decide)) k) ?_
                    refine own_via (g' := T138.setTop (mkF m 209 #[.val (.int i0), .val (.int (0 : Int32)), .val (.int z2), .val (.int z3), .val (.int z4), .val (.ref b105), .val (.int (0 : Int32)), .val (.int (1 : Int32)), .val (.int (1 : Int32)), .val (.int (0 : Int32))] [(.int (1 : Int32))])) (fun t k => XS.iconst X138.here hx rfl (hb hby at_208) k) ?_
                    refine own_via (g' := T138.setTop (mkF m 213 #[.val (.int i0), .val (.int (0 : Int32)), .val (.int z2), .val (.int z3), .val (.int z4), .val (.ref b105), .val (.int (0 : Int32)), .val (.int (1 : Int32)), .val (.int (1 : Int32)), .val (.int (0 : Int32))] [(.int (1 : Int32))])) (fun t k => XS.goto X138.here hx rfl (pc0 := 209) (pc' := 213) rfl (hb hby at_209) (by decide) (by decide) k) ?_
                    refine own_via (g' := T138.setTop (mkF m 215 #[.val (.int i0), .val (.int (0 : Int32)), .val (.int z2), .val (.int z3), .val (.int z4), .val (.ref b105), .val (.int (0 : Int32)), .val (.int (1 : Int32)), .val (.int (1 : Int32)), .val (.int (0 : Int32))] [])) (fun t k => XS.istore X138.here hx rfl (hb hby at_213) rfl (l' := #[.val (.int i0), .val (.int (0 : Int32)), .val (.int z2), .val (.int z3), .val (.int z4), .val (.ref b105), .val (.int (0 : Int32)), .val (.int (1 : Int32)), .val (.int (1 : Int32)), .val (.int (0 : Int32))]) rfl k) ?_
                    refine own_via (g' := T138.setTop (mkF m 217 #[.val (.int i0), .val (.int (0 : Int32)), .val (.int z2), .val (.int z3), .val (.int z4), .val (.ref b105), .val (.int (0 : Int32)), .val (.int (1 : Int32)), .val (.int (1 : Int32)), .val (.int (0 : Int32))] [(.int (1 : Int32))])) (fun t k => XS.iload X138.here hx rfl (hb hby at_215) rfl k) ?_
                    refine own_via (g' := T138.setTop (mkF m 220 #[.val (.int i0), .val (.int (0 : Int32)), .val (.int z2), .val (.int z3), .val (.int z4), .val (.ref b105), .val (.int (0 : Int32)), .val (.int (1 : Int32)), .val (.int (1 : Int32)), .val (.int (0 : Int32))] [])) (fun t k => XS.ifNo X138.here hx rfl (hb hby at_217) rfl (XT.i0_eq_f (by decide)) k) ?_
                    refine own_via (g' := T138.setTop (mkF m 222 #[.val (.int i0), .val (.int (0 : Int32)), .val (.int z2), .val (.int z3), .val (.int z4), .val (.ref b105), .val (.int (0 : Int32)), .val (.int (1 : Int32)), .val (.int (1 : Int32)), .val (.int (0 : Int32))] [(.ref b105)])) (fun t k => XS.aload X138.here hx rfl (hb hby at_220) rfl (rfl) k) ?_
                    obtain ⟨cq139, kq139, q139a, q139b, q139c⟩ := isOf hZ e138 A137
                    obtain ⟨v139, _, ⟨T139, L139, k139, n139⟩, -, X139, ⟨Lc139, hQ139, l139, y139, z139⟩, st139⟩ := X138.virtualBack hx (y := (⟨"com/example/rosterwright/rosterwright/Roster", "isChanged", "()Z"⟩ : MethodName)) (z := (⟨"com/example/rosterwright/rosterwright/Roster", "isChanged", "()Z"⟩ : MethodName)) hown (mvT hZ (hw _ (List.mem_of_getElem? (i := 101) rfl))) (mvT hZ (hw _ (List.mem_of_getElem? (i := 102) rfl))) (notFace_of_selects (args := #[]) (mvT hZ (hw _ (List.mem_of_getElem? (i := 104) rfl)))) (mvT hZ (hw _ (List.mem_of_getElem? (i := 104) rfl))) (mvT hZ (hw _ (List.mem_of_getElem? (i := 103) rfl))) (by decide) (backOf (W := 0) (own_rm15 l Z a0 hw [] b105 (0 : Int32) T137.heap n0 (Nat.le_trans Z0 Kc137.1) Fa137_1 (by decide)) hZ (hw _ (List.mem_of_getElem? (i := 105) rfl)) (hw _ (List.mem_of_getElem? (i := 2) rfl)) (by decide) (by decide)) q139a q139c (g := (mkF m 222 #[.val (.int i0), .val (.int (0 : Int32)), .val (.int z2), .val (.int z3), .val (.int z4), .val (.ref b105), .val (.int (0 : Int32)), .val (.int (1 : Int32)), .val (.int (1 : Int32)), .val (.int (0 : Int32))] [(.ref b105)])) rfl (by rw [hml]; rfl) (Steps.refl _) (argsL := []) (rest := []) (lenOf own_pd5 rfl) rfl (by show 2 * 0 + _ ≤ _; exact Nat.le_of_eq rfl) (hb hby at_222) (fun _ _ => ⟨rfl, e138, (by decide : 6 + 0 ≤ _), (by decide : 46 + 0 ≤ _)⟩)
                    dsimp only [Pt.U, Pt.locs, Pt.cells, Pt.slots] at X139 l139 y139 z139 st139 hQ139
                    subst l139 y139 z139
                    obtain ⟨rfl, N139q, e139⟩ := hQ139
                    have N139 := Fr.app N138 N139q
                    refine own_via (g' := T139.setTop (mkF m 225 #[.val (.int i0), .val (.int (0 : Int32)), .val (.int z2), .val (.int z3), .val (.int z4), .val (.ref b105), .val (.int (0 : Int32)), .val (.int (1 : Int32)), .val (.int (1 : Int32)), .val (.int (0 : Int32))] [(.int (0 : Int32))])) (fun t k => st139.trans k) ?_
                    refine own_via (g' := T139.setTop (mkF m 227 #[.val (.int i0), .val (.int (0 : Int32)), .val (.int z2), .val (.int z3), .val (.int z4), .val (.ref b105), .val (.int (0 : Int32)), .val (.int (1 : Int32)), .val (.int (1 : Int32)), .val (.int (0 : Int32))] [(.int (0 : Int32)), (.int (0 : Int32))])) (fun t k => XS.iload X139.here hx rfl (hb hby at_225) rfl k) ?_
                    refine own_via (g' := T139.setTop (mkF m 230 #[.val (.int i0), .val (.int (0 : Int32)), .val (.int z2), .val (.int z3), .val (.int z4), .val (.ref b105), .val (.int (0 : Int32)), .val (.int (1 : Int32)), .val (.int (1 : Int32)), .val (.int (0 : Int32))] [])) (fun t k => XS.icmpNo X139.here hx rfl (hb hby at_227) rfl (XT.ii_ne_f (by decide)) k) ?_
                    refine own_via (g' := T139.setTop (mkF m 231 #[.val (.int i0), .val (.int (0 : Int32)), .val (.int z2), .val (.int z3), .val (.int z4), .val (.ref b105), .val (.int (0 : Int32)), .val (.int (1 : Int32)), .val (.int (1 : Int32)), .val (.int (0 : Int32))] [(.int (1 : Int32))])) (fun t k => XS.iconst X139.here hx rfl (hb hby at_230) k) ?_
                    refine own_via (g' := T139.setTop (mkF m 235 #[.val (.int i0), .val (.int (0 : Int32)), .val (.int z2), .val (.int z3), .val (.int z4), .val (.ref b105), .val (.int (0 : Int32)), .val (.int (1 : Int32)), .val (.int (1 : Int32)), .val (.int (0 : Int32))] [(.int (1 : Int32))])) (fun t k => XS.goto X139.here hx rfl (pc0 := 231) (pc' := 235) rfl (hb hby at_231) (by decide) (by decide) k) ?_
                    refine own_via (g' := T139.setTop (mkF m 237 #[.val (.int i0), .val (.int (0 : Int32)), .val (.int z2), .val (.int z3), .val (.int z4), .val (.ref b105), .val (.int (0 : Int32)), .val (.int (1 : Int32)), .val (.int (1 : Int32)), .val (.int (0 : Int32))] [])) (fun t k => XS.istore X139.here hx rfl (hb hby at_235) rfl (l' := #[.val (.int i0), .val (.int (0 : Int32)), .val (.int z2), .val (.int z3), .val (.int z4), .val (.ref b105), .val (.int (0 : Int32)), .val (.int (1 : Int32)), .val (.int (1 : Int32)), .val (.int (0 : Int32))]) rfl k) ?_
                    refine own_via (g' := T139.setTop (mkF m 239 #[.val (.int i0), .val (.int (0 : Int32)), .val (.int z2), .val (.int z3), .val (.int z4), .val (.ref b105), .val (.int (0 : Int32)), .val (.int (1 : Int32)), .val (.int (1 : Int32)), .val (.int (0 : Int32))] [(.int (1 : Int32))])) (fun t k => XS.iload X139.here hx rfl (hb hby at_237) rfl k) ?_
                    exact own_retB X139 hx hlk (t := .boolean) Bd.returns (by simp) (hb hby at_239) ⟨rfl, N139⟩ (by decide) (by decide)
                · refine own_via (g' := T109.setTop (mkF m 88 #[.val (.int i0), .val (.int (1 : Int32)), .val (.int z2), .val (.int z3), .val (.int z4), .val (.ref b105), .unset, .unset, .unset, .unset] [(.ref b105)])) (fun t k => XS.aload X109.here hx rfl (hb hby at_86) rfl (rfl) k) ?_
                  obtain ⟨cq140, kq140, q140a, q140b, q140c⟩ := isOf hZ e109 El
                  obtain ⟨v140, _, ⟨T140, L140, k140, n140⟩, -, X140, ⟨Lc140, hQ140, l140, y140, z140⟩, st140⟩ := X109.virtualBack hx (y := (⟨"com/example/rosterwright/rosterwright/Roster", "keepsChanges", "()Z"⟩ : MethodName)) (z := (⟨"com/example/rosterwright/rosterwright/Roster", "keepsChanges", "()Z"⟩ : MethodName)) hown (mvT hZ (hw _ (List.mem_of_getElem? (i := 94) rfl))) (mvT hZ (hw _ (List.mem_of_getElem? (i := 95) rfl))) (notFace_of_selects (args := #[]) (mvT hZ (hw _ (List.mem_of_getElem? (i := 97) rfl)))) (mvT hZ (hw _ (List.mem_of_getElem? (i := 97) rfl))) (mvT hZ (hw _ (List.mem_of_getElem? (i := 96) rfl))) (by decide) (backOf (W := 0) (own_rm14 l Z a0 hw [] b105 (1 : Int32) h109 n0 (Nat.le_trans Z0 Kj109.1) Fl_keepsChanges (by decide)) hZ (hw _ (List.mem_of_getElem? (i := 98) rfl)) (hw _ (List.mem_of_getElem? (i := 2) rfl)) (by decide) (by decide)) q140a q140c (g := (mkF m 88 #[.val (.int i0), .val (.int (1 : Int32)), .val (.int z2), .val (.int z3), .val (.int z4), .val (.ref b105), .unset, .unset, .unset, .unset] [(.ref b105)])) rfl (by rw [hml]; rfl) (Steps.refl _) (argsL := []) (rest := []) (lenOf own_pd5 rfl) rfl (by show 2 * 0 + _ ≤ _; exact Nat.le_of_eq rfl) (hb hby at_88) (fun _ _ => ⟨rfl, e109, (by decide : 6 + 0 ≤ _), (by decide : 46 + 0 ≤ _)⟩)
                  dsimp only [Pt.U, Pt.locs, Pt.cells, Pt.slots] at X140 l140 y140 z140 st140 hQ140
                  subst l140 y140 z140
                  obtain ⟨rfl, N140q, e140⟩ := hQ140
                  have N140 := Fr.app N109 N140q
                  refine own_via (g' := T140.setTop (mkF m 91 #[.val (.int i0), .val (.int (1 : Int32)), .val (.int z2), .val (.int z3), .val (.int z4), .val (.ref b105), .unset, .unset, .unset, .unset] [(.int (1 : Int32))])) (fun t k => st140.trans k) ?_
                  refine own_via (g' := T140.setTop (mkF m 93 #[.val (.int i0), .val (.int (1 : Int32)), .val (.int z2), .val (.int z3), .val (.int z4), .val (.ref b105), .val (.int (1 : Int32)), .unset, .unset, .unset] [])) (fun t k => XS.istore X140.here hx rfl (hb hby at_91) rfl (l' := #[.val (.int i0), .val (.int (1 : Int32)), .val (.int z2), .val (.int z3), .val (.int z4), .val (.ref b105), .val (.int (1 : Int32)), .unset, .unset, .unset]) rfl k) ?_
                  refine own_via (g' := T140.setTop (mkF m 95 #[.val (.int i0), .val (.int (1 : Int32)), .val (.int z2), .val (.int z3), .val (.int z4), .val (.ref b105), .val (.int (1 : Int32)), .unset, .unset, .unset] [(.ref b105)])) (fun t k => XS.aload X140.here hx rfl (hb hby at_93) rfl (rfl) k) ?_
                  obtain ⟨cq141, kq141, q141a, q141b, q141c⟩ := isOf hZ e140 El
                  obtain ⟨v141, _, ⟨T141, L141, k141, n141⟩, -, X141, ⟨Lc141, hQ141, l141, y141, z141⟩, st141⟩ := X140.virtualBack hx (y := (⟨"com/example/rosterwright/rosterwright/Roster", "isChanged", "()Z"⟩ : MethodName)) (z := (⟨"com/example/rosterwright/rosterwright/Roster", "isChanged", "()Z"⟩ : MethodName)) hown (mvT hZ (hw _ (List.mem_of_getElem? (i := 101) rfl))) (mvT hZ (hw _ (List.mem_of_getElem? (i := 102) rfl))) (notFace_of_selects (args := #[]) (mvT hZ (hw _ (List.mem_of_getElem? (i := 104) rfl)))) (mvT hZ (hw _ (List.mem_of_getElem? (i := 104) rfl))) (mvT hZ (hw _ (List.mem_of_getElem? (i := 103) rfl))) (by decide) (backOf (W := 0) (own_rm15 l Z a0 hw [] b105 (0 : Int32) h109 n0 (Nat.le_trans Z0 Kj109.1) Fl_changed (by decide)) hZ (hw _ (List.mem_of_getElem? (i := 105) rfl)) (hw _ (List.mem_of_getElem? (i := 2) rfl)) (by decide) (by decide)) q141a q141c (g := (mkF m 95 #[.val (.int i0), .val (.int (1 : Int32)), .val (.int z2), .val (.int z3), .val (.int z4), .val (.ref b105), .val (.int (1 : Int32)), .unset, .unset, .unset] [(.ref b105)])) rfl (by rw [hml]; rfl) (Steps.refl _) (argsL := []) (rest := []) (lenOf own_pd5 rfl) rfl (by show 2 * 0 + _ ≤ _; exact Nat.le_of_eq rfl) (hb hby at_95) (fun _ _ => ⟨rfl, e140, (by decide : 6 + 0 ≤ _), (by decide : 46 + 0 ≤ _)⟩)
                  dsimp only [Pt.U, Pt.locs, Pt.cells, Pt.slots] at X141 l141 y141 z141 st141 hQ141
                  subst l141 y141 z141
                  obtain ⟨rfl, N141q, e141⟩ := hQ141
                  have N141 := Fr.app N140 N141q
                  refine own_via (g' := T141.setTop (mkF m 98 #[.val (.int i0), .val (.int (1 : Int32)), .val (.int z2), .val (.int z3), .val (.int z4), .val (.ref b105), .val (.int (1 : Int32)), .unset, .unset, .unset] [(.int (0 : Int32))])) (fun t k => st141.trans k) ?_
                  refine own_via (g' := T141.setTop (mkF m 100 #[.val (.int i0), .val (.int (1 : Int32)), .val (.int z2), .val (.int z3), .val (.int z4), .val (.ref b105), .val (.int (1 : Int32)), .val (.int (0 : Int32)), .unset, .unset] [])) (fun t k => XS.istore X141.here hx rfl (hb hby at_98) rfl (l' := #[.val (.int i0), .val (.int (1 : Int32)), .val (.int z2), .val (.int z3), .val (.int z4), .val (.ref b105), .val (.int (1 : Int32)), .val (.int (0 : Int32)), .unset, .unset]) rfl k) ?_
                  refine own_via (g' := T141.setTop (mkF m 102 #[.val (.int i0), .val (.int (1 : Int32)), .val (.int z2), .val (.int z3), .val (.int z4), .val (.ref b105), .val (.int (1 : Int32)), .val (.int (0 : Int32)), .unset, .unset] [(.ref b105)])) (fun t k => XS.aload X141.here hx rfl (hb hby at_100) rfl (rfl) k) ?_
                  obtain ⟨cq142, kq142, q142a, q142b, q142c⟩ := isOf hZ e141 El
                  obtain ⟨v142, _, ⟨T142, L142, k142, n142⟩, -, X142, ⟨Lc142, hQ142, l142, y142, z142⟩, st142⟩ := X141.virtualBack hx (y := (⟨"com/example/rosterwright/rosterwright/Roster", "keepChanges", "()V"⟩ : MethodName)) (z := (⟨"com/example/rosterwright/rosterwright/Roster", "keepChanges", "()V"⟩ : MethodName)) hown (mvT hZ (hw _ (List.mem_of_getElem? (i := 108) rfl))) (mvT hZ (hw _ (List.mem_of_getElem? (i := 109) rfl))) (notFace_of_selects (args := #[]) (mvT hZ (hw _ (List.mem_of_getElem? (i := 111) rfl)))) (mvT hZ (hw _ (List.mem_of_getElem? (i := 111) rfl))) (mvT hZ (hw _ (List.mem_of_getElem? (i := 110) rfl))) (by decide) (backOf (W := 0) (own_rm16 l Z a0 hw [] b105 (1 : Int32) (0 : Int32) kg2 h109 n0 (Nat.le_trans Z0 Kj109.1) El Fl_keepsChanges Fl_changed Fl_keepingChanges Fl_open g_b105) hZ (hw _ (List.mem_of_getElem? (i := 112) rfl)) (hw _ (List.mem_of_getElem? (i := 2) rfl)) (by decide) (by decide)) q142a q142c (g := (mkF m 102 #[.val (.int i0), .val (.int (1 : Int32)), .val (.int z2), .val (.int z3), .val (.int z4), .val (.ref b105), .val (.int (1 : Int32)), .val (.int (0 : Int32)), .unset, .unset] [(.ref b105)])) rfl (by rw [hml]; rfl) (Steps.refl _) (argsL := []) (rest := []) (lenOf own_pd0 rfl) rfl (by show 2 * 0 + _ ≤ _; exact Nat.le_of_eq rfl) (hb hby at_102) (fun _ _ => ⟨rfl, e141, (by decide : 6 + 0 ≤ _), (by decide : 46 + 0 ≤ _)⟩)
                  dsimp only [Pt.U, Pt.locs, Pt.cells, Pt.slots] at X142 l142 y142 z142 st142 hQ142
                  subst l142 y142 z142
                  obtain ⟨rfl, N142q, K142, A142, Fa142_0, Fa142_1, Fa142_2, Fa142_3⟩ := hQ142
                  have Kc142 : Keep h0 T142.heap [] := Kj109.trans K142 (allS (Or.inr sz_b105) all0)
                  rw [show (own_kc (1 : Int32)) = (1 : Int32) from by decide] at Fa142_0
                  rw [show (own_ch (1 : Int32) (0 : Int32)) = (0 : Int32) from by decide] at Fa142_1
                  have N142 := Fr.app N141 N142q
                  refine own_via (g' := T142.setTop (mkF m 105 #[.val (.int i0), .val (.int (1 : Int32)), .val (.int z2), .val (.int z3), .val (.int z4), .val (.ref b105), .val (.int (1 : Int32)), .val (.int (0 : Int32)), .unset, .unset] [])) (fun t k => st142.trans k) ?_
                  refine own_via (g' := T142.setTop (mkF m 107 #[.val (.int i0), .val (.int (1 : Int32)), .val (.int z2), .val (.int z3), .val (.int z4), .val (.ref b105), .val (.int (1 : Int32)), .val (.int (0 : Int32)), .unset, .unset] [(.int (1 : Int32))])) (fun t k => XS.iload X142.here hx rfl (hb hby at_105) rfl k) ?_
                  refine own_via (g' := T142.setTop (mkF m 108 #[.val (.int i0), .val (.int (1 : Int32)), .val (.int z2), .val (.int z3), .val (.int z4), .val (.ref b105), .val (.int (1 : Int32)), .val (.int (0 : Int32)), .unset, .unset] [(.int (1 : Int32)), (.int (1 : Int32))])) (fun t k => XS.iloadN X142.here hx rfl (hb hby at_107) rfl k) ?_
                  refine own_via (g' := T142.setTop (mkF m 111 #[.val (.int i0), .val (.int (1 : Int32)), .val (.int z2), .val (.int z3), .val (.int z4), .val (.ref b105), .val (.int (1 : Int32)), .val (.int (0 : Int32)), .unset, .unset] [])) (fun t k => XS.icmpNo X142.here hx rfl (hb hby at_108) rfl (XT.ii_ne_f (by decide)) k) ?_
                  refine own_via (g' := T142.setTop (mkF m 112 #[.val (.int i0), .val (.int (1 : Int32)), .val (.int z2), .val (.int z3), .val (.int z4), .val (.ref b105), .val (.int (1 : Int32)), .val (.int (0 : Int32)), .unset, .unset] [(.int (1 : Int32))])) (fun t k => XS.iconst X142.here hx rfl (hb hby at_111) k) ?_
                  refine own_via (g' := T142.setTop (mkF m 116 #[.val (.int i0), .val (.int (1 : Int32)), .val (.int z2), .val (.int z3), .val (.int z4), .val (.ref b105), .val (.int (1 : Int32)), .val (.int (0 : Int32)), .unset, .unset] [(.int (1 : Int32))])) (fun t k => XS.goto X142.here hx rfl (pc0 := 112) (pc' := 116) rfl (hb hby at_112) (by decide) (by decide) k) ?_
                  refine own_via (g' := T142.setTop (mkF m 118 #[.val (.int i0), .val (.int (1 : Int32)), .val (.int z2), .val (.int z3), .val (.int z4), .val (.ref b105), .val (.int (1 : Int32)), .val (.int (0 : Int32)), .val (.int (1 : Int32)), .unset] [])) (fun t k => XS.istore X142.here hx rfl (hb hby at_116) rfl (l' := #[.val (.int i0), .val (.int (1 : Int32)), .val (.int z2), .val (.int z3), .val (.int z4), .val (.ref b105), .val (.int (1 : Int32)), .val (.int (0 : Int32)), .val (.int (1 : Int32)), .unset]) rfl k) ?_
                  refine own_via (g' := T142.setTop (mkF m 120 #[.val (.int i0), .val (.int (1 : Int32)), .val (.int z2), .val (.int z3), .val (.int z4), .val (.ref b105), .val (.int (1 : Int32)), .val (.int (0 : Int32)), .val (.int (1 : Int32)), .unset] [(.int (1 : Int32))])) (fun t k => XS.iload X142.here hx rfl (hb hby at_118) rfl k) ?_
                  refine own_via (g' := T142.setTop (mkF m 123 #[.val (.int i0), .val (.int (1 : Int32)), .val (.int z2), .val (.int z3), .val (.int z4), .val (.ref b105), .val (.int (1 : Int32)), .val (.int (0 : Int32)), .val (.int (1 : Int32)), .unset] [])) (fun t k => XS.ifNo X142.here hx rfl (hb hby at_120) rfl (XT.i0_eq_f (by decide)) k) ?_
                  refine own_via (g' := T142.setTop (mkF m 125 #[.val (.int i0), .val (.int (1 : Int32)), .val (.int z2), .val (.int z3), .val (.int z4), .val (.ref b105), .val (.int (1 : Int32)), .val (.int (0 : Int32)), .val (.int (1 : Int32)), .unset] [(.ref b105)])) (fun t k => XS.aload X142.here hx rfl (hb hby at_123) rfl (rfl) k) ?_
                  obtain ⟨cq143, kq143, q143a, q143b, q143c⟩ := isOf hZ rfl A142
                  obtain ⟨v143, _, ⟨T143, L143, k143, n143⟩, -, X143, ⟨Lc143, hQ143, l143, y143, z143⟩, st143⟩ := X142.virtualBack hx (y := (⟨"com/example/rosterwright/rosterwright/Roster", "keepsChanges", "()Z"⟩ : MethodName)) (z := (⟨"com/example/rosterwright/rosterwright/Roster", "keepsChanges", "()Z"⟩ : MethodName)) hown (mvT hZ (hw _ (List.mem_of_getElem? (i := 94) rfl))) (mvT hZ (hw _ (List.mem_of_getElem? (i := 95) rfl))) (notFace_of_selects (args := #[]) (mvT hZ (hw _ (List.mem_of_getElem? (i := 97) rfl)))) (mvT hZ (hw _ (List.mem_of_getElem? (i := 97) rfl))) (mvT hZ (hw _ (List.mem_of_getElem? (i := 96) rfl))) (by decide) (backOf (W := 0) (own_rm14 l Z a0 hw [] b105 (1 : Int32) T142.heap n0 (Nat.le_trans Z0 Kc142.1) Fa142_0 (by decide)) hZ (hw _ (List.mem_of_getElem? (i := 98) rfl)) (hw _ (List.mem_of_getElem? (i := 2) rfl)) (by decide) (by decide)) q143a q143c (g := (mkF m 125 #[.val (.int i0), .val (.int (1 : Int32)), .val (.int z2), .val (.int z3), .val (.int z4), .val (.ref b105), .val (.int (1 : Int32)), .val (.int (0 : Int32)), .val (.int (1 : Int32)), .unset] [(.ref b105)])) rfl (by rw [hml]; rfl) (Steps.refl _) (argsL := []) (rest := []) (lenOf own_pd5 rfl) rfl (by show 2 * 0 + _ ≤ _; exact Nat.le_of_eq rfl) (hb hby at_125) (fun _ _ => ⟨rfl, rfl, (by decide : 6 + 0 ≤ _), (by decide : 46 + 0 ≤ _)⟩)
                  dsimp only [Pt.U, Pt.locs, Pt.cells, Pt.slots] at X143 l143 y143 z143 st143 hQ143
                  subst l143 y143 z143
                  obtain ⟨rfl, N143q, e143⟩ := hQ143
                  have N143 := Fr.app N142 N143q
                  refine own_via (g' := T143.setTop (mkF m 128 #[.val (.int i0), .val (.int (1 : Int32)), .val (.int z2), .val (.int z3), .val (.int z4), .val (.ref b105), .val (.int (1 : Int32)), .val (.int (0 : Int32)), .val (.int (1 : Int32)), .unset] [(.int (1 : Int32))])) (fun t k => st143.trans k) ?_
                  refine own_via (g' := T143.setTop (mkF m 131 #[.val (.int i0), .val (.int (1 : Int32)), .val (.int z2), .val (.int z3), .val (.int z4), .val (.ref b105), .val (.int (1 : Int32)), .val (.int (0 : Int32)), .val (.int (1 : Int32)), .unset] [])) (fun t k => XS.ifNo X143.here hx rfl (hb hby at_128) rfl (XT.i0_eq_f (by decide)) k) ?_
                  refine own_via (g' := T143.setTop (mkF m 132 #[.val (.int i0), .val (.int (1 : Int32)), .val (.int z2), .val (.int z3), .val (.int z4), .val (.ref b105), .val (.int (1 : Int32)), .val (.int (0 : Int32)), .val (.int (1 : Int32)), .unset] [(.int (1 : Int32))])) (fun t k => XS.iconst X143.here hx rfl (hb hby at_131) k) ?_
                  refine own_via (g' := T143.setTop (mkF m 136 #[.val (.int i0), .val (.int (1 : Int32)), .val (.int z2), .val (.int z3), .val (.int z4), .val (.ref b105), .val (.int (1 : Int32)), .val (.int (0 : Int32)), .val (.int (1 : Int32)), .unset] [(.int (1 : Int32))])) (fun t k => XS.goto X143.here hx rfl (pc0 := 132) (pc' := 136) rfl (hb hby at_132) (by decide) (by decide) k) ?_
                  refine own_via (g' := T143.setTop (mkF m 138 #[.val (.int i0), .val (.int (1 : Int32)), .val (.int z2), .val (.int z3), .val (.int z4), .val (.ref b105), .val (.int (1 : Int32)), .val (.int (0 : Int32)), .val (.int (1 : Int32)), .unset] [])) (fun t k => XS.istore X143.here hx rfl (hb hby at_136) rfl (l' := #[.val (.int i0), .val (.int (1 : Int32)), .val (.int z2), .val (.int z3), .val (.int z4), .val (.ref b105), .val (.int (1 : Int32)), .val (.int (0 : Int32)), .val (.int (1 : Int32)), .unset]) rfl k) ?_
                  refine own_via (g' := T143.setTop (mkF m 140 #[.val (.int i0), .val (.int (1 : Int32)), .val (.int z2), .val (.int z3), .val (.int z4), .val (.ref b105), .val (.int (1 : Int32)), .val (.int (0 : Int32)), .val (.int (1 : Int32)), .unset] [(.int (1 : Int32))])) (fun t k => XS.iload X143.here hx rfl (hb hby at_138) rfl k) ?_
                  refine own_via (g' := T143.setTop (mkF m 143 #[.val (.int i0), .val (.int (1 : Int32)), .val (.int z2), .val (.int z3), .val (.int z4), .val (.ref b105), .val (.int (1 : Int32)), .val (.int (0 : Int32)), .val (.int (1 : Int32)), .unset] [])) (fun t k => XS.ifNo X143.here hx rfl (hb hby at_140) rfl (XT.i0_eq_f (by decide)) k) ?_
                  refine own_via (g' := T143.setTop (mkF m 145 #[.val (.int i0), .val (.int (1 : Int32)), .val (.int z2), .val (.int z3), .val (.int z4), .val (.ref b105), .val (.int (1 : Int32)), .val (.int (0 : Int32)), .val (.int (1 : Int32)), .unset] [(.ref b105)])) (fun t k => XS.aload X143.here hx rfl (hb hby at_143) rfl (rfl) k) ?_
                  obtain ⟨cq144, kq144, q144a, q144b, q144c⟩ := isOf hZ e143 A142
                  obtain ⟨v144, _, ⟨T144, L144, k144, n144⟩, -, X144, ⟨Lc144, hQ144, l144, y144, z144⟩, st144⟩ := X143.virtualBack hx (y := (⟨"com/example/rosterwright/rosterwright/Roster", "isChanged", "()Z"⟩ : MethodName)) (z := (⟨"com/example/rosterwright/rosterwright/Roster", "isChanged", "()Z"⟩ : MethodName)) hown (mvT hZ (hw _ (List.mem_of_getElem? (i := 101) rfl))) (mvT hZ (hw _ (List.mem_of_getElem? (i := 102) rfl))) (notFace_of_selects (args := #[]) (mvT hZ (hw _ (List.mem_of_getElem? (i := 104) rfl)))) (mvT hZ (hw _ (List.mem_of_getElem? (i := 104) rfl))) (mvT hZ (hw _ (List.mem_of_getElem? (i := 103) rfl))) (by decide) (backOf (W := 0) (own_rm15 l Z a0 hw [] b105 (0 : Int32) T142.heap n0 (Nat.le_trans Z0 Kc142.1) Fa142_1 (by decide)) hZ (hw _ (List.mem_of_getElem? (i := 105) rfl)) (hw _ (List.mem_of_getElem? (i := 2) rfl)) (by decide) (by decide)) q144a q144c (g := (mkF m 145 #[.val (.int i0), .val (.int (1 : Int32)), .val (.int z2), .val (.int z3), .val (.int z4), .val (.ref b105), .val (.int (1 : Int32)), .val (.int (0 : Int32)), .val (.int (1 : Int32)), .unset] [(.ref b105)])) rfl (by rw [hml]; rfl) (Steps.refl _) (argsL := []) (rest := []) (lenOf own_pd5 rfl) rfl (by show 2 * 0 + _ ≤ _; exact Nat.le_of_eq rfl) (hb hby at_145) (fun _ _ => ⟨rfl, e143, (by decide : 6 + 0 ≤ _), (by decide : 46 + 0 ≤ _)⟩)
                  dsimp only [Pt.U, Pt.locs, Pt.cells, Pt.slots] at X144 l144 y144 z144 st144 hQ144
                  subst l144 y144 z144
                  obtain ⟨rfl, N144q, e144⟩ := hQ144
                  have N144 := Fr.app N143 N144q
                  refine own_via (g' := T144.setTop (mkF m 148 #[.val (.int i0), .val (.int (1 : Int32)), .val (.int z2), .val (.int z3), .val (.int z4), .val (.ref b105), .val (.int (1 : Int32)), .val (.int (0 : Int32)), .val (.int (1 : Int32)), .unset] [(.int (0 : Int32))])) (fun t k => st144.trans k) ?_
                  refine own_via (g' := T144.setTop (mkF m 150 #[.val (.int i0), .val (.int (1 : Int32)), .val (.int z2), .val (.int z3), .val (.int z4), .val (.ref b105), .val (.int (1 : Int32)), .val (.int (0 : Int32)), .val (.int (1 : Int32)), .unset] [(.int (0 : Int32)), (.int (0 : Int32))])) (fun t k => XS.iload X144.here hx rfl (hb hby at_148) rfl k) ?_
                  refine own_via (g' := T144.setTop (mkF m 153 #[.val (.int i0), .val (.int (1 : Int32)), .val (.int z2), .val (.int z3), .val (.int z4), .val (.ref b105), .val (.int (1 : Int32)), .val (.int (0 : Int32)), .val (.int (1 : Int32)), .unset] [(.int (0 : Int32))])) (fun t k => XS.ifNo X144.here hx rfl (hb hby at_150) rfl (XT.i0_ne_f (by decide)) k) ?_
                  refine own_via (g' := T144.setTop (mkF m 155 #[.val (.int i0), .val (.int (1 : Int32)), .val (.int z2), .val (.int z3), .val (.int z4), .val (.ref b105), .val (.int (1 : Int32)), .val (.int (0 : Int32)), .val (.int (1 : Int32)), .unset] [(.int (1 : Int32)), (.int (0 : Int32))])) (fun t k => XS.iload X144.here hx rfl (hb hby at_153) rfl k) ?_
                  refine own_via (g' := T144.setTop (mkF m 162 #[.val (.int i0), .val (.int (1 : Int32)), .val (.int z2), .val (.int z3), .val (.int z4), .val (.ref b105), .val (.int (1 : Int32)), .val (.int (0 : Int32)), .val (.int (1 : Int32)), .unset] [(.int (0 : Int32))])) (fun t k => XS.ifYes X144.here hx rfl (pc0 := 155) (pc' := 162) rfl (hb hby at_155) rfl (XT.i0_ne_t (by decide)) (by decide) (by decide) k) ?_
                  refine own_via (g' := T144.setTop (mkF m 163 #[.val (.int i0), .val (.int (1 : Int32)), .val (.int z2), .val (.int z3), .val (.int z4), .val (.ref b105), .val (.int (1 : Int32)), .val (.int (0 : Int32)), .val (.int (1 : Int32)), .unset] [(.int (0 : Int32)), (.int (0 : Int32))])) (fun t k => XS.iconst X144.here hx rfl (hb hby at_162) k) ?_
                  refine own_via (g' := T144.setTop (mkF m 166 #[.val (.int i0), .val (.int (1 : Int32)), .val (.int z2), .val (.int z3), .val (.int z4), .val (.ref b105), .val (.int (1 : Int32)), .val (.int (0 : Int32)), .val (.int (1 : Int32)), .unset] [])) (fun t k => XS.icmpNo X144.here hx rfl (hb hby at_163) rfl (XT.ii_ne_f (by decide)) k) ?_
                  refine own_via (g' := T144.setTop (mkF m 167 #[.val (.int i0), .val (.int (1 : Int32)), .val (.int z2), .val (.int z3), .val (.int z4), .val (.ref b105), .val (.int (1 : Int32)), .val (.int (0 : Int32)), .val (.int (1 : Int32)), .unset] [(.int (1 : Int32))])) (fun t k => XS.iconst X144.here hx rfl (hb hby at_166) k) ?_
                  refine own_via (g' := T144.setTop (mkF m 171 #[.val (.int i0), .val (.int (1 : Int32)), .val (.int z2), .val (.int z3), .val (.int z4), .val (.ref b105), .val (.int (1 : Int32)), .val (.int (0 : Int32)), .val (.int (1 : Int32)), .unset] [(.int (1 : Int32))])) (fun t k => XS.goto X144.here hx rfl (pc0 := 167) (pc' := 171) rfl (hb hby at_167) (by decide) (by decide) k) ?_
                  refine own_via (g' := T144.setTop (mkF m 173 #[.val (.int i0), .val (.int (1 : Int32)), .val (.int z2), .val (.int z3), .val (.int z4), .val (.ref b105), .val (.int (1 : Int32)), .val (.int (0 : Int32)), .val (.int (1 : Int32)), .unset] [])) (fun t k => XS.istore X144.here hx rfl (hb hby at_171) rfl (l' := #[.val (.int i0), .val (.int (1 : Int32)), .val (.int z2), .val (.int z3), .val (.int z4), .val (.ref b105), .val (.int (1 : Int32)), .val (.int (0 : Int32)), .val (.int (1 : Int32)), .unset]) rfl k) ?_
                  refine own_via (g' := T144.setTop (mkF m 175 #[.val (.int i0), .val (.int (1 : Int32)), .val (.int z2), .val (.int z3), .val (.int z4), .val (.ref b105), .val (.int (1 : Int32)), .val (.int (0 : Int32)), .val (.int (1 : Int32)), .unset] [(.int z4)])) (fun t k => XS.iload X144.here hx rfl (hb hby at_173) rfl k) ?_
                  by_cases hc175_145 : z4 = 0
                  · refine own_via (g' := T144.setTop (mkF m 183 #[.val (.int i0), .val (.int (1 : Int32)), .val (.int z2), .val (.int z3), .val (.int z4), .val (.ref b105), .val (.int (1 : Int32)), .val (.int (0 : Int32)), .val (.int (1 : Int32)), .unset] [])) (fun t k => XS.ifYes X144.here hx rfl (pc0 := 175) (pc' := 183) rfl (hb hby at_175) rfl (XT.i0_eq_t hc175_145) (by decide) (by decide) k) ?_
                    refine own_via (g' := T144.setTop (mkF m 185 #[.val (.int i0), .val (.int (1 : Int32)), .val (.int z2), .val (.int z3), .val (.int z4), .val (.ref b105), .val (.int (1 : Int32)), .val (.int (0 : Int32)), .val (.int (1 : Int32)), .unset] [(.ref b105)])) (fun t k => XS.aload X144.here hx rfl (hb hby at_183) rfl (rfl) k) ?_
                    obtain ⟨cq146, kq146, q146a, q146b, q146c⟩ := isOf hZ e144 A142
                    obtain ⟨v146, _, ⟨T146, L146, k146, n146⟩, -, X146, ⟨Lc146, hQ146, l146, y146, z146⟩, st146⟩ := X144.virtualBack hx (y := (⟨"com/example/rosterwright/rosterwright/Roster", "isChanged", "()Z"⟩ : MethodName)) (z := (⟨"com/example/rosterwright/rosterwright/Roster", "isChanged", "()Z"⟩ : MethodName)) hown (mvT hZ (hw _ (List.mem_of_getElem? (i := 101) rfl))) (mvT hZ (hw _ (List.mem_of_getElem? (i := 102) rfl))) (notFace_of_selects (args := #[]) (mvT hZ (hw _ (List.mem_of_getElem? (i := 104) rfl)))) (mvT hZ (hw _ (List.mem_of_getElem? (i := 104) rfl))) (mvT hZ (hw _ (List.mem_of_getElem? (i := 103) rfl))) (by decide) (backOf (W := 0) (own_rm15 l Z a0 hw [] b105 (0 : Int32) T142.heap n0 (Nat.le_trans Z0 Kc142.1) Fa142_1 (by decide)) hZ (hw _ (List.mem_of_getElem? (i := 105) rfl)) (hw _ (List.mem_of_getElem? (i := 2) rfl)) (by decide) (by decide)) q146a q146c (g := (mkF m 185 #[.val (.int i0), .val (.int (1 : Int32)), .val (.int z2), .val (.int z3), .val (.int z4), .val (.ref b105), .val (.int (1 : Int32)), .val (.int (0 : Int32)), .val (.int (1 : Int32)), .unset] [(.ref b105)])) rfl (by rw [hml]; rfl) (Steps.refl _) (argsL := []) (rest := []) (lenOf own_pd5 rfl) rfl (by show 2 * 0 + _ ≤ _; exact Nat.le_of_eq rfl) (hb hby at_185) (fun _ _ => ⟨rfl, e144, (by decide : 6 + 0 ≤ _), (by decide : 46 + 0 ≤ _)⟩)
                    dsimp only [Pt.U, Pt.locs, Pt.cells, Pt.slots] at X146 l146 y146 z146 st146 hQ146
                    subst l146 y146 z146
                    obtain ⟨rfl, N146q, e146⟩ := hQ146
                    have N146 := Fr.app N144 N146q
                    refine own_via (g' := T146.setTop (mkF m 188 #[.val (.int i0), .val (.int (1 : Int32)), .val (.int z2), .val (.int z3), .val (.int z4), .val (.ref b105), .val (.int (1 : Int32)), .val (.int (0 : Int32)), .val (.int (1 : Int32)), .unset] [(.int (0 : Int32))])) (fun t k => st146.trans k) ?_
                    refine own_via (g' := T146.setTop (mkF m 190 #[.val (.int i0), .val (.int (1 : Int32)), .val (.int z2), .val (.int z3), .val (.int z4), .val (.ref b105), .val (.int (1 : Int32)), .val (.int (0 : Int32)), .val (.int (1 : Int32)), .val (.int (0 : Int32))] [])) (fun t k => XS.istore X146.here hx rfl (hb hby at_188) rfl (l' := #[.val (.int i0), .val (.int (1 : Int32)), .val (.int z2), .val (.int z3), .val (.int z4), .val (.ref b105), .val (.int (1 : Int32)), .val (.int (0 : Int32)), .val (.int (1 : Int32)), .val (.int (0 : Int32))]) rfl k) ?_
                    refine own_via (g' := T146.setTop (mkF m 192 #[.val (.int i0), .val (.int (1 : Int32)), .val (.int z2), .val (.int z3), .val (.int z4), .val (.ref b105), .val (.int (1 : Int32)), .val (.int (0 : Int32)), .val (.int (1 : Int32)), .val (.int (0 : Int32))] [(.ref b105)])) (fun t k => XS.aload X146.here hx rfl (hb hby at_190) rfl (rfl) k) ?_
                    obtain ⟨cq147, kq147, q147a, q147b, q147c⟩ := isOf hZ e146 A142
                    obtain ⟨v147, _, ⟨T147, L147, k147, n147⟩, -, X147, ⟨Lc147, hQ147, l147, y147, z147⟩, st147⟩ := X146.virtualBack hx (y := (⟨"com/example/rosterwright/rosterwright/Roster", "keepChanges", "()V"⟩ : MethodName)) (z := (⟨"com/example/rosterwright/rosterwright/Roster", "keepChanges", "()V"⟩ : MethodName)) hown (mvT hZ (hw _ (List.mem_of_getElem? (i := 108) rfl))) (mvT hZ (hw _ (List.mem_of_getElem? (i := 109) rfl))) (notFace_of_selects (args := #[]) (mvT hZ (hw _ (List.mem_of_getElem? (i := 111) rfl)))) (mvT hZ (hw _ (List.mem_of_getElem? (i := 111) rfl))) (mvT hZ (hw _ (List.mem_of_getElem? (i := 110) rfl))) (by decide) (backOf (W := 0) (own_rm16 l Z a0 hw [] b105 (1 : Int32) (0 : Int32) (1 : Int32) T142.heap n0 (Nat.le_trans Z0 Kc142.1) A142 Fa142_0 Fa142_1 Fa142_2 Fa142_3 g_b105) hZ (hw _ (List.mem_of_getElem? (i := 112) rfl)) (hw _ (List.mem_of_getElem? (i := 2) rfl)) (by decide) (by decide)) q147a q147c (g := (mkF m 192 #[.val (.int i0), .val (.int (1 : Int32)), .val (.int z2), .val (.int z3), .val (.int z4), .val (.ref b105), .val (.int (1 : Int32)), .val (.int (0 : Int32)), .val (.int (1 : Int32)), .val (.int (0 : Int32))] [(.ref b105)])) rfl (by rw [hml]; rfl) (Steps.refl _) (argsL := []) (rest := []) (lenOf own_pd0 rfl) rfl (by show 2 * 0 + _ ≤ _; exact Nat.le_of_eq rfl) (hb hby at_192) (fun _ _ => ⟨rfl, e146, (by decide : 6 + 0 ≤ _), (by decide : 46 + 0 ≤ _)⟩)
                    dsimp only [Pt.U, Pt.locs, Pt.cells, Pt.slots] at X147 l147 y147 z147 st147 hQ147
                    subst l147 y147 z147
                    obtain ⟨rfl, N147q, K147, A147, Fa147_0, Fa147_1, Fa147_2, Fa147_3⟩ := hQ147
                    have Kc147 : Keep h0 T147.heap [] := Kc142.trans K147 (allS (Or.inr sz_b105) all0)
                    rw [show (own_kc (1 : Int32)) = (1 : Int32) from by decide] at Fa147_0
                    rw [show (own_ch (1 : Int32) (0 : Int32)) = (0 : Int32) from by decide] at Fa147_1
                    have N147 := Fr.app N146 N147q
                    refine own_via (g' := T147.setTop (mkF m 195 #[.val (.int i0), .val (.int (1 : Int32)), .val (.int z2), .val (.int z3), .val (.int z4), .val (.ref b105), .val (.int (1 : Int32)), .val (.int (0 : Int32)), .val (.int (1 : Int32)), .val (.int (0 : Int32))] [])) (fun t k => st147.trans k) ?_
                    refine own_via (g' := T147.setTop (mkF m 197 #[.val (.int i0), .val (.int (1 : Int32)), .val (.int z2), .val (.int z3), .val (.int z4), .val (.ref b105), .val (.int (1 : Int32)), .val (.int (0 : Int32)), .val (.int (1 : Int32)), .val (.int (0 : Int32))] [(.int (1 : Int32))])) (fun t k => XS.iload X147.here hx rfl (hb hby at_195) rfl k) ?_
                    refine own_via (g' := T147.setTop (mkF m 200 #[.val (.int i0), .val (.int (1 : Int32)), .val (.int z2), .val (.int z3), .val (.int z4), .val (.ref b105), .val (.int (1 : Int32)), .val (.int (0 : Int32)), .val (.int (1 : Int32)), .val (.int (0 : Int32))] [])) (fun t k => XS.ifNo X147.here hx rfl (hb hby at_197) rfl (XT.i0_eq_f (by decide)) k) ?_
                    refine own_via (g' := T147.setTop (mkF m 202 #[.val (.int i0), .val (.int (1 : Int32)), .val (.int z2), .val (.int z3), .val (.int z4), .val (.ref b105), .val (.int (1 : Int32)), .val (.int (0 : Int32)), .val (.int (1 : Int32)), .val (.int (0 : Int32))] [(.ref b105)])) (fun t k => XS.aload X147.here hx rfl (hb hby at_200) rfl (rfl) k) ?_
                    obtain ⟨cq148, kq148, q148a, q148b, q148c⟩ := isOf hZ rfl A147
                    obtain ⟨v148, _, ⟨T148, L148, k148, n148⟩, -, X148, ⟨Lc148, hQ148, l148, y148, z148⟩, st148⟩ := X147.virtualBack hx (y := (⟨"com/example/rosterwright/rosterwright/Roster", "keepsChanges", "()Z"⟩ : MethodName)) (z := (⟨"com/example/rosterwright/rosterwright/Roster", "keepsChanges", "()Z"⟩ : MethodName)) hown (mvT hZ (hw _ (List.mem_of_getElem? (i := 94) rfl))) (mvT hZ (hw _ (List.mem_of_getElem? (i := 95) rfl))) (notFace_of_selects (args := #[]) (mvT hZ (hw _ (List.mem_of_getElem? (i := 97) rfl)))) (mvT hZ (hw _ (List.mem_of_getElem? (i := 97) rfl))) (mvT hZ (hw _ (List.mem_of_getElem? (i := 96) rfl))) (by decide) (backOf (W := 0) (own_rm14 l Z a0 hw [] b105 (1 : Int32) T147.heap n0 (Nat.le_trans Z0 Kc147.1) Fa147_0 (by decide)) hZ (hw _ (List.mem_of_getElem? (i := 98) rfl)) (hw _ (List.mem_of_getElem? (i := 2) rfl)) (by decide) (by decide)) q148a q148c (g := (mkF m 202 #[.val (.int i0), .val (.int (1 : Int32)), .val (.int z2), .val (.int z3), .val (.int z4), .val (.ref b105), .val (.int (1 : Int32)), .val (.int (0 : Int32)), .val (.int (1 : Int32)), .val (.int (0 : Int32))] [(.ref b105)])) rfl (by rw [hml]; rfl) (Steps.refl _) (argsL := []) (rest := []) (lenOf own_pd5 rfl) rfl (by show 2 * 0 + _ ≤ _; exact Nat.le_of_eq rfl) (hb hby at_202) (fun _ _ => ⟨rfl, rfl, (by decide : 6 + 0 ≤ _), (by decide : 46 + 0 ≤ _)⟩)
                    dsimp only [Pt.U, Pt.locs, Pt.cells, Pt.slots] at X148 l148 y148 z148 st148 hQ148
                    subst l148 y148 z148
                    obtain ⟨rfl, N148q, e148⟩ := hQ148
                    have N148 := Fr.app N147 N148q
                    refine own_via (g' := T148.setTop (mkF m 205 #[.val (.int i0), .val (.int (1 : Int32)), .val (.int z2), .val (.int z3), .val (.int z4), .val (.ref b105), .val (.int (1 : Int32)), .val (.int (0 : Int32)), .val (.int (1 : Int32)), .val (.int (0 : Int32))] [(.int (1 : Int32))])) (fun t k => st148.trans k) ?_
                    refine own_via (g' := T148.setTop (mkF m 208 #[.val (.int i0), .val (.int (1 : Int32)), .val (.int z2), .val (.int z3), .val (.int z4), .val (.ref b105), .val (.int (1 : Int32)), .val (.int (0 : Int32)), .val (.int (1 : Int32)), .val (.int (0 : Int32))] [])) (fun t k => XS.ifNo X148.here hx rfl (hb hby at_205) rfl (XT.i0_eq_f (by decide)) k) ?_
                    refine own_via (g' := T148.setTop (mkF m 209 #[.val (.int i0), .val (.int (1 : Int32)), .val (.int z2), .val (.int z3), .val (.int z4), .val (.ref b105), .val (.int (1 : Int32)), .val (.int (0 : Int32)), .val (.int (1 : Int32)), .val (.int (0 : Int32))] [(.int (1 : Int32))])) (fun t k => XS.iconst X148.here hx rfl (hb hby at_208) k) ?_
                    refine own_via (g' := T148.setTop (mkF m 213 #[.val (.int i0), .val (.int (1 : Int32)), .val (.int z2), .val (.int z3), .val (.int z4), .val (.ref b105), .val (.int (1 : Int32)), .val (.int (0 : Int32)), .val (.int (1 : Int32)), .val (.int (0 : Int32))] [(.int (1 : Int32))])) (fun t k => XS.goto X148.here hx rfl (pc0 := 209) (pc' := 213) rfl (hb hby at_209) (by decide) (by decide) k) ?_
                    refine own_via (g' := T148.setTop (mkF m 215 #[.val (.int i0), .val (.int (1 : Int32)), .val (.int z2), .val (.int z3), .val (.int z4), .val (.ref b105), .val (.int (1 : Int32)), .val (.int (0 : Int32)), .val (.int (1 : Int32)), .val (.int (0 : Int32))] [])) (fun t k => XS.istore X148.here hx rfl (hb hby at_213) rfl (l' := #[.val (.int i0), .val (.int (1 : Int32)), .val (.int z2), .val (.int z3), .val (.int z4), .val (.ref b105), .val (.int (1 : Int32)), .val (.int (0 : Int32)), .val (.int (1 : Int32)), .val (.int (0 : Int32))]) rfl k) ?_
                    refine own_via (g' := T148.setTop (mkF m 217 #[.val (.int i0), .val (.int (1 : Int32)), .val (.int z2), .val (.int z3), .val (.int z4), .val (.ref b105), .val (.int (1 : Int32)), .val (.int (0 : Int32)), .val (.int (1 : Int32)), .val (.int (0 : Int32))] [(.int (1 : Int32))])) (fun t k => XS.iload X148.here hx rfl (hb hby at_215) rfl k) ?_
                    refine own_via (g' := T148.setTop (mkF m 220 #[.val (.int i0), .val (.int (1 : Int32)), .val (.int z2), .val (.int z3), .val (.int z4), .val (.ref b105), .val (.int (1 : Int32)), .val (.int (0 : Int32)), .val (.int (1 : Int32)), .val (.int (0 : Int32))] [])) (fun t k => XS.ifNo X148.here hx rfl (hb hby at_217) rfl (XT.i0_eq_f (by decide)) k) ?_
                    refine own_via (g' := T148.setTop (mkF m 222 #[.val (.int i0), .val (.int (1 : Int32)), .val (.int z2), .val (.int z3), .val (.int z4), .val (.ref b105), .val (.int (1 : Int32)), .val (.int (0 : Int32)), .val (.int (1 : Int32)), .val (.int (0 : Int32))] [(.ref b105)])) (fun t k => XS.aload X148.here hx rfl (hb hby at_220) rfl (rfl) k) ?_
                    obtain ⟨cq149, kq149, q149a, q149b, q149c⟩ := isOf hZ e148 A147
                    obtain ⟨v149, _, ⟨T149, L149, k149, n149⟩, -, X149, ⟨Lc149, hQ149, l149, y149, z149⟩, st149⟩ := X148.virtualBack hx (y := (⟨"com/example/rosterwright/rosterwright/Roster", "isChanged", "()Z"⟩ : MethodName)) (z := (⟨"com/example/rosterwright/rosterwright/Roster", "isChanged", "()Z"⟩ : MethodName)) hown (mvT hZ (hw _ (List.mem_of_getElem? (i := 101) rfl))) (mvT hZ (hw _ (List.mem_of_getElem? (i := 102) rfl))) (notFace_of_selects (args := #[]) (mvT hZ (hw _ (List.mem_of_getElem? (i := 104) rfl)))) (mvT hZ (hw _ (List.mem_of_getElem? (i := 104) rfl))) (mvT hZ (hw _ (List.mem_of_getElem? (i := 103) rfl))) (by decide) (backOf (W := 0) (own_rm15 l Z a0 hw [] b105 (0 : Int32) T147.heap n0 (Nat.le_trans Z0 Kc147.1) Fa147_1 (by decide)) hZ (hw _ (List.mem_of_getElem? (i := 105) rfl)) (hw _ (List.mem_of_getElem? (i := 2) rfl)) (by decide) (by decide)) q149a q149c (g := (mkF m 222 #[.val (.int i0), .val (.int (1 : Int32)), .val (.int z2), .val (.int z3), .val (.int z4), .val (.ref b105), .val (.int (1 : Int32)), .val (.int (0 : Int32)), .val (.int (1 : Int32)), .val (.int (0 : Int32))] [(.ref b105)])) rfl (by rw [hml]; rfl) (Steps.refl _) (argsL := []) (rest := []) (lenOf own_pd5 rfl) rfl (by show 2 * 0 + _ ≤ _; exact Nat.le_of_eq rfl) (hb hby at_222) (fun _ _ => ⟨rfl, e148, (by decide : 6 + 0 ≤ _), (by decide : 46 + 0 ≤ _)⟩)
                    dsimp only [Pt.U, Pt.locs, Pt.cells, Pt.slots] at X149 l149 y149 z149 st149 hQ149
                    subst l149 y149 z149
                    obtain ⟨rfl, N149q, e149⟩ := hQ149
                    have N149 := Fr.app N148 N149q
                    refine own_via (g' := T149.setTop (mkF m 225 #[.val (.int i0), .val (.int (1 : Int32)), .val (.int z2), .val (.int z3), .val (.int z4), .val (.ref b105), .val (.int (1 : Int32)), .val (.int (0 : Int32)), .val (.int (1 : Int32)), .val (.int (0 : Int32))] [(.int (0 : Int32))])) (fun t k => st149.trans k) ?_
                    refine own_via (g' := T149.setTop (mkF m 227 #[.val (.int i0), .val (.int (1 : Int32)), .val (.int z2), .val (.int z3), .val (.int z4), .val (.ref b105), .val (.int (1 : Int32)), .val (.int (0 : Int32)), .val (.int (1 : Int32)), .val (.int (0 : Int32))] [(.int (0 : Int32)), (.int (0 : Int32))])) (fun t k => XS.iload X149.here hx rfl (hb hby at_225) rfl k) ?_
                    refine own_via (g' := T149.setTop (mkF m 230 #[.val (.int i0), .val (.int (1 : Int32)), .val (.int z2), .val (.int z3), .val (.int z4), .val (.ref b105), .val (.int (1 : Int32)), .val (.int (0 : Int32)), .val (.int (1 : Int32)), .val (.int (0 : Int32))] [])) (fun t k => XS.icmpNo X149.here hx rfl (hb hby at_227) rfl (XT.ii_ne_f (by decide)) k) ?_
                    refine own_via (g' := T149.setTop (mkF m 231 #[.val (.int i0), .val (.int (1 : Int32)), .val (.int z2), .val (.int z3), .val (.int z4), .val (.ref b105), .val (.int (1 : Int32)), .val (.int (0 : Int32)), .val (.int (1 : Int32)), .val (.int (0 : Int32))] [(.int (1 : Int32))])) (fun t k => XS.iconst X149.here hx rfl (hb hby at_230) k) ?_
                    refine own_via (g' := T149.setTop (mkF m 235 #[.val (.int i0), .val (.int (1 : Int32)), .val (.int z2), .val (.int z3), .val (.int z4), .val (.ref b105), .val (.int (1 : Int32)), .val (.int (0 : Int32)), .val (.int (1 : Int32)), .val (.int (0 : Int32))] [(.int (1 : Int32))])) (fun t k => XS.goto X149.here hx rfl (pc0 := 231) (pc' := 235) rfl (hb hby at_231) (by decide) (by decide) k) ?_
                    refine own_via (g' := T149.setTop (mkF m 237 #[.val (.int i0), .val (.int (1 : Int32)), .val (.int z2), .val (.int z3), .val (.int z4), .val (.ref b105), .val (.int (1 : Int32)), .val (.int (0 : Int32)), .val (.int (1 : Int32)), .val (.int (0 : Int32))] [])) (fun t k => XS.istore X149.here hx rfl (hb hby at_235) rfl (l' := #[.val (.int i0), .val (.int (1 : Int32)), .val (.int z2), .val (.int z3), .val (.int z4), .val (.ref b105), .val (.int (1 : Int32)), .val (.int (0 : Int32)), .val (.int (1 : Int32)), .val (.int (0 : Int32))]) rfl k) ?_
                    refine own_via (g' := T149.setTop (mkF m 239 #[.val (.int i0), .val (.int (1 : Int32)), .val (.int z2), .val (.int z3), .val (.int z4), .val (.ref b105), .val (.int (1 : Int32)), .val (.int (0 : Int32)), .val (.int (1 : Int32)), .val (.int (0 : Int32))] [(.int (1 : Int32))])) (fun t k => XS.iload X149.here hx rfl (hb hby at_237) rfl k) ?_
                    exact own_retB X149 hx hlk (t := .boolean) Bd.returns (by simp) (hb hby at_239) ⟨rfl, N149⟩ (by decide) (by decide)
                  · refine own_via (g' := T144.setTop (mkF m 178 #[.val (.int i0), .val (.int (1 : Int32)), .val (.int z2), .val (.int z3), .val (.int z4), .val (.ref b105), .val (.int (1 : Int32)), .val (.int (0 : Int32)), .val (.int (1 : Int32)), .unset] [])) (fun t k => XS.ifNo X144.here hx rfl (hb hby at_175) rfl (XT.i0_eq_f hc175_145) k) ?_
                    refine own_via (g' := T144.setTop (mkF m 180 #[.val (.int i0), .val (.int (1 : Int32)), .val (.int z2), .val (.int z3), .val (.int z4), .val (.ref b105), .val (.int (1 : Int32)), .val (.int (0 : Int32)), .val (.int (1 : Int32)), .unset] [(.ref b105)])) (fun t k => XS.aload X144.here hx rfl (hb hby at_178) rfl (rfl) k) ?_
                    obtain ⟨cq150, kq150, q150a, q150b, q150c⟩ := isOf hZ e144 A142
                    obtain ⟨v150, _, ⟨T150, L150, k150, n150⟩, -, X150, ⟨Lc150, hQ150, l150, y150, z150⟩, st150⟩ := X144.virtualBack hx (y := (⟨"com/example/rosterwright/rosterwright/Roster", "markKept", "()V"⟩ : MethodName)) (z := (⟨"com/example/rosterwright/rosterwright/Roster", "markKept", "()V"⟩ : MethodName)) hown (mvT hZ (hw _ (List.mem_of_getElem? (i := 117) rfl))) (mvT hZ (hw _ (List.mem_of_getElem? (i := 118) rfl))) (notFace_of_selects (args := #[]) (mvT hZ (hw _ (List.mem_of_getElem? (i := 120) rfl)))) (mvT hZ (hw _ (List.mem_of_getElem? (i := 120) rfl))) (mvT hZ (hw _ (List.mem_of_getElem? (i := 119) rfl))) (by decide) (backOf (W := 0) (own_rm17 l Z a0 hw [] b105 (1 : Int32) (0 : Int32) (1 : Int32) T142.heap n0 (Nat.le_trans Z0 Kc142.1) A142 Fa142_0 Fa142_1 Fa142_2 Fa142_3 g_b105) hZ (hw _ (List.mem_of_getElem? (i := 121) rfl)) (hw _ (List.mem_of_getElem? (i := 2) rfl)) (by decide) (by decide)) q150a q150c (g := (mkF m 180 #[.val (.int i0), .val (.int (1 : Int32)), .val (.int z2), .val (.int z3), .val (.int z4), .val (.ref b105), .val (.int (1 : Int32)), .val (.int (0 : Int32)), .val (.int (1 : Int32)), .unset] [(.ref b105)])) rfl (by rw [hml]; rfl) (Steps.refl _) (argsL := []) (rest := []) (lenOf own_pd0 rfl) rfl (by show 2 * 0 + _ ≤ _; exact Nat.le_of_eq rfl) (hb hby at_180) (fun _ _ => ⟨rfl, e144, (by decide : 6 + 0 ≤ _), (by decide : 46 + 0 ≤ _)⟩)
                    dsimp only [Pt.U, Pt.locs, Pt.cells, Pt.slots] at X150 l150 y150 z150 st150 hQ150
                    subst l150 y150 z150
                    obtain ⟨rfl, N150q, K150, A150, Fa150_0, Fa150_1, Fa150_2, Fa150_3⟩ := hQ150
                    have Kc150 : Keep h0 T150.heap [] := Kc142.trans K150 (allS (Or.inr sz_b105) all0)
                    have N150 := Fr.app N144 N150q
                    refine own_via (g' := T150.setTop (mkF m 183 #[.val (.int i0), .val (.int (1 : Int32)), .val (.int z2), .val (.int z3), .val (.int z4), .val (.ref b105), .val (.int (1 : Int32)), .val (.int (0 : Int32)), .val (.int (1 : Int32)), .unset] [])) (fun t k => st150.trans k) ?_
                    refine own_via (g' := T150.setTop (mkF m 185 #[.val (.int i0), .val (.int (1 : Int32)), .val (.int z2), .val (.int z3), .val (.int z4), .val (.ref b105), .val (.int (1 : Int32)), .val (.int (0 : Int32)), .val (.int (1 : Int32)), .unset] [(.ref b105)])) (fun t k => XS.aload X150.here hx rfl (hb hby at_183) rfl (rfl) k) ?_
                    obtain ⟨cq151, kq151, q151a, q151b, q151c⟩ := isOf hZ rfl A150
                    obtain ⟨v151, _, ⟨T151, L151, k151, n151⟩, -, X151, ⟨Lc151, hQ151, l151, y151, z151⟩, st151⟩ := X150.virtualBack hx (y := (⟨"com/example/rosterwright/rosterwright/Roster", "isChanged", "()Z"⟩ : MethodName)) (z := (⟨"com/example/rosterwright/rosterwright/Roster", "isChanged", "()Z"⟩ : MethodName)) hown (mvT hZ (hw _ (List.mem_of_getElem? (i := 101) rfl))) (mvT hZ (hw _ (List.mem_of_getElem? (i := 102) rfl))) (notFace_of_selects (args := #[]) (mvT hZ (hw _ (List.mem_of_getElem? (i := 104) rfl)))) (mvT hZ (hw _ (List.mem_of_getElem? (i := 104) rfl))) (mvT hZ (hw _ (List.mem_of_getElem? (i := 103) rfl))) (by decide) (backOf (W := 0) (own_rm15 l Z a0 hw [] b105 (0 : Int32) T150.heap n0 (Nat.le_trans Z0 Kc150.1) Fa150_1 (by decide)) hZ (hw _ (List.mem_of_getElem? (i := 105) rfl)) (hw _ (List.mem_of_getElem? (i := 2) rfl)) (by decide) (by decide)) q151a q151c (g := (mkF m 185 #[.val (.int i0), .val (.int (1 : Int32)), .val (.int z2), .val (.int z3), .val (.int z4), .val (.ref b105), .val (.int (1 : Int32)), .val (.int (0 : Int32)), .val (.int (1 : Int32)), .unset] [(.ref b105)])) rfl (by rw [hml]; rfl) (Steps.refl _) (argsL := []) (rest := []) (lenOf own_pd5 rfl) rfl (by show 2 * 0 + _ ≤ _; exact Nat.le_of_eq rfl) (hb hby at_185) (fun _ _ => ⟨rfl, rfl, (by decide : 6 + 0 ≤ _), (by decide : 46 + 0 ≤ _)⟩)
                    dsimp only [Pt.U, Pt.locs, Pt.cells, Pt.slots] at X151 l151 y151 z151 st151 hQ151
                    subst l151 y151 z151
                    obtain ⟨rfl, N151q, e151⟩ := hQ151
                    have N151 := Fr.app N150 N151q
                    refine own_via (g' := T151.setTop (mkF m 188 #[.val (.int i0), .val (.int (1 : Int32)), .val (.int z2), .val (.int z3), .val (.int z4), .val (.ref b105), .val (.int (1 : Int32)), .val (.int (0 : Int32)), .val (.int (1 : Int32)), .unset] [(.int (0 : Int32))])) (fun t k => st151.trans k) ?_
                    refine own_via (g' := T151.setTop (mkF m 190 #[.val (.int i0), .val (.int (1 : Int32)), .val (.int z2), .val (.int z3), .val (.int z4), .val (.ref b105), .val (.int (1 : Int32)), .val (.int (0 : Int32)), .val (.int (1 : Int32)), .val (.int (0 : Int32))] [])) (fun t k => XS.istore X151.here hx rfl (hb hby at_188) rfl (l' := #[.val (.int i0), .val (.int (1 : Int32)), .val (.int z2), .val (.int z3), .val (.int z4), .val (.ref b105), .val (.int (1 : Int32)), .val (.int (0 : Int32)), .val (.int (1 : Int32)), .val (.int (0 : Int32))]) rfl k) ?_
                    refine own_via (g' := T151.setTop (mkF m 192 #[.val (.int i0), .val (.int (1 : Int32)), .val (.int z2), .val (.int z3), .val (.int z4), .val (.ref b105), .val (.int (1 : Int32)), .val (.int (0 : Int32)), .val (.int (1 : Int32)), .val (.int (0 : Int32))] [(.ref b105)])) (fun t k => XS.aload X151.here hx rfl (hb hby at_190) rfl (rfl) k) ?_
                    obtain ⟨cq152, kq152, q152a, q152b, q152c⟩ := isOf hZ e151 A150
                    obtain ⟨v152, _, ⟨T152, L152, k152, n152⟩, -, X152, ⟨Lc152, hQ152, l152, y152, z152⟩, st152⟩ := X151.virtualBack hx (y := (⟨"com/example/rosterwright/rosterwright/Roster", "keepChanges", "()V"⟩ : MethodName)) (z := (⟨"com/example/rosterwright/rosterwright/Roster", "keepChanges", "()V"⟩ : MethodName)) hown (mvT hZ (hw _ (List.mem_of_getElem? (i := 108) rfl))) (mvT hZ (hw _ (List.mem_of_getElem? (i := 109) rfl))) (notFace_of_selects (args := #[]) (mvT hZ (hw _ (List.mem_of_getElem? (i := 111) rfl)))) (mvT hZ (hw _ (List.mem_of_getElem? (i := 111) rfl))) (mvT hZ (hw _ (List.mem_of_getElem? (i := 110) rfl))) (by decide) (backOf (W := 0) (own_rm16 l Z a0 hw [] b105 (1 : Int32) (0 : Int32) (1 : Int32) T150.heap n0 (Nat.le_trans Z0 Kc150.1) A150 Fa150_0 Fa150_1 Fa150_2 Fa150_3 g_b105) hZ (hw _ (List.mem_of_getElem? (i := 112) rfl)) (hw _ (List.mem_of_getElem? (i := 2) rfl)) (by decide) (by decide)) q152a q152c (g := (mkF m 192 #[.val (.int i0), .val (.int (1 : Int32)), .val (.int z2), .val (.int z3), .val (.int z4), .val (.ref b105), .val (.int (1 : Int32)), .val (.int (0 : Int32)), .val (.int (1 : Int32)), .val (.int (0 : Int32))] [(.ref b105)])) rfl (by rw [hml]; rfl) (Steps.refl _) (argsL := []) (rest := []) (lenOf own_pd0 rfl) rfl (by show 2 * 0 + _ ≤ _; exact Nat.le_of_eq rfl) (hb hby at_192) (fun _ _ => ⟨rfl, e151, (by decide : 6 + 0 ≤ _), (by decide : 46 + 0 ≤ _)⟩)
                    dsimp only [Pt.U, Pt.locs, Pt.cells, Pt.slots] at X152 l152 y152 z152 st152 hQ152
                    subst l152 y152 z152
                    obtain ⟨rfl, N152q, K152, A152, Fa152_0, Fa152_1, Fa152_2, Fa152_3⟩ := hQ152
                    have Kc152 : Keep h0 T152.heap [] := Kc150.trans K152 (allS (Or.inr sz_b105) all0)
                    rw [show (own_kc (1 : Int32)) = (1 : Int32) from by decide] at Fa152_0
                    rw [show (own_ch (1 : Int32) (0 : Int32)) = (0 : Int32) from by decide] at Fa152_1
                    have N152 := Fr.app N151 N152q
                    refine own_via (g' := T152.setTop (mkF m 195 #[.val (.int i0), .val (.int (1 : Int32)), .val (.int z2), .val (.int z3), .val (.int z4), .val (.ref b105), .val (.int (1 : Int32)), .val (.int (0 : Int32)), .val (.int (1 : Int32)), .val (.int (0 : Int32))] [])) (fun t k => st152.trans k) ?_
                    refine own_via (g' := T152.setTop (mkF m 197 #[.val (.int i0), .val (.int (1 : Int32)), .val (.int z2), .val (.int z3), .val (.int z4), .val (.ref b105), .val (.int (1 : Int32)), .val (.int (0 : Int32)), .val (.int (1 : Int32)), .val (.int (0 : Int32))] [(.int (1 : Int32))])) (fun t k => XS.iload X152.here hx rfl (hb hby at_195) rfl k) ?_
                    refine own_via (g' := T152.setTop (mkF m 200 #[.val (.int i0), .val (.int (1 : Int32)), .val (.int z2), .val (.int z3), .val (.int z4), .val (.ref b105), .val (.int (1 : Int32)), .val (.int (0 : Int32)), .val (.int (1 : Int32)), .val (.int (0 : Int32))] [])) (fun t k => XS.ifNo X152.here hx rfl (hb hby at_197) rfl (XT.i0_eq_f (by decide)) k) ?_
                    refine own_via (g' := T152.setTop (mkF m 202 #[.val (.int i0), .val (.int (1 : Int32)), .val (.int z2), .val (.int z3), .val (.int z4), .val (.ref b105), .val (.int (1 : Int32)), .val (.int (0 : Int32)), .val (.int (1 : Int32)), .val (.int (0 : Int32))] [(.ref b105)])) (fun t k => XS.aload X152.here hx rfl (hb hby at_200) rfl (rfl) k) ?_
                    obtain ⟨cq153, kq153, q153a, q153b, q153c⟩ := isOf hZ rfl A152
                    obtain ⟨v153, _, ⟨T153, L153, k153, n153⟩, -, X153, ⟨Lc153, hQ153, l153, y153, z153⟩, st153⟩ := X152.virtualBack hx (y := (⟨"com/example/rosterwright/rosterwright/Roster", "keepsChanges", "()Z"⟩ : MethodName)) (z := (⟨"com/example/rosterwright/rosterwright/Roster", "keepsChanges", "()Z"⟩ : MethodName)) hown (mvT hZ (hw _ (List.mem_of_getElem? (i := 94) rfl))) (mvT hZ (hw _ (List.mem_of_getElem? (i := 95) rfl))) (notFace_of_selects (args := #[]) (mvT hZ (hw _ (List.mem_of_getElem? (i := 97) rfl)))) (mvT hZ (hw _ (List.mem_of_getElem? (i := 97) rfl))) (mvT hZ (hw _ (List.mem_of_getElem? (i := 96) rfl))) (by decide) (backOf (W := 0) (own_rm14 l Z a0 hw [] b105 (1 : Int32) T152.heap n0 (Nat.le_trans Z0 Kc152.1) Fa152_0 (by decide)) hZ (hw _ (List.mem_of_getElem? (i := 98) rfl)) (hw _ (List.mem_of_getElem? (i := 2) rfl)) (by decide) (by decide)) q153a q153c (g := (mkF m 202 #[.val (.int i0), .val (.int (1 : Int32)), .val (.int z2), .val (.int z3), .val (.int z4), .val (.ref b105), .val (.int (1 : Int32)), .val (.int (0 : Int32)), .val (.int (1 : Int32)), .val (.int (0 : Int32))] [(.ref b105)])) rfl (by rw [hml]; rfl) (Steps.refl _) (argsL := []) (rest := []) (lenOf own_pd5 rfl) rfl (by show 2 * 0 + _ ≤ _; exact Nat.le_of_eq rfl) (hb hby at_202) (fun _ _ => ⟨rfl, rfl, (by decide : 6 + 0 ≤ _), (by decide : 46 + 0 ≤ _)⟩)
                    dsimp only [Pt.U, Pt.locs, Pt.cells, Pt.slots] at X153 l153 y153 z153 st153 hQ153
                    subst l153 y153 z153
                    obtain ⟨rfl, N153q, e153⟩ := hQ153
                    have N153 := Fr.app N152 N153q
                    refine own_via (g' := T153.setTop (mkF m 205 #[.val (.int i0), .val (.int (1 : Int32)), .val (.int z2), .val (.int z3), .val (.int z4), .val (.ref b105), .val (.int (1 : Int32)), .val (.int (0 : Int32)), .val (.int (1 : Int32)), .val (.int (0 : Int32))] [(.int (1 : Int32))])) (fun t k => st153.trans k) ?_
                    refine own_via (g' := T153.setTop (mkF m 208 #[.val (.int i0), .val (.int (1 : Int32)), .val (.int z2), .val (.int z3), .val (.int z4), .val (.ref b105), .val (.int (1 : Int32)), .val (.int (0 : Int32)), .val (.int (1 : Int32)), .val (.int (0 : Int32))] [])) (fun t k => XS.ifNo X153.here hx rfl (hb hby at_205) rfl (XT.i0_eq_f (by decide)) k) ?_
                    refine own_via (g' := T153.setTop (mkF m 209 #[.val (.int i0), .val (.int (1 : Int32)), .val (.int z2), .val (.int z3), .val (.int z4), .val (.ref b105), .val (.int (1 : Int32)), .val (.int (0 : Int32)), .val (.int (1 : Int32)), .val (.int (0 : Int32))] [(.int (1 : Int32))])) (fun t k => XS.iconst X153.here hx rfl (hb hby at_208) k) ?_
                    refine own_via (g' := T153.setTop (mkF m 213 #[.val (.int i0), .val (.int (1 : Int32)), .val (.int z2), .val (.int z3), .val (.int z4), .val (.ref b105), .val (.int (1 : Int32)), .val (.int (0 : Int32)), .val (.int (1 : Int32)), .val (.int (0 : Int32))] [(.int (1 : Int32))])) (fun t k => XS.goto X153.here hx rfl (pc0 := 209) (pc' := 213) rfl (hb hby at_209) (by decide) (by decide) k) ?_
                    refine own_via (g' := T153.setTop (mkF m 215 #[.val (.int i0), .val (.int (1 : Int32)), .val (.int z2), .val (.int z3), .val (.int z4), .val (.ref b105), .val (.int (1 : Int32)), .val (.int (0 : Int32)), .val (.int (1 : Int32)), .val (.int (0 : Int32))] [])) (fun t k => XS.istore X153.here hx rfl (hb hby at_213) rfl (l' := #[.val (.int i0), .val (.int (1 : Int32)), .val (.int z2), .val (.int z3), .val (.int z4), .val (.ref b105), .val (.int (1 : Int32)), .val (.int (0 : Int32)), .val (.int (1 : Int32)), .val (.int (0 : Int32))]) rfl k) ?_
                    refine own_via (g' := T153.setTop (mkF m 217 #[.val (.int i0), .val (.int (1 : Int32)), .val (.int z2), .val (.int z3), .val (.int z4), .val (.ref b105), .val (.int (1 : Int32)), .val (.int (0 : Int32)), .val (.int (1 : Int32)), .val (.int (0 : Int32))] [(.int (1 : Int32))])) (fun t k => XS.iload X153.here hx rfl (hb hby at_215) rfl k) ?_
                    refine own_via (g' := T153.setTop (mkF m 220 #[.val (.int i0), .val (.int (1 : Int32)), .val (.int z2), .val (.int z3), .val (.int z4), .val (.ref b105), .val (.int (1 : Int32)), .val (.int (0 : Int32)), .val (.int (1 : Int32)), .val (.int (0 : Int32))] [])) (fun t k => XS.ifNo X153.here hx rfl (hb hby at_217) rfl (XT.i0_eq_f (by decide)) k) ?_
                    refine own_via (g' := T153.setTop (mkF m 222 #[.val (.int i0), .val (.int (1 : Int32)), .val (.int z2), .val (.int z3), .val (.int z4), .val (.ref b105), .val (.int (1 : Int32)), .val (.int (0 : Int32)), .val (.int (1 : Int32)), .val (.int (0 : Int32))] [(.ref b105)])) (fun t k => XS.aload X153.here hx rfl (hb hby at_220) rfl (rfl) k) ?_
                    obtain ⟨cq154, kq154, q154a, q154b, q154c⟩ := isOf hZ e153 A152
                    obtain ⟨v154, _, ⟨T154, L154, k154, n154⟩, -, X154, ⟨Lc154, hQ154, l154, y154, z154⟩, st154⟩ := X153.virtualBack hx (y := (⟨"com/example/rosterwright/rosterwright/Roster", "isChanged", "()Z"⟩ : MethodName)) (z := (⟨"com/example/rosterwright/rosterwright/Roster", "isChanged", "()Z"⟩ : MethodName)) hown (mvT hZ (hw _ (List.mem_of_getElem? (i := 101) rfl))) (mvT hZ (hw _ (List.mem_of_getElem? (i := 102) rfl))) (notFace_of_selects (args := #[]) (mvT hZ (hw _ (List.mem_of_getElem? (i := 104) rfl)))) (mvT hZ (hw _ (List.mem_of_getElem? (i := 104) rfl))) (mvT hZ (hw _ (List.mem_of_getElem? (i := 103) rfl))) (by decide) (backOf (W := 0) (own_rm15 l Z a0 hw [] b105 (0 : Int32) T152.heap n0 (Nat.le_trans Z0 Kc152.1) Fa152_1 (by decide)) hZ (hw _ (List.mem_of_getElem? (i := 105) rfl)) (hw _ (List.mem_of_getElem? (i := 2) rfl)) (by decide) (by decide)) q154a q154c (g := (mkF m 222 #[.val (.int i0), .val (.int (1 : Int32)), .val (.int z2), .val (.int z3), .val (.int z4), .val (.ref b105), .val (.int (1 : Int32)), .val (.int (0 : Int32)), .val (.int (1 : Int32)), .val (.int (0 : Int32))] [(.ref b105)])) rfl (by rw [hml]; rfl) (Steps.refl _) (argsL := []) (rest := []) (lenOf own_pd5 rfl) rfl (by show 2 * 0 + _ ≤ _; exact Nat.le_of_eq rfl) (hb hby at_222) (fun _ _ => ⟨rfl, e153, (by decide : 6 + 0 ≤ _), (by decide : 46 + 0 ≤ _)⟩)
                    dsimp only [Pt.U, Pt.locs, Pt.cells, Pt.slots] at X154 l154 y154 z154 st154 hQ154
                    subst l154 y154 z154
                    obtain ⟨rfl, N154q, e154⟩ := hQ154
                    have N154 := Fr.app N153 N154q
                    refine own_via (g' := T154.setTop (mkF m 225 #[.val (.int i0), .val (.int (1 : Int32)), .val (.int z2), .val (.int z3), .val (.int z4), .val (.ref b105), .val (.int (1 : Int32)), .val (.int (0 : Int32)), .val (.int (1 : Int32)), .val (.int (0 : Int32))] [(.int (0 : Int32))])) (fun t k => st154.trans k) ?_
                    refine own_via (g' := T154.setTop (mkF m 227 #[.val (.int i0), .val (.int (1 : Int32)), .val (.int z2), .val (.int z3), .val (.int z4), .val (.ref b105), .val (.int (1 : Int32)), .val (.int (0 : Int32)), .val (.int (1 : Int32)), .val (.int (0 : Int32))] [(.int (0 : Int32)), (.int (0 : Int32))])) (fun t k => XS.iload X154.here hx rfl (hb hby at_225) rfl k) ?_
                    refine own_via (g' := T154.setTop (mkF m 230 #[.val (.int i0), .val (.int (1 : Int32)), .val (.int z2), .val (.int z3), .val (.int z4), .val (.ref b105), .val (.int (1 : Int32)), .val (.int (0 : Int32)), .val (.int (1 : Int32)), .val (.int (0 : Int32))] [])) (fun t k => XS.icmpNo X154.here hx rfl (hb hby at_227) rfl (XT.ii_ne_f (by decide)) k) ?_
                    refine own_via (g' := T154.setTop (mkF m 231 #[.val (.int i0), .val (.int (1 : Int32)), .val (.int z2), .val (.int z3), .val (.int z4), .val (.ref b105), .val (.int (1 : Int32)), .val (.int (0 : Int32)), .val (.int (1 : Int32)), .val (.int (0 : Int32))] [(.int (1 : Int32))])) (fun t k => XS.iconst X154.here hx rfl (hb hby at_230) k) ?_
                    refine own_via (g' := T154.setTop (mkF m 235 #[.val (.int i0), .val (.int (1 : Int32)), .val (.int z2), .val (.int z3), .val (.int z4), .val (.ref b105), .val (.int (1 : Int32)), .val (.int (0 : Int32)), .val (.int (1 : Int32)), .val (.int (0 : Int32))] [(.int (1 : Int32))])) (fun t k => XS.goto X154.here hx rfl (pc0 := 231) (pc' := 235) rfl (hb hby at_231) (by decide) (by decide) k) ?_
                    refine own_via (g' := T154.setTop (mkF m 237 #[.val (.int i0), .val (.int (1 : Int32)), .val (.int z2), .val (.int z3), .val (.int z4), .val (.ref b105), .val (.int (1 : Int32)), .val (.int (0 : Int32)), .val (.int (1 : Int32)), .val (.int (0 : Int32))] [])) (fun t k => XS.istore X154.here hx rfl (hb hby at_235) rfl (l' := #[.val (.int i0), .val (.int (1 : Int32)), .val (.int z2), .val (.int z3), .val (.int z4), .val (.ref b105), .val (.int (1 : Int32)), .val (.int (0 : Int32)), .val (.int (1 : Int32)), .val (.int (0 : Int32))]) rfl k) ?_
                    refine own_via (g' := T154.setTop (mkF m 239 #[.val (.int i0), .val (.int (1 : Int32)), .val (.int z2), .val (.int z3), .val (.int z4), .val (.ref b105), .val (.int (1 : Int32)), .val (.int (0 : Int32)), .val (.int (1 : Int32)), .val (.int (0 : Int32))] [(.int (1 : Int32))])) (fun t k => XS.iload X154.here hx rfl (hb hby at_237) rfl k) ?_
                    exact own_retB X154 hx hlk (t := .boolean) Bd.returns (by simp) (hb hby at_239) ⟨rfl, N154⟩ (by decide) (by decide)
                · refine own_via (g' := T109.setTop (mkF m 88 #[.val (.int i0), .val (.int (1 : Int32)), .val (.int z2), .val (.int z3), .val (.int z4), .val (.ref b105), .unset, .unset, .unset, .unset] [(.ref b105)])) (fun t k => XS.aload X109.here hx rfl (hb hby at_86) rfl (rfl) k) ?_
                  obtain ⟨cq155, kq155, q155a, q155b, q155c⟩ := isOf hZ e109 El
                  obtain ⟨v155, _, ⟨T155, L155, k155, n155⟩, -, X155, ⟨Lc155, hQ155, l155, y155, z155⟩, st155⟩ := X109.virtualBack hx (y := (⟨"com/example/rosterwright/rosterwright/Roster", "keepsChanges", "()Z"⟩ : MethodName)) (z := (⟨"com/example/rosterwright/rosterwright/Roster", "keepsChanges", "()Z"⟩ : MethodName)) hown (mvT hZ (hw _ (List.mem_of_getElem? (i := 94) rfl))) (mvT hZ (hw _ (List.mem_of_getElem? (i := 95) rfl))) (notFace_of_selects (args := #[]) (mvT hZ (hw _ (List.mem_of_getElem? (i := 97) rfl)))) (mvT hZ (hw _ (List.mem_of_getElem? (i := 97) rfl))) (mvT hZ (hw _ (List.mem_of_getElem? (i := 96) rfl))) (by decide) (backOf (W := 0) (own_rm14 l Z a0 hw [] b105 (1 : Int32) h109 n0 (Nat.le_trans Z0 Kj109.1) Fl_keepsChanges (by decide)) hZ (hw _ (List.mem_of_getElem? (i := 98) rfl)) (hw _ (List.mem_of_getElem? (i := 2) rfl)) (by decide) (by decide)) q155a q155c (g := (mkF m 88 #[.val (.int i0), .val (.int (1 : Int32)), .val (.int z2), .val (.int z3), .val (.int z4), .val (.ref b105), .unset, .unset, .unset, .unset] [(.ref b105)])) rfl (by rw [hml]; rfl) (Steps.refl _) (argsL := []) (rest := []) (lenOf own_pd5 rfl) rfl (by show 2 * 0 + _ ≤ _; exact Nat.le_of_eq rfl) (hb hby at_88) (fun _ _ => ⟨rfl, e109, (by decide : 6 + 0 ≤ _), (by decide : 46 + 0 ≤ _)⟩)
                  dsimp only [Pt.U, Pt.locs, Pt.cells, Pt.slots] at X155 l155 y155 z155 st155 hQ155
                  subst l155 y155 z155
                  obtain ⟨rfl, N155q, e155⟩ := hQ155
                  have N155 := Fr.app N109 N155q
                  refine own_via (g' := T155.setTop (mkF m 91 #[.val (.int i0), .val (.int (1 : Int32)), .val (.int z2), .val (.int z3), .val (.int z4), .val (.ref b105), .unset, .unset, .unset, .unset] [(.int (1 : Int32))])) (fun t k => st155.trans k) ?_
                  refine own_via (g' := T155.setTop (mkF m 93 #[.val (.int i0), .val (.int (1 : Int32)), .val (.int z2), .val (.int z3), .val (.int z4), .val (.ref b105), .val (.int (1 : Int32)), .unset, .unset, .unset] [])) (fun t k => XS.istore X155.here hx rfl (hb hby at_91) rfl (l' := #[.val (.int i0), .val (.int (1 : Int32)), .val (.int z2), .val (.int z3), .val (.int z4), .val (.ref b105), .val (.int (1 : Int32)), .unset, .unset, .unset]) rfl k) ?_
                  refine own_via (g' := T155.setTop (mkF m 95 #[.val (.int i0), .val (.int (1 : Int32)), .val (.int z2), .val (.int z3), .val (.int z4), .val (.ref b105), .val (.int (1 : Int32)), .unset, .unset, .unset] [(.ref b105)])) (fun t k => XS.aload X155.here hx rfl (hb hby at_93) rfl (rfl) k) ?_
                  obtain ⟨cq156, kq156, q156a, q156b, q156c⟩ := isOf hZ e155 El
                  obtain ⟨v156, _, ⟨T156, L156, k156, n156⟩, -, X156, ⟨Lc156, hQ156, l156, y156, z156⟩, st156⟩ := X155.virtualBack hx (y := (⟨"com/example/rosterwright/rosterwright/Roster", "isChanged", "()Z"⟩ : MethodName)) (z := (⟨"com/example/rosterwright/rosterwright/Roster", "isChanged", "()Z"⟩ : MethodName)) hown (mvT hZ (hw _ (List.mem_of_getElem? (i := 101) rfl))) (mvT hZ (hw _ (List.mem_of_getElem? (i := 102) rfl))) (notFace_of_selects (args := #[]) (mvT hZ (hw _ (List.mem_of_getElem? (i := 104) rfl)))) (mvT hZ (hw _ (List.mem_of_getElem? (i := 104) rfl))) (mvT hZ (hw _ (List.mem_of_getElem? (i := 103) rfl))) (by decide) (backOf (W := 0) (own_rm15 l Z a0 hw [] b105 (1 : Int32) h109 n0 (Nat.le_trans Z0 Kj109.1) Fl_changed (by decide)) hZ (hw _ (List.mem_of_getElem? (i := 105) rfl)) (hw _ (List.mem_of_getElem? (i := 2) rfl)) (by decide) (by decide)) q156a q156c (g := (mkF m 95 #[.val (.int i0), .val (.int (1 : Int32)), .val (.int z2), .val (.int z3), .val (.int z4), .val (.ref b105), .val (.int (1 : Int32)), .unset, .unset, .unset] [(.ref b105)])) rfl (by rw [hml]; rfl) (Steps.refl _) (argsL := []) (rest := []) (lenOf own_pd5 rfl) rfl (by show 2 * 0 + _ ≤ _; exact Nat.le_of_eq rfl) (hb hby at_95) (fun _ _ => ⟨rfl, e155, (by decide : 6 + 0 ≤ _), (by decide : 46 + 0 ≤ _)⟩)
                  dsimp only [Pt.U, Pt.locs, Pt.cells, Pt.slots] at X156 l156 y156 z156 st156 hQ156
                  subst l156 y156 z156
                  obtain ⟨rfl, N156q, e156⟩ := hQ156
                  have N156 := Fr.app N155 N156q
                  refine own_via (g' := T156.setTop (mkF m 98 #[.val (.int i0), .val (.int (1 : Int32)), .val (.int z2), .val (.int z3), .val (.int z4), .val (.ref b105), .val (.int (1 : Int32)), .unset, .unset, .unset] [(.int (1 : Int32))])) (fun t k => st156.trans k) ?_
                  refine own_via (g' := T156.setTop (mkF m 100 #[.val (.int i0), .val (.int (1 : Int32)), .val (.int z2), .val (.int z3), .val (.int z4), .val (.ref b105), .val (.int (1 : Int32)), .val (.int (1 : Int32)), .unset, .unset] [])) (fun t k => XS.istore X156.here hx rfl (hb hby at_98) rfl (l' := #[.val (.int i0), .val (.int (1 : Int32)), .val (.int z2), .val (.int z3), .val (.int z4), .val (.ref b105), .val (.int (1 : Int32)), .val (.int (1 : Int32)), .unset, .unset]) rfl k) ?_
                  refine own_via (g' := T156.setTop (mkF m 102 #[.val (.int i0), .val (.int (1 : Int32)), .val (.int z2), .val (.int z3), .val (.int z4), .val (.ref b105), .val (.int (1 : Int32)), .val (.int (1 : Int32)), .unset, .unset] [(.ref b105)])) (fun t k => XS.aload X156.here hx rfl (hb hby at_100) rfl (rfl) k) ?_
                  obtain ⟨cq157, kq157, q157a, q157b, q157c⟩ := isOf hZ e156 El
                  obtain ⟨v157, _, ⟨T157, L157, k157, n157⟩, -, X157, ⟨Lc157, hQ157, l157, y157, z157⟩, st157⟩ := X156.virtualBack hx (y := (⟨"com/example/rosterwright/rosterwright/Roster", "keepChanges", "()V"⟩ : MethodName)) (z := (⟨"com/example/rosterwright/rosterwright/Roster", "keepChanges", "()V"⟩ : MethodName)) hown (mvT hZ (hw _ (List.mem_of_getElem? (i := 108) rfl))) (mvT hZ (hw _ (List.mem_of_getElem? (i := 109) rfl))) (notFace_of_selects (args := #[]) (mvT hZ (hw _ (List.mem_of_getElem? (i := 111) rfl)))) (mvT hZ (hw _ (List.mem_of_getElem? (i := 111) rfl))) (mvT hZ (hw _ (List.mem_of_getElem? (i := 110) rfl))) (by decide) (backOf (W := 0) (own_rm16 l Z a0 hw [] b105 (1 : Int32) (1 : Int32) kg2 h109 n0 (Nat.le_trans Z0 Kj109.1) El Fl_keepsChanges Fl_changed Fl_keepingChanges Fl_open g_b105) hZ (hw _ (List.mem_of_getElem? (i := 112) rfl)) (hw _ (List.mem_of_getElem? (i := 2) rfl)) (by decide) (by decide)) q157a q157c (g := (mkF m 102 #[.val (.int i0), .val (.int (1 : Int32)), .val (.int z2), .val (.int z3), .val (.int z4), .val (.ref b105), .val (.int (1 : Int32)), .val (.int (1 : Int32)), .unset, .unset] [(.ref b105)])) rfl (by rw [hml]; rfl) (Steps.refl _) (argsL := []) (rest := []) (lenOf own_pd0 rfl) rfl (by show 2 * 0 + _ ≤ _; exact Nat.le_of_eq rfl) (hb hby at_102) (fun _ _ => ⟨rfl, e156, (by decide : 6 + 0 ≤ _), (by decide : 46 + 0 ≤ _)⟩)
                  dsimp only [Pt.U, Pt.locs, Pt.cells, Pt.slots] at X157 l157 y157 z157 st157 hQ157
                  subst l157 y157 z157
                  obtain ⟨rfl, N157q, K157, A157, Fa157_0, Fa157_1, Fa157_2, Fa157_3⟩ := hQ157
                  have Kc157 : Keep h0 T157.heap [] := Kj109.trans K157 (allS (Or.inr sz_b105) all0)
                  rw [show (own_kc (1 : Int32)) = (1 : Int32) from by decide] at Fa157_0
                  rw [show (own_ch (1 : Int32) (1 : Int32)) = (1 : Int32) from by decide] at Fa157_1
                  have N157 := Fr.app N156 N157q
                  refine own_via (g' := T157.setTop (mkF m 105 #[.val (.int i0), .val (.int (1 : Int32)), .val (.int z2), .val (.int z3), .val (.int z4), .val (.ref b105), .val (.int (1 : Int32)), .val (.int (1 : Int32)), .unset, .unset] [])) (fun t k => st157.trans k) ?_
                  refine own_via (g' := T157.setTop (mkF m 107 #[.val (.int i0), .val (.int (1 : Int32)), .val (.int z2), .val (.int z3), .val (.int z4), .val (.ref b105), .val (.int (1 : Int32)), .val (.int (1 : Int32)), .unset, .unset] [(.int (1 : Int32))])) (fun t k => XS.iload X157.here hx rfl (hb hby at_105) rfl k) ?_
                  refine own_via (g' := T157.setTop (mkF m 108 #[.val (.int i0), .val (.int (1 : Int32)), .val (.int z2), .val (.int z3), .val (.int z4), .val (.ref b105), .val (.int (1 : Int32)), .val (.int (1 : Int32)), .unset, .unset] [(.int (1 : Int32)), (.int (1 : Int32))])) (fun t k => XS.iloadN X157.here hx rfl (hb hby at_107) rfl k) ?_
                  refine own_via (g' := T157.setTop (mkF m 111 #[.val (.int i0), .val (.int (1 : Int32)), .val (.int z2), .val (.int z3), .val (.int z4), .val (.ref b105), .val (.int (1 : Int32)), .val (.int (1 : Int32)), .unset, .unset] [])) (fun t k => XS.icmpNo X157.here hx rfl (hb hby at_108) rfl (XT.ii_ne_f (by decide)) k) ?_
                  refine own_via (g' := T157.setTop (mkF m 112 #[.val (.int i0), .val (.int (1 : Int32)), .val (.int z2), .val (.int z3), .val (.int z4), .val (.ref b105), .val (.int (1 : Int32)), .val (.int (1 : Int32)), .unset, .unset] [(.int (1 : Int32))])) (fun t k => XS.iconst X157.here hx rfl (hb hby at_111) k) ?_
                  refine own_via (g' := T157.setTop (mkF m 116 #[.val (.int i0), .val (.int (1 : Int32)), .val (.int z2), .val (.int z3), .val (.int z4), .val (.ref b105), .val (.int (1 : Int32)), .val (.int (1 : Int32)), .unset, .unset] [(.int (1 : Int32))])) (fun t k => XS.goto X157.here hx rfl (pc0 := 112) (pc' := 116) rfl (hb hby at_112) (by decide) (by decide) k) ?_
                  refine own_via (g' := T157.setTop (mkF m 118 #[.val (.int i0), .val (.int (1 : Int32)), .val (.int z2), .val (.int z3), .val (.int z4), .val (.ref b105), .val (.int (1 : Int32)), .val (.int (1 : Int32)), .val (.int (1 : Int32)), .unset] [])) (fun t k => XS.istore X157.here hx rfl (hb hby at_116) rfl (l' := #[.val (.int i0), .val (.int (1 : Int32)), .val (.int z2), .val (.int z3), .val (.int z4), .val (.ref b105), .val (.int (1 : Int32)), .val (.int (1 : Int32)), .val (.int (1 : Int32)), .unset]) rfl k) ?_
                  refine own_via (g' := T157.setTop (mkF m 120 #[.val (.int i0), .val (.int (1 : Int32)), .val (.int z2), .val (.int z3), .val (.int z4), .val (.ref b105), .val (.int (1 : Int32)), .val (.int (1 : Int32)), .val (.int (1 : Int32)), .unset] [(.int (1 : Int32))])) (fun t k => XS.iload X157.here hx rfl (hb hby at_118) rfl k) ?_
                  refine own_via (g' := T157.setTop (mkF m 123 #[.val (.int i0), .val (.int (1 : Int32)), .val (.int z2), .val (.int z3), .val (.int z4), .val (.ref b105), .val (.int (1 : Int32)), .val (.int (1 : Int32)), .val (.int (1 : Int32)), .unset] [])) (fun t k => XS.ifNo X157.here hx rfl (hb hby at_120) rfl (XT.i0_eq_f (by decide)) k) ?_
                  refine own_via (g' := T157.setTop (mkF m 125 #[.val (.int i0), .val (.int (1 : Int32)), .val (.int z2), .val (.int z3), .val (.int z4), .val (.ref b105), .val (.int (1 : Int32)), .val (.int (1 : Int32)), .val (.int (1 : Int32)), .unset] [(.ref b105)])) (fun t k => XS.aload X157.here hx rfl (hb hby at_123) rfl (rfl) k) ?_
                  obtain ⟨cq158, kq158, q158a, q158b, q158c⟩ := isOf hZ rfl A157
                  obtain ⟨v158, _, ⟨T158, L158, k158, n158⟩, -, X158, ⟨Lc158, hQ158, l158, y158, z158⟩, st158⟩ := X157.virtualBack hx (y := (⟨"com/example/rosterwright/rosterwright/Roster", "keepsChanges", "()Z"⟩ : MethodName)) (z := (⟨"com/example/rosterwright/rosterwright/Roster", "keepsChanges", "()Z"⟩ : MethodName)) hown (mvT hZ (hw _ (List.mem_of_getElem? (i := 94) rfl))) (mvT hZ (hw _ (List.mem_of_getElem? (i := 95) rfl))) (notFace_of_selects (args := #[]) (mvT hZ (hw _ (List.mem_of_getElem? (i := 97) rfl)))) (mvT hZ (hw _ (List.mem_of_getElem? (i := 97) rfl))) (mvT hZ (hw _ (List.mem_of_getElem? (i := 96) rfl))) (by decide) (backOf (W := 0) (own_rm14 l Z a0 hw [] b105 (1 : Int32) T157.heap n0 (Nat.le_trans Z0 Kc157.1) Fa157_0 (by decide)) hZ (hw _ (List.mem_of_getElem? (i := 98) rfl)) (hw _ (List.mem_of_getElem? (i := 2) rfl)) (by decide) (by decide)) q158a q158c (g := (mkF m 125 #[.val (.int i0), .val (.int (1 : Int32)), .val (.int z2), .val (.int z3), .val (.int z4), .val (.ref b105), .val (.int (1 : Int32)), .val (.int (1 : Int32)), .val (.int (1 : Int32)), .unset] [(.ref b105)])) rfl (by rw [hml]; rfl) (Steps.refl _) (argsL := []) (rest := []) (lenOf own_pd5 rfl) rfl (by show 2 * 0 + _ ≤ _; exact Nat.le_of_eq rfl) (hb hby at_125) (fun _ _ => ⟨rfl, rfl, (by decide : 6 + 0 ≤ _), (by decide : 46 + 0 ≤ _)⟩)
                  dsimp only [Pt.U, Pt.locs, Pt.cells, Pt.slots] at X158 l158 y158 z158 st158 hQ158
                  subst l158 y158 z158
                  obtain ⟨rfl, N158q, e158⟩ := hQ158
                  have N158 := Fr.app N157 N158q
                  refine own_via (g' := T158.setTop (mkF m 128 #[.val (.int i0), .val (.int (1 : Int32)), .val (.int z2), .val (.int z3), .val (.int z4), .val (.ref b105), .val (.int (1 : Int32)), .val (.int (1 : Int32)), .val (.int (1 : Int32)), .unset] [(.int (1 : Int32))])) (fun t k => st158.trans k) ?_
                  refine own_via (g' := T158.setTop (mkF m 131 #[.val (.int i0), .val (.int (1 : Int32)), .val (.int z2), .val (.int z3), .val (.int z4), .val (.ref b105), .val (.int (1 : Int32)), .val (.int (1 : Int32)), .val (.int (1 : Int32)), .unset] [])) (fun t k => XS.ifNo X158.here hx rfl (hb hby at_128) rfl (XT.i0_eq_f (by decide)) k) ?_
                  refine own_via (g' := T158.setTop (mkF m 132 #[.val (.int i0), .val (.int (1 : Int32)), .val (.int z2), .val (.int z3), .val (.int z4), .val (.ref b105), .val (.int (1 : Int32)), .val (.int (1 : Int32)), .val (.int (1 : Int32)), .unset] [(.int (1 : Int32))])) (fun t k => XS.iconst X158.here hx rfl (hb hby at_131) k) ?_
                  refine own_via (g' := T158.setTop (mkF m 136 #[.val (.int i0), .val (.int (1 : Int32)), .val (.int z2), .val (.int z3), .val (.int z4), .val (.ref b105), .val (.int (1 : Int32)), .val (.int (1 : Int32)), .val (.int (1 : Int32)), .unset] [(.int (1 : Int32))])) (fun t k => XS.goto X158.here hx rfl (pc0 := 132) (pc' := 136) rfl (hb hby at_132) (by decide) (by decide) k) ?_
                  refine own_via (g' := T158.setTop (mkF m 138 #[.val (.int i0), .val (.int (1 : Int32)), .val (.int z2), .val (.int z3), .val (.int z4), .val (.ref b105), .val (.int (1 : Int32)), .val (.int (1 : Int32)), .val (.int (1 : Int32)), .unset] [])) (fun t k => XS.istore X158.here hx rfl (hb hby at_136) rfl (l' := #[.val (.int i0), .val (.int (1 : Int32)), .val (.int z2), .val (.int z3), .val (.int z4), .val (.ref b105), .val (.int (1 : Int32)), .val (.int (1 : Int32)), .val (.int (1 : Int32)), .unset]) rfl k) ?_
                  refine own_via (g' := T158.setTop (mkF m 140 #[.val (.int i0), .val (.int (1 : Int32)), .val (.int z2), .val (.int z3), .val (.int z4), .val (.ref b105), .val (.int (1 : Int32)), .val (.int (1 : Int32)), .val (.int (1 : Int32)), .unset] [(.int (1 : Int32))])) (fun t k => XS.iload X158.here hx rfl (hb hby at_138) rfl k) ?_
                  refine own_via (g' := T158.setTop (mkF m 143 #[.val (.int i0), .val (.int (1 : Int32)), .val (.int z2), .val (.int z3), .val (.int z4), .val (.ref b105), .val (.int (1 : Int32)), .val (.int (1 : Int32)), .val (.int (1 : Int32)), .unset] [])) (fun t k => XS.ifNo X158.here hx rfl (hb hby at_140) rfl (XT.i0_eq_f (by decide)) k) ?_
                  refine own_via (g' := T158.setTop (mkF m 145 #[.val (.int i0), .val (.int (1 : Int32)), .val (.int z2), .val (.int z3), .val (.int z4), .val (.ref b105), .val (.int (1 : Int32)), .val (.int (1 : Int32)), .val (.int (1 : Int32)), .unset] [(.ref b105)])) (fun t k => XS.aload X158.here hx rfl (hb hby at_143) rfl (rfl) k) ?_
                  obtain ⟨cq159, kq159, q159a, q159b, q159c⟩ := isOf hZ e158 A157
                  obtain ⟨v159, _, ⟨T159, L159, k159, n159⟩, -, X159, ⟨Lc159, hQ159, l159, y159, z159⟩, st159⟩ := X158.virtualBack hx (y := (⟨"com/example/rosterwright/rosterwright/Roster", "isChanged", "()Z"⟩ : MethodName)) (z := (⟨"com/example/rosterwright/rosterwright/Roster", "isChanged", "()Z"⟩ : MethodName)) hown (mvT hZ (hw _ (List.mem_of_getElem? (i := 101) rfl))) (mvT hZ (hw _ (List.mem_of_getElem? (i := 102) rfl))) (notFace_of_selects (args := #[]) (mvT hZ (hw _ (List.mem_of_getElem? (i := 104) rfl)))) (mvT hZ (hw _ (List.mem_of_getElem? (i := 104) rfl))) (mvT hZ (hw _ (List.mem_of_getElem? (i := 103) rfl))) (by decide) (backOf (W := 0) (own_rm15 l Z a0 hw [] b105 (1 : Int32) T157.heap n0 (Nat.le_trans Z0 Kc157.1) Fa157_1 (by decide)) hZ (hw _ (List.mem_of_getElem? (i := 105) rfl)) (hw _ (List.mem_of_getElem? (i := 2) rfl)) (by decide) (by decide)) q159a q159c (g := (mkF m 145 #[.val (.int i0), .val (.int (1 : Int32)), .val (.int z2), .val (.int z3), .val (.int z4), .val (.ref b105), .val (.int (1 : Int32)), .val (.int (1 : Int32)), .val (.int (1 : Int32)), .unset] [(.ref b105)])) rfl (by rw [hml]; rfl) (Steps.refl _) (argsL := []) (rest := []) (lenOf own_pd5 rfl) rfl (by show 2 * 0 + _ ≤ _; exact Nat.le_of_eq rfl) (hb hby at_145) (fun _ _ => ⟨rfl, e158, (by decide : 6 + 0 ≤ _), (by decide : 46 + 0 ≤ _)⟩)
                  dsimp only [Pt.U, Pt.locs, Pt.cells, Pt.slots] at X159 l159 y159 z159 st159 hQ159
                  subst l159 y159 z159
                  obtain ⟨rfl, N159q, e159⟩ := hQ159
                  have N159 := Fr.app N158 N159q
                  refine own_via (g' := T159.setTop (mkF m 148 #[.val (.int i0), .val (.int (1 : Int32)), .val (.int z2), .val (.int z3), .val (.int z4), .val (.ref b105), .val (.int (1 : Int32)), .val (.int (1 : Int32)), .val (.int (1 : Int32)), .unset] [(.int (1 : Int32))])) (fun t k => st159.trans k) ?_
                  refine own_via (g' := T159.setTop (mkF m 150 #[.val (.int i0), .val (.int (1 : Int32)), .val (.int z2), .val (.int z3), .val (.int z4), .val (.ref b105), .val (.int (1 : Int32)), .val (.int (1 : Int32)), .val (.int (1 : Int32)), .unset] [(.int (1 : Int32)), (.int (1 : Int32))])) (fun t k => XS.iload X159.here hx rfl (hb hby at_148) rfl k) ?_
                  refine own_via (g' := T159.setTop (mkF m 158 #[.val (.int i0), .val (.int (1 : Int32)), .val (.int z2), .val (.int z3), .val (.int z4), .val (.ref b105), .val (.int (1 : Int32)), .val (.int (1 : Int32)), .val (.int (1 : Int32)), .unset] [(.int (1 : Int32))])) (fun t k => XS.ifYes X159.here hx rfl (pc0 := 150) (pc' := 158) rfl (hb hby at_150) rfl (XT.i0_ne_t (by decide)) (by decide) (by decide) k) ?_
                  refine own_via (g' := T159.setTop (mkF m 159 #[.val (.int i0), .val (.int (1 : Int32)), .val (.int z2), .val (.int z3), .val (.int z4), .val (.ref b105), .val (.int (1 : Int32)), .val (.int (1 : Int32)), .val (.int (1 : Int32)), .unset] [(.int (1 : Int32)), (.int (1 : Int32))])) (fun t k => XS.iconst X159.here hx rfl (hb hby at_158) k) ?_
                  refine own_via (g' := T159.setTop (mkF m 163 #[.val (.int i0), .val (.int (1 : Int32)), .val (.int z2), .val (.int z3), .val (.int z4), .val (.ref b105), .val (.int (1 : Int32)), .val (.int (1 : Int32)), .val (.int (1 : Int32)), .unset] [(.int (1 : Int32)), (.int (1 : Int32))])) (fun t k => XS.goto X159.here hx rfl (pc0 := 159) (pc' := 163) rfl (hb hby at_159) (by decide) (by decide) k) ?_
                  refine own_via (g' := T159.setTop (mkF m 166 #[.val (.int i0), .val (.int (1 : Int32)), .val (.int z2), .val (.int z3), .val (.int z4), .val (.ref b105), .val (.int (1 : Int32)), .val (.int (1 : Int32)), .val (.int (1 : Int32)), .unset] [])) (fun t k => XS.icmpNo X159.here hx rfl (hb hby at_163) rfl (XT.ii_ne_f (by decide)) k) ?_
                  refine own_via (g' := T159.setTop (mkF m 167 #[.val (.int i0), .val (.int (1 : Int32)), .val (.int z2), .val (.int z3), .val (.int z4), .val (.ref b105), .val (.int (1 : Int32)), .val (.int (1 : Int32)), .val (.int (1 : Int32)), .unset] [(.int (1 : Int32))])) (fun t k => XS.iconst X159.here hx rfl (hb hby at_166) k) ?_
                  refine own_via (g' := T159.setTop (mkF m 171 #[.val (.int i0), .val (.int (1 : Int32)), .val (.int z2), .val (.int z3), .val (.int z4), .val (.ref b105), .val (.int (1 : Int32)), .val (.int (1 : Int32)), .val (.int (1 : Int32)), .unset] [(.int (1 : Int32))])) (fun t k => XS.goto X159.here hx rfl (pc0 := 167) (pc' := 171) rfl (hb hby at_167) (by decide) (by decide) k) ?_
                  refine own_via (g' := T159.setTop (mkF m 173 #[.val (.int i0), .val (.int (1 : Int32)), .val (.int z2), .val (.int z3), .val (.int z4), .val (.ref b105), .val (.int (1 : Int32)), .val (.int (1 : Int32)), .val (.int (1 : Int32)), .unset] [])) (fun t k => XS.istore X159.here hx rfl (hb hby at_171) rfl (l' := #[.val (.int i0), .val (.int (1 : Int32)), .val (.int z2), .val (.int z3), .val (.int z4), .val (.ref b105), .val (.int (1 : Int32)), .val (.int (1 : Int32)), .val (.int (1 : Int32)), .unset]) rfl k) ?_
                  refine own_via (g' := T159.setTop (mkF m 175 #[.val (.int i0), .val (.int (1 : Int32)), .val (.int z2), .val (.int z3), .val (.int z4), .val (.ref b105), .val (.int (1 : Int32)), .val (.int (1 : Int32)), .val (.int (1 : Int32)), .unset] [(.int z4)])) (fun t k => XS.iload X159.here hx rfl (hb hby at_173) rfl k) ?_
                  by_cases hc175_160 : z4 = 0
                  · refine own_via (g' := T159.setTop (mkF m 183 #[.val (.int i0), .val (.int (1 : Int32)), .val (.int z2), .val (.int z3), .val (.int z4), .val (.ref b105), .val (.int (1 : Int32)), .val (.int (1 : Int32)), .val (.int (1 : Int32)), .unset] [])) (fun t k => XS.ifYes X159.here hx rfl (pc0 := 175) (pc' := 183) rfl (hb hby at_175) rfl (XT.i0_eq_t hc175_160) (by decide) (by decide) k) ?_
                    refine own_via (g' := T159.setTop (mkF m 185 #[.val (.int i0), .val (.int (1 : Int32)), .val (.int z2), .val (.int z3), .val (.int z4), .val (.ref b105), .val (.int (1 : Int32)), .val (.int (1 : Int32)), .val (.int (1 : Int32)), .unset] [(.ref b105)])) (fun t k => XS.aload X159.here hx rfl (hb hby at_183) rfl (rfl) k) ?_
                    obtain ⟨cq161, kq161, q161a, q161b, q161c⟩ := isOf hZ e159 A157
                    obtain ⟨v161, _, ⟨T161, L161, k161, n161⟩, -, X161, ⟨Lc161, hQ161, l161, y161, z161⟩, st161⟩ := X159.virtualBack hx (y := (⟨"com/example/rosterwright/rosterwright/Roster", "isChanged", "()Z"⟩ : MethodName)) (z := (⟨"com/example/rosterwright/rosterwright/Roster", "isChanged", "()Z"⟩ : MethodName)) hown (mvT hZ (hw _ (List.mem_of_getElem? (i := 101) rfl))) (mvT hZ (hw _ (List.mem_of_getElem? (i := 102) rfl))) (notFace_of_selects (args := #[]) (mvT hZ (hw _ (List.mem_of_getElem? (i := 104) rfl)))) (mvT hZ (hw _ (List.mem_of_getElem? (i := 104) rfl))) (mvT hZ (hw _ (List.mem_of_getElem? (i := 103) rfl))) (by decide) (backOf (W := 0) (own_rm15 l Z a0 hw [] b105 (1 : Int32) T157.heap n0 (Nat.le_trans Z0 Kc157.1) Fa157_1 (by decide)) hZ (hw _ (List.mem_of_getElem? (i := 105) rfl)) (hw _ (List.mem_of_getElem? (i := 2) rfl)) (by decide) (by decide)) q161a q161c (g := (mkF m 185 #[.val (.int i0), .val (.int (1 : Int32)), .val (.int z2), .val (.int z3), .val (.int z4), .val (.ref b105), .val (.int (1 : Int32)), .val (.int (1 : Int32)), .val (.int (1 : Int32)), .unset] [(.ref b105)])) rfl (by rw [hml]; rfl) (Steps.refl _) (argsL := []) (rest := []) (lenOf own_pd5 rfl) rfl (by show 2 * 0 + _ ≤ _; exact Nat.le_of_eq rfl) (hb hby at_185) (fun _ _ => ⟨rfl, e159, (by decide : 6 + 0 ≤ _), (by decide : 46 + 0 ≤ _)⟩)
                    dsimp only [Pt.U, Pt.locs, Pt.cells, Pt.slots] at X161 l161 y161 z161 st161 hQ161
                    subst l161 y161 z161
                    obtain ⟨rfl, N161q, e161⟩ := hQ161
                    have N161 := Fr.app N159 N161q
                    refine own_via (g' := T161.setTop (mkF m 188 #[.val (.int i0), .val (.int (1 : Int32)), .val (.int z2), .val (.int z3), .val (.int z4), .val (.ref b105), .val (.int (1 : Int32)), .val (.int (1 : Int32)), .val (.int (1 : Int32)), .unset] [(.int (1 : Int32))])) (fun t k => st161.trans k) ?_
                    refine own_via (g' := T161.setTop (mkF m 190 #[.val (.int i0), .val (.int (1 : Int32)), .val (.int z2), .val (.int z3), .val (.int z4), .val (.ref b105), .val (.int (1 : Int32)), .val (.int (1 : Int32)), .val (.int (1 : Int32)), .val (.int (1 : Int32))] [])) (fun t k => XS.istore X161.here hx rfl (hb hby at_188) rfl (l' := #[.val (.int i0), .val (.int (1 : Int32)), .val (.int z2), .val (.int z3), .val (.int z4), .val (.ref b105), .val (.int (1 : Int32)), .val (.int (1 : Int32)), .val (.int (1 : Int32)), .val (.int (1 : Int32))]) rfl k) ?_
                    refine own_via (g' := T161.setTop (mkF m 192 #[.val (.int i0), .val (.int (1 : Int32)), .val (.int z2), .val (.int z3), .val (.int z4), .val (.ref b105), .val (.int (1 : Int32)), .val (.int (1 : Int32)), .val (.int (1 : Int32)), .val (.int (1 : Int32))] [(.ref b105)])) (fun t k => XS.aload X161.here hx rfl (hb hby at_190) rfl (rfl) k) ?_
                    obtain ⟨cq162, kq162, q162a, q162b, q162c⟩ := isOf hZ e161 A157
                    obtain ⟨v162, _, ⟨T162, L162, k162, n162⟩, -, X162, ⟨Lc162, hQ162, l162, y162, z162⟩, st162⟩ := X161.virtualBack hx (y := (⟨"com/example/rosterwright/rosterwright/Roster", "keepChanges", "()V"⟩ : MethodName)) (z := (⟨"com/example/rosterwright/rosterwright/Roster", "keepChanges", "()V"⟩ : MethodName)) hown (mvT hZ (hw _ (List.mem_of_getElem? (i := 108) rfl))) (mvT hZ (hw _ (List.mem_of_getElem? (i := 109) rfl))) (notFace_of_selects (args := #[]) (mvT hZ (hw _ (List.mem_of_getElem? (i := 111) rfl)))) (mvT hZ (hw _ (List.mem_of_getElem? (i := 111) rfl))) (mvT hZ (hw _ (List.mem_of_getElem? (i := 110) rfl))) (by decide) (backOf (W := 0) (own_rm16 l Z a0 hw [] b105 (1 : Int32) (1 : Int32) (1 : Int32) T157.heap n0 (Nat.le_trans Z0 Kc157.1) A157 Fa157_0 Fa157_1 Fa157_2 Fa157_3 g_b105) hZ (hw _ (List.mem_of_getElem? (i := 112) rfl)) (hw _ (List.mem_of_getElem? (i := 2) rfl)) (by decide) (by decide)) q162a q162c (g := (mkF m 192 #[.val (.int i0), .val (.int (1 : Int32)), .val (.int z2), .val (.int z3), .val (.int z4), .val (.ref b105), .val (.int (1 : Int32)), .val (.int (1 : Int32)), .val (.int (1 : Int32)), .val (.int (1 : Int32))] [(.ref b105)])) rfl (by rw [hml]; rfl) (Steps.refl _) (argsL := []) (rest := []) (lenOf own_pd0 rfl) rfl (by show 2 * 0 + _ ≤ _; exact Nat.le_of_eq rfl) (hb hby at_192) (fun _ _ => ⟨rfl, e161, (by decide : 6 + 0 ≤ _), (by decide : 46 + 0 ≤ _)⟩)
                    dsimp only [Pt.U, Pt.locs, Pt.cells, Pt.slots] at X162 l162 y162 z162 st162 hQ162
                    subst l162 y162 z162
                    obtain ⟨rfl, N162q, K162, A162, Fa162_0, Fa162_1, Fa162_2, Fa162_3⟩ := hQ162
                    have Kc162 : Keep h0 T162.heap [] := Kc157.trans K162 (allS (Or.inr sz_b105) all0)
                    rw [show (own_kc (1 : Int32)) = (1 : Int32) from by decide] at Fa162_0
                    rw [show (own_ch (1 : Int32) (1 : Int32)) = (1 : Int32) from by decide] at Fa162_1
                    have N162 := Fr.app N161 N162q
                    refine own_via (g' := T162.setTop (mkF m 195 #[.val (.int i0), .val (.int (1 : Int32)), .val (.int z2), .val (.int z3), .val (.int z4), .val (.ref b105), .val (.int (1 : Int32)), .val (.int (1 : Int32)), .val (.int (1 : Int32)), .val (.int (1 : Int32))] [])) (fun t k => st162.trans k) ?_
                    refine own_via (g' := T162.setTop (mkF m 197 #[.val (.int i0), .val (.int (1 : Int32)), .val (.int z2), .val (.int z3), .val (.int z4), .val (.ref b105), .val (.int (1 : Int32)), .val (.int (1 : Int32)), .val (.int (1 : Int32)), .val (.int (1 : Int32))] [(.int (1 : Int32))])) (fun t k => XS.iload X162.here hx rfl (hb hby at_195) rfl k) ?_
                    refine own_via (g' := T162.setTop (mkF m 200 #[.val (.int i0), .val (.int (1 : Int32)), .val (.int z2), .val (.int z3), .val (.int z4), .val (.ref b105), .val (.int (1 : Int32)), .val (.int (1 : Int32)), .val (.int (1 : Int32)), .val (.int (1 : Int32))] [])) (fun t k => XS.ifNo X162.here hx rfl (hb hby at_197) rfl (XT.i0_eq_f (by decide)) k) ?_
                    refine own_via (g' := T162.setTop (mkF m 202 #[.val (.int i0), .val (.int (1 : Int32)), .val (.int z2), .val (.int z3), .val (.int z4), .val (.ref b105), .val (.int (1 : Int32)), .val (.int (1 : Int32)), .val (.int (1 : Int32)), .val (.int (1 : Int32))] [(.ref b105)])) (fun t k => XS.aload X162.here hx rfl (hb hby at_200) rfl (rfl) k) ?_
                    obtain ⟨cq163, kq163, q163a, q163b, q163c⟩ := isOf hZ rfl A162
                    obtain ⟨v163, _, ⟨T163, L163, k163, n163⟩, -, X163, ⟨Lc163, hQ163, l163, y163, z163⟩, st163⟩ := X162.virtualBack hx (y := (⟨"com/example/rosterwright/rosterwright/Roster", "keepsChanges", "()Z"⟩ : MethodName)) (z := (⟨"com/example/rosterwright/rosterwright/Roster", "keepsChanges", "()Z"⟩ : MethodName)) hown (mvT hZ (hw _ (List.mem_of_getElem? (i := 94) rfl))) (mvT hZ (hw _ (List.mem_of_getElem? (i := 95) rfl))) (notFace_of_selects (args := #[]) (mvT hZ (hw _ (List.mem_of_getElem? (i := 97) rfl)))) (mvT hZ (hw _ (List.mem_of_getElem? (i := 97) rfl))) (mvT hZ (hw _ (List.mem_of_getElem? (i := 96) rfl))) (by decide) (backOf (W := 0) (own_rm14 l Z a0 hw [] b105 (1 : Int32) T162.heap n0 (Nat.le_trans Z0 Kc162.1) Fa162_0 (by decide)) hZ (hw _ (List.mem_of_getElem? (i := 98) rfl)) (hw _ (List.mem_of_getElem? (i := 2) rfl)) (by decide) (by decide)) q163a q163c (g := (mkF m 202 #[.val (.int i0), .val (.int (1 : Int32)), .val (.int z2), .val (.int z3), .val (.int z4), .val (.ref b105), .val (.int (1 : Int32)), .val (.int (1 : Int32)), .val (.int (1 : Int32)), .val (.int (1 : Int32))] [(.ref b105)])) rfl (by rw [hml]; rfl) (Steps.refl _) (argsL := []) (rest := []) (lenOf own_pd5 rfl) rfl (by show 2 * 0 + _ ≤ _; exact Nat.le_of_eq rfl) (hb hby at_202) (fun _ _ => ⟨rfl, rfl, (by decide : 6 + 0 ≤ _), (by decide : 46 + 0 ≤ _)⟩)
                    dsimp only [Pt.U, Pt.locs, Pt.cells, Pt.slots] at X163 l163 y163 z163 st163 hQ163
                    subst l163 y163 z163
                    obtain ⟨rfl, N163q, e163⟩ := hQ163
                    have N163 := Fr.app N162 N163q
                    refine own_via (g' := T163.setTop (mkF m 205 #[.val (.int i0), .val (.int (1 : Int32)), .val (.int z2), .val (.int z3), .val (.int z4), .val (.ref b105), .val (.int (1 : Int32)), .val (.int (1 : Int32)), .val (.int (1 : Int32)), .val (.int (1 : Int32))] [(.int (1 : Int32))])) (fun t k => st163.trans k) ?_
                    refine own_via (g' := T163.setTop (mkF m 208 #[.val (.int i0), .val (.int (1 : Int32)), .val (.int z2), .val (.int z3), .val (.int z4), .val (.ref b105), .val (.int (1 : Int32)), .val (.int (1 : Int32)), .val (.int (1 : Int32)), .val (.int (1 : Int32))] [])) (fun t k => XS.ifNo X163.here hx rfl (hb hby at_205) rfl (XT.i0_eq_f (by decide)) k) ?_
                    refine own_via (g' := T163.setTop (mkF m 209 #[.val (.int i0), .val (.int (1 : Int32)), .val (.int z2), .val (.int z3), .val (.int z4), .val (.ref b105), .val (.int (1 : Int32)), .val (.int (1 : Int32)), .val (.int (1 : Int32)), .val (.int (1 : Int32))] [(.int (1 : Int32))])) (fun t k => XS.iconst X163.here hx rfl (hb hby at_208) k) ?_
                    refine own_via (g' := T163.setTop (mkF m 213 #[.val (.int i0), .val (.int (1 : Int32)), .val (.int z2), .val (.int z3), .val (.int z4), .val (.ref b105), .val (.int (1 : Int32)), .val (.int (1 : Int32)), .val (.int (1 : Int32)), .val (.int (1 : Int32))] [(.int (1 : Int32))])) (fun t k => XS.goto X163.here hx rfl (pc0 := 209) (pc' := 213) rfl (hb hby at_209) (by decide) (by decide) k) ?_
                    refine own_via (g' := T163.setTop (mkF m 215 #[.val (.int i0), .val (.int (1 : Int32)), .val (.int z2), .val (.int z3), .val (.int z4), .val (.ref b105), .val (.int (1 : Int32)), .val (.int (1 : Int32)), .val (.int (1 : Int32)), .val (.int (1 : Int32))] [])) (fun t k => XS.istore X163.here hx rfl (hb hby at_213) rfl (l' := #[.val (.int i0), .val (.int (1 : Int32)), .val (.int z2), .val (.int z3), .val (.int z4), .val (.ref b105), .val (.int (1 : Int32)), .val (.int (1 : Int32)), .val (.int (1 : Int32)), .val (.int (1 : Int32))]) rfl k) ?_
                    refine own_via (g' := T163.setTop (mkF m 217 #[.val (.int i0), .val (.int (1 : Int32)), .val (.int z2), .val (.int z3), .val (.int z4), .val (.ref b105), .val (.int (1 : Int32)), .val (.int (1 : Int32)), .val (.int (1 : Int32)), .val (.int (1 : Int32))] [(.int (1 : Int32))])) (fun t k => XS.iload X163.here hx rfl (hb hby at_215) rfl k) ?_
                    refine own_via (g' := T163.setTop (mkF m 220 #[.val (.int i0), .val (.int (1 : Int32)), .val (.int z2), .val (.int z3), .val (.int z4), .val (.ref b105), .val (.int (1 : Int32)), .val (.int (1 : Int32)), .val (.int (1 : Int32)), .val (.int (1 : Int32))] [])) (fun t k => XS.ifNo X163.here hx rfl (hb hby at_217) rfl (XT.i0_eq_f (by decide)) k) ?_
                    refine own_via (g' := T163.setTop (mkF m 222 #[.val (.int i0), .val (.int (1 : Int32)), .val (.int z2), .val (.int z3), .val (.int z4), .val (.ref b105), .val (.int (1 : Int32)), .val (.int (1 : Int32)), .val (.int (1 : Int32)), .val (.int (1 : Int32))] [(.ref b105)])) (fun t k => XS.aload X163.here hx rfl (hb hby at_220) rfl (rfl) k) ?_
                    obtain ⟨cq164, kq164, q164a, q164b, q164c⟩ := isOf hZ e163 A162
                    obtain ⟨v164, _, ⟨T164, L164, k164, n164⟩, -, X164, ⟨Lc164, hQ164, l164, y164, z164⟩, st164⟩ := X163.virtualBack hx (y := (⟨"com/example/rosterwright/rosterwright/Roster", "isChanged", "()Z"⟩ : MethodName)) (z := (⟨"com/example/rosterwright/rosterwright/Roster", "isChanged", "()Z"⟩ : MethodName)) hown (mvT hZ (hw _ (List.mem_of_getElem? (i := 101) rfl))) (mvT hZ (hw _ (List.mem_of_getElem? (i := 102) rfl))) (notFace_of_selects (args := #[]) (mvT hZ (hw _ (List.mem_of_getElem? (i := 104) rfl)))) (mvT hZ (hw _ (List.mem_of_getElem? (i := 104) rfl))) (mvT hZ (hw _ (List.mem_of_getElem? (i := 103) rfl))) (by decide) (backOf (W := 0) (own_rm15 l Z a0 hw [] b105 (1 : Int32) T162.heap n0 (Nat.le_trans Z0 Kc162.1) Fa162_1 (by decide)) hZ (hw _ (List.mem_of_getElem? (i := 105) rfl)) (hw _ (List.mem_of_getElem? (i := 2) rfl)) (by decide) (by decide)) q164a q164c (g := (mkF m 222 #[.val (.int i0), .val (.int (1 : Int32)), .val (.int z2), .val (.int z3), .val (.int z4), .val (.ref b105), .val (.int (1 : Int32)), .val (.int (1 : Int32)), .val (.int (1 : Int32)), .val (.int (1 : Int32))] [(.ref b105)])) rfl (by rw [hml]; rfl) (Steps.refl _) (argsL := []) (rest := []) (lenOf own_pd5 rfl) rfl (by show 2 * 0 + _ ≤ _; exact Nat.le_of_eq rfl) (hb hby at_222) (fun _ _ => ⟨rfl, e163, (by decide : 6 + 0 ≤ _), (by decide : 46 + 0 ≤ _)⟩)
                    dsimp only [Pt.U, Pt.locs, Pt.cells, Pt.slots] at X164 l164 y164 z164 st164 hQ164
                    subst l164 y164 z164
                    obtain ⟨rfl, N164q, e164⟩ := hQ164
                    have N164 := Fr.app N163 N164q
                    refine own_via (g' := T164.setTop (mkF m 225 #[.val (.int i0), .val (.int (1 : Int32)), .val (.int z2), .val (.int z3), .val (.int z4), .val (.ref b105), .val (.int (1 : Int32)), .val (.int (1 : Int32)), .val (.int (1 : Int32)), .val (.int (1 : Int32))] [(.int (1 : Int32))])) (fun t k => st164.trans k) ?_
                    refine own_via (g' := T164.setTop (mkF m 227 #[.val (.int i0), .val (.int (1 : Int32)), .val (.int z2), .val (.int z3), .val (.int z4), .val (.ref b105), .val (.int (1 : Int32)), .val (.int (1 : Int32)), .val (.int (1 : Int32)), .val (.int (1 : Int32))] [(.int (1 : Int32)), (.int (1 : Int32))])) (fun t k => XS.iload X164.here hx rfl (hb hby at_225) rfl k) ?_
                    refine own_via (g' := T164.setTop (mkF m 230 #[.val (.int i0), .val (.int (1 : Int32)), .val (.int z2), .val (.int z3), .val (.int z4), .val (.ref b105), .val (.int (1 : Int32)), .val (.int (1 : Int32)), .val (.int (1 : Int32)), .val (.int (1 : Int32))] [])) (fun t k => XS.icmpNo X164.here hx rfl (hb hby at_227) rfl (XT.ii_ne_f (by decide)) k) ?_
                    refine own_via (g' := T164.setTop (mkF m 231 #[.val (.int i0), .val (.int (1 : Int32)), .val (.int z2), .val (.int z3), .val (.int z4), .val (.ref b105), .val (.int (1 : Int32)), .val (.int (1 : Int32)), .val (.int (1 : Int32)), .val (.int (1 : Int32))] [(.int (1 : Int32))])) (fun t k => XS.iconst X164.here hx rfl (hb hby at_230) k) ?_
                    refine own_via (g' := T164.setTop (mkF m 235 #[.val (.int i0), .val (.int (1 : Int32)), .val (.int z2), .val (.int z3), .val (.int z4), .val (.ref b105), .val (.int (1 : Int32)), .val (.int (1 : Int32)), .val (.int (1 : Int32)), .val (.int (1 : Int32))] [(.int (1 : Int32))])) (fun t k => XS.goto X164.here hx rfl (pc0 := 231) (pc' := 235) rfl (hb hby at_231) (by decide) (by decide) k) ?_
                    refine own_via (g' := T164.setTop (mkF m 237 #[.val (.int i0), .val (.int (1 : Int32)), .val (.int z2), .val (.int z3), .val (.int z4), .val (.ref b105), .val (.int (1 : Int32)), .val (.int (1 : Int32)), .val (.int (1 : Int32)), .val (.int (1 : Int32))] [])) (fun t k => XS.istore X164.here hx rfl (hb hby at_235) rfl (l' := #[.val (.int i0), .val (.int (1 : Int32)), .val (.int z2), .val (.int z3), .val (.int z4), .val (.ref b105), .val (.int (1 : Int32)), .val (.int (1 : Int32)), .val (.int (1 : Int32)), .val (.int (1 : Int32))]) rfl k) ?_
                    refine own_via (g' := T164.setTop (mkF m 239 #[.val (.int i0), .val (.int (1 : Int32)), .val (.int z2), .val (.int z3), .val (.int z4), .val (.ref b105), .val (.int (1 : Int32)), .val (.int (1 : Int32)), .val (.int (1 : Int32)), .val (.int (1 : Int32))] [(.int (1 : Int32))])) (fun t k => XS.iload X164.here hx rfl (hb hby at_237) rfl k) ?_
                    exact own_retB X164 hx hlk (t := .boolean) Bd.returns (by simp) (hb hby at_239) ⟨rfl, N164⟩ (by decide) (by decide)
                  · refine own_via (g' := T159.setTop (mkF m 178 #[.val (.int i0), .val (.int (1 : Int32)), .val (.int z2), .val (.int z3), .val (.int z4), .val (.ref b105), .val (.int (1 : Int32)), .val (.int (1 : Int32)), .val (.int (1 : Int32)), .unset] [])) (fun t k => XS.ifNo X159.here hx rfl (hb hby at_175) rfl (XT.i0_eq_f hc175_160) k) ?_
                    refine own_via (g' := T159.setTop (mkF m 180 #[.val (.int i0), .val (.int (1 : Int32)), .val (.int z2), .val (.int z3), .val (.int z4), .val (.ref b105), .val (.int (1 : Int32)), .val (.int (1 : Int32)), .val (.int (1 : Int32)), .unset] [(.ref b105)])) (fun t k => XS.aload X159.here hx rfl (hb hby at_178) rfl (rfl) k) ?_
                    obtain ⟨cq165, kq165, q165a, q165b, q165c⟩ := isOf hZ e159 A157
                    obtain ⟨v165, _, ⟨T165, L165, k165, n165⟩, -, X165, ⟨Lc165, hQ165, l165, y165, z165⟩, st165⟩ := X159.virtualBack hx (y := (⟨"com/example/rosterwright/rosterwright/Roster", "markKept", "()V"⟩ : MethodName)) (z := (⟨"com/example/rosterwright/rosterwright/Roster", "markKept", "()V"⟩ : MethodName)) hown (mvT hZ (hw _ (List.mem_of_getElem? (i := 117) rfl))) (mvT hZ (hw _ (List.mem_of_getElem? (i := 118) rfl))) (notFace_of_selects (args := #[]) (mvT hZ (hw _ (List.mem_of_getElem? (i := 120) rfl)))) (mvT hZ (hw _ (List.mem_of_getElem? (i := 120) rfl))) (mvT hZ (hw _ (List.mem_of_getElem? (i := 119) rfl))) (by decide) (backOf (W := 0) (own_rm17 l Z a0 hw [] b105 (1 : Int32) (1 : Int32) (1 : Int32) T157.heap n0 (Nat.le_trans Z0 Kc157.1) A157 Fa157_0 Fa157_1 Fa157_2 Fa157_3 g_b105) hZ (hw _ (List.mem_of_getElem? (i := 121) rfl)) (hw _ (List.mem_of_getElem? (i := 2) rfl)) (by decide) (by decide)) q165a q165c (g := (mkF m 180 #[.val (.int i0), .val (.int (1 : Int32)), .val (.int z2), .val (.int z3), .val (.int z4), .val (.ref b105), .val (.int (1 : Int32)), .val (.int (1 : Int32)), .val (.int (1 : Int32)), .unset] [(.ref b105)])) rfl (by rw [hml]; rfl) (Steps.refl _) (argsL := []) (rest := []) (lenOf own_pd0 rfl) rfl (by show 2 * 0 + _ ≤ _; exact Nat.le_of_eq rfl) (hb hby at_180) (fun _ _ => ⟨rfl, e159, (by decide : 6 + 0 ≤ _), (by decide : 46 + 0 ≤ _)⟩)
                    dsimp only [Pt.U, Pt.locs, Pt.cells, Pt.slots] at X165 l165 y165 z165 st165 hQ165
                    subst l165 y165 z165
                    obtain ⟨rfl, N165q, K165, A165, Fa165_0, Fa165_1, Fa165_2, Fa165_3⟩ := hQ165
                    have Kc165 : Keep h0 T165.heap [] := Kc157.trans K165 (allS (Or.inr sz_b105) all0)
                    have N165 := Fr.app N159 N165q
                    refine own_via (g' := T165.setTop (mkF m 183 #[.val (.int i0), .val (.int (1 : Int32)), .val (.int z2), .val (.int z3), .val (.int z4), .val (.ref b105), .val (.int (1 : Int32)), .val (.int (1 : Int32)), .val (.int (1 : Int32)), .unset] [])) (fun t k => st165.trans k) ?_
                    refine own_via (g' := T165.setTop (mkF m 185 #[.val (.int i0), .val (.int (1 : Int32)), .val (.int z2), .val (.int z3), .val (.int z4), .val (.ref b105), .val (.int (1 : Int32)), .val (.int (1 : Int32)), .val (.int (1 : Int32)), .unset] [(.ref b105)])) (fun t k => XS.aload X165.here hx rfl (hb hby at_183) rfl (rfl) k) ?_
                    obtain ⟨cq166, kq166, q166a, q166b, q166c⟩ := isOf hZ rfl A165
                    obtain ⟨v166, _, ⟨T166, L166, k166, n166⟩, -, X166, ⟨Lc166, hQ166, l166, y166, z166⟩, st166⟩ := X165.virtualBack hx (y := (⟨"com/example/rosterwright/rosterwright/Roster", "isChanged", "()Z"⟩ : MethodName)) (z := (⟨"com/example/rosterwright/rosterwright/Roster", "isChanged", "()Z"⟩ : MethodName)) hown (mvT hZ (hw _ (List.mem_of_getElem? (i := 101) rfl))) (mvT hZ (hw _ (List.mem_of_getElem? (i := 102) rfl))) (notFace_of_selects (args := #[]) (mvT hZ (hw _ (List.mem_of_getElem? (i := 104) rfl)))) (mvT hZ (hw _ (List.mem_of_getElem? (i := 104) rfl))) (mvT hZ (hw _ (List.mem_of_getElem? (i := 103) rfl))) (by decide) (backOf (W := 0) (own_rm15 l Z a0 hw [] b105 (0 : Int32) T165.heap n0 (Nat.le_trans Z0 Kc165.1) Fa165_1 (by decide)) hZ (hw _ (List.mem_of_getElem? (i := 105) rfl)) (hw _ (List.mem_of_getElem? (i := 2) rfl)) (by decide) (by decide)) q166a q166c (g := (mkF m 185 #[.val (.int i0), .val (.int (1 : Int32)), .val (.int z2), .val (.int z3), .val (.int z4), .val (.ref b105), .val (.int (1 : Int32)), .val (.int (1 : Int32)), .val (.int (1 : Int32)), .unset] [(.ref b105)])) rfl (by rw [hml]; rfl) (Steps.refl _) (argsL := []) (rest := []) (lenOf own_pd5 rfl) rfl (by show 2 * 0 + _ ≤ _; exact Nat.le_of_eq rfl) (hb hby at_185) (fun _ _ => ⟨rfl, rfl, (by decide : 6 + 0 ≤ _), (by decide : 46 + 0 ≤ _)⟩)
                    dsimp only [Pt.U, Pt.locs, Pt.cells, Pt.slots] at X166 l166 y166 z166 st166 hQ166
                    subst l166 y166 z166
                    obtain ⟨rfl, N166q, e166⟩ := hQ166
                    have N166 := Fr.app N165 N166q
                    refine own_via (g' := T166.setTop (mkF m 188 #[.val (.int i0), .val (.int (1 : Int32)), .val (.int z2), .val (.int z3), .val (.int z4), .val (.ref b105), .val (.int (1 : Int32)), .val (.int (1 : Int32)), .val (.int (1 : Int32)), .unset] [(.int (0 : Int32))])) (fun t k => st166.trans k) ?_
                    refine own_via (g' := T166.setTop (mkF m 190 #[.val (.int i0), .val (.int (1 : Int32)), .val (.int z2), .val (.int z3), .val (.int z4), .val (.ref b105), .val (.int (1 : Int32)), .val (.int (1 : Int32)), .val (.int (1 : Int32)), .val (.int (0 : Int32))] [])) (fun t k => XS.istore X166.here hx rfl (hb hby at_188) rfl (l' := #[.val (.int i0), .val (.int (1 : Int32)), .val (.int z2), .val (.int z3), .val (.int z4), .val (.ref b105), .val (.int (1 : Int32)), .val (.int (1 : Int32)), .val (.int (1 : Int32)), .val (.int (0 : Int32))]) rfl k) ?_
                    refine own_via (g' := T166.setTop (mkF m 192 #[.val (.int i0), .val (.int (1 : Int32)), .val (.int z2), .val (.int z3), .val (.int z4), .val (.ref b105), .val (.int (1 : Int32)), .val (.int (1 : Int32)), .val (.int (1 : Int32)), .val (.int (0 : Int32))] [(.ref b105)])) (fun t k => XS.aload X166.here hx rfl (hb hby at_190) rfl (rfl) k) ?_
                    obtain ⟨cq167, kq167, q167a, q167b, q167c⟩ := isOf hZ e166 A165
                    obtain ⟨v167, _, ⟨T167, L167, k167, n167⟩, -, X167, ⟨Lc167, hQ167, l167, y167, z167⟩, st167⟩ := X166.virtualBack hx (y := (⟨"com/example/rosterwright/rosterwright/Roster", "keepChanges", "()V"⟩ : MethodName)) (z := (⟨"com/example/rosterwright/rosterwright/Roster", "keepChanges", "()V"⟩ : MethodName)) hown (mvT hZ (hw _ (List.mem_of_getElem? (i := 108) rfl))) (mvT hZ (hw _ (List.mem_of_getElem? (i := 109) rfl))) (notFace_of_selects (args := #[]) (mvT hZ (hw _ (List.mem_of_getElem? (i := 111) rfl)))) (mvT hZ (hw _ (List.mem_of_getElem? (i := 111) rfl))) (mvT hZ (hw _ (List.mem_of_getElem? (i := 110) rfl))) (by decide) (backOf (W := 0) (own_rm16 l Z a0 hw [] b105 (1 : Int32) (0 : Int32) (1 : Int32) T165.heap n0 (Nat.le_trans Z0 Kc165.1) A165 Fa165_0 Fa165_1 Fa165_2 Fa165_3 g_b105) hZ (hw _ (List.mem_of_getElem? (i := 112) rfl)) (hw _ (List.mem_of_getElem? (i := 2) rfl)) (by decide) (by decide)) q167a q167c (g := (mkF m 192 #[.val (.int i0), .val (.int (1 : Int32)), .val (.int z2), .val (.int z3), .val (.int z4), .val (.ref b105), .val (.int (1 : Int32)), .val (.int (1 : Int32)), .val (.int (1 : Int32)), .val (.int (0 : Int32))] [(.ref b105)])) rfl (by rw [hml]; rfl) (Steps.refl _) (argsL := []) (rest := []) (lenOf own_pd0 rfl) rfl (by show 2 * 0 + _ ≤ _; exact Nat.le_of_eq rfl) (hb hby at_192) (fun _ _ => ⟨rfl, e166, (by decide : 6 + 0 ≤ _), (by decide : 46 + 0 ≤ _)⟩)
                    dsimp only [Pt.U, Pt.locs, Pt.cells, Pt.slots] at X167 l167 y167 z167 st167 hQ167
                    subst l167 y167 z167
                    obtain ⟨rfl, N167q, K167, A167, Fa167_0, Fa167_1, Fa167_2, Fa167_3⟩ := hQ167
                    have Kc167 : Keep h0 T167.heap [] := Kc165.trans K167 (allS (Or.inr sz_b105) all0)
                    rw [show (own_kc (1 : Int32)) = (1 : Int32) from by decide] at Fa167_0
                    rw [show (own_ch (1 : Int32) (0 : Int32)) = (0 : Int32) from by decide] at Fa167_1
                    have N167 := Fr.app N166 N167q
                    refine own_via (g' := T167.setTop (mkF m 195 #[.val (.int i0), .val (.int (1 : Int32)), .val (.int z2), .val (.int z3), .val (.int z4), .val (.ref b105), .val (.int (1 : Int32)), .val (.int (1 : Int32)), .val (.int (1 : Int32)), .val (.int (0 : Int32))] [])) (fun t k => st167.trans k) ?_
                    refine own_via (g' := T167.setTop (mkF m 197 #[.val (.int i0), .val (.int (1 : Int32)), .val (.int z2), .val (.int z3), .val (.int z4), .val (.ref b105), .val (.int (1 : Int32)), .val (.int (1 : Int32)), .val (.int (1 : Int32)), .val (.int (0 : Int32))] [(.int (1 : Int32))])) (fun t k => XS.iload X167.here hx rfl (hb hby at_195) rfl k) ?_
                    refine own_via (g' := T167.setTop (mkF m 200 #[.val (.int i0), .val (.int (1 : Int32)), .val (.int z2), .val (.int z3), .val (.int z4), .val (.ref b105), .val (.int (1 : Int32)), .val (.int (1 : Int32)), .val (.int (1 : Int32)), .val (.int (0 : Int32))] [])) (fun t k => XS.ifNo X167.here hx rfl (hb hby at_197) rfl (XT.i0_eq_f (by decide)) k) ?_
                    refine own_via (g' := T167.setTop (mkF m 202 #[.val (.int i0), .val (.int (1 : Int32)), .val (.int z2), .val (.int z3), .val (.int z4), .val (.ref b105), .val (.int (1 : Int32)), .val (.int (1 : Int32)), .val (.int (1 : Int32)), .val (.int (0 : Int32))] [(.ref b105)])) (fun t k => XS.aload X167.here hx rfl (hb hby at_200) rfl (rfl) k) ?_
                    obtain ⟨cq168, kq168, q168a, q168b, q168c⟩ := isOf hZ rfl A167
                    obtain ⟨v168, _, ⟨T168, L168, k168, n168⟩, -, X168, ⟨Lc168, hQ168, l168, y168, z168⟩, st168⟩ := X167.virtualBack hx (y := (⟨"com/example/rosterwright/rosterwright/Roster", "keepsChanges", "()Z"⟩ : MethodName)) (z := (⟨"com/example/rosterwright/rosterwright/Roster", "keepsChanges", "()Z"⟩ : MethodName)) hown (mvT hZ (hw _ (List.mem_of_getElem? (i := 94) rfl))) (mvT hZ (hw _ (List.mem_of_getElem? (i := 95) rfl))) (notFace_of_selects (args := #[]) (mvT hZ (hw _ (List.mem_of_getElem? (i := 97) rfl)))) (mvT hZ (hw _ (List.mem_of_getElem? (i := 97) rfl))) (mvT hZ (hw _ (List.mem_of_getElem? (i := 96) rfl))) (by decide) (backOf (W := 0) (own_rm14 l Z a0 hw [] b105 (1 : Int32) T167.heap n0 (Nat.le_trans Z0 Kc167.1) Fa167_0 (by decide)) hZ (hw _ (List.mem_of_getElem? (i := 98) rfl)) (hw _ (List.mem_of_getElem? (i := 2) rfl)) (by decide) (by decide)) q168a q168c (g := (mkF m 202 #[.val (.int i0), .val (.int (1 : Int32)), .val (.int z2), .val (.int z3), .val (.int z4), .val (.ref b105), .val (.int (1 : Int32)), .val (.int (1 : Int32)), .val (.int (1 : Int32)), .val (.int (0 : Int32))] [(.ref b105)])) rfl (by rw [hml]; rfl) (Steps.refl _) (argsL := []) (rest := []) (lenOf own_pd5 rfl) rfl (by show 2 * 0 + _ ≤ _; exact Nat.le_of_eq rfl) (hb hby at_202) (fun _ _ => ⟨rfl, rfl, (by decide : 6 + 0 ≤ _), (by decide : 46 + 0 ≤ _)⟩)
                    dsimp only [Pt.U, Pt.locs, Pt.cells, Pt.slots] at X168 l168 y168 z168 st168 hQ168
                    subst l168 y168 z168
                    obtain ⟨rfl, N168q, e168⟩ := hQ168
                    have N168 := Fr.app N167 N168q
                    refine own_via (g' := T168.setTop (mkF m 205 #[.val (.int i0), .val (.int (1 : Int32)), .val (.int z2), .val (.int z3), .val (.int z4), .val (.ref b105), .val (.int (1 : Int32)), .val (.int (1 : Int32)), .val (.int (1 : Int32)), .val (.int (0 : Int32))] [(.int (1 : Int32))])) (fun t k => st168.trans k) ?_
                    refine own_via (g' := T168.setTop (mkF m 208 #[.val (.int i0), .val (.int (1 : Int32)), .val (.int z2), .val (.int z3), .val (.int z4), .val (.ref b105), .val (.int (1 : Int32)), .val (.int (1 : Int32)), .val (.int (1 : Int32)), .val (.int (0 : Int32))] [])) (fun t k => XS.ifNo X168.here hx rfl (hb hby at_205) rfl (XT.i0_eq_f (by decide)) k) ?_
                    refine own_via (g' := T168.setTop (mkF m 209 #[.val (.int i0), .val (.int (1 : Int32)), .val (.int z2), .val (.int z3), .val (.int z4), .val (.ref b105), .val (.int (1 : Int32)), .val (.int (1 : Int32)), .val (.int (1 : Int32)), .val (.int (0 : Int32))] [(.int (1 : Int32))])) (fun t k => XS.iconst X168.here hx rfl (hb hby at_208) k) ?_
                    refine own_via (g' := T168.setTop (mkF m 213 #[.val (.int i0), .val (.int (1 : Int32)), .val (.int z2), .val (.int z3), .val (.int z4), .val (.ref b105), .val (.int (1 : Int32)), .val (.int (1 : Int32)), .val (.int (1 : Int32)), .val (.int (0 : Int32))] [(.int (1 : Int32))])) (fun t k => XS.goto X168.here hx rfl (pc0 := 209) (pc' := 213) rfl (hb hby at_209) (by decide) (by decide) k) ?_
                    refine own_via (g' := T168.setTop (mkF m 215 #[.val (.int i0), .val (.int (1 : Int32)), .val (.int z2), .val (.int z3), .val (.int z4), .val (.ref b105), .val (.int (1 : Int32)), .val (.int (1 : Int32)), .val (.int (1 : Int32)), .val (.int (0 : Int32))] [])) (fun t k => XS.istore X168.here hx rfl (hb hby at_213) rfl (l' := #[.val (.int i0), .val (.int (1 : Int32)), .val (.int z2), .val (.int z3), .val (.int z4), .val (.ref b105), .val (.int (1 : Int32)), .val (.int (1 : Int32)), .val (.int (1 : Int32)), .val (.int (0 : Int32))]) rfl k) ?_
                    refine own_via (g' := T168.setTop (mkF m 217 #[.val (.int i0), .val (.int (1 : Int32)), .val (.int z2), .val (.int z3), .val (.int z4), .val (.ref b105), .val (.int (1 : Int32)), .val (.int (1 : Int32)), .val (.int (1 : Int32)), .val (.int (0 : Int32))] [(.int (1 : Int32))])) (fun t k => XS.iload X168.here hx rfl (hb hby at_215) rfl k) ?_
                    refine own_via (g' := T168.setTop (mkF m 220 #[.val (.int i0), .val (.int (1 : Int32)), .val (.int z2), .val (.int z3), .val (.int z4), .val (.ref b105), .val (.int (1 : Int32)), .val (.int (1 : Int32)), .val (.int (1 : Int32)), .val (.int (0 : Int32))] [])) (fun t k => XS.ifNo X168.here hx rfl (hb hby at_217) rfl (XT.i0_eq_f (by decide)) k) ?_
                    refine own_via (g' := T168.setTop (mkF m 222 #[.val (.int i0), .val (.int (1 : Int32)), .val (.int z2), .val (.int z3), .val (.int z4), .val (.ref b105), .val (.int (1 : Int32)), .val (.int (1 : Int32)), .val (.int (1 : Int32)), .val (.int (0 : Int32))] [(.ref b105)])) (fun t k => XS.aload X168.here hx rfl (hb hby at_220) rfl (rfl) k) ?_
                    obtain ⟨cq169, kq169, q169a, q169b, q169c⟩ := isOf hZ e168 A167
                    obtain ⟨v169, _, ⟨T169, L169, k169, n169⟩, -, X169, ⟨Lc169, hQ169, l169, y169, z169⟩, st169⟩ := X168.virtualBack hx (y := (⟨"com/example/rosterwright/rosterwright/Roster", "isChanged", "()Z"⟩ : MethodName)) (z := (⟨"com/example/rosterwright/rosterwright/Roster", "isChanged", "()Z"⟩ : MethodName)) hown (mvT hZ (hw _ (List.mem_of_getElem? (i := 101) rfl))) (mvT hZ (hw _ (List.mem_of_getElem? (i := 102) rfl))) (notFace_of_selects (args := #[]) (mvT hZ (hw _ (List.mem_of_getElem? (i := 104) rfl)))) (mvT hZ (hw _ (List.mem_of_getElem? (i := 104) rfl))) (mvT hZ (hw _ (List.mem_of_getElem? (i := 103) rfl))) (by decide) (backOf (W := 0) (own_rm15 l Z a0 hw [] b105 (0 : Int32) T167.heap n0 (Nat.le_trans Z0 Kc167.1) Fa167_1 (by decide)) hZ (hw _ (List.mem_of_getElem? (i := 105) rfl)) (hw _ (List.mem_of_getElem? (i := 2) rfl)) (by decide) (by decide)) q169a q169c (g := (mkF m 222 #[.val (.int i0), .val (.int (1 : Int32)), .val (.int z2), .val (.int z3), .val (.int z4), .val (.ref b105), .val (.int (1 : Int32)), .val (.int (1 : Int32)), .val (.int (1 : Int32)), .val (.int (0 : Int32))] [(.ref b105)])) rfl (by rw [hml]; rfl) (Steps.refl _) (argsL := []) (rest := []) (lenOf own_pd5 rfl) rfl (by show 2 * 0 + _ ≤ _; exact Nat.le_of_eq rfl) (hb hby at_222) (fun _ _ => ⟨rfl, e168, (by decide : 6 + 0 ≤ _), (by decide : 46 + 0 ≤ _)⟩)
                    dsimp only [Pt.U, Pt.locs, Pt.cells, Pt.slots] at X169 l169 y169 z169 st169 hQ169
                    subst l169 y169 z169
                    obtain ⟨rfl, N169q, e169⟩ := hQ169
                    have N169 := Fr.app N168 N169q
                    refine own_via (g' := T169.setTop (mkF m 225 #[.val (.int i0), .val (.int (1 : Int32)), .val (.int z2), .val (.int z3), .val (.int z4), .val (.ref b105), .val (.int (1 : Int32)), .val (.int (1 : Int32)), .val (.int (1 : Int32)), .val (.int (0 : Int32))] [(.int (0 : Int32))])) (fun t k => st169.trans k) ?_
                    refine own_via (g' := T169.setTop (mkF m 227 #[.val (.int i0), .val (.int (1 : Int32)), .val (.int z2), .val (.int z3), .val (.int z4), .val (.ref b105), .val (.int (1 : Int32)), .val (.int (1 : Int32)), .val (.int (1 : Int32)), .val (.int (0 : Int32))] [(.int (0 : Int32)), (.int (0 : Int32))])) (fun t k => XS.iload X169.here hx rfl (hb hby at_225) rfl k) ?_
                    refine own_via (g' := T169.setTop (mkF m 230 #[.val (.int i0), .val (.int (1 : Int32)), .val (.int z2), .val (.int z3), .val (.int z4), .val (.ref b105), .val (.int (1 : Int32)), .val (.int (1 : Int32)), .val (.int (1 : Int32)), .val (.int (0 : Int32))] [])) (fun t k => XS.icmpNo X169.here hx rfl (hb hby at_227) rfl (XT.ii_ne_f (by decide)) k) ?_
                    refine own_via (g' := T169.setTop (mkF m 231 #[.val (.int i0), .val (.int (1 : Int32)), .val (.int z2), .val (.int z3), .val (.int z4), .val (.ref b105), .val (.int (1 : Int32)), .val (.int (1 : Int32)), .val (.int (1 : Int32)), .val (.int (0 : Int32))] [(.int (1 : Int32))])) (fun t k => XS.iconst X169.here hx rfl (hb hby at_230) k) ?_
                    refine own_via (g' := T169.setTop (mkF m 235 #[.val (.int i0), .val (.int (1 : Int32)), .val (.int z2), .val (.int z3), .val (.int z4), .val (.ref b105), .val (.int (1 : Int32)), .val (.int (1 : Int32)), .val (.int (1 : Int32)), .val (.int (0 : Int32))] [(.int (1 : Int32))])) (fun t k => XS.goto X169.here hx rfl (pc0 := 231) (pc' := 235) rfl (hb hby at_231) (by decide) (by decide) k) ?_
                    refine own_via (g' := T169.setTop (mkF m 237 #[.val (.int i0), .val (.int (1 : Int32)), .val (.int z2), .val (.int z3), .val (.int z4), .val (.ref b105), .val (.int (1 : Int32)), .val (.int (1 : Int32)), .val (.int (1 : Int32)), .val (.int (0 : Int32))] [])) (fun t k => XS.istore X169.here hx rfl (hb hby at_235) rfl (l' := #[.val (.int i0), .val (.int (1 : Int32)), .val (.int z2), .val (.int z3), .val (.int z4), .val (.ref b105), .val (.int (1 : Int32)), .val (.int (1 : Int32)), .val (.int (1 : Int32)), .val (.int (0 : Int32))]) rfl k) ?_
                    refine own_via (g' := T169.setTop (mkF m 239 #[.val (.int i0), .val (.int (1 : Int32)), .val (.int z2), .val (.int z3), .val (.int z4), .val (.ref b105), .val (.int (1 : Int32)), .val (.int (1 : Int32)), .val (.int (1 : Int32)), .val (.int (0 : Int32))] [(.int (1 : Int32))])) (fun t k => XS.iload X169.here hx rfl (hb hby at_237) rfl k) ?_
                    exact own_retB X169 hx hlk (t := .boolean) Bd.returns (by simp) (hb hby at_239) ⟨rfl, N169⟩ (by decide) (by decide)
              by_cases hc78_170 : z3 = 0
              · refine own_via (g' := T108.setTop (mkF m 86 #[.val (.int i0), .val (.int z1), .val (.int z2), .val (.int z3), .val (.int z4), .val (.ref b105), .unset, .unset, .unset, .unset] [])) (fun t k => XS.ifYes X108.here hx rfl (pc0 := 78) (pc' := 86) rfl (hb hby at_78) rfl (XT.i0_eq_t hc78_170) (by decide) (by decide) k) ?_
                exact J109 _ _ _ (X108.more (by decide) (by decide)) e108 N108 Kj108 kg1 Ek Fk_keepsChanges Fk_changed Fk_keepingChanges Fk_open
              · refine own_via (g' := T108.setTop (mkF m 81 #[.val (.int i0), .val (.int z1), .val (.int z2), .val (.int z3), .val (.int z4), .val (.ref b105), .unset, .unset, .unset, .unset] [])) (fun t k => XS.ifNo X108.here hx rfl (hb hby at_78) rfl (XT.i0_eq_f hc78_170) k) ?_
                refine own_via (g' := T108.setTop (mkF m 83 #[.val (.int i0), .val (.int z1), .val (.int z2), .val (.int z3), .val (.int z4), .val (.ref b105), .unset, .unset, .unset, .unset] [(.ref b105)])) (fun t k => XS.aload X108.here hx rfl (hb hby at_81) rfl (rfl) k) ?_
                obtain ⟨cq171, kq171, q171a, q171b, q171c⟩ := isOf hZ e108 Ek
                obtain ⟨v171, _, ⟨T171, L171, k171, n171⟩, -, X171, ⟨Lc171, hQ171, l171, y171, z171⟩, st171⟩ := X108.virtualBack hx (y := (⟨"com/example/rosterwright/rosterwright/Roster", "keepNoChangesNow", "()V"⟩ : MethodName)) (z := (⟨"com/example/rosterwright/rosterwright/Roster", "keepNoChangesNow", "()V"⟩ : MethodName)) hown (mvT hZ (hw _ (List.mem_of_getElem? (i := 122) rfl))) (mvT hZ (hw _ (List.mem_of_getElem? (i := 123) rfl))) (notFace_of_selects (args := #[]) (mvT hZ (hw _ (List.mem_of_getElem? (i := 125) rfl)))) (mvT hZ (hw _ (List.mem_of_getElem? (i := 125) rfl))) (mvT hZ (hw _ (List.mem_of_getElem? (i := 124) rfl))) (by decide) (backOf (W := 0) (own_rm18 l Z a0 hw [] b105 z1 c1 kg1 h108 n0 (Nat.le_trans Z0 Kj108.1) Ek Fk_keepsChanges Fk_changed Fk_keepingChanges Fk_open g_b105) hZ (hw _ (List.mem_of_getElem? (i := 126) rfl)) (hw _ (List.mem_of_getElem? (i := 2) rfl)) (by decide) (by decide)) q171a q171c (g := (mkF m 83 #[.val (.int i0), .val (.int z1), .val (.int z2), .val (.int z3), .val (.int z4), .val (.ref b105), .unset, .unset, .unset, .unset] [(.ref b105)])) rfl (by rw [hml]; rfl) (Steps.refl _) (argsL := []) (rest := []) (lenOf own_pd0 rfl) rfl (by show 2 * 0 + _ ≤ _; exact Nat.le_of_eq rfl) (hb hby at_83) (fun _ _ => ⟨rfl, e108, (by decide : 6 + 0 ≤ _), (by decide : 46 + 0 ≤ _)⟩)
                dsimp only [Pt.U, Pt.locs, Pt.cells, Pt.slots] at X171 l171 y171 z171 st171 hQ171
                subst l171 y171 z171
                obtain ⟨rfl, N171q, K171, A171, Fa171_0, Fa171_1, Fa171_2, Fa171_3⟩ := hQ171
                have Kc171 : Keep h0 T171.heap [] := Kj108.trans K171 (allS (Or.inr sz_b105) all0)
                have N171 := Fr.app N108 N171q
                refine own_via (g' := T171.setTop (mkF m 86 #[.val (.int i0), .val (.int z1), .val (.int z2), .val (.int z3), .val (.int z4), .val (.ref b105), .unset, .unset, .unset, .unset] [])) (fun t k => st171.trans k) ?_
                exact J109 _ _ _ (X171.more (by decide) (by decide)) rfl N171 Kc171 (0 : Int32) A171 Fa171_0 Fa171_1 Fa171_2 Fa171_3
            by_cases hc69_172 : z2 = 0
            · refine own_via (g' := T107.setTop (mkF m 77 #[.val (.int i0), .val (.int z1), .val (.int z2), .val (.int z3), .val (.int z4), .val (.ref b105), .unset, .unset, .unset, .unset] [])) (fun t k => XS.ifYes X107.here hx rfl (pc0 := 69) (pc' := 77) rfl (hb hby at_69) rfl (XT.i0_eq_t hc69_172) (by decide) (by decide) k) ?_
              exact J108 _ _ _ (X107.more (by decide) (by decide)) e107 N107 Kj107 kg z1 hz1 Ej Fj_keepsChanges Fj_changed Fj_keepingChanges Fj_open
            · refine own_via (g' := T107.setTop (mkF m 72 #[.val (.int i0), .val (.int z1), .val (.int z2), .val (.int z3), .val (.int z4), .val (.ref b105), .unset, .unset, .unset, .unset] [])) (fun t k => XS.ifNo X107.here hx rfl (hb hby at_69) rfl (XT.i0_eq_f hc69_172) k) ?_
              refine own_via (g' := T107.setTop (mkF m 74 #[.val (.int i0), .val (.int z1), .val (.int z2), .val (.int z3), .val (.int z4), .val (.ref b105), .unset, .unset, .unset, .unset] [(.ref b105)])) (fun t k => XS.aload X107.here hx rfl (hb hby at_72) rfl (rfl) k) ?_
              obtain ⟨cq173, kq173, q173a, q173b, q173c⟩ := isOf hZ e107 Ej
              obtain ⟨v173, _, ⟨T173, L173, k173, n173⟩, -, X173, ⟨Lc173, hQ173, l173, y173, z173⟩, st173⟩ := X107.virtualBack hx (y := (⟨"com/example/rosterwright/rosterwright/Roster", "markKept", "()V"⟩ : MethodName)) (z := (⟨"com/example/rosterwright/rosterwright/Roster", "markKept", "()V"⟩ : MethodName)) hown (mvT hZ (hw _ (List.mem_of_getElem? (i := 117) rfl))) (mvT hZ (hw _ (List.mem_of_getElem? (i := 118) rfl))) (notFace_of_selects (args := #[]) (mvT hZ (hw _ (List.mem_of_getElem? (i := 120) rfl)))) (mvT hZ (hw _ (List.mem_of_getElem? (i := 120) rfl))) (mvT hZ (hw _ (List.mem_of_getElem? (i := 119) rfl))) (by decide) (backOf (W := 0) (own_rm17 l Z a0 hw [] b105 z1 z1 kg h107 n0 (Nat.le_trans Z0 Kj107.1) Ej Fj_keepsChanges Fj_changed Fj_keepingChanges Fj_open g_b105) hZ (hw _ (List.mem_of_getElem? (i := 121) rfl)) (hw _ (List.mem_of_getElem? (i := 2) rfl)) (by decide) (by decide)) q173a q173c (g := (mkF m 74 #[.val (.int i0), .val (.int z1), .val (.int z2), .val (.int z3), .val (.int z4), .val (.ref b105), .unset, .unset, .unset, .unset] [(.ref b105)])) rfl (by rw [hml]; rfl) (Steps.refl _) (argsL := []) (rest := []) (lenOf own_pd0 rfl) rfl (by show 2 * 0 + _ ≤ _; exact Nat.le_of_eq rfl) (hb hby at_74) (fun _ _ => ⟨rfl, e107, (by decide : 6 + 0 ≤ _), (by decide : 46 + 0 ≤ _)⟩)
              dsimp only [Pt.U, Pt.locs, Pt.cells, Pt.slots] at X173 l173 y173 z173 st173 hQ173
              subst l173 y173 z173
              obtain ⟨rfl, N173q, K173, A173, Fa173_0, Fa173_1, Fa173_2, Fa173_3⟩ := hQ173
              have Kc173 : Keep h0 T173.heap [] := Kj107.trans K173 (allS (Or.inr sz_b105) all0)
              have N173 := Fr.app N107 N173q
              refine own_via (g' := T173.setTop (mkF m 77 #[.val (.int i0), .val (.int z1), .val (.int z2), .val (.int z3), .val (.int z4), .val (.ref b105), .unset, .unset, .unset, .unset] [])) (fun t k => st173.trans k) ?_
              exact J108 _ _ _ (X173.more (by decide) (by decide)) rfl N173 Kc173 kg (0 : Int32) (Or.inl rfl) A173 Fa173_0 Fa173_1 Fa173_2 Fa173_3
          by_cases hc60_174 : z1 = 0
          · refine own_via (g' := T106.setTop (mkF m 68 #[.val (.int i0), .val (.int z1), .val (.int z2), .val (.int z3), .val (.int z4), .val (.ref b105), .unset, .unset, .unset, .unset] [])) (fun t k => XS.ifYes X106.here hx rfl (pc0 := 60) (pc' := 68) rfl (hb hby at_60) rfl (XT.i0_eq_t hc60_174) (by decide) (by decide) k) ?_
            exact J107 _ _ _ (X106.more (by decide) (by decide)) rfl N106 Kc106 (0 : Int32) A106 (by rw [hc60_174]; exact Fa106_0) (by rw [hc60_174]; exact Fa106_1) Fa106_2 Fa106_3
          · refine own_via (g' := T106.setTop (mkF m 63 #[.val (.int i0), .val (.int z1), .val (.int z2), .val (.int z3), .val (.int z4), .val (.ref b105), .unset, .unset, .unset, .unset] [])) (fun t k => XS.ifNo X106.here hx rfl (hb hby at_60) rfl (XT.i0_eq_f hc60_174) k) ?_
            refine own_via (g' := T106.setTop (mkF m 65 #[.val (.int i0), .val (.int z1), .val (.int z2), .val (.int z3), .val (.int z4), .val (.ref b105), .unset, .unset, .unset, .unset] [(.ref b105)])) (fun t k => XS.aload X106.here hx rfl (hb hby at_63) rfl (rfl) k) ?_
            obtain ⟨cq175, kq175, q175a, q175b, q175c⟩ := isOf hZ rfl A106
            obtain ⟨v175, _, ⟨T175, L175, k175, n175⟩, -, X175, ⟨Lc175, hQ175, l175, y175, z175⟩, st175⟩ := X106.virtualBack hx (y := (⟨"com/example/rosterwright/rosterwright/Roster", "keepChanges", "()V"⟩ : MethodName)) (z := (⟨"com/example/rosterwright/rosterwright/Roster", "keepChanges", "()V"⟩ : MethodName)) hown (mvT hZ (hw _ (List.mem_of_getElem? (i := 108) rfl))) (mvT hZ (hw _ (List.mem_of_getElem? (i := 109) rfl))) (notFace_of_selects (args := #[]) (mvT hZ (hw _ (List.mem_of_getElem? (i := 111) rfl)))) (mvT hZ (hw _ (List.mem_of_getElem? (i := 111) rfl))) (mvT hZ (hw _ (List.mem_of_getElem? (i := 110) rfl))) (by decide) (backOf (W := 0) (own_rm16 l Z a0 hw [] b105 (0 : Int32) (0 : Int32) (0 : Int32) T106.heap n0 (Nat.le_trans Z0 Kc106.1) A106 Fa106_0 Fa106_1 Fa106_2 Fa106_3 g_b105) hZ (hw _ (List.mem_of_getElem? (i := 112) rfl)) (hw _ (List.mem_of_getElem? (i := 2) rfl)) (by decide) (by decide)) q175a q175c (g := (mkF m 65 #[.val (.int i0), .val (.int z1), .val (.int z2), .val (.int z3), .val (.int z4), .val (.ref b105), .unset, .unset, .unset, .unset] [(.ref b105)])) rfl (by rw [hml]; rfl) (Steps.refl _) (argsL := []) (rest := []) (lenOf own_pd0 rfl) rfl (by show 2 * 0 + _ ≤ _; exact Nat.le_of_eq rfl) (hb hby at_65) (fun _ _ => ⟨rfl, rfl, (by decide : 6 + 0 ≤ _), (by decide : 46 + 0 ≤ _)⟩)
            dsimp only [Pt.U, Pt.locs, Pt.cells, Pt.slots] at X175 l175 y175 z175 st175 hQ175
            subst l175 y175 z175
            obtain ⟨rfl, N175q, K175, A175, Fa175_0, Fa175_1, Fa175_2, Fa175_3⟩ := hQ175
            have Kc175 : Keep h0 T175.heap [] := Kc106.trans K175 (allS (Or.inr sz_b105) all0)
            rw [show (own_kc (0 : Int32)) = (1 : Int32) from by decide] at Fa175_0
            rw [show (own_ch (0 : Int32) (0 : Int32)) = (1 : Int32) from by decide] at Fa175_1
            have N175 := Fr.app N106 N175q
            refine own_via (g' := T175.setTop (mkF m 68 #[.val (.int i0), .val (.int z1), .val (.int z2), .val (.int z3), .val (.int z4), .val (.ref b105), .unset, .unset, .unset, .unset] [])) (fun t k => st175.trans k) ?_
            exact J107 _ _ _ (X175.more (by decide) (by decide)) rfl N175 Kc175 (1 : Int32) A175 (by rw [(hz1.resolve_left hc60_174)]; exact Fa175_0) (by rw [(hz1.resolve_left hc60_174)]; exact Fa175_1) Fa175_2 Fa175_3
        by_cases hc40_176 : (i0 &&& (8 : Int32)) = 0
        · refine own_via (g' := s₁.setTop (mkF m 47 #[.val (.int i0), .val (.int z1), .val (.int z2), .val (.int z3), .unset, .unset, .unset, .unset, .unset, .unset] [])) (fun t k => XS.ifYes X0.here hx rfl (pc0 := 40) (pc' := 47) rfl (hb hby at_40) rfl (XT.i0_eq_t hc40_176) (by decide) (by decide) k) ?_
          refine own_via (g' := s₁.setTop (mkF m 48 #[.val (.int i0), .val (.int z1), .val (.int z2), .val (.int z3), .unset, .unset, .unset, .unset, .unset, .unset] [(.int (0 : Int32))])) (fun t k => XS.iconst X0.here hx rfl (hb hby at_47) k) ?_
          exact J104 (0 : Int32) (Or.inl rfl)
        · refine own_via (g' := s₁.setTop (mkF m 43 #[.val (.int i0), .val (.int z1), .val (.int z2), .val (.int z3), .unset, .unset, .unset, .unset, .unset, .unset] [])) (fun t k => XS.ifNo X0.here hx rfl (hb hby at_40) rfl (XT.i0_eq_f hc40_176) k) ?_
          refine own_via (g' := s₁.setTop (mkF m 44 #[.val (.int i0), .val (.int z1), .val (.int z2), .val (.int z3), .unset, .unset, .unset, .unset, .unset, .unset] [(.int (1 : Int32))])) (fun t k => XS.iconst X0.here hx rfl (hb hby at_43) k) ?_
          refine own_via (g' := s₁.setTop (mkF m 48 #[.val (.int i0), .val (.int z1), .val (.int z2), .val (.int z3), .unset, .unset, .unset, .unset, .unset, .unset] [(.int (1 : Int32))])) (fun t k => XS.goto X0.here hx rfl (pc0 := 44) (pc' := 48) rfl (hb hby at_44) (by decide) (by decide) k) ?_
          exact J104 (1 : Int32) (Or.inr rfl)
      by_cases hc27_177 : (i0 &&& (4 : Int32)) = 0
      · refine own_via (g' := s₁.setTop (mkF m 34 #[.val (.int i0), .val (.int z1), .val (.int z2), .unset, .unset, .unset, .unset, .unset, .unset, .unset] [])) (fun t k => XS.ifYes X0.here hx rfl (pc0 := 27) (pc' := 34) rfl (hb hby at_27) rfl (XT.i0_eq_t hc27_177) (by decide) (by decide) k) ?_
        refine own_via (g' := s₁.setTop (mkF m 35 #[.val (.int i0), .val (.int z1), .val (.int z2), .unset, .unset, .unset, .unset, .unset, .unset, .unset] [(.int (0 : Int32))])) (fun t k => XS.iconst X0.here hx rfl (hb hby at_34) k) ?_
        exact J103 (0 : Int32) (Or.inl rfl)
      · refine own_via (g' := s₁.setTop (mkF m 30 #[.val (.int i0), .val (.int z1), .val (.int z2), .unset, .unset, .unset, .unset, .unset, .unset, .unset] [])) (fun t k => XS.ifNo X0.here hx rfl (hb hby at_27) rfl (XT.i0_eq_f hc27_177) k) ?_
        refine own_via (g' := s₁.setTop (mkF m 31 #[.val (.int i0), .val (.int z1), .val (.int z2), .unset, .unset, .unset, .unset, .unset, .unset, .unset] [(.int (1 : Int32))])) (fun t k => XS.iconst X0.here hx rfl (hb hby at_30) k) ?_
        refine own_via (g' := s₁.setTop (mkF m 35 #[.val (.int i0), .val (.int z1), .val (.int z2), .unset, .unset, .unset, .unset, .unset, .unset, .unset] [(.int (1 : Int32))])) (fun t k => XS.goto X0.here hx rfl (pc0 := 31) (pc' := 35) rfl (hb hby at_31) (by decide) (by decide) k) ?_
        exact J103 (1 : Int32) (Or.inr rfl)
    by_cases hc15_178 : (i0 &&& (2 : Int32)) = 0
    · refine own_via (g' := s₁.setTop (mkF m 22 #[.val (.int i0), .val (.int z1), .unset, .unset, .unset, .unset, .unset, .unset, .unset, .unset] [])) (fun t k => XS.ifYes X0.here hx rfl (pc0 := 15) (pc' := 22) rfl (hb hby at_15) rfl (XT.i0_eq_t hc15_178) (by decide) (by decide) k) ?_
      refine own_via (g' := s₁.setTop (mkF m 23 #[.val (.int i0), .val (.int z1), .unset, .unset, .unset, .unset, .unset, .unset, .unset, .unset] [(.int (0 : Int32))])) (fun t k => XS.iconst X0.here hx rfl (hb hby at_22) k) ?_
      exact J102 (0 : Int32) (Or.inl rfl)
    · refine own_via (g' := s₁.setTop (mkF m 18 #[.val (.int i0), .val (.int z1), .unset, .unset, .unset, .unset, .unset, .unset, .unset, .unset] [])) (fun t k => XS.ifNo X0.here hx rfl (hb hby at_15) rfl (XT.i0_eq_f hc15_178) k) ?_
      refine own_via (g' := s₁.setTop (mkF m 19 #[.val (.int i0), .val (.int z1), .unset, .unset, .unset, .unset, .unset, .unset, .unset, .unset] [(.int (1 : Int32))])) (fun t k => XS.iconst X0.here hx rfl (hb hby at_18) k) ?_
      refine own_via (g' := s₁.setTop (mkF m 23 #[.val (.int i0), .val (.int z1), .unset, .unset, .unset, .unset, .unset, .unset, .unset, .unset] [(.int (1 : Int32))])) (fun t k => XS.goto X0.here hx rfl (pc0 := 19) (pc' := 23) rfl (hb hby at_19) (by decide) (by decide) k) ?_
      exact J102 (1 : Int32) (Or.inr rfl)
  by_cases hc3_179 : (i0 &&& (1 : Int32)) = 0
  · refine own_via (g' := s₁.setTop (mkF m 10 #[.val (.int i0), .unset, .unset, .unset, .unset, .unset, .unset, .unset, .unset, .unset] [])) (fun t k => XS.ifYes X0.here hx rfl (pc0 := 3) (pc' := 10) rfl (hb hby at_3) rfl (XT.i0_eq_t hc3_179) (by decide) (by decide) k) ?_
    refine own_via (g' := s₁.setTop (mkF m 11 #[.val (.int i0), .unset, .unset, .unset, .unset, .unset, .unset, .unset, .unset, .unset] [(.int (0 : Int32))])) (fun t k => XS.iconst X0.here hx rfl (hb hby at_10) k) ?_
    exact J101 (0 : Int32) (Or.inl rfl)
  · refine own_via (g' := s₁.setTop (mkF m 6 #[.val (.int i0), .unset, .unset, .unset, .unset, .unset, .unset, .unset, .unset, .unset] [])) (fun t k => XS.ifNo X0.here hx rfl (hb hby at_3) rfl (XT.i0_eq_f hc3_179) k) ?_
    refine own_via (g' := s₁.setTop (mkF m 7 #[.val (.int i0), .unset, .unset, .unset, .unset, .unset, .unset, .unset, .unset, .unset] [(.int (1 : Int32))])) (fun t k => XS.iconst X0.here hx rfl (hb hby at_6) k) ?_
    refine own_via (g' := s₁.setTop (mkF m 11 #[.val (.int i0), .unset, .unset, .unset, .unset, .unset, .unset, .unset, .unset, .unset] [(.int (1 : Int32))])) (fun t k => XS.goto X0.here hx rfl (pc0 := 7) (pc' := 11) rfl (hb hby at_7) (by decide) (by decide) k) ?_
    exact J101 (1 : Int32) (Or.inr rfl)
set_option maxRecDepth 65536 in
set_option maxHeartbeats 40000000 in
theorem comes_1 {Post : Tables → Env → Array Value → State → Outcome → State → Prop} (hpost : ∀ tb e args s v u, (limb_1_1.after args s (.returned v) u = true ∧ limb_1_2.after args s (.returned v) u = true ∧ True) → FrameEnd s (.returned v) u (Jvm.fieldLocs frame_1_writes args s ++ Jvm.arrayLocs frame_1_arrays args s ++ Jvm.staticLocs frame_1_statics s) 24 192 → Post tb e args s (.returned v) u) :
    ArmFor flags0 classFile x code maxLocals ret World_1 tables_1 room_1 Calls_1 rest_1 Pre_1 Post := by
  intro l hfl _ _ p e ha hc hk s m args below hf hA hF happ hP
  obtain ⟨hcalls, hrest, hpre⟩ := hP
  obtain ⟨-, -, -, hnamed, -, -, -, hat⟩ := (Spec.applies_iff hf).mp happ
  obtain ⟨hg, hn⟩ := and_e (Cond.before_iff.mp (show (Jvm.Cond.and given_1 narrow_1).before args s = true from hpre))
  obtain ⟨g1, g2⟩ := and_e hg
  obtain ⟨w0, rfl⟩ : ∃ w0 : Value, args = #[w0] := by
    have hs : args.size = 1 := by simpa [Cond.value, given_1] using g1
    obtain ⟨L⟩ := args
    match L, hs with
    | [w0], _ => exact ⟨w0, rfl⟩
  have hw := fun d (hd : d ∈ tables_1) => atoms_spec (ws := Jvm.Cond.code x code maxLocals ret :: tables_1) hat d (List.mem_cons_of_mem _ hd)
  have hfit : Fit s := fun {y c} hc i hi => by
    obtain ⟨ha, rfl⟩ := Array.getElem?_eq_some_iff.mp hc
    have q := List.all_eq_true.mp ((Array.all_eq_true_iff_forall_mem.mp hF) _ (Array.getElem_mem ha)) i (List.mem_range.mpr hi)
    simpa [Array.getElem?_eq_getElem hi] using q
  obtain ⟨i0, ei0⟩ := is_v g2
  obtain rfl : w0 = (.int i0) := Option.some.inj ei0
  obtain ⟨n, o, h1, h2, h3, _, L, rfl, ⟨rfl, N⟩, hq⟩ := own_rm0 l s _ hw tables_1 i0 s.heap s.heap.size (Nat.le_refl _)  p e ha hc hk s m _ below hf ((Spec.applies_iff_loose hf).mp happ).1 ⟨rfl, State.Warmed39.refl s, rfl⟩ trivial
  refine ⟨n, _, h1, h2, h3, hpost _ _ _ _ _ _ ⟨Cond.after_iff.mpr rfl, Cond.after_iff.mpr (eq_i res_at (Term.int_eval (1)) rfl), trivial⟩ ⟨hq.1, hq.2.1, (hq.2.2.sift fun y hy => Or.inr (N y hy)).mono (by decide) (by decide)⟩⟩
theorem main_1_1 : Claimed_1_1 := comes_1 fun _ _ _ _ _ _ h hF => ⟨h.1, hF⟩
theorem main_1_2 : Claimed_1_2 := comes_1 fun _ _ _ _ _ _ h hF => ⟨h.2.1, hF⟩
end Jvm.Pilot.@@N@@
namespace Jvm.Pilot.@@N@@
open Jvm Jvm.ClassFile Sem Op Lib Jvm.Free Jvm.Stand Jvm.Pilot.@@N@@.Jvm.D
/-! MADE BY PROGRAM (witnessworld.py) out of the Statement's table words and the real class files: 29 classes; the members and pool entries that the words name. The judged class is class 1, her method 1. -/
namespace start1
open Jvm.ClassFile
def u (s : String) : CpInfo := .utf8 (stringToUtf16 s)
/-- a pool by its gaps: so many unusable entries, then the entry; so many at the end -/
def gap : Nat → List CpInfo → List CpInfo
  | 0, r => r
  | n + 1, r => .unusable :: gap n r
def poolList (es : List (Nat × CpInfo)) (last : Nat) : List CpInfo := es.foldr (fun e r => gap e.1 (e.2 :: r)) (gap last [])
def pool (es : List (Nat × CpInfo)) (last : Nat) : Array CpInfo := ⟨poolList es last⟩
def fileOf (pool : Array CpInfo) (this : Nat) (attrs : Array Attribute := #[]) (ms : Array MethodInfo := #[]) (fl : Nat := 33) (sup : Nat := 0) (ifs : Array Nat := #[]) (fds : Array FieldInfo := #[]) : ClassFile where
  minorVersion := 0
  majorVersion := 65
  constantPool := pool
  accessFlags := fl
  thisClass := this
  superClass := sup
  interfaces := ifs
  fields := fds
  methods := ms
  attributes := attrs
def plain (name : String) (sup : Option ClassId) : Class where
  name := name
  kind := .ordinary
  loader := none
  accessFlags := 33
  super := sup
  interfaces := #[]
  cf := none
  fields := #[]
  methods := #[]
  instanceTypes := #[]
  staticTypes := #[]
  resolved := #[]
  callSites := []
  init := .initialized
  statics := none
  mirror := none

def pool0 : Array CpInfo := pool [(5, u "<init>"), (0, u "()V"), (1, .class_ 10), (1, u "java/lang/Object")] 113

def k0c0 : Code := { maxStack := 0, maxLocals := 1, code := object_method_1_code, exceptionTable := #[], attributes := #[] }
def k0m0 : Method := { name := "<init>", desc := "()V", sig := { parameters := [], returnType := none }, accessFlags := 1, code := some k0c0 }
/-- java/lang/Object -/
def k0 : Class := { plain "java/lang/Object" none with
  accessFlags := 33
  interfaces := #[]
  cf := some (fileOf pool0 8 #[] #[{ accessFlags := 1, nameIndex := 5, descriptorIndex := 6, attributes := #[] }] 33 0 #[] #[])
  fields := #[]
  methods := #[k0m0]
  instanceTypes := #[]
  staticTypes := #[]
  resolved := Array.replicate 124 none
  statics := none }

def pool1 : Array CpInfo := pool [(2, .class_ 4), (0, .nameAndType 5 6), (0, u "java/lang/Object"), (0, u "<init>"), (0, u "()V"), (0, .class_ 8), (0, u "com/example/rosterwright/rosterwright/Roster"), (0, .methodref 7 3), (0, .methodref 7 11), (0, .nameAndType 12 6), (0, u "keepChanges"), (0, .methodref 7 14), (0, .nameAndType 15 6), (0, u "markKept"), (0, .methodref 7 17), (0, .nameAndType 18 6), (0, u "keepNoChangesNow"), (0, .methodref 7 20), (0, .nameAndType 21 22), (0, u "keepsChanges"), (0, u "()Z"), (0, .methodref 7 24), (0, .nameAndType 25 22), (0, u "isChanged"), (0, .class_ 27), (0, u "com/example/rosterwright/rosterwright/RosterKeepChangesPinLaw"), (2, u "law"), (0, u "(I)Z")] 3

def k1m0 : Method := { name := "<init>", desc := "()V", sig := { parameters := [], returnType := none }, accessFlags := 2, code := none }
def k1c1 : Code := { maxStack := 2, maxLocals := 10, code := code, exceptionTable := #[], attributes := #[] }
def k1m1 : Method := { name := "law", desc := "(I)Z", sig := { parameters := [.int], returnType := some .boolean }, accessFlags := 9, code := some k1c1 }
/-- com/example/rosterwright/rosterwright/RosterKeepChangesPinLaw -/
def k1 : Class := { plain "com/example/rosterwright/rosterwright/RosterKeepChangesPinLaw" (some 0) with
  accessFlags := 49
  interfaces := #[]
  cf := some (fileOf pool1 26 #[] #[{ accessFlags := 2, nameIndex := 5, descriptorIndex := 6, attributes := #[] }, { accessFlags := 9, nameIndex := 30, descriptorIndex := 31, attributes := #[] }] 49 2 #[] #[])
  fields := #[]
  methods := #[k1m0, k1m1]
  instanceTypes := #[]
  staticTypes := #[]
  resolved := Array.replicate 35 none
  statics := none }

def pool2 : Array CpInfo := pool [(1, .methodref 2 3), (0, .class_ 4), (0, .nameAndType 5 6), (0, u "java/lang/Object"), (0, u "<init>"), (0, u "()V"), (0, .class_ 8), (0, u "java/util/HashMap"), (0, .methodref 7 3), (0, .fieldref 11 12), (0, .class_ 13), (0, .nameAndType 14 15), (0, u "com/example/rosterwright/rosterwright/Roster"), (0, u "byDn"), (0, u "Ljava/util/Map;"), (0, .fieldref 11 17), (0, .nameAndType 18 15), (0, u "byAssociation"), (0, .fieldref 11 20), (0, .nameAndType 21 15), (0, u "byValue"), (0, .class_ 23), (0, u "java/util/LinkedHashSet"), (0, .methodref 22 3), (0, .fieldref 11 26), (0, .nameAndType 27 28), (0, u "pending"), (0, u "Ljava/util/Set;"), (12, .class_ 42), (0, u "com/example/rosterwright/rosterwright/Roster$Entry"), (0, .class_ 44), (0, u "com/example/rosterwright/rosterwright/Roster$Association"), (21, u "()Z"), (75, .fieldref 11 143), (0, .nameAndType 144 145), (0, u "changed"), (0, u "Z"), (99, .class_ 246), (0, u "com/example/rosterwright/rosterwright/Roster$Change"), (1, .class_ 250), (1, u "com/example/rosterwright/rosterwright/Roster$Change$Kind"), (17, u "DN_ORDER"), (0, u "Ljava/util/Comparator;"), (4, .fieldref 11 275), (0, .nameAndType 276 145), (0, u "keepsChanges"), (0, .fieldref 11 278), (0, .nameAndType 279 145), (0, u "keepingChanges"), (0, .fieldref 11 281), (0, .nameAndType 282 283), (0, u "open"), (0, u "Lcom/example/rosterwright/rosterwright/Roster$Change;"), (14, u "log"), (0, u "Lcom/example/rosterwright/rosterwright/Roster$Log;"), (1, .class_ 303), (1, u "com/example/rosterwright/rosterwright/Roster$Log"), (113, u "isChanged"), (0, u "markKept"), (0, u "keepChanges"), (0, u "keepNoChangesNow"), (18, .class_ 440), (0, u "com/example/rosterwright/rosterwright/Roster$Change$Values")] 52

def k2c0 : Code := { maxStack := 3, maxLocals := 1, code := prog_65_method_1_code, exceptionTable := #[], attributes := #[] }
def k2m0 : Method := { name := "<init>", desc := "()V", sig := { parameters := [], returnType := none }, accessFlags := 0, code := some k2c0 }
def k2c1 : Code := { maxStack := 1, maxLocals := 1, code := prog_65_method_17_code, exceptionTable := #[], attributes := #[] }
def k2m1 : Method := { name := "isChanged", desc := "()Z", sig := { parameters := [], returnType := some .boolean }, accessFlags := 0, code := some k2c1 }
def k2c2 : Code := { maxStack := 2, maxLocals := 1, code := prog_65_method_18_code, exceptionTable := #[], attributes := #[] }
def k2m2 : Method := { name := "markKept", desc := "()V", sig := { parameters := [], returnType := none }, accessFlags := 0, code := some k2c2 }
def k2c3 : Code := { maxStack := 2, maxLocals := 1, code := prog_65_method_19_code, exceptionTable := #[], attributes := #[] }
def k2m3 : Method := { name := "keepChanges", desc := "()V", sig := { parameters := [], returnType := none }, accessFlags := 0, code := some k2c3 }
def k2c4 : Code := { maxStack := 1, maxLocals := 1, code := prog_65_method_20_code, exceptionTable := #[], attributes := #[] }
def k2m4 : Method := { name := "keepsChanges", desc := "()Z", sig := { parameters := [], returnType := some .boolean }, accessFlags := 0, code := some k2c4 }
def k2c5 : Code := { maxStack := 2, maxLocals := 1, code := prog_65_method_21_code, exceptionTable := #[], attributes := #[] }
def k2m5 : Method := { name := "keepNoChangesNow", desc := "()V", sig := { parameters := [], returnType := none }, accessFlags := 0, code := some k2c5 }
/-- com/example/rosterwright/rosterwright/Roster -/
def k2 : Class := { plain "com/example/rosterwright/rosterwright/Roster" (some 0) with
  accessFlags := 48
  interfaces := #[]
  cf := some (fileOf pool2 11 #[.nestMembers #[43, 245, 439, 248, 41, 301]] #[{ accessFlags := 0, nameIndex := 5, descriptorIndex := 6, attributes := #[] }, { accessFlags := 0, nameIndex := 417, descriptorIndex := 66, attributes := #[] }, { accessFlags := 0, nameIndex := 418, descriptorIndex := 6, attributes := #[] }, { accessFlags := 0, nameIndex := 419, descriptorIndex := 6, attributes := #[] }, { accessFlags := 0, nameIndex := 276, descriptorIndex := 66, attributes := #[] }, { accessFlags := 0, nameIndex := 420, descriptorIndex := 6, attributes := #[] }] 48 2 #[] #[{ accessFlags := 26, nameIndex := 268, descriptorIndex := 269, attributes := #[] }, { accessFlags := 18, nameIndex := 14, descriptorIndex := 15, attributes := #[] }, { accessFlags := 18, nameIndex := 18, descriptorIndex := 15, attributes := #[] }, { accessFlags := 18, nameIndex := 21, descriptorIndex := 15, attributes := #[] }, { accessFlags := 2, nameIndex := 144, descriptorIndex := 145, attributes := #[] }, { accessFlags := 2, nameIndex := 276, descriptorIndex := 145, attributes := #[] }, { accessFlags := 2, nameIndex := 279, descriptorIndex := 145, attributes := #[] }, { accessFlags := 18, nameIndex := 27, descriptorIndex := 28, attributes := #[] }, { accessFlags := 2, nameIndex := 282, descriptorIndex := 283, attributes := #[] }, { accessFlags := 2, nameIndex := 298, descriptorIndex := 299, attributes := #[] }])
  fields := #[{ name := "DN_ORDER", type := (.object "java/util/Comparator"), accessFlags := 26, slot := 0, constantValue := 0 }, { name := "byDn", type := (.object "java/util/Map"), accessFlags := 18, slot := 0, constantValue := 0 }, { name := "byAssociation", type := (.object "java/util/Map"), accessFlags := 18, slot := 1, constantValue := 0 }, { name := "byValue", type := (.object "java/util/Map"), accessFlags := 18, slot := 2, constantValue := 0 }, { name := "changed", type := .boolean, accessFlags := 2, slot := 3, constantValue := 0 }, { name := "keepsChanges", type := .boolean, accessFlags := 2, slot := 4, constantValue := 0 }, { name := "keepingChanges", type := .boolean, accessFlags := 2, slot := 5, constantValue := 0 }, { name := "pending", type := (.object "java/util/Set"), accessFlags := 18, slot := 6, constantValue := 0 }, { name := "open", type := (.object "com/example/rosterwright/rosterwright/Roster$Change"), accessFlags := 2, slot := 7, constantValue := 0 }, { name := "log", type := (.object "com/example/rosterwright/rosterwright/Roster$Log"), accessFlags := 2, slot := 8, constantValue := 0 }]
  methods := #[k2m0, k2m1, k2m2, k2m3, k2m4, k2m5]
  instanceTypes := #[(.object "java/util/Map"), (.object "java/util/Map"), (.object "java/util/Map"), .boolean, .boolean, .boolean, (.object "java/util/Set"), (.object "com/example/rosterwright/rosterwright/Roster$Change"), (.object "com/example/rosterwright/rosterwright/Roster$Log")]
  staticTypes := #[(.object "java/util/Comparator")]
  resolved := Array.replicate 493 none
  statics := none }

def pool3 : Array CpInfo := pool [(2, .class_ 4), (1, u "java/util/Map"), (31, .class_ 37), (0, u "java/util/Map$Entry"), (55, .class_ 94), (0, u "java/lang/Object")] 168

/-- java/util/Map -/
def k3 : Class := { plain "java/util/Map" (some 0) with
  accessFlags := 1537
  interfaces := #[]
  cf := some (fileOf pool3 2 #[.nestMembers #[36]] #[] 1537 93 #[] #[])
  fields := #[]
  methods := #[]
  instanceTypes := #[]
  staticTypes := #[]
  resolved := Array.replicate 263 none
  statics := none }

def pool4 : Array CpInfo := pool [(1, .methodref 2 3), (0, .class_ 4), (0, .nameAndType 5 6), (0, u "java/lang/Object"), (0, u "<init>"), (0, u "()V"), (1, .class_ 10), (1, u "java/util/AbstractMap"), (42, .class_ 54), (0, u "java/util/Map"), (9, u "keySet"), (0, u "Ljava/util/Set;"), (0, .class_ 67), (0, u "java/util/AbstractMap$1"), (5, u "values"), (0, u "Ljava/util/Collection;"), (0, .class_ 76), (0, u "java/util/AbstractMap$2"), (104, .class_ 182), (0, u "java/util/AbstractMap$ViewCollection"), (0, .class_ 184), (0, u "java/util/AbstractMap$SimpleImmutableEntry"), (0, .class_ 186), (0, u "java/util/AbstractMap$SimpleEntry"), (0, .class_ 188), (0, u "java/util/AbstractMap$2$1"), (0, .class_ 190), (0, u "java/util/AbstractMap$1$1")] 5

def k4c0 : Code := { maxStack := 1, maxLocals := 1, code := jdk_71_method_1_code, exceptionTable := #[], attributes := #[] }
def k4m0 : Method := { name := "<init>", desc := "()V", sig := { parameters := [], returnType := none }, accessFlags := 4, code := some k4c0 }
/-- java/util/AbstractMap -/
def k4 : Class := { plain "java/util/AbstractMap" (some 0) with
  accessFlags := 1057
  interfaces := #[3]
  cf := some (fileOf pool4 8 #[.nestMembers #[181, 183, 185, 75, 187, 66, 189]] #[{ accessFlags := 4, nameIndex := 5, descriptorIndex := 6, attributes := #[] }] 1057 2 #[53] #[{ accessFlags := 128, nameIndex := 64, descriptorIndex := 65, attributes := #[] }, { accessFlags := 128, nameIndex := 73, descriptorIndex := 74, attributes := #[] }])
  fields := #[{ name := "keySet", type := (.object "java/util/Set"), accessFlags := 128, slot := 0, constantValue := 0 }, { name := "values", type := (.object "java/util/Collection"), accessFlags := 128, slot := 1, constantValue := 0 }]
  methods := #[k4m0]
  instanceTypes := #[(.object "java/util/Set"), (.object "java/util/Collection")]
  staticTypes := #[]
  resolved := Array.replicate 196 none
  statics := none }

def pool5 : Array CpInfo := pool [(1, .class_ 2), (0, u "java/lang/Cloneable"), (0, .class_ 4), (0, u "java/lang/Object")] 2

/-- java/lang/Cloneable -/
def k5 : Class := { plain "java/lang/Cloneable" (some 0) with
  accessFlags := 1537
  interfaces := #[]
  cf := some (fileOf pool5 1 #[] #[] 1537 3 #[] #[])
  fields := #[]
  methods := #[]
  instanceTypes := #[]
  staticTypes := #[]
  resolved := Array.replicate 7 none
  statics := none }

def pool6 : Array CpInfo := pool [(1, .class_ 2), (0, u "java/io/Serializable"), (0, .class_ 4), (0, u "java/lang/Object")] 2

/-- java/io/Serializable -/
def k6 : Class := { plain "java/io/Serializable" (some 0) with
  accessFlags := 1537
  interfaces := #[]
  cf := some (fileOf pool6 1 #[] #[] 1537 3 #[] #[])
  fields := #[]
  methods := #[]
  instanceTypes := #[]
  staticTypes := #[]
  resolved := Array.replicate 7 none
  statics := none }

def pool7 : Array CpInfo := pool [(34, .methodref 35 36), (0, .class_ 37), (0, .nameAndType 38 39), (0, u "java/lang/Integer"), (0, u "numberOfLeadingZeros"), (0, u "(I)I"), (0, .class_ 41), (0, u "java/util/HashMap"), (0, .integer 1073741824), (0, .methodref 44 45), (0, .class_ 46), (0, .nameAndType 47 48), (0, u "java/util/AbstractMap"), (0, u "<init>"), (0, u "()V"), (21, .methodref 71 72), (0, .class_ 73), (0, .nameAndType 74 75), (0, u "java/lang/Float"), (0, u "isNaN"), (0, u "(F)Z"), (5, .fieldref 40 82), (0, .nameAndType 83 84), (0, u "loadFactor"), (0, u "F"), (0, .methodref 40 86), (0, .nameAndType 87 39), (0, u "tableSizeFor"), (0, .fieldref 40 89), (0, .nameAndType 90 91), (0, u "threshold"), (0, u "I"), (0, .float 1061158912), (2, u "(IF)V"), (5, .class_ 103), (1, u "java/util/Map"), (0, u "size"), (2, u "table"), (0, u "[Ljava/util/HashMap$Node;"), (14, u "entrySet"), (39, .class_ 165), (1, u "java/util/HashMap$Node"), (14, .class_ 181), (0, u "java/util/HashMap$TreeNode"), (22, u "modCount"), (37, u "Ljava/util/Set;"), (0, .class_ 244), (0, u "java/util/HashMap$KeySet"), (18, .class_ 264), (0, u "java/util/HashMap$Values"), (3, .class_ 269), (0, u "java/util/HashMap$EntrySet"), (76, .class_ 348), (1, u "java/util/HashMap$UnsafeHolder"), (43, .class_ 393), (0, u "java/lang/Cloneable"), (0, .class_ 395), (0, u "java/io/Serializable"), (0, u "serialVersionUID"), (0, u "J"), (3, u "DEFAULT_INITIAL_CAPACITY"), (1, u "MAXIMUM_CAPACITY"), (0, u "DEFAULT_LOAD_FACTOR"), (0, u "TREEIFY_THRESHOLD"), (1, u "UNTREEIFY_THRESHOLD"), (1, u "MIN_TREEIFY_CAPACITY"), (186, .class_ 597), (0, u "java/util/HashMap$EntrySpliterator"), (0, .class_ 599), (0, u "java/util/HashMap$ValueSpliterator"), (0, .class_ 601), (0, u "java/util/HashMap$KeySpliterator"), (0, .class_ 603), (0, u "java/util/HashMap$HashMapSpliterator"), (0, .class_ 605), (0, u "java/util/HashMap$EntryIterator"), (0, .class_ 607), (0, u "java/util/HashMap$ValueIterator"), (0, .class_ 609), (0, u "java/util/HashMap$KeyIterator"), (0, .class_ 611), (0, u "java/util/HashMap$HashIterator")] 17

def k7c0 : Code := { maxStack := 3, maxLocals := 2, code := jdk_69_method_4_code, exceptionTable := #[], attributes := #[] }
def k7m0 : Method := { name := "tableSizeFor", desc := "(I)I", sig := { parameters := [.int], returnType := some .int }, accessFlags := 24, code := some k7c0 }
def k7c1 : Code := { maxStack := 4, maxLocals := 3, code := jdk_69_method_5_code, exceptionTable := #[], attributes := #[] }
def k7m1 : Method := { name := "<init>", desc := "(IF)V", sig := { parameters := [.int, .float], returnType := none }, accessFlags := 1, code := some k7c1 }
def k7c2 : Code := { maxStack := 2, maxLocals := 1, code := jdk_69_method_7_code, exceptionTable := #[], attributes := #[] }
def k7m2 : Method := { name := "<init>", desc := "()V", sig := { parameters := [], returnType := none }, accessFlags := 1, code := some k7c2 }
/-- java/util/HashMap -/
def k7 : Class := { plain "java/util/HashMap" (some 4) with
  accessFlags := 33
  interfaces := #[3, 5, 6]
  cf := some (fileOf pool7 40 #[.nestMembers #[180, 596, 598, 600, 602, 604, 606, 608, 610, 346, 268, 263, 243, 163]] #[{ accessFlags := 24, nameIndex := 87, descriptorIndex := 39, attributes := #[] }, { accessFlags := 1, nameIndex := 47, descriptorIndex := 95, attributes := #[] }, { accessFlags := 1, nameIndex := 47, descriptorIndex := 48, attributes := #[] }] 33 44 #[101, 392, 394] #[{ accessFlags := 26, nameIndex := 396, descriptorIndex := 397, attributes := #[] }, { accessFlags := 24, nameIndex := 401, descriptorIndex := 91, attributes := #[] }, { accessFlags := 24, nameIndex := 403, descriptorIndex := 91, attributes := #[] }, { accessFlags := 24, nameIndex := 404, descriptorIndex := 84, attributes := #[] }, { accessFlags := 24, nameIndex := 405, descriptorIndex := 91, attributes := #[] }, { accessFlags := 24, nameIndex := 407, descriptorIndex := 91, attributes := #[] }, { accessFlags := 24, nameIndex := 409, descriptorIndex := 91, attributes := #[] }, { accessFlags := 128, nameIndex := 107, descriptorIndex := 108, attributes := #[] }, { accessFlags := 128, nameIndex := 123, descriptorIndex := 242, attributes := #[] }, { accessFlags := 128, nameIndex := 104, descriptorIndex := 91, attributes := #[] }, { accessFlags := 128, nameIndex := 204, descriptorIndex := 91, attributes := #[] }, { accessFlags := 0, nameIndex := 90, descriptorIndex := 91, attributes := #[] }, { accessFlags := 16, nameIndex := 83, descriptorIndex := 84, attributes := #[] }])
  fields := #[{ name := "serialVersionUID", type := .long, accessFlags := 26, slot := 0, constantValue := 0 }, { name := "DEFAULT_INITIAL_CAPACITY", type := .int, accessFlags := 24, slot := 1, constantValue := 0 }, { name := "MAXIMUM_CAPACITY", type := .int, accessFlags := 24, slot := 2, constantValue := 0 }, { name := "DEFAULT_LOAD_FACTOR", type := .float, accessFlags := 24, slot := 3, constantValue := 0 }, { name := "TREEIFY_THRESHOLD", type := .int, accessFlags := 24, slot := 4, constantValue := 0 }, { name := "UNTREEIFY_THRESHOLD", type := .int, accessFlags := 24, slot := 5, constantValue := 0 }, { name := "MIN_TREEIFY_CAPACITY", type := .int, accessFlags := 24, slot := 6, constantValue := 0 }, { name := "table", type := (.array (.object "java/util/HashMap$Node")), accessFlags := 128, slot := 2, constantValue := 0 }, { name := "entrySet", type := (.object "java/util/Set"), accessFlags := 128, slot := 3, constantValue := 0 }, { name := "size", type := .int, accessFlags := 128, slot := 4, constantValue := 0 }, { name := "modCount", type := .int, accessFlags := 128, slot := 5, constantValue := 0 }, { name := "threshold", type := .int, accessFlags := 0, slot := 6, constantValue := 0 }, { name := "loadFactor", type := .float, accessFlags := 16, slot := 7, constantValue := 0 }]
  methods := #[k7m0, k7m1, k7m2]
  instanceTypes := #[(.object "java/util/Set"), (.object "java/util/Collection"), (.array (.object "java/util/HashMap$Node")), (.object "java/util/Set"), .int, .int, .int, .float]
  staticTypes := #[.long, .int, .int, .float, .int, .int, .int]
  resolved := Array.replicate 629 none
  statics := none }

def pool8 : Array CpInfo := pool [(8, .class_ 10), (1, u "java/lang/Iterable"), (24, .class_ 36), (0, u "java/lang/Object")] 25

/-- java/lang/Iterable -/
def k8 : Class := { plain "java/lang/Iterable" (some 0) with
  accessFlags := 1537
  interfaces := #[]
  cf := some (fileOf pool8 8 #[] #[] 1537 35 #[] #[])
  fields := #[]
  methods := #[]
  instanceTypes := #[]
  staticTypes := #[]
  resolved := Array.replicate 62 none
  statics := none }

def pool9 : Array CpInfo := pool [(10, .class_ 12), (1, u "java/util/Collection"), (47, .class_ 61), (0, u "java/lang/Object"), (0, .class_ 63), (0, u "java/lang/Iterable")] 51

/-- java/util/Collection -/
def k9 : Class := { plain "java/util/Collection" (some 0) with
  accessFlags := 1537
  interfaces := #[8]
  cf := some (fileOf pool9 10 #[] #[] 1537 60 #[62] #[])
  fields := #[]
  methods := #[]
  instanceTypes := #[]
  staticTypes := #[]
  resolved := Array.replicate 115 none
  statics := none }

def pool10 : Array CpInfo := pool [(1, .methodref 2 3), (0, .class_ 4), (0, .nameAndType 5 6), (0, u "java/lang/Object"), (0, u "<init>"), (0, u "()V"), (1, .class_ 10), (1, u "java/util/AbstractCollection"), (66, .class_ 78), (0, u "java/util/Collection")] 81

def k10c0 : Code := { maxStack := 1, maxLocals := 1, code := jdk_22_method_1_code, exceptionTable := #[], attributes := #[] }
def k10m0 : Method := { name := "<init>", desc := "()V", sig := { parameters := [], returnType := none }, accessFlags := 4, code := some k10c0 }
/-- java/util/AbstractCollection -/
def k10 : Class := { plain "java/util/AbstractCollection" (some 0) with
  accessFlags := 1057
  interfaces := #[9]
  cf := some (fileOf pool10 8 #[] #[{ accessFlags := 4, nameIndex := 5, descriptorIndex := 6, attributes := #[] }] 1057 2 #[77] #[])
  fields := #[]
  methods := #[k10m0]
  instanceTypes := #[]
  staticTypes := #[]
  resolved := Array.replicate 160 none
  statics := none }

def pool11 : Array CpInfo := pool [(26, .class_ 27), (0, u "java/lang/Object"), (5, .class_ 34), (0, u "java/util/Set"), (1, .class_ 38), (1, u "java/util/Collection")] 105

/-- java/util/Set -/
def k11 : Class := { plain "java/util/Set" (some 0) with
  accessFlags := 1537
  interfaces := #[9]
  cf := some (fileOf pool11 33 #[] #[] 1537 26 #[36] #[])
  fields := #[]
  methods := #[]
  instanceTypes := #[]
  staticTypes := #[]
  resolved := Array.replicate 144 none
  statics := none }

def pool12 : Array CpInfo := pool [(1, .methodref 2 3), (0, .class_ 4), (0, .nameAndType 5 6), (0, u "java/util/AbstractCollection"), (0, u "<init>"), (0, u "()V"), (0, .class_ 8), (0, u "java/util/Set"), (7, .class_ 17), (0, u "java/util/AbstractSet")] 78

def k12c0 : Code := { maxStack := 1, maxLocals := 1, code := jdk_91_method_1_code, exceptionTable := #[], attributes := #[] }
def k12m0 : Method := { name := "<init>", desc := "()V", sig := { parameters := [], returnType := none }, accessFlags := 4, code := some k12c0 }
/-- java/util/AbstractSet -/
def k12 : Class := { plain "java/util/AbstractSet" (some 10) with
  accessFlags := 1057
  interfaces := #[11]
  cf := some (fileOf pool12 16 #[] #[{ accessFlags := 4, nameIndex := 5, descriptorIndex := 6, attributes := #[] }] 1057 2 #[7] #[])
  fields := #[]
  methods := #[k12m0]
  instanceTypes := #[]
  staticTypes := #[]
  resolved := Array.replicate 96 none
  statics := none }

def pool13 : Array CpInfo := pool [(1, .methodref 2 3), (0, .class_ 4), (0, .nameAndType 5 6), (0, u "java/util/AbstractSet"), (0, u "<init>"), (0, u "()V"), (3, .fieldref 11 12), (0, .class_ 13), (0, .nameAndType 14 15), (0, u "java/util/HashSet"), (0, u "map"), (0, u "Ljava/util/HashMap;"), (21, .nameAndType 5 38), (0, u "(IF)V"), (3, .class_ 43), (0, u "java/util/LinkedHashMap"), (0, .methodref 42 37), (5, .class_ 52), (1, u "java/util/Set"), (13, u "PRESENT"), (0, u "Ljava/lang/Object;"), (158, .class_ 227), (0, u "java/lang/Cloneable"), (0, .class_ 229), (0, u "java/io/Serializable"), (0, u "serialVersionUID"), (0, u "J"), (20, u "(IFZ)V")] 50

def k13m0 : Method := { name := "<init>", desc := "()V", sig := { parameters := [], returnType := none }, accessFlags := 1, code := none }
def k13c1 : Code := { maxStack := 5, maxLocals := 4, code := jdk_93_method_5_code, exceptionTable := #[], attributes := #[] }
def k13m1 : Method := { name := "<init>", desc := "(IFZ)V", sig := { parameters := [.int, .float, .boolean], returnType := none }, accessFlags := 0, code := some k13c1 }
/-- java/util/HashSet -/
def k13 : Class := { plain "java/util/HashSet" (some 12) with
  accessFlags := 33
  interfaces := #[11, 5, 6]
  cf := some (fileOf pool13 11 #[] #[{ accessFlags := 1, nameIndex := 5, descriptorIndex := 6, attributes := #[] }, { accessFlags := 0, nameIndex := 5, descriptorIndex := 252, attributes := #[] }] 33 2 #[50, 226, 228] #[{ accessFlags := 24, nameIndex := 230, descriptorIndex := 231, attributes := #[] }, { accessFlags := 128, nameIndex := 14, descriptorIndex := 15, attributes := #[] }, { accessFlags := 24, nameIndex := 66, descriptorIndex := 67, attributes := #[] }])
  fields := #[{ name := "serialVersionUID", type := .long, accessFlags := 24, slot := 0, constantValue := 0 }, { name := "map", type := (.object "java/util/HashMap"), accessFlags := 128, slot := 0, constantValue := 0 }, { name := "PRESENT", type := (.object "java/lang/Object"), accessFlags := 24, slot := 1, constantValue := 0 }]
  methods := #[k13m0, k13m1]
  instanceTypes := #[(.object "java/util/HashMap")]
  staticTypes := #[.long, (.object "java/lang/Object")]
  resolved := Array.replicate 303 none
  statics := none }

def pool14 : Array CpInfo := pool [(8, .class_ 10), (1, u "java/util/SequencedCollection"), (15, .class_ 27), (0, u "java/lang/Object"), (0, .class_ 29), (0, u "java/util/Collection")] 27

/-- java/util/SequencedCollection -/
def k14 : Class := { plain "java/util/SequencedCollection" (some 0) with
  accessFlags := 1537
  interfaces := #[9]
  cf := some (fileOf pool14 8 #[] #[] 1537 26 #[28] #[])
  fields := #[]
  methods := #[]
  instanceTypes := #[]
  staticTypes := #[]
  resolved := Array.replicate 57 none
  statics := none }

def pool15 : Array CpInfo := pool [(2, .class_ 4), (1, u "java/util/SequencedSet"), (2, .class_ 8), (0, u "java/lang/Object"), (0, .class_ 10), (0, u "java/util/SequencedCollection"), (0, .class_ 12), (0, u "java/util/Set")] 13

/-- java/util/SequencedSet -/
def k15 : Class := { plain "java/util/SequencedSet" (some 0) with
  accessFlags := 1537
  interfaces := #[14, 11]
  cf := some (fileOf pool15 2 #[] #[] 1537 7 #[9, 11] #[])
  fields := #[]
  methods := #[]
  instanceTypes := #[]
  staticTypes := #[]
  resolved := Array.replicate 26 none
  statics := none }

def pool16 : Array CpInfo := pool [(1, .methodref 2 3), (0, .class_ 4), (0, .nameAndType 5 6), (0, u "java/util/HashSet"), (0, u "<init>"), (0, u "(IFZ)V"), (0, .float 1061158912), (19, .class_ 29), (1, u "java/util/LinkedHashSet"), (16, u "()V"), (44, .class_ 93), (1, u "java/util/SequencedSet"), (11, .class_ 106), (0, u "java/util/LinkedHashSet$1ReverseLinkedHashSetView"), (6, .class_ 114), (0, u "java/lang/Cloneable"), (0, .class_ 116), (0, u "java/io/Serializable"), (0, u "serialVersionUID"), (0, u "J")] 44

def k16c0 : Code := { maxStack := 4, maxLocals := 1, code := jdk_2620_method_3_code, exceptionTable := #[], attributes := #[] }
def k16m0 : Method := { name := "<init>", desc := "()V", sig := { parameters := [], returnType := none }, accessFlags := 1, code := some k16c0 }
/-- java/util/LinkedHashSet -/
def k16 : Class := { plain "java/util/LinkedHashSet" (some 13) with
  accessFlags := 33
  interfaces := #[15, 5, 6]
  cf := some (fileOf pool16 27 #[.nestMembers #[105]] #[{ accessFlags := 1, nameIndex := 5, descriptorIndex := 46, attributes := #[] }] 33 2 #[91, 113, 115] #[{ accessFlags := 26, nameIndex := 117, descriptorIndex := 118, attributes := #[] }])
  fields := #[{ name := "serialVersionUID", type := .long, accessFlags := 26, slot := 0, constantValue := 0 }]
  methods := #[k16m0]
  instanceTypes := #[(.object "java/util/HashMap")]
  staticTypes := #[.long]
  resolved := Array.replicate 163 none
  statics := none }

def pool17 : Array CpInfo := pool [(2, .class_ 4), (1, u "java/util/SequencedMap"), (38, .class_ 44), (0, u "java/util/SequencedMap$1SeqKeySet"), (3, .class_ 49), (0, u "java/util/SequencedMap$1SeqValues"), (1, .class_ 52), (0, u "java/util/SequencedMap$1SeqEntrySet"), (1, .class_ 55), (0, u "java/lang/Object"), (0, .class_ 57), (0, u "java/util/Map")] 48

/-- java/util/SequencedMap -/
def k17 : Class := { plain "java/util/SequencedMap" (some 0) with
  accessFlags := 1537
  interfaces := #[3]
  cf := some (fileOf pool17 2 #[.nestMembers #[51, 48, 43]] #[] 1537 54 #[56] #[])
  fields := #[]
  methods := #[]
  instanceTypes := #[]
  staticTypes := #[]
  resolved := Array.replicate 106 none
  statics := none }

def pool18 : Array CpInfo := pool [(1, .fieldref 2 3), (0, .class_ 4), (0, .nameAndType 5 6), (0, u "java/util/LinkedHashMap"), (0, u "putMode"), (0, u "I"), (2, u "head"), (0, u "Ljava/util/LinkedHashMap$Entry;"), (2, u "tail"), (1, .class_ 17), (1, u "java/util/LinkedHashMap$Entry"), (5, .class_ 25), (1, u "java/util/HashMap"), (1, u "()V"), (2, u "<init>"), (33, .fieldref 2 65), (0, .nameAndType 66 67), (0, u "accessOrder"), (0, u "Z"), (13, .methodref 23 82), (0, .nameAndType 30 83), (0, u "(IF)V"), (37, .class_ 122), (0, u "java/util/LinkedHashMap$LinkedKeySet"), (20, .class_ 144), (0, u "java/util/LinkedHashMap$LinkedValues"), (9, .class_ 155), (0, u "java/util/LinkedHashMap$LinkedEntrySet"), (44, .class_ 201), (0, u "java/util/LinkedHashMap$ReversedLinkedHashMapView"), (3, .class_ 206), (0, u "java/util/SequencedMap"), (0, u "serialVersionUID"), (0, u "J"), (5, u "PUT_NORM"), (1, u "PUT_FIRST"), (1, u "PUT_LAST"), (143, .class_ 363), (0, u "java/util/LinkedHashMap$LinkedEntryIterator"), (0, .class_ 365), (0, u "java/util/LinkedHashMap$LinkedValueIterator"), (0, .class_ 367), (0, u "java/util/LinkedHashMap$LinkedKeyIterator"), (0, .class_ 369), (0, u "java/util/LinkedHashMap$LinkedHashIterator")] 16

def k18c0 : Code := { maxStack := 3, maxLocals := 3, code := jdk_94_method_14_code, exceptionTable := #[], attributes := #[] }
def k18m0 : Method := { name := "<init>", desc := "(IF)V", sig := { parameters := [.int, .float], returnType := none }, accessFlags := 1, code := some k18c0 }
def k18m1 : Method := { name := "<init>", desc := "()V", sig := { parameters := [], returnType := none }, accessFlags := 1, code := none }
/-- java/util/LinkedHashMap -/
def k18 : Class := { plain "java/util/LinkedHashMap" (some 7) with
  accessFlags := 33
  interfaces := #[17]
  cf := some (fileOf pool18 2 #[.nestMembers #[200, 362, 364, 366, 368, 154, 143, 121, 15]] #[{ accessFlags := 1, nameIndex := 30, descriptorIndex := 83, attributes := #[] }, { accessFlags := 1, nameIndex := 30, descriptorIndex := 27, attributes := #[] }] 33 23 #[205] #[{ accessFlags := 26, nameIndex := 207, descriptorIndex := 208, attributes := #[] }, { accessFlags := 128, nameIndex := 9, descriptorIndex := 10, attributes := #[] }, { accessFlags := 128, nameIndex := 13, descriptorIndex := 10, attributes := #[] }, { accessFlags := 16, nameIndex := 66, descriptorIndex := 67, attributes := #[] }, { accessFlags := 24, nameIndex := 214, descriptorIndex := 6, attributes := #[] }, { accessFlags := 24, nameIndex := 216, descriptorIndex := 6, attributes := #[] }, { accessFlags := 24, nameIndex := 218, descriptorIndex := 6, attributes := #[] }, { accessFlags := 128, nameIndex := 5, descriptorIndex := 6, attributes := #[] }])
  fields := #[{ name := "serialVersionUID", type := .long, accessFlags := 26, slot := 0, constantValue := 0 }, { name := "head", type := (.object "java/util/LinkedHashMap$Entry"), accessFlags := 128, slot := 8, constantValue := 0 }, { name := "tail", type := (.object "java/util/LinkedHashMap$Entry"), accessFlags := 128, slot := 9, constantValue := 0 }, { name := "accessOrder", type := .boolean, accessFlags := 16, slot := 10, constantValue := 0 }, { name := "PUT_NORM", type := .int, accessFlags := 24, slot := 1, constantValue := 0 }, { name := "PUT_FIRST", type := .int, accessFlags := 24, slot := 2, constantValue := 0 }, { name := "PUT_LAST", type := .int, accessFlags := 24, slot := 3, constantValue := 0 }, { name := "putMode", type := .int, accessFlags := 128, slot := 11, constantValue := 0 }]
  methods := #[k18m0, k18m1]
  instanceTypes := #[(.object "java/util/Set"), (.object "java/util/Collection"), (.array (.object "java/util/HashMap$Node")), (.object "java/util/Set"), .int, .int, .int, .float, (.object "java/util/LinkedHashMap$Entry"), (.object "java/util/LinkedHashMap$Entry"), .boolean, .int]
  staticTypes := #[.long, .int, .int, .int]
  resolved := Array.replicate 386 none
  statics := none }

def pool19 : Array CpInfo := pool [(2, .class_ 4), (1, u "java/lang/Object"), (0, u "<init>"), (0, u "()V"), (1, .class_ 10), (1, u "java/lang/Number"), (2, .class_ 14), (0, u "java/io/Serializable"), (0, u "serialVersionUID"), (0, u "J")] 20

def k19m0 : Method := { name := "<init>", desc := "()V", sig := { parameters := [], returnType := none }, accessFlags := 1, code := none }
/-- java/lang/Number -/
def k19 : Class := { plain "java/lang/Number" (some 0) with
  accessFlags := 1057
  interfaces := #[6]
  cf := some (fileOf pool19 8 #[] #[{ accessFlags := 1, nameIndex := 5, descriptorIndex := 6, attributes := #[] }] 1057 2 #[13] #[{ accessFlags := 26, nameIndex := 15, descriptorIndex := 16, attributes := #[] }])
  fields := #[{ name := "serialVersionUID", type := .long, accessFlags := 26, slot := 0, constantValue := 0 }]
  methods := #[k19m0]
  instanceTypes := #[]
  staticTypes := #[.long]
  resolved := Array.replicate 37 none
  statics := none }

def pool20 : Array CpInfo := pool [(1, .class_ 2), (0, u "java/lang/Comparable"), (0, .class_ 4), (0, u "java/lang/Object")] 7

/-- java/lang/Comparable -/
def k20 : Class := { plain "java/lang/Comparable" (some 0) with
  accessFlags := 1537
  interfaces := #[]
  cf := some (fileOf pool20 1 #[] #[] 1537 3 #[] #[])
  fields := #[]
  methods := #[]
  instanceTypes := #[]
  staticTypes := #[]
  resolved := Array.replicate 12 none
  statics := none }

def pool21 : Array CpInfo := pool [(1, .class_ 2), (0, u "java/lang/constant/Constable"), (0, .class_ 4), (0, u "java/lang/Object")] 6

/-- java/lang/constant/Constable -/
def k21 : Class := { plain "java/lang/constant/Constable" (some 0) with
  accessFlags := 1537
  interfaces := #[]
  cf := some (fileOf pool21 1 #[] #[] 1537 3 #[] #[])
  fields := #[]
  methods := #[]
  instanceTypes := #[]
  staticTypes := #[]
  resolved := Array.replicate 11 none
  statics := none }

def pool22 : Array CpInfo := pool [(1, .class_ 2), (0, u "java/lang/constant/ConstantDesc"), (0, .class_ 4), (0, u "java/lang/Object")] 32

/-- java/lang/constant/ConstantDesc -/
def k22 : Class := { plain "java/lang/constant/ConstantDesc" (some 0) with
  accessFlags := 1537
  interfaces := #[]
  cf := some (fileOf pool22 1 #[] #[] 1537 3 #[] #[])
  fields := #[]
  methods := #[]
  instanceTypes := #[]
  staticTypes := #[]
  resolved := Array.replicate 37 none
  statics := none }

def pool23 : Array CpInfo := pool [(1, .class_ 2), (0, u "java/lang/Float"), (48, .class_ 53), (1, u "java/lang/Number"), (3, u "value"), (0, u "F"), (2, u "isNaN"), (0, u "(F)Z"), (28, u "$assertionsDisabled"), (0, u "Z"), (52, u "TYPE"), (0, u "Ljava/lang/Class;"), (0, .class_ 148), (0, u "java/lang/Comparable"), (0, .class_ 150), (0, u "java/lang/constant/Constable"), (0, .class_ 152), (0, u "java/lang/constant/ConstantDesc"), (0, u "POSITIVE_INFINITY"), (1, u "NEGATIVE_INFINITY"), (1, u "NaN"), (1, u "MAX_VALUE"), (0, u "MIN_NORMAL"), (0, u "MIN_VALUE"), (1, u "SIZE"), (0, u "I"), (1, u "PRECISION"), (1, u "MAX_EXPONENT"), (1, u "MIN_EXPONENT"), (1, u "BYTES"), (3, u "serialVersionUID"), (0, u "J")] 101

def k23c0 : Code := { maxStack := 2, maxLocals := 1, code := jdk_118_method_6_code, exceptionTable := #[], attributes := #[] }
def k23m0 : Method := { name := "isNaN", desc := "(F)Z", sig := { parameters := [.float], returnType := some .boolean }, accessFlags := 9, code := some k23c0 }
/-- java/lang/Float -/
def k23 : Class := { plain "java/lang/Float" (some 19) with
  accessFlags := 49
  interfaces := #[20, 21, 22]
  cf := some (fileOf pool23 1 #[] #[{ accessFlags := 9, nameIndex := 61, descriptorIndex := 62, attributes := #[] }] 49 51 #[147, 149, 151] #[{ accessFlags := 25, nameIndex := 153, descriptorIndex := 58, attributes := #[] }, { accessFlags := 25, nameIndex := 155, descriptorIndex := 58, attributes := #[] }, { accessFlags := 25, nameIndex := 157, descriptorIndex := 58, attributes := #[] }, { accessFlags := 25, nameIndex := 159, descriptorIndex := 58, attributes := #[] }, { accessFlags := 25, nameIndex := 160, descriptorIndex := 58, attributes := #[] }, { accessFlags := 25, nameIndex := 161, descriptorIndex := 58, attributes := #[] }, { accessFlags := 25, nameIndex := 163, descriptorIndex := 164, attributes := #[] }, { accessFlags := 25, nameIndex := 166, descriptorIndex := 164, attributes := #[] }, { accessFlags := 25, nameIndex := 168, descriptorIndex := 164, attributes := #[] }, { accessFlags := 25, nameIndex := 170, descriptorIndex := 164, attributes := #[] }, { accessFlags := 25, nameIndex := 172, descriptorIndex := 164, attributes := #[] }, { accessFlags := 25, nameIndex := 145, descriptorIndex := 146, attributes := #[] }, { accessFlags := 18, nameIndex := 57, descriptorIndex := 58, attributes := #[] }, { accessFlags := 26, nameIndex := 176, descriptorIndex := 177, attributes := #[] }, { accessFlags := 4120, nameIndex := 91, descriptorIndex := 92, attributes := #[] }])
  fields := #[{ name := "POSITIVE_INFINITY", type := .float, accessFlags := 25, slot := 0, constantValue := 0 }, { name := "NEGATIVE_INFINITY", type := .float, accessFlags := 25, slot := 1, constantValue := 0 }, { name := "NaN", type := .float, accessFlags := 25, slot := 2, constantValue := 0 }, { name := "MAX_VALUE", type := .float, accessFlags := 25, slot := 3, constantValue := 0 }, { name := "MIN_NORMAL", type := .float, accessFlags := 25, slot := 4, constantValue := 0 }, { name := "MIN_VALUE", type := .float, accessFlags := 25, slot := 5, constantValue := 0 }, { name := "SIZE", type := .int, accessFlags := 25, slot := 6, constantValue := 0 }, { name := "PRECISION", type := .int, accessFlags := 25, slot := 7, constantValue := 0 }, { name := "MAX_EXPONENT", type := .int, accessFlags := 25, slot := 8, constantValue := 0 }, { name := "MIN_EXPONENT", type := .int, accessFlags := 25, slot := 9, constantValue := 0 }, { name := "BYTES", type := .int, accessFlags := 25, slot := 10, constantValue := 0 }, { name := "TYPE", type := (.object "java/lang/Class"), accessFlags := 25, slot := 11, constantValue := 0 }, { name := "value", type := .float, accessFlags := 18, slot := 0, constantValue := 0 }, { name := "serialVersionUID", type := .long, accessFlags := 26, slot := 12, constantValue := 0 }, { name := "$assertionsDisabled", type := .boolean, accessFlags := 4120, slot := 13, constantValue := 0 }]
  methods := #[k23m0]
  instanceTypes := #[.float]
  staticTypes := #[.float, .float, .float, .float, .float, .float, .int, .int, .int, .int, .int, (.object "java/lang/Class"), .long, .boolean]
  resolved := Array.replicate 279 none
  statics := none }

def pool24 : Array CpInfo := pool [(1, .class_ 2), (0, u "java/lang/Integer"), (16, u "digits"), (0, u "[C"), (32, u "numberOfLeadingZeros"), (0, u "(I)I"), (30, u "DigitOnes"), (0, u "[B"), (2, u "DigitTens"), (99, .class_ 190), (0, u "java/lang/Integer$IntegerCache"), (3, u "I"), (8, .class_ 204), (0, u "java/lang/Number"), (2, u "value"), (56, .integer 65536), (37, u "TYPE"), (0, u "Ljava/lang/Class;"), (0, .class_ 305), (0, u "java/lang/Comparable"), (0, .class_ 307), (0, u "java/lang/constant/Constable"), (0, .class_ 309), (0, u "java/lang/constant/ConstantDesc"), (0, u "MIN_VALUE"), (1, u "MAX_VALUE"), (3, u "SIZE"), (1, u "BYTES"), (1, u "serialVersionUID"), (0, u "J")] 131

def k24c0 : Code := { maxStack := 3, maxLocals := 2, code := jdk_33_method_47_code, exceptionTable := #[], attributes := #[] }
def k24m0 : Method := { name := "numberOfLeadingZeros", desc := "(I)I", sig := { parameters := [.int], returnType := some .int }, accessFlags := 9, code := some k24c0 }
/-- java/lang/Integer -/
def k24 : Class := { plain "java/lang/Integer" (some 19) with
  accessFlags := 49
  interfaces := #[20, 21, 22]
  cf := some (fileOf pool24 1 #[.nestMembers #[189]] #[{ accessFlags := 9, nameIndex := 53, descriptorIndex := 54, attributes := #[] }] 49 203 #[304, 306, 308] #[{ accessFlags := 25, nameIndex := 310, descriptorIndex := 194, attributes := #[] }, { accessFlags := 25, nameIndex := 312, descriptorIndex := 194, attributes := #[] }, { accessFlags := 25, nameIndex := 302, descriptorIndex := 303, attributes := #[] }, { accessFlags := 24, nameIndex := 19, descriptorIndex := 20, attributes := #[] }, { accessFlags := 24, nameIndex := 89, descriptorIndex := 86, attributes := #[] }, { accessFlags := 24, nameIndex := 85, descriptorIndex := 86, attributes := #[] }, { accessFlags := 18, nameIndex := 207, descriptorIndex := 194, attributes := #[] }, { accessFlags := 25, nameIndex := 316, descriptorIndex := 194, attributes := #[] }, { accessFlags := 25, nameIndex := 318, descriptorIndex := 194, attributes := #[] }, { accessFlags := 26, nameIndex := 320, descriptorIndex := 321, attributes := #[] }])
  fields := #[{ name := "MIN_VALUE", type := .int, accessFlags := 25, slot := 0, constantValue := 0 }, { name := "MAX_VALUE", type := .int, accessFlags := 25, slot := 1, constantValue := 0 }, { name := "TYPE", type := (.object "java/lang/Class"), accessFlags := 25, slot := 2, constantValue := 0 }, { name := "digits", type := (.array .char), accessFlags := 24, slot := 3, constantValue := 0 }, { name := "DigitTens", type := (.array .byte), accessFlags := 24, slot := 4, constantValue := 0 }, { name := "DigitOnes", type := (.array .byte), accessFlags := 24, slot := 5, constantValue := 0 }, { name := "value", type := .int, accessFlags := 18, slot := 0, constantValue := 0 }, { name := "SIZE", type := .int, accessFlags := 25, slot := 6, constantValue := 0 }, { name := "BYTES", type := .int, accessFlags := 25, slot := 7, constantValue := 0 }, { name := "serialVersionUID", type := .long, accessFlags := 26, slot := 8, constantValue := 0 }]
  methods := #[k24m0]
  instanceTypes := #[.int]
  staticTypes := #[.int, .int, (.object "java/lang/Class"), (.array .char), (.array .byte), (.array .byte), .int, .int, .long]
  resolved := Array.replicate 453 none
  statics := none }

/-- the primitive byte -/
def k25 : Class := { plain "byte" none with kind := .primitive 'B', accessFlags := 0x411 }
/-- [B -/
def k26 : Class := { plain "[B" (some 0) with kind := .array 25 .byte, interfaces := #[5, 6], accessFlags := 1041 }

/-- the primitive int -/
def k27 : Class := { plain "int" none with kind := .primitive 'I', accessFlags := 0x411 }
/-- [I -/
def k28 : Class := { plain "[I" (some 0) with kind := .array 27 .int, interfaces := #[5, 6], accessFlags := 1041 }

def heap : Heap := #[]
def classes : Array Class := #[k0, k1, k2, k3, k4, k5, k6, k7, k8, k9, k10, k11, k12, k13, k14, k15, k16, k17, k18, k19, k20, k21, k22, k23, k24, k25, k26, k27, k28]
def interned : List (Array UInt16 × Addr) := []
def slotsUsed : Nat := 0
def theMethod : MethodId := ⟨1, 1⟩
def args0 : Array Value := #[.int 0]
def aboutOver (below : List Frame) : State where
  vm := { classes := classes, interned := interned.toArray }
  heap := heap
  slotsUsed := slotsUsed
  threads := #[{ frames := .invoking theMethod args0 :: below }]
def below0 : List Frame := [.native { method := ⟨0, 0⟩, args := #[] }]
def about1 : State := aboutOver below0
def p0 : Program := .bare "" "" ""
def e0 : Env := launch0.env 0 0 0
theorem w_frames : about1.frames = Frame.invoking theMethod args0 :: below0 := rfl
set_option maxRecDepth 65536 in
theorem w_args : argsFit about1.vm theMethod args0 = true := by decide +kernel
set_option maxRecDepth 65536 in
theorem w_heap : heapFits about1 = true := by decide +kernel
set_option maxRecDepth 65536 in
theorem w_runnable : about1.curStatus? = some .runnable := by decide +kernel
set_option maxRecDepth 65536 in
theorem w_alone : about1.alone = true := by decide +kernel
set_option maxRecDepth 65536 in
theorem w_named : about1.methodNamed? x = some theMethod := by decide +kernel
set_option maxRecDepth 65536 in
theorem w_hears : about1.hears theMethod below0 = true := by decide +kernel
set_option maxRecDepth 65536 in
theorem w_ripe : about1.ripe theMethod args0 below0 = true := by decide +kernel
theorem w_running : about1.status = .running := rfl
set_option maxRecDepth 65536 in
theorem w_room : about1.hasRoom e0.platform room_1 = true :=
  launch0.hasRoom_least _ room_1 (by decide +kernel) (by decide +kernel) (by decide +kernel) (by decide +kernel) (by decide +kernel) (by decide +kernel)
theorem allAtoms_all (ts : List Jvm.Cond) (a : Array Jvm.Value) (st : Jvm.State) : (allAtoms ts).before a st = ts.all (fun c => c.before a st) := by
  induction ts with
  | nil => rfl
  | cons c t ih =>
    show (Jvm.Cond.and c (allAtoms t)).before a st = _
    rw [Jvm.Cond.before_and, ih, List.all_cons]
def words1 : List Jvm.Cond := Jvm.Cond.code x code maxLocals ret :: tables_1
/-- a 'code' word, met by the world's own term for the bytes: nothing is compared byte by byte -/
theorem code_word {y : MethodName} {bytes : ByteArray} {mx : Nat} {rt : Option FieldType} {a : Array Value} {s : State} {m : MethodId} {meth : Method} {c : Code} (h1 : s.methodNamed? y = some m) (h2 : s.vm.method? m = some meth) (h3 : meth.code = some c) (h4 : c.code = bytes)
    (h5 : (c.maxLocals == mx && c.exceptionTable.isEmpty && decide (c.maxStack ≤ mostOperands) && decide (meth.sig.returnType = rt) && !meth.locks && decide (parseMethodDescriptor y.desc = some meth.sig)) = true) : (Jvm.Cond.code y bytes mx rt).before a s = true := by
  simp only [Bool.and_eq_true, beq_iff_eq, Bool.not_eq_true', decide_eq_true_eq] at h5
  obtain ⟨⟨⟨⟨⟨g1, g2⟩, g3⟩, g4⟩, g5⟩, g6⟩ := h5
  simp [Cond.before, Cond.holds, Cond.value, h1, h2, h3, h4, g1, g2, g3, g4, g5, g6]
def isCode : Jvm.Cond → Bool
  | .code _ _ _ _ => true
  | _ => false
theorem all_split {L : List Jvm.Cond} {P : Jvm.Cond → Bool} (h1 : L.all (fun c => isCode c || P c) = true) (h2 : ∀ c ∈ L.filter isCode, P c = true) : L.all P = true := by
  refine List.all_eq_true.mpr fun c hc => ?_
  have h := List.all_eq_true.mp h1 c hc
  rcases Bool.eq_false_or_eq_true (isCode c) with hi | hi
  · exact h2 c (List.mem_filter.mpr ⟨hc, hi⟩)
  · simpa [hi] using h
set_option maxRecDepth 65536 in
theorem w_c0 : (Jvm.Cond.code x code maxLocals ret).before args0 about1 = true := code_word (m := ⟨1, 1⟩) (meth := k1m1) (c := k1c1) (by decide +kernel) rfl rfl rfl (by decide +kernel)
set_option maxRecDepth 65536 in
theorem w_c1 : (Jvm.Cond.code ({ cls := "com/example/rosterwright/rosterwright/Roster", name := "<init>", desc := "()V" } : Jvm.MethodName) prog_65_method_1_code (1 : Nat) (Option.none : Option Jvm.ClassFile.FieldType)).before args0 about1 = true := code_word (m := ⟨2, 0⟩) (meth := k2m0) (c := k2c0) (by decide +kernel) rfl rfl rfl (by decide +kernel)
set_option maxRecDepth 65536 in
theorem w_c2 : (Jvm.Cond.code ({ cls := "java/lang/Object", name := "<init>", desc := "()V" } : Jvm.MethodName) object_method_1_code (1 : Nat) (Option.none : Option Jvm.ClassFile.FieldType)).before args0 about1 = true := code_word (m := ⟨0, 0⟩) (meth := k0m0) (c := k0c0) (by decide +kernel) rfl rfl rfl (by decide +kernel)
set_option maxRecDepth 65536 in
theorem w_c3 : (Jvm.Cond.code ({ cls := "java/util/HashMap", name := "<init>", desc := "()V" } : Jvm.MethodName) jdk_69_method_7_code (1 : Nat) (Option.none : Option Jvm.ClassFile.FieldType)).before args0 about1 = true := code_word (m := ⟨7, 2⟩) (meth := k7m2) (c := k7c2) (by decide +kernel) rfl rfl rfl (by decide +kernel)
set_option maxRecDepth 65536 in
theorem w_c4 : (Jvm.Cond.code ({ cls := "java/util/AbstractMap", name := "<init>", desc := "()V" } : Jvm.MethodName) jdk_71_method_1_code (1 : Nat) (Option.none : Option Jvm.ClassFile.FieldType)).before args0 about1 = true := code_word (m := ⟨4, 0⟩) (meth := k4m0) (c := k4c0) (by decide +kernel) rfl rfl rfl (by decide +kernel)
set_option maxRecDepth 65536 in
theorem w_c5 : (Jvm.Cond.code ({ cls := "java/util/LinkedHashSet", name := "<init>", desc := "()V" } : Jvm.MethodName) jdk_2620_method_3_code (1 : Nat) (Option.none : Option Jvm.ClassFile.FieldType)).before args0 about1 = true := code_word (m := ⟨16, 0⟩) (meth := k16m0) (c := k16c0) (by decide +kernel) rfl rfl rfl (by decide +kernel)
set_option maxRecDepth 65536 in
theorem w_c6 : (Jvm.Cond.code ({ cls := "java/util/HashSet", name := "<init>", desc := "(IFZ)V" } : Jvm.MethodName) jdk_93_method_5_code (4 : Nat) (Option.none : Option Jvm.ClassFile.FieldType)).before args0 about1 = true := code_word (m := ⟨13, 1⟩) (meth := k13m1) (c := k13c1) (by decide +kernel) rfl rfl rfl (by decide +kernel)
set_option maxRecDepth 65536 in
theorem w_c7 : (Jvm.Cond.code ({ cls := "java/util/AbstractSet", name := "<init>", desc := "()V" } : Jvm.MethodName) jdk_91_method_1_code (1 : Nat) (Option.none : Option Jvm.ClassFile.FieldType)).before args0 about1 = true := code_word (m := ⟨12, 0⟩) (meth := k12m0) (c := k12c0) (by decide +kernel) rfl rfl rfl (by decide +kernel)
set_option maxRecDepth 65536 in
theorem w_c8 : (Jvm.Cond.code ({ cls := "java/util/AbstractCollection", name := "<init>", desc := "()V" } : Jvm.MethodName) jdk_22_method_1_code (1 : Nat) (Option.none : Option Jvm.ClassFile.FieldType)).before args0 about1 = true := code_word (m := ⟨10, 0⟩) (meth := k10m0) (c := k10c0) (by decide +kernel) rfl rfl rfl (by decide +kernel)
set_option maxRecDepth 65536 in
theorem w_c9 : (Jvm.Cond.code ({ cls := "java/util/LinkedHashMap", name := "<init>", desc := "(IF)V" } : Jvm.MethodName) jdk_94_method_14_code (3 : Nat) (Option.none : Option Jvm.ClassFile.FieldType)).before args0 about1 = true := code_word (m := ⟨18, 0⟩) (meth := k18m0) (c := k18c0) (by decide +kernel) rfl rfl rfl (by decide +kernel)
set_option maxRecDepth 65536 in
theorem w_c10 : (Jvm.Cond.code ({ cls := "java/util/HashMap", name := "<init>", desc := "(IF)V" } : Jvm.MethodName) jdk_69_method_5_code (3 : Nat) (Option.none : Option Jvm.ClassFile.FieldType)).before args0 about1 = true := code_word (m := ⟨7, 1⟩) (meth := k7m1) (c := k7c1) (by decide +kernel) rfl rfl rfl (by decide +kernel)
set_option maxRecDepth 65536 in
theorem w_c11 : (Jvm.Cond.code ({ cls := "java/lang/Float", name := "isNaN", desc := "(F)Z" } : Jvm.MethodName) jdk_118_method_6_code (1 : Nat) (Option.some Jvm.ClassFile.FieldType.boolean)).before args0 about1 = true := code_word (m := ⟨23, 0⟩) (meth := k23m0) (c := k23c0) (by decide +kernel) rfl rfl rfl (by decide +kernel)
set_option maxRecDepth 65536 in
theorem w_c12 : (Jvm.Cond.code ({ cls := "java/util/HashMap", name := "tableSizeFor", desc := "(I)I" } : Jvm.MethodName) jdk_69_method_4_code (2 : Nat) (Option.some Jvm.ClassFile.FieldType.int)).before args0 about1 = true := code_word (m := ⟨7, 0⟩) (meth := k7m0) (c := k7c0) (by decide +kernel) rfl rfl rfl (by decide +kernel)
set_option maxRecDepth 65536 in
theorem w_c13 : (Jvm.Cond.code ({ cls := "java/lang/Integer", name := "numberOfLeadingZeros", desc := "(I)I" } : Jvm.MethodName) jdk_33_method_47_code (2 : Nat) (Option.some Jvm.ClassFile.FieldType.int)).before args0 about1 = true := code_word (m := ⟨24, 0⟩) (meth := k24m0) (c := k24c0) (by decide +kernel) rfl rfl rfl (by decide +kernel)
set_option maxRecDepth 65536 in
theorem w_c14 : (Jvm.Cond.code ({ cls := "com/example/rosterwright/rosterwright/Roster", name := "keepsChanges", desc := "()Z" } : Jvm.MethodName) prog_65_method_20_code (1 : Nat) (Option.some Jvm.ClassFile.FieldType.boolean)).before args0 about1 = true := code_word (m := ⟨2, 4⟩) (meth := k2m4) (c := k2c4) (by decide +kernel) rfl rfl rfl (by decide +kernel)
set_option maxRecDepth 65536 in
theorem w_c15 : (Jvm.Cond.code ({ cls := "com/example/rosterwright/rosterwright/Roster", name := "isChanged", desc := "()Z" } : Jvm.MethodName) prog_65_method_17_code (1 : Nat) (Option.some Jvm.ClassFile.FieldType.boolean)).before args0 about1 = true := code_word (m := ⟨2, 1⟩) (meth := k2m1) (c := k2c1) (by decide +kernel) rfl rfl rfl (by decide +kernel)
set_option maxRecDepth 65536 in
theorem w_c16 : (Jvm.Cond.code ({ cls := "com/example/rosterwright/rosterwright/Roster", name := "keepChanges", desc := "()V" } : Jvm.MethodName) prog_65_method_19_code (1 : Nat) (Option.none : Option Jvm.ClassFile.FieldType)).before args0 about1 = true := code_word (m := ⟨2, 3⟩) (meth := k2m3) (c := k2c3) (by decide +kernel) rfl rfl rfl (by decide +kernel)
set_option maxRecDepth 65536 in
theorem w_c17 : (Jvm.Cond.code ({ cls := "com/example/rosterwright/rosterwright/Roster", name := "markKept", desc := "()V" } : Jvm.MethodName) prog_65_method_18_code (1 : Nat) (Option.none : Option Jvm.ClassFile.FieldType)).before args0 about1 = true := code_word (m := ⟨2, 2⟩) (meth := k2m2) (c := k2c2) (by decide +kernel) rfl rfl rfl (by decide +kernel)
set_option maxRecDepth 65536 in
theorem w_c18 : (Jvm.Cond.code ({ cls := "com/example/rosterwright/rosterwright/Roster", name := "keepNoChangesNow", desc := "()V" } : Jvm.MethodName) prog_65_method_21_code (1 : Nat) (Option.none : Option Jvm.ClassFile.FieldType)).before args0 about1 = true := code_word (m := ⟨2, 5⟩) (meth := k2m5) (c := k2c5) (by decide +kernel) rfl rfl rfl (by decide +kernel)
def codes1 : List Jvm.Cond := [Jvm.Cond.code x code maxLocals ret, Jvm.Cond.code ({ cls := "com/example/rosterwright/rosterwright/Roster", name := "<init>", desc := "()V" } : Jvm.MethodName) prog_65_method_1_code (1 : Nat) (Option.none : Option Jvm.ClassFile.FieldType), Jvm.Cond.code ({ cls := "java/lang/Object", name := "<init>", desc := "()V" } : Jvm.MethodName) object_method_1_code (1 : Nat) (Option.none : Option Jvm.ClassFile.FieldType), Jvm.Cond.code ({ cls := "java/util/HashMap", name := "<init>", desc := "()V" } : Jvm.MethodName) jdk_69_method_7_code (1 : Nat) (Option.none : Option Jvm.ClassFile.FieldType), Jvm.Cond.code ({ cls := "java/util/AbstractMap", name := "<init>", desc := "()V" } : Jvm.MethodName) jdk_71_method_1_code (1 : Nat) (Option.none : Option Jvm.ClassFile.FieldType), Jvm.Cond.code ({ cls := "java/util/LinkedHashSet", name := "<init>", desc := "()V" } : Jvm.MethodName) jdk_2620_method_3_code (1 : Nat) (Option.none : Option Jvm.ClassFile.FieldType), Jvm.Cond.code ({ cls := "java/util/HashSet", name := "<init>", desc := "(IFZ)V" } : Jvm.MethodName) jdk_93_method_5_code (4 : Nat) (Option.none : Option Jvm.ClassFile.FieldType), Jvm.Cond.code ({ cls := "java/util/AbstractSet", name := "<init>", desc := "()V" } : Jvm.MethodName) jdk_91_method_1_code (1 : Nat) (Option.none : Option Jvm.ClassFile.FieldType), Jvm.Cond.code ({ cls := "java/util/AbstractCollection", name := "<init>", desc := "()V" } : Jvm.MethodName) jdk_22_method_1_code (1 : Nat) (Option.none : Option Jvm.ClassFile.FieldType), Jvm.Cond.code ({ cls := "java/util/LinkedHashMap", name := "<init>", desc := "(IF)V" } : Jvm.MethodName) jdk_94_method_14_code (3 : Nat) (Option.none : Option Jvm.ClassFile.FieldType), Jvm.Cond.code ({ cls := "java/util/HashMap", name := "<init>", desc := "(IF)V" } : Jvm.MethodName) jdk_69_method_5_code (3 : Nat) (Option.none : Option Jvm.ClassFile.FieldType), Jvm.Cond.code ({ cls := "java/lang/Float", name := "isNaN", desc := "(F)Z" } : Jvm.MethodName) jdk_118_method_6_code (1 : Nat) (Option.some Jvm.ClassFile.FieldType.boolean), Jvm.Cond.code ({ cls := "java/util/HashMap", name := "tableSizeFor", desc := "(I)I" } : Jvm.MethodName) jdk_69_method_4_code (2 : Nat) (Option.some Jvm.ClassFile.FieldType.int), Jvm.Cond.code ({ cls := "java/lang/Integer", name := "numberOfLeadingZeros", desc := "(I)I" } : Jvm.MethodName) jdk_33_method_47_code (2 : Nat) (Option.some Jvm.ClassFile.FieldType.int), Jvm.Cond.code ({ cls := "com/example/rosterwright/rosterwright/Roster", name := "keepsChanges", desc := "()Z" } : Jvm.MethodName) prog_65_method_20_code (1 : Nat) (Option.some Jvm.ClassFile.FieldType.boolean), Jvm.Cond.code ({ cls := "com/example/rosterwright/rosterwright/Roster", name := "isChanged", desc := "()Z" } : Jvm.MethodName) prog_65_method_17_code (1 : Nat) (Option.some Jvm.ClassFile.FieldType.boolean), Jvm.Cond.code ({ cls := "com/example/rosterwright/rosterwright/Roster", name := "keepChanges", desc := "()V" } : Jvm.MethodName) prog_65_method_19_code (1 : Nat) (Option.none : Option Jvm.ClassFile.FieldType), Jvm.Cond.code ({ cls := "com/example/rosterwright/rosterwright/Roster", name := "markKept", desc := "()V" } : Jvm.MethodName) prog_65_method_18_code (1 : Nat) (Option.none : Option Jvm.ClassFile.FieldType), Jvm.Cond.code ({ cls := "com/example/rosterwright/rosterwright/Roster", name := "keepNoChangesNow", desc := "()V" } : Jvm.MethodName) prog_65_method_21_code (1 : Nat) (Option.none : Option Jvm.ClassFile.FieldType)]
set_option maxRecDepth 65536 in
theorem codes_eq : words1.filter isCode = codes1 := rfl
theorem w_codes : ∀ c ∈ words1.filter isCode, c.before args0 about1 = true := by
  rw [codes_eq]
  intro c hc
  simp only [codes1, List.mem_cons, List.not_mem_nil, or_false] at hc
  rcases hc with rfl | rfl | rfl | rfl | rfl | rfl | rfl | rfl | rfl | rfl | rfl | rfl | rfl | rfl | rfl | rfl | rfl | rfl | rfl
  · exact w_c0
  · exact w_c1
  · exact w_c2
  · exact w_c3
  · exact w_c4
  · exact w_c5
  · exact w_c6
  · exact w_c7
  · exact w_c8
  · exact w_c9
  · exact w_c10
  · exact w_c11
  · exact w_c12
  · exact w_c13
  · exact w_c14
  · exact w_c15
  · exact w_c16
  · exact w_c17
  · exact w_c18
set_option maxRecDepth 65536 in
theorem w_t1 : (words1.take 24).all (fun c => isCode c || c.before args0 about1) = true := by decide +kernel
set_option maxRecDepth 65536 in
theorem w_t2 : ((words1.drop 24).take 24).all (fun c => isCode c || c.before args0 about1) = true := by decide +kernel
set_option maxRecDepth 65536 in
theorem w_t3 : (((words1.drop 24).drop 24).take 24).all (fun c => isCode c || c.before args0 about1) = true := by decide +kernel
set_option maxRecDepth 65536 in
theorem w_t4 : ((((words1.drop 24).drop 24).drop 24).take 24).all (fun c => isCode c || c.before args0 about1) = true := by decide +kernel
set_option maxRecDepth 65536 in
theorem w_t5 : (((((words1.drop 24).drop 24).drop 24).drop 24).take 24).all (fun c => isCode c || c.before args0 about1) = true := by decide +kernel
set_option maxRecDepth 65536 in
theorem w_t6 : (((((words1.drop 24).drop 24).drop 24).drop 24).drop 24).all (fun c => isCode c || c.before args0 about1) = true := by decide +kernel
theorem w_tables : (allAtoms (Jvm.Cond.code x code maxLocals ret :: tables_1)).before args0 about1 = true := by
  rw [allAtoms_all]
  show words1.all (fun c => c.before args0 about1) = true
  refine all_split ?_ w_codes
  rw [← List.take_append_drop 24 words1, List.all_append, w_t1, ← List.take_append_drop 24 (words1.drop 24), List.all_append, w_t2, ← List.take_append_drop 24 ((words1.drop 24).drop 24), List.all_append, w_t3, ← List.take_append_drop 24 (((words1.drop 24).drop 24).drop 24), List.all_append, w_t4, ← List.take_append_drop 24 ((((words1.drop 24).drop 24).drop 24).drop 24), List.all_append, w_t5, w_t6]
  rfl
set_option maxRecDepth 65536 in
theorem w_case : (Jvm.Cond.and given_1 narrow_1).before args0 about1 = true := by decide +kernel
theorem w_applies : (headSpec (Jvm.Cond.code x code maxLocals ret :: tables_1) room_1).applies x e0.platform about1 = true :=
  (Spec.applies_iff w_frames).mpr ⟨w_running, w_runnable, w_alone, w_named, w_hears, w_ripe, w_room, w_tables⟩
theorem atStart : AtStart classFile x code maxLocals ret World_1 tables_1 room_1 Calls_1 rest_1 Pre_1 launch0 p0 e0 about1 theMethod args0 below0 :=
  ⟨lists_1, trivial, launch0.admits_env _ _ _, launch0.least_env, fairChoices_fair.cas, fairChoices_fair.clock, w_frames, w_args, w_heap, w_applies, trivial, trivial, w_case⟩
end start1
theorem witness_1 : WitnessClaimed_1 := ⟨start1.p0, start1.e0, start1.about1, start1.theMethod, start1.args0, start1.below0, start1.atStart⟩
end Jvm.Pilot.@@N@@
