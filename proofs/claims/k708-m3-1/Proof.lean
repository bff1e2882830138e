import JvmDerived
import JvmDerived.Pilot.@@N@@Statement
import JvmDerived.Pilot.@@N@@Code
set_option linter.unusedVariables false
set_option linter.unusedSimpArgs false
namespace Jvm.Pilot.@@N@@
open Jvm Jvm.ClassFile Sem Op Lib Jvm.Free Jvm.Stand Jvm.LawKit Jvm.RoadKit Bundle Jvm.Pilot.@@N@@.Jvm.D
section own_walk
variable {p : Program} {l : Launch} {e : Env} {R : Room} {s : State} {m : MethodId} {args : Array Value} {below : List Frame} {meth : Method} {c : Code} {T : State} {locs : List Loc} {cells slots : Nat} {Z : State} {h h' : Heap}
def own_Fin (p : Program) (e : Env) (below : List Frame) (P : Outcome → State → Prop) (g : State) : Prop :=
  ∃ s₂ o, Steps p.tables e below g s₂ ∧ s₂.status = .running ∧ Ended s₂ below o ∧ P o s₂
def own_P (Q : Option Value → Heap → List Loc → Prop) (s : State) (k n : Nat) (o : Outcome) (s₂ : State) : Prop :=
  ∃ v L, o = .returned v ∧ Q v s₂.heap L ∧ FrameEnd s o s₂ L k n
theorem own_via {P : Outcome → State → Prop} {g g' : State} (k : ∀ t, Steps p.tables e below g' t → Steps p.tables e below g t) (H : own_Fin p e below P g') : own_Fin p e below P g := by
  obtain ⟨s₂, o, a, b⟩ := H
  exact ⟨s₂, o, k _ a, b⟩
theorem own_ret {v : Option Value} {g : State} {Q : Option Value → Heap → List Loc → Prop} {k n : Nat} (X : Stand p l e R s m args below meth c T locs cells slots) (hlk : meth.locks = false) (hv : meth.sig.returnType = none → v = none)
    (hst : ∀ fs, (∀ (f : JFrame) (acts : List Action), f.method = m → f.locked = none → f.entered = [] → (doReturn e (T.setTop f) acts v).1 = T.setFrames fs) → Steps p.tables e below g (T.setFrames fs))
    (hQ : Q v T.heap locs) (hk : cells ≤ k) (hn : slots ≤ n) : own_Fin p e below (own_P Q s k n) g := by
  obtain ⟨fs, hr, hrun, hended, hW, hsame⟩ := X.leave (v := v) hv hlk
  exact ⟨_, _, hst fs hr, hrun, hended, _, _, rfl, hQ, ⟨_, rfl⟩, hW, hsame.mono hk hn⟩
theorem own_retW {w : Value} {t : FieldType} {i : Instr} {pc : Nat} {Ls : Array Slot} {rest : List Value} {Q : Option Value → Heap → List Loc → Prop} {k n : Nat} (X : Stand p l e R s m args below meth c T locs cells slots) (hx : p.tables.exec = Jvm.exec) (hlk : meth.locks = false) (hret : meth.sig.returnType = some t) (hnw : narrow t w = w)
    (hi : (i = .ireturn ∧ (t = .int ∨ t = .boolean ∨ t = .byte ∨ t = .char ∨ t = .short) ∧ ∃ z, w = .int z) ∨ (i = .lreturn ∧ t = .long ∧ ∃ z, w = .long z) ∨ (i = .dreturn ∧ t = .double ∧ ∃ z, w = .double z) ∨ (i = .freturn ∧ t = .float ∧ ∃ z, w = .float z) ∨ (i = .areturn ∧ t.isReference = true ∧ w.isRef = true))
    (hd : decode c.code pc = .ok (i, 1)) (hQ : Q (some w) T.heap locs) (hk : cells ≤ k) (hn : slots ≤ n) : own_Fin p e below (own_P Q s k n) (T.setTop (mkF m pc Ls (w :: rest))) :=
  own_ret X hlk (fun q => by rw [hret] at q; cases q) (fun fs hr => retOut X hx hret hnw hi hd hr) hQ hk hn
theorem own_retI {z : Int32} {pc : Nat} {Ls : Array Slot} {rest : List Value} {Q : Option Value → Heap → List Loc → Prop} {k n : Nat} (X : Stand p l e R s m args below meth c T locs cells slots) (hx : p.tables.exec = Jvm.exec) (hlk : meth.locks = false) (hret : meth.sig.returnType = some .int)
    (hd : decode c.code pc = .ok (.ireturn, 1)) (hQ : Q (some (.int z)) T.heap locs) (hk : cells ≤ k) (hn : slots ≤ n) : own_Fin p e below (own_P Q s k n) (T.setTop (mkF m pc Ls (.int z :: rest))) :=
  own_retW X hx hlk hret rfl (Or.inl ⟨rfl, Or.inl rfl, z, rfl⟩) hd hQ hk hn
theorem own_retJ {z : Int64} {pc : Nat} {Ls : Array Slot} {rest : List Value} {Q : Option Value → Heap → List Loc → Prop} {k n : Nat} (X : Stand p l e R s m args below meth c T locs cells slots) (hx : p.tables.exec = Jvm.exec) (hlk : meth.locks = false) (hret : meth.sig.returnType = some .long)
    (hd : decode c.code pc = .ok (.lreturn, 1)) (hQ : Q (some (.long z)) T.heap locs) (hk : cells ≤ k) (hn : slots ≤ n) : own_Fin p e below (own_P Q s k n) (T.setTop (mkF m pc Ls (.long z :: rest))) :=
  own_retW X hx hlk hret rfl (Or.inr (Or.inl ⟨rfl, rfl, z, rfl⟩)) hd hQ hk hn
theorem own_nref {t : FieldType} {w : Value} (hw : w.isRef = true) : narrow t w = w := by
  cases w <;> first | (cases t <;> rfl) | (cases hw)
theorem own_fitR {c : String} {w : Value} (hw : w.isRef = true) : fits (.object c) w = true := by
  cases w <;> first | rfl | (cases hw)
theorem own_retA {w : Value} {t : FieldType} {pc : Nat} {Ls : Array Slot} {rest : List Value} {Q : Option Value → Heap → List Loc → Prop} {k n : Nat} (X : Stand p l e R s m args below meth c T locs cells slots) (hx : p.tables.exec = Jvm.exec) (hlk : meth.locks = false) (hw : w.isRef = true) (hret : meth.sig.returnType = some t) (ht : t.isReference = true)
    (hd : decode c.code pc = .ok (.areturn, 1)) (hQ : Q (some w) T.heap locs) (hk : cells ≤ k) (hn : slots ≤ n) : own_Fin p e below (own_P Q s k n) (T.setTop (mkF m pc Ls (w :: rest))) :=
  own_retW X hx hlk hret (own_nref hw) (Or.inr (Or.inr (Or.inr (Or.inr ⟨rfl, ht, hw⟩)))) hd hQ hk hn
theorem own_retB {z : Int32} {t : FieldType} {pc : Nat} {Ls : Array Slot} {rest : List Value} {Q : Option Value → Heap → List Loc → Prop} {k n : Nat} (X : Stand p l e R s m args below meth c T locs cells slots) (hx : p.tables.exec = Jvm.exec) (hlk : meth.locks = false) (hret : meth.sig.returnType = some t) (ht : t = .boolean ∨ t = .byte ∨ t = .char ∨ t = .short)
    (hd : decode c.code pc = .ok (.ireturn, 1)) (hQ : Q (some (.int (nar t z))) T.heap locs) (hk : cells ≤ k) (hn : slots ≤ n) : own_Fin p e below (own_P Q s k n) (T.setTop (mkF m pc Ls (.int z :: rest))) :=
  own_ret X hlk (fun q => by rw [hret] at q; cases q) (fun fs hr => retN X hx hret ht hd hr) hQ hk hn
theorem own_retV {pc : Nat} {Ls : Array Slot} {Q : Option Value → Heap → List Loc → Prop} {k n : Nat} (X : Stand p l e R s m args below meth c T locs cells slots) (hx : p.tables.exec = Jvm.exec) (hlk : meth.locks = false) (hret : meth.sig.returnType = none)
    (hd : decode c.code pc = .ok (.return_, 1)) (hQ : Q none T.heap locs) (hk : cells ≤ k) (hn : slots ≤ n) : own_Fin p e below (own_P Q s k n) (T.setTop (mkF m pc Ls [])) :=
  own_ret X hlk (fun _ => rfl) (fun fs hr => X.returnOut hx hret hd hr) hQ hk hn
/-- an array: its kind and its members -/
def own_Ar (Z : State) (h : Heap) (a : Addr) (ty : FieldType) (L : List Value) : Prop := ∃ c : Cell, Arr Z h a c ty ∧ c.slots.toList = L
theorem own_Ar.ext {a : Addr} {ty : FieldType} {L : List Value} (F : own_Ar Z h a ty L) (E : Ext h h') : own_Ar Z h' a ty L := by obtain ⟨c, A, r⟩ := F; exact ⟨c, A.ext E, r⟩
theorem own_Ar.other {a b : Addr} {sl : Nat} {v : Value} {ty : FieldType} {L : List Value} (F : own_Ar Z h b ty L) (W : Wr h h' a sl v) (q : b ≠ a) : own_Ar Z h' b ty L := by obtain ⟨c, A, r⟩ := F; exact ⟨c, A.other W q, r⟩
theorem own_Ar.keep {a : Addr} {ws : List Addr} {ty : FieldType} {L : List Value} (F : own_Ar Z h a ty L) (K : Keep h h' ws) (q : a ∉ ws) : own_Ar Z h' a ty L := by obtain ⟨c, A, r⟩ := F; exact ⟨c, ⟨K.2.1 a c A.1 q, A.2⟩, r⟩
theorem own_Ar.lt {a : Addr} {ty : FieldType} {L : List Value} (F : own_Ar Z h a ty L) : a < h.size := by obtain ⟨c, A, r⟩ := F; exact A.lt
theorem own_Ar.set {a : Addr} {j : Nat} {v : Value} {ty : FieldType} {L : List Value} (F : own_Ar Z h a ty L) (W : Wr h h' a j v) : own_Ar Z h' a ty (L.set j v) := by
  obtain ⟨c, A, r⟩ := F
  refine ⟨_, A.same W, ?_⟩
  subst r
  simp [Cell.setSlot]
theorem own_in {c : Cell} {L : List Value} (r : c.slots.toList = L) {j : Int32} (h0 : ¬ j < 0) (hj : j.toNatClampNeg < L.length) : ¬ (j < 0 ∨ c.slots.size ≤ j.toNatClampNeg) := by
  subst r
  simp only [Array.length_toList] at hj
  intro q
  rcases q with q | q
  · exact h0 q
  · omega
theorem own_at {c : Cell} {L : List Value} (r : c.slots.toList = L) {j : Nat} {v : Value} (hv : L[j]? = some v) : c.slots[j]? = some v := by
  subst r; simpa using hv
theorem own_inv {c : Cell} {L : List Value} (r : c.slots.toList = L) {j : Int32} {v : Value} (h0 : ¬ j < 0) (hv : L[j.toNatClampNeg]? = some v) : ¬ (j < 0 ∨ c.slots.size ≤ j.toNatClampNeg) :=
  own_in r h0 (List.getElem?_eq_some_iff.mp hv).1
theorem own_newP {a0 : Array Value} (X : Stand p l e R s m args below meth c T locs cells slots) (hx : p.tables.exec = Jvm.exec) (hZ : Z.Warmed39 s.vm) {aty : ArrayType} (w : (Cond.arrayClass (newarray.typeOf aty)).before a0 Z = true) (eT : T.heap = h) {g : JFrame} (hg : g.method = m) (hd : decode c.code g.pc = .ok (.newarray aty, 2)) {n : Int32} {rest : List Value} (hs : g.stack = .int n :: rest)
    (hn : ¬ n < 0) {cap : Nat} (hcap : n.toNatClampNeg ≤ cap) (hb : cap * 8 ≤ 536870912) (hc : cells + 1 ≤ R.cells) (hl : slots + cap ≤ R.slots) :
    ∃ T' h', Stand p l e R s m args below meth c T' locs (cells + 1) (slots + cap) ∧ T'.heap = h' ∧ Ext h h' ∧ own_Ar Z h' h.size (newarray.typeOf aty) (List.replicate n.toNatClampNeg (defaultValue (newarray.typeOf aty))) ∧
      ∀ target, Steps p.tables e below (T'.setTop { g with pc := g.pc + 2, stack := .ref h.size :: rest }) target → Steps p.tables e below (T.setTop g) target := by
  obtain ⟨T', h', cA, X', e', E', A', st⟩ := newP X hx hZ w eT hg hd hs hn hcap hb hc hl
  exact ⟨T', h', X', e', E', ⟨_, A', by simp [newA]⟩, st⟩
theorem own_stJ (X : Stand p l e R s m args below meth c T locs cells slots) (hx : p.tables.exec = Jvm.exec) (hZ : Z.Warmed39 s.vm) (eT : T.heap = h) {a : Addr} {L : List Value} (A : own_Ar Z h a .long L) {j : Int32} {x : Int64} (h0 : ¬ j < 0) (hj : j.toNatClampNeg < L.length) {g : JFrame} (hg : g.method = m) {rest : List Value} (hs : g.stack = .long x :: .int j :: .ref a :: rest) (hd : decode c.code g.pc = .ok (.lastore, 1)) :
    ∃ T' h', Stand p l e R s m args below meth c T' (locs ++ [⟨a, j.toNatClampNeg⟩]) cells slots ∧ T'.heap = h' ∧ Wr h h' a j.toNatClampNeg (.long x) ∧ own_Ar Z h' a .long (L.set j.toNatClampNeg (.long x)) ∧ ∀ target, Steps p.tables e below (T'.setTop { g with pc := g.pc + 1, stack := rest }) target → Steps p.tables e below (T.setTop g) target := by
  obtain ⟨cl, A', r⟩ := id A
  obtain ⟨T', h', X', e', W', st⟩ := stJ X hx hZ eT A' (own_in r h0 hj) hg hs hd
  exact ⟨T', h', X', e', W', A.set W', st⟩
theorem own_stI (X : Stand p l e R s m args below meth c T locs cells slots) (hx : p.tables.exec = Jvm.exec) (hZ : Z.Warmed39 s.vm) (eT : T.heap = h) {a : Addr} {L : List Value} (A : own_Ar Z h a .int L) {j : Int32} {x : Int32} (h0 : ¬ j < 0) (hj : j.toNatClampNeg < L.length) {g : JFrame} (hg : g.method = m) {rest : List Value} (hs : g.stack = .int x :: .int j :: .ref a :: rest) (hd : decode c.code g.pc = .ok (.iastore, 1)) :
    ∃ T' h', Stand p l e R s m args below meth c T' (locs ++ [⟨a, j.toNatClampNeg⟩]) cells slots ∧ T'.heap = h' ∧ Wr h h' a j.toNatClampNeg (.int x) ∧ own_Ar Z h' a .int (L.set j.toNatClampNeg (.int x)) ∧ ∀ target, Steps p.tables e below (T'.setTop { g with pc := g.pc + 1, stack := rest }) target → Steps p.tables e below (T.setTop g) target := by
  obtain ⟨cl, A', r⟩ := id A
  obtain ⟨T', h', X', e', W', st⟩ := stI X hx hZ eT A' (own_in r h0 hj) hg hs hd
  exact ⟨T', h', X', e', W', A.set W', st⟩
theorem own_stB (X : Stand p l e R s m args below meth c T locs cells slots) (hx : p.tables.exec = Jvm.exec) (hZ : Z.Warmed39 s.vm) (eT : T.heap = h) {a : Addr} {L : List Value} (A : own_Ar Z h a .byte L) {j : Int32} {x : Int32} (h0 : ¬ j < 0) (hj : j.toNatClampNeg < L.length) {g : JFrame} (hg : g.method = m) {rest : List Value} (hs : g.stack = .int x :: .int j :: .ref a :: rest) (hd : decode c.code g.pc = .ok (.bastore, 1)) :
    ∃ T' h', Stand p l e R s m args below meth c T' (locs ++ [⟨a, j.toNatClampNeg⟩]) cells slots ∧ T'.heap = h' ∧ Wr h h' a j.toNatClampNeg (.int (nar .byte x)) ∧ own_Ar Z h' a .byte (L.set j.toNatClampNeg (.int (nar .byte x))) ∧ ∀ target, Steps p.tables e below (T'.setTop { g with pc := g.pc + 1, stack := rest }) target → Steps p.tables e below (T.setTop g) target := by
  obtain ⟨cl, A', r⟩ := id A
  obtain ⟨T', h', X', e', W', st⟩ := stB X hx hZ eT A' (own_in r h0 hj) hg hs hd
  exact ⟨T', h', X', e', W', A.set W', st⟩
theorem own_stZ (X : Stand p l e R s m args below meth c T locs cells slots) (hx : p.tables.exec = Jvm.exec) (hZ : Z.Warmed39 s.vm) (eT : T.heap = h) {a : Addr} {L : List Value} (A : own_Ar Z h a .boolean L) {j : Int32} {x : Int32} (h0 : ¬ j < 0) (hj : j.toNatClampNeg < L.length) {g : JFrame} (hg : g.method = m) {rest : List Value} (hs : g.stack = .int x :: .int j :: .ref a :: rest) (hd : decode c.code g.pc = .ok (.bastore, 1)) :
    ∃ T' h', Stand p l e R s m args below meth c T' (locs ++ [⟨a, j.toNatClampNeg⟩]) cells slots ∧ T'.heap = h' ∧ Wr h h' a j.toNatClampNeg (.int (nar .boolean x)) ∧ own_Ar Z h' a .boolean (L.set j.toNatClampNeg (.int (nar .boolean x))) ∧ ∀ target, Steps p.tables e below (T'.setTop { g with pc := g.pc + 1, stack := rest }) target → Steps p.tables e below (T.setTop g) target := by
  obtain ⟨cl, A', r⟩ := id A
  obtain ⟨T', h', X', e', W', st⟩ := stZ X hx hZ eT A' (own_in r h0 hj) hg hs hd
  exact ⟨T', h', X', e', W', A.set W', st⟩
theorem own_stC (X : Stand p l e R s m args below meth c T locs cells slots) (hx : p.tables.exec = Jvm.exec) (hZ : Z.Warmed39 s.vm) (eT : T.heap = h) {a : Addr} {L : List Value} (A : own_Ar Z h a .char L) {j : Int32} {x : Int32} (h0 : ¬ j < 0) (hj : j.toNatClampNeg < L.length) {g : JFrame} (hg : g.method = m) {rest : List Value} (hs : g.stack = .int x :: .int j :: .ref a :: rest) (hd : decode c.code g.pc = .ok (.castore, 1)) :
    ∃ T' h', Stand p l e R s m args below meth c T' (locs ++ [⟨a, j.toNatClampNeg⟩]) cells slots ∧ T'.heap = h' ∧ Wr h h' a j.toNatClampNeg (.int (nar .char x)) ∧ own_Ar Z h' a .char (L.set j.toNatClampNeg (.int (nar .char x))) ∧ ∀ target, Steps p.tables e below (T'.setTop { g with pc := g.pc + 1, stack := rest }) target → Steps p.tables e below (T.setTop g) target := by
  obtain ⟨cl, A', r⟩ := id A
  obtain ⟨T', h', X', e', W', st⟩ := stC X hx hZ eT A' (own_in r h0 hj) hg hs hd
  exact ⟨T', h', X', e', W', A.set W', st⟩
theorem own_ldJ (X : Stand p l e R s m args below meth c T locs cells slots) (hx : p.tables.exec = Jvm.exec) (hZ : Z.Warmed39 s.vm) (eT : T.heap = h) {a : Addr} {L : List Value} (A : own_Ar Z h a .long L) {j : Int32} {v : Value} (h0 : ¬ j < 0) (hv : L[j.toNatClampNeg]? = some v) {g : JFrame} (hg : g.method = m) {rest : List Value} (hs : g.stack = .int j :: .ref a :: rest) (hd : decode c.code g.pc = .ok (.laload, 1)) (target : State)
    (hr : Steps p.tables e below (T.setTop { g with pc := g.pc + 1, stack := v :: rest }) target) : Steps p.tables e below (T.setTop g) target := by
  obtain ⟨cl, A', r⟩ := A
  exact X.laload hx (by rw [eT]; exact A'.1) (State.isArrayOf_alike hZ.alike A'.2.1) A'.2.2 (own_inv r h0 hv) (own_at r hv) hg hs hd target hr
theorem own_ldI (X : Stand p l e R s m args below meth c T locs cells slots) (hx : p.tables.exec = Jvm.exec) (hZ : Z.Warmed39 s.vm) (eT : T.heap = h) {a : Addr} {L : List Value} (A : own_Ar Z h a .int L) {j : Int32} {v : Value} (h0 : ¬ j < 0) (hv : L[j.toNatClampNeg]? = some v) {g : JFrame} (hg : g.method = m) {rest : List Value} (hs : g.stack = .int j :: .ref a :: rest) (hd : decode c.code g.pc = .ok (.iaload, 1)) (target : State)
    (hr : Steps p.tables e below (T.setTop { g with pc := g.pc + 1, stack := v :: rest }) target) : Steps p.tables e below (T.setTop g) target := by
  obtain ⟨cl, A', r⟩ := A
  exact X.iaload hx (by rw [eT]; exact A'.1) (State.isArrayOf_alike hZ.alike A'.2.1) A'.2.2 (own_inv r h0 hv) (own_at r hv) hg hs hd target hr
theorem own_ldB (X : Stand p l e R s m args below meth c T locs cells slots) (hx : p.tables.exec = Jvm.exec) (hZ : Z.Warmed39 s.vm) (eT : T.heap = h) {a : Addr} {L : List Value} (A : own_Ar Z h a .byte L) {j : Int32} {v : Value} (h0 : ¬ j < 0) (hv : L[j.toNatClampNeg]? = some v) {g : JFrame} (hg : g.method = m) {rest : List Value} (hs : g.stack = .int j :: .ref a :: rest) (hd : decode c.code g.pc = .ok (.baload, 1)) (target : State)
    (hr : Steps p.tables e below (T.setTop { g with pc := g.pc + 1, stack := v :: rest }) target) : Steps p.tables e below (T.setTop g) target := by
  obtain ⟨cl, A', r⟩ := A
  exact X.baloadBytes hx (by rw [eT]; exact A'.1) (State.isArrayOf_alike hZ.alike A'.2.1) A'.2.2 (own_inv r h0 hv) (own_at r hv) hg hs hd target hr
theorem own_ldZ (X : Stand p l e R s m args below meth c T locs cells slots) (hx : p.tables.exec = Jvm.exec) (hZ : Z.Warmed39 s.vm) (eT : T.heap = h) {a : Addr} {L : List Value} (A : own_Ar Z h a .boolean L) {j : Int32} {v : Value} (h0 : ¬ j < 0) (hv : L[j.toNatClampNeg]? = some v) {g : JFrame} (hg : g.method = m) {rest : List Value} (hs : g.stack = .int j :: .ref a :: rest) (hd : decode c.code g.pc = .ok (.baload, 1)) (target : State)
    (hr : Steps p.tables e below (T.setTop { g with pc := g.pc + 1, stack := v :: rest }) target) : Steps p.tables e below (T.setTop g) target := by
  obtain ⟨cl, A', r⟩ := A
  exact X.baloadBooleans hx (by rw [eT]; exact A'.1) (State.isArrayOf_alike hZ.alike A'.2.1) A'.2.2 (own_inv r h0 hv) (own_at r hv) hg hs hd target hr
theorem own_ldC (X : Stand p l e R s m args below meth c T locs cells slots) (hx : p.tables.exec = Jvm.exec) (hZ : Z.Warmed39 s.vm) (eT : T.heap = h) {a : Addr} {L : List Value} (A : own_Ar Z h a .char L) {j : Int32} {v : Value} (h0 : ¬ j < 0) (hv : L[j.toNatClampNeg]? = some v) {g : JFrame} (hg : g.method = m) {rest : List Value} (hs : g.stack = .int j :: .ref a :: rest) (hd : decode c.code g.pc = .ok (.caload, 1)) (target : State)
    (hr : Steps p.tables e below (T.setTop { g with pc := g.pc + 1, stack := v :: rest }) target) : Steps p.tables e below (T.setTop g) target := by
  obtain ⟨cl, A', r⟩ := A
  exact X.caload hx (by rw [eT]; exact A'.1) (State.isArrayOf_alike hZ.alike A'.2.1) A'.2.2 (own_inv r h0 hv) (own_at r hv) hg hs hd target hr
theorem own_len (X : Stand p l e R s m args below meth c T locs cells slots) (hx : p.tables.exec = Jvm.exec) (hZ : Z.Warmed39 s.vm) (eT : T.heap = h) {a : Addr} {ty : FieldType} {L : List Value} (A : own_Ar Z h a ty L) {n : Int32} (hn : L.length.toInt32 = n) {g : JFrame} (hg : g.method = m) {rest : List Value} (hs : g.stack = .ref a :: rest) (hd : decode c.code g.pc = .ok (.arraylength, 1)) (target : State)
    (hr : Steps p.tables e below (T.setTop { g with pc := g.pc + 1, stack := .int n :: rest }) target) : Steps p.tables e below (T.setTop g) target := by
  obtain ⟨cl, A', r⟩ := A
  refine X.arraylength hx (by rw [eT]; exact A'.1) (State.isArrayOf_alike hZ.alike A'.2.1) hg hs hd target ?_
  have q : cl.slots.size.toInt32 = n := by rw [← hn, ← r]; simp
  rw [q]; exact hr
theorem own_sta_keep {C n d : String} {w : Value} {ws : List Addr} (F : Sta Z h C n d w) (K : Keep h h' ws) (q : ∀ (a : Addr) (c : Cell), h[a]? = some c → c.vm.isStatics = true → a ∉ ws) : Sta Z h' C n d w := by
  obtain ⟨cf, i, k, f, st, cell, h1, h2, h3, h4, h5, h6, h7⟩ := F
  exact ⟨cf, i, k, f, st, cell, h1, h2, h3, h4, K.2.1 st cell h5 (q st cell h5 h6), h6, h7⟩
theorem own_nr {a b : Addr} (q : ¬ Value.ref a = Value.ref b) : ¬ a = b := fun r => q (congrArg Value.ref r)
end own_walk
section own_walkS
variable {p : Program} {l : Launch} {e : Env} {R : Room} {s : State} {vm0 : Vm} {kS : Nat} {m : MethodId} {args : Array Value} {below : List Frame} {meth : Method} {c : Code} {T : State} {locs : List Loc} {cells slots : Nat} {Z : State} {h h' : Heap}
def own_PW (Q : Option Value → Heap → List Loc → Prop) (s : State) (k n : Nat) (o : Outcome) (s₂ : State) : Prop :=
  ∃ v L, o = .returned v ∧ Q v s₂.heap L ∧ ReturnedEndW s o s₂ L k n
theorem own_retS {v : Option Value} {g : State} {Q : Option Value → Heap → List Loc → Prop} {k n : Nat} (X : Stand p l e R (s.setVm vm0) m args below meth c T locs cells slots) (hS : s.Since vm0 kS) (hk : kS ≤ T.heap.size) (hlk : meth.locks = false) (hv : meth.sig.returnType = none → v = none)
    (hst : ∀ fs, (∀ (f : JFrame) (acts : List Action), f.method = m → f.locked = none → f.entered = [] → (doReturn e (T.setTop f) acts v).1 = T.setFrames fs) → Steps p.tables e below g (T.setFrames fs))
    (hQ : Q v T.heap locs) (hc : cells ≤ k) (hn : slots ≤ n) : own_Fin p e below (own_PW Q s k n) g := by
  obtain ⟨fs, hr, hrun, hended, hE⟩ := X.leaveW hS hk (v := v) hv hlk
  exact ⟨_, _, hst fs hr, hrun, hended, _, _, rfl, hQ, hE.1, hE.2.1, hE.2.2.1, hE.2.2.2.mono hc hn⟩
theorem own_retWS {w : Value} {t : FieldType} {i : Instr} {pc : Nat} {Ls : Array Slot} {rest : List Value} {Q : Option Value → Heap → List Loc → Prop} {k n : Nat} (X : Stand p l e R (s.setVm vm0) m args below meth c T locs cells slots) (hS : s.Since vm0 kS) (hkS : kS ≤ T.heap.size) (hx : p.tables.exec = Jvm.exec) (hlk : meth.locks = false) (hret : meth.sig.returnType = some t) (hnw : narrow t w = w)
    (hi : (i = .ireturn ∧ (t = .int ∨ t = .boolean ∨ t = .byte ∨ t = .char ∨ t = .short) ∧ ∃ z, w = .int z) ∨ (i = .lreturn ∧ t = .long ∧ ∃ z, w = .long z) ∨ (i = .dreturn ∧ t = .double ∧ ∃ z, w = .double z) ∨ (i = .freturn ∧ t = .float ∧ ∃ z, w = .float z) ∨ (i = .areturn ∧ t.isReference = true ∧ w.isRef = true))
    (hd : decode c.code pc = .ok (i, 1)) (hQ : Q (some w) T.heap locs) (hk : cells ≤ k) (hn : slots ≤ n) : own_Fin p e below (own_PW Q s k n) (T.setTop (mkF m pc Ls (w :: rest))) :=
  own_retS X hS hkS hlk (fun q => by rw [hret] at q; cases q) (fun fs hr => retOut X hx hret hnw hi hd hr) hQ hk hn
theorem own_retIS {z : Int32} {pc : Nat} {Ls : Array Slot} {rest : List Value} {Q : Option Value → Heap → List Loc → Prop} {k n : Nat} (X : Stand p l e R (s.setVm vm0) m args below meth c T locs cells slots) (hS : s.Since vm0 kS) (hkS : kS ≤ T.heap.size) (hx : p.tables.exec = Jvm.exec) (hlk : meth.locks = false) (hret : meth.sig.returnType = some .int)
    (hd : decode c.code pc = .ok (.ireturn, 1)) (hQ : Q (some (.int z)) T.heap locs) (hk : cells ≤ k) (hn : slots ≤ n) : own_Fin p e below (own_PW Q s k n) (T.setTop (mkF m pc Ls (.int z :: rest))) :=
  own_retWS X hS hkS hx hlk hret rfl (Or.inl ⟨rfl, Or.inl rfl, z, rfl⟩) hd hQ hk hn
theorem own_retJS {z : Int64} {pc : Nat} {Ls : Array Slot} {rest : List Value} {Q : Option Value → Heap → List Loc → Prop} {k n : Nat} (X : Stand p l e R (s.setVm vm0) m args below meth c T locs cells slots) (hS : s.Since vm0 kS) (hkS : kS ≤ T.heap.size) (hx : p.tables.exec = Jvm.exec) (hlk : meth.locks = false) (hret : meth.sig.returnType = some .long)
    (hd : decode c.code pc = .ok (.lreturn, 1)) (hQ : Q (some (.long z)) T.heap locs) (hk : cells ≤ k) (hn : slots ≤ n) : own_Fin p e below (own_PW Q s k n) (T.setTop (mkF m pc Ls (.long z :: rest))) :=
  own_retWS X hS hkS hx hlk hret rfl (Or.inr (Or.inl ⟨rfl, rfl, z, rfl⟩)) hd hQ hk hn
theorem own_retAS {w : Value} {t : FieldType} {pc : Nat} {Ls : Array Slot} {rest : List Value} {Q : Option Value → Heap → List Loc → Prop} {k n : Nat} (X : Stand p l e R (s.setVm vm0) m args below meth c T locs cells slots) (hS : s.Since vm0 kS) (hkS : kS ≤ T.heap.size) (hx : p.tables.exec = Jvm.exec) (hlk : meth.locks = false) (hw : w.isRef = true) (hret : meth.sig.returnType = some t) (ht : t.isReference = true)
    (hd : decode c.code pc = .ok (.areturn, 1)) (hQ : Q (some w) T.heap locs) (hk : cells ≤ k) (hn : slots ≤ n) : own_Fin p e below (own_PW Q s k n) (T.setTop (mkF m pc Ls (w :: rest))) :=
  own_retWS X hS hkS hx hlk hret (own_nref hw) (Or.inr (Or.inr (Or.inr (Or.inr ⟨rfl, ht, hw⟩)))) hd hQ hk hn
theorem own_retBS {z : Int32} {t : FieldType} {pc : Nat} {Ls : Array Slot} {rest : List Value} {Q : Option Value → Heap → List Loc → Prop} {k n : Nat} (X : Stand p l e R (s.setVm vm0) m args below meth c T locs cells slots) (hS : s.Since vm0 kS) (hkS : kS ≤ T.heap.size) (hx : p.tables.exec = Jvm.exec) (hlk : meth.locks = false) (hret : meth.sig.returnType = some t) (ht : t = .boolean ∨ t = .byte ∨ t = .char ∨ t = .short)
    (hd : decode c.code pc = .ok (.ireturn, 1)) (hQ : Q (some (.int (nar t z))) T.heap locs) (hk : cells ≤ k) (hn : slots ≤ n) : own_Fin p e below (own_PW Q s k n) (T.setTop (mkF m pc Ls (.int z :: rest))) :=
  own_retS X hS hkS hlk (fun q => by rw [hret] at q; cases q) (fun fs hr => retN X hx hret ht hd hr) hQ hk hn
theorem own_retVS {pc : Nat} {Ls : Array Slot} {Q : Option Value → Heap → List Loc → Prop} {k n : Nat} (X : Stand p l e R (s.setVm vm0) m args below meth c T locs cells slots) (hS : s.Since vm0 kS) (hkS : kS ≤ T.heap.size) (hx : p.tables.exec = Jvm.exec) (hlk : meth.locks = false) (hret : meth.sig.returnType = none)
    (hd : decode c.code pc = .ok (.return_, 1)) (hQ : Q none T.heap locs) (hk : cells ≤ k) (hn : slots ≤ n) : own_Fin p e below (own_PW Q s k n) (T.setTop (mkF m pc Ls [])) :=
  own_retS X hS hkS hlk (fun _ => rfl) (fun fs hr => X.returnOut hx hret hd hr) hQ hk hn
end own_walkS
theorem own_eqi {args : Array Value} {s : State} {t : Term} {k : Int32} (h : (Jvm.Cond.eq t (.int k)).value args s none s [] = some true) : t.eval args s none [] s = some (.int k) := by
  obtain ⟨u, v, hu, hv, -, kk⟩ := cmp_v (Or.inl h)
  have ev : v = .int k := Option.some.inj (hv.symm.trans (Term.int_eval k))
  subst ev
  obtain ⟨z, rfl⟩ := kk
  rw [hu, gotT (Cond.eq_ints hu hv) h]
theorem own_ord {args : Array Value} {s : State} {t : Term} {x : Addr} {C n d : String} {k : Int32} (e : t.eval args s none [] s = some (.ref x)) (h : (Jvm.Cond.eq (.field t C n d) (.int k)).value args s none s [] = some true) : s.fieldOf? x C n d = some (.int k) := by
  obtain ⟨u, v, hu, hv, -, kk⟩ := cmp_v (Or.inl h)
  have ev : v = .int k := Option.some.inj (hv.symm.trans (Term.int_eval k))
  subst ev
  obtain ⟨z, rfl⟩ := kk
  rw [fld_at e] at hu
  have hu' : (Term.field t C n d).eval args s none [] s = some (.int z) := by rw [fld_at e]; exact hu
  rw [hu, gotT (Cond.eq_ints hu' hv) h]
theorem own_wS {Z : State} {a0 : Array Value} (hw : ∀ d ∈ tables_1, d.before a0 Z = true) : ∀ a ∈ Bundle.stringAtoms, a.before a0 Z = true := fun d hd => by
  simp only [Bundle.stringAtoms, List.mem_cons, List.not_mem_nil, or_false] at hd
  rcases hd with rfl | rfl | rfl | rfl | rfl | rfl | rfl
  · exact (hw _ (List.mem_of_getElem? (i := 6) rfl))
  · exact (hw _ (List.mem_of_getElem? (i := 5) rfl))
  · exact (hw _ (List.mem_of_getElem? (i := 23) rfl))
  · exact (hw _ (List.mem_of_getElem? (i := 33) rfl))
  · exact (hw _ (List.mem_of_getElem? (i := 31) rfl))
  · exact (hw _ (List.mem_of_getElem? (i := 68) rfl))
  · exact (hw _ (List.mem_of_getElem? (i := 69) rfl))
abbrev own_EL : List (String × Nat) := consts_1
theorem own_hEL {Z : State} {a0 : Array Value} (hw : ∀ d ∈ tables_1, d.before a0 Z = true) : EW Z a0 own_EL := (EW.cons (hw _ (List.mem_of_getElem? (i := 67) rfl)) (by decide) (EW.nil))
section own_walkH
variable {p : Program} {l : Launch} {e : Env} {R : Room} {s : State} {vm0 : Vm} {kS : Nat} {m : MethodId} {args : Array Value} {below : List Frame} {meth : Method} {c : Code} {T : State} {locs : List Loc} {cells slots : Nat} {Z : State} {h h' : Heap}
def own_PH (Z : State) (Q : Option Value → Heap → List Loc → Prop) (s : State) (k n : Nat) (o : Outcome) (s₂ : State) : Prop :=
  ∃ v L, o = .returned v ∧ Q v s₂.heap L ∧ CHr Z own_EL s.vm s.heap s₂.vm s₂.heap ∧ ReturnedEndW s o s₂ L k n
theorem own_Ar.safe {EL : List (String × Nat)} {vm : Vm} {a : Addr} {ty : FieldType} {L : List Value} (hal : Z.vm.Alike vm) (F : own_Ar Z h a ty L) (ht : ty ≠ .byte) : Safe Z EL vm h a := by
  obtain ⟨c, A, -⟩ := F; exact Safe.arr hal A ht
theorem own_Ar.ofArv {a : Addr} {k : ClassId} {ty : FieldType} {z : Int32} {vs : List Value} {d : Value} (F : Arv Z h a k ty z vs d) (hl : z.toNatClampNeg = vs.length) : own_Ar Z h a ty vs := by
  obtain ⟨c, A, -, hs, -, H, -⟩ := F
  refine ⟨c, A, ?_⟩
  apply List.ext_getElem?
  intro i
  by_cases hi : i < c.slots.size
  · have q := H i hi
    have hv : i < vs.length := by omega
    rw [Array.getElem?_toList, q, List.getElem?_eq_getElem hv]
    simp [List.getD, List.getElem?_eq_getElem hv]
  · rw [List.getElem?_eq_none (by simp only [Array.length_toList]; omega), List.getElem?_eq_none (by omega)]
theorem own_backH {EL : List (String × Nat)} {a0 : Array Value} {y : MethodName} {bytes : ByteArray} {maxL : Nat} {ret : Option FieldType} {rm : Room} {len W : Nat} {as' : Array Value} {xs : List Addr} {Q : Option Value → Heap → List Loc → Prop}
    (hM : MetFree l y (head1 [Jvm.Cond.code y bytes maxL ret] rm) (fun a U => a = as' ∧ Z.Warmed39 U.vm ∧ U.heap = h ∧ CHv Z EL U.vm h ∧ ∀ x ∈ xs, Safe Z EL U.vm h x) (fun _ _ _ _ _ => True) (fun _ U o U' => ∃ v L, o = .returned v ∧ Q v U'.heap L ∧ CHr Z EL U.vm U.heap U'.vm U'.heap ∧ ReturnedEndW U o U' L rm.cells rm.slots))
    (hZ : Z.Warmed39 vm0) (wc : (Jvm.Cond.code y bytes maxL ret).before a0 Z = true) (wz : (Jvm.Cond.initialized y.cls).before a0 Z = true) (hf : rm.frames + 1 ≤ R.frames) (hl : W + (maxL + 11) + rm.locals ≤ R.locals) (hEL : EW Z a0 EL) (H : CHv Z EL vm0 h) (hs : ∀ x ∈ xs, x < h.size ∧ Safe Z EL vm0 h x) :
    BackS l R p e below (s.setVm vm0) args y len W (fun A a => a = as' ∧ A.U.heap = h ∧ A.cells + rm.cells ≤ R.cells ∧ A.slots + rm.slots ≤ R.slots)
      (fun A _ v B => ∃ L, Q v B.U.heap L ∧ B.locs = A.locs ++ L ∧ B.cells = A.cells + rm.cells ∧ B.slots = A.slots + rm.slots ∧ CHr Z EL vm0 h B.U.vm B.U.heap) := by
  refine BackS.of_freeW (bytes := bytes) (maxL := maxL) (ret := ret) (E := fun _ first o t L k n => k = rm.cells ∧ n = rm.slots ∧ (∃ v, o = .returned v ∧ Q v t.heap L) ∧ CHr Z EL first.vm first.heap t.vm t.heap) hM hf hl ?_ ?_ ?_ ?_ ?_
  · intro m meth c A a Y hp
    have hU : Z.Warmed39 A.U.vm := wtrans (s := s.setVm vm0) hZ Y.warmed
    exact ⟨by show (Jvm.Cond.and _ .tt).before a A.U = true; rw [Cond.before_and, mv hU wc]; rfl, mv hU wc, mv hU wz, hp.2.2.1, hp.2.2.2⟩
  · intro m meth c A a g mk Y hp
    have q := CHv.at Y hZ hEL H
    exact ⟨hp.1, wtrans (s := s.setVm vm0) hZ Y.warmed, hp.2.1, q.1, fun x hx => q.safe (hs x hx).1 (hs x hx).2⟩
  · intros; trivial
  · rintro _ _ _ _ ⟨v, L, h1, h2, h3, h4⟩
    exact ⟨L, _, _, h4, rfl, rfl, ⟨v, h1, h2⟩, h3⟩
  · rintro m meth c A a g mk v t L k n Y hp _ _ ⟨e1, e2, ⟨v', e3, e4⟩, e5⟩
    cases e3; subst e1 e2
    refine ⟨L, e4, rfl, rfl, rfl, (CHv.at Y hZ hEL H).trans ?_⟩
    rw [← hp.2.1]; exact e5
theorem own_retHH {v : Option Value} {g : State} {Q : Option Value → Heap → List Loc → Prop} {k n : Nat} (X : Stand p l e R (s.setVm vm0) m args below meth c T locs cells slots) (hS : s.Since vm0 kS) (hk : kS ≤ T.heap.size) (hlk : meth.locks = false) (hv : meth.sig.returnType = none → v = none)
    (hst : ∀ fs, (∀ (f : JFrame) (acts : List Action), f.method = m → f.locked = none → f.entered = [] → (doReturn e (T.setTop f) acts v).1 = T.setFrames fs) → Steps p.tables e below g (T.setFrames fs))
    (hCR : CHr Z own_EL s.vm s.heap T.vm T.heap) (hQ : Q v T.heap locs) (hc : cells ≤ k) (hn : slots ≤ n) : own_Fin p e below (own_PH Z Q s k n) g := by
  obtain ⟨fs, hr, hrun, hended, hE⟩ := X.leaveW hS hk (v := v) hv hlk
  exact ⟨_, _, hst fs hr, hrun, hended, _, _, rfl, hQ, hCR, hE.1, hE.2.1, hE.2.2.1, hE.2.2.2.mono hc hn⟩
theorem own_retWH {w : Value} {t : FieldType} {i : Instr} {pc : Nat} {Ls : Array Slot} {rest : List Value} {Q : Option Value → Heap → List Loc → Prop} {k n : Nat} (X : Stand p l e R (s.setVm vm0) m args below meth c T locs cells slots) (hS : s.Since vm0 kS) (hkS : kS ≤ T.heap.size) (hx : p.tables.exec = Jvm.exec) (hlk : meth.locks = false) (hret : meth.sig.returnType = some t) (hnw : narrow t w = w)
    (hi : (i = .ireturn ∧ (t = .int ∨ t = .boolean ∨ t = .byte ∨ t = .char ∨ t = .short) ∧ ∃ z, w = .int z) ∨ (i = .lreturn ∧ t = .long ∧ ∃ z, w = .long z) ∨ (i = .dreturn ∧ t = .double ∧ ∃ z, w = .double z) ∨ (i = .freturn ∧ t = .float ∧ ∃ z, w = .float z) ∨ (i = .areturn ∧ t.isReference = true ∧ w.isRef = true))
    (hd : decode c.code pc = .ok (i, 1)) (hCR : CHr Z own_EL s.vm s.heap T.vm T.heap) (hQ : Q (some w) T.heap locs) (hk : cells ≤ k) (hn : slots ≤ n) : own_Fin p e below (own_PH Z Q s k n) (T.setTop (mkF m pc Ls (w :: rest))) :=
  own_retHH X hS hkS hlk (fun q => by rw [hret] at q; cases q) (fun fs hr => retOut X hx hret hnw hi hd hr) hCR hQ hk hn
theorem own_retIH {z : Int32} {pc : Nat} {Ls : Array Slot} {rest : List Value} {Q : Option Value → Heap → List Loc → Prop} {k n : Nat} (X : Stand p l e R (s.setVm vm0) m args below meth c T locs cells slots) (hS : s.Since vm0 kS) (hkS : kS ≤ T.heap.size) (hx : p.tables.exec = Jvm.exec) (hlk : meth.locks = false) (hret : meth.sig.returnType = some .int)
    (hd : decode c.code pc = .ok (.ireturn, 1)) (hCR : CHr Z own_EL s.vm s.heap T.vm T.heap) (hQ : Q (some (.int z)) T.heap locs) (hk : cells ≤ k) (hn : slots ≤ n) : own_Fin p e below (own_PH Z Q s k n) (T.setTop (mkF m pc Ls (.int z :: rest))) :=
  own_retWH X hS hkS hx hlk hret rfl (Or.inl ⟨rfl, Or.inl rfl, z, rfl⟩) hd hCR hQ hk hn
theorem own_retJH {z : Int64} {pc : Nat} {Ls : Array Slot} {rest : List Value} {Q : Option Value → Heap → List Loc → Prop} {k n : Nat} (X : Stand p l e R (s.setVm vm0) m args below meth c T locs cells slots) (hS : s.Since vm0 kS) (hkS : kS ≤ T.heap.size) (hx : p.tables.exec = Jvm.exec) (hlk : meth.locks = false) (hret : meth.sig.returnType = some .long)
    (hd : decode c.code pc = .ok (.lreturn, 1)) (hCR : CHr Z own_EL s.vm s.heap T.vm T.heap) (hQ : Q (some (.long z)) T.heap locs) (hk : cells ≤ k) (hn : slots ≤ n) : own_Fin p e below (own_PH Z Q s k n) (T.setTop (mkF m pc Ls (.long z :: rest))) :=
  own_retWH X hS hkS hx hlk hret rfl (Or.inr (Or.inl ⟨rfl, rfl, z, rfl⟩)) hd hCR hQ hk hn
theorem own_retAH {w : Value} {t : FieldType} {pc : Nat} {Ls : Array Slot} {rest : List Value} {Q : Option Value → Heap → List Loc → Prop} {k n : Nat} (X : Stand p l e R (s.setVm vm0) m args below meth c T locs cells slots) (hS : s.Since vm0 kS) (hkS : kS ≤ T.heap.size) (hx : p.tables.exec = Jvm.exec) (hlk : meth.locks = false) (hw : w.isRef = true) (hret : meth.sig.returnType = some t) (ht : t.isReference = true)
    (hd : decode c.code pc = .ok (.areturn, 1)) (hCR : CHr Z own_EL s.vm s.heap T.vm T.heap) (hQ : Q (some w) T.heap locs) (hk : cells ≤ k) (hn : slots ≤ n) : own_Fin p e below (own_PH Z Q s k n) (T.setTop (mkF m pc Ls (w :: rest))) :=
  own_retWH X hS hkS hx hlk hret (own_nref hw) (Or.inr (Or.inr (Or.inr (Or.inr ⟨rfl, ht, hw⟩)))) hd hCR hQ hk hn
theorem own_retBH {z : Int32} {t : FieldType} {pc : Nat} {Ls : Array Slot} {rest : List Value} {Q : Option Value → Heap → List Loc → Prop} {k n : Nat} (X : Stand p l e R (s.setVm vm0) m args below meth c T locs cells slots) (hS : s.Since vm0 kS) (hkS : kS ≤ T.heap.size) (hx : p.tables.exec = Jvm.exec) (hlk : meth.locks = false) (hret : meth.sig.returnType = some t) (ht : t = .boolean ∨ t = .byte ∨ t = .char ∨ t = .short)
    (hd : decode c.code pc = .ok (.ireturn, 1)) (hCR : CHr Z own_EL s.vm s.heap T.vm T.heap) (hQ : Q (some (.int (nar t z))) T.heap locs) (hk : cells ≤ k) (hn : slots ≤ n) : own_Fin p e below (own_PH Z Q s k n) (T.setTop (mkF m pc Ls (.int z :: rest))) :=
  own_retHH X hS hkS hlk (fun q => by rw [hret] at q; cases q) (fun fs hr => retN X hx hret ht hd hr) hCR hQ hk hn
theorem own_retVH {pc : Nat} {Ls : Array Slot} {Q : Option Value → Heap → List Loc → Prop} {k n : Nat} (X : Stand p l e R (s.setVm vm0) m args below meth c T locs cells slots) (hS : s.Since vm0 kS) (hkS : kS ≤ T.heap.size) (hx : p.tables.exec = Jvm.exec) (hlk : meth.locks = false) (hret : meth.sig.returnType = none)
    (hd : decode c.code pc = .ok (.return_, 1)) (hCR : CHr Z own_EL s.vm s.heap T.vm T.heap) (hQ : Q none T.heap locs) (hk : cells ≤ k) (hn : slots ≤ n) : own_Fin p e below (own_PH Z Q s k n) (T.setTop (mkF m pc Ls [])) :=
  own_retHH X hS hkS hlk (fun _ => rfl) (fun fs hr => X.returnOut hx hret hd hr) hCR hQ hk hn
theorem own_sfnew {EL : List (String × Nat)} {vm vm' : Vm} {h1 h2 : Heap} {a : Addr} (_ : CHr Z EL vm h1 vm' h2) (q : h2.size ≤ a) : Safe Z EL vm' h2 a := Safe.new q
end own_walkH

def own_or (a b : Value) : Value := if a = .null then b else a
theorem own_or_ref {a b : Value} (ha : a.isRef = true) (hb : b.isRef = true) : (own_or a b).isRef = true := by unfold own_or; split <;> assumption
theorem own_c255 (x : Int32) : ¬ (255 : Int32) < (x &&& 255).toUInt32.toUInt16.toUInt32.toInt32 := by
  have a := c_i2c (x &&& 255)
  have b := c_and x 255 (by decide)
  have e : (255 : Int32).toInt = 255 := rfl
  rw [Int32.lt_iff_toInt_lt]
  omega
theorem own_narc (x : Int32) : nar .char x.toUInt32.toUInt16.toUInt32.toInt32 = x.toUInt32.toUInt16.toUInt32.toInt32 := Value.int.inj (XT.narrow_c x)
def own_b8 (c : Int32) : Int32 := nar .byte c.toInt8.toInt32
/-- the bytes behind i turns -/
def own_dst (CC : List Int32) (i : Nat) : List Value := ((CC.take i).map (fun c => Value.int (own_b8 c))) ++ List.replicate (CC.length - i) (Value.int 0)
theorem own_dst_len (CC : List Int32) (i : Nat) (h : i ≤ CC.length) : (own_dst CC i).length = CC.length := by
  unfold own_dst; rw [List.length_append, List.length_map, List.length_take, List.length_replicate]; omega
theorem own_dst0 (CC : List Int32) : own_dst CC 0 = List.replicate CC.length (Value.int 0) := by unfold own_dst; simp
theorem own_dstn (CC : List Int32) : own_dst CC CC.length = (CC.map own_b8).map Value.int := by
  unfold own_dst; rw [List.take_length, Nat.sub_self]; simp
theorem own_dst_set {CC : List Int32} {i : Nat} {x : Int32} (h : i < CC.length) (hx : CC[i]? = some x) : (own_dst CC i).set i (Value.int (own_b8 x)) = own_dst CC (i + 1) := by
  unfold own_dst
  have hx' : CC[i] = x := by rw [List.getElem?_eq_getElem h] at hx; exact Option.some.inj hx
  have hl : ((CC.take i).map (fun c => Value.int (own_b8 c))).length = i := by rw [List.length_map, List.length_take]; omega
  rw [List.set_append_right _ _ (by omega), hl, Nat.sub_self, List.take_succ_eq_append_getElem h, List.map_append, hx']
  have e : CC.length - i = (CC.length - (i + 1)) + 1 := by omega
  rw [e, List.replicate_succ, List.set_cons_zero]
  simp
theorem own_nltS {i n : Nat} (hi : i ≤ n) (hn : n < 2147483648) : i.toInt32 < n.toInt32 ↔ i < n := by
  rw [Int32.lt_iff_toInt_lt, len_toInt (by omega), len_toInt (by omega)]; omega
theorem own_nnS {i : Nat} (h : i < 2147483648) : ¬ i.toInt32 < 0 := by
  rw [Int32.lt_iff_toInt_lt, len_toInt (by omega)]
  have z : (0 : Int32).toInt = 0 := rfl
  omega
theorem own_ixS {i : Nat} (h : i < 2147483648) : i.toInt32.toNatClampNeg = i := by
  rw [Int32.toNatClampNeg, len_toInt (by omega)]; omega
theorem own_succS (i : Nat) : i.toInt32 + 1 = (i + 1).toInt32 := (Int32.ofNat_add i 1).symm
theorem own_getS {A : List Int32} {i : Nat} (h : i < A.length) : ∃ x, A[i]? = some x ∧ x ∈ A ∧ (A.map Value.int)[i]? = some (.int x) :=
  ⟨A[i], List.getElem?_eq_getElem h, List.getElem_mem h, by rw [List.getElem?_map, List.getElem?_eq_getElem h]; rfl⟩

theorem own_pn0 : plainName "java/lang/StringUTF16" = true := by first | (simp [plainName, overriddenIn]; done) | decide +kernel
theorem own_d6_0 : decode jdk_52_method_21_code 0 = .ok (.iconst 0, 1) := by decide +kernel
theorem own_d6_1 : decode jdk_52_method_21_code 1 = .ok (.istore 5, 2) := by decide +kernel
theorem own_d6_3 : decode jdk_52_method_21_code 3 = .ok (.iload 5, 2) := by decide +kernel
theorem own_d6_5 : decode jdk_52_method_21_code 5 = .ok (.iload 4, 2) := by decide +kernel
theorem own_d6_7 : decode jdk_52_method_21_code 7 = .ok (.if_icmp .ge 37, 3) := by decide +kernel
theorem own_d6_10 : decode jdk_52_method_21_code 10 = .ok (.aload_n 0, 1) := by decide +kernel
theorem own_d6_11 : decode jdk_52_method_21_code 11 = .ok (.iload_n 1, 1) := by decide +kernel
theorem own_d6_12 : decode jdk_52_method_21_code 12 = .ok (.caload, 1) := by decide +kernel
theorem own_d6_13 : decode jdk_52_method_21_code 13 = .ok (.istore 6, 2) := by decide +kernel
theorem own_d6_15 : decode jdk_52_method_21_code 15 = .ok (.iload 6, 2) := by decide +kernel
theorem own_d6_17 : decode jdk_52_method_21_code 17 = .ok (.sipush 255, 3) := by decide +kernel
theorem own_d6_20 : decode jdk_52_method_21_code 20 = .ok (.if_icmp .le 6, 3) := by decide +kernel
theorem own_d6_26 : decode jdk_52_method_21_code 26 = .ok (.aload_n 2, 1) := by decide +kernel
theorem own_d6_27 : decode jdk_52_method_21_code 27 = .ok (.iload_n 3, 1) := by decide +kernel
theorem own_d6_28 : decode jdk_52_method_21_code 28 = .ok (.iload 6, 2) := by decide +kernel
theorem own_d6_30 : decode jdk_52_method_21_code 30 = .ok (.i2b, 1) := by decide +kernel
theorem own_d6_31 : decode jdk_52_method_21_code 31 = .ok (.bastore, 1) := by decide +kernel
theorem own_d6_32 : decode jdk_52_method_21_code 32 = .ok (.iinc 1 1, 3) := by decide +kernel
theorem own_d6_35 : decode jdk_52_method_21_code 35 = .ok (.iinc 3 1, 3) := by decide +kernel
theorem own_d6_38 : decode jdk_52_method_21_code 38 = .ok (.iinc 5 1, 3) := by decide +kernel
theorem own_d6_41 : decode jdk_52_method_21_code 41 = .ok (.goto (-38), 3) := by decide +kernel
theorem own_d6_44 : decode jdk_52_method_21_code 44 = .ok (.iload 4, 2) := by decide +kernel
theorem own_d6_46 : decode jdk_52_method_21_code 46 = .ok (.ireturn, 1) := by decide +kernel
theorem ef_own_rm6 (m : MethodId) (a1 : Addr) (p1 : Int32) (a2 : Addr) (p2 : Int32) (p3 : Int32) : entryFrame m #[(.ref a1), (.int p1), (.ref a2), (.int p2), (.int p3)] 7 = mkF m 0 #[.val (.ref a1), .val (.int p1), .val (.ref a2), .val (.int p2), .val (.int p3), .unset, .unset] [] := by first | (simp [entryFrame, mkF, argsToLocals, Value.category]; done) | rfl
def own_rm6_Q (Z : State) (a1 : Addr) (p1 : Int32) (a2 : Addr) (p2 : Int32) (p3 : Int32) (CC : List Int32) (h0 : Heap) (n0 : Nat) (v : Option Value) (h : Heap) (L : List Loc) : Prop := v = some (.int p3) ∧ Fr n0 L ∧ Keep h0 h [a2] ∧ own_Ar Z h a2 .byte ((CC.map own_b8).map Value.int)
set_option maxRecDepth 65536 in
set_option maxHeartbeats 40000000 in
theorem own_rm6 (l : Launch) (Z : State) (a0 : Array Value) (hw : ∀ d ∈ tables_1, d.before a0 Z = true) (ws : List Jvm.Cond) (a1 : Addr) (p1 : Int32) (a2 : Addr) (p2 : Int32) (p3 : Int32) (CC : List Int32) (h0 : Heap) (n0 : Nat) (Z0 : n0 ≤ h0.size) (A_a1 : own_Ar Z h0 a1 .char (CC.map Value.int)) (A_a2 : own_Ar Z h0 a2 .byte (own_dst CC 0)) (hp1 : p1 = 0) (hp2 : p2 = 0) (hp3 : p3 = CC.length.toInt32) (hne : a1 ≠ a2) (hlC : CC.length < 2147483648) (hch : ∀ c ∈ CC, ¬ (255 : Int32) < c) (g_a2 : n0 ≤ a2) :
    MetFree l (⟨"java/lang/StringUTF16", "compress", "([CI[BII)I"⟩ : MethodName) (head1 (Jvm.Cond.code (⟨"java/lang/StringUTF16", "compress", "([CI[BII)I"⟩ : MethodName) jdk_52_method_21_code 7 (some .int) :: ws) ({ frames := 0, cells := 0, slots := 0, locals := 0 } : Room)) (fun a U => a = #[(.ref a1), (.int p1), (.ref a2), (.int p2), (.int p3)] ∧ Z.Warmed39 U.vm ∧ U.heap = h0) (fun _ _ _ _ _ => True) (fun _ U o U' => ∃ v L, o = .returned v ∧ own_rm6_Q Z a1 p1 a2 p2 p3 CC h0 n0 v U'.heap L ∧ FrameEnd U o U' L ({ frames := 0, cells := 0, slots := 0, locals := 0 } : Room).cells ({ frames := 0, cells := 0, slots := 0, locals := 0 } : Room).slots) := by
  refine MetFree.of_bodySF (plainFor_of_name own_pn0) hisR ?_
  intro p e s m args below meth c s₁ Bd hml0 hP hK
  obtain ⟨rfl, hZ, hh⟩ := hP
  have hx := Bd.exec
  have hby := Bd.bytes
  have hml : c.maxLocals = 7 := hml0
  have hown : s.vm.findClass "java/lang/StringUTF16" = some m.cls := findClass_of_methodNamed Bd.named
  have hnm := (name_of_methodNamed Bd.named Bd.method).1
  have hlk : meth.locks = false := BodyLoose.notSynchronized Bd
  have X0 : Stand p l e ({ frames := 0, cells := 0, slots := 0, locals := 0 } : Room) s m #[(.ref a1), (.int p1), (.ref a2), (.int p2), (.int p3)] below meth c s₁ [] 0 0 := Stand.of_body Bd
  have e0 : s₁.heap = h0 := by rw [← hh, Bd.state]; rfl
  have N0 := Fr.nil n0
  have K0 : Keep h0 h0 [a2] := Keep.refl h0 [a2]
  show own_Fin p e below (own_P (own_rm6_Q Z a1 p1 a2 p2 p3 CC h0 n0) s ({ frames := 0, cells := 0, slots := 0, locals := 0 } : Room).cells ({ frames := 0, cells := 0, slots := 0, locals := 0 } : Room).slots) (s₁.setTop (entryFrame m #[(.ref a1), (.int p1), (.ref a2), (.int p2), (.int p3)] 7))
  refine own_via (g' := s₁.setTop (mkF m 0 #[.val (.ref a1), .val (.int p1), .val (.ref a2), .val (.int p2), .val (.int p3), .unset, .unset] [])) (fun t k => castTop (ef_own_rm6 m a1 p1 a2 p2 p3) k) ?_
  subst hp1 hp2 hp3
  refine own_via (g' := s₁.setTop (mkF m 1 #[.val (.ref a1), .val (.int (0 : Int32)), .val (.ref a2), .val (.int (0 : Int32)), .val (.int CC.length.toInt32), .unset, .unset] [(.int (0 : Int32))])) (fun t k => XS.iconst X0.here hx rfl (hb hby own_d6_0) k) ?_
  refine own_via (g' := s₁.setTop (mkF m 3 #[.val (.ref a1), .val (.int (0 : Int32)), .val (.ref a2), .val (.int (0 : Int32)), .val (.int CC.length.toInt32), .val (.int (0 : Int32)), .unset] [])) (fun t k => XS.istore X0.here hx rfl (hb hby own_d6_1) rfl (l' := #[.val (.ref a1), .val (.int (0 : Int32)), .val (.ref a2), .val (.int (0 : Int32)), .val (.int CC.length.toInt32), .val (.int (0 : Int32)), .unset]) rfl k) ?_
  have LOOP : ∀ (k i : Nat) (Tl : State) (hl : Heap) (ll : List Loc) (s6 : Slot) (Xl : Stand p l e ({ frames := 0, cells := 0, slots := 0, locals := 0 } : Room) s m #[(.ref a1), (.int 0), (.ref a2), (.int 0), (.int CC.length.toInt32)] below meth c Tl ll 0 0) (el : Tl.heap = hl) (Nl : Fr n0 ll) (Kl : Keep h0 hl [a2]) (Al : own_Ar Z hl a2 .byte (own_dst CC i)), CC.length - i < k → i ≤ CC.length → (s6 = .unset ∨ ∃ w, s6 = .val w ∧ w.category = 1) → own_Fin p e below (own_P (own_rm6_Q Z a1 (0 : Int32) a2 (0 : Int32) (CC.length.toInt32) CC h0 n0) s ({ frames := 0, cells := 0, slots := 0, locals := 0 } : Room).cells ({ frames := 0, cells := 0, slots := 0, locals := 0 } : Room).slots) (Tl.setTop (mkF m 3 #[.val (.ref a1), .val (.int i.toInt32), .val (.ref a2), .val (.int i.toInt32), .val (.int CC.length.toInt32), .val (.int i.toInt32), s6] [])) := by
    intro k
    induction k with
    | zero => intro i Tl hl ll s6 Xl el Nl Kl Al hk; exact absurd hk (Nat.not_lt_zero _)
    | succ k ih =>
      intro i Tl hl ll s6 Xl el Nl Kl Al hk hi hs6
      have Ac := A_a1.keep Kl (ninS hne nin0)
      refine own_via (g' := Tl.setTop (mkF m 5 #[.val (.ref a1), .val (.int i.toInt32), .val (.ref a2), .val (.int i.toInt32), .val (.int CC.length.toInt32), .val (.int i.toInt32), s6] [(.int i.toInt32)])) (fun t k => XS.iload Xl.here hx rfl (hb hby own_d6_3) rfl k) ?_
      refine own_via (g' := Tl.setTop (mkF m 7 #[.val (.ref a1), .val (.int i.toInt32), .val (.ref a2), .val (.int i.toInt32), .val (.int CC.length.toInt32), .val (.int i.toInt32), s6] [(.int CC.length.toInt32), (.int i.toInt32)])) (fun t k => XS.iload Xl.here hx rfl (hb hby own_d6_5) rfl k) ?_
      by_cases hc7_1 : i.toInt32 < CC.length.toInt32
      · refine own_via (g' := Tl.setTop (mkF m 10 #[.val (.ref a1), .val (.int i.toInt32), .val (.ref a2), .val (.int i.toInt32), .val (.int CC.length.toInt32), .val (.int i.toInt32), s6] [])) (fun t k => XS.icmpNo Xl.here hx rfl (hb hby own_d6_7) rfl (XT.ii_ge_f hc7_1) k) ?_
        have hiC : i < CC.length := (own_nltS hi hlC).mp hc7_1
        obtain ⟨x, hx1, hx2, hx3⟩ := own_getS hiC
        refine own_via (g' := Tl.setTop (mkF m 11 #[.val (.ref a1), .val (.int i.toInt32), .val (.ref a2), .val (.int i.toInt32), .val (.int CC.length.toInt32), .val (.int i.toInt32), s6] [(.ref a1)])) (fun t k => XS.aloadN Xl.here hx rfl (hb hby own_d6_10) rfl (rfl) k) ?_
        refine own_via (g' := Tl.setTop (mkF m 12 #[.val (.ref a1), .val (.int i.toInt32), .val (.ref a2), .val (.int i.toInt32), .val (.int CC.length.toInt32), .val (.int i.toInt32), s6] [(.int i.toInt32), (.ref a1)])) (fun t k => XS.iloadN Xl.here hx rfl (hb hby own_d6_11) rfl k) ?_
        refine own_via (g' := Tl.setTop (mkF m 13 #[.val (.ref a1), .val (.int i.toInt32), .val (.ref a2), .val (.int i.toInt32), .val (.int CC.length.toInt32), .val (.int i.toInt32), s6] [(.int x)])) (fun t k => own_ldC Xl hx hZ el Ac (j := i.toInt32) (v := (.int x)) (own_nnS (by omega : i < 2147483648)) (by rw [own_ixS (by omega : i < 2147483648)]; exact hx3) (g := (mkF m 12 #[.val (.ref a1), .val (.int i.toInt32), .val (.ref a2), .val (.int i.toInt32), .val (.int CC.length.toInt32), .val (.int i.toInt32), s6] [(.int i.toInt32), (.ref a1)])) rfl rfl (hb hby own_d6_12) _ k) ?_
        refine own_via (g' := Tl.setTop (mkF m 15 #[.val (.ref a1), .val (.int i.toInt32), .val (.ref a2), .val (.int i.toInt32), .val (.int CC.length.toInt32), .val (.int i.toInt32), .val (.int x)] [])) (fun t k => XS.istoreS Xl.here hx rfl (hb hby own_d6_13) rfl rfl hs6 k) ?_
        refine own_via (g' := Tl.setTop (mkF m 17 #[.val (.ref a1), .val (.int i.toInt32), .val (.ref a2), .val (.int i.toInt32), .val (.int CC.length.toInt32), .val (.int i.toInt32), .val (.int x)] [(.int x)])) (fun t k => XS.iload Xl.here hx rfl (hb hby own_d6_15) rfl k) ?_
        refine own_via (g' := Tl.setTop (mkF m 20 #[.val (.ref a1), .val (.int i.toInt32), .val (.ref a2), .val (.int i.toInt32), .val (.int CC.length.toInt32), .val (.int i.toInt32), .val (.int x)] [(.int (255 : Int32)), (.int x)])) (fun t k => XS.sipush Xl.here hx rfl (hb hby own_d6_17) k) ?_
        refine own_via (g' := Tl.setTop (mkF m 26 #[.val (.ref a1), .val (.int i.toInt32), .val (.ref a2), .val (.int i.toInt32), .val (.int CC.length.toInt32), .val (.int i.toInt32), .val (.int x)] [])) (fun t k => XS.icmpYes Xl.here hx rfl (pc0 := 20) (pc' := 26) rfl (hb hby own_d6_20) rfl (XT.ii_le_t (hch x hx2)) (by decide) (by decide) k) ?_
        refine own_via (g' := Tl.setTop (mkF m 27 #[.val (.ref a1), .val (.int i.toInt32), .val (.ref a2), .val (.int i.toInt32), .val (.int CC.length.toInt32), .val (.int i.toInt32), .val (.int x)] [(.ref a2)])) (fun t k => XS.aloadN Xl.here hx rfl (hb hby own_d6_26) rfl (rfl) k) ?_
        refine own_via (g' := Tl.setTop (mkF m 28 #[.val (.ref a1), .val (.int i.toInt32), .val (.ref a2), .val (.int i.toInt32), .val (.int CC.length.toInt32), .val (.int i.toInt32), .val (.int x)] [(.int i.toInt32), (.ref a2)])) (fun t k => XS.iloadN Xl.here hx rfl (hb hby own_d6_27) rfl k) ?_
        refine own_via (g' := Tl.setTop (mkF m 30 #[.val (.ref a1), .val (.int i.toInt32), .val (.ref a2), .val (.int i.toInt32), .val (.int CC.length.toInt32), .val (.int i.toInt32), .val (.int x)] [(.int x), (.int i.toInt32), (.ref a2)])) (fun t k => XS.iload Xl.here hx rfl (hb hby own_d6_28) rfl k) ?_
        refine own_via (g' := Tl.setTop (mkF m 31 #[.val (.ref a1), .val (.int i.toInt32), .val (.ref a2), .val (.int i.toInt32), .val (.int CC.length.toInt32), .val (.int i.toInt32), .val (.int x)] [(.int (x.toInt8.toInt32)), (.int i.toInt32), (.ref a2)])) (fun t k => XT.i2b Xl.here hx rfl (hb hby own_d6_30) rfl k) ?_
        obtain ⟨T2, h2, X2, e2, W2, V2', st2⟩ := own_stB Xl hx hZ el Al (j := i.toInt32) (own_nnS (by omega : i < 2147483648)) (by rw [own_ixS (by omega : i < 2147483648), own_dst_len CC i hi]; exact hiC) (g := (mkF m 31 #[.val (.ref a1), .val (.int i.toInt32), .val (.ref a2), .val (.int i.toInt32), .val (.int CC.length.toInt32), .val (.int i.toInt32), .val (.int x)] [(.int (x.toInt8.toInt32)), (.int i.toInt32), (.ref a2)])) rfl rfl (hb hby own_d6_31)
        have V2 : own_Ar Z h2 a2 .byte (own_dst CC (i + 1)) := (by rw [← own_dst_set hiC hx1]; have q := V2'; rw [own_ixS (by omega : i < 2147483648)] at q; exact q)
        have Kc2 : Keep h0 h2 [a2] := Kl.wr W2 (Or.inl (List.mem_of_getElem? (i := 0) rfl))
        have N2 := Fr.snoc X2 Nl g_a2
        refine own_via (g' := T2.setTop (mkF m 32 #[.val (.ref a1), .val (.int i.toInt32), .val (.ref a2), .val (.int i.toInt32), .val (.int CC.length.toInt32), .val (.int i.toInt32), .val (.int x)] [])) (fun t k => st2 _ k) ?_
        refine own_via (g' := T2.setTop (mkF m 35 #[.val (.ref a1), .val (.int (i.toInt32 + (1 : Int32))), .val (.ref a2), .val (.int i.toInt32), .val (.int CC.length.toInt32), .val (.int i.toInt32), .val (.int x)] [])) (fun t k => XS.iinc X2.here hx rfl (hb hby own_d6_32) rfl (l' := #[.val (.ref a1), .val (.int (i.toInt32 + (1 : Int32))), .val (.ref a2), .val (.int i.toInt32), .val (.int CC.length.toInt32), .val (.int i.toInt32), .val (.int x)]) rfl k) ?_
        refine own_via (g' := T2.setTop (mkF m 38 #[.val (.ref a1), .val (.int (i.toInt32 + (1 : Int32))), .val (.ref a2), .val (.int (i.toInt32 + (1 : Int32))), .val (.int CC.length.toInt32), .val (.int i.toInt32), .val (.int x)] [])) (fun t k => XS.iinc X2.here hx rfl (hb hby own_d6_35) rfl (l' := #[.val (.ref a1), .val (.int (i.toInt32 + (1 : Int32))), .val (.ref a2), .val (.int (i.toInt32 + (1 : Int32))), .val (.int CC.length.toInt32), .val (.int i.toInt32), .val (.int x)]) rfl k) ?_
        refine own_via (g' := T2.setTop (mkF m 41 #[.val (.ref a1), .val (.int (i.toInt32 + (1 : Int32))), .val (.ref a2), .val (.int (i.toInt32 + (1 : Int32))), .val (.int CC.length.toInt32), .val (.int (i.toInt32 + (1 : Int32))), .val (.int x)] [])) (fun t k => XS.iinc X2.here hx rfl (hb hby own_d6_38) rfl (l' := #[.val (.ref a1), .val (.int (i.toInt32 + (1 : Int32))), .val (.ref a2), .val (.int (i.toInt32 + (1 : Int32))), .val (.int CC.length.toInt32), .val (.int (i.toInt32 + (1 : Int32))), .val (.int x)]) rfl k) ?_
        refine own_via (g' := T2.setTop (mkF m 3 #[.val (.ref a1), .val (.int (i.toInt32 + (1 : Int32))), .val (.ref a2), .val (.int (i.toInt32 + (1 : Int32))), .val (.int CC.length.toInt32), .val (.int (i.toInt32 + (1 : Int32))), .val (.int x)] [])) (fun t k => XS.goto X2.here hx rfl (pc0 := 41) (pc' := 3) rfl (hb hby own_d6_41) (by decide) (by decide) k) ?_
        rw [own_succS i]
        exact ih (i + 1) _ _ _ _ X2 e2 N2 Kc2 V2 (by omega) (by omega) (Or.inr ⟨_, rfl, rfl⟩)
      · refine own_via (g' := Tl.setTop (mkF m 44 #[.val (.ref a1), .val (.int i.toInt32), .val (.ref a2), .val (.int i.toInt32), .val (.int CC.length.toInt32), .val (.int i.toInt32), s6] [])) (fun t k => XS.icmpYes Xl.here hx rfl (pc0 := 7) (pc' := 44) rfl (hb hby own_d6_7) rfl (XT.ii_ge_t hc7_1) (by decide) (by decide) k) ?_
        refine own_via (g' := Tl.setTop (mkF m 46 #[.val (.ref a1), .val (.int i.toInt32), .val (.ref a2), .val (.int i.toInt32), .val (.int CC.length.toInt32), .val (.int i.toInt32), s6] [(.int CC.length.toInt32)])) (fun t k => XS.iload Xl.here hx rfl (hb hby own_d6_44) rfl k) ?_
        have ei : i = CC.length := Nat.le_antisymm hi (Nat.le_of_not_lt (fun q => hc7_1 ((own_nltS hi hlC).mpr q)))
        subst ei
        have eE : Tl.heap = hl := el
        exact own_retI Xl hx hlk Bd.returns (hb hby own_d6_46) ⟨rfl, Nl, (by rw [eE]; exact Kl), (by rw [eE, ← own_dstn]; exact Al)⟩ (by decide) (by decide)
  exact LOOP _ 0 _ _ _ _ X0 e0 N0 K0 A_a2 (Nat.lt_succ_self _) (Nat.zero_le _) (Or.inl rfl)
theorem own_pd0 : parseMethodDescriptor "([CI[BII)I" = some ⟨[(.array .char), .int, (.array .byte), .int, .int], some .int⟩ := by decide +kernel
theorem own_d5_0 : decode jdk_52_method_16_code 0 = .ok (.iload_n 2, 1) := by decide +kernel
theorem own_d5_1 : decode jdk_52_method_16_code 1 = .ok (.newarray .byte, 2) := by decide +kernel
theorem own_d5_3 : decode jdk_52_method_16_code 3 = .ok (.astore_n 3, 1) := by decide +kernel
theorem own_d5_4 : decode jdk_52_method_16_code 4 = .ok (.aload_n 0, 1) := by decide +kernel
theorem own_d5_5 : decode jdk_52_method_16_code 5 = .ok (.iload_n 1, 1) := by decide +kernel
theorem own_d5_6 : decode jdk_52_method_16_code 6 = .ok (.aload_n 3, 1) := by decide +kernel
theorem own_d5_7 : decode jdk_52_method_16_code 7 = .ok (.iconst 0, 1) := by decide +kernel
theorem own_d5_8 : decode jdk_52_method_16_code 8 = .ok (.iload_n 2, 1) := by decide +kernel
theorem own_d5_9 : decode jdk_52_method_16_code 9 = .ok (.invokestatic 115, 3) := by decide +kernel
theorem own_d5_12 : decode jdk_52_method_16_code 12 = .ok (.istore 4, 2) := by decide +kernel
theorem own_d5_14 : decode jdk_52_method_16_code 14 = .ok (.iload 4, 2) := by decide +kernel
theorem own_d5_16 : decode jdk_52_method_16_code 16 = .ok (.iload_n 2, 1) := by decide +kernel
theorem own_d5_17 : decode jdk_52_method_16_code 17 = .ok (.if_icmp .eq 40, 3) := by decide +kernel
theorem own_d5_57 : decode jdk_52_method_16_code 57 = .ok (.aload_n 3, 1) := by decide +kernel
theorem own_d5_58 : decode jdk_52_method_16_code 58 = .ok (.areturn, 1) := by decide +kernel
theorem ef_own_rm5 (m : MethodId) (a1 : Addr) (p1 : Int32) (p2 : Int32) : entryFrame m #[(.ref a1), (.int p1), (.int p2)] 6 = mkF m 0 #[.val (.ref a1), .val (.int p1), .val (.int p2), .unset, .unset, .unset] [] := by first | (simp [entryFrame, mkF, argsToLocals, Value.category]; done) | rfl
def own_rm5_Q (Z : State) (a1 : Addr) (p1 : Int32) (p2 : Int32) (CC : List Int32) (h0 : Heap) (n0 : Nat) (v : Option Value) (h : Heap) (L : List Loc) : Prop := ∃ b : Addr, v = some (.ref b) ∧ Fr n0 L ∧ h0.size ≤ b ∧ Keep h0 h [] ∧ own_Ar Z h b .byte ((CC.map own_b8).map Value.int)
set_option maxRecDepth 65536 in
set_option maxHeartbeats 40000000 in
theorem own_rm5 (l : Launch) (Z : State) (a0 : Array Value) (hw : ∀ d ∈ tables_1, d.before a0 Z = true) (ws : List Jvm.Cond) (a1 : Addr) (p1 : Int32) (p2 : Int32) (CC : List Int32) (h0 : Heap) (n0 : Nat) (Z0 : n0 ≤ h0.size) (A_a1 : own_Ar Z h0 a1 .char (CC.map Value.int)) (hp1 : p1 = 0) (hp2 : p2 = CC.length.toInt32) (hlC : CC.length < 2147483648) (hcap : CC.length ≤ 2) (hch : ∀ c ∈ CC, ¬ (255 : Int32) < c) :
    MetFree l (⟨"java/lang/StringUTF16", "compress", "([CII)[B"⟩ : MethodName) (head1 (Jvm.Cond.code (⟨"java/lang/StringUTF16", "compress", "([CII)[B"⟩ : MethodName) jdk_52_method_16_code 6 (some (.array .byte)) :: ws) ({ frames := 1, cells := 1, slots := 2, locals := 18 } : Room)) (fun a U => a = #[(.ref a1), (.int p1), (.int p2)] ∧ Z.Warmed39 U.vm ∧ U.heap = h0) (fun _ _ _ _ _ => True) (fun _ U o U' => ∃ v L, o = .returned v ∧ own_rm5_Q Z a1 p1 p2 CC h0 n0 v U'.heap L ∧ FrameEnd U o U' L ({ frames := 1, cells := 1, slots := 2, locals := 18 } : Room).cells ({ frames := 1, cells := 1, slots := 2, locals := 18 } : Room).slots) := by
  refine MetFree.of_bodySF (plainFor_of_name own_pn0) hisR ?_
  intro p e s m args below meth c s₁ Bd hml0 hP hK
  obtain ⟨rfl, hZ, hh⟩ := hP
  have hx := Bd.exec
  have hby := Bd.bytes
  have hml : c.maxLocals = 6 := hml0
  have hown : s.vm.findClass "java/lang/StringUTF16" = some m.cls := findClass_of_methodNamed Bd.named
  have hnm := (name_of_methodNamed Bd.named Bd.method).1
  have hlk : meth.locks = false := BodyLoose.notSynchronized Bd
  have X0 : Stand p l e ({ frames := 1, cells := 1, slots := 2, locals := 18 } : Room) s m #[(.ref a1), (.int p1), (.int p2)] below meth c s₁ [] 0 0 := Stand.of_body Bd
  have e0 : s₁.heap = h0 := by rw [← hh, Bd.state]; rfl
  have N0 := Fr.nil n0
  have K0 : Keep h0 h0 [] := Keep.refl h0 []
  show own_Fin p e below (own_P (own_rm5_Q Z a1 p1 p2 CC h0 n0) s ({ frames := 1, cells := 1, slots := 2, locals := 18 } : Room).cells ({ frames := 1, cells := 1, slots := 2, locals := 18 } : Room).slots) (s₁.setTop (entryFrame m #[(.ref a1), (.int p1), (.int p2)] 6))
  refine own_via (g' := s₁.setTop (mkF m 0 #[.val (.ref a1), .val (.int p1), .val (.int p2), .unset, .unset, .unset] [])) (fun t k => castTop (ef_own_rm5 m a1 p1 p2) k) ?_
  subst hp1 hp2
  refine own_via (g' := s₁.setTop (mkF m 1 #[.val (.ref a1), .val (.int (0 : Int32)), .val (.int CC.length.toInt32), .unset, .unset, .unset] [(.int CC.length.toInt32)])) (fun t k => XS.iloadN X0.here hx rfl (hb hby own_d5_0) rfl k) ?_
  obtain ⟨T1, h1, X1, e1, E1, A1, st1⟩ := own_newP X0 hx hZ (aty := .byte) (hw _ (List.mem_of_getElem? (i := 23) rfl)) e0 (g := (mkF m 1 #[.val (.ref a1), .val (.int (0 : Int32)), .val (.int CC.length.toInt32), .unset, .unset, .unset] [(.int CC.length.toInt32)])) rfl (hb hby own_d5_1) rfl (own_nnS (by omega : CC.length < 2147483648)) (cap := 2) (by rw [own_ixS (by omega : CC.length < 2147483648)]; exact hcap) (by decide) (by decide) (by decide)
  obtain ⟨b1, g1⟩ : ∃ z, z = h0.size := ⟨_, rfl⟩
  rw [← g1] at A1 st1
  have V1 : own_Ar Z h1 b1 .byte (List.replicate (CC.length.toInt32).toNatClampNeg (.int 0)) := A1
  have ne_a1_b1 : a1 ≠ b1 := Nat.ne_of_lt (Nat.lt_of_lt_of_le A_a1.lt (Nat.le_of_eq g1.symm))
  have sz_b1 : h0.size ≤ b1 := Nat.le_trans K0.1 (Nat.le_of_eq g1.symm)
  have g_b1 : n0 ≤ b1 := Nat.le_trans Z0 sz_b1
  have Kc1 : Keep h0 h1 [] := K0.ext E1
  refine own_via (g' := T1.setTop (mkF m 3 #[.val (.ref a1), .val (.int (0 : Int32)), .val (.int CC.length.toInt32), .unset, .unset, .unset] [(.ref b1)])) (fun t k => st1 _ k) ?_
  have Vd : own_Ar Z h1 b1 .byte (own_dst CC 0) := by have q := V1; rw [own_ixS (by omega : CC.length < 2147483648)] at q; rw [own_dst0]; exact q
  refine own_via (g' := T1.setTop (mkF m 4 #[.val (.ref a1), .val (.int (0 : Int32)), .val (.int CC.length.toInt32), .val (.ref b1), .unset, .unset] [])) (fun t k => XS.astoreN X1.here hx rfl (hb hby own_d5_3) rfl (rfl) (l' := #[.val (.ref a1), .val (.int (0 : Int32)), .val (.int CC.length.toInt32), .val (.ref b1), .unset, .unset]) rfl k) ?_
  refine own_via (g' := T1.setTop (mkF m 5 #[.val (.ref a1), .val (.int (0 : Int32)), .val (.int CC.length.toInt32), .val (.ref b1), .unset, .unset] [(.ref a1)])) (fun t k => XS.aloadN X1.here hx rfl (hb hby own_d5_4) rfl (rfl) k) ?_
  refine own_via (g' := T1.setTop (mkF m 6 #[.val (.ref a1), .val (.int (0 : Int32)), .val (.int CC.length.toInt32), .val (.ref b1), .unset, .unset] [(.int (0 : Int32)), (.ref a1)])) (fun t k => XS.iloadN X1.here hx rfl (hb hby own_d5_5) rfl k) ?_
  refine own_via (g' := T1.setTop (mkF m 7 #[.val (.ref a1), .val (.int (0 : Int32)), .val (.int CC.length.toInt32), .val (.ref b1), .unset, .unset] [(.ref b1), (.int (0 : Int32)), (.ref a1)])) (fun t k => XS.aloadN X1.here hx rfl (hb hby own_d5_6) rfl (rfl) k) ?_
  refine own_via (g' := T1.setTop (mkF m 8 #[.val (.ref a1), .val (.int (0 : Int32)), .val (.int CC.length.toInt32), .val (.ref b1), .unset, .unset] [(.int (0 : Int32)), (.ref b1), (.int (0 : Int32)), (.ref a1)])) (fun t k => XS.iconst X1.here hx rfl (hb hby own_d5_7) k) ?_
  refine own_via (g' := T1.setTop (mkF m 9 #[.val (.ref a1), .val (.int (0 : Int32)), .val (.int CC.length.toInt32), .val (.ref b1), .unset, .unset] [(.int CC.length.toInt32), (.int (0 : Int32)), (.ref b1), (.int (0 : Int32)), (.ref a1)])) (fun t k => XS.iloadN X1.here hx rfl (hb hby own_d5_8) rfl k) ?_
  obtain ⟨v2, _, ⟨T2, L2, k2, n2⟩, -, X2, ⟨Lc2, hQ2, l2, y2, z2⟩, st2⟩ := Jvm.LawKit.callS X1 hx (y := (⟨"java/lang/StringUTF16", "compress", "([CI[BII)I"⟩ : MethodName)) hown (mvT hZ (hw _ (List.mem_of_getElem? (i := 24) rfl))) (mvT hZ (hw _ (List.mem_of_getElem? (i := 25) rfl))) (mvT hZ (hw _ (List.mem_of_getElem? (i := 21) rfl))) (mvT hZ (hw _ (List.mem_of_getElem? (i := 26) rfl))) (by decide) (backOf (W := 0) (own_rm6 l Z a0 hw [] a1 (0 : Int32) b1 (0 : Int32) CC.length.toInt32 CC h1 n0 (Nat.le_trans Z0 Kc1.1) (A_a1.keep Kc1 nin0) Vd rfl rfl rfl ne_a1_b1 hlC hch g_b1) hZ (hw _ (List.mem_of_getElem? (i := 26) rfl)) (hw _ (List.mem_of_getElem? (i := 21) rfl)) (by decide) (by decide)) (g := (mkF m 9 #[.val (.ref a1), .val (.int (0 : Int32)), .val (.int CC.length.toInt32), .val (.ref b1), .unset, .unset] [(.int CC.length.toInt32), (.int (0 : Int32)), (.ref b1), (.int (0 : Int32)), (.ref a1)])) rfl (by rw [hml]; rfl) (argsL := [(.ref a1), (.int (0 : Int32)), (.ref b1), (.int (0 : Int32)), (.int CC.length.toInt32)]) (rest := []) (lenOf own_pd0 rfl) rfl (by show 2 * 0 + _ ≤ _; exact Nat.le_of_eq rfl) (hb hby own_d5_9) (fun _ _ => ⟨rfl, e1, (by decide : 1 + 0 ≤ _), (by decide : 2 + 0 ≤ _)⟩)
  dsimp only [Pt.U, Pt.locs, Pt.cells, Pt.slots] at X2 l2 y2 z2 st2 hQ2
  subst l2 y2 z2
  obtain ⟨rfl, N2q, K2, V2⟩ := hQ2
  have Kc2 : Keep h0 T2.heap [] := Kc1.trans K2 (allS (Or.inr sz_b1) all0)
  have N2 := Fr.app N0 N2q
  refine own_via (g' := T2.setTop (mkF m 12 #[.val (.ref a1), .val (.int (0 : Int32)), .val (.int CC.length.toInt32), .val (.ref b1), .unset, .unset] [(.int CC.length.toInt32)])) (fun t k => st2 _ k) ?_
  refine own_via (g' := T2.setTop (mkF m 14 #[.val (.ref a1), .val (.int (0 : Int32)), .val (.int CC.length.toInt32), .val (.ref b1), .val (.int CC.length.toInt32), .unset] [])) (fun t k => XS.istore X2.here hx rfl (hb hby own_d5_12) rfl (l' := #[.val (.ref a1), .val (.int (0 : Int32)), .val (.int CC.length.toInt32), .val (.ref b1), .val (.int CC.length.toInt32), .unset]) rfl k) ?_
  refine own_via (g' := T2.setTop (mkF m 16 #[.val (.ref a1), .val (.int (0 : Int32)), .val (.int CC.length.toInt32), .val (.ref b1), .val (.int CC.length.toInt32), .unset] [(.int CC.length.toInt32)])) (fun t k => XS.iload X2.here hx rfl (hb hby own_d5_14) rfl k) ?_
  refine own_via (g' := T2.setTop (mkF m 17 #[.val (.ref a1), .val (.int (0 : Int32)), .val (.int CC.length.toInt32), .val (.ref b1), .val (.int CC.length.toInt32), .unset] [(.int CC.length.toInt32), (.int CC.length.toInt32)])) (fun t k => XS.iloadN X2.here hx rfl (hb hby own_d5_16) rfl k) ?_
  refine own_via (g' := T2.setTop (mkF m 57 #[.val (.ref a1), .val (.int (0 : Int32)), .val (.int CC.length.toInt32), .val (.ref b1), .val (.int CC.length.toInt32), .unset] [])) (fun t k => XS.icmpYes X2.here hx rfl (pc0 := 17) (pc' := 57) rfl (hb hby own_d5_17) rfl (XT.ii_eq_t rfl) (by decide) (by decide) k) ?_
  refine own_via (g' := T2.setTop (mkF m 58 #[.val (.ref a1), .val (.int (0 : Int32)), .val (.int CC.length.toInt32), .val (.ref b1), .val (.int CC.length.toInt32), .unset] [(.ref b1)])) (fun t k => XS.aloadN X2.here hx rfl (hb hby own_d5_57) rfl (rfl) k) ?_
  have eE : T2.heap = T2.heap := rfl
  exact own_retA X2 hx hlk (rfl) Bd.returns rfl (hb hby own_d5_58) ⟨b1, rfl, N2, sz_b1, (by rw [eE]; exact Kc2), (by rw [eE]; exact V2)⟩ (by decide) (by decide)
theorem own_d7_0 : decode jdk_52_method_15_code 0 = .ok (.iload_n 1, 1) := by decide +kernel
theorem own_d7_1 : decode jdk_52_method_15_code 1 = .ok (.aload_n 0, 1) := by decide +kernel
theorem own_d7_2 : decode jdk_52_method_15_code 2 = .ok (.arraylength, 1) := by decide +kernel
theorem own_d7_3 : decode jdk_52_method_15_code 3 = .ok (.isub, 1) := by decide +kernel
theorem own_d7_4 : decode jdk_52_method_15_code 4 = .ok (.bipush 31, 2) := by decide +kernel
theorem own_d7_6 : decode jdk_52_method_15_code 6 = .ok (.iushr, 1) := by decide +kernel
theorem own_d7_7 : decode jdk_52_method_15_code 7 = .ok (.i2b, 1) := by decide +kernel
theorem own_d7_8 : decode jdk_52_method_15_code 8 = .ok (.ireturn, 1) := by decide +kernel
theorem ef_own_rm7 (m : MethodId) (a1 : Addr) (p1 : Int32) : entryFrame m #[(.ref a1), (.int p1)] 2 = mkF m 0 #[.val (.ref a1), .val (.int p1)] [] := by first | (simp [entryFrame, mkF, argsToLocals, Value.category]; done) | rfl
def own_rm7_Q (Z : State) (a1 : Addr) (p1 : Int32) (LL : List Value) (h0 : Heap) (n0 : Nat) (v : Option Value) (h : Heap) (L : List Loc) : Prop := v = some (.int ((0 : Int32))) ∧ Fr n0 L ∧ h = h0
set_option maxRecDepth 65536 in
set_option maxHeartbeats 40000000 in
theorem own_rm7 (l : Launch) (Z : State) (a0 : Array Value) (hw : ∀ d ∈ tables_1, d.before a0 Z = true) (ws : List Jvm.Cond) (a1 : Addr) (p1 : Int32) (LL : List Value) (h0 : Heap) (n0 : Nat) (Z0 : n0 ≤ h0.size) (A_a1 : own_Ar Z h0 a1 .byte LL) (hp1 : LL.length.toInt32 = p1) :
    MetFree l (⟨"java/lang/StringUTF16", "coderFromArrayLen", "([BI)B"⟩ : MethodName) (head1 (Jvm.Cond.code (⟨"java/lang/StringUTF16", "coderFromArrayLen", "([BI)B"⟩ : MethodName) jdk_52_method_15_code 2 (some .byte) :: ws) ({ frames := 0, cells := 0, slots := 0, locals := 0 } : Room)) (fun a U => a = #[(.ref a1), (.int p1)] ∧ Z.Warmed39 U.vm ∧ U.heap = h0) (fun _ _ _ _ _ => True) (fun _ U o U' => ∃ v L, o = .returned v ∧ own_rm7_Q Z a1 p1 LL h0 n0 v U'.heap L ∧ FrameEnd U o U' L ({ frames := 0, cells := 0, slots := 0, locals := 0 } : Room).cells ({ frames := 0, cells := 0, slots := 0, locals := 0 } : Room).slots) := by
  refine MetFree.of_bodySF (plainFor_of_name own_pn0) hisR ?_
  intro p e s m args below meth c s₁ Bd hml0 hP hK
  obtain ⟨rfl, hZ, hh⟩ := hP
  have hx := Bd.exec
  have hby := Bd.bytes
  have hml : c.maxLocals = 2 := hml0
  have hown : s.vm.findClass "java/lang/StringUTF16" = some m.cls := findClass_of_methodNamed Bd.named
  have hnm := (name_of_methodNamed Bd.named Bd.method).1
  have hlk : meth.locks = false := BodyLoose.notSynchronized Bd
  have X0 : Stand p l e ({ frames := 0, cells := 0, slots := 0, locals := 0 } : Room) s m #[(.ref a1), (.int p1)] below meth c s₁ [] 0 0 := Stand.of_body Bd
  have e0 : s₁.heap = h0 := by rw [← hh, Bd.state]; rfl
  have N0 := Fr.nil n0
  have K0 : Keep h0 h0 [] := Keep.refl h0 []
  show own_Fin p e below (own_P (own_rm7_Q Z a1 p1 LL h0 n0) s ({ frames := 0, cells := 0, slots := 0, locals := 0 } : Room).cells ({ frames := 0, cells := 0, slots := 0, locals := 0 } : Room).slots) (s₁.setTop (entryFrame m #[(.ref a1), (.int p1)] 2))
  refine own_via (g' := s₁.setTop (mkF m 0 #[.val (.ref a1), .val (.int p1)] [])) (fun t k => castTop (ef_own_rm7 m a1 p1) k) ?_
  refine own_via (g' := s₁.setTop (mkF m 1 #[.val (.ref a1), .val (.int p1)] [(.int p1)])) (fun t k => XS.iloadN X0.here hx rfl (hb hby own_d7_0) rfl k) ?_
  refine own_via (g' := s₁.setTop (mkF m 2 #[.val (.ref a1), .val (.int p1)] [(.ref a1), (.int p1)])) (fun t k => XS.aloadN X0.here hx rfl (hb hby own_d7_1) rfl (rfl) k) ?_
  refine own_via (g' := s₁.setTop (mkF m 3 #[.val (.ref a1), .val (.int p1)] [(.int p1), (.int p1)])) (fun t k => own_len X0 hx hZ e0 A_a1 (n := p1) hp1 (g := (mkF m 2 #[.val (.ref a1), .val (.int p1)] [(.ref a1), (.int p1)])) rfl rfl (hb hby own_d7_2) _ k) ?_
  refine own_via (g' := s₁.setTop (mkF m 4 #[.val (.ref a1), .val (.int p1)] [(.int (p1 - p1))])) (fun t k => XS.isub X0.here hx rfl (hb hby own_d7_3) rfl k) ?_
  rw [Int32.sub_self]
  refine own_via (g' := s₁.setTop (mkF m 6 #[.val (.ref a1), .val (.int p1)] [(.int (31 : Int32)), (.int (0 : Int32))])) (fun t k => XS.bipush X0.here hx rfl (hb hby own_d7_4) k) ?_
  refine own_via (g' := s₁.setTop (mkF m 7 #[.val (.ref a1), .val (.int p1)] [(.int (((0 : Int32).toUInt32 >>> ((31 : Int32) &&& 31).toUInt32).toInt32))])) (fun t k => XS.iushr X0.here hx rfl (hb hby own_d7_6) rfl k) ?_
  rw [show (((0 : Int32).toUInt32 >>> ((31 : Int32) &&& 31).toUInt32).toInt32) = (0 : Int32) from by decide]
  refine own_via (g' := s₁.setTop (mkF m 8 #[.val (.ref a1), .val (.int p1)] [(.int ((0 : Int32).toInt8.toInt32))])) (fun t k => XT.i2b X0.here hx rfl (hb hby own_d7_7) rfl k) ?_
  rw [show ((0 : Int32).toInt8.toInt32) = (0 : Int32) from by decide]
  exact own_retB X0 hx hlk (t := .byte) Bd.returns (by simp) (hb hby own_d7_8) ⟨rfl, N0, e0⟩ (by decide) (by decide)
theorem own_lnz {n : Nat} (h : 0 < n) (hl : n < 2147483648) : ¬ n.toInt32 = 0 := fun q => by
  have := congrArg Int32.toInt q
  rw [len_toInt (by omega)] at this
  have z : (0 : Int32).toInt = 0 := rfl
  omega
theorem own_pn1 : plainName "java/lang/String" = true := by first | (simp [plainName, overriddenIn]; done) | decide +kernel
theorem own_pd1 : parseMethodDescriptor "([CII)[B" = some ⟨[(.array .char), .int, .int], some (.array .byte)⟩ := by decide +kernel
theorem own_pd2 : parseMethodDescriptor "([BI)B" = some ⟨[(.array .byte), .int], some .byte⟩ := by decide +kernel
theorem own_d3_0 : decode jdk_42_method_149_code 0 = .ok (.aload_n 0, 1) := by decide +kernel
theorem own_d3_1 : decode jdk_42_method_149_code 1 = .ok (.invokespecial 1, 3) := by decide +kernel
theorem own_d3_4 : decode jdk_42_method_149_code 4 = .ok (.iload_n 3, 1) := by decide +kernel
theorem own_d3_5 : decode jdk_42_method_149_code 5 = .ok (.ifCond .ne 22, 3) := by decide +kernel
theorem own_d3_27 : decode jdk_42_method_149_code 27 = .ok (.getstatic 38, 3) := by decide +kernel
theorem own_d3_30 : decode jdk_42_method_149_code 30 = .ok (.ifCond .eq 28, 3) := by decide +kernel
theorem own_d3_33 : decode jdk_42_method_149_code 33 = .ok (.aload_n 1, 1) := by decide +kernel
theorem own_d3_34 : decode jdk_42_method_149_code 34 = .ok (.iload_n 2, 1) := by decide +kernel
theorem own_d3_35 : decode jdk_42_method_149_code 35 = .ok (.iload_n 3, 1) := by decide +kernel
theorem own_d3_36 : decode jdk_42_method_149_code 36 = .ok (.invokestatic 177, 3) := by decide +kernel
theorem own_d3_39 : decode jdk_42_method_149_code 39 = .ok (.astore 5, 2) := by decide +kernel
theorem own_d3_41 : decode jdk_42_method_149_code 41 = .ok (.aload_n 0, 1) := by decide +kernel
theorem own_d3_42 : decode jdk_42_method_149_code 42 = .ok (.aload 5, 2) := by decide +kernel
theorem own_d3_44 : decode jdk_42_method_149_code 44 = .ok (.iload_n 3, 1) := by decide +kernel
theorem own_d3_45 : decode jdk_42_method_149_code 45 = .ok (.invokestatic 47, 3) := by decide +kernel
theorem own_d3_48 : decode jdk_42_method_149_code 48 = .ok (.putfield 15, 3) := by decide +kernel
theorem own_d3_51 : decode jdk_42_method_149_code 51 = .ok (.aload_n 0, 1) := by decide +kernel
theorem own_d3_52 : decode jdk_42_method_149_code 52 = .ok (.aload 5, 2) := by decide +kernel
theorem own_d3_54 : decode jdk_42_method_149_code 54 = .ok (.putfield 9, 3) := by decide +kernel
theorem own_d3_57 : decode jdk_42_method_149_code 57 = .ok (.return_, 1) := by decide +kernel
theorem ef_own_rm3 (m : MethodId) (a1 : Addr) (a2 : Addr) (p1 : Int32) (p2 : Int32) : entryFrame m #[(.ref a1), (.ref a2), (.int p1), (.int p2), .null] 6 = mkF m 0 #[.val (.ref a1), .val (.ref a2), .val (.int p1), .val (.int p2), .val .null, .unset] [] := by first | (simp [entryFrame, mkF, argsToLocals, Value.category]; done) | rfl
def own_rm3_Q (Z : State) (a1 : Addr) (a2 : Addr) (p1 : Int32) (p2 : Int32) (cs : Int32) (CC : List Int32) (h0 : Heap) (n0 : Nat) (v : Option Value) (h : Heap) (L : List Loc) : Prop := v = none ∧ Fr n0 L ∧ Keep h0 h [a1] ∧ Exa Z h a1 "java/lang/String" ∧ Fld Z h a1 "java/lang/String" "coder" "B" (.int (0 : Int32)) ∧ ∃ d : Addr, h0.size ≤ d ∧ Fld Z h a1 "java/lang/String" "value" "[B" (.ref d) ∧ own_Ar Z h d .byte ((CC.map own_b8).map Value.int)
set_option maxRecDepth 65536 in
set_option maxHeartbeats 40000000 in
theorem own_rm3 (l : Launch) (Z : State) (a0 : Array Value) (hw : ∀ d ∈ tables_1, d.before a0 Z = true) (ws : List Jvm.Cond) (a1 : Addr) (a2 : Addr) (p1 : Int32) (p2 : Int32) (cs : Int32) (CC : List Int32) (h0 : Heap) (n0 : Nat) (Z0 : n0 ≤ h0.size) (CS : Sta Z h0 "java/lang/String" "COMPACT_STRINGS" "Z" (.int cs)) (hcs : ¬ cs = 0) (E_a1 : Exa Z h0 a1 "java/lang/String") (Fc : Fld Z h0 a1 "java/lang/String" "coder" "B" (.int (0 : Int32))) (Fv : Fld Z h0 a1 "java/lang/String" "value" "[B" .null) (A_a2 : own_Ar Z h0 a2 .char (CC.map Value.int)) (hne : a1 ≠ a2) (hpos : 0 < CC.length) (hlC : CC.length < 2147483648) (hcap : CC.length ≤ 2) (hch : ∀ c ∈ CC, ¬ (255 : Int32) < c) (g_a1 : n0 ≤ a1) (hp1 : p1 = 0) (hp2 : p2 = CC.length.toInt32) :
    MetFree l (⟨"java/lang/String", "<init>", "([CIILjava/lang/Void;)V"⟩ : MethodName) (head1 (Jvm.Cond.code (⟨"java/lang/String", "<init>", "([CIILjava/lang/Void;)V"⟩ : MethodName) jdk_42_method_149_code 6 none :: ws) ({ frames := 2, cells := 1, slots := 2, locals := 35 } : Room)) (fun a U => a = #[(.ref a1), (.ref a2), (.int p1), (.int p2), .null] ∧ Z.Warmed39 U.vm ∧ U.heap = h0) (fun _ _ _ _ _ => True) (fun _ U o U' => ∃ v L, o = .returned v ∧ own_rm3_Q Z a1 a2 p1 p2 cs CC h0 n0 v U'.heap L ∧ FrameEnd U o U' L ({ frames := 2, cells := 1, slots := 2, locals := 35 } : Room).cells ({ frames := 2, cells := 1, slots := 2, locals := 35 } : Room).slots) := by
  refine MetFree.of_bodySF (plainFor_of_name own_pn1) hisR ?_
  intro p e s m args below meth c s₁ Bd hml0 hP hK
  obtain ⟨rfl, hZ, hh⟩ := hP
  have hx := Bd.exec
  have hby := Bd.bytes
  have hml : c.maxLocals = 6 := hml0
  have hown : s.vm.findClass "java/lang/String" = some m.cls := findClass_of_methodNamed Bd.named
  have hnm := (name_of_methodNamed Bd.named Bd.method).1
  have hlk : meth.locks = false := BodyLoose.notSynchronized Bd
  have X0 : Stand p l e ({ frames := 2, cells := 1, slots := 2, locals := 35 } : Room) s m #[(.ref a1), (.ref a2), (.int p1), (.int p2), .null] below meth c s₁ [] 0 0 := Stand.of_body Bd
  have e0 : s₁.heap = h0 := by rw [← hh, Bd.state]; rfl
  have N0 := Fr.nil n0
  have K0 : Keep h0 h0 [a1] := Keep.refl h0 [a1]
  show own_Fin p e below (own_P (own_rm3_Q Z a1 a2 p1 p2 cs CC h0 n0) s ({ frames := 2, cells := 1, slots := 2, locals := 35 } : Room).cells ({ frames := 2, cells := 1, slots := 2, locals := 35 } : Room).slots) (s₁.setTop (entryFrame m #[(.ref a1), (.ref a2), (.int p1), (.int p2), .null] 6))
  refine own_via (g' := s₁.setTop (mkF m 0 #[.val (.ref a1), .val (.ref a2), .val (.int p1), .val (.int p2), .val .null, .unset] [])) (fun t k => castTop (ef_own_rm3 m a1 a2 p1 p2) k) ?_
  subst hp1 hp2
  refine own_via (g' := s₁.setTop (mkF m 1 #[.val (.ref a1), .val (.ref a2), .val (.int (0 : Int32)), .val (.int CC.length.toInt32), .val .null, .unset] [(.ref a1)])) (fun t k => XS.aloadN X0.here hx rfl (hb hby own_d3_0) rfl (rfl) k) ?_
  obtain ⟨T1, X1, e1, st1⟩ := initO X0 hx hZ hown (hw _ (List.mem_of_getElem? (i := 15) rfl)) (hw _ (List.mem_of_getElem? (i := 16) rfl)) (hw _ (List.mem_of_getElem? (i := 17) rfl)) e0 (g := (mkF m 1 #[.val (.ref a1), .val (.ref a2), .val (.int (0 : Int32)), .val (.int CC.length.toInt32), .val .null, .unset] [(.ref a1)])) rfl (by rw [hml]; rfl) rfl (hb hby own_d3_1) (by decide) (W := 0) (by show 2 * 0 + _ ≤ _; exact Nat.le_of_eq rfl) (by decide)
  refine own_via (g' := T1.setTop (mkF m 4 #[.val (.ref a1), .val (.ref a2), .val (.int (0 : Int32)), .val (.int CC.length.toInt32), .val .null, .unset] [])) (fun t k => st1 _ k) ?_
  refine own_via (g' := T1.setTop (mkF m 5 #[.val (.ref a1), .val (.ref a2), .val (.int (0 : Int32)), .val (.int CC.length.toInt32), .val .null, .unset] [(.int CC.length.toInt32)])) (fun t k => XS.iloadN X1.here hx rfl (hb hby own_d3_4) rfl k) ?_
  refine own_via (g' := T1.setTop (mkF m 27 #[.val (.ref a1), .val (.ref a2), .val (.int (0 : Int32)), .val (.int CC.length.toInt32), .val .null, .unset] [])) (fun t k => XS.ifYes X1.here hx rfl (pc0 := 5) (pc' := 27) rfl (hb hby own_d3_5) rfl (XT.i0_ne_t (own_lnz hpos hlC)) (by decide) (by decide) k) ?_
  obtain ⟨T2, X2, e2, st2⟩ := getS X1 hx hZ hown (host := "") (hw _ (List.mem_of_getElem? (i := 18) rfl)) Via.refl e1 CS (g := (mkF m 27 #[.val (.ref a1), .val (.ref a2), .val (.int (0 : Int32)), .val (.int CC.length.toInt32), .val .null, .unset] [])) rfl (hb hby own_d3_27)
  refine own_via (g' := T2.setTop (mkF m 30 #[.val (.ref a1), .val (.ref a2), .val (.int (0 : Int32)), .val (.int CC.length.toInt32), .val .null, .unset] [(.int cs)])) (fun t k => st2 _ k) ?_
  refine own_via (g' := T2.setTop (mkF m 33 #[.val (.ref a1), .val (.ref a2), .val (.int (0 : Int32)), .val (.int CC.length.toInt32), .val .null, .unset] [])) (fun t k => XS.ifNo X2.here hx rfl (hb hby own_d3_30) rfl (XT.i0_eq_f hcs) k) ?_
  refine own_via (g' := T2.setTop (mkF m 34 #[.val (.ref a1), .val (.ref a2), .val (.int (0 : Int32)), .val (.int CC.length.toInt32), .val .null, .unset] [(.ref a2)])) (fun t k => XS.aloadN X2.here hx rfl (hb hby own_d3_33) rfl (rfl) k) ?_
  refine own_via (g' := T2.setTop (mkF m 35 #[.val (.ref a1), .val (.ref a2), .val (.int (0 : Int32)), .val (.int CC.length.toInt32), .val .null, .unset] [(.int (0 : Int32)), (.ref a2)])) (fun t k => XS.iloadN X2.here hx rfl (hb hby own_d3_34) rfl k) ?_
  refine own_via (g' := T2.setTop (mkF m 36 #[.val (.ref a1), .val (.ref a2), .val (.int (0 : Int32)), .val (.int CC.length.toInt32), .val .null, .unset] [(.int CC.length.toInt32), (.int (0 : Int32)), (.ref a2)])) (fun t k => XS.iloadN X2.here hx rfl (hb hby own_d3_35) rfl k) ?_
  obtain ⟨v3, _, ⟨T3, L3, k3, n3⟩, -, X3, ⟨Lc3, hQ3, l3, y3, z3⟩, st3⟩ := Jvm.LawKit.callS X2 hx (y := (⟨"java/lang/StringUTF16", "compress", "([CII)[B"⟩ : MethodName)) hown (mvT hZ (hw _ (List.mem_of_getElem? (i := 19) rfl))) (mvT hZ (hw _ (List.mem_of_getElem? (i := 20) rfl))) (mvT hZ (hw _ (List.mem_of_getElem? (i := 21) rfl))) (mvT hZ (hw _ (List.mem_of_getElem? (i := 22) rfl))) (by decide) (backOf (W := 0) (own_rm5 l Z a0 hw [] a2 (0 : Int32) CC.length.toInt32 CC h0 n0 (Nat.le_trans Z0 K0.1) A_a2 rfl rfl hlC hcap hch) hZ (hw _ (List.mem_of_getElem? (i := 22) rfl)) (hw _ (List.mem_of_getElem? (i := 21) rfl)) (by decide) (by decide)) (g := (mkF m 36 #[.val (.ref a1), .val (.ref a2), .val (.int (0 : Int32)), .val (.int CC.length.toInt32), .val .null, .unset] [(.int CC.length.toInt32), (.int (0 : Int32)), (.ref a2)])) rfl (by rw [hml]; rfl) (argsL := [(.ref a2), (.int (0 : Int32)), (.int CC.length.toInt32)]) (rest := []) (lenOf own_pd1 rfl) rfl (by show 2 * 0 + _ ≤ _; exact Nat.le_of_eq rfl) (hb hby own_d3_36) (fun _ _ => ⟨rfl, e2, (by decide : 0 + 1 ≤ _), (by decide : 0 + 2 ≤ _)⟩)
  dsimp only [Pt.U, Pt.locs, Pt.cells, Pt.slots] at X3 l3 y3 z3 st3 hQ3
  subst l3 y3 z3
  obtain ⟨b3, rfl, N3q, szq3, K3, V3⟩ := hQ3
  have ne_a1_b3 : a1 ≠ b3 := Nat.ne_of_lt (Nat.lt_of_lt_of_le E_a1.lt szq3)
  have ne_a2_b3 : a2 ≠ b3 := Nat.ne_of_lt (Nat.lt_of_lt_of_le A_a2.lt szq3)
  have Kc3 : Keep h0 T3.heap [a1] := K0.trans K3 all0
  have sz_b3 : h0.size ≤ b3 := Nat.le_trans K0.1 szq3
  have N3 := Fr.app N0 N3q
  refine own_via (g' := T3.setTop (mkF m 39 #[.val (.ref a1), .val (.ref a2), .val (.int (0 : Int32)), .val (.int CC.length.toInt32), .val .null, .unset] [(.ref b3)])) (fun t k => st3 _ k) ?_
  refine own_via (g' := T3.setTop (mkF m 41 #[.val (.ref a1), .val (.ref a2), .val (.int (0 : Int32)), .val (.int CC.length.toInt32), .val .null, .val (.ref b3)] [])) (fun t k => XS.astore X3.here hx rfl (hb hby own_d3_39) rfl (rfl) (l' := #[.val (.ref a1), .val (.ref a2), .val (.int (0 : Int32)), .val (.int CC.length.toInt32), .val .null, .val (.ref b3)]) rfl k) ?_
  refine own_via (g' := T3.setTop (mkF m 42 #[.val (.ref a1), .val (.ref a2), .val (.int (0 : Int32)), .val (.int CC.length.toInt32), .val .null, .val (.ref b3)] [(.ref a1)])) (fun t k => XS.aloadN X3.here hx rfl (hb hby own_d3_41) rfl (rfl) k) ?_
  refine own_via (g' := T3.setTop (mkF m 44 #[.val (.ref a1), .val (.ref a2), .val (.int (0 : Int32)), .val (.int CC.length.toInt32), .val .null, .val (.ref b3)] [(.ref b3), (.ref a1)])) (fun t k => XS.aload X3.here hx rfl (hb hby own_d3_42) rfl (rfl) k) ?_
  refine own_via (g' := T3.setTop (mkF m 45 #[.val (.ref a1), .val (.ref a2), .val (.int (0 : Int32)), .val (.int CC.length.toInt32), .val .null, .val (.ref b3)] [(.int CC.length.toInt32), (.ref b3), (.ref a1)])) (fun t k => XS.iloadN X3.here hx rfl (hb hby own_d3_44) rfl k) ?_
  obtain ⟨v4, _, ⟨T4, L4, k4, n4⟩, -, X4, ⟨Lc4, hQ4, l4, y4, z4⟩, st4⟩ := Jvm.LawKit.callS X3 hx (y := (⟨"java/lang/StringUTF16", "coderFromArrayLen", "([BI)B"⟩ : MethodName)) hown (mvT hZ (hw _ (List.mem_of_getElem? (i := 27) rfl))) (mvT hZ (hw _ (List.mem_of_getElem? (i := 28) rfl))) (mvT hZ (hw _ (List.mem_of_getElem? (i := 21) rfl))) (mvT hZ (hw _ (List.mem_of_getElem? (i := 29) rfl))) (by decide) (backOf (W := 1) (own_rm7 l Z a0 hw [] b3 CC.length.toInt32 ((CC.map own_b8).map Value.int) T3.heap n0 (Nat.le_trans Z0 Kc3.1) V3 (by simp only [List.length_map])) hZ (hw _ (List.mem_of_getElem? (i := 29) rfl)) (hw _ (List.mem_of_getElem? (i := 21) rfl)) (by decide) (by decide)) (g := (mkF m 45 #[.val (.ref a1), .val (.ref a2), .val (.int (0 : Int32)), .val (.int CC.length.toInt32), .val .null, .val (.ref b3)] [(.int CC.length.toInt32), (.ref b3), (.ref a1)])) rfl (by rw [hml]; rfl) (argsL := [(.ref b3), (.int CC.length.toInt32)]) (rest := [(.ref a1)]) (lenOf own_pd2 rfl) rfl (by show 2 * 0 + _ ≤ _; exact Nat.le_of_eq rfl) (hb hby own_d3_45) (fun _ _ => ⟨rfl, rfl, (by decide : 1 + 0 ≤ _), (by decide : 2 + 0 ≤ _)⟩)
  dsimp only [Pt.U, Pt.locs, Pt.cells, Pt.slots] at X4 l4 y4 z4 st4 hQ4
  subst l4 y4 z4
  obtain ⟨rfl, N4q, e4⟩ := hQ4
  have N4 := Fr.app N3 N4q
  refine own_via (g' := T4.setTop (mkF m 48 #[.val (.ref a1), .val (.ref a2), .val (.int (0 : Int32)), .val (.int CC.length.toInt32), .val .null, .val (.ref b3)] [(.int (0 : Int32)), (.ref a1)])) (fun t k => st4 _ k) ?_
  obtain ⟨T5, h5, X5, e5, W5, st5⟩ := putFN X4 hx hZ hown (hw _ (List.mem_of_getElem? (i := 30) rfl)) Via.refl e4 (Fc.keep K3 nin0) (E_a1.keep K3) (Or.inr ⟨(hw _ (List.mem_of_getElem? (i := 31) rfl)), rfl, hnm⟩) (hw _ (List.mem_of_getElem? (i := 5) rfl)) (ty := .byte) (v' := (.int (0 : Int32))) (by decide) rfl rfl (g := (mkF m 48 #[.val (.ref a1), .val (.ref a2), .val (.int (0 : Int32)), .val (.int CC.length.toInt32), .val .null, .val (.ref b3)] [(.int (0 : Int32)), (.ref a1)])) rfl rfl (hb hby own_d3_48)
  have F5 : Fld Z h5 a1 "java/lang/String" "coder" "B" (.int (0 : Int32)) := (Fc.keep K3 nin0).same W5
  have Kc5 : Keep h0 h5 [a1] := Kc3.wr W5 (Or.inl (List.mem_of_getElem? (i := 0) rfl))
  have N5 := Fr.snoc X5 N4 g_a1
  refine own_via (g' := T5.setTop (mkF m 51 #[.val (.ref a1), .val (.ref a2), .val (.int (0 : Int32)), .val (.int CC.length.toInt32), .val .null, .val (.ref b3)] [])) (fun t k => st5 _ k) ?_
  refine own_via (g' := T5.setTop (mkF m 52 #[.val (.ref a1), .val (.ref a2), .val (.int (0 : Int32)), .val (.int CC.length.toInt32), .val .null, .val (.ref b3)] [(.ref a1)])) (fun t k => XS.aloadN X5.here hx rfl (hb hby own_d3_51) rfl (rfl) k) ?_
  refine own_via (g' := T5.setTop (mkF m 54 #[.val (.ref a1), .val (.ref a2), .val (.int (0 : Int32)), .val (.int CC.length.toInt32), .val .null, .val (.ref b3)] [(.ref b3), (.ref a1)])) (fun t k => XS.aload X5.here hx rfl (hb hby own_d3_52) rfl (rfl) k) ?_
  obtain ⟨T6, h6, X6, e6, W6, st6⟩ := putF X5 hx hZ hown (host := "") (Or.inl (hw _ (List.mem_of_getElem? (i := 32) rfl))) Via.refl e5 ((Fv.keep K3 nin0).other W5 (Or.inr (slot_ne (Or.inr (hw _ (List.mem_of_getElem? (i := 33) rfl))) (Or.inr (hw _ (List.mem_of_getElem? (i := 31) rfl))) (by decide) (t := (.array .byte)) (t' := .byte) (by decide) (by decide)))) ((E_a1.keep K3).wr W5) (Or.inr ⟨(hw _ (List.mem_of_getElem? (i := 33) rfl)), rfl, hnm⟩) (hw _ (List.mem_of_getElem? (i := 5) rfl)) (ty := (.array .byte)) (by decide) rfl rfl (g := (mkF m 54 #[.val (.ref a1), .val (.ref a2), .val (.int (0 : Int32)), .val (.int CC.length.toInt32), .val .null, .val (.ref b3)] [(.ref b3), (.ref a1)])) rfl rfl (hb hby own_d3_54)
  have F6 : Fld Z h6 a1 "java/lang/String" "value" "[B" (.ref b3) := ((Fv.keep K3 nin0).other W5 (Or.inr (slot_ne (Or.inr (hw _ (List.mem_of_getElem? (i := 33) rfl))) (Or.inr (hw _ (List.mem_of_getElem? (i := 31) rfl))) (by decide) (t := (.array .byte)) (t' := .byte) (by decide) (by decide)))).same W6
  have Kc6 : Keep h0 h6 [a1] := Kc5.wr W6 (Or.inl (List.mem_of_getElem? (i := 0) rfl))
  have N6 := Fr.snoc X6 N5 g_a1
  refine own_via (g' := T6.setTop (mkF m 57 #[.val (.ref a1), .val (.ref a2), .val (.int (0 : Int32)), .val (.int CC.length.toInt32), .val .null, .val (.ref b3)] [])) (fun t k => st6 _ k) ?_
  have eE : T6.heap = h6 := e6
  exact own_retV X6 hx hlk Bd.returns (hb hby own_d3_57) ⟨rfl, N6, (by rw [eE]; exact Kc6), (by rw [eE]; exact (((E_a1.keep K3).wr W5).wr W6)), (by rw [eE]; exact (F5.other W6 (Or.inr (slot_ne (Or.inr (hw _ (List.mem_of_getElem? (i := 31) rfl))) (Or.inr (hw _ (List.mem_of_getElem? (i := 33) rfl))) (by decide) (t := .byte) (t' := (.array .byte)) (by decide) (by decide))))), b3, sz_b3, (by rw [eE]; exact F6), (by rw [eE]; exact ((V3.other W5 (Ne.symm ne_a1_b3)).other W6 (Ne.symm ne_a1_b3)))⟩ (by decide) (by decide)
theorem own_pd3 : parseMethodDescriptor "([CIILjava/lang/Void;)V" = some ⟨[(.array .char), .int, .int, (.object "java/lang/Void")], none⟩ := by decide +kernel
theorem own_d2_0 : decode jdk_42_method_3_code 0 = .ok (.aload_n 0, 1) := by decide +kernel
theorem own_d2_1 : decode jdk_42_method_3_code 1 = .ok (.aload_n 1, 1) := by decide +kernel
theorem own_d2_2 : decode jdk_42_method_3_code 2 = .ok (.iconst 0, 1) := by decide +kernel
theorem own_d2_3 : decode jdk_42_method_3_code 3 = .ok (.aload_n 1, 1) := by decide +kernel
theorem own_d2_4 : decode jdk_42_method_3_code 4 = .ok (.arraylength, 1) := by decide +kernel
theorem own_d2_5 : decode jdk_42_method_3_code 5 = .ok (.aconst_null, 1) := by decide +kernel
theorem own_d2_6 : decode jdk_42_method_3_code 6 = .ok (.invokespecial 27, 3) := by decide +kernel
theorem own_d2_9 : decode jdk_42_method_3_code 9 = .ok (.return_, 1) := by decide +kernel
theorem ef_own_newS (m : MethodId) (a1 : Addr) (a2 : Addr) : entryFrame m #[(.ref a1), (.ref a2)] 2 = mkF m 0 #[.val (.ref a1), .val (.ref a2)] [] := by first | (simp [entryFrame, mkF, argsToLocals, Value.category]; done) | rfl
def own_newS_Q (Z : State) (a1 : Addr) (a2 : Addr) (cs : Int32) (CC : List Int32) (h0 : Heap) (n0 : Nat) (v : Option Value) (h : Heap) (L : List Loc) : Prop := v = none ∧ Fr n0 L ∧ Keep h0 h [a1] ∧ Exa Z h a1 "java/lang/String" ∧ Fld Z h a1 "java/lang/String" "coder" "B" (.int (0 : Int32)) ∧ ∃ d : Addr, h0.size ≤ d ∧ Fld Z h a1 "java/lang/String" "value" "[B" (.ref d) ∧ own_Ar Z h d .byte ((CC.map own_b8).map Value.int)
set_option maxRecDepth 65536 in
set_option maxHeartbeats 40000000 in
theorem own_newS (l : Launch) (Z : State) (a0 : Array Value) (hw : ∀ d ∈ tables_1, d.before a0 Z = true) (ws : List Jvm.Cond) (a1 : Addr) (a2 : Addr) (cs : Int32) (CC : List Int32) (h0 : Heap) (n0 : Nat) (Z0 : n0 ≤ h0.size) (CS : Sta Z h0 "java/lang/String" "COMPACT_STRINGS" "Z" (.int cs)) (hcs : ¬ cs = 0) (E_a1 : Exa Z h0 a1 "java/lang/String") (Fc : Fld Z h0 a1 "java/lang/String" "coder" "B" (.int (0 : Int32))) (Fv : Fld Z h0 a1 "java/lang/String" "value" "[B" .null) (A_a2 : own_Ar Z h0 a2 .char (CC.map Value.int)) (hne : a1 ≠ a2) (hpos : 0 < CC.length) (hlC : CC.length < 2147483648) (hcap : CC.length ≤ 2) (hch : ∀ c ∈ CC, ¬ (255 : Int32) < c) (g_a1 : n0 ≤ a1) :
    MetFree l (⟨"java/lang/String", "<init>", "([C)V"⟩ : MethodName) (head1 (Jvm.Cond.code (⟨"java/lang/String", "<init>", "([C)V"⟩ : MethodName) jdk_42_method_3_code 2 none :: ws) ({ frames := 3, cells := 1, slots := 2, locals := 52 } : Room)) (fun a U => a = #[(.ref a1), (.ref a2)] ∧ Z.Warmed39 U.vm ∧ U.heap = h0) (fun _ _ _ _ _ => True) (fun _ U o U' => ∃ v L, o = .returned v ∧ own_newS_Q Z a1 a2 cs CC h0 n0 v U'.heap L ∧ FrameEnd U o U' L ({ frames := 3, cells := 1, slots := 2, locals := 52 } : Room).cells ({ frames := 3, cells := 1, slots := 2, locals := 52 } : Room).slots) := by
  refine MetFree.of_bodySF (plainFor_of_name own_pn1) hisR ?_
  intro p e s m args below meth c s₁ Bd hml0 hP hK
  obtain ⟨rfl, hZ, hh⟩ := hP
  have hx := Bd.exec
  have hby := Bd.bytes
  have hml : c.maxLocals = 2 := hml0
  have hown : s.vm.findClass "java/lang/String" = some m.cls := findClass_of_methodNamed Bd.named
  have hnm := (name_of_methodNamed Bd.named Bd.method).1
  have hlk : meth.locks = false := BodyLoose.notSynchronized Bd
  have X0 : Stand p l e ({ frames := 3, cells := 1, slots := 2, locals := 52 } : Room) s m #[(.ref a1), (.ref a2)] below meth c s₁ [] 0 0 := Stand.of_body Bd
  have e0 : s₁.heap = h0 := by rw [← hh, Bd.state]; rfl
  have N0 := Fr.nil n0
  have K0 : Keep h0 h0 [a1] := Keep.refl h0 [a1]
  show own_Fin p e below (own_P (own_newS_Q Z a1 a2 cs CC h0 n0) s ({ frames := 3, cells := 1, slots := 2, locals := 52 } : Room).cells ({ frames := 3, cells := 1, slots := 2, locals := 52 } : Room).slots) (s₁.setTop (entryFrame m #[(.ref a1), (.ref a2)] 2))
  refine own_via (g' := s₁.setTop (mkF m 0 #[.val (.ref a1), .val (.ref a2)] [])) (fun t k => castTop (ef_own_newS m a1 a2) k) ?_
  refine own_via (g' := s₁.setTop (mkF m 1 #[.val (.ref a1), .val (.ref a2)] [(.ref a1)])) (fun t k => XS.aloadN X0.here hx rfl (hb hby own_d2_0) rfl (rfl) k) ?_
  refine own_via (g' := s₁.setTop (mkF m 2 #[.val (.ref a1), .val (.ref a2)] [(.ref a2), (.ref a1)])) (fun t k => XS.aloadN X0.here hx rfl (hb hby own_d2_1) rfl (rfl) k) ?_
  refine own_via (g' := s₁.setTop (mkF m 3 #[.val (.ref a1), .val (.ref a2)] [(.int (0 : Int32)), (.ref a2), (.ref a1)])) (fun t k => XS.iconst X0.here hx rfl (hb hby own_d2_2) k) ?_
  refine own_via (g' := s₁.setTop (mkF m 4 #[.val (.ref a1), .val (.ref a2)] [(.ref a2), (.int (0 : Int32)), (.ref a2), (.ref a1)])) (fun t k => XS.aloadN X0.here hx rfl (hb hby own_d2_3) rfl (rfl) k) ?_
  refine own_via (g' := s₁.setTop (mkF m 5 #[.val (.ref a1), .val (.ref a2)] [(.int CC.length.toInt32), (.int (0 : Int32)), (.ref a2), (.ref a1)])) (fun t k => own_len X0 hx hZ e0 A_a2 (n := CC.length.toInt32) (by rw [List.length_map]) (g := (mkF m 4 #[.val (.ref a1), .val (.ref a2)] [(.ref a2), (.int (0 : Int32)), (.ref a2), (.ref a1)])) rfl rfl (hb hby own_d2_4) _ k) ?_
  refine own_via (g' := s₁.setTop (mkF m 6 #[.val (.ref a1), .val (.ref a2)] [.null, (.int CC.length.toInt32), (.int (0 : Int32)), (.ref a2), (.ref a1)])) (fun t k => XS.aconstNull X0.here hx rfl (hb hby own_d2_5) k) ?_
  obtain ⟨v1, _, ⟨T1, L1, k1, n1⟩, -, X1, ⟨Lc1, hQ1, l1, y1, z1⟩, st1⟩ := X0.specialBack hx (y := (⟨"java/lang/String", "<init>", "([CIILjava/lang/Void;)V"⟩ : MethodName)) rfl hown (mvT hZ (hw _ (List.mem_of_getElem? (i := 11) rfl))) (mvT hZ (hw _ (List.mem_of_getElem? (i := 12) rfl))) (mvT hZ (hw _ (List.mem_of_getElem? (i := 14) rfl))) (by decide) (backOf (W := 0) (own_rm3 l Z a0 hw [] a1 a2 (0 : Int32) CC.length.toInt32 cs CC h0 n0 (Nat.le_trans Z0 K0.1) CS hcs E_a1 Fc Fv A_a2 hne hpos hlC hcap hch g_a1 rfl rfl) hZ (hw _ (List.mem_of_getElem? (i := 14) rfl)) (hw _ (List.mem_of_getElem? (i := 6) rfl)) (by decide) (by decide)) (g := (mkF m 6 #[.val (.ref a1), .val (.ref a2)] [.null, (.int CC.length.toInt32), (.int (0 : Int32)), (.ref a2), (.ref a1)])) rfl (by rw [hml]; rfl) (Steps.refl _) (a := a1) (argsL := [(.ref a2), (.int (0 : Int32)), (.int CC.length.toInt32), .null]) (rest := []) (lenOf own_pd3 rfl) rfl (by show 2 * 0 + _ ≤ _; exact Nat.le_of_eq rfl) (hb hby own_d2_6) (fun _ _ => ⟨rfl, e0, (by decide : 0 + 1 ≤ _), (by decide : 0 + 2 ≤ _)⟩)
  dsimp only [Pt.U, Pt.locs, Pt.cells, Pt.slots] at X1 l1 y1 z1 st1 hQ1
  subst l1 y1 z1
  obtain ⟨rfl, N1q, K1, A1, Fc1, d1, szq1, Fv1, V1⟩ := hQ1
  have ne_a1_d1 : a1 ≠ d1 := Nat.ne_of_lt (Nat.lt_of_lt_of_le E_a1.lt szq1)
  have ne_a2_d1 : a2 ≠ d1 := Nat.ne_of_lt (Nat.lt_of_lt_of_le A_a2.lt szq1)
  have Kc1 : Keep h0 T1.heap [a1] := K0.trans K1 (allS (Or.inl (List.mem_of_getElem? (i := 0) rfl)) all0)
  have sz_d1 : h0.size ≤ d1 := Nat.le_trans K0.1 szq1
  have N1 := Fr.app N0 N1q
  refine own_via (g' := T1.setTop (mkF m 9 #[.val (.ref a1), .val (.ref a2)] [])) (fun t k => st1.trans k) ?_
  have eE : T1.heap = T1.heap := rfl
  exact own_retV X1 hx hlk Bd.returns (hb hby own_d2_9) ⟨rfl, N1, (by rw [eE]; exact Kc1), (by rw [eE]; exact A1), (by rw [eE]; exact Fc1), d1, sz_d1, (by rw [eE]; exact Fv1), (by rw [eE]; exact V1)⟩ (by decide) (by decide)
theorem own_d3_8 : decode jdk_42_method_149_code 8 = .ok (.aload_n 0, 1) := by decide +kernel
theorem own_d3_9 : decode jdk_42_method_149_code 9 = .ok (.ldc 7, 2) := by decide +kernel
theorem own_d3_11 : decode jdk_42_method_149_code 11 = .ok (.getfield 9, 3) := by decide +kernel
theorem own_d3_14 : decode jdk_42_method_149_code 14 = .ok (.putfield 9, 3) := by decide +kernel
theorem own_d3_17 : decode jdk_42_method_149_code 17 = .ok (.aload_n 0, 1) := by decide +kernel
theorem own_d3_18 : decode jdk_42_method_149_code 18 = .ok (.ldc 7, 2) := by decide +kernel
theorem own_d3_20 : decode jdk_42_method_149_code 20 = .ok (.getfield 15, 3) := by decide +kernel
theorem own_d3_23 : decode jdk_42_method_149_code 23 = .ok (.putfield 15, 3) := by decide +kernel
theorem own_d3_26 : decode jdk_42_method_149_code 26 = .ok (.return_, 1) := by decide +kernel
theorem ef_own_emp4 (m : MethodId) (a1 : Addr) (a2 : Addr) (p1 : Int32) (p2 : Int32) : entryFrame m #[(.ref a1), (.ref a2), (.int p1), (.int p2), .null] 6 = mkF m 0 #[.val (.ref a1), .val (.ref a2), .val (.int p1), .val (.int p2), .val .null, .unset] [] := by first | (simp [entryFrame, mkF, argsToLocals, Value.category]; done) | rfl
def own_emp4_Q (Z : State) (a1 : Addr) (a2 : Addr) (p1 : Int32) (p2 : Int32)  (h0 : Heap) (n0 : Nat) (v : Option Value) (h : Heap) (L : List Loc) : Prop := v = none ∧ Fr n0 L ∧ Keep h0 h [a1]
set_option maxRecDepth 65536 in
set_option maxHeartbeats 40000000 in
theorem own_emp4 (l : Launch) (Z : State) (a0 : Array Value) (hw : ∀ d ∈ tables_1, d.before a0 Z = true) (ws : List Jvm.Cond) (a1 : Addr) (a2 : Addr) (p1 : Int32) (p2 : Int32)  (h0 : Heap) (n0 : Nat) (Z0 : n0 ≤ h0.size) (E_a1 : Exa Z h0 a1 "java/lang/String") (Fc : Fld Z h0 a1 "java/lang/String" "coder" "B" (.int (0 : Int32))) (Fv : Fld Z h0 a1 "java/lang/String" "value" "[B" .null) (g_a1 : n0 ≤ a1) (hp2 : p2 = 0) :
    MetFree l (⟨"java/lang/String", "<init>", "([CIILjava/lang/Void;)V"⟩ : MethodName) (head1 (Jvm.Cond.code (⟨"java/lang/String", "<init>", "([CIILjava/lang/Void;)V"⟩ : MethodName) jdk_42_method_149_code 6 none :: ws) ({ frames := 1, cells := 4, slots := 8, locals := 12 } : Room)) (fun a U => a = #[(.ref a1), (.ref a2), (.int p1), (.int p2), .null] ∧ Z.Warmed39 U.vm ∧ U.heap = h0 ∧ CHv Z own_EL U.vm h0 ∧ ∀ x ∈ ([a1] : List Addr), Safe Z own_EL U.vm h0 x) (fun _ _ _ _ _ => True) (fun _ U o U' => ∃ v L, o = .returned v ∧ own_emp4_Q Z a1 a2 p1 p2  h0 n0 v U'.heap L ∧ CHr Z own_EL U.vm U.heap U'.vm U'.heap ∧ ReturnedEndW U o U' L ({ frames := 1, cells := 4, slots := 8, locals := 12 } : Room).cells ({ frames := 1, cells := 4, slots := 8, locals := 12 } : Room).slots) := by
  refine MetFree.of_bodySF (plainFor_of_name own_pn1) hisR ?_
  intro p e s m args below meth c s₁ Bd hml0 hP hK
  obtain ⟨rfl, hZ, hh, hCH0, hSf0⟩ := hP
  have hx := Bd.exec
  have hby := Bd.bytes
  have hml : c.maxLocals = 6 := hml0
  have hown : s.vm.findClass "java/lang/String" = some m.cls := findClass_of_methodNamed Bd.named
  have hnm := (name_of_methodNamed Bd.named Bd.method).1
  have hlk : meth.locks = false := BodyLoose.notSynchronized Bd
  have X0 : Stand p l e ({ frames := 1, cells := 4, slots := 8, locals := 12 } : Room) (s.setVm s.vm) m #[(.ref a1), (.ref a2), (.int p1), (.int p2), .null] below meth c s₁ [] 0 0 := Stand.of_body Bd
  have e0 : s₁.heap = h0 := by rw [← hh, Bd.state]; rfl
  have N0 := Fr.nil n0
  have K0 : Keep h0 h0 [a1] := Keep.refl h0 [a1]
  show own_Fin p e below (own_PH Z (own_emp4_Q Z a1 a2 p1 p2  h0 n0) s ({ frames := 1, cells := 4, slots := 8, locals := 12 } : Room).cells ({ frames := 1, cells := 4, slots := 8, locals := 12 } : Room).slots) (s₁.setTop (entryFrame m #[(.ref a1), (.ref a2), (.int p1), (.int p2), .null] 6))
  have hCR0 : CHr Z own_EL (s.setVm s.vm).vm h0 s.vm h0 := CHr.refl hCH0
  have hS0 : s.Since s.vm 0 := (State.WarmedH.refl s).since 0
  have hk0 : 0 ≤ h0.size := Nat.zero_le _
  have hZ : Z.Warmed39 (s.setVm s.vm).vm := hZ
  have hown : (s.setVm s.vm).vm.findClass "java/lang/String" = some m.cls := hown
  refine own_via (g' := s₁.setTop (mkF m 0 #[.val (.ref a1), .val (.ref a2), .val (.int p1), .val (.int p2), .val .null, .unset] [])) (fun t k => castTop (ef_own_emp4 m a1 a2 p1 p2) k) ?_
  subst hp2
  refine own_via (g' := s₁.setTop (mkF m 1 #[.val (.ref a1), .val (.ref a2), .val (.int p1), .val (.int (0 : Int32)), .val .null, .unset] [(.ref a1)])) (fun t k => XS.aloadN X0.here hx rfl (hb hby own_d3_0) rfl (rfl) k) ?_
  obtain ⟨T1, X1, e1, st1⟩ := initO X0 hx hZ hown (hw _ (List.mem_of_getElem? (i := 15) rfl)) (hw _ (List.mem_of_getElem? (i := 16) rfl)) (hw _ (List.mem_of_getElem? (i := 17) rfl)) e0 (g := (mkF m 1 #[.val (.ref a1), .val (.ref a2), .val (.int p1), .val (.int (0 : Int32)), .val .null, .unset] [(.ref a1)])) rfl (by rw [hml]; rfl) rfl (hb hby own_d3_1) (by decide) (W := 0) (by show 2 * 0 + _ ≤ _; exact Nat.le_of_eq rfl) (by decide)
  refine own_via (g' := T1.setTop (mkF m 4 #[.val (.ref a1), .val (.ref a2), .val (.int p1), .val (.int (0 : Int32)), .val .null, .unset] [])) (fun t k => st1 _ k) ?_
  refine own_via (g' := T1.setTop (mkF m 5 #[.val (.ref a1), .val (.ref a2), .val (.int p1), .val (.int (0 : Int32)), .val .null, .unset] [(.int (0 : Int32))])) (fun t k => XS.iloadN X1.here hx rfl (hb hby own_d3_4) rfl k) ?_
  refine own_via (g' := T1.setTop (mkF m 8 #[.val (.ref a1), .val (.ref a2), .val (.int p1), .val (.int (0 : Int32)), .val .null, .unset] [])) (fun t k => XS.ifNo X1.here hx rfl (hb hby own_d3_5) rfl (XT.i0_ne_f (by decide)) k) ?_
  refine own_via (g' := T1.setTop (mkF m 9 #[.val (.ref a1), .val (.ref a2), .val (.int p1), .val (.int (0 : Int32)), .val .null, .unset] [(.ref a1)])) (fun t k => XS.aloadN X1.here hx rfl (hb hby own_d3_8) rfl (rfl) k) ?_
  obtain ⟨b2, T2, h2, kS2, d2, kc2, X2, e2, E2, hS2, hk2, hZ, hown, A2, Fc2, Fv2, Va2, -, -, cr2, -, sfx2, st2⟩ := ldcCH X1 hx hZ hown (hw _ (List.mem_of_getElem? (i := 67) rfl)) (own_wS hw) e1 hS0 hk0 (own_hEL hw) (List.mem_of_getElem? (i := 0) rfl) hCR0.1 (vs := []) (z := (0 : Int32)) ⟨by decide, by decide⟩ (by decide) (by decide) (g := (mkF m 9 #[.val (.ref a1), .val (.ref a2), .val (.int p1), .val (.int (0 : Int32)), .val .null, .unset] [(.ref a1)])) rfl (hb hby own_d3_9) (n := 0) (by decide) (by decide) (by decide) (by decide)
  have Sx2_a1 := CHr.safe cr2 E_a1.lt (hSf0 a1 (List.mem_of_getElem? (i := 0) rfl))
  have nex2_a1 := sfx2 a1 Sx2_a1
  have hCR2 := hCR0.trans cr2
  have Kc2 : Keep h0 h2 [a1] := K0.ext E2
  have V2 : own_Ar Z h2 d2 .byte [] := own_Ar.ofArv Va2 (by decide)
  refine own_via (g' := T2.setTop (mkF m 11 #[.val (.ref a1), .val (.ref a2), .val (.int p1), .val (.int (0 : Int32)), .val .null, .unset] [(.ref b2), (.ref a1)])) (fun t k => st2 _ k) ?_
  obtain ⟨T3, X3, e3, st3⟩ := getF X2 hx hZ hown (host := "") (Or.inl (hw _ (List.mem_of_getElem? (i := 32) rfl))) Via.refl e2 Fv2 (g := (mkF m 11 #[.val (.ref a1), .val (.ref a2), .val (.int p1), .val (.int (0 : Int32)), .val .null, .unset] [(.ref b2), (.ref a1)])) rfl rfl (hb hby own_d3_11)
  refine own_via (g' := T3.setTop (mkF m 14 #[.val (.ref a1), .val (.ref a2), .val (.int p1), .val (.int (0 : Int32)), .val .null, .unset] [(.ref d2), (.ref a1)])) (fun t k => st3 _ k) ?_
  obtain ⟨T4, h4, X4, e4, W4, st4⟩ := putF X3 hx hZ hown (host := "") (Or.inl (hw _ (List.mem_of_getElem? (i := 32) rfl))) Via.refl e3 (Fv.ext E2) (E_a1.ext E2) (Or.inr ⟨(hw _ (List.mem_of_getElem? (i := 33) rfl)), rfl, hnm⟩) (hw _ (List.mem_of_getElem? (i := 5) rfl)) (ty := (.array .byte)) (by decide) rfl rfl (g := (mkF m 14 #[.val (.ref a1), .val (.ref a2), .val (.int p1), .val (.int (0 : Int32)), .val .null, .unset] [(.ref d2), (.ref a1)])) rfl rfl (hb hby own_d3_14)
  have F4 : Fld Z h4 a1 "java/lang/String" "value" "[B" (.ref d2) := (Fv.ext E2).same W4
  have hCR4 := hCR2.trans (CHr.wr W4 Sx2_a1 hCR2.1)
  have Sf4_a1 := Safe.wr W4 Sx2_a1 hCR2.1 Sx2_a1
  have Kc4 : Keep h0 h4 [a1] := Kc2.wr W4 (Or.inl (List.mem_of_getElem? (i := 0) rfl))
  have N4 := Fr.snoc X4 N0 g_a1
  refine own_via (g' := T4.setTop (mkF m 17 #[.val (.ref a1), .val (.ref a2), .val (.int p1), .val (.int (0 : Int32)), .val .null, .unset] [])) (fun t k => st4 _ k) ?_
  refine own_via (g' := T4.setTop (mkF m 18 #[.val (.ref a1), .val (.ref a2), .val (.int p1), .val (.int (0 : Int32)), .val .null, .unset] [(.ref a1)])) (fun t k => XS.aloadN X4.here hx rfl (hb hby own_d3_17) rfl (rfl) k) ?_
  obtain ⟨b5, T5, h5, kS5, d5, kc5, X5, e5, E5, hS5, hk5, hZ, hown, A5, Fc5, Fv5, Va5, -, -, cr5, -, sfx5, st5⟩ := ldcCH X4 hx hZ hown (hw _ (List.mem_of_getElem? (i := 67) rfl)) (own_wS hw) e4 hS2 (Nat.le_trans hk2 (Keep.of_wr W4).1) (own_hEL hw) (List.mem_of_getElem? (i := 0) rfl) hCR4.1 (vs := []) (z := (0 : Int32)) ⟨by decide, by decide⟩ (by decide) (by decide) (g := (mkF m 18 #[.val (.ref a1), .val (.ref a2), .val (.int p1), .val (.int (0 : Int32)), .val .null, .unset] [(.ref a1)])) rfl (hb hby own_d3_18) (n := 0) (by decide) (by decide) (by decide) (by decide)
  have Sx5_a1 := CHr.safe cr5 ((E_a1.ext E2).wr W4).lt Sf4_a1
  have nex5_a1 := sfx5 a1 Sx5_a1
  have hCR5 := hCR4.trans cr5
  have Kc5 : Keep h0 h5 [a1] := Kc4.ext E5
  have V5 : own_Ar Z h5 d5 .byte [] := own_Ar.ofArv Va5 (by decide)
  refine own_via (g' := T5.setTop (mkF m 20 #[.val (.ref a1), .val (.ref a2), .val (.int p1), .val (.int (0 : Int32)), .val .null, .unset] [(.ref b5), (.ref a1)])) (fun t k => st5 _ k) ?_
  obtain ⟨T6, X6, e6, st6⟩ := getF X5 hx hZ hown (host := "") (Or.inl (hw _ (List.mem_of_getElem? (i := 30) rfl))) Via.refl e5 Fc5 (g := (mkF m 20 #[.val (.ref a1), .val (.ref a2), .val (.int p1), .val (.int (0 : Int32)), .val .null, .unset] [(.ref b5), (.ref a1)])) rfl rfl (hb hby own_d3_20)
  refine own_via (g' := T6.setTop (mkF m 23 #[.val (.ref a1), .val (.ref a2), .val (.int p1), .val (.int (0 : Int32)), .val .null, .unset] [(.int (0 : Int32)), (.ref a1)])) (fun t k => st6 _ k) ?_
  obtain ⟨T7, h7, X7, e7, W7, st7⟩ := putFN X6 hx hZ hown (hw _ (List.mem_of_getElem? (i := 30) rfl)) Via.refl e6 (((Fc.ext E2).other W4 (Or.inr (slot_ne (Or.inr (hw _ (List.mem_of_getElem? (i := 31) rfl))) (Or.inr (hw _ (List.mem_of_getElem? (i := 33) rfl))) (by decide) (t := .byte) (t' := (.array .byte)) (by decide) (by decide)))).ext E5) (((E_a1.ext E2).wr W4).ext E5) (Or.inr ⟨(hw _ (List.mem_of_getElem? (i := 31) rfl)), rfl, hnm⟩) (hw _ (List.mem_of_getElem? (i := 5) rfl)) (ty := .byte) (v' := (.int (0 : Int32))) (by decide) rfl rfl (g := (mkF m 23 #[.val (.ref a1), .val (.ref a2), .val (.int p1), .val (.int (0 : Int32)), .val .null, .unset] [(.int (0 : Int32)), (.ref a1)])) rfl rfl (hb hby own_d3_23)
  have F7 : Fld Z h7 a1 "java/lang/String" "coder" "B" (.int (0 : Int32)) := (((Fc.ext E2).other W4 (Or.inr (slot_ne (Or.inr (hw _ (List.mem_of_getElem? (i := 31) rfl))) (Or.inr (hw _ (List.mem_of_getElem? (i := 33) rfl))) (by decide) (t := .byte) (t' := (.array .byte)) (by decide) (by decide)))).ext E5).same W7
  have hCR7 := hCR5.trans (CHr.wr W7 Sx5_a1 hCR5.1)
  have Sf7_a1 := Safe.wr W7 Sx5_a1 hCR5.1 Sx5_a1
  have Kc7 : Keep h0 h7 [a1] := Kc5.wr W7 (Or.inl (List.mem_of_getElem? (i := 0) rfl))
  have N7 := Fr.snoc X7 N4 g_a1
  refine own_via (g' := T7.setTop (mkF m 26 #[.val (.ref a1), .val (.ref a2), .val (.int p1), .val (.int (0 : Int32)), .val .null, .unset] [])) (fun t k => st7 _ k) ?_
  have eE : T7.heap = h7 := e7
  exact own_retVH X7 hS5 (by rw [(e7 : T7.heap = h7)]; exact (Nat.le_trans hk5 (Keep.of_wr W7).1)) hx hlk Bd.returns (hb hby own_d3_26) (hCR := (by rw [hh, (e7 : T7.heap = h7)]; exact hCR7.trans (CHv.at X7 hZ (own_hEL hw) hCR7.1))) ⟨rfl, N7, (by rw [eE]; exact Kc7)⟩ (by decide) (by decide)
theorem ef_own_emp1 (m : MethodId) (a1 : Addr) (a2 : Addr) : entryFrame m #[(.ref a1), (.ref a2)] 2 = mkF m 0 #[.val (.ref a1), .val (.ref a2)] [] := by first | (simp [entryFrame, mkF, argsToLocals, Value.category]; done) | rfl
def own_emp1_Q (Z : State) (a1 : Addr) (a2 : Addr)  (h0 : Heap) (n0 : Nat) (v : Option Value) (h : Heap) (L : List Loc) : Prop := v = none ∧ Fr n0 L ∧ Keep h0 h [a1]
set_option maxRecDepth 65536 in
set_option maxHeartbeats 40000000 in
theorem own_emp1 (l : Launch) (Z : State) (a0 : Array Value) (hw : ∀ d ∈ tables_1, d.before a0 Z = true) (ws : List Jvm.Cond) (a1 : Addr) (a2 : Addr)  (h0 : Heap) (n0 : Nat) (Z0 : n0 ≤ h0.size) (E_a1 : Exa Z h0 a1 "java/lang/String") (Fc : Fld Z h0 a1 "java/lang/String" "coder" "B" (.int (0 : Int32))) (Fv : Fld Z h0 a1 "java/lang/String" "value" "[B" .null) (g_a1 : n0 ≤ a1) (A_a2 : own_Ar Z h0 a2 .char []) :
    MetFree l (⟨"java/lang/String", "<init>", "([C)V"⟩ : MethodName) (head1 (Jvm.Cond.code (⟨"java/lang/String", "<init>", "([C)V"⟩ : MethodName) jdk_42_method_3_code 2 none :: ws) ({ frames := 2, cells := 4, slots := 8, locals := 29 } : Room)) (fun a U => a = #[(.ref a1), (.ref a2)] ∧ Z.Warmed39 U.vm ∧ U.heap = h0 ∧ CHv Z own_EL U.vm h0 ∧ ∀ x ∈ ([a1] : List Addr), Safe Z own_EL U.vm h0 x) (fun _ _ _ _ _ => True) (fun _ U o U' => ∃ v L, o = .returned v ∧ own_emp1_Q Z a1 a2  h0 n0 v U'.heap L ∧ CHr Z own_EL U.vm U.heap U'.vm U'.heap ∧ ReturnedEndW U o U' L ({ frames := 2, cells := 4, slots := 8, locals := 29 } : Room).cells ({ frames := 2, cells := 4, slots := 8, locals := 29 } : Room).slots) := by
  refine MetFree.of_bodySF (plainFor_of_name own_pn1) hisR ?_
  intro p e s m args below meth c s₁ Bd hml0 hP hK
  obtain ⟨rfl, hZ, hh, hCH0, hSf0⟩ := hP
  have hx := Bd.exec
  have hby := Bd.bytes
  have hml : c.maxLocals = 2 := hml0
  have hown : s.vm.findClass "java/lang/String" = some m.cls := findClass_of_methodNamed Bd.named
  have hnm := (name_of_methodNamed Bd.named Bd.method).1
  have hlk : meth.locks = false := BodyLoose.notSynchronized Bd
  have X0 : Stand p l e ({ frames := 2, cells := 4, slots := 8, locals := 29 } : Room) (s.setVm s.vm) m #[(.ref a1), (.ref a2)] below meth c s₁ [] 0 0 := Stand.of_body Bd
  have e0 : s₁.heap = h0 := by rw [← hh, Bd.state]; rfl
  have N0 := Fr.nil n0
  have K0 : Keep h0 h0 [a1] := Keep.refl h0 [a1]
  show own_Fin p e below (own_PH Z (own_emp1_Q Z a1 a2  h0 n0) s ({ frames := 2, cells := 4, slots := 8, locals := 29 } : Room).cells ({ frames := 2, cells := 4, slots := 8, locals := 29 } : Room).slots) (s₁.setTop (entryFrame m #[(.ref a1), (.ref a2)] 2))
  have hCR0 : CHr Z own_EL (s.setVm s.vm).vm h0 s.vm h0 := CHr.refl hCH0
  have hS0 : s.Since s.vm 0 := (State.WarmedH.refl s).since 0
  have hk0 : 0 ≤ h0.size := Nat.zero_le _
  have hZ : Z.Warmed39 (s.setVm s.vm).vm := hZ
  have hown : (s.setVm s.vm).vm.findClass "java/lang/String" = some m.cls := hown
  refine own_via (g' := s₁.setTop (mkF m 0 #[.val (.ref a1), .val (.ref a2)] [])) (fun t k => castTop (ef_own_emp1 m a1 a2) k) ?_
  refine own_via (g' := s₁.setTop (mkF m 1 #[.val (.ref a1), .val (.ref a2)] [(.ref a1)])) (fun t k => XS.aloadN X0.here hx rfl (hb hby own_d2_0) rfl (rfl) k) ?_
  refine own_via (g' := s₁.setTop (mkF m 2 #[.val (.ref a1), .val (.ref a2)] [(.ref a2), (.ref a1)])) (fun t k => XS.aloadN X0.here hx rfl (hb hby own_d2_1) rfl (rfl) k) ?_
  refine own_via (g' := s₁.setTop (mkF m 3 #[.val (.ref a1), .val (.ref a2)] [(.int (0 : Int32)), (.ref a2), (.ref a1)])) (fun t k => XS.iconst X0.here hx rfl (hb hby own_d2_2) k) ?_
  refine own_via (g' := s₁.setTop (mkF m 4 #[.val (.ref a1), .val (.ref a2)] [(.ref a2), (.int (0 : Int32)), (.ref a2), (.ref a1)])) (fun t k => XS.aloadN X0.here hx rfl (hb hby own_d2_3) rfl (rfl) k) ?_
  refine own_via (g' := s₁.setTop (mkF m 5 #[.val (.ref a1), .val (.ref a2)] [(.int (0 : Int32)), (.int (0 : Int32)), (.ref a2), (.ref a1)])) (fun t k => own_len X0 hx hZ e0 A_a2 (n := (0 : Int32)) rfl (g := (mkF m 4 #[.val (.ref a1), .val (.ref a2)] [(.ref a2), (.int (0 : Int32)), (.ref a2), (.ref a1)])) rfl rfl (hb hby own_d2_4) _ k) ?_
  refine own_via (g' := s₁.setTop (mkF m 6 #[.val (.ref a1), .val (.ref a2)] [.null, (.int (0 : Int32)), (.int (0 : Int32)), (.ref a2), (.ref a1)])) (fun t k => XS.aconstNull X0.here hx rfl (hb hby own_d2_5) k) ?_
  obtain ⟨v1, _, ⟨T1, L1, k1, n1⟩, -, X1, sS1, gS1, ⟨Lc1, hQ1, l1, y1, z1, cr1⟩, st1⟩ := X0.specialBackS hx (y := (⟨"java/lang/String", "<init>", "([CIILjava/lang/Void;)V"⟩ : MethodName)) rfl hown (mvT hZ (hw _ (List.mem_of_getElem? (i := 11) rfl))) (mvT hZ (hw _ (List.mem_of_getElem? (i := 12) rfl))) (mvT hZ (hw _ (List.mem_of_getElem? (i := 14) rfl))) (by decide) (own_backH (W := 0) (own_emp4 l Z a0 hw [] a1 a2 (0 : Int32) (0 : Int32) h0 n0 (Nat.le_trans Z0 K0.1) E_a1 Fc Fv g_a1 rfl) hZ (hw _ (List.mem_of_getElem? (i := 14) rfl)) (hw _ (List.mem_of_getElem? (i := 6) rfl)) (by decide) (by decide) (own_hEL hw) hCR0.1 (allS ⟨E_a1.lt, (hSf0 a1 (List.mem_of_getElem? (i := 0) rfl))⟩ all0)) (g := (mkF m 6 #[.val (.ref a1), .val (.ref a2)] [.null, (.int (0 : Int32)), (.int (0 : Int32)), (.ref a2), (.ref a1)])) rfl (by rw [hml]; rfl) (Steps.refl _) (a := a1) (argsL := [(.ref a2), (.int (0 : Int32)), (.int (0 : Int32)), .null]) (rest := []) (lenOf own_pd3 rfl) rfl (by show 2 * 0 + _ ≤ _; exact Nat.le_of_eq rfl) (hb hby own_d2_6) (fun _ _ => ⟨rfl, e0, (by decide : 0 + 4 ≤ _), (by decide : 0 + 8 ≤ _)⟩)
  dsimp only [Pt.U, Pt.locs, Pt.cells, Pt.slots] at X1 l1 y1 z1 st1 hQ1 sS1 gS1 cr1
  subst l1 y1 z1
  obtain ⟨X1, hS1, hZ, hown⟩ := rebS hS0 (by rw [(e0 : s₁.heap = h0)]; exact hk0) X1 sS1 gS1 hZ hown
  have Sx1_a1 := CHr.safe cr1 E_a1.lt (hSf0 a1 (List.mem_of_getElem? (i := 0) rfl))
  have hCR1 := hCR0.trans cr1
  obtain ⟨rfl, N1q, K1⟩ := hQ1
  have Kc1 : Keep h0 T1.heap [a1] := K0.trans K1 (allS (Or.inl (List.mem_of_getElem? (i := 0) rfl)) all0)
  have N1 := Fr.app N0 N1q
  refine own_via (g' := T1.setTop (mkF m 9 #[.val (.ref a1), .val (.ref a2)] [])) (fun t k => st1.trans k) ?_
  have eE : T1.heap = T1.heap := rfl
  exact own_retVH X1 hS1 (by rw [(rfl : T1.heap = T1.heap)]; exact (Nat.le_of_eq (congrArg Array.size (rfl : T1.heap = T1.heap)))) hx hlk Bd.returns (hb hby own_d2_9) (hCR := (by rw [hh, (rfl : T1.heap = T1.heap)]; exact hCR1.trans (CHv.at X1 hZ (own_hEL hw) hCR1.1))) ⟨rfl, N1, (by rw [eE]; exact Kc1)⟩ (by decide) (by decide)
theorem own_pn2 : plainName "java/lang/StringLatin1" = true := by first | (simp [plainName, overriddenIn]; done) | decide +kernel
theorem own_d9_0 : decode jdk_43_method_3_code 0 = .ok (.iload_n 0, 1) := by decide +kernel
theorem own_d9_1 : decode jdk_43_method_3_code 1 = .ok (.sipush 255, 3) := by decide +kernel
theorem own_d9_4 : decode jdk_43_method_3_code 4 = .ok (.if_icmp .gt 7, 3) := by decide +kernel
theorem own_d9_7 : decode jdk_43_method_3_code 7 = .ok (.iconst 1, 1) := by decide +kernel
theorem own_d9_8 : decode jdk_43_method_3_code 8 = .ok (.goto 4, 3) := by decide +kernel
theorem own_d9_12 : decode jdk_43_method_3_code 12 = .ok (.ireturn, 1) := by decide +kernel
theorem ef_own_rm9 (m : MethodId) (p1 : Int32) : entryFrame m #[(.int p1)] 1 = mkF m 0 #[.val (.int p1)] [] := by first | (simp [entryFrame, mkF, argsToLocals, Value.category]; done) | rfl
def own_rm9_Q (Z : State) (p1 : Int32)  (h0 : Heap) (n0 : Nat) (v : Option Value) (h : Heap) (L : List Loc) : Prop := v = some (.int ((1 : Int32))) ∧ Fr n0 L ∧ h = h0
set_option maxRecDepth 65536 in
set_option maxHeartbeats 40000000 in
theorem own_rm9 (l : Launch) (Z : State) (a0 : Array Value) (hw : ∀ d ∈ tables_1, d.before a0 Z = true) (ws : List Jvm.Cond) (p1 : Int32)  (h0 : Heap) (n0 : Nat) (Z0 : n0 ≤ h0.size) (hp : ¬ (255 : Int32) < p1) :
    MetFree l (⟨"java/lang/StringLatin1", "canEncode", "(C)Z"⟩ : MethodName) (head1 (Jvm.Cond.code (⟨"java/lang/StringLatin1", "canEncode", "(C)Z"⟩ : MethodName) jdk_43_method_3_code 1 (some .boolean) :: ws) ({ frames := 0, cells := 0, slots := 0, locals := 0 } : Room)) (fun a U => a = #[(.int p1)] ∧ Z.Warmed39 U.vm ∧ U.heap = h0) (fun _ _ _ _ _ => True) (fun _ U o U' => ∃ v L, o = .returned v ∧ own_rm9_Q Z p1  h0 n0 v U'.heap L ∧ FrameEnd U o U' L ({ frames := 0, cells := 0, slots := 0, locals := 0 } : Room).cells ({ frames := 0, cells := 0, slots := 0, locals := 0 } : Room).slots) := by
  refine MetFree.of_bodySF (plainFor_of_name own_pn2) hisR ?_
  intro p e s m args below meth c s₁ Bd hml0 hP hK
  obtain ⟨rfl, hZ, hh⟩ := hP
  have hx := Bd.exec
  have hby := Bd.bytes
  have hml : c.maxLocals = 1 := hml0
  have hown : s.vm.findClass "java/lang/StringLatin1" = some m.cls := findClass_of_methodNamed Bd.named
  have hnm := (name_of_methodNamed Bd.named Bd.method).1
  have hlk : meth.locks = false := BodyLoose.notSynchronized Bd
  have X0 : Stand p l e ({ frames := 0, cells := 0, slots := 0, locals := 0 } : Room) s m #[(.int p1)] below meth c s₁ [] 0 0 := Stand.of_body Bd
  have e0 : s₁.heap = h0 := by rw [← hh, Bd.state]; rfl
  have N0 := Fr.nil n0
  have K0 : Keep h0 h0 [] := Keep.refl h0 []
  show own_Fin p e below (own_P (own_rm9_Q Z p1  h0 n0) s ({ frames := 0, cells := 0, slots := 0, locals := 0 } : Room).cells ({ frames := 0, cells := 0, slots := 0, locals := 0 } : Room).slots) (s₁.setTop (entryFrame m #[(.int p1)] 1))
  refine own_via (g' := s₁.setTop (mkF m 0 #[.val (.int p1)] [])) (fun t k => castTop (ef_own_rm9 m p1) k) ?_
  refine own_via (g' := s₁.setTop (mkF m 1 #[.val (.int p1)] [(.int p1)])) (fun t k => XS.iloadN X0.here hx rfl (hb hby own_d9_0) rfl k) ?_
  refine own_via (g' := s₁.setTop (mkF m 4 #[.val (.int p1)] [(.int (255 : Int32)), (.int p1)])) (fun t k => XS.sipush X0.here hx rfl (hb hby own_d9_1) k) ?_
  refine own_via (g' := s₁.setTop (mkF m 7 #[.val (.int p1)] [])) (fun t k => XS.icmpNo X0.here hx rfl (hb hby own_d9_4) rfl (XT.ii_gt_f hp) k) ?_
  refine own_via (g' := s₁.setTop (mkF m 8 #[.val (.int p1)] [(.int (1 : Int32))])) (fun t k => XS.iconst X0.here hx rfl (hb hby own_d9_7) k) ?_
  refine own_via (g' := s₁.setTop (mkF m 12 #[.val (.int p1)] [(.int (1 : Int32))])) (fun t k => XS.goto X0.here hx rfl (pc0 := 8) (pc' := 12) rfl (hb hby own_d9_8) (by decide) (by decide) k) ?_
  exact own_retB X0 hx hlk (t := .boolean) Bd.returns (by simp) (hb hby own_d9_12) ⟨rfl, N0, e0⟩ (by decide) (by decide)
theorem own_d10_0 : decode jdk_43_method_46_code 0 = .ok (.iconst 1, 1) := by decide +kernel
theorem own_d10_1 : decode jdk_43_method_46_code 1 = .ok (.newarray .byte, 2) := by decide +kernel
theorem own_d10_3 : decode jdk_43_method_46_code 3 = .ok (.dup, 1) := by decide +kernel
theorem own_d10_4 : decode jdk_43_method_46_code 4 = .ok (.iconst 0, 1) := by decide +kernel
theorem own_d10_5 : decode jdk_43_method_46_code 5 = .ok (.iload_n 0, 1) := by decide +kernel
theorem own_d10_6 : decode jdk_43_method_46_code 6 = .ok (.i2b, 1) := by decide +kernel
theorem own_d10_7 : decode jdk_43_method_46_code 7 = .ok (.bastore, 1) := by decide +kernel
theorem own_d10_8 : decode jdk_43_method_46_code 8 = .ok (.areturn, 1) := by decide +kernel
theorem ef_own_rm10 (m : MethodId) (p1 : Int32) : entryFrame m #[(.int p1)] 1 = mkF m 0 #[.val (.int p1)] [] := by first | (simp [entryFrame, mkF, argsToLocals, Value.category]; done) | rfl
def own_rm10_Q (Z : State) (p1 : Int32)  (h0 : Heap) (n0 : Nat) (v : Option Value) (h : Heap) (L : List Loc) : Prop := ∃ b : Addr, v = some (.ref b) ∧ Fr n0 L ∧ h0.size ≤ b ∧ Keep h0 h [] ∧ own_Ar Z h b .byte [.int (nar .byte p1.toInt8.toInt32)]
set_option maxRecDepth 65536 in
set_option maxHeartbeats 40000000 in
theorem own_rm10 (l : Launch) (Z : State) (a0 : Array Value) (hw : ∀ d ∈ tables_1, d.before a0 Z = true) (ws : List Jvm.Cond) (p1 : Int32)  (h0 : Heap) (n0 : Nat) (Z0 : n0 ≤ h0.size) :
    MetFree l (⟨"java/lang/StringLatin1", "toBytes", "(C)[B"⟩ : MethodName) (head1 (Jvm.Cond.code (⟨"java/lang/StringLatin1", "toBytes", "(C)[B"⟩ : MethodName) jdk_43_method_46_code 1 (some (.array .byte)) :: ws) ({ frames := 0, cells := 1, slots := 1, locals := 0 } : Room)) (fun a U => a = #[(.int p1)] ∧ Z.Warmed39 U.vm ∧ U.heap = h0) (fun _ _ _ _ _ => True) (fun _ U o U' => ∃ v L, o = .returned v ∧ own_rm10_Q Z p1  h0 n0 v U'.heap L ∧ FrameEnd U o U' L ({ frames := 0, cells := 1, slots := 1, locals := 0 } : Room).cells ({ frames := 0, cells := 1, slots := 1, locals := 0 } : Room).slots) := by
  refine MetFree.of_bodySF (plainFor_of_name own_pn2) hisR ?_
  intro p e s m args below meth c s₁ Bd hml0 hP hK
  obtain ⟨rfl, hZ, hh⟩ := hP
  have hx := Bd.exec
  have hby := Bd.bytes
  have hml : c.maxLocals = 1 := hml0
  have hown : s.vm.findClass "java/lang/StringLatin1" = some m.cls := findClass_of_methodNamed Bd.named
  have hnm := (name_of_methodNamed Bd.named Bd.method).1
  have hlk : meth.locks = false := BodyLoose.notSynchronized Bd
  have X0 : Stand p l e ({ frames := 0, cells := 1, slots := 1, locals := 0 } : Room) s m #[(.int p1)] below meth c s₁ [] 0 0 := Stand.of_body Bd
  have e0 : s₁.heap = h0 := by rw [← hh, Bd.state]; rfl
  have N0 := Fr.nil n0
  have K0 : Keep h0 h0 [] := Keep.refl h0 []
  show own_Fin p e below (own_P (own_rm10_Q Z p1  h0 n0) s ({ frames := 0, cells := 1, slots := 1, locals := 0 } : Room).cells ({ frames := 0, cells := 1, slots := 1, locals := 0 } : Room).slots) (s₁.setTop (entryFrame m #[(.int p1)] 1))
  refine own_via (g' := s₁.setTop (mkF m 0 #[.val (.int p1)] [])) (fun t k => castTop (ef_own_rm10 m p1) k) ?_
  refine own_via (g' := s₁.setTop (mkF m 1 #[.val (.int p1)] [(.int (1 : Int32))])) (fun t k => XS.iconst X0.here hx rfl (hb hby own_d10_0) k) ?_
  obtain ⟨T1, h1, X1, e1, E1, A1, st1⟩ := own_newP X0 hx hZ (aty := .byte) (hw _ (List.mem_of_getElem? (i := 23) rfl)) e0 (g := (mkF m 1 #[.val (.int p1)] [(.int (1 : Int32))])) rfl (hb hby own_d10_1) rfl (by decide) (cap := 1) (by decide) (by decide) (by decide) (by decide)
  obtain ⟨b1, g1⟩ : ∃ z, z = h0.size := ⟨_, rfl⟩
  rw [← g1] at A1 st1
  have V1 : own_Ar Z h1 b1 .byte [(.int 0)] := A1
  have sz_b1 : h0.size ≤ b1 := Nat.le_trans K0.1 (Nat.le_of_eq g1.symm)
  have g_b1 : n0 ≤ b1 := Nat.le_trans Z0 sz_b1
  have Kc1 : Keep h0 h1 [] := K0.ext E1
  refine own_via (g' := T1.setTop (mkF m 3 #[.val (.int p1)] [(.ref b1)])) (fun t k => st1 _ k) ?_
  refine own_via (g' := T1.setTop (mkF m 4 #[.val (.int p1)] [(.ref b1), (.ref b1)])) (fun t k => XS.dup X1.here hx rfl (hb hby own_d10_3) rfl (rfl) k) ?_
  refine own_via (g' := T1.setTop (mkF m 5 #[.val (.int p1)] [(.int (0 : Int32)), (.ref b1), (.ref b1)])) (fun t k => XS.iconst X1.here hx rfl (hb hby own_d10_4) k) ?_
  refine own_via (g' := T1.setTop (mkF m 6 #[.val (.int p1)] [(.int p1), (.int (0 : Int32)), (.ref b1), (.ref b1)])) (fun t k => XS.iloadN X1.here hx rfl (hb hby own_d10_5) rfl k) ?_
  refine own_via (g' := T1.setTop (mkF m 7 #[.val (.int p1)] [(.int (p1.toInt8.toInt32)), (.int (0 : Int32)), (.ref b1), (.ref b1)])) (fun t k => XT.i2b X1.here hx rfl (hb hby own_d10_6) rfl k) ?_
  obtain ⟨T2, h2, X2, e2, W2, V2', st2⟩ := own_stB X1 hx hZ e1 V1 (j := (0 : Int32)) (by decide) (by decide : (0 : Int32).toNatClampNeg < 1) (g := (mkF m 7 #[.val (.int p1)] [(.int (p1.toInt8.toInt32)), (.int (0 : Int32)), (.ref b1), (.ref b1)])) rfl rfl (hb hby own_d10_7)
  have V2 : own_Ar Z h2 b1 .byte [(.int (nar .byte (p1.toInt8.toInt32)))] := V2'
  have Kc2 : Keep h0 h2 [] := Kc1.wr W2 (Or.inr sz_b1)
  have N2 := Fr.snoc X2 N0 g_b1
  refine own_via (g' := T2.setTop (mkF m 8 #[.val (.int p1)] [(.ref b1)])) (fun t k => st2 _ k) ?_
  have eE : T2.heap = h2 := e2
  exact own_retA X2 hx hlk (rfl) Bd.returns rfl (hb hby own_d10_8) ⟨b1, rfl, N2, sz_b1, (by rw [eE]; exact Kc2), (by rw [eE]; exact V2)⟩ (by decide) (by decide)
theorem own_d11_0 : decode jdk_42_method_151_code 0 = .ok (.aload_n 0, 1) := by decide +kernel
theorem own_d11_1 : decode jdk_42_method_151_code 1 = .ok (.invokespecial 1, 3) := by decide +kernel
theorem own_d11_4 : decode jdk_42_method_151_code 4 = .ok (.aload_n 0, 1) := by decide +kernel
theorem own_d11_5 : decode jdk_42_method_151_code 5 = .ok (.aload_n 1, 1) := by decide +kernel
theorem own_d11_6 : decode jdk_42_method_151_code 6 = .ok (.putfield 9, 3) := by decide +kernel
theorem own_d11_9 : decode jdk_42_method_151_code 9 = .ok (.aload_n 0, 1) := by decide +kernel
theorem own_d11_10 : decode jdk_42_method_151_code 10 = .ok (.iload_n 2, 1) := by decide +kernel
theorem own_d11_11 : decode jdk_42_method_151_code 11 = .ok (.putfield 15, 3) := by decide +kernel
theorem own_d11_14 : decode jdk_42_method_151_code 14 = .ok (.return_, 1) := by decide +kernel
theorem ef_own_rm11 (m : MethodId) (a1 : Addr) (a2 : Addr) (p1 : Int32) : entryFrame m #[(.ref a1), (.ref a2), (.int p1)] 3 = mkF m 0 #[.val (.ref a1), .val (.ref a2), .val (.int p1)] [] := by first | (simp [entryFrame, mkF, argsToLocals, Value.category]; done) | rfl
def own_rm11_Q (Z : State) (a1 : Addr) (a2 : Addr) (p1 : Int32)  (h0 : Heap) (n0 : Nat) (v : Option Value) (h : Heap) (L : List Loc) : Prop := v = none ∧ Fr n0 L ∧ Keep h0 h [a1] ∧ Exa Z h a1 "java/lang/String" ∧ Fld Z h a1 "java/lang/String" "value" "[B" (.ref a2) ∧ Fld Z h a1 "java/lang/String" "coder" "B" (.int (0 : Int32))
set_option maxRecDepth 65536 in
set_option maxHeartbeats 40000000 in
theorem own_rm11 (l : Launch) (Z : State) (a0 : Array Value) (hw : ∀ d ∈ tables_1, d.before a0 Z = true) (ws : List Jvm.Cond) (a1 : Addr) (a2 : Addr) (p1 : Int32)  (h0 : Heap) (n0 : Nat) (Z0 : n0 ≤ h0.size) (E_a1 : Exa Z h0 a1 "java/lang/String") (Fi_0 : Fld Z h0 a1 "java/lang/String" "value" "[B" .null) (Fi_1 : Fld Z h0 a1 "java/lang/String" "coder" "B" (.int (0 : Int32))) (g_a1 : n0 ≤ a1) (hp : p1 = (0 : Int32)) :
    MetFree l (⟨"java/lang/String", "<init>", "([BB)V"⟩ : MethodName) (head1 (Jvm.Cond.code (⟨"java/lang/String", "<init>", "([BB)V"⟩ : MethodName) jdk_42_method_151_code 3 none :: ws) ({ frames := 1, cells := 0, slots := 0, locals := 12 } : Room)) (fun a U => a = #[(.ref a1), (.ref a2), (.int p1)] ∧ Z.Warmed39 U.vm ∧ U.heap = h0) (fun _ _ _ _ _ => True) (fun _ U o U' => ∃ v L, o = .returned v ∧ own_rm11_Q Z a1 a2 p1  h0 n0 v U'.heap L ∧ FrameEnd U o U' L ({ frames := 1, cells := 0, slots := 0, locals := 12 } : Room).cells ({ frames := 1, cells := 0, slots := 0, locals := 12 } : Room).slots) := by
  refine MetFree.of_bodySF (plainFor_of_name own_pn1) hisR ?_
  intro p e s m args below meth c s₁ Bd hml0 hP hK
  obtain ⟨rfl, hZ, hh⟩ := hP
  have hx := Bd.exec
  have hby := Bd.bytes
  have hml : c.maxLocals = 3 := hml0
  have hown : s.vm.findClass "java/lang/String" = some m.cls := findClass_of_methodNamed Bd.named
  have hnm := (name_of_methodNamed Bd.named Bd.method).1
  have hlk : meth.locks = false := BodyLoose.notSynchronized Bd
  have X0 : Stand p l e ({ frames := 1, cells := 0, slots := 0, locals := 12 } : Room) s m #[(.ref a1), (.ref a2), (.int p1)] below meth c s₁ [] 0 0 := Stand.of_body Bd
  have e0 : s₁.heap = h0 := by rw [← hh, Bd.state]; rfl
  have N0 := Fr.nil n0
  have K0 : Keep h0 h0 [a1] := Keep.refl h0 [a1]
  show own_Fin p e below (own_P (own_rm11_Q Z a1 a2 p1  h0 n0) s ({ frames := 1, cells := 0, slots := 0, locals := 12 } : Room).cells ({ frames := 1, cells := 0, slots := 0, locals := 12 } : Room).slots) (s₁.setTop (entryFrame m #[(.ref a1), (.ref a2), (.int p1)] 3))
  refine own_via (g' := s₁.setTop (mkF m 0 #[.val (.ref a1), .val (.ref a2), .val (.int p1)] [])) (fun t k => castTop (ef_own_rm11 m a1 a2 p1) k) ?_
  subst hp
  refine own_via (g' := s₁.setTop (mkF m 1 #[.val (.ref a1), .val (.ref a2), .val (.int (0 : Int32))] [(.ref a1)])) (fun t k => XS.aloadN X0.here hx rfl (hb hby own_d11_0) rfl (rfl) k) ?_
  obtain ⟨T1, X1, e1, st1⟩ := initO X0 hx hZ hown (hw _ (List.mem_of_getElem? (i := 15) rfl)) (hw _ (List.mem_of_getElem? (i := 16) rfl)) (hw _ (List.mem_of_getElem? (i := 17) rfl)) e0 (g := (mkF m 1 #[.val (.ref a1), .val (.ref a2), .val (.int (0 : Int32))] [(.ref a1)])) rfl (by rw [hml]; rfl) rfl (hb hby own_d11_1) (by decide) (W := 0) (by show 2 * 0 + _ ≤ _; exact Nat.le_of_eq rfl) (by decide)
  refine own_via (g' := T1.setTop (mkF m 4 #[.val (.ref a1), .val (.ref a2), .val (.int (0 : Int32))] [])) (fun t k => st1 _ k) ?_
  refine own_via (g' := T1.setTop (mkF m 5 #[.val (.ref a1), .val (.ref a2), .val (.int (0 : Int32))] [(.ref a1)])) (fun t k => XS.aloadN X1.here hx rfl (hb hby own_d11_4) rfl (rfl) k) ?_
  refine own_via (g' := T1.setTop (mkF m 6 #[.val (.ref a1), .val (.ref a2), .val (.int (0 : Int32))] [(.ref a2), (.ref a1)])) (fun t k => XS.aloadN X1.here hx rfl (hb hby own_d11_5) rfl (rfl) k) ?_
  obtain ⟨T2, h2, X2, e2, W2, st2⟩ := putF X1 hx hZ hown (host := "") (Or.inl (hw _ (List.mem_of_getElem? (i := 32) rfl))) Via.refl e1 Fi_0 E_a1 (Or.inr ⟨(hw _ (List.mem_of_getElem? (i := 33) rfl)), rfl, hnm⟩) (hw _ (List.mem_of_getElem? (i := 5) rfl)) (ty := (.array .byte)) (by decide) rfl rfl (g := (mkF m 6 #[.val (.ref a1), .val (.ref a2), .val (.int (0 : Int32))] [(.ref a2), (.ref a1)])) rfl rfl (hb hby own_d11_6)
  have F2 : Fld Z h2 a1 "java/lang/String" "value" "[B" (.ref a2) := Fi_0.same W2
  have Kc2 : Keep h0 h2 [a1] := K0.wr W2 (Or.inl (List.mem_of_getElem? (i := 0) rfl))
  have N2 := Fr.snoc X2 N0 g_a1
  refine own_via (g' := T2.setTop (mkF m 9 #[.val (.ref a1), .val (.ref a2), .val (.int (0 : Int32))] [])) (fun t k => st2 _ k) ?_
  refine own_via (g' := T2.setTop (mkF m 10 #[.val (.ref a1), .val (.ref a2), .val (.int (0 : Int32))] [(.ref a1)])) (fun t k => XS.aloadN X2.here hx rfl (hb hby own_d11_9) rfl (rfl) k) ?_
  refine own_via (g' := T2.setTop (mkF m 11 #[.val (.ref a1), .val (.ref a2), .val (.int (0 : Int32))] [(.int (0 : Int32)), (.ref a1)])) (fun t k => XS.iloadN X2.here hx rfl (hb hby own_d11_10) rfl k) ?_
  obtain ⟨T3, h3, X3, e3, W3, st3⟩ := putFN X2 hx hZ hown (hw _ (List.mem_of_getElem? (i := 30) rfl)) Via.refl e2 (Fi_1.other W2 (Or.inr (slot_ne (Or.inr (hw _ (List.mem_of_getElem? (i := 31) rfl))) (Or.inr (hw _ (List.mem_of_getElem? (i := 33) rfl))) (by decide) (t := .byte) (t' := (.array .byte)) (by decide) (by decide)))) (E_a1.wr W2) (Or.inr ⟨(hw _ (List.mem_of_getElem? (i := 31) rfl)), rfl, hnm⟩) (hw _ (List.mem_of_getElem? (i := 5) rfl)) (ty := .byte) (v' := (.int (0 : Int32))) (by decide) rfl rfl (g := (mkF m 11 #[.val (.ref a1), .val (.ref a2), .val (.int (0 : Int32))] [(.int (0 : Int32)), (.ref a1)])) rfl rfl (hb hby own_d11_11)
  have F3 : Fld Z h3 a1 "java/lang/String" "coder" "B" (.int (0 : Int32)) := (Fi_1.other W2 (Or.inr (slot_ne (Or.inr (hw _ (List.mem_of_getElem? (i := 31) rfl))) (Or.inr (hw _ (List.mem_of_getElem? (i := 33) rfl))) (by decide) (t := .byte) (t' := (.array .byte)) (by decide) (by decide)))).same W3
  have Kc3 : Keep h0 h3 [a1] := Kc2.wr W3 (Or.inl (List.mem_of_getElem? (i := 0) rfl))
  have N3 := Fr.snoc X3 N2 g_a1
  refine own_via (g' := T3.setTop (mkF m 14 #[.val (.ref a1), .val (.ref a2), .val (.int (0 : Int32))] [])) (fun t k => st3 _ k) ?_
  have eE : T3.heap = h3 := e3
  exact own_retV X3 hx hlk Bd.returns (hb hby own_d11_14) ⟨rfl, N3, (by rw [eE]; exact Kc3), (by rw [eE]; exact ((E_a1.wr W2).wr W3)), (by rw [eE]; exact (F2.other W3 (Or.inr (slot_ne (Or.inr (hw _ (List.mem_of_getElem? (i := 33) rfl))) (Or.inr (hw _ (List.mem_of_getElem? (i := 31) rfl))) (by decide) (t := (.array .byte)) (t' := .byte) (by decide) (by decide))))), (by rw [eE]; exact F3)⟩ (by decide) (by decide)
theorem own_pd4 : parseMethodDescriptor "(C)Z" = some ⟨[.char], some .boolean⟩ := by decide +kernel
theorem own_pd5 : parseMethodDescriptor "(C)[B" = some ⟨[.char], some (.array .byte)⟩ := by decide +kernel
theorem own_pd6 : parseMethodDescriptor "([BB)V" = some ⟨[(.array .byte), .byte], none⟩ := by decide +kernel
theorem own_d8_0 : decode jdk_42_method_139_code 0 = .ok (.getstatic 38, 3) := by decide +kernel
theorem own_d8_3 : decode jdk_42_method_139_code 3 = .ok (.ifCond .eq 23, 3) := by decide +kernel
theorem own_d8_6 : decode jdk_42_method_139_code 6 = .ok (.iload_n 0, 1) := by decide +kernel
theorem own_d8_7 : decode jdk_42_method_139_code 7 = .ok (.invokestatic 1015, 3) := by decide +kernel
theorem own_d8_10 : decode jdk_42_method_139_code 10 = .ok (.ifCond .eq 16, 3) := by decide +kernel
theorem own_d8_13 : decode jdk_42_method_139_code 13 = .ok (.new 10, 3) := by decide +kernel
theorem own_d8_16 : decode jdk_42_method_139_code 16 = .ok (.dup, 1) := by decide +kernel
theorem own_d8_17 : decode jdk_42_method_139_code 17 = .ok (.iload_n 0, 1) := by decide +kernel
theorem own_d8_18 : decode jdk_42_method_139_code 18 = .ok (.invokestatic 1018, 3) := by decide +kernel
theorem own_d8_21 : decode jdk_42_method_139_code 21 = .ok (.iconst 0, 1) := by decide +kernel
theorem own_d8_22 : decode jdk_42_method_139_code 22 = .ok (.invokespecial 209, 3) := by decide +kernel
theorem own_d8_25 : decode jdk_42_method_139_code 25 = .ok (.areturn, 1) := by decide +kernel
theorem ef_own_rm8 (m : MethodId) (p1 : Int32) : entryFrame m #[(.int p1)] 1 = mkF m 0 #[.val (.int p1)] [] := by first | (simp [entryFrame, mkF, argsToLocals, Value.category]; done) | rfl
def own_rm8_Q (Z : State) (p1 : Int32) (cs : Int32) (h0 : Heap) (n0 : Nat) (v : Option Value) (h : Heap) (L : List Loc) : Prop := ∃ b : Addr, v = some (.ref b) ∧ Fr n0 L ∧ Keep h0 h []
set_option maxRecDepth 65536 in
set_option maxHeartbeats 40000000 in
theorem own_rm8 (l : Launch) (Z : State) (a0 : Array Value) (hw : ∀ d ∈ tables_1, d.before a0 Z = true) (ws : List Jvm.Cond) (p1 : Int32) (cs : Int32) (h0 : Heap) (n0 : Nat) (Z0 : n0 ≤ h0.size) (CS : Sta Z h0 "java/lang/String" "COMPACT_STRINGS" "Z" (.int cs)) (hcs : ¬ cs = 0) (hp : ¬ (255 : Int32) < p1) :
    MetFree l (⟨"java/lang/String", "valueOf", "(C)Ljava/lang/String;"⟩ : MethodName) (head1 (Jvm.Cond.code (⟨"java/lang/String", "valueOf", "(C)Ljava/lang/String;"⟩ : MethodName) jdk_42_method_139_code 1 (some (.object "java/lang/String")) :: ws) ({ frames := 2, cells := 2, slots := 5, locals := 27 } : Room)) (fun a U => a = #[(.int p1)] ∧ Z.Warmed39 U.vm ∧ U.heap = h0) (fun _ _ _ _ _ => True) (fun _ U o U' => ∃ v L, o = .returned v ∧ own_rm8_Q Z p1 cs h0 n0 v U'.heap L ∧ FrameEnd U o U' L ({ frames := 2, cells := 2, slots := 5, locals := 27 } : Room).cells ({ frames := 2, cells := 2, slots := 5, locals := 27 } : Room).slots) := by
  refine MetFree.of_bodySF (plainFor_of_name own_pn1) hisR ?_
  intro p e s m args below meth c s₁ Bd hml0 hP hK
  obtain ⟨rfl, hZ, hh⟩ := hP
  have hx := Bd.exec
  have hby := Bd.bytes
  have hml : c.maxLocals = 1 := hml0
  have hown : s.vm.findClass "java/lang/String" = some m.cls := findClass_of_methodNamed Bd.named
  have hnm := (name_of_methodNamed Bd.named Bd.method).1
  have hlk : meth.locks = false := BodyLoose.notSynchronized Bd
  have X0 : Stand p l e ({ frames := 2, cells := 2, slots := 5, locals := 27 } : Room) s m #[(.int p1)] below meth c s₁ [] 0 0 := Stand.of_body Bd
  have e0 : s₁.heap = h0 := by rw [← hh, Bd.state]; rfl
  have N0 := Fr.nil n0
  have K0 : Keep h0 h0 [] := Keep.refl h0 []
  show own_Fin p e below (own_P (own_rm8_Q Z p1 cs h0 n0) s ({ frames := 2, cells := 2, slots := 5, locals := 27 } : Room).cells ({ frames := 2, cells := 2, slots := 5, locals := 27 } : Room).slots) (s₁.setTop (entryFrame m #[(.int p1)] 1))
  refine own_via (g' := s₁.setTop (mkF m 0 #[.val (.int p1)] [])) (fun t k => castTop (ef_own_rm8 m p1) k) ?_
  obtain ⟨T1, X1, e1, st1⟩ := getS X0 hx hZ hown (host := "") (hw _ (List.mem_of_getElem? (i := 18) rfl)) Via.refl e0 CS (g := (mkF m 0 #[.val (.int p1)] [])) rfl (hb hby own_d8_0)
  refine own_via (g' := T1.setTop (mkF m 3 #[.val (.int p1)] [(.int cs)])) (fun t k => st1 _ k) ?_
  refine own_via (g' := T1.setTop (mkF m 6 #[.val (.int p1)] [])) (fun t k => XS.ifNo X1.here hx rfl (hb hby own_d8_3) rfl (XT.i0_eq_f hcs) k) ?_
  refine own_via (g' := T1.setTop (mkF m 7 #[.val (.int p1)] [(.int p1)])) (fun t k => XS.iloadN X1.here hx rfl (hb hby own_d8_6) rfl k) ?_
  obtain ⟨v2, _, ⟨T2, L2, k2, n2⟩, -, X2, ⟨Lc2, hQ2, l2, y2, z2⟩, st2⟩ := Jvm.LawKit.callS X1 hx (y := (⟨"java/lang/StringLatin1", "canEncode", "(C)Z"⟩ : MethodName)) hown (mvT hZ (hw _ (List.mem_of_getElem? (i := 37) rfl))) (mvT hZ (hw _ (List.mem_of_getElem? (i := 38) rfl))) (mvT hZ (hw _ (List.mem_of_getElem? (i := 39) rfl))) (mvT hZ (hw _ (List.mem_of_getElem? (i := 40) rfl))) (by decide) (backOf (W := 0) (own_rm9 l Z a0 hw [] p1 h0 n0 (Nat.le_trans Z0 K0.1) hp) hZ (hw _ (List.mem_of_getElem? (i := 40) rfl)) (hw _ (List.mem_of_getElem? (i := 39) rfl)) (by decide) (by decide)) (g := (mkF m 7 #[.val (.int p1)] [(.int p1)])) rfl (by rw [hml]; rfl) (argsL := [(.int p1)]) (rest := []) (lenOf own_pd4 rfl) rfl (by show 2 * 0 + _ ≤ _; exact Nat.le_of_eq rfl) (hb hby own_d8_7) (fun _ _ => ⟨rfl, e1, (by decide : 0 + 0 ≤ _), (by decide : 0 + 0 ≤ _)⟩)
  dsimp only [Pt.U, Pt.locs, Pt.cells, Pt.slots] at X2 l2 y2 z2 st2 hQ2
  subst l2 y2 z2
  obtain ⟨rfl, N2q, e2⟩ := hQ2
  have N2 := Fr.app N0 N2q
  refine own_via (g' := T2.setTop (mkF m 10 #[.val (.int p1)] [(.int (1 : Int32))])) (fun t k => st2 _ k) ?_
  refine own_via (g' := T2.setTop (mkF m 13 #[.val (.int p1)] [])) (fun t k => XS.ifNo X2.here hx rfl (hb hby own_d8_10) rfl (XT.i0_eq_f (by decide)) k) ?_
  obtain ⟨T3, h3, X3, e3, E3, A3, D3, -, st3⟩ := newO X2 hx hZ hown (hw _ (List.mem_of_getElem? (i := 41) rfl)) (hw _ (List.mem_of_getElem? (i := 5) rfl)) (hw _ (List.mem_of_getElem? (i := 6) rfl)) e2 (g := (mkF m 13 #[.val (.int p1)] [])) rfl (hb hby own_d8_13) (by decide) (by decide)
  obtain ⟨b3, g3⟩ : ∃ z, z = h0.size := ⟨_, rfl⟩
  rw [← g3] at A3 D3 st3
  have sz_b3 : h0.size ≤ b3 := Nat.le_trans K0.1 (Nat.le_of_eq g3.symm)
  have g_b3 : n0 ≤ b3 := Nat.le_trans Z0 sz_b3
  have Kc3 : Keep h0 h3 [] := K0.ext E3
  have F3_31 : Fld Z h3 b3 "java/lang/String" "coder" "B" (.int (0 : Int32)) := D3 (Or.inr (hw _ (List.mem_of_getElem? (i := 31) rfl))) (ty := .byte) (by decide)
  have F3_33 : Fld Z h3 b3 "java/lang/String" "value" "[B" .null := D3 (Or.inr (hw _ (List.mem_of_getElem? (i := 33) rfl))) (ty := (.array .byte)) (by decide)
  refine own_via (g' := T3.setTop (mkF m 16 #[.val (.int p1)] [(.ref b3)])) (fun t k => st3 _ k) ?_
  refine own_via (g' := T3.setTop (mkF m 17 #[.val (.int p1)] [(.ref b3), (.ref b3)])) (fun t k => XS.dup X3.here hx rfl (hb hby own_d8_16) rfl (rfl) k) ?_
  refine own_via (g' := T3.setTop (mkF m 18 #[.val (.int p1)] [(.int p1), (.ref b3), (.ref b3)])) (fun t k => XS.iloadN X3.here hx rfl (hb hby own_d8_17) rfl k) ?_
  obtain ⟨v4, _, ⟨T4, L4, k4, n4⟩, -, X4, ⟨Lc4, hQ4, l4, y4, z4⟩, st4⟩ := Jvm.LawKit.callS X3 hx (y := (⟨"java/lang/StringLatin1", "toBytes", "(C)[B"⟩ : MethodName)) hown (mvT hZ (hw _ (List.mem_of_getElem? (i := 42) rfl))) (mvT hZ (hw _ (List.mem_of_getElem? (i := 43) rfl))) (mvT hZ (hw _ (List.mem_of_getElem? (i := 39) rfl))) (mvT hZ (hw _ (List.mem_of_getElem? (i := 44) rfl))) (by decide) (backOf (W := 2) (own_rm10 l Z a0 hw [] p1 h3 n0 (Nat.le_trans Z0 Kc3.1) ) hZ (hw _ (List.mem_of_getElem? (i := 44) rfl)) (hw _ (List.mem_of_getElem? (i := 39) rfl)) (by decide) (by decide)) (g := (mkF m 18 #[.val (.int p1)] [(.int p1), (.ref b3), (.ref b3)])) rfl (by rw [hml]; rfl) (argsL := [(.int p1)]) (rest := [(.ref b3), (.ref b3)]) (lenOf own_pd5 rfl) rfl (by show 2 * 0 + _ ≤ _; exact Nat.le_of_eq rfl) (hb hby own_d8_18) (fun _ _ => ⟨rfl, e3, (by decide : 1 + 1 ≤ _), (by decide : 4 + 1 ≤ _)⟩)
  dsimp only [Pt.U, Pt.locs, Pt.cells, Pt.slots] at X4 l4 y4 z4 st4 hQ4
  subst l4 y4 z4
  obtain ⟨b4, rfl, N4q, szq4, K4, V4⟩ := hQ4
  have ne_b3_b4 : b3 ≠ b4 := Nat.ne_of_lt (Nat.lt_of_lt_of_le A3.lt szq4)
  have Kc4 : Keep h0 T4.heap [] := Kc3.trans K4 all0
  have sz_b4 : h0.size ≤ b4 := Nat.le_trans Kc3.1 szq4
  have N4 := Fr.app N2 N4q
  refine own_via (g' := T4.setTop (mkF m 21 #[.val (.int p1)] [(.ref b4), (.ref b3), (.ref b3)])) (fun t k => st4 _ k) ?_
  refine own_via (g' := T4.setTop (mkF m 22 #[.val (.int p1)] [(.int (0 : Int32)), (.ref b4), (.ref b3), (.ref b3)])) (fun t k => XS.iconst X4.here hx rfl (hb hby own_d8_21) k) ?_
  obtain ⟨v5, _, ⟨T5, L5, k5, n5⟩, -, X5, ⟨Lc5, hQ5, l5, y5, z5⟩, st5⟩ := X4.specialBack hx (y := (⟨"java/lang/String", "<init>", "([BB)V"⟩ : MethodName)) rfl hown (mvT hZ (hw _ (List.mem_of_getElem? (i := 45) rfl))) (mvT hZ (hw _ (List.mem_of_getElem? (i := 46) rfl))) (mvT hZ (hw _ (List.mem_of_getElem? (i := 47) rfl))) (by decide) (backOf (W := 1) (own_rm11 l Z a0 hw [] b3 b4 (0 : Int32) T4.heap n0 (Nat.le_trans Z0 Kc4.1) (A3.keep K4) (F3_33.keep K4 nin0) (F3_31.keep K4 nin0) g_b3 rfl) hZ (hw _ (List.mem_of_getElem? (i := 47) rfl)) (hw _ (List.mem_of_getElem? (i := 6) rfl)) (by decide) (by decide)) (g := (mkF m 22 #[.val (.int p1)] [(.int (0 : Int32)), (.ref b4), (.ref b3), (.ref b3)])) rfl (by rw [hml]; rfl) (Steps.refl _) (a := b3) (argsL := [(.ref b4), (.int (0 : Int32))]) (rest := [(.ref b3)]) (lenOf own_pd6 rfl) rfl (by show 2 * 0 + _ ≤ _; exact Nat.le_of_eq rfl) (hb hby own_d8_22) (fun _ _ => ⟨rfl, rfl, (by decide : 2 + 0 ≤ _), (by decide : 5 + 0 ≤ _)⟩)
  dsimp only [Pt.U, Pt.locs, Pt.cells, Pt.slots] at X5 l5 y5 z5 st5 hQ5
  subst l5 y5 z5
  obtain ⟨rfl, N5q, K5, A5, Fa5_0, Fa5_1⟩ := hQ5
  have Kc5 : Keep h0 T5.heap [] := Kc4.trans K5 (allS (Or.inr sz_b3) all0)
  have N5 := Fr.app N4 N5q
  refine own_via (g' := T5.setTop (mkF m 25 #[.val (.int p1)] [(.ref b3)])) (fun t k => st5.trans k) ?_
  have eE : T5.heap = T5.heap := rfl
  exact own_retA X5 hx hlk (rfl) Bd.returns rfl (hb hby own_d8_25) ⟨b3, rfl, N5, (by rw [eE]; exact Kc5)⟩ (by decide) (by decide)
theorem own_pn3 : plainName "com/example/rosterwright/rosterwright/FaultsNotePinLaw" = true := by first | (simp [plainName, overriddenIn]; done) | decide +kernel
theorem own_pd7 : parseMethodDescriptor "([C)V" = some ⟨[(.array .char)], none⟩ := by decide +kernel
theorem own_pd8 : parseMethodDescriptor "(C)Ljava/lang/String;" = some ⟨[.char], some (.object "java/lang/String")⟩ := by decide +kernel
theorem own_d1_0 : decode method_2_code 0 = .ok (.iload_n 0, 1) := by decide +kernel
theorem own_d1_1 : decode method_2_code 1 = .ok (.iconst 3, 1) := by decide +kernel
theorem own_d1_2 : decode method_2_code 2 = .ok (.iand, 1) := by decide +kernel
theorem own_d1_3 : decode method_2_code 3 = .ok (.istore_n 1, 1) := by decide +kernel
theorem own_d1_4 : decode method_2_code 4 = .ok (.iload_n 1, 1) := by decide +kernel
theorem own_d1_5 : decode method_2_code 5 = .ok (.ifCond .ne 5, 3) := by decide +kernel
theorem own_d1_8 : decode method_2_code 8 = .ok (.aconst_null, 1) := by decide +kernel
theorem own_d1_9 : decode method_2_code 9 = .ok (.areturn, 1) := by decide +kernel
theorem own_d1_10 : decode method_2_code 10 = .ok (.iload_n 1, 1) := by decide +kernel
theorem own_d1_11 : decode method_2_code 11 = .ok (.iconst 1, 1) := by decide +kernel
theorem own_d1_12 : decode method_2_code 12 = .ok (.if_icmp .ne 14, 3) := by decide +kernel
theorem own_d1_15 : decode method_2_code 15 = .ok (.new 7, 3) := by decide +kernel
theorem own_d1_18 : decode method_2_code 18 = .ok (.dup, 1) := by decide +kernel
theorem own_d1_19 : decode method_2_code 19 = .ok (.iconst 0, 1) := by decide +kernel
theorem own_d1_20 : decode method_2_code 20 = .ok (.newarray .char, 2) := by decide +kernel
theorem own_d1_22 : decode method_2_code 22 = .ok (.invokespecial 9, 3) := by decide +kernel
theorem own_d1_25 : decode method_2_code 25 = .ok (.areturn, 1) := by decide +kernel
theorem own_d1_26 : decode method_2_code 26 = .ok (.iload_n 0, 1) := by decide +kernel
theorem own_d1_27 : decode method_2_code 27 = .ok (.iconst 2, 1) := by decide +kernel
theorem own_d1_28 : decode method_2_code 28 = .ok (.iushr, 1) := by decide +kernel
theorem own_d1_29 : decode method_2_code 29 = .ok (.sipush 255, 3) := by decide +kernel
theorem own_d1_32 : decode method_2_code 32 = .ok (.iand, 1) := by decide +kernel
theorem own_d1_33 : decode method_2_code 33 = .ok (.i2c, 1) := by decide +kernel
theorem own_d1_34 : decode method_2_code 34 = .ok (.istore_n 2, 1) := by decide +kernel
theorem own_d1_35 : decode method_2_code 35 = .ok (.iload_n 1, 1) := by decide +kernel
theorem own_d1_36 : decode method_2_code 36 = .ok (.iconst 2, 1) := by decide +kernel
theorem own_d1_37 : decode method_2_code 37 = .ok (.if_icmp .ne 8, 3) := by decide +kernel
theorem own_d1_40 : decode method_2_code 40 = .ok (.iload_n 2, 1) := by decide +kernel
theorem own_d1_41 : decode method_2_code 41 = .ok (.invokestatic 12, 3) := by decide +kernel
theorem own_d1_44 : decode method_2_code 44 = .ok (.areturn, 1) := by decide +kernel
theorem own_d1_45 : decode method_2_code 45 = .ok (.iload_n 0, 1) := by decide +kernel
theorem own_d1_46 : decode method_2_code 46 = .ok (.bipush 10, 2) := by decide +kernel
theorem own_d1_48 : decode method_2_code 48 = .ok (.iushr, 1) := by decide +kernel
theorem own_d1_49 : decode method_2_code 49 = .ok (.sipush 255, 3) := by decide +kernel
theorem own_d1_52 : decode method_2_code 52 = .ok (.iand, 1) := by decide +kernel
theorem own_d1_53 : decode method_2_code 53 = .ok (.i2c, 1) := by decide +kernel
theorem own_d1_54 : decode method_2_code 54 = .ok (.istore_n 3, 1) := by decide +kernel
theorem own_d1_55 : decode method_2_code 55 = .ok (.new 7, 3) := by decide +kernel
theorem own_d1_58 : decode method_2_code 58 = .ok (.dup, 1) := by decide +kernel
theorem own_d1_59 : decode method_2_code 59 = .ok (.iconst 2, 1) := by decide +kernel
theorem own_d1_60 : decode method_2_code 60 = .ok (.newarray .char, 2) := by decide +kernel
theorem own_d1_62 : decode method_2_code 62 = .ok (.dup, 1) := by decide +kernel
theorem own_d1_63 : decode method_2_code 63 = .ok (.iconst 0, 1) := by decide +kernel
theorem own_d1_64 : decode method_2_code 64 = .ok (.iload_n 2, 1) := by decide +kernel
theorem own_d1_65 : decode method_2_code 65 = .ok (.castore, 1) := by decide +kernel
theorem own_d1_66 : decode method_2_code 66 = .ok (.dup, 1) := by decide +kernel
theorem own_d1_67 : decode method_2_code 67 = .ok (.iconst 1, 1) := by decide +kernel
theorem own_d1_68 : decode method_2_code 68 = .ok (.iload_n 3, 1) := by decide +kernel
theorem own_d1_69 : decode method_2_code 69 = .ok (.castore, 1) := by decide +kernel
theorem own_d1_70 : decode method_2_code 70 = .ok (.invokespecial 9, 3) := by decide +kernel
theorem own_d1_73 : decode method_2_code 73 = .ok (.areturn, 1) := by decide +kernel
theorem ef_own_rm1 (m : MethodId) (p1 : Int32) : entryFrame m #[(.int p1)] 4 = mkF m 0 #[.val (.int p1), .unset, .unset, .unset] [] := by first | (simp [entryFrame, mkF, argsToLocals, Value.category]; done) | rfl
def own_rm1_Q (Z : State) (p1 : Int32) (cs : Int32) (h0 : Heap) (n0 : Nat) (v : Option Value) (h : Heap) (L : List Loc) : Prop := ∃ w : Value, v = some w ∧ w.isRef = true ∧ Fr n0 L ∧ Keep h0 h []
set_option maxRecDepth 65536 in
set_option maxHeartbeats 40000000 in
theorem own_rm1 (l : Launch) (Z : State) (a0 : Array Value) (hw : ∀ d ∈ tables_1, d.before a0 Z = true) (ws : List Jvm.Cond) (p1 : Int32) (cs : Int32) (h0 : Heap) (n0 : Nat) (Z0 : n0 ≤ h0.size) (CS : Sta Z h0 "java/lang/String" "COMPACT_STRINGS" "Z" (.int cs)) (hcs : ¬ cs = 0) :
    MetFree l (⟨"com/example/rosterwright/rosterwright/FaultsNotePinLaw", "mk", "(I)Ljava/lang/String;"⟩ : MethodName) (head1 (Jvm.Cond.code (⟨"com/example/rosterwright/rosterwright/FaultsNotePinLaw", "mk", "(I)Ljava/lang/String;"⟩ : MethodName) method_2_code 4 (some (.object "java/lang/String")) :: ws) ({ frames := 4, cells := 6, slots := 12, locals := 66 } : Room)) (fun a U => a = #[(.int p1)] ∧ Z.Warmed39 U.vm ∧ U.heap = h0 ∧ CHv Z own_EL U.vm h0 ∧ ∀ x ∈ ([] : List Addr), Safe Z own_EL U.vm h0 x) (fun _ _ _ _ _ => True) (fun _ U o U' => ∃ v L, o = .returned v ∧ own_rm1_Q Z p1 cs h0 n0 v U'.heap L ∧ CHr Z own_EL U.vm U.heap U'.vm U'.heap ∧ ReturnedEndW U o U' L ({ frames := 4, cells := 6, slots := 12, locals := 66 } : Room).cells ({ frames := 4, cells := 6, slots := 12, locals := 66 } : Room).slots) := by
  refine MetFree.of_bodySF (plainFor_of_name own_pn3) hisR ?_
  intro p e s m args below meth c s₁ Bd hml0 hP hK
  obtain ⟨rfl, hZ, hh, hCH0, hSf0⟩ := hP
  have hx := Bd.exec
  have hby := Bd.bytes
  have hml : c.maxLocals = 4 := hml0
  have hown : s.vm.findClass "com/example/rosterwright/rosterwright/FaultsNotePinLaw" = some m.cls := findClass_of_methodNamed Bd.named
  have hnm := (name_of_methodNamed Bd.named Bd.method).1
  have hlk : meth.locks = false := BodyLoose.notSynchronized Bd
  have X0 : Stand p l e ({ frames := 4, cells := 6, slots := 12, locals := 66 } : Room) (s.setVm s.vm) m #[(.int p1)] below meth c s₁ [] 0 0 := Stand.of_body Bd
  have e0 : s₁.heap = h0 := by rw [← hh, Bd.state]; rfl
  have N0 := Fr.nil n0
  have K0 : Keep h0 h0 [] := Keep.refl h0 []
  show own_Fin p e below (own_PH Z (own_rm1_Q Z p1 cs h0 n0) s ({ frames := 4, cells := 6, slots := 12, locals := 66 } : Room).cells ({ frames := 4, cells := 6, slots := 12, locals := 66 } : Room).slots) (s₁.setTop (entryFrame m #[(.int p1)] 4))
  have hCR0 : CHr Z own_EL (s.setVm s.vm).vm h0 s.vm h0 := CHr.refl hCH0
  have hS0 : s.Since s.vm 0 := (State.WarmedH.refl s).since 0
  have hk0 : 0 ≤ h0.size := Nat.zero_le _
  have hZ : Z.Warmed39 (s.setVm s.vm).vm := hZ
  have hown : (s.setVm s.vm).vm.findClass "com/example/rosterwright/rosterwright/FaultsNotePinLaw" = some m.cls := hown
  refine own_via (g' := s₁.setTop (mkF m 0 #[.val (.int p1), .unset, .unset, .unset] [])) (fun t k => castTop (ef_own_rm1 m p1) k) ?_
  refine own_via (g' := s₁.setTop (mkF m 1 #[.val (.int p1), .unset, .unset, .unset] [(.int p1)])) (fun t k => XS.iloadN X0.here hx rfl (hb hby own_d1_0) rfl k) ?_
  refine own_via (g' := s₁.setTop (mkF m 2 #[.val (.int p1), .unset, .unset, .unset] [(.int (3 : Int32)), (.int p1)])) (fun t k => XS.iconst X0.here hx rfl (hb hby own_d1_1) k) ?_
  refine own_via (g' := s₁.setTop (mkF m 3 #[.val (.int p1), .unset, .unset, .unset] [(.int (p1 &&& (3 : Int32)))])) (fun t k => XS.iand X0.here hx rfl (hb hby own_d1_2) rfl k) ?_
  refine own_via (g' := s₁.setTop (mkF m 4 #[.val (.int p1), .val (.int (p1 &&& (3 : Int32))), .unset, .unset] [])) (fun t k => XS.istoreN X0.here hx rfl (hb hby own_d1_3) rfl (l' := #[.val (.int p1), .val (.int (p1 &&& (3 : Int32))), .unset, .unset]) rfl k) ?_
  refine own_via (g' := s₁.setTop (mkF m 5 #[.val (.int p1), .val (.int (p1 &&& (3 : Int32))), .unset, .unset] [(.int (p1 &&& (3 : Int32)))])) (fun t k => XS.iloadN X0.here hx rfl (hb hby own_d1_4) rfl k) ?_
  by_cases hc5_1 : (p1 &&& (3 : Int32)) = 0
  · refine own_via (g' := s₁.setTop (mkF m 8 #[.val (.int p1), .val (.int (p1 &&& (3 : Int32))), .unset, .unset] [])) (fun t k => XS.ifNo X0.here hx rfl (hb hby own_d1_5) rfl (XT.i0_ne_f hc5_1) k) ?_
    refine own_via (g' := s₁.setTop (mkF m 9 #[.val (.int p1), .val (.int (p1 &&& (3 : Int32))), .unset, .unset] [.null])) (fun t k => XS.aconstNull X0.here hx rfl (hb hby own_d1_8) k) ?_
    have eE : s₁.heap = h0 := e0
    exact own_retAH X0 hS0 (by rw [(e0 : s₁.heap = h0)]; exact hk0) hx hlk (rfl) Bd.returns rfl (hb hby own_d1_9) (hCR := (by rw [hh, (e0 : s₁.heap = h0)]; exact hCR0.trans (CHv.at X0 hZ (own_hEL hw) hCR0.1))) ⟨_, rfl, rfl, N0, (by rw [eE]; exact K0)⟩ (by decide) (by decide)
  · refine own_via (g' := s₁.setTop (mkF m 10 #[.val (.int p1), .val (.int (p1 &&& (3 : Int32))), .unset, .unset] [])) (fun t k => XS.ifYes X0.here hx rfl (pc0 := 5) (pc' := 10) rfl (hb hby own_d1_5) rfl (XT.i0_ne_t hc5_1) (by decide) (by decide) k) ?_
    refine own_via (g' := s₁.setTop (mkF m 11 #[.val (.int p1), .val (.int (p1 &&& (3 : Int32))), .unset, .unset] [(.int (p1 &&& (3 : Int32)))])) (fun t k => XS.iloadN X0.here hx rfl (hb hby own_d1_10) rfl k) ?_
    refine own_via (g' := s₁.setTop (mkF m 12 #[.val (.int p1), .val (.int (p1 &&& (3 : Int32))), .unset, .unset] [(.int (1 : Int32)), (.int (p1 &&& (3 : Int32)))])) (fun t k => XS.iconst X0.here hx rfl (hb hby own_d1_11) k) ?_
    by_cases hc12_2 : (p1 &&& (3 : Int32)) = (1 : Int32)
    · refine own_via (g' := s₁.setTop (mkF m 15 #[.val (.int p1), .val (.int (p1 &&& (3 : Int32))), .unset, .unset] [])) (fun t k => XS.icmpNo X0.here hx rfl (hb hby own_d1_12) rfl (XT.ii_ne_f hc12_2) k) ?_
      obtain ⟨T3, h3, X3, e3, E3, A3, D3, -, st3⟩ := newO X0 hx hZ hown (hw _ (List.mem_of_getElem? (i := 4) rfl)) (hw _ (List.mem_of_getElem? (i := 5) rfl)) (hw _ (List.mem_of_getElem? (i := 6) rfl)) e0 (g := (mkF m 15 #[.val (.int p1), .val (.int (p1 &&& (3 : Int32))), .unset, .unset] [])) rfl (hb hby own_d1_15) (by decide) (by decide)
      obtain ⟨b3, g3⟩ : ∃ z, z = h0.size := ⟨_, rfl⟩
      rw [← g3] at A3 D3 st3
      have sz_b3 : h0.size ≤ b3 := Nat.le_trans K0.1 (Nat.le_of_eq g3.symm)
      have g_b3 : n0 ≤ b3 := Nat.le_trans Z0 sz_b3
      have Sfb3_0 := own_sfnew hCR0 (Nat.le_of_eq g3.symm)
      have hCR3 := hCR0.trans (CHr.ext E3 hCR0.1)
      have Sf3_b3 := Safe.ext E3 hCR0.1 Sfb3_0
      have Kc3 : Keep h0 h3 [] := K0.ext E3
      have F3_31 : Fld Z h3 b3 "java/lang/String" "coder" "B" (.int (0 : Int32)) := D3 (Or.inr (hw _ (List.mem_of_getElem? (i := 31) rfl))) (ty := .byte) (by decide)
      have F3_33 : Fld Z h3 b3 "java/lang/String" "value" "[B" .null := D3 (Or.inr (hw _ (List.mem_of_getElem? (i := 33) rfl))) (ty := (.array .byte)) (by decide)
      refine own_via (g' := T3.setTop (mkF m 18 #[.val (.int p1), .val (.int (p1 &&& (3 : Int32))), .unset, .unset] [(.ref b3)])) (fun t k => st3 _ k) ?_
      refine own_via (g' := T3.setTop (mkF m 19 #[.val (.int p1), .val (.int (p1 &&& (3 : Int32))), .unset, .unset] [(.ref b3), (.ref b3)])) (fun t k => XS.dup X3.here hx rfl (hb hby own_d1_18) rfl (rfl) k) ?_
      refine own_via (g' := T3.setTop (mkF m 20 #[.val (.int p1), .val (.int (p1 &&& (3 : Int32))), .unset, .unset] [(.int (0 : Int32)), (.ref b3), (.ref b3)])) (fun t k => XS.iconst X3.here hx rfl (hb hby own_d1_19) k) ?_
      obtain ⟨T4, h4, X4, e4, E4, A4, st4⟩ := own_newP X3 hx hZ (aty := .char) (hw _ (List.mem_of_getElem? (i := 7) rfl)) e3 (g := (mkF m 20 #[.val (.int p1), .val (.int (p1 &&& (3 : Int32))), .unset, .unset] [(.int (0 : Int32)), (.ref b3), (.ref b3)])) rfl (hb hby own_d1_20) rfl (by decide) (cap := 0) (by decide) (by decide) (by decide) (by decide)
      obtain ⟨b4, g4⟩ : ∃ z, z = h3.size := ⟨_, rfl⟩
      rw [← g4] at A4 st4
      have V4 : own_Ar Z h4 b4 .char [] := A4
      have ne_b3_b4 : b3 ≠ b4 := Nat.ne_of_lt (Nat.lt_of_lt_of_le A3.lt (Nat.le_of_eq g4.symm))
      have sz_b4 : h0.size ≤ b4 := Nat.le_trans Kc3.1 (Nat.le_of_eq g4.symm)
      have g_b4 : n0 ≤ b4 := Nat.le_trans Z0 sz_b4
      have hCR4 := hCR3.trans (CHr.ext E4 hCR3.1)
      have Sf4_b3 := Safe.ext E4 hCR3.1 Sf3_b3
      have Kc4 : Keep h0 h4 [] := Kc3.ext E4
      refine own_via (g' := T4.setTop (mkF m 22 #[.val (.int p1), .val (.int (p1 &&& (3 : Int32))), .unset, .unset] [(.ref b4), (.ref b3), (.ref b3)])) (fun t k => st4 _ k) ?_
      obtain ⟨v5, _, ⟨T5, L5, k5, n5⟩, -, X5, sS5, gS5, ⟨Lc5, hQ5, l5, y5, z5, cr5⟩, st5⟩ := X4.specialBackS hx (y := (⟨"java/lang/String", "<init>", "([C)V"⟩ : MethodName)) rfl hown (mvT hZ (hw _ (List.mem_of_getElem? (i := 8) rfl))) (mvT hZ (hw _ (List.mem_of_getElem? (i := 9) rfl))) (mvT hZ (hw _ (List.mem_of_getElem? (i := 10) rfl))) (by decide) (own_backH (W := 1) (own_emp1 l Z a0 hw [] b3 b4 h4 n0 (Nat.le_trans Z0 Kc4.1) (A3.ext E4) (F3_31.ext E4) (F3_33.ext E4) g_b3 V4) hZ (hw _ (List.mem_of_getElem? (i := 10) rfl)) (hw _ (List.mem_of_getElem? (i := 6) rfl)) (by decide) (by decide) (own_hEL hw) hCR4.1 (allS ⟨(A3.ext E4).lt, Sf4_b3⟩ all0)) (g := (mkF m 22 #[.val (.int p1), .val (.int (p1 &&& (3 : Int32))), .unset, .unset] [(.ref b4), (.ref b3), (.ref b3)])) rfl (by rw [hml]; rfl) (Steps.refl _) (a := b3) (argsL := [(.ref b4)]) (rest := [(.ref b3)]) (lenOf own_pd7 rfl) rfl (by show 2 * 0 + _ ≤ _; exact Nat.le_of_eq rfl) (hb hby own_d1_22) (fun _ _ => ⟨rfl, e4, (by decide : 2 + 4 ≤ _), (by decide : 4 + 8 ≤ _)⟩)
      dsimp only [Pt.U, Pt.locs, Pt.cells, Pt.slots] at X5 l5 y5 z5 st5 hQ5 sS5 gS5 cr5
      subst l5 y5 z5
      obtain ⟨X5, hS5, hZ, hown⟩ := rebS hS0 (by rw [(e4 : T4.heap = h4)]; exact (Nat.le_trans (Nat.le_trans hk0 E3.1) E4.1)) X5 sS5 gS5 hZ hown
      have Sx5_b3 := CHr.safe cr5 (A3.ext E4).lt Sf4_b3
      have hCR5 := hCR4.trans cr5
      obtain ⟨rfl, N5q, K5⟩ := hQ5
      have Kc5 : Keep h0 T5.heap [] := Kc4.trans K5 (allS (Or.inr sz_b3) all0)
      have N5 := Fr.app N0 N5q
      refine own_via (g' := T5.setTop (mkF m 25 #[.val (.int p1), .val (.int (p1 &&& (3 : Int32))), .unset, .unset] [(.ref b3)])) (fun t k => st5.trans k) ?_
      have eE : T5.heap = T5.heap := rfl
      exact own_retAH X5 hS5 (by rw [(rfl : T5.heap = T5.heap)]; exact (Nat.le_of_eq (congrArg Array.size (rfl : T5.heap = T5.heap)))) hx hlk (rfl) Bd.returns rfl (hb hby own_d1_25) (hCR := (by rw [hh, (rfl : T5.heap = T5.heap)]; exact hCR5.trans (CHv.at X5 hZ (own_hEL hw) hCR5.1))) ⟨_, rfl, rfl, N5, (by rw [eE]; exact Kc5)⟩ (by decide) (by decide)
    · refine own_via (g' := s₁.setTop (mkF m 26 #[.val (.int p1), .val (.int (p1 &&& (3 : Int32))), .unset, .unset] [])) (fun t k => XS.icmpYes X0.here hx rfl (pc0 := 12) (pc' := 26) rfl (hb hby own_d1_12) rfl (XT.ii_ne_t hc12_2) (by decide) (by decide) k) ?_
      refine own_via (g' := s₁.setTop (mkF m 27 #[.val (.int p1), .val (.int (p1 &&& (3 : Int32))), .unset, .unset] [(.int p1)])) (fun t k => XS.iloadN X0.here hx rfl (hb hby own_d1_26) rfl k) ?_
      refine own_via (g' := s₁.setTop (mkF m 28 #[.val (.int p1), .val (.int (p1 &&& (3 : Int32))), .unset, .unset] [(.int (2 : Int32)), (.int p1)])) (fun t k => XS.iconst X0.here hx rfl (hb hby own_d1_27) k) ?_
      refine own_via (g' := s₁.setTop (mkF m 29 #[.val (.int p1), .val (.int (p1 &&& (3 : Int32))), .unset, .unset] [(.int ((p1.toUInt32 >>> ((2 : Int32) &&& 31).toUInt32).toInt32))])) (fun t k => XS.iushr X0.here hx rfl (hb hby own_d1_28) rfl k) ?_
      refine own_via (g' := s₁.setTop (mkF m 32 #[.val (.int p1), .val (.int (p1 &&& (3 : Int32))), .unset, .unset] [(.int (255 : Int32)), (.int ((p1.toUInt32 >>> ((2 : Int32) &&& 31).toUInt32).toInt32))])) (fun t k => XS.sipush X0.here hx rfl (hb hby own_d1_29) k) ?_
      refine own_via (g' := s₁.setTop (mkF m 33 #[.val (.int p1), .val (.int (p1 &&& (3 : Int32))), .unset, .unset] [(.int (((p1.toUInt32 >>> ((2 : Int32) &&& 31).toUInt32).toInt32) &&& (255 : Int32)))])) (fun t k => XS.iand X0.here hx rfl (hb hby own_d1_32) rfl k) ?_
      refine own_via (g' := s₁.setTop (mkF m 34 #[.val (.int p1), .val (.int (p1 &&& (3 : Int32))), .unset, .unset] [(.int ((((p1.toUInt32 >>> ((2 : Int32) &&& 31).toUInt32).toInt32) &&& (255 : Int32)).toUInt32.toUInt16.toUInt32.toInt32))])) (fun t k => XT.i2c X0.here hx rfl (hb hby own_d1_33) rfl k) ?_
      have lc1 := own_c255 ((p1.toUInt32 >>> ((2 : Int32) &&& 31).toUInt32).toInt32)
      have nc1 := own_narc (((p1.toUInt32 >>> ((2 : Int32) &&& 31).toUInt32).toInt32) &&& 255)
      generalize hc1 : ((((p1.toUInt32 >>> ((2 : Int32) &&& 31).toUInt32).toInt32) &&& (255 : Int32)).toUInt32.toUInt16.toUInt32.toInt32) = c1
      rw [hc1] at lc1 nc1
      refine own_via (g' := s₁.setTop (mkF m 35 #[.val (.int p1), .val (.int (p1 &&& (3 : Int32))), .val (.int c1), .unset] [])) (fun t k => XS.istoreN X0.here hx rfl (hb hby own_d1_34) rfl (l' := #[.val (.int p1), .val (.int (p1 &&& (3 : Int32))), .val (.int c1), .unset]) rfl k) ?_
      refine own_via (g' := s₁.setTop (mkF m 36 #[.val (.int p1), .val (.int (p1 &&& (3 : Int32))), .val (.int c1), .unset] [(.int (p1 &&& (3 : Int32)))])) (fun t k => XS.iloadN X0.here hx rfl (hb hby own_d1_35) rfl k) ?_
      refine own_via (g' := s₁.setTop (mkF m 37 #[.val (.int p1), .val (.int (p1 &&& (3 : Int32))), .val (.int c1), .unset] [(.int (2 : Int32)), (.int (p1 &&& (3 : Int32)))])) (fun t k => XS.iconst X0.here hx rfl (hb hby own_d1_36) k) ?_
      by_cases hc37_6 : (p1 &&& (3 : Int32)) = (2 : Int32)
      · refine own_via (g' := s₁.setTop (mkF m 40 #[.val (.int p1), .val (.int (p1 &&& (3 : Int32))), .val (.int c1), .unset] [])) (fun t k => XS.icmpNo X0.here hx rfl (hb hby own_d1_37) rfl (XT.ii_ne_f hc37_6) k) ?_
        refine own_via (g' := s₁.setTop (mkF m 41 #[.val (.int p1), .val (.int (p1 &&& (3 : Int32))), .val (.int c1), .unset] [(.int c1)])) (fun t k => XS.iloadN X0.here hx rfl (hb hby own_d1_40) rfl k) ?_
        obtain ⟨v7, _, ⟨T7, L7, k7, n7⟩, -, X7, ⟨Lc7, hQ7, l7, y7, z7⟩, st7⟩ := Jvm.LawKit.callS X0 hx (y := (⟨"java/lang/String", "valueOf", "(C)Ljava/lang/String;"⟩ : MethodName)) hown (mvT hZ (hw _ (List.mem_of_getElem? (i := 34) rfl))) (mvT hZ (hw _ (List.mem_of_getElem? (i := 35) rfl))) (mvT hZ (hw _ (List.mem_of_getElem? (i := 6) rfl))) (mvT hZ (hw _ (List.mem_of_getElem? (i := 36) rfl))) (by decide) (backOf (W := 0) (own_rm8 l Z a0 hw [] c1 cs h0 n0 (Nat.le_trans Z0 K0.1) CS hcs lc1) hZ (hw _ (List.mem_of_getElem? (i := 36) rfl)) (hw _ (List.mem_of_getElem? (i := 6) rfl)) (by decide) (by decide)) (g := (mkF m 41 #[.val (.int p1), .val (.int (p1 &&& (3 : Int32))), .val (.int c1), .unset] [(.int c1)])) rfl (by rw [hml]; rfl) (argsL := [(.int c1)]) (rest := []) (lenOf own_pd8 rfl) rfl (by show 2 * 0 + _ ≤ _; exact Nat.le_of_eq rfl) (hb hby own_d1_41) (fun _ _ => ⟨rfl, e0, (by decide : 0 + 2 ≤ _), (by decide : 0 + 5 ≤ _)⟩)
        dsimp only [Pt.U, Pt.locs, Pt.cells, Pt.slots] at X7 l7 y7 z7 st7 hQ7
        subst l7 y7 z7
        obtain ⟨b7, rfl, N7q, K7⟩ := hQ7
        have hCR7 := hCR0.trans (CHr.keep K7 sf0 hCR0.1)
        have Kc7 : Keep h0 T7.heap [] := K0.trans K7 all0
        have N7 := Fr.app N0 N7q
        refine own_via (g' := T7.setTop (mkF m 44 #[.val (.int p1), .val (.int (p1 &&& (3 : Int32))), .val (.int c1), .unset] [(.ref b7)])) (fun t k => st7 _ k) ?_
        have eE : T7.heap = T7.heap := rfl
        exact own_retAH X7 hS0 (by rw [(rfl : T7.heap = T7.heap)]; exact (Nat.le_trans hk0 K7.1)) hx hlk (rfl) Bd.returns rfl (hb hby own_d1_44) (hCR := (by rw [hh, (rfl : T7.heap = T7.heap)]; exact hCR7.trans (CHv.at X7 hZ (own_hEL hw) hCR7.1))) ⟨_, rfl, rfl, N7, (by rw [eE]; exact Kc7)⟩ (by decide) (by decide)
      · refine own_via (g' := s₁.setTop (mkF m 45 #[.val (.int p1), .val (.int (p1 &&& (3 : Int32))), .val (.int c1), .unset] [])) (fun t k => XS.icmpYes X0.here hx rfl (pc0 := 37) (pc' := 45) rfl (hb hby own_d1_37) rfl (XT.ii_ne_t hc37_6) (by decide) (by decide) k) ?_
        refine own_via (g' := s₁.setTop (mkF m 46 #[.val (.int p1), .val (.int (p1 &&& (3 : Int32))), .val (.int c1), .unset] [(.int p1)])) (fun t k => XS.iloadN X0.here hx rfl (hb hby own_d1_45) rfl k) ?_
        refine own_via (g' := s₁.setTop (mkF m 48 #[.val (.int p1), .val (.int (p1 &&& (3 : Int32))), .val (.int c1), .unset] [(.int (10 : Int32)), (.int p1)])) (fun t k => XS.bipush X0.here hx rfl (hb hby own_d1_46) k) ?_
        refine own_via (g' := s₁.setTop (mkF m 49 #[.val (.int p1), .val (.int (p1 &&& (3 : Int32))), .val (.int c1), .unset] [(.int ((p1.toUInt32 >>> ((10 : Int32) &&& 31).toUInt32).toInt32))])) (fun t k => XS.iushr X0.here hx rfl (hb hby own_d1_48) rfl k) ?_
        refine own_via (g' := s₁.setTop (mkF m 52 #[.val (.int p1), .val (.int (p1 &&& (3 : Int32))), .val (.int c1), .unset] [(.int (255 : Int32)), (.int ((p1.toUInt32 >>> ((10 : Int32) &&& 31).toUInt32).toInt32))])) (fun t k => XS.sipush X0.here hx rfl (hb hby own_d1_49) k) ?_
        refine own_via (g' := s₁.setTop (mkF m 53 #[.val (.int p1), .val (.int (p1 &&& (3 : Int32))), .val (.int c1), .unset] [(.int (((p1.toUInt32 >>> ((10 : Int32) &&& 31).toUInt32).toInt32) &&& (255 : Int32)))])) (fun t k => XS.iand X0.here hx rfl (hb hby own_d1_52) rfl k) ?_
        refine own_via (g' := s₁.setTop (mkF m 54 #[.val (.int p1), .val (.int (p1 &&& (3 : Int32))), .val (.int c1), .unset] [(.int ((((p1.toUInt32 >>> ((10 : Int32) &&& 31).toUInt32).toInt32) &&& (255 : Int32)).toUInt32.toUInt16.toUInt32.toInt32))])) (fun t k => XT.i2c X0.here hx rfl (hb hby own_d1_53) rfl k) ?_
        have lc2 := own_c255 ((p1.toUInt32 >>> ((10 : Int32) &&& 31).toUInt32).toInt32)
        have nc2 := own_narc (((p1.toUInt32 >>> ((10 : Int32) &&& 31).toUInt32).toInt32) &&& 255)
        generalize hc2 : ((((p1.toUInt32 >>> ((10 : Int32) &&& 31).toUInt32).toInt32) &&& (255 : Int32)).toUInt32.toUInt16.toUInt32.toInt32) = c2
        rw [hc2] at lc2 nc2
        refine own_via (g' := s₁.setTop (mkF m 55 #[.val (.int p1), .val (.int (p1 &&& (3 : Int32))), .val (.int c1), .val (.int c2)] [])) (fun t k => XS.istoreN X0.here hx rfl (hb hby own_d1_54) rfl (l' := #[.val (.int p1), .val (.int (p1 &&& (3 : Int32))), .val (.int c1), .val (.int c2)]) rfl k) ?_
        obtain ⟨T8, h8, X8, e8, E8, A8, D8, -, st8⟩ := newO X0 hx hZ hown (hw _ (List.mem_of_getElem? (i := 4) rfl)) (hw _ (List.mem_of_getElem? (i := 5) rfl)) (hw _ (List.mem_of_getElem? (i := 6) rfl)) e0 (g := (mkF m 55 #[.val (.int p1), .val (.int (p1 &&& (3 : Int32))), .val (.int c1), .val (.int c2)] [])) rfl (hb hby own_d1_55) (by decide) (by decide)
        obtain ⟨b8, g8⟩ : ∃ z, z = h0.size := ⟨_, rfl⟩
        rw [← g8] at A8 D8 st8
        have sz_b8 : h0.size ≤ b8 := Nat.le_trans K0.1 (Nat.le_of_eq g8.symm)
        have g_b8 : n0 ≤ b8 := Nat.le_trans Z0 sz_b8
        have Sfb8_0 := own_sfnew hCR0 (Nat.le_of_eq g8.symm)
        have hCR8 := hCR0.trans (CHr.ext E8 hCR0.1)
        have Sf8_b8 := Safe.ext E8 hCR0.1 Sfb8_0
        have Kc8 : Keep h0 h8 [] := K0.ext E8
        have F8_31 : Fld Z h8 b8 "java/lang/String" "coder" "B" (.int (0 : Int32)) := D8 (Or.inr (hw _ (List.mem_of_getElem? (i := 31) rfl))) (ty := .byte) (by decide)
        have F8_33 : Fld Z h8 b8 "java/lang/String" "value" "[B" .null := D8 (Or.inr (hw _ (List.mem_of_getElem? (i := 33) rfl))) (ty := (.array .byte)) (by decide)
        refine own_via (g' := T8.setTop (mkF m 58 #[.val (.int p1), .val (.int (p1 &&& (3 : Int32))), .val (.int c1), .val (.int c2)] [(.ref b8)])) (fun t k => st8 _ k) ?_
        refine own_via (g' := T8.setTop (mkF m 59 #[.val (.int p1), .val (.int (p1 &&& (3 : Int32))), .val (.int c1), .val (.int c2)] [(.ref b8), (.ref b8)])) (fun t k => XS.dup X8.here hx rfl (hb hby own_d1_58) rfl (rfl) k) ?_
        refine own_via (g' := T8.setTop (mkF m 60 #[.val (.int p1), .val (.int (p1 &&& (3 : Int32))), .val (.int c1), .val (.int c2)] [(.int (2 : Int32)), (.ref b8), (.ref b8)])) (fun t k => XS.iconst X8.here hx rfl (hb hby own_d1_59) k) ?_
        obtain ⟨T9, h9, X9, e9, E9, A9, st9⟩ := own_newP X8 hx hZ (aty := .char) (hw _ (List.mem_of_getElem? (i := 7) rfl)) e8 (g := (mkF m 60 #[.val (.int p1), .val (.int (p1 &&& (3 : Int32))), .val (.int c1), .val (.int c2)] [(.int (2 : Int32)), (.ref b8), (.ref b8)])) rfl (hb hby own_d1_60) rfl (by decide) (cap := 2) (by decide) (by decide) (by decide) (by decide)
        obtain ⟨b9, g9⟩ : ∃ z, z = h8.size := ⟨_, rfl⟩
        rw [← g9] at A9 st9
        have V9 : own_Ar Z h9 b9 .char [(.int 0), (.int 0)] := A9
        have ne_b8_b9 : b8 ≠ b9 := Nat.ne_of_lt (Nat.lt_of_lt_of_le A8.lt (Nat.le_of_eq g9.symm))
        have sz_b9 : h0.size ≤ b9 := Nat.le_trans Kc8.1 (Nat.le_of_eq g9.symm)
        have g_b9 : n0 ≤ b9 := Nat.le_trans Z0 sz_b9
        have hCR9 := hCR8.trans (CHr.ext E9 hCR8.1)
        have Sf9_b8 := Safe.ext E9 hCR8.1 Sf8_b8
        have Kc9 : Keep h0 h9 [] := Kc8.ext E9
        refine own_via (g' := T9.setTop (mkF m 62 #[.val (.int p1), .val (.int (p1 &&& (3 : Int32))), .val (.int c1), .val (.int c2)] [(.ref b9), (.ref b8), (.ref b8)])) (fun t k => st9 _ k) ?_
        refine own_via (g' := T9.setTop (mkF m 63 #[.val (.int p1), .val (.int (p1 &&& (3 : Int32))), .val (.int c1), .val (.int c2)] [(.ref b9), (.ref b9), (.ref b8), (.ref b8)])) (fun t k => XS.dup X9.here hx rfl (hb hby own_d1_62) rfl (rfl) k) ?_
        refine own_via (g' := T9.setTop (mkF m 64 #[.val (.int p1), .val (.int (p1 &&& (3 : Int32))), .val (.int c1), .val (.int c2)] [(.int (0 : Int32)), (.ref b9), (.ref b9), (.ref b8), (.ref b8)])) (fun t k => XS.iconst X9.here hx rfl (hb hby own_d1_63) k) ?_
        refine own_via (g' := T9.setTop (mkF m 65 #[.val (.int p1), .val (.int (p1 &&& (3 : Int32))), .val (.int c1), .val (.int c2)] [(.int c1), (.int (0 : Int32)), (.ref b9), (.ref b9), (.ref b8), (.ref b8)])) (fun t k => XS.iloadN X9.here hx rfl (hb hby own_d1_64) rfl k) ?_
        obtain ⟨T10, h10, X10, e10, W10, V10', st10⟩ := own_stC X9 hx hZ e9 V9 (j := (0 : Int32)) (by decide) (by decide : (0 : Int32).toNatClampNeg < 2) (g := (mkF m 65 #[.val (.int p1), .val (.int (p1 &&& (3 : Int32))), .val (.int c1), .val (.int c2)] [(.int c1), (.int (0 : Int32)), (.ref b9), (.ref b9), (.ref b8), (.ref b8)])) rfl rfl (hb hby own_d1_65)
        have V10 : own_Ar Z h10 b9 .char [(.int (nar .char c1)), (.int 0)] := V10'
        have hCR10 := hCR9.trans (CHr.wr W10 (own_Ar.safe hZ.alike V9 (by decide)) hCR9.1)
        have Sf10_b8 := Safe.wr W10 (own_Ar.safe hZ.alike V9 (by decide)) hCR9.1 Sf9_b8
        have Kc10 : Keep h0 h10 [] := Kc9.wr W10 (Or.inr sz_b9)
        have N10 := Fr.snoc X10 N0 g_b9
        refine own_via (g' := T10.setTop (mkF m 66 #[.val (.int p1), .val (.int (p1 &&& (3 : Int32))), .val (.int c1), .val (.int c2)] [(.ref b9), (.ref b8), (.ref b8)])) (fun t k => st10 _ k) ?_
        refine own_via (g' := T10.setTop (mkF m 67 #[.val (.int p1), .val (.int (p1 &&& (3 : Int32))), .val (.int c1), .val (.int c2)] [(.ref b9), (.ref b9), (.ref b8), (.ref b8)])) (fun t k => XS.dup X10.here hx rfl (hb hby own_d1_66) rfl (rfl) k) ?_
        refine own_via (g' := T10.setTop (mkF m 68 #[.val (.int p1), .val (.int (p1 &&& (3 : Int32))), .val (.int c1), .val (.int c2)] [(.int (1 : Int32)), (.ref b9), (.ref b9), (.ref b8), (.ref b8)])) (fun t k => XS.iconst X10.here hx rfl (hb hby own_d1_67) k) ?_
        refine own_via (g' := T10.setTop (mkF m 69 #[.val (.int p1), .val (.int (p1 &&& (3 : Int32))), .val (.int c1), .val (.int c2)] [(.int c2), (.int (1 : Int32)), (.ref b9), (.ref b9), (.ref b8), (.ref b8)])) (fun t k => XS.iloadN X10.here hx rfl (hb hby own_d1_68) rfl k) ?_
        obtain ⟨T11, h11, X11, e11, W11, V11', st11⟩ := own_stC X10 hx hZ e10 V10 (j := (1 : Int32)) (by decide) (by decide : (1 : Int32).toNatClampNeg < 2) (g := (mkF m 69 #[.val (.int p1), .val (.int (p1 &&& (3 : Int32))), .val (.int c1), .val (.int c2)] [(.int c2), (.int (1 : Int32)), (.ref b9), (.ref b9), (.ref b8), (.ref b8)])) rfl rfl (hb hby own_d1_69)
        have V11 : own_Ar Z h11 b9 .char [(.int (nar .char c1)), (.int (nar .char c2))] := V11'
        have hCR11 := hCR10.trans (CHr.wr W11 (own_Ar.safe hZ.alike V10 (by decide)) hCR10.1)
        have Sf11_b8 := Safe.wr W11 (own_Ar.safe hZ.alike V10 (by decide)) hCR10.1 Sf10_b8
        have Kc11 : Keep h0 h11 [] := Kc10.wr W11 (Or.inr sz_b9)
        have N11 := Fr.snoc X11 N10 g_b9
        refine own_via (g' := T11.setTop (mkF m 70 #[.val (.int p1), .val (.int (p1 &&& (3 : Int32))), .val (.int c1), .val (.int c2)] [(.ref b9), (.ref b8), (.ref b8)])) (fun t k => st11 _ k) ?_
        have VC : own_Ar Z h11 b9 .char (([c1, c2] : List Int32).map Value.int) := by have q := V11; rw [nc1, nc2] at q; exact q
        obtain ⟨v12, _, ⟨T12, L12, k12, n12⟩, -, X12, ⟨Lc12, hQ12, l12, y12, z12⟩, st12⟩ := X11.specialBack hx (y := (⟨"java/lang/String", "<init>", "([C)V"⟩ : MethodName)) rfl hown (mvT hZ (hw _ (List.mem_of_getElem? (i := 8) rfl))) (mvT hZ (hw _ (List.mem_of_getElem? (i := 9) rfl))) (mvT hZ (hw _ (List.mem_of_getElem? (i := 10) rfl))) (by decide) (backOf (W := 1) (own_newS l Z a0 hw [] b8 b9 cs [c1, c2] h11 n0 (Nat.le_trans Z0 Kc11.1) (own_sta_keep CS Kc11 (fun _ _ _ _ => nin0)) hcs (((A8.ext E9).wr W10).wr W11) (((F8_31.ext E9).other W10 (Or.inl ne_b8_b9)).other W11 (Or.inl ne_b8_b9)) (((F8_33.ext E9).other W10 (Or.inl ne_b8_b9)).other W11 (Or.inl ne_b8_b9)) VC ne_b8_b9 (by simp) (by simp) (by simp) (by intro z hz; rcases List.mem_cons.mp hz with rfl | hz; exact lc1; rcases List.mem_singleton.mp hz with rfl; exact lc2) g_b8) hZ (hw _ (List.mem_of_getElem? (i := 10) rfl)) (hw _ (List.mem_of_getElem? (i := 6) rfl)) (by decide) (by decide)) (g := (mkF m 70 #[.val (.int p1), .val (.int (p1 &&& (3 : Int32))), .val (.int c1), .val (.int c2)] [(.ref b9), (.ref b8), (.ref b8)])) rfl (by rw [hml]; rfl) (Steps.refl _) (a := b8) (argsL := [(.ref b9)]) (rest := [(.ref b8)]) (lenOf own_pd7 rfl) rfl (by show 2 * 0 + _ ≤ _; exact Nat.le_of_eq rfl) (hb hby own_d1_70) (fun _ _ => ⟨rfl, e11, (by decide : 2 + 1 ≤ _), (by decide : 6 + 2 ≤ _)⟩)
        dsimp only [Pt.U, Pt.locs, Pt.cells, Pt.slots] at X12 l12 y12 z12 st12 hQ12
        subst l12 y12 z12
        obtain ⟨rfl, N12q, K12, A12, Fc12, d12, szq12, Fv12, V12⟩ := hQ12
        have ne_b8_d12 : b8 ≠ d12 := Nat.ne_of_lt (Nat.lt_of_lt_of_le (((A8.ext E9).wr W10).wr W11).lt szq12)
        have ne_b9_d12 : b9 ≠ d12 := Nat.ne_of_lt (Nat.lt_of_lt_of_le VC.lt szq12)
        have hCR12 := hCR11.trans (CHr.keep K12 (sfS Sf11_b8 sf0) hCR11.1)
        have Sf12_b8 := Safe.keep K12 (sfS Sf11_b8 sf0) hCR11.1 Sf11_b8
        have Kc12 : Keep h0 T12.heap [] := Kc11.trans K12 (allS (Or.inr sz_b8) all0)
        have sz_d12 : h0.size ≤ d12 := Nat.le_trans Kc11.1 szq12
        have N12 := Fr.app N11 N12q
        refine own_via (g' := T12.setTop (mkF m 73 #[.val (.int p1), .val (.int (p1 &&& (3 : Int32))), .val (.int c1), .val (.int c2)] [(.ref b8)])) (fun t k => st12.trans k) ?_
        have eE : T12.heap = T12.heap := rfl
        exact own_retAH X12 hS0 (by rw [(rfl : T12.heap = T12.heap)]; exact (Nat.le_trans (Nat.le_trans (Nat.le_trans (Nat.le_trans (Nat.le_trans hk0 E8.1) E9.1) (Keep.of_wr W10).1) (Keep.of_wr W11).1) K12.1)) hx hlk (rfl) Bd.returns rfl (hb hby own_d1_73) (hCR := (by rw [hh, (rfl : T12.heap = T12.heap)]; exact hCR12.trans (CHv.at X12 hZ (own_hEL hw) hCR12.1))) ⟨_, rfl, rfl, N12, (by rw [eE]; exact Kc12)⟩ (by decide) (by decide)
theorem own_pn4 : plainName "com/example/rosterwright/rosterwright/Destination$Faults" = true := by first | (simp [plainName, overriddenIn]; done) | decide +kernel
theorem own_d12_0 : decode prog_17_method_1_code 0 = .ok (.aload_n 0, 1) := by decide +kernel
theorem own_d12_1 : decode prog_17_method_1_code 1 = .ok (.invokespecial 1, 3) := by decide +kernel
theorem own_d12_4 : decode prog_17_method_1_code 4 = .ok (.return_, 1) := by decide +kernel
theorem ef_own_rm12 (m : MethodId) (a1 : Addr) : entryFrame m #[(.ref a1)] 1 = mkF m 0 #[.val (.ref a1)] [] := by first | (simp [entryFrame, mkF, argsToLocals, Value.category]; done) | rfl
def own_rm12_Q (Z : State) (a1 : Addr)  (h0 : Heap) (n0 : Nat) (v : Option Value) (h : Heap) (L : List Loc) : Prop := v = none ∧ Fr n0 L ∧ Keep h0 h [a1] ∧ Exa Z h a1 "com/example/rosterwright/rosterwright/Destination$Faults" ∧ Fld Z h a1 "com/example/rosterwright/rosterwright/Destination$Faults" "first" "Ljava/lang/String;" .null
set_option maxRecDepth 65536 in
set_option maxHeartbeats 40000000 in
theorem own_rm12 (l : Launch) (Z : State) (a0 : Array Value) (hw : ∀ d ∈ tables_1, d.before a0 Z = true) (ws : List Jvm.Cond) (a1 : Addr)  (h0 : Heap) (n0 : Nat) (Z0 : n0 ≤ h0.size) (E_a1 : Exa Z h0 a1 "com/example/rosterwright/rosterwright/Destination$Faults") (Fi_0 : Fld Z h0 a1 "com/example/rosterwright/rosterwright/Destination$Faults" "first" "Ljava/lang/String;" .null) (g_a1 : n0 ≤ a1) :
    MetFree l (⟨"com/example/rosterwright/rosterwright/Destination$Faults", "<init>", "()V"⟩ : MethodName) (head1 (Jvm.Cond.code (⟨"com/example/rosterwright/rosterwright/Destination$Faults", "<init>", "()V"⟩ : MethodName) prog_17_method_1_code 1 none :: ws) ({ frames := 1, cells := 0, slots := 0, locals := 12 } : Room)) (fun a U => a = #[(.ref a1)] ∧ Z.Warmed39 U.vm ∧ U.heap = h0) (fun _ _ _ _ _ => True) (fun _ U o U' => ∃ v L, o = .returned v ∧ own_rm12_Q Z a1  h0 n0 v U'.heap L ∧ FrameEnd U o U' L ({ frames := 1, cells := 0, slots := 0, locals := 12 } : Room).cells ({ frames := 1, cells := 0, slots := 0, locals := 12 } : Room).slots) := by
  refine MetFree.of_bodySF (plainFor_of_name own_pn4) hisR ?_
  intro p e s m args below meth c s₁ Bd hml0 hP hK
  obtain ⟨rfl, hZ, hh⟩ := hP
  have hx := Bd.exec
  have hby := Bd.bytes
  have hml : c.maxLocals = 1 := hml0
  have hown : s.vm.findClass "com/example/rosterwright/rosterwright/Destination$Faults" = some m.cls := findClass_of_methodNamed Bd.named
  have hnm := (name_of_methodNamed Bd.named Bd.method).1
  have hlk : meth.locks = false := BodyLoose.notSynchronized Bd
  have X0 : Stand p l e ({ frames := 1, cells := 0, slots := 0, locals := 12 } : Room) s m #[(.ref a1)] below meth c s₁ [] 0 0 := Stand.of_body Bd
  have e0 : s₁.heap = h0 := by rw [← hh, Bd.state]; rfl
  have N0 := Fr.nil n0
  have K0 : Keep h0 h0 [a1] := Keep.refl h0 [a1]
  show own_Fin p e below (own_P (own_rm12_Q Z a1  h0 n0) s ({ frames := 1, cells := 0, slots := 0, locals := 12 } : Room).cells ({ frames := 1, cells := 0, slots := 0, locals := 12 } : Room).slots) (s₁.setTop (entryFrame m #[(.ref a1)] 1))
  refine own_via (g' := s₁.setTop (mkF m 0 #[.val (.ref a1)] [])) (fun t k => castTop (ef_own_rm12 m a1) k) ?_
  refine own_via (g' := s₁.setTop (mkF m 1 #[.val (.ref a1)] [(.ref a1)])) (fun t k => XS.aloadN X0.here hx rfl (hb hby own_d12_0) rfl (rfl) k) ?_
  obtain ⟨T1, X1, e1, st1⟩ := initO X0 hx hZ hown (hw _ (List.mem_of_getElem? (i := 54) rfl)) (hw _ (List.mem_of_getElem? (i := 16) rfl)) (hw _ (List.mem_of_getElem? (i := 17) rfl)) e0 (g := (mkF m 1 #[.val (.ref a1)] [(.ref a1)])) rfl (by rw [hml]; rfl) rfl (hb hby own_d12_1) (by decide) (W := 0) (by show 2 * 0 + _ ≤ _; exact Nat.le_of_eq rfl) (by decide)
  refine own_via (g' := T1.setTop (mkF m 4 #[.val (.ref a1)] [])) (fun t k => st1 _ k) ?_
  have eE : T1.heap = h0 := e1
  exact own_retV X1 hx hlk Bd.returns (hb hby own_d12_4) ⟨rfl, N0, (by rw [eE]; exact K0), (by rw [eE]; exact E_a1), (by rw [eE]; exact Fi_0)⟩ (by decide) (by decide)
theorem own_d13_0 : decode prog_17_method_3_code 0 = .ok (.aload_n 0, 1) := by decide +kernel
theorem own_d13_1 : decode prog_17_method_3_code 1 = .ok (.getfield 12, 3) := by decide +kernel
theorem own_d13_4 : decode prog_17_method_3_code 4 = .ok (.areturn, 1) := by decide +kernel
theorem ef_own_firstN (m : MethodId) (a1 : Addr) : entryFrame m #[(.ref a1)] 1 = mkF m 0 #[.val (.ref a1)] [] := by first | (simp [entryFrame, mkF, argsToLocals, Value.category]; done) | rfl
def own_firstN_Q (Z : State) (a1 : Addr)  (h0 : Heap) (n0 : Nat) (v : Option Value) (h : Heap) (L : List Loc) : Prop := v = some .null ∧ Fr n0 L ∧ h = h0
set_option maxRecDepth 65536 in
set_option maxHeartbeats 40000000 in
theorem own_firstN (l : Launch) (Z : State) (a0 : Array Value) (hw : ∀ d ∈ tables_1, d.before a0 Z = true) (ws : List Jvm.Cond) (a1 : Addr)  (h0 : Heap) (n0 : Nat) (Z0 : n0 ≤ h0.size) (Fi_0 : Fld Z h0 a1 "com/example/rosterwright/rosterwright/Destination$Faults" "first" "Ljava/lang/String;" .null) :
    MetFree l (⟨"com/example/rosterwright/rosterwright/Destination$Faults", "first", "()Ljava/lang/String;"⟩ : MethodName) (head1 (Jvm.Cond.code (⟨"com/example/rosterwright/rosterwright/Destination$Faults", "first", "()Ljava/lang/String;"⟩ : MethodName) prog_17_method_3_code 1 (some (.object "java/lang/String")) :: ws) ({ frames := 0, cells := 0, slots := 0, locals := 0 } : Room)) (fun a U => a = #[(.ref a1)] ∧ Z.Warmed39 U.vm ∧ U.heap = h0) (fun _ _ _ _ _ => True) (fun _ U o U' => ∃ v L, o = .returned v ∧ own_firstN_Q Z a1  h0 n0 v U'.heap L ∧ FrameEnd U o U' L ({ frames := 0, cells := 0, slots := 0, locals := 0 } : Room).cells ({ frames := 0, cells := 0, slots := 0, locals := 0 } : Room).slots) := by
  refine MetFree.of_bodySF (plainFor_of_name own_pn4) hisR ?_
  intro p e s m args below meth c s₁ Bd hml0 hP hK
  obtain ⟨rfl, hZ, hh⟩ := hP
  have hx := Bd.exec
  have hby := Bd.bytes
  have hml : c.maxLocals = 1 := hml0
  have hown : s.vm.findClass "com/example/rosterwright/rosterwright/Destination$Faults" = some m.cls := findClass_of_methodNamed Bd.named
  have hnm := (name_of_methodNamed Bd.named Bd.method).1
  have hlk : meth.locks = false := BodyLoose.notSynchronized Bd
  have X0 : Stand p l e ({ frames := 0, cells := 0, slots := 0, locals := 0 } : Room) s m #[(.ref a1)] below meth c s₁ [] 0 0 := Stand.of_body Bd
  have e0 : s₁.heap = h0 := by rw [← hh, Bd.state]; rfl
  have N0 := Fr.nil n0
  have K0 : Keep h0 h0 [] := Keep.refl h0 []
  show own_Fin p e below (own_P (own_firstN_Q Z a1  h0 n0) s ({ frames := 0, cells := 0, slots := 0, locals := 0 } : Room).cells ({ frames := 0, cells := 0, slots := 0, locals := 0 } : Room).slots) (s₁.setTop (entryFrame m #[(.ref a1)] 1))
  refine own_via (g' := s₁.setTop (mkF m 0 #[.val (.ref a1)] [])) (fun t k => castTop (ef_own_firstN m a1) k) ?_
  refine own_via (g' := s₁.setTop (mkF m 1 #[.val (.ref a1)] [(.ref a1)])) (fun t k => XS.aloadN X0.here hx rfl (hb hby own_d13_0) rfl (rfl) k) ?_
  obtain ⟨T1, X1, e1, st1⟩ := getF X0 hx hZ hown (host := "") (Or.inl (hw _ (List.mem_of_getElem? (i := 60) rfl))) Via.refl e0 Fi_0 (g := (mkF m 1 #[.val (.ref a1)] [(.ref a1)])) rfl rfl (hb hby own_d13_1)
  refine own_via (g' := T1.setTop (mkF m 4 #[.val (.ref a1)] [.null])) (fun t k => st1 _ k) ?_
  exact own_retA X1 hx hlk (rfl) Bd.returns rfl (hb hby own_d13_4) ⟨rfl, N0, e1⟩ (by decide) (by decide)
theorem ef_own_firstV (m : MethodId) (a1 : Addr) : entryFrame m #[(.ref a1)] 1 = mkF m 0 #[.val (.ref a1)] [] := by first | (simp [entryFrame, mkF, argsToLocals, Value.category]; done) | rfl
def own_firstV_Q (Z : State) (a1 : Addr) (w1 : Value) (h0 : Heap) (n0 : Nat) (v : Option Value) (h : Heap) (L : List Loc) : Prop := v = some w1 ∧ Fr n0 L ∧ h = h0
set_option maxRecDepth 65536 in
set_option maxHeartbeats 40000000 in
theorem own_firstV (l : Launch) (Z : State) (a0 : Array Value) (hw : ∀ d ∈ tables_1, d.before a0 Z = true) (ws : List Jvm.Cond) (a1 : Addr) (w1 : Value) (h0 : Heap) (n0 : Nat) (Z0 : n0 ≤ h0.size) (Fi : Fld Z h0 a1 "com/example/rosterwright/rosterwright/Destination$Faults" "first" "Ljava/lang/String;" w1) (hw1 : w1.isRef = true) :
    MetFree l (⟨"com/example/rosterwright/rosterwright/Destination$Faults", "first", "()Ljava/lang/String;"⟩ : MethodName) (head1 (Jvm.Cond.code (⟨"com/example/rosterwright/rosterwright/Destination$Faults", "first", "()Ljava/lang/String;"⟩ : MethodName) prog_17_method_3_code 1 (some (.object "java/lang/String")) :: ws) ({ frames := 0, cells := 0, slots := 0, locals := 0 } : Room)) (fun a U => a = #[(.ref a1)] ∧ Z.Warmed39 U.vm ∧ U.heap = h0) (fun _ _ _ _ _ => True) (fun _ U o U' => ∃ v L, o = .returned v ∧ own_firstV_Q Z a1 w1 h0 n0 v U'.heap L ∧ FrameEnd U o U' L ({ frames := 0, cells := 0, slots := 0, locals := 0 } : Room).cells ({ frames := 0, cells := 0, slots := 0, locals := 0 } : Room).slots) := by
  refine MetFree.of_bodySF (plainFor_of_name own_pn4) hisR ?_
  intro p e s m args below meth c s₁ Bd hml0 hP hK
  obtain ⟨rfl, hZ, hh⟩ := hP
  have hx := Bd.exec
  have hby := Bd.bytes
  have hml : c.maxLocals = 1 := hml0
  have hown : s.vm.findClass "com/example/rosterwright/rosterwright/Destination$Faults" = some m.cls := findClass_of_methodNamed Bd.named
  have hnm := (name_of_methodNamed Bd.named Bd.method).1
  have hlk : meth.locks = false := BodyLoose.notSynchronized Bd
  have X0 : Stand p l e ({ frames := 0, cells := 0, slots := 0, locals := 0 } : Room) s m #[(.ref a1)] below meth c s₁ [] 0 0 := Stand.of_body Bd
  have e0 : s₁.heap = h0 := by rw [← hh, Bd.state]; rfl
  have N0 := Fr.nil n0
  have K0 : Keep h0 h0 [] := Keep.refl h0 []
  show own_Fin p e below (own_P (own_firstV_Q Z a1 w1 h0 n0) s ({ frames := 0, cells := 0, slots := 0, locals := 0 } : Room).cells ({ frames := 0, cells := 0, slots := 0, locals := 0 } : Room).slots) (s₁.setTop (entryFrame m #[(.ref a1)] 1))
  refine own_via (g' := s₁.setTop (mkF m 0 #[.val (.ref a1)] [])) (fun t k => castTop (ef_own_firstV m a1) k) ?_
  refine own_via (g' := s₁.setTop (mkF m 1 #[.val (.ref a1)] [(.ref a1)])) (fun t k => XS.aloadN X0.here hx rfl (hb hby own_d13_0) rfl (rfl) k) ?_
  obtain ⟨T1, X1, e1, st1⟩ := getF X0 hx hZ hown (host := "") (Or.inl (hw _ (List.mem_of_getElem? (i := 60) rfl))) Via.refl e0 Fi (g := (mkF m 1 #[.val (.ref a1)] [(.ref a1)])) rfl rfl (hb hby own_d13_1)
  refine own_via (g' := T1.setTop (mkF m 4 #[.val (.ref a1)] [w1])) (fun t k => st1 _ k) ?_
  exact own_retA X1 hx hlk (hw1) Bd.returns rfl (hb hby own_d13_4) ⟨rfl, N0, e1⟩ (by decide) (by decide)
theorem own_d14_0 : decode prog_17_method_4_code 0 = .ok (.aload_n 0, 1) := by decide +kernel
theorem own_d14_1 : decode prog_17_method_4_code 1 = .ok (.getfield 12, 3) := by decide +kernel
theorem own_d14_4 : decode prog_17_method_4_code 4 = .ok (.ifnonnull 8, 3) := by decide +kernel
theorem own_d14_7 : decode prog_17_method_4_code 7 = .ok (.aload_n 0, 1) := by decide +kernel
theorem own_d14_8 : decode prog_17_method_4_code 8 = .ok (.aload_n 1, 1) := by decide +kernel
theorem own_d14_9 : decode prog_17_method_4_code 9 = .ok (.putfield 12, 3) := by decide +kernel
theorem own_d14_12 : decode prog_17_method_4_code 12 = .ok (.return_, 1) := by decide +kernel
theorem ef_own_noteN (m : MethodId) (a1 : Addr) (w2 : Value) (h_w2 : w2.isRef = true) : entryFrame m #[(.ref a1), w2] 2 = mkF m 0 #[.val (.ref a1), .val w2] [] := by cases w2 <;> first | (simp [entryFrame, mkF, argsToLocals, Value.category]; done) | rfl | (cases h_w2)
def own_noteN_Q (Z : State) (a1 : Addr) (w2 : Value)  (h0 : Heap) (n0 : Nat) (v : Option Value) (h : Heap) (L : List Loc) : Prop := v = none ∧ Fr n0 L ∧ Keep h0 h [a1] ∧ Exa Z h a1 "com/example/rosterwright/rosterwright/Destination$Faults" ∧ Fld Z h a1 "com/example/rosterwright/rosterwright/Destination$Faults" "first" "Ljava/lang/String;" w2
set_option maxRecDepth 65536 in
set_option maxHeartbeats 40000000 in
theorem own_noteN (l : Launch) (Z : State) (a0 : Array Value) (hw : ∀ d ∈ tables_1, d.before a0 Z = true) (ws : List Jvm.Cond) (a1 : Addr) (w2 : Value)  (h0 : Heap) (n0 : Nat) (Z0 : n0 ≤ h0.size) (E_a1 : Exa Z h0 a1 "com/example/rosterwright/rosterwright/Destination$Faults") (Fi : Fld Z h0 a1 "com/example/rosterwright/rosterwright/Destination$Faults" "first" "Ljava/lang/String;" .null) (g_a1 : n0 ≤ a1) (hw2 : w2.isRef = true) :
    MetFree l (⟨"com/example/rosterwright/rosterwright/Destination$Faults", "note", "(Ljava/lang/String;)V"⟩ : MethodName) (head1 (Jvm.Cond.code (⟨"com/example/rosterwright/rosterwright/Destination$Faults", "note", "(Ljava/lang/String;)V"⟩ : MethodName) prog_17_method_4_code 2 none :: ws) ({ frames := 0, cells := 0, slots := 0, locals := 0 } : Room)) (fun a U => a = #[(.ref a1), w2] ∧ Z.Warmed39 U.vm ∧ U.heap = h0) (fun _ _ _ _ _ => True) (fun _ U o U' => ∃ v L, o = .returned v ∧ own_noteN_Q Z a1 w2  h0 n0 v U'.heap L ∧ FrameEnd U o U' L ({ frames := 0, cells := 0, slots := 0, locals := 0 } : Room).cells ({ frames := 0, cells := 0, slots := 0, locals := 0 } : Room).slots) := by
  refine MetFree.of_bodySF (plainFor_of_name own_pn4) hisR ?_
  intro p e s m args below meth c s₁ Bd hml0 hP hK
  obtain ⟨rfl, hZ, hh⟩ := hP
  have hx := Bd.exec
  have hby := Bd.bytes
  have hml : c.maxLocals = 2 := hml0
  have hown : s.vm.findClass "com/example/rosterwright/rosterwright/Destination$Faults" = some m.cls := findClass_of_methodNamed Bd.named
  have hnm := (name_of_methodNamed Bd.named Bd.method).1
  have hlk : meth.locks = false := BodyLoose.notSynchronized Bd
  have X0 : Stand p l e ({ frames := 0, cells := 0, slots := 0, locals := 0 } : Room) s m #[(.ref a1), w2] below meth c s₁ [] 0 0 := Stand.of_body Bd
  have e0 : s₁.heap = h0 := by rw [← hh, Bd.state]; rfl
  have N0 := Fr.nil n0
  have K0 : Keep h0 h0 [a1] := Keep.refl h0 [a1]
  show own_Fin p e below (own_P (own_noteN_Q Z a1 w2  h0 n0) s ({ frames := 0, cells := 0, slots := 0, locals := 0 } : Room).cells ({ frames := 0, cells := 0, slots := 0, locals := 0 } : Room).slots) (s₁.setTop (entryFrame m #[(.ref a1), w2] 2))
  refine own_via (g' := s₁.setTop (mkF m 0 #[.val (.ref a1), .val w2] [])) (fun t k => castTop (ef_own_noteN m a1 w2 (hw2)) k) ?_
  refine own_via (g' := s₁.setTop (mkF m 1 #[.val (.ref a1), .val w2] [(.ref a1)])) (fun t k => XS.aloadN X0.here hx rfl (hb hby own_d14_0) rfl (rfl) k) ?_
  obtain ⟨T1, X1, e1, st1⟩ := getF X0 hx hZ hown (host := "") (Or.inl (hw _ (List.mem_of_getElem? (i := 60) rfl))) Via.refl e0 Fi (g := (mkF m 1 #[.val (.ref a1), .val w2] [(.ref a1)])) rfl rfl (hb hby own_d14_1)
  refine own_via (g' := T1.setTop (mkF m 4 #[.val (.ref a1), .val w2] [.null])) (fun t k => st1 _ k) ?_
  refine own_via (g' := T1.setTop (mkF m 7 #[.val (.ref a1), .val w2] [])) (fun t k => XT.ifnonnullNo X1.here hx rfl (hb hby own_d14_4) rfl k) ?_
  refine own_via (g' := T1.setTop (mkF m 8 #[.val (.ref a1), .val w2] [(.ref a1)])) (fun t k => XS.aloadN X1.here hx rfl (hb hby own_d14_7) rfl (rfl) k) ?_
  refine own_via (g' := T1.setTop (mkF m 9 #[.val (.ref a1), .val w2] [w2, (.ref a1)])) (fun t k => XS.aloadN X1.here hx rfl (hb hby own_d14_8) rfl (hw2) k) ?_
  obtain ⟨T2, h2, X2, e2, W2, st2⟩ := putF X1 hx hZ hown (host := "") (Or.inl (hw _ (List.mem_of_getElem? (i := 60) rfl))) Via.refl e1 Fi E_a1 (Or.inl (hw _ (List.mem_of_getElem? (i := 61) rfl))) (hw _ (List.mem_of_getElem? (i := 49) rfl)) (ty := (.object "java/lang/String")) (by decide) (own_nref (hw2)) (own_fitR (hw2)) (g := (mkF m 9 #[.val (.ref a1), .val w2] [w2, (.ref a1)])) rfl rfl (hb hby own_d14_9)
  have F2 : Fld Z h2 a1 "com/example/rosterwright/rosterwright/Destination$Faults" "first" "Ljava/lang/String;" w2 := Fi.same W2
  have Kc2 : Keep h0 h2 [a1] := K0.wr W2 (Or.inl (List.mem_of_getElem? (i := 0) rfl))
  have N2 := Fr.snoc X2 N0 g_a1
  refine own_via (g' := T2.setTop (mkF m 12 #[.val (.ref a1), .val w2] [])) (fun t k => st2 _ k) ?_
  have eE : T2.heap = h2 := e2
  exact own_retV X2 hx hlk Bd.returns (hb hby own_d14_12) ⟨rfl, N2, (by rw [eE]; exact Kc2), (by rw [eE]; exact (E_a1.wr W2)), (by rw [eE]; exact F2)⟩ (by decide) (by decide)
theorem ef_own_noteV (m : MethodId) (a1 : Addr) (w2 : Value) (h_w2 : w2.isRef = true) : entryFrame m #[(.ref a1), w2] 2 = mkF m 0 #[.val (.ref a1), .val w2] [] := by cases w2 <;> first | (simp [entryFrame, mkF, argsToLocals, Value.category]; done) | rfl | (cases h_w2)
def own_noteV_Q (Z : State) (a1 : Addr) (w2 : Value) (w1 : Value) (h0 : Heap) (n0 : Nat) (v : Option Value) (h : Heap) (L : List Loc) : Prop := v = none ∧ Fr n0 L ∧ Keep h0 h [a1] ∧ Exa Z h a1 "com/example/rosterwright/rosterwright/Destination$Faults" ∧ Fld Z h a1 "com/example/rosterwright/rosterwright/Destination$Faults" "first" "Ljava/lang/String;" (own_or w1 w2)
set_option maxRecDepth 65536 in
set_option maxHeartbeats 40000000 in
theorem own_noteV (l : Launch) (Z : State) (a0 : Array Value) (hw : ∀ d ∈ tables_1, d.before a0 Z = true) (ws : List Jvm.Cond) (a1 : Addr) (w2 : Value) (w1 : Value) (h0 : Heap) (n0 : Nat) (Z0 : n0 ≤ h0.size) (E_a1 : Exa Z h0 a1 "com/example/rosterwright/rosterwright/Destination$Faults") (Fi : Fld Z h0 a1 "com/example/rosterwright/rosterwright/Destination$Faults" "first" "Ljava/lang/String;" w1) (g_a1 : n0 ≤ a1) (hw2 : w2.isRef = true) (hw1 : w1.isRef = true) :
    MetFree l (⟨"com/example/rosterwright/rosterwright/Destination$Faults", "note", "(Ljava/lang/String;)V"⟩ : MethodName) (head1 (Jvm.Cond.code (⟨"com/example/rosterwright/rosterwright/Destination$Faults", "note", "(Ljava/lang/String;)V"⟩ : MethodName) prog_17_method_4_code 2 none :: ws) ({ frames := 0, cells := 0, slots := 0, locals := 0 } : Room)) (fun a U => a = #[(.ref a1), w2] ∧ Z.Warmed39 U.vm ∧ U.heap = h0) (fun _ _ _ _ _ => True) (fun _ U o U' => ∃ v L, o = .returned v ∧ own_noteV_Q Z a1 w2 w1 h0 n0 v U'.heap L ∧ FrameEnd U o U' L ({ frames := 0, cells := 0, slots := 0, locals := 0 } : Room).cells ({ frames := 0, cells := 0, slots := 0, locals := 0 } : Room).slots) := by
  refine MetFree.of_bodySF (plainFor_of_name own_pn4) hisR ?_
  intro p e s m args below meth c s₁ Bd hml0 hP hK
  obtain ⟨rfl, hZ, hh⟩ := hP
  have hx := Bd.exec
  have hby := Bd.bytes
  have hml : c.maxLocals = 2 := hml0
  have hown : s.vm.findClass "com/example/rosterwright/rosterwright/Destination$Faults" = some m.cls := findClass_of_methodNamed Bd.named
  have hnm := (name_of_methodNamed Bd.named Bd.method).1
  have hlk : meth.locks = false := BodyLoose.notSynchronized Bd
  have X0 : Stand p l e ({ frames := 0, cells := 0, slots := 0, locals := 0 } : Room) s m #[(.ref a1), w2] below meth c s₁ [] 0 0 := Stand.of_body Bd
  have e0 : s₁.heap = h0 := by rw [← hh, Bd.state]; rfl
  have N0 := Fr.nil n0
  have K0 : Keep h0 h0 [a1] := Keep.refl h0 [a1]
  show own_Fin p e below (own_P (own_noteV_Q Z a1 w2 w1 h0 n0) s ({ frames := 0, cells := 0, slots := 0, locals := 0 } : Room).cells ({ frames := 0, cells := 0, slots := 0, locals := 0 } : Room).slots) (s₁.setTop (entryFrame m #[(.ref a1), w2] 2))
  refine own_via (g' := s₁.setTop (mkF m 0 #[.val (.ref a1), .val w2] [])) (fun t k => castTop (ef_own_noteV m a1 w2 (hw2)) k) ?_
  refine own_via (g' := s₁.setTop (mkF m 1 #[.val (.ref a1), .val w2] [(.ref a1)])) (fun t k => XS.aloadN X0.here hx rfl (hb hby own_d14_0) rfl (rfl) k) ?_
  obtain ⟨T1, X1, e1, st1⟩ := getF X0 hx hZ hown (host := "") (Or.inl (hw _ (List.mem_of_getElem? (i := 60) rfl))) Via.refl e0 Fi (g := (mkF m 1 #[.val (.ref a1), .val w2] [(.ref a1)])) rfl rfl (hb hby own_d14_1)
  refine own_via (g' := T1.setTop (mkF m 4 #[.val (.ref a1), .val w2] [w1])) (fun t k => st1 _ k) ?_
  by_cases hc4_2 : w1 = Value.null
  · refine own_via (g' := T1.setTop (mkF m 7 #[.val (.ref a1), .val w2] [])) (fun t k => XT.nonnullNo X1.here hx rfl (hb hby own_d14_4) rfl hc4_2 k) ?_
    refine own_via (g' := T1.setTop (mkF m 8 #[.val (.ref a1), .val w2] [(.ref a1)])) (fun t k => XS.aloadN X1.here hx rfl (hb hby own_d14_7) rfl (rfl) k) ?_
    refine own_via (g' := T1.setTop (mkF m 9 #[.val (.ref a1), .val w2] [w2, (.ref a1)])) (fun t k => XS.aloadN X1.here hx rfl (hb hby own_d14_8) rfl (hw2) k) ?_
    obtain ⟨T3, h3, X3, e3, W3, st3⟩ := putF X1 hx hZ hown (host := "") (Or.inl (hw _ (List.mem_of_getElem? (i := 60) rfl))) Via.refl e1 Fi E_a1 (Or.inl (hw _ (List.mem_of_getElem? (i := 61) rfl))) (hw _ (List.mem_of_getElem? (i := 49) rfl)) (ty := (.object "java/lang/String")) (by decide) (own_nref (hw2)) (own_fitR (hw2)) (g := (mkF m 9 #[.val (.ref a1), .val w2] [w2, (.ref a1)])) rfl rfl (hb hby own_d14_9)
    have F3 : Fld Z h3 a1 "com/example/rosterwright/rosterwright/Destination$Faults" "first" "Ljava/lang/String;" w2 := Fi.same W3
    have Kc3 : Keep h0 h3 [a1] := K0.wr W3 (Or.inl (List.mem_of_getElem? (i := 0) rfl))
    have N3 := Fr.snoc X3 N0 g_a1
    refine own_via (g' := T3.setTop (mkF m 12 #[.val (.ref a1), .val w2] [])) (fun t k => st3 _ k) ?_
    have eE : T3.heap = h3 := e3
    exact own_retV X3 hx hlk Bd.returns (hb hby own_d14_12) ⟨rfl, N3, (by rw [eE]; exact Kc3), (by rw [eE]; exact (E_a1.wr W3)), (by rw [eE, own_or, if_pos hc4_2]; exact F3)⟩ (by decide) (by decide)
  · refine own_via (g' := T1.setTop (mkF m 12 #[.val (.ref a1), .val w2] [])) (fun t k => XT.nonnullYes X1.here hx rfl (pc0 := 4) (pc' := 12) rfl (hb hby own_d14_4) rfl (hw1) hc4_2 (by decide) (by decide) k) ?_
    have eE : T1.heap = h0 := e1
    exact own_retV X1 hx hlk Bd.returns (hb hby own_d14_12) ⟨rfl, N0, (by rw [eE]; exact K0), (by rw [eE]; exact E_a1), (by rw [eE, own_or, if_neg hc4_2]; exact Fi)⟩ (by decide) (by decide)
theorem own_pd9 : parseMethodDescriptor "(I)Ljava/lang/String;" = some ⟨[.int], some (.object "java/lang/String")⟩ := by decide +kernel
theorem own_pd10 : parseMethodDescriptor "()V" = some ⟨[], none⟩ := by decide +kernel
theorem own_pd11 : parseMethodDescriptor "()Ljava/lang/String;" = some ⟨[], some (.object "java/lang/String")⟩ := by decide +kernel
theorem own_pd12 : parseMethodDescriptor "(Ljava/lang/String;)V" = some ⟨[(.object "java/lang/String")], none⟩ := by decide +kernel
theorem ef_own_rm0 (m : MethodId) (i0 : Int32) (i1 : Int32) (i2 : Int32) : entryFrame m #[(.int i0), (.int i1), (.int i2)] maxLocals = mkF m 0 #[.val (.int i0), .val (.int i1), .val (.int i2), .unset, .unset, .unset, .unset, .unset, .unset, .unset, .unset] [] := by first | (simp [entryFrame, mkF, argsToLocals, Value.category, maxLocals]; done) | rfl
def own_rm0_Q (Z : State) (i0 : Int32) (i1 : Int32) (i2 : Int32) (cs : Int32) (h0 : Heap) (n0 : Nat) (v : Option Value) (h : Heap) (L : List Loc) : Prop := v = some (.int 1) ∧ Fr n0 L
set_option maxRecDepth 65536 in
set_option maxHeartbeats 40000000 in
theorem own_rm0 (l : Launch) (Z : State) (a0 : Array Value) (hw : ∀ d ∈ tables_1, d.before a0 Z = true) (ws : List Jvm.Cond) (i0 : Int32) (i1 : Int32) (i2 : Int32) (cs : Int32) (h0 : Heap) (n0 : Nat) (Z0 : n0 ≤ h0.size) (CS : Sta Z h0 "java/lang/String" "COMPACT_STRINGS" "Z" (.int cs)) (hcs : ¬ cs = 0) :
    MetFree l x (head1 (Jvm.Cond.code x code maxLocals ret :: ws) room_1) (fun a U => a = #[(.int i0), (.int i1), (.int i2)] ∧ Z.Warmed39 U.vm ∧ U.heap = h0 ∧ CHv Z own_EL U.vm h0 ∧ ∀ x ∈ ([] : List Addr), Safe Z own_EL U.vm h0 x) (fun _ _ _ _ _ => True) (fun _ U o U' => ∃ v L, o = .returned v ∧ own_rm0_Q Z i0 i1 i2 cs h0 n0 v U'.heap L ∧ CHr Z own_EL U.vm U.heap U'.vm U'.heap ∧ ReturnedEndW U o U' L room_1.cells room_1.slots) := by
  refine MetFree.of_bodySF (plainFor_of_name own_pn3) hisR ?_
  intro p e s m args below meth c s₁ Bd hml0 hP hK
  obtain ⟨rfl, hZ, hh, hCH0, hSf0⟩ := hP
  have hx := Bd.exec
  have hby := Bd.bytes
  have hml : c.maxLocals = 11 := hml0
  have hown : s.vm.findClass "com/example/rosterwright/rosterwright/FaultsNotePinLaw" = some m.cls := findClass_of_methodNamed Bd.named
  have hnm := (name_of_methodNamed Bd.named Bd.method).1
  have hlk : meth.locks = false := BodyLoose.notSynchronized Bd
  have X0 : Stand p l e room_1 (s.setVm s.vm) m #[(.int i0), (.int i1), (.int i2)] below meth c s₁ [] 0 0 := Stand.of_body Bd
  have e0 : s₁.heap = h0 := by rw [← hh, Bd.state]; rfl
  have N0 := Fr.nil n0
  have K0 : Keep h0 h0 [] := Keep.refl h0 []
  show own_Fin p e below (own_PH Z (own_rm0_Q Z i0 i1 i2 cs h0 n0) s room_1.cells room_1.slots) (s₁.setTop (entryFrame m #[(.int i0), (.int i1), (.int i2)] maxLocals))
  have hCR0 : CHr Z own_EL (s.setVm s.vm).vm h0 s.vm h0 := CHr.refl hCH0
  have hS0 : s.Since s.vm 0 := (State.WarmedH.refl s).since 0
  have hk0 : 0 ≤ h0.size := Nat.zero_le _
  have hZ : Z.Warmed39 (s.setVm s.vm).vm := hZ
  have hown : (s.setVm s.vm).vm.findClass "com/example/rosterwright/rosterwright/FaultsNotePinLaw" = some m.cls := hown
  refine own_via (g' := s₁.setTop (mkF m 0 #[.val (.int i0), .val (.int i1), .val (.int i2), .unset, .unset, .unset, .unset, .unset, .unset, .unset, .unset] [])) (fun t k => castTop (ef_own_rm0 m i0 i1 i2) k) ?_
  refine own_via (g' := s₁.setTop (mkF m 1 #[.val (.int i0), .val (.int i1), .val (.int i2), .unset, .unset, .unset, .unset, .unset, .unset, .unset, .unset] [(.int i0)])) (fun t k => XS.iloadN X0.here hx rfl (hb hby at_0) rfl k) ?_
  obtain ⟨v1, _, ⟨T1, L1, k1, n1⟩, -, X1, sS1, gS1, ⟨Lc1, hQ1, l1, y1, z1, cr1⟩, st1⟩ := callSS X0 hx (y := (⟨"com/example/rosterwright/rosterwright/FaultsNotePinLaw", "mk", "(I)Ljava/lang/String;"⟩ : MethodName)) hown (mvT hZ (hw _ (List.mem_of_getElem? (i := 0) rfl))) (mvT hZ (hw _ (List.mem_of_getElem? (i := 1) rfl))) (mvT hZ (hw _ (List.mem_of_getElem? (i := 2) rfl))) (mvT hZ (hw _ (List.mem_of_getElem? (i := 3) rfl))) (by decide) (own_backH (W := 0) (own_rm1 l Z a0 hw [] i0 cs h0 n0 (Nat.le_trans Z0 K0.1) CS hcs) hZ (hw _ (List.mem_of_getElem? (i := 3) rfl)) (hw _ (List.mem_of_getElem? (i := 2) rfl)) (by decide) (by decide) (own_hEL hw) hCR0.1 all0) (g := (mkF m 1 #[.val (.int i0), .val (.int i1), .val (.int i2), .unset, .unset, .unset, .unset, .unset, .unset, .unset, .unset] [(.int i0)])) rfl (by rw [hml]; rfl) (argsL := [(.int i0)]) (rest := []) (lenOf own_pd9 rfl) rfl (by show 2 * 0 + _ ≤ _; exact Nat.le_of_eq rfl) (hb hby at_1) (fun _ _ => ⟨rfl, e0, (by decide : 0 + 6 ≤ _), (by decide : 0 + 12 ≤ _)⟩)
  dsimp only [Pt.U, Pt.locs, Pt.cells, Pt.slots] at X1 l1 y1 z1 st1 hQ1 sS1 gS1 cr1
  subst l1 y1 z1
  obtain ⟨X1, hS1, hZ, hown⟩ := rebS hS0 (by rw [(e0 : s₁.heap = h0)]; exact hk0) X1 sS1 gS1 hZ hown
  have hCR1 := hCR0.trans cr1
  obtain ⟨w1, rfl, rf1, N1q, K1⟩ := hQ1
  have Kc1 : Keep h0 T1.heap [] := K0.trans K1 all0
  have N1 := Fr.app N0 N1q
  refine own_via (g' := T1.setTop (mkF m 4 #[.val (.int i0), .val (.int i1), .val (.int i2), .unset, .unset, .unset, .unset, .unset, .unset, .unset, .unset] [w1])) (fun t k => st1.trans k) ?_
  refine own_via (g' := T1.setTop (mkF m 5 #[.val (.int i0), .val (.int i1), .val (.int i2), .val w1, .unset, .unset, .unset, .unset, .unset, .unset, .unset] [])) (fun t k => XT.astoreNS X1.here hx rfl (hb hby at_4) rfl (rf1) (XT.cat1 (rf1)) rfl (Or.inl rfl) k) ?_
  refine own_via (g' := T1.setTop (mkF m 6 #[.val (.int i0), .val (.int i1), .val (.int i2), .val w1, .unset, .unset, .unset, .unset, .unset, .unset, .unset] [(.int i1)])) (fun t k => XS.iloadN X1.here hx rfl (hb hby at_5) rfl k) ?_
  obtain ⟨v2, _, ⟨T2, L2, k2, n2⟩, -, X2, sS2, gS2, ⟨Lc2, hQ2, l2, y2, z2, cr2⟩, st2⟩ := callSS X1 hx (y := (⟨"com/example/rosterwright/rosterwright/FaultsNotePinLaw", "mk", "(I)Ljava/lang/String;"⟩ : MethodName)) hown (mvT hZ (hw _ (List.mem_of_getElem? (i := 0) rfl))) (mvT hZ (hw _ (List.mem_of_getElem? (i := 1) rfl))) (mvT hZ (hw _ (List.mem_of_getElem? (i := 2) rfl))) (mvT hZ (hw _ (List.mem_of_getElem? (i := 3) rfl))) (by decide) (own_backH (W := 0) (own_rm1 l Z a0 hw [] i1 cs T1.heap n0 (Nat.le_trans Z0 Kc1.1) (own_sta_keep CS Kc1 (fun _ _ _ _ => nin0)) hcs) hZ (hw _ (List.mem_of_getElem? (i := 3) rfl)) (hw _ (List.mem_of_getElem? (i := 2) rfl)) (by decide) (by decide) (own_hEL hw) hCR1.1 all0) (g := (mkF m 6 #[.val (.int i0), .val (.int i1), .val (.int i2), .val w1, .unset, .unset, .unset, .unset, .unset, .unset, .unset] [(.int i1)])) rfl (by rw [hml]; rfl) (argsL := [(.int i1)]) (rest := []) (lenOf own_pd9 rfl) rfl (by show 2 * 0 + _ ≤ _; exact Nat.le_of_eq rfl) (hb hby at_6) (fun _ _ => ⟨rfl, rfl, (by decide : 6 + 6 ≤ _), (by decide : 12 + 12 ≤ _)⟩)
  dsimp only [Pt.U, Pt.locs, Pt.cells, Pt.slots] at X2 l2 y2 z2 st2 hQ2 sS2 gS2 cr2
  subst l2 y2 z2
  obtain ⟨X2, hS2, hZ, hown⟩ := rebS hS1 (by rw [(rfl : T1.heap = T1.heap)]; exact (Nat.le_of_eq (congrArg Array.size (rfl : T1.heap = T1.heap)))) X2 sS2 gS2 hZ hown
  have hCR2 := hCR1.trans cr2
  obtain ⟨w2, rfl, rf2, N2q, K2⟩ := hQ2
  have Kc2 : Keep h0 T2.heap [] := Kc1.trans K2 all0
  have N2 := Fr.app N1 N2q
  refine own_via (g' := T2.setTop (mkF m 9 #[.val (.int i0), .val (.int i1), .val (.int i2), .val w1, .unset, .unset, .unset, .unset, .unset, .unset, .unset] [w2])) (fun t k => st2.trans k) ?_
  refine own_via (g' := T2.setTop (mkF m 11 #[.val (.int i0), .val (.int i1), .val (.int i2), .val w1, .val w2, .unset, .unset, .unset, .unset, .unset, .unset] [])) (fun t k => XS.astoreS X2.here hx rfl (hb hby at_9) rfl (rf2) (XT.cat1 (rf2)) rfl (Or.inl rfl) k) ?_
  refine own_via (g' := T2.setTop (mkF m 12 #[.val (.int i0), .val (.int i1), .val (.int i2), .val w1, .val w2, .unset, .unset, .unset, .unset, .unset, .unset] [(.int i2)])) (fun t k => XS.iloadN X2.here hx rfl (hb hby at_11) rfl k) ?_
  obtain ⟨v3, _, ⟨T3, L3, k3, n3⟩, -, X3, sS3, gS3, ⟨Lc3, hQ3, l3, y3, z3, cr3⟩, st3⟩ := callSS X2 hx (y := (⟨"com/example/rosterwright/rosterwright/FaultsNotePinLaw", "mk", "(I)Ljava/lang/String;"⟩ : MethodName)) hown (mvT hZ (hw _ (List.mem_of_getElem? (i := 0) rfl))) (mvT hZ (hw _ (List.mem_of_getElem? (i := 1) rfl))) (mvT hZ (hw _ (List.mem_of_getElem? (i := 2) rfl))) (mvT hZ (hw _ (List.mem_of_getElem? (i := 3) rfl))) (by decide) (own_backH (W := 0) (own_rm1 l Z a0 hw [] i2 cs T2.heap n0 (Nat.le_trans Z0 Kc2.1) (own_sta_keep CS Kc2 (fun _ _ _ _ => nin0)) hcs) hZ (hw _ (List.mem_of_getElem? (i := 3) rfl)) (hw _ (List.mem_of_getElem? (i := 2) rfl)) (by decide) (by decide) (own_hEL hw) hCR2.1 all0) (g := (mkF m 12 #[.val (.int i0), .val (.int i1), .val (.int i2), .val w1, .val w2, .unset, .unset, .unset, .unset, .unset, .unset] [(.int i2)])) rfl (by rw [hml]; rfl) (argsL := [(.int i2)]) (rest := []) (lenOf own_pd9 rfl) rfl (by show 2 * 0 + _ ≤ _; exact Nat.le_of_eq rfl) (hb hby at_12) (fun _ _ => ⟨rfl, rfl, (by decide : 12 + 6 ≤ _), (by decide : 24 + 12 ≤ _)⟩)
  dsimp only [Pt.U, Pt.locs, Pt.cells, Pt.slots] at X3 l3 y3 z3 st3 hQ3 sS3 gS3 cr3
  subst l3 y3 z3
  obtain ⟨X3, hS3, hZ, hown⟩ := rebS hS2 (by rw [(rfl : T2.heap = T2.heap)]; exact (Nat.le_of_eq (congrArg Array.size (rfl : T2.heap = T2.heap)))) X3 sS3 gS3 hZ hown
  have hCR3 := hCR2.trans cr3
  obtain ⟨w3, rfl, rf3, N3q, K3⟩ := hQ3
  have Kc3 : Keep h0 T3.heap [] := Kc2.trans K3 all0
  have N3 := Fr.app N2 N3q
  refine own_via (g' := T3.setTop (mkF m 15 #[.val (.int i0), .val (.int i1), .val (.int i2), .val w1, .val w2, .unset, .unset, .unset, .unset, .unset, .unset] [w3])) (fun t k => st3.trans k) ?_
  refine own_via (g' := T3.setTop (mkF m 17 #[.val (.int i0), .val (.int i1), .val (.int i2), .val w1, .val w2, .val w3, .unset, .unset, .unset, .unset, .unset] [])) (fun t k => XS.astoreS X3.here hx rfl (hb hby at_15) rfl (rf3) (XT.cat1 (rf3)) rfl (Or.inl rfl) k) ?_
  obtain ⟨T4, h4, X4, e4, E4, A4, D4, -, st4⟩ := newO X3 hx hZ hown (hw _ (List.mem_of_getElem? (i := 48) rfl)) (hw _ (List.mem_of_getElem? (i := 49) rfl)) (hw _ (List.mem_of_getElem? (i := 50) rfl)) rfl (g := (mkF m 17 #[.val (.int i0), .val (.int i1), .val (.int i2), .val w1, .val w2, .val w3, .unset, .unset, .unset, .unset, .unset] [])) rfl (hb hby at_17) (by decide) (by decide)
  obtain ⟨b4, g4⟩ : ∃ z, z = T3.heap.size := ⟨_, rfl⟩
  rw [← g4] at A4 D4 st4
  have sz_b4 : h0.size ≤ b4 := Nat.le_trans Kc3.1 (Nat.le_of_eq g4.symm)
  have g_b4 : n0 ≤ b4 := Nat.le_trans Z0 sz_b4
  have hCR4 := hCR3.trans (CHr.ext E4 hCR3.1)
  have Kc4 : Keep h0 h4 [] := Kc3.ext E4
  have F4_61 : Fld Z h4 b4 "com/example/rosterwright/rosterwright/Destination$Faults" "first" "Ljava/lang/String;" .null := D4 (Or.inl (hw _ (List.mem_of_getElem? (i := 61) rfl))) (ty := (.object "java/lang/String")) (by decide)
  refine own_via (g' := T4.setTop (mkF m 20 #[.val (.int i0), .val (.int i1), .val (.int i2), .val w1, .val w2, .val w3, .unset, .unset, .unset, .unset, .unset] [(.ref b4)])) (fun t k => st4 _ k) ?_
  refine own_via (g' := T4.setTop (mkF m 21 #[.val (.int i0), .val (.int i1), .val (.int i2), .val w1, .val w2, .val w3, .unset, .unset, .unset, .unset, .unset] [(.ref b4), (.ref b4)])) (fun t k => XS.dup X4.here hx rfl (hb hby at_20) rfl (rfl) k) ?_
  obtain ⟨v5, _, ⟨T5, L5, k5, n5⟩, -, X5, ⟨Lc5, hQ5, l5, y5, z5⟩, st5⟩ := X4.specialBack hx (y := (⟨"com/example/rosterwright/rosterwright/Destination$Faults", "<init>", "()V"⟩ : MethodName)) rfl hown (mvT hZ (hw _ (List.mem_of_getElem? (i := 51) rfl))) (mvT hZ (hw _ (List.mem_of_getElem? (i := 52) rfl))) (mvT hZ (hw _ (List.mem_of_getElem? (i := 53) rfl))) (by decide) (backOf (W := 1) (own_rm12 l Z a0 hw [] b4 h4 n0 (Nat.le_trans Z0 Kc4.1) A4 F4_61 g_b4) hZ (hw _ (List.mem_of_getElem? (i := 53) rfl)) (hw _ (List.mem_of_getElem? (i := 50) rfl)) (by decide) (by decide)) (g := (mkF m 21 #[.val (.int i0), .val (.int i1), .val (.int i2), .val w1, .val w2, .val w3, .unset, .unset, .unset, .unset, .unset] [(.ref b4), (.ref b4)])) rfl (by rw [hml]; rfl) (Steps.refl _) (a := b4) (argsL := []) (rest := [(.ref b4)]) (lenOf own_pd10 rfl) rfl (by show 2 * 0 + _ ≤ _; exact Nat.le_of_eq rfl) (hb hby at_21) (fun _ _ => ⟨rfl, e4, (by decide : 19 + 0 ≤ _), (by decide : 37 + 0 ≤ _)⟩)
  dsimp only [Pt.U, Pt.locs, Pt.cells, Pt.slots] at X5 l5 y5 z5 st5 hQ5
  subst l5 y5 z5
  obtain ⟨rfl, N5q, K5, A5, Fa5_0⟩ := hQ5
  have hCR5 := hCR4.trans (CHr.keep K5 (sfS (Safe.exa hZ.alike A4 (by decide) (by decide)) sf0) hCR4.1)
  have Kc5 : Keep h0 T5.heap [] := Kc4.trans K5 (allS (Or.inr sz_b4) all0)
  have N5 := Fr.app N3 N5q
  refine own_via (g' := T5.setTop (mkF m 24 #[.val (.int i0), .val (.int i1), .val (.int i2), .val w1, .val w2, .val w3, .unset, .unset, .unset, .unset, .unset] [(.ref b4)])) (fun t k => st5.trans k) ?_
  refine own_via (g' := T5.setTop (mkF m 26 #[.val (.int i0), .val (.int i1), .val (.int i2), .val w1, .val w2, .val w3, .val (.ref b4), .unset, .unset, .unset, .unset] [])) (fun t k => XS.astore X5.here hx rfl (hb hby at_24) rfl (rfl) (l' := #[.val (.int i0), .val (.int i1), .val (.int i2), .val w1, .val w2, .val w3, .val (.ref b4), .unset, .unset, .unset, .unset]) rfl k) ?_
  refine own_via (g' := T5.setTop (mkF m 28 #[.val (.int i0), .val (.int i1), .val (.int i2), .val w1, .val w2, .val w3, .val (.ref b4), .unset, .unset, .unset, .unset] [(.ref b4)])) (fun t k => XS.aload X5.here hx rfl (hb hby at_26) rfl (rfl) k) ?_
  obtain ⟨cq6, kq6, q6a, q6b, q6c⟩ := isOf hZ rfl A5
  obtain ⟨v6, _, ⟨T6, L6, k6, n6⟩, -, X6, ⟨Lc6, hQ6, l6, y6, z6⟩, st6⟩ := X5.virtualBack hx (y := (⟨"com/example/rosterwright/rosterwright/Destination$Faults", "first", "()Ljava/lang/String;"⟩ : MethodName)) (z := (⟨"com/example/rosterwright/rosterwright/Destination$Faults", "first", "()Ljava/lang/String;"⟩ : MethodName)) hown (mvT hZ (hw _ (List.mem_of_getElem? (i := 55) rfl))) (mvT hZ (hw _ (List.mem_of_getElem? (i := 56) rfl))) (notFace_of_selects (args := #[]) (mvT hZ (hw _ (List.mem_of_getElem? (i := 58) rfl)))) (mvT hZ (hw _ (List.mem_of_getElem? (i := 58) rfl))) (mvT hZ (hw _ (List.mem_of_getElem? (i := 57) rfl))) (by decide) (backOf (W := 0) (own_firstN l Z a0 hw [] b4 T5.heap n0 (Nat.le_trans Z0 Kc5.1) Fa5_0) hZ (hw _ (List.mem_of_getElem? (i := 59) rfl)) (hw _ (List.mem_of_getElem? (i := 50) rfl)) (by decide) (by decide)) q6a q6c (g := (mkF m 28 #[.val (.int i0), .val (.int i1), .val (.int i2), .val w1, .val w2, .val w3, .val (.ref b4), .unset, .unset, .unset, .unset] [(.ref b4)])) rfl (by rw [hml]; rfl) (Steps.refl _) (argsL := []) (rest := []) (lenOf own_pd11 rfl) rfl (by show 2 * 0 + _ ≤ _; exact Nat.le_of_eq rfl) (hb hby at_28) (fun _ _ => ⟨rfl, rfl, (by decide : 19 + 0 ≤ _), (by decide : 37 + 0 ≤ _)⟩)
  dsimp only [Pt.U, Pt.locs, Pt.cells, Pt.slots] at X6 l6 y6 z6 st6 hQ6
  subst l6 y6 z6
  obtain ⟨rfl, N6q, e6⟩ := hQ6
  have N6 := Fr.app N5 N6q
  refine own_via (g' := T6.setTop (mkF m 31 #[.val (.int i0), .val (.int i1), .val (.int i2), .val w1, .val w2, .val w3, .val (.ref b4), .unset, .unset, .unset, .unset] [.null])) (fun t k => st6.trans k) ?_
  refine own_via (g' := T6.setTop (mkF m 34 #[.val (.int i0), .val (.int i1), .val (.int i2), .val w1, .val w2, .val w3, .val (.ref b4), .unset, .unset, .unset, .unset] [])) (fun t k => XT.ifnonnullNo X6.here hx rfl (hb hby at_31) rfl k) ?_
  refine own_via (g' := T6.setTop (mkF m 35 #[.val (.int i0), .val (.int i1), .val (.int i2), .val w1, .val w2, .val w3, .val (.ref b4), .unset, .unset, .unset, .unset] [(.int (1 : Int32))])) (fun t k => XS.iconst X6.here hx rfl (hb hby at_34) k) ?_
  refine own_via (g' := T6.setTop (mkF m 39 #[.val (.int i0), .val (.int i1), .val (.int i2), .val w1, .val w2, .val w3, .val (.ref b4), .unset, .unset, .unset, .unset] [(.int (1 : Int32))])) (fun t k => XS.goto X6.here hx rfl (pc0 := 35) (pc' := 39) rfl (hb hby at_35) (by decide) (by decide) k) ?_
  refine own_via (g' := T6.setTop (mkF m 41 #[.val (.int i0), .val (.int i1), .val (.int i2), .val w1, .val w2, .val w3, .val (.ref b4), .val (.int (1 : Int32)), .unset, .unset, .unset] [])) (fun t k => XS.istore X6.here hx rfl (hb hby at_39) rfl (l' := #[.val (.int i0), .val (.int i1), .val (.int i2), .val w1, .val w2, .val w3, .val (.ref b4), .val (.int (1 : Int32)), .unset, .unset, .unset]) rfl k) ?_
  refine own_via (g' := T6.setTop (mkF m 43 #[.val (.int i0), .val (.int i1), .val (.int i2), .val w1, .val w2, .val w3, .val (.ref b4), .val (.int (1 : Int32)), .unset, .unset, .unset] [(.ref b4)])) (fun t k => XS.aload X6.here hx rfl (hb hby at_41) rfl (rfl) k) ?_
  refine own_via (g' := T6.setTop (mkF m 44 #[.val (.int i0), .val (.int i1), .val (.int i2), .val w1, .val w2, .val w3, .val (.ref b4), .val (.int (1 : Int32)), .unset, .unset, .unset] [w1, (.ref b4)])) (fun t k => XS.aloadN X6.here hx rfl (hb hby at_43) rfl (rf1) k) ?_
  obtain ⟨cq7, kq7, q7a, q7b, q7c⟩ := isOf hZ e6 A5
  obtain ⟨v7, _, ⟨T7, L7, k7, n7⟩, -, X7, ⟨Lc7, hQ7, l7, y7, z7⟩, st7⟩ := X6.virtualBack hx (y := (⟨"com/example/rosterwright/rosterwright/Destination$Faults", "note", "(Ljava/lang/String;)V"⟩ : MethodName)) (z := (⟨"com/example/rosterwright/rosterwright/Destination$Faults", "note", "(Ljava/lang/String;)V"⟩ : MethodName)) hown (mvT hZ (hw _ (List.mem_of_getElem? (i := 62) rfl))) (mvT hZ (hw _ (List.mem_of_getElem? (i := 63) rfl))) (notFace_of_selects (args := #[]) (mvT hZ (hw _ (List.mem_of_getElem? (i := 65) rfl)))) (mvT hZ (hw _ (List.mem_of_getElem? (i := 65) rfl))) (mvT hZ (hw _ (List.mem_of_getElem? (i := 64) rfl))) (by decide) (backOf (W := 0) (own_noteN l Z a0 hw [] b4 w1 T5.heap n0 (Nat.le_trans Z0 Kc5.1) A5 Fa5_0 g_b4 rf1) hZ (hw _ (List.mem_of_getElem? (i := 66) rfl)) (hw _ (List.mem_of_getElem? (i := 50) rfl)) (by decide) (by decide)) q7a q7c (g := (mkF m 44 #[.val (.int i0), .val (.int i1), .val (.int i2), .val w1, .val w2, .val w3, .val (.ref b4), .val (.int (1 : Int32)), .unset, .unset, .unset] [w1, (.ref b4)])) rfl (by rw [hml]; rfl) (Steps.refl _) (argsL := [w1]) (rest := []) (lenOf own_pd12 rfl) rfl (by show 2 * 0 + _ ≤ _; exact Nat.le_of_eq rfl) (hb hby at_44) (fun _ _ => ⟨rfl, e6, (by decide : 19 + 0 ≤ _), (by decide : 37 + 0 ≤ _)⟩)
  dsimp only [Pt.U, Pt.locs, Pt.cells, Pt.slots] at X7 l7 y7 z7 st7 hQ7
  subst l7 y7 z7
  obtain ⟨rfl, N7q, K7, A7, Fa7⟩ := hQ7
  have hCR7 := hCR5.trans (CHr.keep K7 (sfS (Safe.exa hZ.alike A5 (by decide) (by decide)) sf0) hCR5.1)
  have Kc7 : Keep h0 T7.heap [] := Kc5.trans K7 (allS (Or.inr sz_b4) all0)
  have N7 := Fr.app N6 N7q
  refine own_via (g' := T7.setTop (mkF m 47 #[.val (.int i0), .val (.int i1), .val (.int i2), .val w1, .val w2, .val w3, .val (.ref b4), .val (.int (1 : Int32)), .unset, .unset, .unset] [])) (fun t k => st7.trans k) ?_
  refine own_via (g' := T7.setTop (mkF m 48 #[.val (.int i0), .val (.int i1), .val (.int i2), .val w1, .val w2, .val w3, .val (.ref b4), .val (.int (1 : Int32)), .unset, .unset, .unset] [w1])) (fun t k => XS.aloadN X7.here hx rfl (hb hby at_47) rfl (rf1) k) ?_
  refine own_via (g' := T7.setTop (mkF m 50 #[.val (.int i0), .val (.int i1), .val (.int i2), .val w1, .val w2, .val w3, .val (.ref b4), .val (.int (1 : Int32)), .val w1, .unset, .unset] [])) (fun t k => XS.astoreS X7.here hx rfl (hb hby at_48) rfl (rf1) (XT.cat1 (rf1)) rfl (Or.inl rfl) k) ?_
  refine own_via (g' := T7.setTop (mkF m 52 #[.val (.int i0), .val (.int i1), .val (.int i2), .val w1, .val w2, .val w3, .val (.ref b4), .val (.int (1 : Int32)), .val w1, .unset, .unset] [(.int (1 : Int32))])) (fun t k => XS.iload X7.here hx rfl (hb hby at_50) rfl k) ?_
  refine own_via (g' := T7.setTop (mkF m 55 #[.val (.int i0), .val (.int i1), .val (.int i2), .val w1, .val w2, .val w3, .val (.ref b4), .val (.int (1 : Int32)), .val w1, .unset, .unset] [])) (fun t k => XS.ifNo X7.here hx rfl (hb hby at_52) rfl (XT.i0_eq_f (by decide)) k) ?_
  refine own_via (g' := T7.setTop (mkF m 57 #[.val (.int i0), .val (.int i1), .val (.int i2), .val w1, .val w2, .val w3, .val (.ref b4), .val (.int (1 : Int32)), .val w1, .unset, .unset] [(.ref b4)])) (fun t k => XS.aload X7.here hx rfl (hb hby at_55) rfl (rfl) k) ?_
  obtain ⟨cq8, kq8, q8a, q8b, q8c⟩ := isOf hZ rfl A7
  obtain ⟨v8, _, ⟨T8, L8, k8, n8⟩, -, X8, ⟨Lc8, hQ8, l8, y8, z8⟩, st8⟩ := X7.virtualBack hx (y := (⟨"com/example/rosterwright/rosterwright/Destination$Faults", "first", "()Ljava/lang/String;"⟩ : MethodName)) (z := (⟨"com/example/rosterwright/rosterwright/Destination$Faults", "first", "()Ljava/lang/String;"⟩ : MethodName)) hown (mvT hZ (hw _ (List.mem_of_getElem? (i := 55) rfl))) (mvT hZ (hw _ (List.mem_of_getElem? (i := 56) rfl))) (notFace_of_selects (args := #[]) (mvT hZ (hw _ (List.mem_of_getElem? (i := 58) rfl)))) (mvT hZ (hw _ (List.mem_of_getElem? (i := 58) rfl))) (mvT hZ (hw _ (List.mem_of_getElem? (i := 57) rfl))) (by decide) (backOf (W := 0) (own_firstV l Z a0 hw [] b4 w1 T7.heap n0 (Nat.le_trans Z0 Kc7.1) Fa7 rf1) hZ (hw _ (List.mem_of_getElem? (i := 59) rfl)) (hw _ (List.mem_of_getElem? (i := 50) rfl)) (by decide) (by decide)) q8a q8c (g := (mkF m 57 #[.val (.int i0), .val (.int i1), .val (.int i2), .val w1, .val w2, .val w3, .val (.ref b4), .val (.int (1 : Int32)), .val w1, .unset, .unset] [(.ref b4)])) rfl (by rw [hml]; rfl) (Steps.refl _) (argsL := []) (rest := []) (lenOf own_pd11 rfl) rfl (by show 2 * 0 + _ ≤ _; exact Nat.le_of_eq rfl) (hb hby at_57) (fun _ _ => ⟨rfl, rfl, (by decide : 19 + 0 ≤ _), (by decide : 37 + 0 ≤ _)⟩)
  dsimp only [Pt.U, Pt.locs, Pt.cells, Pt.slots] at X8 l8 y8 z8 st8 hQ8
  subst l8 y8 z8
  obtain ⟨rfl, N8q, e8⟩ := hQ8
  have N8 := Fr.app N7 N8q
  refine own_via (g' := T8.setTop (mkF m 60 #[.val (.int i0), .val (.int i1), .val (.int i2), .val w1, .val w2, .val w3, .val (.ref b4), .val (.int (1 : Int32)), .val w1, .unset, .unset] [w1])) (fun t k => st8.trans k) ?_
  refine own_via (g' := T8.setTop (mkF m 62 #[.val (.int i0), .val (.int i1), .val (.int i2), .val w1, .val w2, .val w3, .val (.ref b4), .val (.int (1 : Int32)), .val w1, .unset, .unset] [w1, w1])) (fun t k => XS.aload X8.here hx rfl (hb hby at_60) rfl (rf1) k) ?_
  refine own_via (g' := T8.setTop (mkF m 65 #[.val (.int i0), .val (.int i1), .val (.int i2), .val w1, .val w2, .val w3, .val (.ref b4), .val (.int (1 : Int32)), .val w1, .unset, .unset] [])) (fun t k => XT.acmpNo X8.here hx rfl (hb hby at_62) rfl (rf1) (rf1) (XT.aa_ne_f rfl) k) ?_
  refine own_via (g' := T8.setTop (mkF m 66 #[.val (.int i0), .val (.int i1), .val (.int i2), .val w1, .val w2, .val w3, .val (.ref b4), .val (.int (1 : Int32)), .val w1, .unset, .unset] [(.int (1 : Int32))])) (fun t k => XS.iconst X8.here hx rfl (hb hby at_65) k) ?_
  refine own_via (g' := T8.setTop (mkF m 70 #[.val (.int i0), .val (.int i1), .val (.int i2), .val w1, .val w2, .val w3, .val (.ref b4), .val (.int (1 : Int32)), .val w1, .unset, .unset] [(.int (1 : Int32))])) (fun t k => XS.goto X8.here hx rfl (pc0 := 66) (pc' := 70) rfl (hb hby at_66) (by decide) (by decide) k) ?_
  refine own_via (g' := T8.setTop (mkF m 72 #[.val (.int i0), .val (.int i1), .val (.int i2), .val w1, .val w2, .val w3, .val (.ref b4), .val (.int (1 : Int32)), .val w1, .unset, .unset] [])) (fun t k => XS.istore X8.here hx rfl (hb hby at_70) rfl (l' := #[.val (.int i0), .val (.int i1), .val (.int i2), .val w1, .val w2, .val w3, .val (.ref b4), .val (.int (1 : Int32)), .val w1, .unset, .unset]) rfl k) ?_
  refine own_via (g' := T8.setTop (mkF m 74 #[.val (.int i0), .val (.int i1), .val (.int i2), .val w1, .val w2, .val w3, .val (.ref b4), .val (.int (1 : Int32)), .val w1, .unset, .unset] [(.ref b4)])) (fun t k => XS.aload X8.here hx rfl (hb hby at_72) rfl (rfl) k) ?_
  refine own_via (g' := T8.setTop (mkF m 76 #[.val (.int i0), .val (.int i1), .val (.int i2), .val w1, .val w2, .val w3, .val (.ref b4), .val (.int (1 : Int32)), .val w1, .unset, .unset] [w2, (.ref b4)])) (fun t k => XS.aload X8.here hx rfl (hb hby at_74) rfl (rf2) k) ?_
  obtain ⟨cq9, kq9, q9a, q9b, q9c⟩ := isOf hZ e8 A7
  obtain ⟨v9, _, ⟨T9, L9, k9, n9⟩, -, X9, ⟨Lc9, hQ9, l9, y9, z9⟩, st9⟩ := X8.virtualBack hx (y := (⟨"com/example/rosterwright/rosterwright/Destination$Faults", "note", "(Ljava/lang/String;)V"⟩ : MethodName)) (z := (⟨"com/example/rosterwright/rosterwright/Destination$Faults", "note", "(Ljava/lang/String;)V"⟩ : MethodName)) hown (mvT hZ (hw _ (List.mem_of_getElem? (i := 62) rfl))) (mvT hZ (hw _ (List.mem_of_getElem? (i := 63) rfl))) (notFace_of_selects (args := #[]) (mvT hZ (hw _ (List.mem_of_getElem? (i := 65) rfl)))) (mvT hZ (hw _ (List.mem_of_getElem? (i := 65) rfl))) (mvT hZ (hw _ (List.mem_of_getElem? (i := 64) rfl))) (by decide) (backOf (W := 0) (own_noteV l Z a0 hw [] b4 w2 w1 T7.heap n0 (Nat.le_trans Z0 Kc7.1) A7 Fa7 g_b4 rf2 rf1) hZ (hw _ (List.mem_of_getElem? (i := 66) rfl)) (hw _ (List.mem_of_getElem? (i := 50) rfl)) (by decide) (by decide)) q9a q9c (g := (mkF m 76 #[.val (.int i0), .val (.int i1), .val (.int i2), .val w1, .val w2, .val w3, .val (.ref b4), .val (.int (1 : Int32)), .val w1, .unset, .unset] [w2, (.ref b4)])) rfl (by rw [hml]; rfl) (Steps.refl _) (argsL := [w2]) (rest := []) (lenOf own_pd12 rfl) rfl (by show 2 * 0 + _ ≤ _; exact Nat.le_of_eq rfl) (hb hby at_76) (fun _ _ => ⟨rfl, e8, (by decide : 19 + 0 ≤ _), (by decide : 37 + 0 ≤ _)⟩)
  dsimp only [Pt.U, Pt.locs, Pt.cells, Pt.slots] at X9 l9 y9 z9 st9 hQ9
  subst l9 y9 z9
  obtain ⟨rfl, N9q, K9, A9, Fa9⟩ := hQ9
  have hCR9 := hCR7.trans (CHr.keep K9 (sfS (Safe.exa hZ.alike A7 (by decide) (by decide)) sf0) hCR7.1)
  have Kc9 : Keep h0 T9.heap [] := Kc7.trans K9 (allS (Or.inr sz_b4) all0)
  have rf9 := own_or_ref rf1 rf2
  have N9 := Fr.app N8 N9q
  refine own_via (g' := T9.setTop (mkF m 79 #[.val (.int i0), .val (.int i1), .val (.int i2), .val w1, .val w2, .val w3, .val (.ref b4), .val (.int (1 : Int32)), .val w1, .unset, .unset] [])) (fun t k => st9.trans k) ?_
  refine own_via (g' := T9.setTop (mkF m 81 #[.val (.int i0), .val (.int i1), .val (.int i2), .val w1, .val w2, .val w3, .val (.ref b4), .val (.int (1 : Int32)), .val w1, .unset, .unset] [w1])) (fun t k => XS.aload X9.here hx rfl (hb hby at_79) rfl (rf1) k) ?_
  by_cases hc81_10 : w1 = Value.null
  · refine own_via (g' := T9.setTop (mkF m 89 #[.val (.int i0), .val (.int i1), .val (.int i2), .val w1, .val w2, .val w3, .val (.ref b4), .val (.int (1 : Int32)), .val w1, .unset, .unset] [])) (fun t k => XT.nullYes X9.here hx rfl (pc0 := 81) (pc' := 89) rfl (hb hby at_81) rfl hc81_10 (by decide) (by decide) k) ?_
    refine own_via (g' := T9.setTop (mkF m 91 #[.val (.int i0), .val (.int i1), .val (.int i2), .val w1, .val w2, .val w3, .val (.ref b4), .val (.int (1 : Int32)), .val w1, .unset, .unset] [w2])) (fun t k => XS.aload X9.here hx rfl (hb hby at_89) rfl (rf2) k) ?_
    refine own_via (g' := T9.setTop (mkF m 93 #[.val (.int i0), .val (.int i1), .val (.int i2), .val w1, .val w2, .val w3, .val (.ref b4), .val (.int (1 : Int32)), .val w1, .val w2, .unset] [])) (fun t k => XS.astoreS X9.here hx rfl (hb hby at_91) rfl (rf2) (XT.cat1 (rf2)) rfl (Or.inl rfl) k) ?_
    refine own_via (g' := T9.setTop (mkF m 95 #[.val (.int i0), .val (.int i1), .val (.int i2), .val w1, .val w2, .val w3, .val (.ref b4), .val (.int (1 : Int32)), .val w1, .val w2, .unset] [(.int (1 : Int32))])) (fun t k => XS.iload X9.here hx rfl (hb hby at_93) rfl k) ?_
    refine own_via (g' := T9.setTop (mkF m 98 #[.val (.int i0), .val (.int i1), .val (.int i2), .val w1, .val w2, .val w3, .val (.ref b4), .val (.int (1 : Int32)), .val w1, .val w2, .unset] [])) (fun t k => XS.ifNo X9.here hx rfl (hb hby at_95) rfl (XT.i0_eq_f (by decide)) k) ?_
    refine own_via (g' := T9.setTop (mkF m 100 #[.val (.int i0), .val (.int i1), .val (.int i2), .val w1, .val w2, .val w3, .val (.ref b4), .val (.int (1 : Int32)), .val w1, .val w2, .unset] [(.ref b4)])) (fun t k => XS.aload X9.here hx rfl (hb hby at_98) rfl (rfl) k) ?_
    obtain ⟨cq11, kq11, q11a, q11b, q11c⟩ := isOf hZ rfl A9
    obtain ⟨v11, _, ⟨T11, L11, k11, n11⟩, -, X11, ⟨Lc11, hQ11, l11, y11, z11⟩, st11⟩ := X9.virtualBack hx (y := (⟨"com/example/rosterwright/rosterwright/Destination$Faults", "first", "()Ljava/lang/String;"⟩ : MethodName)) (z := (⟨"com/example/rosterwright/rosterwright/Destination$Faults", "first", "()Ljava/lang/String;"⟩ : MethodName)) hown (mvT hZ (hw _ (List.mem_of_getElem? (i := 55) rfl))) (mvT hZ (hw _ (List.mem_of_getElem? (i := 56) rfl))) (notFace_of_selects (args := #[]) (mvT hZ (hw _ (List.mem_of_getElem? (i := 58) rfl)))) (mvT hZ (hw _ (List.mem_of_getElem? (i := 58) rfl))) (mvT hZ (hw _ (List.mem_of_getElem? (i := 57) rfl))) (by decide) (backOf (W := 0) (own_firstV l Z a0 hw [] b4 (own_or w1 w2) T9.heap n0 (Nat.le_trans Z0 Kc9.1) Fa9 rf9) hZ (hw _ (List.mem_of_getElem? (i := 59) rfl)) (hw _ (List.mem_of_getElem? (i := 50) rfl)) (by decide) (by decide)) q11a q11c (g := (mkF m 100 #[.val (.int i0), .val (.int i1), .val (.int i2), .val w1, .val w2, .val w3, .val (.ref b4), .val (.int (1 : Int32)), .val w1, .val w2, .unset] [(.ref b4)])) rfl (by rw [hml]; rfl) (Steps.refl _) (argsL := []) (rest := []) (lenOf own_pd11 rfl) rfl (by show 2 * 0 + _ ≤ _; exact Nat.le_of_eq rfl) (hb hby at_100) (fun _ _ => ⟨rfl, rfl, (by decide : 19 + 0 ≤ _), (by decide : 37 + 0 ≤ _)⟩)
    dsimp only [Pt.U, Pt.locs, Pt.cells, Pt.slots] at X11 l11 y11 z11 st11 hQ11
    subst l11 y11 z11
    obtain ⟨rfl, N11q, e11⟩ := hQ11
    have N11 := Fr.app N9 N11q
    refine own_via (g' := T11.setTop (mkF m 103 #[.val (.int i0), .val (.int i1), .val (.int i2), .val w1, .val w2, .val w3, .val (.ref b4), .val (.int (1 : Int32)), .val w1, .val w2, .unset] [(own_or w1 w2)])) (fun t k => st11.trans k) ?_
    refine own_via (g' := T11.setTop (mkF m 105 #[.val (.int i0), .val (.int i1), .val (.int i2), .val w1, .val w2, .val w3, .val (.ref b4), .val (.int (1 : Int32)), .val w1, .val w2, .unset] [w2, (own_or w1 w2)])) (fun t k => XS.aload X11.here hx rfl (hb hby at_103) rfl (rf2) k) ?_
    refine own_via (g' := T11.setTop (mkF m 108 #[.val (.int i0), .val (.int i1), .val (.int i2), .val w1, .val w2, .val w3, .val (.ref b4), .val (.int (1 : Int32)), .val w1, .val w2, .unset] [])) (fun t k => XT.acmpNo X11.here hx rfl (hb hby at_105) rfl (rf9) (rf2) (XT.aa_ne_f (by rw [own_or, if_pos hc81_10])) k) ?_
    refine own_via (g' := T11.setTop (mkF m 109 #[.val (.int i0), .val (.int i1), .val (.int i2), .val w1, .val w2, .val w3, .val (.ref b4), .val (.int (1 : Int32)), .val w1, .val w2, .unset] [(.int (1 : Int32))])) (fun t k => XS.iconst X11.here hx rfl (hb hby at_108) k) ?_
    refine own_via (g' := T11.setTop (mkF m 113 #[.val (.int i0), .val (.int i1), .val (.int i2), .val w1, .val w2, .val w3, .val (.ref b4), .val (.int (1 : Int32)), .val w1, .val w2, .unset] [(.int (1 : Int32))])) (fun t k => XS.goto X11.here hx rfl (pc0 := 109) (pc' := 113) rfl (hb hby at_109) (by decide) (by decide) k) ?_
    refine own_via (g' := T11.setTop (mkF m 115 #[.val (.int i0), .val (.int i1), .val (.int i2), .val w1, .val w2, .val w3, .val (.ref b4), .val (.int (1 : Int32)), .val w1, .val w2, .unset] [])) (fun t k => XS.istore X11.here hx rfl (hb hby at_113) rfl (l' := #[.val (.int i0), .val (.int i1), .val (.int i2), .val w1, .val w2, .val w3, .val (.ref b4), .val (.int (1 : Int32)), .val w1, .val w2, .unset]) rfl k) ?_
    refine own_via (g' := T11.setTop (mkF m 117 #[.val (.int i0), .val (.int i1), .val (.int i2), .val w1, .val w2, .val w3, .val (.ref b4), .val (.int (1 : Int32)), .val w1, .val w2, .unset] [(.ref b4)])) (fun t k => XS.aload X11.here hx rfl (hb hby at_115) rfl (rfl) k) ?_
    refine own_via (g' := T11.setTop (mkF m 119 #[.val (.int i0), .val (.int i1), .val (.int i2), .val w1, .val w2, .val w3, .val (.ref b4), .val (.int (1 : Int32)), .val w1, .val w2, .unset] [w3, (.ref b4)])) (fun t k => XS.aload X11.here hx rfl (hb hby at_117) rfl (rf3) k) ?_
    obtain ⟨cq12, kq12, q12a, q12b, q12c⟩ := isOf hZ e11 A9
    obtain ⟨v12, _, ⟨T12, L12, k12, n12⟩, -, X12, ⟨Lc12, hQ12, l12, y12, z12⟩, st12⟩ := X11.virtualBack hx (y := (⟨"com/example/rosterwright/rosterwright/Destination$Faults", "note", "(Ljava/lang/String;)V"⟩ : MethodName)) (z := (⟨"com/example/rosterwright/rosterwright/Destination$Faults", "note", "(Ljava/lang/String;)V"⟩ : MethodName)) hown (mvT hZ (hw _ (List.mem_of_getElem? (i := 62) rfl))) (mvT hZ (hw _ (List.mem_of_getElem? (i := 63) rfl))) (notFace_of_selects (args := #[]) (mvT hZ (hw _ (List.mem_of_getElem? (i := 65) rfl)))) (mvT hZ (hw _ (List.mem_of_getElem? (i := 65) rfl))) (mvT hZ (hw _ (List.mem_of_getElem? (i := 64) rfl))) (by decide) (backOf (W := 0) (own_noteV l Z a0 hw [] b4 w3 (own_or w1 w2) T9.heap n0 (Nat.le_trans Z0 Kc9.1) A9 Fa9 g_b4 rf3 rf9) hZ (hw _ (List.mem_of_getElem? (i := 66) rfl)) (hw _ (List.mem_of_getElem? (i := 50) rfl)) (by decide) (by decide)) q12a q12c (g := (mkF m 119 #[.val (.int i0), .val (.int i1), .val (.int i2), .val w1, .val w2, .val w3, .val (.ref b4), .val (.int (1 : Int32)), .val w1, .val w2, .unset] [w3, (.ref b4)])) rfl (by rw [hml]; rfl) (Steps.refl _) (argsL := [w3]) (rest := []) (lenOf own_pd12 rfl) rfl (by show 2 * 0 + _ ≤ _; exact Nat.le_of_eq rfl) (hb hby at_119) (fun _ _ => ⟨rfl, e11, (by decide : 19 + 0 ≤ _), (by decide : 37 + 0 ≤ _)⟩)
    dsimp only [Pt.U, Pt.locs, Pt.cells, Pt.slots] at X12 l12 y12 z12 st12 hQ12
    subst l12 y12 z12
    obtain ⟨rfl, N12q, K12, A12, Fa12⟩ := hQ12
    have hCR12 := hCR9.trans (CHr.keep K12 (sfS (Safe.exa hZ.alike A9 (by decide) (by decide)) sf0) hCR9.1)
    have Kc12 : Keep h0 T12.heap [] := Kc9.trans K12 (allS (Or.inr sz_b4) all0)
    have rf12 := own_or_ref rf9 rf3
    have N12 := Fr.app N11 N12q
    refine own_via (g' := T12.setTop (mkF m 122 #[.val (.int i0), .val (.int i1), .val (.int i2), .val w1, .val w2, .val w3, .val (.ref b4), .val (.int (1 : Int32)), .val w1, .val w2, .unset] [])) (fun t k => st12.trans k) ?_
    refine own_via (g' := T12.setTop (mkF m 124 #[.val (.int i0), .val (.int i1), .val (.int i2), .val w1, .val w2, .val w3, .val (.ref b4), .val (.int (1 : Int32)), .val w1, .val w2, .unset] [w2])) (fun t k => XS.aload X12.here hx rfl (hb hby at_122) rfl (rf2) k) ?_
    by_cases hc124_13 : w2 = Value.null
    · refine own_via (g' := T12.setTop (mkF m 132 #[.val (.int i0), .val (.int i1), .val (.int i2), .val w1, .val w2, .val w3, .val (.ref b4), .val (.int (1 : Int32)), .val w1, .val w2, .unset] [])) (fun t k => XT.nullYes X12.here hx rfl (pc0 := 124) (pc' := 132) rfl (hb hby at_124) rfl hc124_13 (by decide) (by decide) k) ?_
      refine own_via (g' := T12.setTop (mkF m 134 #[.val (.int i0), .val (.int i1), .val (.int i2), .val w1, .val w2, .val w3, .val (.ref b4), .val (.int (1 : Int32)), .val w1, .val w2, .unset] [w3])) (fun t k => XS.aload X12.here hx rfl (hb hby at_132) rfl (rf3) k) ?_
      refine own_via (g' := T12.setTop (mkF m 136 #[.val (.int i0), .val (.int i1), .val (.int i2), .val w1, .val w2, .val w3, .val (.ref b4), .val (.int (1 : Int32)), .val w1, .val w2, .val w3] [])) (fun t k => XS.astoreS X12.here hx rfl (hb hby at_134) rfl (rf3) (XT.cat1 (rf3)) rfl (Or.inl rfl) k) ?_
      refine own_via (g' := T12.setTop (mkF m 138 #[.val (.int i0), .val (.int i1), .val (.int i2), .val w1, .val w2, .val w3, .val (.ref b4), .val (.int (1 : Int32)), .val w1, .val w2, .val w3] [(.int (1 : Int32))])) (fun t k => XS.iload X12.here hx rfl (hb hby at_136) rfl k) ?_
      refine own_via (g' := T12.setTop (mkF m 141 #[.val (.int i0), .val (.int i1), .val (.int i2), .val w1, .val w2, .val w3, .val (.ref b4), .val (.int (1 : Int32)), .val w1, .val w2, .val w3] [])) (fun t k => XS.ifNo X12.here hx rfl (hb hby at_138) rfl (XT.i0_eq_f (by decide)) k) ?_
      refine own_via (g' := T12.setTop (mkF m 143 #[.val (.int i0), .val (.int i1), .val (.int i2), .val w1, .val w2, .val w3, .val (.ref b4), .val (.int (1 : Int32)), .val w1, .val w2, .val w3] [(.ref b4)])) (fun t k => XS.aload X12.here hx rfl (hb hby at_141) rfl (rfl) k) ?_
      obtain ⟨cq14, kq14, q14a, q14b, q14c⟩ := isOf hZ rfl A12
      obtain ⟨v14, _, ⟨T14, L14, k14, n14⟩, -, X14, ⟨Lc14, hQ14, l14, y14, z14⟩, st14⟩ := X12.virtualBack hx (y := (⟨"com/example/rosterwright/rosterwright/Destination$Faults", "first", "()Ljava/lang/String;"⟩ : MethodName)) (z := (⟨"com/example/rosterwright/rosterwright/Destination$Faults", "first", "()Ljava/lang/String;"⟩ : MethodName)) hown (mvT hZ (hw _ (List.mem_of_getElem? (i := 55) rfl))) (mvT hZ (hw _ (List.mem_of_getElem? (i := 56) rfl))) (notFace_of_selects (args := #[]) (mvT hZ (hw _ (List.mem_of_getElem? (i := 58) rfl)))) (mvT hZ (hw _ (List.mem_of_getElem? (i := 58) rfl))) (mvT hZ (hw _ (List.mem_of_getElem? (i := 57) rfl))) (by decide) (backOf (W := 0) (own_firstV l Z a0 hw [] b4 (own_or (own_or w1 w2) w3) T12.heap n0 (Nat.le_trans Z0 Kc12.1) Fa12 rf12) hZ (hw _ (List.mem_of_getElem? (i := 59) rfl)) (hw _ (List.mem_of_getElem? (i := 50) rfl)) (by decide) (by decide)) q14a q14c (g := (mkF m 143 #[.val (.int i0), .val (.int i1), .val (.int i2), .val w1, .val w2, .val w3, .val (.ref b4), .val (.int (1 : Int32)), .val w1, .val w2, .val w3] [(.ref b4)])) rfl (by rw [hml]; rfl) (Steps.refl _) (argsL := []) (rest := []) (lenOf own_pd11 rfl) rfl (by show 2 * 0 + _ ≤ _; exact Nat.le_of_eq rfl) (hb hby at_143) (fun _ _ => ⟨rfl, rfl, (by decide : 19 + 0 ≤ _), (by decide : 37 + 0 ≤ _)⟩)
      dsimp only [Pt.U, Pt.locs, Pt.cells, Pt.slots] at X14 l14 y14 z14 st14 hQ14
      subst l14 y14 z14
      obtain ⟨rfl, N14q, e14⟩ := hQ14
      have N14 := Fr.app N12 N14q
      refine own_via (g' := T14.setTop (mkF m 146 #[.val (.int i0), .val (.int i1), .val (.int i2), .val w1, .val w2, .val w3, .val (.ref b4), .val (.int (1 : Int32)), .val w1, .val w2, .val w3] [(own_or (own_or w1 w2) w3)])) (fun t k => st14.trans k) ?_
      refine own_via (g' := T14.setTop (mkF m 148 #[.val (.int i0), .val (.int i1), .val (.int i2), .val w1, .val w2, .val w3, .val (.ref b4), .val (.int (1 : Int32)), .val w1, .val w2, .val w3] [w3, (own_or (own_or w1 w2) w3)])) (fun t k => XS.aload X14.here hx rfl (hb hby at_146) rfl (rf3) k) ?_
      refine own_via (g' := T14.setTop (mkF m 151 #[.val (.int i0), .val (.int i1), .val (.int i2), .val w1, .val w2, .val w3, .val (.ref b4), .val (.int (1 : Int32)), .val w1, .val w2, .val w3] [])) (fun t k => XT.acmpNo X14.here hx rfl (hb hby at_148) rfl (rf12) (rf3) (XT.aa_ne_f (by simp only [own_or, if_pos hc81_10, if_pos hc124_13])) k) ?_
      refine own_via (g' := T14.setTop (mkF m 152 #[.val (.int i0), .val (.int i1), .val (.int i2), .val w1, .val w2, .val w3, .val (.ref b4), .val (.int (1 : Int32)), .val w1, .val w2, .val w3] [(.int (1 : Int32))])) (fun t k => XS.iconst X14.here hx rfl (hb hby at_151) k) ?_
      refine own_via (g' := T14.setTop (mkF m 156 #[.val (.int i0), .val (.int i1), .val (.int i2), .val w1, .val w2, .val w3, .val (.ref b4), .val (.int (1 : Int32)), .val w1, .val w2, .val w3] [(.int (1 : Int32))])) (fun t k => XS.goto X14.here hx rfl (pc0 := 152) (pc' := 156) rfl (hb hby at_152) (by decide) (by decide) k) ?_
      refine own_via (g' := T14.setTop (mkF m 158 #[.val (.int i0), .val (.int i1), .val (.int i2), .val w1, .val w2, .val w3, .val (.ref b4), .val (.int (1 : Int32)), .val w1, .val w2, .val w3] [])) (fun t k => XS.istore X14.here hx rfl (hb hby at_156) rfl (l' := #[.val (.int i0), .val (.int i1), .val (.int i2), .val w1, .val w2, .val w3, .val (.ref b4), .val (.int (1 : Int32)), .val w1, .val w2, .val w3]) rfl k) ?_
      refine own_via (g' := T14.setTop (mkF m 160 #[.val (.int i0), .val (.int i1), .val (.int i2), .val w1, .val w2, .val w3, .val (.ref b4), .val (.int (1 : Int32)), .val w1, .val w2, .val w3] [(.int (1 : Int32))])) (fun t k => XS.iload X14.here hx rfl (hb hby at_158) rfl k) ?_
      exact own_retBH X14 hS3 (by rw [(e14 : T14.heap = T12.heap)]; exact (Nat.le_trans (Nat.le_trans (Nat.le_trans (Nat.le_trans (Nat.le_trans (Nat.le_of_eq (congrArg Array.size (rfl : T3.heap = T3.heap))) E4.1) K5.1) K7.1) K9.1) K12.1)) hx hlk (t := .boolean) Bd.returns (by simp) (hb hby at_160) (hCR := (by rw [hh, (e14 : T14.heap = T12.heap)]; exact hCR12.trans (CHv.at X14 hZ (own_hEL hw) hCR12.1))) ⟨rfl, N14⟩ (by decide) (by decide)
    · refine own_via (g' := T12.setTop (mkF m 127 #[.val (.int i0), .val (.int i1), .val (.int i2), .val w1, .val w2, .val w3, .val (.ref b4), .val (.int (1 : Int32)), .val w1, .val w2, .unset] [])) (fun t k => XT.nullNo X12.here hx rfl (hb hby at_124) rfl (rf2) hc124_13 k) ?_
      refine own_via (g' := T12.setTop (mkF m 129 #[.val (.int i0), .val (.int i1), .val (.int i2), .val w1, .val w2, .val w3, .val (.ref b4), .val (.int (1 : Int32)), .val w1, .val w2, .unset] [w2])) (fun t k => XS.aload X12.here hx rfl (hb hby at_127) rfl (rf2) k) ?_
      refine own_via (g' := T12.setTop (mkF m 134 #[.val (.int i0), .val (.int i1), .val (.int i2), .val w1, .val w2, .val w3, .val (.ref b4), .val (.int (1 : Int32)), .val w1, .val w2, .unset] [w2])) (fun t k => XS.goto X12.here hx rfl (pc0 := 129) (pc' := 134) rfl (hb hby at_129) (by decide) (by decide) k) ?_
      refine own_via (g' := T12.setTop (mkF m 136 #[.val (.int i0), .val (.int i1), .val (.int i2), .val w1, .val w2, .val w3, .val (.ref b4), .val (.int (1 : Int32)), .val w1, .val w2, .val w2] [])) (fun t k => XS.astoreS X12.here hx rfl (hb hby at_134) rfl (rf2) (XT.cat1 (rf2)) rfl (Or.inl rfl) k) ?_
      refine own_via (g' := T12.setTop (mkF m 138 #[.val (.int i0), .val (.int i1), .val (.int i2), .val w1, .val w2, .val w3, .val (.ref b4), .val (.int (1 : Int32)), .val w1, .val w2, .val w2] [(.int (1 : Int32))])) (fun t k => XS.iload X12.here hx rfl (hb hby at_136) rfl k) ?_
      refine own_via (g' := T12.setTop (mkF m 141 #[.val (.int i0), .val (.int i1), .val (.int i2), .val w1, .val w2, .val w3, .val (.ref b4), .val (.int (1 : Int32)), .val w1, .val w2, .val w2] [])) (fun t k => XS.ifNo X12.here hx rfl (hb hby at_138) rfl (XT.i0_eq_f (by decide)) k) ?_
      refine own_via (g' := T12.setTop (mkF m 143 #[.val (.int i0), .val (.int i1), .val (.int i2), .val w1, .val w2, .val w3, .val (.ref b4), .val (.int (1 : Int32)), .val w1, .val w2, .val w2] [(.ref b4)])) (fun t k => XS.aload X12.here hx rfl (hb hby at_141) rfl (rfl) k) ?_
      obtain ⟨cq15, kq15, q15a, q15b, q15c⟩ := isOf hZ rfl A12
      obtain ⟨v15, _, ⟨T15, L15, k15, n15⟩, -, X15, ⟨Lc15, hQ15, l15, y15, z15⟩, st15⟩ := X12.virtualBack hx (y := (⟨"com/example/rosterwright/rosterwright/Destination$Faults", "first", "()Ljava/lang/String;"⟩ : MethodName)) (z := (⟨"com/example/rosterwright/rosterwright/Destination$Faults", "first", "()Ljava/lang/String;"⟩ : MethodName)) hown (mvT hZ (hw _ (List.mem_of_getElem? (i := 55) rfl))) (mvT hZ (hw _ (List.mem_of_getElem? (i := 56) rfl))) (notFace_of_selects (args := #[]) (mvT hZ (hw _ (List.mem_of_getElem? (i := 58) rfl)))) (mvT hZ (hw _ (List.mem_of_getElem? (i := 58) rfl))) (mvT hZ (hw _ (List.mem_of_getElem? (i := 57) rfl))) (by decide) (backOf (W := 0) (own_firstV l Z a0 hw [] b4 (own_or (own_or w1 w2) w3) T12.heap n0 (Nat.le_trans Z0 Kc12.1) Fa12 rf12) hZ (hw _ (List.mem_of_getElem? (i := 59) rfl)) (hw _ (List.mem_of_getElem? (i := 50) rfl)) (by decide) (by decide)) q15a q15c (g := (mkF m 143 #[.val (.int i0), .val (.int i1), .val (.int i2), .val w1, .val w2, .val w3, .val (.ref b4), .val (.int (1 : Int32)), .val w1, .val w2, .val w2] [(.ref b4)])) rfl (by rw [hml]; rfl) (Steps.refl _) (argsL := []) (rest := []) (lenOf own_pd11 rfl) rfl (by show 2 * 0 + _ ≤ _; exact Nat.le_of_eq rfl) (hb hby at_143) (fun _ _ => ⟨rfl, rfl, (by decide : 19 + 0 ≤ _), (by decide : 37 + 0 ≤ _)⟩)
      dsimp only [Pt.U, Pt.locs, Pt.cells, Pt.slots] at X15 l15 y15 z15 st15 hQ15
      subst l15 y15 z15
      obtain ⟨rfl, N15q, e15⟩ := hQ15
      have N15 := Fr.app N12 N15q
      refine own_via (g' := T15.setTop (mkF m 146 #[.val (.int i0), .val (.int i1), .val (.int i2), .val w1, .val w2, .val w3, .val (.ref b4), .val (.int (1 : Int32)), .val w1, .val w2, .val w2] [(own_or (own_or w1 w2) w3)])) (fun t k => st15.trans k) ?_
      refine own_via (g' := T15.setTop (mkF m 148 #[.val (.int i0), .val (.int i1), .val (.int i2), .val w1, .val w2, .val w3, .val (.ref b4), .val (.int (1 : Int32)), .val w1, .val w2, .val w2] [w2, (own_or (own_or w1 w2) w3)])) (fun t k => XS.aload X15.here hx rfl (hb hby at_146) rfl (rf2) k) ?_
      refine own_via (g' := T15.setTop (mkF m 151 #[.val (.int i0), .val (.int i1), .val (.int i2), .val w1, .val w2, .val w3, .val (.ref b4), .val (.int (1 : Int32)), .val w1, .val w2, .val w2] [])) (fun t k => XT.acmpNo X15.here hx rfl (hb hby at_148) rfl (rf12) (rf2) (XT.aa_ne_f (by simp only [own_or, if_pos hc81_10, if_neg hc124_13])) k) ?_
      refine own_via (g' := T15.setTop (mkF m 152 #[.val (.int i0), .val (.int i1), .val (.int i2), .val w1, .val w2, .val w3, .val (.ref b4), .val (.int (1 : Int32)), .val w1, .val w2, .val w2] [(.int (1 : Int32))])) (fun t k => XS.iconst X15.here hx rfl (hb hby at_151) k) ?_
      refine own_via (g' := T15.setTop (mkF m 156 #[.val (.int i0), .val (.int i1), .val (.int i2), .val w1, .val w2, .val w3, .val (.ref b4), .val (.int (1 : Int32)), .val w1, .val w2, .val w2] [(.int (1 : Int32))])) (fun t k => XS.goto X15.here hx rfl (pc0 := 152) (pc' := 156) rfl (hb hby at_152) (by decide) (by decide) k) ?_
      refine own_via (g' := T15.setTop (mkF m 158 #[.val (.int i0), .val (.int i1), .val (.int i2), .val w1, .val w2, .val w3, .val (.ref b4), .val (.int (1 : Int32)), .val w1, .val w2, .val w2] [])) (fun t k => XS.istore X15.here hx rfl (hb hby at_156) rfl (l' := #[.val (.int i0), .val (.int i1), .val (.int i2), .val w1, .val w2, .val w3, .val (.ref b4), .val (.int (1 : Int32)), .val w1, .val w2, .val w2]) rfl k) ?_
      refine own_via (g' := T15.setTop (mkF m 160 #[.val (.int i0), .val (.int i1), .val (.int i2), .val w1, .val w2, .val w3, .val (.ref b4), .val (.int (1 : Int32)), .val w1, .val w2, .val w2] [(.int (1 : Int32))])) (fun t k => XS.iload X15.here hx rfl (hb hby at_158) rfl k) ?_
      exact own_retBH X15 hS3 (by rw [(e15 : T15.heap = T12.heap)]; exact (Nat.le_trans (Nat.le_trans (Nat.le_trans (Nat.le_trans (Nat.le_trans (Nat.le_of_eq (congrArg Array.size (rfl : T3.heap = T3.heap))) E4.1) K5.1) K7.1) K9.1) K12.1)) hx hlk (t := .boolean) Bd.returns (by simp) (hb hby at_160) (hCR := (by rw [hh, (e15 : T15.heap = T12.heap)]; exact hCR12.trans (CHv.at X15 hZ (own_hEL hw) hCR12.1))) ⟨rfl, N15⟩ (by decide) (by decide)
  · refine own_via (g' := T9.setTop (mkF m 84 #[.val (.int i0), .val (.int i1), .val (.int i2), .val w1, .val w2, .val w3, .val (.ref b4), .val (.int (1 : Int32)), .val w1, .unset, .unset] [])) (fun t k => XT.nullNo X9.here hx rfl (hb hby at_81) rfl (rf1) hc81_10 k) ?_
    refine own_via (g' := T9.setTop (mkF m 86 #[.val (.int i0), .val (.int i1), .val (.int i2), .val w1, .val w2, .val w3, .val (.ref b4), .val (.int (1 : Int32)), .val w1, .unset, .unset] [w1])) (fun t k => XS.aload X9.here hx rfl (hb hby at_84) rfl (rf1) k) ?_
    refine own_via (g' := T9.setTop (mkF m 91 #[.val (.int i0), .val (.int i1), .val (.int i2), .val w1, .val w2, .val w3, .val (.ref b4), .val (.int (1 : Int32)), .val w1, .unset, .unset] [w1])) (fun t k => XS.goto X9.here hx rfl (pc0 := 86) (pc' := 91) rfl (hb hby at_86) (by decide) (by decide) k) ?_
    refine own_via (g' := T9.setTop (mkF m 93 #[.val (.int i0), .val (.int i1), .val (.int i2), .val w1, .val w2, .val w3, .val (.ref b4), .val (.int (1 : Int32)), .val w1, .val w1, .unset] [])) (fun t k => XS.astoreS X9.here hx rfl (hb hby at_91) rfl (rf1) (XT.cat1 (rf1)) rfl (Or.inl rfl) k) ?_
    refine own_via (g' := T9.setTop (mkF m 95 #[.val (.int i0), .val (.int i1), .val (.int i2), .val w1, .val w2, .val w3, .val (.ref b4), .val (.int (1 : Int32)), .val w1, .val w1, .unset] [(.int (1 : Int32))])) (fun t k => XS.iload X9.here hx rfl (hb hby at_93) rfl k) ?_
    refine own_via (g' := T9.setTop (mkF m 98 #[.val (.int i0), .val (.int i1), .val (.int i2), .val w1, .val w2, .val w3, .val (.ref b4), .val (.int (1 : Int32)), .val w1, .val w1, .unset] [])) (fun t k => XS.ifNo X9.here hx rfl (hb hby at_95) rfl (XT.i0_eq_f (by decide)) k) ?_
    refine own_via (g' := T9.setTop (mkF m 100 #[.val (.int i0), .val (.int i1), .val (.int i2), .val w1, .val w2, .val w3, .val (.ref b4), .val (.int (1 : Int32)), .val w1, .val w1, .unset] [(.ref b4)])) (fun t k => XS.aload X9.here hx rfl (hb hby at_98) rfl (rfl) k) ?_
    obtain ⟨cq16, kq16, q16a, q16b, q16c⟩ := isOf hZ rfl A9
    obtain ⟨v16, _, ⟨T16, L16, k16, n16⟩, -, X16, ⟨Lc16, hQ16, l16, y16, z16⟩, st16⟩ := X9.virtualBack hx (y := (⟨"com/example/rosterwright/rosterwright/Destination$Faults", "first", "()Ljava/lang/String;"⟩ : MethodName)) (z := (⟨"com/example/rosterwright/rosterwright/Destination$Faults", "first", "()Ljava/lang/String;"⟩ : MethodName)) hown (mvT hZ (hw _ (List.mem_of_getElem? (i := 55) rfl))) (mvT hZ (hw _ (List.mem_of_getElem? (i := 56) rfl))) (notFace_of_selects (args := #[]) (mvT hZ (hw _ (List.mem_of_getElem? (i := 58) rfl)))) (mvT hZ (hw _ (List.mem_of_getElem? (i := 58) rfl))) (mvT hZ (hw _ (List.mem_of_getElem? (i := 57) rfl))) (by decide) (backOf (W := 0) (own_firstV l Z a0 hw [] b4 (own_or w1 w2) T9.heap n0 (Nat.le_trans Z0 Kc9.1) Fa9 rf9) hZ (hw _ (List.mem_of_getElem? (i := 59) rfl)) (hw _ (List.mem_of_getElem? (i := 50) rfl)) (by decide) (by decide)) q16a q16c (g := (mkF m 100 #[.val (.int i0), .val (.int i1), .val (.int i2), .val w1, .val w2, .val w3, .val (.ref b4), .val (.int (1 : Int32)), .val w1, .val w1, .unset] [(.ref b4)])) rfl (by rw [hml]; rfl) (Steps.refl _) (argsL := []) (rest := []) (lenOf own_pd11 rfl) rfl (by show 2 * 0 + _ ≤ _; exact Nat.le_of_eq rfl) (hb hby at_100) (fun _ _ => ⟨rfl, rfl, (by decide : 19 + 0 ≤ _), (by decide : 37 + 0 ≤ _)⟩)
    dsimp only [Pt.U, Pt.locs, Pt.cells, Pt.slots] at X16 l16 y16 z16 st16 hQ16
    subst l16 y16 z16
    obtain ⟨rfl, N16q, e16⟩ := hQ16
    have N16 := Fr.app N9 N16q
    refine own_via (g' := T16.setTop (mkF m 103 #[.val (.int i0), .val (.int i1), .val (.int i2), .val w1, .val w2, .val w3, .val (.ref b4), .val (.int (1 : Int32)), .val w1, .val w1, .unset] [(own_or w1 w2)])) (fun t k => st16.trans k) ?_
    refine own_via (g' := T16.setTop (mkF m 105 #[.val (.int i0), .val (.int i1), .val (.int i2), .val w1, .val w2, .val w3, .val (.ref b4), .val (.int (1 : Int32)), .val w1, .val w1, .unset] [w1, (own_or w1 w2)])) (fun t k => XS.aload X16.here hx rfl (hb hby at_103) rfl (rf1) k) ?_
    refine own_via (g' := T16.setTop (mkF m 108 #[.val (.int i0), .val (.int i1), .val (.int i2), .val w1, .val w2, .val w3, .val (.ref b4), .val (.int (1 : Int32)), .val w1, .val w1, .unset] [])) (fun t k => XT.acmpNo X16.here hx rfl (hb hby at_105) rfl (rf9) (rf1) (XT.aa_ne_f (by rw [own_or, if_neg hc81_10])) k) ?_
    refine own_via (g' := T16.setTop (mkF m 109 #[.val (.int i0), .val (.int i1), .val (.int i2), .val w1, .val w2, .val w3, .val (.ref b4), .val (.int (1 : Int32)), .val w1, .val w1, .unset] [(.int (1 : Int32))])) (fun t k => XS.iconst X16.here hx rfl (hb hby at_108) k) ?_
    refine own_via (g' := T16.setTop (mkF m 113 #[.val (.int i0), .val (.int i1), .val (.int i2), .val w1, .val w2, .val w3, .val (.ref b4), .val (.int (1 : Int32)), .val w1, .val w1, .unset] [(.int (1 : Int32))])) (fun t k => XS.goto X16.here hx rfl (pc0 := 109) (pc' := 113) rfl (hb hby at_109) (by decide) (by decide) k) ?_
    refine own_via (g' := T16.setTop (mkF m 115 #[.val (.int i0), .val (.int i1), .val (.int i2), .val w1, .val w2, .val w3, .val (.ref b4), .val (.int (1 : Int32)), .val w1, .val w1, .unset] [])) (fun t k => XS.istore X16.here hx rfl (hb hby at_113) rfl (l' := #[.val (.int i0), .val (.int i1), .val (.int i2), .val w1, .val w2, .val w3, .val (.ref b4), .val (.int (1 : Int32)), .val w1, .val w1, .unset]) rfl k) ?_
    refine own_via (g' := T16.setTop (mkF m 117 #[.val (.int i0), .val (.int i1), .val (.int i2), .val w1, .val w2, .val w3, .val (.ref b4), .val (.int (1 : Int32)), .val w1, .val w1, .unset] [(.ref b4)])) (fun t k => XS.aload X16.here hx rfl (hb hby at_115) rfl (rfl) k) ?_
    refine own_via (g' := T16.setTop (mkF m 119 #[.val (.int i0), .val (.int i1), .val (.int i2), .val w1, .val w2, .val w3, .val (.ref b4), .val (.int (1 : Int32)), .val w1, .val w1, .unset] [w3, (.ref b4)])) (fun t k => XS.aload X16.here hx rfl (hb hby at_117) rfl (rf3) k) ?_
    obtain ⟨cq17, kq17, q17a, q17b, q17c⟩ := isOf hZ e16 A9
    obtain ⟨v17, _, ⟨T17, L17, k17, n17⟩, -, X17, ⟨Lc17, hQ17, l17, y17, z17⟩, st17⟩ := X16.virtualBack hx (y := (⟨"com/example/rosterwright/rosterwright/Destination$Faults", "note", "(Ljava/lang/String;)V"⟩ : MethodName)) (z := (⟨"com/example/rosterwright/rosterwright/Destination$Faults", "note", "(Ljava/lang/String;)V"⟩ : MethodName)) hown (mvT hZ (hw _ (List.mem_of_getElem? (i := 62) rfl))) (mvT hZ (hw _ (List.mem_of_getElem? (i := 63) rfl))) (notFace_of_selects (args := #[]) (mvT hZ (hw _ (List.mem_of_getElem? (i := 65) rfl)))) (mvT hZ (hw _ (List.mem_of_getElem? (i := 65) rfl))) (mvT hZ (hw _ (List.mem_of_getElem? (i := 64) rfl))) (by decide) (backOf (W := 0) (own_noteV l Z a0 hw [] b4 w3 (own_or w1 w2) T9.heap n0 (Nat.le_trans Z0 Kc9.1) A9 Fa9 g_b4 rf3 rf9) hZ (hw _ (List.mem_of_getElem? (i := 66) rfl)) (hw _ (List.mem_of_getElem? (i := 50) rfl)) (by decide) (by decide)) q17a q17c (g := (mkF m 119 #[.val (.int i0), .val (.int i1), .val (.int i2), .val w1, .val w2, .val w3, .val (.ref b4), .val (.int (1 : Int32)), .val w1, .val w1, .unset] [w3, (.ref b4)])) rfl (by rw [hml]; rfl) (Steps.refl _) (argsL := [w3]) (rest := []) (lenOf own_pd12 rfl) rfl (by show 2 * 0 + _ ≤ _; exact Nat.le_of_eq rfl) (hb hby at_119) (fun _ _ => ⟨rfl, e16, (by decide : 19 + 0 ≤ _), (by decide : 37 + 0 ≤ _)⟩)
    dsimp only [Pt.U, Pt.locs, Pt.cells, Pt.slots] at X17 l17 y17 z17 st17 hQ17
    subst l17 y17 z17
    obtain ⟨rfl, N17q, K17, A17, Fa17⟩ := hQ17
    have hCR17 := hCR9.trans (CHr.keep K17 (sfS (Safe.exa hZ.alike A9 (by decide) (by decide)) sf0) hCR9.1)
    have Kc17 : Keep h0 T17.heap [] := Kc9.trans K17 (allS (Or.inr sz_b4) all0)
    have rf17 := own_or_ref rf9 rf3
    have N17 := Fr.app N16 N17q
    refine own_via (g' := T17.setTop (mkF m 122 #[.val (.int i0), .val (.int i1), .val (.int i2), .val w1, .val w2, .val w3, .val (.ref b4), .val (.int (1 : Int32)), .val w1, .val w1, .unset] [])) (fun t k => st17.trans k) ?_
    refine own_via (g' := T17.setTop (mkF m 124 #[.val (.int i0), .val (.int i1), .val (.int i2), .val w1, .val w2, .val w3, .val (.ref b4), .val (.int (1 : Int32)), .val w1, .val w1, .unset] [w1])) (fun t k => XS.aload X17.here hx rfl (hb hby at_122) rfl (rf1) k) ?_
    refine own_via (g' := T17.setTop (mkF m 127 #[.val (.int i0), .val (.int i1), .val (.int i2), .val w1, .val w2, .val w3, .val (.ref b4), .val (.int (1 : Int32)), .val w1, .val w1, .unset] [])) (fun t k => XT.nullNo X17.here hx rfl (hb hby at_124) rfl (rf1) hc81_10 k) ?_
    refine own_via (g' := T17.setTop (mkF m 129 #[.val (.int i0), .val (.int i1), .val (.int i2), .val w1, .val w2, .val w3, .val (.ref b4), .val (.int (1 : Int32)), .val w1, .val w1, .unset] [w1])) (fun t k => XS.aload X17.here hx rfl (hb hby at_127) rfl (rf1) k) ?_
    refine own_via (g' := T17.setTop (mkF m 134 #[.val (.int i0), .val (.int i1), .val (.int i2), .val w1, .val w2, .val w3, .val (.ref b4), .val (.int (1 : Int32)), .val w1, .val w1, .unset] [w1])) (fun t k => XS.goto X17.here hx rfl (pc0 := 129) (pc' := 134) rfl (hb hby at_129) (by decide) (by decide) k) ?_
    refine own_via (g' := T17.setTop (mkF m 136 #[.val (.int i0), .val (.int i1), .val (.int i2), .val w1, .val w2, .val w3, .val (.ref b4), .val (.int (1 : Int32)), .val w1, .val w1, .val w1] [])) (fun t k => XS.astoreS X17.here hx rfl (hb hby at_134) rfl (rf1) (XT.cat1 (rf1)) rfl (Or.inl rfl) k) ?_
    refine own_via (g' := T17.setTop (mkF m 138 #[.val (.int i0), .val (.int i1), .val (.int i2), .val w1, .val w2, .val w3, .val (.ref b4), .val (.int (1 : Int32)), .val w1, .val w1, .val w1] [(.int (1 : Int32))])) (fun t k => XS.iload X17.here hx rfl (hb hby at_136) rfl k) ?_
    refine own_via (g' := T17.setTop (mkF m 141 #[.val (.int i0), .val (.int i1), .val (.int i2), .val w1, .val w2, .val w3, .val (.ref b4), .val (.int (1 : Int32)), .val w1, .val w1, .val w1] [])) (fun t k => XS.ifNo X17.here hx rfl (hb hby at_138) rfl (XT.i0_eq_f (by decide)) k) ?_
    refine own_via (g' := T17.setTop (mkF m 143 #[.val (.int i0), .val (.int i1), .val (.int i2), .val w1, .val w2, .val w3, .val (.ref b4), .val (.int (1 : Int32)), .val w1, .val w1, .val w1] [(.ref b4)])) (fun t k => XS.aload X17.here hx rfl (hb hby at_141) rfl (rfl) k) ?_
    obtain ⟨cq18, kq18, q18a, q18b, q18c⟩ := isOf hZ rfl A17
    obtain ⟨v18, _, ⟨T18, L18, k18, n18⟩, -, X18, ⟨Lc18, hQ18, l18, y18, z18⟩, st18⟩ := X17.virtualBack hx (y := (⟨"com/example/rosterwright/rosterwright/Destination$Faults", "first", "()Ljava/lang/String;"⟩ : MethodName)) (z := (⟨"com/example/rosterwright/rosterwright/Destination$Faults", "first", "()Ljava/lang/String;"⟩ : MethodName)) hown (mvT hZ (hw _ (List.mem_of_getElem? (i := 55) rfl))) (mvT hZ (hw _ (List.mem_of_getElem? (i := 56) rfl))) (notFace_of_selects (args := #[]) (mvT hZ (hw _ (List.mem_of_getElem? (i := 58) rfl)))) (mvT hZ (hw _ (List.mem_of_getElem? (i := 58) rfl))) (mvT hZ (hw _ (List.mem_of_getElem? (i := 57) rfl))) (by decide) (backOf (W := 0) (own_firstV l Z a0 hw [] b4 (own_or (own_or w1 w2) w3) T17.heap n0 (Nat.le_trans Z0 Kc17.1) Fa17 rf17) hZ (hw _ (List.mem_of_getElem? (i := 59) rfl)) (hw _ (List.mem_of_getElem? (i := 50) rfl)) (by decide) (by decide)) q18a q18c (g := (mkF m 143 #[.val (.int i0), .val (.int i1), .val (.int i2), .val w1, .val w2, .val w3, .val (.ref b4), .val (.int (1 : Int32)), .val w1, .val w1, .val w1] [(.ref b4)])) rfl (by rw [hml]; rfl) (Steps.refl _) (argsL := []) (rest := []) (lenOf own_pd11 rfl) rfl (by show 2 * 0 + _ ≤ _; exact Nat.le_of_eq rfl) (hb hby at_143) (fun _ _ => ⟨rfl, rfl, (by decide : 19 + 0 ≤ _), (by decide : 37 + 0 ≤ _)⟩)
    dsimp only [Pt.U, Pt.locs, Pt.cells, Pt.slots] at X18 l18 y18 z18 st18 hQ18
    subst l18 y18 z18
    obtain ⟨rfl, N18q, e18⟩ := hQ18
    have N18 := Fr.app N17 N18q
    refine own_via (g' := T18.setTop (mkF m 146 #[.val (.int i0), .val (.int i1), .val (.int i2), .val w1, .val w2, .val w3, .val (.ref b4), .val (.int (1 : Int32)), .val w1, .val w1, .val w1] [(own_or (own_or w1 w2) w3)])) (fun t k => st18.trans k) ?_
    refine own_via (g' := T18.setTop (mkF m 148 #[.val (.int i0), .val (.int i1), .val (.int i2), .val w1, .val w2, .val w3, .val (.ref b4), .val (.int (1 : Int32)), .val w1, .val w1, .val w1] [w1, (own_or (own_or w1 w2) w3)])) (fun t k => XS.aload X18.here hx rfl (hb hby at_146) rfl (rf1) k) ?_
    refine own_via (g' := T18.setTop (mkF m 151 #[.val (.int i0), .val (.int i1), .val (.int i2), .val w1, .val w2, .val w3, .val (.ref b4), .val (.int (1 : Int32)), .val w1, .val w1, .val w1] [])) (fun t k => XT.acmpNo X18.here hx rfl (hb hby at_148) rfl (rf17) (rf1) (XT.aa_ne_f (by simp only [own_or, if_neg hc81_10])) k) ?_
    refine own_via (g' := T18.setTop (mkF m 152 #[.val (.int i0), .val (.int i1), .val (.int i2), .val w1, .val w2, .val w3, .val (.ref b4), .val (.int (1 : Int32)), .val w1, .val w1, .val w1] [(.int (1 : Int32))])) (fun t k => XS.iconst X18.here hx rfl (hb hby at_151) k) ?_
    refine own_via (g' := T18.setTop (mkF m 156 #[.val (.int i0), .val (.int i1), .val (.int i2), .val w1, .val w2, .val w3, .val (.ref b4), .val (.int (1 : Int32)), .val w1, .val w1, .val w1] [(.int (1 : Int32))])) (fun t k => XS.goto X18.here hx rfl (pc0 := 152) (pc' := 156) rfl (hb hby at_152) (by decide) (by decide) k) ?_
    refine own_via (g' := T18.setTop (mkF m 158 #[.val (.int i0), .val (.int i1), .val (.int i2), .val w1, .val w2, .val w3, .val (.ref b4), .val (.int (1 : Int32)), .val w1, .val w1, .val w1] [])) (fun t k => XS.istore X18.here hx rfl (hb hby at_156) rfl (l' := #[.val (.int i0), .val (.int i1), .val (.int i2), .val w1, .val w2, .val w3, .val (.ref b4), .val (.int (1 : Int32)), .val w1, .val w1, .val w1]) rfl k) ?_
    refine own_via (g' := T18.setTop (mkF m 160 #[.val (.int i0), .val (.int i1), .val (.int i2), .val w1, .val w2, .val w3, .val (.ref b4), .val (.int (1 : Int32)), .val w1, .val w1, .val w1] [(.int (1 : Int32))])) (fun t k => XS.iload X18.here hx rfl (hb hby at_158) rfl k) ?_
    exact own_retBH X18 hS3 (by rw [(e18 : T18.heap = T17.heap)]; exact (Nat.le_trans (Nat.le_trans (Nat.le_trans (Nat.le_trans (Nat.le_trans (Nat.le_of_eq (congrArg Array.size (rfl : T3.heap = T3.heap))) E4.1) K5.1) K7.1) K9.1) K17.1)) hx hlk (t := .boolean) Bd.returns (by simp) (hb hby at_160) (hCR := (by rw [hh, (e18 : T18.heap = T17.heap)]; exact hCR17.trans (CHv.at X18 hZ (own_hEL hw) hCR17.1))) ⟨rfl, N18⟩ (by decide) (by decide)
set_option maxRecDepth 65536 in
set_option maxHeartbeats 40000000 in
theorem comes_1 {Post : Tables → Env → Array Value → State → Outcome → State → Prop} (hpost : ∀ tb e args s v u, (limb_1_1.after args s (.returned v) u = true ∧ limb_1_2.after args s (.returned v) u = true ∧ True) → ReturnedEndW s (.returned v) u (Jvm.fieldLocs frame_1_writes args s ++ Jvm.arrayLocs frame_1_arrays args s ++ Jvm.staticLocs frame_1_statics s) 32 1152 → Post tb e args s (.returned v) u) :
    ArmFor flags0 classFile x code maxLocals ret World_1 tables_1 room_1 Calls_1 rest_1 Pre_1 Post := by
  intro l hfl _ _ p e ha hc hk s m args below hf hA hF happ hP
  obtain ⟨hcalls, hrest, hpre⟩ := hP
  obtain ⟨-, -, -, hnamed, -, -, -, hat⟩ := (Spec.applies_iff hf).mp happ
  obtain ⟨hg, hn⟩ := and_e (Cond.before_iff.mp (show (Jvm.Cond.and given_1 narrow_1).before args s = true from hpre))
  obtain ⟨g1, g2⟩ := and_e hg
  obtain ⟨g3, g4⟩ := and_e g2
  obtain ⟨g5, g6⟩ := and_e g4
  obtain ⟨w0, w1, w2, rfl⟩ : ∃ w0 w1 w2 : Value, args = #[w0, w1, w2] := by
    have hs : args.size = 3 := by simpa [Cond.value, given_1] using g1
    obtain ⟨L⟩ := args
    match L, hs with
    | [w0, w1, w2], _ => exact ⟨w0, w1, w2, rfl⟩
  have hw := fun d (hd : d ∈ tables_1) => atoms_spec (ws := Jvm.Cond.code x code maxLocals ret :: tables_1) hat d (List.mem_cons_of_mem _ hd)
  have hfit : Fit s := fun {y c} hc i hi => by
    obtain ⟨ha, rfl⟩ := Array.getElem?_eq_some_iff.mp hc
    have q := List.all_eq_true.mp ((Array.all_eq_true_iff_forall_mem.mp hF) _ (Array.getElem_mem ha)) i (List.mem_range.mpr hi)
    simpa [Array.getElem?_eq_getElem hi] using q
  obtain ⟨hsets, hown0⟩ := atoms_of _ (rest_1_c_eq ▸ (show rest_1_c.before _ s = true from hrest))
  have hr0 := Cond.before_iff.mp hown0
  have hCH : CHv s own_EL s.vm s.heap := CHv.start (own_hEL hw) hcalls.1 (hsets _ (List.mem_of_getElem? (i := 2) rfl)) (hw _ (List.mem_of_getElem? (i := 23) rfl)) (hw _ (List.mem_of_getElem? (i := 5) rfl))
  obtain ⟨i0, ei0⟩ := is_v g3
  obtain rfl : w0 = (.int i0) := Option.some.inj ei0
  obtain ⟨i1, ei1⟩ := is_v g5
  obtain rfl : w1 = (.int i1) := Option.some.inj ei1
  obtain ⟨i2, ei2⟩ := is_v g6
  obtain rfl : w2 = (.int i2) := Option.some.inj ei2
  obtain ⟨cs, ecs⟩ := is_v (Cond.before_iff.mp (hsets _ (List.mem_of_getElem? (i := 1) rfl)))
  have CS : Sta s s.heap "java/lang/String" "COMPACT_STRINGS" "Z" (.int cs) := Sta.start ecs (Or.inl (hsets _ (List.mem_of_getElem? (i := 0) rfl)))
  have hcs : ¬ cs = 0 := fun q => by
    have h0 := not_v (Cond.before_iff.mp (hsets _ (List.mem_of_getElem? (i := 2) rfl)))
    rw [Cond.eq_ints ecs (Term.int_eval 0), q] at h0
    exact absurd h0 (by decide)
  obtain ⟨n, o, h1, h2, h3, _, L, rfl, ⟨rfl, N⟩, -, hq⟩ := own_rm0 l s _ hw tables_1 i0 i1 i2 cs s.heap s.heap.size (Nat.le_refl _) CS hcs p e ha hc hk s m _ below hf ((Spec.applies_iff_loose hf).mp happ).1 ⟨rfl, State.Warmed39.refl s, rfl, hCH, all0⟩ trivial
  refine ⟨n, _, h1, h2, h3, hpost _ _ _ _ _ _ ⟨Cond.after_iff.mpr rfl, Cond.after_iff.mpr (eq_i res_at (Term.int_eval (1)) rfl), trivial⟩ ⟨hq.1, hq.2.1, hq.2.2.1, (hq.2.2.2.sift fun y hy => Or.inr (N y hy)).mono (by decide) (by decide)⟩⟩
theorem main_1_1 : Claimed_1_1 := comes_1 fun _ _ _ _ _ _ h hF => ⟨h.1, hF⟩
theorem main_1_2 : Claimed_1_2 := comes_1 fun _ _ _ _ _ _ h hF => ⟨h.2.1, hF⟩
end Jvm.Pilot.@@N@@
namespace Jvm.Pilot.@@N@@
open Jvm Jvm.ClassFile Sem Op Lib Jvm.Free Jvm.Stand Jvm.Pilot.@@N@@.Jvm.D
/-! MADE BY PROGRAM (witnessworld.py) out of the Statement's table words and the real class files: 20 classes; the members and pool entries that the words name. The judged class is class 1, her method 2. -/
namespace start1
open Jvm.ClassFile
def u (s : String) : CpInfo := .utf8 (stringToUtf16 s)
/-- a pool by its gaps: so many unusable entries, then the entry; so many at the end -/
def gap : Nat → List CpInfo → List CpInfo
  | 0, r => r
  | n + 1, r => .unusable :: gap n r
def poolList (es : List (Nat × CpInfo)) (last : Nat) : List CpInfo := es.foldr (fun e r => gap e.1 (e.2 :: r)) (gap last [])
def pool (es : List (Nat × CpInfo)) (last : Nat) : Array CpInfo := ⟨poolList es last⟩
def fileOf (pool : Array CpInfo) (this : Nat) (attrs : Array Attribute := #[]) (ms : Array MethodInfo := #[]) (fl : Nat := 33) (sup : Nat := 0) (ifs : Array Nat := #[]) (fds : Array FieldInfo := #[]) : ClassFile where
  minorVersion := 0
  majorVersion := 65
  constantPool := pool
  accessFlags := fl
  thisClass := this
  superClass := sup
  interfaces := ifs
  fields := fds
  methods := ms
  attributes := attrs
def plain (name : String) (sup : Option ClassId) : Class where
  name := name
  kind := .ordinary
  loader := none
  accessFlags := 33
  super := sup
  interfaces := #[]
  cf := none
  fields := #[]
  methods := #[]
  instanceTypes := #[]
  staticTypes := #[]
  resolved := #[]
  callSites := []
  init := .initialized
  statics := none
  mirror := none

def pool0 : Array CpInfo := pool [(5, u "<init>"), (0, u "()V"), (1, .class_ 10), (1, u "java/lang/Object")] 113

def k0c0 : Code := { maxStack := 0, maxLocals := 1, code := object_method_1_code, exceptionTable := #[], attributes := #[] }
def k0m0 : Method := { name := "<init>", desc := "()V", sig := { parameters := [], returnType := none }, accessFlags := 1, code := some k0c0 }
/-- java/lang/Object -/
def k0 : Class := { plain "java/lang/Object" none with
  accessFlags := 33
  interfaces := #[]
  cf := some (fileOf pool0 8 #[] #[{ accessFlags := 1, nameIndex := 5, descriptorIndex := 6, attributes := #[] }] 33 0 #[] #[])
  fields := #[]
  methods := #[k0m0]
  instanceTypes := #[]
  staticTypes := #[]
  resolved := Array.replicate 124 none
  statics := none }

def pool1 : Array CpInfo := pool [(2, .class_ 4), (0, .nameAndType 5 6), (0, u "java/lang/Object"), (0, u "<init>"), (0, u "()V"), (0, .class_ 8), (0, u "java/lang/String"), (0, .methodref 7 10), (0, .nameAndType 5 11), (0, u "([C)V"), (0, .methodref 7 13), (0, .nameAndType 14 15), (0, u "valueOf"), (0, u "(C)Ljava/lang/String;"), (0, .methodref 17 18), (0, .class_ 19), (0, .nameAndType 20 21), (0, u "com/example/rosterwright/rosterwright/FaultsNotePinLaw"), (0, u "mk"), (0, u "(I)Ljava/lang/String;"), (0, .class_ 23), (0, u "com/example/rosterwright/rosterwright/Destination$Faults"), (0, .methodref 22 3), (0, .methodref 22 26), (0, .nameAndType 27 28), (0, u "first"), (0, u "()Ljava/lang/String;"), (0, .methodref 22 30), (0, .nameAndType 31 32), (0, u "note"), (0, u "(Ljava/lang/String;)V"), (3, u "law"), (0, u "(III)Z")] 6

def k1m0 : Method := { name := "<init>", desc := "()V", sig := { parameters := [], returnType := none }, accessFlags := 2, code := none }
def k1c1 : Code := { maxStack := 6, maxLocals := 4, code := method_2_code, exceptionTable := #[], attributes := #[] }
def k1m1 : Method := { name := "mk", desc := "(I)Ljava/lang/String;", sig := { parameters := [.int], returnType := some (.object "java/lang/String") }, accessFlags := 10, code := some k1c1 }
def k1c2 : Code := { maxStack := 2, maxLocals := 11, code := code, exceptionTable := #[], attributes := #[] }
def k1m2 : Method := { name := "law", desc := "(III)Z", sig := { parameters := [.int, .int, .int], returnType := some .boolean }, accessFlags := 9, code := some k1c2 }
/-- com/example/rosterwright/rosterwright/FaultsNotePinLaw -/
def k1 : Class := { plain "com/example/rosterwright/rosterwright/FaultsNotePinLaw" (some 0) with
  accessFlags := 49
  interfaces := #[]
  cf := some (fileOf pool1 17 #[] #[{ accessFlags := 2, nameIndex := 5, descriptorIndex := 6, attributes := #[] }, { accessFlags := 10, nameIndex := 20, descriptorIndex := 21, attributes := #[] }, { accessFlags := 9, nameIndex := 36, descriptorIndex := 37, attributes := #[] }] 49 2 #[] #[])
  fields := #[]
  methods := #[k1m0, k1m1, k1m2]
  instanceTypes := #[]
  staticTypes := #[]
  resolved := Array.replicate 44 none
  statics := none }

def pool2 : Array CpInfo := pool [(1, .class_ 2), (0, u "java/io/Serializable"), (0, .class_ 4), (0, u "java/lang/Object")] 2

/-- java/io/Serializable -/
def k2 : Class := { plain "java/io/Serializable" (some 0) with
  accessFlags := 1537
  interfaces := #[]
  cf := some (fileOf pool2 1 #[] #[] 1537 3 #[] #[])
  fields := #[]
  methods := #[]
  instanceTypes := #[]
  staticTypes := #[]
  resolved := Array.replicate 7 none
  statics := none }

def pool3 : Array CpInfo := pool [(1, .class_ 2), (0, u "java/lang/Comparable"), (0, .class_ 4), (0, u "java/lang/Object")] 7

/-- java/lang/Comparable -/
def k3 : Class := { plain "java/lang/Comparable" (some 0) with
  accessFlags := 1537
  interfaces := #[]
  cf := some (fileOf pool3 1 #[] #[] 1537 3 #[] #[])
  fields := #[]
  methods := #[]
  instanceTypes := #[]
  staticTypes := #[]
  resolved := Array.replicate 12 none
  statics := none }

def pool4 : Array CpInfo := pool [(2, .class_ 4), (1, u "java/lang/CharSequence"), (42, .class_ 48), (0, u "java/lang/CharSequence$1CodePointIterator"), (10, .class_ 60), (0, u "java/lang/CharSequence$1CharIterator"), (5, .class_ 67), (0, u "java/lang/Object")] 63

/-- java/lang/CharSequence -/
def k4 : Class := { plain "java/lang/CharSequence" (some 0) with
  accessFlags := 1537
  interfaces := #[]
  cf := some (fileOf pool4 2 #[.nestMembers #[47, 59]] #[] 1537 66 #[] #[])
  fields := #[]
  methods := #[]
  instanceTypes := #[]
  staticTypes := #[]
  resolved := Array.replicate 131 none
  statics := none }

def pool5 : Array CpInfo := pool [(1, .class_ 2), (0, u "java/lang/constant/Constable"), (0, .class_ 4), (0, u "java/lang/Object")] 6

/-- java/lang/constant/Constable -/
def k5 : Class := { plain "java/lang/constant/Constable" (some 0) with
  accessFlags := 1537
  interfaces := #[]
  cf := some (fileOf pool5 1 #[] #[] 1537 3 #[] #[])
  fields := #[]
  methods := #[]
  instanceTypes := #[]
  staticTypes := #[]
  resolved := Array.replicate 11 none
  statics := none }

def pool6 : Array CpInfo := pool [(1, .class_ 2), (0, u "java/lang/constant/ConstantDesc"), (0, .class_ 4), (0, u "java/lang/Object")] 32

/-- java/lang/constant/ConstantDesc -/
def k6 : Class := { plain "java/lang/constant/ConstantDesc" (some 0) with
  accessFlags := 1537
  interfaces := #[]
  cf := some (fileOf pool6 1 #[] #[] 1537 3 #[] #[])
  fields := #[]
  methods := #[]
  instanceTypes := #[]
  staticTypes := #[]
  resolved := Array.replicate 37 none
  statics := none }

def pool7 : Array CpInfo := pool [(1, .methodref 2 3), (0, .class_ 4), (0, .nameAndType 5 6), (0, u "java/lang/Object"), (0, u "<init>"), (0, u "()V"), (0, .string 8), (0, u ""), (0, .fieldref 10 11), (0, .class_ 12), (0, .nameAndType 13 14), (0, u "java/lang/String"), (0, u "value"), (0, u "[B"), (0, .fieldref 10 16), (0, .nameAndType 17 18), (0, u "coder"), (0, u "B"), (2, u "hash"), (0, u "I"), (2, u "hashIsZero"), (0, u "Z"), (0, .methodref 10 28), (0, .nameAndType 5 29), (0, u "([CIILjava/lang/Void;)V"), (8, .fieldref 10 39), (0, .nameAndType 40 26), (0, u "COMPACT_STRINGS"), (1, .class_ 44), (1, u "java/lang/StringUTF16"), (0, u "compress"), (1, .methodref 42 48), (0, .nameAndType 49 50), (0, u "coderFromArrayLen"), (0, u "([BI)B"), (2, u "toBytes"), (53, .class_ 109), (1, u "java/lang/StringLatin1"), (67, .methodref 42 178), (0, .nameAndType 45 179), (0, u "([CII)[B"), (29, .methodref 10 210), (0, .nameAndType 5 211), (0, u "([BB)V"), (157, u "(C)Z"), (205, .class_ 576), (0, u "java/lang/CharSequence"), (22, u "CASE_INSENSITIVE_ORDER"), (0, u "Ljava/util/Comparator;"), (181, u "valueOf"), (0, u "(C)Ljava/lang/String;"), (226, u "([C)V"), (4, .methodref 107 1016), (0, .nameAndType 1017 369), (0, u "canEncode"), (0, .methodref 107 1019), (0, .nameAndType 53 1020), (0, u "(C)[B"), (80, u "serialPersistentFields"), (0, u "[Ljava/io/ObjectStreamField;"), (0, .class_ 1104), (0, u "java/lang/String$CaseInsensitiveComparator"), (1, .class_ 1107), (0, u "java/io/Serializable"), (0, .class_ 1109), (0, u "java/lang/Comparable"), (0, .class_ 1111), (0, u "java/lang/constant/Constable"), (0, .class_ 1113), (0, u "java/lang/constant/ConstantDesc"), (2, u "serialVersionUID"), (0, u "J"), (3, u "REPL"), (0, u "C"), (2, u "LATIN1"), (1, u "UTF16")] 323

def k7m0 : Method := { name := "<init>", desc := "()V", sig := { parameters := [], returnType := none }, accessFlags := 1, code := none }
def k7c1 : Code := { maxStack := 5, maxLocals := 2, code := jdk_42_method_3_code, exceptionTable := #[], attributes := #[] }
def k7m1 : Method := { name := "<init>", desc := "([C)V", sig := { parameters := [(.array .char)], returnType := none }, accessFlags := 1, code := some k7c1 }
def k7c2 : Code := { maxStack := 4, maxLocals := 1, code := jdk_42_method_139_code, exceptionTable := #[], attributes := #[] }
def k7m2 : Method := { name := "valueOf", desc := "(C)Ljava/lang/String;", sig := { parameters := [.char], returnType := some (.object "java/lang/String") }, accessFlags := 9, code := some k7c2 }
def k7c3 : Code := { maxStack := 4, maxLocals := 6, code := jdk_42_method_149_code, exceptionTable := #[], attributes := #[] }
def k7m3 : Method := { name := "<init>", desc := "([CIILjava/lang/Void;)V", sig := { parameters := [(.array .char), .int, .int, (.object "java/lang/Void")], returnType := none }, accessFlags := 2, code := some k7c3 }
def k7c4 : Code := { maxStack := 2, maxLocals := 3, code := jdk_42_method_151_code, exceptionTable := #[], attributes := #[] }
def k7m4 : Method := { name := "<init>", desc := "([BB)V", sig := { parameters := [(.array .byte), .byte], returnType := none }, accessFlags := 0, code := some k7c4 }
/-- java/lang/String -/
def k7 : Class := { plain "java/lang/String" (some 0) with
  accessFlags := 49
  interfaces := #[2, 3, 4, 5, 6]
  cf := some (fileOf pool7 10 #[.nestMembers #[1103]] #[{ accessFlags := 1, nameIndex := 5, descriptorIndex := 6, attributes := #[] }, { accessFlags := 1, nameIndex := 5, descriptorIndex := 1010, attributes := #[] }, { accessFlags := 9, nameIndex := 782, descriptorIndex := 783, attributes := #[] }, { accessFlags := 2, nameIndex := 5, descriptorIndex := 29, attributes := #[] }, { accessFlags := 0, nameIndex := 5, descriptorIndex := 211, attributes := #[] }] 49 2 #[1106, 1108, 575, 1110, 1112] #[{ accessFlags := 18, nameIndex := 13, descriptorIndex := 14, attributes := #[] }, { accessFlags := 18, nameIndex := 17, descriptorIndex := 18, attributes := #[] }, { accessFlags := 2, nameIndex := 21, descriptorIndex := 22, attributes := #[] }, { accessFlags := 2, nameIndex := 25, descriptorIndex := 26, attributes := #[] }, { accessFlags := 26, nameIndex := 1116, descriptorIndex := 1117, attributes := #[] }, { accessFlags := 24, nameIndex := 40, descriptorIndex := 26, attributes := #[] }, { accessFlags := 26, nameIndex := 1101, descriptorIndex := 1102, attributes := #[] }, { accessFlags := 26, nameIndex := 1121, descriptorIndex := 1122, attributes := #[] }, { accessFlags := 25, nameIndex := 599, descriptorIndex := 600, attributes := #[] }, { accessFlags := 24, nameIndex := 1125, descriptorIndex := 18, attributes := #[] }, { accessFlags := 24, nameIndex := 1127, descriptorIndex := 18, attributes := #[] }])
  fields := #[{ name := "value", type := (.array .byte), accessFlags := 18, slot := 0, constantValue := 0 }, { name := "coder", type := .byte, accessFlags := 18, slot := 1, constantValue := 0 }, { name := "hash", type := .int, accessFlags := 2, slot := 2, constantValue := 0 }, { name := "hashIsZero", type := .boolean, accessFlags := 2, slot := 3, constantValue := 0 }, { name := "serialVersionUID", type := .long, accessFlags := 26, slot := 0, constantValue := 0 }, { name := "COMPACT_STRINGS", type := .boolean, accessFlags := 24, slot := 1, constantValue := 0 }, { name := "serialPersistentFields", type := (.array (.object "java/io/ObjectStreamField")), accessFlags := 26, slot := 2, constantValue := 0 }, { name := "REPL", type := .char, accessFlags := 26, slot := 3, constantValue := 0 }, { name := "CASE_INSENSITIVE_ORDER", type := (.object "java/util/Comparator"), accessFlags := 25, slot := 4, constantValue := 0 }, { name := "LATIN1", type := .byte, accessFlags := 24, slot := 5, constantValue := 0 }, { name := "UTF16", type := .byte, accessFlags := 24, slot := 6, constantValue := 0 }]
  methods := #[k7m0, k7m1, k7m2, k7m3, k7m4]
  instanceTypes := #[(.array .byte), .byte, .int, .boolean]
  staticTypes := #[.long, .boolean, (.array (.object "java/io/ObjectStreamField")), .char, (.object "java/util/Comparator"), .byte, .byte]
  resolved := Array.replicate 1451 none
  statics := some 0 }

def pool8 : Array CpInfo := pool [(6, .class_ 8), (1, u "java/lang/Object"), (0, u "<init>"), (0, u "()V"), (1, .class_ 14), (1, u "java/lang/StringUTF16"), (31, u "$assertionsDisabled"), (0, u "Z"), (13, u "HI_BYTE_SHIFT"), (0, u "I"), (2, u "LO_BYTE_SHIFT"), (49, .methodref 12 116), (0, .nameAndType 117 118), (0, u "compress"), (0, u "([CI[BII)I"), (3, u "([CII)[B"), (138, u "coderFromArrayLen"), (0, u "([BI)B"), (106, .class_ 371), (1, u "java/lang/StringUTF16$LinesSpliterator"), (58, u "MAX_LENGTH"), (196, .class_ 628), (0, u "java/lang/StringUTF16$CodePointsSpliterator"), (0, .class_ 630), (0, u "java/lang/StringUTF16$CharsSpliterator")] 4

def k8m0 : Method := { name := "<init>", desc := "()V", sig := { parameters := [], returnType := none }, accessFlags := 0, code := none }
def k8c1 : Code := { maxStack := 2, maxLocals := 2, code := jdk_52_method_15_code, exceptionTable := #[], attributes := #[] }
def k8m1 : Method := { name := "coderFromArrayLen", desc := "([BI)B", sig := { parameters := [(.array .byte), .int], returnType := some .byte }, accessFlags := 8, code := some k8c1 }
def k8c2 : Code := { maxStack := 5, maxLocals := 6, code := jdk_52_method_16_code, exceptionTable := #[], attributes := #[] }
def k8m2 : Method := { name := "compress", desc := "([CII)[B", sig := { parameters := [(.array .char), .int, .int], returnType := some (.array .byte) }, accessFlags := 9, code := some k8c2 }
def k8c3 : Code := { maxStack := 3, maxLocals := 7, code := jdk_52_method_21_code, exceptionTable := #[], attributes := #[] }
def k8m3 : Method := { name := "compress", desc := "([CI[BII)I", sig := { parameters := [(.array .char), .int, (.array .byte), .int, .int], returnType := some .int }, accessFlags := 9, code := some k8c3 }
/-- java/lang/StringUTF16 -/
def k8 : Class := { plain "java/lang/StringUTF16" (some 0) with
  accessFlags := 48
  interfaces := #[]
  cf := some (fileOf pool8 12 #[.nestMembers #[627, 629, 369]] #[{ accessFlags := 0, nameIndex := 9, descriptorIndex := 10, attributes := #[] }, { accessFlags := 8, nameIndex := 261, descriptorIndex := 262, attributes := #[] }, { accessFlags := 9, nameIndex := 117, descriptorIndex := 122, attributes := #[] }, { accessFlags := 9, nameIndex := 117, descriptorIndex := 118, attributes := #[] }] 48 6 #[] #[{ accessFlags := 26, nameIndex := 61, descriptorIndex := 62, attributes := #[] }, { accessFlags := 26, nameIndex := 65, descriptorIndex := 62, attributes := #[] }, { accessFlags := 24, nameIndex := 430, descriptorIndex := 62, attributes := #[] }, { accessFlags := 4120, nameIndex := 46, descriptorIndex := 47, attributes := #[] }])
  fields := #[{ name := "HI_BYTE_SHIFT", type := .int, accessFlags := 26, slot := 0, constantValue := 0 }, { name := "LO_BYTE_SHIFT", type := .int, accessFlags := 26, slot := 1, constantValue := 0 }, { name := "MAX_LENGTH", type := .int, accessFlags := 24, slot := 2, constantValue := 0 }, { name := "$assertionsDisabled", type := .boolean, accessFlags := 4120, slot := 3, constantValue := 0 }]
  methods := #[k8m0, k8m1, k8m2, k8m3]
  instanceTypes := #[]
  staticTypes := #[.int, .int, .int, .boolean]
  resolved := Array.replicate 635 none
  statics := none }

def pool9 : Array CpInfo := pool [(4, .class_ 6), (1, u "java/lang/Object"), (0, u "<init>"), (0, u "()V"), (5, .class_ 16), (1, u "java/lang/StringLatin1"), (73, u "canEncode"), (14, u "(C)Z"), (15, u "$assertionsDisabled"), (0, u "Z"), (98, .class_ 223), (1, u "java/lang/StringLatin1$LinesSpliterator"), (156, u "toBytes"), (1, u "(C)[B"), (7, .class_ 391), (0, u "java/lang/StringLatin1$CharsSpliterator")] 3

def k9m0 : Method := { name := "<init>", desc := "()V", sig := { parameters := [], returnType := none }, accessFlags := 0, code := none }
def k9c1 : Code := { maxStack := 2, maxLocals := 1, code := jdk_43_method_3_code, exceptionTable := #[], attributes := #[] }
def k9m1 : Method := { name := "canEncode", desc := "(C)Z", sig := { parameters := [.char], returnType := some .boolean }, accessFlags := 9, code := some k9c1 }
def k9c2 : Code := { maxStack := 4, maxLocals := 1, code := jdk_43_method_46_code, exceptionTable := #[], attributes := #[] }
def k9m2 : Method := { name := "toBytes", desc := "(C)[B", sig := { parameters := [.char], returnType := some (.array .byte) }, accessFlags := 9, code := some k9c2 }
/-- java/lang/StringLatin1 -/
def k9 : Class := { plain "java/lang/StringLatin1" (some 0) with
  accessFlags := 48
  interfaces := #[]
  cf := some (fileOf pool9 14 #[.nestMembers #[390, 221]] #[{ accessFlags := 0, nameIndex := 7, descriptorIndex := 8, attributes := #[] }, { accessFlags := 9, nameIndex := 90, descriptorIndex := 105, attributes := #[] }, { accessFlags := 9, nameIndex := 380, descriptorIndex := 382, attributes := #[] }] 48 4 #[] #[{ accessFlags := 4120, nameIndex := 121, descriptorIndex := 122, attributes := #[] }])
  fields := #[{ name := "$assertionsDisabled", type := .boolean, accessFlags := 4120, slot := 0, constantValue := 0 }]
  methods := #[k9m0, k9m1, k9m2]
  instanceTypes := #[]
  staticTypes := #[.boolean]
  resolved := Array.replicate 395 none
  statics := none }

def pool10 : Array CpInfo := pool [(1, .methodref 2 3), (0, .class_ 4), (0, .nameAndType 5 6), (0, u "java/lang/Object"), (0, u "<init>"), (0, u "()V"), (5, .fieldref 13 14), (0, .class_ 15), (0, .nameAndType 16 17), (0, u "com/example/rosterwright/rosterwright/Destination$Faults"), (0, u "first"), (0, u "Ljava/lang/String;"), (14, u "note"), (0, u "(Ljava/lang/String;)V"), (7, u "()Ljava/lang/String;"), (7, .class_ 50), (0, u "com/example/rosterwright/rosterwright/Destination")] 22

def k10c0 : Code := { maxStack := 1, maxLocals := 1, code := prog_17_method_1_code, exceptionTable := #[], attributes := #[] }
def k10m0 : Method := { name := "<init>", desc := "()V", sig := { parameters := [], returnType := none }, accessFlags := 1, code := some k10c0 }
def k10c1 : Code := { maxStack := 1, maxLocals := 1, code := prog_17_method_3_code, exceptionTable := #[], attributes := #[] }
def k10m1 : Method := { name := "first", desc := "()Ljava/lang/String;", sig := { parameters := [], returnType := some (.object "java/lang/String") }, accessFlags := 0, code := some k10c1 }
def k10c2 : Code := { maxStack := 2, maxLocals := 2, code := prog_17_method_4_code, exceptionTable := #[], attributes := #[] }
def k10m2 : Method := { name := "note", desc := "(Ljava/lang/String;)V", sig := { parameters := [(.object "java/lang/String")], returnType := none }, accessFlags := 0, code := some k10c2 }
/-- com/example/rosterwright/rosterwright/Destination$Faults -/
def k10 : Class := { plain "com/example/rosterwright/rosterwright/Destination$Faults" (some 0) with
  accessFlags := 49
  interfaces := #[]
  cf := some (fileOf pool10 13 #[.nestHost 49] #[{ accessFlags := 1, nameIndex := 5, descriptorIndex := 6, attributes := #[] }, { accessFlags := 0, nameIndex := 16, descriptorIndex := 41, attributes := #[] }, { accessFlags := 0, nameIndex := 32, descriptorIndex := 33, attributes := #[] }] 49 2 #[] #[{ accessFlags := 2, nameIndex := 16, descriptorIndex := 17, attributes := #[] }])
  fields := #[{ name := "first", type := (.object "java/lang/String"), accessFlags := 2, slot := 0, constantValue := 0 }]
  methods := #[k10m0, k10m1, k10m2]
  instanceTypes := #[(.object "java/lang/String")]
  staticTypes := #[]
  resolved := Array.replicate 73 none
  statics := none }

def pool11 : Array CpInfo := pool [(2, .class_ 4), (1, u "java/lang/Object"), (0, u "<init>"), (0, u "()V"), (17, .class_ 26), (1, u "jdk/internal/util/Preconditions"), (28, .class_ 56), (0, u "jdk/internal/util/Preconditions$4"), (57, .class_ 115), (0, u "jdk/internal/util/Preconditions$1"), (7, u "SIOOBE_FORMATTER"), (0, u "Ljava/util/function/BiFunction;"), (0, .class_ 126), (0, u "jdk/internal/util/Preconditions$2"), (3, u "AIOOBE_FORMATTER"), (0, .class_ 132), (0, u "jdk/internal/util/Preconditions$3"), (3, u "IOOBE_FORMATTER")] 57

def k11m0 : Method := { name := "<init>", desc := "()V", sig := { parameters := [], returnType := none }, accessFlags := 1, code := none }
/-- jdk/internal/util/Preconditions -/
def k11 : Class := { plain "jdk/internal/util/Preconditions" (some 0) with
  accessFlags := 33
  interfaces := #[]
  cf := some (fileOf pool11 24 #[.nestMembers #[55, 131, 125, 114]] #[{ accessFlags := 1, nameIndex := 5, descriptorIndex := 6, attributes := #[] }] 33 2 #[] #[{ accessFlags := 25, nameIndex := 123, descriptorIndex := 124, attributes := #[] }, { accessFlags := 25, nameIndex := 130, descriptorIndex := 124, attributes := #[] }, { accessFlags := 25, nameIndex := 136, descriptorIndex := 124, attributes := #[] }])
  fields := #[{ name := "SIOOBE_FORMATTER", type := (.object "java/util/function/BiFunction"), accessFlags := 25, slot := 0, constantValue := 0 }, { name := "AIOOBE_FORMATTER", type := (.object "java/util/function/BiFunction"), accessFlags := 25, slot := 1, constantValue := 0 }, { name := "IOOBE_FORMATTER", type := (.object "java/util/function/BiFunction"), accessFlags := 25, slot := 2, constantValue := 0 }]
  methods := #[k11m0]
  instanceTypes := #[]
  staticTypes := #[(.object "java/util/function/BiFunction"), (.object "java/util/function/BiFunction"), (.object "java/util/function/BiFunction")]
  resolved := Array.replicate 194 none
  statics := some 1 }

def pool12 : Array CpInfo := pool [(9, u "<init>"), (6, .class_ 18), (1, u "java/lang/Object"), (0, u "()V"), (1, .class_ 23), (1, u "jdk/internal/util/ArraysSupport"), (0, u "LOG2_ARRAY_LONG_INDEX_SCALE"), (0, u "I"), (2, u "U"), (0, u "Ljdk/internal/misc/Unsafe;"), (8, u "BIG_ENDIAN"), (0, u "Z"), (8, u "LOG2_BYTE_BIT_SIZE"), (4, u "LOG2_ARRAY_INT_INDEX_SCALE"), (54, u "JLA"), (0, u "Ljdk/internal/access/JavaLangAccess;"), (11, u "LOG2_ARRAY_BOOLEAN_INDEX_SCALE"), (9, u "LOG2_ARRAY_BYTE_INDEX_SCALE"), (5, u "LOG2_ARRAY_CHAR_INDEX_SCALE"), (5, u "LOG2_ARRAY_SHORT_INDEX_SCALE"), (18, u "LOG2_ARRAY_FLOAT_INDEX_SCALE"), (24, u "LOG2_ARRAY_DOUBLE_INDEX_SCALE"), (89, u "T_BOOLEAN"), (2, u "T_CHAR"), (1, u "T_FLOAT"), (1, u "T_DOUBLE"), (1, u "T_BYTE"), (1, u "T_SHORT"), (1, u "T_INT"), (1, u "T_LONG"), (1, u "SOFT_MAX_ARRAY_LENGTH")] 83

def k12m0 : Method := { name := "<init>", desc := "()V", sig := { parameters := [], returnType := none }, accessFlags := 2, code := none }
/-- jdk/internal/util/ArraysSupport -/
def k12 : Class := { plain "jdk/internal/util/ArraysSupport" (some 0) with
  accessFlags := 33
  interfaces := #[]
  cf := some (fileOf pool12 21 #[] #[{ accessFlags := 2, nameIndex := 9, descriptorIndex := 19, attributes := #[] }] 33 16 #[] #[{ accessFlags := 24, nameIndex := 28, descriptorIndex := 29, attributes := #[] }, { accessFlags := 26, nameIndex := 38, descriptorIndex := 39, attributes := #[] }, { accessFlags := 25, nameIndex := 121, descriptorIndex := 25, attributes := #[] }, { accessFlags := 25, nameIndex := 131, descriptorIndex := 25, attributes := #[] }, { accessFlags := 25, nameIndex := 137, descriptorIndex := 25, attributes := #[] }, { accessFlags := 25, nameIndex := 143, descriptorIndex := 25, attributes := #[] }, { accessFlags := 25, nameIndex := 53, descriptorIndex := 25, attributes := #[] }, { accessFlags := 25, nameIndex := 24, descriptorIndex := 25, attributes := #[] }, { accessFlags := 25, nameIndex := 162, descriptorIndex := 25, attributes := #[] }, { accessFlags := 25, nameIndex := 187, descriptorIndex := 25, attributes := #[] }, { accessFlags := 26, nameIndex := 48, descriptorIndex := 25, attributes := #[] }, { accessFlags := 25, nameIndex := 277, descriptorIndex := 25, attributes := #[] }, { accessFlags := 25, nameIndex := 280, descriptorIndex := 25, attributes := #[] }, { accessFlags := 25, nameIndex := 282, descriptorIndex := 25, attributes := #[] }, { accessFlags := 25, nameIndex := 284, descriptorIndex := 25, attributes := #[] }, { accessFlags := 25, nameIndex := 286, descriptorIndex := 25, attributes := #[] }, { accessFlags := 25, nameIndex := 288, descriptorIndex := 25, attributes := #[] }, { accessFlags := 25, nameIndex := 290, descriptorIndex := 25, attributes := #[] }, { accessFlags := 25, nameIndex := 292, descriptorIndex := 25, attributes := #[] }, { accessFlags := 26, nameIndex := 108, descriptorIndex := 109, attributes := #[] }, { accessFlags := 25, nameIndex := 294, descriptorIndex := 25, attributes := #[] }])
  fields := #[{ name := "U", type := (.object "jdk/internal/misc/Unsafe"), accessFlags := 24, slot := 0, constantValue := 0 }, { name := "BIG_ENDIAN", type := .boolean, accessFlags := 26, slot := 1, constantValue := 0 }, { name := "LOG2_ARRAY_BOOLEAN_INDEX_SCALE", type := .int, accessFlags := 25, slot := 2, constantValue := 0 }, { name := "LOG2_ARRAY_BYTE_INDEX_SCALE", type := .int, accessFlags := 25, slot := 3, constantValue := 0 }, { name := "LOG2_ARRAY_CHAR_INDEX_SCALE", type := .int, accessFlags := 25, slot := 4, constantValue := 0 }, { name := "LOG2_ARRAY_SHORT_INDEX_SCALE", type := .int, accessFlags := 25, slot := 5, constantValue := 0 }, { name := "LOG2_ARRAY_INT_INDEX_SCALE", type := .int, accessFlags := 25, slot := 6, constantValue := 0 }, { name := "LOG2_ARRAY_LONG_INDEX_SCALE", type := .int, accessFlags := 25, slot := 7, constantValue := 0 }, { name := "LOG2_ARRAY_FLOAT_INDEX_SCALE", type := .int, accessFlags := 25, slot := 8, constantValue := 0 }, { name := "LOG2_ARRAY_DOUBLE_INDEX_SCALE", type := .int, accessFlags := 25, slot := 9, constantValue := 0 }, { name := "LOG2_BYTE_BIT_SIZE", type := .int, accessFlags := 26, slot := 10, constantValue := 0 }, { name := "T_BOOLEAN", type := .int, accessFlags := 25, slot := 11, constantValue := 0 }, { name := "T_CHAR", type := .int, accessFlags := 25, slot := 12, constantValue := 0 }, { name := "T_FLOAT", type := .int, accessFlags := 25, slot := 13, constantValue := 0 }, { name := "T_DOUBLE", type := .int, accessFlags := 25, slot := 14, constantValue := 0 }, { name := "T_BYTE", type := .int, accessFlags := 25, slot := 15, constantValue := 0 }, { name := "T_SHORT", type := .int, accessFlags := 25, slot := 16, constantValue := 0 }, { name := "T_INT", type := .int, accessFlags := 25, slot := 17, constantValue := 0 }, { name := "T_LONG", type := .int, accessFlags := 25, slot := 18, constantValue := 0 }, { name := "JLA", type := (.object "jdk/internal/access/JavaLangAccess"), accessFlags := 26, slot := 19, constantValue := 0 }, { name := "SOFT_MAX_ARRAY_LENGTH", type := .int, accessFlags := 25, slot := 20, constantValue := 0 }]
  methods := #[k12m0]
  instanceTypes := #[]
  staticTypes := #[(.object "jdk/internal/misc/Unsafe"), .boolean, .int, .int, .int, .int, .int, .int, .int, .int, .int, .int, .int, .int, .int, .int, .int, .int, .int, (.object "jdk/internal/access/JavaLangAccess"), .int]
  resolved := Array.replicate 378 none
  statics := none }

def pool13 : Array CpInfo := pool [(1, u "java/lang/Cloneable"), (0, .class_ 1), (0, u "java/lang/Object"), (0, .class_ 3)] 3

/-- java/lang/Cloneable -/
def k13 : Class := { plain "java/lang/Cloneable" (some 0) with
  accessFlags := 1537
  interfaces := #[]
  cf := some (fileOf pool13 2 #[] #[] 1537 4 #[] #[])
  fields := #[]
  methods := #[]
  instanceTypes := #[]
  staticTypes := #[]
  resolved := Array.replicate 8 none
  statics := none }

/-- the primitive byte -/
def k14 : Class := { plain "byte" none with kind := .primitive 'B', accessFlags := 0x411 }
/-- [B -/
def k15 : Class := { plain "[B" (some 0) with kind := .array 14 .byte, interfaces := #[13, 2], accessFlags := 1041 }

/-- the primitive char -/
def k16 : Class := { plain "char" none with kind := .primitive 'C', accessFlags := 0x411 }
/-- [C -/
def k17 : Class := { plain "[C" (some 0) with kind := .array 16 .char, interfaces := #[13, 2], accessFlags := 1041 }

/-- the primitive int -/
def k18 : Class := { plain "int" none with kind := .primitive 'I', accessFlags := 0x411 }
/-- [I -/
def k19 : Class := { plain "[I" (some 0) with kind := .array 18 .int, interfaces := #[13, 2], accessFlags := 1041 }

def heap : Heap := #[{ cls := 7, slots := #[.long 0, .int 1, .null, .int 0, .null, .int 0, .int 0], vm := .statics 7 },
  { cls := 11, slots := #[.null, .null, .null], vm := .statics 11 }]
def classes : Array Class := #[k0, k1, k2, k3, k4, k5, k6, k7, k8, k9, k10, k11, k12, k13, k14, k15, k16, k17, k18, k19]
def interned : List (Array UInt16 × Addr) := []
def slotsUsed : Nat := 10
def theMethod : MethodId := ⟨1, 2⟩
def args0 : Array Value := #[.int 0, .int 3, .int 2]
def aboutOver (below : List Frame) : State where
  vm := { classes := classes, interned := interned.toArray }
  heap := heap
  slotsUsed := slotsUsed
  threads := #[{ frames := .invoking theMethod args0 :: below }]
def below0 : List Frame := [.native { method := ⟨0, 0⟩, args := #[] }]
def about1 : State := aboutOver below0
def p0 : Program := .bare "" "" ""
def e0 : Env := launch0.env 0 0 0
theorem w_frames : about1.frames = Frame.invoking theMethod args0 :: below0 := rfl
set_option maxRecDepth 65536 in
theorem w_args : argsFit about1.vm theMethod args0 = true := by decide +kernel
set_option maxRecDepth 65536 in
theorem w_heap : heapFits about1 = true := by decide +kernel
set_option maxRecDepth 65536 in
theorem w_runnable : about1.curStatus? = some .runnable := by decide +kernel
set_option maxRecDepth 65536 in
theorem w_alone : about1.alone = true := by decide +kernel
set_option maxRecDepth 65536 in
theorem w_named : about1.methodNamed? x = some theMethod := by decide +kernel
set_option maxRecDepth 65536 in
theorem w_hears : about1.hears theMethod below0 = true := by decide +kernel
set_option maxRecDepth 65536 in
theorem w_ripe : about1.ripe theMethod args0 below0 = true := by decide +kernel
theorem w_running : about1.status = .running := rfl
set_option maxRecDepth 65536 in
theorem w_room : about1.hasRoom e0.platform room_1 = true :=
  launch0.hasRoom_least _ room_1 (by decide +kernel) (by decide +kernel) (by decide +kernel) (by decide +kernel) (by decide +kernel) (by decide +kernel)
theorem allAtoms_all (ts : List Jvm.Cond) (a : Array Jvm.Value) (st : Jvm.State) : (allAtoms ts).before a st = ts.all (fun c => c.before a st) := by
  induction ts with
  | nil => rfl
  | cons c t ih =>
    show (Jvm.Cond.and c (allAtoms t)).before a st = _
    rw [Jvm.Cond.before_and, ih, List.all_cons]
def words1 : List Jvm.Cond := Jvm.Cond.code x code maxLocals ret :: tables_1
/-- a 'code' word, met by the world's own term for the bytes: nothing is compared byte by byte -/
theorem code_word {y : MethodName} {bytes : ByteArray} {mx : Nat} {rt : Option FieldType} {a : Array Value} {s : State} {m : MethodId} {meth : Method} {c : Code} (h1 : s.methodNamed? y = some m) (h2 : s.vm.method? m = some meth) (h3 : meth.code = some c) (h4 : c.code = bytes)
    (h5 : (c.maxLocals == mx && c.exceptionTable.isEmpty && decide (c.maxStack ≤ mostOperands) && decide (meth.sig.returnType = rt) && !meth.locks && decide (parseMethodDescriptor y.desc = some meth.sig)) = true) : (Jvm.Cond.code y bytes mx rt).before a s = true := by
  simp only [Bool.and_eq_true, beq_iff_eq, Bool.not_eq_true', decide_eq_true_eq] at h5
  obtain ⟨⟨⟨⟨⟨g1, g2⟩, g3⟩, g4⟩, g5⟩, g6⟩ := h5
  simp [Cond.before, Cond.holds, Cond.value, h1, h2, h3, h4, g1, g2, g3, g4, g5, g6]
def isCode : Jvm.Cond → Bool
  | .code _ _ _ _ => true
  | _ => false
theorem all_split {L : List Jvm.Cond} {P : Jvm.Cond → Bool} (h1 : L.all (fun c => isCode c || P c) = true) (h2 : ∀ c ∈ L.filter isCode, P c = true) : L.all P = true := by
  refine List.all_eq_true.mpr fun c hc => ?_
  have h := List.all_eq_true.mp h1 c hc
  rcases Bool.eq_false_or_eq_true (isCode c) with hi | hi
  · exact h2 c (List.mem_filter.mpr ⟨hc, hi⟩)
  · simpa [hi] using h
set_option maxRecDepth 65536 in
theorem w_c0 : (Jvm.Cond.code x code maxLocals ret).before args0 about1 = true := code_word (m := ⟨1, 2⟩) (meth := k1m2) (c := k1c2) (by decide +kernel) rfl rfl rfl (by decide +kernel)
set_option maxRecDepth 65536 in
theorem w_c1 : (Jvm.Cond.code ({ cls := "com/example/rosterwright/rosterwright/FaultsNotePinLaw", name := "mk", desc := "(I)Ljava/lang/String;" } : Jvm.MethodName) method_2_code (4 : Nat) (Option.some (Jvm.ClassFile.FieldType.object "java/lang/String"))).before args0 about1 = true := code_word (m := ⟨1, 1⟩) (meth := k1m1) (c := k1c1) (by decide +kernel) rfl rfl rfl (by decide +kernel)
set_option maxRecDepth 65536 in
theorem w_c2 : (Jvm.Cond.code ({ cls := "java/lang/String", name := "<init>", desc := "([C)V" } : Jvm.MethodName) jdk_42_method_3_code (2 : Nat) (Option.none : Option Jvm.ClassFile.FieldType)).before args0 about1 = true := code_word (m := ⟨7, 1⟩) (meth := k7m1) (c := k7c1) (by decide +kernel) rfl rfl rfl (by decide +kernel)
set_option maxRecDepth 65536 in
theorem w_c3 : (Jvm.Cond.code ({ cls := "java/lang/String", name := "<init>", desc := "([CIILjava/lang/Void;)V" } : Jvm.MethodName) jdk_42_method_149_code (6 : Nat) (Option.none : Option Jvm.ClassFile.FieldType)).before args0 about1 = true := code_word (m := ⟨7, 3⟩) (meth := k7m3) (c := k7c3) (by decide +kernel) rfl rfl rfl (by decide +kernel)
set_option maxRecDepth 65536 in
theorem w_c4 : (Jvm.Cond.code ({ cls := "java/lang/Object", name := "<init>", desc := "()V" } : Jvm.MethodName) object_method_1_code (1 : Nat) (Option.none : Option Jvm.ClassFile.FieldType)).before args0 about1 = true := code_word (m := ⟨0, 0⟩) (meth := k0m0) (c := k0c0) (by decide +kernel) rfl rfl rfl (by decide +kernel)
set_option maxRecDepth 65536 in
theorem w_c5 : (Jvm.Cond.code ({ cls := "java/lang/StringUTF16", name := "compress", desc := "([CII)[B" } : Jvm.MethodName) jdk_52_method_16_code (6 : Nat) (Option.some (Jvm.ClassFile.FieldType.array Jvm.ClassFile.FieldType.byte))).before args0 about1 = true := code_word (m := ⟨8, 2⟩) (meth := k8m2) (c := k8c2) (by decide +kernel) rfl rfl rfl (by decide +kernel)
set_option maxRecDepth 65536 in
theorem w_c6 : (Jvm.Cond.code ({ cls := "java/lang/StringUTF16", name := "compress", desc := "([CI[BII)I" } : Jvm.MethodName) jdk_52_method_21_code (7 : Nat) (Option.some Jvm.ClassFile.FieldType.int)).before args0 about1 = true := code_word (m := ⟨8, 3⟩) (meth := k8m3) (c := k8c3) (by decide +kernel) rfl rfl rfl (by decide +kernel)
set_option maxRecDepth 65536 in
theorem w_c7 : (Jvm.Cond.code ({ cls := "java/lang/StringUTF16", name := "coderFromArrayLen", desc := "([BI)B" } : Jvm.MethodName) jdk_52_method_15_code (2 : Nat) (Option.some Jvm.ClassFile.FieldType.byte)).before args0 about1 = true := code_word (m := ⟨8, 1⟩) (meth := k8m1) (c := k8c1) (by decide +kernel) rfl rfl rfl (by decide +kernel)
set_option maxRecDepth 65536 in
theorem w_c8 : (Jvm.Cond.code ({ cls := "java/lang/String", name := "valueOf", desc := "(C)Ljava/lang/String;" } : Jvm.MethodName) jdk_42_method_139_code (1 : Nat) (Option.some (Jvm.ClassFile.FieldType.object "java/lang/String"))).before args0 about1 = true := code_word (m := ⟨7, 2⟩) (meth := k7m2) (c := k7c2) (by decide +kernel) rfl rfl rfl (by decide +kernel)
set_option maxRecDepth 65536 in
theorem w_c9 : (Jvm.Cond.code ({ cls := "java/lang/StringLatin1", name := "canEncode", desc := "(C)Z" } : Jvm.MethodName) jdk_43_method_3_code (1 : Nat) (Option.some Jvm.ClassFile.FieldType.boolean)).before args0 about1 = true := code_word (m := ⟨9, 1⟩) (meth := k9m1) (c := k9c1) (by decide +kernel) rfl rfl rfl (by decide +kernel)
set_option maxRecDepth 65536 in
theorem w_c10 : (Jvm.Cond.code ({ cls := "java/lang/StringLatin1", name := "toBytes", desc := "(C)[B" } : Jvm.MethodName) jdk_43_method_46_code (1 : Nat) (Option.some (Jvm.ClassFile.FieldType.array Jvm.ClassFile.FieldType.byte))).before args0 about1 = true := code_word (m := ⟨9, 2⟩) (meth := k9m2) (c := k9c2) (by decide +kernel) rfl rfl rfl (by decide +kernel)
set_option maxRecDepth 65536 in
theorem w_c11 : (Jvm.Cond.code ({ cls := "java/lang/String", name := "<init>", desc := "([BB)V" } : Jvm.MethodName) jdk_42_method_151_code (3 : Nat) (Option.none : Option Jvm.ClassFile.FieldType)).before args0 about1 = true := code_word (m := ⟨7, 4⟩) (meth := k7m4) (c := k7c4) (by decide +kernel) rfl rfl rfl (by decide +kernel)
set_option maxRecDepth 65536 in
theorem w_c12 : (Jvm.Cond.code ({ cls := "com/example/rosterwright/rosterwright/Destination$Faults", name := "<init>", desc := "()V" } : Jvm.MethodName) prog_17_method_1_code (1 : Nat) (Option.none : Option Jvm.ClassFile.FieldType)).before args0 about1 = true := code_word (m := ⟨10, 0⟩) (meth := k10m0) (c := k10c0) (by decide +kernel) rfl rfl rfl (by decide +kernel)
set_option maxRecDepth 65536 in
theorem w_c13 : (Jvm.Cond.code ({ cls := "com/example/rosterwright/rosterwright/Destination$Faults", name := "first", desc := "()Ljava/lang/String;" } : Jvm.MethodName) prog_17_method_3_code (1 : Nat) (Option.some (Jvm.ClassFile.FieldType.object "java/lang/String"))).before args0 about1 = true := code_word (m := ⟨10, 1⟩) (meth := k10m1) (c := k10c1) (by decide +kernel) rfl rfl rfl (by decide +kernel)
set_option maxRecDepth 65536 in
theorem w_c14 : (Jvm.Cond.code ({ cls := "com/example/rosterwright/rosterwright/Destination$Faults", name := "note", desc := "(Ljava/lang/String;)V" } : Jvm.MethodName) prog_17_method_4_code (2 : Nat) (Option.none : Option Jvm.ClassFile.FieldType)).before args0 about1 = true := code_word (m := ⟨10, 2⟩) (meth := k10m2) (c := k10c2) (by decide +kernel) rfl rfl rfl (by decide +kernel)
def codes1 : List Jvm.Cond := [Jvm.Cond.code x code maxLocals ret, Jvm.Cond.code ({ cls := "com/example/rosterwright/rosterwright/FaultsNotePinLaw", name := "mk", desc := "(I)Ljava/lang/String;" } : Jvm.MethodName) method_2_code (4 : Nat) (Option.some (Jvm.ClassFile.FieldType.object "java/lang/String")), Jvm.Cond.code ({ cls := "java/lang/String", name := "<init>", desc := "([C)V" } : Jvm.MethodName) jdk_42_method_3_code (2 : Nat) (Option.none : Option Jvm.ClassFile.FieldType), Jvm.Cond.code ({ cls := "java/lang/String", name := "<init>", desc := "([CIILjava/lang/Void;)V" } : Jvm.MethodName) jdk_42_method_149_code (6 : Nat) (Option.none : Option Jvm.ClassFile.FieldType), Jvm.Cond.code ({ cls := "java/lang/Object", name := "<init>", desc := "()V" } : Jvm.MethodName) object_method_1_code (1 : Nat) (Option.none : Option Jvm.ClassFile.FieldType), Jvm.Cond.code ({ cls := "java/lang/StringUTF16", name := "compress", desc := "([CII)[B" } : Jvm.MethodName) jdk_52_method_16_code (6 : Nat) (Option.some (Jvm.ClassFile.FieldType.array Jvm.ClassFile.FieldType.byte)), Jvm.Cond.code ({ cls := "java/lang/StringUTF16", name := "compress", desc := "([CI[BII)I" } : Jvm.MethodName) jdk_52_method_21_code (7 : Nat) (Option.some Jvm.ClassFile.FieldType.int), Jvm.Cond.code ({ cls := "java/lang/StringUTF16", name := "coderFromArrayLen", desc := "([BI)B" } : Jvm.MethodName) jdk_52_method_15_code (2 : Nat) (Option.some Jvm.ClassFile.FieldType.byte), Jvm.Cond.code ({ cls := "java/lang/String", name := "valueOf", desc := "(C)Ljava/lang/String;" } : Jvm.MethodName) jdk_42_method_139_code (1 : Nat) (Option.some (Jvm.ClassFile.FieldType.object "java/lang/String")), Jvm.Cond.code ({ cls := "java/lang/StringLatin1", name := "canEncode", desc := "(C)Z" } : Jvm.MethodName) jdk_43_method_3_code (1 : Nat) (Option.some Jvm.ClassFile.FieldType.boolean), Jvm.Cond.code ({ cls := "java/lang/StringLatin1", name := "toBytes", desc := "(C)[B" } : Jvm.MethodName) jdk_43_method_46_code (1 : Nat) (Option.some (Jvm.ClassFile.FieldType.array Jvm.ClassFile.FieldType.byte)), Jvm.Cond.code ({ cls := "java/lang/String", name := "<init>", desc := "([BB)V" } : Jvm.MethodName) jdk_42_method_151_code (3 : Nat) (Option.none : Option Jvm.ClassFile.FieldType), Jvm.Cond.code ({ cls := "com/example/rosterwright/rosterwright/Destination$Faults", name := "<init>", desc := "()V" } : Jvm.MethodName) prog_17_method_1_code (1 : Nat) (Option.none : Option Jvm.ClassFile.FieldType), Jvm.Cond.code ({ cls := "com/example/rosterwright/rosterwright/Destination$Faults", name := "first", desc := "()Ljava/lang/String;" } : Jvm.MethodName) prog_17_method_3_code (1 : Nat) (Option.some (Jvm.ClassFile.FieldType.object "java/lang/String")), Jvm.Cond.code ({ cls := "com/example/rosterwright/rosterwright/Destination$Faults", name := "note", desc := "(Ljava/lang/String;)V" } : Jvm.MethodName) prog_17_method_4_code (2 : Nat) (Option.none : Option Jvm.ClassFile.FieldType)]
set_option maxRecDepth 65536 in
theorem codes_eq : words1.filter isCode = codes1 := rfl
theorem w_codes : ∀ c ∈ words1.filter isCode, c.before args0 about1 = true := by
  rw [codes_eq]
  intro c hc
  simp only [codes1, List.mem_cons, List.not_mem_nil, or_false] at hc
  rcases hc with rfl | rfl | rfl | rfl | rfl | rfl | rfl | rfl | rfl | rfl | rfl | rfl | rfl | rfl | rfl
  · exact w_c0
  · exact w_c1
  · exact w_c2
  · exact w_c3
  · exact w_c4
  · exact w_c5
  · exact w_c6
  · exact w_c7
  · exact w_c8
  · exact w_c9
  · exact w_c10
  · exact w_c11
  · exact w_c12
  · exact w_c13
  · exact w_c14
set_option maxRecDepth 65536 in
theorem w_t1 : (words1.take 24).all (fun c => isCode c || c.before args0 about1) = true := by decide +kernel
set_option maxRecDepth 65536 in
theorem w_t2 : ((words1.drop 24).take 24).all (fun c => isCode c || c.before args0 about1) = true := by decide +kernel
set_option maxRecDepth 65536 in
theorem w_t3 : ((words1.drop 24).drop 24).all (fun c => isCode c || c.before args0 about1) = true := by decide +kernel
theorem w_tables : (allAtoms (Jvm.Cond.code x code maxLocals ret :: tables_1)).before args0 about1 = true := by
  rw [allAtoms_all]
  show words1.all (fun c => c.before args0 about1) = true
  refine all_split ?_ w_codes
  rw [← List.take_append_drop 24 words1, List.all_append, w_t1, ← List.take_append_drop 24 (words1.drop 24), List.all_append, w_t2, w_t3]
  rfl
set_option maxRecDepth 65536 in
theorem w_rest : rest_1_c.before args0 about1 = true := by decide +kernel
set_option maxRecDepth 65536 in
theorem w_case : (Jvm.Cond.and given_1 narrow_1).before args0 about1 = true := by decide +kernel
set_option maxRecDepth 65536 in
theorem w_consts : constsHeld consts_1 about1 := Jvm.Lit.constsHeldB_iff.mp (by decide +kernel)
theorem w_applies : (headSpec (Jvm.Cond.code x code maxLocals ret :: tables_1) room_1).applies x e0.platform about1 = true :=
  (Spec.applies_iff w_frames).mpr ⟨w_running, w_runnable, w_alone, w_named, w_hears, w_ripe, w_room, w_tables⟩
theorem atStart : AtStart classFile x code maxLocals ret World_1 tables_1 room_1 Calls_1 rest_1 Pre_1 launch0 p0 e0 about1 theMethod args0 below0 :=
  ⟨lists_1, trivial, launch0.admits_env _ _ _, launch0.least_env, fairChoices_fair.cas, fairChoices_fair.clock, w_frames, w_args, w_heap, w_applies, ⟨w_consts, trivial⟩, w_rest, w_case⟩
end start1
theorem witness_1 : WitnessClaimed_1 := ⟨start1.p0, start1.e0, start1.about1, start1.theMethod, start1.args0, start1.below0, start1.atStart⟩
end Jvm.Pilot.@@N@@
