import JvmDerived
import JvmDerived.Pilot.@@N@@Statement
import JvmDerived.Pilot.@@N@@Code
set_option linter.unusedVariables false
set_option linter.unusedSimpArgs false
namespace Jvm.Pilot.@@N@@
open Jvm Jvm.ClassFile Sem Op Lib Jvm.Free Jvm.Stand Jvm.LawKit Jvm.RoadKit Bundle Jvm.Pilot.@@N@@.Jvm.D
section own_walk
variable {p : Program} {l : Launch} {e : Env} {R : Room} {s : State} {m : MethodId} {args : Array Value} {below : List Frame} {meth : Method} {c : Code} {T : State} {locs : List Loc} {cells slots : Nat} {Z : State} {h h' : Heap}
def own_Fin (p : Program) (e : Env) (below : List Frame) (P : Outcome → State → Prop) (g : State) : Prop :=
  ∃ s₂ o, Steps p.tables e below g s₂ ∧ s₂.status = .running ∧ Ended s₂ below o ∧ P o s₂
def own_P (Q : Option Value → Heap → List Loc → Prop) (s : State) (k n : Nat) (o : Outcome) (s₂ : State) : Prop :=
  ∃ v L, o = .returned v ∧ Q v s₂.heap L ∧ FrameEnd s o s₂ L k n
theorem own_via {P : Outcome → State → Prop} {g g' : State} (k : ∀ t, Steps p.tables e below g' t → Steps p.tables e below g t) (H : own_Fin p e below P g') : own_Fin p e below P g := by
  obtain ⟨s₂, o, a, b⟩ := H
  exact ⟨s₂, o, k _ a, b⟩
theorem own_ret {v : Option Value} {g : State} {Q : Option Value → Heap → List Loc → Prop} {k n : Nat} (X : Stand p l e R s m args below meth c T locs cells slots) (hlk : meth.locks = false) (hv : meth.sig.returnType = none → v = none)
    (hst : ∀ fs, (∀ (f : JFrame) (acts : List Action), f.method = m → f.locked = none → f.entered = [] → (doReturn e (T.setTop f) acts v).1 = T.setFrames fs) → Steps p.tables e below g (T.setFrames fs))
    (hQ : Q v T.heap locs) (hk : cells ≤ k) (hn : slots ≤ n) : own_Fin p e below (own_P Q s k n) g := by
  obtain ⟨fs, hr, hrun, hended, hW, hsame⟩ := X.leave (v := v) hv hlk
  exact ⟨_, _, hst fs hr, hrun, hended, _, _, rfl, hQ, ⟨_, rfl⟩, hW, hsame.mono hk hn⟩
theorem own_retW {w : Value} {t : FieldType} {i : Instr} {pc : Nat} {Ls : Array Slot} {rest : List Value} {Q : Option Value → Heap → List Loc → Prop} {k n : Nat} (X : Stand p l e R s m args below meth c T locs cells slots) (hx : p.tables.exec = Jvm.exec) (hlk : meth.locks = false) (hret : meth.sig.returnType = some t) (hnw : narrow t w = w)
    (hi : (i = .ireturn ∧ (t = .int ∨ t = .boolean ∨ t = .byte ∨ t = .char ∨ t = .short) ∧ ∃ z, w = .int z) ∨ (i = .lreturn ∧ t = .long ∧ ∃ z, w = .long z) ∨ (i = .dreturn ∧ t = .double ∧ ∃ z, w = .double z) ∨ (i = .freturn ∧ t = .float ∧ ∃ z, w = .float z) ∨ (i = .areturn ∧ t.isReference = true ∧ w.isRef = true))
    (hd : decode c.code pc = .ok (i, 1)) (hQ : Q (some w) T.heap locs) (hk : cells ≤ k) (hn : slots ≤ n) : own_Fin p e below (own_P Q s k n) (T.setTop (mkF m pc Ls (w :: rest))) :=
  own_ret X hlk (fun q => by rw [hret] at q; cases q) (fun fs hr => retOut X hx hret hnw hi hd hr) hQ hk hn
theorem own_retI {z : Int32} {pc : Nat} {Ls : Array Slot} {rest : List Value} {Q : Option Value → Heap → List Loc → Prop} {k n : Nat} (X : Stand p l e R s m args below meth c T locs cells slots) (hx : p.tables.exec = Jvm.exec) (hlk : meth.locks = false) (hret : meth.sig.returnType = some .int)
    (hd : decode c.code pc = .ok (.ireturn, 1)) (hQ : Q (some (.int z)) T.heap locs) (hk : cells ≤ k) (hn : slots ≤ n) : own_Fin p e below (own_P Q s k n) (T.setTop (mkF m pc Ls (.int z :: rest))) :=
  own_retW X hx hlk hret rfl (Or.inl ⟨rfl, Or.inl rfl, z, rfl⟩) hd hQ hk hn
theorem own_retJ {z : Int64} {pc : Nat} {Ls : Array Slot} {rest : List Value} {Q : Option Value → Heap → List Loc → Prop} {k n : Nat} (X : Stand p l e R s m args below meth c T locs cells slots) (hx : p.tables.exec = Jvm.exec) (hlk : meth.locks = false) (hret : meth.sig.returnType = some .long)
    (hd : decode c.code pc = .ok (.lreturn, 1)) (hQ : Q (some (.long z)) T.heap locs) (hk : cells ≤ k) (hn : slots ≤ n) : own_Fin p e below (own_P Q s k n) (T.setTop (mkF m pc Ls (.long z :: rest))) :=
  own_retW X hx hlk hret rfl (Or.inr (Or.inl ⟨rfl, rfl, z, rfl⟩)) hd hQ hk hn
theorem own_nref {t : FieldType} {w : Value} (hw : w.isRef = true) : narrow t w = w := by
  cases w <;> first | (cases t <;> rfl) | (cases hw)
theorem own_fitR {c : String} {w : Value} (hw : w.isRef = true) : fits (.object c) w = true := by
  cases w <;> first | rfl | (cases hw)
theorem own_retA {w : Value} {t : FieldType} {pc : Nat} {Ls : Array Slot} {rest : List Value} {Q : Option Value → Heap → List Loc → Prop} {k n : Nat} (X : Stand p l e R s m args below meth c T locs cells slots) (hx : p.tables.exec = Jvm.exec) (hlk : meth.locks = false) (hw : w.isRef = true) (hret : meth.sig.returnType = some t) (ht : t.isReference = true)
    (hd : decode c.code pc = .ok (.areturn, 1)) (hQ : Q (some w) T.heap locs) (hk : cells ≤ k) (hn : slots ≤ n) : own_Fin p e below (own_P Q s k n) (T.setTop (mkF m pc Ls (w :: rest))) :=
  own_retW X hx hlk hret (own_nref hw) (Or.inr (Or.inr (Or.inr (Or.inr ⟨rfl, ht, hw⟩)))) hd hQ hk hn
theorem own_retB {z : Int32} {t : FieldType} {pc : Nat} {Ls : Array Slot} {rest : List Value} {Q : Option Value → Heap → List Loc → Prop} {k n : Nat} (X : Stand p l e R s m args below meth c T locs cells slots) (hx : p.tables.exec = Jvm.exec) (hlk : meth.locks = false) (hret : meth.sig.returnType = some t) (ht : t = .boolean ∨ t = .byte ∨ t = .char ∨ t = .short)
    (hd : decode c.code pc = .ok (.ireturn, 1)) (hQ : Q (some (.int (nar t z))) T.heap locs) (hk : cells ≤ k) (hn : slots ≤ n) : own_Fin p e below (own_P Q s k n) (T.setTop (mkF m pc Ls (.int z :: rest))) :=
  own_ret X hlk (fun q => by rw [hret] at q; cases q) (fun fs hr => retN X hx hret ht hd hr) hQ hk hn
theorem own_retV {pc : Nat} {Ls : Array Slot} {Q : Option Value → Heap → List Loc → Prop} {k n : Nat} (X : Stand p l e R s m args below meth c T locs cells slots) (hx : p.tables.exec = Jvm.exec) (hlk : meth.locks = false) (hret : meth.sig.returnType = none)
    (hd : decode c.code pc = .ok (.return_, 1)) (hQ : Q none T.heap locs) (hk : cells ≤ k) (hn : slots ≤ n) : own_Fin p e below (own_P Q s k n) (T.setTop (mkF m pc Ls [])) :=
  own_ret X hlk (fun _ => rfl) (fun fs hr => X.returnOut hx hret hd hr) hQ hk hn
/-- an array: its kind and its members -/
def own_Ar (Z : State) (h : Heap) (a : Addr) (ty : FieldType) (L : List Value) : Prop := ∃ c : Cell, Arr Z h a c ty ∧ c.slots.toList = L
theorem own_Ar.ext {a : Addr} {ty : FieldType} {L : List Value} (F : own_Ar Z h a ty L) (E : Ext h h') : own_Ar Z h' a ty L := by obtain ⟨c, A, r⟩ := F; exact ⟨c, A.ext E, r⟩
theorem own_Ar.other {a b : Addr} {sl : Nat} {v : Value} {ty : FieldType} {L : List Value} (F : own_Ar Z h b ty L) (W : Wr h h' a sl v) (q : b ≠ a) : own_Ar Z h' b ty L := by obtain ⟨c, A, r⟩ := F; exact ⟨c, A.other W q, r⟩
theorem own_Ar.keep {a : Addr} {ws : List Addr} {ty : FieldType} {L : List Value} (F : own_Ar Z h a ty L) (K : Keep h h' ws) (q : a ∉ ws) : own_Ar Z h' a ty L := by obtain ⟨c, A, r⟩ := F; exact ⟨c, ⟨K.2.1 a c A.1 q, A.2⟩, r⟩
theorem own_Ar.lt {a : Addr} {ty : FieldType} {L : List Value} (F : own_Ar Z h a ty L) : a < h.size := by obtain ⟨c, A, r⟩ := F; exact A.lt
theorem own_Ar.set {a : Addr} {j : Nat} {v : Value} {ty : FieldType} {L : List Value} (F : own_Ar Z h a ty L) (W : Wr h h' a j v) : own_Ar Z h' a ty (L.set j v) := by
  obtain ⟨c, A, r⟩ := F
  refine ⟨_, A.same W, ?_⟩
  subst r
  simp [Cell.setSlot]
theorem own_in {c : Cell} {L : List Value} (r : c.slots.toList = L) {j : Int32} (h0 : ¬ j < 0) (hj : j.toNatClampNeg < L.length) : ¬ (j < 0 ∨ c.slots.size ≤ j.toNatClampNeg) := by
  subst r
  simp only [Array.length_toList] at hj
  intro q
  rcases q with q | q
  · exact h0 q
  · omega
theorem own_at {c : Cell} {L : List Value} (r : c.slots.toList = L) {j : Nat} {v : Value} (hv : L[j]? = some v) : c.slots[j]? = some v := by
  subst r; simpa using hv
theorem own_inv {c : Cell} {L : List Value} (r : c.slots.toList = L) {j : Int32} {v : Value} (h0 : ¬ j < 0) (hv : L[j.toNatClampNeg]? = some v) : ¬ (j < 0 ∨ c.slots.size ≤ j.toNatClampNeg) :=
  own_in r h0 (List.getElem?_eq_some_iff.mp hv).1
theorem own_newP {a0 : Array Value} (X : Stand p l e R s m args below meth c T locs cells slots) (hx : p.tables.exec = Jvm.exec) (hZ : Z.Warmed39 s.vm) {aty : ArrayType} (w : (Cond.arrayClass (newarray.typeOf aty)).before a0 Z = true) (eT : T.heap = h) {g : JFrame} (hg : g.method = m) (hd : decode c.code g.pc = .ok (.newarray aty, 2)) {n : Int32} {rest : List Value} (hs : g.stack = .int n :: rest)
    (hn : ¬ n < 0) {cap : Nat} (hcap : n.toNatClampNeg ≤ cap) (hb : cap * 8 ≤ 536870912) (hc : cells + 1 ≤ R.cells) (hl : slots + cap ≤ R.slots) :
    ∃ T' h', Stand p l e R s m args below meth c T' locs (cells + 1) (slots + cap) ∧ T'.heap = h' ∧ Ext h h' ∧ own_Ar Z h' h.size (newarray.typeOf aty) (List.replicate n.toNatClampNeg (defaultValue (newarray.typeOf aty))) ∧
      ∀ target, Steps p.tables e below (T'.setTop { g with pc := g.pc + 2, stack := .ref h.size :: rest }) target → Steps p.tables e below (T.setTop g) target := by
  obtain ⟨T', h', cA, X', e', E', A', st⟩ := newP X hx hZ w eT hg hd hs hn hcap hb hc hl
  exact ⟨T', h', X', e', E', ⟨_, A', by simp [newA]⟩, st⟩
theorem own_stJ (X : Stand p l e R s m args below meth c T locs cells slots) (hx : p.tables.exec = Jvm.exec) (hZ : Z.Warmed39 s.vm) (eT : T.heap = h) {a : Addr} {L : List Value} (A : own_Ar Z h a .long L) {j : Int32} {x : Int64} (h0 : ¬ j < 0) (hj : j.toNatClampNeg < L.length) {g : JFrame} (hg : g.method = m) {rest : List Value} (hs : g.stack = .long x :: .int j :: .ref a :: rest) (hd : decode c.code g.pc = .ok (.lastore, 1)) :
    ∃ T' h', Stand p l e R s m args below meth c T' (locs ++ [⟨a, j.toNatClampNeg⟩]) cells slots ∧ T'.heap = h' ∧ Wr h h' a j.toNatClampNeg (.long x) ∧ own_Ar Z h' a .long (L.set j.toNatClampNeg (.long x)) ∧ ∀ target, Steps p.tables e below (T'.setTop { g with pc := g.pc + 1, stack := rest }) target → Steps p.tables e below (T.setTop g) target := by
  obtain ⟨cl, A', r⟩ := id A
  obtain ⟨T', h', X', e', W', st⟩ := stJ X hx hZ eT A' (own_in r h0 hj) hg hs hd
  exact ⟨T', h', X', e', W', A.set W', st⟩
theorem own_stI (X : Stand p l e R s m args below meth c T locs cells slots) (hx : p.tables.exec = Jvm.exec) (hZ : Z.Warmed39 s.vm) (eT : T.heap = h) {a : Addr} {L : List Value} (A : own_Ar Z h a .int L) {j : Int32} {x : Int32} (h0 : ¬ j < 0) (hj : j.toNatClampNeg < L.length) {g : JFrame} (hg : g.method = m) {rest : List Value} (hs : g.stack = .int x :: .int j :: .ref a :: rest) (hd : decode c.code g.pc = .ok (.iastore, 1)) :
    ∃ T' h', Stand p l e R s m args below meth c T' (locs ++ [⟨a, j.toNatClampNeg⟩]) cells slots ∧ T'.heap = h' ∧ Wr h h' a j.toNatClampNeg (.int x) ∧ own_Ar Z h' a .int (L.set j.toNatClampNeg (.int x)) ∧ ∀ target, Steps p.tables e below (T'.setTop { g with pc := g.pc + 1, stack := rest }) target → Steps p.tables e below (T.setTop g) target := by
  obtain ⟨cl, A', r⟩ := id A
  obtain ⟨T', h', X', e', W', st⟩ := stI X hx hZ eT A' (own_in r h0 hj) hg hs hd
  exact ⟨T', h', X', e', W', A.set W', st⟩
theorem own_stB (X : Stand p l e R s m args below meth c T locs cells slots) (hx : p.tables.exec = Jvm.exec) (hZ : Z.Warmed39 s.vm) (eT : T.heap = h) {a : Addr} {L : List Value} (A : own_Ar Z h a .byte L) {j : Int32} {x : Int32} (h0 : ¬ j < 0) (hj : j.toNatClampNeg < L.length) {g : JFrame} (hg : g.method = m) {rest : List Value} (hs : g.stack = .int x :: .int j :: .ref a :: rest) (hd : decode c.code g.pc = .ok (.bastore, 1)) :
    ∃ T' h', Stand p l e R s m args below meth c T' (locs ++ [⟨a, j.toNatClampNeg⟩]) cells slots ∧ T'.heap = h' ∧ Wr h h' a j.toNatClampNeg (.int (nar .byte x)) ∧ own_Ar Z h' a .byte (L.set j.toNatClampNeg (.int (nar .byte x))) ∧ ∀ target, Steps p.tables e below (T'.setTop { g with pc := g.pc + 1, stack := rest }) target → Steps p.tables e below (T.setTop g) target := by
  obtain ⟨cl, A', r⟩ := id A
  obtain ⟨T', h', X', e', W', st⟩ := stB X hx hZ eT A' (own_in r h0 hj) hg hs hd
  exact ⟨T', h', X', e', W', A.set W', st⟩
theorem own_stZ (X : Stand p l e R s m args below meth c T locs cells slots) (hx : p.tables.exec = Jvm.exec) (hZ : Z.Warmed39 s.vm) (eT : T.heap = h) {a : Addr} {L : List Value} (A : own_Ar Z h a .boolean L) {j : Int32} {x : Int32} (h0 : ¬ j < 0) (hj : j.toNatClampNeg < L.length) {g : JFrame} (hg : g.method = m) {rest : List Value} (hs : g.stack = .int x :: .int j :: .ref a :: rest) (hd : decode c.code g.pc = .ok (.bastore, 1)) :
    ∃ T' h', Stand p l e R s m args below meth c T' (locs ++ [⟨a, j.toNatClampNeg⟩]) cells slots ∧ T'.heap = h' ∧ Wr h h' a j.toNatClampNeg (.int (nar .boolean x)) ∧ own_Ar Z h' a .boolean (L.set j.toNatClampNeg (.int (nar .boolean x))) ∧ ∀ target, Steps p.tables e below (T'.setTop { g with pc := g.pc + 1, stack := rest }) target → Steps p.tables e below (T.setTop g) target := by
  obtain ⟨cl, A', r⟩ := id A
  obtain ⟨T', h', X', e', W', st⟩ := stZ X hx hZ eT A' (own_in r h0 hj) hg hs hd
  exact ⟨T', h', X', e', W', A.set W', st⟩
theorem own_stC (X : Stand p l e R s m args below meth c T locs cells slots) (hx : p.tables.exec = Jvm.exec) (hZ : Z.Warmed39 s.vm) (eT : T.heap = h) {a : Addr} {L : List Value} (A : own_Ar Z h a .char L) {j : Int32} {x : Int32} (h0 : ¬ j < 0) (hj : j.toNatClampNeg < L.length) {g : JFrame} (hg : g.method = m) {rest : List Value} (hs : g.stack = .int x :: .int j :: .ref a :: rest) (hd : decode c.code g.pc = .ok (.castore, 1)) :
    ∃ T' h', Stand p l e R s m args below meth c T' (locs ++ [⟨a, j.toNatClampNeg⟩]) cells slots ∧ T'.heap = h' ∧ Wr h h' a j.toNatClampNeg (.int (nar .char x)) ∧ own_Ar Z h' a .char (L.set j.toNatClampNeg (.int (nar .char x))) ∧ ∀ target, Steps p.tables e below (T'.setTop { g with pc := g.pc + 1, stack := rest }) target → Steps p.tables e below (T.setTop g) target := by
  obtain ⟨cl, A', r⟩ := id A
  obtain ⟨T', h', X', e', W', st⟩ := stC X hx hZ eT A' (own_in r h0 hj) hg hs hd
  exact ⟨T', h', X', e', W', A.set W', st⟩
theorem own_ldJ (X : Stand p l e R s m args below meth c T locs cells slots) (hx : p.tables.exec = Jvm.exec) (hZ : Z.Warmed39 s.vm) (eT : T.heap = h) {a : Addr} {L : List Value} (A : own_Ar Z h a .long L) {j : Int32} {v : Value} (h0 : ¬ j < 0) (hv : L[j.toNatClampNeg]? = some v) {g : JFrame} (hg : g.method = m) {rest : List Value} (hs : g.stack = .int j :: .ref a :: rest) (hd : decode c.code g.pc = .ok (.laload, 1)) (target : State)
    (hr : Steps p.tables e below (T.setTop { g with pc := g.pc + 1, stack := v :: rest }) target) : Steps p.tables e below (T.setTop g) target := by
  obtain ⟨cl, A', r⟩ := A
  exact X.laload hx (by rw [eT]; exact A'.1) (State.isArrayOf_alike hZ.alike A'.2.1) A'.2.2 (own_inv r h0 hv) (own_at r hv) hg hs hd target hr
theorem own_ldI (X : Stand p l e R s m args below meth c T locs cells slots) (hx : p.tables.exec = Jvm.exec) (hZ : Z.Warmed39 s.vm) (eT : T.heap = h) {a : Addr} {L : List Value} (A : own_Ar Z h a .int L) {j : Int32} {v : Value} (h0 : ¬ j < 0) (hv : L[j.toNatClampNeg]? = some v) {g : JFrame} (hg : g.method = m) {rest : List Value} (hs : g.stack = .int j :: .ref a :: rest) (hd : decode c.code g.pc = .ok (.iaload, 1)) (target : State)
    (hr : Steps p.tables e below (T.setTop { g with pc := g.pc + 1, stack := v :: rest }) target) : Steps p.tables e below (T.setTop g) target := by
  obtain ⟨cl, A', r⟩ := A
  exact X.iaload hx (by rw [eT]; exact A'.1) (State.isArrayOf_alike hZ.alike A'.2.1) A'.2.2 (own_inv r h0 hv) (own_at r hv) hg hs hd target hr
theorem own_ldB (X : Stand p l e R s m args below meth c T locs cells slots) (hx : p.tables.exec = Jvm.exec) (hZ : Z.Warmed39 s.vm) (eT : T.heap = h) {a : Addr} {L : List Value} (A : own_Ar Z h a .byte L) {j : Int32} {v : Value} (h0 : ¬ j < 0) (hv : L[j.toNatClampNeg]? = some v) {g : JFrame} (hg : g.method = m) {rest : List Value} (hs : g.stack = .int j :: .ref a :: rest) (hd : decode c.code g.pc = .ok (.baload, 1)) (target : State)
    (hr : Steps p.tables e below (T.setTop { g with pc := g.pc + 1, stack := v :: rest }) target) : Steps p.tables e below (T.setTop g) target := by
  obtain ⟨cl, A', r⟩ := A
  exact X.baloadBytes hx (by rw [eT]; exact A'.1) (State.isArrayOf_alike hZ.alike A'.2.1) A'.2.2 (own_inv r h0 hv) (own_at r hv) hg hs hd target hr
theorem own_ldZ (X : Stand p l e R s m args below meth c T locs cells slots) (hx : p.tables.exec = Jvm.exec) (hZ : Z.Warmed39 s.vm) (eT : T.heap = h) {a : Addr} {L : List Value} (A : own_Ar Z h a .boolean L) {j : Int32} {v : Value} (h0 : ¬ j < 0) (hv : L[j.toNatClampNeg]? = some v) {g : JFrame} (hg : g.method = m) {rest : List Value} (hs : g.stack = .int j :: .ref a :: rest) (hd : decode c.code g.pc = .ok (.baload, 1)) (target : State)
    (hr : Steps p.tables e below (T.setTop { g with pc := g.pc + 1, stack := v :: rest }) target) : Steps p.tables e below (T.setTop g) target := by
  obtain ⟨cl, A', r⟩ := A
  exact X.baloadBooleans hx (by rw [eT]; exact A'.1) (State.isArrayOf_alike hZ.alike A'.2.1) A'.2.2 (own_inv r h0 hv) (own_at r hv) hg hs hd target hr
theorem own_ldC (X : Stand p l e R s m args below meth c T locs cells slots) (hx : p.tables.exec = Jvm.exec) (hZ : Z.Warmed39 s.vm) (eT : T.heap = h) {a : Addr} {L : List Value} (A : own_Ar Z h a .char L) {j : Int32} {v : Value} (h0 : ¬ j < 0) (hv : L[j.toNatClampNeg]? = some v) {g : JFrame} (hg : g.method = m) {rest : List Value} (hs : g.stack = .int j :: .ref a :: rest) (hd : decode c.code g.pc = .ok (.caload, 1)) (target : State)
    (hr : Steps p.tables e below (T.setTop { g with pc := g.pc + 1, stack := v :: rest }) target) : Steps p.tables e below (T.setTop g) target := by
  obtain ⟨cl, A', r⟩ := A
  exact X.caload hx (by rw [eT]; exact A'.1) (State.isArrayOf_alike hZ.alike A'.2.1) A'.2.2 (own_inv r h0 hv) (own_at r hv) hg hs hd target hr
theorem own_len (X : Stand p l e R s m args below meth c T locs cells slots) (hx : p.tables.exec = Jvm.exec) (hZ : Z.Warmed39 s.vm) (eT : T.heap = h) {a : Addr} {ty : FieldType} {L : List Value} (A : own_Ar Z h a ty L) {n : Int32} (hn : L.length.toInt32 = n) {g : JFrame} (hg : g.method = m) {rest : List Value} (hs : g.stack = .ref a :: rest) (hd : decode c.code g.pc = .ok (.arraylength, 1)) (target : State)
    (hr : Steps p.tables e below (T.setTop { g with pc := g.pc + 1, stack := .int n :: rest }) target) : Steps p.tables e below (T.setTop g) target := by
  obtain ⟨cl, A', r⟩ := A
  refine X.arraylength hx (by rw [eT]; exact A'.1) (State.isArrayOf_alike hZ.alike A'.2.1) hg hs hd target ?_
  have q : cl.slots.size.toInt32 = n := by rw [← hn, ← r]; simp
  rw [q]; exact hr
theorem own_sta_keep {C n d : String} {w : Value} {ws : List Addr} (F : Sta Z h C n d w) (K : Keep h h' ws) (q : ∀ (a : Addr) (c : Cell), h[a]? = some c → c.vm.isStatics = true → a ∉ ws) : Sta Z h' C n d w := by
  obtain ⟨cf, i, k, f, st, cell, h1, h2, h3, h4, h5, h6, h7⟩ := F
  exact ⟨cf, i, k, f, st, cell, h1, h2, h3, h4, K.2.1 st cell h5 (q st cell h5 h6), h6, h7⟩
theorem own_nr {a b : Addr} (q : ¬ Value.ref a = Value.ref b) : ¬ a = b := fun r => q (congrArg Value.ref r)
end own_walk
section own_walkS
variable {p : Program} {l : Launch} {e : Env} {R : Room} {s : State} {vm0 : Vm} {kS : Nat} {m : MethodId} {args : Array Value} {below : List Frame} {meth : Method} {c : Code} {T : State} {locs : List Loc} {cells slots : Nat} {Z : State} {h h' : Heap}
def own_PW (Q : Option Value → Heap → List Loc → Prop) (s : State) (k n : Nat) (o : Outcome) (s₂ : State) : Prop :=
  ∃ v L, o = .returned v ∧ Q v s₂.heap L ∧ ReturnedEndW s o s₂ L k n
theorem own_retS {v : Option Value} {g : State} {Q : Option Value → Heap → List Loc → Prop} {k n : Nat} (X : Stand p l e R (s.setVm vm0) m args below meth c T locs cells slots) (hS : s.Since vm0 kS) (hk : kS ≤ T.heap.size) (hlk : meth.locks = false) (hv : meth.sig.returnType = none → v = none)
    (hst : ∀ fs, (∀ (f : JFrame) (acts : List Action), f.method = m → f.locked = none → f.entered = [] → (doReturn e (T.setTop f) acts v).1 = T.setFrames fs) → Steps p.tables e below g (T.setFrames fs))
    (hQ : Q v T.heap locs) (hc : cells ≤ k) (hn : slots ≤ n) : own_Fin p e below (own_PW Q s k n) g := by
  obtain ⟨fs, hr, hrun, hended, hE⟩ := X.leaveW hS hk (v := v) hv hlk
  exact ⟨_, _, hst fs hr, hrun, hended, _, _, rfl, hQ, hE.1, hE.2.1, hE.2.2.1, hE.2.2.2.mono hc hn⟩
theorem own_retWS {w : Value} {t : FieldType} {i : Instr} {pc : Nat} {Ls : Array Slot} {rest : List Value} {Q : Option Value → Heap → List Loc → Prop} {k n : Nat} (X : Stand p l e R (s.setVm vm0) m args below meth c T locs cells slots) (hS : s.Since vm0 kS) (hkS : kS ≤ T.heap.size) (hx : p.tables.exec = Jvm.exec) (hlk : meth.locks = false) (hret : meth.sig.returnType = some t) (hnw : narrow t w = w)
    (hi : (i = .ireturn ∧ (t = .int ∨ t = .boolean ∨ t = .byte ∨ t = .char ∨ t = .short) ∧ ∃ z, w = .int z) ∨ (i = .lreturn ∧ t = .long ∧ ∃ z, w = .long z) ∨ (i = .dreturn ∧ t = .double ∧ ∃ z, w = .double z) ∨ (i = .freturn ∧ t = .float ∧ ∃ z, w = .float z) ∨ (i = .areturn ∧ t.isReference = true ∧ w.isRef = true))
    (hd : decode c.code pc = .ok (i, 1)) (hQ : Q (some w) T.heap locs) (hk : cells ≤ k) (hn : slots ≤ n) : own_Fin p e below (own_PW Q s k n) (T.setTop (mkF m pc Ls (w :: rest))) :=
  own_retS X hS hkS hlk (fun q => by rw [hret] at q; cases q) (fun fs hr => retOut X hx hret hnw hi hd hr) hQ hk hn
theorem own_retIS {z : Int32} {pc : Nat} {Ls : Array Slot} {rest : List Value} {Q : Option Value → Heap → List Loc → Prop} {k n : Nat} (X : Stand p l e R (s.setVm vm0) m args below meth c T locs cells slots) (hS : s.Since vm0 kS) (hkS : kS ≤ T.heap.size) (hx : p.tables.exec = Jvm.exec) (hlk : meth.locks = false) (hret : meth.sig.returnType = some .int)
    (hd : decode c.code pc = .ok (.ireturn, 1)) (hQ : Q (some (.int z)) T.heap locs) (hk : cells ≤ k) (hn : slots ≤ n) : own_Fin p e below (own_PW Q s k n) (T.setTop (mkF m pc Ls (.int z :: rest))) :=
  own_retWS X hS hkS hx hlk hret rfl (Or.inl ⟨rfl, Or.inl rfl, z, rfl⟩) hd hQ hk hn
theorem own_retJS {z : Int64} {pc : Nat} {Ls : Array Slot} {rest : List Value} {Q : Option Value → Heap → List Loc → Prop} {k n : Nat} (X : Stand p l e R (s.setVm vm0) m args below meth c T locs cells slots) (hS : s.Since vm0 kS) (hkS : kS ≤ T.heap.size) (hx : p.tables.exec = Jvm.exec) (hlk : meth.locks = false) (hret : meth.sig.returnType = some .long)
    (hd : decode c.code pc = .ok (.lreturn, 1)) (hQ : Q (some (.long z)) T.heap locs) (hk : cells ≤ k) (hn : slots ≤ n) : own_Fin p e below (own_PW Q s k n) (T.setTop (mkF m pc Ls (.long z :: rest))) :=
  own_retWS X hS hkS hx hlk hret rfl (Or.inr (Or.inl ⟨rfl, rfl, z, rfl⟩)) hd hQ hk hn
theorem own_retAS {w : Value} {t : FieldType} {pc : Nat} {Ls : Array Slot} {rest : List Value} {Q : Option Value → Heap → List Loc → Prop} {k n : Nat} (X : Stand p l e R (s.setVm vm0) m args below meth c T locs cells slots) (hS : s.Since vm0 kS) (hkS : kS ≤ T.heap.size) (hx : p.tables.exec = Jvm.exec) (hlk : meth.locks = false) (hw : w.isRef = true) (hret : meth.sig.returnType = some t) (ht : t.isReference = true)
    (hd : decode c.code pc = .ok (.areturn, 1)) (hQ : Q (some w) T.heap locs) (hk : cells ≤ k) (hn : slots ≤ n) : own_Fin p e below (own_PW Q s k n) (T.setTop (mkF m pc Ls (w :: rest))) :=
  own_retWS X hS hkS hx hlk hret (own_nref hw) (Or.inr (Or.inr (Or.inr (Or.inr ⟨rfl, ht, hw⟩)))) hd hQ hk hn
theorem own_retBS {z : Int32} {t : FieldType} {pc : Nat} {Ls : Array Slot} {rest : List Value} {Q : Option Value → Heap → List Loc → Prop} {k n : Nat} (X : Stand p l e R (s.setVm vm0) m args below meth c T locs cells slots) (hS : s.Since vm0 kS) (hkS : kS ≤ T.heap.size) (hx : p.tables.exec = Jvm.exec) (hlk : meth.locks = false) (hret : meth.sig.returnType = some t) (ht : t = .boolean ∨ t = .byte ∨ t = .char ∨ t = .short)
    (hd : decode c.code pc = .ok (.ireturn, 1)) (hQ : Q (some (.int (nar t z))) T.heap locs) (hk : cells ≤ k) (hn : slots ≤ n) : own_Fin p e below (own_PW Q s k n) (T.setTop (mkF m pc Ls (.int z :: rest))) :=
  own_retS X hS hkS hlk (fun q => by rw [hret] at q; cases q) (fun fs hr => retN X hx hret ht hd hr) hQ hk hn
theorem own_retVS {pc : Nat} {Ls : Array Slot} {Q : Option Value → Heap → List Loc → Prop} {k n : Nat} (X : Stand p l e R (s.setVm vm0) m args below meth c T locs cells slots) (hS : s.Since vm0 kS) (hkS : kS ≤ T.heap.size) (hx : p.tables.exec = Jvm.exec) (hlk : meth.locks = false) (hret : meth.sig.returnType = none)
    (hd : decode c.code pc = .ok (.return_, 1)) (hQ : Q none T.heap locs) (hk : cells ≤ k) (hn : slots ≤ n) : own_Fin p e below (own_PW Q s k n) (T.setTop (mkF m pc Ls [])) :=
  own_retS X hS hkS hlk (fun _ => rfl) (fun fs hr => X.returnOut hx hret hd hr) hQ hk hn
end own_walkS
theorem own_eqi {args : Array Value} {s : State} {t : Term} {k : Int32} (h : (Jvm.Cond.eq t (.int k)).value args s none s [] = some true) : t.eval args s none [] s = some (.int k) := by
  obtain ⟨u, v, hu, hv, -, kk⟩ := cmp_v (Or.inl h)
  have ev : v = .int k := Option.some.inj (hv.symm.trans (Term.int_eval k))
  subst ev
  obtain ⟨z, rfl⟩ := kk
  rw [hu, gotT (Cond.eq_ints hu hv) h]
theorem own_ord {args : Array Value} {s : State} {t : Term} {x : Addr} {C n d : String} {k : Int32} (e : t.eval args s none [] s = some (.ref x)) (h : (Jvm.Cond.eq (.field t C n d) (.int k)).value args s none s [] = some true) : s.fieldOf? x C n d = some (.int k) := by
  obtain ⟨u, v, hu, hv, -, kk⟩ := cmp_v (Or.inl h)
  have ev : v = .int k := Option.some.inj (hv.symm.trans (Term.int_eval k))
  subst ev
  obtain ⟨z, rfl⟩ := kk
  rw [fld_at e] at hu
  have hu' : (Term.field t C n d).eval args s none [] s = some (.int z) := by rw [fld_at e]; exact hu
  rw [hu, gotT (Cond.eq_ints hu' hv) h]
theorem own_wS {Z : State} {a0 : Array Value} (hw : ∀ d ∈ tables_1, d.before a0 Z = true) : ∀ a ∈ Bundle.stringAtoms, a.before a0 Z = true := fun d hd => by
  simp only [Bundle.stringAtoms, List.mem_cons, List.not_mem_nil, or_false] at hd
  rcases hd with rfl | rfl | rfl | rfl | rfl | rfl | rfl
  · exact (hw _ (List.mem_of_getElem? (i := 8) rfl))
  · exact (hw _ (List.mem_of_getElem? (i := 9) rfl))
  · exact (hw _ (List.mem_of_getElem? (i := 10) rfl))
  · exact (hw _ (List.mem_of_getElem? (i := 11) rfl))
  · exact (hw _ (List.mem_of_getElem? (i := 12) rfl))
  · exact (hw _ (List.mem_of_getElem? (i := 13) rfl))
  · exact (hw _ (List.mem_of_getElem? (i := 14) rfl))
abbrev own_EL : List (String × Nat) := consts_1
theorem own_hEL {Z : State} {a0 : Array Value} (hw : ∀ d ∈ tables_1, d.before a0 Z = true) : EW Z a0 own_EL := (EW.cons (hw _ (List.mem_of_getElem? (i := 7) rfl)) (by decide) (EW.nil))
section own_walkH
variable {p : Program} {l : Launch} {e : Env} {R : Room} {s : State} {vm0 : Vm} {kS : Nat} {m : MethodId} {args : Array Value} {below : List Frame} {meth : Method} {c : Code} {T : State} {locs : List Loc} {cells slots : Nat} {Z : State} {h h' : Heap}
def own_PH (Z : State) (Q : Option Value → Heap → List Loc → Prop) (s : State) (k n : Nat) (o : Outcome) (s₂ : State) : Prop :=
  ∃ v L, o = .returned v ∧ Q v s₂.heap L ∧ CHr Z own_EL s.vm s.heap s₂.vm s₂.heap ∧ ReturnedEndW s o s₂ L k n
theorem own_Ar.safe {EL : List (String × Nat)} {vm : Vm} {a : Addr} {ty : FieldType} {L : List Value} (hal : Z.vm.Alike vm) (F : own_Ar Z h a ty L) (ht : ty ≠ .byte) : Safe Z EL vm h a := by
  obtain ⟨c, A, -⟩ := F; exact Safe.arr hal A ht
theorem own_Ar.ofArv {a : Addr} {k : ClassId} {ty : FieldType} {z : Int32} {vs : List Value} {d : Value} (F : Arv Z h a k ty z vs d) (hl : z.toNatClampNeg = vs.length) : own_Ar Z h a ty vs := by
  obtain ⟨c, A, -, hs, -, H, -⟩ := F
  refine ⟨c, A, ?_⟩
  apply List.ext_getElem?
  intro i
  by_cases hi : i < c.slots.size
  · have q := H i hi
    have hv : i < vs.length := by omega
    rw [Array.getElem?_toList, q, List.getElem?_eq_getElem hv]
    simp [List.getD, List.getElem?_eq_getElem hv]
  · rw [List.getElem?_eq_none (by simp only [Array.length_toList]; omega), List.getElem?_eq_none (by omega)]
theorem own_backH {EL : List (String × Nat)} {a0 : Array Value} {y : MethodName} {bytes : ByteArray} {maxL : Nat} {ret : Option FieldType} {rm : Room} {len W : Nat} {as' : Array Value} {xs : List Addr} {Q : Option Value → Heap → List Loc → Prop}
    (hM : MetFree l y (head1 [Jvm.Cond.code y bytes maxL ret] rm) (fun a U => a = as' ∧ Z.Warmed39 U.vm ∧ U.heap = h ∧ CHv Z EL U.vm h ∧ ∀ x ∈ xs, Safe Z EL U.vm h x) (fun _ _ _ _ _ => True) (fun _ U o U' => ∃ v L, o = .returned v ∧ Q v U'.heap L ∧ CHr Z EL U.vm U.heap U'.vm U'.heap ∧ ReturnedEndW U o U' L rm.cells rm.slots))
    (hZ : Z.Warmed39 vm0) (wc : (Jvm.Cond.code y bytes maxL ret).before a0 Z = true) (wz : (Jvm.Cond.initialized y.cls).before a0 Z = true) (hf : rm.frames + 1 ≤ R.frames) (hl : W + (maxL + 11) + rm.locals ≤ R.locals) (hEL : EW Z a0 EL) (H : CHv Z EL vm0 h) (hs : ∀ x ∈ xs, x < h.size ∧ Safe Z EL vm0 h x) :
    BackS l R p e below (s.setVm vm0) args y len W (fun A a => a = as' ∧ A.U.heap = h ∧ A.cells + rm.cells ≤ R.cells ∧ A.slots + rm.slots ≤ R.slots)
      (fun A _ v B => ∃ L, Q v B.U.heap L ∧ B.locs = A.locs ++ L ∧ B.cells = A.cells + rm.cells ∧ B.slots = A.slots + rm.slots ∧ CHr Z EL vm0 h B.U.vm B.U.heap) := by
  refine BackS.of_freeW (bytes := bytes) (maxL := maxL) (ret := ret) (E := fun _ first o t L k n => k = rm.cells ∧ n = rm.slots ∧ (∃ v, o = .returned v ∧ Q v t.heap L) ∧ CHr Z EL first.vm first.heap t.vm t.heap) hM hf hl ?_ ?_ ?_ ?_ ?_
  · intro m meth c A a Y hp
    have hU : Z.Warmed39 A.U.vm := wtrans (s := s.setVm vm0) hZ Y.warmed
    exact ⟨by show (Jvm.Cond.and _ .tt).before a A.U = true; rw [Cond.before_and, mv hU wc]; rfl, mv hU wc, mv hU wz, hp.2.2.1, hp.2.2.2⟩
  · intro m meth c A a g mk Y hp
    have q := CHv.at Y hZ hEL H
    exact ⟨hp.1, wtrans (s := s.setVm vm0) hZ Y.warmed, hp.2.1, q.1, fun x hx => q.safe (hs x hx).1 (hs x hx).2⟩
  · intros; trivial
  · rintro _ _ _ _ ⟨v, L, h1, h2, h3, h4⟩
    exact ⟨L, _, _, h4, rfl, rfl, ⟨v, h1, h2⟩, h3⟩
  · rintro m meth c A a g mk v t L k n Y hp _ _ ⟨e1, e2, ⟨v', e3, e4⟩, e5⟩
    cases e3; subst e1 e2
    refine ⟨L, e4, rfl, rfl, rfl, (CHv.at Y hZ hEL H).trans ?_⟩
    rw [← hp.2.1]; exact e5
theorem own_retHH {v : Option Value} {g : State} {Q : Option Value → Heap → List Loc → Prop} {k n : Nat} (X : Stand p l e R (s.setVm vm0) m args below meth c T locs cells slots) (hS : s.Since vm0 kS) (hk : kS ≤ T.heap.size) (hlk : meth.locks = false) (hv : meth.sig.returnType = none → v = none)
    (hst : ∀ fs, (∀ (f : JFrame) (acts : List Action), f.method = m → f.locked = none → f.entered = [] → (doReturn e (T.setTop f) acts v).1 = T.setFrames fs) → Steps p.tables e below g (T.setFrames fs))
    (hCR : CHr Z own_EL s.vm s.heap T.vm T.heap) (hQ : Q v T.heap locs) (hc : cells ≤ k) (hn : slots ≤ n) : own_Fin p e below (own_PH Z Q s k n) g := by
  obtain ⟨fs, hr, hrun, hended, hE⟩ := X.leaveW hS hk (v := v) hv hlk
  exact ⟨_, _, hst fs hr, hrun, hended, _, _, rfl, hQ, hCR, hE.1, hE.2.1, hE.2.2.1, hE.2.2.2.mono hc hn⟩
theorem own_retWH {w : Value} {t : FieldType} {i : Instr} {pc : Nat} {Ls : Array Slot} {rest : List Value} {Q : Option Value → Heap → List Loc → Prop} {k n : Nat} (X : Stand p l e R (s.setVm vm0) m args below meth c T locs cells slots) (hS : s.Since vm0 kS) (hkS : kS ≤ T.heap.size) (hx : p.tables.exec = Jvm.exec) (hlk : meth.locks = false) (hret : meth.sig.returnType = some t) (hnw : narrow t w = w)
    (hi : (i = .ireturn ∧ (t = .int ∨ t = .boolean ∨ t = .byte ∨ t = .char ∨ t = .short) ∧ ∃ z, w = .int z) ∨ (i = .lreturn ∧ t = .long ∧ ∃ z, w = .long z) ∨ (i = .dreturn ∧ t = .double ∧ ∃ z, w = .double z) ∨ (i = .freturn ∧ t = .float ∧ ∃ z, w = .float z) ∨ (i = .areturn ∧ t.isReference = true ∧ w.isRef = true))
    (hd : decode c.code pc = .ok (i, 1)) (hCR : CHr Z own_EL s.vm s.heap T.vm T.heap) (hQ : Q (some w) T.heap locs) (hk : cells ≤ k) (hn : slots ≤ n) : own_Fin p e below (own_PH Z Q s k n) (T.setTop (mkF m pc Ls (w :: rest))) :=
  own_retHH X hS hkS hlk (fun q => by rw [hret] at q; cases q) (fun fs hr => retOut X hx hret hnw hi hd hr) hCR hQ hk hn
theorem own_retIH {z : Int32} {pc : Nat} {Ls : Array Slot} {rest : List Value} {Q : Option Value → Heap → List Loc → Prop} {k n : Nat} (X : Stand p l e R (s.setVm vm0) m args below meth c T locs cells slots) (hS : s.Since vm0 kS) (hkS : kS ≤ T.heap.size) (hx : p.tables.exec = Jvm.exec) (hlk : meth.locks = false) (hret : meth.sig.returnType = some .int)
    (hd : decode c.code pc = .ok (.ireturn, 1)) (hCR : CHr Z own_EL s.vm s.heap T.vm T.heap) (hQ : Q (some (.int z)) T.heap locs) (hk : cells ≤ k) (hn : slots ≤ n) : own_Fin p e below (own_PH Z Q s k n) (T.setTop (mkF m pc Ls (.int z :: rest))) :=
  own_retWH X hS hkS hx hlk hret rfl (Or.inl ⟨rfl, Or.inl rfl, z, rfl⟩) hd hCR hQ hk hn
theorem own_retJH {z : Int64} {pc : Nat} {Ls : Array Slot} {rest : List Value} {Q : Option Value → Heap → List Loc → Prop} {k n : Nat} (X : Stand p l e R (s.setVm vm0) m args below meth c T locs cells slots) (hS : s.Since vm0 kS) (hkS : kS ≤ T.heap.size) (hx : p.tables.exec = Jvm.exec) (hlk : meth.locks = false) (hret : meth.sig.returnType = some .long)
    (hd : decode c.code pc = .ok (.lreturn, 1)) (hCR : CHr Z own_EL s.vm s.heap T.vm T.heap) (hQ : Q (some (.long z)) T.heap locs) (hk : cells ≤ k) (hn : slots ≤ n) : own_Fin p e below (own_PH Z Q s k n) (T.setTop (mkF m pc Ls (.long z :: rest))) :=
  own_retWH X hS hkS hx hlk hret rfl (Or.inr (Or.inl ⟨rfl, rfl, z, rfl⟩)) hd hCR hQ hk hn
theorem own_retAH {w : Value} {t : FieldType} {pc : Nat} {Ls : Array Slot} {rest : List Value} {Q : Option Value → Heap → List Loc → Prop} {k n : Nat} (X : Stand p l e R (s.setVm vm0) m args below meth c T locs cells slots) (hS : s.Since vm0 kS) (hkS : kS ≤ T.heap.size) (hx : p.tables.exec = Jvm.exec) (hlk : meth.locks = false) (hw : w.isRef = true) (hret : meth.sig.returnType = some t) (ht : t.isReference = true)
    (hd : decode c.code pc = .ok (.areturn, 1)) (hCR : CHr Z own_EL s.vm s.heap T.vm T.heap) (hQ : Q (some w) T.heap locs) (hk : cells ≤ k) (hn : slots ≤ n) : own_Fin p e below (own_PH Z Q s k n) (T.setTop (mkF m pc Ls (w :: rest))) :=
  own_retWH X hS hkS hx hlk hret (own_nref hw) (Or.inr (Or.inr (Or.inr (Or.inr ⟨rfl, ht, hw⟩)))) hd hCR hQ hk hn
theorem own_retBH {z : Int32} {t : FieldType} {pc : Nat} {Ls : Array Slot} {rest : List Value} {Q : Option Value → Heap → List Loc → Prop} {k n : Nat} (X : Stand p l e R (s.setVm vm0) m args below meth c T locs cells slots) (hS : s.Since vm0 kS) (hkS : kS ≤ T.heap.size) (hx : p.tables.exec = Jvm.exec) (hlk : meth.locks = false) (hret : meth.sig.returnType = some t) (ht : t = .boolean ∨ t = .byte ∨ t = .char ∨ t = .short)
    (hd : decode c.code pc = .ok (.ireturn, 1)) (hCR : CHr Z own_EL s.vm s.heap T.vm T.heap) (hQ : Q (some (.int (nar t z))) T.heap locs) (hk : cells ≤ k) (hn : slots ≤ n) : own_Fin p e below (own_PH Z Q s k n) (T.setTop (mkF m pc Ls (.int z :: rest))) :=
  own_retHH X hS hkS hlk (fun q => by rw [hret] at q; cases q) (fun fs hr => retN X hx hret ht hd hr) hCR hQ hk hn
theorem own_retVH {pc : Nat} {Ls : Array Slot} {Q : Option Value → Heap → List Loc → Prop} {k n : Nat} (X : Stand p l e R (s.setVm vm0) m args below meth c T locs cells slots) (hS : s.Since vm0 kS) (hkS : kS ≤ T.heap.size) (hx : p.tables.exec = Jvm.exec) (hlk : meth.locks = false) (hret : meth.sig.returnType = none)
    (hd : decode c.code pc = .ok (.return_, 1)) (hCR : CHr Z own_EL s.vm s.heap T.vm T.heap) (hQ : Q none T.heap locs) (hk : cells ≤ k) (hn : slots ≤ n) : own_Fin p e below (own_PH Z Q s k n) (T.setTop (mkF m pc Ls [])) :=
  own_retHH X hS hkS hlk (fun _ => rfl) (fun fs hr => X.returnOut hx hret hd hr) hCR hQ hk hn
theorem own_sfnew {EL : List (String × Nat)} {vm vm' : Vm} {h1 h2 : Heap} {a : Addr} (_ : CHr Z EL vm h1 vm' h2) (q : h2.size ≤ a) : Safe Z EL vm' h2 a := Safe.new q
end own_walkH

def own_alnum (x : Int32) : Int32 := if ¬ x < 97 ∧ ¬ 122 < x then 1 else if ¬ x < 65 ∧ ¬ 90 < x then 1 else if ¬ x < 48 ∧ ¬ 57 < x then 1 else 0
def own_can (x : Int32) : Int32 := if x < 0 then 0 else if 255 < x then 0 else 1
def own_max (a b : Int32) : Int32 := if a < b then b else a
def own_min (a b : Int32) : Int32 := if b < a then b else a
/-- the first place of c in L, i standing for L's first; -1: none -/
def own_find : List Int32 → Int32 → Int32 → Int32
  | [], _, _ => -1
  | x :: xs, c, i => if x = c then i else own_find xs c (i + 1)
def own_bytes : List Int32 := [(45 : Int32), (46 : Int32), (95 : Int32), (126 : Int32), (33 : Int32), (36 : Int32), (38 : Int32), (39 : Int32), (40 : Int32), (41 : Int32), (42 : Int32), (43 : Int32), (44 : Int32), (59 : Int32), (61 : Int32), (58 : Int32), (64 : Int32), (47 : Int32), (63 : Int32)]
def own_idx (x : Int32) : Int32 := if own_can x = 0 then -1 else own_find own_bytes x.toInt8.toInt32 0
def own_sym (x : Int32) : Int32 := if x < 128 then (if own_idx x < 0 then 0 else 1) else 0
def own_path (x : Int32) : Int32 := if own_alnum x = 0 then own_sym x else 1
def own_exp (o : Int32) : Int32 := if o = 33 then 1 else if ¬ o < 36 ∧ ¬ 59 < o ∧ ¬ o = 37 then 1 else if o = 61 then 1 else if ¬ o < 63 ∧ ¬ 90 < o then 1 else if o = 95 then 1 else if ¬ o < 97 ∧ ¬ 122 < o then 1 else if o = 126 then 1 else 0
set_option maxRecDepth 65536 in
theorem own_fin : ∀ k : Fin 128, own_path (Int32.ofInt (k.val : Int)) = own_exp (Int32.ofInt (k.val : Int)) := by decide +kernel
theorem own_law (x : Int32) : own_path x = own_exp x := by
  by_cases h1 : x < 0
  · have ng : ∀ y : Int32, ¬ y < 0 → x < y := fun y hy => by rw [Int32.lt_iff_toInt_lt] at *; omega
    have ne : ∀ y : Int32, ¬ y < 0 → ¬ x = y := fun y hy q => hy (q ▸ h1)
    have e1 : own_alnum x = 0 := by simp [own_alnum, ng 97 (by decide), ng 65 (by decide), ng 48 (by decide)]
    have e2 : own_idx x = -1 := by simp [own_idx, own_can, h1]
    have e3 : own_path x = 0 := by rw [own_path, if_pos e1, own_sym, if_pos (ng 128 (by decide)), e2]; rfl
    rw [e3]
    simp [own_exp, ne 33 (by decide), ng 36 (by decide), ne 61 (by decide), ng 63 (by decide), ne 95 (by decide), ng 97 (by decide), ne 126 (by decide)]
  · by_cases h2 : x < 128
    · rw [Int32.lt_iff_toInt_lt] at h1 h2
      have a1 : (0 : Int32).toInt = 0 := rfl
      have a2 : (128 : Int32).toInt = 128 := rfl
      rw [a1] at h1; rw [a2] at h2
      have q : x = Int32.ofInt ((x.toInt.toNat : Nat) : Int) := by rw [Int.toNat_of_nonneg (by omega), Int32.ofInt_toInt]
      have := own_fin ⟨x.toInt.toNat, by omega⟩
      rw [q]; exact this
    · have ng : ∀ y : Int32, y < 128 → y < x := fun y hy => by rw [Int32.lt_iff_toInt_lt] at *; omega
      have ne : ∀ y : Int32, y < 128 → ¬ x = y := fun y hy q => h2 (q ▸ hy)
      have e1 : own_alnum x = 0 := by simp [own_alnum, ng 122 (by decide), ng 90 (by decide), ng 57 (by decide)]
      have e3 : own_path x = 0 := by rw [own_path, if_pos e1, own_sym, if_neg h2]
      rw [e3]
      simp [own_exp, ne 33 (by decide), ng 59 (by decide), ne 61 (by decide), ng 90 (by decide), ne 95 (by decide), ng 122 (by decide), ne 126 (by decide)]
theorem own_nlt {i n : Nat} (hi : i ≤ n) (hn : n < 2147483648) : i.toInt32 < n.toInt32 ↔ i < n := by
  rw [Int32.lt_iff_toInt_lt, len_toInt (by omega), len_toInt (by omega)]; omega
theorem own_nn {i : Nat} (h : i < 2147483648) : ¬ i.toInt32 < 0 := by
  rw [Int32.lt_iff_toInt_lt, len_toInt (by omega)]
  have z : (0 : Int32).toInt = 0 := rfl
  omega
theorem own_ix {i : Nat} (h : i < 2147483648) : i.toInt32.toNatClampNeg = i := by
  rw [Int32.toNatClampNeg, len_toInt (by omega)]; omega
theorem own_succ (i : Nat) : i.toInt32 + 1 = (i + 1).toInt32 := (Int32.ofNat_add i 1).symm
theorem own_splitI {A : List Int32} {i : Nat} (h : i < A.length) : ∃ x, A.drop i = x :: A.drop (i + 1) ∧ (A.map Value.int)[i]? = some (.int x) :=
  ⟨A[i], List.drop_eq_getElem_cons h, by rw [List.getElem?_map, List.getElem?_eq_getElem h]; rfl⟩
theorem own_max0 {n : Nat} : own_max (0 : Int32) 0 = 0 := rfl
theorem own_minn (n : Int32) : own_min n n = n := by unfold own_min; split <;> rfl
theorem own_pn0 : plainName "com/example/reuse_signals/reusesignals/signals/UriCharacters" = true := by first | (simp [plainName, overriddenIn]; done) | decide +kernel
theorem own_d2_0 : decode prog_33_method_5_code 0 = .ok (.iload_n 0, 1) := by decide +kernel
theorem own_d2_1 : decode prog_33_method_5_code 1 = .ok (.bipush 97, 2) := by decide +kernel
theorem own_d2_3 : decode prog_33_method_5_code 3 = .ok (.if_icmp .lt 9, 3) := by decide +kernel
theorem own_d2_6 : decode prog_33_method_5_code 6 = .ok (.iload_n 0, 1) := by decide +kernel
theorem own_d2_7 : decode prog_33_method_5_code 7 = .ok (.bipush 122, 2) := by decide +kernel
theorem own_d2_9 : decode prog_33_method_5_code 9 = .ok (.if_icmp .le 27, 3) := by decide +kernel
theorem own_d2_12 : decode prog_33_method_5_code 12 = .ok (.iload_n 0, 1) := by decide +kernel
theorem own_d2_13 : decode prog_33_method_5_code 13 = .ok (.bipush 65, 2) := by decide +kernel
theorem own_d2_15 : decode prog_33_method_5_code 15 = .ok (.if_icmp .lt 9, 3) := by decide +kernel
theorem own_d2_18 : decode prog_33_method_5_code 18 = .ok (.iload_n 0, 1) := by decide +kernel
theorem own_d2_19 : decode prog_33_method_5_code 19 = .ok (.bipush 90, 2) := by decide +kernel
theorem own_d2_21 : decode prog_33_method_5_code 21 = .ok (.if_icmp .le 15, 3) := by decide +kernel
theorem own_d2_24 : decode prog_33_method_5_code 24 = .ok (.iload_n 0, 1) := by decide +kernel
theorem own_d2_25 : decode prog_33_method_5_code 25 = .ok (.bipush 48, 2) := by decide +kernel
theorem own_d2_27 : decode prog_33_method_5_code 27 = .ok (.if_icmp .lt 13, 3) := by decide +kernel
theorem own_d2_30 : decode prog_33_method_5_code 30 = .ok (.iload_n 0, 1) := by decide +kernel
theorem own_d2_31 : decode prog_33_method_5_code 31 = .ok (.bipush 57, 2) := by decide +kernel
theorem own_d2_33 : decode prog_33_method_5_code 33 = .ok (.if_icmp .gt 7, 3) := by decide +kernel
theorem own_d2_36 : decode prog_33_method_5_code 36 = .ok (.iconst 1, 1) := by decide +kernel
theorem own_d2_37 : decode prog_33_method_5_code 37 = .ok (.goto 4, 3) := by decide +kernel
theorem own_d2_40 : decode prog_33_method_5_code 40 = .ok (.iconst 0, 1) := by decide +kernel
theorem own_d2_41 : decode prog_33_method_5_code 41 = .ok (.ireturn, 1) := by decide +kernel
theorem ef_own_rm2 (m : MethodId) (p1 : Int32) : entryFrame m #[(.int p1)] 1 = mkF m 0 #[.val (.int p1)] [] := by first | (simp [entryFrame, mkF, argsToLocals, Value.category]; done) | rfl
def own_rm2_Q (Z : State) (p1 : Int32)  (h0 : Heap) (n0 : Nat) (v : Option Value) (h : Heap) (L : List Loc) : Prop := v = some (.int (own_alnum p1)) ∧ Fr n0 L ∧ h = h0
set_option maxRecDepth 65536 in
set_option maxHeartbeats 40000000 in
theorem own_rm2 (l : Launch) (Z : State) (a0 : Array Value) (hw : ∀ d ∈ tables_1, d.before a0 Z = true) (ws : List Jvm.Cond) (p1 : Int32)  (h0 : Heap) (n0 : Nat) (Z0 : n0 ≤ h0.size) :
    MetFree l (⟨"com/example/reuse_signals/reusesignals/signals/UriCharacters", "isAlphanumeric", "(I)Z"⟩ : MethodName) (head1 (Jvm.Cond.code (⟨"com/example/reuse_signals/reusesignals/signals/UriCharacters", "isAlphanumeric", "(I)Z"⟩ : MethodName) prog_33_method_5_code 1 (some .boolean) :: ws) ({ frames := 0, cells := 0, slots := 0, locals := 0 } : Room)) (fun a U => a = #[(.int p1)] ∧ Z.Warmed39 U.vm ∧ U.heap = h0) (fun _ _ _ _ _ => True) (fun _ U o U' => ∃ v L, o = .returned v ∧ own_rm2_Q Z p1  h0 n0 v U'.heap L ∧ FrameEnd U o U' L ({ frames := 0, cells := 0, slots := 0, locals := 0 } : Room).cells ({ frames := 0, cells := 0, slots := 0, locals := 0 } : Room).slots) := by
  refine MetFree.of_bodySF (plainFor_of_name own_pn0) hisR ?_
  intro p e s m args below meth c s₁ Bd hml0 hP hK
  obtain ⟨rfl, hZ, hh⟩ := hP
  have hx := Bd.exec
  have hby := Bd.bytes
  have hml : c.maxLocals = 1 := hml0
  have hown : s.vm.findClass "com/example/reuse_signals/reusesignals/signals/UriCharacters" = some m.cls := findClass_of_methodNamed Bd.named
  have hnm := (name_of_methodNamed Bd.named Bd.method).1
  have hlk : meth.locks = false := BodyLoose.notSynchronized Bd
  have X0 : Stand p l e ({ frames := 0, cells := 0, slots := 0, locals := 0 } : Room) s m #[(.int p1)] below meth c s₁ [] 0 0 := Stand.of_body Bd
  have e0 : s₁.heap = h0 := by rw [← hh, Bd.state]; rfl
  have N0 := Fr.nil n0
  have K0 : Keep h0 h0 [] := Keep.refl h0 []
  show own_Fin p e below (own_P (own_rm2_Q Z p1  h0 n0) s ({ frames := 0, cells := 0, slots := 0, locals := 0 } : Room).cells ({ frames := 0, cells := 0, slots := 0, locals := 0 } : Room).slots) (s₁.setTop (entryFrame m #[(.int p1)] 1))
  refine own_via (g' := s₁.setTop (mkF m 0 #[.val (.int p1)] [])) (fun t k => castTop (ef_own_rm2 m p1) k) ?_
  refine own_via (g' := s₁.setTop (mkF m 1 #[.val (.int p1)] [(.int p1)])) (fun t k => XS.iloadN X0.here hx rfl (hb hby own_d2_0) rfl k) ?_
  refine own_via (g' := s₁.setTop (mkF m 3 #[.val (.int p1)] [(.int (97 : Int32)), (.int p1)])) (fun t k => XS.bipush X0.here hx rfl (hb hby own_d2_1) k) ?_
  by_cases hc3_1 : p1 < (97 : Int32)
  · refine own_via (g' := s₁.setTop (mkF m 12 #[.val (.int p1)] [])) (fun t k => XS.icmpYes X0.here hx rfl (pc0 := 3) (pc' := 12) rfl (hb hby own_d2_3) rfl (XT.ii_lt_t hc3_1) (by decide) (by decide) k) ?_
    refine own_via (g' := s₁.setTop (mkF m 13 #[.val (.int p1)] [(.int p1)])) (fun t k => XS.iloadN X0.here hx rfl (hb hby own_d2_12) rfl k) ?_
    refine own_via (g' := s₁.setTop (mkF m 15 #[.val (.int p1)] [(.int (65 : Int32)), (.int p1)])) (fun t k => XS.bipush X0.here hx rfl (hb hby own_d2_13) k) ?_
    by_cases hc15_2 : p1 < (65 : Int32)
    · refine own_via (g' := s₁.setTop (mkF m 24 #[.val (.int p1)] [])) (fun t k => XS.icmpYes X0.here hx rfl (pc0 := 15) (pc' := 24) rfl (hb hby own_d2_15) rfl (XT.ii_lt_t hc15_2) (by decide) (by decide) k) ?_
      refine own_via (g' := s₁.setTop (mkF m 25 #[.val (.int p1)] [(.int p1)])) (fun t k => XS.iloadN X0.here hx rfl (hb hby own_d2_24) rfl k) ?_
      refine own_via (g' := s₁.setTop (mkF m 27 #[.val (.int p1)] [(.int (48 : Int32)), (.int p1)])) (fun t k => XS.bipush X0.here hx rfl (hb hby own_d2_25) k) ?_
      by_cases hc27_3 : p1 < (48 : Int32)
      · refine own_via (g' := s₁.setTop (mkF m 40 #[.val (.int p1)] [])) (fun t k => XS.icmpYes X0.here hx rfl (pc0 := 27) (pc' := 40) rfl (hb hby own_d2_27) rfl (XT.ii_lt_t hc27_3) (by decide) (by decide) k) ?_
        refine own_via (g' := s₁.setTop (mkF m 41 #[.val (.int p1)] [(.int (0 : Int32))])) (fun t k => XS.iconst X0.here hx rfl (hb hby own_d2_40) k) ?_
        exact own_retB X0 hx hlk (t := .boolean) Bd.returns (by simp) (hb hby own_d2_41) ⟨(by first | (rw [show nar .boolean (0 : Int32) = (0 : Int32) from rfl, own_alnum, if_pos hc3_1, if_pos hc15_2, if_pos hc27_3]; done) | (rw [show nar .boolean (0 : Int32) = (0 : Int32) from rfl]; simp only [own_alnum, hc3_1, hc15_2, hc27_3, if_true, if_false, eq_self, not_true_eq_false, not_false_eq_true, and_true, true_and, and_false, false_and, and_self, or_true, true_or, or_false, false_or, or_self]; done) | (rw [show nar .boolean (0 : Int32) = (0 : Int32) from rfl]; simp [own_alnum, hc3_1, hc15_2, hc27_3]; done)), N0, e0⟩ (by decide) (by decide)
      · refine own_via (g' := s₁.setTop (mkF m 30 #[.val (.int p1)] [])) (fun t k => XS.icmpNo X0.here hx rfl (hb hby own_d2_27) rfl (XT.ii_lt_f hc27_3) k) ?_
        refine own_via (g' := s₁.setTop (mkF m 31 #[.val (.int p1)] [(.int p1)])) (fun t k => XS.iloadN X0.here hx rfl (hb hby own_d2_30) rfl k) ?_
        refine own_via (g' := s₁.setTop (mkF m 33 #[.val (.int p1)] [(.int (57 : Int32)), (.int p1)])) (fun t k => XS.bipush X0.here hx rfl (hb hby own_d2_31) k) ?_
        by_cases hc33_4 : (57 : Int32) < p1
        · refine own_via (g' := s₁.setTop (mkF m 40 #[.val (.int p1)] [])) (fun t k => XS.icmpYes X0.here hx rfl (pc0 := 33) (pc' := 40) rfl (hb hby own_d2_33) rfl (XT.ii_gt_t hc33_4) (by decide) (by decide) k) ?_
          refine own_via (g' := s₁.setTop (mkF m 41 #[.val (.int p1)] [(.int (0 : Int32))])) (fun t k => XS.iconst X0.here hx rfl (hb hby own_d2_40) k) ?_
          exact own_retB X0 hx hlk (t := .boolean) Bd.returns (by simp) (hb hby own_d2_41) ⟨(by first | (rw [show nar .boolean (0 : Int32) = (0 : Int32) from rfl, own_alnum, if_pos hc3_1, if_pos hc15_2, if_neg hc27_3, if_pos hc33_4]; done) | (rw [show nar .boolean (0 : Int32) = (0 : Int32) from rfl]; simp only [own_alnum, hc3_1, hc15_2, hc27_3, hc33_4, if_true, if_false, eq_self, not_true_eq_false, not_false_eq_true, and_true, true_and, and_false, false_and, and_self, or_true, true_or, or_false, false_or, or_self]; done) | (rw [show nar .boolean (0 : Int32) = (0 : Int32) from rfl]; simp [own_alnum, hc3_1, hc15_2, hc27_3, hc33_4]; done)), N0, e0⟩ (by decide) (by decide)
        · refine own_via (g' := s₁.setTop (mkF m 36 #[.val (.int p1)] [])) (fun t k => XS.icmpNo X0.here hx rfl (hb hby own_d2_33) rfl (XT.ii_gt_f hc33_4) k) ?_
          refine own_via (g' := s₁.setTop (mkF m 37 #[.val (.int p1)] [(.int (1 : Int32))])) (fun t k => XS.iconst X0.here hx rfl (hb hby own_d2_36) k) ?_
          refine own_via (g' := s₁.setTop (mkF m 41 #[.val (.int p1)] [(.int (1 : Int32))])) (fun t k => XS.goto X0.here hx rfl (pc0 := 37) (pc' := 41) rfl (hb hby own_d2_37) (by decide) (by decide) k) ?_
          exact own_retB X0 hx hlk (t := .boolean) Bd.returns (by simp) (hb hby own_d2_41) ⟨(by first | (rw [show nar .boolean (1 : Int32) = (1 : Int32) from rfl, own_alnum, if_pos hc3_1, if_pos hc15_2, if_neg hc27_3, if_neg hc33_4]; done) | (rw [show nar .boolean (1 : Int32) = (1 : Int32) from rfl]; simp only [own_alnum, hc3_1, hc15_2, hc27_3, hc33_4, if_true, if_false, eq_self, not_true_eq_false, not_false_eq_true, and_true, true_and, and_false, false_and, and_self, or_true, true_or, or_false, false_or, or_self]; done) | (rw [show nar .boolean (1 : Int32) = (1 : Int32) from rfl]; simp [own_alnum, hc3_1, hc15_2, hc27_3, hc33_4]; done)), N0, e0⟩ (by decide) (by decide)
    · refine own_via (g' := s₁.setTop (mkF m 18 #[.val (.int p1)] [])) (fun t k => XS.icmpNo X0.here hx rfl (hb hby own_d2_15) rfl (XT.ii_lt_f hc15_2) k) ?_
      refine own_via (g' := s₁.setTop (mkF m 19 #[.val (.int p1)] [(.int p1)])) (fun t k => XS.iloadN X0.here hx rfl (hb hby own_d2_18) rfl k) ?_
      refine own_via (g' := s₁.setTop (mkF m 21 #[.val (.int p1)] [(.int (90 : Int32)), (.int p1)])) (fun t k => XS.bipush X0.here hx rfl (hb hby own_d2_19) k) ?_
      by_cases hc21_5 : (90 : Int32) < p1
      · refine own_via (g' := s₁.setTop (mkF m 24 #[.val (.int p1)] [])) (fun t k => XS.icmpNo X0.here hx rfl (hb hby own_d2_21) rfl (XT.ii_le_f hc21_5) k) ?_
        refine own_via (g' := s₁.setTop (mkF m 25 #[.val (.int p1)] [(.int p1)])) (fun t k => XS.iloadN X0.here hx rfl (hb hby own_d2_24) rfl k) ?_
        refine own_via (g' := s₁.setTop (mkF m 27 #[.val (.int p1)] [(.int (48 : Int32)), (.int p1)])) (fun t k => XS.bipush X0.here hx rfl (hb hby own_d2_25) k) ?_
        by_cases hc27_6 : p1 < (48 : Int32)
        · refine own_via (g' := s₁.setTop (mkF m 40 #[.val (.int p1)] [])) (fun t k => XS.icmpYes X0.here hx rfl (pc0 := 27) (pc' := 40) rfl (hb hby own_d2_27) rfl (XT.ii_lt_t hc27_6) (by decide) (by decide) k) ?_
          refine own_via (g' := s₁.setTop (mkF m 41 #[.val (.int p1)] [(.int (0 : Int32))])) (fun t k => XS.iconst X0.here hx rfl (hb hby own_d2_40) k) ?_
          exact own_retB X0 hx hlk (t := .boolean) Bd.returns (by simp) (hb hby own_d2_41) ⟨(by first | (rw [show nar .boolean (0 : Int32) = (0 : Int32) from rfl, own_alnum, if_pos hc3_1, if_neg hc15_2, if_pos hc21_5, if_pos hc27_6]; done) | (rw [show nar .boolean (0 : Int32) = (0 : Int32) from rfl]; simp only [own_alnum, hc3_1, hc15_2, hc21_5, hc27_6, if_true, if_false, eq_self, not_true_eq_false, not_false_eq_true, and_true, true_and, and_false, false_and, and_self, or_true, true_or, or_false, false_or, or_self]; done) | (rw [show nar .boolean (0 : Int32) = (0 : Int32) from rfl]; simp [own_alnum, hc3_1, hc15_2, hc21_5, hc27_6]; done)), N0, e0⟩ (by decide) (by decide)
        · refine own_via (g' := s₁.setTop (mkF m 30 #[.val (.int p1)] [])) (fun t k => XS.icmpNo X0.here hx rfl (hb hby own_d2_27) rfl (XT.ii_lt_f hc27_6) k) ?_
          refine own_via (g' := s₁.setTop (mkF m 31 #[.val (.int p1)] [(.int p1)])) (fun t k => XS.iloadN X0.here hx rfl (hb hby own_d2_30) rfl k) ?_
          refine own_via (g' := s₁.setTop (mkF m 33 #[.val (.int p1)] [(.int (57 : Int32)), (.int p1)])) (fun t k => XS.bipush X0.here hx rfl (hb hby own_d2_31) k) ?_
          by_cases hc33_7 : (57 : Int32) < p1
          · refine own_via (g' := s₁.setTop (mkF m 40 #[.val (.int p1)] [])) (fun t k => XS.icmpYes X0.here hx rfl (pc0 := 33) (pc' := 40) rfl (hb hby own_d2_33) rfl (XT.ii_gt_t hc33_7) (by decide) (by decide) k) ?_
            refine own_via (g' := s₁.setTop (mkF m 41 #[.val (.int p1)] [(.int (0 : Int32))])) (fun t k => XS.iconst X0.here hx rfl (hb hby own_d2_40) k) ?_
            exact own_retB X0 hx hlk (t := .boolean) Bd.returns (by simp) (hb hby own_d2_41) ⟨(by first | (rw [show nar .boolean (0 : Int32) = (0 : Int32) from rfl, own_alnum, if_pos hc3_1, if_neg hc15_2, if_pos hc21_5, if_neg hc27_6, if_pos hc33_7]; done) | (rw [show nar .boolean (0 : Int32) = (0 : Int32) from rfl]; simp only [own_alnum, hc3_1, hc15_2, hc21_5, hc27_6, hc33_7, if_true, if_false, eq_self, not_true_eq_false, not_false_eq_true, and_true, true_and, and_false, false_and, and_self, or_true, true_or, or_false, false_or, or_self]; done) | (rw [show nar .boolean (0 : Int32) = (0 : Int32) from rfl]; simp [own_alnum, hc3_1, hc15_2, hc21_5, hc27_6, hc33_7]; done)), N0, e0⟩ (by decide) (by decide)
          · refine own_via (g' := s₁.setTop (mkF m 36 #[.val (.int p1)] [])) (fun t k => XS.icmpNo X0.here hx rfl (hb hby own_d2_33) rfl (XT.ii_gt_f hc33_7) k) ?_
            refine own_via (g' := s₁.setTop (mkF m 37 #[.val (.int p1)] [(.int (1 : Int32))])) (fun t k => XS.iconst X0.here hx rfl (hb hby own_d2_36) k) ?_
            refine own_via (g' := s₁.setTop (mkF m 41 #[.val (.int p1)] [(.int (1 : Int32))])) (fun t k => XS.goto X0.here hx rfl (pc0 := 37) (pc' := 41) rfl (hb hby own_d2_37) (by decide) (by decide) k) ?_
            exact own_retB X0 hx hlk (t := .boolean) Bd.returns (by simp) (hb hby own_d2_41) ⟨(by first | (rw [show nar .boolean (1 : Int32) = (1 : Int32) from rfl, own_alnum, if_pos hc3_1, if_neg hc15_2, if_pos hc21_5, if_neg hc27_6, if_neg hc33_7]; done) | (rw [show nar .boolean (1 : Int32) = (1 : Int32) from rfl]; simp only [own_alnum, hc3_1, hc15_2, hc21_5, hc27_6, hc33_7, if_true, if_false, eq_self, not_true_eq_false, not_false_eq_true, and_true, true_and, and_false, false_and, and_self, or_true, true_or, or_false, false_or, or_self]; done) | (rw [show nar .boolean (1 : Int32) = (1 : Int32) from rfl]; simp [own_alnum, hc3_1, hc15_2, hc21_5, hc27_6, hc33_7]; done)), N0, e0⟩ (by decide) (by decide)
      · refine own_via (g' := s₁.setTop (mkF m 36 #[.val (.int p1)] [])) (fun t k => XS.icmpYes X0.here hx rfl (pc0 := 21) (pc' := 36) rfl (hb hby own_d2_21) rfl (XT.ii_le_t hc21_5) (by decide) (by decide) k) ?_
        refine own_via (g' := s₁.setTop (mkF m 37 #[.val (.int p1)] [(.int (1 : Int32))])) (fun t k => XS.iconst X0.here hx rfl (hb hby own_d2_36) k) ?_
        refine own_via (g' := s₁.setTop (mkF m 41 #[.val (.int p1)] [(.int (1 : Int32))])) (fun t k => XS.goto X0.here hx rfl (pc0 := 37) (pc' := 41) rfl (hb hby own_d2_37) (by decide) (by decide) k) ?_
        exact own_retB X0 hx hlk (t := .boolean) Bd.returns (by simp) (hb hby own_d2_41) ⟨(by first | (rw [show nar .boolean (1 : Int32) = (1 : Int32) from rfl, own_alnum, if_pos hc3_1, if_neg hc15_2, if_neg hc21_5]; done) | (rw [show nar .boolean (1 : Int32) = (1 : Int32) from rfl]; simp only [own_alnum, hc3_1, hc15_2, hc21_5, if_true, if_false, eq_self, not_true_eq_false, not_false_eq_true, and_true, true_and, and_false, false_and, and_self, or_true, true_or, or_false, false_or, or_self]; done) | (rw [show nar .boolean (1 : Int32) = (1 : Int32) from rfl]; simp [own_alnum, hc3_1, hc15_2, hc21_5]; done)), N0, e0⟩ (by decide) (by decide)
  · refine own_via (g' := s₁.setTop (mkF m 6 #[.val (.int p1)] [])) (fun t k => XS.icmpNo X0.here hx rfl (hb hby own_d2_3) rfl (XT.ii_lt_f hc3_1) k) ?_
    refine own_via (g' := s₁.setTop (mkF m 7 #[.val (.int p1)] [(.int p1)])) (fun t k => XS.iloadN X0.here hx rfl (hb hby own_d2_6) rfl k) ?_
    refine own_via (g' := s₁.setTop (mkF m 9 #[.val (.int p1)] [(.int (122 : Int32)), (.int p1)])) (fun t k => XS.bipush X0.here hx rfl (hb hby own_d2_7) k) ?_
    by_cases hc9_8 : (122 : Int32) < p1
    · refine own_via (g' := s₁.setTop (mkF m 12 #[.val (.int p1)] [])) (fun t k => XS.icmpNo X0.here hx rfl (hb hby own_d2_9) rfl (XT.ii_le_f hc9_8) k) ?_
      refine own_via (g' := s₁.setTop (mkF m 13 #[.val (.int p1)] [(.int p1)])) (fun t k => XS.iloadN X0.here hx rfl (hb hby own_d2_12) rfl k) ?_
      refine own_via (g' := s₁.setTop (mkF m 15 #[.val (.int p1)] [(.int (65 : Int32)), (.int p1)])) (fun t k => XS.bipush X0.here hx rfl (hb hby own_d2_13) k) ?_
      by_cases hc15_9 : p1 < (65 : Int32)
      · refine own_via (g' := s₁.setTop (mkF m 24 #[.val (.int p1)] [])) (fun t k => XS.icmpYes X0.here hx rfl (pc0 := 15) (pc' := 24) rfl (hb hby own_d2_15) rfl (XT.ii_lt_t hc15_9) (by decide) (by decide) k) ?_
        refine own_via (g' := s₁.setTop (mkF m 25 #[.val (.int p1)] [(.int p1)])) (fun t k => XS.iloadN X0.here hx rfl (hb hby own_d2_24) rfl k) ?_
        refine own_via (g' := s₁.setTop (mkF m 27 #[.val (.int p1)] [(.int (48 : Int32)), (.int p1)])) (fun t k => XS.bipush X0.here hx rfl (hb hby own_d2_25) k) ?_
        by_cases hc27_10 : p1 < (48 : Int32)
        · refine own_via (g' := s₁.setTop (mkF m 40 #[.val (.int p1)] [])) (fun t k => XS.icmpYes X0.here hx rfl (pc0 := 27) (pc' := 40) rfl (hb hby own_d2_27) rfl (XT.ii_lt_t hc27_10) (by decide) (by decide) k) ?_
          refine own_via (g' := s₁.setTop (mkF m 41 #[.val (.int p1)] [(.int (0 : Int32))])) (fun t k => XS.iconst X0.here hx rfl (hb hby own_d2_40) k) ?_
          exact own_retB X0 hx hlk (t := .boolean) Bd.returns (by simp) (hb hby own_d2_41) ⟨(by first | (rw [show nar .boolean (0 : Int32) = (0 : Int32) from rfl, own_alnum, if_neg hc3_1, if_pos hc9_8, if_pos hc15_9, if_pos hc27_10]; done) | (rw [show nar .boolean (0 : Int32) = (0 : Int32) from rfl]; simp only [own_alnum, hc3_1, hc9_8, hc15_9, hc27_10, if_true, if_false, eq_self, not_true_eq_false, not_false_eq_true, and_true, true_and, and_false, false_and, and_self, or_true, true_or, or_false, false_or, or_self]; done) | (rw [show nar .boolean (0 : Int32) = (0 : Int32) from rfl]; simp [own_alnum, hc3_1, hc9_8, hc15_9, hc27_10]; done)), N0, e0⟩ (by decide) (by decide)
        · refine own_via (g' := s₁.setTop (mkF m 30 #[.val (.int p1)] [])) (fun t k => XS.icmpNo X0.here hx rfl (hb hby own_d2_27) rfl (XT.ii_lt_f hc27_10) k) ?_
          refine own_via (g' := s₁.setTop (mkF m 31 #[.val (.int p1)] [(.int p1)])) (fun t k => XS.iloadN X0.here hx rfl (hb hby own_d2_30) rfl k) ?_
          refine own_via (g' := s₁.setTop (mkF m 33 #[.val (.int p1)] [(.int (57 : Int32)), (.int p1)])) (fun t k => XS.bipush X0.here hx rfl (hb hby own_d2_31) k) ?_
          by_cases hc33_11 : (57 : Int32) < p1
          · refine own_via (g' := s₁.setTop (mkF m 40 #[.val (.int p1)] [])) (fun t k => XS.icmpYes X0.here hx rfl (pc0 := 33) (pc' := 40) rfl (hb hby own_d2_33) rfl (XT.ii_gt_t hc33_11) (by decide) (by decide) k) ?_
            refine own_via (g' := s₁.setTop (mkF m 41 #[.val (.int p1)] [(.int (0 : Int32))])) (fun t k => XS.iconst X0.here hx rfl (hb hby own_d2_40) k) ?_
            exact own_retB X0 hx hlk (t := .boolean) Bd.returns (by simp) (hb hby own_d2_41) ⟨(by first | (rw [show nar .boolean (0 : Int32) = (0 : Int32) from rfl, own_alnum, if_neg hc3_1, if_pos hc9_8, if_pos hc15_9, if_neg hc27_10, if_pos hc33_11]; done) | (rw [show nar .boolean (0 : Int32) = (0 : Int32) from rfl]; simp only [own_alnum, hc3_1, hc9_8, hc15_9, hc27_10, hc33_11, if_true, if_false, eq_self, not_true_eq_false, not_false_eq_true, and_true, true_and, and_false, false_and, and_self, or_true, true_or, or_false, false_or, or_self]; done) | (rw [show nar .boolean (0 : Int32) = (0 : Int32) from rfl]; simp [own_alnum, hc3_1, hc9_8, hc15_9, hc27_10, hc33_11]; done)), N0, e0⟩ (by decide) (by decide)
          · refine own_via (g' := s₁.setTop (mkF m 36 #[.val (.int p1)] [])) (fun t k => XS.icmpNo X0.here hx rfl (hb hby own_d2_33) rfl (XT.ii_gt_f hc33_11) k) ?_
            refine own_via (g' := s₁.setTop (mkF m 37 #[.val (.int p1)] [(.int (1 : Int32))])) (fun t k => XS.iconst X0.here hx rfl (hb hby own_d2_36) k) ?_
            refine own_via (g' := s₁.setTop (mkF m 41 #[.val (.int p1)] [(.int (1 : Int32))])) (fun t k => XS.goto X0.here hx rfl (pc0 := 37) (pc' := 41) rfl (hb hby own_d2_37) (by decide) (by decide) k) ?_
            exact own_retB X0 hx hlk (t := .boolean) Bd.returns (by simp) (hb hby own_d2_41) ⟨(by first | (rw [show nar .boolean (1 : Int32) = (1 : Int32) from rfl, own_alnum, if_neg hc3_1, if_pos hc9_8, if_pos hc15_9, if_neg hc27_10, if_neg hc33_11]; done) | (rw [show nar .boolean (1 : Int32) = (1 : Int32) from rfl]; simp only [own_alnum, hc3_1, hc9_8, hc15_9, hc27_10, hc33_11, if_true, if_false, eq_self, not_true_eq_false, not_false_eq_true, and_true, true_and, and_false, false_and, and_self, or_true, true_or, or_false, false_or, or_self]; done) | (rw [show nar .boolean (1 : Int32) = (1 : Int32) from rfl]; simp [own_alnum, hc3_1, hc9_8, hc15_9, hc27_10, hc33_11]; done)), N0, e0⟩ (by decide) (by decide)
      · refine own_via (g' := s₁.setTop (mkF m 18 #[.val (.int p1)] [])) (fun t k => XS.icmpNo X0.here hx rfl (hb hby own_d2_15) rfl (XT.ii_lt_f hc15_9) k) ?_
        refine own_via (g' := s₁.setTop (mkF m 19 #[.val (.int p1)] [(.int p1)])) (fun t k => XS.iloadN X0.here hx rfl (hb hby own_d2_18) rfl k) ?_
        refine own_via (g' := s₁.setTop (mkF m 21 #[.val (.int p1)] [(.int (90 : Int32)), (.int p1)])) (fun t k => XS.bipush X0.here hx rfl (hb hby own_d2_19) k) ?_
        by_cases hc21_12 : (90 : Int32) < p1
        · refine own_via (g' := s₁.setTop (mkF m 24 #[.val (.int p1)] [])) (fun t k => XS.icmpNo X0.here hx rfl (hb hby own_d2_21) rfl (XT.ii_le_f hc21_12) k) ?_
          refine own_via (g' := s₁.setTop (mkF m 25 #[.val (.int p1)] [(.int p1)])) (fun t k => XS.iloadN X0.here hx rfl (hb hby own_d2_24) rfl k) ?_
          refine own_via (g' := s₁.setTop (mkF m 27 #[.val (.int p1)] [(.int (48 : Int32)), (.int p1)])) (fun t k => XS.bipush X0.here hx rfl (hb hby own_d2_25) k) ?_
          by_cases hc27_13 : p1 < (48 : Int32)
          · refine own_via (g' := s₁.setTop (mkF m 40 #[.val (.int p1)] [])) (fun t k => XS.icmpYes X0.here hx rfl (pc0 := 27) (pc' := 40) rfl (hb hby own_d2_27) rfl (XT.ii_lt_t hc27_13) (by decide) (by decide) k) ?_
            refine own_via (g' := s₁.setTop (mkF m 41 #[.val (.int p1)] [(.int (0 : Int32))])) (fun t k => XS.iconst X0.here hx rfl (hb hby own_d2_40) k) ?_
            exact own_retB X0 hx hlk (t := .boolean) Bd.returns (by simp) (hb hby own_d2_41) ⟨(by first | (rw [show nar .boolean (0 : Int32) = (0 : Int32) from rfl, own_alnum, if_neg hc3_1, if_pos hc9_8, if_neg hc15_9, if_pos hc21_12, if_pos hc27_13]; done) | (rw [show nar .boolean (0 : Int32) = (0 : Int32) from rfl]; simp only [own_alnum, hc3_1, hc9_8, hc15_9, hc21_12, hc27_13, if_true, if_false, eq_self, not_true_eq_false, not_false_eq_true, and_true, true_and, and_false, false_and, and_self, or_true, true_or, or_false, false_or, or_self]; done) | (rw [show nar .boolean (0 : Int32) = (0 : Int32) from rfl]; simp [own_alnum, hc3_1, hc9_8, hc15_9, hc21_12, hc27_13]; done)), N0, e0⟩ (by decide) (by decide)
          · refine own_via (g' := s₁.setTop (mkF m 30 #[.val (.int p1)] [])) (fun t k => XS.icmpNo X0.here hx rfl (hb hby own_d2_27) rfl (XT.ii_lt_f hc27_13) k) ?_
            refine own_via (g' := s₁.setTop (mkF m 31 #[.val (.int p1)] [(.int p1)])) (fun t k => XS.iloadN X0.here hx rfl (hb hby own_d2_30) rfl k) ?_
            refine own_via (g' := s₁.setTop (mkF m 33 #[.val (.int p1)] [(.int (57 : Int32)), (.int p1)])) (fun t k => XS.bipush X0.here hx rfl (hb hby own_d2_31) k) ?_
            by_cases hc33_14 : (57 : Int32) < p1
            · refine own_via (g' := s₁.setTop (mkF m 40 #[.val (.int p1)] [])) (fun t k => XS.icmpYes X0.here hx rfl (pc0 := 33) (pc' := 40) rfl (hb hby own_d2_33) rfl (XT.ii_gt_t hc33_14) (by decide) (by decide) k) ?_
              refine own_via (g' := s₁.setTop (mkF m 41 #[.val (.int p1)] [(.int (0 : Int32))])) (fun t k => XS.iconst X0.here hx rfl (hb hby own_d2_40) k) ?_
              exact own_retB X0 hx hlk (t := .boolean) Bd.returns (by simp) (hb hby own_d2_41) ⟨(by first | (rw [show nar .boolean (0 : Int32) = (0 : Int32) from rfl, own_alnum, if_neg hc3_1, if_pos hc9_8, if_neg hc15_9, if_pos hc21_12, if_neg hc27_13, if_pos hc33_14]; done) | (rw [show nar .boolean (0 : Int32) = (0 : Int32) from rfl]; simp only [own_alnum, hc3_1, hc9_8, hc15_9, hc21_12, hc27_13, hc33_14, if_true, if_false, eq_self, not_true_eq_false, not_false_eq_true, and_true, true_and, and_false, false_and, and_self, or_true, true_or, or_false, false_or, or_self]; done) | (rw [show nar .boolean (0 : Int32) = (0 : Int32) from rfl]; simp [own_alnum, hc3_1, hc9_8, hc15_9, hc21_12, hc27_13, hc33_14]; done)), N0, e0⟩ (by decide) (by decide)
            · refine own_via (g' := s₁.setTop (mkF m 36 #[.val (.int p1)] [])) (fun t k => XS.icmpNo X0.here hx rfl (hb hby own_d2_33) rfl (XT.ii_gt_f hc33_14) k) ?_
              refine own_via (g' := s₁.setTop (mkF m 37 #[.val (.int p1)] [(.int (1 : Int32))])) (fun t k => XS.iconst X0.here hx rfl (hb hby own_d2_36) k) ?_
              refine own_via (g' := s₁.setTop (mkF m 41 #[.val (.int p1)] [(.int (1 : Int32))])) (fun t k => XS.goto X0.here hx rfl (pc0 := 37) (pc' := 41) rfl (hb hby own_d2_37) (by decide) (by decide) k) ?_
              exact own_retB X0 hx hlk (t := .boolean) Bd.returns (by simp) (hb hby own_d2_41) ⟨(by first | (rw [show nar .boolean (1 : Int32) = (1 : Int32) from rfl, own_alnum, if_neg hc3_1, if_pos hc9_8, if_neg hc15_9, if_pos hc21_12, if_neg hc27_13, if_neg hc33_14]; done) | (rw [show nar .boolean (1 : Int32) = (1 : Int32) from rfl]; simp only [own_alnum, hc3_1, hc9_8, hc15_9, hc21_12, hc27_13, hc33_14, if_true, if_false, eq_self, not_true_eq_false, not_false_eq_true, and_true, true_and, and_false, false_and, and_self, or_true, true_or, or_false, false_or, or_self]; done) | (rw [show nar .boolean (1 : Int32) = (1 : Int32) from rfl]; simp [own_alnum, hc3_1, hc9_8, hc15_9, hc21_12, hc27_13, hc33_14]; done)), N0, e0⟩ (by decide) (by decide)
        · refine own_via (g' := s₁.setTop (mkF m 36 #[.val (.int p1)] [])) (fun t k => XS.icmpYes X0.here hx rfl (pc0 := 21) (pc' := 36) rfl (hb hby own_d2_21) rfl (XT.ii_le_t hc21_12) (by decide) (by decide) k) ?_
          refine own_via (g' := s₁.setTop (mkF m 37 #[.val (.int p1)] [(.int (1 : Int32))])) (fun t k => XS.iconst X0.here hx rfl (hb hby own_d2_36) k) ?_
          refine own_via (g' := s₁.setTop (mkF m 41 #[.val (.int p1)] [(.int (1 : Int32))])) (fun t k => XS.goto X0.here hx rfl (pc0 := 37) (pc' := 41) rfl (hb hby own_d2_37) (by decide) (by decide) k) ?_
          exact own_retB X0 hx hlk (t := .boolean) Bd.returns (by simp) (hb hby own_d2_41) ⟨(by first | (rw [show nar .boolean (1 : Int32) = (1 : Int32) from rfl, own_alnum, if_neg hc3_1, if_pos hc9_8, if_neg hc15_9, if_neg hc21_12]; done) | (rw [show nar .boolean (1 : Int32) = (1 : Int32) from rfl]; simp only [own_alnum, hc3_1, hc9_8, hc15_9, hc21_12, if_true, if_false, eq_self, not_true_eq_false, not_false_eq_true, and_true, true_and, and_false, false_and, and_self, or_true, true_or, or_false, false_or, or_self]; done) | (rw [show nar .boolean (1 : Int32) = (1 : Int32) from rfl]; simp [own_alnum, hc3_1, hc9_8, hc15_9, hc21_12]; done)), N0, e0⟩ (by decide) (by decide)
    · refine own_via (g' := s₁.setTop (mkF m 36 #[.val (.int p1)] [])) (fun t k => XS.icmpYes X0.here hx rfl (pc0 := 9) (pc' := 36) rfl (hb hby own_d2_9) rfl (XT.ii_le_t hc9_8) (by decide) (by decide) k) ?_
      refine own_via (g' := s₁.setTop (mkF m 37 #[.val (.int p1)] [(.int (1 : Int32))])) (fun t k => XS.iconst X0.here hx rfl (hb hby own_d2_36) k) ?_
      refine own_via (g' := s₁.setTop (mkF m 41 #[.val (.int p1)] [(.int (1 : Int32))])) (fun t k => XS.goto X0.here hx rfl (pc0 := 37) (pc' := 41) rfl (hb hby own_d2_37) (by decide) (by decide) k) ?_
      exact own_retB X0 hx hlk (t := .boolean) Bd.returns (by simp) (hb hby own_d2_41) ⟨(by first | (rw [show nar .boolean (1 : Int32) = (1 : Int32) from rfl, own_alnum, if_neg hc3_1, if_neg hc9_8]; done) | (rw [show nar .boolean (1 : Int32) = (1 : Int32) from rfl]; simp only [own_alnum, hc3_1, hc9_8, if_true, if_false, eq_self, not_true_eq_false, not_false_eq_true, and_true, true_and, and_false, false_and, and_self, or_true, true_or, or_false, false_or, or_self]; done) | (rw [show nar .boolean (1 : Int32) = (1 : Int32) from rfl]; simp [own_alnum, hc3_1, hc9_8]; done)), N0, e0⟩ (by decide) (by decide)
theorem own_pn1 : plainName "com/example/reuse_signals/reusesignals/signals/UriCharactersIsPathOrQueryCharacterPinLaw" = true := by first | (simp [plainName, overriddenIn]; done) | decide +kernel
theorem own_d14_0 : decode method_2_code 0 = .ok (.iload_n 0, 1) := by decide +kernel
theorem own_d14_1 : decode method_2_code 1 = .ok (.bipush 33, 2) := by decide +kernel
theorem own_d14_3 : decode method_2_code 3 = .ok (.if_icmp .eq 63, 3) := by decide +kernel
theorem own_d14_6 : decode method_2_code 6 = .ok (.iload_n 0, 1) := by decide +kernel
theorem own_d14_7 : decode method_2_code 7 = .ok (.bipush 36, 2) := by decide +kernel
theorem own_d14_9 : decode method_2_code 9 = .ok (.if_icmp .lt 15, 3) := by decide +kernel
theorem own_d14_12 : decode method_2_code 12 = .ok (.iload_n 0, 1) := by decide +kernel
theorem own_d14_13 : decode method_2_code 13 = .ok (.bipush 59, 2) := by decide +kernel
theorem own_d14_15 : decode method_2_code 15 = .ok (.if_icmp .gt 9, 3) := by decide +kernel
theorem own_d14_18 : decode method_2_code 18 = .ok (.iload_n 0, 1) := by decide +kernel
theorem own_d14_19 : decode method_2_code 19 = .ok (.bipush 37, 2) := by decide +kernel
theorem own_d14_21 : decode method_2_code 21 = .ok (.if_icmp .ne 45, 3) := by decide +kernel
theorem own_d14_24 : decode method_2_code 24 = .ok (.iload_n 0, 1) := by decide +kernel
theorem own_d14_25 : decode method_2_code 25 = .ok (.bipush 61, 2) := by decide +kernel
theorem own_d14_27 : decode method_2_code 27 = .ok (.if_icmp .eq 39, 3) := by decide +kernel
theorem own_d14_30 : decode method_2_code 30 = .ok (.iload_n 0, 1) := by decide +kernel
theorem own_d14_31 : decode method_2_code 31 = .ok (.bipush 63, 2) := by decide +kernel
theorem own_d14_33 : decode method_2_code 33 = .ok (.if_icmp .lt 9, 3) := by decide +kernel
theorem own_d14_36 : decode method_2_code 36 = .ok (.iload_n 0, 1) := by decide +kernel
theorem own_d14_37 : decode method_2_code 37 = .ok (.bipush 90, 2) := by decide +kernel
theorem own_d14_39 : decode method_2_code 39 = .ok (.if_icmp .le 27, 3) := by decide +kernel
theorem own_d14_42 : decode method_2_code 42 = .ok (.iload_n 0, 1) := by decide +kernel
theorem own_d14_43 : decode method_2_code 43 = .ok (.bipush 95, 2) := by decide +kernel
theorem own_d14_45 : decode method_2_code 45 = .ok (.if_icmp .eq 21, 3) := by decide +kernel
theorem own_d14_48 : decode method_2_code 48 = .ok (.iload_n 0, 1) := by decide +kernel
theorem own_d14_49 : decode method_2_code 49 = .ok (.bipush 97, 2) := by decide +kernel
theorem own_d14_51 : decode method_2_code 51 = .ok (.if_icmp .lt 9, 3) := by decide +kernel
theorem own_d14_54 : decode method_2_code 54 = .ok (.iload_n 0, 1) := by decide +kernel
theorem own_d14_55 : decode method_2_code 55 = .ok (.bipush 122, 2) := by decide +kernel
theorem own_d14_57 : decode method_2_code 57 = .ok (.if_icmp .le 9, 3) := by decide +kernel
theorem own_d14_60 : decode method_2_code 60 = .ok (.iload_n 0, 1) := by decide +kernel
theorem own_d14_61 : decode method_2_code 61 = .ok (.bipush 126, 2) := by decide +kernel
theorem own_d14_63 : decode method_2_code 63 = .ok (.if_icmp .ne 7, 3) := by decide +kernel
theorem own_d14_66 : decode method_2_code 66 = .ok (.iconst 1, 1) := by decide +kernel
theorem own_d14_67 : decode method_2_code 67 = .ok (.goto 4, 3) := by decide +kernel
theorem own_d14_70 : decode method_2_code 70 = .ok (.iconst 0, 1) := by decide +kernel
theorem own_d14_71 : decode method_2_code 71 = .ok (.ireturn, 1) := by decide +kernel
theorem ef_own_rm14 (m : MethodId) (p1 : Int32) : entryFrame m #[(.int p1)] 1 = mkF m 0 #[.val (.int p1)] [] := by first | (simp [entryFrame, mkF, argsToLocals, Value.category]; done) | rfl
def own_rm14_Q (Z : State) (p1 : Int32)  (h0 : Heap) (n0 : Nat) (v : Option Value) (h : Heap) (L : List Loc) : Prop := v = some (.int (own_exp p1)) ∧ Fr n0 L ∧ h = h0
set_option maxRecDepth 65536 in
set_option maxHeartbeats 40000000 in
theorem own_rm14 (l : Launch) (Z : State) (a0 : Array Value) (hw : ∀ d ∈ tables_1, d.before a0 Z = true) (ws : List Jvm.Cond) (p1 : Int32)  (h0 : Heap) (n0 : Nat) (Z0 : n0 ≤ h0.size) :
    MetFree l (⟨"com/example/reuse_signals/reusesignals/signals/UriCharactersIsPathOrQueryCharacterPinLaw", "expected", "(I)Z"⟩ : MethodName) (head1 (Jvm.Cond.code (⟨"com/example/reuse_signals/reusesignals/signals/UriCharactersIsPathOrQueryCharacterPinLaw", "expected", "(I)Z"⟩ : MethodName) method_2_code 1 (some .boolean) :: ws) ({ frames := 0, cells := 0, slots := 0, locals := 0 } : Room)) (fun a U => a = #[(.int p1)] ∧ Z.Warmed39 U.vm ∧ U.heap = h0) (fun _ _ _ _ _ => True) (fun _ U o U' => ∃ v L, o = .returned v ∧ own_rm14_Q Z p1  h0 n0 v U'.heap L ∧ FrameEnd U o U' L ({ frames := 0, cells := 0, slots := 0, locals := 0 } : Room).cells ({ frames := 0, cells := 0, slots := 0, locals := 0 } : Room).slots) := by
  refine MetFree.of_bodySF (plainFor_of_name own_pn1) hisR ?_
  intro p e s m args below meth c s₁ Bd hml0 hP hK
  obtain ⟨rfl, hZ, hh⟩ := hP
  have hx := Bd.exec
  have hby := Bd.bytes
  have hml : c.maxLocals = 1 := hml0
  have hown : s.vm.findClass "com/example/reuse_signals/reusesignals/signals/UriCharactersIsPathOrQueryCharacterPinLaw" = some m.cls := findClass_of_methodNamed Bd.named
  have hnm := (name_of_methodNamed Bd.named Bd.method).1
  have hlk : meth.locks = false := BodyLoose.notSynchronized Bd
  have X0 : Stand p l e ({ frames := 0, cells := 0, slots := 0, locals := 0 } : Room) s m #[(.int p1)] below meth c s₁ [] 0 0 := Stand.of_body Bd
  have e0 : s₁.heap = h0 := by rw [← hh, Bd.state]; rfl
  have N0 := Fr.nil n0
  have K0 : Keep h0 h0 [] := Keep.refl h0 []
  show own_Fin p e below (own_P (own_rm14_Q Z p1  h0 n0) s ({ frames := 0, cells := 0, slots := 0, locals := 0 } : Room).cells ({ frames := 0, cells := 0, slots := 0, locals := 0 } : Room).slots) (s₁.setTop (entryFrame m #[(.int p1)] 1))
  refine own_via (g' := s₁.setTop (mkF m 0 #[.val (.int p1)] [])) (fun t k => castTop (ef_own_rm14 m p1) k) ?_
  refine own_via (g' := s₁.setTop (mkF m 1 #[.val (.int p1)] [(.int p1)])) (fun t k => XS.iloadN X0.here hx rfl (hb hby own_d14_0) rfl k) ?_
  refine own_via (g' := s₁.setTop (mkF m 3 #[.val (.int p1)] [(.int (33 : Int32)), (.int p1)])) (fun t k => XS.bipush X0.here hx rfl (hb hby own_d14_1) k) ?_
  by_cases hc3_1 : p1 = (33 : Int32)
  · refine own_via (g' := s₁.setTop (mkF m 66 #[.val (.int p1)] [])) (fun t k => XS.icmpYes X0.here hx rfl (pc0 := 3) (pc' := 66) rfl (hb hby own_d14_3) rfl (XT.ii_eq_t hc3_1) (by decide) (by decide) k) ?_
    refine own_via (g' := s₁.setTop (mkF m 67 #[.val (.int p1)] [(.int (1 : Int32))])) (fun t k => XS.iconst X0.here hx rfl (hb hby own_d14_66) k) ?_
    refine own_via (g' := s₁.setTop (mkF m 71 #[.val (.int p1)] [(.int (1 : Int32))])) (fun t k => XS.goto X0.here hx rfl (pc0 := 67) (pc' := 71) rfl (hb hby own_d14_67) (by decide) (by decide) k) ?_
    exact own_retB X0 hx hlk (t := .boolean) Bd.returns (by simp) (hb hby own_d14_71) ⟨(by first | (rw [show nar .boolean (1 : Int32) = (1 : Int32) from rfl, own_exp, if_pos hc3_1]; done) | (rw [show nar .boolean (1 : Int32) = (1 : Int32) from rfl]; simp only [own_exp, hc3_1, if_true, if_false, eq_self, not_true_eq_false, not_false_eq_true, and_true, true_and, and_false, false_and, and_self, or_true, true_or, or_false, false_or, or_self]; done) | (rw [show nar .boolean (1 : Int32) = (1 : Int32) from rfl]; simp [own_exp, hc3_1]; done)), N0, e0⟩ (by decide) (by decide)
  · refine own_via (g' := s₁.setTop (mkF m 6 #[.val (.int p1)] [])) (fun t k => XS.icmpNo X0.here hx rfl (hb hby own_d14_3) rfl (XT.ii_eq_f hc3_1) k) ?_
    refine own_via (g' := s₁.setTop (mkF m 7 #[.val (.int p1)] [(.int p1)])) (fun t k => XS.iloadN X0.here hx rfl (hb hby own_d14_6) rfl k) ?_
    refine own_via (g' := s₁.setTop (mkF m 9 #[.val (.int p1)] [(.int (36 : Int32)), (.int p1)])) (fun t k => XS.bipush X0.here hx rfl (hb hby own_d14_7) k) ?_
    by_cases hc9_2 : p1 < (36 : Int32)
    · refine own_via (g' := s₁.setTop (mkF m 24 #[.val (.int p1)] [])) (fun t k => XS.icmpYes X0.here hx rfl (pc0 := 9) (pc' := 24) rfl (hb hby own_d14_9) rfl (XT.ii_lt_t hc9_2) (by decide) (by decide) k) ?_
      refine own_via (g' := s₁.setTop (mkF m 25 #[.val (.int p1)] [(.int p1)])) (fun t k => XS.iloadN X0.here hx rfl (hb hby own_d14_24) rfl k) ?_
      refine own_via (g' := s₁.setTop (mkF m 27 #[.val (.int p1)] [(.int (61 : Int32)), (.int p1)])) (fun t k => XS.bipush X0.here hx rfl (hb hby own_d14_25) k) ?_
      by_cases hc27_3 : p1 = (61 : Int32)
      · refine own_via (g' := s₁.setTop (mkF m 66 #[.val (.int p1)] [])) (fun t k => XS.icmpYes X0.here hx rfl (pc0 := 27) (pc' := 66) rfl (hb hby own_d14_27) rfl (XT.ii_eq_t hc27_3) (by decide) (by decide) k) ?_
        refine own_via (g' := s₁.setTop (mkF m 67 #[.val (.int p1)] [(.int (1 : Int32))])) (fun t k => XS.iconst X0.here hx rfl (hb hby own_d14_66) k) ?_
        refine own_via (g' := s₁.setTop (mkF m 71 #[.val (.int p1)] [(.int (1 : Int32))])) (fun t k => XS.goto X0.here hx rfl (pc0 := 67) (pc' := 71) rfl (hb hby own_d14_67) (by decide) (by decide) k) ?_
        exact own_retB X0 hx hlk (t := .boolean) Bd.returns (by simp) (hb hby own_d14_71) ⟨(by first | (rw [show nar .boolean (1 : Int32) = (1 : Int32) from rfl, own_exp, if_neg hc3_1, if_pos hc9_2, if_pos hc27_3]; done) | (rw [show nar .boolean (1 : Int32) = (1 : Int32) from rfl]; simp only [own_exp, hc3_1, hc9_2, hc27_3, if_true, if_false, eq_self, not_true_eq_false, not_false_eq_true, and_true, true_and, and_false, false_and, and_self, or_true, true_or, or_false, false_or, or_self]; done) | (rw [show nar .boolean (1 : Int32) = (1 : Int32) from rfl]; simp [own_exp, hc3_1, hc9_2, hc27_3]; done) | (exfalso; rw [hc27_3] at hc3_1; revert hc3_1; decide) | (exfalso; rw [hc27_3] at hc9_2; revert hc9_2; decide)), N0, e0⟩ (by decide) (by decide)
      · refine own_via (g' := s₁.setTop (mkF m 30 #[.val (.int p1)] [])) (fun t k => XS.icmpNo X0.here hx rfl (hb hby own_d14_27) rfl (XT.ii_eq_f hc27_3) k) ?_
        refine own_via (g' := s₁.setTop (mkF m 31 #[.val (.int p1)] [(.int p1)])) (fun t k => XS.iloadN X0.here hx rfl (hb hby own_d14_30) rfl k) ?_
        refine own_via (g' := s₁.setTop (mkF m 33 #[.val (.int p1)] [(.int (63 : Int32)), (.int p1)])) (fun t k => XS.bipush X0.here hx rfl (hb hby own_d14_31) k) ?_
        by_cases hc33_4 : p1 < (63 : Int32)
        · refine own_via (g' := s₁.setTop (mkF m 42 #[.val (.int p1)] [])) (fun t k => XS.icmpYes X0.here hx rfl (pc0 := 33) (pc' := 42) rfl (hb hby own_d14_33) rfl (XT.ii_lt_t hc33_4) (by decide) (by decide) k) ?_
          refine own_via (g' := s₁.setTop (mkF m 43 #[.val (.int p1)] [(.int p1)])) (fun t k => XS.iloadN X0.here hx rfl (hb hby own_d14_42) rfl k) ?_
          refine own_via (g' := s₁.setTop (mkF m 45 #[.val (.int p1)] [(.int (95 : Int32)), (.int p1)])) (fun t k => XS.bipush X0.here hx rfl (hb hby own_d14_43) k) ?_
          by_cases hc45_5 : p1 = (95 : Int32)
          · refine own_via (g' := s₁.setTop (mkF m 66 #[.val (.int p1)] [])) (fun t k => XS.icmpYes X0.here hx rfl (pc0 := 45) (pc' := 66) rfl (hb hby own_d14_45) rfl (XT.ii_eq_t hc45_5) (by decide) (by decide) k) ?_
            refine own_via (g' := s₁.setTop (mkF m 67 #[.val (.int p1)] [(.int (1 : Int32))])) (fun t k => XS.iconst X0.here hx rfl (hb hby own_d14_66) k) ?_
            refine own_via (g' := s₁.setTop (mkF m 71 #[.val (.int p1)] [(.int (1 : Int32))])) (fun t k => XS.goto X0.here hx rfl (pc0 := 67) (pc' := 71) rfl (hb hby own_d14_67) (by decide) (by decide) k) ?_
            exact own_retB X0 hx hlk (t := .boolean) Bd.returns (by simp) (hb hby own_d14_71) ⟨(by first | (rw [show nar .boolean (1 : Int32) = (1 : Int32) from rfl, own_exp, if_neg hc3_1, if_pos hc9_2, if_neg hc27_3, if_pos hc33_4, if_pos hc45_5]; done) | (rw [show nar .boolean (1 : Int32) = (1 : Int32) from rfl]; simp only [own_exp, hc3_1, hc9_2, hc27_3, hc33_4, hc45_5, if_true, if_false, eq_self, not_true_eq_false, not_false_eq_true, and_true, true_and, and_false, false_and, and_self, or_true, true_or, or_false, false_or, or_self]; done) | (rw [show nar .boolean (1 : Int32) = (1 : Int32) from rfl]; simp [own_exp, hc3_1, hc9_2, hc27_3, hc33_4, hc45_5]; done) | (exfalso; rw [hc45_5] at hc3_1; revert hc3_1; decide) | (exfalso; rw [hc45_5] at hc9_2; revert hc9_2; decide) | (exfalso; rw [hc45_5] at hc27_3; revert hc27_3; decide) | (exfalso; rw [hc45_5] at hc33_4; revert hc33_4; decide)), N0, e0⟩ (by decide) (by decide)
          · refine own_via (g' := s₁.setTop (mkF m 48 #[.val (.int p1)] [])) (fun t k => XS.icmpNo X0.here hx rfl (hb hby own_d14_45) rfl (XT.ii_eq_f hc45_5) k) ?_
            refine own_via (g' := s₁.setTop (mkF m 49 #[.val (.int p1)] [(.int p1)])) (fun t k => XS.iloadN X0.here hx rfl (hb hby own_d14_48) rfl k) ?_
            refine own_via (g' := s₁.setTop (mkF m 51 #[.val (.int p1)] [(.int (97 : Int32)), (.int p1)])) (fun t k => XS.bipush X0.here hx rfl (hb hby own_d14_49) k) ?_
            by_cases hc51_6 : p1 < (97 : Int32)
            · refine own_via (g' := s₁.setTop (mkF m 60 #[.val (.int p1)] [])) (fun t k => XS.icmpYes X0.here hx rfl (pc0 := 51) (pc' := 60) rfl (hb hby own_d14_51) rfl (XT.ii_lt_t hc51_6) (by decide) (by decide) k) ?_
              refine own_via (g' := s₁.setTop (mkF m 61 #[.val (.int p1)] [(.int p1)])) (fun t k => XS.iloadN X0.here hx rfl (hb hby own_d14_60) rfl k) ?_
              refine own_via (g' := s₁.setTop (mkF m 63 #[.val (.int p1)] [(.int (126 : Int32)), (.int p1)])) (fun t k => XS.bipush X0.here hx rfl (hb hby own_d14_61) k) ?_
              by_cases hc63_7 : p1 = (126 : Int32)
              · refine own_via (g' := s₁.setTop (mkF m 66 #[.val (.int p1)] [])) (fun t k => XS.icmpNo X0.here hx rfl (hb hby own_d14_63) rfl (XT.ii_ne_f hc63_7) k) ?_
                refine own_via (g' := s₁.setTop (mkF m 67 #[.val (.int p1)] [(.int (1 : Int32))])) (fun t k => XS.iconst X0.here hx rfl (hb hby own_d14_66) k) ?_
                refine own_via (g' := s₁.setTop (mkF m 71 #[.val (.int p1)] [(.int (1 : Int32))])) (fun t k => XS.goto X0.here hx rfl (pc0 := 67) (pc' := 71) rfl (hb hby own_d14_67) (by decide) (by decide) k) ?_
                exact own_retB X0 hx hlk (t := .boolean) Bd.returns (by simp) (hb hby own_d14_71) ⟨(by first | (rw [show nar .boolean (1 : Int32) = (1 : Int32) from rfl, own_exp, if_neg hc3_1, if_pos hc9_2, if_neg hc27_3, if_pos hc33_4, if_neg hc45_5, if_pos hc51_6, if_pos hc63_7]; done) | (rw [show nar .boolean (1 : Int32) = (1 : Int32) from rfl]; simp only [own_exp, hc3_1, hc9_2, hc27_3, hc33_4, hc45_5, hc51_6, hc63_7, if_true, if_false, eq_self, not_true_eq_false, not_false_eq_true, and_true, true_and, and_false, false_and, and_self, or_true, true_or, or_false, false_or, or_self]; done) | (rw [show nar .boolean (1 : Int32) = (1 : Int32) from rfl]; simp [own_exp, hc3_1, hc9_2, hc27_3, hc33_4, hc45_5, hc51_6, hc63_7]; done) | (exfalso; rw [hc63_7] at hc3_1; revert hc3_1; decide) | (exfalso; rw [hc63_7] at hc9_2; revert hc9_2; decide) | (exfalso; rw [hc63_7] at hc27_3; revert hc27_3; decide) | (exfalso; rw [hc63_7] at hc33_4; revert hc33_4; decide) | (exfalso; rw [hc63_7] at hc45_5; revert hc45_5; decide) | (exfalso; rw [hc63_7] at hc51_6; revert hc51_6; decide)), N0, e0⟩ (by decide) (by decide)
              · refine own_via (g' := s₁.setTop (mkF m 70 #[.val (.int p1)] [])) (fun t k => XS.icmpYes X0.here hx rfl (pc0 := 63) (pc' := 70) rfl (hb hby own_d14_63) rfl (XT.ii_ne_t hc63_7) (by decide) (by decide) k) ?_
                refine own_via (g' := s₁.setTop (mkF m 71 #[.val (.int p1)] [(.int (0 : Int32))])) (fun t k => XS.iconst X0.here hx rfl (hb hby own_d14_70) k) ?_
                exact own_retB X0 hx hlk (t := .boolean) Bd.returns (by simp) (hb hby own_d14_71) ⟨(by first | (rw [show nar .boolean (0 : Int32) = (0 : Int32) from rfl, own_exp, if_neg hc3_1, if_pos hc9_2, if_neg hc27_3, if_pos hc33_4, if_neg hc45_5, if_pos hc51_6, if_neg hc63_7]; done) | (rw [show nar .boolean (0 : Int32) = (0 : Int32) from rfl]; simp only [own_exp, hc3_1, hc9_2, hc27_3, hc33_4, hc45_5, hc51_6, hc63_7, if_true, if_false, eq_self, not_true_eq_false, not_false_eq_true, and_true, true_and, and_false, false_and, and_self, or_true, true_or, or_false, false_or, or_self]; done) | (rw [show nar .boolean (0 : Int32) = (0 : Int32) from rfl]; simp [own_exp, hc3_1, hc9_2, hc27_3, hc33_4, hc45_5, hc51_6, hc63_7]; done)), N0, e0⟩ (by decide) (by decide)
            · refine own_via (g' := s₁.setTop (mkF m 54 #[.val (.int p1)] [])) (fun t k => XS.icmpNo X0.here hx rfl (hb hby own_d14_51) rfl (XT.ii_lt_f hc51_6) k) ?_
              refine own_via (g' := s₁.setTop (mkF m 55 #[.val (.int p1)] [(.int p1)])) (fun t k => XS.iloadN X0.here hx rfl (hb hby own_d14_54) rfl k) ?_
              refine own_via (g' := s₁.setTop (mkF m 57 #[.val (.int p1)] [(.int (122 : Int32)), (.int p1)])) (fun t k => XS.bipush X0.here hx rfl (hb hby own_d14_55) k) ?_
              by_cases hc57_8 : (122 : Int32) < p1
              · refine own_via (g' := s₁.setTop (mkF m 60 #[.val (.int p1)] [])) (fun t k => XS.icmpNo X0.here hx rfl (hb hby own_d14_57) rfl (XT.ii_le_f hc57_8) k) ?_
                refine own_via (g' := s₁.setTop (mkF m 61 #[.val (.int p1)] [(.int p1)])) (fun t k => XS.iloadN X0.here hx rfl (hb hby own_d14_60) rfl k) ?_
                refine own_via (g' := s₁.setTop (mkF m 63 #[.val (.int p1)] [(.int (126 : Int32)), (.int p1)])) (fun t k => XS.bipush X0.here hx rfl (hb hby own_d14_61) k) ?_
                by_cases hc63_9 : p1 = (126 : Int32)
                · refine own_via (g' := s₁.setTop (mkF m 66 #[.val (.int p1)] [])) (fun t k => XS.icmpNo X0.here hx rfl (hb hby own_d14_63) rfl (XT.ii_ne_f hc63_9) k) ?_
                  refine own_via (g' := s₁.setTop (mkF m 67 #[.val (.int p1)] [(.int (1 : Int32))])) (fun t k => XS.iconst X0.here hx rfl (hb hby own_d14_66) k) ?_
                  refine own_via (g' := s₁.setTop (mkF m 71 #[.val (.int p1)] [(.int (1 : Int32))])) (fun t k => XS.goto X0.here hx rfl (pc0 := 67) (pc' := 71) rfl (hb hby own_d14_67) (by decide) (by decide) k) ?_
                  exact own_retB X0 hx hlk (t := .boolean) Bd.returns (by simp) (hb hby own_d14_71) ⟨(by first | (rw [show nar .boolean (1 : Int32) = (1 : Int32) from rfl, own_exp, if_neg hc3_1, if_pos hc9_2, if_neg hc27_3, if_pos hc33_4, if_neg hc45_5, if_neg hc51_6, if_pos hc57_8, if_pos hc63_9]; done) | (rw [show nar .boolean (1 : Int32) = (1 : Int32) from rfl]; simp only [own_exp, hc3_1, hc9_2, hc27_3, hc33_4, hc45_5, hc51_6, hc57_8, hc63_9, if_true, if_false, eq_self, not_true_eq_false, not_false_eq_true, and_true, true_and, and_false, false_and, and_self, or_true, true_or, or_false, false_or, or_self]; done) | (rw [show nar .boolean (1 : Int32) = (1 : Int32) from rfl]; simp [own_exp, hc3_1, hc9_2, hc27_3, hc33_4, hc45_5, hc51_6, hc57_8, hc63_9]; done) | (exfalso; rw [hc63_9] at hc3_1; revert hc3_1; decide) | (exfalso; rw [hc63_9] at hc9_2; revert hc9_2; decide) | (exfalso; rw [hc63_9] at hc27_3; revert hc27_3; decide) | (exfalso; rw [hc63_9] at hc33_4; revert hc33_4; decide) | (exfalso; rw [hc63_9] at hc45_5; revert hc45_5; decide) | (exfalso; rw [hc63_9] at hc51_6; revert hc51_6; decide) | (exfalso; rw [hc63_9] at hc57_8; revert hc57_8; decide)), N0, e0⟩ (by decide) (by decide)
                · refine own_via (g' := s₁.setTop (mkF m 70 #[.val (.int p1)] [])) (fun t k => XS.icmpYes X0.here hx rfl (pc0 := 63) (pc' := 70) rfl (hb hby own_d14_63) rfl (XT.ii_ne_t hc63_9) (by decide) (by decide) k) ?_
                  refine own_via (g' := s₁.setTop (mkF m 71 #[.val (.int p1)] [(.int (0 : Int32))])) (fun t k => XS.iconst X0.here hx rfl (hb hby own_d14_70) k) ?_
                  exact own_retB X0 hx hlk (t := .boolean) Bd.returns (by simp) (hb hby own_d14_71) ⟨(by first | (rw [show nar .boolean (0 : Int32) = (0 : Int32) from rfl, own_exp, if_neg hc3_1, if_pos hc9_2, if_neg hc27_3, if_pos hc33_4, if_neg hc45_5, if_neg hc51_6, if_pos hc57_8, if_neg hc63_9]; done) | (rw [show nar .boolean (0 : Int32) = (0 : Int32) from rfl]; simp only [own_exp, hc3_1, hc9_2, hc27_3, hc33_4, hc45_5, hc51_6, hc57_8, hc63_9, if_true, if_false, eq_self, not_true_eq_false, not_false_eq_true, and_true, true_and, and_false, false_and, and_self, or_true, true_or, or_false, false_or, or_self]; done) | (rw [show nar .boolean (0 : Int32) = (0 : Int32) from rfl]; simp [own_exp, hc3_1, hc9_2, hc27_3, hc33_4, hc45_5, hc51_6, hc57_8, hc63_9]; done)), N0, e0⟩ (by decide) (by decide)
              · refine own_via (g' := s₁.setTop (mkF m 66 #[.val (.int p1)] [])) (fun t k => XS.icmpYes X0.here hx rfl (pc0 := 57) (pc' := 66) rfl (hb hby own_d14_57) rfl (XT.ii_le_t hc57_8) (by decide) (by decide) k) ?_
                refine own_via (g' := s₁.setTop (mkF m 67 #[.val (.int p1)] [(.int (1 : Int32))])) (fun t k => XS.iconst X0.here hx rfl (hb hby own_d14_66) k) ?_
                refine own_via (g' := s₁.setTop (mkF m 71 #[.val (.int p1)] [(.int (1 : Int32))])) (fun t k => XS.goto X0.here hx rfl (pc0 := 67) (pc' := 71) rfl (hb hby own_d14_67) (by decide) (by decide) k) ?_
                exact own_retB X0 hx hlk (t := .boolean) Bd.returns (by simp) (hb hby own_d14_71) ⟨(by first | (rw [show nar .boolean (1 : Int32) = (1 : Int32) from rfl, own_exp, if_neg hc3_1, if_pos hc9_2, if_neg hc27_3, if_pos hc33_4, if_neg hc45_5, if_neg hc51_6, if_neg hc57_8]; done) | (rw [show nar .boolean (1 : Int32) = (1 : Int32) from rfl]; simp only [own_exp, hc3_1, hc9_2, hc27_3, hc33_4, hc45_5, hc51_6, hc57_8, if_true, if_false, eq_self, not_true_eq_false, not_false_eq_true, and_true, true_and, and_false, false_and, and_self, or_true, true_or, or_false, false_or, or_self]; done) | (rw [show nar .boolean (1 : Int32) = (1 : Int32) from rfl]; simp [own_exp, hc3_1, hc9_2, hc27_3, hc33_4, hc45_5, hc51_6, hc57_8]; done)), N0, e0⟩ (by decide) (by decide)
        · refine own_via (g' := s₁.setTop (mkF m 36 #[.val (.int p1)] [])) (fun t k => XS.icmpNo X0.here hx rfl (hb hby own_d14_33) rfl (XT.ii_lt_f hc33_4) k) ?_
          refine own_via (g' := s₁.setTop (mkF m 37 #[.val (.int p1)] [(.int p1)])) (fun t k => XS.iloadN X0.here hx rfl (hb hby own_d14_36) rfl k) ?_
          refine own_via (g' := s₁.setTop (mkF m 39 #[.val (.int p1)] [(.int (90 : Int32)), (.int p1)])) (fun t k => XS.bipush X0.here hx rfl (hb hby own_d14_37) k) ?_
          by_cases hc39_10 : (90 : Int32) < p1
          · refine own_via (g' := s₁.setTop (mkF m 42 #[.val (.int p1)] [])) (fun t k => XS.icmpNo X0.here hx rfl (hb hby own_d14_39) rfl (XT.ii_le_f hc39_10) k) ?_
            refine own_via (g' := s₁.setTop (mkF m 43 #[.val (.int p1)] [(.int p1)])) (fun t k => XS.iloadN X0.here hx rfl (hb hby own_d14_42) rfl k) ?_
            refine own_via (g' := s₁.setTop (mkF m 45 #[.val (.int p1)] [(.int (95 : Int32)), (.int p1)])) (fun t k => XS.bipush X0.here hx rfl (hb hby own_d14_43) k) ?_
            by_cases hc45_11 : p1 = (95 : Int32)
            · refine own_via (g' := s₁.setTop (mkF m 66 #[.val (.int p1)] [])) (fun t k => XS.icmpYes X0.here hx rfl (pc0 := 45) (pc' := 66) rfl (hb hby own_d14_45) rfl (XT.ii_eq_t hc45_11) (by decide) (by decide) k) ?_
              refine own_via (g' := s₁.setTop (mkF m 67 #[.val (.int p1)] [(.int (1 : Int32))])) (fun t k => XS.iconst X0.here hx rfl (hb hby own_d14_66) k) ?_
              refine own_via (g' := s₁.setTop (mkF m 71 #[.val (.int p1)] [(.int (1 : Int32))])) (fun t k => XS.goto X0.here hx rfl (pc0 := 67) (pc' := 71) rfl (hb hby own_d14_67) (by decide) (by decide) k) ?_
              exact own_retB X0 hx hlk (t := .boolean) Bd.returns (by simp) (hb hby own_d14_71) ⟨(by first | (rw [show nar .boolean (1 : Int32) = (1 : Int32) from rfl, own_exp, if_neg hc3_1, if_pos hc9_2, if_neg hc27_3, if_neg hc33_4, if_pos hc39_10, if_pos hc45_11]; done) | (rw [show nar .boolean (1 : Int32) = (1 : Int32) from rfl]; simp only [own_exp, hc3_1, hc9_2, hc27_3, hc33_4, hc39_10, hc45_11, if_true, if_false, eq_self, not_true_eq_false, not_false_eq_true, and_true, true_and, and_false, false_and, and_self, or_true, true_or, or_false, false_or, or_self]; done) | (rw [show nar .boolean (1 : Int32) = (1 : Int32) from rfl]; simp [own_exp, hc3_1, hc9_2, hc27_3, hc33_4, hc39_10, hc45_11]; done) | (exfalso; rw [hc45_11] at hc3_1; revert hc3_1; decide) | (exfalso; rw [hc45_11] at hc9_2; revert hc9_2; decide) | (exfalso; rw [hc45_11] at hc27_3; revert hc27_3; decide) | (exfalso; rw [hc45_11] at hc33_4; revert hc33_4; decide) | (exfalso; rw [hc45_11] at hc39_10; revert hc39_10; decide)), N0, e0⟩ (by decide) (by decide)
            · refine own_via (g' := s₁.setTop (mkF m 48 #[.val (.int p1)] [])) (fun t k => XS.icmpNo X0.here hx rfl (hb hby own_d14_45) rfl (XT.ii_eq_f hc45_11) k) ?_
              refine own_via (g' := s₁.setTop (mkF m 49 #[.val (.int p1)] [(.int p1)])) (fun t k => XS.iloadN X0.here hx rfl (hb hby own_d14_48) rfl k) ?_
              refine own_via (g' := s₁.setTop (mkF m 51 #[.val (.int p1)] [(.int (97 : Int32)), (.int p1)])) (fun t k => XS.bipush X0.here hx rfl (hb hby own_d14_49) k) ?_
              by_cases hc51_12 : p1 < (97 : Int32)
              · refine own_via (g' := s₁.setTop (mkF m 60 #[.val (.int p1)] [])) (fun t k => XS.icmpYes X0.here hx rfl (pc0 := 51) (pc' := 60) rfl (hb hby own_d14_51) rfl (XT.ii_lt_t hc51_12) (by decide) (by decide) k) ?_
                refine own_via (g' := s₁.setTop (mkF m 61 #[.val (.int p1)] [(.int p1)])) (fun t k => XS.iloadN X0.here hx rfl (hb hby own_d14_60) rfl k) ?_
                refine own_via (g' := s₁.setTop (mkF m 63 #[.val (.int p1)] [(.int (126 : Int32)), (.int p1)])) (fun t k => XS.bipush X0.here hx rfl (hb hby own_d14_61) k) ?_
                by_cases hc63_13 : p1 = (126 : Int32)
                · refine own_via (g' := s₁.setTop (mkF m 66 #[.val (.int p1)] [])) (fun t k => XS.icmpNo X0.here hx rfl (hb hby own_d14_63) rfl (XT.ii_ne_f hc63_13) k) ?_
                  refine own_via (g' := s₁.setTop (mkF m 67 #[.val (.int p1)] [(.int (1 : Int32))])) (fun t k => XS.iconst X0.here hx rfl (hb hby own_d14_66) k) ?_
                  refine own_via (g' := s₁.setTop (mkF m 71 #[.val (.int p1)] [(.int (1 : Int32))])) (fun t k => XS.goto X0.here hx rfl (pc0 := 67) (pc' := 71) rfl (hb hby own_d14_67) (by decide) (by decide) k) ?_
                  exact own_retB X0 hx hlk (t := .boolean) Bd.returns (by simp) (hb hby own_d14_71) ⟨(by first | (rw [show nar .boolean (1 : Int32) = (1 : Int32) from rfl, own_exp, if_neg hc3_1, if_pos hc9_2, if_neg hc27_3, if_neg hc33_4, if_pos hc39_10, if_neg hc45_11, if_pos hc51_12, if_pos hc63_13]; done) | (rw [show nar .boolean (1 : Int32) = (1 : Int32) from rfl]; simp only [own_exp, hc3_1, hc9_2, hc27_3, hc33_4, hc39_10, hc45_11, hc51_12, hc63_13, if_true, if_false, eq_self, not_true_eq_false, not_false_eq_true, and_true, true_and, and_false, false_and, and_self, or_true, true_or, or_false, false_or, or_self]; done) | (rw [show nar .boolean (1 : Int32) = (1 : Int32) from rfl]; simp [own_exp, hc3_1, hc9_2, hc27_3, hc33_4, hc39_10, hc45_11, hc51_12, hc63_13]; done) | (exfalso; rw [hc63_13] at hc3_1; revert hc3_1; decide) | (exfalso; rw [hc63_13] at hc9_2; revert hc9_2; decide) | (exfalso; rw [hc63_13] at hc27_3; revert hc27_3; decide) | (exfalso; rw [hc63_13] at hc33_4; revert hc33_4; decide) | (exfalso; rw [hc63_13] at hc39_10; revert hc39_10; decide) | (exfalso; rw [hc63_13] at hc45_11; revert hc45_11; decide) | (exfalso; rw [hc63_13] at hc51_12; revert hc51_12; decide)), N0, e0⟩ (by decide) (by decide)
                · refine own_via (g' := s₁.setTop (mkF m 70 #[.val (.int p1)] [])) (fun t k => XS.icmpYes X0.here hx rfl (pc0 := 63) (pc' := 70) rfl (hb hby own_d14_63) rfl (XT.ii_ne_t hc63_13) (by decide) (by decide) k) ?_
                  refine own_via (g' := s₁.setTop (mkF m 71 #[.val (.int p1)] [(.int (0 : Int32))])) (fun t k => XS.iconst X0.here hx rfl (hb hby own_d14_70) k) ?_
                  exact own_retB X0 hx hlk (t := .boolean) Bd.returns (by simp) (hb hby own_d14_71) ⟨(by first | (rw [show nar .boolean (0 : Int32) = (0 : Int32) from rfl, own_exp, if_neg hc3_1, if_pos hc9_2, if_neg hc27_3, if_neg hc33_4, if_pos hc39_10, if_neg hc45_11, if_pos hc51_12, if_neg hc63_13]; done) | (rw [show nar .boolean (0 : Int32) = (0 : Int32) from rfl]; simp only [own_exp, hc3_1, hc9_2, hc27_3, hc33_4, hc39_10, hc45_11, hc51_12, hc63_13, if_true, if_false, eq_self, not_true_eq_false, not_false_eq_true, and_true, true_and, and_false, false_and, and_self, or_true, true_or, or_false, false_or, or_self]; done) | (rw [show nar .boolean (0 : Int32) = (0 : Int32) from rfl]; simp [own_exp, hc3_1, hc9_2, hc27_3, hc33_4, hc39_10, hc45_11, hc51_12, hc63_13]; done)), N0, e0⟩ (by decide) (by decide)
              · refine own_via (g' := s₁.setTop (mkF m 54 #[.val (.int p1)] [])) (fun t k => XS.icmpNo X0.here hx rfl (hb hby own_d14_51) rfl (XT.ii_lt_f hc51_12) k) ?_
                refine own_via (g' := s₁.setTop (mkF m 55 #[.val (.int p1)] [(.int p1)])) (fun t k => XS.iloadN X0.here hx rfl (hb hby own_d14_54) rfl k) ?_
                refine own_via (g' := s₁.setTop (mkF m 57 #[.val (.int p1)] [(.int (122 : Int32)), (.int p1)])) (fun t k => XS.bipush X0.here hx rfl (hb hby own_d14_55) k) ?_
                by_cases hc57_14 : (122 : Int32) < p1
                · refine own_via (g' := s₁.setTop (mkF m 60 #[.val (.int p1)] [])) (fun t k => XS.icmpNo X0.here hx rfl (hb hby own_d14_57) rfl (XT.ii_le_f hc57_14) k) ?_
                  refine own_via (g' := s₁.setTop (mkF m 61 #[.val (.int p1)] [(.int p1)])) (fun t k => XS.iloadN X0.here hx rfl (hb hby own_d14_60) rfl k) ?_
                  refine own_via (g' := s₁.setTop (mkF m 63 #[.val (.int p1)] [(.int (126 : Int32)), (.int p1)])) (fun t k => XS.bipush X0.here hx rfl (hb hby own_d14_61) k) ?_
                  by_cases hc63_15 : p1 = (126 : Int32)
                  · refine own_via (g' := s₁.setTop (mkF m 66 #[.val (.int p1)] [])) (fun t k => XS.icmpNo X0.here hx rfl (hb hby own_d14_63) rfl (XT.ii_ne_f hc63_15) k) ?_
                    refine own_via (g' := s₁.setTop (mkF m 67 #[.val (.int p1)] [(.int (1 : Int32))])) (fun t k => XS.iconst X0.here hx rfl (hb hby own_d14_66) k) ?_
                    refine own_via (g' := s₁.setTop (mkF m 71 #[.val (.int p1)] [(.int (1 : Int32))])) (fun t k => XS.goto X0.here hx rfl (pc0 := 67) (pc' := 71) rfl (hb hby own_d14_67) (by decide) (by decide) k) ?_
                    exact own_retB X0 hx hlk (t := .boolean) Bd.returns (by simp) (hb hby own_d14_71) ⟨(by first | (rw [show nar .boolean (1 : Int32) = (1 : Int32) from rfl, own_exp, if_neg hc3_1, if_pos hc9_2, if_neg hc27_3, if_neg hc33_4, if_pos hc39_10, if_neg hc45_11, if_neg hc51_12, if_pos hc57_14, if_pos hc63_15]; done) | (rw [show nar .boolean (1 : Int32) = (1 : Int32) from rfl]; simp only [own_exp, hc3_1, hc9_2, hc27_3, hc33_4, hc39_10, hc45_11, hc51_12, hc57_14, hc63_15, if_true, if_false, eq_self, not_true_eq_false, not_false_eq_true, and_true, true_and, and_false, false_and, and_self, or_true, true_or, or_false, false_or, or_self]; done) | (rw [show nar .boolean (1 : Int32) = (1 : Int32) from rfl]; simp [own_exp, hc3_1, hc9_2, hc27_3, hc33_4, hc39_10, hc45_11, hc51_12, hc57_14, hc63_15]; done) | (exfalso; rw [hc63_15] at hc3_1; revert hc3_1; decide) | (exfalso; rw [hc63_15] at hc9_2; revert hc9_2; decide) | (exfalso; rw [hc63_15] at hc27_3; revert hc27_3; decide) | (exfalso; rw [hc63_15] at hc33_4; revert hc33_4; decide) | (exfalso; rw [hc63_15] at hc39_10; revert hc39_10; decide) | (exfalso; rw [hc63_15] at hc45_11; revert hc45_11; decide) | (exfalso; rw [hc63_15] at hc51_12; revert hc51_12; decide) | (exfalso; rw [hc63_15] at hc57_14; revert hc57_14; decide)), N0, e0⟩ (by decide) (by decide)
                  · refine own_via (g' := s₁.setTop (mkF m 70 #[.val (.int p1)] [])) (fun t k => XS.icmpYes X0.here hx rfl (pc0 := 63) (pc' := 70) rfl (hb hby own_d14_63) rfl (XT.ii_ne_t hc63_15) (by decide) (by decide) k) ?_
                    refine own_via (g' := s₁.setTop (mkF m 71 #[.val (.int p1)] [(.int (0 : Int32))])) (fun t k => XS.iconst X0.here hx rfl (hb hby own_d14_70) k) ?_
                    exact own_retB X0 hx hlk (t := .boolean) Bd.returns (by simp) (hb hby own_d14_71) ⟨(by first | (rw [show nar .boolean (0 : Int32) = (0 : Int32) from rfl, own_exp, if_neg hc3_1, if_pos hc9_2, if_neg hc27_3, if_neg hc33_4, if_pos hc39_10, if_neg hc45_11, if_neg hc51_12, if_pos hc57_14, if_neg hc63_15]; done) | (rw [show nar .boolean (0 : Int32) = (0 : Int32) from rfl]; simp only [own_exp, hc3_1, hc9_2, hc27_3, hc33_4, hc39_10, hc45_11, hc51_12, hc57_14, hc63_15, if_true, if_false, eq_self, not_true_eq_false, not_false_eq_true, and_true, true_and, and_false, false_and, and_self, or_true, true_or, or_false, false_or, or_self]; done) | (rw [show nar .boolean (0 : Int32) = (0 : Int32) from rfl]; simp [own_exp, hc3_1, hc9_2, hc27_3, hc33_4, hc39_10, hc45_11, hc51_12, hc57_14, hc63_15]; done)), N0, e0⟩ (by decide) (by decide)
                · refine own_via (g' := s₁.setTop (mkF m 66 #[.val (.int p1)] [])) (fun t k => XS.icmpYes X0.here hx rfl (pc0 := 57) (pc' := 66) rfl (hb hby own_d14_57) rfl (XT.ii_le_t hc57_14) (by decide) (by decide) k) ?_
                  refine own_via (g' := s₁.setTop (mkF m 67 #[.val (.int p1)] [(.int (1 : Int32))])) (fun t k => XS.iconst X0.here hx rfl (hb hby own_d14_66) k) ?_
                  refine own_via (g' := s₁.setTop (mkF m 71 #[.val (.int p1)] [(.int (1 : Int32))])) (fun t k => XS.goto X0.here hx rfl (pc0 := 67) (pc' := 71) rfl (hb hby own_d14_67) (by decide) (by decide) k) ?_
                  exact own_retB X0 hx hlk (t := .boolean) Bd.returns (by simp) (hb hby own_d14_71) ⟨(by first | (rw [show nar .boolean (1 : Int32) = (1 : Int32) from rfl, own_exp, if_neg hc3_1, if_pos hc9_2, if_neg hc27_3, if_neg hc33_4, if_pos hc39_10, if_neg hc45_11, if_neg hc51_12, if_neg hc57_14]; done) | (rw [show nar .boolean (1 : Int32) = (1 : Int32) from rfl]; simp only [own_exp, hc3_1, hc9_2, hc27_3, hc33_4, hc39_10, hc45_11, hc51_12, hc57_14, if_true, if_false, eq_self, not_true_eq_false, not_false_eq_true, and_true, true_and, and_false, false_and, and_self, or_true, true_or, or_false, false_or, or_self]; done) | (rw [show nar .boolean (1 : Int32) = (1 : Int32) from rfl]; simp [own_exp, hc3_1, hc9_2, hc27_3, hc33_4, hc39_10, hc45_11, hc51_12, hc57_14]; done)), N0, e0⟩ (by decide) (by decide)
          · refine own_via (g' := s₁.setTop (mkF m 66 #[.val (.int p1)] [])) (fun t k => XS.icmpYes X0.here hx rfl (pc0 := 39) (pc' := 66) rfl (hb hby own_d14_39) rfl (XT.ii_le_t hc39_10) (by decide) (by decide) k) ?_
            refine own_via (g' := s₁.setTop (mkF m 67 #[.val (.int p1)] [(.int (1 : Int32))])) (fun t k => XS.iconst X0.here hx rfl (hb hby own_d14_66) k) ?_
            refine own_via (g' := s₁.setTop (mkF m 71 #[.val (.int p1)] [(.int (1 : Int32))])) (fun t k => XS.goto X0.here hx rfl (pc0 := 67) (pc' := 71) rfl (hb hby own_d14_67) (by decide) (by decide) k) ?_
            exact own_retB X0 hx hlk (t := .boolean) Bd.returns (by simp) (hb hby own_d14_71) ⟨(by first | (rw [show nar .boolean (1 : Int32) = (1 : Int32) from rfl, own_exp, if_neg hc3_1, if_pos hc9_2, if_neg hc27_3, if_neg hc33_4, if_neg hc39_10]; done) | (rw [show nar .boolean (1 : Int32) = (1 : Int32) from rfl]; simp only [own_exp, hc3_1, hc9_2, hc27_3, hc33_4, hc39_10, if_true, if_false, eq_self, not_true_eq_false, not_false_eq_true, and_true, true_and, and_false, false_and, and_self, or_true, true_or, or_false, false_or, or_self]; done) | (rw [show nar .boolean (1 : Int32) = (1 : Int32) from rfl]; simp [own_exp, hc3_1, hc9_2, hc27_3, hc33_4, hc39_10]; done)), N0, e0⟩ (by decide) (by decide)
    · refine own_via (g' := s₁.setTop (mkF m 12 #[.val (.int p1)] [])) (fun t k => XS.icmpNo X0.here hx rfl (hb hby own_d14_9) rfl (XT.ii_lt_f hc9_2) k) ?_
      refine own_via (g' := s₁.setTop (mkF m 13 #[.val (.int p1)] [(.int p1)])) (fun t k => XS.iloadN X0.here hx rfl (hb hby own_d14_12) rfl k) ?_
      refine own_via (g' := s₁.setTop (mkF m 15 #[.val (.int p1)] [(.int (59 : Int32)), (.int p1)])) (fun t k => XS.bipush X0.here hx rfl (hb hby own_d14_13) k) ?_
      by_cases hc15_16 : (59 : Int32) < p1
      · refine own_via (g' := s₁.setTop (mkF m 24 #[.val (.int p1)] [])) (fun t k => XS.icmpYes X0.here hx rfl (pc0 := 15) (pc' := 24) rfl (hb hby own_d14_15) rfl (XT.ii_gt_t hc15_16) (by decide) (by decide) k) ?_
        refine own_via (g' := s₁.setTop (mkF m 25 #[.val (.int p1)] [(.int p1)])) (fun t k => XS.iloadN X0.here hx rfl (hb hby own_d14_24) rfl k) ?_
        refine own_via (g' := s₁.setTop (mkF m 27 #[.val (.int p1)] [(.int (61 : Int32)), (.int p1)])) (fun t k => XS.bipush X0.here hx rfl (hb hby own_d14_25) k) ?_
        by_cases hc27_17 : p1 = (61 : Int32)
        · refine own_via (g' := s₁.setTop (mkF m 66 #[.val (.int p1)] [])) (fun t k => XS.icmpYes X0.here hx rfl (pc0 := 27) (pc' := 66) rfl (hb hby own_d14_27) rfl (XT.ii_eq_t hc27_17) (by decide) (by decide) k) ?_
          refine own_via (g' := s₁.setTop (mkF m 67 #[.val (.int p1)] [(.int (1 : Int32))])) (fun t k => XS.iconst X0.here hx rfl (hb hby own_d14_66) k) ?_
          refine own_via (g' := s₁.setTop (mkF m 71 #[.val (.int p1)] [(.int (1 : Int32))])) (fun t k => XS.goto X0.here hx rfl (pc0 := 67) (pc' := 71) rfl (hb hby own_d14_67) (by decide) (by decide) k) ?_
          exact own_retB X0 hx hlk (t := .boolean) Bd.returns (by simp) (hb hby own_d14_71) ⟨(by first | (rw [show nar .boolean (1 : Int32) = (1 : Int32) from rfl, own_exp, if_neg hc3_1, if_neg hc9_2, if_pos hc15_16, if_pos hc27_17]; done) | (rw [show nar .boolean (1 : Int32) = (1 : Int32) from rfl]; simp only [own_exp, hc3_1, hc9_2, hc15_16, hc27_17, if_true, if_false, eq_self, not_true_eq_false, not_false_eq_true, and_true, true_and, and_false, false_and, and_self, or_true, true_or, or_false, false_or, or_self]; done) | (rw [show nar .boolean (1 : Int32) = (1 : Int32) from rfl]; simp [own_exp, hc3_1, hc9_2, hc15_16, hc27_17]; done) | (exfalso; rw [hc27_17] at hc3_1; revert hc3_1; decide) | (exfalso; rw [hc27_17] at hc9_2; revert hc9_2; decide) | (exfalso; rw [hc27_17] at hc15_16; revert hc15_16; decide)), N0, e0⟩ (by decide) (by decide)
        · refine own_via (g' := s₁.setTop (mkF m 30 #[.val (.int p1)] [])) (fun t k => XS.icmpNo X0.here hx rfl (hb hby own_d14_27) rfl (XT.ii_eq_f hc27_17) k) ?_
          refine own_via (g' := s₁.setTop (mkF m 31 #[.val (.int p1)] [(.int p1)])) (fun t k => XS.iloadN X0.here hx rfl (hb hby own_d14_30) rfl k) ?_
          refine own_via (g' := s₁.setTop (mkF m 33 #[.val (.int p1)] [(.int (63 : Int32)), (.int p1)])) (fun t k => XS.bipush X0.here hx rfl (hb hby own_d14_31) k) ?_
          by_cases hc33_18 : p1 < (63 : Int32)
          · refine own_via (g' := s₁.setTop (mkF m 42 #[.val (.int p1)] [])) (fun t k => XS.icmpYes X0.here hx rfl (pc0 := 33) (pc' := 42) rfl (hb hby own_d14_33) rfl (XT.ii_lt_t hc33_18) (by decide) (by decide) k) ?_
            refine own_via (g' := s₁.setTop (mkF m 43 #[.val (.int p1)] [(.int p1)])) (fun t k => XS.iloadN X0.here hx rfl (hb hby own_d14_42) rfl k) ?_
            refine own_via (g' := s₁.setTop (mkF m 45 #[.val (.int p1)] [(.int (95 : Int32)), (.int p1)])) (fun t k => XS.bipush X0.here hx rfl (hb hby own_d14_43) k) ?_
            by_cases hc45_19 : p1 = (95 : Int32)
            · refine own_via (g' := s₁.setTop (mkF m 66 #[.val (.int p1)] [])) (fun t k => XS.icmpYes X0.here hx rfl (pc0 := 45) (pc' := 66) rfl (hb hby own_d14_45) rfl (XT.ii_eq_t hc45_19) (by decide) (by decide) k) ?_
              refine own_via (g' := s₁.setTop (mkF m 67 #[.val (.int p1)] [(.int (1 : Int32))])) (fun t k => XS.iconst X0.here hx rfl (hb hby own_d14_66) k) ?_
              refine own_via (g' := s₁.setTop (mkF m 71 #[.val (.int p1)] [(.int (1 : Int32))])) (fun t k => XS.goto X0.here hx rfl (pc0 := 67) (pc' := 71) rfl (hb hby own_d14_67) (by decide) (by decide) k) ?_
              exact own_retB X0 hx hlk (t := .boolean) Bd.returns (by simp) (hb hby own_d14_71) ⟨(by first | (rw [show nar .boolean (1 : Int32) = (1 : Int32) from rfl, own_exp, if_neg hc3_1, if_neg hc9_2, if_pos hc15_16, if_neg hc27_17, if_pos hc33_18, if_pos hc45_19]; done) | (rw [show nar .boolean (1 : Int32) = (1 : Int32) from rfl]; simp only [own_exp, hc3_1, hc9_2, hc15_16, hc27_17, hc33_18, hc45_19, if_true, if_false, eq_self, not_true_eq_false, not_false_eq_true, and_true, true_and, and_false, false_and, and_self, or_true, true_or, or_false, false_or, or_self]; done) | (rw [show nar .boolean (1 : Int32) = (1 : Int32) from rfl]; simp [own_exp, hc3_1, hc9_2, hc15_16, hc27_17, hc33_18, hc45_19]; done) | (exfalso; rw [hc45_19] at hc3_1; revert hc3_1; decide) | (exfalso; rw [hc45_19] at hc9_2; revert hc9_2; decide) | (exfalso; rw [hc45_19] at hc15_16; revert hc15_16; decide) | (exfalso; rw [hc45_19] at hc27_17; revert hc27_17; decide) | (exfalso; rw [hc45_19] at hc33_18; revert hc33_18; decide)), N0, e0⟩ (by decide) (by decide)
            · refine own_via (g' := s₁.setTop (mkF m 48 #[.val (.int p1)] [])) (fun t k => XS.icmpNo X0.here hx rfl (hb hby own_d14_45) rfl (XT.ii_eq_f hc45_19) k) ?_
              refine own_via (g' := s₁.setTop (mkF m 49 #[.val (.int p1)] [(.int p1)])) (fun t k => XS.iloadN X0.here hx rfl (hb hby own_d14_48) rfl k) ?_
              refine own_via (g' := s₁.setTop (mkF m 51 #[.val (.int p1)] [(.int (97 : Int32)), (.int p1)])) (fun t k => XS.bipush X0.here hx rfl (hb hby own_d14_49) k) ?_
              by_cases hc51_20 : p1 < (97 : Int32)
              · refine own_via (g' := s₁.setTop (mkF m 60 #[.val (.int p1)] [])) (fun t k => XS.icmpYes X0.here hx rfl (pc0 := 51) (pc' := 60) rfl (hb hby own_d14_51) rfl (XT.ii_lt_t hc51_20) (by decide) (by decide) k) ?_
                refine own_via (g' := s₁.setTop (mkF m 61 #[.val (.int p1)] [(.int p1)])) (fun t k => XS.iloadN X0.here hx rfl (hb hby own_d14_60) rfl k) ?_
                refine own_via (g' := s₁.setTop (mkF m 63 #[.val (.int p1)] [(.int (126 : Int32)), (.int p1)])) (fun t k => XS.bipush X0.here hx rfl (hb hby own_d14_61) k) ?_
                by_cases hc63_21 : p1 = (126 : Int32)
                · refine own_via (g' := s₁.setTop (mkF m 66 #[.val (.int p1)] [])) (fun t k => XS.icmpNo X0.here hx rfl (hb hby own_d14_63) rfl (XT.ii_ne_f hc63_21) k) ?_
                  refine own_via (g' := s₁.setTop (mkF m 67 #[.val (.int p1)] [(.int (1 : Int32))])) (fun t k => XS.iconst X0.here hx rfl (hb hby own_d14_66) k) ?_
                  refine own_via (g' := s₁.setTop (mkF m 71 #[.val (.int p1)] [(.int (1 : Int32))])) (fun t k => XS.goto X0.here hx rfl (pc0 := 67) (pc' := 71) rfl (hb hby own_d14_67) (by decide) (by decide) k) ?_
                  exact own_retB X0 hx hlk (t := .boolean) Bd.returns (by simp) (hb hby own_d14_71) ⟨(by first | (rw [show nar .boolean (1 : Int32) = (1 : Int32) from rfl, own_exp, if_neg hc3_1, if_neg hc9_2, if_pos hc15_16, if_neg hc27_17, if_pos hc33_18, if_neg hc45_19, if_pos hc51_20, if_pos hc63_21]; done) | (rw [show nar .boolean (1 : Int32) = (1 : Int32) from rfl]; simp only [own_exp, hc3_1, hc9_2, hc15_16, hc27_17, hc33_18, hc45_19, hc51_20, hc63_21, if_true, if_false, eq_self, not_true_eq_false, not_false_eq_true, and_true, true_and, and_false, false_and, and_self, or_true, true_or, or_false, false_or, or_self]; done) | (rw [show nar .boolean (1 : Int32) = (1 : Int32) from rfl]; simp [own_exp, hc3_1, hc9_2, hc15_16, hc27_17, hc33_18, hc45_19, hc51_20, hc63_21]; done) | (exfalso; rw [hc63_21] at hc3_1; revert hc3_1; decide) | (exfalso; rw [hc63_21] at hc9_2; revert hc9_2; decide) | (exfalso; rw [hc63_21] at hc15_16; revert hc15_16; decide) | (exfalso; rw [hc63_21] at hc27_17; revert hc27_17; decide) | (exfalso; rw [hc63_21] at hc33_18; revert hc33_18; decide) | (exfalso; rw [hc63_21] at hc45_19; revert hc45_19; decide) | (exfalso; rw [hc63_21] at hc51_20; revert hc51_20; decide)), N0, e0⟩ (by decide) (by decide)
                · refine own_via (g' := s₁.setTop (mkF m 70 #[.val (.int p1)] [])) (fun t k => XS.icmpYes X0.here hx rfl (pc0 := 63) (pc' := 70) rfl (hb hby own_d14_63) rfl (XT.ii_ne_t hc63_21) (by decide) (by decide) k) ?_
                  refine own_via (g' := s₁.setTop (mkF m 71 #[.val (.int p1)] [(.int (0 : Int32))])) (fun t k => XS.iconst X0.here hx rfl (hb hby own_d14_70) k) ?_
                  exact own_retB X0 hx hlk (t := .boolean) Bd.returns (by simp) (hb hby own_d14_71) ⟨(by first | (rw [show nar .boolean (0 : Int32) = (0 : Int32) from rfl, own_exp, if_neg hc3_1, if_neg hc9_2, if_pos hc15_16, if_neg hc27_17, if_pos hc33_18, if_neg hc45_19, if_pos hc51_20, if_neg hc63_21]; done) | (rw [show nar .boolean (0 : Int32) = (0 : Int32) from rfl]; simp only [own_exp, hc3_1, hc9_2, hc15_16, hc27_17, hc33_18, hc45_19, hc51_20, hc63_21, if_true, if_false, eq_self, not_true_eq_false, not_false_eq_true, and_true, true_and, and_false, false_and, and_self, or_true, true_or, or_false, false_or, or_self]; done) | (rw [show nar .boolean (0 : Int32) = (0 : Int32) from rfl]; simp [own_exp, hc3_1, hc9_2, hc15_16, hc27_17, hc33_18, hc45_19, hc51_20, hc63_21]; done)), N0, e0⟩ (by decide) (by decide)
              · refine own_via (g' := s₁.setTop (mkF m 54 #[.val (.int p1)] [])) (fun t k => XS.icmpNo X0.here hx rfl (hb hby own_d14_51) rfl (XT.ii_lt_f hc51_20) k) ?_
                refine own_via (g' := s₁.setTop (mkF m 55 #[.val (.int p1)] [(.int p1)])) (fun t k => XS.iloadN X0.here hx rfl (hb hby own_d14_54) rfl k) ?_
                refine own_via (g' := s₁.setTop (mkF m 57 #[.val (.int p1)] [(.int (122 : Int32)), (.int p1)])) (fun t k => XS.bipush X0.here hx rfl (hb hby own_d14_55) k) ?_
                by_cases hc57_22 : (122 : Int32) < p1
                · refine own_via (g' := s₁.setTop (mkF m 60 #[.val (.int p1)] [])) (fun t k => XS.icmpNo X0.here hx rfl (hb hby own_d14_57) rfl (XT.ii_le_f hc57_22) k) ?_
                  refine own_via (g' := s₁.setTop (mkF m 61 #[.val (.int p1)] [(.int p1)])) (fun t k => XS.iloadN X0.here hx rfl (hb hby own_d14_60) rfl k) ?_
                  refine own_via (g' := s₁.setTop (mkF m 63 #[.val (.int p1)] [(.int (126 : Int32)), (.int p1)])) (fun t k => XS.bipush X0.here hx rfl (hb hby own_d14_61) k) ?_
                  by_cases hc63_23 : p1 = (126 : Int32)
                  · refine own_via (g' := s₁.setTop (mkF m 66 #[.val (.int p1)] [])) (fun t k => XS.icmpNo X0.here hx rfl (hb hby own_d14_63) rfl (XT.ii_ne_f hc63_23) k) ?_
                    refine own_via (g' := s₁.setTop (mkF m 67 #[.val (.int p1)] [(.int (1 : Int32))])) (fun t k => XS.iconst X0.here hx rfl (hb hby own_d14_66) k) ?_
                    refine own_via (g' := s₁.setTop (mkF m 71 #[.val (.int p1)] [(.int (1 : Int32))])) (fun t k => XS.goto X0.here hx rfl (pc0 := 67) (pc' := 71) rfl (hb hby own_d14_67) (by decide) (by decide) k) ?_
                    exact own_retB X0 hx hlk (t := .boolean) Bd.returns (by simp) (hb hby own_d14_71) ⟨(by first | (rw [show nar .boolean (1 : Int32) = (1 : Int32) from rfl, own_exp, if_neg hc3_1, if_neg hc9_2, if_pos hc15_16, if_neg hc27_17, if_pos hc33_18, if_neg hc45_19, if_neg hc51_20, if_pos hc57_22, if_pos hc63_23]; done) | (rw [show nar .boolean (1 : Int32) = (1 : Int32) from rfl]; simp only [own_exp, hc3_1, hc9_2, hc15_16, hc27_17, hc33_18, hc45_19, hc51_20, hc57_22, hc63_23, if_true, if_false, eq_self, not_true_eq_false, not_false_eq_true, and_true, true_and, and_false, false_and, and_self, or_true, true_or, or_false, false_or, or_self]; done) | (rw [show nar .boolean (1 : Int32) = (1 : Int32) from rfl]; simp [own_exp, hc3_1, hc9_2, hc15_16, hc27_17, hc33_18, hc45_19, hc51_20, hc57_22, hc63_23]; done) | (exfalso; rw [hc63_23] at hc3_1; revert hc3_1; decide) | (exfalso; rw [hc63_23] at hc9_2; revert hc9_2; decide) | (exfalso; rw [hc63_23] at hc15_16; revert hc15_16; decide) | (exfalso; rw [hc63_23] at hc27_17; revert hc27_17; decide) | (exfalso; rw [hc63_23] at hc33_18; revert hc33_18; decide) | (exfalso; rw [hc63_23] at hc45_19; revert hc45_19; decide) | (exfalso; rw [hc63_23] at hc51_20; revert hc51_20; decide) | (exfalso; rw [hc63_23] at hc57_22; revert hc57_22; decide)), N0, e0⟩ (by decide) (by decide)
                  · refine own_via (g' := s₁.setTop (mkF m 70 #[.val (.int p1)] [])) (fun t k => XS.icmpYes X0.here hx rfl (pc0 := 63) (pc' := 70) rfl (hb hby own_d14_63) rfl (XT.ii_ne_t hc63_23) (by decide) (by decide) k) ?_
                    refine own_via (g' := s₁.setTop (mkF m 71 #[.val (.int p1)] [(.int (0 : Int32))])) (fun t k => XS.iconst X0.here hx rfl (hb hby own_d14_70) k) ?_
                    exact own_retB X0 hx hlk (t := .boolean) Bd.returns (by simp) (hb hby own_d14_71) ⟨(by first | (rw [show nar .boolean (0 : Int32) = (0 : Int32) from rfl, own_exp, if_neg hc3_1, if_neg hc9_2, if_pos hc15_16, if_neg hc27_17, if_pos hc33_18, if_neg hc45_19, if_neg hc51_20, if_pos hc57_22, if_neg hc63_23]; done) | (rw [show nar .boolean (0 : Int32) = (0 : Int32) from rfl]; simp only [own_exp, hc3_1, hc9_2, hc15_16, hc27_17, hc33_18, hc45_19, hc51_20, hc57_22, hc63_23, if_true, if_false, eq_self, not_true_eq_false, not_false_eq_true, and_true, true_and, and_false, false_and, and_self, or_true, true_or, or_false, false_or, or_self]; done) | (rw [show nar .boolean (0 : Int32) = (0 : Int32) from rfl]; simp [own_exp, hc3_1, hc9_2, hc15_16, hc27_17, hc33_18, hc45_19, hc51_20, hc57_22, hc63_23]; done)), N0, e0⟩ (by decide) (by decide)
                · refine own_via (g' := s₁.setTop (mkF m 66 #[.val (.int p1)] [])) (fun t k => XS.icmpYes X0.here hx rfl (pc0 := 57) (pc' := 66) rfl (hb hby own_d14_57) rfl (XT.ii_le_t hc57_22) (by decide) (by decide) k) ?_
                  refine own_via (g' := s₁.setTop (mkF m 67 #[.val (.int p1)] [(.int (1 : Int32))])) (fun t k => XS.iconst X0.here hx rfl (hb hby own_d14_66) k) ?_
                  refine own_via (g' := s₁.setTop (mkF m 71 #[.val (.int p1)] [(.int (1 : Int32))])) (fun t k => XS.goto X0.here hx rfl (pc0 := 67) (pc' := 71) rfl (hb hby own_d14_67) (by decide) (by decide) k) ?_
                  exact own_retB X0 hx hlk (t := .boolean) Bd.returns (by simp) (hb hby own_d14_71) ⟨(by first | (rw [show nar .boolean (1 : Int32) = (1 : Int32) from rfl, own_exp, if_neg hc3_1, if_neg hc9_2, if_pos hc15_16, if_neg hc27_17, if_pos hc33_18, if_neg hc45_19, if_neg hc51_20, if_neg hc57_22]; done) | (rw [show nar .boolean (1 : Int32) = (1 : Int32) from rfl]; simp only [own_exp, hc3_1, hc9_2, hc15_16, hc27_17, hc33_18, hc45_19, hc51_20, hc57_22, if_true, if_false, eq_self, not_true_eq_false, not_false_eq_true, and_true, true_and, and_false, false_and, and_self, or_true, true_or, or_false, false_or, or_self]; done) | (rw [show nar .boolean (1 : Int32) = (1 : Int32) from rfl]; simp [own_exp, hc3_1, hc9_2, hc15_16, hc27_17, hc33_18, hc45_19, hc51_20, hc57_22]; done)), N0, e0⟩ (by decide) (by decide)
          · refine own_via (g' := s₁.setTop (mkF m 36 #[.val (.int p1)] [])) (fun t k => XS.icmpNo X0.here hx rfl (hb hby own_d14_33) rfl (XT.ii_lt_f hc33_18) k) ?_
            refine own_via (g' := s₁.setTop (mkF m 37 #[.val (.int p1)] [(.int p1)])) (fun t k => XS.iloadN X0.here hx rfl (hb hby own_d14_36) rfl k) ?_
            refine own_via (g' := s₁.setTop (mkF m 39 #[.val (.int p1)] [(.int (90 : Int32)), (.int p1)])) (fun t k => XS.bipush X0.here hx rfl (hb hby own_d14_37) k) ?_
            by_cases hc39_24 : (90 : Int32) < p1
            · refine own_via (g' := s₁.setTop (mkF m 42 #[.val (.int p1)] [])) (fun t k => XS.icmpNo X0.here hx rfl (hb hby own_d14_39) rfl (XT.ii_le_f hc39_24) k) ?_
              refine own_via (g' := s₁.setTop (mkF m 43 #[.val (.int p1)] [(.int p1)])) (fun t k => XS.iloadN X0.here hx rfl (hb hby own_d14_42) rfl k) ?_
              refine own_via (g' := s₁.setTop (mkF m 45 #[.val (.int p1)] [(.int (95 : Int32)), (.int p1)])) (fun t k => XS.bipush X0.here hx rfl (hb hby own_d14_43) k) ?_
              by_cases hc45_25 : p1 = (95 : Int32)
              · refine own_via (g' := s₁.setTop (mkF m 66 #[.val (.int p1)] [])) (fun t k => XS.icmpYes X0.here hx rfl (pc0 := 45) (pc' := 66) rfl (hb hby own_d14_45) rfl (XT.ii_eq_t hc45_25) (by decide) (by decide) k) ?_
                refine own_via (g' := s₁.setTop (mkF m 67 #[.val (.int p1)] [(.int (1 : Int32))])) (fun t k => XS.iconst X0.here hx rfl (hb hby own_d14_66) k) ?_
                refine own_via (g' := s₁.setTop (mkF m 71 #[.val (.int p1)] [(.int (1 : Int32))])) (fun t k => XS.goto X0.here hx rfl (pc0 := 67) (pc' := 71) rfl (hb hby own_d14_67) (by decide) (by decide) k) ?_
                exact own_retB X0 hx hlk (t := .boolean) Bd.returns (by simp) (hb hby own_d14_71) ⟨(by first | (rw [show nar .boolean (1 : Int32) = (1 : Int32) from rfl, own_exp, if_neg hc3_1, if_neg hc9_2, if_pos hc15_16, if_neg hc27_17, if_neg hc33_18, if_pos hc39_24, if_pos hc45_25]; done) | (rw [show nar .boolean (1 : Int32) = (1 : Int32) from rfl]; simp only [own_exp, hc3_1, hc9_2, hc15_16, hc27_17, hc33_18, hc39_24, hc45_25, if_true, if_false, eq_self, not_true_eq_false, not_false_eq_true, and_true, true_and, and_false, false_and, and_self, or_true, true_or, or_false, false_or, or_self]; done) | (rw [show nar .boolean (1 : Int32) = (1 : Int32) from rfl]; simp [own_exp, hc3_1, hc9_2, hc15_16, hc27_17, hc33_18, hc39_24, hc45_25]; done) | (exfalso; rw [hc45_25] at hc3_1; revert hc3_1; decide) | (exfalso; rw [hc45_25] at hc9_2; revert hc9_2; decide) | (exfalso; rw [hc45_25] at hc15_16; revert hc15_16; decide) | (exfalso; rw [hc45_25] at hc27_17; revert hc27_17; decide) | (exfalso; rw [hc45_25] at hc33_18; revert hc33_18; decide) | (exfalso; rw [hc45_25] at hc39_24; revert hc39_24; decide)), N0, e0⟩ (by decide) (by decide)
              · refine own_via (g' := s₁.setTop (mkF m 48 #[.val (.int p1)] [])) (fun t k => XS.icmpNo X0.here hx rfl (hb hby own_d14_45) rfl (XT.ii_eq_f hc45_25) k) ?_
                refine own_via (g' := s₁.setTop (mkF m 49 #[.val (.int p1)] [(.int p1)])) (fun t k => XS.iloadN X0.here hx rfl (hb hby own_d14_48) rfl k) ?_
                refine own_via (g' := s₁.setTop (mkF m 51 #[.val (.int p1)] [(.int (97 : Int32)), (.int p1)])) (fun t k => XS.bipush X0.here hx rfl (hb hby own_d14_49) k) ?_
                by_cases hc51_26 : p1 < (97 : Int32)
                · refine own_via (g' := s₁.setTop (mkF m 60 #[.val (.int p1)] [])) (fun t k => XS.icmpYes X0.here hx rfl (pc0 := 51) (pc' := 60) rfl (hb hby own_d14_51) rfl (XT.ii_lt_t hc51_26) (by decide) (by decide) k) ?_
                  refine own_via (g' := s₁.setTop (mkF m 61 #[.val (.int p1)] [(.int p1)])) (fun t k => XS.iloadN X0.here hx rfl (hb hby own_d14_60) rfl k) ?_
                  refine own_via (g' := s₁.setTop (mkF m 63 #[.val (.int p1)] [(.int (126 : Int32)), (.int p1)])) (fun t k => XS.bipush X0.here hx rfl (hb hby own_d14_61) k) ?_
                  by_cases hc63_27 : p1 = (126 : Int32)
                  · refine own_via (g' := s₁.setTop (mkF m 66 #[.val (.int p1)] [])) (fun t k => XS.icmpNo X0.here hx rfl (hb hby own_d14_63) rfl (XT.ii_ne_f hc63_27) k) ?_
                    refine own_via (g' := s₁.setTop (mkF m 67 #[.val (.int p1)] [(.int (1 : Int32))])) (fun t k => XS.iconst X0.here hx rfl (hb hby own_d14_66) k) ?_
                    refine own_via (g' := s₁.setTop (mkF m 71 #[.val (.int p1)] [(.int (1 : Int32))])) (fun t k => XS.goto X0.here hx rfl (pc0 := 67) (pc' := 71) rfl (hb hby own_d14_67) (by decide) (by decide) k) ?_
                    exact own_retB X0 hx hlk (t := .boolean) Bd.returns (by simp) (hb hby own_d14_71) ⟨(by first | (rw [show nar .boolean (1 : Int32) = (1 : Int32) from rfl, own_exp, if_neg hc3_1, if_neg hc9_2, if_pos hc15_16, if_neg hc27_17, if_neg hc33_18, if_pos hc39_24, if_neg hc45_25, if_pos hc51_26, if_pos hc63_27]; done) | (rw [show nar .boolean (1 : Int32) = (1 : Int32) from rfl]; simp only [own_exp, hc3_1, hc9_2, hc15_16, hc27_17, hc33_18, hc39_24, hc45_25, hc51_26, hc63_27, if_true, if_false, eq_self, not_true_eq_false, not_false_eq_true, and_true, true_and, and_false, false_and, and_self, or_true, true_or, or_false, false_or, or_self]; done) | (rw [show nar .boolean (1 : Int32) = (1 : Int32) from rfl]; simp [own_exp, hc3_1, hc9_2, hc15_16, hc27_17, hc33_18, hc39_24, hc45_25, hc51_26, hc63_27]; done) | (exfalso; rw [hc63_27] at hc3_1; revert hc3_1; decide) | (exfalso; rw [hc63_27] at hc9_2; revert hc9_2; decide) | (exfalso; rw [hc63_27] at hc15_16; revert hc15_16; decide) | (exfalso; rw [hc63_27] at hc27_17; revert hc27_17; decide) | (exfalso; rw [hc63_27] at hc33_18; revert hc33_18; decide) | (exfalso; rw [hc63_27] at hc39_24; revert hc39_24; decide) | (exfalso; rw [hc63_27] at hc45_25; revert hc45_25; decide) | (exfalso; rw [hc63_27] at hc51_26; revert hc51_26; decide)), N0, e0⟩ (by decide) (by decide)
                  · refine own_via (g' := s₁.setTop (mkF m 70 #[.val (.int p1)] [])) (fun t k => XS.icmpYes X0.here hx rfl (pc0 := 63) (pc' := 70) rfl (hb hby own_d14_63) rfl (XT.ii_ne_t hc63_27) (by decide) (by decide) k) ?_
                    refine own_via (g' := s₁.setTop (mkF m 71 #[.val (.int p1)] [(.int (0 : Int32))])) (fun t k => XS.iconst X0.here hx rfl (hb hby own_d14_70) k) ?_
                    exact own_retB X0 hx hlk (t := .boolean) Bd.returns (by simp) (hb hby own_d14_71) ⟨(by first | (rw [show nar .boolean (0 : Int32) = (0 : Int32) from rfl, own_exp, if_neg hc3_1, if_neg hc9_2, if_pos hc15_16, if_neg hc27_17, if_neg hc33_18, if_pos hc39_24, if_neg hc45_25, if_pos hc51_26, if_neg hc63_27]; done) | (rw [show nar .boolean (0 : Int32) = (0 : Int32) from rfl]; simp only [own_exp, hc3_1, hc9_2, hc15_16, hc27_17, hc33_18, hc39_24, hc45_25, hc51_26, hc63_27, if_true, if_false, eq_self, not_true_eq_false, not_false_eq_true, and_true, true_and, and_false, false_and, and_self, or_true, true_or, or_false, false_or, or_self]; done) | (rw [show nar .boolean (0 : Int32) = (0 : Int32) from rfl]; simp [own_exp, hc3_1, hc9_2, hc15_16, hc27_17, hc33_18, hc39_24, hc45_25, hc51_26, hc63_27]; done)), N0, e0⟩ (by decide) (by decide)
                · refine own_via (g' := s₁.setTop (mkF m 54 #[.val (.int p1)] [])) (fun t k => XS.icmpNo X0.here hx rfl (hb hby own_d14_51) rfl (XT.ii_lt_f hc51_26) k) ?_
                  refine own_via (g' := s₁.setTop (mkF m 55 #[.val (.int p1)] [(.int p1)])) (fun t k => XS.iloadN X0.here hx rfl (hb hby own_d14_54) rfl k) ?_
                  refine own_via (g' := s₁.setTop (mkF m 57 #[.val (.int p1)] [(.int (122 : Int32)), (.int p1)])) (fun t k => XS.bipush X0.here hx rfl (hb hby own_d14_55) k) ?_
                  by_cases hc57_28 : (122 : Int32) < p1
                  · refine own_via (g' := s₁.setTop (mkF m 60 #[.val (.int p1)] [])) (fun t k => XS.icmpNo X0.here hx rfl (hb hby own_d14_57) rfl (XT.ii_le_f hc57_28) k) ?_
                    refine own_via (g' := s₁.setTop (mkF m 61 #[.val (.int p1)] [(.int p1)])) (fun t k => XS.iloadN X0.here hx rfl (hb hby own_d14_60) rfl k) ?_
                    refine own_via (g' := s₁.setTop (mkF m 63 #[.val (.int p1)] [(.int (126 : Int32)), (.int p1)])) (fun t k => XS.bipush X0.here hx rfl (hb hby own_d14_61) k) ?_
                    by_cases hc63_29 : p1 = (126 : Int32)
                    · refine own_via (g' := s₁.setTop (mkF m 66 #[.val (.int p1)] [])) (fun t k => XS.icmpNo X0.here hx rfl (hb hby own_d14_63) rfl (XT.ii_ne_f hc63_29) k) ?_
                      refine own_via (g' := s₁.setTop (mkF m 67 #[.val (.int p1)] [(.int (1 : Int32))])) (fun t k => XS.iconst X0.here hx rfl (hb hby own_d14_66) k) ?_
                      refine own_via (g' := s₁.setTop (mkF m 71 #[.val (.int p1)] [(.int (1 : Int32))])) (fun t k => XS.goto X0.here hx rfl (pc0 := 67) (pc' := 71) rfl (hb hby own_d14_67) (by decide) (by decide) k) ?_
                      exact own_retB X0 hx hlk (t := .boolean) Bd.returns (by simp) (hb hby own_d14_71) ⟨(by first | (rw [show nar .boolean (1 : Int32) = (1 : Int32) from rfl, own_exp, if_neg hc3_1, if_neg hc9_2, if_pos hc15_16, if_neg hc27_17, if_neg hc33_18, if_pos hc39_24, if_neg hc45_25, if_neg hc51_26, if_pos hc57_28, if_pos hc63_29]; done) | (rw [show nar .boolean (1 : Int32) = (1 : Int32) from rfl]; simp only [own_exp, hc3_1, hc9_2, hc15_16, hc27_17, hc33_18, hc39_24, hc45_25, hc51_26, hc57_28, hc63_29, if_true, if_false, eq_self, not_true_eq_false, not_false_eq_true, and_true, true_and, and_false, false_and, and_self, or_true, true_or, or_false, false_or, or_self]; done) | (rw [show nar .boolean (1 : Int32) = (1 : Int32) from rfl]; simp [own_exp, hc3_1, hc9_2, hc15_16, hc27_17, hc33_18, hc39_24, hc45_25, hc51_26, hc57_28, hc63_29]; done) | (exfalso; rw [hc63_29] at hc3_1; revert hc3_1; decide) | (exfalso; rw [hc63_29] at hc9_2; revert hc9_2; decide) | (exfalso; rw [hc63_29] at hc15_16; revert hc15_16; decide) | (exfalso; rw [hc63_29] at hc27_17; revert hc27_17; decide) | (exfalso; rw [hc63_29] at hc33_18; revert hc33_18; decide) | (exfalso; rw [hc63_29] at hc39_24; revert hc39_24; decide) | (exfalso; rw [hc63_29] at hc45_25; revert hc45_25; decide) | (exfalso; rw [hc63_29] at hc51_26; revert hc51_26; decide) | (exfalso; rw [hc63_29] at hc57_28; revert hc57_28; decide)), N0, e0⟩ (by decide) (by decide)
                    · refine own_via (g' := s₁.setTop (mkF m 70 #[.val (.int p1)] [])) (fun t k => XS.icmpYes X0.here hx rfl (pc0 := 63) (pc' := 70) rfl (hb hby own_d14_63) rfl (XT.ii_ne_t hc63_29) (by decide) (by decide) k) ?_
                      refine own_via (g' := s₁.setTop (mkF m 71 #[.val (.int p1)] [(.int (0 : Int32))])) (fun t k => XS.iconst X0.here hx rfl (hb hby own_d14_70) k) ?_
                      exact own_retB X0 hx hlk (t := .boolean) Bd.returns (by simp) (hb hby own_d14_71) ⟨(by first | (rw [show nar .boolean (0 : Int32) = (0 : Int32) from rfl, own_exp, if_neg hc3_1, if_neg hc9_2, if_pos hc15_16, if_neg hc27_17, if_neg hc33_18, if_pos hc39_24, if_neg hc45_25, if_neg hc51_26, if_pos hc57_28, if_neg hc63_29]; done) | (rw [show nar .boolean (0 : Int32) = (0 : Int32) from rfl]; simp only [own_exp, hc3_1, hc9_2, hc15_16, hc27_17, hc33_18, hc39_24, hc45_25, hc51_26, hc57_28, hc63_29, if_true, if_false, eq_self, not_true_eq_false, not_false_eq_true, and_true, true_and, and_false, false_and, and_self, or_true, true_or, or_false, false_or, or_self]; done) | (rw [show nar .boolean (0 : Int32) = (0 : Int32) from rfl]; simp [own_exp, hc3_1, hc9_2, hc15_16, hc27_17, hc33_18, hc39_24, hc45_25, hc51_26, hc57_28, hc63_29]; done)), N0, e0⟩ (by decide) (by decide)
                  · refine own_via (g' := s₁.setTop (mkF m 66 #[.val (.int p1)] [])) (fun t k => XS.icmpYes X0.here hx rfl (pc0 := 57) (pc' := 66) rfl (hb hby own_d14_57) rfl (XT.ii_le_t hc57_28) (by decide) (by decide) k) ?_
                    refine own_via (g' := s₁.setTop (mkF m 67 #[.val (.int p1)] [(.int (1 : Int32))])) (fun t k => XS.iconst X0.here hx rfl (hb hby own_d14_66) k) ?_
                    refine own_via (g' := s₁.setTop (mkF m 71 #[.val (.int p1)] [(.int (1 : Int32))])) (fun t k => XS.goto X0.here hx rfl (pc0 := 67) (pc' := 71) rfl (hb hby own_d14_67) (by decide) (by decide) k) ?_
                    exact own_retB X0 hx hlk (t := .boolean) Bd.returns (by simp) (hb hby own_d14_71) ⟨(by first | (rw [show nar .boolean (1 : Int32) = (1 : Int32) from rfl, own_exp, if_neg hc3_1, if_neg hc9_2, if_pos hc15_16, if_neg hc27_17, if_neg hc33_18, if_pos hc39_24, if_neg hc45_25, if_neg hc51_26, if_neg hc57_28]; done) | (rw [show nar .boolean (1 : Int32) = (1 : Int32) from rfl]; simp only [own_exp, hc3_1, hc9_2, hc15_16, hc27_17, hc33_18, hc39_24, hc45_25, hc51_26, hc57_28, if_true, if_false, eq_self, not_true_eq_false, not_false_eq_true, and_true, true_and, and_false, false_and, and_self, or_true, true_or, or_false, false_or, or_self]; done) | (rw [show nar .boolean (1 : Int32) = (1 : Int32) from rfl]; simp [own_exp, hc3_1, hc9_2, hc15_16, hc27_17, hc33_18, hc39_24, hc45_25, hc51_26, hc57_28]; done)), N0, e0⟩ (by decide) (by decide)
            · refine own_via (g' := s₁.setTop (mkF m 66 #[.val (.int p1)] [])) (fun t k => XS.icmpYes X0.here hx rfl (pc0 := 39) (pc' := 66) rfl (hb hby own_d14_39) rfl (XT.ii_le_t hc39_24) (by decide) (by decide) k) ?_
              refine own_via (g' := s₁.setTop (mkF m 67 #[.val (.int p1)] [(.int (1 : Int32))])) (fun t k => XS.iconst X0.here hx rfl (hb hby own_d14_66) k) ?_
              refine own_via (g' := s₁.setTop (mkF m 71 #[.val (.int p1)] [(.int (1 : Int32))])) (fun t k => XS.goto X0.here hx rfl (pc0 := 67) (pc' := 71) rfl (hb hby own_d14_67) (by decide) (by decide) k) ?_
              exact own_retB X0 hx hlk (t := .boolean) Bd.returns (by simp) (hb hby own_d14_71) ⟨(by first | (rw [show nar .boolean (1 : Int32) = (1 : Int32) from rfl, own_exp, if_neg hc3_1, if_neg hc9_2, if_pos hc15_16, if_neg hc27_17, if_neg hc33_18, if_neg hc39_24]; done) | (rw [show nar .boolean (1 : Int32) = (1 : Int32) from rfl]; simp only [own_exp, hc3_1, hc9_2, hc15_16, hc27_17, hc33_18, hc39_24, if_true, if_false, eq_self, not_true_eq_false, not_false_eq_true, and_true, true_and, and_false, false_and, and_self, or_true, true_or, or_false, false_or, or_self]; done) | (rw [show nar .boolean (1 : Int32) = (1 : Int32) from rfl]; simp [own_exp, hc3_1, hc9_2, hc15_16, hc27_17, hc33_18, hc39_24]; done)), N0, e0⟩ (by decide) (by decide)
      · refine own_via (g' := s₁.setTop (mkF m 18 #[.val (.int p1)] [])) (fun t k => XS.icmpNo X0.here hx rfl (hb hby own_d14_15) rfl (XT.ii_gt_f hc15_16) k) ?_
        refine own_via (g' := s₁.setTop (mkF m 19 #[.val (.int p1)] [(.int p1)])) (fun t k => XS.iloadN X0.here hx rfl (hb hby own_d14_18) rfl k) ?_
        refine own_via (g' := s₁.setTop (mkF m 21 #[.val (.int p1)] [(.int (37 : Int32)), (.int p1)])) (fun t k => XS.bipush X0.here hx rfl (hb hby own_d14_19) k) ?_
        by_cases hc21_30 : p1 = (37 : Int32)
        · refine own_via (g' := s₁.setTop (mkF m 24 #[.val (.int p1)] [])) (fun t k => XS.icmpNo X0.here hx rfl (hb hby own_d14_21) rfl (XT.ii_ne_f hc21_30) k) ?_
          refine own_via (g' := s₁.setTop (mkF m 25 #[.val (.int p1)] [(.int p1)])) (fun t k => XS.iloadN X0.here hx rfl (hb hby own_d14_24) rfl k) ?_
          refine own_via (g' := s₁.setTop (mkF m 27 #[.val (.int p1)] [(.int (61 : Int32)), (.int p1)])) (fun t k => XS.bipush X0.here hx rfl (hb hby own_d14_25) k) ?_
          by_cases hc27_31 : p1 = (61 : Int32)
          · refine own_via (g' := s₁.setTop (mkF m 66 #[.val (.int p1)] [])) (fun t k => XS.icmpYes X0.here hx rfl (pc0 := 27) (pc' := 66) rfl (hb hby own_d14_27) rfl (XT.ii_eq_t hc27_31) (by decide) (by decide) k) ?_
            refine own_via (g' := s₁.setTop (mkF m 67 #[.val (.int p1)] [(.int (1 : Int32))])) (fun t k => XS.iconst X0.here hx rfl (hb hby own_d14_66) k) ?_
            refine own_via (g' := s₁.setTop (mkF m 71 #[.val (.int p1)] [(.int (1 : Int32))])) (fun t k => XS.goto X0.here hx rfl (pc0 := 67) (pc' := 71) rfl (hb hby own_d14_67) (by decide) (by decide) k) ?_
            exact own_retB X0 hx hlk (t := .boolean) Bd.returns (by simp) (hb hby own_d14_71) ⟨(by first | (rw [show nar .boolean (1 : Int32) = (1 : Int32) from rfl, own_exp, if_neg hc3_1, if_neg hc9_2, if_neg hc15_16, if_pos hc21_30, if_pos hc27_31]; done) | (rw [show nar .boolean (1 : Int32) = (1 : Int32) from rfl]; simp only [own_exp, hc3_1, hc9_2, hc15_16, hc21_30, hc27_31, if_true, if_false, eq_self, not_true_eq_false, not_false_eq_true, and_true, true_and, and_false, false_and, and_self, or_true, true_or, or_false, false_or, or_self]; done) | (rw [show nar .boolean (1 : Int32) = (1 : Int32) from rfl]; simp [own_exp, hc3_1, hc9_2, hc15_16, hc21_30, hc27_31]; done) | (exfalso; rw [hc21_30] at hc3_1; revert hc3_1; decide) | (exfalso; rw [hc21_30] at hc9_2; revert hc9_2; decide) | (exfalso; rw [hc21_30] at hc15_16; revert hc15_16; decide) | (exfalso; rw [hc21_30] at hc27_31; revert hc27_31; decide) | (exfalso; rw [hc27_31] at hc3_1; revert hc3_1; decide) | (exfalso; rw [hc27_31] at hc9_2; revert hc9_2; decide) | (exfalso; rw [hc27_31] at hc15_16; revert hc15_16; decide) | (exfalso; rw [hc27_31] at hc21_30; revert hc21_30; decide)), N0, e0⟩ (by decide) (by decide)
          · refine own_via (g' := s₁.setTop (mkF m 30 #[.val (.int p1)] [])) (fun t k => XS.icmpNo X0.here hx rfl (hb hby own_d14_27) rfl (XT.ii_eq_f hc27_31) k) ?_
            refine own_via (g' := s₁.setTop (mkF m 31 #[.val (.int p1)] [(.int p1)])) (fun t k => XS.iloadN X0.here hx rfl (hb hby own_d14_30) rfl k) ?_
            refine own_via (g' := s₁.setTop (mkF m 33 #[.val (.int p1)] [(.int (63 : Int32)), (.int p1)])) (fun t k => XS.bipush X0.here hx rfl (hb hby own_d14_31) k) ?_
            by_cases hc33_32 : p1 < (63 : Int32)
            · refine own_via (g' := s₁.setTop (mkF m 42 #[.val (.int p1)] [])) (fun t k => XS.icmpYes X0.here hx rfl (pc0 := 33) (pc' := 42) rfl (hb hby own_d14_33) rfl (XT.ii_lt_t hc33_32) (by decide) (by decide) k) ?_
              refine own_via (g' := s₁.setTop (mkF m 43 #[.val (.int p1)] [(.int p1)])) (fun t k => XS.iloadN X0.here hx rfl (hb hby own_d14_42) rfl k) ?_
              refine own_via (g' := s₁.setTop (mkF m 45 #[.val (.int p1)] [(.int (95 : Int32)), (.int p1)])) (fun t k => XS.bipush X0.here hx rfl (hb hby own_d14_43) k) ?_
              by_cases hc45_33 : p1 = (95 : Int32)
              · refine own_via (g' := s₁.setTop (mkF m 66 #[.val (.int p1)] [])) (fun t k => XS.icmpYes X0.here hx rfl (pc0 := 45) (pc' := 66) rfl (hb hby own_d14_45) rfl (XT.ii_eq_t hc45_33) (by decide) (by decide) k) ?_
                refine own_via (g' := s₁.setTop (mkF m 67 #[.val (.int p1)] [(.int (1 : Int32))])) (fun t k => XS.iconst X0.here hx rfl (hb hby own_d14_66) k) ?_
                refine own_via (g' := s₁.setTop (mkF m 71 #[.val (.int p1)] [(.int (1 : Int32))])) (fun t k => XS.goto X0.here hx rfl (pc0 := 67) (pc' := 71) rfl (hb hby own_d14_67) (by decide) (by decide) k) ?_
                exact own_retB X0 hx hlk (t := .boolean) Bd.returns (by simp) (hb hby own_d14_71) ⟨(by first | (rw [show nar .boolean (1 : Int32) = (1 : Int32) from rfl, own_exp, if_neg hc3_1, if_neg hc9_2, if_neg hc15_16, if_pos hc21_30, if_neg hc27_31, if_pos hc33_32, if_pos hc45_33]; done) | (rw [show nar .boolean (1 : Int32) = (1 : Int32) from rfl]; simp only [own_exp, hc3_1, hc9_2, hc15_16, hc21_30, hc27_31, hc33_32, hc45_33, if_true, if_false, eq_self, not_true_eq_false, not_false_eq_true, and_true, true_and, and_false, false_and, and_self, or_true, true_or, or_false, false_or, or_self]; done) | (rw [show nar .boolean (1 : Int32) = (1 : Int32) from rfl]; simp [own_exp, hc3_1, hc9_2, hc15_16, hc21_30, hc27_31, hc33_32, hc45_33]; done) | (exfalso; rw [hc21_30] at hc3_1; revert hc3_1; decide) | (exfalso; rw [hc21_30] at hc9_2; revert hc9_2; decide) | (exfalso; rw [hc21_30] at hc15_16; revert hc15_16; decide) | (exfalso; rw [hc21_30] at hc27_31; revert hc27_31; decide) | (exfalso; rw [hc21_30] at hc33_32; revert hc33_32; decide) | (exfalso; rw [hc21_30] at hc45_33; revert hc45_33; decide) | (exfalso; rw [hc45_33] at hc3_1; revert hc3_1; decide) | (exfalso; rw [hc45_33] at hc9_2; revert hc9_2; decide) | (exfalso; rw [hc45_33] at hc15_16; revert hc15_16; decide) | (exfalso; rw [hc45_33] at hc21_30; revert hc21_30; decide) | (exfalso; rw [hc45_33] at hc27_31; revert hc27_31; decide) | (exfalso; rw [hc45_33] at hc33_32; revert hc33_32; decide)), N0, e0⟩ (by decide) (by decide)
              · refine own_via (g' := s₁.setTop (mkF m 48 #[.val (.int p1)] [])) (fun t k => XS.icmpNo X0.here hx rfl (hb hby own_d14_45) rfl (XT.ii_eq_f hc45_33) k) ?_
                refine own_via (g' := s₁.setTop (mkF m 49 #[.val (.int p1)] [(.int p1)])) (fun t k => XS.iloadN X0.here hx rfl (hb hby own_d14_48) rfl k) ?_
                refine own_via (g' := s₁.setTop (mkF m 51 #[.val (.int p1)] [(.int (97 : Int32)), (.int p1)])) (fun t k => XS.bipush X0.here hx rfl (hb hby own_d14_49) k) ?_
                by_cases hc51_34 : p1 < (97 : Int32)
                · refine own_via (g' := s₁.setTop (mkF m 60 #[.val (.int p1)] [])) (fun t k => XS.icmpYes X0.here hx rfl (pc0 := 51) (pc' := 60) rfl (hb hby own_d14_51) rfl (XT.ii_lt_t hc51_34) (by decide) (by decide) k) ?_
                  refine own_via (g' := s₁.setTop (mkF m 61 #[.val (.int p1)] [(.int p1)])) (fun t k => XS.iloadN X0.here hx rfl (hb hby own_d14_60) rfl k) ?_
                  refine own_via (g' := s₁.setTop (mkF m 63 #[.val (.int p1)] [(.int (126 : Int32)), (.int p1)])) (fun t k => XS.bipush X0.here hx rfl (hb hby own_d14_61) k) ?_
                  by_cases hc63_35 : p1 = (126 : Int32)
                  · refine own_via (g' := s₁.setTop (mkF m 66 #[.val (.int p1)] [])) (fun t k => XS.icmpNo X0.here hx rfl (hb hby own_d14_63) rfl (XT.ii_ne_f hc63_35) k) ?_
                    refine own_via (g' := s₁.setTop (mkF m 67 #[.val (.int p1)] [(.int (1 : Int32))])) (fun t k => XS.iconst X0.here hx rfl (hb hby own_d14_66) k) ?_
                    refine own_via (g' := s₁.setTop (mkF m 71 #[.val (.int p1)] [(.int (1 : Int32))])) (fun t k => XS.goto X0.here hx rfl (pc0 := 67) (pc' := 71) rfl (hb hby own_d14_67) (by decide) (by decide) k) ?_
                    exact own_retB X0 hx hlk (t := .boolean) Bd.returns (by simp) (hb hby own_d14_71) ⟨(by first | (rw [show nar .boolean (1 : Int32) = (1 : Int32) from rfl, own_exp, if_neg hc3_1, if_neg hc9_2, if_neg hc15_16, if_pos hc21_30, if_neg hc27_31, if_pos hc33_32, if_neg hc45_33, if_pos hc51_34, if_pos hc63_35]; done) | (rw [show nar .boolean (1 : Int32) = (1 : Int32) from rfl]; simp only [own_exp, hc3_1, hc9_2, hc15_16, hc21_30, hc27_31, hc33_32, hc45_33, hc51_34, hc63_35, if_true, if_false, eq_self, not_true_eq_false, not_false_eq_true, and_true, true_and, and_false, false_and, and_self, or_true, true_or, or_false, false_or, or_self]; done) | (rw [show nar .boolean (1 : Int32) = (1 : Int32) from rfl]; simp [own_exp, hc3_1, hc9_2, hc15_16, hc21_30, hc27_31, hc33_32, hc45_33, hc51_34, hc63_35]; done) | (exfalso; rw [hc21_30] at hc3_1; revert hc3_1; decide) | (exfalso; rw [hc21_30] at hc9_2; revert hc9_2; decide) | (exfalso; rw [hc21_30] at hc15_16; revert hc15_16; decide) | (exfalso; rw [hc21_30] at hc27_31; revert hc27_31; decide) | (exfalso; rw [hc21_30] at hc33_32; revert hc33_32; decide) | (exfalso; rw [hc21_30] at hc45_33; revert hc45_33; decide) | (exfalso; rw [hc21_30] at hc51_34; revert hc51_34; decide) | (exfalso; rw [hc21_30] at hc63_35; revert hc63_35; decide) | (exfalso; rw [hc63_35] at hc3_1; revert hc3_1; decide) | (exfalso; rw [hc63_35] at hc9_2; revert hc9_2; decide) | (exfalso; rw [hc63_35] at hc15_16; revert hc15_16; decide) | (exfalso; rw [hc63_35] at hc21_30; revert hc21_30; decide) | (exfalso; rw [hc63_35] at hc27_31; revert hc27_31; decide) | (exfalso; rw [hc63_35] at hc33_32; revert hc33_32; decide) | (exfalso; rw [hc63_35] at hc45_33; revert hc45_33; decide) | (exfalso; rw [hc63_35] at hc51_34; revert hc51_34; decide)), N0, e0⟩ (by decide) (by decide)
                  · refine own_via (g' := s₁.setTop (mkF m 70 #[.val (.int p1)] [])) (fun t k => XS.icmpYes X0.here hx rfl (pc0 := 63) (pc' := 70) rfl (hb hby own_d14_63) rfl (XT.ii_ne_t hc63_35) (by decide) (by decide) k) ?_
                    refine own_via (g' := s₁.setTop (mkF m 71 #[.val (.int p1)] [(.int (0 : Int32))])) (fun t k => XS.iconst X0.here hx rfl (hb hby own_d14_70) k) ?_
                    exact own_retB X0 hx hlk (t := .boolean) Bd.returns (by simp) (hb hby own_d14_71) ⟨(by first | (rw [show nar .boolean (0 : Int32) = (0 : Int32) from rfl, own_exp, if_neg hc3_1, if_neg hc9_2, if_neg hc15_16, if_pos hc21_30, if_neg hc27_31, if_pos hc33_32, if_neg hc45_33, if_pos hc51_34, if_neg hc63_35]; done) | (rw [show nar .boolean (0 : Int32) = (0 : Int32) from rfl]; simp only [own_exp, hc3_1, hc9_2, hc15_16, hc21_30, hc27_31, hc33_32, hc45_33, hc51_34, hc63_35, if_true, if_false, eq_self, not_true_eq_false, not_false_eq_true, and_true, true_and, and_false, false_and, and_self, or_true, true_or, or_false, false_or, or_self]; done) | (rw [show nar .boolean (0 : Int32) = (0 : Int32) from rfl]; simp [own_exp, hc3_1, hc9_2, hc15_16, hc21_30, hc27_31, hc33_32, hc45_33, hc51_34, hc63_35]; done) | (exfalso; rw [hc21_30] at hc3_1; revert hc3_1; decide) | (exfalso; rw [hc21_30] at hc9_2; revert hc9_2; decide) | (exfalso; rw [hc21_30] at hc15_16; revert hc15_16; decide) | (exfalso; rw [hc21_30] at hc27_31; revert hc27_31; decide) | (exfalso; rw [hc21_30] at hc33_32; revert hc33_32; decide) | (exfalso; rw [hc21_30] at hc45_33; revert hc45_33; decide) | (exfalso; rw [hc21_30] at hc51_34; revert hc51_34; decide) | (exfalso; rw [hc21_30] at hc63_35; revert hc63_35; decide)), N0, e0⟩ (by decide) (by decide)
                · refine own_via (g' := s₁.setTop (mkF m 54 #[.val (.int p1)] [])) (fun t k => XS.icmpNo X0.here hx rfl (hb hby own_d14_51) rfl (XT.ii_lt_f hc51_34) k) ?_
                  refine own_via (g' := s₁.setTop (mkF m 55 #[.val (.int p1)] [(.int p1)])) (fun t k => XS.iloadN X0.here hx rfl (hb hby own_d14_54) rfl k) ?_
                  refine own_via (g' := s₁.setTop (mkF m 57 #[.val (.int p1)] [(.int (122 : Int32)), (.int p1)])) (fun t k => XS.bipush X0.here hx rfl (hb hby own_d14_55) k) ?_
                  by_cases hc57_36 : (122 : Int32) < p1
                  · refine own_via (g' := s₁.setTop (mkF m 60 #[.val (.int p1)] [])) (fun t k => XS.icmpNo X0.here hx rfl (hb hby own_d14_57) rfl (XT.ii_le_f hc57_36) k) ?_
                    refine own_via (g' := s₁.setTop (mkF m 61 #[.val (.int p1)] [(.int p1)])) (fun t k => XS.iloadN X0.here hx rfl (hb hby own_d14_60) rfl k) ?_
                    refine own_via (g' := s₁.setTop (mkF m 63 #[.val (.int p1)] [(.int (126 : Int32)), (.int p1)])) (fun t k => XS.bipush X0.here hx rfl (hb hby own_d14_61) k) ?_
                    by_cases hc63_37 : p1 = (126 : Int32)
                    · refine own_via (g' := s₁.setTop (mkF m 66 #[.val (.int p1)] [])) (fun t k => XS.icmpNo X0.here hx rfl (hb hby own_d14_63) rfl (XT.ii_ne_f hc63_37) k) ?_
                      refine own_via (g' := s₁.setTop (mkF m 67 #[.val (.int p1)] [(.int (1 : Int32))])) (fun t k => XS.iconst X0.here hx rfl (hb hby own_d14_66) k) ?_
                      refine own_via (g' := s₁.setTop (mkF m 71 #[.val (.int p1)] [(.int (1 : Int32))])) (fun t k => XS.goto X0.here hx rfl (pc0 := 67) (pc' := 71) rfl (hb hby own_d14_67) (by decide) (by decide) k) ?_
                      exact own_retB X0 hx hlk (t := .boolean) Bd.returns (by simp) (hb hby own_d14_71) ⟨(by first | (rw [show nar .boolean (1 : Int32) = (1 : Int32) from rfl, own_exp, if_neg hc3_1, if_neg hc9_2, if_neg hc15_16, if_pos hc21_30, if_neg hc27_31, if_pos hc33_32, if_neg hc45_33, if_neg hc51_34, if_pos hc57_36, if_pos hc63_37]; done) | (rw [show nar .boolean (1 : Int32) = (1 : Int32) from rfl]; simp only [own_exp, hc3_1, hc9_2, hc15_16, hc21_30, hc27_31, hc33_32, hc45_33, hc51_34, hc57_36, hc63_37, if_true, if_false, eq_self, not_true_eq_false, not_false_eq_true, and_true, true_and, and_false, false_and, and_self, or_true, true_or, or_false, false_or, or_self]; done) | (rw [show nar .boolean (1 : Int32) = (1 : Int32) from rfl]; simp [own_exp, hc3_1, hc9_2, hc15_16, hc21_30, hc27_31, hc33_32, hc45_33, hc51_34, hc57_36, hc63_37]; done) | (exfalso; rw [hc21_30] at hc3_1; revert hc3_1; decide) | (exfalso; rw [hc21_30] at hc9_2; revert hc9_2; decide) | (exfalso; rw [hc21_30] at hc15_16; revert hc15_16; decide) | (exfalso; rw [hc21_30] at hc27_31; revert hc27_31; decide) | (exfalso; rw [hc21_30] at hc33_32; revert hc33_32; decide) | (exfalso; rw [hc21_30] at hc45_33; revert hc45_33; decide) | (exfalso; rw [hc21_30] at hc51_34; revert hc51_34; decide) | (exfalso; rw [hc21_30] at hc57_36; revert hc57_36; decide) | (exfalso; rw [hc21_30] at hc63_37; revert hc63_37; decide) | (exfalso; rw [hc63_37] at hc3_1; revert hc3_1; decide) | (exfalso; rw [hc63_37] at hc9_2; revert hc9_2; decide) | (exfalso; rw [hc63_37] at hc15_16; revert hc15_16; decide) | (exfalso; rw [hc63_37] at hc21_30; revert hc21_30; decide) | (exfalso; rw [hc63_37] at hc27_31; revert hc27_31; decide) | (exfalso; rw [hc63_37] at hc33_32; revert hc33_32; decide) | (exfalso; rw [hc63_37] at hc45_33; revert hc45_33; decide) | (exfalso; rw [hc63_37] at hc51_34; revert hc51_34; decide) | (exfalso; rw [hc63_37] at hc57_36; revert hc57_36; decide)), N0, e0⟩ (by decide) (by decide)
                    · refine own_via (g' := s₁.setTop (mkF m 70 #[.val (.int p1)] [])) (fun t k => XS.icmpYes X0.here hx rfl (pc0 := 63) (pc' := 70) rfl (hb hby own_d14_63) rfl (XT.ii_ne_t hc63_37) (by decide) (by decide) k) ?_
                      refine own_via (g' := s₁.setTop (mkF m 71 #[.val (.int p1)] [(.int (0 : Int32))])) (fun t k => XS.iconst X0.here hx rfl (hb hby own_d14_70) k) ?_
                      exact own_retB X0 hx hlk (t := .boolean) Bd.returns (by simp) (hb hby own_d14_71) ⟨(by first | (rw [show nar .boolean (0 : Int32) = (0 : Int32) from rfl, own_exp, if_neg hc3_1, if_neg hc9_2, if_neg hc15_16, if_pos hc21_30, if_neg hc27_31, if_pos hc33_32, if_neg hc45_33, if_neg hc51_34, if_pos hc57_36, if_neg hc63_37]; done) | (rw [show nar .boolean (0 : Int32) = (0 : Int32) from rfl]; simp only [own_exp, hc3_1, hc9_2, hc15_16, hc21_30, hc27_31, hc33_32, hc45_33, hc51_34, hc57_36, hc63_37, if_true, if_false, eq_self, not_true_eq_false, not_false_eq_true, and_true, true_and, and_false, false_and, and_self, or_true, true_or, or_false, false_or, or_self]; done) | (rw [show nar .boolean (0 : Int32) = (0 : Int32) from rfl]; simp [own_exp, hc3_1, hc9_2, hc15_16, hc21_30, hc27_31, hc33_32, hc45_33, hc51_34, hc57_36, hc63_37]; done) | (exfalso; rw [hc21_30] at hc3_1; revert hc3_1; decide) | (exfalso; rw [hc21_30] at hc9_2; revert hc9_2; decide) | (exfalso; rw [hc21_30] at hc15_16; revert hc15_16; decide) | (exfalso; rw [hc21_30] at hc27_31; revert hc27_31; decide) | (exfalso; rw [hc21_30] at hc33_32; revert hc33_32; decide) | (exfalso; rw [hc21_30] at hc45_33; revert hc45_33; decide) | (exfalso; rw [hc21_30] at hc51_34; revert hc51_34; decide) | (exfalso; rw [hc21_30] at hc57_36; revert hc57_36; decide) | (exfalso; rw [hc21_30] at hc63_37; revert hc63_37; decide)), N0, e0⟩ (by decide) (by decide)
                  · refine own_via (g' := s₁.setTop (mkF m 66 #[.val (.int p1)] [])) (fun t k => XS.icmpYes X0.here hx rfl (pc0 := 57) (pc' := 66) rfl (hb hby own_d14_57) rfl (XT.ii_le_t hc57_36) (by decide) (by decide) k) ?_
                    refine own_via (g' := s₁.setTop (mkF m 67 #[.val (.int p1)] [(.int (1 : Int32))])) (fun t k => XS.iconst X0.here hx rfl (hb hby own_d14_66) k) ?_
                    refine own_via (g' := s₁.setTop (mkF m 71 #[.val (.int p1)] [(.int (1 : Int32))])) (fun t k => XS.goto X0.here hx rfl (pc0 := 67) (pc' := 71) rfl (hb hby own_d14_67) (by decide) (by decide) k) ?_
                    exact own_retB X0 hx hlk (t := .boolean) Bd.returns (by simp) (hb hby own_d14_71) ⟨(by first | (rw [show nar .boolean (1 : Int32) = (1 : Int32) from rfl, own_exp, if_neg hc3_1, if_neg hc9_2, if_neg hc15_16, if_pos hc21_30, if_neg hc27_31, if_pos hc33_32, if_neg hc45_33, if_neg hc51_34, if_neg hc57_36]; done) | (rw [show nar .boolean (1 : Int32) = (1 : Int32) from rfl]; simp only [own_exp, hc3_1, hc9_2, hc15_16, hc21_30, hc27_31, hc33_32, hc45_33, hc51_34, hc57_36, if_true, if_false, eq_self, not_true_eq_false, not_false_eq_true, and_true, true_and, and_false, false_and, and_self, or_true, true_or, or_false, false_or, or_self]; done) | (rw [show nar .boolean (1 : Int32) = (1 : Int32) from rfl]; simp [own_exp, hc3_1, hc9_2, hc15_16, hc21_30, hc27_31, hc33_32, hc45_33, hc51_34, hc57_36]; done) | (exfalso; rw [hc21_30] at hc3_1; revert hc3_1; decide) | (exfalso; rw [hc21_30] at hc9_2; revert hc9_2; decide) | (exfalso; rw [hc21_30] at hc15_16; revert hc15_16; decide) | (exfalso; rw [hc21_30] at hc27_31; revert hc27_31; decide) | (exfalso; rw [hc21_30] at hc33_32; revert hc33_32; decide) | (exfalso; rw [hc21_30] at hc45_33; revert hc45_33; decide) | (exfalso; rw [hc21_30] at hc51_34; revert hc51_34; decide) | (exfalso; rw [hc21_30] at hc57_36; revert hc57_36; decide)), N0, e0⟩ (by decide) (by decide)
            · refine own_via (g' := s₁.setTop (mkF m 36 #[.val (.int p1)] [])) (fun t k => XS.icmpNo X0.here hx rfl (hb hby own_d14_33) rfl (XT.ii_lt_f hc33_32) k) ?_
              refine own_via (g' := s₁.setTop (mkF m 37 #[.val (.int p1)] [(.int p1)])) (fun t k => XS.iloadN X0.here hx rfl (hb hby own_d14_36) rfl k) ?_
              refine own_via (g' := s₁.setTop (mkF m 39 #[.val (.int p1)] [(.int (90 : Int32)), (.int p1)])) (fun t k => XS.bipush X0.here hx rfl (hb hby own_d14_37) k) ?_
              by_cases hc39_38 : (90 : Int32) < p1
              · refine own_via (g' := s₁.setTop (mkF m 42 #[.val (.int p1)] [])) (fun t k => XS.icmpNo X0.here hx rfl (hb hby own_d14_39) rfl (XT.ii_le_f hc39_38) k) ?_
                refine own_via (g' := s₁.setTop (mkF m 43 #[.val (.int p1)] [(.int p1)])) (fun t k => XS.iloadN X0.here hx rfl (hb hby own_d14_42) rfl k) ?_
                refine own_via (g' := s₁.setTop (mkF m 45 #[.val (.int p1)] [(.int (95 : Int32)), (.int p1)])) (fun t k => XS.bipush X0.here hx rfl (hb hby own_d14_43) k) ?_
                by_cases hc45_39 : p1 = (95 : Int32)
                · refine own_via (g' := s₁.setTop (mkF m 66 #[.val (.int p1)] [])) (fun t k => XS.icmpYes X0.here hx rfl (pc0 := 45) (pc' := 66) rfl (hb hby own_d14_45) rfl (XT.ii_eq_t hc45_39) (by decide) (by decide) k) ?_
                  refine own_via (g' := s₁.setTop (mkF m 67 #[.val (.int p1)] [(.int (1 : Int32))])) (fun t k => XS.iconst X0.here hx rfl (hb hby own_d14_66) k) ?_
                  refine own_via (g' := s₁.setTop (mkF m 71 #[.val (.int p1)] [(.int (1 : Int32))])) (fun t k => XS.goto X0.here hx rfl (pc0 := 67) (pc' := 71) rfl (hb hby own_d14_67) (by decide) (by decide) k) ?_
                  exact own_retB X0 hx hlk (t := .boolean) Bd.returns (by simp) (hb hby own_d14_71) ⟨(by first | (rw [show nar .boolean (1 : Int32) = (1 : Int32) from rfl, own_exp, if_neg hc3_1, if_neg hc9_2, if_neg hc15_16, if_pos hc21_30, if_neg hc27_31, if_neg hc33_32, if_pos hc39_38, if_pos hc45_39]; done) | (rw [show nar .boolean (1 : Int32) = (1 : Int32) from rfl]; simp only [own_exp, hc3_1, hc9_2, hc15_16, hc21_30, hc27_31, hc33_32, hc39_38, hc45_39, if_true, if_false, eq_self, not_true_eq_false, not_false_eq_true, and_true, true_and, and_false, false_and, and_self, or_true, true_or, or_false, false_or, or_self]; done) | (rw [show nar .boolean (1 : Int32) = (1 : Int32) from rfl]; simp [own_exp, hc3_1, hc9_2, hc15_16, hc21_30, hc27_31, hc33_32, hc39_38, hc45_39]; done) | (exfalso; rw [hc21_30] at hc3_1; revert hc3_1; decide) | (exfalso; rw [hc21_30] at hc9_2; revert hc9_2; decide) | (exfalso; rw [hc21_30] at hc15_16; revert hc15_16; decide) | (exfalso; rw [hc21_30] at hc27_31; revert hc27_31; decide) | (exfalso; rw [hc21_30] at hc33_32; revert hc33_32; decide) | (exfalso; rw [hc21_30] at hc39_38; revert hc39_38; decide) | (exfalso; rw [hc21_30] at hc45_39; revert hc45_39; decide) | (exfalso; rw [hc45_39] at hc3_1; revert hc3_1; decide) | (exfalso; rw [hc45_39] at hc9_2; revert hc9_2; decide) | (exfalso; rw [hc45_39] at hc15_16; revert hc15_16; decide) | (exfalso; rw [hc45_39] at hc21_30; revert hc21_30; decide) | (exfalso; rw [hc45_39] at hc27_31; revert hc27_31; decide) | (exfalso; rw [hc45_39] at hc33_32; revert hc33_32; decide) | (exfalso; rw [hc45_39] at hc39_38; revert hc39_38; decide)), N0, e0⟩ (by decide) (by decide)
                · refine own_via (g' := s₁.setTop (mkF m 48 #[.val (.int p1)] [])) (fun t k => XS.icmpNo X0.here hx rfl (hb hby own_d14_45) rfl (XT.ii_eq_f hc45_39) k) ?_
                  refine own_via (g' := s₁.setTop (mkF m 49 #[.val (.int p1)] [(.int p1)])) (fun t k => XS.iloadN X0.here hx rfl (hb hby own_d14_48) rfl k) ?_
                  refine own_via (g' := s₁.setTop (mkF m 51 #[.val (.int p1)] [(.int (97 : Int32)), (.int p1)])) (fun t k => XS.bipush X0.here hx rfl (hb hby own_d14_49) k) ?_
                  by_cases hc51_40 : p1 < (97 : Int32)
                  · refine own_via (g' := s₁.setTop (mkF m 60 #[.val (.int p1)] [])) (fun t k => XS.icmpYes X0.here hx rfl (pc0 := 51) (pc' := 60) rfl (hb hby own_d14_51) rfl (XT.ii_lt_t hc51_40) (by decide) (by decide) k) ?_
                    refine own_via (g' := s₁.setTop (mkF m 61 #[.val (.int p1)] [(.int p1)])) (fun t k => XS.iloadN X0.here hx rfl (hb hby own_d14_60) rfl k) ?_
                    refine own_via (g' := s₁.setTop (mkF m 63 #[.val (.int p1)] [(.int (126 : Int32)), (.int p1)])) (fun t k => XS.bipush X0.here hx rfl (hb hby own_d14_61) k) ?_
                    by_cases hc63_41 : p1 = (126 : Int32)
                    · refine own_via (g' := s₁.setTop (mkF m 66 #[.val (.int p1)] [])) (fun t k => XS.icmpNo X0.here hx rfl (hb hby own_d14_63) rfl (XT.ii_ne_f hc63_41) k) ?_
                      refine own_via (g' := s₁.setTop (mkF m 67 #[.val (.int p1)] [(.int (1 : Int32))])) (fun t k => XS.iconst X0.here hx rfl (hb hby own_d14_66) k) ?_
                      refine own_via (g' := s₁.setTop (mkF m 71 #[.val (.int p1)] [(.int (1 : Int32))])) (fun t k => XS.goto X0.here hx rfl (pc0 := 67) (pc' := 71) rfl (hb hby own_d14_67) (by decide) (by decide) k) ?_
                      exact own_retB X0 hx hlk (t := .boolean) Bd.returns (by simp) (hb hby own_d14_71) ⟨(by first | (rw [show nar .boolean (1 : Int32) = (1 : Int32) from rfl, own_exp, if_neg hc3_1, if_neg hc9_2, if_neg hc15_16, if_pos hc21_30, if_neg hc27_31, if_neg hc33_32, if_pos hc39_38, if_neg hc45_39, if_pos hc51_40, if_pos hc63_41]; done) | (rw [show nar .boolean (1 : Int32) = (1 : Int32) from rfl]; simp only [own_exp, hc3_1, hc9_2, hc15_16, hc21_30, hc27_31, hc33_32, hc39_38, hc45_39, hc51_40, hc63_41, if_true, if_false, eq_self, not_true_eq_false, not_false_eq_true, and_true, true_and, and_false, false_and, and_self, or_true, true_or, or_false, false_or, or_self]; done) | (rw [show nar .boolean (1 : Int32) = (1 : Int32) from rfl]; simp [own_exp, hc3_1, hc9_2, hc15_16, hc21_30, hc27_31, hc33_32, hc39_38, hc45_39, hc51_40, hc63_41]; done) | (exfalso; rw [hc21_30] at hc3_1; revert hc3_1; decide) | (exfalso; rw [hc21_30] at hc9_2; revert hc9_2; decide) | (exfalso; rw [hc21_30] at hc15_16; revert hc15_16; decide) | (exfalso; rw [hc21_30] at hc27_31; revert hc27_31; decide) | (exfalso; rw [hc21_30] at hc33_32; revert hc33_32; decide) | (exfalso; rw [hc21_30] at hc39_38; revert hc39_38; decide) | (exfalso; rw [hc21_30] at hc45_39; revert hc45_39; decide) | (exfalso; rw [hc21_30] at hc51_40; revert hc51_40; decide) | (exfalso; rw [hc21_30] at hc63_41; revert hc63_41; decide) | (exfalso; rw [hc63_41] at hc3_1; revert hc3_1; decide) | (exfalso; rw [hc63_41] at hc9_2; revert hc9_2; decide) | (exfalso; rw [hc63_41] at hc15_16; revert hc15_16; decide) | (exfalso; rw [hc63_41] at hc21_30; revert hc21_30; decide) | (exfalso; rw [hc63_41] at hc27_31; revert hc27_31; decide) | (exfalso; rw [hc63_41] at hc33_32; revert hc33_32; decide) | (exfalso; rw [hc63_41] at hc39_38; revert hc39_38; decide) | (exfalso; rw [hc63_41] at hc45_39; revert hc45_39; decide) | (exfalso; rw [hc63_41] at hc51_40; revert hc51_40; decide)), N0, e0⟩ (by decide) (by decide)
                    · refine own_via (g' := s₁.setTop (mkF m 70 #[.val (.int p1)] [])) (fun t k => XS.icmpYes X0.here hx rfl (pc0 := 63) (pc' := 70) rfl (hb hby own_d14_63) rfl (XT.ii_ne_t hc63_41) (by decide) (by decide) k) ?_
                      refine own_via (g' := s₁.setTop (mkF m 71 #[.val (.int p1)] [(.int (0 : Int32))])) (fun t k => XS.iconst X0.here hx rfl (hb hby own_d14_70) k) ?_
                      exact own_retB X0 hx hlk (t := .boolean) Bd.returns (by simp) (hb hby own_d14_71) ⟨(by first | (rw [show nar .boolean (0 : Int32) = (0 : Int32) from rfl, own_exp, if_neg hc3_1, if_neg hc9_2, if_neg hc15_16, if_pos hc21_30, if_neg hc27_31, if_neg hc33_32, if_pos hc39_38, if_neg hc45_39, if_pos hc51_40, if_neg hc63_41]; done) | (rw [show nar .boolean (0 : Int32) = (0 : Int32) from rfl]; simp only [own_exp, hc3_1, hc9_2, hc15_16, hc21_30, hc27_31, hc33_32, hc39_38, hc45_39, hc51_40, hc63_41, if_true, if_false, eq_self, not_true_eq_false, not_false_eq_true, and_true, true_and, and_false, false_and, and_self, or_true, true_or, or_false, false_or, or_self]; done) | (rw [show nar .boolean (0 : Int32) = (0 : Int32) from rfl]; simp [own_exp, hc3_1, hc9_2, hc15_16, hc21_30, hc27_31, hc33_32, hc39_38, hc45_39, hc51_40, hc63_41]; done) | (exfalso; rw [hc21_30] at hc3_1; revert hc3_1; decide) | (exfalso; rw [hc21_30] at hc9_2; revert hc9_2; decide) | (exfalso; rw [hc21_30] at hc15_16; revert hc15_16; decide) | (exfalso; rw [hc21_30] at hc27_31; revert hc27_31; decide) | (exfalso; rw [hc21_30] at hc33_32; revert hc33_32; decide) | (exfalso; rw [hc21_30] at hc39_38; revert hc39_38; decide) | (exfalso; rw [hc21_30] at hc45_39; revert hc45_39; decide) | (exfalso; rw [hc21_30] at hc51_40; revert hc51_40; decide) | (exfalso; rw [hc21_30] at hc63_41; revert hc63_41; decide)), N0, e0⟩ (by decide) (by decide)
                  · refine own_via (g' := s₁.setTop (mkF m 54 #[.val (.int p1)] [])) (fun t k => XS.icmpNo X0.here hx rfl (hb hby own_d14_51) rfl (XT.ii_lt_f hc51_40) k) ?_
                    refine own_via (g' := s₁.setTop (mkF m 55 #[.val (.int p1)] [(.int p1)])) (fun t k => XS.iloadN X0.here hx rfl (hb hby own_d14_54) rfl k) ?_
                    refine own_via (g' := s₁.setTop (mkF m 57 #[.val (.int p1)] [(.int (122 : Int32)), (.int p1)])) (fun t k => XS.bipush X0.here hx rfl (hb hby own_d14_55) k) ?_
                    by_cases hc57_42 : (122 : Int32) < p1
                    · refine own_via (g' := s₁.setTop (mkF m 60 #[.val (.int p1)] [])) (fun t k => XS.icmpNo X0.here hx rfl (hb hby own_d14_57) rfl (XT.ii_le_f hc57_42) k) ?_
                      refine own_via (g' := s₁.setTop (mkF m 61 #[.val (.int p1)] [(.int p1)])) (fun t k => XS.iloadN X0.here hx rfl (hb hby own_d14_60) rfl k) ?_
                      refine own_via (g' := s₁.setTop (mkF m 63 #[.val (.int p1)] [(.int (126 : Int32)), (.int p1)])) (fun t k => XS.bipush X0.here hx rfl (hb hby own_d14_61) k) ?_
                      by_cases hc63_43 : p1 = (126 : Int32)
                      · refine own_via (g' := s₁.setTop (mkF m 66 #[.val (.int p1)] [])) (fun t k => XS.icmpNo X0.here hx rfl (hb hby own_d14_63) rfl (XT.ii_ne_f hc63_43) k) ?_
                        refine own_via (g' := s₁.setTop (mkF m 67 #[.val (.int p1)] [(.int (1 : Int32))])) (fun t k => XS.iconst X0.here hx rfl (hb hby own_d14_66) k) ?_
                        refine own_via (g' := s₁.setTop (mkF m 71 #[.val (.int p1)] [(.int (1 : Int32))])) (fun t k => XS.goto X0.here hx rfl (pc0 := 67) (pc' := 71) rfl (hb hby own_d14_67) (by decide) (by decide) k) ?_
                        exact own_retB X0 hx hlk (t := .boolean) Bd.returns (by simp) (hb hby own_d14_71) ⟨(by first | (rw [show nar .boolean (1 : Int32) = (1 : Int32) from rfl, own_exp, if_neg hc3_1, if_neg hc9_2, if_neg hc15_16, if_pos hc21_30, if_neg hc27_31, if_neg hc33_32, if_pos hc39_38, if_neg hc45_39, if_neg hc51_40, if_pos hc57_42, if_pos hc63_43]; done) | (rw [show nar .boolean (1 : Int32) = (1 : Int32) from rfl]; simp only [own_exp, hc3_1, hc9_2, hc15_16, hc21_30, hc27_31, hc33_32, hc39_38, hc45_39, hc51_40, hc57_42, hc63_43, if_true, if_false, eq_self, not_true_eq_false, not_false_eq_true, and_true, true_and, and_false, false_and, and_self, or_true, true_or, or_false, false_or, or_self]; done) | (rw [show nar .boolean (1 : Int32) = (1 : Int32) from rfl]; simp [own_exp, hc3_1, hc9_2, hc15_16, hc21_30, hc27_31, hc33_32, hc39_38, hc45_39, hc51_40, hc57_42, hc63_43]; done) | (exfalso; rw [hc21_30] at hc3_1; revert hc3_1; decide) | (exfalso; rw [hc21_30] at hc9_2; revert hc9_2; decide) | (exfalso; rw [hc21_30] at hc15_16; revert hc15_16; decide) | (exfalso; rw [hc21_30] at hc27_31; revert hc27_31; decide) | (exfalso; rw [hc21_30] at hc33_32; revert hc33_32; decide) | (exfalso; rw [hc21_30] at hc39_38; revert hc39_38; decide) | (exfalso; rw [hc21_30] at hc45_39; revert hc45_39; decide) | (exfalso; rw [hc21_30] at hc51_40; revert hc51_40; decide) | (exfalso; rw [hc21_30] at hc57_42; revert hc57_42; decide) | (exfalso; rw [hc21_30] at hc63_43; revert hc63_43; decide) | (exfalso; rw [hc63_43] at hc3_1; revert hc3_1; decide) | (exfalso; rw [hc63_43] at hc9_2; revert hc9_2; decide) | (exfalso; rw [hc63_43] at hc15_16; revert hc15_16; decide) | (exfalso; rw [hc63_43] at hc21_30; revert hc21_30; decide) | (exfalso; rw [hc63_43] at hc27_31; revert hc27_31; decide) | (exfalso; rw [hc63_43] at hc33_32; revert hc33_32; decide) | (exfalso; rw [hc63_43] at hc39_38; revert hc39_38; decide) | (exfalso; rw [hc63_43] at hc45_39; revert hc45_39; decide) | (exfalso; rw [hc63_43] at hc51_40; revert hc51_40; decide) | (exfalso; rw [hc63_43] at hc57_42; revert hc57_42; decide)), N0, e0⟩ (by decide) (by decide)
                      · refine own_via (g' := s₁.setTop (mkF m 70 #[.val (.int p1)] [])) (fun t k => XS.icmpYes X0.here hx rfl (pc0 := 63) (pc' := 70) rfl (hb hby own_d14_63) rfl (XT.ii_ne_t hc63_43) (by decide) (by decide) k) ?_
                        refine own_via (g' := s₁.setTop (mkF m 71 #[.val (.int p1)] [(.int (0 : Int32))])) (fun t k => XS.iconst X0.here hx rfl (hb hby own_d14_70) k) ?_
                        exact own_retB X0 hx hlk (t := .boolean) Bd.returns (by simp) (hb hby own_d14_71) ⟨(by first | (rw [show nar .boolean (0 : Int32) = (0 : Int32) from rfl, own_exp, if_neg hc3_1, if_neg hc9_2, if_neg hc15_16, if_pos hc21_30, if_neg hc27_31, if_neg hc33_32, if_pos hc39_38, if_neg hc45_39, if_neg hc51_40, if_pos hc57_42, if_neg hc63_43]; done) | (rw [show nar .boolean (0 : Int32) = (0 : Int32) from rfl]; simp only [own_exp, hc3_1, hc9_2, hc15_16, hc21_30, hc27_31, hc33_32, hc39_38, hc45_39, hc51_40, hc57_42, hc63_43, if_true, if_false, eq_self, not_true_eq_false, not_false_eq_true, and_true, true_and, and_false, false_and, and_self, or_true, true_or, or_false, false_or, or_self]; done) | (rw [show nar .boolean (0 : Int32) = (0 : Int32) from rfl]; simp [own_exp, hc3_1, hc9_2, hc15_16, hc21_30, hc27_31, hc33_32, hc39_38, hc45_39, hc51_40, hc57_42, hc63_43]; done) | (exfalso; rw [hc21_30] at hc3_1; revert hc3_1; decide) | (exfalso; rw [hc21_30] at hc9_2; revert hc9_2; decide) | (exfalso; rw [hc21_30] at hc15_16; revert hc15_16; decide) | (exfalso; rw [hc21_30] at hc27_31; revert hc27_31; decide) | (exfalso; rw [hc21_30] at hc33_32; revert hc33_32; decide) | (exfalso; rw [hc21_30] at hc39_38; revert hc39_38; decide) | (exfalso; rw [hc21_30] at hc45_39; revert hc45_39; decide) | (exfalso; rw [hc21_30] at hc51_40; revert hc51_40; decide) | (exfalso; rw [hc21_30] at hc57_42; revert hc57_42; decide) | (exfalso; rw [hc21_30] at hc63_43; revert hc63_43; decide)), N0, e0⟩ (by decide) (by decide)
                    · refine own_via (g' := s₁.setTop (mkF m 66 #[.val (.int p1)] [])) (fun t k => XS.icmpYes X0.here hx rfl (pc0 := 57) (pc' := 66) rfl (hb hby own_d14_57) rfl (XT.ii_le_t hc57_42) (by decide) (by decide) k) ?_
                      refine own_via (g' := s₁.setTop (mkF m 67 #[.val (.int p1)] [(.int (1 : Int32))])) (fun t k => XS.iconst X0.here hx rfl (hb hby own_d14_66) k) ?_
                      refine own_via (g' := s₁.setTop (mkF m 71 #[.val (.int p1)] [(.int (1 : Int32))])) (fun t k => XS.goto X0.here hx rfl (pc0 := 67) (pc' := 71) rfl (hb hby own_d14_67) (by decide) (by decide) k) ?_
                      exact own_retB X0 hx hlk (t := .boolean) Bd.returns (by simp) (hb hby own_d14_71) ⟨(by first | (rw [show nar .boolean (1 : Int32) = (1 : Int32) from rfl, own_exp, if_neg hc3_1, if_neg hc9_2, if_neg hc15_16, if_pos hc21_30, if_neg hc27_31, if_neg hc33_32, if_pos hc39_38, if_neg hc45_39, if_neg hc51_40, if_neg hc57_42]; done) | (rw [show nar .boolean (1 : Int32) = (1 : Int32) from rfl]; simp only [own_exp, hc3_1, hc9_2, hc15_16, hc21_30, hc27_31, hc33_32, hc39_38, hc45_39, hc51_40, hc57_42, if_true, if_false, eq_self, not_true_eq_false, not_false_eq_true, and_true, true_and, and_false, false_and, and_self, or_true, true_or, or_false, false_or, or_self]; done) | (rw [show nar .boolean (1 : Int32) = (1 : Int32) from rfl]; simp [own_exp, hc3_1, hc9_2, hc15_16, hc21_30, hc27_31, hc33_32, hc39_38, hc45_39, hc51_40, hc57_42]; done) | (exfalso; rw [hc21_30] at hc3_1; revert hc3_1; decide) | (exfalso; rw [hc21_30] at hc9_2; revert hc9_2; decide) | (exfalso; rw [hc21_30] at hc15_16; revert hc15_16; decide) | (exfalso; rw [hc21_30] at hc27_31; revert hc27_31; decide) | (exfalso; rw [hc21_30] at hc33_32; revert hc33_32; decide) | (exfalso; rw [hc21_30] at hc39_38; revert hc39_38; decide) | (exfalso; rw [hc21_30] at hc45_39; revert hc45_39; decide) | (exfalso; rw [hc21_30] at hc51_40; revert hc51_40; decide) | (exfalso; rw [hc21_30] at hc57_42; revert hc57_42; decide)), N0, e0⟩ (by decide) (by decide)
              · refine own_via (g' := s₁.setTop (mkF m 66 #[.val (.int p1)] [])) (fun t k => XS.icmpYes X0.here hx rfl (pc0 := 39) (pc' := 66) rfl (hb hby own_d14_39) rfl (XT.ii_le_t hc39_38) (by decide) (by decide) k) ?_
                refine own_via (g' := s₁.setTop (mkF m 67 #[.val (.int p1)] [(.int (1 : Int32))])) (fun t k => XS.iconst X0.here hx rfl (hb hby own_d14_66) k) ?_
                refine own_via (g' := s₁.setTop (mkF m 71 #[.val (.int p1)] [(.int (1 : Int32))])) (fun t k => XS.goto X0.here hx rfl (pc0 := 67) (pc' := 71) rfl (hb hby own_d14_67) (by decide) (by decide) k) ?_
                exact own_retB X0 hx hlk (t := .boolean) Bd.returns (by simp) (hb hby own_d14_71) ⟨(by first | (rw [show nar .boolean (1 : Int32) = (1 : Int32) from rfl, own_exp, if_neg hc3_1, if_neg hc9_2, if_neg hc15_16, if_pos hc21_30, if_neg hc27_31, if_neg hc33_32, if_neg hc39_38]; done) | (rw [show nar .boolean (1 : Int32) = (1 : Int32) from rfl]; simp only [own_exp, hc3_1, hc9_2, hc15_16, hc21_30, hc27_31, hc33_32, hc39_38, if_true, if_false, eq_self, not_true_eq_false, not_false_eq_true, and_true, true_and, and_false, false_and, and_self, or_true, true_or, or_false, false_or, or_self]; done) | (rw [show nar .boolean (1 : Int32) = (1 : Int32) from rfl]; simp [own_exp, hc3_1, hc9_2, hc15_16, hc21_30, hc27_31, hc33_32, hc39_38]; done) | (exfalso; rw [hc21_30] at hc3_1; revert hc3_1; decide) | (exfalso; rw [hc21_30] at hc9_2; revert hc9_2; decide) | (exfalso; rw [hc21_30] at hc15_16; revert hc15_16; decide) | (exfalso; rw [hc21_30] at hc27_31; revert hc27_31; decide) | (exfalso; rw [hc21_30] at hc33_32; revert hc33_32; decide) | (exfalso; rw [hc21_30] at hc39_38; revert hc39_38; decide)), N0, e0⟩ (by decide) (by decide)
        · refine own_via (g' := s₁.setTop (mkF m 66 #[.val (.int p1)] [])) (fun t k => XS.icmpYes X0.here hx rfl (pc0 := 21) (pc' := 66) rfl (hb hby own_d14_21) rfl (XT.ii_ne_t hc21_30) (by decide) (by decide) k) ?_
          refine own_via (g' := s₁.setTop (mkF m 67 #[.val (.int p1)] [(.int (1 : Int32))])) (fun t k => XS.iconst X0.here hx rfl (hb hby own_d14_66) k) ?_
          refine own_via (g' := s₁.setTop (mkF m 71 #[.val (.int p1)] [(.int (1 : Int32))])) (fun t k => XS.goto X0.here hx rfl (pc0 := 67) (pc' := 71) rfl (hb hby own_d14_67) (by decide) (by decide) k) ?_
          exact own_retB X0 hx hlk (t := .boolean) Bd.returns (by simp) (hb hby own_d14_71) ⟨(by first | (rw [show nar .boolean (1 : Int32) = (1 : Int32) from rfl, own_exp, if_neg hc3_1, if_neg hc9_2, if_neg hc15_16, if_neg hc21_30]; done) | (rw [show nar .boolean (1 : Int32) = (1 : Int32) from rfl]; simp only [own_exp, hc3_1, hc9_2, hc15_16, hc21_30, if_true, if_false, eq_self, not_true_eq_false, not_false_eq_true, and_true, true_and, and_false, false_and, and_self, or_true, true_or, or_false, false_or, or_self]; done) | (rw [show nar .boolean (1 : Int32) = (1 : Int32) from rfl]; simp [own_exp, hc3_1, hc9_2, hc15_16, hc21_30]; done)), N0, e0⟩ (by decide) (by decide)
theorem own_pn2 : plainName "java/lang/StringLatin1" = true := by first | (simp [plainName, overriddenIn]; done) | decide +kernel
theorem own_d10_0 : decode jdk_43_method_4_code 0 = .ok (.iload_n 0, 1) := by decide +kernel
theorem own_d10_1 : decode jdk_43_method_4_code 1 = .ok (.ifCond .lt 14, 3) := by decide +kernel
theorem own_d10_4 : decode jdk_43_method_4_code 4 = .ok (.iload_n 0, 1) := by decide +kernel
theorem own_d10_5 : decode jdk_43_method_4_code 5 = .ok (.sipush 255, 3) := by decide +kernel
theorem own_d10_8 : decode jdk_43_method_4_code 8 = .ok (.if_icmp .gt 7, 3) := by decide +kernel
theorem own_d10_11 : decode jdk_43_method_4_code 11 = .ok (.iconst 1, 1) := by decide +kernel
theorem own_d10_12 : decode jdk_43_method_4_code 12 = .ok (.goto 4, 3) := by decide +kernel
theorem own_d10_15 : decode jdk_43_method_4_code 15 = .ok (.iconst 0, 1) := by decide +kernel
theorem own_d10_16 : decode jdk_43_method_4_code 16 = .ok (.ireturn, 1) := by decide +kernel
theorem ef_own_rm10 (m : MethodId) (p1 : Int32) : entryFrame m #[(.int p1)] 1 = mkF m 0 #[.val (.int p1)] [] := by first | (simp [entryFrame, mkF, argsToLocals, Value.category]; done) | rfl
def own_rm10_Q (Z : State) (p1 : Int32)  (h0 : Heap) (n0 : Nat) (v : Option Value) (h : Heap) (L : List Loc) : Prop := v = some (.int (own_can p1)) ∧ Fr n0 L ∧ h = h0
set_option maxRecDepth 65536 in
set_option maxHeartbeats 40000000 in
theorem own_rm10 (l : Launch) (Z : State) (a0 : Array Value) (hw : ∀ d ∈ tables_1, d.before a0 Z = true) (ws : List Jvm.Cond) (p1 : Int32)  (h0 : Heap) (n0 : Nat) (Z0 : n0 ≤ h0.size) :
    MetFree l (⟨"java/lang/StringLatin1", "canEncode", "(I)Z"⟩ : MethodName) (head1 (Jvm.Cond.code (⟨"java/lang/StringLatin1", "canEncode", "(I)Z"⟩ : MethodName) jdk_43_method_4_code 1 (some .boolean) :: ws) ({ frames := 0, cells := 0, slots := 0, locals := 0 } : Room)) (fun a U => a = #[(.int p1)] ∧ Z.Warmed39 U.vm ∧ U.heap = h0) (fun _ _ _ _ _ => True) (fun _ U o U' => ∃ v L, o = .returned v ∧ own_rm10_Q Z p1  h0 n0 v U'.heap L ∧ FrameEnd U o U' L ({ frames := 0, cells := 0, slots := 0, locals := 0 } : Room).cells ({ frames := 0, cells := 0, slots := 0, locals := 0 } : Room).slots) := by
  refine MetFree.of_bodySF (plainFor_of_name own_pn2) hisR ?_
  intro p e s m args below meth c s₁ Bd hml0 hP hK
  obtain ⟨rfl, hZ, hh⟩ := hP
  have hx := Bd.exec
  have hby := Bd.bytes
  have hml : c.maxLocals = 1 := hml0
  have hown : s.vm.findClass "java/lang/StringLatin1" = some m.cls := findClass_of_methodNamed Bd.named
  have hnm := (name_of_methodNamed Bd.named Bd.method).1
  have hlk : meth.locks = false := BodyLoose.notSynchronized Bd
  have X0 : Stand p l e ({ frames := 0, cells := 0, slots := 0, locals := 0 } : Room) s m #[(.int p1)] below meth c s₁ [] 0 0 := Stand.of_body Bd
  have e0 : s₁.heap = h0 := by rw [← hh, Bd.state]; rfl
  have N0 := Fr.nil n0
  have K0 : Keep h0 h0 [] := Keep.refl h0 []
  show own_Fin p e below (own_P (own_rm10_Q Z p1  h0 n0) s ({ frames := 0, cells := 0, slots := 0, locals := 0 } : Room).cells ({ frames := 0, cells := 0, slots := 0, locals := 0 } : Room).slots) (s₁.setTop (entryFrame m #[(.int p1)] 1))
  refine own_via (g' := s₁.setTop (mkF m 0 #[.val (.int p1)] [])) (fun t k => castTop (ef_own_rm10 m p1) k) ?_
  refine own_via (g' := s₁.setTop (mkF m 1 #[.val (.int p1)] [(.int p1)])) (fun t k => XS.iloadN X0.here hx rfl (hb hby own_d10_0) rfl k) ?_
  by_cases hc1_1 : p1 < 0
  · refine own_via (g' := s₁.setTop (mkF m 15 #[.val (.int p1)] [])) (fun t k => XS.ifYes X0.here hx rfl (pc0 := 1) (pc' := 15) rfl (hb hby own_d10_1) rfl (XT.i0_lt_t hc1_1) (by decide) (by decide) k) ?_
    refine own_via (g' := s₁.setTop (mkF m 16 #[.val (.int p1)] [(.int (0 : Int32))])) (fun t k => XS.iconst X0.here hx rfl (hb hby own_d10_15) k) ?_
    exact own_retB X0 hx hlk (t := .boolean) Bd.returns (by simp) (hb hby own_d10_16) ⟨(by first | (rw [show nar .boolean (0 : Int32) = (0 : Int32) from rfl, own_can, if_pos hc1_1]; done) | (rw [show nar .boolean (0 : Int32) = (0 : Int32) from rfl]; simp only [own_can, hc1_1, if_true, if_false, eq_self, not_true_eq_false, not_false_eq_true, and_true, true_and, and_false, false_and, and_self, or_true, true_or, or_false, false_or, or_self]; done) | (rw [show nar .boolean (0 : Int32) = (0 : Int32) from rfl]; simp [own_can, hc1_1]; done)), N0, e0⟩ (by decide) (by decide)
  · refine own_via (g' := s₁.setTop (mkF m 4 #[.val (.int p1)] [])) (fun t k => XS.ifNo X0.here hx rfl (hb hby own_d10_1) rfl (XT.i0_lt_f hc1_1) k) ?_
    refine own_via (g' := s₁.setTop (mkF m 5 #[.val (.int p1)] [(.int p1)])) (fun t k => XS.iloadN X0.here hx rfl (hb hby own_d10_4) rfl k) ?_
    refine own_via (g' := s₁.setTop (mkF m 8 #[.val (.int p1)] [(.int (255 : Int32)), (.int p1)])) (fun t k => XS.sipush X0.here hx rfl (hb hby own_d10_5) k) ?_
    by_cases hc8_2 : (255 : Int32) < p1
    · refine own_via (g' := s₁.setTop (mkF m 15 #[.val (.int p1)] [])) (fun t k => XS.icmpYes X0.here hx rfl (pc0 := 8) (pc' := 15) rfl (hb hby own_d10_8) rfl (XT.ii_gt_t hc8_2) (by decide) (by decide) k) ?_
      refine own_via (g' := s₁.setTop (mkF m 16 #[.val (.int p1)] [(.int (0 : Int32))])) (fun t k => XS.iconst X0.here hx rfl (hb hby own_d10_15) k) ?_
      exact own_retB X0 hx hlk (t := .boolean) Bd.returns (by simp) (hb hby own_d10_16) ⟨(by first | (rw [show nar .boolean (0 : Int32) = (0 : Int32) from rfl, own_can, if_neg hc1_1, if_pos hc8_2]; done) | (rw [show nar .boolean (0 : Int32) = (0 : Int32) from rfl]; simp only [own_can, hc1_1, hc8_2, if_true, if_false, eq_self, not_true_eq_false, not_false_eq_true, and_true, true_and, and_false, false_and, and_self, or_true, true_or, or_false, false_or, or_self]; done) | (rw [show nar .boolean (0 : Int32) = (0 : Int32) from rfl]; simp [own_can, hc1_1, hc8_2]; done)), N0, e0⟩ (by decide) (by decide)
    · refine own_via (g' := s₁.setTop (mkF m 11 #[.val (.int p1)] [])) (fun t k => XS.icmpNo X0.here hx rfl (hb hby own_d10_8) rfl (XT.ii_gt_f hc8_2) k) ?_
      refine own_via (g' := s₁.setTop (mkF m 12 #[.val (.int p1)] [(.int (1 : Int32))])) (fun t k => XS.iconst X0.here hx rfl (hb hby own_d10_11) k) ?_
      refine own_via (g' := s₁.setTop (mkF m 16 #[.val (.int p1)] [(.int (1 : Int32))])) (fun t k => XS.goto X0.here hx rfl (pc0 := 12) (pc' := 16) rfl (hb hby own_d10_12) (by decide) (by decide) k) ?_
      exact own_retB X0 hx hlk (t := .boolean) Bd.returns (by simp) (hb hby own_d10_16) ⟨(by first | (rw [show nar .boolean (1 : Int32) = (1 : Int32) from rfl, own_can, if_neg hc1_1, if_neg hc8_2]; done) | (rw [show nar .boolean (1 : Int32) = (1 : Int32) from rfl]; simp only [own_can, hc1_1, hc8_2, if_true, if_false, eq_self, not_true_eq_false, not_false_eq_true, and_true, true_and, and_false, false_and, and_self, or_true, true_or, or_false, false_or, or_self]; done) | (rw [show nar .boolean (1 : Int32) = (1 : Int32) from rfl]; simp [own_can, hc1_1, hc8_2]; done)), N0, e0⟩ (by decide) (by decide)
theorem own_d11_0 : decode jdk_29_method_65_code 0 = .ok (.iload_n 0, 1) := by decide +kernel
theorem own_d11_1 : decode jdk_29_method_65_code 1 = .ok (.iload_n 1, 1) := by decide +kernel
theorem own_d11_2 : decode jdk_29_method_65_code 2 = .ok (.if_icmp .lt 7, 3) := by decide +kernel
theorem own_d11_5 : decode jdk_29_method_65_code 5 = .ok (.iload_n 0, 1) := by decide +kernel
theorem own_d11_6 : decode jdk_29_method_65_code 6 = .ok (.goto 4, 3) := by decide +kernel
theorem own_d11_9 : decode jdk_29_method_65_code 9 = .ok (.iload_n 1, 1) := by decide +kernel
theorem own_d11_10 : decode jdk_29_method_65_code 10 = .ok (.ireturn, 1) := by decide +kernel
theorem ef_own_rm11 (m : MethodId) (p1 : Int32) (p2 : Int32) : entryFrame m #[(.int p1), (.int p2)] 2 = mkF m 0 #[.val (.int p1), .val (.int p2)] [] := by first | (simp [entryFrame, mkF, argsToLocals, Value.category]; done) | rfl
def own_rm11_Q (Z : State) (p1 : Int32) (p2 : Int32)  (h0 : Heap) (n0 : Nat) (v : Option Value) (h : Heap) (L : List Loc) : Prop := v = some (.int (own_max p1 p2)) ∧ Fr n0 L ∧ h = h0
set_option maxRecDepth 65536 in
set_option maxHeartbeats 40000000 in
theorem own_rm11 (l : Launch) (Z : State) (a0 : Array Value) (hw : ∀ d ∈ tables_1, d.before a0 Z = true) (ws : List Jvm.Cond) (p1 : Int32) (p2 : Int32)  (h0 : Heap) (n0 : Nat) (Z0 : n0 ≤ h0.size) :
    MetFree l (⟨"java/lang/Math", "max", "(II)I"⟩ : MethodName) (head1 (Jvm.Cond.code (⟨"java/lang/Math", "max", "(II)I"⟩ : MethodName) jdk_29_method_65_code 2 (some .int) :: ws) ({ frames := 0, cells := 0, slots := 0, locals := 0 } : Room)) (fun a U => a = #[(.int p1), (.int p2)] ∧ Z.Warmed39 U.vm ∧ U.heap = h0) (fun _ _ _ _ _ => True) (fun _ U o U' => ∃ v L, o = .returned v ∧ own_rm11_Q Z p1 p2  h0 n0 v U'.heap L ∧ FrameEnd U o U' L ({ frames := 0, cells := 0, slots := 0, locals := 0 } : Room).cells ({ frames := 0, cells := 0, slots := 0, locals := 0 } : Room).slots) := by
  refine MetFree.of_bodySF (Jvm.Free.JP.mathPlain rfl (by decide +kernel)) hisR ?_
  intro p e s m args below meth c s₁ Bd hml0 hP hK
  obtain ⟨rfl, hZ, hh⟩ := hP
  have hx := Bd.exec
  have hby := Bd.bytes
  have hml : c.maxLocals = 2 := hml0
  have hown : s.vm.findClass "java/lang/Math" = some m.cls := findClass_of_methodNamed Bd.named
  have hnm := (name_of_methodNamed Bd.named Bd.method).1
  have hlk : meth.locks = false := BodyLoose.notSynchronized Bd
  have X0 : Stand p l e ({ frames := 0, cells := 0, slots := 0, locals := 0 } : Room) s m #[(.int p1), (.int p2)] below meth c s₁ [] 0 0 := Stand.of_body Bd
  have e0 : s₁.heap = h0 := by rw [← hh, Bd.state]; rfl
  have N0 := Fr.nil n0
  have K0 : Keep h0 h0 [] := Keep.refl h0 []
  show own_Fin p e below (own_P (own_rm11_Q Z p1 p2  h0 n0) s ({ frames := 0, cells := 0, slots := 0, locals := 0 } : Room).cells ({ frames := 0, cells := 0, slots := 0, locals := 0 } : Room).slots) (s₁.setTop (entryFrame m #[(.int p1), (.int p2)] 2))
  refine own_via (g' := s₁.setTop (mkF m 0 #[.val (.int p1), .val (.int p2)] [])) (fun t k => castTop (ef_own_rm11 m p1 p2) k) ?_
  refine own_via (g' := s₁.setTop (mkF m 1 #[.val (.int p1), .val (.int p2)] [(.int p1)])) (fun t k => XS.iloadN X0.here hx rfl (hb hby own_d11_0) rfl k) ?_
  refine own_via (g' := s₁.setTop (mkF m 2 #[.val (.int p1), .val (.int p2)] [(.int p2), (.int p1)])) (fun t k => XS.iloadN X0.here hx rfl (hb hby own_d11_1) rfl k) ?_
  by_cases hc2_1 : p1 < p2
  · refine own_via (g' := s₁.setTop (mkF m 9 #[.val (.int p1), .val (.int p2)] [])) (fun t k => XS.icmpYes X0.here hx rfl (pc0 := 2) (pc' := 9) rfl (hb hby own_d11_2) rfl (XT.ii_lt_t hc2_1) (by decide) (by decide) k) ?_
    refine own_via (g' := s₁.setTop (mkF m 10 #[.val (.int p1), .val (.int p2)] [(.int p2)])) (fun t k => XS.iloadN X0.here hx rfl (hb hby own_d11_9) rfl k) ?_
    exact own_retI X0 hx hlk Bd.returns (hb hby own_d11_10) ⟨(by rw [own_max, if_pos hc2_1]), N0, e0⟩ (by decide) (by decide)
  · refine own_via (g' := s₁.setTop (mkF m 5 #[.val (.int p1), .val (.int p2)] [])) (fun t k => XS.icmpNo X0.here hx rfl (hb hby own_d11_2) rfl (XT.ii_lt_f hc2_1) k) ?_
    refine own_via (g' := s₁.setTop (mkF m 6 #[.val (.int p1), .val (.int p2)] [(.int p1)])) (fun t k => XS.iloadN X0.here hx rfl (hb hby own_d11_5) rfl k) ?_
    refine own_via (g' := s₁.setTop (mkF m 10 #[.val (.int p1), .val (.int p2)] [(.int p1)])) (fun t k => XS.goto X0.here hx rfl (pc0 := 6) (pc' := 10) rfl (hb hby own_d11_6) (by decide) (by decide) k) ?_
    exact own_retI X0 hx hlk Bd.returns (hb hby own_d11_10) ⟨(by rw [own_max, if_neg hc2_1]), N0, e0⟩ (by decide) (by decide)
theorem own_d12_0 : decode jdk_29_method_69_code 0 = .ok (.iload_n 0, 1) := by decide +kernel
theorem own_d12_1 : decode jdk_29_method_69_code 1 = .ok (.iload_n 1, 1) := by decide +kernel
theorem own_d12_2 : decode jdk_29_method_69_code 2 = .ok (.if_icmp .gt 7, 3) := by decide +kernel
theorem own_d12_5 : decode jdk_29_method_69_code 5 = .ok (.iload_n 0, 1) := by decide +kernel
theorem own_d12_6 : decode jdk_29_method_69_code 6 = .ok (.goto 4, 3) := by decide +kernel
theorem own_d12_9 : decode jdk_29_method_69_code 9 = .ok (.iload_n 1, 1) := by decide +kernel
theorem own_d12_10 : decode jdk_29_method_69_code 10 = .ok (.ireturn, 1) := by decide +kernel
theorem ef_own_rm12 (m : MethodId) (p1 : Int32) (p2 : Int32) : entryFrame m #[(.int p1), (.int p2)] 2 = mkF m 0 #[.val (.int p1), .val (.int p2)] [] := by first | (simp [entryFrame, mkF, argsToLocals, Value.category]; done) | rfl
def own_rm12_Q (Z : State) (p1 : Int32) (p2 : Int32)  (h0 : Heap) (n0 : Nat) (v : Option Value) (h : Heap) (L : List Loc) : Prop := v = some (.int (own_min p1 p2)) ∧ Fr n0 L ∧ h = h0
set_option maxRecDepth 65536 in
set_option maxHeartbeats 40000000 in
theorem own_rm12 (l : Launch) (Z : State) (a0 : Array Value) (hw : ∀ d ∈ tables_1, d.before a0 Z = true) (ws : List Jvm.Cond) (p1 : Int32) (p2 : Int32)  (h0 : Heap) (n0 : Nat) (Z0 : n0 ≤ h0.size) :
    MetFree l (⟨"java/lang/Math", "min", "(II)I"⟩ : MethodName) (head1 (Jvm.Cond.code (⟨"java/lang/Math", "min", "(II)I"⟩ : MethodName) jdk_29_method_69_code 2 (some .int) :: ws) ({ frames := 0, cells := 0, slots := 0, locals := 0 } : Room)) (fun a U => a = #[(.int p1), (.int p2)] ∧ Z.Warmed39 U.vm ∧ U.heap = h0) (fun _ _ _ _ _ => True) (fun _ U o U' => ∃ v L, o = .returned v ∧ own_rm12_Q Z p1 p2  h0 n0 v U'.heap L ∧ FrameEnd U o U' L ({ frames := 0, cells := 0, slots := 0, locals := 0 } : Room).cells ({ frames := 0, cells := 0, slots := 0, locals := 0 } : Room).slots) := by
  refine MetFree.of_bodySF (Jvm.Free.JP.mathPlain rfl (by decide +kernel)) hisR ?_
  intro p e s m args below meth c s₁ Bd hml0 hP hK
  obtain ⟨rfl, hZ, hh⟩ := hP
  have hx := Bd.exec
  have hby := Bd.bytes
  have hml : c.maxLocals = 2 := hml0
  have hown : s.vm.findClass "java/lang/Math" = some m.cls := findClass_of_methodNamed Bd.named
  have hnm := (name_of_methodNamed Bd.named Bd.method).1
  have hlk : meth.locks = false := BodyLoose.notSynchronized Bd
  have X0 : Stand p l e ({ frames := 0, cells := 0, slots := 0, locals := 0 } : Room) s m #[(.int p1), (.int p2)] below meth c s₁ [] 0 0 := Stand.of_body Bd
  have e0 : s₁.heap = h0 := by rw [← hh, Bd.state]; rfl
  have N0 := Fr.nil n0
  have K0 : Keep h0 h0 [] := Keep.refl h0 []
  show own_Fin p e below (own_P (own_rm12_Q Z p1 p2  h0 n0) s ({ frames := 0, cells := 0, slots := 0, locals := 0 } : Room).cells ({ frames := 0, cells := 0, slots := 0, locals := 0 } : Room).slots) (s₁.setTop (entryFrame m #[(.int p1), (.int p2)] 2))
  refine own_via (g' := s₁.setTop (mkF m 0 #[.val (.int p1), .val (.int p2)] [])) (fun t k => castTop (ef_own_rm12 m p1 p2) k) ?_
  refine own_via (g' := s₁.setTop (mkF m 1 #[.val (.int p1), .val (.int p2)] [(.int p1)])) (fun t k => XS.iloadN X0.here hx rfl (hb hby own_d12_0) rfl k) ?_
  refine own_via (g' := s₁.setTop (mkF m 2 #[.val (.int p1), .val (.int p2)] [(.int p2), (.int p1)])) (fun t k => XS.iloadN X0.here hx rfl (hb hby own_d12_1) rfl k) ?_
  by_cases hc2_1 : p2 < p1
  · refine own_via (g' := s₁.setTop (mkF m 9 #[.val (.int p1), .val (.int p2)] [])) (fun t k => XS.icmpYes X0.here hx rfl (pc0 := 2) (pc' := 9) rfl (hb hby own_d12_2) rfl (XT.ii_gt_t hc2_1) (by decide) (by decide) k) ?_
    refine own_via (g' := s₁.setTop (mkF m 10 #[.val (.int p1), .val (.int p2)] [(.int p2)])) (fun t k => XS.iloadN X0.here hx rfl (hb hby own_d12_9) rfl k) ?_
    exact own_retI X0 hx hlk Bd.returns (hb hby own_d12_10) ⟨(by rw [own_min, if_pos hc2_1]), N0, e0⟩ (by decide) (by decide)
  · refine own_via (g' := s₁.setTop (mkF m 5 #[.val (.int p1), .val (.int p2)] [])) (fun t k => XS.icmpNo X0.here hx rfl (hb hby own_d12_2) rfl (XT.ii_gt_f hc2_1) k) ?_
    refine own_via (g' := s₁.setTop (mkF m 6 #[.val (.int p1), .val (.int p2)] [(.int p1)])) (fun t k => XS.iloadN X0.here hx rfl (hb hby own_d12_5) rfl k) ?_
    refine own_via (g' := s₁.setTop (mkF m 10 #[.val (.int p1), .val (.int p2)] [(.int p1)])) (fun t k => XS.goto X0.here hx rfl (pc0 := 6) (pc' := 10) rfl (hb hby own_d12_6) (by decide) (by decide) k) ?_
    exact own_retI X0 hx hlk Bd.returns (hb hby own_d12_10) ⟨(by rw [own_min, if_neg hc2_1]), N0, e0⟩ (by decide) (by decide)
theorem own_pn3 : plainName "java/lang/String" = true := by first | (simp [plainName, overriddenIn]; done) | decide +kernel
theorem own_d8_0 : decode jdk_42_method_152_code 0 = .ok (.getstatic 38, 3) := by decide +kernel
theorem own_d8_3 : decode jdk_42_method_152_code 3 = .ok (.ifCond .eq 10, 3) := by decide +kernel
theorem own_d8_6 : decode jdk_42_method_152_code 6 = .ok (.aload_n 0, 1) := by decide +kernel
theorem own_d8_7 : decode jdk_42_method_152_code 7 = .ok (.getfield 15, 3) := by decide +kernel
theorem own_d8_10 : decode jdk_42_method_152_code 10 = .ok (.goto 4, 3) := by decide +kernel
theorem own_d8_14 : decode jdk_42_method_152_code 14 = .ok (.ireturn, 1) := by decide +kernel
theorem ef_own_rm8 (m : MethodId) (a1 : Addr) : entryFrame m #[(.ref a1)] 1 = mkF m 0 #[.val (.ref a1)] [] := by first | (simp [entryFrame, mkF, argsToLocals, Value.category]; done) | rfl
def own_rm8_Q (Z : State) (a1 : Addr) (cs : Int32) (h0 : Heap) (n0 : Nat) (v : Option Value) (h : Heap) (L : List Loc) : Prop := v = some (.int ((0 : Int32))) ∧ Fr n0 L ∧ h = h0
set_option maxRecDepth 65536 in
set_option maxHeartbeats 40000000 in
theorem own_rm8 (l : Launch) (Z : State) (a0 : Array Value) (hw : ∀ d ∈ tables_1, d.before a0 Z = true) (ws : List Jvm.Cond) (a1 : Addr) (cs : Int32) (h0 : Heap) (n0 : Nat) (Z0 : n0 ≤ h0.size) (CS : Sta Z h0 "java/lang/String" "COMPACT_STRINGS" "Z" (.int cs)) (hcs : ¬ cs = 0) (Fc : Fld Z h0 a1 "java/lang/String" "coder" "B" (.int (0 : Int32))) :
    MetFree l (⟨"java/lang/String", "coder", "()B"⟩ : MethodName) (head1 (Jvm.Cond.code (⟨"java/lang/String", "coder", "()B"⟩ : MethodName) jdk_42_method_152_code 1 (some .byte) :: ws) ({ frames := 0, cells := 0, slots := 0, locals := 0 } : Room)) (fun a U => a = #[(.ref a1)] ∧ Z.Warmed39 U.vm ∧ U.heap = h0) (fun _ _ _ _ _ => True) (fun _ U o U' => ∃ v L, o = .returned v ∧ own_rm8_Q Z a1 cs h0 n0 v U'.heap L ∧ FrameEnd U o U' L ({ frames := 0, cells := 0, slots := 0, locals := 0 } : Room).cells ({ frames := 0, cells := 0, slots := 0, locals := 0 } : Room).slots) := by
  refine MetFree.of_bodySF (plainFor_of_name own_pn3) hisR ?_
  intro p e s m args below meth c s₁ Bd hml0 hP hK
  obtain ⟨rfl, hZ, hh⟩ := hP
  have hx := Bd.exec
  have hby := Bd.bytes
  have hml : c.maxLocals = 1 := hml0
  have hown : s.vm.findClass "java/lang/String" = some m.cls := findClass_of_methodNamed Bd.named
  have hnm := (name_of_methodNamed Bd.named Bd.method).1
  have hlk : meth.locks = false := BodyLoose.notSynchronized Bd
  have X0 : Stand p l e ({ frames := 0, cells := 0, slots := 0, locals := 0 } : Room) s m #[(.ref a1)] below meth c s₁ [] 0 0 := Stand.of_body Bd
  have e0 : s₁.heap = h0 := by rw [← hh, Bd.state]; rfl
  have N0 := Fr.nil n0
  have K0 : Keep h0 h0 [] := Keep.refl h0 []
  show own_Fin p e below (own_P (own_rm8_Q Z a1 cs h0 n0) s ({ frames := 0, cells := 0, slots := 0, locals := 0 } : Room).cells ({ frames := 0, cells := 0, slots := 0, locals := 0 } : Room).slots) (s₁.setTop (entryFrame m #[(.ref a1)] 1))
  refine own_via (g' := s₁.setTop (mkF m 0 #[.val (.ref a1)] [])) (fun t k => castTop (ef_own_rm8 m a1) k) ?_
  obtain ⟨T1, X1, e1, st1⟩ := getS X0 hx hZ hown (host := "") (hw _ (List.mem_of_getElem? (i := 33) rfl)) Via.refl e0 CS (g := (mkF m 0 #[.val (.ref a1)] [])) rfl (hb hby own_d8_0)
  refine own_via (g' := T1.setTop (mkF m 3 #[.val (.ref a1)] [(.int cs)])) (fun t k => st1 _ k) ?_
  refine own_via (g' := T1.setTop (mkF m 6 #[.val (.ref a1)] [])) (fun t k => XS.ifNo X1.here hx rfl (hb hby own_d8_3) rfl (XT.i0_eq_f hcs) k) ?_
  refine own_via (g' := T1.setTop (mkF m 7 #[.val (.ref a1)] [(.ref a1)])) (fun t k => XS.aloadN X1.here hx rfl (hb hby own_d8_6) rfl (rfl) k) ?_
  obtain ⟨T2, X2, e2, st2⟩ := getF X1 hx hZ hown (host := "") (Or.inl (hw _ (List.mem_of_getElem? (i := 34) rfl))) Via.refl e1 Fc (g := (mkF m 7 #[.val (.ref a1)] [(.ref a1)])) rfl rfl (hb hby own_d8_7)
  refine own_via (g' := T2.setTop (mkF m 10 #[.val (.ref a1)] [(.int (0 : Int32))])) (fun t k => st2 _ k) ?_
  refine own_via (g' := T2.setTop (mkF m 14 #[.val (.ref a1)] [(.int (0 : Int32))])) (fun t k => XS.goto X2.here hx rfl (pc0 := 10) (pc' := 14) rfl (hb hby own_d8_10) (by decide) (by decide) k) ?_
  exact own_retB X2 hx hlk (t := .byte) Bd.returns (by simp) (hb hby own_d8_14) ⟨rfl, N0, e2⟩ (by decide) (by decide)
theorem own_d6_0 : decode jdk_42_method_154_code 0 = .ok (.getstatic 38, 3) := by decide +kernel
theorem own_d6_3 : decode jdk_42_method_154_code 3 = .ok (.ifCond .eq 14, 3) := by decide +kernel
theorem own_d6_6 : decode jdk_42_method_154_code 6 = .ok (.aload_n 0, 1) := by decide +kernel
theorem own_d6_7 : decode jdk_42_method_154_code 7 = .ok (.getfield 15, 3) := by decide +kernel
theorem own_d6_10 : decode jdk_42_method_154_code 10 = .ok (.ifCond .ne 7, 3) := by decide +kernel
theorem own_d6_13 : decode jdk_42_method_154_code 13 = .ok (.iconst 1, 1) := by decide +kernel
theorem own_d6_14 : decode jdk_42_method_154_code 14 = .ok (.goto 4, 3) := by decide +kernel
theorem own_d6_18 : decode jdk_42_method_154_code 18 = .ok (.ireturn, 1) := by decide +kernel
theorem ef_own_rm6 (m : MethodId) (a1 : Addr) : entryFrame m #[(.ref a1)] 1 = mkF m 0 #[.val (.ref a1)] [] := by first | (simp [entryFrame, mkF, argsToLocals, Value.category]; done) | rfl
def own_rm6_Q (Z : State) (a1 : Addr) (cs : Int32) (h0 : Heap) (n0 : Nat) (v : Option Value) (h : Heap) (L : List Loc) : Prop := v = some (.int ((1 : Int32))) ∧ Fr n0 L ∧ h = h0
set_option maxRecDepth 65536 in
set_option maxHeartbeats 40000000 in
theorem own_rm6 (l : Launch) (Z : State) (a0 : Array Value) (hw : ∀ d ∈ tables_1, d.before a0 Z = true) (ws : List Jvm.Cond) (a1 : Addr) (cs : Int32) (h0 : Heap) (n0 : Nat) (Z0 : n0 ≤ h0.size) (CS : Sta Z h0 "java/lang/String" "COMPACT_STRINGS" "Z" (.int cs)) (hcs : ¬ cs = 0) (Fc : Fld Z h0 a1 "java/lang/String" "coder" "B" (.int (0 : Int32))) :
    MetFree l (⟨"java/lang/String", "isLatin1", "()Z"⟩ : MethodName) (head1 (Jvm.Cond.code (⟨"java/lang/String", "isLatin1", "()Z"⟩ : MethodName) jdk_42_method_154_code 1 (some .boolean) :: ws) ({ frames := 0, cells := 0, slots := 0, locals := 0 } : Room)) (fun a U => a = #[(.ref a1)] ∧ Z.Warmed39 U.vm ∧ U.heap = h0) (fun _ _ _ _ _ => True) (fun _ U o U' => ∃ v L, o = .returned v ∧ own_rm6_Q Z a1 cs h0 n0 v U'.heap L ∧ FrameEnd U o U' L ({ frames := 0, cells := 0, slots := 0, locals := 0 } : Room).cells ({ frames := 0, cells := 0, slots := 0, locals := 0 } : Room).slots) := by
  refine MetFree.of_bodySF (plainFor_of_name own_pn3) hisR ?_
  intro p e s m args below meth c s₁ Bd hml0 hP hK
  obtain ⟨rfl, hZ, hh⟩ := hP
  have hx := Bd.exec
  have hby := Bd.bytes
  have hml : c.maxLocals = 1 := hml0
  have hown : s.vm.findClass "java/lang/String" = some m.cls := findClass_of_methodNamed Bd.named
  have hnm := (name_of_methodNamed Bd.named Bd.method).1
  have hlk : meth.locks = false := BodyLoose.notSynchronized Bd
  have X0 : Stand p l e ({ frames := 0, cells := 0, slots := 0, locals := 0 } : Room) s m #[(.ref a1)] below meth c s₁ [] 0 0 := Stand.of_body Bd
  have e0 : s₁.heap = h0 := by rw [← hh, Bd.state]; rfl
  have N0 := Fr.nil n0
  have K0 : Keep h0 h0 [] := Keep.refl h0 []
  show own_Fin p e below (own_P (own_rm6_Q Z a1 cs h0 n0) s ({ frames := 0, cells := 0, slots := 0, locals := 0 } : Room).cells ({ frames := 0, cells := 0, slots := 0, locals := 0 } : Room).slots) (s₁.setTop (entryFrame m #[(.ref a1)] 1))
  refine own_via (g' := s₁.setTop (mkF m 0 #[.val (.ref a1)] [])) (fun t k => castTop (ef_own_rm6 m a1) k) ?_
  obtain ⟨T1, X1, e1, st1⟩ := getS X0 hx hZ hown (host := "") (hw _ (List.mem_of_getElem? (i := 33) rfl)) Via.refl e0 CS (g := (mkF m 0 #[.val (.ref a1)] [])) rfl (hb hby own_d6_0)
  refine own_via (g' := T1.setTop (mkF m 3 #[.val (.ref a1)] [(.int cs)])) (fun t k => st1 _ k) ?_
  refine own_via (g' := T1.setTop (mkF m 6 #[.val (.ref a1)] [])) (fun t k => XS.ifNo X1.here hx rfl (hb hby own_d6_3) rfl (XT.i0_eq_f hcs) k) ?_
  refine own_via (g' := T1.setTop (mkF m 7 #[.val (.ref a1)] [(.ref a1)])) (fun t k => XS.aloadN X1.here hx rfl (hb hby own_d6_6) rfl (rfl) k) ?_
  obtain ⟨T2, X2, e2, st2⟩ := getF X1 hx hZ hown (host := "") (Or.inl (hw _ (List.mem_of_getElem? (i := 34) rfl))) Via.refl e1 Fc (g := (mkF m 7 #[.val (.ref a1)] [(.ref a1)])) rfl rfl (hb hby own_d6_7)
  refine own_via (g' := T2.setTop (mkF m 10 #[.val (.ref a1)] [(.int (0 : Int32))])) (fun t k => st2 _ k) ?_
  refine own_via (g' := T2.setTop (mkF m 13 #[.val (.ref a1)] [])) (fun t k => XS.ifNo X2.here hx rfl (hb hby own_d6_10) rfl (XT.i0_ne_f (by decide)) k) ?_
  refine own_via (g' := T2.setTop (mkF m 14 #[.val (.ref a1)] [(.int (1 : Int32))])) (fun t k => XS.iconst X2.here hx rfl (hb hby own_d6_13) k) ?_
  refine own_via (g' := T2.setTop (mkF m 18 #[.val (.ref a1)] [(.int (1 : Int32))])) (fun t k => XS.goto X2.here hx rfl (pc0 := 14) (pc' := 18) rfl (hb hby own_d6_14) (by decide) (by decide) k) ?_
  exact own_retB X2 hx hlk (t := .boolean) Bd.returns (by simp) (hb hby own_d6_18) ⟨rfl, N0, e2⟩ (by decide) (by decide)
theorem own_shr0 (x : Int32) : x >>> ((0 : Int32) &&& 31) = x := by
  apply Int32.toInt_inj.mp
  rw [c_ishr x 0 0 (by decide)]; simp

theorem own_pd0 : parseMethodDescriptor "()B" = some ⟨[], some .byte⟩ := by decide +kernel
theorem own_d7_0 : decode jdk_42_method_54_code 0 = .ok (.aload_n 0, 1) := by decide +kernel
theorem own_d7_1 : decode jdk_42_method_54_code 1 = .ok (.getfield 9, 3) := by decide +kernel
theorem own_d7_4 : decode jdk_42_method_54_code 4 = .ok (.arraylength, 1) := by decide +kernel
theorem own_d7_5 : decode jdk_42_method_54_code 5 = .ok (.aload_n 0, 1) := by decide +kernel
theorem own_d7_6 : decode jdk_42_method_54_code 6 = .ok (.invokevirtual 335, 3) := by decide +kernel
theorem own_d7_9 : decode jdk_42_method_54_code 9 = .ok (.ishr, 1) := by decide +kernel
theorem own_d7_10 : decode jdk_42_method_54_code 10 = .ok (.ireturn, 1) := by decide +kernel
theorem ef_own_rm7 (m : MethodId) (a1 : Addr) : entryFrame m #[(.ref a1)] 1 = mkF m 0 #[.val (.ref a1)] [] := by first | (simp [entryFrame, mkF, argsToLocals, Value.category]; done) | rfl
def own_rm7_Q (Z : State) (a1 : Addr) (cs : Int32) (b1 : Addr) (LL : List Value) (h0 : Heap) (n0 : Nat) (v : Option Value) (h : Heap) (L : List Loc) : Prop := v = some (.int (LL.length.toInt32)) ∧ Fr n0 L ∧ h = h0
set_option maxRecDepth 65536 in
set_option maxHeartbeats 40000000 in
theorem own_rm7 (l : Launch) (Z : State) (a0 : Array Value) (hw : ∀ d ∈ tables_1, d.before a0 Z = true) (ws : List Jvm.Cond) (a1 : Addr) (cs : Int32) (b1 : Addr) (LL : List Value) (h0 : Heap) (n0 : Nat) (Z0 : n0 ≤ h0.size) (CS : Sta Z h0 "java/lang/String" "COMPACT_STRINGS" "Z" (.int cs)) (hcs : ¬ cs = 0) (Fc : Fld Z h0 a1 "java/lang/String" "coder" "B" (.int (0 : Int32))) (Fv : Fld Z h0 a1 "java/lang/String" "value" "[B" (.ref b1)) (Ab : own_Ar Z h0 b1 .byte LL) (Es : Exa Z h0 a1 "java/lang/String") :
    MetFree l (⟨"java/lang/String", "length", "()I"⟩ : MethodName) (head1 (Jvm.Cond.code (⟨"java/lang/String", "length", "()I"⟩ : MethodName) jdk_42_method_54_code 1 (some .int) :: ws) ({ frames := 1, cells := 0, slots := 0, locals := 13 } : Room)) (fun a U => a = #[(.ref a1)] ∧ Z.Warmed39 U.vm ∧ U.heap = h0) (fun _ _ _ _ _ => True) (fun _ U o U' => ∃ v L, o = .returned v ∧ own_rm7_Q Z a1 cs b1 LL h0 n0 v U'.heap L ∧ FrameEnd U o U' L ({ frames := 1, cells := 0, slots := 0, locals := 13 } : Room).cells ({ frames := 1, cells := 0, slots := 0, locals := 13 } : Room).slots) := by
  refine MetFree.of_bodySF (plainFor_of_name own_pn3) hisR ?_
  intro p e s m args below meth c s₁ Bd hml0 hP hK
  obtain ⟨rfl, hZ, hh⟩ := hP
  have hx := Bd.exec
  have hby := Bd.bytes
  have hml : c.maxLocals = 1 := hml0
  have hown : s.vm.findClass "java/lang/String" = some m.cls := findClass_of_methodNamed Bd.named
  have hnm := (name_of_methodNamed Bd.named Bd.method).1
  have hlk : meth.locks = false := BodyLoose.notSynchronized Bd
  have X0 : Stand p l e ({ frames := 1, cells := 0, slots := 0, locals := 13 } : Room) s m #[(.ref a1)] below meth c s₁ [] 0 0 := Stand.of_body Bd
  have e0 : s₁.heap = h0 := by rw [← hh, Bd.state]; rfl
  have N0 := Fr.nil n0
  have K0 : Keep h0 h0 [] := Keep.refl h0 []
  show own_Fin p e below (own_P (own_rm7_Q Z a1 cs b1 LL h0 n0) s ({ frames := 1, cells := 0, slots := 0, locals := 13 } : Room).cells ({ frames := 1, cells := 0, slots := 0, locals := 13 } : Room).slots) (s₁.setTop (entryFrame m #[(.ref a1)] 1))
  refine own_via (g' := s₁.setTop (mkF m 0 #[.val (.ref a1)] [])) (fun t k => castTop (ef_own_rm7 m a1) k) ?_
  refine own_via (g' := s₁.setTop (mkF m 1 #[.val (.ref a1)] [(.ref a1)])) (fun t k => XS.aloadN X0.here hx rfl (hb hby own_d7_0) rfl (rfl) k) ?_
  obtain ⟨T1, X1, e1, st1⟩ := getF X0 hx hZ hown (host := "") (Or.inl (hw _ (List.mem_of_getElem? (i := 35) rfl))) Via.refl e0 Fv (g := (mkF m 1 #[.val (.ref a1)] [(.ref a1)])) rfl rfl (hb hby own_d7_1)
  refine own_via (g' := T1.setTop (mkF m 4 #[.val (.ref a1)] [(.ref b1)])) (fun t k => st1 _ k) ?_
  refine own_via (g' := T1.setTop (mkF m 5 #[.val (.ref a1)] [(.int LL.length.toInt32)])) (fun t k => own_len X1 hx hZ e1 Ab (n := LL.length.toInt32) rfl (g := (mkF m 4 #[.val (.ref a1)] [(.ref b1)])) rfl rfl (hb hby own_d7_4) _ k) ?_
  refine own_via (g' := T1.setTop (mkF m 6 #[.val (.ref a1)] [(.ref a1), (.int LL.length.toInt32)])) (fun t k => XS.aloadN X1.here hx rfl (hb hby own_d7_5) rfl (rfl) k) ?_
  obtain ⟨cq2, kq2, q2a, q2b, q2c⟩ := isOf hZ e1 Es
  obtain ⟨v2, _, ⟨T2, L2, k2, n2⟩, -, X2, ⟨Lc2, hQ2, l2, y2, z2⟩, st2⟩ := X1.virtualBack hx (y := (⟨"java/lang/String", "coder", "()B"⟩ : MethodName)) (z := (⟨"java/lang/String", "coder", "()B"⟩ : MethodName)) hown (mvT hZ (hw _ (List.mem_of_getElem? (i := 41) rfl))) (mvT hZ (hw _ (List.mem_of_getElem? (i := 42) rfl))) (notFace_of_selects (args := #[]) (mvT hZ (hw _ (List.mem_of_getElem? (i := 44) rfl)))) (mvT hZ (hw _ (List.mem_of_getElem? (i := 44) rfl))) (mvT hZ (hw _ (List.mem_of_getElem? (i := 43) rfl))) (by decide) (backOf (W := 1) (own_rm8 l Z a0 hw [] a1 cs h0 n0 (Nat.le_trans Z0 K0.1) CS hcs Fc) hZ (hw _ (List.mem_of_getElem? (i := 45) rfl)) (hw _ (List.mem_of_getElem? (i := 8) rfl)) (by decide) (by decide)) q2a q2c (g := (mkF m 6 #[.val (.ref a1)] [(.ref a1), (.int LL.length.toInt32)])) rfl (by rw [hml]; rfl) (Steps.refl _) (argsL := []) (rest := [(.int LL.length.toInt32)]) (lenOf own_pd0 rfl) rfl (by show 2 * 0 + _ ≤ _; exact Nat.le_of_eq rfl) (hb hby own_d7_6) (fun _ _ => ⟨rfl, e1, (by decide : 0 + 0 ≤ _), (by decide : 0 + 0 ≤ _)⟩)
  dsimp only [Pt.U, Pt.locs, Pt.cells, Pt.slots] at X2 l2 y2 z2 st2 hQ2
  subst l2 y2 z2
  obtain ⟨rfl, N2q, e2⟩ := hQ2
  have N2 := Fr.app N0 N2q
  refine own_via (g' := T2.setTop (mkF m 9 #[.val (.ref a1)] [(.int (0 : Int32)), (.int LL.length.toInt32)])) (fun t k => st2.trans k) ?_
  refine own_via (g' := T2.setTop (mkF m 10 #[.val (.ref a1)] [(.int (LL.length.toInt32 >>> ((0 : Int32) &&& 31)))])) (fun t k => XS.ishr X2.here hx rfl (hb hby own_d7_9) rfl k) ?_
  rw [own_shr0]
  exact own_retI X2 hx hlk Bd.returns (hb hby own_d7_10) ⟨rfl, N2, e2⟩ (by decide) (by decide)
theorem own_d13_0 : decode jdk_43_method_23_code 0 = .ok (.iload_n 1, 1) := by decide +kernel
theorem own_d13_1 : decode jdk_43_method_23_code 1 = .ok (.i2b, 1) := by decide +kernel
theorem own_d13_2 : decode jdk_43_method_23_code 2 = .ok (.istore 4, 2) := by decide +kernel
theorem own_d13_4 : decode jdk_43_method_23_code 4 = .ok (.iload_n 2, 1) := by decide +kernel
theorem own_d13_5 : decode jdk_43_method_23_code 5 = .ok (.istore 5, 2) := by decide +kernel
theorem own_d13_7 : decode jdk_43_method_23_code 7 = .ok (.iload 5, 2) := by decide +kernel
theorem own_d13_9 : decode jdk_43_method_23_code 9 = .ok (.iload_n 3, 1) := by decide +kernel
theorem own_d13_10 : decode jdk_43_method_23_code 10 = .ok (.if_icmp .ge 21, 3) := by decide +kernel
theorem own_d13_13 : decode jdk_43_method_23_code 13 = .ok (.aload_n 0, 1) := by decide +kernel
theorem own_d13_14 : decode jdk_43_method_23_code 14 = .ok (.iload 5, 2) := by decide +kernel
theorem own_d13_16 : decode jdk_43_method_23_code 16 = .ok (.baload, 1) := by decide +kernel
theorem own_d13_17 : decode jdk_43_method_23_code 17 = .ok (.iload 4, 2) := by decide +kernel
theorem own_d13_19 : decode jdk_43_method_23_code 19 = .ok (.if_icmp .ne 6, 3) := by decide +kernel
theorem own_d13_22 : decode jdk_43_method_23_code 22 = .ok (.iload 5, 2) := by decide +kernel
theorem own_d13_24 : decode jdk_43_method_23_code 24 = .ok (.ireturn, 1) := by decide +kernel
theorem own_d13_25 : decode jdk_43_method_23_code 25 = .ok (.iinc 5 1, 3) := by decide +kernel
theorem own_d13_28 : decode jdk_43_method_23_code 28 = .ok (.goto (-21), 3) := by decide +kernel
theorem own_d13_31 : decode jdk_43_method_23_code 31 = .ok (.iconst (-1), 1) := by decide +kernel
theorem own_d13_32 : decode jdk_43_method_23_code 32 = .ok (.ireturn, 1) := by decide +kernel
theorem ef_own_rm13 (m : MethodId) (a1 : Addr) (p1 : Int32) (p2 : Int32) (p3 : Int32) : entryFrame m #[(.ref a1), (.int p1), (.int p2), (.int p3)] 6 = mkF m 0 #[.val (.ref a1), .val (.int p1), .val (.int p2), .val (.int p3), .unset, .unset] [] := by first | (simp [entryFrame, mkF, argsToLocals, Value.category]; done) | rfl
def own_rm13_Q (Z : State) (a1 : Addr) (p1 : Int32) (p2 : Int32) (p3 : Int32) (BB : List Int32) (h0 : Heap) (n0 : Nat) (v : Option Value) (h : Heap) (L : List Loc) : Prop := v = some (.int (own_find BB p1.toInt8.toInt32 0)) ∧ Fr n0 L ∧ h = h0
set_option maxRecDepth 65536 in
set_option maxHeartbeats 40000000 in
theorem own_rm13 (l : Launch) (Z : State) (a0 : Array Value) (hw : ∀ d ∈ tables_1, d.before a0 Z = true) (ws : List Jvm.Cond) (a1 : Addr) (p1 : Int32) (p2 : Int32) (p3 : Int32) (BB : List Int32) (h0 : Heap) (n0 : Nat) (Z0 : n0 ≤ h0.size) (A_a1 : own_Ar Z h0 a1 .byte (BB.map Value.int)) (hp2 : p2 = 0) (hp3 : p3 = BB.length.toInt32) (hlB : BB.length < 2147483648) :
    MetFree l (⟨"java/lang/StringLatin1", "indexOfChar", "([BIII)I"⟩ : MethodName) (head1 (Jvm.Cond.code (⟨"java/lang/StringLatin1", "indexOfChar", "([BIII)I"⟩ : MethodName) jdk_43_method_23_code 6 (some .int) :: ws) ({ frames := 0, cells := 0, slots := 0, locals := 0 } : Room)) (fun a U => a = #[(.ref a1), (.int p1), (.int p2), (.int p3)] ∧ Z.Warmed39 U.vm ∧ U.heap = h0) (fun _ _ _ _ _ => True) (fun _ U o U' => ∃ v L, o = .returned v ∧ own_rm13_Q Z a1 p1 p2 p3 BB h0 n0 v U'.heap L ∧ FrameEnd U o U' L ({ frames := 0, cells := 0, slots := 0, locals := 0 } : Room).cells ({ frames := 0, cells := 0, slots := 0, locals := 0 } : Room).slots) := by
  refine MetFree.of_bodySF (plainFor_of_name own_pn2) hisR ?_
  intro p e s m args below meth c s₁ Bd hml0 hP hK
  obtain ⟨rfl, hZ, hh⟩ := hP
  have hx := Bd.exec
  have hby := Bd.bytes
  have hml : c.maxLocals = 6 := hml0
  have hown : s.vm.findClass "java/lang/StringLatin1" = some m.cls := findClass_of_methodNamed Bd.named
  have hnm := (name_of_methodNamed Bd.named Bd.method).1
  have hlk : meth.locks = false := BodyLoose.notSynchronized Bd
  have X0 : Stand p l e ({ frames := 0, cells := 0, slots := 0, locals := 0 } : Room) s m #[(.ref a1), (.int p1), (.int p2), (.int p3)] below meth c s₁ [] 0 0 := Stand.of_body Bd
  have e0 : s₁.heap = h0 := by rw [← hh, Bd.state]; rfl
  have N0 := Fr.nil n0
  have K0 : Keep h0 h0 [] := Keep.refl h0 []
  show own_Fin p e below (own_P (own_rm13_Q Z a1 p1 p2 p3 BB h0 n0) s ({ frames := 0, cells := 0, slots := 0, locals := 0 } : Room).cells ({ frames := 0, cells := 0, slots := 0, locals := 0 } : Room).slots) (s₁.setTop (entryFrame m #[(.ref a1), (.int p1), (.int p2), (.int p3)] 6))
  refine own_via (g' := s₁.setTop (mkF m 0 #[.val (.ref a1), .val (.int p1), .val (.int p2), .val (.int p3), .unset, .unset] [])) (fun t k => castTop (ef_own_rm13 m a1 p1 p2 p3) k) ?_
  subst hp2 hp3
  refine own_via (g' := s₁.setTop (mkF m 1 #[.val (.ref a1), .val (.int p1), .val (.int (0 : Int32)), .val (.int BB.length.toInt32), .unset, .unset] [(.int p1)])) (fun t k => XS.iloadN X0.here hx rfl (hb hby own_d13_0) rfl k) ?_
  refine own_via (g' := s₁.setTop (mkF m 2 #[.val (.ref a1), .val (.int p1), .val (.int (0 : Int32)), .val (.int BB.length.toInt32), .unset, .unset] [(.int (p1.toInt8.toInt32))])) (fun t k => XT.i2b X0.here hx rfl (hb hby own_d13_1) rfl k) ?_
  refine own_via (g' := s₁.setTop (mkF m 4 #[.val (.ref a1), .val (.int p1), .val (.int (0 : Int32)), .val (.int BB.length.toInt32), .val (.int (p1.toInt8.toInt32)), .unset] [])) (fun t k => XS.istore X0.here hx rfl (hb hby own_d13_2) rfl (l' := #[.val (.ref a1), .val (.int p1), .val (.int (0 : Int32)), .val (.int BB.length.toInt32), .val (.int (p1.toInt8.toInt32)), .unset]) rfl k) ?_
  refine own_via (g' := s₁.setTop (mkF m 5 #[.val (.ref a1), .val (.int p1), .val (.int (0 : Int32)), .val (.int BB.length.toInt32), .val (.int (p1.toInt8.toInt32)), .unset] [(.int (0 : Int32))])) (fun t k => XS.iloadN X0.here hx rfl (hb hby own_d13_4) rfl k) ?_
  refine own_via (g' := s₁.setTop (mkF m 7 #[.val (.ref a1), .val (.int p1), .val (.int (0 : Int32)), .val (.int BB.length.toInt32), .val (.int (p1.toInt8.toInt32)), .val (.int (0 : Int32))] [])) (fun t k => XS.istore X0.here hx rfl (hb hby own_d13_5) rfl (l' := #[.val (.ref a1), .val (.int p1), .val (.int (0 : Int32)), .val (.int BB.length.toInt32), .val (.int (p1.toInt8.toInt32)), .val (.int (0 : Int32))]) rfl k) ?_
  have LOOP : ∀ (k i : Nat), BB.length - i < k → i ≤ BB.length → own_find (BB.drop i) p1.toInt8.toInt32 i.toInt32 = own_find BB p1.toInt8.toInt32 0 → own_Fin p e below (own_P (own_rm13_Q Z a1 p1 (0 : Int32) (BB.length.toInt32) BB h0 n0) s ({ frames := 0, cells := 0, slots := 0, locals := 0 } : Room).cells ({ frames := 0, cells := 0, slots := 0, locals := 0 } : Room).slots) (s₁.setTop (mkF m 7 #[.val (.ref a1), .val (.int p1), .val (.int (0 : Int32)), .val (.int BB.length.toInt32), .val (.int (p1.toInt8.toInt32)), .val (.int i.toInt32)] [])) := by
    intro k
    induction k with
    | zero => intro i hk; exact absurd hk (Nat.not_lt_zero _)
    | succ k ih =>
      intro i hk hi hinv
      refine own_via (g' := s₁.setTop (mkF m 9 #[.val (.ref a1), .val (.int p1), .val (.int (0 : Int32)), .val (.int BB.length.toInt32), .val (.int (p1.toInt8.toInt32)), .val (.int i.toInt32)] [(.int i.toInt32)])) (fun t k => XS.iload X0.here hx rfl (hb hby own_d13_7) rfl k) ?_
      refine own_via (g' := s₁.setTop (mkF m 10 #[.val (.ref a1), .val (.int p1), .val (.int (0 : Int32)), .val (.int BB.length.toInt32), .val (.int (p1.toInt8.toInt32)), .val (.int i.toInt32)] [(.int BB.length.toInt32), (.int i.toInt32)])) (fun t k => XS.iloadN X0.here hx rfl (hb hby own_d13_9) rfl k) ?_
      by_cases hc10_1 : i.toInt32 < BB.length.toInt32
      · refine own_via (g' := s₁.setTop (mkF m 13 #[.val (.ref a1), .val (.int p1), .val (.int (0 : Int32)), .val (.int BB.length.toInt32), .val (.int (p1.toInt8.toInt32)), .val (.int i.toInt32)] [])) (fun t k => XS.icmpNo X0.here hx rfl (hb hby own_d13_10) rfl (XT.ii_ge_f hc10_1) k) ?_
        have hiB : i < BB.length := (own_nlt hi hlB).mp hc10_1
        obtain ⟨x, hxd, hxg⟩ := own_splitI hiB
        refine own_via (g' := s₁.setTop (mkF m 14 #[.val (.ref a1), .val (.int p1), .val (.int (0 : Int32)), .val (.int BB.length.toInt32), .val (.int (p1.toInt8.toInt32)), .val (.int i.toInt32)] [(.ref a1)])) (fun t k => XS.aloadN X0.here hx rfl (hb hby own_d13_13) rfl (rfl) k) ?_
        refine own_via (g' := s₁.setTop (mkF m 16 #[.val (.ref a1), .val (.int p1), .val (.int (0 : Int32)), .val (.int BB.length.toInt32), .val (.int (p1.toInt8.toInt32)), .val (.int i.toInt32)] [(.int i.toInt32), (.ref a1)])) (fun t k => XS.iload X0.here hx rfl (hb hby own_d13_14) rfl k) ?_
        refine own_via (g' := s₁.setTop (mkF m 17 #[.val (.ref a1), .val (.int p1), .val (.int (0 : Int32)), .val (.int BB.length.toInt32), .val (.int (p1.toInt8.toInt32)), .val (.int i.toInt32)] [(.int x)])) (fun t k => own_ldB X0 hx hZ e0 A_a1 (j := i.toInt32) (v := (.int x)) (own_nn (by omega : i < 2147483648)) (by rw [own_ix (by omega : i < 2147483648)]; exact hxg) (g := (mkF m 16 #[.val (.ref a1), .val (.int p1), .val (.int (0 : Int32)), .val (.int BB.length.toInt32), .val (.int (p1.toInt8.toInt32)), .val (.int i.toInt32)] [(.int i.toInt32), (.ref a1)])) rfl rfl (hb hby own_d13_16) _ k) ?_
        refine own_via (g' := s₁.setTop (mkF m 19 #[.val (.ref a1), .val (.int p1), .val (.int (0 : Int32)), .val (.int BB.length.toInt32), .val (.int (p1.toInt8.toInt32)), .val (.int i.toInt32)] [(.int (p1.toInt8.toInt32)), (.int x)])) (fun t k => XS.iload X0.here hx rfl (hb hby own_d13_17) rfl k) ?_
        by_cases hc19_2 : x = (p1.toInt8.toInt32)
        · refine own_via (g' := s₁.setTop (mkF m 22 #[.val (.ref a1), .val (.int p1), .val (.int (0 : Int32)), .val (.int BB.length.toInt32), .val (.int (p1.toInt8.toInt32)), .val (.int i.toInt32)] [])) (fun t k => XS.icmpNo X0.here hx rfl (hb hby own_d13_19) rfl (XT.ii_ne_f hc19_2) k) ?_
          refine own_via (g' := s₁.setTop (mkF m 24 #[.val (.ref a1), .val (.int p1), .val (.int (0 : Int32)), .val (.int BB.length.toInt32), .val (.int (p1.toInt8.toInt32)), .val (.int i.toInt32)] [(.int i.toInt32)])) (fun t k => XS.iload X0.here hx rfl (hb hby own_d13_22) rfl k) ?_
          exact own_retI X0 hx hlk Bd.returns (hb hby own_d13_24) ⟨(by rw [← hinv, hxd, own_find, if_pos hc19_2]), N0, e0⟩ (by decide) (by decide)
        · refine own_via (g' := s₁.setTop (mkF m 25 #[.val (.ref a1), .val (.int p1), .val (.int (0 : Int32)), .val (.int BB.length.toInt32), .val (.int (p1.toInt8.toInt32)), .val (.int i.toInt32)] [])) (fun t k => XS.icmpYes X0.here hx rfl (pc0 := 19) (pc' := 25) rfl (hb hby own_d13_19) rfl (XT.ii_ne_t hc19_2) (by decide) (by decide) k) ?_
          refine own_via (g' := s₁.setTop (mkF m 28 #[.val (.ref a1), .val (.int p1), .val (.int (0 : Int32)), .val (.int BB.length.toInt32), .val (.int (p1.toInt8.toInt32)), .val (.int (i.toInt32 + (1 : Int32)))] [])) (fun t k => XS.iinc X0.here hx rfl (hb hby own_d13_25) rfl (l' := #[.val (.ref a1), .val (.int p1), .val (.int (0 : Int32)), .val (.int BB.length.toInt32), .val (.int (p1.toInt8.toInt32)), .val (.int (i.toInt32 + (1 : Int32)))]) rfl k) ?_
          refine own_via (g' := s₁.setTop (mkF m 7 #[.val (.ref a1), .val (.int p1), .val (.int (0 : Int32)), .val (.int BB.length.toInt32), .val (.int (p1.toInt8.toInt32)), .val (.int (i.toInt32 + (1 : Int32)))] [])) (fun t k => XS.goto X0.here hx rfl (pc0 := 28) (pc' := 7) rfl (hb hby own_d13_28) (by decide) (by decide) k) ?_
          rw [own_succ i]
          exact ih (i + 1) (by omega) (by omega) (by rw [hxd, own_find, if_neg hc19_2, own_succ] at hinv; exact hinv)
      · refine own_via (g' := s₁.setTop (mkF m 31 #[.val (.ref a1), .val (.int p1), .val (.int (0 : Int32)), .val (.int BB.length.toInt32), .val (.int (p1.toInt8.toInt32)), .val (.int i.toInt32)] [])) (fun t k => XS.icmpYes X0.here hx rfl (pc0 := 10) (pc' := 31) rfl (hb hby own_d13_10) rfl (XT.ii_ge_t hc10_1) (by decide) (by decide) k) ?_
        refine own_via (g' := s₁.setTop (mkF m 32 #[.val (.ref a1), .val (.int p1), .val (.int (0 : Int32)), .val (.int BB.length.toInt32), .val (.int (p1.toInt8.toInt32)), .val (.int i.toInt32)] [(.int (-1 : Int32))])) (fun t k => XS.iconst X0.here hx rfl (hb hby own_d13_31) k) ?_
        exact own_retI X0 hx hlk Bd.returns (hb hby own_d13_32) ⟨(by rw [← hinv, List.drop_eq_nil_of_le (Nat.le_of_not_lt (fun q => hc10_1 ((own_nlt hi hlB).mpr q)))]; rfl), N0, e0⟩ (by decide) (by decide)
  exact LOOP _ 0 (Nat.lt_succ_self _) (Nat.zero_le _) (by rw [List.drop_zero]; rfl)
theorem own_pd1 : parseMethodDescriptor "(I)Z" = some ⟨[.int], some .boolean⟩ := by decide +kernel
theorem own_pd2 : parseMethodDescriptor "(II)I" = some ⟨[.int, .int], some .int⟩ := by decide +kernel
theorem own_pd3 : parseMethodDescriptor "([BIII)I" = some ⟨[(.array .byte), .int, .int, .int], some .int⟩ := by decide +kernel
theorem own_d9_0 : decode jdk_43_method_22_code 0 = .ok (.iload_n 1, 1) := by decide +kernel
theorem own_d9_1 : decode jdk_43_method_22_code 1 = .ok (.invokestatic 88, 3) := by decide +kernel
theorem own_d9_4 : decode jdk_43_method_22_code 4 = .ok (.ifCond .ne 5, 3) := by decide +kernel
theorem own_d9_7 : decode jdk_43_method_22_code 7 = .ok (.iconst (-1), 1) := by decide +kernel
theorem own_d9_8 : decode jdk_43_method_22_code 8 = .ok (.ireturn, 1) := by decide +kernel
theorem own_d9_9 : decode jdk_43_method_22_code 9 = .ok (.iload_n 2, 1) := by decide +kernel
theorem own_d9_10 : decode jdk_43_method_22_code 10 = .ok (.iconst 0, 1) := by decide +kernel
theorem own_d9_11 : decode jdk_43_method_22_code 11 = .ok (.invokestatic 92, 3) := by decide +kernel
theorem own_d9_14 : decode jdk_43_method_22_code 14 = .ok (.istore_n 2, 1) := by decide +kernel
theorem own_d9_15 : decode jdk_43_method_22_code 15 = .ok (.iload_n 3, 1) := by decide +kernel
theorem own_d9_16 : decode jdk_43_method_22_code 16 = .ok (.aload_n 0, 1) := by decide +kernel
theorem own_d9_17 : decode jdk_43_method_22_code 17 = .ok (.arraylength, 1) := by decide +kernel
theorem own_d9_18 : decode jdk_43_method_22_code 18 = .ok (.invokestatic 38, 3) := by decide +kernel
theorem own_d9_21 : decode jdk_43_method_22_code 21 = .ok (.istore_n 3, 1) := by decide +kernel
theorem own_d9_22 : decode jdk_43_method_22_code 22 = .ok (.iload_n 2, 1) := by decide +kernel
theorem own_d9_23 : decode jdk_43_method_22_code 23 = .ok (.iload_n 3, 1) := by decide +kernel
theorem own_d9_24 : decode jdk_43_method_22_code 24 = .ok (.if_icmp .lt 5, 3) := by decide +kernel
theorem own_d9_29 : decode jdk_43_method_22_code 29 = .ok (.aload_n 0, 1) := by decide +kernel
theorem own_d9_30 : decode jdk_43_method_22_code 30 = .ok (.iload_n 1, 1) := by decide +kernel
theorem own_d9_31 : decode jdk_43_method_22_code 31 = .ok (.iload_n 2, 1) := by decide +kernel
theorem own_d9_32 : decode jdk_43_method_22_code 32 = .ok (.iload_n 3, 1) := by decide +kernel
theorem own_d9_33 : decode jdk_43_method_22_code 33 = .ok (.invokestatic 95, 3) := by decide +kernel
theorem own_d9_36 : decode jdk_43_method_22_code 36 = .ok (.ireturn, 1) := by decide +kernel
theorem ef_own_rm9 (m : MethodId) (a1 : Addr) (p1 : Int32) (p2 : Int32) (p3 : Int32) : entryFrame m #[(.ref a1), (.int p1), (.int p2), (.int p3)] 4 = mkF m 0 #[.val (.ref a1), .val (.int p1), .val (.int p2), .val (.int p3)] [] := by first | (simp [entryFrame, mkF, argsToLocals, Value.category]; done) | rfl
def own_rm9_Q (Z : State) (a1 : Addr) (p1 : Int32) (p2 : Int32) (p3 : Int32) (BB : List Int32) (h0 : Heap) (n0 : Nat) (v : Option Value) (h : Heap) (L : List Loc) : Prop := v = some (.int ((if own_can p1 = 0 then -1 else own_find BB p1.toInt8.toInt32 0))) ∧ Fr n0 L ∧ h = h0
set_option maxRecDepth 65536 in
set_option maxHeartbeats 40000000 in
theorem own_rm9 (l : Launch) (Z : State) (a0 : Array Value) (hw : ∀ d ∈ tables_1, d.before a0 Z = true) (ws : List Jvm.Cond) (a1 : Addr) (p1 : Int32) (p2 : Int32) (p3 : Int32) (BB : List Int32) (h0 : Heap) (n0 : Nat) (Z0 : n0 ≤ h0.size) (A_a1 : own_Ar Z h0 a1 .byte (BB.map Value.int)) (hp2 : p2 = 0) (hp3 : p3 = BB.length.toInt32) (hlB : BB.length < 2147483648) (hpos : 0 < BB.length) :
    MetFree l (⟨"java/lang/StringLatin1", "indexOf", "([BIII)I"⟩ : MethodName) (head1 (Jvm.Cond.code (⟨"java/lang/StringLatin1", "indexOf", "([BIII)I"⟩ : MethodName) jdk_43_method_22_code 4 (some .int) :: ws) ({ frames := 1, cells := 0, slots := 0, locals := 17 } : Room)) (fun a U => a = #[(.ref a1), (.int p1), (.int p2), (.int p3)] ∧ Z.Warmed39 U.vm ∧ U.heap = h0) (fun _ _ _ _ _ => True) (fun _ U o U' => ∃ v L, o = .returned v ∧ own_rm9_Q Z a1 p1 p2 p3 BB h0 n0 v U'.heap L ∧ FrameEnd U o U' L ({ frames := 1, cells := 0, slots := 0, locals := 17 } : Room).cells ({ frames := 1, cells := 0, slots := 0, locals := 17 } : Room).slots) := by
  refine MetFree.of_bodySF (plainFor_of_name own_pn2) hisR ?_
  intro p e s m args below meth c s₁ Bd hml0 hP hK
  obtain ⟨rfl, hZ, hh⟩ := hP
  have hx := Bd.exec
  have hby := Bd.bytes
  have hml : c.maxLocals = 4 := hml0
  have hown : s.vm.findClass "java/lang/StringLatin1" = some m.cls := findClass_of_methodNamed Bd.named
  have hnm := (name_of_methodNamed Bd.named Bd.method).1
  have hlk : meth.locks = false := BodyLoose.notSynchronized Bd
  have X0 : Stand p l e ({ frames := 1, cells := 0, slots := 0, locals := 17 } : Room) s m #[(.ref a1), (.int p1), (.int p2), (.int p3)] below meth c s₁ [] 0 0 := Stand.of_body Bd
  have e0 : s₁.heap = h0 := by rw [← hh, Bd.state]; rfl
  have N0 := Fr.nil n0
  have K0 : Keep h0 h0 [] := Keep.refl h0 []
  show own_Fin p e below (own_P (own_rm9_Q Z a1 p1 p2 p3 BB h0 n0) s ({ frames := 1, cells := 0, slots := 0, locals := 17 } : Room).cells ({ frames := 1, cells := 0, slots := 0, locals := 17 } : Room).slots) (s₁.setTop (entryFrame m #[(.ref a1), (.int p1), (.int p2), (.int p3)] 4))
  refine own_via (g' := s₁.setTop (mkF m 0 #[.val (.ref a1), .val (.int p1), .val (.int p2), .val (.int p3)] [])) (fun t k => castTop (ef_own_rm9 m a1 p1 p2 p3) k) ?_
  subst hp2 hp3
  refine own_via (g' := s₁.setTop (mkF m 1 #[.val (.ref a1), .val (.int p1), .val (.int (0 : Int32)), .val (.int BB.length.toInt32)] [(.int p1)])) (fun t k => XS.iloadN X0.here hx rfl (hb hby own_d9_0) rfl k) ?_
  obtain ⟨v1, _, ⟨T1, L1, k1, n1⟩, -, X1, ⟨Lc1, hQ1, l1, y1, z1⟩, st1⟩ := Jvm.LawKit.callS X0 hx (y := (⟨"java/lang/StringLatin1", "canEncode", "(I)Z"⟩ : MethodName)) hown (mvT hZ (hw _ (List.mem_of_getElem? (i := 50) rfl))) (mvT hZ (hw _ (List.mem_of_getElem? (i := 51) rfl))) (mvT hZ (hw _ (List.mem_of_getElem? (i := 48) rfl))) (mvT hZ (hw _ (List.mem_of_getElem? (i := 52) rfl))) (by decide) (backOf (W := 0) (own_rm10 l Z a0 hw [] p1 h0 n0 (Nat.le_trans Z0 K0.1) ) hZ (hw _ (List.mem_of_getElem? (i := 52) rfl)) (hw _ (List.mem_of_getElem? (i := 48) rfl)) (by decide) (by decide)) (g := (mkF m 1 #[.val (.ref a1), .val (.int p1), .val (.int (0 : Int32)), .val (.int BB.length.toInt32)] [(.int p1)])) rfl (by rw [hml]; rfl) (argsL := [(.int p1)]) (rest := []) (lenOf own_pd1 rfl) rfl (by show 2 * 0 + _ ≤ _; exact Nat.le_of_eq rfl) (hb hby own_d9_1) (fun _ _ => ⟨rfl, e0, (by decide : 0 + 0 ≤ _), (by decide : 0 + 0 ≤ _)⟩)
  dsimp only [Pt.U, Pt.locs, Pt.cells, Pt.slots] at X1 l1 y1 z1 st1 hQ1
  subst l1 y1 z1
  obtain ⟨rfl, N1q, e1⟩ := hQ1
  have N1 := Fr.app N0 N1q
  refine own_via (g' := T1.setTop (mkF m 4 #[.val (.ref a1), .val (.int p1), .val (.int (0 : Int32)), .val (.int BB.length.toInt32)] [(.int (own_can p1))])) (fun t k => st1 _ k) ?_
  by_cases hc4_2 : (own_can p1) = 0
  · refine own_via (g' := T1.setTop (mkF m 7 #[.val (.ref a1), .val (.int p1), .val (.int (0 : Int32)), .val (.int BB.length.toInt32)] [])) (fun t k => XS.ifNo X1.here hx rfl (hb hby own_d9_4) rfl (XT.i0_ne_f hc4_2) k) ?_
    refine own_via (g' := T1.setTop (mkF m 8 #[.val (.ref a1), .val (.int p1), .val (.int (0 : Int32)), .val (.int BB.length.toInt32)] [(.int (-1 : Int32))])) (fun t k => XS.iconst X1.here hx rfl (hb hby own_d9_7) k) ?_
    exact own_retI X1 hx hlk Bd.returns (hb hby own_d9_8) ⟨(by rw [if_pos hc4_2]), N1, e1⟩ (by decide) (by decide)
  · refine own_via (g' := T1.setTop (mkF m 9 #[.val (.ref a1), .val (.int p1), .val (.int (0 : Int32)), .val (.int BB.length.toInt32)] [])) (fun t k => XS.ifYes X1.here hx rfl (pc0 := 4) (pc' := 9) rfl (hb hby own_d9_4) rfl (XT.i0_ne_t hc4_2) (by decide) (by decide) k) ?_
    refine own_via (g' := T1.setTop (mkF m 10 #[.val (.ref a1), .val (.int p1), .val (.int (0 : Int32)), .val (.int BB.length.toInt32)] [(.int (0 : Int32))])) (fun t k => XS.iloadN X1.here hx rfl (hb hby own_d9_9) rfl k) ?_
    refine own_via (g' := T1.setTop (mkF m 11 #[.val (.ref a1), .val (.int p1), .val (.int (0 : Int32)), .val (.int BB.length.toInt32)] [(.int (0 : Int32)), (.int (0 : Int32))])) (fun t k => XS.iconst X1.here hx rfl (hb hby own_d9_10) k) ?_
    obtain ⟨v3, _, ⟨T3, L3, k3, n3⟩, -, X3, ⟨Lc3, hQ3, l3, y3, z3⟩, st3⟩ := Jvm.LawKit.callS X1 hx (y := (⟨"java/lang/Math", "max", "(II)I"⟩ : MethodName)) hown (mvT hZ (hw _ (List.mem_of_getElem? (i := 53) rfl))) (mvT hZ (hw _ (List.mem_of_getElem? (i := 54) rfl))) (mvT hZ (hw _ (List.mem_of_getElem? (i := 55) rfl))) (mvT hZ (hw _ (List.mem_of_getElem? (i := 56) rfl))) (by decide) (backOf (W := 0) (own_rm11 l Z a0 hw [] (0 : Int32) (0 : Int32) h0 n0 (Nat.le_trans Z0 K0.1) ) hZ (hw _ (List.mem_of_getElem? (i := 56) rfl)) (hw _ (List.mem_of_getElem? (i := 55) rfl)) (by decide) (by decide)) (g := (mkF m 11 #[.val (.ref a1), .val (.int p1), .val (.int (0 : Int32)), .val (.int BB.length.toInt32)] [(.int (0 : Int32)), (.int (0 : Int32))])) rfl (by rw [hml]; rfl) (argsL := [(.int (0 : Int32)), (.int (0 : Int32))]) (rest := []) (lenOf own_pd2 rfl) rfl (by show 2 * 0 + _ ≤ _; exact Nat.le_of_eq rfl) (hb hby own_d9_11) (fun _ _ => ⟨rfl, e1, (by decide : 0 + 0 ≤ _), (by decide : 0 + 0 ≤ _)⟩)
    dsimp only [Pt.U, Pt.locs, Pt.cells, Pt.slots] at X3 l3 y3 z3 st3 hQ3
    subst l3 y3 z3
    obtain ⟨rfl, N3q, e3⟩ := hQ3
    have N3 := Fr.app N1 N3q
    refine own_via (g' := T3.setTop (mkF m 14 #[.val (.ref a1), .val (.int p1), .val (.int (0 : Int32)), .val (.int BB.length.toInt32)] [(.int (own_max (0 : Int32) (0 : Int32)))])) (fun t k => st3 _ k) ?_
    rw [show own_max (0 : Int32) (0 : Int32) = (0 : Int32) from rfl]
    refine own_via (g' := T3.setTop (mkF m 15 #[.val (.ref a1), .val (.int p1), .val (.int (0 : Int32)), .val (.int BB.length.toInt32)] [])) (fun t k => XS.istoreN X3.here hx rfl (hb hby own_d9_14) rfl (l' := #[.val (.ref a1), .val (.int p1), .val (.int (0 : Int32)), .val (.int BB.length.toInt32)]) rfl k) ?_
    refine own_via (g' := T3.setTop (mkF m 16 #[.val (.ref a1), .val (.int p1), .val (.int (0 : Int32)), .val (.int BB.length.toInt32)] [(.int BB.length.toInt32)])) (fun t k => XS.iloadN X3.here hx rfl (hb hby own_d9_15) rfl k) ?_
    refine own_via (g' := T3.setTop (mkF m 17 #[.val (.ref a1), .val (.int p1), .val (.int (0 : Int32)), .val (.int BB.length.toInt32)] [(.ref a1), (.int BB.length.toInt32)])) (fun t k => XS.aloadN X3.here hx rfl (hb hby own_d9_16) rfl (rfl) k) ?_
    refine own_via (g' := T3.setTop (mkF m 18 #[.val (.ref a1), .val (.int p1), .val (.int (0 : Int32)), .val (.int BB.length.toInt32)] [(.int BB.length.toInt32), (.int BB.length.toInt32)])) (fun t k => own_len X3 hx hZ e3 A_a1 (n := BB.length.toInt32) (by rw [List.length_map]) (g := (mkF m 17 #[.val (.ref a1), .val (.int p1), .val (.int (0 : Int32)), .val (.int BB.length.toInt32)] [(.ref a1), (.int BB.length.toInt32)])) rfl rfl (hb hby own_d9_17) _ k) ?_
    obtain ⟨v4, _, ⟨T4, L4, k4, n4⟩, -, X4, ⟨Lc4, hQ4, l4, y4, z4⟩, st4⟩ := Jvm.LawKit.callS X3 hx (y := (⟨"java/lang/Math", "min", "(II)I"⟩ : MethodName)) hown (mvT hZ (hw _ (List.mem_of_getElem? (i := 57) rfl))) (mvT hZ (hw _ (List.mem_of_getElem? (i := 58) rfl))) (mvT hZ (hw _ (List.mem_of_getElem? (i := 55) rfl))) (mvT hZ (hw _ (List.mem_of_getElem? (i := 59) rfl))) (by decide) (backOf (W := 0) (own_rm12 l Z a0 hw [] BB.length.toInt32 BB.length.toInt32 h0 n0 (Nat.le_trans Z0 K0.1) ) hZ (hw _ (List.mem_of_getElem? (i := 59) rfl)) (hw _ (List.mem_of_getElem? (i := 55) rfl)) (by decide) (by decide)) (g := (mkF m 18 #[.val (.ref a1), .val (.int p1), .val (.int (0 : Int32)), .val (.int BB.length.toInt32)] [(.int BB.length.toInt32), (.int BB.length.toInt32)])) rfl (by rw [hml]; rfl) (argsL := [(.int BB.length.toInt32), (.int BB.length.toInt32)]) (rest := []) (lenOf own_pd2 rfl) rfl (by show 2 * 0 + _ ≤ _; exact Nat.le_of_eq rfl) (hb hby own_d9_18) (fun _ _ => ⟨rfl, e3, (by decide : 0 + 0 ≤ _), (by decide : 0 + 0 ≤ _)⟩)
    dsimp only [Pt.U, Pt.locs, Pt.cells, Pt.slots] at X4 l4 y4 z4 st4 hQ4
    subst l4 y4 z4
    obtain ⟨rfl, N4q, e4⟩ := hQ4
    have N4 := Fr.app N3 N4q
    refine own_via (g' := T4.setTop (mkF m 21 #[.val (.ref a1), .val (.int p1), .val (.int (0 : Int32)), .val (.int BB.length.toInt32)] [(.int (own_min BB.length.toInt32 BB.length.toInt32))])) (fun t k => st4 _ k) ?_
    rw [own_minn]
    refine own_via (g' := T4.setTop (mkF m 22 #[.val (.ref a1), .val (.int p1), .val (.int (0 : Int32)), .val (.int BB.length.toInt32)] [])) (fun t k => XS.istoreN X4.here hx rfl (hb hby own_d9_21) rfl (l' := #[.val (.ref a1), .val (.int p1), .val (.int (0 : Int32)), .val (.int BB.length.toInt32)]) rfl k) ?_
    refine own_via (g' := T4.setTop (mkF m 23 #[.val (.ref a1), .val (.int p1), .val (.int (0 : Int32)), .val (.int BB.length.toInt32)] [(.int (0 : Int32))])) (fun t k => XS.iloadN X4.here hx rfl (hb hby own_d9_22) rfl k) ?_
    refine own_via (g' := T4.setTop (mkF m 24 #[.val (.ref a1), .val (.int p1), .val (.int (0 : Int32)), .val (.int BB.length.toInt32)] [(.int BB.length.toInt32), (.int (0 : Int32))])) (fun t k => XS.iloadN X4.here hx rfl (hb hby own_d9_23) rfl k) ?_
    refine own_via (g' := T4.setTop (mkF m 29 #[.val (.ref a1), .val (.int p1), .val (.int (0 : Int32)), .val (.int BB.length.toInt32)] [])) (fun t k => XS.icmpYes X4.here hx rfl (pc0 := 24) (pc' := 29) rfl (hb hby own_d9_24) rfl (XT.ii_lt_t ((own_nlt (i := 0) (Nat.zero_le _) hlB).mpr hpos)) (by decide) (by decide) k) ?_
    refine own_via (g' := T4.setTop (mkF m 30 #[.val (.ref a1), .val (.int p1), .val (.int (0 : Int32)), .val (.int BB.length.toInt32)] [(.ref a1)])) (fun t k => XS.aloadN X4.here hx rfl (hb hby own_d9_29) rfl (rfl) k) ?_
    refine own_via (g' := T4.setTop (mkF m 31 #[.val (.ref a1), .val (.int p1), .val (.int (0 : Int32)), .val (.int BB.length.toInt32)] [(.int p1), (.ref a1)])) (fun t k => XS.iloadN X4.here hx rfl (hb hby own_d9_30) rfl k) ?_
    refine own_via (g' := T4.setTop (mkF m 32 #[.val (.ref a1), .val (.int p1), .val (.int (0 : Int32)), .val (.int BB.length.toInt32)] [(.int (0 : Int32)), (.int p1), (.ref a1)])) (fun t k => XS.iloadN X4.here hx rfl (hb hby own_d9_31) rfl k) ?_
    refine own_via (g' := T4.setTop (mkF m 33 #[.val (.ref a1), .val (.int p1), .val (.int (0 : Int32)), .val (.int BB.length.toInt32)] [(.int BB.length.toInt32), (.int (0 : Int32)), (.int p1), (.ref a1)])) (fun t k => XS.iloadN X4.here hx rfl (hb hby own_d9_32) rfl k) ?_
    obtain ⟨v5, _, ⟨T5, L5, k5, n5⟩, -, X5, ⟨Lc5, hQ5, l5, y5, z5⟩, st5⟩ := Jvm.LawKit.callS X4 hx (y := (⟨"java/lang/StringLatin1", "indexOfChar", "([BIII)I"⟩ : MethodName)) hown (mvT hZ (hw _ (List.mem_of_getElem? (i := 60) rfl))) (mvT hZ (hw _ (List.mem_of_getElem? (i := 61) rfl))) (mvT hZ (hw _ (List.mem_of_getElem? (i := 48) rfl))) (mvT hZ (hw _ (List.mem_of_getElem? (i := 62) rfl))) (by decide) (backOf (W := 0) (own_rm13 l Z a0 hw [] a1 p1 (0 : Int32) BB.length.toInt32 BB h0 n0 (Nat.le_trans Z0 K0.1) A_a1 rfl rfl hlB) hZ (hw _ (List.mem_of_getElem? (i := 62) rfl)) (hw _ (List.mem_of_getElem? (i := 48) rfl)) (by decide) (by decide)) (g := (mkF m 33 #[.val (.ref a1), .val (.int p1), .val (.int (0 : Int32)), .val (.int BB.length.toInt32)] [(.int BB.length.toInt32), (.int (0 : Int32)), (.int p1), (.ref a1)])) rfl (by rw [hml]; rfl) (argsL := [(.ref a1), (.int p1), (.int (0 : Int32)), (.int BB.length.toInt32)]) (rest := []) (lenOf own_pd3 rfl) rfl (by show 2 * 0 + _ ≤ _; exact Nat.le_of_eq rfl) (hb hby own_d9_33) (fun _ _ => ⟨rfl, e4, (by decide : 0 + 0 ≤ _), (by decide : 0 + 0 ≤ _)⟩)
    dsimp only [Pt.U, Pt.locs, Pt.cells, Pt.slots] at X5 l5 y5 z5 st5 hQ5
    subst l5 y5 z5
    obtain ⟨rfl, N5q, e5⟩ := hQ5
    have N5 := Fr.app N4 N5q
    refine own_via (g' := T5.setTop (mkF m 36 #[.val (.ref a1), .val (.int p1), .val (.int (0 : Int32)), .val (.int BB.length.toInt32)] [(.int (own_find BB p1.toInt8.toInt32 0))])) (fun t k => st5 _ k) ?_
    exact own_retI X5 hx hlk Bd.returns (hb hby own_d9_36) ⟨(by rw [if_neg hc4_2]), N5, e5⟩ (by decide) (by decide)
theorem own_pd4 : parseMethodDescriptor "()Z" = some ⟨[], some .boolean⟩ := by decide +kernel
theorem own_pd5 : parseMethodDescriptor "()I" = some ⟨[], some .int⟩ := by decide +kernel
theorem own_d5_0 : decode jdk_42_method_80_code 0 = .ok (.aload_n 0, 1) := by decide +kernel
theorem own_d5_1 : decode jdk_42_method_80_code 1 = .ok (.invokevirtual 492, 3) := by decide +kernel
theorem own_d5_4 : decode jdk_42_method_80_code 4 = .ok (.ifCond .eq 19, 3) := by decide +kernel
theorem own_d5_7 : decode jdk_42_method_80_code 7 = .ok (.aload_n 0, 1) := by decide +kernel
theorem own_d5_8 : decode jdk_42_method_80_code 8 = .ok (.getfield 9, 3) := by decide +kernel
theorem own_d5_11 : decode jdk_42_method_80_code 11 = .ok (.iload_n 1, 1) := by decide +kernel
theorem own_d5_12 : decode jdk_42_method_80_code 12 = .ok (.iload_n 2, 1) := by decide +kernel
theorem own_d5_13 : decode jdk_42_method_80_code 13 = .ok (.aload_n 0, 1) := by decide +kernel
theorem own_d5_14 : decode jdk_42_method_80_code 14 = .ok (.invokevirtual 505, 3) := by decide +kernel
theorem own_d5_17 : decode jdk_42_method_80_code 17 = .ok (.invokestatic 637, 3) := by decide +kernel
theorem own_d5_20 : decode jdk_42_method_80_code 20 = .ok (.goto 16, 3) := by decide +kernel
theorem own_d5_36 : decode jdk_42_method_80_code 36 = .ok (.ireturn, 1) := by decide +kernel
theorem ef_own_rm5 (m : MethodId) (a1 : Addr) (p1 : Int32) (p2 : Int32) : entryFrame m #[(.ref a1), (.int p1), (.int p2)] 3 = mkF m 0 #[.val (.ref a1), .val (.int p1), .val (.int p2)] [] := by first | (simp [entryFrame, mkF, argsToLocals, Value.category]; done) | rfl
def own_rm5_Q (Z : State) (a1 : Addr) (p1 : Int32) (p2 : Int32) (cs : Int32) (b1 : Addr) (BB : List Int32) (h0 : Heap) (n0 : Nat) (v : Option Value) (h : Heap) (L : List Loc) : Prop := v = some (.int ((if own_can p1 = 0 then -1 else own_find BB p1.toInt8.toInt32 0))) ∧ Fr n0 L ∧ h = h0
set_option maxRecDepth 65536 in
set_option maxHeartbeats 40000000 in
theorem own_rm5 (l : Launch) (Z : State) (a0 : Array Value) (hw : ∀ d ∈ tables_1, d.before a0 Z = true) (ws : List Jvm.Cond) (a1 : Addr) (p1 : Int32) (p2 : Int32) (cs : Int32) (b1 : Addr) (BB : List Int32) (h0 : Heap) (n0 : Nat) (Z0 : n0 ≤ h0.size) (CS : Sta Z h0 "java/lang/String" "COMPACT_STRINGS" "Z" (.int cs)) (hcs : ¬ cs = 0) (Fc : Fld Z h0 a1 "java/lang/String" "coder" "B" (.int (0 : Int32))) (Fv : Fld Z h0 a1 "java/lang/String" "value" "[B" (.ref b1)) (Ab : own_Ar Z h0 b1 .byte (BB.map Value.int)) (Es : Exa Z h0 a1 "java/lang/String") (hlB : BB.length < 2147483648) (hpos : 0 < BB.length) (hp2 : p2 = 0) :
    MetFree l (⟨"java/lang/String", "indexOf", "(II)I"⟩ : MethodName) (head1 (Jvm.Cond.code (⟨"java/lang/String", "indexOf", "(II)I"⟩ : MethodName) jdk_42_method_80_code 3 (some .int) :: ws) ({ frames := 2, cells := 0, slots := 0, locals := 32 } : Room)) (fun a U => a = #[(.ref a1), (.int p1), (.int p2)] ∧ Z.Warmed39 U.vm ∧ U.heap = h0) (fun _ _ _ _ _ => True) (fun _ U o U' => ∃ v L, o = .returned v ∧ own_rm5_Q Z a1 p1 p2 cs b1 BB h0 n0 v U'.heap L ∧ FrameEnd U o U' L ({ frames := 2, cells := 0, slots := 0, locals := 32 } : Room).cells ({ frames := 2, cells := 0, slots := 0, locals := 32 } : Room).slots) := by
  refine MetFree.of_bodySF (plainFor_of_name own_pn3) hisR ?_
  intro p e s m args below meth c s₁ Bd hml0 hP hK
  obtain ⟨rfl, hZ, hh⟩ := hP
  have hx := Bd.exec
  have hby := Bd.bytes
  have hml : c.maxLocals = 3 := hml0
  have hown : s.vm.findClass "java/lang/String" = some m.cls := findClass_of_methodNamed Bd.named
  have hnm := (name_of_methodNamed Bd.named Bd.method).1
  have hlk : meth.locks = false := BodyLoose.notSynchronized Bd
  have X0 : Stand p l e ({ frames := 2, cells := 0, slots := 0, locals := 32 } : Room) s m #[(.ref a1), (.int p1), (.int p2)] below meth c s₁ [] 0 0 := Stand.of_body Bd
  have e0 : s₁.heap = h0 := by rw [← hh, Bd.state]; rfl
  have N0 := Fr.nil n0
  have K0 : Keep h0 h0 [] := Keep.refl h0 []
  show own_Fin p e below (own_P (own_rm5_Q Z a1 p1 p2 cs b1 BB h0 n0) s ({ frames := 2, cells := 0, slots := 0, locals := 32 } : Room).cells ({ frames := 2, cells := 0, slots := 0, locals := 32 } : Room).slots) (s₁.setTop (entryFrame m #[(.ref a1), (.int p1), (.int p2)] 3))
  refine own_via (g' := s₁.setTop (mkF m 0 #[.val (.ref a1), .val (.int p1), .val (.int p2)] [])) (fun t k => castTop (ef_own_rm5 m a1 p1 p2) k) ?_
  subst hp2
  refine own_via (g' := s₁.setTop (mkF m 1 #[.val (.ref a1), .val (.int p1), .val (.int (0 : Int32))] [(.ref a1)])) (fun t k => XS.aloadN X0.here hx rfl (hb hby own_d5_0) rfl (rfl) k) ?_
  obtain ⟨cq1, kq1, q1a, q1b, q1c⟩ := isOf hZ e0 Es
  obtain ⟨v1, _, ⟨T1, L1, k1, n1⟩, -, X1, ⟨Lc1, hQ1, l1, y1, z1⟩, st1⟩ := X0.virtualBack hx (y := (⟨"java/lang/String", "isLatin1", "()Z"⟩ : MethodName)) (z := (⟨"java/lang/String", "isLatin1", "()Z"⟩ : MethodName)) hown (mvT hZ (hw _ (List.mem_of_getElem? (i := 28) rfl))) (mvT hZ (hw _ (List.mem_of_getElem? (i := 29) rfl))) (notFace_of_selects (args := #[]) (mvT hZ (hw _ (List.mem_of_getElem? (i := 31) rfl)))) (mvT hZ (hw _ (List.mem_of_getElem? (i := 31) rfl))) (mvT hZ (hw _ (List.mem_of_getElem? (i := 30) rfl))) (by decide) (backOf (W := 0) (own_rm6 l Z a0 hw [] a1 cs h0 n0 (Nat.le_trans Z0 K0.1) CS hcs Fc) hZ (hw _ (List.mem_of_getElem? (i := 32) rfl)) (hw _ (List.mem_of_getElem? (i := 8) rfl)) (by decide) (by decide)) q1a q1c (g := (mkF m 1 #[.val (.ref a1), .val (.int p1), .val (.int (0 : Int32))] [(.ref a1)])) rfl (by rw [hml]; rfl) (Steps.refl _) (argsL := []) (rest := []) (lenOf own_pd4 rfl) rfl (by show 2 * 0 + _ ≤ _; exact Nat.le_of_eq rfl) (hb hby own_d5_1) (fun _ _ => ⟨rfl, e0, (by decide : 0 + 0 ≤ _), (by decide : 0 + 0 ≤ _)⟩)
  dsimp only [Pt.U, Pt.locs, Pt.cells, Pt.slots] at X1 l1 y1 z1 st1 hQ1
  subst l1 y1 z1
  obtain ⟨rfl, N1q, e1⟩ := hQ1
  have N1 := Fr.app N0 N1q
  refine own_via (g' := T1.setTop (mkF m 4 #[.val (.ref a1), .val (.int p1), .val (.int (0 : Int32))] [(.int (1 : Int32))])) (fun t k => st1.trans k) ?_
  refine own_via (g' := T1.setTop (mkF m 7 #[.val (.ref a1), .val (.int p1), .val (.int (0 : Int32))] [])) (fun t k => XS.ifNo X1.here hx rfl (hb hby own_d5_4) rfl (XT.i0_eq_f (by decide)) k) ?_
  refine own_via (g' := T1.setTop (mkF m 8 #[.val (.ref a1), .val (.int p1), .val (.int (0 : Int32))] [(.ref a1)])) (fun t k => XS.aloadN X1.here hx rfl (hb hby own_d5_7) rfl (rfl) k) ?_
  obtain ⟨T2, X2, e2, st2⟩ := getF X1 hx hZ hown (host := "") (Or.inl (hw _ (List.mem_of_getElem? (i := 35) rfl))) Via.refl e1 Fv (g := (mkF m 8 #[.val (.ref a1), .val (.int p1), .val (.int (0 : Int32))] [(.ref a1)])) rfl rfl (hb hby own_d5_8)
  refine own_via (g' := T2.setTop (mkF m 11 #[.val (.ref a1), .val (.int p1), .val (.int (0 : Int32))] [(.ref b1)])) (fun t k => st2 _ k) ?_
  refine own_via (g' := T2.setTop (mkF m 12 #[.val (.ref a1), .val (.int p1), .val (.int (0 : Int32))] [(.int p1), (.ref b1)])) (fun t k => XS.iloadN X2.here hx rfl (hb hby own_d5_11) rfl k) ?_
  refine own_via (g' := T2.setTop (mkF m 13 #[.val (.ref a1), .val (.int p1), .val (.int (0 : Int32))] [(.int (0 : Int32)), (.int p1), (.ref b1)])) (fun t k => XS.iloadN X2.here hx rfl (hb hby own_d5_12) rfl k) ?_
  refine own_via (g' := T2.setTop (mkF m 14 #[.val (.ref a1), .val (.int p1), .val (.int (0 : Int32))] [(.ref a1), (.int (0 : Int32)), (.int p1), (.ref b1)])) (fun t k => XS.aloadN X2.here hx rfl (hb hby own_d5_13) rfl (rfl) k) ?_
  obtain ⟨cq3, kq3, q3a, q3b, q3c⟩ := isOf hZ e2 Es
  obtain ⟨v3, _, ⟨T3, L3, k3, n3⟩, -, X3, ⟨Lc3, hQ3, l3, y3, z3⟩, st3⟩ := X2.virtualBack hx (y := (⟨"java/lang/String", "length", "()I"⟩ : MethodName)) (z := (⟨"java/lang/String", "length", "()I"⟩ : MethodName)) hown (mvT hZ (hw _ (List.mem_of_getElem? (i := 36) rfl))) (mvT hZ (hw _ (List.mem_of_getElem? (i := 37) rfl))) (notFace_of_selects (args := #[]) (mvT hZ (hw _ (List.mem_of_getElem? (i := 39) rfl)))) (mvT hZ (hw _ (List.mem_of_getElem? (i := 39) rfl))) (mvT hZ (hw _ (List.mem_of_getElem? (i := 38) rfl))) (by decide) (backOf (W := 3) (own_rm7 l Z a0 hw [] a1 cs b1 (BB.map Value.int) h0 n0 (Nat.le_trans Z0 K0.1) CS hcs Fc Fv Ab Es) hZ (hw _ (List.mem_of_getElem? (i := 40) rfl)) (hw _ (List.mem_of_getElem? (i := 8) rfl)) (by decide) (by decide)) q3a q3c (g := (mkF m 14 #[.val (.ref a1), .val (.int p1), .val (.int (0 : Int32))] [(.ref a1), (.int (0 : Int32)), (.int p1), (.ref b1)])) rfl (by rw [hml]; rfl) (Steps.refl _) (argsL := []) (rest := [(.int (0 : Int32)), (.int p1), (.ref b1)]) (lenOf own_pd5 rfl) rfl (by show 2 * 0 + _ ≤ _; exact Nat.le_of_eq rfl) (hb hby own_d5_14) (fun _ _ => ⟨rfl, e2, (by decide : 0 + 0 ≤ _), (by decide : 0 + 0 ≤ _)⟩)
  dsimp only [Pt.U, Pt.locs, Pt.cells, Pt.slots] at X3 l3 y3 z3 st3 hQ3
  subst l3 y3 z3
  obtain ⟨rfl, N3q, e3⟩ := hQ3
  have N3 := Fr.app N1 N3q
  refine own_via (g' := T3.setTop (mkF m 17 #[.val (.ref a1), .val (.int p1), .val (.int (0 : Int32))] [(.int ((BB.map Value.int).length.toInt32)), (.int (0 : Int32)), (.int p1), (.ref b1)])) (fun t k => st3.trans k) ?_
  obtain ⟨v4, _, ⟨T4, L4, k4, n4⟩, -, X4, ⟨Lc4, hQ4, l4, y4, z4⟩, st4⟩ := Jvm.LawKit.callS X3 hx (y := (⟨"java/lang/StringLatin1", "indexOf", "([BIII)I"⟩ : MethodName)) hown (mvT hZ (hw _ (List.mem_of_getElem? (i := 46) rfl))) (mvT hZ (hw _ (List.mem_of_getElem? (i := 47) rfl))) (mvT hZ (hw _ (List.mem_of_getElem? (i := 48) rfl))) (mvT hZ (hw _ (List.mem_of_getElem? (i := 49) rfl))) (by decide) (backOf (W := 0) (own_rm9 l Z a0 hw [] b1 p1 (0 : Int32) ((BB.map Value.int).length.toInt32) BB h0 n0 (Nat.le_trans Z0 K0.1) Ab rfl (by rw [List.length_map]) hlB hpos) hZ (hw _ (List.mem_of_getElem? (i := 49) rfl)) (hw _ (List.mem_of_getElem? (i := 48) rfl)) (by decide) (by decide)) (g := (mkF m 17 #[.val (.ref a1), .val (.int p1), .val (.int (0 : Int32))] [(.int ((BB.map Value.int).length.toInt32)), (.int (0 : Int32)), (.int p1), (.ref b1)])) rfl (by rw [hml]; rfl) (argsL := [(.ref b1), (.int p1), (.int (0 : Int32)), (.int ((BB.map Value.int).length.toInt32))]) (rest := []) (lenOf own_pd3 rfl) rfl (by show 2 * 0 + _ ≤ _; exact Nat.le_of_eq rfl) (hb hby own_d5_17) (fun _ _ => ⟨rfl, e3, (by decide : 0 + 0 ≤ _), (by decide : 0 + 0 ≤ _)⟩)
  dsimp only [Pt.U, Pt.locs, Pt.cells, Pt.slots] at X4 l4 y4 z4 st4 hQ4
  subst l4 y4 z4
  obtain ⟨rfl, N4q, e4⟩ := hQ4
  have N4 := Fr.app N3 N4q
  refine own_via (g' := T4.setTop (mkF m 20 #[.val (.ref a1), .val (.int p1), .val (.int (0 : Int32))] [(.int (if own_can p1 = 0 then -1 else own_find BB p1.toInt8.toInt32 0))])) (fun t k => st4 _ k) ?_
  refine own_via (g' := T4.setTop (mkF m 36 #[.val (.ref a1), .val (.int p1), .val (.int (0 : Int32))] [(.int (if own_can p1 = 0 then -1 else own_find BB p1.toInt8.toInt32 0))])) (fun t k => XS.goto X4.here hx rfl (pc0 := 20) (pc' := 36) rfl (hb hby own_d5_20) (by decide) (by decide) k) ?_
  exact own_retI X4 hx hlk Bd.returns (hb hby own_d5_36) ⟨rfl, N4, e4⟩ (by decide) (by decide)
theorem own_d4_0 : decode jdk_42_method_79_code 0 = .ok (.aload_n 0, 1) := by decide +kernel
theorem own_d4_1 : decode jdk_42_method_79_code 1 = .ok (.iload_n 1, 1) := by decide +kernel
theorem own_d4_2 : decode jdk_42_method_79_code 2 = .ok (.iconst 0, 1) := by decide +kernel
theorem own_d4_3 : decode jdk_42_method_79_code 3 = .ok (.invokevirtual 633, 3) := by decide +kernel
theorem own_d4_6 : decode jdk_42_method_79_code 6 = .ok (.ireturn, 1) := by decide +kernel
theorem ef_own_rm4 (m : MethodId) (a1 : Addr) (p1 : Int32) : entryFrame m #[(.ref a1), (.int p1)] 2 = mkF m 0 #[.val (.ref a1), .val (.int p1)] [] := by first | (simp [entryFrame, mkF, argsToLocals, Value.category]; done) | rfl
def own_rm4_Q (Z : State) (a1 : Addr) (p1 : Int32) (cs : Int32) (b1 : Addr) (BB : List Int32) (h0 : Heap) (n0 : Nat) (v : Option Value) (h : Heap) (L : List Loc) : Prop := v = some (.int ((if own_can p1 = 0 then -1 else own_find BB p1.toInt8.toInt32 0))) ∧ Fr n0 L ∧ h = h0
set_option maxRecDepth 65536 in
set_option maxHeartbeats 40000000 in
theorem own_rm4 (l : Launch) (Z : State) (a0 : Array Value) (hw : ∀ d ∈ tables_1, d.before a0 Z = true) (ws : List Jvm.Cond) (a1 : Addr) (p1 : Int32) (cs : Int32) (b1 : Addr) (BB : List Int32) (h0 : Heap) (n0 : Nat) (Z0 : n0 ≤ h0.size) (CS : Sta Z h0 "java/lang/String" "COMPACT_STRINGS" "Z" (.int cs)) (hcs : ¬ cs = 0) (Fc : Fld Z h0 a1 "java/lang/String" "coder" "B" (.int (0 : Int32))) (Fv : Fld Z h0 a1 "java/lang/String" "value" "[B" (.ref b1)) (Ab : own_Ar Z h0 b1 .byte (BB.map Value.int)) (Es : Exa Z h0 a1 "java/lang/String") (hlB : BB.length < 2147483648) (hpos : 0 < BB.length) :
    MetFree l (⟨"java/lang/String", "indexOf", "(I)I"⟩ : MethodName) (head1 (Jvm.Cond.code (⟨"java/lang/String", "indexOf", "(I)I"⟩ : MethodName) jdk_42_method_79_code 2 (some .int) :: ws) ({ frames := 3, cells := 0, slots := 0, locals := 46 } : Room)) (fun a U => a = #[(.ref a1), (.int p1)] ∧ Z.Warmed39 U.vm ∧ U.heap = h0) (fun _ _ _ _ _ => True) (fun _ U o U' => ∃ v L, o = .returned v ∧ own_rm4_Q Z a1 p1 cs b1 BB h0 n0 v U'.heap L ∧ FrameEnd U o U' L ({ frames := 3, cells := 0, slots := 0, locals := 46 } : Room).cells ({ frames := 3, cells := 0, slots := 0, locals := 46 } : Room).slots) := by
  refine MetFree.of_bodySF (plainFor_of_name own_pn3) hisR ?_
  intro p e s m args below meth c s₁ Bd hml0 hP hK
  obtain ⟨rfl, hZ, hh⟩ := hP
  have hx := Bd.exec
  have hby := Bd.bytes
  have hml : c.maxLocals = 2 := hml0
  have hown : s.vm.findClass "java/lang/String" = some m.cls := findClass_of_methodNamed Bd.named
  have hnm := (name_of_methodNamed Bd.named Bd.method).1
  have hlk : meth.locks = false := BodyLoose.notSynchronized Bd
  have X0 : Stand p l e ({ frames := 3, cells := 0, slots := 0, locals := 46 } : Room) s m #[(.ref a1), (.int p1)] below meth c s₁ [] 0 0 := Stand.of_body Bd
  have e0 : s₁.heap = h0 := by rw [← hh, Bd.state]; rfl
  have N0 := Fr.nil n0
  have K0 : Keep h0 h0 [] := Keep.refl h0 []
  show own_Fin p e below (own_P (own_rm4_Q Z a1 p1 cs b1 BB h0 n0) s ({ frames := 3, cells := 0, slots := 0, locals := 46 } : Room).cells ({ frames := 3, cells := 0, slots := 0, locals := 46 } : Room).slots) (s₁.setTop (entryFrame m #[(.ref a1), (.int p1)] 2))
  refine own_via (g' := s₁.setTop (mkF m 0 #[.val (.ref a1), .val (.int p1)] [])) (fun t k => castTop (ef_own_rm4 m a1 p1) k) ?_
  refine own_via (g' := s₁.setTop (mkF m 1 #[.val (.ref a1), .val (.int p1)] [(.ref a1)])) (fun t k => XS.aloadN X0.here hx rfl (hb hby own_d4_0) rfl (rfl) k) ?_
  refine own_via (g' := s₁.setTop (mkF m 2 #[.val (.ref a1), .val (.int p1)] [(.int p1), (.ref a1)])) (fun t k => XS.iloadN X0.here hx rfl (hb hby own_d4_1) rfl k) ?_
  refine own_via (g' := s₁.setTop (mkF m 3 #[.val (.ref a1), .val (.int p1)] [(.int (0 : Int32)), (.int p1), (.ref a1)])) (fun t k => XS.iconst X0.here hx rfl (hb hby own_d4_2) k) ?_
  obtain ⟨cq1, kq1, q1a, q1b, q1c⟩ := isOf hZ e0 Es
  obtain ⟨v1, _, ⟨T1, L1, k1, n1⟩, -, X1, ⟨Lc1, hQ1, l1, y1, z1⟩, st1⟩ := X0.virtualBack hx (y := (⟨"java/lang/String", "indexOf", "(II)I"⟩ : MethodName)) (z := (⟨"java/lang/String", "indexOf", "(II)I"⟩ : MethodName)) hown (mvT hZ (hw _ (List.mem_of_getElem? (i := 23) rfl))) (mvT hZ (hw _ (List.mem_of_getElem? (i := 24) rfl))) (notFace_of_selects (args := #[]) (mvT hZ (hw _ (List.mem_of_getElem? (i := 26) rfl)))) (mvT hZ (hw _ (List.mem_of_getElem? (i := 26) rfl))) (mvT hZ (hw _ (List.mem_of_getElem? (i := 25) rfl))) (by decide) (backOf (W := 0) (own_rm5 l Z a0 hw [] a1 p1 (0 : Int32) cs b1 BB h0 n0 (Nat.le_trans Z0 K0.1) CS hcs Fc Fv Ab Es hlB hpos rfl) hZ (hw _ (List.mem_of_getElem? (i := 27) rfl)) (hw _ (List.mem_of_getElem? (i := 8) rfl)) (by decide) (by decide)) q1a q1c (g := (mkF m 3 #[.val (.ref a1), .val (.int p1)] [(.int (0 : Int32)), (.int p1), (.ref a1)])) rfl (by rw [hml]; rfl) (Steps.refl _) (argsL := [(.int p1), (.int (0 : Int32))]) (rest := []) (lenOf own_pd2 rfl) rfl (by show 2 * 0 + _ ≤ _; exact Nat.le_of_eq rfl) (hb hby own_d4_3) (fun _ _ => ⟨rfl, e0, (by decide : 0 + 0 ≤ _), (by decide : 0 + 0 ≤ _)⟩)
  dsimp only [Pt.U, Pt.locs, Pt.cells, Pt.slots] at X1 l1 y1 z1 st1 hQ1
  subst l1 y1 z1
  obtain ⟨rfl, N1q, e1⟩ := hQ1
  have N1 := Fr.app N0 N1q
  refine own_via (g' := T1.setTop (mkF m 6 #[.val (.ref a1), .val (.int p1)] [(.int (if own_can p1 = 0 then -1 else own_find BB p1.toInt8.toInt32 0))])) (fun t k => st1.trans k) ?_
  exact own_retI X1 hx hlk Bd.returns (hb hby own_d4_6) ⟨rfl, N1, e1⟩ (by decide) (by decide)
theorem own_pd6 : parseMethodDescriptor "(I)I" = some ⟨[.int], some .int⟩ := by decide +kernel
theorem own_d3_0 : decode prog_33_method_6_code 0 = .ok (.iload_n 1, 1) := by decide +kernel
theorem own_d3_1 : decode prog_33_method_6_code 1 = .ok (.sipush 128, 3) := by decide +kernel
theorem own_d3_4 : decode prog_33_method_6_code 4 = .ok (.if_icmp .ge 15, 3) := by decide +kernel
theorem own_d3_7 : decode prog_33_method_6_code 7 = .ok (.aload_n 0, 1) := by decide +kernel
theorem own_d3_8 : decode prog_33_method_6_code 8 = .ok (.iload_n 1, 1) := by decide +kernel
theorem own_d3_9 : decode prog_33_method_6_code 9 = .ok (.invokevirtual 26, 3) := by decide +kernel
theorem own_d3_12 : decode prog_33_method_6_code 12 = .ok (.ifCond .lt 7, 3) := by decide +kernel
theorem own_d3_15 : decode prog_33_method_6_code 15 = .ok (.iconst 1, 1) := by decide +kernel
theorem own_d3_16 : decode prog_33_method_6_code 16 = .ok (.goto 4, 3) := by decide +kernel
theorem own_d3_19 : decode prog_33_method_6_code 19 = .ok (.iconst 0, 1) := by decide +kernel
theorem own_d3_20 : decode prog_33_method_6_code 20 = .ok (.ireturn, 1) := by decide +kernel
theorem ef_own_rm3 (m : MethodId) (a1 : Addr) (p1 : Int32) : entryFrame m #[(.ref a1), (.int p1)] 2 = mkF m 0 #[.val (.ref a1), .val (.int p1)] [] := by first | (simp [entryFrame, mkF, argsToLocals, Value.category]; done) | rfl
def own_rm3_Q (Z : State) (a1 : Addr) (p1 : Int32) (cs : Int32) (b1 : Addr) (BB : List Int32) (h0 : Heap) (n0 : Nat) (v : Option Value) (h : Heap) (L : List Loc) : Prop := v = some (.int ((if p1 < 128 then (if (if own_can p1 = 0 then -1 else own_find BB p1.toInt8.toInt32 0) < 0 then 0 else 1) else 0))) ∧ Fr n0 L ∧ h = h0
set_option maxRecDepth 65536 in
set_option maxHeartbeats 40000000 in
theorem own_rm3 (l : Launch) (Z : State) (a0 : Array Value) (hw : ∀ d ∈ tables_1, d.before a0 Z = true) (ws : List Jvm.Cond) (a1 : Addr) (p1 : Int32) (cs : Int32) (b1 : Addr) (BB : List Int32) (h0 : Heap) (n0 : Nat) (Z0 : n0 ≤ h0.size) (CS : Sta Z h0 "java/lang/String" "COMPACT_STRINGS" "Z" (.int cs)) (hcs : ¬ cs = 0) (Fc : Fld Z h0 a1 "java/lang/String" "coder" "B" (.int (0 : Int32))) (Fv : Fld Z h0 a1 "java/lang/String" "value" "[B" (.ref b1)) (Ab : own_Ar Z h0 b1 .byte (BB.map Value.int)) (Es : Exa Z h0 a1 "java/lang/String") (hlB : BB.length < 2147483648) (hpos : 0 < BB.length) :
    MetFree l (⟨"com/example/reuse_signals/reusesignals/signals/UriCharacters", "isSymbolIn", "(Ljava/lang/String;I)Z"⟩ : MethodName) (head1 (Jvm.Cond.code (⟨"com/example/reuse_signals/reusesignals/signals/UriCharacters", "isSymbolIn", "(Ljava/lang/String;I)Z"⟩ : MethodName) prog_33_method_6_code 2 (some .boolean) :: ws) ({ frames := 4, cells := 0, slots := 0, locals := 59 } : Room)) (fun a U => a = #[(.ref a1), (.int p1)] ∧ Z.Warmed39 U.vm ∧ U.heap = h0) (fun _ _ _ _ _ => True) (fun _ U o U' => ∃ v L, o = .returned v ∧ own_rm3_Q Z a1 p1 cs b1 BB h0 n0 v U'.heap L ∧ FrameEnd U o U' L ({ frames := 4, cells := 0, slots := 0, locals := 59 } : Room).cells ({ frames := 4, cells := 0, slots := 0, locals := 59 } : Room).slots) := by
  refine MetFree.of_bodySF (plainFor_of_name own_pn0) hisR ?_
  intro p e s m args below meth c s₁ Bd hml0 hP hK
  obtain ⟨rfl, hZ, hh⟩ := hP
  have hx := Bd.exec
  have hby := Bd.bytes
  have hml : c.maxLocals = 2 := hml0
  have hown : s.vm.findClass "com/example/reuse_signals/reusesignals/signals/UriCharacters" = some m.cls := findClass_of_methodNamed Bd.named
  have hnm := (name_of_methodNamed Bd.named Bd.method).1
  have hlk : meth.locks = false := BodyLoose.notSynchronized Bd
  have X0 : Stand p l e ({ frames := 4, cells := 0, slots := 0, locals := 59 } : Room) s m #[(.ref a1), (.int p1)] below meth c s₁ [] 0 0 := Stand.of_body Bd
  have e0 : s₁.heap = h0 := by rw [← hh, Bd.state]; rfl
  have N0 := Fr.nil n0
  have K0 : Keep h0 h0 [] := Keep.refl h0 []
  show own_Fin p e below (own_P (own_rm3_Q Z a1 p1 cs b1 BB h0 n0) s ({ frames := 4, cells := 0, slots := 0, locals := 59 } : Room).cells ({ frames := 4, cells := 0, slots := 0, locals := 59 } : Room).slots) (s₁.setTop (entryFrame m #[(.ref a1), (.int p1)] 2))
  refine own_via (g' := s₁.setTop (mkF m 0 #[.val (.ref a1), .val (.int p1)] [])) (fun t k => castTop (ef_own_rm3 m a1 p1) k) ?_
  refine own_via (g' := s₁.setTop (mkF m 1 #[.val (.ref a1), .val (.int p1)] [(.int p1)])) (fun t k => XS.iloadN X0.here hx rfl (hb hby own_d3_0) rfl k) ?_
  refine own_via (g' := s₁.setTop (mkF m 4 #[.val (.ref a1), .val (.int p1)] [(.int (128 : Int32)), (.int p1)])) (fun t k => XS.sipush X0.here hx rfl (hb hby own_d3_1) k) ?_
  by_cases hc4_1 : p1 < (128 : Int32)
  · refine own_via (g' := s₁.setTop (mkF m 7 #[.val (.ref a1), .val (.int p1)] [])) (fun t k => XS.icmpNo X0.here hx rfl (hb hby own_d3_4) rfl (XT.ii_ge_f hc4_1) k) ?_
    refine own_via (g' := s₁.setTop (mkF m 8 #[.val (.ref a1), .val (.int p1)] [(.ref a1)])) (fun t k => XS.aloadN X0.here hx rfl (hb hby own_d3_7) rfl (rfl) k) ?_
    refine own_via (g' := s₁.setTop (mkF m 9 #[.val (.ref a1), .val (.int p1)] [(.int p1), (.ref a1)])) (fun t k => XS.iloadN X0.here hx rfl (hb hby own_d3_8) rfl k) ?_
    obtain ⟨cq2, kq2, q2a, q2b, q2c⟩ := isOf hZ e0 Es
    obtain ⟨v2, _, ⟨T2, L2, k2, n2⟩, -, X2, ⟨Lc2, hQ2, l2, y2, z2⟩, st2⟩ := X0.virtualBack hx (y := (⟨"java/lang/String", "indexOf", "(I)I"⟩ : MethodName)) (z := (⟨"java/lang/String", "indexOf", "(I)I"⟩ : MethodName)) hown (mvT hZ (hw _ (List.mem_of_getElem? (i := 18) rfl))) (mvT hZ (hw _ (List.mem_of_getElem? (i := 19) rfl))) (notFace_of_selects (args := #[]) (mvT hZ (hw _ (List.mem_of_getElem? (i := 21) rfl)))) (mvT hZ (hw _ (List.mem_of_getElem? (i := 21) rfl))) (mvT hZ (hw _ (List.mem_of_getElem? (i := 20) rfl))) (by decide) (backOf (W := 0) (own_rm4 l Z a0 hw [] a1 p1 cs b1 BB h0 n0 (Nat.le_trans Z0 K0.1) CS hcs Fc Fv Ab Es hlB hpos) hZ (hw _ (List.mem_of_getElem? (i := 22) rfl)) (hw _ (List.mem_of_getElem? (i := 8) rfl)) (by decide) (by decide)) q2a q2c (g := (mkF m 9 #[.val (.ref a1), .val (.int p1)] [(.int p1), (.ref a1)])) rfl (by rw [hml]; rfl) (Steps.refl _) (argsL := [(.int p1)]) (rest := []) (lenOf own_pd6 rfl) rfl (by show 2 * 0 + _ ≤ _; exact Nat.le_of_eq rfl) (hb hby own_d3_9) (fun _ _ => ⟨rfl, e0, (by decide : 0 + 0 ≤ _), (by decide : 0 + 0 ≤ _)⟩)
    dsimp only [Pt.U, Pt.locs, Pt.cells, Pt.slots] at X2 l2 y2 z2 st2 hQ2
    subst l2 y2 z2
    obtain ⟨rfl, N2q, e2⟩ := hQ2
    have N2 := Fr.app N0 N2q
    refine own_via (g' := T2.setTop (mkF m 12 #[.val (.ref a1), .val (.int p1)] [(.int (if own_can p1 = 0 then -1 else own_find BB p1.toInt8.toInt32 0))])) (fun t k => st2.trans k) ?_
    by_cases hc12_3 : (if own_can p1 = 0 then -1 else own_find BB p1.toInt8.toInt32 0) < 0
    · refine own_via (g' := T2.setTop (mkF m 19 #[.val (.ref a1), .val (.int p1)] [])) (fun t k => XS.ifYes X2.here hx rfl (pc0 := 12) (pc' := 19) rfl (hb hby own_d3_12) rfl (XT.i0_lt_t hc12_3) (by decide) (by decide) k) ?_
      refine own_via (g' := T2.setTop (mkF m 20 #[.val (.ref a1), .val (.int p1)] [(.int (0 : Int32))])) (fun t k => XS.iconst X2.here hx rfl (hb hby own_d3_19) k) ?_
      exact own_retB X2 hx hlk (t := .boolean) Bd.returns (by simp) (hb hby own_d3_20) ⟨(by rw [show nar .boolean (0 : Int32) = (0 : Int32) from rfl]; simp only [if_pos hc4_1, if_pos hc12_3]), N2, e2⟩ (by decide) (by decide)
    · refine own_via (g' := T2.setTop (mkF m 15 #[.val (.ref a1), .val (.int p1)] [])) (fun t k => XS.ifNo X2.here hx rfl (hb hby own_d3_12) rfl (XT.i0_lt_f hc12_3) k) ?_
      refine own_via (g' := T2.setTop (mkF m 16 #[.val (.ref a1), .val (.int p1)] [(.int (1 : Int32))])) (fun t k => XS.iconst X2.here hx rfl (hb hby own_d3_15) k) ?_
      refine own_via (g' := T2.setTop (mkF m 20 #[.val (.ref a1), .val (.int p1)] [(.int (1 : Int32))])) (fun t k => XS.goto X2.here hx rfl (pc0 := 16) (pc' := 20) rfl (hb hby own_d3_16) (by decide) (by decide) k) ?_
      exact own_retB X2 hx hlk (t := .boolean) Bd.returns (by simp) (hb hby own_d3_20) ⟨(by rw [show nar .boolean (1 : Int32) = (1 : Int32) from rfl]; simp only [if_pos hc4_1, if_neg hc12_3]), N2, e2⟩ (by decide) (by decide)
  · refine own_via (g' := s₁.setTop (mkF m 19 #[.val (.ref a1), .val (.int p1)] [])) (fun t k => XS.icmpYes X0.here hx rfl (pc0 := 4) (pc' := 19) rfl (hb hby own_d3_4) rfl (XT.ii_ge_t hc4_1) (by decide) (by decide) k) ?_
    refine own_via (g' := s₁.setTop (mkF m 20 #[.val (.ref a1), .val (.int p1)] [(.int (0 : Int32))])) (fun t k => XS.iconst X0.here hx rfl (hb hby own_d3_19) k) ?_
    exact own_retB X0 hx hlk (t := .boolean) Bd.returns (by simp) (hb hby own_d3_20) ⟨(by rw [show nar .boolean (0 : Int32) = (0 : Int32) from rfl]; simp only [if_neg hc4_1]), N0, e0⟩ (by decide) (by decide)
theorem own_s_bit (p : Int32) : own_sym p = 0 ∨ own_sym p = 1 := by
  unfold own_sym; split
  · split
    · exact Or.inl rfl
    · exact Or.inr rfl
  · exact Or.inl rfl
theorem own_s0 {p : Int32} (h : (if p < 128 then (if (if own_can p = 0 then -1 else own_find own_bytes p.toInt8.toInt32 0) < 0 then (0 : Int32) else 1) else 0) = 0) : (0 : Int32) = own_sym p := h.symm
theorem own_s1 {p : Int32} (h : ¬ (if p < 128 then (if (if own_can p = 0 then -1 else own_find own_bytes p.toInt8.toInt32 0) < 0 then (0 : Int32) else 1) else 0) = 0) : (1 : Int32) = own_sym p := by
  rcases own_s_bit p with q | q
  · exact absurd q h
  · exact q.symm
theorem own_pd7 : parseMethodDescriptor "(Ljava/lang/String;I)Z" = some ⟨[(.object "java/lang/String"), .int], some .boolean⟩ := by decide +kernel
theorem own_d1_0 : decode prog_33_method_3_code 0 = .ok (.iload_n 0, 1) := by decide +kernel
theorem own_d1_1 : decode prog_33_method_3_code 1 = .ok (.invokestatic 9, 3) := by decide +kernel
theorem own_d1_4 : decode prog_33_method_3_code 4 = .ok (.ifCond .ne 12, 3) := by decide +kernel
theorem own_d1_7 : decode prog_33_method_3_code 7 = .ok (.ldc 19, 2) := by decide +kernel
theorem own_d1_9 : decode prog_33_method_3_code 9 = .ok (.iload_n 0, 1) := by decide +kernel
theorem own_d1_10 : decode prog_33_method_3_code 10 = .ok (.invokestatic 15, 3) := by decide +kernel
theorem own_d1_13 : decode prog_33_method_3_code 13 = .ok (.ifCond .eq 7, 3) := by decide +kernel
theorem own_d1_16 : decode prog_33_method_3_code 16 = .ok (.iconst 1, 1) := by decide +kernel
theorem own_d1_17 : decode prog_33_method_3_code 17 = .ok (.goto 4, 3) := by decide +kernel
theorem own_d1_20 : decode prog_33_method_3_code 20 = .ok (.iconst 0, 1) := by decide +kernel
theorem own_d1_21 : decode prog_33_method_3_code 21 = .ok (.ireturn, 1) := by decide +kernel
theorem ef_own_rm1 (m : MethodId) (p1 : Int32) : entryFrame m #[(.int p1)] 1 = mkF m 0 #[.val (.int p1)] [] := by first | (simp [entryFrame, mkF, argsToLocals, Value.category]; done) | rfl
def own_rm1_Q (Z : State) (p1 : Int32) (cs : Int32) (h0 : Heap) (n0 : Nat) (v : Option Value) (h : Heap) (L : List Loc) : Prop := v = some (.int (own_path p1)) ∧ Fr n0 L ∧ Keep h0 h []
set_option maxRecDepth 65536 in
set_option maxHeartbeats 40000000 in
theorem own_rm1 (l : Launch) (Z : State) (a0 : Array Value) (hw : ∀ d ∈ tables_1, d.before a0 Z = true) (ws : List Jvm.Cond) (p1 : Int32) (cs : Int32) (h0 : Heap) (n0 : Nat) (Z0 : n0 ≤ h0.size) (CS : Sta Z h0 "java/lang/String" "COMPACT_STRINGS" "Z" (.int cs)) (hcs : ¬ cs = 0) :
    MetFree l (⟨"com/example/reuse_signals/reusesignals/signals/UriCharacters", "isPathOrQueryCharacter", "(I)Z"⟩ : MethodName) (head1 (Jvm.Cond.code (⟨"com/example/reuse_signals/reusesignals/signals/UriCharacters", "isPathOrQueryCharacter", "(I)Z"⟩ : MethodName) prog_33_method_3_code 1 (some .boolean) :: ws) ({ frames := 5, cells := 2, slots := 80, locals := 72 } : Room)) (fun a U => a = #[(.int p1)] ∧ Z.Warmed39 U.vm ∧ U.heap = h0 ∧ CHv Z own_EL U.vm h0 ∧ ∀ x ∈ ([] : List Addr), Safe Z own_EL U.vm h0 x) (fun _ _ _ _ _ => True) (fun _ U o U' => ∃ v L, o = .returned v ∧ own_rm1_Q Z p1 cs h0 n0 v U'.heap L ∧ CHr Z own_EL U.vm U.heap U'.vm U'.heap ∧ ReturnedEndW U o U' L ({ frames := 5, cells := 2, slots := 80, locals := 72 } : Room).cells ({ frames := 5, cells := 2, slots := 80, locals := 72 } : Room).slots) := by
  refine MetFree.of_bodySF (plainFor_of_name own_pn0) hisR ?_
  intro p e s m args below meth c s₁ Bd hml0 hP hK
  obtain ⟨rfl, hZ, hh, hCH0, hSf0⟩ := hP
  have hx := Bd.exec
  have hby := Bd.bytes
  have hml : c.maxLocals = 1 := hml0
  have hown : s.vm.findClass "com/example/reuse_signals/reusesignals/signals/UriCharacters" = some m.cls := findClass_of_methodNamed Bd.named
  have hnm := (name_of_methodNamed Bd.named Bd.method).1
  have hlk : meth.locks = false := BodyLoose.notSynchronized Bd
  have X0 : Stand p l e ({ frames := 5, cells := 2, slots := 80, locals := 72 } : Room) (s.setVm s.vm) m #[(.int p1)] below meth c s₁ [] 0 0 := Stand.of_body Bd
  have e0 : s₁.heap = h0 := by rw [← hh, Bd.state]; rfl
  have N0 := Fr.nil n0
  have K0 : Keep h0 h0 [] := Keep.refl h0 []
  show own_Fin p e below (own_PH Z (own_rm1_Q Z p1 cs h0 n0) s ({ frames := 5, cells := 2, slots := 80, locals := 72 } : Room).cells ({ frames := 5, cells := 2, slots := 80, locals := 72 } : Room).slots) (s₁.setTop (entryFrame m #[(.int p1)] 1))
  have hCR0 : CHr Z own_EL (s.setVm s.vm).vm h0 s.vm h0 := CHr.refl hCH0
  have hS0 : s.Since s.vm 0 := (State.WarmedH.refl s).since 0
  have hk0 : 0 ≤ h0.size := Nat.zero_le _
  have hZ : Z.Warmed39 (s.setVm s.vm).vm := hZ
  have hown : (s.setVm s.vm).vm.findClass "com/example/reuse_signals/reusesignals/signals/UriCharacters" = some m.cls := hown
  refine own_via (g' := s₁.setTop (mkF m 0 #[.val (.int p1)] [])) (fun t k => castTop (ef_own_rm1 m p1) k) ?_
  refine own_via (g' := s₁.setTop (mkF m 1 #[.val (.int p1)] [(.int p1)])) (fun t k => XS.iloadN X0.here hx rfl (hb hby own_d1_0) rfl k) ?_
  obtain ⟨v1, _, ⟨T1, L1, k1, n1⟩, -, X1, ⟨Lc1, hQ1, l1, y1, z1⟩, st1⟩ := Jvm.LawKit.callS X0 hx (y := (⟨"com/example/reuse_signals/reusesignals/signals/UriCharacters", "isAlphanumeric", "(I)Z"⟩ : MethodName)) hown (mvT hZ (hw _ (List.mem_of_getElem? (i := 4) rfl))) (mvT hZ (hw _ (List.mem_of_getElem? (i := 5) rfl))) (mvT hZ (hw _ (List.mem_of_getElem? (i := 2) rfl))) (mvT hZ (hw _ (List.mem_of_getElem? (i := 6) rfl))) (by decide) (backOf (W := 0) (own_rm2 l Z a0 hw [] p1 h0 n0 (Nat.le_trans Z0 K0.1) ) hZ (hw _ (List.mem_of_getElem? (i := 6) rfl)) (hw _ (List.mem_of_getElem? (i := 2) rfl)) (by decide) (by decide)) (g := (mkF m 1 #[.val (.int p1)] [(.int p1)])) rfl (by rw [hml]; rfl) (argsL := [(.int p1)]) (rest := []) (lenOf own_pd1 rfl) rfl (by show 2 * 0 + _ ≤ _; exact Nat.le_of_eq rfl) (hb hby own_d1_1) (fun _ _ => ⟨rfl, e0, (by decide : 0 + 0 ≤ _), (by decide : 0 + 0 ≤ _)⟩)
  dsimp only [Pt.U, Pt.locs, Pt.cells, Pt.slots] at X1 l1 y1 z1 st1 hQ1
  subst l1 y1 z1
  obtain ⟨rfl, N1q, e1⟩ := hQ1
  have N1 := Fr.app N0 N1q
  refine own_via (g' := T1.setTop (mkF m 4 #[.val (.int p1)] [(.int (own_alnum p1))])) (fun t k => st1 _ k) ?_
  by_cases hc4_2 : (own_alnum p1) = 0
  · refine own_via (g' := T1.setTop (mkF m 7 #[.val (.int p1)] [])) (fun t k => XS.ifNo X1.here hx rfl (hb hby own_d1_4) rfl (XT.i0_ne_f hc4_2) k) ?_
    obtain ⟨b3, T3, h3, kS3, d3, kc3, X3, e3, E3, hS3, hk3, hZ, hown, A3, Fc3, Fv3, Va3, -, -, cr3, -, sfx3, st3⟩ := ldcCH X1 hx hZ hown (hw _ (List.mem_of_getElem? (i := 7) rfl)) (own_wS hw) e1 hS0 hk0 (own_hEL hw) (List.mem_of_getElem? (i := 0) rfl) hCR0.1 (vs := [(.int (45 : Int32)), (.int (46 : Int32)), (.int (95 : Int32)), (.int (126 : Int32)), (.int (33 : Int32)), (.int (36 : Int32)), (.int (38 : Int32)), (.int (39 : Int32)), (.int (40 : Int32)), (.int (41 : Int32)), (.int (42 : Int32)), (.int (43 : Int32)), (.int (44 : Int32)), (.int (59 : Int32)), (.int (61 : Int32)), (.int (58 : Int32)), (.int (64 : Int32)), (.int (47 : Int32)), (.int (63 : Int32))]) (z := (19 : Int32)) ⟨by decide, by decide⟩ (by decide) (by decide) (g := (mkF m 7 #[.val (.int p1)] [])) rfl (hb hby own_d1_7) (n := 76) (by decide) (by decide) (by decide) (by decide)
    have hCR3 := hCR0.trans cr3
    have Kc3 : Keep h0 h3 [] := K0.ext E3
    have V3 : own_Ar Z h3 d3 .byte [(.int (45 : Int32)), (.int (46 : Int32)), (.int (95 : Int32)), (.int (126 : Int32)), (.int (33 : Int32)), (.int (36 : Int32)), (.int (38 : Int32)), (.int (39 : Int32)), (.int (40 : Int32)), (.int (41 : Int32)), (.int (42 : Int32)), (.int (43 : Int32)), (.int (44 : Int32)), (.int (59 : Int32)), (.int (61 : Int32)), (.int (58 : Int32)), (.int (64 : Int32)), (.int (47 : Int32)), (.int (63 : Int32))] := own_Ar.ofArv Va3 (by decide)
    refine own_via (g' := T3.setTop (mkF m 9 #[.val (.int p1)] [(.ref b3)])) (fun t k => st3 _ k) ?_
    have hlB : own_bytes.length < 2147483648 := by decide
    have hpos : 0 < own_bytes.length := by decide
    have VB : own_Ar Z h3 d3 .byte (own_bytes.map Value.int) := V3
    refine own_via (g' := T3.setTop (mkF m 10 #[.val (.int p1)] [(.int p1), (.ref b3)])) (fun t k => XS.iloadN X3.here hx rfl (hb hby own_d1_9) rfl k) ?_
    obtain ⟨v4, _, ⟨T4, L4, k4, n4⟩, -, X4, ⟨Lc4, hQ4, l4, y4, z4⟩, st4⟩ := Jvm.LawKit.callS X3 hx (y := (⟨"com/example/reuse_signals/reusesignals/signals/UriCharacters", "isSymbolIn", "(Ljava/lang/String;I)Z"⟩ : MethodName)) hown (mvT hZ (hw _ (List.mem_of_getElem? (i := 15) rfl))) (mvT hZ (hw _ (List.mem_of_getElem? (i := 16) rfl))) (mvT hZ (hw _ (List.mem_of_getElem? (i := 2) rfl))) (mvT hZ (hw _ (List.mem_of_getElem? (i := 17) rfl))) (by decide) (backOf (W := 0) (own_rm3 l Z a0 hw [] b3 p1 cs d3 own_bytes h3 n0 (Nat.le_trans Z0 Kc3.1) (own_sta_keep CS Kc3 (fun _ _ _ _ => nin0)) hcs Fc3 Fv3 VB A3 hlB hpos) hZ (hw _ (List.mem_of_getElem? (i := 17) rfl)) (hw _ (List.mem_of_getElem? (i := 2) rfl)) (by decide) (by decide)) (g := (mkF m 10 #[.val (.int p1)] [(.int p1), (.ref b3)])) rfl (by rw [hml]; rfl) (argsL := [(.ref b3), (.int p1)]) (rest := []) (lenOf own_pd7 rfl) rfl (by show 2 * 0 + _ ≤ _; exact Nat.le_of_eq rfl) (hb hby own_d1_10) (fun _ _ => ⟨rfl, e3, (by decide : 2 + 0 ≤ _), (by decide : 80 + 0 ≤ _)⟩)
    dsimp only [Pt.U, Pt.locs, Pt.cells, Pt.slots] at X4 l4 y4 z4 st4 hQ4
    subst l4 y4 z4
    obtain ⟨rfl, N4q, e4⟩ := hQ4
    have N4 := Fr.app N1 N4q
    refine own_via (g' := T4.setTop (mkF m 13 #[.val (.int p1)] [(.int ((if p1 < 128 then (if (if own_can p1 = 0 then -1 else own_find own_bytes p1.toInt8.toInt32 0) < 0 then 0 else 1) else 0)))])) (fun t k => st4 _ k) ?_
    by_cases hc13_5 : (((if p1 < 128 then (if (if own_can p1 = 0 then -1 else own_find own_bytes p1.toInt8.toInt32 0) < 0 then 0 else 1) else 0)) : Int32) = 0
    · refine own_via (g' := T4.setTop (mkF m 20 #[.val (.int p1)] [])) (fun t k => XS.ifYes X4.here hx rfl (pc0 := 13) (pc' := 20) rfl (hb hby own_d1_13) rfl (XT.i0_eq_t hc13_5) (by decide) (by decide) k) ?_
      refine own_via (g' := T4.setTop (mkF m 21 #[.val (.int p1)] [(.int (0 : Int32))])) (fun t k => XS.iconst X4.here hx rfl (hb hby own_d1_20) k) ?_
      have eE : T4.heap = h3 := e4
      exact own_retBH X4 hS3 (by rw [(e4 : T4.heap = h3)]; exact hk3) hx hlk (t := .boolean) Bd.returns (by simp) (hb hby own_d1_21) (hCR := (by rw [hh, (e4 : T4.heap = h3)]; exact hCR3.trans (CHv.at X4 hZ (own_hEL hw) hCR3.1))) ⟨(by rw [show nar .boolean (0 : Int32) = (0 : Int32) from rfl, own_path, if_pos hc4_2]; exact congrArg (fun z => some (Value.int z)) (own_s0 hc13_5)), N4, (by rw [eE]; exact Kc3)⟩ (by decide) (by decide)
    · refine own_via (g' := T4.setTop (mkF m 16 #[.val (.int p1)] [])) (fun t k => XS.ifNo X4.here hx rfl (hb hby own_d1_13) rfl (XT.i0_eq_f hc13_5) k) ?_
      refine own_via (g' := T4.setTop (mkF m 17 #[.val (.int p1)] [(.int (1 : Int32))])) (fun t k => XS.iconst X4.here hx rfl (hb hby own_d1_16) k) ?_
      refine own_via (g' := T4.setTop (mkF m 21 #[.val (.int p1)] [(.int (1 : Int32))])) (fun t k => XS.goto X4.here hx rfl (pc0 := 17) (pc' := 21) rfl (hb hby own_d1_17) (by decide) (by decide) k) ?_
      have eE : T4.heap = h3 := e4
      exact own_retBH X4 hS3 (by rw [(e4 : T4.heap = h3)]; exact hk3) hx hlk (t := .boolean) Bd.returns (by simp) (hb hby own_d1_21) (hCR := (by rw [hh, (e4 : T4.heap = h3)]; exact hCR3.trans (CHv.at X4 hZ (own_hEL hw) hCR3.1))) ⟨(by rw [show nar .boolean (1 : Int32) = (1 : Int32) from rfl, own_path, if_pos hc4_2]; exact congrArg (fun z => some (Value.int z)) (own_s1 hc13_5)), N4, (by rw [eE]; exact Kc3)⟩ (by decide) (by decide)
  · refine own_via (g' := T1.setTop (mkF m 16 #[.val (.int p1)] [])) (fun t k => XS.ifYes X1.here hx rfl (pc0 := 4) (pc' := 16) rfl (hb hby own_d1_4) rfl (XT.i0_ne_t hc4_2) (by decide) (by decide) k) ?_
    refine own_via (g' := T1.setTop (mkF m 17 #[.val (.int p1)] [(.int (1 : Int32))])) (fun t k => XS.iconst X1.here hx rfl (hb hby own_d1_16) k) ?_
    refine own_via (g' := T1.setTop (mkF m 21 #[.val (.int p1)] [(.int (1 : Int32))])) (fun t k => XS.goto X1.here hx rfl (pc0 := 17) (pc' := 21) rfl (hb hby own_d1_17) (by decide) (by decide) k) ?_
    have eE : T1.heap = h0 := e1
    exact own_retBH X1 hS0 (by rw [(e1 : T1.heap = h0)]; exact hk0) hx hlk (t := .boolean) Bd.returns (by simp) (hb hby own_d1_21) (hCR := (by rw [hh, (e1 : T1.heap = h0)]; exact hCR0.trans (CHv.at X1 hZ (own_hEL hw) hCR0.1))) ⟨(by rw [show nar .boolean (1 : Int32) = (1 : Int32) from rfl, own_path, if_neg hc4_2]), N1, (by rw [eE]; exact K0)⟩ (by decide) (by decide)
theorem ef_own_rm0 (m : MethodId) (i0 : Int32) (i1 : Int32) : entryFrame m #[(.int i0), (.int i1)] maxLocals = mkF m 0 #[.val (.int i0), .val (.int i1), .unset] [] := by first | (simp [entryFrame, mkF, argsToLocals, Value.category, maxLocals]; done) | rfl
def own_rm0_Q (Z : State) (i0 : Int32) (i1 : Int32) (cs : Int32) (h0 : Heap) (n0 : Nat) (v : Option Value) (h : Heap) (L : List Loc) : Prop := v = some (.int 1) ∧ Fr n0 L
set_option maxRecDepth 65536 in
set_option maxHeartbeats 40000000 in
theorem own_rm0 (l : Launch) (Z : State) (a0 : Array Value) (hw : ∀ d ∈ tables_1, d.before a0 Z = true) (ws : List Jvm.Cond) (i0 : Int32) (i1 : Int32) (cs : Int32) (h0 : Heap) (n0 : Nat) (Z0 : n0 ≤ h0.size) (CS : Sta Z h0 "java/lang/String" "COMPACT_STRINGS" "Z" (.int cs)) (hcs : ¬ cs = 0) :
    MetFree l x (head1 (Jvm.Cond.code x code maxLocals ret :: ws) room_1) (fun a U => a = #[(.int i0), (.int i1)] ∧ Z.Warmed39 U.vm ∧ U.heap = h0 ∧ CHv Z own_EL U.vm h0 ∧ ∀ x ∈ ([] : List Addr), Safe Z own_EL U.vm h0 x) (fun _ _ _ _ _ => True) (fun _ U o U' => ∃ v L, o = .returned v ∧ own_rm0_Q Z i0 i1 cs h0 n0 v U'.heap L ∧ CHr Z own_EL U.vm U.heap U'.vm U'.heap ∧ ReturnedEndW U o U' L room_1.cells room_1.slots) := by
  refine MetFree.of_bodySF (plainFor_of_name own_pn1) hisR ?_
  intro p e s m args below meth c s₁ Bd hml0 hP hK
  obtain ⟨rfl, hZ, hh, hCH0, hSf0⟩ := hP
  have hx := Bd.exec
  have hby := Bd.bytes
  have hml : c.maxLocals = 3 := hml0
  have hown : s.vm.findClass "com/example/reuse_signals/reusesignals/signals/UriCharactersIsPathOrQueryCharacterPinLaw" = some m.cls := findClass_of_methodNamed Bd.named
  have hnm := (name_of_methodNamed Bd.named Bd.method).1
  have hlk : meth.locks = false := BodyLoose.notSynchronized Bd
  have X0 : Stand p l e room_1 (s.setVm s.vm) m #[(.int i0), (.int i1)] below meth c s₁ [] 0 0 := Stand.of_body Bd
  have e0 : s₁.heap = h0 := by rw [← hh, Bd.state]; rfl
  have N0 := Fr.nil n0
  have K0 : Keep h0 h0 [] := Keep.refl h0 []
  show own_Fin p e below (own_PH Z (own_rm0_Q Z i0 i1 cs h0 n0) s room_1.cells room_1.slots) (s₁.setTop (entryFrame m #[(.int i0), (.int i1)] maxLocals))
  have hCR0 : CHr Z own_EL (s.setVm s.vm).vm h0 s.vm h0 := CHr.refl hCH0
  have hS0 : s.Since s.vm 0 := (State.WarmedH.refl s).since 0
  have hk0 : 0 ≤ h0.size := Nat.zero_le _
  have hZ : Z.Warmed39 (s.setVm s.vm).vm := hZ
  have hown : (s.setVm s.vm).vm.findClass "com/example/reuse_signals/reusesignals/signals/UriCharactersIsPathOrQueryCharacterPinLaw" = some m.cls := hown
  refine own_via (g' := s₁.setTop (mkF m 0 #[.val (.int i0), .val (.int i1), .unset] [])) (fun t k => castTop (ef_own_rm0 m i0 i1) k) ?_
  refine own_via (g' := s₁.setTop (mkF m 1 #[.val (.int i0), .val (.int i1), .unset] [(.int i1)])) (fun t k => XS.iloadN X0.here hx rfl (hb hby at_0) rfl k) ?_
  refine own_via (g' := s₁.setTop (mkF m 2 #[.val (.int i0), .val (.int i1), .unset] [(.int (1 : Int32)), (.int i1)])) (fun t k => XS.iconst X0.here hx rfl (hb hby at_1) k) ?_
  refine own_via (g' := s₁.setTop (mkF m 3 #[.val (.int i0), .val (.int i1), .unset] [(.int (i1 &&& (1 : Int32)))])) (fun t k => XS.iand X0.here hx rfl (hb hby at_2) rfl k) ?_
  by_cases hc3_1 : (i1 &&& (1 : Int32)) = 0
  · refine own_via (g' := s₁.setTop (mkF m 14 #[.val (.int i0), .val (.int i1), .unset] [])) (fun t k => XS.ifYes X0.here hx rfl (pc0 := 3) (pc' := 14) rfl (hb hby at_3) rfl (XT.i0_eq_t hc3_1) (by decide) (by decide) k) ?_
    refine own_via (g' := s₁.setTop (mkF m 15 #[.val (.int i0), .val (.int i1), .unset] [(.int i0)])) (fun t k => XS.iloadN X0.here hx rfl (hb hby at_14) rfl k) ?_
    refine own_via (g' := s₁.setTop (mkF m 16 #[.val (.int i0), .val (.int i1), .val (.int i0)] [])) (fun t k => XS.istoreN X0.here hx rfl (hb hby at_15) rfl (l' := #[.val (.int i0), .val (.int i1), .val (.int i0)]) rfl k) ?_
    refine own_via (g' := s₁.setTop (mkF m 17 #[.val (.int i0), .val (.int i1), .val (.int i0)] [(.int i0)])) (fun t k => XS.iloadN X0.here hx rfl (hb hby at_16) rfl k) ?_
    obtain ⟨v2, _, ⟨T2, L2, k2, n2⟩, -, X2, sS2, gS2, ⟨Lc2, hQ2, l2, y2, z2, cr2⟩, st2⟩ := callSS X0 hx (y := (⟨"com/example/reuse_signals/reusesignals/signals/UriCharacters", "isPathOrQueryCharacter", "(I)Z"⟩ : MethodName)) hown (mvT hZ (hw _ (List.mem_of_getElem? (i := 0) rfl))) (mvT hZ (hw _ (List.mem_of_getElem? (i := 1) rfl))) (mvT hZ (hw _ (List.mem_of_getElem? (i := 2) rfl))) (mvT hZ (hw _ (List.mem_of_getElem? (i := 3) rfl))) (by decide) (own_backH (W := 0) (own_rm1 l Z a0 hw [] i0 cs h0 n0 (Nat.le_trans Z0 K0.1) CS hcs) hZ (hw _ (List.mem_of_getElem? (i := 3) rfl)) (hw _ (List.mem_of_getElem? (i := 2) rfl)) (by decide) (by decide) (own_hEL hw) hCR0.1 all0) (g := (mkF m 17 #[.val (.int i0), .val (.int i1), .val (.int i0)] [(.int i0)])) rfl (by rw [hml]; rfl) (argsL := [(.int i0)]) (rest := []) (lenOf own_pd1 rfl) rfl (by show 2 * 0 + _ ≤ _; exact Nat.le_of_eq rfl) (hb hby at_17) (fun _ _ => ⟨rfl, e0, (by decide : 0 + 2 ≤ _), (by decide : 0 + 80 ≤ _)⟩)
    dsimp only [Pt.U, Pt.locs, Pt.cells, Pt.slots] at X2 l2 y2 z2 st2 hQ2 sS2 gS2 cr2
    subst l2 y2 z2
    obtain ⟨X2, hS2, hZ, hown⟩ := rebS hS0 (by rw [(e0 : s₁.heap = h0)]; exact hk0) X2 sS2 gS2 hZ hown
    have hCR2 := hCR0.trans cr2
    obtain ⟨rfl, N2q, K2⟩ := hQ2
    have Kc2 : Keep h0 T2.heap [] := K0.trans K2 all0
    have N2 := Fr.app N0 N2q
    refine own_via (g' := T2.setTop (mkF m 20 #[.val (.int i0), .val (.int i1), .val (.int i0)] [(.int (own_path i0))])) (fun t k => st2.trans k) ?_
    refine own_via (g' := T2.setTop (mkF m 21 #[.val (.int i0), .val (.int i1), .val (.int i0)] [(.int i0), (.int (own_path i0))])) (fun t k => XS.iloadN X2.here hx rfl (hb hby at_20) rfl k) ?_
    obtain ⟨v3, _, ⟨T3, L3, k3, n3⟩, -, X3, ⟨Lc3, hQ3, l3, y3, z3⟩, st3⟩ := Jvm.LawKit.callS X2 hx (y := (⟨"com/example/reuse_signals/reusesignals/signals/UriCharactersIsPathOrQueryCharacterPinLaw", "expected", "(I)Z"⟩ : MethodName)) hown (mvT hZ (hw _ (List.mem_of_getElem? (i := 63) rfl))) (mvT hZ (hw _ (List.mem_of_getElem? (i := 64) rfl))) (mvT hZ (hw _ (List.mem_of_getElem? (i := 65) rfl))) (mvT hZ (hw _ (List.mem_of_getElem? (i := 66) rfl))) (by decide) (backOf (W := 1) (own_rm14 l Z a0 hw [] i0 T2.heap n0 (Nat.le_trans Z0 Kc2.1) ) hZ (hw _ (List.mem_of_getElem? (i := 66) rfl)) (hw _ (List.mem_of_getElem? (i := 65) rfl)) (by decide) (by decide)) (g := (mkF m 21 #[.val (.int i0), .val (.int i1), .val (.int i0)] [(.int i0), (.int (own_path i0))])) rfl (by rw [hml]; rfl) (argsL := [(.int i0)]) (rest := [(.int (own_path i0))]) (lenOf own_pd1 rfl) rfl (by show 2 * 0 + _ ≤ _; exact Nat.le_of_eq rfl) (hb hby at_21) (fun _ _ => ⟨rfl, rfl, (by decide : 2 + 0 ≤ _), (by decide : 80 + 0 ≤ _)⟩)
    dsimp only [Pt.U, Pt.locs, Pt.cells, Pt.slots] at X3 l3 y3 z3 st3 hQ3
    subst l3 y3 z3
    obtain ⟨rfl, N3q, e3⟩ := hQ3
    have N3 := Fr.app N2 N3q
    refine own_via (g' := T3.setTop (mkF m 24 #[.val (.int i0), .val (.int i1), .val (.int i0)] [(.int (own_exp i0)), (.int (own_path i0))])) (fun t k => st3 _ k) ?_
    refine own_via (g' := T3.setTop (mkF m 27 #[.val (.int i0), .val (.int i1), .val (.int i0)] [])) (fun t k => XS.icmpNo X3.here hx rfl (hb hby at_24) rfl (XT.ii_ne_f (own_law _)) k) ?_
    refine own_via (g' := T3.setTop (mkF m 28 #[.val (.int i0), .val (.int i1), .val (.int i0)] [(.int (1 : Int32))])) (fun t k => XS.iconst X3.here hx rfl (hb hby at_27) k) ?_
    refine own_via (g' := T3.setTop (mkF m 32 #[.val (.int i0), .val (.int i1), .val (.int i0)] [(.int (1 : Int32))])) (fun t k => XS.goto X3.here hx rfl (pc0 := 28) (pc' := 32) rfl (hb hby at_28) (by decide) (by decide) k) ?_
    exact own_retBH X3 hS2 (by rw [(e3 : T3.heap = T2.heap)]; exact (Nat.le_of_eq (congrArg Array.size (rfl : T2.heap = T2.heap)))) hx hlk (t := .boolean) Bd.returns (by simp) (hb hby at_32) (hCR := (by rw [hh, (e3 : T3.heap = T2.heap)]; exact hCR2.trans (CHv.at X3 hZ (own_hEL hw) hCR2.1))) ⟨rfl, N3⟩ (by decide) (by decide)
  · refine own_via (g' := s₁.setTop (mkF m 6 #[.val (.int i0), .val (.int i1), .unset] [])) (fun t k => XS.ifNo X0.here hx rfl (hb hby at_3) rfl (XT.i0_eq_f hc3_1) k) ?_
    refine own_via (g' := s₁.setTop (mkF m 7 #[.val (.int i0), .val (.int i1), .unset] [(.int i0)])) (fun t k => XS.iloadN X0.here hx rfl (hb hby at_6) rfl k) ?_
    refine own_via (g' := s₁.setTop (mkF m 10 #[.val (.int i0), .val (.int i1), .unset] [(.int (255 : Int32)), (.int i0)])) (fun t k => XS.sipush X0.here hx rfl (hb hby at_7) k) ?_
    refine own_via (g' := s₁.setTop (mkF m 11 #[.val (.int i0), .val (.int i1), .unset] [(.int (i0 &&& (255 : Int32)))])) (fun t k => XS.iand X0.here hx rfl (hb hby at_10) rfl k) ?_
    refine own_via (g' := s₁.setTop (mkF m 15 #[.val (.int i0), .val (.int i1), .unset] [(.int (i0 &&& (255 : Int32)))])) (fun t k => XS.goto X0.here hx rfl (pc0 := 11) (pc' := 15) rfl (hb hby at_11) (by decide) (by decide) k) ?_
    refine own_via (g' := s₁.setTop (mkF m 16 #[.val (.int i0), .val (.int i1), .val (.int (i0 &&& (255 : Int32)))] [])) (fun t k => XS.istoreN X0.here hx rfl (hb hby at_15) rfl (l' := #[.val (.int i0), .val (.int i1), .val (.int (i0 &&& (255 : Int32)))]) rfl k) ?_
    refine own_via (g' := s₁.setTop (mkF m 17 #[.val (.int i0), .val (.int i1), .val (.int (i0 &&& (255 : Int32)))] [(.int (i0 &&& (255 : Int32)))])) (fun t k => XS.iloadN X0.here hx rfl (hb hby at_16) rfl k) ?_
    obtain ⟨v4, _, ⟨T4, L4, k4, n4⟩, -, X4, sS4, gS4, ⟨Lc4, hQ4, l4, y4, z4, cr4⟩, st4⟩ := callSS X0 hx (y := (⟨"com/example/reuse_signals/reusesignals/signals/UriCharacters", "isPathOrQueryCharacter", "(I)Z"⟩ : MethodName)) hown (mvT hZ (hw _ (List.mem_of_getElem? (i := 0) rfl))) (mvT hZ (hw _ (List.mem_of_getElem? (i := 1) rfl))) (mvT hZ (hw _ (List.mem_of_getElem? (i := 2) rfl))) (mvT hZ (hw _ (List.mem_of_getElem? (i := 3) rfl))) (by decide) (own_backH (W := 0) (own_rm1 l Z a0 hw [] (i0 &&& (255 : Int32)) cs h0 n0 (Nat.le_trans Z0 K0.1) CS hcs) hZ (hw _ (List.mem_of_getElem? (i := 3) rfl)) (hw _ (List.mem_of_getElem? (i := 2) rfl)) (by decide) (by decide) (own_hEL hw) hCR0.1 all0) (g := (mkF m 17 #[.val (.int i0), .val (.int i1), .val (.int (i0 &&& (255 : Int32)))] [(.int (i0 &&& (255 : Int32)))])) rfl (by rw [hml]; rfl) (argsL := [(.int (i0 &&& (255 : Int32)))]) (rest := []) (lenOf own_pd1 rfl) rfl (by show 2 * 0 + _ ≤ _; exact Nat.le_of_eq rfl) (hb hby at_17) (fun _ _ => ⟨rfl, e0, (by decide : 0 + 2 ≤ _), (by decide : 0 + 80 ≤ _)⟩)
    dsimp only [Pt.U, Pt.locs, Pt.cells, Pt.slots] at X4 l4 y4 z4 st4 hQ4 sS4 gS4 cr4
    subst l4 y4 z4
    obtain ⟨X4, hS4, hZ, hown⟩ := rebS hS0 (by rw [(e0 : s₁.heap = h0)]; exact hk0) X4 sS4 gS4 hZ hown
    have hCR4 := hCR0.trans cr4
    obtain ⟨rfl, N4q, K4⟩ := hQ4
    have Kc4 : Keep h0 T4.heap [] := K0.trans K4 all0
    have N4 := Fr.app N0 N4q
    refine own_via (g' := T4.setTop (mkF m 20 #[.val (.int i0), .val (.int i1), .val (.int (i0 &&& (255 : Int32)))] [(.int (own_path (i0 &&& (255 : Int32))))])) (fun t k => st4.trans k) ?_
    refine own_via (g' := T4.setTop (mkF m 21 #[.val (.int i0), .val (.int i1), .val (.int (i0 &&& (255 : Int32)))] [(.int (i0 &&& (255 : Int32))), (.int (own_path (i0 &&& (255 : Int32))))])) (fun t k => XS.iloadN X4.here hx rfl (hb hby at_20) rfl k) ?_
    obtain ⟨v5, _, ⟨T5, L5, k5, n5⟩, -, X5, ⟨Lc5, hQ5, l5, y5, z5⟩, st5⟩ := Jvm.LawKit.callS X4 hx (y := (⟨"com/example/reuse_signals/reusesignals/signals/UriCharactersIsPathOrQueryCharacterPinLaw", "expected", "(I)Z"⟩ : MethodName)) hown (mvT hZ (hw _ (List.mem_of_getElem? (i := 63) rfl))) (mvT hZ (hw _ (List.mem_of_getElem? (i := 64) rfl))) (mvT hZ (hw _ (List.mem_of_getElem? (i := 65) rfl))) (mvT hZ (hw _ (List.mem_of_getElem? (i := 66) rfl))) (by decide) (backOf (W := 1) (own_rm14 l Z a0 hw [] (i0 &&& (255 : Int32)) T4.heap n0 (Nat.le_trans Z0 Kc4.1) ) hZ (hw _ (List.mem_of_getElem? (i := 66) rfl)) (hw _ (List.mem_of_getElem? (i := 65) rfl)) (by decide) (by decide)) (g := (mkF m 21 #[.val (.int i0), .val (.int i1), .val (.int (i0 &&& (255 : Int32)))] [(.int (i0 &&& (255 : Int32))), (.int (own_path (i0 &&& (255 : Int32))))])) rfl (by rw [hml]; rfl) (argsL := [(.int (i0 &&& (255 : Int32)))]) (rest := [(.int (own_path (i0 &&& (255 : Int32))))]) (lenOf own_pd1 rfl) rfl (by show 2 * 0 + _ ≤ _; exact Nat.le_of_eq rfl) (hb hby at_21) (fun _ _ => ⟨rfl, rfl, (by decide : 2 + 0 ≤ _), (by decide : 80 + 0 ≤ _)⟩)
    dsimp only [Pt.U, Pt.locs, Pt.cells, Pt.slots] at X5 l5 y5 z5 st5 hQ5
    subst l5 y5 z5
    obtain ⟨rfl, N5q, e5⟩ := hQ5
    have N5 := Fr.app N4 N5q
    refine own_via (g' := T5.setTop (mkF m 24 #[.val (.int i0), .val (.int i1), .val (.int (i0 &&& (255 : Int32)))] [(.int (own_exp (i0 &&& (255 : Int32)))), (.int (own_path (i0 &&& (255 : Int32))))])) (fun t k => st5 _ k) ?_
    refine own_via (g' := T5.setTop (mkF m 27 #[.val (.int i0), .val (.int i1), .val (.int (i0 &&& (255 : Int32)))] [])) (fun t k => XS.icmpNo X5.here hx rfl (hb hby at_24) rfl (XT.ii_ne_f (own_law _)) k) ?_
    refine own_via (g' := T5.setTop (mkF m 28 #[.val (.int i0), .val (.int i1), .val (.int (i0 &&& (255 : Int32)))] [(.int (1 : Int32))])) (fun t k => XS.iconst X5.here hx rfl (hb hby at_27) k) ?_
    refine own_via (g' := T5.setTop (mkF m 32 #[.val (.int i0), .val (.int i1), .val (.int (i0 &&& (255 : Int32)))] [(.int (1 : Int32))])) (fun t k => XS.goto X5.here hx rfl (pc0 := 28) (pc' := 32) rfl (hb hby at_28) (by decide) (by decide) k) ?_
    exact own_retBH X5 hS4 (by rw [(e5 : T5.heap = T4.heap)]; exact (Nat.le_of_eq (congrArg Array.size (rfl : T4.heap = T4.heap)))) hx hlk (t := .boolean) Bd.returns (by simp) (hb hby at_32) (hCR := (by rw [hh, (e5 : T5.heap = T4.heap)]; exact hCR4.trans (CHv.at X5 hZ (own_hEL hw) hCR4.1))) ⟨rfl, N5⟩ (by decide) (by decide)
set_option maxRecDepth 65536 in
set_option maxHeartbeats 40000000 in
theorem comes_1 {Post : Tables → Env → Array Value → State → Outcome → State → Prop} (hpost : ∀ tb e args s v u, (limb_1_1.after args s (.returned v) u = true ∧ limb_1_2.after args s (.returned v) u = true ∧ True) → ReturnedEndW s (.returned v) u (Jvm.fieldLocs frame_1_writes args s ++ Jvm.arrayLocs frame_1_arrays args s ++ Jvm.staticLocs frame_1_statics s) 8 1088 → Post tb e args s (.returned v) u) :
    ArmFor flags0 classFile x code maxLocals ret World_1 tables_1 room_1 Calls_1 rest_1 Pre_1 Post := by
  intro l hfl _ _ p e ha hc hk s m args below hf hA hF happ hP
  obtain ⟨hcalls, hrest, hpre⟩ := hP
  obtain ⟨-, -, -, hnamed, -, -, -, hat⟩ := (Spec.applies_iff hf).mp happ
  obtain ⟨hg, hn⟩ := and_e (Cond.before_iff.mp (show (Jvm.Cond.and given_1 narrow_1).before args s = true from hpre))
  obtain ⟨g1, g2⟩ := and_e hg
  obtain ⟨g3, g4⟩ := and_e g2
  obtain ⟨w0, w1, rfl⟩ : ∃ w0 w1 : Value, args = #[w0, w1] := by
    have hs : args.size = 2 := by simpa [Cond.value, given_1] using g1
    obtain ⟨L⟩ := args
    match L, hs with
    | [w0, w1], _ => exact ⟨w0, w1, rfl⟩
  have hw := fun d (hd : d ∈ tables_1) => atoms_spec (ws := Jvm.Cond.code x code maxLocals ret :: tables_1) hat d (List.mem_cons_of_mem _ hd)
  have hfit : Fit s := fun {y c} hc i hi => by
    obtain ⟨ha, rfl⟩ := Array.getElem?_eq_some_iff.mp hc
    have q := List.all_eq_true.mp ((Array.all_eq_true_iff_forall_mem.mp hF) _ (Array.getElem_mem ha)) i (List.mem_range.mpr hi)
    simpa [Array.getElem?_eq_getElem hi] using q
  obtain ⟨hsets, hown0⟩ := atoms_of _ (rest_1_c_eq ▸ (show rest_1_c.before _ s = true from hrest))
  have hr0 := Cond.before_iff.mp hown0
  have hCH : CHv s own_EL s.vm s.heap := CHv.start (own_hEL hw) hcalls.1 (hsets _ (List.mem_of_getElem? (i := 2) rfl)) (hw _ (List.mem_of_getElem? (i := 10) rfl)) (hw _ (List.mem_of_getElem? (i := 9) rfl))
  obtain ⟨i0, ei0⟩ := is_v g3
  obtain rfl : w0 = (.int i0) := Option.some.inj ei0
  obtain ⟨i1, ei1⟩ := is_v g4
  obtain rfl : w1 = (.int i1) := Option.some.inj ei1
  obtain ⟨cs, ecs⟩ := is_v (Cond.before_iff.mp (hsets _ (List.mem_of_getElem? (i := 1) rfl)))
  have CS : Sta s s.heap "java/lang/String" "COMPACT_STRINGS" "Z" (.int cs) := Sta.start ecs (Or.inl (hsets _ (List.mem_of_getElem? (i := 0) rfl)))
  have hcs : ¬ cs = 0 := fun q => by
    have h0 := not_v (Cond.before_iff.mp (hsets _ (List.mem_of_getElem? (i := 2) rfl)))
    rw [Cond.eq_ints ecs (Term.int_eval 0), q] at h0
    exact absurd h0 (by decide)
  obtain ⟨n, o, h1, h2, h3, _, L, rfl, ⟨rfl, N⟩, -, hq⟩ := own_rm0 l s _ hw tables_1 i0 i1 cs s.heap s.heap.size (Nat.le_refl _) CS hcs p e ha hc hk s m _ below hf ((Spec.applies_iff_loose hf).mp happ).1 ⟨rfl, State.Warmed39.refl s, rfl, hCH, all0⟩ trivial
  refine ⟨n, _, h1, h2, h3, hpost _ _ _ _ _ _ ⟨Cond.after_iff.mpr rfl, Cond.after_iff.mpr (eq_i res_at (Term.int_eval (1)) rfl), trivial⟩ ⟨hq.1, hq.2.1, hq.2.2.1, (hq.2.2.2.sift fun y hy => Or.inr (N y hy)).mono (by decide) (by decide)⟩⟩
theorem main_1_1 : Claimed_1_1 := comes_1 fun _ _ _ _ _ _ h hF => ⟨h.1, hF⟩
theorem main_1_2 : Claimed_1_2 := comes_1 fun _ _ _ _ _ _ h hF => ⟨h.2.1, hF⟩
end Jvm.Pilot.@@N@@
namespace Jvm.Pilot.@@N@@
open Jvm Jvm.ClassFile Sem Op Lib Jvm.Free Jvm.Stand Jvm.Pilot.@@N@@.Jvm.D
/-! MADE BY PROGRAM (witnessworld.py) out of the Statement's table words and the real class files: 18 classes; the members and pool entries that the words name. The judged class is class 1, her method 2. -/
namespace start1
open Jvm.ClassFile
def u (s : String) : CpInfo := .utf8 (stringToUtf16 s)
/-- a pool by its gaps: so many unusable entries, then the entry; so many at the end -/
def gap : Nat → List CpInfo → List CpInfo
  | 0, r => r
  | n + 1, r => .unusable :: gap n r
def poolList (es : List (Nat × CpInfo)) (last : Nat) : List CpInfo := es.foldr (fun e r => gap e.1 (e.2 :: r)) (gap last [])
def pool (es : List (Nat × CpInfo)) (last : Nat) : Array CpInfo := ⟨poolList es last⟩
def fileOf (pool : Array CpInfo) (this : Nat) (attrs : Array Attribute := #[]) (ms : Array MethodInfo := #[]) (fl : Nat := 33) (sup : Nat := 0) (ifs : Array Nat := #[]) (fds : Array FieldInfo := #[]) : ClassFile where
  minorVersion := 0
  majorVersion := 65
  constantPool := pool
  accessFlags := fl
  thisClass := this
  superClass := sup
  interfaces := ifs
  fields := fds
  methods := ms
  attributes := attrs
def plain (name : String) (sup : Option ClassId) : Class where
  name := name
  kind := .ordinary
  loader := none
  accessFlags := 33
  super := sup
  interfaces := #[]
  cf := none
  fields := #[]
  methods := #[]
  instanceTypes := #[]
  staticTypes := #[]
  resolved := #[]
  callSites := []
  init := .initialized
  statics := none
  mirror := none

def pool0 : Array CpInfo := pool [(5, u "<init>"), (0, u "()V"), (1, .class_ 10), (1, u "java/lang/Object")] 113

def k0m0 : Method := { name := "<init>", desc := "()V", sig := { parameters := [], returnType := none }, accessFlags := 1, code := none }
/-- java/lang/Object -/
def k0 : Class := { plain "java/lang/Object" none with
  accessFlags := 33
  interfaces := #[]
  cf := some (fileOf pool0 8 #[] #[{ accessFlags := 1, nameIndex := 5, descriptorIndex := 6, attributes := #[] }] 33 0 #[] #[])
  fields := #[]
  methods := #[k0m0]
  instanceTypes := #[]
  staticTypes := #[]
  resolved := Array.replicate 124 none
  statics := none }

def pool1 : Array CpInfo := pool [(2, .class_ 4), (1, u "java/lang/Object"), (0, u "<init>"), (0, u "()V"), (0, .methodref 8 9), (0, .class_ 10), (0, .nameAndType 11 12), (0, u "com/example/reuse_signals/reusesignals/signals/UriCharacters"), (0, u "isPathOrQueryCharacter"), (0, u "(I)Z"), (0, .methodref 14 15), (0, .class_ 16), (0, .nameAndType 17 12), (0, u "com/example/reuse_signals/reusesignals/signals/UriCharactersIsPathOrQueryCharacterPinLaw"), (0, u "expected"), (3, u "law"), (0, u "(II)Z")] 2

def k1m0 : Method := { name := "<init>", desc := "()V", sig := { parameters := [], returnType := none }, accessFlags := 2, code := none }
def k1c1 : Code := { maxStack := 2, maxLocals := 1, code := method_2_code, exceptionTable := #[], attributes := #[] }
def k1m1 : Method := { name := "expected", desc := "(I)Z", sig := { parameters := [.int], returnType := some .boolean }, accessFlags := 10, code := some k1c1 }
def k1c2 : Code := { maxStack := 2, maxLocals := 3, code := code, exceptionTable := #[], attributes := #[] }
def k1m2 : Method := { name := "law", desc := "(II)Z", sig := { parameters := [.int, .int], returnType := some .boolean }, accessFlags := 9, code := some k1c2 }
/-- com/example/reuse_signals/reusesignals/signals/UriCharactersIsPathOrQueryCharacterPinLaw -/
def k1 : Class := { plain "com/example/reuse_signals/reusesignals/signals/UriCharactersIsPathOrQueryCharacterPinLaw" (some 0) with
  accessFlags := 49
  interfaces := #[]
  cf := some (fileOf pool1 14 #[] #[{ accessFlags := 2, nameIndex := 5, descriptorIndex := 6, attributes := #[] }, { accessFlags := 10, nameIndex := 17, descriptorIndex := 12, attributes := #[] }, { accessFlags := 9, nameIndex := 21, descriptorIndex := 22, attributes := #[] }] 49 2 #[] #[])
  fields := #[]
  methods := #[k1m0, k1m1, k1m2]
  instanceTypes := #[]
  staticTypes := #[]
  resolved := Array.replicate 25 none
  statics := none }

def pool2 : Array CpInfo := pool [(1, .class_ 2), (0, u "com/example/reuse_signals/reusesignals/signals/UriCharacters"), (1, .class_ 6), (1, u "java/lang/Object"), (0, u "<init>"), (0, u "()V"), (0, .methodref 1 10), (0, .nameAndType 11 12), (0, u "isAlphanumeric"), (0, u "(I)Z"), (2, .methodref 1 16), (0, .nameAndType 17 18), (0, u "isSymbolIn"), (0, u "(Ljava/lang/String;I)Z"), (0, .string 20), (0, u "-._~!$&'()*+,;=:@/?"), (5, .methodref 27 28), (0, .class_ 29), (0, .nameAndType 30 31), (0, u "java/lang/String"), (0, u "indexOf"), (0, u "(I)I"), (0, u "UNRESERVED_SYMBOLS"), (0, u "Ljava/lang/String;"), (1, u "PATH_OR_QUERY_SYMBOLS"), (4, u "isPathOrQueryCharacter")] 4

def k2m0 : Method := { name := "<init>", desc := "()V", sig := { parameters := [], returnType := none }, accessFlags := 2, code := none }
def k2c1 : Code := { maxStack := 2, maxLocals := 1, code := prog_33_method_3_code, exceptionTable := #[], attributes := #[] }
def k2m1 : Method := { name := "isPathOrQueryCharacter", desc := "(I)Z", sig := { parameters := [.int], returnType := some .boolean }, accessFlags := 8, code := some k2c1 }
def k2c2 : Code := { maxStack := 2, maxLocals := 1, code := prog_33_method_5_code, exceptionTable := #[], attributes := #[] }
def k2m2 : Method := { name := "isAlphanumeric", desc := "(I)Z", sig := { parameters := [.int], returnType := some .boolean }, accessFlags := 10, code := some k2c2 }
def k2c3 : Code := { maxStack := 2, maxLocals := 2, code := prog_33_method_6_code, exceptionTable := #[], attributes := #[] }
def k2m3 : Method := { name := "isSymbolIn", desc := "(Ljava/lang/String;I)Z", sig := { parameters := [(.object "java/lang/String"), .int], returnType := some .boolean }, accessFlags := 10, code := some k2c3 }
/-- com/example/reuse_signals/reusesignals/signals/UriCharacters -/
def k2 : Class := { plain "com/example/reuse_signals/reusesignals/signals/UriCharacters" (some 0) with
  accessFlags := 48
  interfaces := #[]
  cf := some (fileOf pool2 1 #[] #[{ accessFlags := 2, nameIndex := 7, descriptorIndex := 8, attributes := #[] }, { accessFlags := 8, nameIndex := 40, descriptorIndex := 12, attributes := #[] }, { accessFlags := 10, nameIndex := 11, descriptorIndex := 12, attributes := #[] }, { accessFlags := 10, nameIndex := 17, descriptorIndex := 18, attributes := #[] }] 48 4 #[] #[{ accessFlags := 26, nameIndex := 32, descriptorIndex := 33, attributes := #[] }, { accessFlags := 26, nameIndex := 35, descriptorIndex := 33, attributes := #[] }])
  fields := #[{ name := "UNRESERVED_SYMBOLS", type := (.object "java/lang/String"), accessFlags := 26, slot := 0, constantValue := 0 }, { name := "PATH_OR_QUERY_SYMBOLS", type := (.object "java/lang/String"), accessFlags := 26, slot := 1, constantValue := 0 }]
  methods := #[k2m0, k2m1, k2m2, k2m3]
  instanceTypes := #[]
  staticTypes := #[(.object "java/lang/String"), (.object "java/lang/String")]
  resolved := Array.replicate 45 none
  statics := none }

def pool3 : Array CpInfo := pool [(1, .class_ 2), (0, u "java/io/Serializable"), (0, .class_ 4), (0, u "java/lang/Object")] 2

/-- java/io/Serializable -/
def k3 : Class := { plain "java/io/Serializable" (some 0) with
  accessFlags := 1537
  interfaces := #[]
  cf := some (fileOf pool3 1 #[] #[] 1537 3 #[] #[])
  fields := #[]
  methods := #[]
  instanceTypes := #[]
  staticTypes := #[]
  resolved := Array.replicate 7 none
  statics := none }

def pool4 : Array CpInfo := pool [(1, .class_ 2), (0, u "java/lang/Comparable"), (0, .class_ 4), (0, u "java/lang/Object")] 7

/-- java/lang/Comparable -/
def k4 : Class := { plain "java/lang/Comparable" (some 0) with
  accessFlags := 1537
  interfaces := #[]
  cf := some (fileOf pool4 1 #[] #[] 1537 3 #[] #[])
  fields := #[]
  methods := #[]
  instanceTypes := #[]
  staticTypes := #[]
  resolved := Array.replicate 12 none
  statics := none }

def pool5 : Array CpInfo := pool [(2, .class_ 4), (1, u "java/lang/CharSequence"), (42, .class_ 48), (0, u "java/lang/CharSequence$1CodePointIterator"), (10, .class_ 60), (0, u "java/lang/CharSequence$1CharIterator"), (5, .class_ 67), (0, u "java/lang/Object")] 63

/-- java/lang/CharSequence -/
def k5 : Class := { plain "java/lang/CharSequence" (some 0) with
  accessFlags := 1537
  interfaces := #[]
  cf := some (fileOf pool5 2 #[.nestMembers #[47, 59]] #[] 1537 66 #[] #[])
  fields := #[]
  methods := #[]
  instanceTypes := #[]
  staticTypes := #[]
  resolved := Array.replicate 131 none
  statics := none }

def pool6 : Array CpInfo := pool [(1, .class_ 2), (0, u "java/lang/constant/Constable"), (0, .class_ 4), (0, u "java/lang/Object")] 6

/-- java/lang/constant/Constable -/
def k6 : Class := { plain "java/lang/constant/Constable" (some 0) with
  accessFlags := 1537
  interfaces := #[]
  cf := some (fileOf pool6 1 #[] #[] 1537 3 #[] #[])
  fields := #[]
  methods := #[]
  instanceTypes := #[]
  staticTypes := #[]
  resolved := Array.replicate 11 none
  statics := none }

def pool7 : Array CpInfo := pool [(1, .class_ 2), (0, u "java/lang/constant/ConstantDesc"), (0, .class_ 4), (0, u "java/lang/Object")] 32

/-- java/lang/constant/ConstantDesc -/
def k7 : Class := { plain "java/lang/constant/ConstantDesc" (some 0) with
  accessFlags := 1537
  interfaces := #[]
  cf := some (fileOf pool7 1 #[] #[] 1537 3 #[] #[])
  fields := #[]
  methods := #[]
  instanceTypes := #[]
  staticTypes := #[]
  resolved := Array.replicate 37 none
  statics := none }

def pool8 : Array CpInfo := pool [(2, .class_ 4), (1, u "java/lang/Object"), (0, u "<init>"), (0, u "()V"), (2, .fieldref 10 11), (0, .class_ 12), (0, .nameAndType 13 14), (0, u "java/lang/String"), (0, u "value"), (0, u "[B"), (0, .fieldref 10 16), (0, .nameAndType 17 18), (0, u "coder"), (0, u "B"), (2, u "hash"), (0, u "I"), (2, u "hashIsZero"), (0, u "Z"), (11, .fieldref 10 39), (0, .nameAndType 40 26), (0, u "COMPACT_STRINGS"), (66, .class_ 109), (1, u "java/lang/StringLatin1"), (32, u "()Z"), (191, u "()I"), (0, .methodref 10 336), (0, .nameAndType 17 337), (0, u "()B"), (154, .methodref 10 493), (0, .nameAndType 494 142), (0, u "isLatin1"), (10, .methodref 10 506), (0, .nameAndType 507 334), (0, u "length"), (67, .class_ 576), (0, u "java/lang/CharSequence"), (22, u "CASE_INSENSITIVE_ORDER"), (0, u "Ljava/util/Comparator;"), (32, .methodref 10 634), (0, .nameAndType 635 636), (0, u "indexOf"), (0, u "(II)I"), (0, .methodref 107 638), (0, .nameAndType 635 639), (0, u "([BIII)I"), (125, u "(I)I"), (335, u "serialPersistentFields"), (0, u "[Ljava/io/ObjectStreamField;"), (0, .class_ 1104), (0, u "java/lang/String$CaseInsensitiveComparator"), (1, .class_ 1107), (0, u "java/io/Serializable"), (0, .class_ 1109), (0, u "java/lang/Comparable"), (0, .class_ 1111), (0, u "java/lang/constant/Constable"), (0, .class_ 1113), (0, u "java/lang/constant/ConstantDesc"), (2, u "serialVersionUID"), (0, u "J"), (3, u "REPL"), (0, u "C"), (2, u "LATIN1"), (1, u "UTF16")] 323

def k8m0 : Method := { name := "<init>", desc := "()V", sig := { parameters := [], returnType := none }, accessFlags := 1, code := none }
def k8c1 : Code := { maxStack := 2, maxLocals := 1, code := jdk_42_method_54_code, exceptionTable := #[], attributes := #[] }
def k8m1 : Method := { name := "length", desc := "()I", sig := { parameters := [], returnType := some .int }, accessFlags := 1, code := some k8c1 }
def k8c2 : Code := { maxStack := 3, maxLocals := 2, code := jdk_42_method_79_code, exceptionTable := #[], attributes := #[] }
def k8m2 : Method := { name := "indexOf", desc := "(I)I", sig := { parameters := [.int], returnType := some .int }, accessFlags := 1, code := some k8c2 }
def k8c3 : Code := { maxStack := 4, maxLocals := 3, code := jdk_42_method_80_code, exceptionTable := #[], attributes := #[] }
def k8m3 : Method := { name := "indexOf", desc := "(II)I", sig := { parameters := [.int, .int], returnType := some .int }, accessFlags := 1, code := some k8c3 }
def k8c4 : Code := { maxStack := 1, maxLocals := 1, code := jdk_42_method_152_code, exceptionTable := #[], attributes := #[] }
def k8m4 : Method := { name := "coder", desc := "()B", sig := { parameters := [], returnType := some .byte }, accessFlags := 0, code := some k8c4 }
def k8c5 : Code := { maxStack := 1, maxLocals := 1, code := jdk_42_method_154_code, exceptionTable := #[], attributes := #[] }
def k8m5 : Method := { name := "isLatin1", desc := "()Z", sig := { parameters := [], returnType := some .boolean }, accessFlags := 0, code := some k8c5 }
/-- java/lang/String -/
def k8 : Class := { plain "java/lang/String" (some 0) with
  accessFlags := 49
  interfaces := #[3, 4, 5, 6, 7]
  cf := some (fileOf pool8 10 #[.nestMembers #[1103]] #[{ accessFlags := 1, nameIndex := 5, descriptorIndex := 6, attributes := #[] }, { accessFlags := 1, nameIndex := 507, descriptorIndex := 334, attributes := #[] }, { accessFlags := 1, nameIndex := 635, descriptorIndex := 765, attributes := #[] }, { accessFlags := 1, nameIndex := 635, descriptorIndex := 636, attributes := #[] }, { accessFlags := 0, nameIndex := 17, descriptorIndex := 337, attributes := #[] }, { accessFlags := 0, nameIndex := 494, descriptorIndex := 142, attributes := #[] }] 49 2 #[1106, 1108, 575, 1110, 1112] #[{ accessFlags := 18, nameIndex := 13, descriptorIndex := 14, attributes := #[] }, { accessFlags := 18, nameIndex := 17, descriptorIndex := 18, attributes := #[] }, { accessFlags := 2, nameIndex := 21, descriptorIndex := 22, attributes := #[] }, { accessFlags := 2, nameIndex := 25, descriptorIndex := 26, attributes := #[] }, { accessFlags := 26, nameIndex := 1116, descriptorIndex := 1117, attributes := #[] }, { accessFlags := 24, nameIndex := 40, descriptorIndex := 26, attributes := #[] }, { accessFlags := 26, nameIndex := 1101, descriptorIndex := 1102, attributes := #[] }, { accessFlags := 26, nameIndex := 1121, descriptorIndex := 1122, attributes := #[] }, { accessFlags := 25, nameIndex := 599, descriptorIndex := 600, attributes := #[] }, { accessFlags := 24, nameIndex := 1125, descriptorIndex := 18, attributes := #[] }, { accessFlags := 24, nameIndex := 1127, descriptorIndex := 18, attributes := #[] }])
  fields := #[{ name := "value", type := (.array .byte), accessFlags := 18, slot := 0, constantValue := 0 }, { name := "coder", type := .byte, accessFlags := 18, slot := 1, constantValue := 0 }, { name := "hash", type := .int, accessFlags := 2, slot := 2, constantValue := 0 }, { name := "hashIsZero", type := .boolean, accessFlags := 2, slot := 3, constantValue := 0 }, { name := "serialVersionUID", type := .long, accessFlags := 26, slot := 0, constantValue := 0 }, { name := "COMPACT_STRINGS", type := .boolean, accessFlags := 24, slot := 1, constantValue := 0 }, { name := "serialPersistentFields", type := (.array (.object "java/io/ObjectStreamField")), accessFlags := 26, slot := 2, constantValue := 0 }, { name := "REPL", type := .char, accessFlags := 26, slot := 3, constantValue := 0 }, { name := "CASE_INSENSITIVE_ORDER", type := (.object "java/util/Comparator"), accessFlags := 25, slot := 4, constantValue := 0 }, { name := "LATIN1", type := .byte, accessFlags := 24, slot := 5, constantValue := 0 }, { name := "UTF16", type := .byte, accessFlags := 24, slot := 6, constantValue := 0 }]
  methods := #[k8m0, k8m1, k8m2, k8m3, k8m4, k8m5]
  instanceTypes := #[(.array .byte), .byte, .int, .boolean]
  staticTypes := #[.long, .boolean, (.array (.object "java/io/ObjectStreamField")), .char, (.object "java/util/Comparator"), .byte, .byte]
  resolved := Array.replicate 1451 none
  statics := some 0 }

def pool9 : Array CpInfo := pool [(4, .class_ 6), (1, u "java/lang/Object"), (0, u "<init>"), (0, u "()V"), (5, .class_ 16), (1, u "java/lang/StringLatin1"), (21, .methodref 39 40), (0, .class_ 41), (0, .nameAndType 42 43), (0, u "java/lang/Math"), (0, u "min"), (0, u "(II)I"), (44, .methodref 14 89), (0, .nameAndType 90 91), (0, u "canEncode"), (0, u "(I)Z"), (0, .methodref 39 93), (0, .nameAndType 94 43), (0, u "max"), (0, .methodref 14 96), (0, .nameAndType 97 98), (0, u "indexOfChar"), (0, u "([BIII)I"), (2, u "indexOf"), (19, u "$assertionsDisabled"), (0, u "Z"), (98, .class_ 223), (1, u "java/lang/StringLatin1$LinesSpliterator"), (166, .class_ 391), (0, u "java/lang/StringLatin1$CharsSpliterator")] 3

def k9m0 : Method := { name := "<init>", desc := "()V", sig := { parameters := [], returnType := none }, accessFlags := 0, code := none }
def k9c1 : Code := { maxStack := 2, maxLocals := 1, code := jdk_43_method_4_code, exceptionTable := #[], attributes := #[] }
def k9m1 : Method := { name := "canEncode", desc := "(I)Z", sig := { parameters := [.int], returnType := some .boolean }, accessFlags := 9, code := some k9c1 }
def k9c2 : Code := { maxStack := 4, maxLocals := 4, code := jdk_43_method_22_code, exceptionTable := #[], attributes := #[] }
def k9m2 : Method := { name := "indexOf", desc := "([BIII)I", sig := { parameters := [(.array .byte), .int, .int, .int], returnType := some .int }, accessFlags := 9, code := some k9c2 }
def k9c3 : Code := { maxStack := 2, maxLocals := 6, code := jdk_43_method_23_code, exceptionTable := #[], attributes := #[] }
def k9m3 : Method := { name := "indexOfChar", desc := "([BIII)I", sig := { parameters := [(.array .byte), .int, .int, .int], returnType := some .int }, accessFlags := 10, code := some k9c3 }
/-- java/lang/StringLatin1 -/
def k9 : Class := { plain "java/lang/StringLatin1" (some 0) with
  accessFlags := 48
  interfaces := #[]
  cf := some (fileOf pool9 14 #[.nestMembers #[390, 221]] #[{ accessFlags := 0, nameIndex := 7, descriptorIndex := 8, attributes := #[] }, { accessFlags := 9, nameIndex := 90, descriptorIndex := 91, attributes := #[] }, { accessFlags := 9, nameIndex := 101, descriptorIndex := 98, attributes := #[] }, { accessFlags := 10, nameIndex := 97, descriptorIndex := 98, attributes := #[] }] 48 4 #[] #[{ accessFlags := 4120, nameIndex := 121, descriptorIndex := 122, attributes := #[] }])
  fields := #[{ name := "$assertionsDisabled", type := .boolean, accessFlags := 4120, slot := 0, constantValue := 0 }]
  methods := #[k9m0, k9m1, k9m2, k9m3]
  instanceTypes := #[]
  staticTypes := #[.boolean]
  resolved := Array.replicate 395 none
  statics := none }

def pool10 : Array CpInfo := pool [(1, .class_ 2), (0, u "java/lang/Math"), (1, .class_ 6), (1, u "java/lang/Object"), (0, u "<init>"), (0, u "()V"), (89, .class_ 100), (1, u "java/lang/Math$RandomNumberGeneratorHolder"), (71, u "negativeZeroFloatBits"), (0, u "J"), (2, u "negativeZeroDoubleBits"), (21, u "max"), (2, u "min"), (43, u "$assertionsDisabled"), (0, u "Z"), (88, u "(II)I"), (2, u "twoToTheDoubleScaleDown"), (0, u "D"), (4, u "twoToTheDoubleScaleUp"), (9, u "E"), (3, u "PI"), (2, u "TAU"), (2, u "DEGREES_TO_RADIANS"), (0, u "RADIANS_TO_DEGREES")] 94

def k10m0 : Method := { name := "<init>", desc := "()V", sig := { parameters := [], returnType := none }, accessFlags := 2, code := none }
def k10c1 : Code := { maxStack := 2, maxLocals := 2, code := jdk_29_method_65_code, exceptionTable := #[], attributes := #[] }
def k10m1 : Method := { name := "max", desc := "(II)I", sig := { parameters := [.int, .int], returnType := some .int }, accessFlags := 9, code := some k10c1 }
def k10c2 : Code := { maxStack := 2, maxLocals := 2, code := jdk_29_method_69_code, exceptionTable := #[], attributes := #[] }
def k10m2 : Method := { name := "min", desc := "(II)I", sig := { parameters := [.int, .int], returnType := some .int }, accessFlags := 9, code := some k10c2 }
/-- java/lang/Math -/
def k10 : Class := { plain "java/lang/Math" (some 0) with
  accessFlags := 49
  interfaces := #[]
  cf := some (fileOf pool10 1 #[.nestMembers #[98]] #[{ accessFlags := 2, nameIndex := 7, descriptorIndex := 8, attributes := #[] }, { accessFlags := 9, nameIndex := 198, descriptorIndex := 335, attributes := #[] }, { accessFlags := 9, nameIndex := 201, descriptorIndex := 335, attributes := #[] }] 49 4 #[] #[{ accessFlags := 25, nameIndex := 354, descriptorIndex := 339, attributes := #[] }, { accessFlags := 25, nameIndex := 358, descriptorIndex := 339, attributes := #[] }, { accessFlags := 25, nameIndex := 361, descriptorIndex := 339, attributes := #[] }, { accessFlags := 26, nameIndex := 364, descriptorIndex := 339, attributes := #[] }, { accessFlags := 26, nameIndex := 365, descriptorIndex := 339, attributes := #[] }, { accessFlags := 26, nameIndex := 172, descriptorIndex := 173, attributes := #[] }, { accessFlags := 26, nameIndex := 176, descriptorIndex := 173, attributes := #[] }, { accessFlags := 8, nameIndex := 344, descriptorIndex := 339, attributes := #[] }, { accessFlags := 8, nameIndex := 338, descriptorIndex := 339, attributes := #[] }, { accessFlags := 4120, nameIndex := 245, descriptorIndex := 246, attributes := #[] }])
  fields := #[{ name := "E", type := .double, accessFlags := 25, slot := 0, constantValue := 0 }, { name := "PI", type := .double, accessFlags := 25, slot := 1, constantValue := 0 }, { name := "TAU", type := .double, accessFlags := 25, slot := 2, constantValue := 0 }, { name := "DEGREES_TO_RADIANS", type := .double, accessFlags := 26, slot := 3, constantValue := 0 }, { name := "RADIANS_TO_DEGREES", type := .double, accessFlags := 26, slot := 4, constantValue := 0 }, { name := "negativeZeroFloatBits", type := .long, accessFlags := 26, slot := 5, constantValue := 0 }, { name := "negativeZeroDoubleBits", type := .long, accessFlags := 26, slot := 6, constantValue := 0 }, { name := "twoToTheDoubleScaleUp", type := .double, accessFlags := 8, slot := 7, constantValue := 0 }, { name := "twoToTheDoubleScaleDown", type := .double, accessFlags := 8, slot := 8, constantValue := 0 }, { name := "$assertionsDisabled", type := .boolean, accessFlags := 4120, slot := 9, constantValue := 0 }]
  methods := #[k10m0, k10m1, k10m2]
  instanceTypes := #[]
  staticTypes := #[.double, .double, .double, .double, .double, .long, .long, .double, .double, .boolean]
  resolved := Array.replicate 460 none
  statics := none }

def pool11 : Array CpInfo := pool [(2, .class_ 4), (1, u "java/lang/Object"), (0, u "<init>"), (0, u "()V"), (17, .class_ 26), (1, u "jdk/internal/util/Preconditions"), (28, .class_ 56), (0, u "jdk/internal/util/Preconditions$4"), (57, .class_ 115), (0, u "jdk/internal/util/Preconditions$1"), (7, u "SIOOBE_FORMATTER"), (0, u "Ljava/util/function/BiFunction;"), (0, .class_ 126), (0, u "jdk/internal/util/Preconditions$2"), (3, u "AIOOBE_FORMATTER"), (0, .class_ 132), (0, u "jdk/internal/util/Preconditions$3"), (3, u "IOOBE_FORMATTER")] 57

def k11m0 : Method := { name := "<init>", desc := "()V", sig := { parameters := [], returnType := none }, accessFlags := 1, code := none }
/-- jdk/internal/util/Preconditions -/
def k11 : Class := { plain "jdk/internal/util/Preconditions" (some 0) with
  accessFlags := 33
  interfaces := #[]
  cf := some (fileOf pool11 24 #[.nestMembers #[55, 131, 125, 114]] #[{ accessFlags := 1, nameIndex := 5, descriptorIndex := 6, attributes := #[] }] 33 2 #[] #[{ accessFlags := 25, nameIndex := 123, descriptorIndex := 124, attributes := #[] }, { accessFlags := 25, nameIndex := 130, descriptorIndex := 124, attributes := #[] }, { accessFlags := 25, nameIndex := 136, descriptorIndex := 124, attributes := #[] }])
  fields := #[{ name := "SIOOBE_FORMATTER", type := (.object "java/util/function/BiFunction"), accessFlags := 25, slot := 0, constantValue := 0 }, { name := "AIOOBE_FORMATTER", type := (.object "java/util/function/BiFunction"), accessFlags := 25, slot := 1, constantValue := 0 }, { name := "IOOBE_FORMATTER", type := (.object "java/util/function/BiFunction"), accessFlags := 25, slot := 2, constantValue := 0 }]
  methods := #[k11m0]
  instanceTypes := #[]
  staticTypes := #[(.object "java/util/function/BiFunction"), (.object "java/util/function/BiFunction"), (.object "java/util/function/BiFunction")]
  resolved := Array.replicate 194 none
  statics := some 1 }

def pool12 : Array CpInfo := pool [(9, u "<init>"), (6, .class_ 18), (1, u "java/lang/Object"), (0, u "()V"), (1, .class_ 23), (1, u "jdk/internal/util/ArraysSupport"), (0, u "LOG2_ARRAY_LONG_INDEX_SCALE"), (0, u "I"), (2, u "U"), (0, u "Ljdk/internal/misc/Unsafe;"), (8, u "BIG_ENDIAN"), (0, u "Z"), (8, u "LOG2_BYTE_BIT_SIZE"), (4, u "LOG2_ARRAY_INT_INDEX_SCALE"), (54, u "JLA"), (0, u "Ljdk/internal/access/JavaLangAccess;"), (11, u "LOG2_ARRAY_BOOLEAN_INDEX_SCALE"), (9, u "LOG2_ARRAY_BYTE_INDEX_SCALE"), (5, u "LOG2_ARRAY_CHAR_INDEX_SCALE"), (5, u "LOG2_ARRAY_SHORT_INDEX_SCALE"), (18, u "LOG2_ARRAY_FLOAT_INDEX_SCALE"), (24, u "LOG2_ARRAY_DOUBLE_INDEX_SCALE"), (89, u "T_BOOLEAN"), (2, u "T_CHAR"), (1, u "T_FLOAT"), (1, u "T_DOUBLE"), (1, u "T_BYTE"), (1, u "T_SHORT"), (1, u "T_INT"), (1, u "T_LONG"), (1, u "SOFT_MAX_ARRAY_LENGTH")] 83

def k12m0 : Method := { name := "<init>", desc := "()V", sig := { parameters := [], returnType := none }, accessFlags := 2, code := none }
/-- jdk/internal/util/ArraysSupport -/
def k12 : Class := { plain "jdk/internal/util/ArraysSupport" (some 0) with
  accessFlags := 33
  interfaces := #[]
  cf := some (fileOf pool12 21 #[] #[{ accessFlags := 2, nameIndex := 9, descriptorIndex := 19, attributes := #[] }] 33 16 #[] #[{ accessFlags := 24, nameIndex := 28, descriptorIndex := 29, attributes := #[] }, { accessFlags := 26, nameIndex := 38, descriptorIndex := 39, attributes := #[] }, { accessFlags := 25, nameIndex := 121, descriptorIndex := 25, attributes := #[] }, { accessFlags := 25, nameIndex := 131, descriptorIndex := 25, attributes := #[] }, { accessFlags := 25, nameIndex := 137, descriptorIndex := 25, attributes := #[] }, { accessFlags := 25, nameIndex := 143, descriptorIndex := 25, attributes := #[] }, { accessFlags := 25, nameIndex := 53, descriptorIndex := 25, attributes := #[] }, { accessFlags := 25, nameIndex := 24, descriptorIndex := 25, attributes := #[] }, { accessFlags := 25, nameIndex := 162, descriptorIndex := 25, attributes := #[] }, { accessFlags := 25, nameIndex := 187, descriptorIndex := 25, attributes := #[] }, { accessFlags := 26, nameIndex := 48, descriptorIndex := 25, attributes := #[] }, { accessFlags := 25, nameIndex := 277, descriptorIndex := 25, attributes := #[] }, { accessFlags := 25, nameIndex := 280, descriptorIndex := 25, attributes := #[] }, { accessFlags := 25, nameIndex := 282, descriptorIndex := 25, attributes := #[] }, { accessFlags := 25, nameIndex := 284, descriptorIndex := 25, attributes := #[] }, { accessFlags := 25, nameIndex := 286, descriptorIndex := 25, attributes := #[] }, { accessFlags := 25, nameIndex := 288, descriptorIndex := 25, attributes := #[] }, { accessFlags := 25, nameIndex := 290, descriptorIndex := 25, attributes := #[] }, { accessFlags := 25, nameIndex := 292, descriptorIndex := 25, attributes := #[] }, { accessFlags := 26, nameIndex := 108, descriptorIndex := 109, attributes := #[] }, { accessFlags := 25, nameIndex := 294, descriptorIndex := 25, attributes := #[] }])
  fields := #[{ name := "U", type := (.object "jdk/internal/misc/Unsafe"), accessFlags := 24, slot := 0, constantValue := 0 }, { name := "BIG_ENDIAN", type := .boolean, accessFlags := 26, slot := 1, constantValue := 0 }, { name := "LOG2_ARRAY_BOOLEAN_INDEX_SCALE", type := .int, accessFlags := 25, slot := 2, constantValue := 0 }, { name := "LOG2_ARRAY_BYTE_INDEX_SCALE", type := .int, accessFlags := 25, slot := 3, constantValue := 0 }, { name := "LOG2_ARRAY_CHAR_INDEX_SCALE", type := .int, accessFlags := 25, slot := 4, constantValue := 0 }, { name := "LOG2_ARRAY_SHORT_INDEX_SCALE", type := .int, accessFlags := 25, slot := 5, constantValue := 0 }, { name := "LOG2_ARRAY_INT_INDEX_SCALE", type := .int, accessFlags := 25, slot := 6, constantValue := 0 }, { name := "LOG2_ARRAY_LONG_INDEX_SCALE", type := .int, accessFlags := 25, slot := 7, constantValue := 0 }, { name := "LOG2_ARRAY_FLOAT_INDEX_SCALE", type := .int, accessFlags := 25, slot := 8, constantValue := 0 }, { name := "LOG2_ARRAY_DOUBLE_INDEX_SCALE", type := .int, accessFlags := 25, slot := 9, constantValue := 0 }, { name := "LOG2_BYTE_BIT_SIZE", type := .int, accessFlags := 26, slot := 10, constantValue := 0 }, { name := "T_BOOLEAN", type := .int, accessFlags := 25, slot := 11, constantValue := 0 }, { name := "T_CHAR", type := .int, accessFlags := 25, slot := 12, constantValue := 0 }, { name := "T_FLOAT", type := .int, accessFlags := 25, slot := 13, constantValue := 0 }, { name := "T_DOUBLE", type := .int, accessFlags := 25, slot := 14, constantValue := 0 }, { name := "T_BYTE", type := .int, accessFlags := 25, slot := 15, constantValue := 0 }, { name := "T_SHORT", type := .int, accessFlags := 25, slot := 16, constantValue := 0 }, { name := "T_INT", type := .int, accessFlags := 25, slot := 17, constantValue := 0 }, { name := "T_LONG", type := .int, accessFlags := 25, slot := 18, constantValue := 0 }, { name := "JLA", type := (.object "jdk/internal/access/JavaLangAccess"), accessFlags := 26, slot := 19, constantValue := 0 }, { name := "SOFT_MAX_ARRAY_LENGTH", type := .int, accessFlags := 25, slot := 20, constantValue := 0 }]
  methods := #[k12m0]
  instanceTypes := #[]
  staticTypes := #[(.object "jdk/internal/misc/Unsafe"), .boolean, .int, .int, .int, .int, .int, .int, .int, .int, .int, .int, .int, .int, .int, .int, .int, .int, .int, (.object "jdk/internal/access/JavaLangAccess"), .int]
  resolved := Array.replicate 378 none
  statics := none }

def pool13 : Array CpInfo := pool [(1, u "java/lang/Cloneable"), (0, .class_ 1), (0, u "java/lang/Object"), (0, .class_ 3)] 3

/-- java/lang/Cloneable -/
def k13 : Class := { plain "java/lang/Cloneable" (some 0) with
  accessFlags := 1537
  interfaces := #[]
  cf := some (fileOf pool13 2 #[] #[] 1537 4 #[] #[])
  fields := #[]
  methods := #[]
  instanceTypes := #[]
  staticTypes := #[]
  resolved := Array.replicate 8 none
  statics := none }

/-- the primitive byte -/
def k14 : Class := { plain "byte" none with kind := .primitive 'B', accessFlags := 0x411 }
/-- [B -/
def k15 : Class := { plain "[B" (some 0) with kind := .array 14 .byte, interfaces := #[13, 3], accessFlags := 1041 }

/-- the primitive int -/
def k16 : Class := { plain "int" none with kind := .primitive 'I', accessFlags := 0x411 }
/-- [I -/
def k17 : Class := { plain "[I" (some 0) with kind := .array 16 .int, interfaces := #[13, 3], accessFlags := 1041 }

def heap : Heap := #[{ cls := 8, slots := #[.long 0, .int 1, .null, .int 0, .null, .int 0, .int 0], vm := .statics 8 },
  { cls := 11, slots := #[.null, .null, .null], vm := .statics 11 }]
def classes : Array Class := #[k0, k1, k2, k3, k4, k5, k6, k7, k8, k9, k10, k11, k12, k13, k14, k15, k16, k17]
def interned : List (Array UInt16 × Addr) := []
def slotsUsed : Nat := 10
def theMethod : MethodId := ⟨1, 2⟩
def args0 : Array Value := #[.int 0, .int 3]
def aboutOver (below : List Frame) : State where
  vm := { classes := classes, interned := interned.toArray }
  heap := heap
  slotsUsed := slotsUsed
  threads := #[{ frames := .invoking theMethod args0 :: below }]
def below0 : List Frame := [.native { method := ⟨0, 0⟩, args := #[] }]
def about1 : State := aboutOver below0
def p0 : Program := .bare "" "" ""
def e0 : Env := launch0.env 0 0 0
theorem w_frames : about1.frames = Frame.invoking theMethod args0 :: below0 := rfl
set_option maxRecDepth 65536 in
theorem w_args : argsFit about1.vm theMethod args0 = true := by decide +kernel
set_option maxRecDepth 65536 in
theorem w_heap : heapFits about1 = true := by decide +kernel
set_option maxRecDepth 65536 in
theorem w_runnable : about1.curStatus? = some .runnable := by decide +kernel
set_option maxRecDepth 65536 in
theorem w_alone : about1.alone = true := by decide +kernel
set_option maxRecDepth 65536 in
theorem w_named : about1.methodNamed? x = some theMethod := by decide +kernel
set_option maxRecDepth 65536 in
theorem w_hears : about1.hears theMethod below0 = true := by decide +kernel
set_option maxRecDepth 65536 in
theorem w_ripe : about1.ripe theMethod args0 below0 = true := by decide +kernel
theorem w_running : about1.status = .running := rfl
set_option maxRecDepth 65536 in
theorem w_room : about1.hasRoom e0.platform room_1 = true :=
  launch0.hasRoom_least _ room_1 (by decide +kernel) (by decide +kernel) (by decide +kernel) (by decide +kernel) (by decide +kernel) (by decide +kernel)
theorem allAtoms_all (ts : List Jvm.Cond) (a : Array Jvm.Value) (st : Jvm.State) : (allAtoms ts).before a st = ts.all (fun c => c.before a st) := by
  induction ts with
  | nil => rfl
  | cons c t ih =>
    show (Jvm.Cond.and c (allAtoms t)).before a st = _
    rw [Jvm.Cond.before_and, ih, List.all_cons]
def words1 : List Jvm.Cond := Jvm.Cond.code x code maxLocals ret :: tables_1
/-- a 'code' word, met by the world's own term for the bytes: nothing is compared byte by byte -/
theorem code_word {y : MethodName} {bytes : ByteArray} {mx : Nat} {rt : Option FieldType} {a : Array Value} {s : State} {m : MethodId} {meth : Method} {c : Code} (h1 : s.methodNamed? y = some m) (h2 : s.vm.method? m = some meth) (h3 : meth.code = some c) (h4 : c.code = bytes)
    (h5 : (c.maxLocals == mx && c.exceptionTable.isEmpty && decide (c.maxStack ≤ mostOperands) && decide (meth.sig.returnType = rt) && !meth.locks && decide (parseMethodDescriptor y.desc = some meth.sig)) = true) : (Jvm.Cond.code y bytes mx rt).before a s = true := by
  simp only [Bool.and_eq_true, beq_iff_eq, Bool.not_eq_true', decide_eq_true_eq] at h5
  obtain ⟨⟨⟨⟨⟨g1, g2⟩, g3⟩, g4⟩, g5⟩, g6⟩ := h5
  simp [Cond.before, Cond.holds, Cond.value, h1, h2, h3, h4, g1, g2, g3, g4, g5, g6]
def isCode : Jvm.Cond → Bool
  | .code _ _ _ _ => true
  | _ => false
theorem all_split {L : List Jvm.Cond} {P : Jvm.Cond → Bool} (h1 : L.all (fun c => isCode c || P c) = true) (h2 : ∀ c ∈ L.filter isCode, P c = true) : L.all P = true := by
  refine List.all_eq_true.mpr fun c hc => ?_
  have h := List.all_eq_true.mp h1 c hc
  rcases Bool.eq_false_or_eq_true (isCode c) with hi | hi
  · exact h2 c (List.mem_filter.mpr ⟨hc, hi⟩)
  · simpa [hi] using h
set_option maxRecDepth 65536 in
theorem w_c0 : (Jvm.Cond.code x code maxLocals ret).before args0 about1 = true := code_word (m := ⟨1, 2⟩) (meth := k1m2) (c := k1c2) (by decide +kernel) rfl rfl rfl (by decide +kernel)
set_option maxRecDepth 65536 in
theorem w_c1 : (Jvm.Cond.code ({ cls := "com/example/reuse_signals/reusesignals/signals/UriCharacters", name := "isPathOrQueryCharacter", desc := "(I)Z" } : Jvm.MethodName) prog_33_method_3_code (1 : Nat) (Option.some Jvm.ClassFile.FieldType.boolean)).before args0 about1 = true := code_word (m := ⟨2, 1⟩) (meth := k2m1) (c := k2c1) (by decide +kernel) rfl rfl rfl (by decide +kernel)
set_option maxRecDepth 65536 in
theorem w_c2 : (Jvm.Cond.code ({ cls := "com/example/reuse_signals/reusesignals/signals/UriCharacters", name := "isAlphanumeric", desc := "(I)Z" } : Jvm.MethodName) prog_33_method_5_code (1 : Nat) (Option.some Jvm.ClassFile.FieldType.boolean)).before args0 about1 = true := code_word (m := ⟨2, 2⟩) (meth := k2m2) (c := k2c2) (by decide +kernel) rfl rfl rfl (by decide +kernel)
set_option maxRecDepth 65536 in
theorem w_c3 : (Jvm.Cond.code ({ cls := "com/example/reuse_signals/reusesignals/signals/UriCharacters", name := "isSymbolIn", desc := "(Ljava/lang/String;I)Z" } : Jvm.MethodName) prog_33_method_6_code (2 : Nat) (Option.some Jvm.ClassFile.FieldType.boolean)).before args0 about1 = true := code_word (m := ⟨2, 3⟩) (meth := k2m3) (c := k2c3) (by decide +kernel) rfl rfl rfl (by decide +kernel)
set_option maxRecDepth 65536 in
theorem w_c4 : (Jvm.Cond.code ({ cls := "java/lang/String", name := "indexOf", desc := "(I)I" } : Jvm.MethodName) jdk_42_method_79_code (2 : Nat) (Option.some Jvm.ClassFile.FieldType.int)).before args0 about1 = true := code_word (m := ⟨8, 2⟩) (meth := k8m2) (c := k8c2) (by decide +kernel) rfl rfl rfl (by decide +kernel)
set_option maxRecDepth 65536 in
theorem w_c5 : (Jvm.Cond.code ({ cls := "java/lang/String", name := "indexOf", desc := "(II)I" } : Jvm.MethodName) jdk_42_method_80_code (3 : Nat) (Option.some Jvm.ClassFile.FieldType.int)).before args0 about1 = true := code_word (m := ⟨8, 3⟩) (meth := k8m3) (c := k8c3) (by decide +kernel) rfl rfl rfl (by decide +kernel)
set_option maxRecDepth 65536 in
theorem w_c6 : (Jvm.Cond.code ({ cls := "java/lang/String", name := "isLatin1", desc := "()Z" } : Jvm.MethodName) jdk_42_method_154_code (1 : Nat) (Option.some Jvm.ClassFile.FieldType.boolean)).before args0 about1 = true := code_word (m := ⟨8, 5⟩) (meth := k8m5) (c := k8c5) (by decide +kernel) rfl rfl rfl (by decide +kernel)
set_option maxRecDepth 65536 in
theorem w_c7 : (Jvm.Cond.code ({ cls := "java/lang/String", name := "length", desc := "()I" } : Jvm.MethodName) jdk_42_method_54_code (1 : Nat) (Option.some Jvm.ClassFile.FieldType.int)).before args0 about1 = true := code_word (m := ⟨8, 1⟩) (meth := k8m1) (c := k8c1) (by decide +kernel) rfl rfl rfl (by decide +kernel)
set_option maxRecDepth 65536 in
theorem w_c8 : (Jvm.Cond.code ({ cls := "java/lang/String", name := "coder", desc := "()B" } : Jvm.MethodName) jdk_42_method_152_code (1 : Nat) (Option.some Jvm.ClassFile.FieldType.byte)).before args0 about1 = true := code_word (m := ⟨8, 4⟩) (meth := k8m4) (c := k8c4) (by decide +kernel) rfl rfl rfl (by decide +kernel)
set_option maxRecDepth 65536 in
theorem w_c9 : (Jvm.Cond.code ({ cls := "java/lang/StringLatin1", name := "indexOf", desc := "([BIII)I" } : Jvm.MethodName) jdk_43_method_22_code (4 : Nat) (Option.some Jvm.ClassFile.FieldType.int)).before args0 about1 = true := code_word (m := ⟨9, 2⟩) (meth := k9m2) (c := k9c2) (by decide +kernel) rfl rfl rfl (by decide +kernel)
set_option maxRecDepth 65536 in
theorem w_c10 : (Jvm.Cond.code ({ cls := "java/lang/StringLatin1", name := "canEncode", desc := "(I)Z" } : Jvm.MethodName) jdk_43_method_4_code (1 : Nat) (Option.some Jvm.ClassFile.FieldType.boolean)).before args0 about1 = true := code_word (m := ⟨9, 1⟩) (meth := k9m1) (c := k9c1) (by decide +kernel) rfl rfl rfl (by decide +kernel)
set_option maxRecDepth 65536 in
theorem w_c11 : (Jvm.Cond.code ({ cls := "java/lang/Math", name := "max", desc := "(II)I" } : Jvm.MethodName) jdk_29_method_65_code (2 : Nat) (Option.some Jvm.ClassFile.FieldType.int)).before args0 about1 = true := code_word (m := ⟨10, 1⟩) (meth := k10m1) (c := k10c1) (by decide +kernel) rfl rfl rfl (by decide +kernel)
set_option maxRecDepth 65536 in
theorem w_c12 : (Jvm.Cond.code ({ cls := "java/lang/Math", name := "min", desc := "(II)I" } : Jvm.MethodName) jdk_29_method_69_code (2 : Nat) (Option.some Jvm.ClassFile.FieldType.int)).before args0 about1 = true := code_word (m := ⟨10, 2⟩) (meth := k10m2) (c := k10c2) (by decide +kernel) rfl rfl rfl (by decide +kernel)
set_option maxRecDepth 65536 in
theorem w_c13 : (Jvm.Cond.code ({ cls := "java/lang/StringLatin1", name := "indexOfChar", desc := "([BIII)I" } : Jvm.MethodName) jdk_43_method_23_code (6 : Nat) (Option.some Jvm.ClassFile.FieldType.int)).before args0 about1 = true := code_word (m := ⟨9, 3⟩) (meth := k9m3) (c := k9c3) (by decide +kernel) rfl rfl rfl (by decide +kernel)
set_option maxRecDepth 65536 in
theorem w_c14 : (Jvm.Cond.code ({ cls := "com/example/reuse_signals/reusesignals/signals/UriCharactersIsPathOrQueryCharacterPinLaw", name := "expected", desc := "(I)Z" } : Jvm.MethodName) method_2_code (1 : Nat) (Option.some Jvm.ClassFile.FieldType.boolean)).before args0 about1 = true := code_word (m := ⟨1, 1⟩) (meth := k1m1) (c := k1c1) (by decide +kernel) rfl rfl rfl (by decide +kernel)
def codes1 : List Jvm.Cond := [Jvm.Cond.code x code maxLocals ret, Jvm.Cond.code ({ cls := "com/example/reuse_signals/reusesignals/signals/UriCharacters", name := "isPathOrQueryCharacter", desc := "(I)Z" } : Jvm.MethodName) prog_33_method_3_code (1 : Nat) (Option.some Jvm.ClassFile.FieldType.boolean), Jvm.Cond.code ({ cls := "com/example/reuse_signals/reusesignals/signals/UriCharacters", name := "isAlphanumeric", desc := "(I)Z" } : Jvm.MethodName) prog_33_method_5_code (1 : Nat) (Option.some Jvm.ClassFile.FieldType.boolean), Jvm.Cond.code ({ cls := "com/example/reuse_signals/reusesignals/signals/UriCharacters", name := "isSymbolIn", desc := "(Ljava/lang/String;I)Z" } : Jvm.MethodName) prog_33_method_6_code (2 : Nat) (Option.some Jvm.ClassFile.FieldType.boolean), Jvm.Cond.code ({ cls := "java/lang/String", name := "indexOf", desc := "(I)I" } : Jvm.MethodName) jdk_42_method_79_code (2 : Nat) (Option.some Jvm.ClassFile.FieldType.int), Jvm.Cond.code ({ cls := "java/lang/String", name := "indexOf", desc := "(II)I" } : Jvm.MethodName) jdk_42_method_80_code (3 : Nat) (Option.some Jvm.ClassFile.FieldType.int), Jvm.Cond.code ({ cls := "java/lang/String", name := "isLatin1", desc := "()Z" } : Jvm.MethodName) jdk_42_method_154_code (1 : Nat) (Option.some Jvm.ClassFile.FieldType.boolean), Jvm.Cond.code ({ cls := "java/lang/String", name := "length", desc := "()I" } : Jvm.MethodName) jdk_42_method_54_code (1 : Nat) (Option.some Jvm.ClassFile.FieldType.int), Jvm.Cond.code ({ cls := "java/lang/String", name := "coder", desc := "()B" } : Jvm.MethodName) jdk_42_method_152_code (1 : Nat) (Option.some Jvm.ClassFile.FieldType.byte), Jvm.Cond.code ({ cls := "java/lang/StringLatin1", name := "indexOf", desc := "([BIII)I" } : Jvm.MethodName) jdk_43_method_22_code (4 : Nat) (Option.some Jvm.ClassFile.FieldType.int), Jvm.Cond.code ({ cls := "java/lang/StringLatin1", name := "canEncode", desc := "(I)Z" } : Jvm.MethodName) jdk_43_method_4_code (1 : Nat) (Option.some Jvm.ClassFile.FieldType.boolean), Jvm.Cond.code ({ cls := "java/lang/Math", name := "max", desc := "(II)I" } : Jvm.MethodName) jdk_29_method_65_code (2 : Nat) (Option.some Jvm.ClassFile.FieldType.int), Jvm.Cond.code ({ cls := "java/lang/Math", name := "min", desc := "(II)I" } : Jvm.MethodName) jdk_29_method_69_code (2 : Nat) (Option.some Jvm.ClassFile.FieldType.int), Jvm.Cond.code ({ cls := "java/lang/StringLatin1", name := "indexOfChar", desc := "([BIII)I" } : Jvm.MethodName) jdk_43_method_23_code (6 : Nat) (Option.some Jvm.ClassFile.FieldType.int), Jvm.Cond.code ({ cls := "com/example/reuse_signals/reusesignals/signals/UriCharactersIsPathOrQueryCharacterPinLaw", name := "expected", desc := "(I)Z" } : Jvm.MethodName) method_2_code (1 : Nat) (Option.some Jvm.ClassFile.FieldType.boolean)]
set_option maxRecDepth 65536 in
theorem codes_eq : words1.filter isCode = codes1 := rfl
theorem w_codes : ∀ c ∈ words1.filter isCode, c.before args0 about1 = true := by
  rw [codes_eq]
  intro c hc
  simp only [codes1, List.mem_cons, List.not_mem_nil, or_false] at hc
  rcases hc with rfl | rfl | rfl | rfl | rfl | rfl | rfl | rfl | rfl | rfl | rfl | rfl | rfl | rfl | rfl
  · exact w_c0
  · exact w_c1
  · exact w_c2
  · exact w_c3
  · exact w_c4
  · exact w_c5
  · exact w_c6
  · exact w_c7
  · exact w_c8
  · exact w_c9
  · exact w_c10
  · exact w_c11
  · exact w_c12
  · exact w_c13
  · exact w_c14
set_option maxRecDepth 65536 in
theorem w_t1 : (words1.take 24).all (fun c => isCode c || c.before args0 about1) = true := by decide +kernel
set_option maxRecDepth 65536 in
theorem w_t2 : ((words1.drop 24).take 24).all (fun c => isCode c || c.before args0 about1) = true := by decide +kernel
set_option maxRecDepth 65536 in
theorem w_t3 : ((words1.drop 24).drop 24).all (fun c => isCode c || c.before args0 about1) = true := by decide +kernel
theorem w_tables : (allAtoms (Jvm.Cond.code x code maxLocals ret :: tables_1)).before args0 about1 = true := by
  rw [allAtoms_all]
  show words1.all (fun c => c.before args0 about1) = true
  refine all_split ?_ w_codes
  rw [← List.take_append_drop 24 words1, List.all_append, w_t1, ← List.take_append_drop 24 (words1.drop 24), List.all_append, w_t2, w_t3]
  rfl
set_option maxRecDepth 65536 in
theorem w_rest : rest_1_c.before args0 about1 = true := by decide +kernel
set_option maxRecDepth 65536 in
theorem w_case : (Jvm.Cond.and given_1 narrow_1).before args0 about1 = true := by decide +kernel
set_option maxRecDepth 65536 in
theorem w_consts : constsHeld consts_1 about1 := Jvm.Lit.constsHeldB_iff.mp (by decide +kernel)
theorem w_applies : (headSpec (Jvm.Cond.code x code maxLocals ret :: tables_1) room_1).applies x e0.platform about1 = true :=
  (Spec.applies_iff w_frames).mpr ⟨w_running, w_runnable, w_alone, w_named, w_hears, w_ripe, w_room, w_tables⟩
theorem atStart : AtStart classFile x code maxLocals ret World_1 tables_1 room_1 Calls_1 rest_1 Pre_1 launch0 p0 e0 about1 theMethod args0 below0 :=
  ⟨lists_1, trivial, launch0.admits_env _ _ _, launch0.least_env, fairChoices_fair.cas, fairChoices_fair.clock, w_frames, w_args, w_heap, w_applies, ⟨w_consts, trivial⟩, w_rest, w_case⟩
end start1
theorem witness_1 : WitnessClaimed_1 := ⟨start1.p0, start1.e0, start1.about1, start1.theMethod, start1.args0, start1.below0, start1.atStart⟩
end Jvm.Pilot.@@N@@
