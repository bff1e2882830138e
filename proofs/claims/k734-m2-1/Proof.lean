import JvmDerived
import JvmDerived.Pilot.@@N@@Statement
import JvmDerived.Pilot.@@N@@Code
set_option linter.unusedVariables false
set_option linter.unusedSimpArgs false
namespace Jvm.Pilot.@@N@@
open Jvm Jvm.ClassFile Sem Op Lib Jvm.Free Jvm.Stand Jvm.LawKit Jvm.RoadKit Bundle Jvm.Pilot.@@N@@.Jvm.D
section own_walk
variable {p : Program} {l : Launch} {e : Env} {R : Room} {s : State} {m : MethodId} {args : Array Value} {below : List Frame} {meth : Method} {c : Code} {T : State} {locs : List Loc} {cells slots : Nat} {Z : State} {h h' : Heap}
def own_Fin (p : Program) (e : Env) (below : List Frame) (P : Outcome → State → Prop) (g : State) : Prop :=
  ∃ s₂ o, Steps p.tables e below g s₂ ∧ s₂.status = .running ∧ Ended s₂ below o ∧ P o s₂
def own_P (Q : Option Value → Heap → List Loc → Prop) (s : State) (k n : Nat) (o : Outcome) (s₂ : State) : Prop :=
  ∃ v L, o = .returned v ∧ Q v s₂.heap L ∧ FrameEnd s o s₂ L k n
theorem own_via {P : Outcome → State → Prop} {g g' : State} (k : ∀ t, Steps p.tables e below g' t → Steps p.tables e below g t) (H : own_Fin p e below P g') : own_Fin p e below P g := by
  obtain ⟨s₂, o, a, b⟩ := H
  exact ⟨s₂, o, k _ a, b⟩
theorem own_ret {v : Option Value} {g : State} {Q : Option Value → Heap → List Loc → Prop} {k n : Nat} (X : Stand p l e R s m args below meth c T locs cells slots) (hlk : meth.locks = false) (hv : meth.sig.returnType = none → v = none)
    (hst : ∀ fs, (∀ (f : JFrame) (acts : List Action), f.method = m → f.locked = none → f.entered = [] → (doReturn e (T.setTop f) acts v).1 = T.setFrames fs) → Steps p.tables e below g (T.setFrames fs))
    (hQ : Q v T.heap locs) (hk : cells ≤ k) (hn : slots ≤ n) : own_Fin p e below (own_P Q s k n) g := by
  obtain ⟨fs, hr, hrun, hended, hW, hsame⟩ := X.leave (v := v) hv hlk
  exact ⟨_, _, hst fs hr, hrun, hended, _, _, rfl, hQ, ⟨_, rfl⟩, hW, hsame.mono hk hn⟩
theorem own_retW {w : Value} {t : FieldType} {i : Instr} {pc : Nat} {Ls : Array Slot} {rest : List Value} {Q : Option Value → Heap → List Loc → Prop} {k n : Nat} (X : Stand p l e R s m args below meth c T locs cells slots) (hx : p.tables.exec = Jvm.exec) (hlk : meth.locks = false) (hret : meth.sig.returnType = some t) (hnw : narrow t w = w)
    (hi : (i = .ireturn ∧ (t = .int ∨ t = .boolean ∨ t = .byte ∨ t = .char ∨ t = .short) ∧ ∃ z, w = .int z) ∨ (i = .lreturn ∧ t = .long ∧ ∃ z, w = .long z) ∨ (i = .dreturn ∧ t = .double ∧ ∃ z, w = .double z) ∨ (i = .freturn ∧ t = .float ∧ ∃ z, w = .float z) ∨ (i = .areturn ∧ t.isReference = true ∧ w.isRef = true))
    (hd : decode c.code pc = .ok (i, 1)) (hQ : Q (some w) T.heap locs) (hk : cells ≤ k) (hn : slots ≤ n) : own_Fin p e below (own_P Q s k n) (T.setTop (mkF m pc Ls (w :: rest))) :=
  own_ret X hlk (fun q => by rw [hret] at q; cases q) (fun fs hr => retOut X hx hret hnw hi hd hr) hQ hk hn
theorem own_retI {z : Int32} {pc : Nat} {Ls : Array Slot} {rest : List Value} {Q : Option Value → Heap → List Loc → Prop} {k n : Nat} (X : Stand p l e R s m args below meth c T locs cells slots) (hx : p.tables.exec = Jvm.exec) (hlk : meth.locks = false) (hret : meth.sig.returnType = some .int)
    (hd : decode c.code pc = .ok (.ireturn, 1)) (hQ : Q (some (.int z)) T.heap locs) (hk : cells ≤ k) (hn : slots ≤ n) : own_Fin p e below (own_P Q s k n) (T.setTop (mkF m pc Ls (.int z :: rest))) :=
  own_retW X hx hlk hret rfl (Or.inl ⟨rfl, Or.inl rfl, z, rfl⟩) hd hQ hk hn
theorem own_retJ {z : Int64} {pc : Nat} {Ls : Array Slot} {rest : List Value} {Q : Option Value → Heap → List Loc → Prop} {k n : Nat} (X : Stand p l e R s m args below meth c T locs cells slots) (hx : p.tables.exec = Jvm.exec) (hlk : meth.locks = false) (hret : meth.sig.returnType = some .long)
    (hd : decode c.code pc = .ok (.lreturn, 1)) (hQ : Q (some (.long z)) T.heap locs) (hk : cells ≤ k) (hn : slots ≤ n) : own_Fin p e below (own_P Q s k n) (T.setTop (mkF m pc Ls (.long z :: rest))) :=
  own_retW X hx hlk hret rfl (Or.inr (Or.inl ⟨rfl, rfl, z, rfl⟩)) hd hQ hk hn
theorem own_nref {t : FieldType} {w : Value} (hw : w.isRef = true) : narrow t w = w := by
  cases w <;> first | (cases t <;> rfl) | (cases hw)
theorem own_fitR {c : String} {w : Value} (hw : w.isRef = true) : fits (.object c) w = true := by
  cases w <;> first | rfl | (cases hw)
theorem own_retA {w : Value} {t : FieldType} {pc : Nat} {Ls : Array Slot} {rest : List Value} {Q : Option Value → Heap → List Loc → Prop} {k n : Nat} (X : Stand p l e R s m args below meth c T locs cells slots) (hx : p.tables.exec = Jvm.exec) (hlk : meth.locks = false) (hw : w.isRef = true) (hret : meth.sig.returnType = some t) (ht : t.isReference = true)
    (hd : decode c.code pc = .ok (.areturn, 1)) (hQ : Q (some w) T.heap locs) (hk : cells ≤ k) (hn : slots ≤ n) : own_Fin p e below (own_P Q s k n) (T.setTop (mkF m pc Ls (w :: rest))) :=
  own_retW X hx hlk hret (own_nref hw) (Or.inr (Or.inr (Or.inr (Or.inr ⟨rfl, ht, hw⟩)))) hd hQ hk hn
theorem own_retB {z : Int32} {t : FieldType} {pc : Nat} {Ls : Array Slot} {rest : List Value} {Q : Option Value → Heap → List Loc → Prop} {k n : Nat} (X : Stand p l e R s m args below meth c T locs cells slots) (hx : p.tables.exec = Jvm.exec) (hlk : meth.locks = false) (hret : meth.sig.returnType = some t) (ht : t = .boolean ∨ t = .byte ∨ t = .char ∨ t = .short)
    (hd : decode c.code pc = .ok (.ireturn, 1)) (hQ : Q (some (.int (nar t z))) T.heap locs) (hk : cells ≤ k) (hn : slots ≤ n) : own_Fin p e below (own_P Q s k n) (T.setTop (mkF m pc Ls (.int z :: rest))) :=
  own_ret X hlk (fun q => by rw [hret] at q; cases q) (fun fs hr => retN X hx hret ht hd hr) hQ hk hn
theorem own_retV {pc : Nat} {Ls : Array Slot} {Q : Option Value → Heap → List Loc → Prop} {k n : Nat} (X : Stand p l e R s m args below meth c T locs cells slots) (hx : p.tables.exec = Jvm.exec) (hlk : meth.locks = false) (hret : meth.sig.returnType = none)
    (hd : decode c.code pc = .ok (.return_, 1)) (hQ : Q none T.heap locs) (hk : cells ≤ k) (hn : slots ≤ n) : own_Fin p e below (own_P Q s k n) (T.setTop (mkF m pc Ls [])) :=
  own_ret X hlk (fun _ => rfl) (fun fs hr => X.returnOut hx hret hd hr) hQ hk hn
/-- an array: its kind and its members -/
def own_Ar (Z : State) (h : Heap) (a : Addr) (ty : FieldType) (L : List Value) : Prop := ∃ c : Cell, Arr Z h a c ty ∧ c.slots.toList = L
theorem own_Ar.ext {a : Addr} {ty : FieldType} {L : List Value} (F : own_Ar Z h a ty L) (E : Ext h h') : own_Ar Z h' a ty L := by obtain ⟨c, A, r⟩ := F; exact ⟨c, A.ext E, r⟩
theorem own_Ar.other {a b : Addr} {sl : Nat} {v : Value} {ty : FieldType} {L : List Value} (F : own_Ar Z h b ty L) (W : Wr h h' a sl v) (q : b ≠ a) : own_Ar Z h' b ty L := by obtain ⟨c, A, r⟩ := F; exact ⟨c, A.other W q, r⟩
theorem own_Ar.keep {a : Addr} {ws : List Addr} {ty : FieldType} {L : List Value} (F : own_Ar Z h a ty L) (K : Keep h h' ws) (q : a ∉ ws) : own_Ar Z h' a ty L := by obtain ⟨c, A, r⟩ := F; exact ⟨c, ⟨K.2.1 a c A.1 q, A.2⟩, r⟩
theorem own_Ar.lt {a : Addr} {ty : FieldType} {L : List Value} (F : own_Ar Z h a ty L) : a < h.size := by obtain ⟨c, A, r⟩ := F; exact A.lt
theorem own_Ar.set {a : Addr} {j : Nat} {v : Value} {ty : FieldType} {L : List Value} (F : own_Ar Z h a ty L) (W : Wr h h' a j v) : own_Ar Z h' a ty (L.set j v) := by
  obtain ⟨c, A, r⟩ := F
  refine ⟨_, A.same W, ?_⟩
  subst r
  simp [Cell.setSlot]
theorem own_in {c : Cell} {L : List Value} (r : c.slots.toList = L) {j : Int32} (h0 : ¬ j < 0) (hj : j.toNatClampNeg < L.length) : ¬ (j < 0 ∨ c.slots.size ≤ j.toNatClampNeg) := by
  subst r
  simp only [Array.length_toList] at hj
  intro q
  rcases q with q | q
  · exact h0 q
  · omega
theorem own_at {c : Cell} {L : List Value} (r : c.slots.toList = L) {j : Nat} {v : Value} (hv : L[j]? = some v) : c.slots[j]? = some v := by
  subst r; simpa using hv
theorem own_inv {c : Cell} {L : List Value} (r : c.slots.toList = L) {j : Int32} {v : Value} (h0 : ¬ j < 0) (hv : L[j.toNatClampNeg]? = some v) : ¬ (j < 0 ∨ c.slots.size ≤ j.toNatClampNeg) :=
  own_in r h0 (List.getElem?_eq_some_iff.mp hv).1
theorem own_newP {a0 : Array Value} (X : Stand p l e R s m args below meth c T locs cells slots) (hx : p.tables.exec = Jvm.exec) (hZ : Z.Warmed39 s.vm) {aty : ArrayType} (w : (Cond.arrayClass (newarray.typeOf aty)).before a0 Z = true) (eT : T.heap = h) {g : JFrame} (hg : g.method = m) (hd : decode c.code g.pc = .ok (.newarray aty, 2)) {n : Int32} {rest : List Value} (hs : g.stack = .int n :: rest)
    (hn : ¬ n < 0) {cap : Nat} (hcap : n.toNatClampNeg ≤ cap) (hb : cap * 8 ≤ 536870912) (hc : cells + 1 ≤ R.cells) (hl : slots + cap ≤ R.slots) :
    ∃ T' h', Stand p l e R s m args below meth c T' locs (cells + 1) (slots + cap) ∧ T'.heap = h' ∧ Ext h h' ∧ own_Ar Z h' h.size (newarray.typeOf aty) (List.replicate n.toNatClampNeg (defaultValue (newarray.typeOf aty))) ∧
      ∀ target, Steps p.tables e below (T'.setTop { g with pc := g.pc + 2, stack := .ref h.size :: rest }) target → Steps p.tables e below (T.setTop g) target := by
  obtain ⟨T', h', cA, X', e', E', A', st⟩ := newP X hx hZ w eT hg hd hs hn hcap hb hc hl
  exact ⟨T', h', X', e', E', ⟨_, A', by simp [newA]⟩, st⟩
theorem own_stJ (X : Stand p l e R s m args below meth c T locs cells slots) (hx : p.tables.exec = Jvm.exec) (hZ : Z.Warmed39 s.vm) (eT : T.heap = h) {a : Addr} {L : List Value} (A : own_Ar Z h a .long L) {j : Int32} {x : Int64} (h0 : ¬ j < 0) (hj : j.toNatClampNeg < L.length) {g : JFrame} (hg : g.method = m) {rest : List Value} (hs : g.stack = .long x :: .int j :: .ref a :: rest) (hd : decode c.code g.pc = .ok (.lastore, 1)) :
    ∃ T' h', Stand p l e R s m args below meth c T' (locs ++ [⟨a, j.toNatClampNeg⟩]) cells slots ∧ T'.heap = h' ∧ Wr h h' a j.toNatClampNeg (.long x) ∧ own_Ar Z h' a .long (L.set j.toNatClampNeg (.long x)) ∧ ∀ target, Steps p.tables e below (T'.setTop { g with pc := g.pc + 1, stack := rest }) target → Steps p.tables e below (T.setTop g) target := by
  obtain ⟨cl, A', r⟩ := id A
  obtain ⟨T', h', X', e', W', st⟩ := stJ X hx hZ eT A' (own_in r h0 hj) hg hs hd
  exact ⟨T', h', X', e', W', A.set W', st⟩
theorem own_stI (X : Stand p l e R s m args below meth c T locs cells slots) (hx : p.tables.exec = Jvm.exec) (hZ : Z.Warmed39 s.vm) (eT : T.heap = h) {a : Addr} {L : List Value} (A : own_Ar Z h a .int L) {j : Int32} {x : Int32} (h0 : ¬ j < 0) (hj : j.toNatClampNeg < L.length) {g : JFrame} (hg : g.method = m) {rest : List Value} (hs : g.stack = .int x :: .int j :: .ref a :: rest) (hd : decode c.code g.pc = .ok (.iastore, 1)) :
    ∃ T' h', Stand p l e R s m args below meth c T' (locs ++ [⟨a, j.toNatClampNeg⟩]) cells slots ∧ T'.heap = h' ∧ Wr h h' a j.toNatClampNeg (.int x) ∧ own_Ar Z h' a .int (L.set j.toNatClampNeg (.int x)) ∧ ∀ target, Steps p.tables e below (T'.setTop { g with pc := g.pc + 1, stack := rest }) target → Steps p.tables e below (T.setTop g) target := by
  obtain ⟨cl, A', r⟩ := id A
  obtain ⟨T', h', X', e', W', st⟩ := stI X hx hZ eT A' (own_in r h0 hj) hg hs hd
  exact ⟨T', h', X', e', W', A.set W', st⟩
theorem own_stB (X : Stand p l e R s m args below meth c T locs cells slots) (hx : p.tables.exec = Jvm.exec) (hZ : Z.Warmed39 s.vm) (eT : T.heap = h) {a : Addr} {L : List Value} (A : own_Ar Z h a .byte L) {j : Int32} {x : Int32} (h0 : ¬ j < 0) (hj : j.toNatClampNeg < L.length) {g : JFrame} (hg : g.method = m) {rest : List Value} (hs : g.stack = .int x :: .int j :: .ref a :: rest) (hd : decode c.code g.pc = .ok (.bastore, 1)) :
    ∃ T' h', Stand p l e R s m args below meth c T' (locs ++ [⟨a, j.toNatClampNeg⟩]) cells slots ∧ T'.heap = h' ∧ Wr h h' a j.toNatClampNeg (.int (nar .byte x)) ∧ own_Ar Z h' a .byte (L.set j.toNatClampNeg (.int (nar .byte x))) ∧ ∀ target, Steps p.tables e below (T'.setTop { g with pc := g.pc + 1, stack := rest }) target → Steps p.tables e below (T.setTop g) target := by
  obtain ⟨cl, A', r⟩ := id A
  obtain ⟨T', h', X', e', W', st⟩ := stB X hx hZ eT A' (own_in r h0 hj) hg hs hd
  exact ⟨T', h', X', e', W', A.set W', st⟩
theorem own_stZ (X : Stand p l e R s m args below meth c T locs cells slots) (hx : p.tables.exec = Jvm.exec) (hZ : Z.Warmed39 s.vm) (eT : T.heap = h) {a : Addr} {L : List Value} (A : own_Ar Z h a .boolean L) {j : Int32} {x : Int32} (h0 : ¬ j < 0) (hj : j.toNatClampNeg < L.length) {g : JFrame} (hg : g.method = m) {rest : List Value} (hs : g.stack = .int x :: .int j :: .ref a :: rest) (hd : decode c.code g.pc = .ok (.bastore, 1)) :
    ∃ T' h', Stand p l e R s m args below meth c T' (locs ++ [⟨a, j.toNatClampNeg⟩]) cells slots ∧ T'.heap = h' ∧ Wr h h' a j.toNatClampNeg (.int (nar .boolean x)) ∧ own_Ar Z h' a .boolean (L.set j.toNatClampNeg (.int (nar .boolean x))) ∧ ∀ target, Steps p.tables e below (T'.setTop { g with pc := g.pc + 1, stack := rest }) target → Steps p.tables e below (T.setTop g) target := by
  obtain ⟨cl, A', r⟩ := id A
  obtain ⟨T', h', X', e', W', st⟩ := stZ X hx hZ eT A' (own_in r h0 hj) hg hs hd
  exact ⟨T', h', X', e', W', A.set W', st⟩
theorem own_stC (X : Stand p l e R s m args below meth c T locs cells slots) (hx : p.tables.exec = Jvm.exec) (hZ : Z.Warmed39 s.vm) (eT : T.heap = h) {a : Addr} {L : List Value} (A : own_Ar Z h a .char L) {j : Int32} {x : Int32} (h0 : ¬ j < 0) (hj : j.toNatClampNeg < L.length) {g : JFrame} (hg : g.method = m) {rest : List Value} (hs : g.stack = .int x :: .int j :: .ref a :: rest) (hd : decode c.code g.pc = .ok (.castore, 1)) :
    ∃ T' h', Stand p l e R s m args below meth c T' (locs ++ [⟨a, j.toNatClampNeg⟩]) cells slots ∧ T'.heap = h' ∧ Wr h h' a j.toNatClampNeg (.int (nar .char x)) ∧ own_Ar Z h' a .char (L.set j.toNatClampNeg (.int (nar .char x))) ∧ ∀ target, Steps p.tables e below (T'.setTop { g with pc := g.pc + 1, stack := rest }) target → Steps p.tables e below (T.setTop g) target := by
  obtain ⟨cl, A', r⟩ := id A
  obtain ⟨T', h', X', e', W', st⟩ := stC X hx hZ eT A' (own_in r h0 hj) hg hs hd
  exact ⟨T', h', X', e', W', A.set W', st⟩
theorem own_ldJ (X : Stand p l e R s m args below meth c T locs cells slots) (hx : p.tables.exec = Jvm.exec) (hZ : Z.Warmed39 s.vm) (eT : T.heap = h) {a : Addr} {L : List Value} (A : own_Ar Z h a .long L) {j : Int32} {v : Value} (h0 : ¬ j < 0) (hv : L[j.toNatClampNeg]? = some v) {g : JFrame} (hg : g.method = m) {rest : List Value} (hs : g.stack = .int j :: .ref a :: rest) (hd : decode c.code g.pc = .ok (.laload, 1)) (target : State)
    (hr : Steps p.tables e below (T.setTop { g with pc := g.pc + 1, stack := v :: rest }) target) : Steps p.tables e below (T.setTop g) target := by
  obtain ⟨cl, A', r⟩ := A
  exact X.laload hx (by rw [eT]; exact A'.1) (State.isArrayOf_alike hZ.alike A'.2.1) A'.2.2 (own_inv r h0 hv) (own_at r hv) hg hs hd target hr
theorem own_ldI (X : Stand p l e R s m args below meth c T locs cells slots) (hx : p.tables.exec = Jvm.exec) (hZ : Z.Warmed39 s.vm) (eT : T.heap = h) {a : Addr} {L : List Value} (A : own_Ar Z h a .int L) {j : Int32} {v : Value} (h0 : ¬ j < 0) (hv : L[j.toNatClampNeg]? = some v) {g : JFrame} (hg : g.method = m) {rest : List Value} (hs : g.stack = .int j :: .ref a :: rest) (hd : decode c.code g.pc = .ok (.iaload, 1)) (target : State)
    (hr : Steps p.tables e below (T.setTop { g with pc := g.pc + 1, stack := v :: rest }) target) : Steps p.tables e below (T.setTop g) target := by
  obtain ⟨cl, A', r⟩ := A
  exact X.iaload hx (by rw [eT]; exact A'.1) (State.isArrayOf_alike hZ.alike A'.2.1) A'.2.2 (own_inv r h0 hv) (own_at r hv) hg hs hd target hr
theorem own_ldB (X : Stand p l e R s m args below meth c T locs cells slots) (hx : p.tables.exec = Jvm.exec) (hZ : Z.Warmed39 s.vm) (eT : T.heap = h) {a : Addr} {L : List Value} (A : own_Ar Z h a .byte L) {j : Int32} {v : Value} (h0 : ¬ j < 0) (hv : L[j.toNatClampNeg]? = some v) {g : JFrame} (hg : g.method = m) {rest : List Value} (hs : g.stack = .int j :: .ref a :: rest) (hd : decode c.code g.pc = .ok (.baload, 1)) (target : State)
    (hr : Steps p.tables e below (T.setTop { g with pc := g.pc + 1, stack := v :: rest }) target) : Steps p.tables e below (T.setTop g) target := by
  obtain ⟨cl, A', r⟩ := A
  exact X.baloadBytes hx (by rw [eT]; exact A'.1) (State.isArrayOf_alike hZ.alike A'.2.1) A'.2.2 (own_inv r h0 hv) (own_at r hv) hg hs hd target hr
theorem own_ldZ (X : Stand p l e R s m args below meth c T locs cells slots) (hx : p.tables.exec = Jvm.exec) (hZ : Z.Warmed39 s.vm) (eT : T.heap = h) {a : Addr} {L : List Value} (A : own_Ar Z h a .boolean L) {j : Int32} {v : Value} (h0 : ¬ j < 0) (hv : L[j.toNatClampNeg]? = some v) {g : JFrame} (hg : g.method = m) {rest : List Value} (hs : g.stack = .int j :: .ref a :: rest) (hd : decode c.code g.pc = .ok (.baload, 1)) (target : State)
    (hr : Steps p.tables e below (T.setTop { g with pc := g.pc + 1, stack := v :: rest }) target) : Steps p.tables e below (T.setTop g) target := by
  obtain ⟨cl, A', r⟩ := A
  exact X.baloadBooleans hx (by rw [eT]; exact A'.1) (State.isArrayOf_alike hZ.alike A'.2.1) A'.2.2 (own_inv r h0 hv) (own_at r hv) hg hs hd target hr
theorem own_ldC (X : Stand p l e R s m args below meth c T locs cells slots) (hx : p.tables.exec = Jvm.exec) (hZ : Z.Warmed39 s.vm) (eT : T.heap = h) {a : Addr} {L : List Value} (A : own_Ar Z h a .char L) {j : Int32} {v : Value} (h0 : ¬ j < 0) (hv : L[j.toNatClampNeg]? = some v) {g : JFrame} (hg : g.method = m) {rest : List Value} (hs : g.stack = .int j :: .ref a :: rest) (hd : decode c.code g.pc = .ok (.caload, 1)) (target : State)
    (hr : Steps p.tables e below (T.setTop { g with pc := g.pc + 1, stack := v :: rest }) target) : Steps p.tables e below (T.setTop g) target := by
  obtain ⟨cl, A', r⟩ := A
  exact X.caload hx (by rw [eT]; exact A'.1) (State.isArrayOf_alike hZ.alike A'.2.1) A'.2.2 (own_inv r h0 hv) (own_at r hv) hg hs hd target hr
theorem own_len (X : Stand p l e R s m args below meth c T locs cells slots) (hx : p.tables.exec = Jvm.exec) (hZ : Z.Warmed39 s.vm) (eT : T.heap = h) {a : Addr} {ty : FieldType} {L : List Value} (A : own_Ar Z h a ty L) {n : Int32} (hn : L.length.toInt32 = n) {g : JFrame} (hg : g.method = m) {rest : List Value} (hs : g.stack = .ref a :: rest) (hd : decode c.code g.pc = .ok (.arraylength, 1)) (target : State)
    (hr : Steps p.tables e below (T.setTop { g with pc := g.pc + 1, stack := .int n :: rest }) target) : Steps p.tables e below (T.setTop g) target := by
  obtain ⟨cl, A', r⟩ := A
  refine X.arraylength hx (by rw [eT]; exact A'.1) (State.isArrayOf_alike hZ.alike A'.2.1) hg hs hd target ?_
  have q : cl.slots.size.toInt32 = n := by rw [← hn, ← r]; simp
  rw [q]; exact hr
theorem own_sta_keep {C n d : String} {w : Value} {ws : List Addr} (F : Sta Z h C n d w) (K : Keep h h' ws) (q : ∀ (a : Addr) (c : Cell), h[a]? = some c → c.vm.isStatics = true → a ∉ ws) : Sta Z h' C n d w := by
  obtain ⟨cf, i, k, f, st, cell, h1, h2, h3, h4, h5, h6, h7⟩ := F
  exact ⟨cf, i, k, f, st, cell, h1, h2, h3, h4, K.2.1 st cell h5 (q st cell h5 h6), h6, h7⟩
theorem own_nr {a b : Addr} (q : ¬ Value.ref a = Value.ref b) : ¬ a = b := fun r => q (congrArg Value.ref r)
end own_walk
section own_walkS
variable {p : Program} {l : Launch} {e : Env} {R : Room} {s : State} {vm0 : Vm} {kS : Nat} {m : MethodId} {args : Array Value} {below : List Frame} {meth : Method} {c : Code} {T : State} {locs : List Loc} {cells slots : Nat} {Z : State} {h h' : Heap}
def own_PW (Q : Option Value → Heap → List Loc → Prop) (s : State) (k n : Nat) (o : Outcome) (s₂ : State) : Prop :=
  ∃ v L, o = .returned v ∧ Q v s₂.heap L ∧ ReturnedEndW s o s₂ L k n
theorem own_retS {v : Option Value} {g : State} {Q : Option Value → Heap → List Loc → Prop} {k n : Nat} (X : Stand p l e R (s.setVm vm0) m args below meth c T locs cells slots) (hS : s.Since vm0 kS) (hk : kS ≤ T.heap.size) (hlk : meth.locks = false) (hv : meth.sig.returnType = none → v = none)
    (hst : ∀ fs, (∀ (f : JFrame) (acts : List Action), f.method = m → f.locked = none → f.entered = [] → (doReturn e (T.setTop f) acts v).1 = T.setFrames fs) → Steps p.tables e below g (T.setFrames fs))
    (hQ : Q v T.heap locs) (hc : cells ≤ k) (hn : slots ≤ n) : own_Fin p e below (own_PW Q s k n) g := by
  obtain ⟨fs, hr, hrun, hended, hE⟩ := X.leaveW hS hk (v := v) hv hlk
  exact ⟨_, _, hst fs hr, hrun, hended, _, _, rfl, hQ, hE.1, hE.2.1, hE.2.2.1, hE.2.2.2.mono hc hn⟩
theorem own_retWS {w : Value} {t : FieldType} {i : Instr} {pc : Nat} {Ls : Array Slot} {rest : List Value} {Q : Option Value → Heap → List Loc → Prop} {k n : Nat} (X : Stand p l e R (s.setVm vm0) m args below meth c T locs cells slots) (hS : s.Since vm0 kS) (hkS : kS ≤ T.heap.size) (hx : p.tables.exec = Jvm.exec) (hlk : meth.locks = false) (hret : meth.sig.returnType = some t) (hnw : narrow t w = w)
    (hi : (i = .ireturn ∧ (t = .int ∨ t = .boolean ∨ t = .byte ∨ t = .char ∨ t = .short) ∧ ∃ z, w = .int z) ∨ (i = .lreturn ∧ t = .long ∧ ∃ z, w = .long z) ∨ (i = .dreturn ∧ t = .double ∧ ∃ z, w = .double z) ∨ (i = .freturn ∧ t = .float ∧ ∃ z, w = .float z) ∨ (i = .areturn ∧ t.isReference = true ∧ w.isRef = true))
    (hd : decode c.code pc = .ok (i, 1)) (hQ : Q (some w) T.heap locs) (hk : cells ≤ k) (hn : slots ≤ n) : own_Fin p e below (own_PW Q s k n) (T.setTop (mkF m pc Ls (w :: rest))) :=
  own_retS X hS hkS hlk (fun q => by rw [hret] at q; cases q) (fun fs hr => retOut X hx hret hnw hi hd hr) hQ hk hn
theorem own_retIS {z : Int32} {pc : Nat} {Ls : Array Slot} {rest : List Value} {Q : Option Value → Heap → List Loc → Prop} {k n : Nat} (X : Stand p l e R (s.setVm vm0) m args below meth c T locs cells slots) (hS : s.Since vm0 kS) (hkS : kS ≤ T.heap.size) (hx : p.tables.exec = Jvm.exec) (hlk : meth.locks = false) (hret : meth.sig.returnType = some .int)
    (hd : decode c.code pc = .ok (.ireturn, 1)) (hQ : Q (some (.int z)) T.heap locs) (hk : cells ≤ k) (hn : slots ≤ n) : own_Fin p e below (own_PW Q s k n) (T.setTop (mkF m pc Ls (.int z :: rest))) :=
  own_retWS X hS hkS hx hlk hret rfl (Or.inl ⟨rfl, Or.inl rfl, z, rfl⟩) hd hQ hk hn
theorem own_retJS {z : Int64} {pc : Nat} {Ls : Array Slot} {rest : List Value} {Q : Option Value → Heap → List Loc → Prop} {k n : Nat} (X : Stand p l e R (s.setVm vm0) m args below meth c T locs cells slots) (hS : s.Since vm0 kS) (hkS : kS ≤ T.heap.size) (hx : p.tables.exec = Jvm.exec) (hlk : meth.locks = false) (hret : meth.sig.returnType = some .long)
    (hd : decode c.code pc = .ok (.lreturn, 1)) (hQ : Q (some (.long z)) T.heap locs) (hk : cells ≤ k) (hn : slots ≤ n) : own_Fin p e below (own_PW Q s k n) (T.setTop (mkF m pc Ls (.long z :: rest))) :=
  own_retWS X hS hkS hx hlk hret rfl (Or.inr (Or.inl ⟨rfl, rfl, z, rfl⟩)) hd hQ hk hn
theorem own_retAS {w : Value} {t : FieldType} {pc : Nat} {Ls : Array Slot} {rest : List Value} {Q : Option Value → Heap → List Loc → Prop} {k n : Nat} (X : Stand p l e R (s.setVm vm0) m args below meth c T locs cells slots) (hS : s.Since vm0 kS) (hkS : kS ≤ T.heap.size) (hx : p.tables.exec = Jvm.exec) (hlk : meth.locks = false) (hw : w.isRef = true) (hret : meth.sig.returnType = some t) (ht : t.isReference = true)
    (hd : decode c.code pc = .ok (.areturn, 1)) (hQ : Q (some w) T.heap locs) (hk : cells ≤ k) (hn : slots ≤ n) : own_Fin p e below (own_PW Q s k n) (T.setTop (mkF m pc Ls (w :: rest))) :=
  own_retWS X hS hkS hx hlk hret (own_nref hw) (Or.inr (Or.inr (Or.inr (Or.inr ⟨rfl, ht, hw⟩)))) hd hQ hk hn
theorem own_retBS {z : Int32} {t : FieldType} {pc : Nat} {Ls : Array Slot} {rest : List Value} {Q : Option Value → Heap → List Loc → Prop} {k n : Nat} (X : Stand p l e R (s.setVm vm0) m args below meth c T locs cells slots) (hS : s.Since vm0 kS) (hkS : kS ≤ T.heap.size) (hx : p.tables.exec = Jvm.exec) (hlk : meth.locks = false) (hret : meth.sig.returnType = some t) (ht : t = .boolean ∨ t = .byte ∨ t = .char ∨ t = .short)
    (hd : decode c.code pc = .ok (.ireturn, 1)) (hQ : Q (some (.int (nar t z))) T.heap locs) (hk : cells ≤ k) (hn : slots ≤ n) : own_Fin p e below (own_PW Q s k n) (T.setTop (mkF m pc Ls (.int z :: rest))) :=
  own_retS X hS hkS hlk (fun q => by rw [hret] at q; cases q) (fun fs hr => retN X hx hret ht hd hr) hQ hk hn
theorem own_retVS {pc : Nat} {Ls : Array Slot} {Q : Option Value → Heap → List Loc → Prop} {k n : Nat} (X : Stand p l e R (s.setVm vm0) m args below meth c T locs cells slots) (hS : s.Since vm0 kS) (hkS : kS ≤ T.heap.size) (hx : p.tables.exec = Jvm.exec) (hlk : meth.locks = false) (hret : meth.sig.returnType = none)
    (hd : decode c.code pc = .ok (.return_, 1)) (hQ : Q none T.heap locs) (hk : cells ≤ k) (hn : slots ≤ n) : own_Fin p e below (own_PW Q s k n) (T.setTop (mkF m pc Ls [])) :=
  own_retS X hS hkS hlk (fun _ => rfl) (fun fs hr => X.returnOut hx hret hd hr) hQ hk hn
end own_walkS
theorem own_pn0 : plainName "java/lang/Record" = true := by first | (simp [plainName, overriddenIn]; done) | decide +kernel
theorem own_d2_0 : decode jdk_30_method_1_code 0 = .ok (.aload_n 0, 1) := by decide +kernel
theorem own_d2_1 : decode jdk_30_method_1_code 1 = .ok (.invokespecial 1, 3) := by decide +kernel
theorem own_d2_4 : decode jdk_30_method_1_code 4 = .ok (.return_, 1) := by decide +kernel
theorem ef_own_rm2 (m : MethodId) (a1 : Addr) : entryFrame m #[(.ref a1)] 1 = mkF m 0 #[.val (.ref a1)] [] := by first | (simp [entryFrame, mkF, argsToLocals, Value.category]; done) | rfl
def own_rm2_Q (Z : State) (a1 : Addr)  (h0 : Heap) (n0 : Nat) (v : Option Value) (h : Heap) (L : List Loc) : Prop := v = none ∧ Fr n0 L ∧ h = h0
set_option maxRecDepth 65536 in
set_option maxHeartbeats 40000000 in
theorem own_rm2 (l : Launch) (Z : State) (a0 : Array Value) (hw : ∀ d ∈ tables_1, d.before a0 Z = true) (ws : List Jvm.Cond) (a1 : Addr)  (h0 : Heap) (n0 : Nat) (Z0 : n0 ≤ h0.size) :
    MetFree l (⟨"java/lang/Record", "<init>", "()V"⟩ : MethodName) (head1 (Jvm.Cond.code (⟨"java/lang/Record", "<init>", "()V"⟩ : MethodName) jdk_30_method_1_code 1 none :: ws) ({ frames := 1, cells := 0, slots := 0, locals := 12 } : Room)) (fun a U => a = #[(.ref a1)] ∧ Z.Warmed39 U.vm ∧ U.heap = h0) (fun _ _ _ _ _ => True) (fun _ U o U' => ∃ v L, o = .returned v ∧ own_rm2_Q Z a1  h0 n0 v U'.heap L ∧ FrameEnd U o U' L ({ frames := 1, cells := 0, slots := 0, locals := 12 } : Room).cells ({ frames := 1, cells := 0, slots := 0, locals := 12 } : Room).slots) := by
  refine MetFree.of_bodySF (plainFor_of_name own_pn0) hisR ?_
  intro p e s m args below meth c s₁ Bd hml0 hP hK
  obtain ⟨rfl, hZ, hh⟩ := hP
  have hx := Bd.exec
  have hby := Bd.bytes
  have hml : c.maxLocals = 1 := hml0
  have hown : s.vm.findClass "java/lang/Record" = some m.cls := findClass_of_methodNamed Bd.named
  have hnm := (name_of_methodNamed Bd.named Bd.method).1
  have hlk : meth.locks = false := BodyLoose.notSynchronized Bd
  have X0 : Stand p l e ({ frames := 1, cells := 0, slots := 0, locals := 12 } : Room) s m #[(.ref a1)] below meth c s₁ [] 0 0 := Stand.of_body Bd
  have e0 : s₁.heap = h0 := by rw [← hh, Bd.state]; rfl
  have N0 := Fr.nil n0
  have K0 : Keep h0 h0 [] := Keep.refl h0 []
  show own_Fin p e below (own_P (own_rm2_Q Z a1  h0 n0) s ({ frames := 1, cells := 0, slots := 0, locals := 12 } : Room).cells ({ frames := 1, cells := 0, slots := 0, locals := 12 } : Room).slots) (s₁.setTop (entryFrame m #[(.ref a1)] 1))
  refine own_via (g' := s₁.setTop (mkF m 0 #[.val (.ref a1)] [])) (fun t k => castTop (ef_own_rm2 m a1) k) ?_
  refine own_via (g' := s₁.setTop (mkF m 1 #[.val (.ref a1)] [(.ref a1)])) (fun t k => XS.aloadN X0.here hx rfl (hb hby own_d2_0) rfl (rfl) k) ?_
  obtain ⟨T1, X1, e1, st1⟩ := initO X0 hx hZ hown (hw _ (List.mem_of_getElem? (i := 15) rfl)) (hw _ (List.mem_of_getElem? (i := 16) rfl)) (hw _ (List.mem_of_getElem? (i := 17) rfl)) e0 (g := (mkF m 1 #[.val (.ref a1)] [(.ref a1)])) rfl (by rw [hml]; rfl) rfl (hb hby own_d2_1) (by decide) (W := 0) (by show 2 * 0 + _ ≤ _; exact Nat.le_of_eq rfl) (by decide)
  refine own_via (g' := T1.setTop (mkF m 4 #[.val (.ref a1)] [])) (fun t k => st1 _ k) ?_
  exact own_retV X1 hx hlk Bd.returns (hb hby own_d2_4) ⟨rfl, N0, e1⟩ (by decide) (by decide)
theorem own_d5_0 : decode jdk_29_method_43_code 0 = .ok (.lload_n 0, 1) := by decide +kernel
theorem own_d5_1 : decode jdk_29_method_43_code 1 = .ok (.l2i, 1) := by decide +kernel
theorem own_d5_2 : decode jdk_29_method_43_code 2 = .ok (.i2l, 1) := by decide +kernel
theorem own_d5_3 : decode jdk_29_method_43_code 3 = .ok (.lload_n 0, 1) := by decide +kernel
theorem own_d5_4 : decode jdk_29_method_43_code 4 = .ok (.lcmp, 1) := by decide +kernel
theorem own_d5_5 : decode jdk_29_method_43_code 5 = .ok (.ifCond .eq 13, 3) := by decide +kernel
theorem own_d5_18 : decode jdk_29_method_43_code 18 = .ok (.lload_n 0, 1) := by decide +kernel
theorem own_d5_19 : decode jdk_29_method_43_code 19 = .ok (.l2i, 1) := by decide +kernel
theorem own_d5_20 : decode jdk_29_method_43_code 20 = .ok (.ireturn, 1) := by decide +kernel
theorem ef_own_rm5 (m : MethodId) (q1 : Int64) : entryFrame m #[(.long q1)] 2 = mkF m 0 #[.val (.long q1), .second] [] := by first | (simp [entryFrame, mkF, argsToLocals, Value.category]; done) | rfl
def own_rm5_Q (Z : State) (q1 : Int64)  (h0 : Heap) (n0 : Nat) (v : Option Value) (h : Heap) (L : List Loc) : Prop := v = some (.int (q1.toInt32)) ∧ Fr n0 L ∧ h = h0
set_option maxRecDepth 65536 in
set_option maxHeartbeats 40000000 in
theorem own_rm5 (l : Launch) (Z : State) (a0 : Array Value) (hw : ∀ d ∈ tables_1, d.before a0 Z = true) (ws : List Jvm.Cond) (q1 : Int64)  (h0 : Heap) (n0 : Nat) (Z0 : n0 ≤ h0.size) (hq : q1.toInt32.toInt64 = q1) :
    MetFree l (⟨"java/lang/Math", "toIntExact", "(J)I"⟩ : MethodName) (head1 (Jvm.Cond.code (⟨"java/lang/Math", "toIntExact", "(J)I"⟩ : MethodName) jdk_29_method_43_code 2 (some .int) :: ws) ({ frames := 0, cells := 0, slots := 0, locals := 0 } : Room)) (fun a U => a = #[(.long q1)] ∧ Z.Warmed39 U.vm ∧ U.heap = h0) (fun _ _ _ _ _ => True) (fun _ U o U' => ∃ v L, o = .returned v ∧ own_rm5_Q Z q1  h0 n0 v U'.heap L ∧ FrameEnd U o U' L ({ frames := 0, cells := 0, slots := 0, locals := 0 } : Room).cells ({ frames := 0, cells := 0, slots := 0, locals := 0 } : Room).slots) := by
  refine MetFree.of_bodySF (Jvm.Free.JP.mathPlain rfl (by decide +kernel)) hisR ?_
  intro p e s m args below meth c s₁ Bd hml0 hP hK
  obtain ⟨rfl, hZ, hh⟩ := hP
  have hx := Bd.exec
  have hby := Bd.bytes
  have hml : c.maxLocals = 2 := hml0
  have hown : s.vm.findClass "java/lang/Math" = some m.cls := findClass_of_methodNamed Bd.named
  have hnm := (name_of_methodNamed Bd.named Bd.method).1
  have hlk : meth.locks = false := BodyLoose.notSynchronized Bd
  have X0 : Stand p l e ({ frames := 0, cells := 0, slots := 0, locals := 0 } : Room) s m #[(.long q1)] below meth c s₁ [] 0 0 := Stand.of_body Bd
  have e0 : s₁.heap = h0 := by rw [← hh, Bd.state]; rfl
  have N0 := Fr.nil n0
  have K0 : Keep h0 h0 [] := Keep.refl h0 []
  show own_Fin p e below (own_P (own_rm5_Q Z q1  h0 n0) s ({ frames := 0, cells := 0, slots := 0, locals := 0 } : Room).cells ({ frames := 0, cells := 0, slots := 0, locals := 0 } : Room).slots) (s₁.setTop (entryFrame m #[(.long q1)] 2))
  refine own_via (g' := s₁.setTop (mkF m 0 #[.val (.long q1), .second] [])) (fun t k => castTop (ef_own_rm5 m q1) k) ?_
  refine own_via (g' := s₁.setTop (mkF m 1 #[.val (.long q1), .second] [(.long q1)])) (fun t k => XT.lloadN X0.here hx rfl (hb hby own_d5_0) rfl k) ?_
  refine own_via (g' := s₁.setTop (mkF m 2 #[.val (.long q1), .second] [(.int (q1.toInt32))])) (fun t k => XT.l2i X0.here hx rfl (hb hby own_d5_1) rfl k) ?_
  refine own_via (g' := s₁.setTop (mkF m 3 #[.val (.long q1), .second] [(.long ((q1.toInt32).toInt64))])) (fun t k => XT.i2l X0.here hx rfl (hb hby own_d5_2) rfl k) ?_
  refine own_via (g' := s₁.setTop (mkF m 4 #[.val (.long q1), .second] [(.long q1), (.long ((q1.toInt32).toInt64))])) (fun t k => XT.lloadN X0.here hx rfl (hb hby own_d5_3) rfl k) ?_
  refine own_via (g' := s₁.setTop (mkF m 5 #[.val (.long q1), .second] [(.int (XT.cmpL ((q1.toInt32).toInt64) q1))])) (fun t k => XT.lcmp X0.here hx rfl (hb hby own_d5_4) rfl k) ?_
  refine own_via (g' := s₁.setTop (mkF m 18 #[.val (.long q1), .second] [])) (fun t k => XS.ifYes X0.here hx rfl (pc0 := 5) (pc' := 18) rfl (hb hby own_d5_5) rfl (XT.ll_eq_t hq) (by decide) (by decide) k) ?_
  refine own_via (g' := s₁.setTop (mkF m 19 #[.val (.long q1), .second] [(.long q1)])) (fun t k => XT.lloadN X0.here hx rfl (hb hby own_d5_18) rfl k) ?_
  refine own_via (g' := s₁.setTop (mkF m 20 #[.val (.long q1), .second] [(.int (q1.toInt32))])) (fun t k => XT.l2i X0.here hx rfl (hb hby own_d5_19) rfl k) ?_
  exact own_retI X0 hx hlk Bd.returns (hb hby own_d5_20) ⟨rfl, N0, e0⟩ (by decide) (by decide)
theorem own_pn1 : plainName "com/example/planwright/planwright/service/ServiceYears" = true := by first | (simp [plainName, overriddenIn]; done) | decide +kernel
theorem own_pd0 : parseMethodDescriptor "()V" = some ⟨[], none⟩ := by decide +kernel
theorem own_d1_0 : decode prog_66_method_1_code 0 = .ok (.aload_n 0, 1) := by decide +kernel
theorem own_d1_1 : decode prog_66_method_1_code 1 = .ok (.invokespecial 1, 3) := by decide +kernel
theorem own_d1_4 : decode prog_66_method_1_code 4 = .ok (.lload_n 1, 1) := by decide +kernel
theorem own_d1_5 : decode prog_66_method_1_code 5 = .ok (.lconst 0, 1) := by decide +kernel
theorem own_d1_6 : decode prog_66_method_1_code 6 = .ok (.lcmp, 1) := by decide +kernel
theorem own_d1_7 : decode prog_66_method_1_code 7 = .ok (.ifCond .ge 17, 3) := by decide +kernel
theorem own_d1_24 : decode prog_66_method_1_code 24 = .ok (.iload_n 3, 1) := by decide +kernel
theorem own_d1_25 : decode prog_66_method_1_code 25 = .ok (.iconst 1, 1) := by decide +kernel
theorem own_d1_26 : decode prog_66_method_1_code 26 = .ok (.if_icmp .ge 17, 3) := by decide +kernel
theorem own_d1_43 : decode prog_66_method_1_code 43 = .ok (.aload_n 0, 1) := by decide +kernel
theorem own_d1_44 : decode prog_66_method_1_code 44 = .ok (.lload_n 1, 1) := by decide +kernel
theorem own_d1_45 : decode prog_66_method_1_code 45 = .ok (.putfield 19, 3) := by decide +kernel
theorem own_d1_48 : decode prog_66_method_1_code 48 = .ok (.aload_n 0, 1) := by decide +kernel
theorem own_d1_49 : decode prog_66_method_1_code 49 = .ok (.iload_n 3, 1) := by decide +kernel
theorem own_d1_50 : decode prog_66_method_1_code 50 = .ok (.putfield 25, 3) := by decide +kernel
theorem own_d1_53 : decode prog_66_method_1_code 53 = .ok (.return_, 1) := by decide +kernel
theorem ef_own_rm1 (m : MethodId) (a1 : Addr) (q1 : Int64) (p1 : Int32) : entryFrame m #[(.ref a1), (.long q1), (.int p1)] 4 = mkF m 0 #[.val (.ref a1), .val (.long q1), .second, .val (.int p1)] [] := by first | (simp [entryFrame, mkF, argsToLocals, Value.category]; done) | rfl
def own_rm1_Q (Z : State) (a1 : Addr) (q1 : Int64) (p1 : Int32)  (h0 : Heap) (n0 : Nat) (v : Option Value) (h : Heap) (L : List Loc) : Prop := v = none ∧ Fr n0 L ∧ Keep h0 h [a1] ∧ Exa Z h a1 "com/example/planwright/planwright/service/ServiceYears" ∧ Fld Z h a1 "com/example/planwright/planwright/service/ServiceYears" "days" "J" (.long q1) ∧ Fld Z h a1 "com/example/planwright/planwright/service/ServiceYears" "daysPerYear" "I" (.int p1)
set_option maxRecDepth 65536 in
set_option maxHeartbeats 40000000 in
theorem own_rm1 (l : Launch) (Z : State) (a0 : Array Value) (hw : ∀ d ∈ tables_1, d.before a0 Z = true) (ws : List Jvm.Cond) (a1 : Addr) (q1 : Int64) (p1 : Int32)  (h0 : Heap) (n0 : Nat) (Z0 : n0 ≤ h0.size) (E_a1 : Exa Z h0 a1 "com/example/planwright/planwright/service/ServiceYears") (Fi_0 : Fld Z h0 a1 "com/example/planwright/planwright/service/ServiceYears" "days" "J" (.long (0 : Int64))) (Fi_1 : Fld Z h0 a1 "com/example/planwright/planwright/service/ServiceYears" "daysPerYear" "I" (.int (0 : Int32))) (g_a1 : n0 ≤ a1) (hq : ¬ q1 < 0) (hp : ¬ p1 < 1) :
    MetFree l (⟨"com/example/planwright/planwright/service/ServiceYears", "<init>", "(JI)V"⟩ : MethodName) (head1 (Jvm.Cond.code (⟨"com/example/planwright/planwright/service/ServiceYears", "<init>", "(JI)V"⟩ : MethodName) prog_66_method_1_code 4 none :: ws) ({ frames := 2, cells := 0, slots := 0, locals := 24 } : Room)) (fun a U => a = #[(.ref a1), (.long q1), (.int p1)] ∧ Z.Warmed39 U.vm ∧ U.heap = h0) (fun _ _ _ _ _ => True) (fun _ U o U' => ∃ v L, o = .returned v ∧ own_rm1_Q Z a1 q1 p1  h0 n0 v U'.heap L ∧ FrameEnd U o U' L ({ frames := 2, cells := 0, slots := 0, locals := 24 } : Room).cells ({ frames := 2, cells := 0, slots := 0, locals := 24 } : Room).slots) := by
  refine MetFree.of_bodySF (plainFor_of_name own_pn1) hisR ?_
  intro p e s m args below meth c s₁ Bd hml0 hP hK
  obtain ⟨rfl, hZ, hh⟩ := hP
  have hx := Bd.exec
  have hby := Bd.bytes
  have hml : c.maxLocals = 4 := hml0
  have hown : s.vm.findClass "com/example/planwright/planwright/service/ServiceYears" = some m.cls := findClass_of_methodNamed Bd.named
  have hnm := (name_of_methodNamed Bd.named Bd.method).1
  have hlk : meth.locks = false := BodyLoose.notSynchronized Bd
  have X0 : Stand p l e ({ frames := 2, cells := 0, slots := 0, locals := 24 } : Room) s m #[(.ref a1), (.long q1), (.int p1)] below meth c s₁ [] 0 0 := Stand.of_body Bd
  have e0 : s₁.heap = h0 := by rw [← hh, Bd.state]; rfl
  have N0 := Fr.nil n0
  have K0 : Keep h0 h0 [a1] := Keep.refl h0 [a1]
  show own_Fin p e below (own_P (own_rm1_Q Z a1 q1 p1  h0 n0) s ({ frames := 2, cells := 0, slots := 0, locals := 24 } : Room).cells ({ frames := 2, cells := 0, slots := 0, locals := 24 } : Room).slots) (s₁.setTop (entryFrame m #[(.ref a1), (.long q1), (.int p1)] 4))
  refine own_via (g' := s₁.setTop (mkF m 0 #[.val (.ref a1), .val (.long q1), .second, .val (.int p1)] [])) (fun t k => castTop (ef_own_rm1 m a1 q1 p1) k) ?_
  refine own_via (g' := s₁.setTop (mkF m 1 #[.val (.ref a1), .val (.long q1), .second, .val (.int p1)] [(.ref a1)])) (fun t k => XS.aloadN X0.here hx rfl (hb hby own_d1_0) rfl (rfl) k) ?_
  obtain ⟨v1, _, ⟨T1, L1, k1, n1⟩, -, X1, ⟨Lc1, hQ1, l1, y1, z1⟩, st1⟩ := X0.specialBack hx (y := (⟨"java/lang/Record", "<init>", "()V"⟩ : MethodName)) rfl hown (mvT hZ (hw _ (List.mem_of_getElem? (i := 10) rfl))) (mvT hZ (hw _ (List.mem_of_getElem? (i := 11) rfl))) (mvT hZ (hw _ (List.mem_of_getElem? (i := 14) rfl))) (by decide) (backOf (W := 0) (own_rm2 l Z a0 hw [] a1 h0 n0 (Nat.le_trans Z0 K0.1) ) hZ (hw _ (List.mem_of_getElem? (i := 14) rfl)) (hw _ (List.mem_of_getElem? (i := 13) rfl)) (by decide) (by decide)) (g := (mkF m 1 #[.val (.ref a1), .val (.long q1), .second, .val (.int p1)] [(.ref a1)])) rfl (by rw [hml]; rfl) (Steps.refl _) (a := a1) (argsL := []) (rest := []) (lenOf own_pd0 rfl) rfl (by show 2 * 0 + _ ≤ _; exact Nat.le_of_eq rfl) (hb hby own_d1_1) (fun _ _ => ⟨rfl, e0, (by decide : 0 + 0 ≤ _), (by decide : 0 + 0 ≤ _)⟩)
  dsimp only [Pt.U, Pt.locs, Pt.cells, Pt.slots] at X1 l1 y1 z1 st1 hQ1
  subst l1 y1 z1
  obtain ⟨rfl, N1q, e1⟩ := hQ1
  have N1 := Fr.app N0 N1q
  refine own_via (g' := T1.setTop (mkF m 4 #[.val (.ref a1), .val (.long q1), .second, .val (.int p1)] [])) (fun t k => st1.trans k) ?_
  refine own_via (g' := T1.setTop (mkF m 5 #[.val (.ref a1), .val (.long q1), .second, .val (.int p1)] [(.long q1)])) (fun t k => XT.lloadN X1.here hx rfl (hb hby own_d1_4) rfl k) ?_
  refine own_via (g' := T1.setTop (mkF m 6 #[.val (.ref a1), .val (.long q1), .second, .val (.int p1)] [(.long (0 : Int64)), (.long q1)])) (fun t k => XT.lconst X1.here hx rfl (hb hby own_d1_5) k) ?_
  refine own_via (g' := T1.setTop (mkF m 7 #[.val (.ref a1), .val (.long q1), .second, .val (.int p1)] [(.int (XT.cmpL q1 (0 : Int64)))])) (fun t k => XT.lcmp X1.here hx rfl (hb hby own_d1_6) rfl k) ?_
  refine own_via (g' := T1.setTop (mkF m 24 #[.val (.ref a1), .val (.long q1), .second, .val (.int p1)] [])) (fun t k => XS.ifYes X1.here hx rfl (pc0 := 7) (pc' := 24) rfl (hb hby own_d1_7) rfl (XT.ll_ge_t hq) (by decide) (by decide) k) ?_
  refine own_via (g' := T1.setTop (mkF m 25 #[.val (.ref a1), .val (.long q1), .second, .val (.int p1)] [(.int p1)])) (fun t k => XS.iloadN X1.here hx rfl (hb hby own_d1_24) rfl k) ?_
  refine own_via (g' := T1.setTop (mkF m 26 #[.val (.ref a1), .val (.long q1), .second, .val (.int p1)] [(.int (1 : Int32)), (.int p1)])) (fun t k => XS.iconst X1.here hx rfl (hb hby own_d1_25) k) ?_
  refine own_via (g' := T1.setTop (mkF m 43 #[.val (.ref a1), .val (.long q1), .second, .val (.int p1)] [])) (fun t k => XS.icmpYes X1.here hx rfl (pc0 := 26) (pc' := 43) rfl (hb hby own_d1_26) rfl (XT.ii_ge_t hp) (by decide) (by decide) k) ?_
  refine own_via (g' := T1.setTop (mkF m 44 #[.val (.ref a1), .val (.long q1), .second, .val (.int p1)] [(.ref a1)])) (fun t k => XS.aloadN X1.here hx rfl (hb hby own_d1_43) rfl (rfl) k) ?_
  refine own_via (g' := T1.setTop (mkF m 45 #[.val (.ref a1), .val (.long q1), .second, .val (.int p1)] [(.long q1), (.ref a1)])) (fun t k => XT.lloadN X1.here hx rfl (hb hby own_d1_44) rfl k) ?_
  obtain ⟨T2, h2, X2, e2, W2, st2⟩ := putF X1 hx hZ hown (host := "") (Or.inl (hw _ (List.mem_of_getElem? (i := 18) rfl))) Via.refl e1 Fi_0 E_a1 (Or.inr ⟨(hw _ (List.mem_of_getElem? (i := 19) rfl)), rfl, hnm⟩) (hw _ (List.mem_of_getElem? (i := 5) rfl)) (ty := .long) (by decide) rfl rfl (g := (mkF m 45 #[.val (.ref a1), .val (.long q1), .second, .val (.int p1)] [(.long q1), (.ref a1)])) rfl rfl (hb hby own_d1_45)
  have F2 : Fld Z h2 a1 "com/example/planwright/planwright/service/ServiceYears" "days" "J" (.long q1) := Fi_0.same W2
  have Kc2 : Keep h0 h2 [a1] := K0.wr W2 (Or.inl (List.mem_of_getElem? (i := 0) rfl))
  have N2 := Fr.snoc X2 N1 g_a1
  refine own_via (g' := T2.setTop (mkF m 48 #[.val (.ref a1), .val (.long q1), .second, .val (.int p1)] [])) (fun t k => st2 _ k) ?_
  refine own_via (g' := T2.setTop (mkF m 49 #[.val (.ref a1), .val (.long q1), .second, .val (.int p1)] [(.ref a1)])) (fun t k => XS.aloadN X2.here hx rfl (hb hby own_d1_48) rfl (rfl) k) ?_
  refine own_via (g' := T2.setTop (mkF m 50 #[.val (.ref a1), .val (.long q1), .second, .val (.int p1)] [(.int p1), (.ref a1)])) (fun t k => XS.iloadN X2.here hx rfl (hb hby own_d1_49) rfl k) ?_
  obtain ⟨T3, h3, X3, e3, W3, st3⟩ := putF X2 hx hZ hown (host := "") (Or.inl (hw _ (List.mem_of_getElem? (i := 20) rfl))) Via.refl e2 (Fi_1.other W2 (Or.inr (slot_ne (Or.inr (hw _ (List.mem_of_getElem? (i := 21) rfl))) (Or.inr (hw _ (List.mem_of_getElem? (i := 19) rfl))) (by decide) (t := .int) (t' := .long) (by decide) (by decide)))) (E_a1.wr W2) (Or.inr ⟨(hw _ (List.mem_of_getElem? (i := 21) rfl)), rfl, hnm⟩) (hw _ (List.mem_of_getElem? (i := 5) rfl)) (ty := .int) (by decide) rfl rfl (g := (mkF m 50 #[.val (.ref a1), .val (.long q1), .second, .val (.int p1)] [(.int p1), (.ref a1)])) rfl rfl (hb hby own_d1_50)
  have F3 : Fld Z h3 a1 "com/example/planwright/planwright/service/ServiceYears" "daysPerYear" "I" (.int p1) := (Fi_1.other W2 (Or.inr (slot_ne (Or.inr (hw _ (List.mem_of_getElem? (i := 21) rfl))) (Or.inr (hw _ (List.mem_of_getElem? (i := 19) rfl))) (by decide) (t := .int) (t' := .long) (by decide) (by decide)))).same W3
  have Kc3 : Keep h0 h3 [a1] := Kc2.wr W3 (Or.inl (List.mem_of_getElem? (i := 0) rfl))
  have N3 := Fr.snoc X3 N2 g_a1
  refine own_via (g' := T3.setTop (mkF m 53 #[.val (.ref a1), .val (.long q1), .second, .val (.int p1)] [])) (fun t k => st3 _ k) ?_
  have eE : T3.heap = h3 := e3
  exact own_retV X3 hx hlk Bd.returns (hb hby own_d1_53) ⟨rfl, N3, (by rw [eE]; exact Kc3), (by rw [eE]; exact ((E_a1.wr W2).wr W3)), (by rw [eE]; exact (F2.other W3 (Or.inr (slot_ne (Or.inr (hw _ (List.mem_of_getElem? (i := 19) rfl))) (Or.inr (hw _ (List.mem_of_getElem? (i := 21) rfl))) (by decide) (t := .long) (t' := .int) (by decide) (by decide))))), (by rw [eE]; exact F3)⟩ (by decide) (by decide)
theorem own_pd1 : parseMethodDescriptor "(J)I" = some ⟨[.long], some .int⟩ := by decide +kernel
theorem own_d4_0 : decode prog_66_method_4_code 0 = .ok (.aload_n 0, 1) := by decide +kernel
theorem own_d4_1 : decode prog_66_method_4_code 1 = .ok (.getfield 19, 3) := by decide +kernel
theorem own_d4_4 : decode prog_66_method_4_code 4 = .ok (.ldc2_w 49, 3) := by decide +kernel
theorem own_d4_7 : decode prog_66_method_4_code 7 = .ok (.lmul, 1) := by decide +kernel
theorem own_d4_8 : decode prog_66_method_4_code 8 = .ok (.aload_n 0, 1) := by decide +kernel
theorem own_d4_9 : decode prog_66_method_4_code 9 = .ok (.getfield 25, 3) := by decide +kernel
theorem own_d4_12 : decode prog_66_method_4_code 12 = .ok (.i2l, 1) := by decide +kernel
theorem own_d4_13 : decode prog_66_method_4_code 13 = .ok (.ldiv, 1) := by decide +kernel
theorem own_d4_14 : decode prog_66_method_4_code 14 = .ok (.invokestatic 43, 3) := by decide +kernel
theorem own_d4_17 : decode prog_66_method_4_code 17 = .ok (.ireturn, 1) := by decide +kernel
theorem ef_own_rm4 (m : MethodId) (a1 : Addr) : entryFrame m #[(.ref a1)] 1 = mkF m 0 #[.val (.ref a1)] [] := by first | (simp [entryFrame, mkF, argsToLocals, Value.category]; done) | rfl
def own_rm4_Q (Z : State) (a1 : Addr) (q1 : Int64) (p1 : Int32) (h0 : Heap) (n0 : Nat) (v : Option Value) (h : Heap) (L : List Loc) : Prop := v = some (.int (((q1 * (12 : Int64)) / p1.toInt64).toInt32)) ∧ Fr n0 L ∧ h = h0
set_option maxRecDepth 65536 in
set_option maxHeartbeats 40000000 in
theorem own_rm4 (l : Launch) (Z : State) (a0 : Array Value) (hw : ∀ d ∈ tables_1, d.before a0 Z = true) (ws : List Jvm.Cond) (a1 : Addr) (q1 : Int64) (p1 : Int32) (h0 : Heap) (n0 : Nat) (Z0 : n0 ≤ h0.size) (Fi_0 : Fld Z h0 a1 "com/example/planwright/planwright/service/ServiceYears" "days" "J" (.long q1)) (Fi_1 : Fld Z h0 a1 "com/example/planwright/planwright/service/ServiceYears" "daysPerYear" "I" (.int p1)) (hp : p1.toInt64 ≠ 0) (hx32 : ((q1 * (12 : Int64)) / p1.toInt64).toInt32.toInt64 = (q1 * (12 : Int64)) / p1.toInt64) :
    MetFree l (⟨"com/example/planwright/planwright/service/ServiceYears", "completedMonths", "()I"⟩ : MethodName) (head1 (Jvm.Cond.code (⟨"com/example/planwright/planwright/service/ServiceYears", "completedMonths", "()I"⟩ : MethodName) prog_66_method_4_code 1 (some .int) :: ws) ({ frames := 1, cells := 0, slots := 0, locals := 13 } : Room)) (fun a U => a = #[(.ref a1)] ∧ Z.Warmed39 U.vm ∧ U.heap = h0) (fun _ _ _ _ _ => True) (fun _ U o U' => ∃ v L, o = .returned v ∧ own_rm4_Q Z a1 q1 p1 h0 n0 v U'.heap L ∧ FrameEnd U o U' L ({ frames := 1, cells := 0, slots := 0, locals := 13 } : Room).cells ({ frames := 1, cells := 0, slots := 0, locals := 13 } : Room).slots) := by
  refine MetFree.of_bodySF (plainFor_of_name own_pn1) hisR ?_
  intro p e s m args below meth c s₁ Bd hml0 hP hK
  obtain ⟨rfl, hZ, hh⟩ := hP
  have hx := Bd.exec
  have hby := Bd.bytes
  have hml : c.maxLocals = 1 := hml0
  have hown : s.vm.findClass "com/example/planwright/planwright/service/ServiceYears" = some m.cls := findClass_of_methodNamed Bd.named
  have hnm := (name_of_methodNamed Bd.named Bd.method).1
  have hlk : meth.locks = false := BodyLoose.notSynchronized Bd
  have X0 : Stand p l e ({ frames := 1, cells := 0, slots := 0, locals := 13 } : Room) s m #[(.ref a1)] below meth c s₁ [] 0 0 := Stand.of_body Bd
  have e0 : s₁.heap = h0 := by rw [← hh, Bd.state]; rfl
  have N0 := Fr.nil n0
  have K0 : Keep h0 h0 [] := Keep.refl h0 []
  show own_Fin p e below (own_P (own_rm4_Q Z a1 q1 p1 h0 n0) s ({ frames := 1, cells := 0, slots := 0, locals := 13 } : Room).cells ({ frames := 1, cells := 0, slots := 0, locals := 13 } : Room).slots) (s₁.setTop (entryFrame m #[(.ref a1)] 1))
  refine own_via (g' := s₁.setTop (mkF m 0 #[.val (.ref a1)] [])) (fun t k => castTop (ef_own_rm4 m a1) k) ?_
  refine own_via (g' := s₁.setTop (mkF m 1 #[.val (.ref a1)] [(.ref a1)])) (fun t k => XS.aloadN X0.here hx rfl (hb hby own_d4_0) rfl (rfl) k) ?_
  obtain ⟨T1, X1, e1, st1⟩ := getF X0 hx hZ hown (host := "") (Or.inl (hw _ (List.mem_of_getElem? (i := 18) rfl))) Via.refl e0 Fi_0 (g := (mkF m 1 #[.val (.ref a1)] [(.ref a1)])) rfl rfl (hb hby own_d4_1)
  refine own_via (g' := T1.setTop (mkF m 4 #[.val (.ref a1)] [(.long q1)])) (fun t k => st1 _ k) ?_
  refine own_via (g' := T1.setTop (mkF m 7 #[.val (.ref a1)] [(.long (12 : Int64)), (.long q1)])) (fun t k => X1.ldc2Long hx hown (mvT hZ (hw _ (List.mem_of_getElem? (i := 27) rfl))) (g := (mkF m 4 #[.val (.ref a1)] [(.long q1)])) rfl (hb hby own_d4_4) _ k) ?_
  refine own_via (g' := T1.setTop (mkF m 8 #[.val (.ref a1)] [(.long (q1 * (12 : Int64)))])) (fun t k => XT.lmul X1.here hx rfl (hb hby own_d4_7) rfl k) ?_
  refine own_via (g' := T1.setTop (mkF m 9 #[.val (.ref a1)] [(.ref a1), (.long (q1 * (12 : Int64)))])) (fun t k => XS.aloadN X1.here hx rfl (hb hby own_d4_8) rfl (rfl) k) ?_
  obtain ⟨T2, X2, e2, st2⟩ := getF X1 hx hZ hown (host := "") (Or.inl (hw _ (List.mem_of_getElem? (i := 20) rfl))) Via.refl e1 Fi_1 (g := (mkF m 9 #[.val (.ref a1)] [(.ref a1), (.long (q1 * (12 : Int64)))])) rfl rfl (hb hby own_d4_9)
  refine own_via (g' := T2.setTop (mkF m 12 #[.val (.ref a1)] [(.int p1), (.long (q1 * (12 : Int64)))])) (fun t k => st2 _ k) ?_
  refine own_via (g' := T2.setTop (mkF m 13 #[.val (.ref a1)] [(.long (p1.toInt64)), (.long (q1 * (12 : Int64)))])) (fun t k => XT.i2l X2.here hx rfl (hb hby own_d4_12) rfl k) ?_
  refine own_via (g' := T2.setTop (mkF m 14 #[.val (.ref a1)] [(.long ((q1 * (12 : Int64)) / (p1.toInt64)))])) (fun t k => XT.ldiv X2.here hx rfl (hb hby own_d4_13) rfl hp k) ?_
  obtain ⟨v3, _, ⟨T3, L3, k3, n3⟩, -, X3, ⟨Lc3, hQ3, l3, y3, z3⟩, st3⟩ := Jvm.LawKit.callS X2 hx (y := (⟨"java/lang/Math", "toIntExact", "(J)I"⟩ : MethodName)) hown (mvT hZ (hw _ (List.mem_of_getElem? (i := 28) rfl))) (mvT hZ (hw _ (List.mem_of_getElem? (i := 29) rfl))) (mvT hZ (hw _ (List.mem_of_getElem? (i := 30) rfl))) (mvT hZ (hw _ (List.mem_of_getElem? (i := 31) rfl))) (by decide) (backOf (W := 0) (own_rm5 l Z a0 hw [] ((q1 * (12 : Int64)) / (p1.toInt64)) h0 n0 (Nat.le_trans Z0 K0.1) hx32) hZ (hw _ (List.mem_of_getElem? (i := 31) rfl)) (hw _ (List.mem_of_getElem? (i := 30) rfl)) (by decide) (by decide)) (g := (mkF m 14 #[.val (.ref a1)] [(.long ((q1 * (12 : Int64)) / (p1.toInt64)))])) rfl (by rw [hml]; rfl) (argsL := [(.long ((q1 * (12 : Int64)) / (p1.toInt64)))]) (rest := []) (lenOf own_pd1 rfl) rfl (by show 2 * 0 + _ ≤ _; exact Nat.le_of_eq rfl) (hb hby own_d4_14) (fun _ _ => ⟨rfl, e2, (by decide : 0 + 0 ≤ _), (by decide : 0 + 0 ≤ _)⟩)
  dsimp only [Pt.U, Pt.locs, Pt.cells, Pt.slots] at X3 l3 y3 z3 st3 hQ3
  subst l3 y3 z3
  obtain ⟨rfl, N3q, e3⟩ := hQ3
  have N3 := Fr.app N0 N3q
  refine own_via (g' := T3.setTop (mkF m 17 #[.val (.ref a1)] [(.int (((q1 * (12 : Int64)) / (p1.toInt64)).toInt32))])) (fun t k => st3 _ k) ?_
  exact own_retI X3 hx hlk Bd.returns (hb hby own_d4_17) ⟨rfl, N3, e3⟩ (by decide) (by decide)
def own_max (a b : Int32) : Int32 := if a < b then b else a
theorem own_d6_0 : decode jdk_29_method_65_code 0 = .ok (.iload_n 0, 1) := by decide +kernel
theorem own_d6_1 : decode jdk_29_method_65_code 1 = .ok (.iload_n 1, 1) := by decide +kernel
theorem own_d6_2 : decode jdk_29_method_65_code 2 = .ok (.if_icmp .lt 7, 3) := by decide +kernel
theorem own_d6_5 : decode jdk_29_method_65_code 5 = .ok (.iload_n 0, 1) := by decide +kernel
theorem own_d6_6 : decode jdk_29_method_65_code 6 = .ok (.goto 4, 3) := by decide +kernel
theorem own_d6_9 : decode jdk_29_method_65_code 9 = .ok (.iload_n 1, 1) := by decide +kernel
theorem own_d6_10 : decode jdk_29_method_65_code 10 = .ok (.ireturn, 1) := by decide +kernel
theorem ef_own_rm6 (m : MethodId) (p1 : Int32) (p2 : Int32) : entryFrame m #[(.int p1), (.int p2)] 2 = mkF m 0 #[.val (.int p1), .val (.int p2)] [] := by first | (simp [entryFrame, mkF, argsToLocals, Value.category]; done) | rfl
def own_rm6_Q (Z : State) (p1 : Int32) (p2 : Int32)  (h0 : Heap) (n0 : Nat) (v : Option Value) (h : Heap) (L : List Loc) : Prop := v = some (.int (own_max p1 p2)) ∧ Fr n0 L ∧ h = h0
set_option maxRecDepth 65536 in
set_option maxHeartbeats 40000000 in
theorem own_rm6 (l : Launch) (Z : State) (a0 : Array Value) (hw : ∀ d ∈ tables_1, d.before a0 Z = true) (ws : List Jvm.Cond) (p1 : Int32) (p2 : Int32)  (h0 : Heap) (n0 : Nat) (Z0 : n0 ≤ h0.size) :
    MetFree l (⟨"java/lang/Math", "max", "(II)I"⟩ : MethodName) (head1 (Jvm.Cond.code (⟨"java/lang/Math", "max", "(II)I"⟩ : MethodName) jdk_29_method_65_code 2 (some .int) :: ws) ({ frames := 0, cells := 0, slots := 0, locals := 0 } : Room)) (fun a U => a = #[(.int p1), (.int p2)] ∧ Z.Warmed39 U.vm ∧ U.heap = h0) (fun _ _ _ _ _ => True) (fun _ U o U' => ∃ v L, o = .returned v ∧ own_rm6_Q Z p1 p2  h0 n0 v U'.heap L ∧ FrameEnd U o U' L ({ frames := 0, cells := 0, slots := 0, locals := 0 } : Room).cells ({ frames := 0, cells := 0, slots := 0, locals := 0 } : Room).slots) := by
  refine MetFree.of_bodySF (Jvm.Free.JP.mathPlain rfl (by decide +kernel)) hisR ?_
  intro p e s m args below meth c s₁ Bd hml0 hP hK
  obtain ⟨rfl, hZ, hh⟩ := hP
  have hx := Bd.exec
  have hby := Bd.bytes
  have hml : c.maxLocals = 2 := hml0
  have hown : s.vm.findClass "java/lang/Math" = some m.cls := findClass_of_methodNamed Bd.named
  have hnm := (name_of_methodNamed Bd.named Bd.method).1
  have hlk : meth.locks = false := BodyLoose.notSynchronized Bd
  have X0 : Stand p l e ({ frames := 0, cells := 0, slots := 0, locals := 0 } : Room) s m #[(.int p1), (.int p2)] below meth c s₁ [] 0 0 := Stand.of_body Bd
  have e0 : s₁.heap = h0 := by rw [← hh, Bd.state]; rfl
  have N0 := Fr.nil n0
  have K0 : Keep h0 h0 [] := Keep.refl h0 []
  show own_Fin p e below (own_P (own_rm6_Q Z p1 p2  h0 n0) s ({ frames := 0, cells := 0, slots := 0, locals := 0 } : Room).cells ({ frames := 0, cells := 0, slots := 0, locals := 0 } : Room).slots) (s₁.setTop (entryFrame m #[(.int p1), (.int p2)] 2))
  refine own_via (g' := s₁.setTop (mkF m 0 #[.val (.int p1), .val (.int p2)] [])) (fun t k => castTop (ef_own_rm6 m p1 p2) k) ?_
  refine own_via (g' := s₁.setTop (mkF m 1 #[.val (.int p1), .val (.int p2)] [(.int p1)])) (fun t k => XS.iloadN X0.here hx rfl (hb hby own_d6_0) rfl k) ?_
  refine own_via (g' := s₁.setTop (mkF m 2 #[.val (.int p1), .val (.int p2)] [(.int p2), (.int p1)])) (fun t k => XS.iloadN X0.here hx rfl (hb hby own_d6_1) rfl k) ?_
  by_cases hc2_1 : p1 < p2
  · refine own_via (g' := s₁.setTop (mkF m 9 #[.val (.int p1), .val (.int p2)] [])) (fun t k => XS.icmpYes X0.here hx rfl (pc0 := 2) (pc' := 9) rfl (hb hby own_d6_2) rfl (XT.ii_lt_t hc2_1) (by decide) (by decide) k) ?_
    refine own_via (g' := s₁.setTop (mkF m 10 #[.val (.int p1), .val (.int p2)] [(.int p2)])) (fun t k => XS.iloadN X0.here hx rfl (hb hby own_d6_9) rfl k) ?_
    exact own_retI X0 hx hlk Bd.returns (hb hby own_d6_10) ⟨(by rw [own_max, if_pos hc2_1]), N0, e0⟩ (by decide) (by decide)
  · refine own_via (g' := s₁.setTop (mkF m 5 #[.val (.int p1), .val (.int p2)] [])) (fun t k => XS.icmpNo X0.here hx rfl (hb hby own_d6_2) rfl (XT.ii_lt_f hc2_1) k) ?_
    refine own_via (g' := s₁.setTop (mkF m 6 #[.val (.int p1), .val (.int p2)] [(.int p1)])) (fun t k => XS.iloadN X0.here hx rfl (hb hby own_d6_5) rfl k) ?_
    refine own_via (g' := s₁.setTop (mkF m 10 #[.val (.int p1), .val (.int p2)] [(.int p1)])) (fun t k => XS.goto X0.here hx rfl (pc0 := 6) (pc' := 10) rfl (hb hby own_d6_6) (by decide) (by decide) k) ?_
    exact own_retI X0 hx hlk Bd.returns (hb hby own_d6_10) ⟨(by rw [own_max, if_neg hc2_1]), N0, e0⟩ (by decide) (by decide)
theorem own_mask {i q : Int32} (h : i &&& 2147483647 = q) : 0 ≤ q.toInt := by
  subst h; exact (c_andS i 2147483647).2.2 (by decide)
theorem own_pos {d : Int32} (h : 0 ≤ d.toInt) (h0 : ¬ d = 0) : 0 < d.toInt := by
  have : d.toInt ≠ 0 := fun q => h0 (Int32.toInt_inj.mp (by rw [q]; rfl))
  omega
theorem own_ge1 {d : Int32} (h : 0 < d.toInt) : ¬ d < 1 := by
  rw [Int32.lt_iff_toInt_lt]; have : (1 : Int32).toInt = 1 := rfl; omega
theorem own_nz {d : Int32} (h : 0 < d.toInt) : d.toInt64 ≠ 0 := fun q => by
  have := congrArg Int64.toInt q; rw [c_i2l] at this; have z : (0 : Int64).toInt = 0 := rfl; omega
theorem own_ne1 {d : Int32} (h : 0 < d.toInt) : d.toInt64 ≠ -1 := fun q => by
  have := congrArg Int64.toInt q; rw [c_i2l] at this; have z : (-1 : Int64).toInt = -1 := rfl; omega
theorem own_dpy1 (c : Int32) : 0 < ((c &&& 1023) + 1).toInt := by
  have h := c_and c 1023 (by decide)
  have e : (1023 : Int32).toInt = 1023 := rfl
  have e1 : (1 : Int32).toInt = 1 := rfl
  rw [XT.add32 ⟨by omega, by omega⟩]; omega
theorem own_dpy2 (c : Int32) : 0 < (own_max 1 c).toInt := by
  have e1 : (1 : Int32).toInt = 1 := rfl
  unfold own_max
  split
  · rename_i h; rw [Int32.lt_iff_toInt_lt] at h; omega
  · decide
theorem own_law (a b d : Int32) (ha : 0 ≤ a.toInt) (hb : 0 ≤ b.toInt) (hd : 0 < d.toInt) {q r days tw : Int64}
    (hq : (a % 178956971).toInt64 = q) (hr : (b % d).toInt64 = r) (hdays : q * d.toInt64 + r = days) (htw : days * 12 = tw) (hlt : tw < 2147483648 * d.toInt64) :
    ¬ days < 0 ∧ ¬ d < 1 ∧ d.toInt64 ≠ 0 ∧ (tw / d.toInt64).toInt32.toInt64 = tw / d.toInt64 ∧
    ¬ tw < (tw / d.toInt64).toInt32.toInt64 * d.toInt64 ∧ tw < ((tw / d.toInt64).toInt32.toInt64 + 1) * d.toInt64 := by
  have hm := (c_irem b d d.toInt rfl).1 hb
  have h1 := Int.emod_nonneg b.toInt (by omega : d.toInt ≠ 0)
  have h2 := Int.emod_lt_of_pos b.toInt hd
  have hm2 := (c_irem a 178956971 178956971 rfl).1 ha
  have h3 := Int.emod_nonneg a.toInt (by decide : (178956971 : Int) ≠ 0)
  have h4 := Int.emod_lt_of_pos a.toInt (by decide : (0 : Int) < 178956971)
  have d1 := rng32 d
  have eq : q.toInt = a.toInt % 178956971 := by rw [← hq, c_i2l, hm2]
  have er : r.toInt = b.toInt % d.toInt := by rw [← hr, c_i2l, hm]
  have hpos : 0 ≤ q.toInt * d.toInt := Int.mul_nonneg (by omega) (by omega)
  have hup : q.toInt * d.toInt ≤ 178956970 * d.toInt := Int.mul_le_mul_of_nonneg_right (by omega) (by omega)
  have em : (q * d.toInt64).toInt = q.toInt * d.toInt := by rw [XT.mul64 (by rw [c_i2l]; exact ⟨by omega, by omega⟩), c_i2l]
  have ed : days.toInt = q.toInt * d.toInt + r.toInt := by rw [← hdays, XT.add64 (by rw [em]; exact ⟨by omega, by omega⟩), em]
  have e12 : (12 : Int64).toInt = 12 := rfl
  have et : tw.toInt = days.toInt * 12 := by rw [← htw, XT.mul64 (by rw [e12]; exact ⟨by omega, by omega⟩), e12]
  have e31 : (2147483648 : Int64).toInt = 2147483648 := rfl
  have eb : (2147483648 * d.toInt64).toInt = 2147483648 * d.toInt := by rw [XT.mul64 (by rw [c_i2l, e31]; exact ⟨by omega, by omega⟩), c_i2l, e31]
  rw [Int64.lt_iff_toInt_lt, eb] at hlt
  have tn : 0 ≤ tw.toInt := by omega
  have ev : (tw / d.toInt64).toInt = tw.toInt / d.toInt := (c_ldiv tw d.toInt64 d.toInt (c_i2l d) (own_ne1 hd)).1 tn
  have v0 : 0 ≤ tw.toInt / d.toInt := Int.ediv_nonneg tn (by omega)
  have v1 : tw.toInt / d.toInt < 2147483648 := Int.ediv_lt_of_lt_mul hd hlt
  have back : (tw / d.toInt64).toInt32.toInt64 = tw / d.toInt64 := XT.narrowOk (by rw [ev]; exact ⟨by omega, by omega⟩)
  have hd1 := Int.emod_add_mul_ediv tw.toInt d.toInt
  have hd2 := Int.emod_nonneg tw.toInt (by omega : d.toInt ≠ 0)
  have hd3 := Int.emod_lt_of_pos tw.toInt hd
  have comm : d.toInt * (tw.toInt / d.toInt) = (tw.toInt / d.toInt) * d.toInt := Int.mul_comm _ _
  have e0 : (0 : Int64).toInt = 0 := rfl
  have e1 : (1 : Int64).toInt = 1 := rfl
  have w1 : ((tw / d.toInt64) * d.toInt64).toInt = (tw.toInt / d.toInt) * d.toInt := by rw [XT.mul64 (by rw [ev, c_i2l]; exact ⟨by omega, by omega⟩), ev, c_i2l]
  have w2 : ((tw / d.toInt64) + 1).toInt = tw.toInt / d.toInt + 1 := by rw [XT.add64 (by rw [ev, e1]; exact ⟨by omega, by omega⟩), ev, e1]
  have w3 : (tw.toInt / d.toInt + 1) * d.toInt = (tw.toInt / d.toInt) * d.toInt + d.toInt := by rw [Int.add_mul, Int.one_mul]
  have w4 : (((tw / d.toInt64) + 1) * d.toInt64).toInt = (tw.toInt / d.toInt) * d.toInt + d.toInt := by rw [XT.mul64 (by rw [w2, c_i2l, w3]; exact ⟨by omega, by omega⟩), w2, c_i2l, w3]
  refine ⟨?_, own_ge1 hd, own_nz hd, back, ?_, ?_⟩
  · rw [Int64.lt_iff_toInt_lt, e0]; omega
  · rw [back, Int64.lt_iff_toInt_lt, w1]; omega
  · rw [back, Int64.lt_iff_toInt_lt, w4]; omega
theorem own_pn2 : plainName "com/example/planwright/planwright/service/ServiceYearsCompletedMonthsPinLaw" = true := by first | (simp [plainName, overriddenIn]; done) | decide +kernel
theorem own_pd2 : parseMethodDescriptor "(II)I" = some ⟨[.int, .int], some .int⟩ := by decide +kernel
theorem own_pd3 : parseMethodDescriptor "(JI)V" = some ⟨[.long, .int], none⟩ := by decide +kernel
theorem own_pd4 : parseMethodDescriptor "()I" = some ⟨[], some .int⟩ := by decide +kernel
theorem ef_own_rm0 (m : MethodId) (i0 : Int32) (i1 : Int32) (i2 : Int32) (i3 : Int32) : entryFrame m #[(.int i0), (.int i1), (.int i2), (.int i3)] maxLocals = mkF m 0 #[.val (.int i0), .val (.int i1), .val (.int i2), .val (.int i3), .unset, .unset, .unset, .unset, .unset, .unset, .unset, .unset, .unset, .unset, .unset] [] := by first | (simp [entryFrame, mkF, argsToLocals, Value.category, maxLocals]; done) | rfl
def own_rm0_Q (Z : State) (i0 : Int32) (i1 : Int32) (i2 : Int32) (i3 : Int32)  (h0 : Heap) (n0 : Nat) (v : Option Value) (h : Heap) (L : List Loc) : Prop := v = some (.int 1) ∧ Fr n0 L
set_option maxRecDepth 65536 in
set_option maxHeartbeats 40000000 in
theorem own_rm0 (l : Launch) (Z : State) (a0 : Array Value) (hw : ∀ d ∈ tables_1, d.before a0 Z = true) (ws : List Jvm.Cond) (i0 : Int32) (i1 : Int32) (i2 : Int32) (i3 : Int32)  (h0 : Heap) (n0 : Nat) (Z0 : n0 ≤ h0.size) :
    MetFree l x (head1 (Jvm.Cond.code x code maxLocals ret :: ws) room_1) (fun a U => a = #[(.int i0), (.int i1), (.int i2), (.int i3)] ∧ Z.Warmed39 U.vm ∧ U.heap = h0) (fun _ _ _ _ _ => True) (fun _ U o U' => ∃ v L, o = .returned v ∧ own_rm0_Q Z i0 i1 i2 i3  h0 n0 v U'.heap L ∧ FrameEnd U o U' L room_1.cells room_1.slots) := by
  refine MetFree.of_bodySF (plainFor_of_name own_pn2) hisR ?_
  intro p e s m args below meth c s₁ Bd hml0 hP hK
  obtain ⟨rfl, hZ, hh⟩ := hP
  have hx := Bd.exec
  have hby := Bd.bytes
  have hml : c.maxLocals = 15 := hml0
  have hown : s.vm.findClass "com/example/planwright/planwright/service/ServiceYearsCompletedMonthsPinLaw" = some m.cls := findClass_of_methodNamed Bd.named
  have hnm := (name_of_methodNamed Bd.named Bd.method).1
  have hlk : meth.locks = false := BodyLoose.notSynchronized Bd
  have X0 : Stand p l e room_1 s m #[(.int i0), (.int i1), (.int i2), (.int i3)] below meth c s₁ [] 0 0 := Stand.of_body Bd
  have e0 : s₁.heap = h0 := by rw [← hh, Bd.state]; rfl
  have N0 := Fr.nil n0
  have K0 : Keep h0 h0 [] := Keep.refl h0 []
  show own_Fin p e below (own_P (own_rm0_Q Z i0 i1 i2 i3  h0 n0) s room_1.cells room_1.slots) (s₁.setTop (entryFrame m #[(.int i0), (.int i1), (.int i2), (.int i3)] maxLocals))
  refine own_via (g' := s₁.setTop (mkF m 0 #[.val (.int i0), .val (.int i1), .val (.int i2), .val (.int i3), .unset, .unset, .unset, .unset, .unset, .unset, .unset, .unset, .unset, .unset, .unset] [])) (fun t k => castTop (ef_own_rm0 m i0 i1 i2 i3) k) ?_
  refine own_via (g' := s₁.setTop (mkF m 1 #[.val (.int i0), .val (.int i1), .val (.int i2), .val (.int i3), .unset, .unset, .unset, .unset, .unset, .unset, .unset, .unset, .unset, .unset, .unset] [(.int i3)])) (fun t k => XS.iloadN X0.here hx rfl (hb hby at_0) rfl k) ?_
  refine own_via (g' := s₁.setTop (mkF m 2 #[.val (.int i0), .val (.int i1), .val (.int i2), .val (.int i3), .unset, .unset, .unset, .unset, .unset, .unset, .unset, .unset, .unset, .unset, .unset] [(.int (1 : Int32)), (.int i3)])) (fun t k => XS.iconst X0.here hx rfl (hb hby at_1) k) ?_
  refine own_via (g' := s₁.setTop (mkF m 3 #[.val (.int i0), .val (.int i1), .val (.int i2), .val (.int i3), .unset, .unset, .unset, .unset, .unset, .unset, .unset, .unset, .unset, .unset, .unset] [(.int (i3 &&& (1 : Int32)))])) (fun t k => XS.iand X0.here hx rfl (hb hby at_2) rfl k) ?_
  by_cases hc3_1 : (i3 &&& (1 : Int32)) = 0
  · refine own_via (g' := s₁.setTop (mkF m 16 #[.val (.int i0), .val (.int i1), .val (.int i2), .val (.int i3), .unset, .unset, .unset, .unset, .unset, .unset, .unset, .unset, .unset, .unset, .unset] [])) (fun t k => XS.ifYes X0.here hx rfl (pc0 := 3) (pc' := 16) rfl (hb hby at_3) rfl (XT.i0_eq_t hc3_1) (by decide) (by decide) k) ?_
    refine own_via (g' := s₁.setTop (mkF m 17 #[.val (.int i0), .val (.int i1), .val (.int i2), .val (.int i3), .unset, .unset, .unset, .unset, .unset, .unset, .unset, .unset, .unset, .unset, .unset] [(.int (1 : Int32))])) (fun t k => XS.iconst X0.here hx rfl (hb hby at_16) k) ?_
    refine own_via (g' := s₁.setTop (mkF m 18 #[.val (.int i0), .val (.int i1), .val (.int i2), .val (.int i3), .unset, .unset, .unset, .unset, .unset, .unset, .unset, .unset, .unset, .unset, .unset] [(.int i2), (.int (1 : Int32))])) (fun t k => XS.iloadN X0.here hx rfl (hb hby at_17) rfl k) ?_
    refine own_via (g' := s₁.setTop (mkF m 20 #[.val (.int i0), .val (.int i1), .val (.int i2), .val (.int i3), .unset, .unset, .unset, .unset, .unset, .unset, .unset, .unset, .unset, .unset, .unset] [(.int (2147483647 : Int32)), (.int i2), (.int (1 : Int32))])) (fun t k => X0.ldcInt hx hown (mvT hZ (hw _ (List.mem_of_getElem? (i := 0) rfl))) (g := (mkF m 18 #[.val (.int i0), .val (.int i1), .val (.int i2), .val (.int i3), .unset, .unset, .unset, .unset, .unset, .unset, .unset, .unset, .unset, .unset, .unset] [(.int i2), (.int (1 : Int32))])) rfl (hb hby at_18) _ k) ?_
    refine own_via (g' := s₁.setTop (mkF m 21 #[.val (.int i0), .val (.int i1), .val (.int i2), .val (.int i3), .unset, .unset, .unset, .unset, .unset, .unset, .unset, .unset, .unset, .unset, .unset] [(.int (i2 &&& (2147483647 : Int32))), (.int (1 : Int32))])) (fun t k => XS.iand X0.here hx rfl (hb hby at_20) rfl k) ?_
    obtain ⟨v2, _, ⟨T2, L2, k2, n2⟩, -, X2, ⟨Lc2, hQ2, l2, y2, z2⟩, st2⟩ := Jvm.LawKit.callS X0 hx (y := (⟨"java/lang/Math", "max", "(II)I"⟩ : MethodName)) hown (mvT hZ (hw _ (List.mem_of_getElem? (i := 32) rfl))) (mvT hZ (hw _ (List.mem_of_getElem? (i := 33) rfl))) (mvT hZ (hw _ (List.mem_of_getElem? (i := 30) rfl))) (mvT hZ (hw _ (List.mem_of_getElem? (i := 34) rfl))) (by decide) (backOf (W := 0) (own_rm6 l Z a0 hw [] (1 : Int32) (i2 &&& (2147483647 : Int32)) h0 n0 (Nat.le_trans Z0 K0.1) ) hZ (hw _ (List.mem_of_getElem? (i := 34) rfl)) (hw _ (List.mem_of_getElem? (i := 30) rfl)) (by decide) (by decide)) (g := (mkF m 21 #[.val (.int i0), .val (.int i1), .val (.int i2), .val (.int i3), .unset, .unset, .unset, .unset, .unset, .unset, .unset, .unset, .unset, .unset, .unset] [(.int (i2 &&& (2147483647 : Int32))), (.int (1 : Int32))])) rfl (by rw [hml]; rfl) (argsL := [(.int (1 : Int32)), (.int (i2 &&& (2147483647 : Int32)))]) (rest := []) (lenOf own_pd2 rfl) rfl (by show 2 * 0 + _ ≤ _; exact Nat.le_of_eq rfl) (hb hby at_21) (fun _ _ => ⟨rfl, e0, (by decide : 0 + 0 ≤ _), (by decide : 0 + 0 ≤ _)⟩)
    dsimp only [Pt.U, Pt.locs, Pt.cells, Pt.slots] at X2 l2 y2 z2 st2 hQ2
    subst l2 y2 z2
    obtain ⟨rfl, N2q, e2⟩ := hQ2
    have N2 := Fr.app N0 N2q
    refine own_via (g' := T2.setTop (mkF m 24 #[.val (.int i0), .val (.int i1), .val (.int i2), .val (.int i3), .unset, .unset, .unset, .unset, .unset, .unset, .unset, .unset, .unset, .unset, .unset] [(.int (own_max (1 : Int32) (i2 &&& (2147483647 : Int32))))])) (fun t k => st2 _ k) ?_
    refine own_via (g' := T2.setTop (mkF m 26 #[.val (.int i0), .val (.int i1), .val (.int i2), .val (.int i3), .val (.int (own_max (1 : Int32) (i2 &&& (2147483647 : Int32)))), .unset, .unset, .unset, .unset, .unset, .unset, .unset, .unset, .unset, .unset] [])) (fun t k => XS.istore X2.here hx rfl (hb hby at_24) rfl (l' := #[.val (.int i0), .val (.int i1), .val (.int i2), .val (.int i3), .val (.int (own_max (1 : Int32) (i2 &&& (2147483647 : Int32)))), .unset, .unset, .unset, .unset, .unset, .unset, .unset, .unset, .unset, .unset]) rfl k) ?_
    have hdp : 0 < ((own_max (1 : Int32) (i2 &&& (2147483647 : Int32)))).toInt := own_dpy2 _
    generalize hd : (own_max (1 : Int32) (i2 &&& (2147483647 : Int32))) = d
    rw [hd] at hdp
    refine own_via (g' := T2.setTop (mkF m 27 #[.val (.int i0), .val (.int i1), .val (.int i2), .val (.int i3), .val (.int d), .unset, .unset, .unset, .unset, .unset, .unset, .unset, .unset, .unset, .unset] [(.int i0)])) (fun t k => XS.iloadN X2.here hx rfl (hb hby at_26) rfl k) ?_
    refine own_via (g' := T2.setTop (mkF m 29 #[.val (.int i0), .val (.int i1), .val (.int i2), .val (.int i3), .val (.int d), .unset, .unset, .unset, .unset, .unset, .unset, .unset, .unset, .unset, .unset] [(.int (2147483647 : Int32)), (.int i0)])) (fun t k => X2.ldcInt hx hown (mvT hZ (hw _ (List.mem_of_getElem? (i := 0) rfl))) (g := (mkF m 27 #[.val (.int i0), .val (.int i1), .val (.int i2), .val (.int i3), .val (.int d), .unset, .unset, .unset, .unset, .unset, .unset, .unset, .unset, .unset, .unset] [(.int i0)])) rfl (hb hby at_27) _ k) ?_
    refine own_via (g' := T2.setTop (mkF m 30 #[.val (.int i0), .val (.int i1), .val (.int i2), .val (.int i3), .val (.int d), .unset, .unset, .unset, .unset, .unset, .unset, .unset, .unset, .unset, .unset] [(.int (i0 &&& (2147483647 : Int32)))])) (fun t k => XS.iand X2.here hx rfl (hb hby at_29) rfl k) ?_
    generalize ha : (i0 &&& (2147483647 : Int32)) = a
    refine own_via (g' := T2.setTop (mkF m 32 #[.val (.int i0), .val (.int i1), .val (.int i2), .val (.int i3), .val (.int d), .unset, .unset, .unset, .unset, .unset, .unset, .unset, .unset, .unset, .unset] [(.int (178956971 : Int32)), (.int a)])) (fun t k => X2.ldcInt hx hown (mvT hZ (hw _ (List.mem_of_getElem? (i := 1) rfl))) (g := (mkF m 30 #[.val (.int i0), .val (.int i1), .val (.int i2), .val (.int i3), .val (.int d), .unset, .unset, .unset, .unset, .unset, .unset, .unset, .unset, .unset, .unset] [(.int a)])) rfl (hb hby at_30) _ k) ?_
    refine own_via (g' := T2.setTop (mkF m 33 #[.val (.int i0), .val (.int i1), .val (.int i2), .val (.int i3), .val (.int d), .unset, .unset, .unset, .unset, .unset, .unset, .unset, .unset, .unset, .unset] [(.int (a % (178956971 : Int32)))])) (fun t k => iremM (g := (mkF m 32 #[.val (.int i0), .val (.int i1), .val (.int i2), .val (.int i3), .val (.int d), .unset, .unset, .unset, .unset, .unset, .unset, .unset, .unset, .unset, .unset] [(.int (178956971 : Int32)), (.int a)])) X2 hx rfl (hb hby at_32) rfl (by decide) k) ?_
    refine own_via (g' := T2.setTop (mkF m 34 #[.val (.int i0), .val (.int i1), .val (.int i2), .val (.int i3), .val (.int d), .unset, .unset, .unset, .unset, .unset, .unset, .unset, .unset, .unset, .unset] [(.long ((a % (178956971 : Int32)).toInt64))])) (fun t k => XT.i2l X2.here hx rfl (hb hby at_33) rfl k) ?_
    generalize hq : ((a % (178956971 : Int32)).toInt64) = q
    refine own_via (g' := T2.setTop (mkF m 36 #[.val (.int i0), .val (.int i1), .val (.int i2), .val (.int i3), .val (.int d), .val (.long q), .second, .unset, .unset, .unset, .unset, .unset, .unset, .unset, .unset] [])) (fun t k => XT.lstore X2.here hx rfl (hb hby at_34) rfl (l' := #[.val (.int i0), .val (.int i1), .val (.int i2), .val (.int i3), .val (.int d), .val (.long q), .second, .unset, .unset, .unset, .unset, .unset, .unset, .unset, .unset]) rfl k) ?_
    refine own_via (g' := T2.setTop (mkF m 37 #[.val (.int i0), .val (.int i1), .val (.int i2), .val (.int i3), .val (.int d), .val (.long q), .second, .unset, .unset, .unset, .unset, .unset, .unset, .unset, .unset] [(.int i1)])) (fun t k => XS.iloadN X2.here hx rfl (hb hby at_36) rfl k) ?_
    refine own_via (g' := T2.setTop (mkF m 39 #[.val (.int i0), .val (.int i1), .val (.int i2), .val (.int i3), .val (.int d), .val (.long q), .second, .unset, .unset, .unset, .unset, .unset, .unset, .unset, .unset] [(.int (2147483647 : Int32)), (.int i1)])) (fun t k => X2.ldcInt hx hown (mvT hZ (hw _ (List.mem_of_getElem? (i := 0) rfl))) (g := (mkF m 37 #[.val (.int i0), .val (.int i1), .val (.int i2), .val (.int i3), .val (.int d), .val (.long q), .second, .unset, .unset, .unset, .unset, .unset, .unset, .unset, .unset] [(.int i1)])) rfl (hb hby at_37) _ k) ?_
    refine own_via (g' := T2.setTop (mkF m 40 #[.val (.int i0), .val (.int i1), .val (.int i2), .val (.int i3), .val (.int d), .val (.long q), .second, .unset, .unset, .unset, .unset, .unset, .unset, .unset, .unset] [(.int (i1 &&& (2147483647 : Int32)))])) (fun t k => XS.iand X2.here hx rfl (hb hby at_39) rfl k) ?_
    generalize hbb : (i1 &&& (2147483647 : Int32)) = b
    refine own_via (g' := T2.setTop (mkF m 42 #[.val (.int i0), .val (.int i1), .val (.int i2), .val (.int i3), .val (.int d), .val (.long q), .second, .unset, .unset, .unset, .unset, .unset, .unset, .unset, .unset] [(.int d), (.int b)])) (fun t k => XS.iload X2.here hx rfl (hb hby at_40) rfl k) ?_
    refine own_via (g' := T2.setTop (mkF m 43 #[.val (.int i0), .val (.int i1), .val (.int i2), .val (.int i3), .val (.int d), .val (.long q), .second, .unset, .unset, .unset, .unset, .unset, .unset, .unset, .unset] [(.int (b % d))])) (fun t k => iremM (g := (mkF m 42 #[.val (.int i0), .val (.int i1), .val (.int i2), .val (.int i3), .val (.int d), .val (.long q), .second, .unset, .unset, .unset, .unset, .unset, .unset, .unset, .unset] [(.int d), (.int b)])) X2 hx rfl (hb hby at_42) rfl (fun q => by rw [q] at hdp; exact absurd hdp (by decide)) k) ?_
    refine own_via (g' := T2.setTop (mkF m 44 #[.val (.int i0), .val (.int i1), .val (.int i2), .val (.int i3), .val (.int d), .val (.long q), .second, .unset, .unset, .unset, .unset, .unset, .unset, .unset, .unset] [(.long ((b % d).toInt64))])) (fun t k => XT.i2l X2.here hx rfl (hb hby at_43) rfl k) ?_
    generalize hr : ((b % d).toInt64) = r
    refine own_via (g' := T2.setTop (mkF m 46 #[.val (.int i0), .val (.int i1), .val (.int i2), .val (.int i3), .val (.int d), .val (.long q), .second, .val (.long r), .second, .unset, .unset, .unset, .unset, .unset, .unset] [])) (fun t k => XT.lstore X2.here hx rfl (hb hby at_44) rfl (l' := #[.val (.int i0), .val (.int i1), .val (.int i2), .val (.int i3), .val (.int d), .val (.long q), .second, .val (.long r), .second, .unset, .unset, .unset, .unset, .unset, .unset]) rfl k) ?_
    refine own_via (g' := T2.setTop (mkF m 48 #[.val (.int i0), .val (.int i1), .val (.int i2), .val (.int i3), .val (.int d), .val (.long q), .second, .val (.long r), .second, .unset, .unset, .unset, .unset, .unset, .unset] [(.long q)])) (fun t k => XT.lload X2.here hx rfl (hb hby at_46) rfl k) ?_
    refine own_via (g' := T2.setTop (mkF m 50 #[.val (.int i0), .val (.int i1), .val (.int i2), .val (.int i3), .val (.int d), .val (.long q), .second, .val (.long r), .second, .unset, .unset, .unset, .unset, .unset, .unset] [(.int d), (.long q)])) (fun t k => XS.iload X2.here hx rfl (hb hby at_48) rfl k) ?_
    refine own_via (g' := T2.setTop (mkF m 51 #[.val (.int i0), .val (.int i1), .val (.int i2), .val (.int i3), .val (.int d), .val (.long q), .second, .val (.long r), .second, .unset, .unset, .unset, .unset, .unset, .unset] [(.long (d.toInt64)), (.long q)])) (fun t k => XT.i2l X2.here hx rfl (hb hby at_50) rfl k) ?_
    refine own_via (g' := T2.setTop (mkF m 52 #[.val (.int i0), .val (.int i1), .val (.int i2), .val (.int i3), .val (.int d), .val (.long q), .second, .val (.long r), .second, .unset, .unset, .unset, .unset, .unset, .unset] [(.long (q * (d.toInt64)))])) (fun t k => XT.lmul X2.here hx rfl (hb hby at_51) rfl k) ?_
    refine own_via (g' := T2.setTop (mkF m 54 #[.val (.int i0), .val (.int i1), .val (.int i2), .val (.int i3), .val (.int d), .val (.long q), .second, .val (.long r), .second, .unset, .unset, .unset, .unset, .unset, .unset] [(.long r), (.long (q * (d.toInt64)))])) (fun t k => XT.lload X2.here hx rfl (hb hby at_52) rfl k) ?_
    refine own_via (g' := T2.setTop (mkF m 55 #[.val (.int i0), .val (.int i1), .val (.int i2), .val (.int i3), .val (.int d), .val (.long q), .second, .val (.long r), .second, .unset, .unset, .unset, .unset, .unset, .unset] [(.long ((q * (d.toInt64)) + r))])) (fun t k => XT.ladd X2.here hx rfl (hb hby at_54) rfl k) ?_
    generalize hdays : ((q * (d.toInt64)) + r) = days
    refine own_via (g' := T2.setTop (mkF m 57 #[.val (.int i0), .val (.int i1), .val (.int i2), .val (.int i3), .val (.int d), .val (.long q), .second, .val (.long r), .second, .val (.long days), .second, .unset, .unset, .unset, .unset] [])) (fun t k => XT.lstore X2.here hx rfl (hb hby at_55) rfl (l' := #[.val (.int i0), .val (.int i1), .val (.int i2), .val (.int i3), .val (.int d), .val (.long q), .second, .val (.long r), .second, .val (.long days), .second, .unset, .unset, .unset, .unset]) rfl k) ?_
    refine own_via (g' := T2.setTop (mkF m 59 #[.val (.int i0), .val (.int i1), .val (.int i2), .val (.int i3), .val (.int d), .val (.long q), .second, .val (.long r), .second, .val (.long days), .second, .unset, .unset, .unset, .unset] [(.long days)])) (fun t k => XT.lload X2.here hx rfl (hb hby at_57) rfl k) ?_
    refine own_via (g' := T2.setTop (mkF m 62 #[.val (.int i0), .val (.int i1), .val (.int i2), .val (.int i3), .val (.int d), .val (.long q), .second, .val (.long r), .second, .val (.long days), .second, .unset, .unset, .unset, .unset] [(.long (12 : Int64)), (.long days)])) (fun t k => X2.ldc2Long hx hown (mvT hZ (hw _ (List.mem_of_getElem? (i := 2) rfl))) (g := (mkF m 59 #[.val (.int i0), .val (.int i1), .val (.int i2), .val (.int i3), .val (.int d), .val (.long q), .second, .val (.long r), .second, .val (.long days), .second, .unset, .unset, .unset, .unset] [(.long days)])) rfl (hb hby at_59) _ k) ?_
    refine own_via (g' := T2.setTop (mkF m 63 #[.val (.int i0), .val (.int i1), .val (.int i2), .val (.int i3), .val (.int d), .val (.long q), .second, .val (.long r), .second, .val (.long days), .second, .unset, .unset, .unset, .unset] [(.long (days * (12 : Int64)))])) (fun t k => XT.lmul X2.here hx rfl (hb hby at_62) rfl k) ?_
    generalize htw : (days * (12 : Int64)) = tw
    refine own_via (g' := T2.setTop (mkF m 65 #[.val (.int i0), .val (.int i1), .val (.int i2), .val (.int i3), .val (.int d), .val (.long q), .second, .val (.long r), .second, .val (.long days), .second, .val (.long tw), .second, .unset, .unset] [])) (fun t k => XT.lstore X2.here hx rfl (hb hby at_63) rfl (l' := #[.val (.int i0), .val (.int i1), .val (.int i2), .val (.int i3), .val (.int d), .val (.long q), .second, .val (.long r), .second, .val (.long days), .second, .val (.long tw), .second, .unset, .unset]) rfl k) ?_
    refine own_via (g' := T2.setTop (mkF m 67 #[.val (.int i0), .val (.int i1), .val (.int i2), .val (.int i3), .val (.int d), .val (.long q), .second, .val (.long r), .second, .val (.long days), .second, .val (.long tw), .second, .unset, .unset] [(.long tw)])) (fun t k => XT.lload X2.here hx rfl (hb hby at_65) rfl k) ?_
    refine own_via (g' := T2.setTop (mkF m 70 #[.val (.int i0), .val (.int i1), .val (.int i2), .val (.int i3), .val (.int d), .val (.long q), .second, .val (.long r), .second, .val (.long days), .second, .val (.long tw), .second, .unset, .unset] [(.long (2147483648 : Int64)), (.long tw)])) (fun t k => X2.ldc2Long hx hown (mvT hZ (hw _ (List.mem_of_getElem? (i := 3) rfl))) (g := (mkF m 67 #[.val (.int i0), .val (.int i1), .val (.int i2), .val (.int i3), .val (.int d), .val (.long q), .second, .val (.long r), .second, .val (.long days), .second, .val (.long tw), .second, .unset, .unset] [(.long tw)])) rfl (hb hby at_67) _ k) ?_
    refine own_via (g' := T2.setTop (mkF m 72 #[.val (.int i0), .val (.int i1), .val (.int i2), .val (.int i3), .val (.int d), .val (.long q), .second, .val (.long r), .second, .val (.long days), .second, .val (.long tw), .second, .unset, .unset] [(.int d), (.long (2147483648 : Int64)), (.long tw)])) (fun t k => XS.iload X2.here hx rfl (hb hby at_70) rfl k) ?_
    refine own_via (g' := T2.setTop (mkF m 73 #[.val (.int i0), .val (.int i1), .val (.int i2), .val (.int i3), .val (.int d), .val (.long q), .second, .val (.long r), .second, .val (.long days), .second, .val (.long tw), .second, .unset, .unset] [(.long (d.toInt64)), (.long (2147483648 : Int64)), (.long tw)])) (fun t k => XT.i2l X2.here hx rfl (hb hby at_72) rfl k) ?_
    refine own_via (g' := T2.setTop (mkF m 74 #[.val (.int i0), .val (.int i1), .val (.int i2), .val (.int i3), .val (.int d), .val (.long q), .second, .val (.long r), .second, .val (.long days), .second, .val (.long tw), .second, .unset, .unset] [(.long ((2147483648 : Int64) * (d.toInt64))), (.long tw)])) (fun t k => XT.lmul X2.here hx rfl (hb hby at_73) rfl k) ?_
    refine own_via (g' := T2.setTop (mkF m 75 #[.val (.int i0), .val (.int i1), .val (.int i2), .val (.int i3), .val (.int d), .val (.long q), .second, .val (.long r), .second, .val (.long days), .second, .val (.long tw), .second, .unset, .unset] [(.int (XT.cmpL tw ((2147483648 : Int64) * (d.toInt64))))])) (fun t k => XT.lcmp X2.here hx rfl (hb hby at_74) rfl k) ?_
    by_cases hc75_3 : tw < ((2147483648 : Int64) * (d.toInt64))
    · refine own_via (g' := T2.setTop (mkF m 80 #[.val (.int i0), .val (.int i1), .val (.int i2), .val (.int i3), .val (.int d), .val (.long q), .second, .val (.long r), .second, .val (.long days), .second, .val (.long tw), .second, .unset, .unset] [])) (fun t k => XS.ifYes X2.here hx rfl (pc0 := 75) (pc' := 80) rfl (hb hby at_75) rfl (XT.ll_lt_t hc75_3) (by decide) (by decide) k) ?_
      obtain ⟨hnn, hp1, hd0, hd1, hlo, hhi⟩ := own_law a b d (own_mask ha) (own_mask hbb) hdp hq hr hdays htw hc75_3
      rw [← htw] at hd1
      obtain ⟨T4, h4, X4, e4, E4, A4, D4, -, st4⟩ := newO X2 hx hZ hown (hw _ (List.mem_of_getElem? (i := 4) rfl)) (hw _ (List.mem_of_getElem? (i := 5) rfl)) (hw _ (List.mem_of_getElem? (i := 6) rfl)) e2 (g := (mkF m 80 #[.val (.int i0), .val (.int i1), .val (.int i2), .val (.int i3), .val (.int d), .val (.long q), .second, .val (.long r), .second, .val (.long days), .second, .val (.long tw), .second, .unset, .unset] [])) rfl (hb hby at_80) (by decide) (by decide)
      obtain ⟨b4, g4⟩ : ∃ z, z = h0.size := ⟨_, rfl⟩
      rw [← g4] at A4 D4 st4
      have sz_b4 : h0.size ≤ b4 := Nat.le_trans K0.1 (Nat.le_of_eq g4.symm)
      have g_b4 : n0 ≤ b4 := Nat.le_trans Z0 sz_b4
      have Kc4 : Keep h0 h4 [] := K0.ext E4
      have F4_19 : Fld Z h4 b4 "com/example/planwright/planwright/service/ServiceYears" "days" "J" (.long (0 : Int64)) := D4 (Or.inr (hw _ (List.mem_of_getElem? (i := 19) rfl))) (ty := .long) (by decide)
      have F4_21 : Fld Z h4 b4 "com/example/planwright/planwright/service/ServiceYears" "daysPerYear" "I" (.int (0 : Int32)) := D4 (Or.inr (hw _ (List.mem_of_getElem? (i := 21) rfl))) (ty := .int) (by decide)
      refine own_via (g' := T4.setTop (mkF m 83 #[.val (.int i0), .val (.int i1), .val (.int i2), .val (.int i3), .val (.int d), .val (.long q), .second, .val (.long r), .second, .val (.long days), .second, .val (.long tw), .second, .unset, .unset] [(.ref b4)])) (fun t k => st4 _ k) ?_
      refine own_via (g' := T4.setTop (mkF m 84 #[.val (.int i0), .val (.int i1), .val (.int i2), .val (.int i3), .val (.int d), .val (.long q), .second, .val (.long r), .second, .val (.long days), .second, .val (.long tw), .second, .unset, .unset] [(.ref b4), (.ref b4)])) (fun t k => XS.dup X4.here hx rfl (hb hby at_83) rfl (rfl) k) ?_
      refine own_via (g' := T4.setTop (mkF m 86 #[.val (.int i0), .val (.int i1), .val (.int i2), .val (.int i3), .val (.int d), .val (.long q), .second, .val (.long r), .second, .val (.long days), .second, .val (.long tw), .second, .unset, .unset] [(.long days), (.ref b4), (.ref b4)])) (fun t k => XT.lload X4.here hx rfl (hb hby at_84) rfl k) ?_
      refine own_via (g' := T4.setTop (mkF m 88 #[.val (.int i0), .val (.int i1), .val (.int i2), .val (.int i3), .val (.int d), .val (.long q), .second, .val (.long r), .second, .val (.long days), .second, .val (.long tw), .second, .unset, .unset] [(.int d), (.long days), (.ref b4), (.ref b4)])) (fun t k => XS.iload X4.here hx rfl (hb hby at_86) rfl k) ?_
      obtain ⟨v5, _, ⟨T5, L5, k5, n5⟩, -, X5, ⟨Lc5, hQ5, l5, y5, z5⟩, st5⟩ := X4.specialBack hx (y := (⟨"com/example/planwright/planwright/service/ServiceYears", "<init>", "(JI)V"⟩ : MethodName)) rfl hown (mvT hZ (hw _ (List.mem_of_getElem? (i := 7) rfl))) (mvT hZ (hw _ (List.mem_of_getElem? (i := 8) rfl))) (mvT hZ (hw _ (List.mem_of_getElem? (i := 9) rfl))) (by decide) (backOf (W := 1) (own_rm1 l Z a0 hw [] b4 days d h4 n0 (Nat.le_trans Z0 Kc4.1) A4 F4_19 F4_21 g_b4 hnn hp1) hZ (hw _ (List.mem_of_getElem? (i := 9) rfl)) (hw _ (List.mem_of_getElem? (i := 6) rfl)) (by decide) (by decide)) (g := (mkF m 88 #[.val (.int i0), .val (.int i1), .val (.int i2), .val (.int i3), .val (.int d), .val (.long q), .second, .val (.long r), .second, .val (.long days), .second, .val (.long tw), .second, .unset, .unset] [(.int d), (.long days), (.ref b4), (.ref b4)])) rfl (by rw [hml]; rfl) (Steps.refl _) (a := b4) (argsL := [(.long days), (.int d)]) (rest := [(.ref b4)]) (lenOf own_pd3 rfl) rfl (by show 2 * 0 + _ ≤ _; exact Nat.le_of_eq rfl) (hb hby at_88) (fun _ _ => ⟨rfl, e4, (by decide : 1 + 0 ≤ _), (by decide : 2 + 0 ≤ _)⟩)
      dsimp only [Pt.U, Pt.locs, Pt.cells, Pt.slots] at X5 l5 y5 z5 st5 hQ5
      subst l5 y5 z5
      obtain ⟨rfl, N5q, K5, A5, Fa5_0, Fa5_1⟩ := hQ5
      have Kc5 : Keep h0 T5.heap [] := Kc4.trans K5 (allS (Or.inr sz_b4) all0)
      have N5 := Fr.app N2 N5q
      refine own_via (g' := T5.setTop (mkF m 91 #[.val (.int i0), .val (.int i1), .val (.int i2), .val (.int i3), .val (.int d), .val (.long q), .second, .val (.long r), .second, .val (.long days), .second, .val (.long tw), .second, .unset, .unset] [(.ref b4)])) (fun t k => st5.trans k) ?_
      refine own_via (g' := T5.setTop (mkF m 93 #[.val (.int i0), .val (.int i1), .val (.int i2), .val (.int i3), .val (.int d), .val (.long q), .second, .val (.long r), .second, .val (.long days), .second, .val (.long tw), .second, .val (.ref b4), .unset] [])) (fun t k => XS.astore X5.here hx rfl (hb hby at_91) rfl (rfl) (l' := #[.val (.int i0), .val (.int i1), .val (.int i2), .val (.int i3), .val (.int d), .val (.long q), .second, .val (.long r), .second, .val (.long days), .second, .val (.long tw), .second, .val (.ref b4), .unset]) rfl k) ?_
      refine own_via (g' := T5.setTop (mkF m 95 #[.val (.int i0), .val (.int i1), .val (.int i2), .val (.int i3), .val (.int d), .val (.long q), .second, .val (.long r), .second, .val (.long days), .second, .val (.long tw), .second, .val (.ref b4), .unset] [(.ref b4)])) (fun t k => XS.aload X5.here hx rfl (hb hby at_93) rfl (rfl) k) ?_
      obtain ⟨cq6, kq6, q6a, q6b, q6c⟩ := isOf hZ rfl A5
      obtain ⟨v6, _, ⟨T6, L6, k6, n6⟩, -, X6, ⟨Lc6, hQ6, l6, y6, z6⟩, st6⟩ := X5.virtualBack hx (y := (⟨"com/example/planwright/planwright/service/ServiceYears", "completedMonths", "()I"⟩ : MethodName)) (z := (⟨"com/example/planwright/planwright/service/ServiceYears", "completedMonths", "()I"⟩ : MethodName)) hown (mvT hZ (hw _ (List.mem_of_getElem? (i := 22) rfl))) (mvT hZ (hw _ (List.mem_of_getElem? (i := 23) rfl))) (notFace_of_selects (args := #[]) (mvT hZ (hw _ (List.mem_of_getElem? (i := 25) rfl)))) (mvT hZ (hw _ (List.mem_of_getElem? (i := 25) rfl))) (mvT hZ (hw _ (List.mem_of_getElem? (i := 24) rfl))) (by decide) (backOf (W := 0) (own_rm4 l Z a0 hw [] b4 days d T5.heap n0 (Nat.le_trans Z0 Kc5.1) Fa5_0 Fa5_1 hd0 hd1) hZ (hw _ (List.mem_of_getElem? (i := 26) rfl)) (hw _ (List.mem_of_getElem? (i := 6) rfl)) (by decide) (by decide)) q6a q6c (g := (mkF m 95 #[.val (.int i0), .val (.int i1), .val (.int i2), .val (.int i3), .val (.int d), .val (.long q), .second, .val (.long r), .second, .val (.long days), .second, .val (.long tw), .second, .val (.ref b4), .unset] [(.ref b4)])) rfl (by rw [hml]; rfl) (Steps.refl _) (argsL := []) (rest := []) (lenOf own_pd4 rfl) rfl (by show 2 * 0 + _ ≤ _; exact Nat.le_of_eq rfl) (hb hby at_95) (fun _ _ => ⟨rfl, rfl, (by decide : 1 + 0 ≤ _), (by decide : 2 + 0 ≤ _)⟩)
      dsimp only [Pt.U, Pt.locs, Pt.cells, Pt.slots] at X6 l6 y6 z6 st6 hQ6
      subst l6 y6 z6
      obtain ⟨rfl, N6q, e6⟩ := hQ6
      have N6 := Fr.app N5 N6q
      refine own_via (g' := T6.setTop (mkF m 98 #[.val (.int i0), .val (.int i1), .val (.int i2), .val (.int i3), .val (.int d), .val (.long q), .second, .val (.long r), .second, .val (.long days), .second, .val (.long tw), .second, .val (.ref b4), .unset] [(.int (((days * (12 : Int64)) / d.toInt64).toInt32))])) (fun t k => st6.trans k) ?_
      rw [htw]
      refine own_via (g' := T6.setTop (mkF m 100 #[.val (.int i0), .val (.int i1), .val (.int i2), .val (.int i3), .val (.int d), .val (.long q), .second, .val (.long r), .second, .val (.long days), .second, .val (.long tw), .second, .val (.ref b4), .val (.int ((tw / d.toInt64).toInt32))] [])) (fun t k => XS.istore X6.here hx rfl (hb hby at_98) rfl (l' := #[.val (.int i0), .val (.int i1), .val (.int i2), .val (.int i3), .val (.int d), .val (.long q), .second, .val (.long r), .second, .val (.long days), .second, .val (.long tw), .second, .val (.ref b4), .val (.int ((tw / d.toInt64).toInt32))]) rfl k) ?_
      refine own_via (g' := T6.setTop (mkF m 102 #[.val (.int i0), .val (.int i1), .val (.int i2), .val (.int i3), .val (.int d), .val (.long q), .second, .val (.long r), .second, .val (.long days), .second, .val (.long tw), .second, .val (.ref b4), .val (.int ((tw / d.toInt64).toInt32))] [(.int ((tw / d.toInt64).toInt32))])) (fun t k => XS.iload X6.here hx rfl (hb hby at_100) rfl k) ?_
      refine own_via (g' := T6.setTop (mkF m 103 #[.val (.int i0), .val (.int i1), .val (.int i2), .val (.int i3), .val (.int d), .val (.long q), .second, .val (.long r), .second, .val (.long days), .second, .val (.long tw), .second, .val (.ref b4), .val (.int ((tw / d.toInt64).toInt32))] [(.long (((tw / d.toInt64).toInt32).toInt64))])) (fun t k => XT.i2l X6.here hx rfl (hb hby at_102) rfl k) ?_
      refine own_via (g' := T6.setTop (mkF m 105 #[.val (.int i0), .val (.int i1), .val (.int i2), .val (.int i3), .val (.int d), .val (.long q), .second, .val (.long r), .second, .val (.long days), .second, .val (.long tw), .second, .val (.ref b4), .val (.int ((tw / d.toInt64).toInt32))] [(.int d), (.long (((tw / d.toInt64).toInt32).toInt64))])) (fun t k => XS.iload X6.here hx rfl (hb hby at_103) rfl k) ?_
      refine own_via (g' := T6.setTop (mkF m 106 #[.val (.int i0), .val (.int i1), .val (.int i2), .val (.int i3), .val (.int d), .val (.long q), .second, .val (.long r), .second, .val (.long days), .second, .val (.long tw), .second, .val (.ref b4), .val (.int ((tw / d.toInt64).toInt32))] [(.long (d.toInt64)), (.long (((tw / d.toInt64).toInt32).toInt64))])) (fun t k => XT.i2l X6.here hx rfl (hb hby at_105) rfl k) ?_
      refine own_via (g' := T6.setTop (mkF m 107 #[.val (.int i0), .val (.int i1), .val (.int i2), .val (.int i3), .val (.int d), .val (.long q), .second, .val (.long r), .second, .val (.long days), .second, .val (.long tw), .second, .val (.ref b4), .val (.int ((tw / d.toInt64).toInt32))] [(.long ((((tw / d.toInt64).toInt32).toInt64) * (d.toInt64)))])) (fun t k => XT.lmul X6.here hx rfl (hb hby at_106) rfl k) ?_
      refine own_via (g' := T6.setTop (mkF m 109 #[.val (.int i0), .val (.int i1), .val (.int i2), .val (.int i3), .val (.int d), .val (.long q), .second, .val (.long r), .second, .val (.long days), .second, .val (.long tw), .second, .val (.ref b4), .val (.int ((tw / d.toInt64).toInt32))] [(.long tw), (.long ((((tw / d.toInt64).toInt32).toInt64) * (d.toInt64)))])) (fun t k => XT.lload X6.here hx rfl (hb hby at_107) rfl k) ?_
      refine own_via (g' := T6.setTop (mkF m 110 #[.val (.int i0), .val (.int i1), .val (.int i2), .val (.int i3), .val (.int d), .val (.long q), .second, .val (.long r), .second, .val (.long days), .second, .val (.long tw), .second, .val (.ref b4), .val (.int ((tw / d.toInt64).toInt32))] [(.int (XT.cmpL ((((tw / d.toInt64).toInt32).toInt64) * (d.toInt64)) tw))])) (fun t k => XT.lcmp X6.here hx rfl (hb hby at_109) rfl k) ?_
      refine own_via (g' := T6.setTop (mkF m 113 #[.val (.int i0), .val (.int i1), .val (.int i2), .val (.int i3), .val (.int d), .val (.long q), .second, .val (.long r), .second, .val (.long days), .second, .val (.long tw), .second, .val (.ref b4), .val (.int ((tw / d.toInt64).toInt32))] [])) (fun t k => XS.ifNo X6.here hx rfl (hb hby at_110) rfl (XT.ll_gt_f hlo) k) ?_
      refine own_via (g' := T6.setTop (mkF m 115 #[.val (.int i0), .val (.int i1), .val (.int i2), .val (.int i3), .val (.int d), .val (.long q), .second, .val (.long r), .second, .val (.long days), .second, .val (.long tw), .second, .val (.ref b4), .val (.int ((tw / d.toInt64).toInt32))] [(.long tw)])) (fun t k => XT.lload X6.here hx rfl (hb hby at_113) rfl k) ?_
      refine own_via (g' := T6.setTop (mkF m 117 #[.val (.int i0), .val (.int i1), .val (.int i2), .val (.int i3), .val (.int d), .val (.long q), .second, .val (.long r), .second, .val (.long days), .second, .val (.long tw), .second, .val (.ref b4), .val (.int ((tw / d.toInt64).toInt32))] [(.int ((tw / d.toInt64).toInt32)), (.long tw)])) (fun t k => XS.iload X6.here hx rfl (hb hby at_115) rfl k) ?_
      refine own_via (g' := T6.setTop (mkF m 118 #[.val (.int i0), .val (.int i1), .val (.int i2), .val (.int i3), .val (.int d), .val (.long q), .second, .val (.long r), .second, .val (.long days), .second, .val (.long tw), .second, .val (.ref b4), .val (.int ((tw / d.toInt64).toInt32))] [(.long (((tw / d.toInt64).toInt32).toInt64)), (.long tw)])) (fun t k => XT.i2l X6.here hx rfl (hb hby at_117) rfl k) ?_
      refine own_via (g' := T6.setTop (mkF m 119 #[.val (.int i0), .val (.int i1), .val (.int i2), .val (.int i3), .val (.int d), .val (.long q), .second, .val (.long r), .second, .val (.long days), .second, .val (.long tw), .second, .val (.ref b4), .val (.int ((tw / d.toInt64).toInt32))] [(.long (1 : Int64)), (.long (((tw / d.toInt64).toInt32).toInt64)), (.long tw)])) (fun t k => XT.lconst X6.here hx rfl (hb hby at_118) k) ?_
      refine own_via (g' := T6.setTop (mkF m 120 #[.val (.int i0), .val (.int i1), .val (.int i2), .val (.int i3), .val (.int d), .val (.long q), .second, .val (.long r), .second, .val (.long days), .second, .val (.long tw), .second, .val (.ref b4), .val (.int ((tw / d.toInt64).toInt32))] [(.long ((((tw / d.toInt64).toInt32).toInt64) + (1 : Int64))), (.long tw)])) (fun t k => XT.ladd X6.here hx rfl (hb hby at_119) rfl k) ?_
      refine own_via (g' := T6.setTop (mkF m 122 #[.val (.int i0), .val (.int i1), .val (.int i2), .val (.int i3), .val (.int d), .val (.long q), .second, .val (.long r), .second, .val (.long days), .second, .val (.long tw), .second, .val (.ref b4), .val (.int ((tw / d.toInt64).toInt32))] [(.int d), (.long ((((tw / d.toInt64).toInt32).toInt64) + (1 : Int64))), (.long tw)])) (fun t k => XS.iload X6.here hx rfl (hb hby at_120) rfl k) ?_
      refine own_via (g' := T6.setTop (mkF m 123 #[.val (.int i0), .val (.int i1), .val (.int i2), .val (.int i3), .val (.int d), .val (.long q), .second, .val (.long r), .second, .val (.long days), .second, .val (.long tw), .second, .val (.ref b4), .val (.int ((tw / d.toInt64).toInt32))] [(.long (d.toInt64)), (.long ((((tw / d.toInt64).toInt32).toInt64) + (1 : Int64))), (.long tw)])) (fun t k => XT.i2l X6.here hx rfl (hb hby at_122) rfl k) ?_
      refine own_via (g' := T6.setTop (mkF m 124 #[.val (.int i0), .val (.int i1), .val (.int i2), .val (.int i3), .val (.int d), .val (.long q), .second, .val (.long r), .second, .val (.long days), .second, .val (.long tw), .second, .val (.ref b4), .val (.int ((tw / d.toInt64).toInt32))] [(.long (((((tw / d.toInt64).toInt32).toInt64) + (1 : Int64)) * (d.toInt64))), (.long tw)])) (fun t k => XT.lmul X6.here hx rfl (hb hby at_123) rfl k) ?_
      refine own_via (g' := T6.setTop (mkF m 125 #[.val (.int i0), .val (.int i1), .val (.int i2), .val (.int i3), .val (.int d), .val (.long q), .second, .val (.long r), .second, .val (.long days), .second, .val (.long tw), .second, .val (.ref b4), .val (.int ((tw / d.toInt64).toInt32))] [(.int (XT.cmpL tw (((((tw / d.toInt64).toInt32).toInt64) + (1 : Int64)) * (d.toInt64))))])) (fun t k => XT.lcmp X6.here hx rfl (hb hby at_124) rfl k) ?_
      refine own_via (g' := T6.setTop (mkF m 128 #[.val (.int i0), .val (.int i1), .val (.int i2), .val (.int i3), .val (.int d), .val (.long q), .second, .val (.long r), .second, .val (.long days), .second, .val (.long tw), .second, .val (.ref b4), .val (.int ((tw / d.toInt64).toInt32))] [])) (fun t k => XS.ifNo X6.here hx rfl (hb hby at_125) rfl (XT.ll_ge_f hhi) k) ?_
      refine own_via (g' := T6.setTop (mkF m 129 #[.val (.int i0), .val (.int i1), .val (.int i2), .val (.int i3), .val (.int d), .val (.long q), .second, .val (.long r), .second, .val (.long days), .second, .val (.long tw), .second, .val (.ref b4), .val (.int ((tw / d.toInt64).toInt32))] [(.int (1 : Int32))])) (fun t k => XS.iconst X6.here hx rfl (hb hby at_128) k) ?_
      refine own_via (g' := T6.setTop (mkF m 133 #[.val (.int i0), .val (.int i1), .val (.int i2), .val (.int i3), .val (.int d), .val (.long q), .second, .val (.long r), .second, .val (.long days), .second, .val (.long tw), .second, .val (.ref b4), .val (.int ((tw / d.toInt64).toInt32))] [(.int (1 : Int32))])) (fun t k => XS.goto X6.here hx rfl (pc0 := 129) (pc' := 133) rfl (hb hby at_129) (by decide) (by decide) k) ?_
      exact own_retB X6 hx hlk (t := .boolean) Bd.returns (by simp) (hb hby at_133) ⟨rfl, N6⟩ (by decide) (by decide)
    · refine own_via (g' := T2.setTop (mkF m 78 #[.val (.int i0), .val (.int i1), .val (.int i2), .val (.int i3), .val (.int d), .val (.long q), .second, .val (.long r), .second, .val (.long days), .second, .val (.long tw), .second, .unset, .unset] [])) (fun t k => XS.ifNo X2.here hx rfl (hb hby at_75) rfl (XT.ll_lt_f hc75_3) k) ?_
      refine own_via (g' := T2.setTop (mkF m 79 #[.val (.int i0), .val (.int i1), .val (.int i2), .val (.int i3), .val (.int d), .val (.long q), .second, .val (.long r), .second, .val (.long days), .second, .val (.long tw), .second, .unset, .unset] [(.int (1 : Int32))])) (fun t k => XS.iconst X2.here hx rfl (hb hby at_78) k) ?_
      exact own_retB X2 hx hlk (t := .boolean) Bd.returns (by simp) (hb hby at_79) ⟨rfl, N2⟩ (by decide) (by decide)
  · refine own_via (g' := s₁.setTop (mkF m 6 #[.val (.int i0), .val (.int i1), .val (.int i2), .val (.int i3), .unset, .unset, .unset, .unset, .unset, .unset, .unset, .unset, .unset, .unset, .unset] [])) (fun t k => XS.ifNo X0.here hx rfl (hb hby at_3) rfl (XT.i0_eq_f hc3_1) k) ?_
    refine own_via (g' := s₁.setTop (mkF m 7 #[.val (.int i0), .val (.int i1), .val (.int i2), .val (.int i3), .unset, .unset, .unset, .unset, .unset, .unset, .unset, .unset, .unset, .unset, .unset] [(.int i2)])) (fun t k => XS.iloadN X0.here hx rfl (hb hby at_6) rfl k) ?_
    refine own_via (g' := s₁.setTop (mkF m 10 #[.val (.int i0), .val (.int i1), .val (.int i2), .val (.int i3), .unset, .unset, .unset, .unset, .unset, .unset, .unset, .unset, .unset, .unset, .unset] [(.int (1023 : Int32)), (.int i2)])) (fun t k => XS.sipush X0.here hx rfl (hb hby at_7) k) ?_
    refine own_via (g' := s₁.setTop (mkF m 11 #[.val (.int i0), .val (.int i1), .val (.int i2), .val (.int i3), .unset, .unset, .unset, .unset, .unset, .unset, .unset, .unset, .unset, .unset, .unset] [(.int (i2 &&& (1023 : Int32)))])) (fun t k => XS.iand X0.here hx rfl (hb hby at_10) rfl k) ?_
    refine own_via (g' := s₁.setTop (mkF m 12 #[.val (.int i0), .val (.int i1), .val (.int i2), .val (.int i3), .unset, .unset, .unset, .unset, .unset, .unset, .unset, .unset, .unset, .unset, .unset] [(.int (1 : Int32)), (.int (i2 &&& (1023 : Int32)))])) (fun t k => XS.iconst X0.here hx rfl (hb hby at_11) k) ?_
    refine own_via (g' := s₁.setTop (mkF m 13 #[.val (.int i0), .val (.int i1), .val (.int i2), .val (.int i3), .unset, .unset, .unset, .unset, .unset, .unset, .unset, .unset, .unset, .unset, .unset] [(.int ((i2 &&& (1023 : Int32)) + (1 : Int32)))])) (fun t k => XS.iadd X0.here hx rfl (hb hby at_12) rfl k) ?_
    refine own_via (g' := s₁.setTop (mkF m 24 #[.val (.int i0), .val (.int i1), .val (.int i2), .val (.int i3), .unset, .unset, .unset, .unset, .unset, .unset, .unset, .unset, .unset, .unset, .unset] [(.int ((i2 &&& (1023 : Int32)) + (1 : Int32)))])) (fun t k => XS.goto X0.here hx rfl (pc0 := 13) (pc' := 24) rfl (hb hby at_13) (by decide) (by decide) k) ?_
    refine own_via (g' := s₁.setTop (mkF m 26 #[.val (.int i0), .val (.int i1), .val (.int i2), .val (.int i3), .val (.int ((i2 &&& (1023 : Int32)) + (1 : Int32))), .unset, .unset, .unset, .unset, .unset, .unset, .unset, .unset, .unset, .unset] [])) (fun t k => XS.istore X0.here hx rfl (hb hby at_24) rfl (l' := #[.val (.int i0), .val (.int i1), .val (.int i2), .val (.int i3), .val (.int ((i2 &&& (1023 : Int32)) + (1 : Int32))), .unset, .unset, .unset, .unset, .unset, .unset, .unset, .unset, .unset, .unset]) rfl k) ?_
    have hdp : 0 < (((i2 &&& (1023 : Int32)) + (1 : Int32))).toInt := own_dpy1 _
    generalize hd : ((i2 &&& (1023 : Int32)) + (1 : Int32)) = d
    rw [hd] at hdp
    refine own_via (g' := s₁.setTop (mkF m 27 #[.val (.int i0), .val (.int i1), .val (.int i2), .val (.int i3), .val (.int d), .unset, .unset, .unset, .unset, .unset, .unset, .unset, .unset, .unset, .unset] [(.int i0)])) (fun t k => XS.iloadN X0.here hx rfl (hb hby at_26) rfl k) ?_
    refine own_via (g' := s₁.setTop (mkF m 29 #[.val (.int i0), .val (.int i1), .val (.int i2), .val (.int i3), .val (.int d), .unset, .unset, .unset, .unset, .unset, .unset, .unset, .unset, .unset, .unset] [(.int (2147483647 : Int32)), (.int i0)])) (fun t k => X0.ldcInt hx hown (mvT hZ (hw _ (List.mem_of_getElem? (i := 0) rfl))) (g := (mkF m 27 #[.val (.int i0), .val (.int i1), .val (.int i2), .val (.int i3), .val (.int d), .unset, .unset, .unset, .unset, .unset, .unset, .unset, .unset, .unset, .unset] [(.int i0)])) rfl (hb hby at_27) _ k) ?_
    refine own_via (g' := s₁.setTop (mkF m 30 #[.val (.int i0), .val (.int i1), .val (.int i2), .val (.int i3), .val (.int d), .unset, .unset, .unset, .unset, .unset, .unset, .unset, .unset, .unset, .unset] [(.int (i0 &&& (2147483647 : Int32)))])) (fun t k => XS.iand X0.here hx rfl (hb hby at_29) rfl k) ?_
    generalize ha : (i0 &&& (2147483647 : Int32)) = a
    refine own_via (g' := s₁.setTop (mkF m 32 #[.val (.int i0), .val (.int i1), .val (.int i2), .val (.int i3), .val (.int d), .unset, .unset, .unset, .unset, .unset, .unset, .unset, .unset, .unset, .unset] [(.int (178956971 : Int32)), (.int a)])) (fun t k => X0.ldcInt hx hown (mvT hZ (hw _ (List.mem_of_getElem? (i := 1) rfl))) (g := (mkF m 30 #[.val (.int i0), .val (.int i1), .val (.int i2), .val (.int i3), .val (.int d), .unset, .unset, .unset, .unset, .unset, .unset, .unset, .unset, .unset, .unset] [(.int a)])) rfl (hb hby at_30) _ k) ?_
    refine own_via (g' := s₁.setTop (mkF m 33 #[.val (.int i0), .val (.int i1), .val (.int i2), .val (.int i3), .val (.int d), .unset, .unset, .unset, .unset, .unset, .unset, .unset, .unset, .unset, .unset] [(.int (a % (178956971 : Int32)))])) (fun t k => iremM (g := (mkF m 32 #[.val (.int i0), .val (.int i1), .val (.int i2), .val (.int i3), .val (.int d), .unset, .unset, .unset, .unset, .unset, .unset, .unset, .unset, .unset, .unset] [(.int (178956971 : Int32)), (.int a)])) X0 hx rfl (hb hby at_32) rfl (by decide) k) ?_
    refine own_via (g' := s₁.setTop (mkF m 34 #[.val (.int i0), .val (.int i1), .val (.int i2), .val (.int i3), .val (.int d), .unset, .unset, .unset, .unset, .unset, .unset, .unset, .unset, .unset, .unset] [(.long ((a % (178956971 : Int32)).toInt64))])) (fun t k => XT.i2l X0.here hx rfl (hb hby at_33) rfl k) ?_
    generalize hq : ((a % (178956971 : Int32)).toInt64) = q
    refine own_via (g' := s₁.setTop (mkF m 36 #[.val (.int i0), .val (.int i1), .val (.int i2), .val (.int i3), .val (.int d), .val (.long q), .second, .unset, .unset, .unset, .unset, .unset, .unset, .unset, .unset] [])) (fun t k => XT.lstore X0.here hx rfl (hb hby at_34) rfl (l' := #[.val (.int i0), .val (.int i1), .val (.int i2), .val (.int i3), .val (.int d), .val (.long q), .second, .unset, .unset, .unset, .unset, .unset, .unset, .unset, .unset]) rfl k) ?_
    refine own_via (g' := s₁.setTop (mkF m 37 #[.val (.int i0), .val (.int i1), .val (.int i2), .val (.int i3), .val (.int d), .val (.long q), .second, .unset, .unset, .unset, .unset, .unset, .unset, .unset, .unset] [(.int i1)])) (fun t k => XS.iloadN X0.here hx rfl (hb hby at_36) rfl k) ?_
    refine own_via (g' := s₁.setTop (mkF m 39 #[.val (.int i0), .val (.int i1), .val (.int i2), .val (.int i3), .val (.int d), .val (.long q), .second, .unset, .unset, .unset, .unset, .unset, .unset, .unset, .unset] [(.int (2147483647 : Int32)), (.int i1)])) (fun t k => X0.ldcInt hx hown (mvT hZ (hw _ (List.mem_of_getElem? (i := 0) rfl))) (g := (mkF m 37 #[.val (.int i0), .val (.int i1), .val (.int i2), .val (.int i3), .val (.int d), .val (.long q), .second, .unset, .unset, .unset, .unset, .unset, .unset, .unset, .unset] [(.int i1)])) rfl (hb hby at_37) _ k) ?_
    refine own_via (g' := s₁.setTop (mkF m 40 #[.val (.int i0), .val (.int i1), .val (.int i2), .val (.int i3), .val (.int d), .val (.long q), .second, .unset, .unset, .unset, .unset, .unset, .unset, .unset, .unset] [(.int (i1 &&& (2147483647 : Int32)))])) (fun t k => XS.iand X0.here hx rfl (hb hby at_39) rfl k) ?_
    generalize hbb : (i1 &&& (2147483647 : Int32)) = b
    refine own_via (g' := s₁.setTop (mkF m 42 #[.val (.int i0), .val (.int i1), .val (.int i2), .val (.int i3), .val (.int d), .val (.long q), .second, .unset, .unset, .unset, .unset, .unset, .unset, .unset, .unset] [(.int d), (.int b)])) (fun t k => XS.iload X0.here hx rfl (hb hby at_40) rfl k) ?_
    refine own_via (g' := s₁.setTop (mkF m 43 #[.val (.int i0), .val (.int i1), .val (.int i2), .val (.int i3), .val (.int d), .val (.long q), .second, .unset, .unset, .unset, .unset, .unset, .unset, .unset, .unset] [(.int (b % d))])) (fun t k => iremM (g := (mkF m 42 #[.val (.int i0), .val (.int i1), .val (.int i2), .val (.int i3), .val (.int d), .val (.long q), .second, .unset, .unset, .unset, .unset, .unset, .unset, .unset, .unset] [(.int d), (.int b)])) X0 hx rfl (hb hby at_42) rfl (fun q => by rw [q] at hdp; exact absurd hdp (by decide)) k) ?_
    refine own_via (g' := s₁.setTop (mkF m 44 #[.val (.int i0), .val (.int i1), .val (.int i2), .val (.int i3), .val (.int d), .val (.long q), .second, .unset, .unset, .unset, .unset, .unset, .unset, .unset, .unset] [(.long ((b % d).toInt64))])) (fun t k => XT.i2l X0.here hx rfl (hb hby at_43) rfl k) ?_
    generalize hr : ((b % d).toInt64) = r
    refine own_via (g' := s₁.setTop (mkF m 46 #[.val (.int i0), .val (.int i1), .val (.int i2), .val (.int i3), .val (.int d), .val (.long q), .second, .val (.long r), .second, .unset, .unset, .unset, .unset, .unset, .unset] [])) (fun t k => XT.lstore X0.here hx rfl (hb hby at_44) rfl (l' := #[.val (.int i0), .val (.int i1), .val (.int i2), .val (.int i3), .val (.int d), .val (.long q), .second, .val (.long r), .second, .unset, .unset, .unset, .unset, .unset, .unset]) rfl k) ?_
    refine own_via (g' := s₁.setTop (mkF m 48 #[.val (.int i0), .val (.int i1), .val (.int i2), .val (.int i3), .val (.int d), .val (.long q), .second, .val (.long r), .second, .unset, .unset, .unset, .unset, .unset, .unset] [(.long q)])) (fun t k => XT.lload X0.here hx rfl (hb hby at_46) rfl k) ?_
    refine own_via (g' := s₁.setTop (mkF m 50 #[.val (.int i0), .val (.int i1), .val (.int i2), .val (.int i3), .val (.int d), .val (.long q), .second, .val (.long r), .second, .unset, .unset, .unset, .unset, .unset, .unset] [(.int d), (.long q)])) (fun t k => XS.iload X0.here hx rfl (hb hby at_48) rfl k) ?_
    refine own_via (g' := s₁.setTop (mkF m 51 #[.val (.int i0), .val (.int i1), .val (.int i2), .val (.int i3), .val (.int d), .val (.long q), .second, .val (.long r), .second, .unset, .unset, .unset, .unset, .unset, .unset] [(.long (d.toInt64)), (.long q)])) (fun t k => XT.i2l X0.here hx rfl (hb hby at_50) rfl k) ?_
    refine own_via (g' := s₁.setTop (mkF m 52 #[.val (.int i0), .val (.int i1), .val (.int i2), .val (.int i3), .val (.int d), .val (.long q), .second, .val (.long r), .second, .unset, .unset, .unset, .unset, .unset, .unset] [(.long (q * (d.toInt64)))])) (fun t k => XT.lmul X0.here hx rfl (hb hby at_51) rfl k) ?_
    refine own_via (g' := s₁.setTop (mkF m 54 #[.val (.int i0), .val (.int i1), .val (.int i2), .val (.int i3), .val (.int d), .val (.long q), .second, .val (.long r), .second, .unset, .unset, .unset, .unset, .unset, .unset] [(.long r), (.long (q * (d.toInt64)))])) (fun t k => XT.lload X0.here hx rfl (hb hby at_52) rfl k) ?_
    refine own_via (g' := s₁.setTop (mkF m 55 #[.val (.int i0), .val (.int i1), .val (.int i2), .val (.int i3), .val (.int d), .val (.long q), .second, .val (.long r), .second, .unset, .unset, .unset, .unset, .unset, .unset] [(.long ((q * (d.toInt64)) + r))])) (fun t k => XT.ladd X0.here hx rfl (hb hby at_54) rfl k) ?_
    generalize hdays : ((q * (d.toInt64)) + r) = days
    refine own_via (g' := s₁.setTop (mkF m 57 #[.val (.int i0), .val (.int i1), .val (.int i2), .val (.int i3), .val (.int d), .val (.long q), .second, .val (.long r), .second, .val (.long days), .second, .unset, .unset, .unset, .unset] [])) (fun t k => XT.lstore X0.here hx rfl (hb hby at_55) rfl (l' := #[.val (.int i0), .val (.int i1), .val (.int i2), .val (.int i3), .val (.int d), .val (.long q), .second, .val (.long r), .second, .val (.long days), .second, .unset, .unset, .unset, .unset]) rfl k) ?_
    refine own_via (g' := s₁.setTop (mkF m 59 #[.val (.int i0), .val (.int i1), .val (.int i2), .val (.int i3), .val (.int d), .val (.long q), .second, .val (.long r), .second, .val (.long days), .second, .unset, .unset, .unset, .unset] [(.long days)])) (fun t k => XT.lload X0.here hx rfl (hb hby at_57) rfl k) ?_
    refine own_via (g' := s₁.setTop (mkF m 62 #[.val (.int i0), .val (.int i1), .val (.int i2), .val (.int i3), .val (.int d), .val (.long q), .second, .val (.long r), .second, .val (.long days), .second, .unset, .unset, .unset, .unset] [(.long (12 : Int64)), (.long days)])) (fun t k => X0.ldc2Long hx hown (mvT hZ (hw _ (List.mem_of_getElem? (i := 2) rfl))) (g := (mkF m 59 #[.val (.int i0), .val (.int i1), .val (.int i2), .val (.int i3), .val (.int d), .val (.long q), .second, .val (.long r), .second, .val (.long days), .second, .unset, .unset, .unset, .unset] [(.long days)])) rfl (hb hby at_59) _ k) ?_
    refine own_via (g' := s₁.setTop (mkF m 63 #[.val (.int i0), .val (.int i1), .val (.int i2), .val (.int i3), .val (.int d), .val (.long q), .second, .val (.long r), .second, .val (.long days), .second, .unset, .unset, .unset, .unset] [(.long (days * (12 : Int64)))])) (fun t k => XT.lmul X0.here hx rfl (hb hby at_62) rfl k) ?_
    generalize htw : (days * (12 : Int64)) = tw
    refine own_via (g' := s₁.setTop (mkF m 65 #[.val (.int i0), .val (.int i1), .val (.int i2), .val (.int i3), .val (.int d), .val (.long q), .second, .val (.long r), .second, .val (.long days), .second, .val (.long tw), .second, .unset, .unset] [])) (fun t k => XT.lstore X0.here hx rfl (hb hby at_63) rfl (l' := #[.val (.int i0), .val (.int i1), .val (.int i2), .val (.int i3), .val (.int d), .val (.long q), .second, .val (.long r), .second, .val (.long days), .second, .val (.long tw), .second, .unset, .unset]) rfl k) ?_
    refine own_via (g' := s₁.setTop (mkF m 67 #[.val (.int i0), .val (.int i1), .val (.int i2), .val (.int i3), .val (.int d), .val (.long q), .second, .val (.long r), .second, .val (.long days), .second, .val (.long tw), .second, .unset, .unset] [(.long tw)])) (fun t k => XT.lload X0.here hx rfl (hb hby at_65) rfl k) ?_
    refine own_via (g' := s₁.setTop (mkF m 70 #[.val (.int i0), .val (.int i1), .val (.int i2), .val (.int i3), .val (.int d), .val (.long q), .second, .val (.long r), .second, .val (.long days), .second, .val (.long tw), .second, .unset, .unset] [(.long (2147483648 : Int64)), (.long tw)])) (fun t k => X0.ldc2Long hx hown (mvT hZ (hw _ (List.mem_of_getElem? (i := 3) rfl))) (g := (mkF m 67 #[.val (.int i0), .val (.int i1), .val (.int i2), .val (.int i3), .val (.int d), .val (.long q), .second, .val (.long r), .second, .val (.long days), .second, .val (.long tw), .second, .unset, .unset] [(.long tw)])) rfl (hb hby at_67) _ k) ?_
    refine own_via (g' := s₁.setTop (mkF m 72 #[.val (.int i0), .val (.int i1), .val (.int i2), .val (.int i3), .val (.int d), .val (.long q), .second, .val (.long r), .second, .val (.long days), .second, .val (.long tw), .second, .unset, .unset] [(.int d), (.long (2147483648 : Int64)), (.long tw)])) (fun t k => XS.iload X0.here hx rfl (hb hby at_70) rfl k) ?_
    refine own_via (g' := s₁.setTop (mkF m 73 #[.val (.int i0), .val (.int i1), .val (.int i2), .val (.int i3), .val (.int d), .val (.long q), .second, .val (.long r), .second, .val (.long days), .second, .val (.long tw), .second, .unset, .unset] [(.long (d.toInt64)), (.long (2147483648 : Int64)), (.long tw)])) (fun t k => XT.i2l X0.here hx rfl (hb hby at_72) rfl k) ?_
    refine own_via (g' := s₁.setTop (mkF m 74 #[.val (.int i0), .val (.int i1), .val (.int i2), .val (.int i3), .val (.int d), .val (.long q), .second, .val (.long r), .second, .val (.long days), .second, .val (.long tw), .second, .unset, .unset] [(.long ((2147483648 : Int64) * (d.toInt64))), (.long tw)])) (fun t k => XT.lmul X0.here hx rfl (hb hby at_73) rfl k) ?_
    refine own_via (g' := s₁.setTop (mkF m 75 #[.val (.int i0), .val (.int i1), .val (.int i2), .val (.int i3), .val (.int d), .val (.long q), .second, .val (.long r), .second, .val (.long days), .second, .val (.long tw), .second, .unset, .unset] [(.int (XT.cmpL tw ((2147483648 : Int64) * (d.toInt64))))])) (fun t k => XT.lcmp X0.here hx rfl (hb hby at_74) rfl k) ?_
    by_cases hc75_7 : tw < ((2147483648 : Int64) * (d.toInt64))
    · refine own_via (g' := s₁.setTop (mkF m 80 #[.val (.int i0), .val (.int i1), .val (.int i2), .val (.int i3), .val (.int d), .val (.long q), .second, .val (.long r), .second, .val (.long days), .second, .val (.long tw), .second, .unset, .unset] [])) (fun t k => XS.ifYes X0.here hx rfl (pc0 := 75) (pc' := 80) rfl (hb hby at_75) rfl (XT.ll_lt_t hc75_7) (by decide) (by decide) k) ?_
      obtain ⟨hnn, hp1, hd0, hd1, hlo, hhi⟩ := own_law a b d (own_mask ha) (own_mask hbb) hdp hq hr hdays htw hc75_7
      rw [← htw] at hd1
      obtain ⟨T8, h8, X8, e8, E8, A8, D8, -, st8⟩ := newO X0 hx hZ hown (hw _ (List.mem_of_getElem? (i := 4) rfl)) (hw _ (List.mem_of_getElem? (i := 5) rfl)) (hw _ (List.mem_of_getElem? (i := 6) rfl)) e0 (g := (mkF m 80 #[.val (.int i0), .val (.int i1), .val (.int i2), .val (.int i3), .val (.int d), .val (.long q), .second, .val (.long r), .second, .val (.long days), .second, .val (.long tw), .second, .unset, .unset] [])) rfl (hb hby at_80) (by decide) (by decide)
      obtain ⟨b8, g8⟩ : ∃ z, z = h0.size := ⟨_, rfl⟩
      rw [← g8] at A8 D8 st8
      have sz_b8 : h0.size ≤ b8 := Nat.le_trans K0.1 (Nat.le_of_eq g8.symm)
      have g_b8 : n0 ≤ b8 := Nat.le_trans Z0 sz_b8
      have Kc8 : Keep h0 h8 [] := K0.ext E8
      have F8_19 : Fld Z h8 b8 "com/example/planwright/planwright/service/ServiceYears" "days" "J" (.long (0 : Int64)) := D8 (Or.inr (hw _ (List.mem_of_getElem? (i := 19) rfl))) (ty := .long) (by decide)
      have F8_21 : Fld Z h8 b8 "com/example/planwright/planwright/service/ServiceYears" "daysPerYear" "I" (.int (0 : Int32)) := D8 (Or.inr (hw _ (List.mem_of_getElem? (i := 21) rfl))) (ty := .int) (by decide)
      refine own_via (g' := T8.setTop (mkF m 83 #[.val (.int i0), .val (.int i1), .val (.int i2), .val (.int i3), .val (.int d), .val (.long q), .second, .val (.long r), .second, .val (.long days), .second, .val (.long tw), .second, .unset, .unset] [(.ref b8)])) (fun t k => st8 _ k) ?_
      refine own_via (g' := T8.setTop (mkF m 84 #[.val (.int i0), .val (.int i1), .val (.int i2), .val (.int i3), .val (.int d), .val (.long q), .second, .val (.long r), .second, .val (.long days), .second, .val (.long tw), .second, .unset, .unset] [(.ref b8), (.ref b8)])) (fun t k => XS.dup X8.here hx rfl (hb hby at_83) rfl (rfl) k) ?_
      refine own_via (g' := T8.setTop (mkF m 86 #[.val (.int i0), .val (.int i1), .val (.int i2), .val (.int i3), .val (.int d), .val (.long q), .second, .val (.long r), .second, .val (.long days), .second, .val (.long tw), .second, .unset, .unset] [(.long days), (.ref b8), (.ref b8)])) (fun t k => XT.lload X8.here hx rfl (hb hby at_84) rfl k) ?_
      refine own_via (g' := T8.setTop (mkF m 88 #[.val (.int i0), .val (.int i1), .val (.int i2), .val (.int i3), .val (.int d), .val (.long q), .second, .val (.long r), .second, .val (.long days), .second, .val (.long tw), .second, .unset, .unset] [(.int d), (.long days), (.ref b8), (.ref b8)])) (fun t k => XS.iload X8.here hx rfl (hb hby at_86) rfl k) ?_
      obtain ⟨v9, _, ⟨T9, L9, k9, n9⟩, -, X9, ⟨Lc9, hQ9, l9, y9, z9⟩, st9⟩ := X8.specialBack hx (y := (⟨"com/example/planwright/planwright/service/ServiceYears", "<init>", "(JI)V"⟩ : MethodName)) rfl hown (mvT hZ (hw _ (List.mem_of_getElem? (i := 7) rfl))) (mvT hZ (hw _ (List.mem_of_getElem? (i := 8) rfl))) (mvT hZ (hw _ (List.mem_of_getElem? (i := 9) rfl))) (by decide) (backOf (W := 1) (own_rm1 l Z a0 hw [] b8 days d h8 n0 (Nat.le_trans Z0 Kc8.1) A8 F8_19 F8_21 g_b8 hnn hp1) hZ (hw _ (List.mem_of_getElem? (i := 9) rfl)) (hw _ (List.mem_of_getElem? (i := 6) rfl)) (by decide) (by decide)) (g := (mkF m 88 #[.val (.int i0), .val (.int i1), .val (.int i2), .val (.int i3), .val (.int d), .val (.long q), .second, .val (.long r), .second, .val (.long days), .second, .val (.long tw), .second, .unset, .unset] [(.int d), (.long days), (.ref b8), (.ref b8)])) rfl (by rw [hml]; rfl) (Steps.refl _) (a := b8) (argsL := [(.long days), (.int d)]) (rest := [(.ref b8)]) (lenOf own_pd3 rfl) rfl (by show 2 * 0 + _ ≤ _; exact Nat.le_of_eq rfl) (hb hby at_88) (fun _ _ => ⟨rfl, e8, (by decide : 1 + 0 ≤ _), (by decide : 2 + 0 ≤ _)⟩)
      dsimp only [Pt.U, Pt.locs, Pt.cells, Pt.slots] at X9 l9 y9 z9 st9 hQ9
      subst l9 y9 z9
      obtain ⟨rfl, N9q, K9, A9, Fa9_0, Fa9_1⟩ := hQ9
      have Kc9 : Keep h0 T9.heap [] := Kc8.trans K9 (allS (Or.inr sz_b8) all0)
      have N9 := Fr.app N0 N9q
      refine own_via (g' := T9.setTop (mkF m 91 #[.val (.int i0), .val (.int i1), .val (.int i2), .val (.int i3), .val (.int d), .val (.long q), .second, .val (.long r), .second, .val (.long days), .second, .val (.long tw), .second, .unset, .unset] [(.ref b8)])) (fun t k => st9.trans k) ?_
      refine own_via (g' := T9.setTop (mkF m 93 #[.val (.int i0), .val (.int i1), .val (.int i2), .val (.int i3), .val (.int d), .val (.long q), .second, .val (.long r), .second, .val (.long days), .second, .val (.long tw), .second, .val (.ref b8), .unset] [])) (fun t k => XS.astore X9.here hx rfl (hb hby at_91) rfl (rfl) (l' := #[.val (.int i0), .val (.int i1), .val (.int i2), .val (.int i3), .val (.int d), .val (.long q), .second, .val (.long r), .second, .val (.long days), .second, .val (.long tw), .second, .val (.ref b8), .unset]) rfl k) ?_
      refine own_via (g' := T9.setTop (mkF m 95 #[.val (.int i0), .val (.int i1), .val (.int i2), .val (.int i3), .val (.int d), .val (.long q), .second, .val (.long r), .second, .val (.long days), .second, .val (.long tw), .second, .val (.ref b8), .unset] [(.ref b8)])) (fun t k => XS.aload X9.here hx rfl (hb hby at_93) rfl (rfl) k) ?_
      obtain ⟨cq10, kq10, q10a, q10b, q10c⟩ := isOf hZ rfl A9
      obtain ⟨v10, _, ⟨T10, L10, k10, n10⟩, -, X10, ⟨Lc10, hQ10, l10, y10, z10⟩, st10⟩ := X9.virtualBack hx (y := (⟨"com/example/planwright/planwright/service/ServiceYears", "completedMonths", "()I"⟩ : MethodName)) (z := (⟨"com/example/planwright/planwright/service/ServiceYears", "completedMonths", "()I"⟩ : MethodName)) hown (mvT hZ (hw _ (List.mem_of_getElem? (i := 22) rfl))) (mvT hZ (hw _ (List.mem_of_getElem? (i := 23) rfl))) (notFace_of_selects (args := #[]) (mvT hZ (hw _ (List.mem_of_getElem? (i := 25) rfl)))) (mvT hZ (hw _ (List.mem_of_getElem? (i := 25) rfl))) (mvT hZ (hw _ (List.mem_of_getElem? (i := 24) rfl))) (by decide) (backOf (W := 0) (own_rm4 l Z a0 hw [] b8 days d T9.heap n0 (Nat.le_trans Z0 Kc9.1) Fa9_0 Fa9_1 hd0 hd1) hZ (hw _ (List.mem_of_getElem? (i := 26) rfl)) (hw _ (List.mem_of_getElem? (i := 6) rfl)) (by decide) (by decide)) q10a q10c (g := (mkF m 95 #[.val (.int i0), .val (.int i1), .val (.int i2), .val (.int i3), .val (.int d), .val (.long q), .second, .val (.long r), .second, .val (.long days), .second, .val (.long tw), .second, .val (.ref b8), .unset] [(.ref b8)])) rfl (by rw [hml]; rfl) (Steps.refl _) (argsL := []) (rest := []) (lenOf own_pd4 rfl) rfl (by show 2 * 0 + _ ≤ _; exact Nat.le_of_eq rfl) (hb hby at_95) (fun _ _ => ⟨rfl, rfl, (by decide : 1 + 0 ≤ _), (by decide : 2 + 0 ≤ _)⟩)
      dsimp only [Pt.U, Pt.locs, Pt.cells, Pt.slots] at X10 l10 y10 z10 st10 hQ10
      subst l10 y10 z10
      obtain ⟨rfl, N10q, e10⟩ := hQ10
      have N10 := Fr.app N9 N10q
      refine own_via (g' := T10.setTop (mkF m 98 #[.val (.int i0), .val (.int i1), .val (.int i2), .val (.int i3), .val (.int d), .val (.long q), .second, .val (.long r), .second, .val (.long days), .second, .val (.long tw), .second, .val (.ref b8), .unset] [(.int (((days * (12 : Int64)) / d.toInt64).toInt32))])) (fun t k => st10.trans k) ?_
      rw [htw]
      refine own_via (g' := T10.setTop (mkF m 100 #[.val (.int i0), .val (.int i1), .val (.int i2), .val (.int i3), .val (.int d), .val (.long q), .second, .val (.long r), .second, .val (.long days), .second, .val (.long tw), .second, .val (.ref b8), .val (.int ((tw / d.toInt64).toInt32))] [])) (fun t k => XS.istore X10.here hx rfl (hb hby at_98) rfl (l' := #[.val (.int i0), .val (.int i1), .val (.int i2), .val (.int i3), .val (.int d), .val (.long q), .second, .val (.long r), .second, .val (.long days), .second, .val (.long tw), .second, .val (.ref b8), .val (.int ((tw / d.toInt64).toInt32))]) rfl k) ?_
      refine own_via (g' := T10.setTop (mkF m 102 #[.val (.int i0), .val (.int i1), .val (.int i2), .val (.int i3), .val (.int d), .val (.long q), .second, .val (.long r), .second, .val (.long days), .second, .val (.long tw), .second, .val (.ref b8), .val (.int ((tw / d.toInt64).toInt32))] [(.int ((tw / d.toInt64).toInt32))])) (fun t k => XS.iload X10.here hx rfl (hb hby at_100) rfl k) ?_
      refine own_via (g' := T10.setTop (mkF m 103 #[.val (.int i0), .val (.int i1), .val (.int i2), .val (.int i3), .val (.int d), .val (.long q), .second, .val (.long r), .second, .val (.long days), .second, .val (.long tw), .second, .val (.ref b8), .val (.int ((tw / d.toInt64).toInt32))] [(.long (((tw / d.toInt64).toInt32).toInt64))])) (fun t k => XT.i2l X10.here hx rfl (hb hby at_102) rfl k) ?_
      refine own_via (g' := T10.setTop (mkF m 105 #[.val (.int i0), .val (.int i1), .val (.int i2), .val (.int i3), .val (.int d), .val (.long q), .second, .val (.long r), .second, .val (.long days), .second, .val (.long tw), .second, .val (.ref b8), .val (.int ((tw / d.toInt64).toInt32))] [(.int d), (.long (((tw / d.toInt64).toInt32).toInt64))])) (fun t k => XS.iload X10.here hx rfl (hb hby at_103) rfl k) ?_
      refine own_via (g' := T10.setTop (mkF m 106 #[.val (.int i0), .val (.int i1), .val (.int i2), .val (.int i3), .val (.int d), .val (.long q), .second, .val (.long r), .second, .val (.long days), .second, .val (.long tw), .second, .val (.ref b8), .val (.int ((tw / d.toInt64).toInt32))] [(.long (d.toInt64)), (.long (((tw / d.toInt64).toInt32).toInt64))])) (fun t k => XT.i2l X10.here hx rfl (hb hby at_105) rfl k) ?_
      refine own_via (g' := T10.setTop (mkF m 107 #[.val (.int i0), .val (.int i1), .val (.int i2), .val (.int i3), .val (.int d), .val (.long q), .second, .val (.long r), .second, .val (.long days), .second, .val (.long tw), .second, .val (.ref b8), .val (.int ((tw / d.toInt64).toInt32))] [(.long ((((tw / d.toInt64).toInt32).toInt64) * (d.toInt64)))])) (fun t k => XT.lmul X10.here hx rfl (hb hby at_106) rfl k) ?_
      refine own_via (g' := T10.setTop (mkF m 109 #[.val (.int i0), .val (.int i1), .val (.int i2), .val (.int i3), .val (.int d), .val (.long q), .second, .val (.long r), .second, .val (.long days), .second, .val (.long tw), .second, .val (.ref b8), .val (.int ((tw / d.toInt64).toInt32))] [(.long tw), (.long ((((tw / d.toInt64).toInt32).toInt64) * (d.toInt64)))])) (fun t k => XT.lload X10.here hx rfl (hb hby at_107) rfl k) ?_
      refine own_via (g' := T10.setTop (mkF m 110 #[.val (.int i0), .val (.int i1), .val (.int i2), .val (.int i3), .val (.int d), .val (.long q), .second, .val (.long r), .second, .val (.long days), .second, .val (.long tw), .second, .val (.ref b8), .val (.int ((tw / d.toInt64).toInt32))] [(.int (XT.cmpL ((((tw / d.toInt64).toInt32).toInt64) * (d.toInt64)) tw))])) (fun t k => XT.lcmp X10.here hx rfl (hb hby at_109) rfl k) ?_
      refine own_via (g' := T10.setTop (mkF m 113 #[.val (.int i0), .val (.int i1), .val (.int i2), .val (.int i3), .val (.int d), .val (.long q), .second, .val (.long r), .second, .val (.long days), .second, .val (.long tw), .second, .val (.ref b8), .val (.int ((tw / d.toInt64).toInt32))] [])) (fun t k => XS.ifNo X10.here hx rfl (hb hby at_110) rfl (XT.ll_gt_f hlo) k) ?_
      refine own_via (g' := T10.setTop (mkF m 115 #[.val (.int i0), .val (.int i1), .val (.int i2), .val (.int i3), .val (.int d), .val (.long q), .second, .val (.long r), .second, .val (.long days), .second, .val (.long tw), .second, .val (.ref b8), .val (.int ((tw / d.toInt64).toInt32))] [(.long tw)])) (fun t k => XT.lload X10.here hx rfl (hb hby at_113) rfl k) ?_
      refine own_via (g' := T10.setTop (mkF m 117 #[.val (.int i0), .val (.int i1), .val (.int i2), .val (.int i3), .val (.int d), .val (.long q), .second, .val (.long r), .second, .val (.long days), .second, .val (.long tw), .second, .val (.ref b8), .val (.int ((tw / d.toInt64).toInt32))] [(.int ((tw / d.toInt64).toInt32)), (.long tw)])) (fun t k => XS.iload X10.here hx rfl (hb hby at_115) rfl k) ?_
      refine own_via (g' := T10.setTop (mkF m 118 #[.val (.int i0), .val (.int i1), .val (.int i2), .val (.int i3), .val (.int d), .val (.long q), .second, .val (.long r), .second, .val (.long days), .second, .val (.long tw), .second, .val (.ref b8), .val (.int ((tw / d.toInt64).toInt32))] [(.long (((tw / d.toInt64).toInt32).toInt64)), (.long tw)])) (fun t k => XT.i2l X10.here hx rfl (hb hby at_117) rfl k) ?_
      refine own_via (g' := T10.setTop (mkF m 119 #[.val (.int i0), .val (.int i1), .val (.int i2), .val (.int i3), .val (.int d), .val (.long q), .second, .val (.long r), .second, .val (.long days), .second, .val (.long tw), .second, .val (.ref b8), .val (.int ((tw / d.toInt64).toInt32))] [(.long (1 : Int64)), (.long (((tw / d.toInt64).toInt32).toInt64)), (.long tw)])) (fun t k => XT.lconst X10.here hx rfl (hb hby at_118) k) ?_
      refine own_via (g' := T10.setTop (mkF m 120 #[.val (.int i0), .val (.int i1), .val (.int i2), .val (.int i3), .val (.int d), .val (.long q), .second, .val (.long r), .second, .val (.long days), .second, .val (.long tw), .second, .val (.ref b8), .val (.int ((tw / d.toInt64).toInt32))] [(.long ((((tw / d.toInt64).toInt32).toInt64) + (1 : Int64))), (.long tw)])) (fun t k => XT.ladd X10.here hx rfl (hb hby at_119) rfl k) ?_
      refine own_via (g' := T10.setTop (mkF m 122 #[.val (.int i0), .val (.int i1), .val (.int i2), .val (.int i3), .val (.int d), .val (.long q), .second, .val (.long r), .second, .val (.long days), .second, .val (.long tw), .second, .val (.ref b8), .val (.int ((tw / d.toInt64).toInt32))] [(.int d), (.long ((((tw / d.toInt64).toInt32).toInt64) + (1 : Int64))), (.long tw)])) (fun t k => XS.iload X10.here hx rfl (hb hby at_120) rfl k) ?_
      refine own_via (g' := T10.setTop (mkF m 123 #[.val (.int i0), .val (.int i1), .val (.int i2), .val (.int i3), .val (.int d), .val (.long q), .second, .val (.long r), .second, .val (.long days), .second, .val (.long tw), .second, .val (.ref b8), .val (.int ((tw / d.toInt64).toInt32))] [(.long (d.toInt64)), (.long ((((tw / d.toInt64).toInt32).toInt64) + (1 : Int64))), (.long tw)])) (fun t k => XT.i2l X10.here hx rfl (hb hby at_122) rfl k) ?_
      refine own_via (g' := T10.setTop (mkF m 124 #[.val (.int i0), .val (.int i1), .val (.int i2), .val (.int i3), .val (.int d), .val (.long q), .second, .val (.long r), .second, .val (.long days), .second, .val (.long tw), .second, .val (.ref b8), .val (.int ((tw / d.toInt64).toInt32))] [(.long (((((tw / d.toInt64).toInt32).toInt64) + (1 : Int64)) * (d.toInt64))), (.long tw)])) (fun t k => XT.lmul X10.here hx rfl (hb hby at_123) rfl k) ?_
      refine own_via (g' := T10.setTop (mkF m 125 #[.val (.int i0), .val (.int i1), .val (.int i2), .val (.int i3), .val (.int d), .val (.long q), .second, .val (.long r), .second, .val (.long days), .second, .val (.long tw), .second, .val (.ref b8), .val (.int ((tw / d.toInt64).toInt32))] [(.int (XT.cmpL tw (((((tw / d.toInt64).toInt32).toInt64) + (1 : Int64)) * (d.toInt64))))])) (fun t k => XT.lcmp X10.here hx rfl (hb hby at_124) rfl k) ?_
      refine own_via (g' := T10.setTop (mkF m 128 #[.val (.int i0), .val (.int i1), .val (.int i2), .val (.int i3), .val (.int d), .val (.long q), .second, .val (.long r), .second, .val (.long days), .second, .val (.long tw), .second, .val (.ref b8), .val (.int ((tw / d.toInt64).toInt32))] [])) (fun t k => XS.ifNo X10.here hx rfl (hb hby at_125) rfl (XT.ll_ge_f hhi) k) ?_
      refine own_via (g' := T10.setTop (mkF m 129 #[.val (.int i0), .val (.int i1), .val (.int i2), .val (.int i3), .val (.int d), .val (.long q), .second, .val (.long r), .second, .val (.long days), .second, .val (.long tw), .second, .val (.ref b8), .val (.int ((tw / d.toInt64).toInt32))] [(.int (1 : Int32))])) (fun t k => XS.iconst X10.here hx rfl (hb hby at_128) k) ?_
      refine own_via (g' := T10.setTop (mkF m 133 #[.val (.int i0), .val (.int i1), .val (.int i2), .val (.int i3), .val (.int d), .val (.long q), .second, .val (.long r), .second, .val (.long days), .second, .val (.long tw), .second, .val (.ref b8), .val (.int ((tw / d.toInt64).toInt32))] [(.int (1 : Int32))])) (fun t k => XS.goto X10.here hx rfl (pc0 := 129) (pc' := 133) rfl (hb hby at_129) (by decide) (by decide) k) ?_
      exact own_retB X10 hx hlk (t := .boolean) Bd.returns (by simp) (hb hby at_133) ⟨rfl, N10⟩ (by decide) (by decide)
    · refine own_via (g' := s₁.setTop (mkF m 78 #[.val (.int i0), .val (.int i1), .val (.int i2), .val (.int i3), .val (.int d), .val (.long q), .second, .val (.long r), .second, .val (.long days), .second, .val (.long tw), .second, .unset, .unset] [])) (fun t k => XS.ifNo X0.here hx rfl (hb hby at_75) rfl (XT.ll_lt_f hc75_7) k) ?_
      refine own_via (g' := s₁.setTop (mkF m 79 #[.val (.int i0), .val (.int i1), .val (.int i2), .val (.int i3), .val (.int d), .val (.long q), .second, .val (.long r), .second, .val (.long days), .second, .val (.long tw), .second, .unset, .unset] [(.int (1 : Int32))])) (fun t k => XS.iconst X0.here hx rfl (hb hby at_78) k) ?_
      exact own_retB X0 hx hlk (t := .boolean) Bd.returns (by simp) (hb hby at_79) ⟨rfl, N0⟩ (by decide) (by decide)
set_option maxRecDepth 65536 in
set_option maxHeartbeats 40000000 in
theorem comes_1 {Post : Tables → Env → Array Value → State → Outcome → State → Prop} (hpost : ∀ tb e args s v u, (limb_1_1.after args s (.returned v) u = true ∧ limb_1_2.after args s (.returned v) u = true ∧ True) → FrameEnd s (.returned v) u (Jvm.fieldLocs frame_1_writes args s ++ Jvm.arrayLocs frame_1_arrays args s ++ Jvm.staticLocs frame_1_statics s) 16 128 → Post tb e args s (.returned v) u) :
    ArmFor flags0 classFile x code maxLocals ret World_1 tables_1 room_1 Calls_1 rest_1 Pre_1 Post := by
  intro l hfl _ _ p e ha hc hk s m args below hf hA hF happ hP
  obtain ⟨hcalls, hrest, hpre⟩ := hP
  obtain ⟨-, -, -, hnamed, -, -, -, hat⟩ := (Spec.applies_iff hf).mp happ
  obtain ⟨hg, hn⟩ := and_e (Cond.before_iff.mp (show (Jvm.Cond.and given_1 narrow_1).before args s = true from hpre))
  obtain ⟨g1, g2⟩ := and_e hg
  obtain ⟨g3, g4⟩ := and_e g2
  obtain ⟨g5, g6⟩ := and_e g4
  obtain ⟨g7, g8⟩ := and_e g6
  obtain ⟨w0, w1, w2, w3, rfl⟩ : ∃ w0 w1 w2 w3 : Value, args = #[w0, w1, w2, w3] := by
    have hs : args.size = 4 := by simpa [Cond.value, given_1] using g1
    obtain ⟨L⟩ := args
    match L, hs with
    | [w0, w1, w2, w3], _ => exact ⟨w0, w1, w2, w3, rfl⟩
  have hw := fun d (hd : d ∈ tables_1) => atoms_spec (ws := Jvm.Cond.code x code maxLocals ret :: tables_1) hat d (List.mem_cons_of_mem _ hd)
  have hfit : Fit s := fun {y c} hc i hi => by
    obtain ⟨ha, rfl⟩ := Array.getElem?_eq_some_iff.mp hc
    have q := List.all_eq_true.mp ((Array.all_eq_true_iff_forall_mem.mp hF) _ (Array.getElem_mem ha)) i (List.mem_range.mpr hi)
    simpa [Array.getElem?_eq_getElem hi] using q
  obtain ⟨i0, ei0⟩ := is_v g3
  obtain rfl : w0 = (.int i0) := Option.some.inj ei0
  obtain ⟨i1, ei1⟩ := is_v g5
  obtain rfl : w1 = (.int i1) := Option.some.inj ei1
  obtain ⟨i2, ei2⟩ := is_v g7
  obtain rfl : w2 = (.int i2) := Option.some.inj ei2
  obtain ⟨i3, ei3⟩ := is_v g8
  obtain rfl : w3 = (.int i3) := Option.some.inj ei3
  obtain ⟨n, o, h1, h2, h3, _, L, rfl, ⟨rfl, N⟩, hq⟩ := own_rm0 l s _ hw tables_1 i0 i1 i2 i3 s.heap s.heap.size (Nat.le_refl _)  p e ha hc hk s m _ below hf ((Spec.applies_iff_loose hf).mp happ).1 ⟨rfl, State.Warmed39.refl s, rfl⟩ trivial
  refine ⟨n, _, h1, h2, h3, hpost _ _ _ _ _ _ ⟨Cond.after_iff.mpr rfl, Cond.after_iff.mpr (eq_i res_at (Term.int_eval (1)) rfl), trivial⟩ ⟨hq.1, hq.2.1, (hq.2.2.sift fun y hy => Or.inr (N y hy)).mono (by decide) (by decide)⟩⟩
theorem main_1_1 : Claimed_1_1 := comes_1 fun _ _ _ _ _ _ h hF => ⟨h.1, hF⟩
theorem main_1_2 : Claimed_1_2 := comes_1 fun _ _ _ _ _ _ h hF => ⟨h.2.1, hF⟩
end Jvm.Pilot.@@N@@
namespace Jvm.Pilot.@@N@@
open Jvm Jvm.ClassFile Sem Op Lib Jvm.Free Jvm.Stand Jvm.Pilot.@@N@@.Jvm.D
/-! MADE BY PROGRAM (witnessworld.py) out of the Statement's table words and the real class files: 11 classes; the members and pool entries that the words name. The judged class is class 1, her method 1. -/
namespace start1
open Jvm.ClassFile
def u (s : String) : CpInfo := .utf8 (stringToUtf16 s)
/-- a pool by its gaps: so many unusable entries, then the entry; so many at the end -/
def gap : Nat → List CpInfo → List CpInfo
  | 0, r => r
  | n + 1, r => .unusable :: gap n r
def poolList (es : List (Nat × CpInfo)) (last : Nat) : List CpInfo := es.foldr (fun e r => gap e.1 (e.2 :: r)) (gap last [])
def pool (es : List (Nat × CpInfo)) (last : Nat) : Array CpInfo := ⟨poolList es last⟩
def fileOf (pool : Array CpInfo) (this : Nat) (attrs : Array Attribute := #[]) (ms : Array MethodInfo := #[]) (fl : Nat := 33) (sup : Nat := 0) (ifs : Array Nat := #[]) (fds : Array FieldInfo := #[]) : ClassFile where
  minorVersion := 0
  majorVersion := 65
  constantPool := pool
  accessFlags := fl
  thisClass := this
  superClass := sup
  interfaces := ifs
  fields := fds
  methods := ms
  attributes := attrs
def plain (name : String) (sup : Option ClassId) : Class where
  name := name
  kind := .ordinary
  loader := none
  accessFlags := 33
  super := sup
  interfaces := #[]
  cf := none
  fields := #[]
  methods := #[]
  instanceTypes := #[]
  staticTypes := #[]
  resolved := #[]
  callSites := []
  init := .initialized
  statics := none
  mirror := none

def pool0 : Array CpInfo := pool [(5, u "<init>"), (0, u "()V"), (1, .class_ 10), (1, u "java/lang/Object")] 113

def k0c0 : Code := { maxStack := 0, maxLocals := 1, code := object_method_1_code, exceptionTable := #[], attributes := #[] }
def k0m0 : Method := { name := "<init>", desc := "()V", sig := { parameters := [], returnType := none }, accessFlags := 1, code := some k0c0 }
/-- java/lang/Object -/
def k0 : Class := { plain "java/lang/Object" none with
  accessFlags := 33
  interfaces := #[]
  cf := some (fileOf pool0 8 #[] #[{ accessFlags := 1, nameIndex := 5, descriptorIndex := 6, attributes := #[] }] 33 0 #[] #[])
  fields := #[]
  methods := #[k0m0]
  instanceTypes := #[]
  staticTypes := #[]
  resolved := Array.replicate 124 none
  statics := none }

def pool1 : Array CpInfo := pool [(2, .class_ 4), (1, u "java/lang/Object"), (0, u "<init>"), (0, u "()V"), (0, .integer 2147483647), (0, .methodref 9 10), (0, .class_ 11), (0, .nameAndType 12 13), (0, u "java/lang/Math"), (0, u "max"), (0, u "(II)I"), (0, .integer 178956971), (0, .long 12), (1, .long 2147483648), (1, .class_ 20), (0, u "com/example/planwright/planwright/service/ServiceYears"), (0, .methodref 19 22), (0, .nameAndType 5 23), (0, u "(JI)V"), (0, .methodref 19 25), (0, .nameAndType 26 27), (0, u "completedMonths"), (0, u "()I"), (0, .class_ 29), (0, u "com/example/planwright/planwright/service/ServiceYearsCompletedMonthsPinLaw"), (2, u "law"), (0, u "(IIII)Z")] 3

def k1m0 : Method := { name := "<init>", desc := "()V", sig := { parameters := [], returnType := none }, accessFlags := 1, code := none }
def k1c1 : Code := { maxStack := 6, maxLocals := 15, code := code, exceptionTable := #[], attributes := #[] }
def k1m1 : Method := { name := "law", desc := "(IIII)Z", sig := { parameters := [.int, .int, .int, .int], returnType := some .boolean }, accessFlags := 9, code := some k1c1 }
/-- com/example/planwright/planwright/service/ServiceYearsCompletedMonthsPinLaw -/
def k1 : Class := { plain "com/example/planwright/planwright/service/ServiceYearsCompletedMonthsPinLaw" (some 0) with
  accessFlags := 49
  interfaces := #[]
  cf := some (fileOf pool1 28 #[] #[{ accessFlags := 1, nameIndex := 5, descriptorIndex := 6, attributes := #[] }, { accessFlags := 9, nameIndex := 32, descriptorIndex := 33, attributes := #[] }] 49 2 #[] #[])
  fields := #[]
  methods := #[k1m0, k1m1]
  instanceTypes := #[]
  staticTypes := #[]
  resolved := Array.replicate 37 none
  statics := none }

def pool2 : Array CpInfo := pool [(1, .methodref 2 3), (0, .class_ 4), (0, .nameAndType 5 6), (0, u "java/lang/Object"), (0, u "<init>"), (0, u "()V"), (0, .class_ 8), (0, u "java/lang/Record")] 13

def k2c0 : Code := { maxStack := 1, maxLocals := 1, code := jdk_30_method_1_code, exceptionTable := #[], attributes := #[] }
def k2m0 : Method := { name := "<init>", desc := "()V", sig := { parameters := [], returnType := none }, accessFlags := 4, code := some k2c0 }
/-- java/lang/Record -/
def k2 : Class := { plain "java/lang/Record" (some 0) with
  accessFlags := 1057
  interfaces := #[]
  cf := some (fileOf pool2 7 #[] #[{ accessFlags := 4, nameIndex := 5, descriptorIndex := 6, attributes := #[] }] 1057 2 #[] #[])
  fields := #[]
  methods := #[k2m0]
  instanceTypes := #[]
  staticTypes := #[]
  resolved := Array.replicate 22 none
  statics := none }

def pool3 : Array CpInfo := pool [(1, .methodref 2 3), (0, .class_ 4), (0, .nameAndType 5 6), (0, u "java/lang/Record"), (0, u "<init>"), (0, u "()V"), (12, .fieldref 20 21), (0, .class_ 22), (0, .nameAndType 23 24), (0, u "com/example/planwright/planwright/service/ServiceYears"), (0, u "days"), (0, u "J"), (0, .fieldref 20 26), (0, .nameAndType 27 28), (0, u "daysPerYear"), (0, u "I"), (14, .methodref 44 45), (0, .class_ 46), (0, .nameAndType 47 48), (0, u "java/lang/Math"), (0, u "toIntExact"), (0, u "(J)I"), (0, .long 12), (11, u "(JI)V"), (30, u "PRINTED_DECIMALS"), (2, u "MONTHS_PER_YEAR"), (8, u "()I"), (0, u "completedMonths")] 39

def k3c0 : Code := { maxStack := 4, maxLocals := 4, code := prog_66_method_1_code, exceptionTable := #[], attributes := #[] }
def k3m0 : Method := { name := "<init>", desc := "(JI)V", sig := { parameters := [.long, .int], returnType := none }, accessFlags := 1, code := some k3c0 }
def k3c1 : Code := { maxStack := 4, maxLocals := 1, code := prog_66_method_4_code, exceptionTable := #[], attributes := #[] }
def k3m1 : Method := { name := "completedMonths", desc := "()I", sig := { parameters := [], returnType := some .int }, accessFlags := 1, code := some k3c1 }
/-- com/example/planwright/planwright/service/ServiceYears -/
def k3 : Class := { plain "com/example/planwright/planwright/service/ServiceYears" (some 2) with
  accessFlags := 49
  interfaces := #[]
  cf := some (fileOf pool3 20 #[] #[{ accessFlags := 1, nameIndex := 5, descriptorIndex := 61, attributes := #[] }, { accessFlags := 1, nameIndex := 105, descriptorIndex := 104, attributes := #[] }] 49 2 #[] #[{ accessFlags := 18, nameIndex := 23, descriptorIndex := 24, attributes := #[] }, { accessFlags := 18, nameIndex := 27, descriptorIndex := 28, attributes := #[] }, { accessFlags := 26, nameIndex := 92, descriptorIndex := 28, attributes := #[] }, { accessFlags := 26, nameIndex := 95, descriptorIndex := 28, attributes := #[] }])
  fields := #[{ name := "days", type := .long, accessFlags := 18, slot := 0, constantValue := 0 }, { name := "daysPerYear", type := .int, accessFlags := 18, slot := 1, constantValue := 0 }, { name := "PRINTED_DECIMALS", type := .int, accessFlags := 26, slot := 0, constantValue := 0 }, { name := "MONTHS_PER_YEAR", type := .int, accessFlags := 26, slot := 1, constantValue := 0 }]
  methods := #[k3m0, k3m1]
  instanceTypes := #[.long, .int]
  staticTypes := #[.int, .int]
  resolved := Array.replicate 145 none
  statics := none }

def pool4 : Array CpInfo := pool [(1, .class_ 2), (0, u "java/lang/Math"), (1, .class_ 6), (1, u "java/lang/Object"), (0, u "<init>"), (0, u "()V"), (89, .class_ 100), (1, u "java/lang/Math$RandomNumberGeneratorHolder"), (71, u "negativeZeroFloatBits"), (0, u "J"), (2, u "negativeZeroDoubleBits"), (21, u "max"), (46, u "$assertionsDisabled"), (0, u "Z"), (88, u "(II)I"), (2, u "twoToTheDoubleScaleDown"), (0, u "D"), (4, u "twoToTheDoubleScaleUp"), (9, u "E"), (3, u "PI"), (2, u "TAU"), (2, u "DEGREES_TO_RADIANS"), (0, u "RADIANS_TO_DEGREES"), (39, u "toIntExact"), (0, u "(J)I")] 53

def k4m0 : Method := { name := "<init>", desc := "()V", sig := { parameters := [], returnType := none }, accessFlags := 2, code := none }
def k4c1 : Code := { maxStack := 4, maxLocals := 2, code := jdk_29_method_43_code, exceptionTable := #[], attributes := #[] }
def k4m1 : Method := { name := "toIntExact", desc := "(J)I", sig := { parameters := [.long], returnType := some .int }, accessFlags := 9, code := some k4c1 }
def k4c2 : Code := { maxStack := 2, maxLocals := 2, code := jdk_29_method_65_code, exceptionTable := #[], attributes := #[] }
def k4m2 : Method := { name := "max", desc := "(II)I", sig := { parameters := [.int, .int], returnType := some .int }, accessFlags := 9, code := some k4c2 }
/-- java/lang/Math -/
def k4 : Class := { plain "java/lang/Math" (some 0) with
  accessFlags := 49
  interfaces := #[]
  cf := some (fileOf pool4 1 #[.nestMembers #[98]] #[{ accessFlags := 2, nameIndex := 7, descriptorIndex := 8, attributes := #[] }, { accessFlags := 9, nameIndex := 405, descriptorIndex := 406, attributes := #[] }, { accessFlags := 9, nameIndex := 198, descriptorIndex := 335, attributes := #[] }] 49 4 #[] #[{ accessFlags := 25, nameIndex := 354, descriptorIndex := 339, attributes := #[] }, { accessFlags := 25, nameIndex := 358, descriptorIndex := 339, attributes := #[] }, { accessFlags := 25, nameIndex := 361, descriptorIndex := 339, attributes := #[] }, { accessFlags := 26, nameIndex := 364, descriptorIndex := 339, attributes := #[] }, { accessFlags := 26, nameIndex := 365, descriptorIndex := 339, attributes := #[] }, { accessFlags := 26, nameIndex := 172, descriptorIndex := 173, attributes := #[] }, { accessFlags := 26, nameIndex := 176, descriptorIndex := 173, attributes := #[] }, { accessFlags := 8, nameIndex := 344, descriptorIndex := 339, attributes := #[] }, { accessFlags := 8, nameIndex := 338, descriptorIndex := 339, attributes := #[] }, { accessFlags := 4120, nameIndex := 245, descriptorIndex := 246, attributes := #[] }])
  fields := #[{ name := "E", type := .double, accessFlags := 25, slot := 0, constantValue := 0 }, { name := "PI", type := .double, accessFlags := 25, slot := 1, constantValue := 0 }, { name := "TAU", type := .double, accessFlags := 25, slot := 2, constantValue := 0 }, { name := "DEGREES_TO_RADIANS", type := .double, accessFlags := 26, slot := 3, constantValue := 0 }, { name := "RADIANS_TO_DEGREES", type := .double, accessFlags := 26, slot := 4, constantValue := 0 }, { name := "negativeZeroFloatBits", type := .long, accessFlags := 26, slot := 5, constantValue := 0 }, { name := "negativeZeroDoubleBits", type := .long, accessFlags := 26, slot := 6, constantValue := 0 }, { name := "twoToTheDoubleScaleUp", type := .double, accessFlags := 8, slot := 7, constantValue := 0 }, { name := "twoToTheDoubleScaleDown", type := .double, accessFlags := 8, slot := 8, constantValue := 0 }, { name := "$assertionsDisabled", type := .boolean, accessFlags := 4120, slot := 9, constantValue := 0 }]
  methods := #[k4m0, k4m1, k4m2]
  instanceTypes := #[]
  staticTypes := #[.double, .double, .double, .double, .double, .long, .long, .double, .double, .boolean]
  resolved := Array.replicate 460 none
  statics := none }

def pool5 : Array CpInfo := pool [(1, u "java/lang/Cloneable"), (0, .class_ 1), (0, u "java/lang/Object"), (0, .class_ 3)] 3

/-- java/lang/Cloneable -/
def k5 : Class := { plain "java/lang/Cloneable" (some 0) with
  accessFlags := 1537
  interfaces := #[]
  cf := some (fileOf pool5 2 #[] #[] 1537 4 #[] #[])
  fields := #[]
  methods := #[]
  instanceTypes := #[]
  staticTypes := #[]
  resolved := Array.replicate 8 none
  statics := none }

def pool6 : Array CpInfo := pool [(1, u "java/io/Serializable"), (0, .class_ 1), (0, u "java/lang/Object"), (0, .class_ 3)] 3

/-- java/io/Serializable -/
def k6 : Class := { plain "java/io/Serializable" (some 0) with
  accessFlags := 1537
  interfaces := #[]
  cf := some (fileOf pool6 2 #[] #[] 1537 4 #[] #[])
  fields := #[]
  methods := #[]
  instanceTypes := #[]
  staticTypes := #[]
  resolved := Array.replicate 8 none
  statics := none }

/-- the primitive byte -/
def k7 : Class := { plain "byte" none with kind := .primitive 'B', accessFlags := 0x411 }
/-- [B -/
def k8 : Class := { plain "[B" (some 0) with kind := .array 7 .byte, interfaces := #[5, 6], accessFlags := 1041 }

/-- the primitive int -/
def k9 : Class := { plain "int" none with kind := .primitive 'I', accessFlags := 0x411 }
/-- [I -/
def k10 : Class := { plain "[I" (some 0) with kind := .array 9 .int, interfaces := #[5, 6], accessFlags := 1041 }

def heap : Heap := #[]
def classes : Array Class := #[k0, k1, k2, k3, k4, k5, k6, k7, k8, k9, k10]
def interned : List (Array UInt16 × Addr) := []
def slotsUsed : Nat := 0
def theMethod : MethodId := ⟨1, 1⟩
def args0 : Array Value := #[.int 0, .int 3, .int 2, .int 1]
def aboutOver (below : List Frame) : State where
  vm := { classes := classes, interned := interned.toArray }
  heap := heap
  slotsUsed := slotsUsed
  threads := #[{ frames := .invoking theMethod args0 :: below }]
def below0 : List Frame := [.native { method := ⟨0, 0⟩, args := #[] }]
def about1 : State := aboutOver below0
def p0 : Program := .bare "" "" ""
def e0 : Env := launch0.env 0 0 0
theorem w_frames : about1.frames = Frame.invoking theMethod args0 :: below0 := rfl
set_option maxRecDepth 65536 in
theorem w_args : argsFit about1.vm theMethod args0 = true := by decide +kernel
set_option maxRecDepth 65536 in
theorem w_heap : heapFits about1 = true := by decide +kernel
set_option maxRecDepth 65536 in
theorem w_runnable : about1.curStatus? = some .runnable := by decide +kernel
set_option maxRecDepth 65536 in
theorem w_alone : about1.alone = true := by decide +kernel
set_option maxRecDepth 65536 in
theorem w_named : about1.methodNamed? x = some theMethod := by decide +kernel
set_option maxRecDepth 65536 in
theorem w_hears : about1.hears theMethod below0 = true := by decide +kernel
set_option maxRecDepth 65536 in
theorem w_ripe : about1.ripe theMethod args0 below0 = true := by decide +kernel
theorem w_running : about1.status = .running := rfl
set_option maxRecDepth 65536 in
theorem w_room : about1.hasRoom e0.platform room_1 = true :=
  launch0.hasRoom_least _ room_1 (by decide +kernel) (by decide +kernel) (by decide +kernel) (by decide +kernel) (by decide +kernel) (by decide +kernel)
theorem allAtoms_all (ts : List Jvm.Cond) (a : Array Jvm.Value) (st : Jvm.State) : (allAtoms ts).before a st = ts.all (fun c => c.before a st) := by
  induction ts with
  | nil => rfl
  | cons c t ih =>
    show (Jvm.Cond.and c (allAtoms t)).before a st = _
    rw [Jvm.Cond.before_and, ih, List.all_cons]
def words1 : List Jvm.Cond := Jvm.Cond.code x code maxLocals ret :: tables_1
/-- a 'code' word, met by the world's own term for the bytes: nothing is compared byte by byte -/
theorem code_word {y : MethodName} {bytes : ByteArray} {mx : Nat} {rt : Option FieldType} {a : Array Value} {s : State} {m : MethodId} {meth : Method} {c : Code} (h1 : s.methodNamed? y = some m) (h2 : s.vm.method? m = some meth) (h3 : meth.code = some c) (h4 : c.code = bytes)
    (h5 : (c.maxLocals == mx && c.exceptionTable.isEmpty && decide (c.maxStack ≤ mostOperands) && decide (meth.sig.returnType = rt) && !meth.locks && decide (parseMethodDescriptor y.desc = some meth.sig)) = true) : (Jvm.Cond.code y bytes mx rt).before a s = true := by
  simp only [Bool.and_eq_true, beq_iff_eq, Bool.not_eq_true', decide_eq_true_eq] at h5
  obtain ⟨⟨⟨⟨⟨g1, g2⟩, g3⟩, g4⟩, g5⟩, g6⟩ := h5
  simp [Cond.before, Cond.holds, Cond.value, h1, h2, h3, h4, g1, g2, g3, g4, g5, g6]
def isCode : Jvm.Cond → Bool
  | .code _ _ _ _ => true
  | _ => false
theorem all_split {L : List Jvm.Cond} {P : Jvm.Cond → Bool} (h1 : L.all (fun c => isCode c || P c) = true) (h2 : ∀ c ∈ L.filter isCode, P c = true) : L.all P = true := by
  refine List.all_eq_true.mpr fun c hc => ?_
  have h := List.all_eq_true.mp h1 c hc
  rcases Bool.eq_false_or_eq_true (isCode c) with hi | hi
  · exact h2 c (List.mem_filter.mpr ⟨hc, hi⟩)
  · simpa [hi] using h
set_option maxRecDepth 65536 in
theorem w_c0 : (Jvm.Cond.code x code maxLocals ret).before args0 about1 = true := code_word (m := ⟨1, 1⟩) (meth := k1m1) (c := k1c1) (by decide +kernel) rfl rfl rfl (by decide +kernel)
set_option maxRecDepth 65536 in
theorem w_c1 : (Jvm.Cond.code ({ cls := "com/example/planwright/planwright/service/ServiceYears", name := "<init>", desc := "(JI)V" } : Jvm.MethodName) prog_66_method_1_code (4 : Nat) (Option.none : Option Jvm.ClassFile.FieldType)).before args0 about1 = true := code_word (m := ⟨3, 0⟩) (meth := k3m0) (c := k3c0) (by decide +kernel) rfl rfl rfl (by decide +kernel)
set_option maxRecDepth 65536 in
theorem w_c2 : (Jvm.Cond.code ({ cls := "java/lang/Record", name := "<init>", desc := "()V" } : Jvm.MethodName) jdk_30_method_1_code (1 : Nat) (Option.none : Option Jvm.ClassFile.FieldType)).before args0 about1 = true := code_word (m := ⟨2, 0⟩) (meth := k2m0) (c := k2c0) (by decide +kernel) rfl rfl rfl (by decide +kernel)
set_option maxRecDepth 65536 in
theorem w_c3 : (Jvm.Cond.code ({ cls := "java/lang/Object", name := "<init>", desc := "()V" } : Jvm.MethodName) object_method_1_code (1 : Nat) (Option.none : Option Jvm.ClassFile.FieldType)).before args0 about1 = true := code_word (m := ⟨0, 0⟩) (meth := k0m0) (c := k0c0) (by decide +kernel) rfl rfl rfl (by decide +kernel)
set_option maxRecDepth 65536 in
theorem w_c4 : (Jvm.Cond.code ({ cls := "com/example/planwright/planwright/service/ServiceYears", name := "completedMonths", desc := "()I" } : Jvm.MethodName) prog_66_method_4_code (1 : Nat) (Option.some Jvm.ClassFile.FieldType.int)).before args0 about1 = true := code_word (m := ⟨3, 1⟩) (meth := k3m1) (c := k3c1) (by decide +kernel) rfl rfl rfl (by decide +kernel)
set_option maxRecDepth 65536 in
theorem w_c5 : (Jvm.Cond.code ({ cls := "java/lang/Math", name := "toIntExact", desc := "(J)I" } : Jvm.MethodName) jdk_29_method_43_code (2 : Nat) (Option.some Jvm.ClassFile.FieldType.int)).before args0 about1 = true := code_word (m := ⟨4, 1⟩) (meth := k4m1) (c := k4c1) (by decide +kernel) rfl rfl rfl (by decide +kernel)
set_option maxRecDepth 65536 in
theorem w_c6 : (Jvm.Cond.code ({ cls := "java/lang/Math", name := "max", desc := "(II)I" } : Jvm.MethodName) jdk_29_method_65_code (2 : Nat) (Option.some Jvm.ClassFile.FieldType.int)).before args0 about1 = true := code_word (m := ⟨4, 2⟩) (meth := k4m2) (c := k4c2) (by decide +kernel) rfl rfl rfl (by decide +kernel)
def codes1 : List Jvm.Cond := [Jvm.Cond.code x code maxLocals ret, Jvm.Cond.code ({ cls := "com/example/planwright/planwright/service/ServiceYears", name := "<init>", desc := "(JI)V" } : Jvm.MethodName) prog_66_method_1_code (4 : Nat) (Option.none : Option Jvm.ClassFile.FieldType), Jvm.Cond.code ({ cls := "java/lang/Record", name := "<init>", desc := "()V" } : Jvm.MethodName) jdk_30_method_1_code (1 : Nat) (Option.none : Option Jvm.ClassFile.FieldType), Jvm.Cond.code ({ cls := "java/lang/Object", name := "<init>", desc := "()V" } : Jvm.MethodName) object_method_1_code (1 : Nat) (Option.none : Option Jvm.ClassFile.FieldType), Jvm.Cond.code ({ cls := "com/example/planwright/planwright/service/ServiceYears", name := "completedMonths", desc := "()I" } : Jvm.MethodName) prog_66_method_4_code (1 : Nat) (Option.some Jvm.ClassFile.FieldType.int), Jvm.Cond.code ({ cls := "java/lang/Math", name := "toIntExact", desc := "(J)I" } : Jvm.MethodName) jdk_29_method_43_code (2 : Nat) (Option.some Jvm.ClassFile.FieldType.int), Jvm.Cond.code ({ cls := "java/lang/Math", name := "max", desc := "(II)I" } : Jvm.MethodName) jdk_29_method_65_code (2 : Nat) (Option.some Jvm.ClassFile.FieldType.int)]
set_option maxRecDepth 65536 in
theorem codes_eq : words1.filter isCode = codes1 := rfl
theorem w_codes : ∀ c ∈ words1.filter isCode, c.before args0 about1 = true := by
  rw [codes_eq]
  intro c hc
  simp only [codes1, List.mem_cons, List.not_mem_nil, or_false] at hc
  rcases hc with rfl | rfl | rfl | rfl | rfl | rfl | rfl
  · exact w_c0
  · exact w_c1
  · exact w_c2
  · exact w_c3
  · exact w_c4
  · exact w_c5
  · exact w_c6
set_option maxRecDepth 65536 in
theorem w_t1 : (words1.take 24).all (fun c => isCode c || c.before args0 about1) = true := by decide +kernel
set_option maxRecDepth 65536 in
theorem w_t2 : (words1.drop 24).all (fun c => isCode c || c.before args0 about1) = true := by decide +kernel
theorem w_tables : (allAtoms (Jvm.Cond.code x code maxLocals ret :: tables_1)).before args0 about1 = true := by
  rw [allAtoms_all]
  show words1.all (fun c => c.before args0 about1) = true
  refine all_split ?_ w_codes
  rw [← List.take_append_drop 24 words1, List.all_append, w_t1, w_t2]
  rfl
set_option maxRecDepth 65536 in
theorem w_case : (Jvm.Cond.and given_1 narrow_1).before args0 about1 = true := by decide +kernel
theorem w_applies : (headSpec (Jvm.Cond.code x code maxLocals ret :: tables_1) room_1).applies x e0.platform about1 = true :=
  (Spec.applies_iff w_frames).mpr ⟨w_running, w_runnable, w_alone, w_named, w_hears, w_ripe, w_room, w_tables⟩
theorem atStart : AtStart classFile x code maxLocals ret World_1 tables_1 room_1 Calls_1 rest_1 Pre_1 launch0 p0 e0 about1 theMethod args0 below0 :=
  ⟨lists_1, trivial, launch0.admits_env _ _ _, launch0.least_env, fairChoices_fair.cas, fairChoices_fair.clock, w_frames, w_args, w_heap, w_applies, trivial, trivial, w_case⟩
end start1
theorem witness_1 : WitnessClaimed_1 := ⟨start1.p0, start1.e0, start1.about1, start1.theMethod, start1.args0, start1.below0, start1.atStart⟩
end Jvm.Pilot.@@N@@
