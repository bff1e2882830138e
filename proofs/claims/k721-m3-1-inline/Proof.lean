import JvmDerived
import JvmDerived.Pilot.@@N@@Statement
import JvmDerived.Pilot.@@N@@Code
set_option linter.unusedVariables false
set_option linter.unusedSimpArgs false
namespace Jvm.Pilot.@@N@@
open Jvm Jvm.ClassFile Sem Op Lib Jvm.Free Jvm.Stand Jvm.LawKit Jvm.RoadKit Bundle Jvm.Pilot.@@N@@.Jvm.D
section own_walk
variable {p : Program} {l : Launch} {e : Env} {R : Room} {s : State} {m : MethodId} {args : Array Value} {below : List Frame} {meth : Method} {c : Code} {T : State} {locs : List Loc} {cells slots : Nat} {Z : State} {h h' : Heap}
def own_Fin (p : Program) (e : Env) (below : List Frame) (P : Outcome → State → Prop) (g : State) : Prop :=
  ∃ s₂ o, Steps p.tables e below g s₂ ∧ s₂.status = .running ∧ Ended s₂ below o ∧ P o s₂
def own_P (Q : Option Value → Heap → List Loc → Prop) (s : State) (k n : Nat) (o : Outcome) (s₂ : State) : Prop :=
  ∃ v L, o = .returned v ∧ Q v s₂.heap L ∧ FrameEnd s o s₂ L k n
theorem own_via {P : Outcome → State → Prop} {g g' : State} (k : ∀ t, Steps p.tables e below g' t → Steps p.tables e below g t) (H : own_Fin p e below P g') : own_Fin p e below P g := by
  obtain ⟨s₂, o, a, b⟩ := H
  exact ⟨s₂, o, k _ a, b⟩
theorem own_s (T : State) (m : MethodId) (pc : Nat) (L : Array Slot) (S : List Value) {P : Outcome → State → Prop} {g : State} (k : ∀ t, Steps p.tables e below (T.setTop (mkF m pc L S)) t → Steps p.tables e below g t) (H : own_Fin p e below P (T.setTop (mkF m pc L S))) : own_Fin p e below P g := own_via k H
abbrev own_i (x : Int32) : Slot := .val (.int x)
abbrev own_r (x : Addr) : Slot := .val (.ref x)
abbrev own_l (x : Int64) : Slot := .val (.long x)
theorem own_ret {v : Option Value} {g : State} {Q : Option Value → Heap → List Loc → Prop} {k n : Nat} (X : Stand p l e R s m args below meth c T locs cells slots) (hlk : meth.locks = false) (hv : meth.sig.returnType = none → v = none)
    (hst : ∀ fs, (∀ (f : JFrame) (acts : List Action), f.method = m → f.locked = none → f.entered = [] → (doReturn e (T.setTop f) acts v).1 = T.setFrames fs) → Steps p.tables e below g (T.setFrames fs))
    (hQ : Q v T.heap locs) (hk : cells ≤ k) (hn : slots ≤ n) : own_Fin p e below (own_P Q s k n) g := by
  obtain ⟨fs, hr, hrun, hended, hW, hsame⟩ := X.leave (v := v) hv hlk
  exact ⟨_, _, hst fs hr, hrun, hended, _, _, rfl, hQ, ⟨_, rfl⟩, hW, hsame.mono hk hn⟩
theorem own_retW {w : Value} {t : FieldType} {i : Instr} {pc : Nat} {Ls : Array Slot} {rest : List Value} {Q : Option Value → Heap → List Loc → Prop} {k n : Nat} (X : Stand p l e R s m args below meth c T locs cells slots) (hx : p.tables.exec = Jvm.exec) (hlk : meth.locks = false) (hret : meth.sig.returnType = some t) (hnw : narrow t w = w)
    (hi : (i = .ireturn ∧ (t = .int ∨ t = .boolean ∨ t = .byte ∨ t = .char ∨ t = .short) ∧ ∃ z, w = .int z) ∨ (i = .lreturn ∧ t = .long ∧ ∃ z, w = .long z) ∨ (i = .dreturn ∧ t = .double ∧ ∃ z, w = .double z) ∨ (i = .freturn ∧ t = .float ∧ ∃ z, w = .float z) ∨ (i = .areturn ∧ t.isReference = true ∧ w.isRef = true))
    (hd : decode c.code pc = .ok (i, 1)) (hQ : Q (some w) T.heap locs) (hk : cells ≤ k) (hn : slots ≤ n) : own_Fin p e below (own_P Q s k n) (T.setTop (mkF m pc Ls (w :: rest))) :=
  own_ret X hlk (fun q => by rw [hret] at q; cases q) (fun fs hr => retOut X hx hret hnw hi hd hr) hQ hk hn
theorem own_retI {z : Int32} {pc : Nat} {Ls : Array Slot} {rest : List Value} {Q : Option Value → Heap → List Loc → Prop} {k n : Nat} (X : Stand p l e R s m args below meth c T locs cells slots) (hx : p.tables.exec = Jvm.exec) (hlk : meth.locks = false) (hret : meth.sig.returnType = some .int)
    (hd : decode c.code pc = .ok (.ireturn, 1)) (hQ : Q (some (.int z)) T.heap locs) (hk : cells ≤ k) (hn : slots ≤ n) : own_Fin p e below (own_P Q s k n) (T.setTop (mkF m pc Ls (.int z :: rest))) :=
  own_retW X hx hlk hret rfl (Or.inl ⟨rfl, Or.inl rfl, z, rfl⟩) hd hQ hk hn
theorem own_retJ {z : Int64} {pc : Nat} {Ls : Array Slot} {rest : List Value} {Q : Option Value → Heap → List Loc → Prop} {k n : Nat} (X : Stand p l e R s m args below meth c T locs cells slots) (hx : p.tables.exec = Jvm.exec) (hlk : meth.locks = false) (hret : meth.sig.returnType = some .long)
    (hd : decode c.code pc = .ok (.lreturn, 1)) (hQ : Q (some (.long z)) T.heap locs) (hk : cells ≤ k) (hn : slots ≤ n) : own_Fin p e below (own_P Q s k n) (T.setTop (mkF m pc Ls (.long z :: rest))) :=
  own_retW X hx hlk hret rfl (Or.inr (Or.inl ⟨rfl, rfl, z, rfl⟩)) hd hQ hk hn
theorem own_nref {t : FieldType} {w : Value} (hw : w.isRef = true) : narrow t w = w := by
  cases w <;> first | (cases t <;> rfl) | (cases hw)
theorem own_fitR {c : String} {w : Value} (hw : w.isRef = true) : fits (.object c) w = true := by
  cases w <;> first | rfl | (cases hw)
theorem own_retA {w : Value} {t : FieldType} {pc : Nat} {Ls : Array Slot} {rest : List Value} {Q : Option Value → Heap → List Loc → Prop} {k n : Nat} (X : Stand p l e R s m args below meth c T locs cells slots) (hx : p.tables.exec = Jvm.exec) (hlk : meth.locks = false) (hw : w.isRef = true) (hret : meth.sig.returnType = some t) (ht : t.isReference = true)
    (hd : decode c.code pc = .ok (.areturn, 1)) (hQ : Q (some w) T.heap locs) (hk : cells ≤ k) (hn : slots ≤ n) : own_Fin p e below (own_P Q s k n) (T.setTop (mkF m pc Ls (w :: rest))) :=
  own_retW X hx hlk hret (own_nref hw) (Or.inr (Or.inr (Or.inr (Or.inr ⟨rfl, ht, hw⟩)))) hd hQ hk hn
theorem own_retB {z : Int32} {t : FieldType} {pc : Nat} {Ls : Array Slot} {rest : List Value} {Q : Option Value → Heap → List Loc → Prop} {k n : Nat} (X : Stand p l e R s m args below meth c T locs cells slots) (hx : p.tables.exec = Jvm.exec) (hlk : meth.locks = false) (hret : meth.sig.returnType = some t) (ht : t = .boolean ∨ t = .byte ∨ t = .char ∨ t = .short)
    (hd : decode c.code pc = .ok (.ireturn, 1)) (hQ : Q (some (.int (nar t z))) T.heap locs) (hk : cells ≤ k) (hn : slots ≤ n) : own_Fin p e below (own_P Q s k n) (T.setTop (mkF m pc Ls (.int z :: rest))) :=
  own_ret X hlk (fun q => by rw [hret] at q; cases q) (fun fs hr => retN X hx hret ht hd hr) hQ hk hn
theorem own_retV {pc : Nat} {Ls : Array Slot} {Q : Option Value → Heap → List Loc → Prop} {k n : Nat} (X : Stand p l e R s m args below meth c T locs cells slots) (hx : p.tables.exec = Jvm.exec) (hlk : meth.locks = false) (hret : meth.sig.returnType = none)
    (hd : decode c.code pc = .ok (.return_, 1)) (hQ : Q none T.heap locs) (hk : cells ≤ k) (hn : slots ≤ n) : own_Fin p e below (own_P Q s k n) (T.setTop (mkF m pc Ls [])) :=
  own_ret X hlk (fun _ => rfl) (fun fs hr => X.returnOut hx hret hd hr) hQ hk hn
/-- an array: its kind and its members -/
def own_Ar (Z : State) (h : Heap) (a : Addr) (ty : FieldType) (L : List Value) : Prop := ∃ c : Cell, Arr Z h a c ty ∧ c.slots.toList = L
theorem own_Ar.ext {a : Addr} {ty : FieldType} {L : List Value} (F : own_Ar Z h a ty L) (E : Ext h h') : own_Ar Z h' a ty L := by obtain ⟨c, A, r⟩ := F; exact ⟨c, A.ext E, r⟩
theorem own_Ar.other {a b : Addr} {sl : Nat} {v : Value} {ty : FieldType} {L : List Value} (F : own_Ar Z h b ty L) (W : Wr h h' a sl v) (q : b ≠ a) : own_Ar Z h' b ty L := by obtain ⟨c, A, r⟩ := F; exact ⟨c, A.other W q, r⟩
theorem own_Ar.keep {a : Addr} {ws : List Addr} {ty : FieldType} {L : List Value} (F : own_Ar Z h a ty L) (K : Keep h h' ws) (q : a ∉ ws) : own_Ar Z h' a ty L := by obtain ⟨c, A, r⟩ := F; exact ⟨c, ⟨K.2.1 a c A.1 q, A.2⟩, r⟩
theorem own_Ar.lt {a : Addr} {ty : FieldType} {L : List Value} (F : own_Ar Z h a ty L) : a < h.size := by obtain ⟨c, A, r⟩ := F; exact A.lt
theorem own_Ar.set {a : Addr} {j : Nat} {v : Value} {ty : FieldType} {L : List Value} (F : own_Ar Z h a ty L) (W : Wr h h' a j v) : own_Ar Z h' a ty (L.set j v) := by
  obtain ⟨c, A, r⟩ := F
  refine ⟨_, A.same W, ?_⟩
  subst r
  simp [Cell.setSlot]
theorem own_in {c : Cell} {L : List Value} (r : c.slots.toList = L) {j : Int32} (h0 : ¬ j < 0) (hj : j.toNatClampNeg < L.length) : ¬ (j < 0 ∨ c.slots.size ≤ j.toNatClampNeg) := by
  subst r
  simp only [Array.length_toList] at hj
  intro q
  rcases q with q | q
  · exact h0 q
  · omega
theorem own_at {c : Cell} {L : List Value} (r : c.slots.toList = L) {j : Nat} {v : Value} (hv : L[j]? = some v) : c.slots[j]? = some v := by
  subst r; simpa using hv
theorem own_inv {c : Cell} {L : List Value} (r : c.slots.toList = L) {j : Int32} {v : Value} (h0 : ¬ j < 0) (hv : L[j.toNatClampNeg]? = some v) : ¬ (j < 0 ∨ c.slots.size ≤ j.toNatClampNeg) :=
  own_in r h0 (List.getElem?_eq_some_iff.mp hv).1
theorem own_newP {a0 : Array Value} (X : Stand p l e R s m args below meth c T locs cells slots) (hx : p.tables.exec = Jvm.exec) (hZ : Z.Warmed39 s.vm) {aty : ArrayType} (w : (Cond.arrayClass (newarray.typeOf aty)).before a0 Z = true) (eT : T.heap = h) {g : JFrame} (hg : g.method = m) (hd : decode c.code g.pc = .ok (.newarray aty, 2)) {n : Int32} {rest : List Value} (hs : g.stack = .int n :: rest)
    (hn : ¬ n < 0) {cap : Nat} (hcap : n.toNatClampNeg ≤ cap) (hb : cap * 8 ≤ 536870912) (hc : cells + 1 ≤ R.cells) (hl : slots + cap ≤ R.slots) :
    ∃ T' h', Stand p l e R s m args below meth c T' locs (cells + 1) (slots + cap) ∧ T'.heap = h' ∧ Ext h h' ∧ own_Ar Z h' h.size (newarray.typeOf aty) (List.replicate n.toNatClampNeg (defaultValue (newarray.typeOf aty))) ∧
      ∀ target, Steps p.tables e below (T'.setTop { g with pc := g.pc + 2, stack := .ref h.size :: rest }) target → Steps p.tables e below (T.setTop g) target := by
  obtain ⟨T', h', cA, X', e', E', A', st⟩ := newP X hx hZ w eT hg hd hs hn hcap hb hc hl
  exact ⟨T', h', X', e', E', ⟨_, A', by simp [newA]⟩, st⟩
theorem own_stJ (X : Stand p l e R s m args below meth c T locs cells slots) (hx : p.tables.exec = Jvm.exec) (hZ : Z.Warmed39 s.vm) (eT : T.heap = h) {a : Addr} {L : List Value} (A : own_Ar Z h a .long L) {j : Int32} {x : Int64} (h0 : ¬ j < 0) (hj : j.toNatClampNeg < L.length) {g : JFrame} (hg : g.method = m) {rest : List Value} (hs : g.stack = .long x :: .int j :: .ref a :: rest) (hd : decode c.code g.pc = .ok (.lastore, 1)) :
    ∃ T' h', Stand p l e R s m args below meth c T' (locs ++ [⟨a, j.toNatClampNeg⟩]) cells slots ∧ T'.heap = h' ∧ Wr h h' a j.toNatClampNeg (.long x) ∧ own_Ar Z h' a .long (L.set j.toNatClampNeg (.long x)) ∧ ∀ target, Steps p.tables e below (T'.setTop { g with pc := g.pc + 1, stack := rest }) target → Steps p.tables e below (T.setTop g) target := by
  obtain ⟨cl, A', r⟩ := id A
  obtain ⟨T', h', X', e', W', st⟩ := stJ X hx hZ eT A' (own_in r h0 hj) hg hs hd
  exact ⟨T', h', X', e', W', A.set W', st⟩
theorem own_stI (X : Stand p l e R s m args below meth c T locs cells slots) (hx : p.tables.exec = Jvm.exec) (hZ : Z.Warmed39 s.vm) (eT : T.heap = h) {a : Addr} {L : List Value} (A : own_Ar Z h a .int L) {j : Int32} {x : Int32} (h0 : ¬ j < 0) (hj : j.toNatClampNeg < L.length) {g : JFrame} (hg : g.method = m) {rest : List Value} (hs : g.stack = .int x :: .int j :: .ref a :: rest) (hd : decode c.code g.pc = .ok (.iastore, 1)) :
    ∃ T' h', Stand p l e R s m args below meth c T' (locs ++ [⟨a, j.toNatClampNeg⟩]) cells slots ∧ T'.heap = h' ∧ Wr h h' a j.toNatClampNeg (.int x) ∧ own_Ar Z h' a .int (L.set j.toNatClampNeg (.int x)) ∧ ∀ target, Steps p.tables e below (T'.setTop { g with pc := g.pc + 1, stack := rest }) target → Steps p.tables e below (T.setTop g) target := by
  obtain ⟨cl, A', r⟩ := id A
  obtain ⟨T', h', X', e', W', st⟩ := stI X hx hZ eT A' (own_in r h0 hj) hg hs hd
  exact ⟨T', h', X', e', W', A.set W', st⟩
theorem own_stB (X : Stand p l e R s m args below meth c T locs cells slots) (hx : p.tables.exec = Jvm.exec) (hZ : Z.Warmed39 s.vm) (eT : T.heap = h) {a : Addr} {L : List Value} (A : own_Ar Z h a .byte L) {j : Int32} {x : Int32} (h0 : ¬ j < 0) (hj : j.toNatClampNeg < L.length) {g : JFrame} (hg : g.method = m) {rest : List Value} (hs : g.stack = .int x :: .int j :: .ref a :: rest) (hd : decode c.code g.pc = .ok (.bastore, 1)) :
    ∃ T' h', Stand p l e R s m args below meth c T' (locs ++ [⟨a, j.toNatClampNeg⟩]) cells slots ∧ T'.heap = h' ∧ Wr h h' a j.toNatClampNeg (.int (nar .byte x)) ∧ own_Ar Z h' a .byte (L.set j.toNatClampNeg (.int (nar .byte x))) ∧ ∀ target, Steps p.tables e below (T'.setTop { g with pc := g.pc + 1, stack := rest }) target → Steps p.tables e below (T.setTop g) target := by
  obtain ⟨cl, A', r⟩ := id A
  obtain ⟨T', h', X', e', W', st⟩ := stB X hx hZ eT A' (own_in r h0 hj) hg hs hd
  exact ⟨T', h', X', e', W', A.set W', st⟩
theorem own_stZ (X : Stand p l e R s m args below meth c T locs cells slots) (hx : p.tables.exec = Jvm.exec) (hZ : Z.Warmed39 s.vm) (eT : T.heap = h) {a : Addr} {L : List Value} (A : own_Ar Z h a .boolean L) {j : Int32} {x : Int32} (h0 : ¬ j < 0) (hj : j.toNatClampNeg < L.length) {g : JFrame} (hg : g.method = m) {rest : List Value} (hs : g.stack = .int x :: .int j :: .ref a :: rest) (hd : decode c.code g.pc = .ok (.bastore, 1)) :
    ∃ T' h', Stand p l e R s m args below meth c T' (locs ++ [⟨a, j.toNatClampNeg⟩]) cells slots ∧ T'.heap = h' ∧ Wr h h' a j.toNatClampNeg (.int (nar .boolean x)) ∧ own_Ar Z h' a .boolean (L.set j.toNatClampNeg (.int (nar .boolean x))) ∧ ∀ target, Steps p.tables e below (T'.setTop { g with pc := g.pc + 1, stack := rest }) target → Steps p.tables e below (T.setTop g) target := by
  obtain ⟨cl, A', r⟩ := id A
  obtain ⟨T', h', X', e', W', st⟩ := stZ X hx hZ eT A' (own_in r h0 hj) hg hs hd
  exact ⟨T', h', X', e', W', A.set W', st⟩
theorem own_stC (X : Stand p l e R s m args below meth c T locs cells slots) (hx : p.tables.exec = Jvm.exec) (hZ : Z.Warmed39 s.vm) (eT : T.heap = h) {a : Addr} {L : List Value} (A : own_Ar Z h a .char L) {j : Int32} {x : Int32} (h0 : ¬ j < 0) (hj : j.toNatClampNeg < L.length) {g : JFrame} (hg : g.method = m) {rest : List Value} (hs : g.stack = .int x :: .int j :: .ref a :: rest) (hd : decode c.code g.pc = .ok (.castore, 1)) :
    ∃ T' h', Stand p l e R s m args below meth c T' (locs ++ [⟨a, j.toNatClampNeg⟩]) cells slots ∧ T'.heap = h' ∧ Wr h h' a j.toNatClampNeg (.int (nar .char x)) ∧ own_Ar Z h' a .char (L.set j.toNatClampNeg (.int (nar .char x))) ∧ ∀ target, Steps p.tables e below (T'.setTop { g with pc := g.pc + 1, stack := rest }) target → Steps p.tables e below (T.setTop g) target := by
  obtain ⟨cl, A', r⟩ := id A
  obtain ⟨T', h', X', e', W', st⟩ := stC X hx hZ eT A' (own_in r h0 hj) hg hs hd
  exact ⟨T', h', X', e', W', A.set W', st⟩
theorem own_ldJ (X : Stand p l e R s m args below meth c T locs cells slots) (hx : p.tables.exec = Jvm.exec) (hZ : Z.Warmed39 s.vm) (eT : T.heap = h) {a : Addr} {L : List Value} (A : own_Ar Z h a .long L) {j : Int32} {v : Value} (h0 : ¬ j < 0) (hv : L[j.toNatClampNeg]? = some v) {g : JFrame} (hg : g.method = m) {rest : List Value} (hs : g.stack = .int j :: .ref a :: rest) (hd : decode c.code g.pc = .ok (.laload, 1)) (target : State)
    (hr : Steps p.tables e below (T.setTop { g with pc := g.pc + 1, stack := v :: rest }) target) : Steps p.tables e below (T.setTop g) target := by
  obtain ⟨cl, A', r⟩ := A
  exact X.laload hx (by rw [eT]; exact A'.1) (State.isArrayOf_alike hZ.alike A'.2.1) A'.2.2 (own_inv r h0 hv) (own_at r hv) hg hs hd target hr
theorem own_ldI (X : Stand p l e R s m args below meth c T locs cells slots) (hx : p.tables.exec = Jvm.exec) (hZ : Z.Warmed39 s.vm) (eT : T.heap = h) {a : Addr} {L : List Value} (A : own_Ar Z h a .int L) {j : Int32} {v : Value} (h0 : ¬ j < 0) (hv : L[j.toNatClampNeg]? = some v) {g : JFrame} (hg : g.method = m) {rest : List Value} (hs : g.stack = .int j :: .ref a :: rest) (hd : decode c.code g.pc = .ok (.iaload, 1)) (target : State)
    (hr : Steps p.tables e below (T.setTop { g with pc := g.pc + 1, stack := v :: rest }) target) : Steps p.tables e below (T.setTop g) target := by
  obtain ⟨cl, A', r⟩ := A
  exact X.iaload hx (by rw [eT]; exact A'.1) (State.isArrayOf_alike hZ.alike A'.2.1) A'.2.2 (own_inv r h0 hv) (own_at r hv) hg hs hd target hr
theorem own_ldB (X : Stand p l e R s m args below meth c T locs cells slots) (hx : p.tables.exec = Jvm.exec) (hZ : Z.Warmed39 s.vm) (eT : T.heap = h) {a : Addr} {L : List Value} (A : own_Ar Z h a .byte L) {j : Int32} {v : Value} (h0 : ¬ j < 0) (hv : L[j.toNatClampNeg]? = some v) {g : JFrame} (hg : g.method = m) {rest : List Value} (hs : g.stack = .int j :: .ref a :: rest) (hd : decode c.code g.pc = .ok (.baload, 1)) (target : State)
    (hr : Steps p.tables e below (T.setTop { g with pc := g.pc + 1, stack := v :: rest }) target) : Steps p.tables e below (T.setTop g) target := by
  obtain ⟨cl, A', r⟩ := A
  exact X.baloadBytes hx (by rw [eT]; exact A'.1) (State.isArrayOf_alike hZ.alike A'.2.1) A'.2.2 (own_inv r h0 hv) (own_at r hv) hg hs hd target hr
theorem own_ldZ (X : Stand p l e R s m args below meth c T locs cells slots) (hx : p.tables.exec = Jvm.exec) (hZ : Z.Warmed39 s.vm) (eT : T.heap = h) {a : Addr} {L : List Value} (A : own_Ar Z h a .boolean L) {j : Int32} {v : Value} (h0 : ¬ j < 0) (hv : L[j.toNatClampNeg]? = some v) {g : JFrame} (hg : g.method = m) {rest : List Value} (hs : g.stack = .int j :: .ref a :: rest) (hd : decode c.code g.pc = .ok (.baload, 1)) (target : State)
    (hr : Steps p.tables e below (T.setTop { g with pc := g.pc + 1, stack := v :: rest }) target) : Steps p.tables e below (T.setTop g) target := by
  obtain ⟨cl, A', r⟩ := A
  exact X.baloadBooleans hx (by rw [eT]; exact A'.1) (State.isArrayOf_alike hZ.alike A'.2.1) A'.2.2 (own_inv r h0 hv) (own_at r hv) hg hs hd target hr
theorem own_ldC (X : Stand p l e R s m args below meth c T locs cells slots) (hx : p.tables.exec = Jvm.exec) (hZ : Z.Warmed39 s.vm) (eT : T.heap = h) {a : Addr} {L : List Value} (A : own_Ar Z h a .char L) {j : Int32} {v : Value} (h0 : ¬ j < 0) (hv : L[j.toNatClampNeg]? = some v) {g : JFrame} (hg : g.method = m) {rest : List Value} (hs : g.stack = .int j :: .ref a :: rest) (hd : decode c.code g.pc = .ok (.caload, 1)) (target : State)
    (hr : Steps p.tables e below (T.setTop { g with pc := g.pc + 1, stack := v :: rest }) target) : Steps p.tables e below (T.setTop g) target := by
  obtain ⟨cl, A', r⟩ := A
  exact X.caload hx (by rw [eT]; exact A'.1) (State.isArrayOf_alike hZ.alike A'.2.1) A'.2.2 (own_inv r h0 hv) (own_at r hv) hg hs hd target hr
theorem own_len (X : Stand p l e R s m args below meth c T locs cells slots) (hx : p.tables.exec = Jvm.exec) (hZ : Z.Warmed39 s.vm) (eT : T.heap = h) {a : Addr} {ty : FieldType} {L : List Value} (A : own_Ar Z h a ty L) {n : Int32} (hn : L.length.toInt32 = n) {g : JFrame} (hg : g.method = m) {rest : List Value} (hs : g.stack = .ref a :: rest) (hd : decode c.code g.pc = .ok (.arraylength, 1)) (target : State)
    (hr : Steps p.tables e below (T.setTop { g with pc := g.pc + 1, stack := .int n :: rest }) target) : Steps p.tables e below (T.setTop g) target := by
  obtain ⟨cl, A', r⟩ := A
  refine X.arraylength hx (by rw [eT]; exact A'.1) (State.isArrayOf_alike hZ.alike A'.2.1) hg hs hd target ?_
  have q : cl.slots.size.toInt32 = n := by rw [← hn, ← r]; simp
  rw [q]; exact hr
theorem own_sta_keep {C n d : String} {w : Value} {ws : List Addr} (F : Sta Z h C n d w) (K : Keep h h' ws) (q : ∀ (a : Addr) (c : Cell), h[a]? = some c → c.vm.isStatics = true → a ∉ ws) : Sta Z h' C n d w := by
  obtain ⟨cf, i, k, f, st, cell, h1, h2, h3, h4, h5, h6, h7⟩ := F
  exact ⟨cf, i, k, f, st, cell, h1, h2, h3, h4, K.2.1 st cell h5 (q st cell h5 h6), h6, h7⟩
theorem own_nsE {x : Addr} {C : String} (E : Exa Z h x C) : ∀ c : Cell, h[x]? = some c → c.vm.isStatics = true → False := fun c hc q => by
  obtain ⟨c', k, e1, -, -, e4, -⟩ := E
  cases hc.symm.trans e1
  rw [e4] at q; cases q
theorem own_nsA {x : Addr} {ty : FieldType} {L : List Value} (F : own_Ar Z h x ty L) : ∀ c : Cell, h[x]? = some c → c.vm.isStatics = true → False := fun c hc q => by
  obtain ⟨c', A, -⟩ := F
  cases hc.symm.trans A.1
  have := A.2.1.1
  cases hv : c.vm <;> rw [hv] at q <;> first | exact absurd hv (this _) | cases q
theorem own_ns0 : ∀ (a : Addr) (c : Cell), h[a]? = some c → c.vm.isStatics = true → a ∉ ([] : List Addr) := fun _ _ _ _ => nin0
theorem own_nsS {x : Addr} {L : List Addr} (q : ∀ c : Cell, h[x]? = some c → c.vm.isStatics = true → False) (r : ∀ (a : Addr) (c : Cell), h[a]? = some c → c.vm.isStatics = true → a ∉ L) : ∀ (a : Addr) (c : Cell), h[a]? = some c → c.vm.isStatics = true → a ∉ x :: L :=
  fun a c h1 h2 => ninS (fun e => q c (e ▸ h1) h2) (r a c h1 h2)
theorem own_nr {a b : Addr} (q : ¬ Value.ref a = Value.ref b) : ¬ a = b := fun r => q (congrArg Value.ref r)
end own_walk
section own_walkS
variable {p : Program} {l : Launch} {e : Env} {R : Room} {s : State} {vm0 : Vm} {kS : Nat} {m : MethodId} {args : Array Value} {below : List Frame} {meth : Method} {c : Code} {T : State} {locs : List Loc} {cells slots : Nat} {Z : State} {h h' : Heap}
def own_PW (Q : Option Value → Heap → List Loc → Prop) (s : State) (k n : Nat) (o : Outcome) (s₂ : State) : Prop :=
  ∃ v L, o = .returned v ∧ Q v s₂.heap L ∧ ReturnedEndW s o s₂ L k n
theorem own_retS {v : Option Value} {g : State} {Q : Option Value → Heap → List Loc → Prop} {k n : Nat} (X : Stand p l e R (s.setVm vm0) m args below meth c T locs cells slots) (hS : s.Since vm0 kS) (hk : kS ≤ T.heap.size) (hlk : meth.locks = false) (hv : meth.sig.returnType = none → v = none)
    (hst : ∀ fs, (∀ (f : JFrame) (acts : List Action), f.method = m → f.locked = none → f.entered = [] → (doReturn e (T.setTop f) acts v).1 = T.setFrames fs) → Steps p.tables e below g (T.setFrames fs))
    (hQ : Q v T.heap locs) (hc : cells ≤ k) (hn : slots ≤ n) : own_Fin p e below (own_PW Q s k n) g := by
  obtain ⟨fs, hr, hrun, hended, hE⟩ := X.leaveW hS hk (v := v) hv hlk
  exact ⟨_, _, hst fs hr, hrun, hended, _, _, rfl, hQ, hE.1, hE.2.1, hE.2.2.1, hE.2.2.2.mono hc hn⟩
theorem own_retWS {w : Value} {t : FieldType} {i : Instr} {pc : Nat} {Ls : Array Slot} {rest : List Value} {Q : Option Value → Heap → List Loc → Prop} {k n : Nat} (X : Stand p l e R (s.setVm vm0) m args below meth c T locs cells slots) (hS : s.Since vm0 kS) (hkS : kS ≤ T.heap.size) (hx : p.tables.exec = Jvm.exec) (hlk : meth.locks = false) (hret : meth.sig.returnType = some t) (hnw : narrow t w = w)
    (hi : (i = .ireturn ∧ (t = .int ∨ t = .boolean ∨ t = .byte ∨ t = .char ∨ t = .short) ∧ ∃ z, w = .int z) ∨ (i = .lreturn ∧ t = .long ∧ ∃ z, w = .long z) ∨ (i = .dreturn ∧ t = .double ∧ ∃ z, w = .double z) ∨ (i = .freturn ∧ t = .float ∧ ∃ z, w = .float z) ∨ (i = .areturn ∧ t.isReference = true ∧ w.isRef = true))
    (hd : decode c.code pc = .ok (i, 1)) (hQ : Q (some w) T.heap locs) (hk : cells ≤ k) (hn : slots ≤ n) : own_Fin p e below (own_PW Q s k n) (T.setTop (mkF m pc Ls (w :: rest))) :=
  own_retS X hS hkS hlk (fun q => by rw [hret] at q; cases q) (fun fs hr => retOut X hx hret hnw hi hd hr) hQ hk hn
theorem own_retIS {z : Int32} {pc : Nat} {Ls : Array Slot} {rest : List Value} {Q : Option Value → Heap → List Loc → Prop} {k n : Nat} (X : Stand p l e R (s.setVm vm0) m args below meth c T locs cells slots) (hS : s.Since vm0 kS) (hkS : kS ≤ T.heap.size) (hx : p.tables.exec = Jvm.exec) (hlk : meth.locks = false) (hret : meth.sig.returnType = some .int)
    (hd : decode c.code pc = .ok (.ireturn, 1)) (hQ : Q (some (.int z)) T.heap locs) (hk : cells ≤ k) (hn : slots ≤ n) : own_Fin p e below (own_PW Q s k n) (T.setTop (mkF m pc Ls (.int z :: rest))) :=
  own_retWS X hS hkS hx hlk hret rfl (Or.inl ⟨rfl, Or.inl rfl, z, rfl⟩) hd hQ hk hn
theorem own_retJS {z : Int64} {pc : Nat} {Ls : Array Slot} {rest : List Value} {Q : Option Value → Heap → List Loc → Prop} {k n : Nat} (X : Stand p l e R (s.setVm vm0) m args below meth c T locs cells slots) (hS : s.Since vm0 kS) (hkS : kS ≤ T.heap.size) (hx : p.tables.exec = Jvm.exec) (hlk : meth.locks = false) (hret : meth.sig.returnType = some .long)
    (hd : decode c.code pc = .ok (.lreturn, 1)) (hQ : Q (some (.long z)) T.heap locs) (hk : cells ≤ k) (hn : slots ≤ n) : own_Fin p e below (own_PW Q s k n) (T.setTop (mkF m pc Ls (.long z :: rest))) :=
  own_retWS X hS hkS hx hlk hret rfl (Or.inr (Or.inl ⟨rfl, rfl, z, rfl⟩)) hd hQ hk hn
theorem own_retAS {w : Value} {t : FieldType} {pc : Nat} {Ls : Array Slot} {rest : List Value} {Q : Option Value → Heap → List Loc → Prop} {k n : Nat} (X : Stand p l e R (s.setVm vm0) m args below meth c T locs cells slots) (hS : s.Since vm0 kS) (hkS : kS ≤ T.heap.size) (hx : p.tables.exec = Jvm.exec) (hlk : meth.locks = false) (hw : w.isRef = true) (hret : meth.sig.returnType = some t) (ht : t.isReference = true)
    (hd : decode c.code pc = .ok (.areturn, 1)) (hQ : Q (some w) T.heap locs) (hk : cells ≤ k) (hn : slots ≤ n) : own_Fin p e below (own_PW Q s k n) (T.setTop (mkF m pc Ls (w :: rest))) :=
  own_retWS X hS hkS hx hlk hret (own_nref hw) (Or.inr (Or.inr (Or.inr (Or.inr ⟨rfl, ht, hw⟩)))) hd hQ hk hn
theorem own_retBS {z : Int32} {t : FieldType} {pc : Nat} {Ls : Array Slot} {rest : List Value} {Q : Option Value → Heap → List Loc → Prop} {k n : Nat} (X : Stand p l e R (s.setVm vm0) m args below meth c T locs cells slots) (hS : s.Since vm0 kS) (hkS : kS ≤ T.heap.size) (hx : p.tables.exec = Jvm.exec) (hlk : meth.locks = false) (hret : meth.sig.returnType = some t) (ht : t = .boolean ∨ t = .byte ∨ t = .char ∨ t = .short)
    (hd : decode c.code pc = .ok (.ireturn, 1)) (hQ : Q (some (.int (nar t z))) T.heap locs) (hk : cells ≤ k) (hn : slots ≤ n) : own_Fin p e below (own_PW Q s k n) (T.setTop (mkF m pc Ls (.int z :: rest))) :=
  own_retS X hS hkS hlk (fun q => by rw [hret] at q; cases q) (fun fs hr => retN X hx hret ht hd hr) hQ hk hn
theorem own_retVS {pc : Nat} {Ls : Array Slot} {Q : Option Value → Heap → List Loc → Prop} {k n : Nat} (X : Stand p l e R (s.setVm vm0) m args below meth c T locs cells slots) (hS : s.Since vm0 kS) (hkS : kS ≤ T.heap.size) (hx : p.tables.exec = Jvm.exec) (hlk : meth.locks = false) (hret : meth.sig.returnType = none)
    (hd : decode c.code pc = .ok (.return_, 1)) (hQ : Q none T.heap locs) (hk : cells ≤ k) (hn : slots ≤ n) : own_Fin p e below (own_PW Q s k n) (T.setTop (mkF m pc Ls [])) :=
  own_retS X hS hkS hlk (fun _ => rfl) (fun fs hr => X.returnOut hx hret hd hr) hQ hk hn
end own_walkS
theorem own_w {Z : State} {a0 : Array Value} (hw : ∀ d ∈ tables_1, d.before a0 Z = true) {d : Jvm.Cond} (i : Nat) (h : tables_1[i]? = some d) : d.before a0 Z = true := hw d (List.mem_of_getElem? h)
abbrev own_H (a0 : Array Value) (Z : State) : Prop := ∀ d ∈ tables_1, d.before a0 Z = true
abbrev own_R (f c n k : Nat) : Jvm.Room := { frames := f, cells := c, slots := n, locals := k }
abbrev own_D (c : ByteArray) (p : Nat) (i : Instr) (n : Nat) : Prop := decode c p = .ok (i, n)
abbrev own_M (l : Launch) (Z : State) (ws : List Jvm.Cond) (y : MethodName) (code : ByteArray) (ml : Nat) (rt : Option FieldType) (R : Jvm.Room) (A : Array Value) (h0 : Heap) (Q : Option Value → Heap → List Loc → Prop) : Prop :=
  MetFree l y (head1 (Jvm.Cond.code y code ml rt :: ws) R) (fun a U => a = A ∧ Z.Warmed39 U.vm ∧ U.heap = h0) (fun _ _ _ _ _ => True) (fun _ U o U' => ∃ v L, o = .returned v ∧ Q v U'.heap L ∧ FrameEnd U o U' L R.cells R.slots)
theorem own_open {l : Launch} {Z : State} {ws : List Jvm.Cond} {y : MethodName} {code : ByteArray} {ml : Nat} {rt : Option FieldType} {R : Jvm.Room} {A : Array Value} {h0 : Heap} {Q : Option Value → Heap → List Loc → Prop} {L0 : Array Slot} (n0 : Nat) (C : String) (hC : y.cls = C) (P : plainFor y = true) (ef : ∀ m, entryFrame m A ml = mkF m 0 L0 [])
    (H : ∀ (p : Program) (e : Env) (s : State) (m : MethodId) (below : List Frame) (meth : Method) (c : ClassFile.Code) (s₁ : State), p.tables.exec = Jvm.exec → c.code = code → c.maxLocals = ml → Z.Warmed39 s.vm → s.vm.findClass C = some m.cls → meth.name = y.name → meth.locks = false → meth.sig.returnType = rt → Stand p l e R s m A below meth c s₁ [] 0 0 → s₁.heap = h0 → Fr n0 [] → own_Fin p e below (own_P Q s R.cells R.slots) (s₁.setTop (mkF m 0 L0 []))) : own_M l Z ws y code ml rt R A h0 Q := by
  subst hC
  refine MetFree.of_bodySF P hisR ?_
  intro p e s m args below meth c s₁ Bd hml0 hP hK
  obtain ⟨ha, hZ, hh⟩ := hP
  have X0 : Stand p l e R s m args below meth c s₁ [] 0 0 := Stand.of_body Bd
  have e0 : s₁.heap = h0 := by rw [← hh, Bd.state]; rfl
  rw [ha] at X0
  have q := H p e s m below meth c s₁ Bd.exec Bd.bytes hml0 hZ (findClass_of_methodNamed Bd.named) (name_of_methodNamed Bd.named Bd.method).1 (BodyLoose.notSynchronized Bd) Bd.returns X0 e0 (Fr.nil n0)
  show own_Fin p e below (own_P Q s R.cells R.slots) (s₁.setTop (entryFrame m args ml))
  rw [ha]
  exact own_via (fun t k => castTop (ef m) k) q
theorem own_ne {a b n : Nat} (h : a < n) (q : n ≤ b) : a ≠ b := Nat.ne_of_lt (Nat.lt_of_lt_of_le h q)
theorem own_ca {n W : Nat} (h : 2 * 0 + n = W) : 2 * 0 + n ≤ W := Nat.le_of_eq h
theorem own_eqi {args : Array Value} {s : State} {t : Term} {k : Int32} (h : (Jvm.Cond.eq t (.int k)).value args s none s [] = some true) : t.eval args s none [] s = some (.int k) := by
  obtain ⟨u, v, hu, hv, -, kk⟩ := cmp_v (Or.inl h)
  have ev : v = .int k := Option.some.inj (hv.symm.trans (Term.int_eval k))
  subst ev
  obtain ⟨z, rfl⟩ := kk
  rw [hu, gotT (Cond.eq_ints hu hv) h]
theorem own_ord {args : Array Value} {s : State} {t : Term} {x : Addr} {C n d : String} {k : Int32} (e : t.eval args s none [] s = some (.ref x)) (h : (Jvm.Cond.eq (.field t C n d) (.int k)).value args s none s [] = some true) : s.fieldOf? x C n d = some (.int k) := by
  obtain ⟨u, v, hu, hv, -, kk⟩ := cmp_v (Or.inl h)
  have ev : v = .int k := Option.some.inj (hv.symm.trans (Term.int_eval k))
  subst ev
  obtain ⟨z, rfl⟩ := kk
  rw [fld_at e] at hu
  have hu' : (Term.field t C n d).eval args s none [] s = some (.int z) := by rw [fld_at e]; exact hu
  rw [hu, gotT (Cond.eq_ints hu' hv) h]
theorem own_wS {Z : State} {a0 : Array Value} (hw : ∀ d ∈ tables_1, d.before a0 Z = true) : ∀ a ∈ Bundle.stringAtoms, a.before a0 Z = true := fun d hd => by
  simp only [Bundle.stringAtoms, List.mem_cons, List.not_mem_nil, or_false] at hd
  rcases hd with rfl | rfl | rfl | rfl | rfl | rfl | rfl
  · exact (own_w hw 6 rfl)
  · exact (own_w hw 5 rfl)
  · exact (own_w hw 19 rfl)
  · exact (own_w hw 20 rfl)
  · exact (own_w hw 21 rfl)
  · exact (own_w hw 22 rfl)
  · exact (own_w hw 23 rfl)
abbrev own_EL : List (String × Nat) := consts_1
theorem own_hEL {Z : State} {a0 : Array Value} (hw : ∀ d ∈ tables_1, d.before a0 Z = true) : EW Z a0 own_EL := (EW.cons (own_w hw 185 rfl) (by decide) (EW.cons (own_w hw 70 rfl) (by decide) (EW.cons (own_w hw 283 rfl) (by decide) (EW.cons (own_w hw 284 rfl) (by decide) (EW.cons (own_w hw 302 rfl) (by decide) (EW.cons (own_w hw 18 rfl) (by decide) (EW.nil)))))))
section own_walkH
variable {p : Program} {l : Launch} {e : Env} {R : Room} {s : State} {vm0 : Vm} {kS : Nat} {m : MethodId} {args : Array Value} {below : List Frame} {meth : Method} {c : Code} {T : State} {locs : List Loc} {cells slots : Nat} {Z : State} {h h' : Heap}
def own_PH (Z : State) (Q : Option Value → Heap → List Loc → Prop) (s : State) (k n : Nat) (o : Outcome) (s₂ : State) : Prop :=
  ∃ v L, o = .returned v ∧ Q v s₂.heap L ∧ CHr Z own_EL s.vm s.heap s₂.vm s₂.heap ∧ ReturnedEndW s o s₂ L k n
theorem own_Ar.safe {EL : List (String × Nat)} {vm : Vm} {a : Addr} {ty : FieldType} {L : List Value} (hal : Z.vm.Alike vm) (F : own_Ar Z h a ty L) (ht : ty ≠ .byte) : Safe Z EL vm h a := by
  obtain ⟨c, A, -⟩ := F; exact Safe.arr hal A ht
theorem own_Ar.ofArv {a : Addr} {k : ClassId} {ty : FieldType} {z : Int32} {vs : List Value} {d : Value} (F : Arv Z h a k ty z vs d) (hl : z.toNatClampNeg = vs.length) : own_Ar Z h a ty vs := by
  obtain ⟨c, A, -, hs, -, H, -⟩ := F
  refine ⟨c, A, ?_⟩
  apply List.ext_getElem?
  intro i
  by_cases hi : i < c.slots.size
  · have q := H i hi
    have hv : i < vs.length := by omega
    rw [Array.getElem?_toList, q, List.getElem?_eq_getElem hv]
    simp [List.getD, List.getElem?_eq_getElem hv]
  · rw [List.getElem?_eq_none (by simp only [Array.length_toList]; omega), List.getElem?_eq_none (by omega)]
theorem own_backH {EL : List (String × Nat)} {a0 : Array Value} {y : MethodName} {bytes : ByteArray} {maxL : Nat} {ret : Option FieldType} {rm : Room} {len W : Nat} {as' : Array Value} {xs : List Addr} {Q : Option Value → Heap → List Loc → Prop}
    (hM : MetFree l y (head1 [Jvm.Cond.code y bytes maxL ret] rm) (fun a U => a = as' ∧ Z.Warmed39 U.vm ∧ U.heap = h ∧ CHv Z EL U.vm h ∧ ∀ x ∈ xs, Safe Z EL U.vm h x) (fun _ _ _ _ _ => True) (fun _ U o U' => ∃ v L, o = .returned v ∧ Q v U'.heap L ∧ CHr Z EL U.vm U.heap U'.vm U'.heap ∧ ReturnedEndW U o U' L rm.cells rm.slots))
    (hZ : Z.Warmed39 vm0) (wc : (Jvm.Cond.code y bytes maxL ret).before a0 Z = true) (wz : (Jvm.Cond.initialized y.cls).before a0 Z = true) (hf : rm.frames + 1 ≤ R.frames) (hl : W + (maxL + 11) + rm.locals ≤ R.locals) (hEL : EW Z a0 EL) (H : CHv Z EL vm0 h) (hs : ∀ x ∈ xs, x < h.size ∧ Safe Z EL vm0 h x) :
    BackS l R p e below (s.setVm vm0) args y len W (fun A a => a = as' ∧ A.U.heap = h ∧ A.cells + rm.cells ≤ R.cells ∧ A.slots + rm.slots ≤ R.slots)
      (fun A _ v B => ∃ L, Q v B.U.heap L ∧ B.locs = A.locs ++ L ∧ B.cells = A.cells + rm.cells ∧ B.slots = A.slots + rm.slots ∧ CHr Z EL vm0 h B.U.vm B.U.heap) := by
  refine BackS.of_freeW (bytes := bytes) (maxL := maxL) (ret := ret) (E := fun _ first o t L k n => k = rm.cells ∧ n = rm.slots ∧ (∃ v, o = .returned v ∧ Q v t.heap L) ∧ CHr Z EL first.vm first.heap t.vm t.heap) hM hf hl ?_ ?_ ?_ ?_ ?_
  · intro m meth c A a Y hp
    have hU : Z.Warmed39 A.U.vm := wtrans (s := s.setVm vm0) hZ Y.warmed
    exact ⟨by show (Jvm.Cond.and _ .tt).before a A.U = true; rw [Cond.before_and, mv hU wc]; rfl, mv hU wc, mv hU wz, hp.2.2.1, hp.2.2.2⟩
  · intro m meth c A a g mk Y hp
    have q := CHv.at Y hZ hEL H
    exact ⟨hp.1, wtrans (s := s.setVm vm0) hZ Y.warmed, hp.2.1, q.1, fun x hx => q.safe (hs x hx).1 (hs x hx).2⟩
  · intros; trivial
  · rintro _ _ _ _ ⟨v, L, h1, h2, h3, h4⟩
    exact ⟨L, _, _, h4, rfl, rfl, ⟨v, h1, h2⟩, h3⟩
  · rintro m meth c A a g mk v t L k n Y hp _ _ ⟨e1, e2, ⟨v', e3, e4⟩, e5⟩
    cases e3; subst e1 e2
    refine ⟨L, e4, rfl, rfl, rfl, (CHv.at Y hZ hEL H).trans ?_⟩
    rw [← hp.2.1]; exact e5
theorem own_retHH {v : Option Value} {g : State} {Q : Option Value → Heap → List Loc → Prop} {k n : Nat} (X : Stand p l e R (s.setVm vm0) m args below meth c T locs cells slots) (hS : s.Since vm0 kS) (hk : kS ≤ T.heap.size) (hlk : meth.locks = false) (hv : meth.sig.returnType = none → v = none)
    (hst : ∀ fs, (∀ (f : JFrame) (acts : List Action), f.method = m → f.locked = none → f.entered = [] → (doReturn e (T.setTop f) acts v).1 = T.setFrames fs) → Steps p.tables e below g (T.setFrames fs))
    (hCR : CHr Z own_EL s.vm s.heap T.vm T.heap) (hQ : Q v T.heap locs) (hc : cells ≤ k) (hn : slots ≤ n) : own_Fin p e below (own_PH Z Q s k n) g := by
  obtain ⟨fs, hr, hrun, hended, hE⟩ := X.leaveW hS hk (v := v) hv hlk
  exact ⟨_, _, hst fs hr, hrun, hended, _, _, rfl, hQ, hCR, hE.1, hE.2.1, hE.2.2.1, hE.2.2.2.mono hc hn⟩
theorem own_retWH {w : Value} {t : FieldType} {i : Instr} {pc : Nat} {Ls : Array Slot} {rest : List Value} {Q : Option Value → Heap → List Loc → Prop} {k n : Nat} (X : Stand p l e R (s.setVm vm0) m args below meth c T locs cells slots) (hS : s.Since vm0 kS) (hkS : kS ≤ T.heap.size) (hx : p.tables.exec = Jvm.exec) (hlk : meth.locks = false) (hret : meth.sig.returnType = some t) (hnw : narrow t w = w)
    (hi : (i = .ireturn ∧ (t = .int ∨ t = .boolean ∨ t = .byte ∨ t = .char ∨ t = .short) ∧ ∃ z, w = .int z) ∨ (i = .lreturn ∧ t = .long ∧ ∃ z, w = .long z) ∨ (i = .dreturn ∧ t = .double ∧ ∃ z, w = .double z) ∨ (i = .freturn ∧ t = .float ∧ ∃ z, w = .float z) ∨ (i = .areturn ∧ t.isReference = true ∧ w.isRef = true))
    (hd : decode c.code pc = .ok (i, 1)) (hCR : CHr Z own_EL s.vm s.heap T.vm T.heap) (hQ : Q (some w) T.heap locs) (hk : cells ≤ k) (hn : slots ≤ n) : own_Fin p e below (own_PH Z Q s k n) (T.setTop (mkF m pc Ls (w :: rest))) :=
  own_retHH X hS hkS hlk (fun q => by rw [hret] at q; cases q) (fun fs hr => retOut X hx hret hnw hi hd hr) hCR hQ hk hn
theorem own_retIH {z : Int32} {pc : Nat} {Ls : Array Slot} {rest : List Value} {Q : Option Value → Heap → List Loc → Prop} {k n : Nat} (X : Stand p l e R (s.setVm vm0) m args below meth c T locs cells slots) (hS : s.Since vm0 kS) (hkS : kS ≤ T.heap.size) (hx : p.tables.exec = Jvm.exec) (hlk : meth.locks = false) (hret : meth.sig.returnType = some .int)
    (hd : decode c.code pc = .ok (.ireturn, 1)) (hCR : CHr Z own_EL s.vm s.heap T.vm T.heap) (hQ : Q (some (.int z)) T.heap locs) (hk : cells ≤ k) (hn : slots ≤ n) : own_Fin p e below (own_PH Z Q s k n) (T.setTop (mkF m pc Ls (.int z :: rest))) :=
  own_retWH X hS hkS hx hlk hret rfl (Or.inl ⟨rfl, Or.inl rfl, z, rfl⟩) hd hCR hQ hk hn
theorem own_retJH {z : Int64} {pc : Nat} {Ls : Array Slot} {rest : List Value} {Q : Option Value → Heap → List Loc → Prop} {k n : Nat} (X : Stand p l e R (s.setVm vm0) m args below meth c T locs cells slots) (hS : s.Since vm0 kS) (hkS : kS ≤ T.heap.size) (hx : p.tables.exec = Jvm.exec) (hlk : meth.locks = false) (hret : meth.sig.returnType = some .long)
    (hd : decode c.code pc = .ok (.lreturn, 1)) (hCR : CHr Z own_EL s.vm s.heap T.vm T.heap) (hQ : Q (some (.long z)) T.heap locs) (hk : cells ≤ k) (hn : slots ≤ n) : own_Fin p e below (own_PH Z Q s k n) (T.setTop (mkF m pc Ls (.long z :: rest))) :=
  own_retWH X hS hkS hx hlk hret rfl (Or.inr (Or.inl ⟨rfl, rfl, z, rfl⟩)) hd hCR hQ hk hn
theorem own_retAH {w : Value} {t : FieldType} {pc : Nat} {Ls : Array Slot} {rest : List Value} {Q : Option Value → Heap → List Loc → Prop} {k n : Nat} (X : Stand p l e R (s.setVm vm0) m args below meth c T locs cells slots) (hS : s.Since vm0 kS) (hkS : kS ≤ T.heap.size) (hx : p.tables.exec = Jvm.exec) (hlk : meth.locks = false) (hw : w.isRef = true) (hret : meth.sig.returnType = some t) (ht : t.isReference = true)
    (hd : decode c.code pc = .ok (.areturn, 1)) (hCR : CHr Z own_EL s.vm s.heap T.vm T.heap) (hQ : Q (some w) T.heap locs) (hk : cells ≤ k) (hn : slots ≤ n) : own_Fin p e below (own_PH Z Q s k n) (T.setTop (mkF m pc Ls (w :: rest))) :=
  own_retWH X hS hkS hx hlk hret (own_nref hw) (Or.inr (Or.inr (Or.inr (Or.inr ⟨rfl, ht, hw⟩)))) hd hCR hQ hk hn
theorem own_retBH {z : Int32} {t : FieldType} {pc : Nat} {Ls : Array Slot} {rest : List Value} {Q : Option Value → Heap → List Loc → Prop} {k n : Nat} (X : Stand p l e R (s.setVm vm0) m args below meth c T locs cells slots) (hS : s.Since vm0 kS) (hkS : kS ≤ T.heap.size) (hx : p.tables.exec = Jvm.exec) (hlk : meth.locks = false) (hret : meth.sig.returnType = some t) (ht : t = .boolean ∨ t = .byte ∨ t = .char ∨ t = .short)
    (hd : decode c.code pc = .ok (.ireturn, 1)) (hCR : CHr Z own_EL s.vm s.heap T.vm T.heap) (hQ : Q (some (.int (nar t z))) T.heap locs) (hk : cells ≤ k) (hn : slots ≤ n) : own_Fin p e below (own_PH Z Q s k n) (T.setTop (mkF m pc Ls (.int z :: rest))) :=
  own_retHH X hS hkS hlk (fun q => by rw [hret] at q; cases q) (fun fs hr => retN X hx hret ht hd hr) hCR hQ hk hn
theorem own_retVH {pc : Nat} {Ls : Array Slot} {Q : Option Value → Heap → List Loc → Prop} {k n : Nat} (X : Stand p l e R (s.setVm vm0) m args below meth c T locs cells slots) (hS : s.Since vm0 kS) (hkS : kS ≤ T.heap.size) (hx : p.tables.exec = Jvm.exec) (hlk : meth.locks = false) (hret : meth.sig.returnType = none)
    (hd : decode c.code pc = .ok (.return_, 1)) (hCR : CHr Z own_EL s.vm s.heap T.vm T.heap) (hQ : Q none T.heap locs) (hk : cells ≤ k) (hn : slots ≤ n) : own_Fin p e below (own_PH Z Q s k n) (T.setTop (mkF m pc Ls [])) :=
  own_retHH X hS hkS hlk (fun _ => rfl) (fun fs hr => X.returnOut hx hret hd hr) hCR hQ hk hn
theorem own_sfD {EL : List (String × Nat)} {vm : Vm} {h1 h2 : Heap} {d dn : Addr} {ws : List Addr} (S : Safe Z EL vm h2 d) (hD : dn = d ∨ h1.size ≤ dn) (K : Keep h1 h2 ws) (hs : ∀ x ∈ ws, Safe Z EL vm h1 x) (H : CHv Z EL vm h1) : Safe Z EL vm h2 dn := hD.elim (fun q => q ▸ S) (fun q => Safe.keep K hs H (Safe.new q))
theorem own_sfnew {EL : List (String × Nat)} {vm vm' : Vm} {h1 h2 : Heap} {a : Addr} (_ : CHr Z EL vm h1 vm' h2) (q : h2.size ≤ a) : Safe Z EL vm' h2 a := Safe.new q
end own_walkH

def own_b8 (c : Int32) : Int32 := nar .byte c.toInt8.toInt32
/-- the bytes behind i turns -/
def own_dst (CC : List Int32) (i : Nat) : List Value := ((CC.take i).map (fun c => Value.int (own_b8 c))) ++ List.replicate (CC.length - i) (Value.int 0)
theorem own_dst_len (CC : List Int32) (i : Nat) (h : i ≤ CC.length) : (own_dst CC i).length = CC.length := by
  unfold own_dst; rw [List.length_append, List.length_map, List.length_take, List.length_replicate]; omega
theorem own_dst0 (CC : List Int32) : own_dst CC 0 = List.replicate CC.length (Value.int 0) := by unfold own_dst; simp
theorem own_dstn (CC : List Int32) : own_dst CC CC.length = (CC.map own_b8).map Value.int := by
  unfold own_dst; rw [List.take_length, Nat.sub_self]; simp
theorem own_dst_set {CC : List Int32} {i : Nat} {x : Int32} (h : i < CC.length) (hx : CC[i]? = some x) : (own_dst CC i).set i (Value.int (own_b8 x)) = own_dst CC (i + 1) := by
  unfold own_dst
  have hx' : CC[i] = x := by rw [List.getElem?_eq_getElem h] at hx; exact Option.some.inj hx
  have hl : ((CC.take i).map (fun c => Value.int (own_b8 c))).length = i := by rw [List.length_map, List.length_take]; omega
  rw [List.set_append_right _ _ (by omega), hl, Nat.sub_self, List.take_succ_eq_append_getElem h, List.map_append, hx']
  have e : CC.length - i = (CC.length - (i + 1)) + 1 := by omega
  rw [e, List.replicate_succ, List.set_cons_zero]
  simp
theorem own_nltS {i n : Nat} (hi : i ≤ n) (hn : n < 2147483648) : i.toInt32 < n.toInt32 ↔ i < n := by
  rw [Int32.lt_iff_toInt_lt, len_toInt (by omega), len_toInt (by omega)]; omega
theorem own_nnS {i : Nat} (h : i < 2147483648) : ¬ i.toInt32 < 0 := by
  rw [Int32.lt_iff_toInt_lt, len_toInt (by omega)]
  have z : (0 : Int32).toInt = 0 := rfl
  omega
theorem own_ixS {i : Nat} (h : i < 2147483648) : i.toInt32.toNatClampNeg = i := by
  rw [Int32.toNatClampNeg, len_toInt (by omega)]; omega
theorem own_succS (i : Nat) : i.toInt32 + 1 = (i + 1).toInt32 := (Int32.ofNat_add i 1).symm
theorem own_getS {A : List Int32} {i : Nat} (h : i < A.length) : ∃ x, A[i]? = some x ∧ x ∈ A ∧ (A.map Value.int)[i]? = some (.int x) :=
  ⟨A[i], List.getElem?_eq_getElem h, List.getElem_mem h, by rw [List.getElem?_map, List.getElem?_eq_getElem h]; rfl⟩

theorem own_pn0 : plainName "java/lang/StringUTF16" = true := by first | (simp [plainName, overriddenIn]; done) | decide +kernel
abbrev own_k52 := jdk_52_method_21_code
abbrev own_n0 : MethodName := ⟨"java/lang/StringUTF16", "compress", "([CI[BII)I"⟩
theorem d52_0 : own_D own_k52 0 (.iconst 0) 1 := by decide +kernel
theorem d52_1 : own_D own_k52 1 (.istore 5) 2 := by decide +kernel
theorem d52_3 : own_D own_k52 3 (.iload 5) 2 := by decide +kernel
theorem d52_5 : own_D own_k52 5 (.iload 4) 2 := by decide +kernel
theorem d52_7 : own_D own_k52 7 (.if_icmp .ge 37) 3 := by decide +kernel
theorem d52_10 : own_D own_k52 10 (.aload_n 0) 1 := by decide +kernel
theorem d52_11 : own_D own_k52 11 (.iload_n 1) 1 := by decide +kernel
theorem d52_12 : own_D own_k52 12 (.caload) 1 := by decide +kernel
theorem d52_13 : own_D own_k52 13 (.istore 6) 2 := by decide +kernel
theorem d52_15 : own_D own_k52 15 (.iload 6) 2 := by decide +kernel
theorem d52_17 : own_D own_k52 17 (.sipush 255) 3 := by decide +kernel
theorem d52_20 : own_D own_k52 20 (.if_icmp .le 6) 3 := by decide +kernel
theorem d52_26 : own_D own_k52 26 (.aload_n 2) 1 := by decide +kernel
theorem d52_27 : own_D own_k52 27 (.iload_n 3) 1 := by decide +kernel
theorem d52_28 : own_D own_k52 28 (.iload 6) 2 := by decide +kernel
theorem d52_30 : own_D own_k52 30 (.i2b) 1 := by decide +kernel
theorem d52_31 : own_D own_k52 31 (.bastore) 1 := by decide +kernel
theorem d52_32 : own_D own_k52 32 (.iinc 1 1) 3 := by decide +kernel
theorem d52_35 : own_D own_k52 35 (.iinc 3 1) 3 := by decide +kernel
theorem d52_38 : own_D own_k52 38 (.iinc 5 1) 3 := by decide +kernel
theorem d52_41 : own_D own_k52 41 (.goto (-38)) 3 := by decide +kernel
theorem d52_44 : own_D own_k52 44 (.iload 4) 2 := by decide +kernel
theorem d52_46 : own_D own_k52 46 (.ireturn) 1 := by decide +kernel
theorem ef_own_rm52 (m : MethodId) (a1 : Addr) (p1 : Int32) (a2 : Addr) (p2 : Int32) (p3 : Int32) : entryFrame m #[(.ref a1), (.int p1), (.ref a2), (.int p2), (.int p3)] 7 = mkF m 0 #[own_r a1, own_i p1, own_r a2, own_i p2, own_i p3, .unset, .unset] [] := by first | (simp [entryFrame, mkF, argsToLocals, Value.category]; done) | rfl
def own_rm52_Q (Z : State) (a1 : Addr) (p1 : Int32) (a2 : Addr) (p2 : Int32) (p3 : Int32) (CC : List Int32) (h0 : Heap) (n0 : Nat) (v : Option Value) (h : Heap) (L : List Loc) : Prop := v = some (.int p3) ∧ Fr n0 L ∧ Keep h0 h [a2] ∧ own_Ar Z h a2 .byte ((CC.map own_b8).map Value.int)
set_option maxRecDepth 65536 in
set_option maxHeartbeats 40000000 in
theorem own_rm52 (l : Launch) (Z : State) (a0 : Array Value) (hw : own_H a0 Z) (ws : List Jvm.Cond) (a1 : Addr) (p1 : Int32) (a2 : Addr) (p2 p3 : Int32) (CC : List Int32) (h0 : Heap) (n0 : Nat) (Z0 : n0 ≤ h0.size) (A_a1 : own_Ar Z h0 a1 .char (CC.map Value.int)) (A_a2 : own_Ar Z h0 a2 .byte (own_dst CC 0)) (hp1 : p1 = 0) (hp2 : p2 = 0) (hp3 : p3 = CC.length.toInt32) (hne : a1 ≠ a2) (hlC : CC.length < 2147483648) (hch : ∀ c ∈ CC, ¬ (255 : Int32) < c) (g_a2 : n0 ≤ a2) : own_M l Z ws own_n0 own_k52 7 (some .int) (own_R 0 0 0 0) #[(.ref a1), (.int p1), (.ref a2), (.int p2), (.int p3)] h0 (own_rm52_Q Z a1 p1 a2 p2 p3 CC h0 n0) := by
  refine own_open n0 "java/lang/StringUTF16" rfl (plainFor_of_name own_pn0) (fun m => ef_own_rm52 m a1 p1 a2 p2 p3) ?_
  intro p e s m below meth c s₁ hx hby hml hZ hown hnm hlk hrt X0 e0 N0
  have K0 := Keep.refl h0 [a2]
  subst hp1 hp2 hp3
  refine own_s s₁ m 3 #[own_r a1, own_i 0, own_r a2, own_i 0, own_i CC.length.toInt32, own_i 0, .unset] [] (fun t k => XS.iconst X0.here hx rfl (hb hby d52_0) (XS.istore X0.here hx rfl (hb hby d52_1) rfl (l' := #[own_r a1, own_i 0, own_r a2, own_i 0, own_i CC.length.toInt32, own_i 0, .unset]) rfl k)) ?_
  have LOOP : ∀ (k i : Nat) (Tl : State) (hl : Heap) (ll : List Loc) (s6 : Slot) (Xl : Stand p l e (own_R 0 0 0 0) s m #[(.ref a1), (.int 0), (.ref a2), (.int 0), (.int CC.length.toInt32)] below meth c Tl ll 0 0) (el : Tl.heap = hl) (Nl : Fr n0 ll) (Kl : Keep h0 hl [a2]) (Al : own_Ar Z hl a2 .byte (own_dst CC i)), CC.length - i < k → i ≤ CC.length → (s6 = .unset ∨ ∃ w, s6 = .val w ∧ w.category = 1) → own_Fin p e below (own_P (own_rm52_Q Z a1 (0 : Int32) a2 (0 : Int32) (CC.length.toInt32) CC h0 n0) s (own_R 0 0 0 0).cells (own_R 0 0 0 0).slots) (Tl.setTop (mkF m 3 #[own_r a1, own_i i.toInt32, own_r a2, own_i i.toInt32, own_i CC.length.toInt32, own_i i.toInt32, s6] [])) := by
    intro k
    induction k with
    | zero => intro i Tl hl ll s6 Xl el Nl Kl Al hk; exact absurd hk (Nat.not_lt_zero _)
    | succ k ih =>
      intro i Tl hl ll s6 Xl el Nl Kl Al hk hi hs6
      have Ac := A_a1.keep Kl (ninS hne nin0)
      refine own_s Tl m 7 #[own_r a1, own_i i.toInt32, own_r a2, own_i i.toInt32, own_i CC.length.toInt32, own_i i.toInt32, s6] [.int CC.length.toInt32, .int i.toInt32] (fun t k => XS.iload Xl.here hx rfl (hb hby d52_3) rfl (XS.iload Xl.here hx rfl (hb hby d52_5) rfl k)) ?_
      by_cases hc7_101 : i.toInt32 < CC.length.toInt32
      · refine own_s Tl m 10 #[own_r a1, own_i i.toInt32, own_r a2, own_i i.toInt32, own_i CC.length.toInt32, own_i i.toInt32, s6] [] (fun t k => XS.icmpNo Xl.here hx rfl (hb hby d52_7) rfl (XT.ii_ge_f hc7_101) k) ?_
        have hiC : i < CC.length := (own_nltS hi hlC).mp hc7_101
        obtain ⟨x, hx1, hx2, hx3⟩ := own_getS hiC
        refine own_s Tl m 15 #[own_r a1, own_i i.toInt32, own_r a2, own_i i.toInt32, own_i CC.length.toInt32, own_i i.toInt32, own_i x] [] (fun t k => XS.aloadN Xl.here hx rfl (hb hby d52_10) rfl (rfl) (XS.iloadN Xl.here hx rfl (hb hby d52_11) rfl (own_ldC Xl hx hZ el Ac (j := i.toInt32) (v := (.int x)) (own_nnS (by omega : i < 2147483648)) (by rw [own_ixS (by omega : i < 2147483648)]; exact hx3) (g := (mkF m 12 #[own_r a1, own_i i.toInt32, own_r a2, own_i i.toInt32, own_i CC.length.toInt32, own_i i.toInt32, s6] [.int i.toInt32, .ref a1])) rfl rfl (hb hby d52_12) _ (XS.istoreS Xl.here hx rfl (hb hby d52_13) rfl rfl hs6 k)))) ?_
        refine own_s Tl m 27 #[own_r a1, own_i i.toInt32, own_r a2, own_i i.toInt32, own_i CC.length.toInt32, own_i i.toInt32, own_i x] [.ref a2] (fun t k => XS.iload Xl.here hx rfl (hb hby d52_15) rfl (XS.sipush Xl.here hx rfl (hb hby d52_17) (XS.icmpYes Xl.here hx rfl (pc0 := 20) (pc' := 26) rfl (hb hby d52_20) rfl (XT.ii_le_t (hch x hx2)) (by decide) (by decide) (XS.aloadN Xl.here hx rfl (hb hby d52_26) rfl (rfl) k)))) ?_
        refine own_s Tl m 31 #[own_r a1, own_i i.toInt32, own_r a2, own_i i.toInt32, own_i CC.length.toInt32, own_i i.toInt32, own_i x] [.int (x.toInt8.toInt32), .int i.toInt32, .ref a2] (fun t k => XS.iloadN Xl.here hx rfl (hb hby d52_27) rfl (XS.iload Xl.here hx rfl (hb hby d52_28) rfl (XT.i2b Xl.here hx rfl (hb hby d52_30) rfl k))) ?_
        obtain ⟨T102, h102, X102, e102, W102, V102', st102⟩ := own_stB Xl hx hZ el Al (j := i.toInt32) (own_nnS (by omega : i < 2147483648)) (by rw [own_ixS (by omega : i < 2147483648), own_dst_len CC i hi]; exact hiC) (g := (mkF m 31 #[own_r a1, own_i i.toInt32, own_r a2, own_i i.toInt32, own_i CC.length.toInt32, own_i i.toInt32, own_i x] [.int (x.toInt8.toInt32), .int i.toInt32, .ref a2])) rfl rfl (hb hby d52_31)
        have V102 : own_Ar Z h102 a2 .byte (own_dst CC (i + 1)) := (by rw [← own_dst_set hiC hx1]; have q := V102'; rw [own_ixS (by omega : i < 2147483648)] at q; exact q)
        have Kc102 : Keep h0 h102 [a2] := Kl.wr W102 (Or.inl (List.mem_of_getElem? (i := 0) rfl))
        have N102 := Fr.snoc X102 Nl g_a2
        refine own_s T102 m 41 #[own_r a1, own_i (i.toInt32 + (1 : Int32)), own_r a2, own_i (i.toInt32 + (1 : Int32)), own_i CC.length.toInt32, own_i (i.toInt32 + (1 : Int32)), own_i x] [] (fun t k => st102 _ (XS.iinc X102.here hx rfl (hb hby d52_32) rfl (l' := #[own_r a1, own_i (i.toInt32 + (1 : Int32)), own_r a2, own_i i.toInt32, own_i CC.length.toInt32, own_i i.toInt32, own_i x]) rfl (XS.iinc X102.here hx rfl (hb hby d52_35) rfl (l' := #[own_r a1, own_i (i.toInt32 + (1 : Int32)), own_r a2, own_i (i.toInt32 + (1 : Int32)), own_i CC.length.toInt32, own_i i.toInt32, own_i x]) rfl (XS.iinc X102.here hx rfl (hb hby d52_38) rfl (l' := #[own_r a1, own_i (i.toInt32 + (1 : Int32)), own_r a2, own_i (i.toInt32 + (1 : Int32)), own_i CC.length.toInt32, own_i (i.toInt32 + (1 : Int32)), own_i x]) rfl k)))) ?_
        refine own_s T102 m 3 #[own_r a1, own_i (i.toInt32 + (1 : Int32)), own_r a2, own_i (i.toInt32 + (1 : Int32)), own_i CC.length.toInt32, own_i (i.toInt32 + (1 : Int32)), own_i x] [] (fun t k => XS.goto X102.here hx rfl (pc0 := 41) (pc' := 3) rfl (hb hby d52_41) (by decide) (by decide) k) ?_
        rw [own_succS i]
        exact ih (i + 1) _ _ _ _ X102 e102 N102 Kc102 V102 (by omega) (by omega) (Or.inr ⟨_, rfl, rfl⟩)
      · refine own_s Tl m 46 #[own_r a1, own_i i.toInt32, own_r a2, own_i i.toInt32, own_i CC.length.toInt32, own_i i.toInt32, s6] [.int CC.length.toInt32] (fun t k => XS.icmpYes Xl.here hx rfl (pc0 := 7) (pc' := 44) rfl (hb hby d52_7) rfl (XT.ii_ge_t hc7_101) (by decide) (by decide) (XS.iload Xl.here hx rfl (hb hby d52_44) rfl k)) ?_
        have ei : i = CC.length := Nat.le_antisymm hi (Nat.le_of_not_lt (fun q => hc7_101 ((own_nltS hi hlC).mpr q)))
        subst ei
        have eE : Tl.heap = hl := el
        exact own_retI Xl hx hlk hrt (hb hby d52_46) ⟨rfl, Nl, (by rw [eE]; exact Kl), (by rw [eE, ← own_dstn]; exact Al)⟩ (by decide) (by decide)
  exact LOOP _ 0 _ _ _ _ X0 e0 N0 K0 A_a2 (Nat.lt_succ_self _) (Nat.zero_le _) (Or.inl rfl)
theorem own_pd0 : parseMethodDescriptor "([CI[BII)I" = some ⟨[(.array .char), .int, (.array .byte), .int, .int], some .int⟩ := by decide +kernel
abbrev own_k51 := jdk_52_method_16_code
abbrev own_n1 : MethodName := ⟨"java/lang/StringUTF16", "compress", "([CII)[B"⟩
theorem d51_0 : own_D own_k51 0 (.iload_n 2) 1 := by decide +kernel
theorem d51_1 : own_D own_k51 1 (.newarray .byte) 2 := by decide +kernel
theorem d51_3 : own_D own_k51 3 (.astore_n 3) 1 := by decide +kernel
theorem d51_4 : own_D own_k51 4 (.aload_n 0) 1 := by decide +kernel
theorem d51_5 : own_D own_k51 5 (.iload_n 1) 1 := by decide +kernel
theorem d51_6 : own_D own_k51 6 (.aload_n 3) 1 := by decide +kernel
theorem d51_7 : own_D own_k51 7 (.iconst 0) 1 := by decide +kernel
theorem d51_8 : own_D own_k51 8 (.iload_n 2) 1 := by decide +kernel
theorem d51_9 : own_D own_k51 9 (.invokestatic 115) 3 := by decide +kernel
theorem d51_12 : own_D own_k51 12 (.istore 4) 2 := by decide +kernel
theorem d51_14 : own_D own_k51 14 (.iload 4) 2 := by decide +kernel
theorem d51_16 : own_D own_k51 16 (.iload_n 2) 1 := by decide +kernel
theorem d51_17 : own_D own_k51 17 (.if_icmp .eq 40) 3 := by decide +kernel
theorem d51_57 : own_D own_k51 57 (.aload_n 3) 1 := by decide +kernel
theorem d51_58 : own_D own_k51 58 (.areturn) 1 := by decide +kernel
theorem ef_own_rm51 (m : MethodId) (a1 : Addr) (p1 : Int32) (p2 : Int32) : entryFrame m #[(.ref a1), (.int p1), (.int p2)] 6 = mkF m 0 #[own_r a1, own_i p1, own_i p2, .unset, .unset, .unset] [] := by first | (simp [entryFrame, mkF, argsToLocals, Value.category]; done) | rfl
def own_rm51_Q (Z : State) (a1 : Addr) (p1 : Int32) (p2 : Int32) (CC : List Int32) (h0 : Heap) (n0 : Nat) (v : Option Value) (h : Heap) (L : List Loc) : Prop := ∃ b : Addr, v = some (.ref b) ∧ Fr n0 L ∧ h0.size ≤ b ∧ Keep h0 h [] ∧ own_Ar Z h b .byte ((CC.map own_b8).map Value.int)
set_option maxRecDepth 65536 in
set_option maxHeartbeats 40000000 in
theorem own_rm51 (l : Launch) (Z : State) (a0 : Array Value) (hw : own_H a0 Z) (ws : List Jvm.Cond) (a1 : Addr) (p1 p2 : Int32) (CC : List Int32) (h0 : Heap) (n0 : Nat) (Z0 : n0 ≤ h0.size) (A_a1 : own_Ar Z h0 a1 .char (CC.map Value.int)) (hp1 : p1 = 0) (hp2 : p2 = CC.length.toInt32) (hlC : CC.length < 2147483648) (hcap : CC.length ≤ 3) (hch : ∀ c ∈ CC, ¬ (255 : Int32) < c) : own_M l Z ws own_n1 own_k51 6 (some (.array .byte)) (own_R 1 1 3 18) #[(.ref a1), (.int p1), (.int p2)] h0 (own_rm51_Q Z a1 p1 p2 CC h0 n0) := by
  refine own_open n0 "java/lang/StringUTF16" rfl (plainFor_of_name own_pn0) (fun m => ef_own_rm51 m a1 p1 p2) ?_
  intro p e s m below meth c s₁ hx hby hml hZ hown hnm hlk hrt X0 e0 N0
  have K0 := Keep.refl h0 []
  subst hp1 hp2
  refine own_s s₁ m 1 #[own_r a1, own_i 0, own_i CC.length.toInt32, .unset, .unset, .unset] [.int CC.length.toInt32] (fun t k => XS.iloadN X0.here hx rfl (hb hby d51_0) rfl k) ?_
  obtain ⟨T101, h101, X101, e101, E101, A101, st101⟩ := own_newP X0 hx hZ (aty := .byte) (own_w hw 19 rfl) e0 (g := (mkF m 1 #[own_r a1, own_i 0, own_i CC.length.toInt32, .unset, .unset, .unset] [.int CC.length.toInt32])) rfl (hb hby d51_1) rfl (own_nnS (by omega : CC.length < 2147483648)) (cap := 3) (by rw [own_ixS (by omega : CC.length < 2147483648)]; exact hcap) (by decide) (by decide) (by decide)
  obtain ⟨b101, g101⟩ : ∃ z, z = h0.size := ⟨_, rfl⟩
  rw [← g101] at A101 st101
  have V101 : own_Ar Z h101 b101 .byte (List.replicate (CC.length.toInt32).toNatClampNeg (.int 0)) := A101
  have ne_a1_b101 := own_ne A_a1.lt (Nat.le_of_eq g101.symm)
  have sz_b101 : h0.size ≤ b101 := Nat.le_trans K0.1 (Nat.le_of_eq g101.symm)
  have g_b101 : n0 ≤ b101 := Nat.le_trans Z0 sz_b101
  have Kc101 : Keep h0 h101 [] := K0.ext E101
  refine own_s T101 m 3 #[own_r a1, own_i 0, own_i CC.length.toInt32, .unset, .unset, .unset] [.ref b101] (fun t k => st101 _ k) ?_
  have Vd : own_Ar Z h101 b101 .byte (own_dst CC 0) := by have q := V101; rw [own_ixS (by omega : CC.length < 2147483648)] at q; rw [own_dst0]; exact q
  refine own_s T101 m 7 #[own_r a1, own_i 0, own_i CC.length.toInt32, own_r b101, .unset, .unset] [.ref b101, .int 0, .ref a1] (fun t k => XS.astoreN X101.here hx rfl (hb hby d51_3) rfl (rfl) (l' := #[own_r a1, own_i 0, own_i CC.length.toInt32, own_r b101, .unset, .unset]) rfl (XS.aloadN X101.here hx rfl (hb hby d51_4) rfl (rfl) (XS.iloadN X101.here hx rfl (hb hby d51_5) rfl (XS.aloadN X101.here hx rfl (hb hby d51_6) rfl (rfl) k)))) ?_
  refine own_s T101 m 9 #[own_r a1, own_i 0, own_i CC.length.toInt32, own_r b101, .unset, .unset] [.int CC.length.toInt32, .int 0, .ref b101, .int 0, .ref a1] (fun t k => XS.iconst X101.here hx rfl (hb hby d51_7) (XS.iloadN X101.here hx rfl (hb hby d51_8) rfl k)) ?_
  obtain ⟨v102, _, ⟨T102, L102, k102, n102⟩, -, X102, ⟨Lc102, hQ102, l102, y102, z102⟩, st102⟩ := Jvm.LawKit.callS X101 hx (y := own_n0) hown (mvT hZ (own_w hw 274 rfl)) (mvT hZ (own_w hw 275 rfl)) (mvT hZ (own_w hw 272 rfl)) (mvT hZ (own_w hw 276 rfl)) (by decide) (backOf (W := 0) (own_rm52 l Z a0 hw [] a1 (0 : Int32) b101 (0 : Int32) CC.length.toInt32 CC h101 n0 (Nat.le_trans Z0 Kc101.1) (A_a1.keep Kc101 nin0) Vd rfl rfl rfl ne_a1_b101 hlC hch g_b101) hZ (own_w hw 276 rfl) (own_w hw 272 rfl) (by decide) (by decide)) (g := (mkF m 9 #[own_r a1, own_i 0, own_i CC.length.toInt32, own_r b101, .unset, .unset] [.int CC.length.toInt32, .int 0, .ref b101, .int 0, .ref a1])) rfl (by rw [hml]; rfl) (argsL := [.ref a1, .int 0, .ref b101, .int 0, .int CC.length.toInt32]) (rest := []) (lenOf own_pd0 rfl) rfl (by exact own_ca rfl) (hb hby d51_9) (fun _ _ => ⟨rfl, e101, (by decide : 1 + 0 ≤ _), (by decide : 3 + 0 ≤ _)⟩)
  dsimp only [Pt.U, Pt.locs, Pt.cells, Pt.slots] at X102 l102 y102 z102 st102 hQ102
  subst l102 y102 z102
  obtain ⟨rfl, N102q, K102, V102⟩ := hQ102
  have Kc102 : Keep h0 T102.heap [] := Kc101.trans K102 (allS (Or.inr sz_b101) all0)
  have N102 := Fr.app N0 N102q
  refine own_s T102 m 17 #[own_r a1, own_i 0, own_i CC.length.toInt32, own_r b101, own_i CC.length.toInt32, .unset] [.int CC.length.toInt32, .int CC.length.toInt32] (fun t k => st102 _ (XS.istore X102.here hx rfl (hb hby d51_12) rfl (l' := #[own_r a1, own_i 0, own_i CC.length.toInt32, own_r b101, own_i CC.length.toInt32, .unset]) rfl (XS.iload X102.here hx rfl (hb hby d51_14) rfl (XS.iloadN X102.here hx rfl (hb hby d51_16) rfl k)))) ?_
  refine own_s T102 m 58 #[own_r a1, own_i 0, own_i CC.length.toInt32, own_r b101, own_i CC.length.toInt32, .unset] [.ref b101] (fun t k => XS.icmpYes X102.here hx rfl (pc0 := 17) (pc' := 57) rfl (hb hby d51_17) rfl (XT.ii_eq_t rfl) (by decide) (by decide) (XS.aloadN X102.here hx rfl (hb hby d51_57) rfl (rfl) k)) ?_
  have eE : T102.heap = T102.heap := rfl
  exact own_retA X102 hx hlk (rfl) hrt rfl (hb hby d51_58) ⟨b101, rfl, N102, sz_b101, (by rw [eE]; exact Kc102), (by rw [eE]; exact V102)⟩ (by decide) (by decide)
abbrev own_k53 := jdk_52_method_15_code
abbrev own_n2 : MethodName := ⟨"java/lang/StringUTF16", "coderFromArrayLen", "([BI)B"⟩
theorem d53_0 : own_D own_k53 0 (.iload_n 1) 1 := by decide +kernel
theorem d53_1 : own_D own_k53 1 (.aload_n 0) 1 := by decide +kernel
theorem d53_2 : own_D own_k53 2 (.arraylength) 1 := by decide +kernel
theorem d53_3 : own_D own_k53 3 (.isub) 1 := by decide +kernel
theorem d53_4 : own_D own_k53 4 (.bipush 31) 2 := by decide +kernel
theorem d53_6 : own_D own_k53 6 (.iushr) 1 := by decide +kernel
theorem d53_7 : own_D own_k53 7 (.i2b) 1 := by decide +kernel
theorem d53_8 : own_D own_k53 8 (.ireturn) 1 := by decide +kernel
theorem ef_own_rm53 (m : MethodId) (a1 : Addr) (p1 : Int32) : entryFrame m #[(.ref a1), (.int p1)] 2 = mkF m 0 #[own_r a1, own_i p1] [] := by first | (simp [entryFrame, mkF, argsToLocals, Value.category]; done) | rfl
def own_rm53_Q (Z : State) (a1 : Addr) (p1 : Int32) (LL : List Value) (h0 : Heap) (n0 : Nat) (v : Option Value) (h : Heap) (L : List Loc) : Prop := v = some (.int ((0 : Int32))) ∧ Fr n0 L ∧ h = h0
set_option maxRecDepth 65536 in
set_option maxHeartbeats 40000000 in
theorem own_rm53 (l : Launch) (Z : State) (a0 : Array Value) (hw : own_H a0 Z) (ws : List Jvm.Cond) (a1 : Addr) (p1 : Int32) (LL : List Value) (h0 : Heap) (n0 : Nat) (Z0 : n0 ≤ h0.size) (A_a1 : own_Ar Z h0 a1 .byte LL) (hp1 : LL.length.toInt32 = p1) : own_M l Z ws own_n2 own_k53 2 (some .byte) (own_R 0 0 0 0) #[(.ref a1), (.int p1)] h0 (own_rm53_Q Z a1 p1 LL h0 n0) := by
  refine own_open n0 "java/lang/StringUTF16" rfl (plainFor_of_name own_pn0) (fun m => ef_own_rm53 m a1 p1) ?_
  intro p e s m below meth c s₁ hx hby hml hZ hown hnm hlk hrt X0 e0 N0
  have K0 := Keep.refl h0 []
  refine own_s s₁ m 4 #[own_r a1, own_i p1] [.int (p1 - p1)] (fun t k => XS.iloadN X0.here hx rfl (hb hby d53_0) rfl (XS.aloadN X0.here hx rfl (hb hby d53_1) rfl (rfl) (own_len X0 hx hZ e0 A_a1 (n := p1) hp1 (g := (mkF m 2 #[own_r a1, own_i p1] [.ref a1, .int p1])) rfl rfl (hb hby d53_2) _ (XS.isub X0.here hx rfl (hb hby d53_3) rfl k)))) ?_
  rw [Int32.sub_self]
  refine own_s s₁ m 7 #[own_r a1, own_i p1] [.int (((0 : Int32).toUInt32 >>> ((31 : Int32) &&& 31).toUInt32).toInt32)] (fun t k => XS.bipush X0.here hx rfl (hb hby d53_4) (XS.iushr X0.here hx rfl (hb hby d53_6) rfl k)) ?_
  rw [show (((0 : Int32).toUInt32 >>> ((31 : Int32) &&& 31).toUInt32).toInt32) = (0 : Int32) from by decide]
  refine own_s s₁ m 8 #[own_r a1, own_i p1] [.int ((0 : Int32).toInt8.toInt32)] (fun t k => XT.i2b X0.here hx rfl (hb hby d53_7) rfl k) ?_
  rw [show ((0 : Int32).toInt8.toInt32) = (0 : Int32) from by decide]
  exact own_retB X0 hx hlk (t := .byte) hrt (by simp) (hb hby d53_8) ⟨rfl, N0, e0⟩ (by decide) (by decide)
theorem own_lnz {n : Nat} (h : 0 < n) (hl : n < 2147483648) : ¬ n.toInt32 = 0 := fun q => by
  have := congrArg Int32.toInt q
  rw [len_toInt (by omega)] at this
  have z : (0 : Int32).toInt = 0 := rfl
  omega
theorem own_pn1 : plainName "java/lang/String" = true := by first | (simp [plainName, overriddenIn]; done) | decide +kernel
theorem own_pd1 : parseMethodDescriptor "([CII)[B" = some ⟨[(.array .char), .int, .int], some (.array .byte)⟩ := by decide +kernel
theorem own_pd2 : parseMethodDescriptor "([BI)B" = some ⟨[(.array .byte), .int], some .byte⟩ := by decide +kernel
abbrev own_k3 := jdk_42_method_149_code
abbrev own_n3 : MethodName := ⟨"java/lang/String", "<init>", "([CIILjava/lang/Void;)V"⟩
theorem d3_0 : own_D own_k3 0 (.aload_n 0) 1 := by decide +kernel
theorem d3_1 : own_D own_k3 1 (.invokespecial 1) 3 := by decide +kernel
theorem d3_4 : own_D own_k3 4 (.iload_n 3) 1 := by decide +kernel
theorem d3_5 : own_D own_k3 5 (.ifCond .ne 22) 3 := by decide +kernel
theorem d3_27 : own_D own_k3 27 (.getstatic 38) 3 := by decide +kernel
theorem d3_30 : own_D own_k3 30 (.ifCond .eq 28) 3 := by decide +kernel
theorem d3_33 : own_D own_k3 33 (.aload_n 1) 1 := by decide +kernel
theorem d3_34 : own_D own_k3 34 (.iload_n 2) 1 := by decide +kernel
theorem d3_35 : own_D own_k3 35 (.iload_n 3) 1 := by decide +kernel
theorem d3_36 : own_D own_k3 36 (.invokestatic 177) 3 := by decide +kernel
theorem d3_39 : own_D own_k3 39 (.astore 5) 2 := by decide +kernel
theorem d3_41 : own_D own_k3 41 (.aload_n 0) 1 := by decide +kernel
theorem d3_42 : own_D own_k3 42 (.aload 5) 2 := by decide +kernel
theorem d3_44 : own_D own_k3 44 (.iload_n 3) 1 := by decide +kernel
theorem d3_45 : own_D own_k3 45 (.invokestatic 47) 3 := by decide +kernel
theorem d3_48 : own_D own_k3 48 (.putfield 15) 3 := by decide +kernel
theorem d3_51 : own_D own_k3 51 (.aload_n 0) 1 := by decide +kernel
theorem d3_52 : own_D own_k3 52 (.aload 5) 2 := by decide +kernel
theorem d3_54 : own_D own_k3 54 (.putfield 9) 3 := by decide +kernel
theorem d3_57 : own_D own_k3 57 (.return_) 1 := by decide +kernel
theorem ef_own_rm3 (m : MethodId) (a1 : Addr) (a2 : Addr) (p1 : Int32) (p2 : Int32) : entryFrame m #[(.ref a1), (.ref a2), (.int p1), (.int p2), .null] 6 = mkF m 0 #[own_r a1, own_r a2, own_i p1, own_i p2, .val .null, .unset] [] := by first | (simp [entryFrame, mkF, argsToLocals, Value.category]; done) | rfl
def own_rm3_Q (Z : State) (a1 : Addr) (a2 : Addr) (p1 : Int32) (p2 : Int32) (cs : Int32) (CC : List Int32) (h0 : Heap) (n0 : Nat) (v : Option Value) (h : Heap) (L : List Loc) : Prop := v = none ∧ Fr n0 L ∧ Keep h0 h [a1] ∧ Exa Z h a1 "java/lang/String" ∧ Fld Z h a1 "java/lang/String" "coder" "B" (.int 0) ∧ ∃ d : Addr, h0.size ≤ d ∧ Fld Z h a1 "java/lang/String" "value" "[B" (.ref d) ∧ own_Ar Z h d .byte ((CC.map own_b8).map Value.int)
set_option maxRecDepth 65536 in
set_option maxHeartbeats 40000000 in
theorem own_rm3 (l : Launch) (Z : State) (a0 : Array Value) (hw : own_H a0 Z) (ws : List Jvm.Cond) (a1 a2 : Addr) (p1 p2 cs : Int32) (CC : List Int32) (h0 : Heap) (n0 : Nat) (Z0 : n0 ≤ h0.size) (CS : Sta Z h0 "java/lang/String" "COMPACT_STRINGS" "Z" (.int cs)) (hcs : ¬ cs = 0) (E_a1 : Exa Z h0 a1 "java/lang/String") (Fc : Fld Z h0 a1 "java/lang/String" "coder" "B" (.int 0)) (Fv : Fld Z h0 a1 "java/lang/String" "value" "[B" .null) (A_a2 : own_Ar Z h0 a2 .char (CC.map Value.int)) (hne : a1 ≠ a2) (hpos : 0 < CC.length) (hlC : CC.length < 2147483648) (hcap : CC.length ≤ 3) (hch : ∀ c ∈ CC, ¬ (255 : Int32) < c) (g_a1 : n0 ≤ a1) (hp1 : p1 = 0) (hp2 : p2 = CC.length.toInt32) : own_M l Z ws own_n3 own_k3 6 none (own_R 2 1 3 35) #[(.ref a1), (.ref a2), (.int p1), (.int p2), .null] h0 (own_rm3_Q Z a1 a2 p1 p2 cs CC h0 n0) := by
  refine own_open n0 "java/lang/String" rfl (plainFor_of_name own_pn1) (fun m => ef_own_rm3 m a1 a2 p1 p2) ?_
  intro p e s m below meth c s₁ hx hby hml hZ hown hnm hlk hrt X0 e0 N0
  have K0 := Keep.refl h0 [a1]
  subst hp1 hp2
  refine own_s s₁ m 1 #[own_r a1, own_r a2, own_i 0, own_i CC.length.toInt32, .val .null, .unset] [.ref a1] (fun t k => XS.aloadN X0.here hx rfl (hb hby d3_0) rfl (rfl) k) ?_
  obtain ⟨T101, X101, e101, st101⟩ := initO X0 hx hZ hown (own_w hw 15 rfl) (own_w hw 16 rfl) (own_w hw 17 rfl) e0 (g := (mkF m 1 #[own_r a1, own_r a2, own_i 0, own_i CC.length.toInt32, .val .null, .unset] [.ref a1])) rfl (by rw [hml]; rfl) rfl (hb hby d3_1) (by decide) (W := 0) (by exact own_ca rfl) (by decide)
  refine own_s T101 m 27 #[own_r a1, own_r a2, own_i 0, own_i CC.length.toInt32, .val .null, .unset] [] (fun t k => st101 _ (XS.iloadN X101.here hx rfl (hb hby d3_4) rfl (XS.ifYes X101.here hx rfl (pc0 := 5) (pc' := 27) rfl (hb hby d3_5) rfl (XT.i0_ne_t (own_lnz hpos hlC)) (by decide) (by decide) k))) ?_
  obtain ⟨T102, X102, e102, st102⟩ := getS X101 hx hZ hown (host := "") (own_w hw 29 rfl) Via.refl e101 CS (g := (mkF m 27 #[own_r a1, own_r a2, own_i 0, own_i CC.length.toInt32, .val .null, .unset] [])) rfl (hb hby d3_27)
  refine own_s T102 m 35 #[own_r a1, own_r a2, own_i 0, own_i CC.length.toInt32, .val .null, .unset] [.int 0, .ref a2] (fun t k => st102 _ (XS.ifNo X102.here hx rfl (hb hby d3_30) rfl (XT.i0_eq_f hcs) (XS.aloadN X102.here hx rfl (hb hby d3_33) rfl (rfl) (XS.iloadN X102.here hx rfl (hb hby d3_34) rfl k)))) ?_
  refine own_s T102 m 36 #[own_r a1, own_r a2, own_i 0, own_i CC.length.toInt32, .val .null, .unset] [.int CC.length.toInt32, .int 0, .ref a2] (fun t k => XS.iloadN X102.here hx rfl (hb hby d3_35) rfl k) ?_
  obtain ⟨v103, _, ⟨T103, L103, k103, n103⟩, -, X103, ⟨Lc103, hQ103, l103, y103, z103⟩, st103⟩ := Jvm.LawKit.callS X102 hx (y := own_n1) hown (mvT hZ (own_w hw 270 rfl)) (mvT hZ (own_w hw 271 rfl)) (mvT hZ (own_w hw 272 rfl)) (mvT hZ (own_w hw 273 rfl)) (by decide) (backOf (W := 0) (own_rm51 l Z a0 hw [] a2 (0 : Int32) CC.length.toInt32 CC h0 n0 (Nat.le_trans Z0 K0.1) A_a2 rfl rfl hlC hcap hch) hZ (own_w hw 273 rfl) (own_w hw 272 rfl) (by decide) (by decide)) (g := (mkF m 36 #[own_r a1, own_r a2, own_i 0, own_i CC.length.toInt32, .val .null, .unset] [.int CC.length.toInt32, .int 0, .ref a2])) rfl (by rw [hml]; rfl) (argsL := [.ref a2, .int 0, .int CC.length.toInt32]) (rest := []) (lenOf own_pd1 rfl) rfl (by exact own_ca rfl) (hb hby d3_36) (fun _ _ => ⟨rfl, e102, (by decide : 0 + 1 ≤ _), (by decide : 0 + 3 ≤ _)⟩)
  dsimp only [Pt.U, Pt.locs, Pt.cells, Pt.slots] at X103 l103 y103 z103 st103 hQ103
  subst l103 y103 z103
  obtain ⟨b103, rfl, N103q, szq103, K103, V103⟩ := hQ103
  have ne_a1_b103 := own_ne E_a1.lt szq103
  have ne_a2_b103 := own_ne A_a2.lt szq103
  have Kc103 : Keep h0 T103.heap [a1] := K0.trans K103 all0
  have sz_b103 : h0.size ≤ b103 := Nat.le_trans K0.1 szq103
  have N103 := Fr.app N0 N103q
  refine own_s T103 m 44 #[own_r a1, own_r a2, own_i 0, own_i CC.length.toInt32, .val .null, own_r b103] [.ref b103, .ref a1] (fun t k => st103 _ (XS.astore X103.here hx rfl (hb hby d3_39) rfl (rfl) (l' := #[own_r a1, own_r a2, own_i 0, own_i CC.length.toInt32, .val .null, own_r b103]) rfl (XS.aloadN X103.here hx rfl (hb hby d3_41) rfl (rfl) (XS.aload X103.here hx rfl (hb hby d3_42) rfl (rfl) k)))) ?_
  refine own_s T103 m 45 #[own_r a1, own_r a2, own_i 0, own_i CC.length.toInt32, .val .null, own_r b103] [.int CC.length.toInt32, .ref b103, .ref a1] (fun t k => XS.iloadN X103.here hx rfl (hb hby d3_44) rfl k) ?_
  obtain ⟨v104, _, ⟨T104, L104, k104, n104⟩, -, X104, ⟨Lc104, hQ104, l104, y104, z104⟩, st104⟩ := Jvm.LawKit.callS X103 hx (y := own_n2) hown (mvT hZ (own_w hw 277 rfl)) (mvT hZ (own_w hw 278 rfl)) (mvT hZ (own_w hw 272 rfl)) (mvT hZ (own_w hw 279 rfl)) (by decide) (backOf (W := 1) (own_rm53 l Z a0 hw [] b103 CC.length.toInt32 ((CC.map own_b8).map Value.int) T103.heap n0 (Nat.le_trans Z0 Kc103.1) V103 (by simp only [List.length_map])) hZ (own_w hw 279 rfl) (own_w hw 272 rfl) (by decide) (by decide)) (g := (mkF m 45 #[own_r a1, own_r a2, own_i 0, own_i CC.length.toInt32, .val .null, own_r b103] [.int CC.length.toInt32, .ref b103, .ref a1])) rfl (by rw [hml]; rfl) (argsL := [.ref b103, .int CC.length.toInt32]) (rest := [.ref a1]) (lenOf own_pd2 rfl) rfl (by exact own_ca rfl) (hb hby d3_45) (fun _ _ => ⟨rfl, rfl, (by decide : 1 + 0 ≤ _), (by decide : 3 + 0 ≤ _)⟩)
  dsimp only [Pt.U, Pt.locs, Pt.cells, Pt.slots] at X104 l104 y104 z104 st104 hQ104
  subst l104 y104 z104
  obtain ⟨rfl, N104q, e104⟩ := hQ104
  have N104 := Fr.app N103 N104q
  refine own_s T104 m 48 #[own_r a1, own_r a2, own_i 0, own_i CC.length.toInt32, .val .null, own_r b103] [.int 0, .ref a1] (fun t k => st104 _ k) ?_
  obtain ⟨T105, h105, X105, e105, W105, st105⟩ := putFN X104 hx hZ hown (own_w hw 25 rfl) Via.refl e104 (Fc.keep K103 nin0) (E_a1.keep K103) (Or.inr ⟨(own_w hw 21 rfl), rfl, hnm⟩) (own_w hw 5 rfl) (ty := .byte) (v' := (.int 0)) (by decide) rfl rfl (g := (mkF m 48 #[own_r a1, own_r a2, own_i 0, own_i CC.length.toInt32, .val .null, own_r b103] [.int 0, .ref a1])) rfl rfl (hb hby d3_48)
  have F105 : Fld Z h105 a1 "java/lang/String" "coder" "B" (.int 0) := (Fc.keep K103 nin0).same W105
  have Kc105 : Keep h0 h105 [a1] := Kc103.wr W105 (Or.inl (List.mem_of_getElem? (i := 0) rfl))
  have N105 := Fr.snoc X105 N104 g_a1
  refine own_s T105 m 54 #[own_r a1, own_r a2, own_i 0, own_i CC.length.toInt32, .val .null, own_r b103] [.ref b103, .ref a1] (fun t k => st105 _ (XS.aloadN X105.here hx rfl (hb hby d3_51) rfl (rfl) (XS.aload X105.here hx rfl (hb hby d3_52) rfl (rfl) k))) ?_
  obtain ⟨T106, h106, X106, e106, W106, st106⟩ := putF X105 hx hZ hown (host := "") (Or.inl (own_w hw 24 rfl)) Via.refl e105 ((Fv.keep K103 nin0).other W105 (Or.inr (slot_ne (Or.inr (own_w hw 20 rfl)) (Or.inr (own_w hw 21 rfl)) (by decide) (t := (.array .byte)) (t' := .byte) (by decide) (by decide)))) ((E_a1.keep K103).wr W105) (Or.inr ⟨(own_w hw 20 rfl), rfl, hnm⟩) (own_w hw 5 rfl) (ty := (.array .byte)) (by decide) rfl rfl (g := (mkF m 54 #[own_r a1, own_r a2, own_i 0, own_i CC.length.toInt32, .val .null, own_r b103] [.ref b103, .ref a1])) rfl rfl (hb hby d3_54)
  have F106 : Fld Z h106 a1 "java/lang/String" "value" "[B" (.ref b103) := ((Fv.keep K103 nin0).other W105 (Or.inr (slot_ne (Or.inr (own_w hw 20 rfl)) (Or.inr (own_w hw 21 rfl)) (by decide) (t := (.array .byte)) (t' := .byte) (by decide) (by decide)))).same W106
  have Kc106 : Keep h0 h106 [a1] := Kc105.wr W106 (Or.inl (List.mem_of_getElem? (i := 0) rfl))
  have N106 := Fr.snoc X106 N105 g_a1
  refine own_s T106 m 57 #[own_r a1, own_r a2, own_i 0, own_i CC.length.toInt32, .val .null, own_r b103] [] (fun t k => st106 _ k) ?_
  have eE : T106.heap = h106 := e106
  exact own_retV X106 hx hlk hrt (hb hby d3_57) ⟨rfl, N106, (by rw [eE]; exact Kc106), (by rw [eE]; exact (((E_a1.keep K103).wr W105).wr W106)), (by rw [eE]; exact (F105.other W106 (Or.inr (slot_ne (Or.inr (own_w hw 21 rfl)) (Or.inr (own_w hw 20 rfl)) (by decide) (t := .byte) (t' := (.array .byte)) (by decide) (by decide))))), b103, sz_b103, (by rw [eE]; exact F106), (by rw [eE]; exact ((V103.other W105 (Ne.symm ne_a1_b103)).other W106 (Ne.symm ne_a1_b103)))⟩ (by decide) (by decide)
theorem own_pd3 : parseMethodDescriptor "([CIILjava/lang/Void;)V" = some ⟨[(.array .char), .int, .int, (.object "java/lang/Void")], none⟩ := by decide +kernel
abbrev own_k2 := jdk_42_method_3_code
abbrev own_n4 : MethodName := ⟨"java/lang/String", "<init>", "([C)V"⟩
theorem d2_0 : own_D own_k2 0 (.aload_n 0) 1 := by decide +kernel
theorem d2_1 : own_D own_k2 1 (.aload_n 1) 1 := by decide +kernel
theorem d2_2 : own_D own_k2 2 (.iconst 0) 1 := by decide +kernel
theorem d2_3 : own_D own_k2 3 (.aload_n 1) 1 := by decide +kernel
theorem d2_4 : own_D own_k2 4 (.arraylength) 1 := by decide +kernel
theorem d2_5 : own_D own_k2 5 (.aconst_null) 1 := by decide +kernel
theorem d2_6 : own_D own_k2 6 (.invokespecial 27) 3 := by decide +kernel
theorem d2_9 : own_D own_k2 9 (.return_) 1 := by decide +kernel
theorem ef_own_newS (m : MethodId) (a1 : Addr) (a2 : Addr) : entryFrame m #[(.ref a1), (.ref a2)] 2 = mkF m 0 #[own_r a1, own_r a2] [] := by first | (simp [entryFrame, mkF, argsToLocals, Value.category]; done) | rfl
def own_newS_Q (Z : State) (a1 : Addr) (a2 : Addr) (cs : Int32) (CC : List Int32) (h0 : Heap) (n0 : Nat) (v : Option Value) (h : Heap) (L : List Loc) : Prop := v = none ∧ Fr n0 L ∧ Keep h0 h [a1] ∧ Exa Z h a1 "java/lang/String" ∧ Fld Z h a1 "java/lang/String" "coder" "B" (.int 0) ∧ ∃ d : Addr, h0.size ≤ d ∧ Fld Z h a1 "java/lang/String" "value" "[B" (.ref d) ∧ own_Ar Z h d .byte ((CC.map own_b8).map Value.int)
set_option maxRecDepth 65536 in
set_option maxHeartbeats 40000000 in
theorem own_newS (l : Launch) (Z : State) (a0 : Array Value) (hw : own_H a0 Z) (ws : List Jvm.Cond) (a1 a2 : Addr) (cs : Int32) (CC : List Int32) (h0 : Heap) (n0 : Nat) (Z0 : n0 ≤ h0.size) (CS : Sta Z h0 "java/lang/String" "COMPACT_STRINGS" "Z" (.int cs)) (hcs : ¬ cs = 0) (E_a1 : Exa Z h0 a1 "java/lang/String") (Fc : Fld Z h0 a1 "java/lang/String" "coder" "B" (.int 0)) (Fv : Fld Z h0 a1 "java/lang/String" "value" "[B" .null) (A_a2 : own_Ar Z h0 a2 .char (CC.map Value.int)) (hne : a1 ≠ a2) (hpos : 0 < CC.length) (hlC : CC.length < 2147483648) (hcap : CC.length ≤ 3) (hch : ∀ c ∈ CC, ¬ (255 : Int32) < c) (g_a1 : n0 ≤ a1) : own_M l Z ws own_n4 own_k2 2 none (own_R 3 1 3 52) #[(.ref a1), (.ref a2)] h0 (own_newS_Q Z a1 a2 cs CC h0 n0) := by
  refine own_open n0 "java/lang/String" rfl (plainFor_of_name own_pn1) (fun m => ef_own_newS m a1 a2) ?_
  intro p e s m below meth c s₁ hx hby hml hZ hown hnm hlk hrt X0 e0 N0
  have K0 := Keep.refl h0 [a1]
  refine own_s s₁ m 4 #[own_r a1, own_r a2] [.ref a2, .int 0, .ref a2, .ref a1] (fun t k => XS.aloadN X0.here hx rfl (hb hby d2_0) rfl (rfl) (XS.aloadN X0.here hx rfl (hb hby d2_1) rfl (rfl) (XS.iconst X0.here hx rfl (hb hby d2_2) (XS.aloadN X0.here hx rfl (hb hby d2_3) rfl (rfl) k)))) ?_
  refine own_s s₁ m 6 #[own_r a1, own_r a2] [.null, .int CC.length.toInt32, .int 0, .ref a2, .ref a1] (fun t k => own_len X0 hx hZ e0 A_a2 (n := CC.length.toInt32) (by rw [List.length_map]) (g := (mkF m 4 #[own_r a1, own_r a2] [.ref a2, .int 0, .ref a2, .ref a1])) rfl rfl (hb hby d2_4) _ (XS.aconstNull X0.here hx rfl (hb hby d2_5) k)) ?_
  obtain ⟨v101, _, ⟨T101, L101, k101, n101⟩, -, X101, ⟨Lc101, hQ101, l101, y101, z101⟩, st101⟩ := X0.specialBack hx (y := own_n3) rfl hown (mvT hZ (own_w hw 11 rfl)) (mvT hZ (own_w hw 12 rfl)) (mvT hZ (own_w hw 14 rfl)) (by decide) (backOf (W := 0) (own_rm3 l Z a0 hw [] a1 a2 (0 : Int32) CC.length.toInt32 cs CC h0 n0 (Nat.le_trans Z0 K0.1) CS hcs E_a1 Fc Fv A_a2 hne hpos hlC hcap hch g_a1 rfl rfl) hZ (own_w hw 14 rfl) (own_w hw 6 rfl) (by decide) (by decide)) (g := (mkF m 6 #[own_r a1, own_r a2] [.null, .int CC.length.toInt32, .int 0, .ref a2, .ref a1])) rfl (by rw [hml]; rfl) (Steps.refl _) (a := a1) (argsL := [.ref a2, .int 0, .int CC.length.toInt32, .null]) (rest := []) (lenOf own_pd3 rfl) rfl (by exact own_ca rfl) (hb hby d2_6) (fun _ _ => ⟨rfl, e0, (by decide : 0 + 1 ≤ _), (by decide : 0 + 3 ≤ _)⟩)
  dsimp only [Pt.U, Pt.locs, Pt.cells, Pt.slots] at X101 l101 y101 z101 st101 hQ101
  subst l101 y101 z101
  obtain ⟨rfl, N101q, K101, A101, Fc101, d101, szq101, Fv101, V101⟩ := hQ101
  have ne_a1_d101 := own_ne E_a1.lt szq101
  have ne_a2_d101 := own_ne A_a2.lt szq101
  have ns101 := (own_nsS (own_nsE E_a1) own_ns0)
  have Kc101 : Keep h0 T101.heap [a1] := K0.trans K101 (allS (Or.inl (List.mem_of_getElem? (i := 0) rfl)) all0)
  have sz_d101 : h0.size ≤ d101 := Nat.le_trans K0.1 szq101
  have N101 := Fr.app N0 N101q
  refine own_s T101 m 9 #[own_r a1, own_r a2] [] (fun t k => st101.trans k) ?_
  have eE : T101.heap = T101.heap := rfl
  exact own_retV X101 hx hlk hrt (hb hby d2_9) ⟨rfl, N101, (by rw [eE]; exact Kc101), (by rw [eE]; exact A101), (by rw [eE]; exact Fc101), d101, sz_d101, (by rw [eE]; exact Fv101), (by rw [eE]; exact V101)⟩ (by decide) (by decide)
abbrev own_k15 := jdk_42_method_152_code
abbrev own_n5 : MethodName := ⟨"java/lang/String", "coder", "()B"⟩
theorem d15_0 : own_D own_k15 0 (.getstatic 38) 3 := by decide +kernel
theorem d15_3 : own_D own_k15 3 (.ifCond .eq 10) 3 := by decide +kernel
theorem d15_6 : own_D own_k15 6 (.aload_n 0) 1 := by decide +kernel
theorem d15_7 : own_D own_k15 7 (.getfield 15) 3 := by decide +kernel
theorem d15_10 : own_D own_k15 10 (.goto 4) 3 := by decide +kernel
theorem d15_14 : own_D own_k15 14 (.ireturn) 1 := by decide +kernel
theorem ef_own_rm15 (m : MethodId) (a1 : Addr) : entryFrame m #[(.ref a1)] 1 = mkF m 0 #[own_r a1] [] := by first | (simp [entryFrame, mkF, argsToLocals, Value.category]; done) | rfl
def own_rm15_Q (Z : State) (a1 : Addr) (cs : Int32) (h0 : Heap) (n0 : Nat) (v : Option Value) (h : Heap) (L : List Loc) : Prop := v = some (.int ((0 : Int32))) ∧ Fr n0 L ∧ h = h0
set_option maxRecDepth 65536 in
set_option maxHeartbeats 40000000 in
theorem own_rm15 (l : Launch) (Z : State) (a0 : Array Value) (hw : own_H a0 Z) (ws : List Jvm.Cond) (a1 : Addr) (cs : Int32) (h0 : Heap) (n0 : Nat) (Z0 : n0 ≤ h0.size) (CS : Sta Z h0 "java/lang/String" "COMPACT_STRINGS" "Z" (.int cs)) (hcs : ¬ cs = 0) (Fc : Fld Z h0 a1 "java/lang/String" "coder" "B" (.int 0)) : own_M l Z ws own_n5 own_k15 1 (some .byte) (own_R 0 0 0 0) #[(.ref a1)] h0 (own_rm15_Q Z a1 cs h0 n0) := by
  refine own_open n0 "java/lang/String" rfl (plainFor_of_name own_pn1) (fun m => ef_own_rm15 m a1) ?_
  intro p e s m below meth c s₁ hx hby hml hZ hown hnm hlk hrt X0 e0 N0
  have K0 := Keep.refl h0 []
  obtain ⟨T101, X101, e101, st101⟩ := getS X0 hx hZ hown (host := "") (own_w hw 29 rfl) Via.refl e0 CS (g := (mkF m 0 #[own_r a1] [])) rfl (hb hby d15_0)
  refine own_s T101 m 7 #[own_r a1] [.ref a1] (fun t k => st101 _ (XS.ifNo X101.here hx rfl (hb hby d15_3) rfl (XT.i0_eq_f hcs) (XS.aloadN X101.here hx rfl (hb hby d15_6) rfl (rfl) k))) ?_
  obtain ⟨T102, X102, e102, st102⟩ := getF X101 hx hZ hown (host := "") (Or.inl (own_w hw 25 rfl)) Via.refl e101 Fc (g := (mkF m 7 #[own_r a1] [.ref a1])) rfl rfl (hb hby d15_7)
  refine own_s T102 m 14 #[own_r a1] [.int 0] (fun t k => st102 _ (XS.goto X102.here hx rfl (pc0 := 10) (pc' := 14) rfl (hb hby d15_10) (by decide) (by decide) k)) ?_
  exact own_retB X102 hx hlk (t := .byte) hrt (by simp) (hb hby d15_14) ⟨rfl, N0, e102⟩ (by decide) (by decide)
abbrev own_k16 := jdk_42_method_154_code
abbrev own_n6 : MethodName := ⟨"java/lang/String", "isLatin1", "()Z"⟩
theorem d16_0 : own_D own_k16 0 (.getstatic 38) 3 := by decide +kernel
theorem d16_3 : own_D own_k16 3 (.ifCond .eq 14) 3 := by decide +kernel
theorem d16_6 : own_D own_k16 6 (.aload_n 0) 1 := by decide +kernel
theorem d16_7 : own_D own_k16 7 (.getfield 15) 3 := by decide +kernel
theorem d16_10 : own_D own_k16 10 (.ifCond .ne 7) 3 := by decide +kernel
theorem d16_13 : own_D own_k16 13 (.iconst 1) 1 := by decide +kernel
theorem d16_14 : own_D own_k16 14 (.goto 4) 3 := by decide +kernel
theorem d16_18 : own_D own_k16 18 (.ireturn) 1 := by decide +kernel
theorem ef_own_rm16 (m : MethodId) (a1 : Addr) : entryFrame m #[(.ref a1)] 1 = mkF m 0 #[own_r a1] [] := by first | (simp [entryFrame, mkF, argsToLocals, Value.category]; done) | rfl
def own_rm16_Q (Z : State) (a1 : Addr) (cs : Int32) (h0 : Heap) (n0 : Nat) (v : Option Value) (h : Heap) (L : List Loc) : Prop := v = some (.int ((1 : Int32))) ∧ Fr n0 L ∧ h = h0
set_option maxRecDepth 65536 in
set_option maxHeartbeats 40000000 in
theorem own_rm16 (l : Launch) (Z : State) (a0 : Array Value) (hw : own_H a0 Z) (ws : List Jvm.Cond) (a1 : Addr) (cs : Int32) (h0 : Heap) (n0 : Nat) (Z0 : n0 ≤ h0.size) (CS : Sta Z h0 "java/lang/String" "COMPACT_STRINGS" "Z" (.int cs)) (hcs : ¬ cs = 0) (Fc : Fld Z h0 a1 "java/lang/String" "coder" "B" (.int 0)) : own_M l Z ws own_n6 own_k16 1 (some .boolean) (own_R 0 0 0 0) #[(.ref a1)] h0 (own_rm16_Q Z a1 cs h0 n0) := by
  refine own_open n0 "java/lang/String" rfl (plainFor_of_name own_pn1) (fun m => ef_own_rm16 m a1) ?_
  intro p e s m below meth c s₁ hx hby hml hZ hown hnm hlk hrt X0 e0 N0
  have K0 := Keep.refl h0 []
  obtain ⟨T101, X101, e101, st101⟩ := getS X0 hx hZ hown (host := "") (own_w hw 29 rfl) Via.refl e0 CS (g := (mkF m 0 #[own_r a1] [])) rfl (hb hby d16_0)
  refine own_s T101 m 7 #[own_r a1] [.ref a1] (fun t k => st101 _ (XS.ifNo X101.here hx rfl (hb hby d16_3) rfl (XT.i0_eq_f hcs) (XS.aloadN X101.here hx rfl (hb hby d16_6) rfl (rfl) k))) ?_
  obtain ⟨T102, X102, e102, st102⟩ := getF X101 hx hZ hown (host := "") (Or.inl (own_w hw 25 rfl)) Via.refl e101 Fc (g := (mkF m 7 #[own_r a1] [.ref a1])) rfl rfl (hb hby d16_7)
  refine own_s T102 m 18 #[own_r a1] [.int 1] (fun t k => st102 _ (XS.ifNo X102.here hx rfl (hb hby d16_10) rfl (XT.i0_ne_f (by decide)) (XS.iconst X102.here hx rfl (hb hby d16_13) (XS.goto X102.here hx rfl (pc0 := 14) (pc' := 18) rfl (hb hby d16_14) (by decide) (by decide) k)))) ?_
  exact own_retB X102 hx hlk (t := .boolean) hrt (by simp) (hb hby d16_18) ⟨rfl, N0, e102⟩ (by decide) (by decide)
theorem own_shr0 (x : Int32) : x >>> ((0 : Int32) &&& 31) = x := by
  apply Int32.toInt_inj.mp
  rw [c_ishr x 0 0 (by decide)]; simp

theorem own_pd4 : parseMethodDescriptor "()B" = some ⟨[], some .byte⟩ := by decide +kernel
abbrev own_k22 := jdk_42_method_54_code
abbrev own_n7 : MethodName := ⟨"java/lang/String", "length", "()I"⟩
theorem d22_0 : own_D own_k22 0 (.aload_n 0) 1 := by decide +kernel
theorem d22_1 : own_D own_k22 1 (.getfield 9) 3 := by decide +kernel
theorem d22_4 : own_D own_k22 4 (.arraylength) 1 := by decide +kernel
theorem d22_5 : own_D own_k22 5 (.aload_n 0) 1 := by decide +kernel
theorem d22_6 : own_D own_k22 6 (.invokevirtual 335) 3 := by decide +kernel
theorem d22_9 : own_D own_k22 9 (.ishr) 1 := by decide +kernel
theorem d22_10 : own_D own_k22 10 (.ireturn) 1 := by decide +kernel
theorem ef_own_rm22 (m : MethodId) (a1 : Addr) : entryFrame m #[(.ref a1)] 1 = mkF m 0 #[own_r a1] [] := by first | (simp [entryFrame, mkF, argsToLocals, Value.category]; done) | rfl
def own_rm22_Q (Z : State) (a1 : Addr) (cs : Int32) (b1 : Addr) (LL : List Value) (h0 : Heap) (n0 : Nat) (v : Option Value) (h : Heap) (L : List Loc) : Prop := v = some (.int (LL.length.toInt32)) ∧ Fr n0 L ∧ h = h0
set_option maxRecDepth 65536 in
set_option maxHeartbeats 40000000 in
theorem own_rm22 (l : Launch) (Z : State) (a0 : Array Value) (hw : own_H a0 Z) (ws : List Jvm.Cond) (a1 : Addr) (cs : Int32) (b1 : Addr) (LL : List Value) (h0 : Heap) (n0 : Nat) (Z0 : n0 ≤ h0.size) (CS : Sta Z h0 "java/lang/String" "COMPACT_STRINGS" "Z" (.int cs)) (hcs : ¬ cs = 0) (Fc : Fld Z h0 a1 "java/lang/String" "coder" "B" (.int 0)) (Fv : Fld Z h0 a1 "java/lang/String" "value" "[B" (.ref b1)) (Ab : own_Ar Z h0 b1 .byte LL) (Es : Exa Z h0 a1 "java/lang/String") : own_M l Z ws own_n7 own_k22 1 (some .int) (own_R 1 0 0 13) #[(.ref a1)] h0 (own_rm22_Q Z a1 cs b1 LL h0 n0) := by
  refine own_open n0 "java/lang/String" rfl (plainFor_of_name own_pn1) (fun m => ef_own_rm22 m a1) ?_
  intro p e s m below meth c s₁ hx hby hml hZ hown hnm hlk hrt X0 e0 N0
  have K0 := Keep.refl h0 []
  refine own_s s₁ m 1 #[own_r a1] [.ref a1] (fun t k => XS.aloadN X0.here hx rfl (hb hby d22_0) rfl (rfl) k) ?_
  obtain ⟨T101, X101, e101, st101⟩ := getF X0 hx hZ hown (host := "") (Or.inl (own_w hw 24 rfl)) Via.refl e0 Fv (g := (mkF m 1 #[own_r a1] [.ref a1])) rfl rfl (hb hby d22_1)
  refine own_s T101 m 6 #[own_r a1] [.ref a1, .int LL.length.toInt32] (fun t k => st101 _ (own_len X101 hx hZ e101 Ab (n := LL.length.toInt32) rfl (g := (mkF m 4 #[own_r a1] [.ref b1])) rfl rfl (hb hby d22_4) _ (XS.aloadN X101.here hx rfl (hb hby d22_5) rfl (rfl) k))) ?_
  obtain ⟨cq102, kq102, q102a, q102b, q102c⟩ := isOf hZ e101 Es
  obtain ⟨v102, _, ⟨T102, L102, k102, n102⟩, -, X102, ⟨Lc102, hQ102, l102, y102, z102⟩, st102⟩ := X101.virtualBack hx (y := own_n5) (z := own_n5) hown (mvT hZ (own_w hw 90 rfl)) (mvT hZ (own_w hw 91 rfl)) (notFace_of_selects (args := #[]) (mvT hZ (own_w hw 93 rfl))) (mvT hZ (own_w hw 93 rfl)) (mvT hZ (own_w hw 92 rfl)) (by decide) (backOf (W := 1) (own_rm15 l Z a0 hw [] a1 cs h0 n0 (Nat.le_trans Z0 K0.1) CS hcs Fc) hZ (own_w hw 94 rfl) (own_w hw 6 rfl) (by decide) (by decide)) q102a q102c (g := (mkF m 6 #[own_r a1] [.ref a1, .int LL.length.toInt32])) rfl (by rw [hml]; rfl) (Steps.refl _) (argsL := []) (rest := [.int LL.length.toInt32]) (lenOf own_pd4 rfl) rfl (by exact own_ca rfl) (hb hby d22_6) (fun _ _ => ⟨rfl, e101, (by decide : 0 + 0 ≤ _), (by decide : 0 + 0 ≤ _)⟩)
  dsimp only [Pt.U, Pt.locs, Pt.cells, Pt.slots] at X102 l102 y102 z102 st102 hQ102
  subst l102 y102 z102
  obtain ⟨rfl, N102q, e102⟩ := hQ102
  have N102 := Fr.app N0 N102q
  refine own_s T102 m 10 #[own_r a1] [.int (LL.length.toInt32 >>> ((0 : Int32) &&& 31))] (fun t k => st102.trans (XS.ishr X102.here hx rfl (hb hby d22_9) rfl k)) ?_
  rw [own_shr0]
  exact own_retI X102 hx hlk hrt (hb hby d22_10) ⟨rfl, N102, e102⟩ (by decide) (by decide)
section own_sb
variable {p : Program} {l : Launch} {e : Env} {R : Room} {s : State} {m : MethodId} {args : Array Value} {below : List Frame} {meth : Method} {c : Code} {T : State} {locs : List Loc} {cells slots : Nat} {Z : State} {h h' : Heap}
theorem own_decl {a0 : Array Value} {y : MethodName} {bytes : ByteArray} {maxL : Nat} {ret : Option FieldType} (hc : (Cond.code y bytes maxL ret).before a0 Z = true) (hi : (Cond.instanceMethod y).before a0 Z = true) : (Cond.declares y).before a0 Z = true := by
  obtain ⟨r0, r, hn, hrm, hst, hab⟩ := Cond.instanceMethod_spec hi
  obtain ⟨r', c', hrm', -, -, -, -, -, -, hsig⟩ := Cond.code_spec hn hc
  cases hrm.symm.trans hrm'
  simp only [Cond.before, Cond.holds, Cond.value, hn, hrm, Option.bind_some, Option.map_some, hst, hsig]
  decide
theorem own_same {a0 : Array Value} {y : MethodName} (hi : (Cond.instanceMethod y).before a0 Z = true) (nf : NotFace Z y) (hy : y.cls ≠ "java/lang/invoke/MethodHandle" ∧ y.cls ≠ "java/lang/invoke/VarHandle") : (Cond.sameMethod y.cls y.cls y.name y.desc).before a0 Z = true := by
  obtain ⟨r0, r, hn, hrm, hst, hab⟩ := Cond.instanceMethod_spec hi
  have hf := State.methodFound?_of_named hn hy
  have hc := findClass_of_methodNamed hn
  obtain ⟨k, hk, hni⟩ := nf r0 hn
  have hn' : Z.methodNamed? ⟨y.cls, y.name, y.desc⟩ = some r0 := hn
  simp only [Cond.before, Cond.holds, Cond.value, hc, hf, hn', hk]
  show (some (decide True && !k.isInterface) == some true) = true
  rw [hni]; rfl
theorem own_nf {a0 : Array Value} {y y1 : MethodName} (nf : NotFace Z y1) (hi : (Cond.instanceMethod y1).before a0 Z = true) (hc : y1.cls = y.cls) : NotFace Z y := fun r0 hn => by
  obtain ⟨r1, r, hn1, hrm, hst, hab⟩ := Cond.instanceMethod_spec hi
  obtain ⟨k, hk, hni⟩ := nf r1 hn1
  have e1 := findClass_of_methodNamed hn1
  have e2 := findClass_of_methodNamed hn
  have e : r1.cls = r0.cls := Option.some.inj (e1.symm.trans (by rw [hc]; exact e2))
  rw [← e]
  exact ⟨k, hk, hni⟩
theorem own_neO {a0 : Array Value} {C : String} {n : Nat} {a b : Addr} {ty : FieldType} {L : List Value} (w : (Cond.instantiable C n).before a0 Z = true) (E : Exa Z h a C) (F : own_Ar Z h b ty L) : b ≠ a := fun q => by
  subst q
  obtain ⟨c1, k1, e1, e2, e3, -, -⟩ := E
  obtain ⟨c2, A, -⟩ := F
  cases e1.symm.trans A.1
  obtain ⟨c, k, h1, h2, h3, -⟩ := Cond.instantiable_spec w
  cases h1.symm.trans e2
  obtain ⟨-, k', h4, comp, h5⟩ := A.2.1
  cases h2.symm.trans h4
  rw [h3] at h5; cases h5
def own_by (B : List Int32) : Prop := ∀ x ∈ B, fits .byte (.int x) = true
theorem own_by.app {A B : List Int32} (a : own_by A) (b : own_by B) : own_by (A ++ B) := fun x hx => (List.mem_append.mp hx).elim (a x) (b x)
theorem own_by.sub {A B : List Int32} (a : own_by A) (q : ∀ x ∈ B, x ∈ A) : own_by B := fun x hx => a x (q x hx)
theorem own_by.rep (n : Nat) : own_by (List.replicate n 0) := fun x hx => by rw [(List.mem_replicate.mp hx).2]; decide
theorem own_Ar.toArv {a : Addr} {B : List Int32} (F : own_Ar Z h a .byte (B.map Value.int)) (hb : own_by B) (hl : B.length < 2147483648) : ∃ k, Arv Z h a k .byte B.length.toInt32 (B.map Value.int) (.int 0) := by
  obtain ⟨c, A, r⟩ := F
  have hs : c.slots.size = B.length := by rw [← Array.length_toList, r, List.length_map]
  have ei : B.length.toInt32.toNatClampNeg = B.length := own_ixS hl
  refine ⟨c.cls, c, A, rfl, by rw [hs, ei], own_nnS hl, fun i hi => ?_, fun i hi => ?_⟩
  · have hi' : i < (B.map Value.int).length := by rw [List.length_map]; omega
    rw [← Array.getElem?_toList, r, List.getD_eq_getElem?_getD, List.getElem?_eq_getElem hi']; rfl
  · have hi' : i < B.length := by omega
    rw [List.getD_eq_getElem?_getD, List.getElem?_map, List.getElem?_eq_getElem hi']
    exact hb _ (List.getElem_mem hi')
theorem own_newPE {a0 : Array Value} (X : Stand p l e R s m args below meth c T locs cells slots) (hx : p.tables.exec = Jvm.exec) (hZ : Z.Warmed39 s.vm) (w : (Cond.arrayClass .byte).before a0 Z = true) (eT : T.heap = h) {g : JFrame} (hg : g.method = m) (hd : decode c.code g.pc = .ok (.newarray .byte, 2)) {n : Int32} {rest : List Value} (hs : g.stack = .int n :: rest)
    (hn : ¬ n < 0) {cap : Nat} (hcap : n.toNatClampNeg ≤ cap) (hb : cap * 8 ≤ 536870912) (hc : cells + 1 ≤ R.cells) (hl : slots + cap ≤ R.slots) :
    ∃ T' h', Stand p l e R s m args below meth c T' locs (cells + 1) (slots + cap) ∧ T'.heap = h' ∧ Ext h h' ∧ own_Ar Z h' h.size .byte (List.replicate n.toNatClampNeg (.int 0)) ∧ Exa Z h' h.size "[B" ∧
      ∀ target, Steps p.tables e below (T'.setTop { g with pc := g.pc + 2, stack := .ref h.size :: rest }) target → Steps p.tables e below (T.setTop g) target := by
  obtain ⟨T', h', cA, X', e', E', A', B', st⟩ := newPE X hx hZ (aty := .byte) w eT hg hd hs hn hcap hb hc hl (ad := "[B") rfl
  exact ⟨T', h', X', e', E', ⟨_, A', by simp [newA, defaultValue, newarray.typeOf]⟩, B', st⟩
theorem own_cp (X : Stand p l e R s m args below meth c T locs cells slots) (hx : p.tables.exec = Jvm.exec) (hZ : Z.Warmed39 s.vm) {a0 : Array Value} {own : String} {index : Nat} (hown : s.vm.findClass own = some m.cls)
    (w1 : (Cond.methodLink own index Jvm.Stand.acN).before a0 Z = true) (w2 : (Cond.native Jvm.Stand.acN).before a0 Z = true) (w3 : (Cond.static Jvm.Stand.acN).before a0 Z = true) (w4 : (Cond.initialized "java/lang/System").before a0 Z = true) (eT : T.heap = h)
    {a b : Addr} {A B : List Int32} {dp nn : Int32} {j n : Nat} (FA : own_Ar Z h a .byte (A.map Value.int)) (FB : own_Ar Z h b .byte (B.map Value.int)) (hA : own_by A) (hB : own_by B) (hj : dp = j.toInt32) (hn : nn = n.toInt32) (h4 : n ≤ A.length) (h5 : j + n ≤ B.length) (hla : A.length < 2147483648) (hlb : B.length < 2147483648)
    {n0 : Nat} (N : Fr n0 locs) (ge : n0 ≤ b) {g : JFrame} (hg : g.method = m) (hsize : g.locals.size = c.maxLocals) {rest : List Value} (hs : g.stack = .int nn :: .int dp :: .ref b :: .int 0 :: .ref a :: rest) (hd : decode c.code g.pc = .ok (.invokestatic index, 3))
    (hf : 1 ≤ R.frames) {W : Nat} (hW : 2 * g.monitorRoom + (rest.map fun v => v.category).sum ≤ W) (hlo : W + (nativeFrameWords "java/lang/System" "arraycopy" 5 + 11) ≤ R.locals) :
    ∃ T' h' L, Stand p l e R s m args below meth c T' L cells slots ∧ T'.heap = h' ∧ Fr n0 L ∧ Keep h h' [b] ∧ own_Ar Z h' b .byte ((B.take j ++ A.take n ++ B.drop (j + n)).map Value.int) ∧
      ∀ target, Steps p.tables e below (T'.setTop { g with pc := g.pc + 3, stack := rest }) target → Steps p.tables e below (T.setTop g) target := by
  obtain ⟨ka, VA⟩ := FA.toArv hA hla
  obtain ⟨kb, VB⟩ := FB.toArv hB hlb
  subst hj hn
  have e1 : j.toInt32.toNatClampNeg = j := own_ixS (by omega)
  have e2 : n.toInt32.toNatClampNeg = n := own_ixS (by omega)
  have e3 : A.length.toInt32.toNatClampNeg = A.length := own_ixS hla
  have e4 : B.length.toInt32.toNatClampNeg = B.length := own_ixS hlb
  obtain ⟨T', h', L, X', e', N', K', V', st⟩ := cpA X hx hZ hown w1 w2 w3 w4 eT VA VB (sp := 0) (Or.inl ⟨rfl, rfl⟩) (by decide) (own_nnS (by omega)) (own_nnS (by omega)) (by rw [e2, e3]; exact (Nat.zero_add n).symm ▸ h4) (by rw [e1, e2, e4]; exact h5) (us := (A.take n).map Value.int)
    (by
      rw [e2]
      apply List.ext_getElem?
      intro i
      by_cases hi : i < n
      · have hi' : i < A.length := by omega
        rw [List.getElem?_map, List.getElem?_take_of_lt hi, List.getElem?_eq_getElem hi', List.getElem?_map, List.getElem?_range hi]
        show _ = some ((A.map Value.int).getD (0 + i) _)
        rw [Nat.zero_add, List.getD_eq_getElem?_getD, List.getElem?_map, List.getElem?_eq_getElem hi']
        rfl
      · rw [List.getElem?_eq_none (by rw [List.length_map, List.length_take]; omega), List.getElem?_eq_none (by rw [List.length_map, List.length_range]; omega)])
    (by rw [e1, e2, List.length_map]; exact h5) N ge hg hsize hs hd hf hW hlo
  rw [e1, e2, ← List.map_take, ← List.map_drop, ← List.map_append, ← List.map_append] at V'
  refine ⟨T', h', L, X', e', N', K', own_Ar.ofArv V' ?_, st⟩
  rw [e4, List.length_map, List.length_append, List.length_append, List.length_take, List.length_take, List.length_drop]
  omega
theorem own_cloneB (X : Stand p l e R s m args below meth c T locs cells slots) (hx : p.tables.exec = Jvm.exec) (hZ : Z.Warmed39 s.vm) {a0 : Array Value} {own ad : String} {index : Nat} (hown : s.vm.findClass own = some m.cls)
    (w1 : (Cond.methodLink own index ⟨ad, "clone", "()Ljava/lang/Object;"⟩).before a0 Z = true) (w2 : (Cond.sameMethod ad "java/lang/Object" "clone" "()Ljava/lang/Object;").before a0 Z = true) (w3 : (Cond.native ⟨"java/lang/Object", "clone", "()Ljava/lang/Object;"⟩).before a0 Z = true)
    (w4 : (Cond.instanceMethod ⟨"java/lang/Object", "clone", "()Ljava/lang/Object;"⟩).before a0 Z = true) (w5 : (Cond.selects ad ⟨ad, "clone", "()Ljava/lang/Object;"⟩ ⟨"java/lang/Object", "clone", "()Ljava/lang/Object;"⟩).before a0 Z = true) (w6 : (Cond.castable ad "java/lang/Cloneable").before a0 Z = true)
    (eT : T.heap = h) {a : Addr} {B : List Int32} (A : own_Ar Z h a .byte (B.map Value.int)) (hB : own_by B) (E : Exa Z h a ad) {g : JFrame} (hg : g.method = m) (hsize : g.locals.size = c.maxLocals) {rest : List Value} (hs : g.stack = .ref a :: rest) (hd : decode c.code g.pc = .ok (.invokevirtual index, 3))
    (hf : 1 ≤ R.frames) {W cap : Nat} (hW : 2 * g.monitorRoom + (rest.map fun v => v.category).sum ≤ W) (hl : W + 14 ≤ R.locals) (hcap : B.length ≤ cap) (hc : cells + 1 ≤ R.cells) (hsl : slots + cap ≤ R.slots) :
    ∃ T' h', Stand p l e R s m args below meth c T' locs (cells + 1) (slots + cap) ∧ T'.heap = h' ∧ Ext h h' ∧ own_Ar Z h' h.size .byte (B.map Value.int) ∧ Exa Z h' h.size ad ∧
      ∀ target, Steps p.tables e below (T'.setTop { g with pc := g.pc + 3, stack := .ref h.size :: rest }) target → Steps p.tables e below (T.setTop g) target := by
  obtain ⟨cl, A', r⟩ := A
  have F : FitC Z cl := fitC_of A' (fun i hi v hv => by
    have hm : v ∈ B.map Value.int := by rw [← r]; exact Array.mem_toList_iff.mpr (Array.mem_of_getElem? hv)
    obtain ⟨x, hx1, rfl⟩ := List.mem_map.mp hm
    exact hB x hx1)
  obtain ⟨T', h', X', e', E', A2, E2, st⟩ := cloneA X hx hZ hown w1 w2 w3 w4 w5 w6 eT A' E F hg hsize hs hd hf hW hl (cap := cap) (by rw [← Array.length_toList, r, List.length_map]; exact hcap) hc hsl
  exact ⟨T', h', X', e', E', ⟨_, A2, r⟩, E2, st⟩
end own_sb

theorem own_leneq {a b : Nat} (ha : a < 2147483648) (hb : b < 2147483648) (h : a.toInt32 = b.toInt32) : a = b := by
  have := congrArg Int32.toInt h
  rw [len_toInt (by omega), len_toInt (by omega)] at this
  omega
def own_max (a b : Int32) : Int32 := if a < b then b else a
def own_min (a b : Int32) : Int32 := if b < a then b else a
theorem own_shl0 (x : Int32) : x <<< ((0 : Int32) &&& 31) = x := by
  apply Int32.toInt_inj.mp
  have a := c_ishl x 0 0 (by decide)
  have r1 := rng32 (x <<< ((0 : Int32) &&& 31)); have r2 := rng32 x
  have e : ((2 ^ 0 : Nat) : Int) = 1 := rfl
  rw [e] at a
  omega
theorem own_max18 {x : Int32} (h : ¬ 18 < x) : own_max x 18 = 18 := by
  unfold own_max; split
  · rfl
  · rename_i q
    apply Int32.toInt_inj.mp
    rw [Int32.lt_iff_toInt_lt] at h q
    omega
theorem own_ec {p : Int32} {n : Nat} (hn : n = 16 ∨ n = 34) (h0 : ¬ p < 0) (h1 : ¬ 34 < p) (h : 0 < p - n.toInt32) : n = 16 ∧ ¬ 18 < p - 16 := by
  have a := c_isub p n.toInt32
  rw [Int32.lt_iff_toInt_lt] at h h0 h1
  have l := len_toInt (n := n) (by omega)
  have b := c_isub p 16
  have r1 := rng32 (p - n.toInt32); have r2 := rng32 (p - 16)
  have e0 : (0 : Int32).toInt = 0 := rfl
  have e1 : (34 : Int32).toInt = 34 := rfl
  have e2 : (16 : Int32).toInt = 16 := rfl
  have e3 : (18 : Int32).toInt = 18 := rfl
  rw [Int32.lt_iff_toInt_lt]
  rw [l] at a
  omega
theorem own_en {p : Int32} {n : Nat} (hn : n = 16 ∨ n = 34) (h0 : ¬ p < 0) (h1 : ¬ 34 < p) (h : ¬ 0 < p - n.toInt32) : p.toInt ≤ n := by
  have a := c_isub p n.toInt32
  rw [Int32.lt_iff_toInt_lt] at h h0 h1
  have l := len_toInt (n := n) (by omega)
  have r1 := rng32 (p - n.toInt32)
  have e0 : (0 : Int32).toInt = 0 := rfl
  have e1 : (34 : Int32).toInt = 34 := rfl
  rw [l] at a
  omega
theorem own_grow {L : List Int32} (h : L.length = 16) : (List.replicate 34 (0 : Int32)).take 0 ++ L.take 16 ++ (List.replicate 34 (0 : Int32)).drop (0 + 16) = L ++ List.replicate 18 0 := by
  rw [List.take_of_length_le (by omega : L.length ≤ 16)]; rfl

abbrev own_k57 := jdk_29_method_65_code
abbrev own_n8 : MethodName := ⟨"java/lang/Math", "max", "(II)I"⟩
theorem d57_0 : own_D own_k57 0 (.iload_n 0) 1 := by decide +kernel
theorem d57_1 : own_D own_k57 1 (.iload_n 1) 1 := by decide +kernel
theorem d57_2 : own_D own_k57 2 (.if_icmp .lt 7) 3 := by decide +kernel
theorem d57_5 : own_D own_k57 5 (.iload_n 0) 1 := by decide +kernel
theorem d57_6 : own_D own_k57 6 (.goto 4) 3 := by decide +kernel
theorem d57_9 : own_D own_k57 9 (.iload_n 1) 1 := by decide +kernel
theorem d57_10 : own_D own_k57 10 (.ireturn) 1 := by decide +kernel
theorem ef_own_rm57 (m : MethodId) (p1 : Int32) (p2 : Int32) : entryFrame m #[(.int p1), (.int p2)] 2 = mkF m 0 #[own_i p1, own_i p2] [] := by first | (simp [entryFrame, mkF, argsToLocals, Value.category]; done) | rfl
def own_rm57_Q (Z : State) (p1 : Int32) (p2 : Int32)  (h0 : Heap) (n0 : Nat) (v : Option Value) (h : Heap) (L : List Loc) : Prop := v = some (.int (own_max p1 p2)) ∧ Fr n0 L ∧ h = h0
set_option maxRecDepth 65536 in
set_option maxHeartbeats 40000000 in
theorem own_rm57 (l : Launch) (Z : State) (a0 : Array Value) (hw : own_H a0 Z) (ws : List Jvm.Cond) (p1 p2 : Int32) (h0 : Heap) (n0 : Nat) (Z0 : n0 ≤ h0.size) : own_M l Z ws own_n8 own_k57 2 (some .int) (own_R 0 0 0 0) #[(.int p1), (.int p2)] h0 (own_rm57_Q Z p1 p2  h0 n0) := by
  refine own_open n0 "java/lang/Math" rfl (Jvm.Free.JP.mathPlain rfl (by decide +kernel)) (fun m => ef_own_rm57 m p1 p2) ?_
  intro p e s m below meth c s₁ hx hby hml hZ hown hnm hlk hrt X0 e0 N0
  have K0 := Keep.refl h0 []
  refine own_s s₁ m 2 #[own_i p1, own_i p2] [.int p2, .int p1] (fun t k => XS.iloadN X0.here hx rfl (hb hby d57_0) rfl (XS.iloadN X0.here hx rfl (hb hby d57_1) rfl k)) ?_
  by_cases hc2_101 : p1 < p2
  · refine own_s s₁ m 10 #[own_i p1, own_i p2] [.int p2] (fun t k => XS.icmpYes X0.here hx rfl (pc0 := 2) (pc' := 9) rfl (hb hby d57_2) rfl (XT.ii_lt_t hc2_101) (by decide) (by decide) (XS.iloadN X0.here hx rfl (hb hby d57_9) rfl k)) ?_
    exact own_retI X0 hx hlk hrt (hb hby d57_10) ⟨(by rw [own_max, if_pos hc2_101]), N0, e0⟩ (by decide) (by decide)
  · refine own_s s₁ m 10 #[own_i p1, own_i p2] [.int p1] (fun t k => XS.icmpNo X0.here hx rfl (hb hby d57_2) rfl (XT.ii_lt_f hc2_101) (XS.iloadN X0.here hx rfl (hb hby d57_5) rfl (XS.goto X0.here hx rfl (pc0 := 6) (pc' := 10) rfl (hb hby d57_6) (by decide) (by decide) k))) ?_
    exact own_retI X0 hx hlk hrt (hb hby d57_10) ⟨(by rw [own_max, if_neg hc2_101]), N0, e0⟩ (by decide) (by decide)
abbrev own_k41 := jdk_29_method_69_code
abbrev own_n9 : MethodName := ⟨"java/lang/Math", "min", "(II)I"⟩
theorem d41_0 : own_D own_k41 0 (.iload_n 0) 1 := by decide +kernel
theorem d41_1 : own_D own_k41 1 (.iload_n 1) 1 := by decide +kernel
theorem d41_2 : own_D own_k41 2 (.if_icmp .gt 7) 3 := by decide +kernel
theorem d41_5 : own_D own_k41 5 (.iload_n 0) 1 := by decide +kernel
theorem d41_6 : own_D own_k41 6 (.goto 4) 3 := by decide +kernel
theorem d41_9 : own_D own_k41 9 (.iload_n 1) 1 := by decide +kernel
theorem d41_10 : own_D own_k41 10 (.ireturn) 1 := by decide +kernel
theorem ef_own_rm41 (m : MethodId) (p1 : Int32) (p2 : Int32) : entryFrame m #[(.int p1), (.int p2)] 2 = mkF m 0 #[own_i p1, own_i p2] [] := by first | (simp [entryFrame, mkF, argsToLocals, Value.category]; done) | rfl
def own_rm41_Q (Z : State) (p1 : Int32) (p2 : Int32)  (h0 : Heap) (n0 : Nat) (v : Option Value) (h : Heap) (L : List Loc) : Prop := v = some (.int (own_min p1 p2)) ∧ Fr n0 L ∧ h = h0
set_option maxRecDepth 65536 in
set_option maxHeartbeats 40000000 in
theorem own_rm41 (l : Launch) (Z : State) (a0 : Array Value) (hw : own_H a0 Z) (ws : List Jvm.Cond) (p1 p2 : Int32) (h0 : Heap) (n0 : Nat) (Z0 : n0 ≤ h0.size) : own_M l Z ws own_n9 own_k41 2 (some .int) (own_R 0 0 0 0) #[(.int p1), (.int p2)] h0 (own_rm41_Q Z p1 p2  h0 n0) := by
  refine own_open n0 "java/lang/Math" rfl (Jvm.Free.JP.mathPlain rfl (by decide +kernel)) (fun m => ef_own_rm41 m p1 p2) ?_
  intro p e s m below meth c s₁ hx hby hml hZ hown hnm hlk hrt X0 e0 N0
  have K0 := Keep.refl h0 []
  refine own_s s₁ m 2 #[own_i p1, own_i p2] [.int p2, .int p1] (fun t k => XS.iloadN X0.here hx rfl (hb hby d41_0) rfl (XS.iloadN X0.here hx rfl (hb hby d41_1) rfl k)) ?_
  by_cases hc2_101 : p2 < p1
  · refine own_s s₁ m 10 #[own_i p1, own_i p2] [.int p2] (fun t k => XS.icmpYes X0.here hx rfl (pc0 := 2) (pc' := 9) rfl (hb hby d41_2) rfl (XT.ii_gt_t hc2_101) (by decide) (by decide) (XS.iloadN X0.here hx rfl (hb hby d41_9) rfl k)) ?_
    exact own_retI X0 hx hlk hrt (hb hby d41_10) ⟨(by rw [own_min, if_pos hc2_101]), N0, e0⟩ (by decide) (by decide)
  · refine own_s s₁ m 10 #[own_i p1, own_i p2] [.int p1] (fun t k => XS.icmpNo X0.here hx rfl (hb hby d41_2) rfl (XT.ii_gt_f hc2_101) (XS.iloadN X0.here hx rfl (hb hby d41_5) rfl (XS.goto X0.here hx rfl (pc0 := 6) (pc' := 10) rfl (hb hby d41_6) (by decide) (by decide) k))) ?_
    exact own_retI X0 hx hlk hrt (hb hby d41_10) ⟨(by rw [own_min, if_neg hc2_101]), N0, e0⟩ (by decide) (by decide)
theorem own_pn2 : plainName "java/lang/AbstractStringBuilder" = true := by first | (simp [plainName, overriddenIn]; done) | decide +kernel
abbrev own_k19 := jdk_68_method_2_code
abbrev own_n10 : MethodName := ⟨"java/lang/AbstractStringBuilder", "<init>", "(I)V"⟩
theorem d19_0 : own_D own_k19 0 (.aload_n 0) 1 := by decide +kernel
theorem d19_1 : own_D own_k19 1 (.invokespecial 3) 3 := by decide +kernel
theorem d19_4 : own_D own_k19 4 (.getstatic 18) 3 := by decide +kernel
theorem d19_7 : own_D own_k19 7 (.ifCond .eq 18) 3 := by decide +kernel
theorem d19_10 : own_D own_k19 10 (.aload_n 0) 1 := by decide +kernel
theorem d19_11 : own_D own_k19 11 (.iload_n 1) 1 := by decide +kernel
theorem d19_12 : own_D own_k19 12 (.newarray .byte) 2 := by decide +kernel
theorem d19_14 : own_D own_k19 14 (.putfield 15) 3 := by decide +kernel
theorem d19_17 : own_D own_k19 17 (.aload_n 0) 1 := by decide +kernel
theorem d19_18 : own_D own_k19 18 (.iconst 0) 1 := by decide +kernel
theorem d19_19 : own_D own_k19 19 (.putfield 22) 3 := by decide +kernel
theorem d19_22 : own_D own_k19 22 (.goto 16) 3 := by decide +kernel
theorem d19_38 : own_D own_k19 38 (.return_) 1 := by decide +kernel
theorem ef_own_rm19 (m : MethodId) (a1 : Addr) (p1 : Int32) : entryFrame m #[(.ref a1), (.int p1)] 2 = mkF m 0 #[own_r a1, own_i p1] [] := by first | (simp [entryFrame, mkF, argsToLocals, Value.category]; done) | rfl
def own_rm19_Q (Z : State) (a1 : Addr) (p1 : Int32) (cs : Int32) (h0 : Heap) (n0 : Nat) (v : Option Value) (h : Heap) (L : List Loc) : Prop := v = none ∧ Fr n0 L ∧ Keep h0 h [a1] ∧ ∃ d : Addr, h0.size ≤ d ∧ Exa Z h a1 "java/lang/StringBuilder" ∧ Fld Z h a1 "java/lang/AbstractStringBuilder" "value" "[B" (.ref d) ∧ Fld Z h a1 "java/lang/AbstractStringBuilder" "coder" "B" (.int 0) ∧ Fld Z h a1 "java/lang/AbstractStringBuilder" "count" "I" (.int 0) ∧ own_Ar Z h d .byte ((List.replicate 16 (0 : Int32)).map Value.int) ∧ Exa Z h d "[B"
set_option maxRecDepth 65536 in
set_option maxHeartbeats 40000000 in
theorem own_rm19 (l : Launch) (Z : State) (a0 : Array Value) (hw : own_H a0 Z) (ws : List Jvm.Cond) (a1 : Addr) (p1 cs : Int32) (h0 : Heap) (n0 : Nat) (Z0 : n0 ≤ h0.size) (E : Exa Z h0 a1 "java/lang/StringBuilder") (Fv : Fld Z h0 a1 "java/lang/AbstractStringBuilder" "value" "[B" .null) (Fc : Fld Z h0 a1 "java/lang/AbstractStringBuilder" "coder" "B" (.int 0)) (Fn : Fld Z h0 a1 "java/lang/AbstractStringBuilder" "count" "I" (.int 0)) (g_a1 : n0 ≤ a1) (CS : Sta Z h0 "java/lang/String" "COMPACT_STRINGS" "Z" (.int cs)) (hcs : ¬ cs = 0) (hp : p1 = 16) : own_M l Z ws own_n10 own_k19 2 none (own_R 1 1 16 12) #[(.ref a1), (.int p1)] h0 (own_rm19_Q Z a1 p1 cs h0 n0) := by
  refine own_open n0 "java/lang/AbstractStringBuilder" rfl (plainFor_of_name own_pn2) (fun m => ef_own_rm19 m a1 p1) ?_
  intro p e s m below meth c s₁ hx hby hml hZ hown hnm hlk hrt X0 e0 N0
  have K0 := Keep.refl h0 [a1]
  subst hp
  refine own_s s₁ m 1 #[own_r a1, own_i 16] [.ref a1] (fun t k => XS.aloadN X0.here hx rfl (hb hby d19_0) rfl (rfl) k) ?_
  obtain ⟨T101, X101, e101, st101⟩ := initO X0 hx hZ hown (own_w hw 115 rfl) (own_w hw 16 rfl) (own_w hw 17 rfl) e0 (g := (mkF m 1 #[own_r a1, own_i 16] [.ref a1])) rfl (by rw [hml]; rfl) rfl (hb hby d19_1) (by decide) (W := 0) (by exact own_ca rfl) (by decide)
  refine own_s T101 m 4 #[own_r a1, own_i 16] [] (fun t k => st101 _ k) ?_
  obtain ⟨T102, X102, e102, st102⟩ := getS X101 hx hZ hown (host := "") (own_w hw 116 rfl) Via.refl e101 CS (g := (mkF m 4 #[own_r a1, own_i 16] [])) rfl (hb hby d19_4)
  refine own_s T102 m 12 #[own_r a1, own_i 16] [.int 16, .ref a1] (fun t k => st102 _ (XS.ifNo X102.here hx rfl (hb hby d19_7) rfl (XT.i0_eq_f hcs) (XS.aloadN X102.here hx rfl (hb hby d19_10) rfl (rfl) (XS.iloadN X102.here hx rfl (hb hby d19_11) rfl k)))) ?_
  obtain ⟨T103, h103, X103, e103, E103, A103, Ex103, st103⟩ := own_newPE X102 hx hZ (own_w hw 19 rfl) e102 (g := (mkF m 12 #[own_r a1, own_i 16] [.int 16, .ref a1])) rfl (hb hby d19_12) rfl (by decide) (cap := 16) (by decide) (by decide) (by decide) (by decide)
  obtain ⟨b103, g103⟩ : ∃ z, z = h0.size := ⟨_, rfl⟩
  rw [← g103] at A103 st103 Ex103
  have V103 : own_Ar Z h103 b103 .byte [(.int 0), (.int 0), (.int 0), (.int 0), (.int 0), (.int 0), (.int 0), (.int 0), (.int 0), (.int 0), (.int 0), (.int 0), (.int 0), (.int 0), (.int 0), (.int 0)] := A103
  have ne_a1_b103 := own_ne E.lt (Nat.le_of_eq g103.symm)
  have sz_b103 : h0.size ≤ b103 := Nat.le_trans K0.1 (Nat.le_of_eq g103.symm)
  have g_b103 : n0 ≤ b103 := Nat.le_trans Z0 sz_b103
  have Kc103 : Keep h0 h103 [a1] := K0.ext E103
  refine own_s T103 m 14 #[own_r a1, own_i 16] [.ref b103, .ref a1] (fun t k => st103 _ k) ?_
  obtain ⟨T104, h104, X104, e104, W104, st104⟩ := putF X103 hx hZ hown (host := "") (Or.inl (own_w hw 117 rfl)) Via.refl e103 (Fv.ext E103) (E.ext E103) (Or.inl (own_w hw 118 rfl)) (own_w hw 104 rfl) (ty := (.array .byte)) (by decide) rfl rfl (g := (mkF m 14 #[own_r a1, own_i 16] [.ref b103, .ref a1])) rfl rfl (hb hby d19_14)
  have F104 : Fld Z h104 a1 "java/lang/AbstractStringBuilder" "value" "[B" (.ref b103) := (Fv.ext E103).same W104
  have Kc104 : Keep h0 h104 [a1] := Kc103.wr W104 (Or.inl (List.mem_of_getElem? (i := 0) rfl))
  have N104 := Fr.snoc X104 N0 g_a1
  refine own_s T104 m 19 #[own_r a1, own_i 16] [.int 0, .ref a1] (fun t k => st104 _ (XS.aloadN X104.here hx rfl (hb hby d19_17) rfl (rfl) (XS.iconst X104.here hx rfl (hb hby d19_18) k))) ?_
  obtain ⟨T105, h105, X105, e105, W105, st105⟩ := putFN X104 hx hZ hown (own_w hw 119 rfl) Via.refl e104 ((Fc.ext E103).other W104 (Or.inr (slot_ne (Or.inl (own_w hw 120 rfl)) (Or.inl (own_w hw 118 rfl)) (by decide) (t := .byte) (t' := (.array .byte)) (by decide) (by decide)))) ((E.ext E103).wr W104) (Or.inl (own_w hw 120 rfl)) (own_w hw 104 rfl) (ty := .byte) (v' := (.int 0)) (by decide) rfl rfl (g := (mkF m 19 #[own_r a1, own_i 16] [.int 0, .ref a1])) rfl rfl (hb hby d19_19)
  have F105 : Fld Z h105 a1 "java/lang/AbstractStringBuilder" "coder" "B" (.int 0) := ((Fc.ext E103).other W104 (Or.inr (slot_ne (Or.inl (own_w hw 120 rfl)) (Or.inl (own_w hw 118 rfl)) (by decide) (t := .byte) (t' := (.array .byte)) (by decide) (by decide)))).same W105
  have Kc105 : Keep h0 h105 [a1] := Kc104.wr W105 (Or.inl (List.mem_of_getElem? (i := 0) rfl))
  have N105 := Fr.snoc X105 N104 g_a1
  refine own_s T105 m 38 #[own_r a1, own_i 16] [] (fun t k => st105 _ (XS.goto X105.here hx rfl (pc0 := 22) (pc' := 38) rfl (hb hby d19_22) (by decide) (by decide) k)) ?_
  have eE : T105.heap = h105 := e105
  exact own_retV X105 hx hlk hrt (hb hby d19_38) ⟨rfl, N105, (by rw [eE]; exact Kc105), b103, sz_b103, (by rw [eE]; exact (((E.ext E103).wr W104).wr W105)), (by rw [eE]; exact (F104.other W105 (Or.inr (slot_ne (Or.inl (own_w hw 118 rfl)) (Or.inl (own_w hw 120 rfl)) (by decide) (t := (.array .byte)) (t' := .byte) (by decide) (by decide))))), (by rw [eE]; exact F105), (by rw [eE]; exact (((Fn.ext E103).other W104 (Or.inr (slot_ne (Or.inl (own_w hw 137 rfl)) (Or.inl (own_w hw 118 rfl)) (by decide) (t := .int) (t' := (.array .byte)) (by decide) (by decide)))).other W105 (Or.inr (slot_ne (Or.inl (own_w hw 137 rfl)) (Or.inl (own_w hw 120 rfl)) (by decide) (t := .int) (t' := .byte) (by decide) (by decide))))), (by rw [eE]; exact ((V103.other W104 (Ne.symm ne_a1_b103)).other W105 (Ne.symm ne_a1_b103))), (by rw [eE]; exact ((Ex103.wr W104).wr W105))⟩ (by decide) (by decide)
theorem own_pn3 : plainName "java/lang/StringBuilder" = true := by first | (simp [plainName, overriddenIn]; done) | decide +kernel
theorem own_pd5 : parseMethodDescriptor "(I)V" = some ⟨[.int], none⟩ := by decide +kernel
abbrev own_k18 := jdk_67_method_1_code
abbrev own_n11 : MethodName := ⟨"java/lang/StringBuilder", "<init>", "()V"⟩
theorem d18_0 : own_D own_k18 0 (.aload_n 0) 1 := by decide +kernel
theorem d18_1 : own_D own_k18 1 (.bipush 16) 2 := by decide +kernel
theorem d18_3 : own_D own_k18 3 (.invokespecial 1) 3 := by decide +kernel
theorem d18_6 : own_D own_k18 6 (.return_) 1 := by decide +kernel
theorem ef_own_rm18 (m : MethodId) (a1 : Addr) : entryFrame m #[(.ref a1)] 1 = mkF m 0 #[own_r a1] [] := by first | (simp [entryFrame, mkF, argsToLocals, Value.category]; done) | rfl
def own_rm18_Q (Z : State) (a1 : Addr) (cs : Int32) (h0 : Heap) (n0 : Nat) (v : Option Value) (h : Heap) (L : List Loc) : Prop := v = none ∧ Fr n0 L ∧ Keep h0 h [a1] ∧ ∃ d : Addr, h0.size ≤ d ∧ Exa Z h a1 "java/lang/StringBuilder" ∧ Fld Z h a1 "java/lang/AbstractStringBuilder" "value" "[B" (.ref d) ∧ Fld Z h a1 "java/lang/AbstractStringBuilder" "coder" "B" (.int 0) ∧ Fld Z h a1 "java/lang/AbstractStringBuilder" "count" "I" (.int 0) ∧ own_Ar Z h d .byte ((List.replicate 16 (0 : Int32)).map Value.int) ∧ Exa Z h d "[B"
set_option maxRecDepth 65536 in
set_option maxHeartbeats 40000000 in
theorem own_rm18 (l : Launch) (Z : State) (a0 : Array Value) (hw : own_H a0 Z) (ws : List Jvm.Cond) (a1 : Addr) (cs : Int32) (h0 : Heap) (n0 : Nat) (Z0 : n0 ≤ h0.size) (E : Exa Z h0 a1 "java/lang/StringBuilder") (Fv : Fld Z h0 a1 "java/lang/AbstractStringBuilder" "value" "[B" .null) (Fc : Fld Z h0 a1 "java/lang/AbstractStringBuilder" "coder" "B" (.int 0)) (Fn : Fld Z h0 a1 "java/lang/AbstractStringBuilder" "count" "I" (.int 0)) (g_a1 : n0 ≤ a1) (CS : Sta Z h0 "java/lang/String" "COMPACT_STRINGS" "Z" (.int cs)) (hcs : ¬ cs = 0) : own_M l Z ws own_n11 own_k18 1 none (own_R 2 1 16 25) #[(.ref a1)] h0 (own_rm18_Q Z a1 cs h0 n0) := by
  refine own_open n0 "java/lang/StringBuilder" rfl (plainFor_of_name own_pn3) (fun m => ef_own_rm18 m a1) ?_
  intro p e s m below meth c s₁ hx hby hml hZ hown hnm hlk hrt X0 e0 N0
  have K0 := Keep.refl h0 [a1]
  refine own_s s₁ m 3 #[own_r a1] [.int 16, .ref a1] (fun t k => XS.aloadN X0.here hx rfl (hb hby d18_0) rfl (rfl) (XS.bipush X0.here hx rfl (hb hby d18_1) k)) ?_
  obtain ⟨v101, _, ⟨T101, L101, k101, n101⟩, -, X101, ⟨Lc101, hQ101, l101, y101, z101⟩, st101⟩ := X0.specialBack hx (y := own_n10) rfl hown (mvT hZ (own_w hw 109 rfl)) (mvT hZ (own_w hw 110 rfl)) (mvT hZ (own_w hw 114 rfl)) (by decide) (backOf (W := 0) (own_rm19 l Z a0 hw [] a1 (16 : Int32) cs h0 n0 (Nat.le_trans Z0 K0.1) E Fv Fc Fn g_a1 CS hcs rfl) hZ (own_w hw 114 rfl) (own_w hw 113 rfl) (by decide) (by decide)) (g := (mkF m 3 #[own_r a1] [.int 16, .ref a1])) rfl (by rw [hml]; rfl) (Steps.refl _) (a := a1) (argsL := [.int 16]) (rest := []) (lenOf own_pd5 rfl) rfl (by exact own_ca rfl) (hb hby d18_3) (fun _ _ => ⟨rfl, e0, (by decide : 0 + 1 ≤ _), (by decide : 0 + 16 ≤ _)⟩)
  dsimp only [Pt.U, Pt.locs, Pt.cells, Pt.slots] at X101 l101 y101 z101 st101 hQ101
  subst l101 y101 z101
  obtain ⟨rfl, N101q, K101, d101, szq101, Eb101, Fv101, Fc101, Fn101, V101, Ed101⟩ := hQ101
  have ne_a1_d101 := own_ne E.lt szq101
  have ns101 := (own_nsS (own_nsE E) own_ns0)
  have Kc101 : Keep h0 T101.heap [a1] := K0.trans K101 (allS (Or.inl (List.mem_of_getElem? (i := 0) rfl)) all0)
  have sz_d101 : h0.size ≤ d101 := Nat.le_trans K0.1 szq101
  have g_d101 : n0 ≤ d101 := Nat.le_trans Z0 sz_d101
  have N101 := Fr.app N0 N101q
  refine own_s T101 m 6 #[own_r a1] [] (fun t k => st101.trans k) ?_
  have eE : T101.heap = T101.heap := rfl
  exact own_retV X101 hx hlk hrt (hb hby d18_6) ⟨rfl, N101, (by rw [eE]; exact Kc101), d101, sz_d101, (by rw [eE]; exact Eb101), (by rw [eE]; exact Fv101), (by rw [eE]; exact Fc101), (by rw [eE]; exact Fn101), (by rw [eE]; exact V101), (by rw [eE]; exact Ed101)⟩ (by decide) (by decide)
theorem own_pn4 : plainName "jdk/internal/util/ArraysSupport" = true := by first | (simp [plainName, overriddenIn]; done) | decide +kernel
theorem own_pd6 : parseMethodDescriptor "(II)I" = some ⟨[.int, .int], some .int⟩ := by decide +kernel
abbrev own_k56 := jdk_48_method_27_code
abbrev own_n12 : MethodName := ⟨"jdk/internal/util/ArraysSupport", "newLength", "(III)I"⟩
theorem d56_0 : own_D own_k56 0 (.iload_n 0) 1 := by decide +kernel
theorem d56_1 : own_D own_k56 1 (.iload_n 1) 1 := by decide +kernel
theorem d56_2 : own_D own_k56 2 (.iload_n 2) 1 := by decide +kernel
theorem d56_3 : own_D own_k56 3 (.invokestatic 194) 3 := by decide +kernel
theorem d56_6 : own_D own_k56 6 (.iadd) 1 := by decide +kernel
theorem d56_7 : own_D own_k56 7 (.istore_n 3) 1 := by decide +kernel
theorem d56_8 : own_D own_k56 8 (.iconst 0) 1 := by decide +kernel
theorem d56_9 : own_D own_k56 9 (.iload_n 3) 1 := by decide +kernel
theorem d56_10 : own_D own_k56 10 (.if_icmp .ge 11) 3 := by decide +kernel
theorem d56_13 : own_D own_k56 13 (.iload_n 3) 1 := by decide +kernel
theorem d56_14 : own_D own_k56 14 (.ldc 200) 2 := by decide +kernel
theorem d56_16 : own_D own_k56 16 (.if_icmp .gt 5) 3 := by decide +kernel
theorem d56_19 : own_D own_k56 19 (.iload_n 3) 1 := by decide +kernel
theorem d56_20 : own_D own_k56 20 (.ireturn) 1 := by decide +kernel
theorem ef_own_rm56 (m : MethodId) (p1 : Int32) (p2 : Int32) (p3 : Int32) : entryFrame m #[(.int p1), (.int p2), (.int p3)] 4 = mkF m 0 #[own_i p1, own_i p2, own_i p3, .unset] [] := by first | (simp [entryFrame, mkF, argsToLocals, Value.category]; done) | rfl
def own_rm56_Q (Z : State) (p1 : Int32) (p2 : Int32) (p3 : Int32)  (h0 : Heap) (n0 : Nat) (v : Option Value) (h : Heap) (L : List Loc) : Prop := v = some (.int ((34 : Int32))) ∧ Fr n0 L ∧ h = h0
set_option maxRecDepth 65536 in
set_option maxHeartbeats 40000000 in
theorem own_rm56 (l : Launch) (Z : State) (a0 : Array Value) (hw : own_H a0 Z) (ws : List Jvm.Cond) (p1 p2 p3 : Int32) (h0 : Heap) (n0 : Nat) (Z0 : n0 ≤ h0.size) (hp1 : p1 = 16) (hp3 : p3 = 18) (hp2 : ¬ 18 < p2) : own_M l Z ws own_n12 own_k56 4 (some .int) (own_R 1 0 0 14) #[(.int p1), (.int p2), (.int p3)] h0 (own_rm56_Q Z p1 p2 p3  h0 n0) := by
  refine own_open n0 "jdk/internal/util/ArraysSupport" rfl (plainFor_of_name own_pn4) (fun m => ef_own_rm56 m p1 p2 p3) ?_
  intro p e s m below meth c s₁ hx hby hml hZ hown hnm hlk hrt X0 e0 N0
  have K0 := Keep.refl h0 []
  subst hp1 hp3
  refine own_s s₁ m 3 #[own_i 16, own_i p2, own_i 18, .unset] [.int 18, .int p2, .int 16] (fun t k => XS.iloadN X0.here hx rfl (hb hby d56_0) rfl (XS.iloadN X0.here hx rfl (hb hby d56_1) rfl (XS.iloadN X0.here hx rfl (hb hby d56_2) rfl k))) ?_
  obtain ⟨v101, _, ⟨T101, L101, k101, n101⟩, -, X101, ⟨Lc101, hQ101, l101, y101, z101⟩, st101⟩ := Jvm.LawKit.callS X0 hx (y := own_n8) hown (mvT hZ (own_w hw 294 rfl)) (mvT hZ (own_w hw 295 rfl)) (mvT hZ (own_w hw 224 rfl)) (mvT hZ (own_w hw 296 rfl)) (by decide) (backOf (W := 1) (own_rm57 l Z a0 hw [] p2 (18 : Int32) h0 n0 (Nat.le_trans Z0 K0.1) ) hZ (own_w hw 296 rfl) (own_w hw 224 rfl) (by decide) (by decide)) (g := (mkF m 3 #[own_i 16, own_i p2, own_i 18, .unset] [.int 18, .int p2, .int 16])) rfl (by rw [hml]; rfl) (argsL := [.int p2, .int 18]) (rest := [.int 16]) (lenOf own_pd6 rfl) rfl (by exact own_ca rfl) (hb hby d56_3) (fun _ _ => ⟨rfl, e0, (by decide : 0 + 0 ≤ _), (by decide : 0 + 0 ≤ _)⟩)
  dsimp only [Pt.U, Pt.locs, Pt.cells, Pt.slots] at X101 l101 y101 z101 st101 hQ101
  subst l101 y101 z101
  obtain ⟨rfl, N101q, e101⟩ := hQ101
  have N101 := Fr.app N0 N101q
  refine own_s T101 m 6 #[own_i 16, own_i p2, own_i 18, .unset] [.int (own_max p2 (18 : Int32)), .int 16] (fun t k => st101 _ k) ?_
  rw [own_max18 hp2]
  refine own_s T101 m 7 #[own_i 16, own_i p2, own_i 18, .unset] [.int ((16 : Int32) + (18 : Int32))] (fun t k => XS.iadd X101.here hx rfl (hb hby d56_6) rfl k) ?_
  rw [show ((16 : Int32) + (18 : Int32)) = (34 : Int32) from by decide]
  refine own_s T101 m 13 #[own_i 16, own_i p2, own_i 18, own_i 34] [] (fun t k => XS.istoreN X101.here hx rfl (hb hby d56_7) rfl (l' := #[own_i 16, own_i p2, own_i 18, own_i 34]) rfl (XS.iconst X101.here hx rfl (hb hby d56_8) (XS.iloadN X101.here hx rfl (hb hby d56_9) rfl (XS.icmpNo X101.here hx rfl (hb hby d56_10) rfl (XT.ii_ge_f (by decide)) k)))) ?_
  refine own_s T101 m 20 #[own_i 16, own_i p2, own_i 18, own_i 34] [.int 34] (fun t k => XS.iloadN X101.here hx rfl (hb hby d56_13) rfl (X101.ldcInt hx hown (mvT hZ (own_w hw 297 rfl)) (g := (mkF m 14 #[own_i 16, own_i p2, own_i 18, own_i 34] [.int 34])) rfl (hb hby d56_14) _ (XS.icmpNo X101.here hx rfl (hb hby d56_16) rfl (XT.ii_gt_f (by decide)) (XS.iloadN X101.here hx rfl (hb hby d56_19) rfl k)))) ?_
  exact own_retI X101 hx hlk hrt (hb hby d56_20) ⟨rfl, N101, e101⟩ (by decide) (by decide)
theorem own_pd7 : parseMethodDescriptor "(III)I" = some ⟨[.int, .int, .int], some .int⟩ := by decide +kernel
abbrev own_k55 := jdk_68_method_10_code
abbrev own_n13 : MethodName := ⟨"java/lang/AbstractStringBuilder", "newCapacity", "(I)I"⟩
theorem d55_0 : own_D own_k55 0 (.aload_n 0) 1 := by decide +kernel
theorem d55_1 : own_D own_k55 1 (.getfield 15) 3 := by decide +kernel
theorem d55_4 : own_D own_k55 4 (.arraylength) 1 := by decide +kernel
theorem d55_5 : own_D own_k55 5 (.istore_n 2) 1 := by decide +kernel
theorem d55_6 : own_D own_k55 6 (.iload_n 1) 1 := by decide +kernel
theorem d55_7 : own_D own_k55 7 (.aload_n 0) 1 := by decide +kernel
theorem d55_8 : own_D own_k55 8 (.getfield 22) 3 := by decide +kernel
theorem d55_11 : own_D own_k55 11 (.ishl) 1 := by decide +kernel
theorem d55_12 : own_D own_k55 12 (.istore_n 3) 1 := by decide +kernel
theorem d55_13 : own_D own_k55 13 (.iload_n 3) 1 := by decide +kernel
theorem d55_14 : own_D own_k55 14 (.iload_n 2) 1 := by decide +kernel
theorem d55_15 : own_D own_k55 15 (.isub) 1 := by decide +kernel
theorem d55_16 : own_D own_k55 16 (.istore 4) 2 := by decide +kernel
theorem d55_18 : own_D own_k55 18 (.iload_n 2) 1 := by decide +kernel
theorem d55_19 : own_D own_k55 19 (.iload 4) 2 := by decide +kernel
theorem d55_21 : own_D own_k55 21 (.iload_n 2) 1 := by decide +kernel
theorem d55_22 : own_D own_k55 22 (.iconst 2) 1 := by decide +kernel
theorem d55_23 : own_D own_k55 23 (.aload_n 0) 1 := by decide +kernel
theorem d55_24 : own_D own_k55 24 (.getfield 22) 3 := by decide +kernel
theorem d55_27 : own_D own_k55 27 (.ishl) 1 := by decide +kernel
theorem d55_28 : own_D own_k55 28 (.iadd) 1 := by decide +kernel
theorem d55_29 : own_D own_k55 29 (.invokestatic 114) 3 := by decide +kernel
theorem d55_32 : own_D own_k55 32 (.istore 5) 2 := by decide +kernel
theorem d55_34 : own_D own_k55 34 (.iload 5) 2 := by decide +kernel
theorem d55_36 : own_D own_k55 36 (.ldc 39) 2 := by decide +kernel
theorem d55_38 : own_D own_k55 38 (.if_icmp .ne 13) 3 := by decide +kernel
theorem d55_51 : own_D own_k55 51 (.iload 5) 2 := by decide +kernel
theorem d55_53 : own_D own_k55 53 (.aload_n 0) 1 := by decide +kernel
theorem d55_54 : own_D own_k55 54 (.getfield 22) 3 := by decide +kernel
theorem d55_57 : own_D own_k55 57 (.ishr) 1 := by decide +kernel
theorem d55_58 : own_D own_k55 58 (.ireturn) 1 := by decide +kernel
theorem ef_own_rm55 (m : MethodId) (a1 : Addr) (p1 : Int32) : entryFrame m #[(.ref a1), (.int p1)] 6 = mkF m 0 #[own_r a1, own_i p1, .unset, .unset, .unset, .unset] [] := by first | (simp [entryFrame, mkF, argsToLocals, Value.category]; done) | rfl
def own_rm55_Q (Z : State) (a1 : Addr) (p1 : Int32) (d : Addr) (LL : List Int32) (nn : Int32) (h0 : Heap) (n0 : Nat) (v : Option Value) (h : Heap) (L : List Loc) : Prop := v = some (.int ((34 : Int32))) ∧ Fr n0 L ∧ h = h0
set_option maxRecDepth 65536 in
set_option maxHeartbeats 40000000 in
theorem own_rm55 (l : Launch) (Z : State) (a0 : Array Value) (hw : own_H a0 Z) (ws : List Jvm.Cond) (a1 : Addr) (p1 : Int32) (d : Addr) (LL : List Int32) (nn : Int32) (h0 : Heap) (n0 : Nat) (Z0 : n0 ≤ h0.size) (E : Exa Z h0 a1 "java/lang/StringBuilder") (Fv : Fld Z h0 a1 "java/lang/AbstractStringBuilder" "value" "[B" (.ref d)) (Fc : Fld Z h0 a1 "java/lang/AbstractStringBuilder" "coder" "B" (.int 0)) (Fn : Fld Z h0 a1 "java/lang/AbstractStringBuilder" "count" "I" (.int nn)) (Ad : own_Ar Z h0 d .byte (LL.map Value.int)) (Ed : Exa Z h0 d "[B") (hl : LL.length = 16) (hgr : ¬ 18 < p1 - 16) : own_M l Z ws own_n13 own_k55 6 (some .int) (own_R 2 0 0 29) #[(.ref a1), (.int p1)] h0 (own_rm55_Q Z a1 p1 d LL nn h0 n0) := by
  refine own_open n0 "java/lang/AbstractStringBuilder" rfl (plainFor_of_name own_pn2) (fun m => ef_own_rm55 m a1 p1) ?_
  intro p e s m below meth c s₁ hx hby hml hZ hown hnm hlk hrt X0 e0 N0
  have K0 := Keep.refl h0 []
  refine own_s s₁ m 1 #[own_r a1, own_i p1, .unset, .unset, .unset, .unset] [.ref a1] (fun t k => XS.aloadN X0.here hx rfl (hb hby d55_0) rfl (rfl) k) ?_
  obtain ⟨T101, X101, e101, st101⟩ := getF X0 hx hZ hown (host := "") (Or.inl (own_w hw 117 rfl)) Via.refl e0 Fv (g := (mkF m 1 #[own_r a1, own_i p1, .unset, .unset, .unset, .unset] [.ref a1])) rfl rfl (hb hby d55_1)
  refine own_s T101 m 7 #[own_r a1, own_i p1, own_i 16, .unset, .unset, .unset] [.int p1] (fun t k => st101 _ (own_len X101 hx hZ e101 Ad (n := (16 : Int32)) (by rw [List.length_map, hl]; rfl) (g := (mkF m 4 #[own_r a1, own_i p1, .unset, .unset, .unset, .unset] [.ref d])) rfl rfl (hb hby d55_4) _ (XS.istoreN X101.here hx rfl (hb hby d55_5) rfl (l' := #[own_r a1, own_i p1, own_i 16, .unset, .unset, .unset]) rfl (XS.iloadN X101.here hx rfl (hb hby d55_6) rfl k)))) ?_
  refine own_s T101 m 8 #[own_r a1, own_i p1, own_i 16, .unset, .unset, .unset] [.ref a1, .int p1] (fun t k => XS.aloadN X101.here hx rfl (hb hby d55_7) rfl (rfl) k) ?_
  obtain ⟨T102, X102, e102, st102⟩ := getF X101 hx hZ hown (host := "") (Or.inl (own_w hw 119 rfl)) Via.refl e101 Fc (g := (mkF m 8 #[own_r a1, own_i p1, own_i 16, .unset, .unset, .unset] [.ref a1, .int p1])) rfl rfl (hb hby d55_8)
  refine own_s T102 m 12 #[own_r a1, own_i p1, own_i 16, .unset, .unset, .unset] [.int (p1 <<< ((0 : Int32) &&& 31))] (fun t k => st102 _ (XS.ishl X102.here hx rfl (hb hby d55_11) rfl k)) ?_
  rw [own_shl0]
  refine own_s T102 m 16 #[own_r a1, own_i p1, own_i 16, own_i p1, .unset, .unset] [.int (p1 - (16 : Int32))] (fun t k => XS.istoreN X102.here hx rfl (hb hby d55_12) rfl (l' := #[own_r a1, own_i p1, own_i 16, own_i p1, .unset, .unset]) rfl (XS.iloadN X102.here hx rfl (hb hby d55_13) rfl (XS.iloadN X102.here hx rfl (hb hby d55_14) rfl (XS.isub X102.here hx rfl (hb hby d55_15) rfl k)))) ?_
  refine own_s T102 m 22 #[own_r a1, own_i p1, own_i 16, own_i p1, own_i (p1 - (16 : Int32)), .unset] [.int 16, .int (p1 - (16 : Int32)), .int 16] (fun t k => XS.istore X102.here hx rfl (hb hby d55_16) rfl (l' := #[own_r a1, own_i p1, own_i 16, own_i p1, own_i (p1 - (16 : Int32)), .unset]) rfl (XS.iloadN X102.here hx rfl (hb hby d55_18) rfl (XS.iload X102.here hx rfl (hb hby d55_19) rfl (XS.iloadN X102.here hx rfl (hb hby d55_21) rfl k)))) ?_
  refine own_s T102 m 24 #[own_r a1, own_i p1, own_i 16, own_i p1, own_i (p1 - (16 : Int32)), .unset] [.ref a1, .int 2, .int 16, .int (p1 - (16 : Int32)), .int 16] (fun t k => XS.iconst X102.here hx rfl (hb hby d55_22) (XS.aloadN X102.here hx rfl (hb hby d55_23) rfl (rfl) k)) ?_
  obtain ⟨T103, X103, e103, st103⟩ := getF X102 hx hZ hown (host := "") (Or.inl (own_w hw 119 rfl)) Via.refl e102 Fc (g := (mkF m 24 #[own_r a1, own_i p1, own_i 16, own_i p1, own_i (p1 - (16 : Int32)), .unset] [.ref a1, .int 2, .int 16, .int (p1 - (16 : Int32)), .int 16])) rfl rfl (hb hby d55_24)
  refine own_s T103 m 28 #[own_r a1, own_i p1, own_i 16, own_i p1, own_i (p1 - (16 : Int32)), .unset] [.int ((2 : Int32) <<< ((0 : Int32) &&& 31)), .int 16, .int (p1 - (16 : Int32)), .int 16] (fun t k => st103 _ (XS.ishl X103.here hx rfl (hb hby d55_27) rfl k)) ?_
  rw [show ((2 : Int32) <<< ((0 : Int32) &&& 31)) = (2 : Int32) from by decide]
  refine own_s T103 m 29 #[own_r a1, own_i p1, own_i 16, own_i p1, own_i (p1 - (16 : Int32)), .unset] [.int ((16 : Int32) + (2 : Int32)), .int (p1 - (16 : Int32)), .int 16] (fun t k => XS.iadd X103.here hx rfl (hb hby d55_28) rfl k) ?_
  rw [show ((16 : Int32) + (2 : Int32)) = (18 : Int32) from by decide]
  obtain ⟨v104, _, ⟨T104, L104, k104, n104⟩, -, X104, ⟨Lc104, hQ104, l104, y104, z104⟩, st104⟩ := Jvm.LawKit.callS X103 hx (y := own_n12) hown (mvT hZ (own_w hw 290 rfl)) (mvT hZ (own_w hw 291 rfl)) (mvT hZ (own_w hw 292 rfl)) (mvT hZ (own_w hw 293 rfl)) (by decide) (backOf (W := 0) (own_rm56 l Z a0 hw [] (16 : Int32) (p1 - (16 : Int32)) (18 : Int32) h0 n0 (Nat.le_trans Z0 K0.1) rfl rfl hgr) hZ (own_w hw 293 rfl) (own_w hw 292 rfl) (by decide) (by decide)) (g := (mkF m 29 #[own_r a1, own_i p1, own_i 16, own_i p1, own_i (p1 - (16 : Int32)), .unset] [.int 18, .int (p1 - (16 : Int32)), .int 16])) rfl (by rw [hml]; rfl) (argsL := [.int 16, .int (p1 - (16 : Int32)), .int 18]) (rest := []) (lenOf own_pd7 rfl) rfl (by exact own_ca rfl) (hb hby d55_29) (fun _ _ => ⟨rfl, e103, (by decide : 0 + 0 ≤ _), (by decide : 0 + 0 ≤ _)⟩)
  dsimp only [Pt.U, Pt.locs, Pt.cells, Pt.slots] at X104 l104 y104 z104 st104 hQ104
  subst l104 y104 z104
  obtain ⟨rfl, N104q, e104⟩ := hQ104
  have N104 := Fr.app N0 N104q
  refine own_s T104 m 38 #[own_r a1, own_i p1, own_i 16, own_i p1, own_i (p1 - (16 : Int32)), own_i 34] [.int 2147483647, .int 34] (fun t k => st104 _ (XS.istore X104.here hx rfl (hb hby d55_32) rfl (l' := #[own_r a1, own_i p1, own_i 16, own_i p1, own_i (p1 - (16 : Int32)), own_i 34]) rfl (XS.iload X104.here hx rfl (hb hby d55_34) rfl (X104.ldcInt hx hown (mvT hZ (own_w hw 298 rfl)) (g := (mkF m 36 #[own_r a1, own_i p1, own_i 16, own_i p1, own_i (p1 - (16 : Int32)), own_i 34] [.int 34])) rfl (hb hby d55_36) _ k)))) ?_
  refine own_s T104 m 54 #[own_r a1, own_i p1, own_i 16, own_i p1, own_i (p1 - (16 : Int32)), own_i 34] [.ref a1, .int 34] (fun t k => XS.icmpYes X104.here hx rfl (pc0 := 38) (pc' := 51) rfl (hb hby d55_38) rfl (XT.ii_ne_t (by decide)) (by decide) (by decide) (XS.iload X104.here hx rfl (hb hby d55_51) rfl (XS.aloadN X104.here hx rfl (hb hby d55_53) rfl (rfl) k))) ?_
  obtain ⟨T105, X105, e105, st105⟩ := getF X104 hx hZ hown (host := "") (Or.inl (own_w hw 119 rfl)) Via.refl e104 Fc (g := (mkF m 54 #[own_r a1, own_i p1, own_i 16, own_i p1, own_i (p1 - (16 : Int32)), own_i 34] [.ref a1, .int 34])) rfl rfl (hb hby d55_54)
  refine own_s T105 m 58 #[own_r a1, own_i p1, own_i 16, own_i p1, own_i (p1 - (16 : Int32)), own_i 34] [.int ((34 : Int32) >>> ((0 : Int32) &&& 31))] (fun t k => st105 _ (XS.ishr X105.here hx rfl (hb hby d55_57) rfl k)) ?_
  rw [show ((34 : Int32) >>> ((0 : Int32) &&& 31)) = (34 : Int32) from by decide]
  exact own_retI X105 hx hlk hrt (hb hby d55_58) ⟨rfl, N104, e105⟩ (by decide) (by decide)
theorem own_pn5 : plainName "java/util/Arrays" = true := by first | (simp [plainName, overriddenIn]; done) | decide +kernel
abbrev own_k58 := jdk_65_method_121_code
abbrev own_n14 : MethodName := ⟨"java/util/Arrays", "copyOf", "([BI)[B"⟩
theorem d58_0 : own_D own_k58 0 (.iload_n 1) 1 := by decide +kernel
theorem d58_1 : own_D own_k58 1 (.aload_n 0) 1 := by decide +kernel
theorem d58_2 : own_D own_k58 2 (.arraylength) 1 := by decide +kernel
theorem d58_3 : own_D own_k58 3 (.if_icmp .ne 11) 3 := by decide +kernel
theorem d58_14 : own_D own_k58 14 (.iload_n 1) 1 := by decide +kernel
theorem d58_15 : own_D own_k58 15 (.newarray .byte) 2 := by decide +kernel
theorem d58_17 : own_D own_k58 17 (.astore_n 2) 1 := by decide +kernel
theorem d58_18 : own_D own_k58 18 (.aload_n 0) 1 := by decide +kernel
theorem d58_19 : own_D own_k58 19 (.iconst 0) 1 := by decide +kernel
theorem d58_20 : own_D own_k58 20 (.aload_n 2) 1 := by decide +kernel
theorem d58_21 : own_D own_k58 21 (.iconst 0) 1 := by decide +kernel
theorem d58_22 : own_D own_k58 22 (.aload_n 0) 1 := by decide +kernel
theorem d58_23 : own_D own_k58 23 (.arraylength) 1 := by decide +kernel
theorem d58_24 : own_D own_k58 24 (.iload_n 1) 1 := by decide +kernel
theorem d58_25 : own_D own_k58 25 (.invokestatic 304) 3 := by decide +kernel
theorem d58_28 : own_D own_k58 28 (.invokestatic 150) 3 := by decide +kernel
theorem d58_31 : own_D own_k58 31 (.aload_n 2) 1 := by decide +kernel
theorem d58_32 : own_D own_k58 32 (.areturn) 1 := by decide +kernel
theorem ef_own_rm58 (m : MethodId) (a1 : Addr) (p1 : Int32) : entryFrame m #[(.ref a1), (.int p1)] 3 = mkF m 0 #[own_r a1, own_i p1, .unset] [] := by first | (simp [entryFrame, mkF, argsToLocals, Value.category]; done) | rfl
def own_rm58_Q (Z : State) (a1 : Addr) (p1 : Int32) (LL : List Int32) (h0 : Heap) (n0 : Nat) (v : Option Value) (h : Heap) (L : List Loc) : Prop := ∃ b : Addr, v = some (.ref b) ∧ Fr n0 L ∧ h0.size ≤ b ∧ Keep h0 h [] ∧ own_Ar Z h b .byte ((LL ++ List.replicate 18 (0 : Int32)).map Value.int) ∧ Exa Z h b "[B"
set_option maxRecDepth 65536 in
set_option maxHeartbeats 40000000 in
theorem own_rm58 (l : Launch) (Z : State) (a0 : Array Value) (hw : own_H a0 Z) (ws : List Jvm.Cond) (a1 : Addr) (p1 : Int32) (LL : List Int32) (h0 : Heap) (n0 : Nat) (Z0 : n0 ≤ h0.size) (A_a1 : own_Ar Z h0 a1 .byte (LL.map Value.int)) (hl : LL.length = 16) (hbt : own_by LL) (hp : p1 = 34) : own_M l Z ws own_n14 own_k58 3 (some (.array .byte)) (own_R 1 1 34 18) #[(.ref a1), (.int p1)] h0 (own_rm58_Q Z a1 p1 LL h0 n0) := by
  refine own_open n0 "java/util/Arrays" rfl (plainFor_of_name own_pn5) (fun m => ef_own_rm58 m a1 p1) ?_
  intro p e s m below meth c s₁ hx hby hml hZ hown hnm hlk hrt X0 e0 N0
  have K0 := Keep.refl h0 []
  subst hp
  refine own_s s₁ m 14 #[own_r a1, own_i 34, .unset] [] (fun t k => XS.iloadN X0.here hx rfl (hb hby d58_0) rfl (XS.aloadN X0.here hx rfl (hb hby d58_1) rfl (rfl) (own_len X0 hx hZ e0 A_a1 (n := (16 : Int32)) (by rw [List.length_map, hl]; rfl) (g := (mkF m 2 #[own_r a1, own_i 34, .unset] [.ref a1, .int 34])) rfl rfl (hb hby d58_2) _ (XS.icmpYes X0.here hx rfl (pc0 := 3) (pc' := 14) rfl (hb hby d58_3) rfl (XT.ii_ne_t (by decide)) (by decide) (by decide) k)))) ?_
  refine own_s s₁ m 15 #[own_r a1, own_i 34, .unset] [.int 34] (fun t k => XS.iloadN X0.here hx rfl (hb hby d58_14) rfl k) ?_
  obtain ⟨T101, h101, X101, e101, E101, A101, Ex101, st101⟩ := own_newPE X0 hx hZ (own_w hw 19 rfl) e0 (g := (mkF m 15 #[own_r a1, own_i 34, .unset] [.int 34])) rfl (hb hby d58_15) rfl (by decide) (cap := 34) (by decide) (by decide) (by decide) (by decide)
  obtain ⟨b101, g101⟩ : ∃ z, z = h0.size := ⟨_, rfl⟩
  rw [← g101] at A101 st101 Ex101
  have V101 : own_Ar Z h101 b101 .byte [(.int 0), (.int 0), (.int 0), (.int 0), (.int 0), (.int 0), (.int 0), (.int 0), (.int 0), (.int 0), (.int 0), (.int 0), (.int 0), (.int 0), (.int 0), (.int 0), (.int 0), (.int 0), (.int 0), (.int 0), (.int 0), (.int 0), (.int 0), (.int 0), (.int 0), (.int 0), (.int 0), (.int 0), (.int 0), (.int 0), (.int 0), (.int 0), (.int 0), (.int 0)] := A101
  have ne_a1_b101 := own_ne A_a1.lt (Nat.le_of_eq g101.symm)
  have sz_b101 : h0.size ≤ b101 := Nat.le_trans K0.1 (Nat.le_of_eq g101.symm)
  have g_b101 : n0 ≤ b101 := Nat.le_trans Z0 sz_b101
  have Kc101 : Keep h0 h101 [] := K0.ext E101
  refine own_s T101 m 20 #[own_r a1, own_i 34, own_r b101] [.int 0, .ref a1] (fun t k => st101 _ (XS.astoreN X101.here hx rfl (hb hby d58_17) rfl (rfl) (l' := #[own_r a1, own_i 34, own_r b101]) rfl (XS.aloadN X101.here hx rfl (hb hby d58_18) rfl (rfl) (XS.iconst X101.here hx rfl (hb hby d58_19) k)))) ?_
  refine own_s T101 m 24 #[own_r a1, own_i 34, own_r b101] [.int 16, .int 0, .ref b101, .int 0, .ref a1] (fun t k => XS.aloadN X101.here hx rfl (hb hby d58_20) rfl (rfl) (XS.iconst X101.here hx rfl (hb hby d58_21) (XS.aloadN X101.here hx rfl (hb hby d58_22) rfl (rfl) (own_len X101 hx hZ e101 (A_a1.keep Kc101 nin0) (n := (16 : Int32)) (by rw [List.length_map, hl]; rfl) (g := (mkF m 23 #[own_r a1, own_i 34, own_r b101] [.ref a1, .int 0, .ref b101, .int 0, .ref a1])) rfl rfl (hb hby d58_23) _ k)))) ?_
  refine own_s T101 m 25 #[own_r a1, own_i 34, own_r b101] [.int 34, .int 16, .int 0, .ref b101, .int 0, .ref a1] (fun t k => XS.iloadN X101.here hx rfl (hb hby d58_24) rfl k) ?_
  obtain ⟨v102, _, ⟨T102, L102, k102, n102⟩, -, X102, ⟨Lc102, hQ102, l102, y102, z102⟩, st102⟩ := Jvm.LawKit.callS X101 hx (y := own_n9) hown (mvT hZ (own_w hw 222 rfl)) (mvT hZ (own_w hw 223 rfl)) (mvT hZ (own_w hw 224 rfl)) (mvT hZ (own_w hw 225 rfl)) (by decide) (backOf (W := 4) (own_rm41 l Z a0 hw [] (16 : Int32) (34 : Int32) h101 n0 (Nat.le_trans Z0 Kc101.1) ) hZ (own_w hw 225 rfl) (own_w hw 224 rfl) (by decide) (by decide)) (g := (mkF m 25 #[own_r a1, own_i 34, own_r b101] [.int 34, .int 16, .int 0, .ref b101, .int 0, .ref a1])) rfl (by rw [hml]; rfl) (argsL := [.int 16, .int 34]) (rest := [.int 0, .ref b101, .int 0, .ref a1]) (lenOf own_pd6 rfl) rfl (by exact own_ca rfl) (hb hby d58_25) (fun _ _ => ⟨rfl, e101, (by decide : 1 + 0 ≤ _), (by decide : 34 + 0 ≤ _)⟩)
  dsimp only [Pt.U, Pt.locs, Pt.cells, Pt.slots] at X102 l102 y102 z102 st102 hQ102
  subst l102 y102 z102
  obtain ⟨rfl, N102q, e102⟩ := hQ102
  have N102 := Fr.app N0 N102q
  refine own_s T102 m 28 #[own_r a1, own_i 34, own_r b101] [.int (own_min (16 : Int32) (34 : Int32)), .int 0, .ref b101, .int 0, .ref a1] (fun t k => st102 _ k) ?_
  rw [show own_min (16 : Int32) (34 : Int32) = (16 : Int32) from by decide]
  obtain ⟨T103, h103, L103, X103, e103, N103, K103, V103', st103⟩ := own_cp X102 hx hZ hown (own_w hw 226 rfl) (own_w hw 162 rfl) (own_w hw 160 rfl) (own_w hw 161 rfl) e102 (A := LL) (B := (List.replicate 34 (0 : Int32))) (j := 0) (n := 16) (A_a1.keep Kc101 nin0) V101 hbt (own_by.rep 34) rfl rfl (by rw [hl]; decide) (by decide) (by rw [hl]; decide) (by decide) N102 g_b101 (g := (mkF m 28 #[own_r a1, own_i 34, own_r b101] [.int 16, .int 0, .ref b101, .int 0, .ref a1])) rfl (by rw [hml]; rfl) rfl (hb hby d58_28) (by decide) (W := 0) (by exact own_ca rfl) (by decide)
  have Kc103 : Keep h0 h103 [] := Kc101.trans K103 (allS (Or.inr sz_b101) all0)
  have V103 : own_Ar Z h103 b101 .byte ((LL ++ List.replicate 18 (0 : Int32)).map Value.int) := by have q := V103'; rw [own_grow hl] at q; exact q
  refine own_s T103 m 32 #[own_r a1, own_i 34, own_r b101] [.ref b101] (fun t k => st103 _ (XS.aloadN X103.here hx rfl (hb hby d58_31) rfl (rfl) k)) ?_
  have eE : T103.heap = h103 := e103
  exact own_retA X103 hx hlk (rfl) hrt rfl (hb hby d58_32) ⟨b101, rfl, N103, sz_b101, (by rw [eE]; exact Kc103), (by rw [eE]; exact V103), (by rw [eE]; exact (Ex101.keep K103))⟩ (by decide) (by decide)
theorem own_le34 {p : Int32} {n : Nat} (h : ¬ 34 < p) (hn : n = 34) : p.toInt ≤ n := by
  rw [Int32.lt_iff_toInt_lt] at h
  have e : (34 : Int32).toInt = 34 := rfl
  omega
theorem own_pd8 : parseMethodDescriptor "(I)I" = some ⟨[.int], some .int⟩ := by decide +kernel
theorem own_pd9 : parseMethodDescriptor "([BI)[B" = some ⟨[(.array .byte), .int], some (.array .byte)⟩ := by decide +kernel
abbrev own_k23 := jdk_68_method_9_code
abbrev own_n15 : MethodName := ⟨"java/lang/AbstractStringBuilder", "ensureCapacityInternal", "(I)V"⟩
theorem d23_0 : own_D own_k23 0 (.aload_n 0) 1 := by decide +kernel
theorem d23_1 : own_D own_k23 1 (.getfield 15) 3 := by decide +kernel
theorem d23_4 : own_D own_k23 4 (.arraylength) 1 := by decide +kernel
theorem d23_5 : own_D own_k23 5 (.aload_n 0) 1 := by decide +kernel
theorem d23_6 : own_D own_k23 6 (.getfield 22) 3 := by decide +kernel
theorem d23_9 : own_D own_k23 9 (.ishr) 1 := by decide +kernel
theorem d23_10 : own_D own_k23 10 (.istore_n 2) 1 := by decide +kernel
theorem d23_11 : own_D own_k23 11 (.iload_n 1) 1 := by decide +kernel
theorem d23_12 : own_D own_k23 12 (.iload_n 2) 1 := by decide +kernel
theorem d23_13 : own_D own_k23 13 (.isub) 1 := by decide +kernel
theorem d23_14 : own_D own_k23 14 (.ifCond .le 24) 3 := by decide +kernel
theorem d23_17 : own_D own_k23 17 (.aload_n 0) 1 := by decide +kernel
theorem d23_18 : own_D own_k23 18 (.aload_n 0) 1 := by decide +kernel
theorem d23_19 : own_D own_k23 19 (.getfield 15) 3 := by decide +kernel
theorem d23_22 : own_D own_k23 22 (.aload_n 0) 1 := by decide +kernel
theorem d23_23 : own_D own_k23 23 (.iload_n 1) 1 := by decide +kernel
theorem d23_24 : own_D own_k23 24 (.invokevirtual 104) 3 := by decide +kernel
theorem d23_27 : own_D own_k23 27 (.aload_n 0) 1 := by decide +kernel
theorem d23_28 : own_D own_k23 28 (.getfield 22) 3 := by decide +kernel
theorem d23_31 : own_D own_k23 31 (.ishl) 1 := by decide +kernel
theorem d23_32 : own_D own_k23 32 (.invokestatic 108) 3 := by decide +kernel
theorem d23_35 : own_D own_k23 35 (.putfield 15) 3 := by decide +kernel
theorem d23_38 : own_D own_k23 38 (.return_) 1 := by decide +kernel
theorem ef_own_rm23 (m : MethodId) (a1 : Addr) (p1 : Int32) : entryFrame m #[(.ref a1), (.int p1)] 3 = mkF m 0 #[own_r a1, own_i p1, .unset] [] := by first | (simp [entryFrame, mkF, argsToLocals, Value.category]; done) | rfl
def own_rm23_Q (Z : State) (a1 : Addr) (p1 : Int32) (d : Addr) (LL : List Int32) (nn : Int32) (h0 : Heap) (n0 : Nat) (v : Option Value) (h : Heap) (L : List Loc) : Prop := v = none ∧ Fr n0 L ∧ Keep h0 h [a1] ∧ ∃ (d' : Addr) (PX : List Int32), (d' = d ∨ h0.size ≤ d') ∧ ((LL ++ PX).length = 16 ∨ (LL ++ PX).length = 34) ∧ own_by PX ∧ p1.toInt ≤ (LL ++ PX).length ∧ Exa Z h a1 "java/lang/StringBuilder" ∧ Fld Z h a1 "java/lang/AbstractStringBuilder" "value" "[B" (.ref d') ∧ Fld Z h a1 "java/lang/AbstractStringBuilder" "coder" "B" (.int 0) ∧ Fld Z h a1 "java/lang/AbstractStringBuilder" "count" "I" (.int nn) ∧ own_Ar Z h d' .byte ((LL ++ PX).map Value.int) ∧ Exa Z h d' "[B"
set_option maxRecDepth 65536 in
set_option maxHeartbeats 40000000 in
theorem own_rm23 (l : Launch) (Z : State) (a0 : Array Value) (hw : own_H a0 Z) (ws : List Jvm.Cond) (a1 : Addr) (p1 : Int32) (d : Addr) (LL : List Int32) (nn : Int32) (h0 : Heap) (n0 : Nat) (Z0 : n0 ≤ h0.size) (E : Exa Z h0 a1 "java/lang/StringBuilder") (Fv : Fld Z h0 a1 "java/lang/AbstractStringBuilder" "value" "[B" (.ref d)) (Fc : Fld Z h0 a1 "java/lang/AbstractStringBuilder" "coder" "B" (.int 0)) (Fn : Fld Z h0 a1 "java/lang/AbstractStringBuilder" "count" "I" (.int nn)) (Ad : own_Ar Z h0 d .byte (LL.map Value.int)) (Ed : Exa Z h0 d "[B") (hcap : LL.length = 16 ∨ LL.length = 34) (hbt : own_by LL) (hp0 : ¬ p1 < 0) (hp1 : ¬ 34 < p1) (g_a1 : n0 ≤ a1) (hne : a1 ≠ d) : own_M l Z ws own_n15 own_k23 3 none (own_R 3 1 34 48) #[(.ref a1), (.int p1)] h0 (own_rm23_Q Z a1 p1 d LL nn h0 n0) := by
  refine own_open n0 "java/lang/AbstractStringBuilder" rfl (plainFor_of_name own_pn2) (fun m => ef_own_rm23 m a1 p1) ?_
  intro p e s m below meth c s₁ hx hby hml hZ hown hnm hlk hrt X0 e0 N0
  have K0 := Keep.refl h0 [a1]
  refine own_s s₁ m 1 #[own_r a1, own_i p1, .unset] [.ref a1] (fun t k => XS.aloadN X0.here hx rfl (hb hby d23_0) rfl (rfl) k) ?_
  obtain ⟨T101, X101, e101, st101⟩ := getF X0 hx hZ hown (host := "") (Or.inl (own_w hw 117 rfl)) Via.refl e0 Fv (g := (mkF m 1 #[own_r a1, own_i p1, .unset] [.ref a1])) rfl rfl (hb hby d23_1)
  refine own_s T101 m 6 #[own_r a1, own_i p1, .unset] [.ref a1, .int LL.length.toInt32] (fun t k => st101 _ (own_len X101 hx hZ e101 Ad (n := LL.length.toInt32) (by rw [List.length_map]) (g := (mkF m 4 #[own_r a1, own_i p1, .unset] [.ref d])) rfl rfl (hb hby d23_4) _ (XS.aloadN X101.here hx rfl (hb hby d23_5) rfl (rfl) k))) ?_
  obtain ⟨T102, X102, e102, st102⟩ := getF X101 hx hZ hown (host := "") (Or.inl (own_w hw 119 rfl)) Via.refl e101 Fc (g := (mkF m 6 #[own_r a1, own_i p1, .unset] [.ref a1, .int LL.length.toInt32])) rfl rfl (hb hby d23_6)
  refine own_s T102 m 10 #[own_r a1, own_i p1, .unset] [.int (LL.length.toInt32 >>> ((0 : Int32) &&& 31))] (fun t k => st102 _ (XS.ishr X102.here hx rfl (hb hby d23_9) rfl k)) ?_
  rw [own_shr0]
  refine own_s T102 m 14 #[own_r a1, own_i p1, own_i LL.length.toInt32] [.int (p1 - LL.length.toInt32)] (fun t k => XS.istoreN X102.here hx rfl (hb hby d23_10) rfl (l' := #[own_r a1, own_i p1, own_i LL.length.toInt32]) rfl (XS.iloadN X102.here hx rfl (hb hby d23_11) rfl (XS.iloadN X102.here hx rfl (hb hby d23_12) rfl (XS.isub X102.here hx rfl (hb hby d23_13) rfl k)))) ?_
  by_cases hc14_103 : 0 < (p1 - LL.length.toInt32)
  · refine own_s T102 m 17 #[own_r a1, own_i p1, own_i LL.length.toInt32] [] (fun t k => XS.ifNo X102.here hx rfl (hb hby d23_14) rfl (XT.i0_le_f hc14_103) k) ?_
    have hec := own_ec hcap hp0 hp1 hc14_103
    refine own_s T102 m 19 #[own_r a1, own_i p1, own_i LL.length.toInt32] [.ref a1, .ref a1] (fun t k => XS.aloadN X102.here hx rfl (hb hby d23_17) rfl (rfl) (XS.aloadN X102.here hx rfl (hb hby d23_18) rfl (rfl) k)) ?_
    obtain ⟨T104, X104, e104, st104⟩ := getF X102 hx hZ hown (host := "") (Or.inl (own_w hw 117 rfl)) Via.refl e102 Fv (g := (mkF m 19 #[own_r a1, own_i p1, own_i LL.length.toInt32] [.ref a1, .ref a1])) rfl rfl (hb hby d23_19)
    refine own_s T104 m 24 #[own_r a1, own_i p1, own_i LL.length.toInt32] [.int p1, .ref a1, .ref d, .ref a1] (fun t k => st104 _ (XS.aloadN X104.here hx rfl (hb hby d23_22) rfl (rfl) (XS.iloadN X104.here hx rfl (hb hby d23_23) rfl k))) ?_
    obtain ⟨cq105, kq105, q105a, q105b, q105c⟩ := isOf hZ e104 E
    obtain ⟨v105, _, ⟨T105, L105, k105, n105⟩, -, X105, ⟨Lc105, hQ105, l105, y105, z105⟩, st105⟩ := X104.virtualBack hx (y := own_n13) (z := own_n13) hown (mvT hZ (own_w hw 285 rfl)) (mvT hZ (own_decl (own_w hw 289 rfl) (own_w hw 286 rfl))) (notFace_of_selects (args := #[]) (mvT hZ (own_w hw 288 rfl))) (mvT hZ (own_w hw 288 rfl)) (mvT hZ (own_w hw 286 rfl)) (by decide) (backOf (W := 2) (own_rm55 l Z a0 hw [] a1 p1 d LL nn h0 n0 (Nat.le_trans Z0 K0.1) E Fv Fc Fn Ad Ed hec.1 hec.2) hZ (own_w hw 289 rfl) (own_w hw 113 rfl) (by decide) (by decide)) q105a q105c (g := (mkF m 24 #[own_r a1, own_i p1, own_i LL.length.toInt32] [.int p1, .ref a1, .ref d, .ref a1])) rfl (by rw [hml]; rfl) (Steps.refl _) (argsL := [.int p1]) (rest := [.ref d, .ref a1]) (lenOf own_pd8 rfl) rfl (by exact own_ca rfl) (hb hby d23_24) (fun _ _ => ⟨rfl, e104, (by decide : 0 + 0 ≤ _), (by decide : 0 + 0 ≤ _)⟩)
    dsimp only [Pt.U, Pt.locs, Pt.cells, Pt.slots] at X105 l105 y105 z105 st105 hQ105
    subst l105 y105 z105
    obtain ⟨rfl, N105q, e105⟩ := hQ105
    have N105 := Fr.app N0 N105q
    refine own_s T105 m 28 #[own_r a1, own_i p1, own_i LL.length.toInt32] [.ref a1, .int 34, .ref d, .ref a1] (fun t k => st105.trans (XS.aloadN X105.here hx rfl (hb hby d23_27) rfl (rfl) k)) ?_
    obtain ⟨T106, X106, e106, st106⟩ := getF X105 hx hZ hown (host := "") (Or.inl (own_w hw 119 rfl)) Via.refl e105 Fc (g := (mkF m 28 #[own_r a1, own_i p1, own_i LL.length.toInt32] [.ref a1, .int 34, .ref d, .ref a1])) rfl rfl (hb hby d23_28)
    refine own_s T106 m 32 #[own_r a1, own_i p1, own_i LL.length.toInt32] [.int ((34 : Int32) <<< ((0 : Int32) &&& 31)), .ref d, .ref a1] (fun t k => st106 _ (XS.ishl X106.here hx rfl (hb hby d23_31) rfl k)) ?_
    rw [show ((34 : Int32) <<< ((0 : Int32) &&& 31)) = (34 : Int32) from by decide]
    obtain ⟨v107, _, ⟨T107, L107, k107, n107⟩, -, X107, ⟨Lc107, hQ107, l107, y107, z107⟩, st107⟩ := Jvm.LawKit.callS X106 hx (y := own_n14) hown (mvT hZ (own_w hw 299 rfl)) (mvT hZ (own_w hw 300 rfl)) (mvT hZ (own_w hw 214 rfl)) (mvT hZ (own_w hw 301 rfl)) (by decide) (backOf (W := 1) (own_rm58 l Z a0 hw [] d (34 : Int32) LL h0 n0 (Nat.le_trans Z0 K0.1) Ad hec.1 hbt rfl) hZ (own_w hw 301 rfl) (own_w hw 214 rfl) (by decide) (by decide)) (g := (mkF m 32 #[own_r a1, own_i p1, own_i LL.length.toInt32] [.int 34, .ref d, .ref a1])) rfl (by rw [hml]; rfl) (argsL := [.ref d, .int 34]) (rest := [.ref a1]) (lenOf own_pd9 rfl) rfl (by exact own_ca rfl) (hb hby d23_32) (fun _ _ => ⟨rfl, e106, (by decide : 0 + 1 ≤ _), (by decide : 0 + 34 ≤ _)⟩)
    dsimp only [Pt.U, Pt.locs, Pt.cells, Pt.slots] at X107 l107 y107 z107 st107 hQ107
    subst l107 y107 z107
    obtain ⟨b107, rfl, N107q, szq107, K107, V107, Ed107⟩ := hQ107
    have ne_a1_b107 := own_ne E.lt szq107
    have ne_d_b107 := own_ne Ad.lt szq107
    have Kc107 : Keep h0 T107.heap [a1] := K0.trans K107 all0
    have sz_b107 : h0.size ≤ b107 := Nat.le_trans K0.1 szq107
    have g_b107 : n0 ≤ b107 := Nat.le_trans Z0 sz_b107
    have N107 := Fr.app N105 N107q
    refine own_s T107 m 35 #[own_r a1, own_i p1, own_i LL.length.toInt32] [.ref b107, .ref a1] (fun t k => st107 _ k) ?_
    obtain ⟨T108, h108, X108, e108, W108, st108⟩ := putF X107 hx hZ hown (host := "") (Or.inl (own_w hw 117 rfl)) Via.refl rfl (Fv.keep K107 nin0) (E.keep K107) (Or.inl (own_w hw 118 rfl)) (own_w hw 104 rfl) (ty := (.array .byte)) (by decide) rfl rfl (g := (mkF m 35 #[own_r a1, own_i p1, own_i LL.length.toInt32] [.ref b107, .ref a1])) rfl rfl (hb hby d23_35)
    have F108 : Fld Z h108 a1 "java/lang/AbstractStringBuilder" "value" "[B" (.ref b107) := (Fv.keep K107 nin0).same W108
    have Kc108 : Keep h0 h108 [a1] := Kc107.wr W108 (Or.inl (List.mem_of_getElem? (i := 0) rfl))
    have N108 := Fr.snoc X108 N107 g_a1
    refine own_s T108 m 38 #[own_r a1, own_i p1, own_i LL.length.toInt32] [] (fun t k => st108 _ k) ?_
    have eE : T108.heap = h108 := e108
    exact own_retV X108 hx hlk hrt (hb hby d23_38) ⟨rfl, N108, (by rw [eE]; exact Kc108), b107, List.replicate 18 0, Or.inr sz_b107, (Or.inr (by rw [List.length_append, List.length_replicate, hec.1])), own_by.rep 18, (own_le34 hp1 (by rw [List.length_append, List.length_replicate, hec.1])), (by rw [eE]; exact ((E.keep K107).wr W108)), (by rw [eE]; exact F108), (by rw [eE]; exact ((Fc.keep K107 nin0).other W108 (Or.inr (slot_ne (Or.inl (own_w hw 120 rfl)) (Or.inl (own_w hw 118 rfl)) (by decide) (t := .byte) (t' := (.array .byte)) (by decide) (by decide))))), (by rw [eE]; exact ((Fn.keep K107 nin0).other W108 (Or.inr (slot_ne (Or.inl (own_w hw 137 rfl)) (Or.inl (own_w hw 118 rfl)) (by decide) (t := .int) (t' := (.array .byte)) (by decide) (by decide))))), (by rw [eE]; exact (V107.other W108 (Ne.symm ne_a1_b107))), (by rw [eE]; exact (Ed107.wr W108))⟩ (by decide) (by decide)
  · refine own_s T102 m 38 #[own_r a1, own_i p1, own_i LL.length.toInt32] [] (fun t k => XS.ifYes X102.here hx rfl (pc0 := 14) (pc' := 38) rfl (hb hby d23_14) rfl (XT.i0_le_t hc14_103) (by decide) (by decide) k) ?_
    have eE : T102.heap = h0 := e102
    exact own_retV X102 hx hlk hrt (hb hby d23_38) ⟨rfl, N0, (by rw [eE]; exact K0), d, [], Or.inl rfl, (by rw [List.append_nil]; exact hcap), (fun _ q => nomatch q), (by rw [List.append_nil]; exact own_en hcap hp0 hp1 hc14_103), (by rw [eE]; exact E), (by rw [eE]; exact Fv), (by rw [eE]; exact Fc), (by rw [eE]; exact Fn), (by rw [eE, List.append_nil]; exact Ad), (by rw [eE]; exact Ed)⟩ (by decide) (by decide)
abbrev own_k25 := jdk_68_method_71_code
abbrev own_n16 : MethodName := ⟨"java/lang/AbstractStringBuilder", "inflateIfNeededFor", "(Ljava/lang/String;)V"⟩
theorem d25_0 : own_D own_k25 0 (.getstatic 18) 3 := by decide +kernel
theorem d25_3 : own_D own_k25 3 (.ifCond .eq 18) 3 := by decide +kernel
theorem d25_6 : own_D own_k25 6 (.aload_n 0) 1 := by decide +kernel
theorem d25_7 : own_D own_k25 7 (.getfield 22) 3 := by decide +kernel
theorem d25_10 : own_D own_k25 10 (.aload_n 1) 1 := by decide +kernel
theorem d25_11 : own_D own_k25 11 (.invokevirtual 40) 3 := by decide +kernel
theorem d25_14 : own_D own_k25 14 (.if_icmp .eq 7) 3 := by decide +kernel
theorem d25_21 : own_D own_k25 21 (.return_) 1 := by decide +kernel
theorem ef_own_rm25 (m : MethodId) (a1 : Addr) (a2 : Addr) : entryFrame m #[(.ref a1), (.ref a2)] 2 = mkF m 0 #[own_r a1, own_r a2] [] := by first | (simp [entryFrame, mkF, argsToLocals, Value.category]; done) | rfl
def own_rm25_Q (Z : State) (a1 : Addr) (a2 : Addr) (cs : Int32) (h0 : Heap) (n0 : Nat) (v : Option Value) (h : Heap) (L : List Loc) : Prop := v = none ∧ Fr n0 L ∧ h = h0
set_option maxRecDepth 65536 in
set_option maxHeartbeats 40000000 in
theorem own_rm25 (l : Launch) (Z : State) (a0 : Array Value) (hw : own_H a0 Z) (ws : List Jvm.Cond) (a1 a2 : Addr) (cs : Int32) (h0 : Heap) (n0 : Nat) (Z0 : n0 ≤ h0.size) (CS : Sta Z h0 "java/lang/String" "COMPACT_STRINGS" "Z" (.int cs)) (hcs : ¬ cs = 0) (Fc1 : Fld Z h0 a1 "java/lang/AbstractStringBuilder" "coder" "B" (.int 0)) (Fc2 : Fld Z h0 a2 "java/lang/String" "coder" "B" (.int 0)) (E2 : Exa Z h0 a2 "java/lang/String") : own_M l Z ws own_n16 own_k25 2 none (own_R 1 0 0 13) #[(.ref a1), (.ref a2)] h0 (own_rm25_Q Z a1 a2 cs h0 n0) := by
  refine own_open n0 "java/lang/AbstractStringBuilder" rfl (plainFor_of_name own_pn2) (fun m => ef_own_rm25 m a1 a2) ?_
  intro p e s m below meth c s₁ hx hby hml hZ hown hnm hlk hrt X0 e0 N0
  have K0 := Keep.refl h0 []
  obtain ⟨T101, X101, e101, st101⟩ := getS X0 hx hZ hown (host := "") (own_w hw 116 rfl) Via.refl e0 CS (g := (mkF m 0 #[own_r a1, own_r a2] [])) rfl (hb hby d25_0)
  refine own_s T101 m 7 #[own_r a1, own_r a2] [.ref a1] (fun t k => st101 _ (XS.ifNo X101.here hx rfl (hb hby d25_3) rfl (XT.i0_eq_f hcs) (XS.aloadN X101.here hx rfl (hb hby d25_6) rfl (rfl) k))) ?_
  obtain ⟨T102, X102, e102, st102⟩ := getF X101 hx hZ hown (host := "") (Or.inl (own_w hw 119 rfl)) Via.refl e101 Fc1 (g := (mkF m 7 #[own_r a1, own_r a2] [.ref a1])) rfl rfl (hb hby d25_7)
  refine own_s T102 m 11 #[own_r a1, own_r a2] [.ref a2, .int 0] (fun t k => st102 _ (XS.aloadN X102.here hx rfl (hb hby d25_10) rfl (rfl) k)) ?_
  obtain ⟨cq103, kq103, q103a, q103b, q103c⟩ := isOf hZ e102 E2
  obtain ⟨v103, _, ⟨T103, L103, k103, n103⟩, -, X103, ⟨Lc103, hQ103, l103, y103, z103⟩, st103⟩ := X102.virtualBack hx (y := own_n5) (z := own_n5) hown (mvT hZ (own_w hw 153 rfl)) (mvT hZ (own_w hw 91 rfl)) (notFace_of_selects (args := #[]) (mvT hZ (own_w hw 93 rfl))) (mvT hZ (own_w hw 93 rfl)) (mvT hZ (own_w hw 92 rfl)) (by decide) (backOf (W := 1) (own_rm15 l Z a0 hw [] a2 cs h0 n0 (Nat.le_trans Z0 K0.1) CS hcs Fc2) hZ (own_w hw 94 rfl) (own_w hw 6 rfl) (by decide) (by decide)) q103a q103c (g := (mkF m 11 #[own_r a1, own_r a2] [.ref a2, .int 0])) rfl (by rw [hml]; rfl) (Steps.refl _) (argsL := []) (rest := [.int 0]) (lenOf own_pd4 rfl) rfl (by exact own_ca rfl) (hb hby d25_11) (fun _ _ => ⟨rfl, e102, (by decide : 0 + 0 ≤ _), (by decide : 0 + 0 ≤ _)⟩)
  dsimp only [Pt.U, Pt.locs, Pt.cells, Pt.slots] at X103 l103 y103 z103 st103 hQ103
  subst l103 y103 z103
  obtain ⟨rfl, N103q, e103⟩ := hQ103
  have N103 := Fr.app N0 N103q
  refine own_s T103 m 21 #[own_r a1, own_r a2] [] (fun t k => st103.trans (XS.icmpYes X103.here hx rfl (pc0 := 14) (pc' := 21) rfl (hb hby d25_14) rfl (XT.ii_eq_t (by decide)) (by decide) (by decide) k)) ?_
  exact own_retV X103 hx hlk hrt (hb hby d25_21) ⟨rfl, N103, e103⟩ (by decide) (by decide)
abbrev own_k26 := jdk_42_method_147_code
abbrev own_n17 : MethodName := ⟨"java/lang/String", "getBytes", "([BIB)V"⟩
theorem d26_0 : own_D own_k26 0 (.aload_n 0) 1 := by decide +kernel
theorem d26_1 : own_D own_k26 1 (.invokevirtual 335) 3 := by decide +kernel
theorem d26_4 : own_D own_k26 4 (.iload_n 3) 1 := by decide +kernel
theorem d26_5 : own_D own_k26 5 (.if_icmp .ne 23) 3 := by decide +kernel
theorem d26_8 : own_D own_k26 8 (.aload_n 0) 1 := by decide +kernel
theorem d26_9 : own_D own_k26 9 (.getfield 9) 3 := by decide +kernel
theorem d26_12 : own_D own_k26 12 (.iconst 0) 1 := by decide +kernel
theorem d26_13 : own_D own_k26 13 (.aload_n 1) 1 := by decide +kernel
theorem d26_14 : own_D own_k26 14 (.iload_n 2) 1 := by decide +kernel
theorem d26_15 : own_D own_k26 15 (.iload_n 3) 1 := by decide +kernel
theorem d26_16 : own_D own_k26 16 (.ishl) 1 := by decide +kernel
theorem d26_17 : own_D own_k26 17 (.aload_n 0) 1 := by decide +kernel
theorem d26_18 : own_D own_k26 18 (.getfield 9) 3 := by decide +kernel
theorem d26_21 : own_D own_k26 21 (.arraylength) 1 := by decide +kernel
theorem d26_22 : own_D own_k26 22 (.invokestatic 212) 3 := by decide +kernel
theorem d26_25 : own_D own_k26 25 (.goto 18) 3 := by decide +kernel
theorem d26_43 : own_D own_k26 43 (.return_) 1 := by decide +kernel
theorem ef_own_rm26 (m : MethodId) (a1 : Addr) (a2 : Addr) (p1 : Int32) (p2 : Int32) : entryFrame m #[(.ref a1), (.ref a2), (.int p1), (.int p2)] 4 = mkF m 0 #[own_r a1, own_r a2, own_i p1, own_i p2] [] := by first | (simp [entryFrame, mkF, argsToLocals, Value.category]; done) | rfl
def own_rm26_Q (Z : State) (a1 : Addr) (a2 : Addr) (p1 : Int32) (p2 : Int32) (cs : Int32) (b1 : Addr) (SS : List Int32) (LL : List Int32) (jj : Nat) (h0 : Heap) (n0 : Nat) (v : Option Value) (h : Heap) (L : List Loc) : Prop := v = none ∧ Fr n0 L ∧ Keep h0 h [a2] ∧ own_Ar Z h a2 .byte ((LL.take jj ++ SS ++ LL.drop (jj + SS.length)).map Value.int)
set_option maxRecDepth 65536 in
set_option maxHeartbeats 40000000 in
theorem own_rm26 (l : Launch) (Z : State) (a0 : Array Value) (hw : own_H a0 Z) (ws : List Jvm.Cond) (a1 a2 : Addr) (p1 p2 cs : Int32) (b1 : Addr) (SS LL : List Int32) (jj : Nat) (h0 : Heap) (n0 : Nat) (Z0 : n0 ≤ h0.size) (CS : Sta Z h0 "java/lang/String" "COMPACT_STRINGS" "Z" (.int cs)) (hcs : ¬ cs = 0) (Fc : Fld Z h0 a1 "java/lang/String" "coder" "B" (.int 0)) (Fv : Fld Z h0 a1 "java/lang/String" "value" "[B" (.ref b1)) (Ab : own_Ar Z h0 b1 .byte (SS.map Value.int)) (Es : Exa Z h0 a1 "java/lang/String") (A_a2 : own_Ar Z h0 a2 .byte (LL.map Value.int)) (hbs : own_by SS) (hbt : own_by LL) (hfit : jj + SS.length ≤ LL.length) (hls : SS.length < 2147483648) (hlt : LL.length < 2147483648) (g_a2 : n0 ≤ a2) (hp1 : p1 = jj.toInt32) (hp2 : p2 = 0) : own_M l Z ws own_n17 own_k26 4 none (own_R 1 0 0 18) #[(.ref a1), (.ref a2), (.int p1), (.int p2)] h0 (own_rm26_Q Z a1 a2 p1 p2 cs b1 SS LL jj h0 n0) := by
  refine own_open n0 "java/lang/String" rfl (plainFor_of_name own_pn1) (fun m => ef_own_rm26 m a1 a2 p1 p2) ?_
  intro p e s m below meth c s₁ hx hby hml hZ hown hnm hlk hrt X0 e0 N0
  have K0 := Keep.refl h0 [a2]
  subst hp1 hp2
  refine own_s s₁ m 1 #[own_r a1, own_r a2, own_i (jj.toInt32), own_i 0] [.ref a1] (fun t k => XS.aloadN X0.here hx rfl (hb hby d26_0) rfl (rfl) k) ?_
  obtain ⟨cq101, kq101, q101a, q101b, q101c⟩ := isOf hZ e0 Es
  obtain ⟨v101, _, ⟨T101, L101, k101, n101⟩, -, X101, ⟨Lc101, hQ101, l101, y101, z101⟩, st101⟩ := X0.virtualBack hx (y := own_n5) (z := own_n5) hown (mvT hZ (own_w hw 90 rfl)) (mvT hZ (own_w hw 91 rfl)) (notFace_of_selects (args := #[]) (mvT hZ (own_w hw 93 rfl))) (mvT hZ (own_w hw 93 rfl)) (mvT hZ (own_w hw 92 rfl)) (by decide) (backOf (W := 0) (own_rm15 l Z a0 hw [] a1 cs h0 n0 (Nat.le_trans Z0 K0.1) CS hcs Fc) hZ (own_w hw 94 rfl) (own_w hw 6 rfl) (by decide) (by decide)) q101a q101c (g := (mkF m 1 #[own_r a1, own_r a2, own_i (jj.toInt32), own_i 0] [.ref a1])) rfl (by rw [hml]; rfl) (Steps.refl _) (argsL := []) (rest := []) (lenOf own_pd4 rfl) rfl (by exact own_ca rfl) (hb hby d26_1) (fun _ _ => ⟨rfl, e0, (by decide : 0 + 0 ≤ _), (by decide : 0 + 0 ≤ _)⟩)
  dsimp only [Pt.U, Pt.locs, Pt.cells, Pt.slots] at X101 l101 y101 z101 st101 hQ101
  subst l101 y101 z101
  obtain ⟨rfl, N101q, e101⟩ := hQ101
  have N101 := Fr.app N0 N101q
  refine own_s T101 m 9 #[own_r a1, own_r a2, own_i (jj.toInt32), own_i 0] [.ref a1] (fun t k => st101.trans (XS.iloadN X101.here hx rfl (hb hby d26_4) rfl (XS.icmpNo X101.here hx rfl (hb hby d26_5) rfl (XT.ii_ne_f (by decide)) (XS.aloadN X101.here hx rfl (hb hby d26_8) rfl (rfl) k)))) ?_
  obtain ⟨T102, X102, e102, st102⟩ := getF X101 hx hZ hown (host := "") (Or.inl (own_w hw 24 rfl)) Via.refl e101 Fv (g := (mkF m 9 #[own_r a1, own_r a2, own_i (jj.toInt32), own_i 0] [.ref a1])) rfl rfl (hb hby d26_9)
  refine own_s T102 m 15 #[own_r a1, own_r a2, own_i (jj.toInt32), own_i 0] [.int (jj.toInt32), .ref a2, .int 0, .ref b1] (fun t k => st102 _ (XS.iconst X102.here hx rfl (hb hby d26_12) (XS.aloadN X102.here hx rfl (hb hby d26_13) rfl (rfl) (XS.iloadN X102.here hx rfl (hb hby d26_14) rfl k)))) ?_
  refine own_s T102 m 17 #[own_r a1, own_r a2, own_i (jj.toInt32), own_i 0] [.int ((jj.toInt32) <<< ((0 : Int32) &&& 31)), .ref a2, .int 0, .ref b1] (fun t k => XS.iloadN X102.here hx rfl (hb hby d26_15) rfl (XS.ishl X102.here hx rfl (hb hby d26_16) rfl k)) ?_
  rw [own_shl0]
  refine own_s T102 m 18 #[own_r a1, own_r a2, own_i (jj.toInt32), own_i 0] [.ref a1, .int jj.toInt32, .ref a2, .int 0, .ref b1] (fun t k => XS.aloadN X102.here hx rfl (hb hby d26_17) rfl (rfl) k) ?_
  obtain ⟨T103, X103, e103, st103⟩ := getF X102 hx hZ hown (host := "") (Or.inl (own_w hw 24 rfl)) Via.refl e102 Fv (g := (mkF m 18 #[own_r a1, own_r a2, own_i (jj.toInt32), own_i 0] [.ref a1, .int jj.toInt32, .ref a2, .int 0, .ref b1])) rfl rfl (hb hby d26_18)
  refine own_s T103 m 22 #[own_r a1, own_r a2, own_i (jj.toInt32), own_i 0] [.int SS.length.toInt32, .int jj.toInt32, .ref a2, .int 0, .ref b1] (fun t k => st103 _ (own_len X103 hx hZ e103 Ab (n := SS.length.toInt32) (by rw [List.length_map]) (g := (mkF m 21 #[own_r a1, own_r a2, own_i (jj.toInt32), own_i 0] [.ref b1, .int jj.toInt32, .ref a2, .int 0, .ref b1])) rfl rfl (hb hby d26_21) _ k)) ?_
  obtain ⟨T104, h104, L104, X104, e104, N104, K104, V104', st104⟩ := own_cp X103 hx hZ hown (own_w hw 159 rfl) (own_w hw 162 rfl) (own_w hw 160 rfl) (own_w hw 161 rfl) e103 (A := SS) (B := LL) (j := jj) (n := SS.length) Ab A_a2 hbs hbt rfl rfl (Nat.le_refl _) hfit hls hlt N101 g_a2 (g := (mkF m 22 #[own_r a1, own_r a2, own_i (jj.toInt32), own_i 0] [.int SS.length.toInt32, .int jj.toInt32, .ref a2, .int 0, .ref b1])) rfl (by rw [hml]; rfl) rfl (hb hby d26_22) (by decide) (W := 0) (by exact own_ca rfl) (by decide)
  have ns104 := (own_nsS (own_nsA A_a2) own_ns0)
  have Kc104 : Keep h0 h104 [a2] := K0.trans K104 (allS (Or.inl (List.mem_of_getElem? (i := 0) rfl)) all0)
  have V104 : own_Ar Z h104 a2 .byte ((LL.take jj ++ SS ++ LL.drop (jj + SS.length)).map Value.int) := by have q := V104'; rw [List.take_length] at q; exact q
  refine own_s T104 m 43 #[own_r a1, own_r a2, own_i (jj.toInt32), own_i 0] [] (fun t k => st104 _ (XS.goto X104.here hx rfl (pc0 := 25) (pc' := 43) rfl (hb hby d26_25) (by decide) (by decide) k)) ?_
  have eE : T104.heap = h104 := e104
  exact own_retV X104 hx hlk hrt (hb hby d26_43) ⟨rfl, N104, (by rw [eE]; exact Kc104), (by rw [eE]; exact V104)⟩ (by decide) (by decide)
theorem own_pd10 : parseMethodDescriptor "(Ljava/lang/String;)V" = some ⟨[(.object "java/lang/String")], none⟩ := by decide +kernel
theorem own_pd11 : parseMethodDescriptor "([BIB)V" = some ⟨[(.array .byte), .int, .byte], none⟩ := by decide +kernel
abbrev own_k24 := jdk_68_method_73_code
abbrev own_n18 : MethodName := ⟨"java/lang/AbstractStringBuilder", "putStringAt", "(ILjava/lang/String;)V"⟩
theorem d24_0 : own_D own_k24 0 (.aload_n 0) 1 := by decide +kernel
theorem d24_1 : own_D own_k24 1 (.aload_n 2) 1 := by decide +kernel
theorem d24_2 : own_D own_k24 2 (.invokevirtual 397) 3 := by decide +kernel
theorem d24_5 : own_D own_k24 5 (.aload_n 2) 1 := by decide +kernel
theorem d24_6 : own_D own_k24 6 (.aload_n 0) 1 := by decide +kernel
theorem d24_7 : own_D own_k24 7 (.getfield 15) 3 := by decide +kernel
theorem d24_10 : own_D own_k24 10 (.iload_n 1) 1 := by decide +kernel
theorem d24_11 : own_D own_k24 11 (.aload_n 0) 1 := by decide +kernel
theorem d24_12 : own_D own_k24 12 (.getfield 22) 3 := by decide +kernel
theorem d24_15 : own_D own_k24 15 (.invokevirtual 399) 3 := by decide +kernel
theorem d24_18 : own_D own_k24 18 (.return_) 1 := by decide +kernel
theorem ef_own_rm24 (m : MethodId) (a1 : Addr) (p1 : Int32) (a2 : Addr) : entryFrame m #[(.ref a1), (.int p1), (.ref a2)] 3 = mkF m 0 #[own_r a1, own_i p1, own_r a2] [] := by first | (simp [entryFrame, mkF, argsToLocals, Value.category]; done) | rfl
def own_rm24_Q (Z : State) (a1 : Addr) (p1 : Int32) (a2 : Addr) (cs : Int32) (d : Addr) (LL : List Int32) (nn : Int32) (b1 : Addr) (SS : List Int32) (jj : Nat) (h0 : Heap) (n0 : Nat) (v : Option Value) (h : Heap) (L : List Loc) : Prop := v = none ∧ Fr n0 L ∧ Keep h0 h [d] ∧ own_Ar Z h d .byte ((LL.take jj ++ SS ++ LL.drop (jj + SS.length)).map Value.int)
set_option maxRecDepth 65536 in
set_option maxHeartbeats 40000000 in
theorem own_rm24 (l : Launch) (Z : State) (a0 : Array Value) (hw : own_H a0 Z) (ws : List Jvm.Cond) (a1 : Addr) (p1 : Int32) (a2 : Addr) (cs : Int32) (d : Addr) (LL : List Int32) (nn : Int32) (b1 : Addr) (SS : List Int32) (jj : Nat) (h0 : Heap) (n0 : Nat) (Z0 : n0 ≤ h0.size) (CS : Sta Z h0 "java/lang/String" "COMPACT_STRINGS" "Z" (.int cs)) (hcs : ¬ cs = 0) (E : Exa Z h0 a1 "java/lang/StringBuilder") (Fv : Fld Z h0 a1 "java/lang/AbstractStringBuilder" "value" "[B" (.ref d)) (Fc : Fld Z h0 a1 "java/lang/AbstractStringBuilder" "coder" "B" (.int 0)) (Fn : Fld Z h0 a1 "java/lang/AbstractStringBuilder" "count" "I" (.int nn)) (Ad : own_Ar Z h0 d .byte (LL.map Value.int)) (Ed : Exa Z h0 d "[B") (Fcs : Fld Z h0 a2 "java/lang/String" "coder" "B" (.int 0)) (Fvs : Fld Z h0 a2 "java/lang/String" "value" "[B" (.ref b1)) (Abs : own_Ar Z h0 b1 .byte (SS.map Value.int)) (Ess : Exa Z h0 a2 "java/lang/String") (hbs : own_by SS) (hbt : own_by LL) (hfit : jj + SS.length ≤ LL.length) (hls : SS.length < 2147483648) (hlt : LL.length < 2147483648) (g_d : n0 ≤ d) (hp1 : p1 = jj.toInt32) : own_M l Z ws own_n18 own_k24 3 none (own_R 2 0 0 33) #[(.ref a1), (.int p1), (.ref a2)] h0 (own_rm24_Q Z a1 p1 a2 cs d LL nn b1 SS jj h0 n0) := by
  refine own_open n0 "java/lang/AbstractStringBuilder" rfl (plainFor_of_name own_pn2) (fun m => ef_own_rm24 m a1 p1 a2) ?_
  intro p e s m below meth c s₁ hx hby hml hZ hown hnm hlk hrt X0 e0 N0
  have K0 := Keep.refl h0 [d]
  subst hp1
  refine own_s s₁ m 2 #[own_r a1, own_i (jj.toInt32), own_r a2] [.ref a2, .ref a1] (fun t k => XS.aloadN X0.here hx rfl (hb hby d24_0) rfl (rfl) (XS.aloadN X0.here hx rfl (hb hby d24_1) rfl (rfl) k)) ?_
  obtain ⟨cq101, kq101, q101a, q101b, q101c⟩ := isOf hZ e0 E
  obtain ⟨v101, _, ⟨T101, L101, k101, n101⟩, -, X101, ⟨Lc101, hQ101, l101, y101, z101⟩, st101⟩ := X0.virtualBack hx (y := own_n16) (z := own_n16) hown (mvT hZ (own_w hw 148 rfl)) (mvT hZ (own_decl (own_w hw 152 rfl) (own_w hw 149 rfl))) (notFace_of_selects (args := #[]) (mvT hZ (own_w hw 151 rfl))) (mvT hZ (own_w hw 151 rfl)) (mvT hZ (own_w hw 149 rfl)) (by decide) (backOf (W := 0) (own_rm25 l Z a0 hw [] a1 a2 cs h0 n0 (Nat.le_trans Z0 K0.1) CS hcs Fc Fcs Ess) hZ (own_w hw 152 rfl) (own_w hw 113 rfl) (by decide) (by decide)) q101a q101c (g := (mkF m 2 #[own_r a1, own_i (jj.toInt32), own_r a2] [.ref a2, .ref a1])) rfl (by rw [hml]; rfl) (Steps.refl _) (argsL := [.ref a2]) (rest := []) (lenOf own_pd10 rfl) rfl (by exact own_ca rfl) (hb hby d24_2) (fun _ _ => ⟨rfl, e0, (by decide : 0 + 0 ≤ _), (by decide : 0 + 0 ≤ _)⟩)
  dsimp only [Pt.U, Pt.locs, Pt.cells, Pt.slots] at X101 l101 y101 z101 st101 hQ101
  subst l101 y101 z101
  obtain ⟨rfl, N101q, e101⟩ := hQ101
  have N101 := Fr.app N0 N101q
  refine own_s T101 m 7 #[own_r a1, own_i (jj.toInt32), own_r a2] [.ref a1, .ref a2] (fun t k => st101.trans (XS.aloadN X101.here hx rfl (hb hby d24_5) rfl (rfl) (XS.aloadN X101.here hx rfl (hb hby d24_6) rfl (rfl) k))) ?_
  obtain ⟨T102, X102, e102, st102⟩ := getF X101 hx hZ hown (host := "") (Or.inl (own_w hw 117 rfl)) Via.refl e101 Fv (g := (mkF m 7 #[own_r a1, own_i (jj.toInt32), own_r a2] [.ref a1, .ref a2])) rfl rfl (hb hby d24_7)
  refine own_s T102 m 12 #[own_r a1, own_i (jj.toInt32), own_r a2] [.ref a1, .int (jj.toInt32), .ref d, .ref a2] (fun t k => st102 _ (XS.iloadN X102.here hx rfl (hb hby d24_10) rfl (XS.aloadN X102.here hx rfl (hb hby d24_11) rfl (rfl) k))) ?_
  obtain ⟨T103, X103, e103, st103⟩ := getF X102 hx hZ hown (host := "") (Or.inl (own_w hw 119 rfl)) Via.refl e102 Fc (g := (mkF m 12 #[own_r a1, own_i (jj.toInt32), own_r a2] [.ref a1, .int (jj.toInt32), .ref d, .ref a2])) rfl rfl (hb hby d24_12)
  refine own_s T103 m 15 #[own_r a1, own_i (jj.toInt32), own_r a2] [.int 0, .int (jj.toInt32), .ref d, .ref a2] (fun t k => st103 _ k) ?_
  obtain ⟨cq104, kq104, q104a, q104b, q104c⟩ := isOf hZ e103 Ess
  obtain ⟨v104, _, ⟨T104, L104, k104, n104⟩, -, X104, ⟨Lc104, hQ104, l104, y104, z104⟩, st104⟩ := X103.virtualBack hx (y := own_n17) (z := own_n17) hown (mvT hZ (own_w hw 154 rfl)) (mvT hZ (own_w hw 155 rfl)) (notFace_of_selects (args := #[]) (mvT hZ (own_w hw 157 rfl))) (mvT hZ (own_w hw 157 rfl)) (mvT hZ (own_w hw 156 rfl)) (by decide) (backOf (W := 0) (own_rm26 l Z a0 hw [] a2 d (jj.toInt32) (0 : Int32) cs b1 SS LL jj h0 n0 (Nat.le_trans Z0 K0.1) CS hcs Fcs Fvs Abs Ess Ad hbs hbt hfit hls hlt g_d rfl rfl) hZ (own_w hw 158 rfl) (own_w hw 6 rfl) (by decide) (by decide)) q104a q104c (g := (mkF m 15 #[own_r a1, own_i (jj.toInt32), own_r a2] [.int 0, .int (jj.toInt32), .ref d, .ref a2])) rfl (by rw [hml]; rfl) (Steps.refl _) (argsL := [.ref d, .int (jj.toInt32), .int 0]) (rest := []) (lenOf own_pd11 rfl) rfl (by exact own_ca rfl) (hb hby d24_15) (fun _ _ => ⟨rfl, e103, (by decide : 0 + 0 ≤ _), (by decide : 0 + 0 ≤ _)⟩)
  dsimp only [Pt.U, Pt.locs, Pt.cells, Pt.slots] at X104 l104 y104 z104 st104 hQ104
  subst l104 y104 z104
  obtain ⟨rfl, N104q, K104, V104⟩ := hQ104
  have ns104 := (own_nsS (own_nsE Ed) own_ns0)
  have Kc104 : Keep h0 T104.heap [d] := K0.trans K104 (allS (Or.inl (List.mem_of_getElem? (i := 0) rfl)) all0)
  have N104 := Fr.app N101 N104q
  refine own_s T104 m 18 #[own_r a1, own_i (jj.toInt32), own_r a2] [] (fun t k => st104.trans k) ?_
  have eE : T104.heap = T104.heap := rfl
  exact own_retV X104 hx hlk hrt (hb hby d24_18) ⟨rfl, N104, (by rw [eE]; exact Kc104), (by rw [eE]; exact V104)⟩ (by decide) (by decide)
theorem own_addl (a b : List Int32) : a.length.toInt32 + b.length.toInt32 = (a ++ b).length.toInt32 := by rw [List.length_append]; exact (Int32.ofNat_add _ _).symm
theorem own_34 {n : Nat} (h : n ≤ 34) : ¬ 34 < n.toInt32 := by
  rw [Int32.lt_iff_toInt_lt, len_toInt (by omega)]
  have e : (34 : Int32).toInt = 34 := rfl
  omega
theorem own_puteq (B P S X : List Int32) : (B ++ P ++ X).take B.length ++ S ++ (B ++ P ++ X).drop (B.length + S.length) = (B ++ S) ++ (P ++ X).drop S.length := by
  rw [List.append_assoc B P X, List.take_left' rfl, ← List.drop_drop, List.drop_left' rfl]
theorem own_pd12 : parseMethodDescriptor "()I" = some ⟨[], some .int⟩ := by decide +kernel
theorem own_pd13 : parseMethodDescriptor "(ILjava/lang/String;)V" = some ⟨[.int, (.object "java/lang/String")], none⟩ := by decide +kernel
abbrev own_k21 := jdk_68_method_22_code
abbrev own_n19 : MethodName := ⟨"java/lang/AbstractStringBuilder", "append", "(Ljava/lang/String;)Ljava/lang/AbstractStringBuilder;"⟩
theorem d21_0 : own_D own_k21 0 (.aload_n 1) 1 := by decide +kernel
theorem d21_1 : own_D own_k21 1 (.ifnonnull 8) 3 := by decide +kernel
theorem d21_9 : own_D own_k21 9 (.aload_n 1) 1 := by decide +kernel
theorem d21_10 : own_D own_k21 10 (.invokevirtual 32) 3 := by decide +kernel
theorem d21_13 : own_D own_k21 13 (.istore_n 2) 1 := by decide +kernel
theorem d21_14 : own_D own_k21 14 (.aload_n 0) 1 := by decide +kernel
theorem d21_15 : own_D own_k21 15 (.aload_n 0) 1 := by decide +kernel
theorem d21_16 : own_D own_k21 16 (.getfield 79) 3 := by decide +kernel
theorem d21_19 : own_D own_k21 19 (.iload_n 2) 1 := by decide +kernel
theorem d21_20 : own_D own_k21 20 (.iadd) 1 := by decide +kernel
theorem d21_21 : own_D own_k21 21 (.invokevirtual 100) 3 := by decide +kernel
theorem d21_24 : own_D own_k21 24 (.aload_n 0) 1 := by decide +kernel
theorem d21_25 : own_D own_k21 25 (.aload_n 0) 1 := by decide +kernel
theorem d21_26 : own_D own_k21 26 (.getfield 79) 3 := by decide +kernel
theorem d21_29 : own_D own_k21 29 (.aload_n 1) 1 := by decide +kernel
theorem d21_30 : own_D own_k21 30 (.invokevirtual 208) 3 := by decide +kernel
theorem d21_33 : own_D own_k21 33 (.aload_n 0) 1 := by decide +kernel
theorem d21_34 : own_D own_k21 34 (.dup) 1 := by decide +kernel
theorem d21_35 : own_D own_k21 35 (.getfield 79) 3 := by decide +kernel
theorem d21_38 : own_D own_k21 38 (.iload_n 2) 1 := by decide +kernel
theorem d21_39 : own_D own_k21 39 (.iadd) 1 := by decide +kernel
theorem d21_40 : own_D own_k21 40 (.putfield 79) 3 := by decide +kernel
theorem d21_43 : own_D own_k21 43 (.aload_n 0) 1 := by decide +kernel
theorem d21_44 : own_D own_k21 44 (.areturn) 1 := by decide +kernel
theorem ef_own_asbA (m : MethodId) (a1 : Addr) (a2 : Addr) : entryFrame m #[(.ref a1), (.ref a2)] 3 = mkF m 0 #[own_r a1, own_r a2, .unset] [] := by first | (simp [entryFrame, mkF, argsToLocals, Value.category]; done) | rfl
def own_asbA_Q (Z : State) (a1 : Addr) (a2 : Addr) (cs : Int32) (d : Addr) (BB : List Int32) (PP : List Int32) (b1 : Addr) (SS : List Int32) (h0 : Heap) (n0 : Nat) (v : Option Value) (h : Heap) (L : List Loc) : Prop := v = some (.ref a1) ∧ Fr n0 L ∧ Keep h0 h [a1, d] ∧ ∃ (d' : Addr) (PX : List Int32), (d' = d ∨ h0.size ≤ d') ∧ (((BB ++ SS) ++ PX).length = 16 ∨ ((BB ++ SS) ++ PX).length = 34) ∧ own_by PX ∧ Exa Z h a1 "java/lang/StringBuilder" ∧ Fld Z h a1 "java/lang/AbstractStringBuilder" "value" "[B" (.ref d') ∧ Fld Z h a1 "java/lang/AbstractStringBuilder" "coder" "B" (.int 0) ∧ Fld Z h a1 "java/lang/AbstractStringBuilder" "count" "I" (.int (BB ++ SS).length.toInt32) ∧ own_Ar Z h d' .byte (((BB ++ SS) ++ PX).map Value.int) ∧ Exa Z h d' "[B"
set_option maxRecDepth 65536 in
set_option maxHeartbeats 40000000 in
theorem own_asbA (l : Launch) (Z : State) (a0 : Array Value) (hw : own_H a0 Z) (ws : List Jvm.Cond) (a1 a2 : Addr) (cs : Int32) (d : Addr) (BB PP : List Int32) (b1 : Addr) (SS : List Int32) (h0 : Heap) (n0 : Nat) (Z0 : n0 ≤ h0.size) (CS : Sta Z h0 "java/lang/String" "COMPACT_STRINGS" "Z" (.int cs)) (hcs : ¬ cs = 0) (E : Exa Z h0 a1 "java/lang/StringBuilder") (Fv : Fld Z h0 a1 "java/lang/AbstractStringBuilder" "value" "[B" (.ref d)) (Fc : Fld Z h0 a1 "java/lang/AbstractStringBuilder" "coder" "B" (.int 0)) (Fn : Fld Z h0 a1 "java/lang/AbstractStringBuilder" "count" "I" (.int BB.length.toInt32)) (Ad : own_Ar Z h0 d .byte ((BB ++ PP).map Value.int)) (Ed : Exa Z h0 d "[B") (Fcs : Fld Z h0 a2 "java/lang/String" "coder" "B" (.int 0)) (Fvs : Fld Z h0 a2 "java/lang/String" "value" "[B" (.ref b1)) (Abs : own_Ar Z h0 b1 .byte (SS.map Value.int)) (Ess : Exa Z h0 a2 "java/lang/String") (hbs : own_by SS) (hls : SS.length < 2147483648) (hf34 : BB.length + SS.length ≤ 34) (hcap : (BB ++ PP).length = 16 ∨ (BB ++ PP).length = 34) (hbb : own_by BB) (hbp : own_by PP) (g_a1 : n0 ≤ a1) (g_d : n0 ≤ d) (hne : a1 ≠ d) : own_M l Z ws own_n19 own_k21 3 (some (.object "java/lang/AbstractStringBuilder")) (own_R 4 1 34 62) #[(.ref a1), (.ref a2)] h0 (own_asbA_Q Z a1 a2 cs d BB PP b1 SS h0 n0) := by
  refine own_open n0 "java/lang/AbstractStringBuilder" rfl (plainFor_of_name own_pn2) (fun m => ef_own_asbA m a1 a2) ?_
  intro p e s m below meth c s₁ hx hby hml hZ hown hnm hlk hrt X0 e0 N0
  have K0 := Keep.refl h0 [a1, d]
  have hne2 : a2 ≠ a1 := Exa.ne Ess E (by decide)
  have hne3 : b1 ≠ a1 := own_neO (own_w hw 104 rfl) E Abs
  refine own_s s₁ m 10 #[own_r a1, own_r a2, .unset] [.ref a2] (fun t k => XS.aloadN X0.here hx rfl (hb hby d21_0) rfl (rfl) (XT.ifnonnullYes X0.here hx rfl (pc0 := 1) (pc' := 9) rfl (hb hby d21_1) rfl (by decide) (by decide) (XS.aloadN X0.here hx rfl (hb hby d21_9) rfl (rfl) k))) ?_
  obtain ⟨cq101, kq101, q101a, q101b, q101c⟩ := isOf hZ e0 Ess
  obtain ⟨v101, _, ⟨T101, L101, k101, n101⟩, -, X101, ⟨Lc101, hQ101, l101, y101, z101⟩, st101⟩ := X0.virtualBack hx (y := own_n7) (z := own_n7) hown (mvT hZ (own_w hw 131 rfl)) (mvT hZ (own_w hw 132 rfl)) (notFace_of_selects (args := #[]) (mvT hZ (own_w hw 134 rfl))) (mvT hZ (own_w hw 134 rfl)) (mvT hZ (own_w hw 133 rfl)) (by decide) (backOf (W := 0) (own_rm22 l Z a0 hw [] a2 cs b1 (SS.map Value.int) h0 n0 (Nat.le_trans Z0 K0.1) CS hcs Fcs Fvs Abs Ess) hZ (own_w hw 135 rfl) (own_w hw 6 rfl) (by decide) (by decide)) q101a q101c (g := (mkF m 10 #[own_r a1, own_r a2, .unset] [.ref a2])) rfl (by rw [hml]; rfl) (Steps.refl _) (argsL := []) (rest := []) (lenOf own_pd12 rfl) rfl (by exact own_ca rfl) (hb hby d21_10) (fun _ _ => ⟨rfl, e0, (by decide : 0 + 0 ≤ _), (by decide : 0 + 0 ≤ _)⟩)
  dsimp only [Pt.U, Pt.locs, Pt.cells, Pt.slots] at X101 l101 y101 z101 st101 hQ101
  subst l101 y101 z101
  obtain ⟨rfl, N101q, e101⟩ := hQ101
  have N101 := Fr.app N0 N101q
  refine own_s T101 m 13 #[own_r a1, own_r a2, .unset] [.int ((SS.map Value.int).length.toInt32)] (fun t k => st101.trans k) ?_
  rw [List.length_map]
  refine own_s T101 m 16 #[own_r a1, own_r a2, own_i SS.length.toInt32] [.ref a1, .ref a1] (fun t k => XS.istoreN X101.here hx rfl (hb hby d21_13) rfl (l' := #[own_r a1, own_r a2, own_i SS.length.toInt32]) rfl (XS.aloadN X101.here hx rfl (hb hby d21_14) rfl (rfl) (XS.aloadN X101.here hx rfl (hb hby d21_15) rfl (rfl) k))) ?_
  obtain ⟨T102, X102, e102, st102⟩ := getF X101 hx hZ hown (host := "") (Or.inl (own_w hw 136 rfl)) Via.refl e101 Fn (g := (mkF m 16 #[own_r a1, own_r a2, own_i SS.length.toInt32] [.ref a1, .ref a1])) rfl rfl (hb hby d21_16)
  refine own_s T102 m 21 #[own_r a1, own_r a2, own_i SS.length.toInt32] [.int (BB.length.toInt32 + SS.length.toInt32), .ref a1] (fun t k => st102 _ (XS.iloadN X102.here hx rfl (hb hby d21_19) rfl (XS.iadd X102.here hx rfl (hb hby d21_20) rfl k))) ?_
  rw [own_addl BB SS]
  have hl34 : (BB ++ SS).length ≤ 34 := by rw [List.length_append]; exact hf34
  obtain ⟨cq103, kq103, q103a, q103b, q103c⟩ := isOf hZ e102 E
  obtain ⟨v103, _, ⟨T103, L103, k103, n103⟩, -, X103, ⟨Lc103, hQ103, l103, y103, z103⟩, st103⟩ := X102.virtualBack hx (y := own_n15) (z := own_n15) hown (mvT hZ (own_w hw 138 rfl)) (mvT hZ (own_decl (own_w hw 142 rfl) (own_w hw 139 rfl))) (notFace_of_selects (args := #[]) (mvT hZ (own_w hw 141 rfl))) (mvT hZ (own_w hw 141 rfl)) (mvT hZ (own_w hw 139 rfl)) (by decide) (backOf (W := 0) (own_rm23 l Z a0 hw [] a1 (BB ++ SS).length.toInt32 d (BB ++ PP) BB.length.toInt32 h0 n0 (Nat.le_trans Z0 K0.1) E Fv Fc Fn Ad Ed hcap (hbb.app hbp) (own_nnS (by omega : (BB ++ SS).length < 2147483648)) (own_34 hl34) g_a1 hne) hZ (own_w hw 142 rfl) (own_w hw 113 rfl) (by decide) (by decide)) q103a q103c (g := (mkF m 21 #[own_r a1, own_r a2, own_i SS.length.toInt32] [.int (BB ++ SS).length.toInt32, .ref a1])) rfl (by rw [hml]; rfl) (Steps.refl _) (argsL := [.int (BB ++ SS).length.toInt32]) (rest := []) (lenOf own_pd5 rfl) rfl (by exact own_ca rfl) (hb hby d21_21) (fun _ _ => ⟨rfl, e102, (by decide : 0 + 1 ≤ _), (by decide : 0 + 34 ≤ _)⟩)
  dsimp only [Pt.U, Pt.locs, Pt.cells, Pt.slots] at X103 l103 y103 z103 st103 hQ103
  subst l103 y103 z103
  obtain ⟨rfl, N103q, K103, d103, PX103, hD103, hcap103, hbx103, hle103, Eb103, Fv103, Fc103, Fn103, V103, Ed103⟩ := hQ103
  have ne_a1_d103 : a1 ≠ d103 := by rcases hD103 with q | q; exact q ▸ hne; exact Nat.ne_of_lt (Nat.lt_of_lt_of_le E.lt q)
  have ns103 := (own_nsS (own_nsE E) own_ns0)
  have Kc103 : Keep h0 T103.heap [a1, d] := K0.trans K103 (allS (Or.inl (List.mem_of_getElem? (i := 0) rfl)) all0)
  have g_d103 : n0 ≤ d103 := by rcases hD103 with q | q; exact q ▸ g_d; exact Nat.le_trans Z0 (Nat.le_trans K0.1 q)
  have iw_d103 : d103 ∈ ([a1, d] : List Addr) ∨ h0.size ≤ d103 := by rcases hD103 with q | q; exact Or.inl (q ▸ List.mem_of_getElem? (i := 1) rfl); exact Or.inr (Nat.le_trans K0.1 q)
  have N103 := Fr.app N101 N103q
  refine own_s T103 m 26 #[own_r a1, own_r a2, own_i SS.length.toInt32] [.ref a1, .ref a1] (fun t k => st103.trans (XS.aloadN X103.here hx rfl (hb hby d21_24) rfl (rfl) (XS.aloadN X103.here hx rfl (hb hby d21_25) rfl (rfl) k))) ?_
  obtain ⟨T104, X104, e104, st104⟩ := getF X103 hx hZ hown (host := "") (Or.inl (own_w hw 136 rfl)) Via.refl rfl Fn103 (g := (mkF m 26 #[own_r a1, own_r a2, own_i SS.length.toInt32] [.ref a1, .ref a1])) rfl rfl (hb hby d21_26)
  refine own_s T104 m 30 #[own_r a1, own_r a2, own_i SS.length.toInt32] [.ref a2, .int BB.length.toInt32, .ref a1] (fun t k => st104 _ (XS.aloadN X104.here hx rfl (hb hby d21_29) rfl (rfl) k)) ?_
  have hle' : BB.length + SS.length ≤ ((BB ++ PP) ++ PX103).length := by have q := hle103; rw [len_toInt (by omega), List.length_append] at q; omega
  have hlt' : ((BB ++ PP) ++ PX103).length < 2147483648 := by rcases hcap103 with q | q <;> rw [q] <;> decide
  obtain ⟨cq105, kq105, q105a, q105b, q105c⟩ := isOf hZ e104 Eb103
  obtain ⟨v105, _, ⟨T105, L105, k105, n105⟩, -, X105, ⟨Lc105, hQ105, l105, y105, z105⟩, st105⟩ := X104.virtualBack hx (y := own_n18) (z := own_n18) hown (mvT hZ (own_w hw 143 rfl)) (mvT hZ (own_decl (own_w hw 147 rfl) (own_w hw 144 rfl))) (notFace_of_selects (args := #[]) (mvT hZ (own_w hw 146 rfl))) (mvT hZ (own_w hw 146 rfl)) (mvT hZ (own_w hw 144 rfl)) (by decide) (backOf (W := 0) (own_rm24 l Z a0 hw [] a1 BB.length.toInt32 a2 cs d103 ((BB ++ PP) ++ PX103) BB.length.toInt32 b1 SS BB.length T103.heap n0 (Nat.le_trans Z0 Kc103.1) (own_sta_keep CS K103 ns103) hcs Eb103 Fv103 Fc103 Fn103 V103 Ed103 (Fcs.keep K103 (ninS hne2 nin0)) (Fvs.keep K103 (ninS hne2 nin0)) (Abs.keep K103 (ninS hne3 nin0)) (Ess.keep K103) hbs ((hbb.app hbp).app hbx103) hle' hls hlt' g_d103 rfl) hZ (own_w hw 147 rfl) (own_w hw 113 rfl) (by decide) (by decide)) q105a q105c (g := (mkF m 30 #[own_r a1, own_r a2, own_i SS.length.toInt32] [.ref a2, .int BB.length.toInt32, .ref a1])) rfl (by rw [hml]; rfl) (Steps.refl _) (argsL := [.int BB.length.toInt32, .ref a2]) (rest := []) (lenOf own_pd13 rfl) rfl (by exact own_ca rfl) (hb hby d21_30) (fun _ _ => ⟨rfl, e104, (by decide : 1 + 0 ≤ _), (by decide : 34 + 0 ≤ _)⟩)
  dsimp only [Pt.U, Pt.locs, Pt.cells, Pt.slots] at X105 l105 y105 z105 st105 hQ105
  subst l105 y105 z105
  obtain ⟨rfl, N105q, K105, V105⟩ := hQ105
  have ns105 := (own_nsS (own_nsE Ed103) own_ns0)
  have Kc105 : Keep h0 T105.heap [a1, d] := Kc103.trans K105 (allS iw_d103 all0)
  have N105 := Fr.app N103 N105q
  refine own_s T105 m 33 #[own_r a1, own_r a2, own_i SS.length.toInt32] [] (fun t k => st105.trans k) ?_
  have VF : own_Ar Z T105.heap d103 .byte (((BB ++ SS) ++ (PP ++ PX103).drop SS.length).map Value.int) := by have q := V105; rw [own_puteq] at q; exact q
  refine own_s T105 m 35 #[own_r a1, own_r a2, own_i SS.length.toInt32] [.ref a1, .ref a1] (fun t k => XS.aloadN X105.here hx rfl (hb hby d21_33) rfl (rfl) (XS.dup X105.here hx rfl (hb hby d21_34) rfl (rfl) k)) ?_
  obtain ⟨T106, X106, e106, st106⟩ := getF X105 hx hZ hown (host := "") (Or.inl (own_w hw 136 rfl)) Via.refl rfl (Fn103.keep K105 (ninS ne_a1_d103 nin0)) (g := (mkF m 35 #[own_r a1, own_r a2, own_i SS.length.toInt32] [.ref a1, .ref a1])) rfl rfl (hb hby d21_35)
  refine own_s T106 m 40 #[own_r a1, own_r a2, own_i SS.length.toInt32] [.int (BB.length.toInt32 + SS.length.toInt32), .ref a1] (fun t k => st106 _ (XS.iloadN X106.here hx rfl (hb hby d21_38) rfl (XS.iadd X106.here hx rfl (hb hby d21_39) rfl k))) ?_
  rw [own_addl BB SS]
  obtain ⟨T107, h107, X107, e107, W107, st107⟩ := putF X106 hx hZ hown (host := "") (Or.inl (own_w hw 136 rfl)) Via.refl e106 (Fn103.keep K105 (ninS ne_a1_d103 nin0)) (Eb103.keep K105) (Or.inl (own_w hw 137 rfl)) (own_w hw 104 rfl) (ty := .int) (by decide) rfl rfl (g := (mkF m 40 #[own_r a1, own_r a2, own_i SS.length.toInt32] [.int (BB ++ SS).length.toInt32, .ref a1])) rfl rfl (hb hby d21_40)
  have F107 : Fld Z h107 a1 "java/lang/AbstractStringBuilder" "count" "I" (.int (BB ++ SS).length.toInt32) := (Fn103.keep K105 (ninS ne_a1_d103 nin0)).same W107
  have Kc107 : Keep h0 h107 [a1, d] := Kc105.wr W107 (Or.inl (List.mem_of_getElem? (i := 0) rfl))
  have N107 := Fr.snoc X107 N105 g_a1
  refine own_s T107 m 44 #[own_r a1, own_r a2, own_i SS.length.toInt32] [.ref a1] (fun t k => st107 _ (XS.aloadN X107.here hx rfl (hb hby d21_43) rfl (rfl) k)) ?_
  have eE : T107.heap = h107 := e107
  have hcF : ((BB ++ SS) ++ (PP ++ PX103).drop SS.length).length = ((BB ++ PP) ++ PX103).length := by simp only [List.length_append, List.length_drop] at *; omega
  exact own_retA X107 hx hlk (rfl) hrt rfl (hb hby d21_44) ⟨rfl, N107, (by rw [eE]; exact Kc107), d103, _, hD103, (by rw [hcF]; exact hcap103), ((hbp.app hbx103).sub (fun x q => List.mem_of_mem_drop q)), (by rw [eE]; exact ((Eb103.keep K105).wr W107)), (by rw [eE]; exact ((Fv103.keep K105 (ninS ne_a1_d103 nin0)).other W107 (Or.inr (slot_ne (Or.inl (own_w hw 118 rfl)) (Or.inl (own_w hw 137 rfl)) (by decide) (t := (.array .byte)) (t' := .int) (by decide) (by decide))))), (by rw [eE]; exact ((Fc103.keep K105 (ninS ne_a1_d103 nin0)).other W107 (Or.inr (slot_ne (Or.inl (own_w hw 120 rfl)) (Or.inl (own_w hw 137 rfl)) (by decide) (t := .byte) (t' := .int) (by decide) (by decide))))), (by rw [eE]; exact F107), (by rw [eE]; exact (VF.other W107 (Ne.symm ne_a1_d103))), (by rw [eE]; exact ((Ed103.keep K105).wr W107))⟩ (by decide) (by decide)
theorem own_pd14 : parseMethodDescriptor "(Ljava/lang/String;)Ljava/lang/AbstractStringBuilder;" = some ⟨[(.object "java/lang/String")], some (.object "java/lang/AbstractStringBuilder")⟩ := by decide +kernel
abbrev own_k20 := jdk_67_method_7_code
abbrev own_n20 : MethodName := ⟨"java/lang/StringBuilder", "append", "(Ljava/lang/String;)Ljava/lang/StringBuilder;"⟩
theorem d20_0 : own_D own_k20 0 (.aload_n 0) 1 := by decide +kernel
theorem d20_1 : own_D own_k20 1 (.aload_n 1) 1 := by decide +kernel
theorem d20_2 : own_D own_k20 2 (.invokespecial 29) 3 := by decide +kernel
theorem d20_5 : own_D own_k20 5 (.pop) 1 := by decide +kernel
theorem d20_6 : own_D own_k20 6 (.aload_n 0) 1 := by decide +kernel
theorem d20_7 : own_D own_k20 7 (.areturn) 1 := by decide +kernel
theorem ef_own_sbA (m : MethodId) (a1 : Addr) (a2 : Addr) : entryFrame m #[(.ref a1), (.ref a2)] 2 = mkF m 0 #[own_r a1, own_r a2] [] := by first | (simp [entryFrame, mkF, argsToLocals, Value.category]; done) | rfl
def own_sbA_Q (Z : State) (a1 : Addr) (a2 : Addr) (cs : Int32) (d : Addr) (BB : List Int32) (PP : List Int32) (b1 : Addr) (SS : List Int32) (h0 : Heap) (n0 : Nat) (v : Option Value) (h : Heap) (L : List Loc) : Prop := v = some (.ref a1) ∧ Fr n0 L ∧ Keep h0 h [a1, d] ∧ ∃ (d' : Addr) (PX : List Int32), (d' = d ∨ h0.size ≤ d') ∧ (((BB ++ SS) ++ PX).length = 16 ∨ ((BB ++ SS) ++ PX).length = 34) ∧ own_by PX ∧ Exa Z h a1 "java/lang/StringBuilder" ∧ Fld Z h a1 "java/lang/AbstractStringBuilder" "value" "[B" (.ref d') ∧ Fld Z h a1 "java/lang/AbstractStringBuilder" "coder" "B" (.int 0) ∧ Fld Z h a1 "java/lang/AbstractStringBuilder" "count" "I" (.int (BB ++ SS).length.toInt32) ∧ own_Ar Z h d' .byte (((BB ++ SS) ++ PX).map Value.int) ∧ Exa Z h d' "[B"
set_option maxRecDepth 65536 in
set_option maxHeartbeats 40000000 in
theorem own_sbA (l : Launch) (Z : State) (a0 : Array Value) (hw : own_H a0 Z) (ws : List Jvm.Cond) (a1 a2 : Addr) (cs : Int32) (d : Addr) (BB PP : List Int32) (b1 : Addr) (SS : List Int32) (h0 : Heap) (n0 : Nat) (Z0 : n0 ≤ h0.size) (CS : Sta Z h0 "java/lang/String" "COMPACT_STRINGS" "Z" (.int cs)) (hcs : ¬ cs = 0) (E : Exa Z h0 a1 "java/lang/StringBuilder") (Fv : Fld Z h0 a1 "java/lang/AbstractStringBuilder" "value" "[B" (.ref d)) (Fc : Fld Z h0 a1 "java/lang/AbstractStringBuilder" "coder" "B" (.int 0)) (Fn : Fld Z h0 a1 "java/lang/AbstractStringBuilder" "count" "I" (.int BB.length.toInt32)) (Ad : own_Ar Z h0 d .byte ((BB ++ PP).map Value.int)) (Ed : Exa Z h0 d "[B") (Fcs : Fld Z h0 a2 "java/lang/String" "coder" "B" (.int 0)) (Fvs : Fld Z h0 a2 "java/lang/String" "value" "[B" (.ref b1)) (Abs : own_Ar Z h0 b1 .byte (SS.map Value.int)) (Ess : Exa Z h0 a2 "java/lang/String") (hbs : own_by SS) (hls : SS.length < 2147483648) (hf34 : BB.length + SS.length ≤ 34) (hcap : (BB ++ PP).length = 16 ∨ (BB ++ PP).length = 34) (hbb : own_by BB) (hbp : own_by PP) (g_a1 : n0 ≤ a1) (g_d : n0 ≤ d) (hne : a1 ≠ d) : own_M l Z ws own_n20 own_k20 2 (some (.object "java/lang/StringBuilder")) (own_R 5 1 34 76) #[(.ref a1), (.ref a2)] h0 (own_sbA_Q Z a1 a2 cs d BB PP b1 SS h0 n0) := by
  refine own_open n0 "java/lang/StringBuilder" rfl (plainFor_of_name own_pn3) (fun m => ef_own_sbA m a1 a2) ?_
  intro p e s m below meth c s₁ hx hby hml hZ hown hnm hlk hrt X0 e0 N0
  have K0 := Keep.refl h0 [a1, d]
  have hne2 : a2 ≠ a1 := Exa.ne Ess E (by decide)
  have hne3 : b1 ≠ a1 := own_neO (own_w hw 104 rfl) E Abs
  refine own_s s₁ m 2 #[own_r a1, own_r a2] [.ref a2, .ref a1] (fun t k => XS.aloadN X0.here hx rfl (hb hby d20_0) rfl (rfl) (XS.aloadN X0.here hx rfl (hb hby d20_1) rfl (rfl) k)) ?_
  obtain ⟨v101, _, ⟨T101, L101, k101, n101⟩, -, X101, ⟨Lc101, hQ101, l101, y101, z101⟩, st101⟩ := superBack X0 hx hZ (y := (⟨"java/lang/AbstractStringBuilder", "append", "(Ljava/lang/String;)Ljava/lang/AbstractStringBuilder;"⟩ : MethodName)) hown (own_w hw 126 rfl) (own_same (own_w hw 127 rfl) (own_nf (notFace_of_selects (args := a0) (own_w hw 141 rfl)) (own_w hw 139 rfl) rfl) (by decide)) (own_w hw 127 rfl) (own_w hw 128 rfl) (by decide) (backOf (W := 0) (own_asbA l Z a0 hw [] a1 a2 cs d BB PP b1 SS h0 n0 (Nat.le_trans Z0 K0.1) CS hcs E Fv Fc Fn Ad Ed Fcs Fvs Abs Ess hbs hls hf34 hcap hbb hbp g_a1 g_d hne) hZ (own_w hw 130 rfl) (own_w hw 113 rfl) (by decide) (by decide)) e0 (Ins.self E) (g := (mkF m 2 #[own_r a1, own_r a2] [.ref a2, .ref a1])) rfl (by rw [hml]; rfl) (own_w hw 130 rfl) (argsL := [.ref a2]) (rest := []) (lenOf own_pd14 rfl) rfl (by exact own_ca rfl) (hb hby d20_2) (fun _ _ => ⟨rfl, e0, (by decide : 0 + 1 ≤ _), (by decide : 0 + 34 ≤ _)⟩)
  dsimp only [Pt.U, Pt.locs, Pt.cells, Pt.slots] at X101 l101 y101 z101 st101 hQ101
  subst l101 y101 z101
  obtain ⟨rfl, N101q, K101, d101, PX101, hD101, hcap101, hbx101, Eb101, Fv101, Fc101, Fn101, V101, Ed101⟩ := hQ101
  have ne_a1_d101 : a1 ≠ d101 := by rcases hD101 with q | q; exact q ▸ hne; exact Nat.ne_of_lt (Nat.lt_of_lt_of_le E.lt q)
  have ns101 := (own_nsS (own_nsE E) (own_nsS (own_nsE Ed) own_ns0))
  have Kc101 : Keep h0 T101.heap [a1, d] := K0.trans K101 (allS (Or.inl (List.mem_of_getElem? (i := 0) rfl)) (allS (Or.inl (List.mem_of_getElem? (i := 1) rfl)) all0))
  have g_d101 : n0 ≤ d101 := by rcases hD101 with q | q; exact q ▸ g_d; exact Nat.le_trans Z0 (Nat.le_trans K0.1 q)
  have iw_d101 : d101 ∈ ([a1, d] : List Addr) ∨ h0.size ≤ d101 := by rcases hD101 with q | q; exact Or.inl (q ▸ List.mem_of_getElem? (i := 1) rfl); exact Or.inr (Nat.le_trans K0.1 q)
  have N101 := Fr.app N0 N101q
  refine own_s T101 m 7 #[own_r a1, own_r a2] [.ref a1] (fun t k => st101.trans (XT.pop X101.here hx rfl (hb hby d20_5) rfl rfl (XS.aloadN X101.here hx rfl (hb hby d20_6) rfl (rfl) k))) ?_
  have eE : T101.heap = T101.heap := rfl
  exact own_retA X101 hx hlk (rfl) hrt rfl (hb hby d20_7) ⟨rfl, N101, (by rw [eE]; exact Kc101), d101, PX101, hD101, hcap101, hbx101, (by rw [eE]; exact Eb101), (by rw [eE]; exact Fv101), (by rw [eE]; exact Fc101), (by rw [eE]; exact Fn101), (by rw [eE]; exact V101), (by rw [eE]; exact Ed101)⟩ (by decide) (by decide)
abbrev own_k35 := jdk_68_method_64_code
abbrev own_n21 : MethodName := ⟨"java/lang/AbstractStringBuilder", "getValue", "()[B"⟩
theorem d35_0 : own_D own_k35 0 (.aload_n 0) 1 := by decide +kernel
theorem d35_1 : own_D own_k35 1 (.getfield 15) 3 := by decide +kernel
theorem d35_4 : own_D own_k35 4 (.areturn) 1 := by decide +kernel
theorem ef_own_rm35 (m : MethodId) (a1 : Addr) : entryFrame m #[(.ref a1)] 1 = mkF m 0 #[own_r a1] [] := by first | (simp [entryFrame, mkF, argsToLocals, Value.category]; done) | rfl
def own_rm35_Q (Z : State) (a1 : Addr) (d : Addr) (LL : List Int32) (nn : Int32) (h0 : Heap) (n0 : Nat) (v : Option Value) (h : Heap) (L : List Loc) : Prop := v = some (.ref d) ∧ Fr n0 L ∧ h = h0
set_option maxRecDepth 65536 in
set_option maxHeartbeats 40000000 in
theorem own_rm35 (l : Launch) (Z : State) (a0 : Array Value) (hw : own_H a0 Z) (ws : List Jvm.Cond) (a1 d : Addr) (LL : List Int32) (nn : Int32) (h0 : Heap) (n0 : Nat) (Z0 : n0 ≤ h0.size) (E : Exa Z h0 a1 "java/lang/StringBuilder") (Fv : Fld Z h0 a1 "java/lang/AbstractStringBuilder" "value" "[B" (.ref d)) (Fc : Fld Z h0 a1 "java/lang/AbstractStringBuilder" "coder" "B" (.int 0)) (Fn : Fld Z h0 a1 "java/lang/AbstractStringBuilder" "count" "I" (.int nn)) (Ad : own_Ar Z h0 d .byte (LL.map Value.int)) (Ed : Exa Z h0 d "[B") : own_M l Z ws own_n21 own_k35 1 (some (.array .byte)) (own_R 0 0 0 0) #[(.ref a1)] h0 (own_rm35_Q Z a1 d LL nn h0 n0) := by
  refine own_open n0 "java/lang/AbstractStringBuilder" rfl (plainFor_of_name own_pn2) (fun m => ef_own_rm35 m a1) ?_
  intro p e s m below meth c s₁ hx hby hml hZ hown hnm hlk hrt X0 e0 N0
  have K0 := Keep.refl h0 []
  refine own_s s₁ m 1 #[own_r a1] [.ref a1] (fun t k => XS.aloadN X0.here hx rfl (hb hby d35_0) rfl (rfl) k) ?_
  obtain ⟨T101, X101, e101, st101⟩ := getF X0 hx hZ hown (host := "") (Or.inl (own_w hw 117 rfl)) Via.refl e0 Fv (g := (mkF m 1 #[own_r a1] [.ref a1])) rfl rfl (hb hby d35_1)
  refine own_s T101 m 4 #[own_r a1] [.ref d] (fun t k => st101 _ k) ?_
  exact own_retA X101 hx hlk (rfl) hrt rfl (hb hby d35_4) ⟨rfl, N0, e101⟩ (by decide) (by decide)
abbrev own_k37 := jdk_68_method_6_code
abbrev own_n22 : MethodName := ⟨"java/lang/AbstractStringBuilder", "length", "()I"⟩
theorem d37_0 : own_D own_k37 0 (.aload_n 0) 1 := by decide +kernel
theorem d37_1 : own_D own_k37 1 (.getfield 79) 3 := by decide +kernel
theorem d37_4 : own_D own_k37 4 (.ireturn) 1 := by decide +kernel
theorem ef_own_rm37 (m : MethodId) (a1 : Addr) : entryFrame m #[(.ref a1)] 1 = mkF m 0 #[own_r a1] [] := by first | (simp [entryFrame, mkF, argsToLocals, Value.category]; done) | rfl
def own_rm37_Q (Z : State) (a1 : Addr) (d : Addr) (LL : List Int32) (nn : Int32) (h0 : Heap) (n0 : Nat) (v : Option Value) (h : Heap) (L : List Loc) : Prop := v = some (.int (nn)) ∧ Fr n0 L ∧ h = h0
set_option maxRecDepth 65536 in
set_option maxHeartbeats 40000000 in
theorem own_rm37 (l : Launch) (Z : State) (a0 : Array Value) (hw : own_H a0 Z) (ws : List Jvm.Cond) (a1 d : Addr) (LL : List Int32) (nn : Int32) (h0 : Heap) (n0 : Nat) (Z0 : n0 ≤ h0.size) (E : Exa Z h0 a1 "java/lang/StringBuilder") (Fv : Fld Z h0 a1 "java/lang/AbstractStringBuilder" "value" "[B" (.ref d)) (Fc : Fld Z h0 a1 "java/lang/AbstractStringBuilder" "coder" "B" (.int 0)) (Fn : Fld Z h0 a1 "java/lang/AbstractStringBuilder" "count" "I" (.int nn)) (Ad : own_Ar Z h0 d .byte (LL.map Value.int)) (Ed : Exa Z h0 d "[B") : own_M l Z ws own_n22 own_k37 1 (some .int) (own_R 0 0 0 0) #[(.ref a1)] h0 (own_rm37_Q Z a1 d LL nn h0 n0) := by
  refine own_open n0 "java/lang/AbstractStringBuilder" rfl (plainFor_of_name own_pn2) (fun m => ef_own_rm37 m a1) ?_
  intro p e s m below meth c s₁ hx hby hml hZ hown hnm hlk hrt X0 e0 N0
  have K0 := Keep.refl h0 []
  refine own_s s₁ m 1 #[own_r a1] [.ref a1] (fun t k => XS.aloadN X0.here hx rfl (hb hby d37_0) rfl (rfl) k) ?_
  obtain ⟨T101, X101, e101, st101⟩ := getF X0 hx hZ hown (host := "") (Or.inl (own_w hw 136 rfl)) Via.refl e0 Fn (g := (mkF m 1 #[own_r a1] [.ref a1])) rfl rfl (hb hby d37_1)
  refine own_s T101 m 4 #[own_r a1] [.int nn] (fun t k => st101 _ k) ?_
  exact own_retI X101 hx hlk hrt (hb hby d37_4) ⟨rfl, N0, e101⟩ (by decide) (by decide)
abbrev own_k36 := jdk_67_method_93_code
abbrev own_n23 : MethodName := ⟨"java/lang/StringBuilder", "length", "()I"⟩
theorem d36_0 : own_D own_k36 0 (.aload_n 0) 1 := by decide +kernel
theorem d36_1 : own_D own_k36 1 (.invokespecial 343) 3 := by decide +kernel
theorem d36_4 : own_D own_k36 4 (.ireturn) 1 := by decide +kernel
theorem ef_own_rm36 (m : MethodId) (a1 : Addr) : entryFrame m #[(.ref a1)] 1 = mkF m 0 #[own_r a1] [] := by first | (simp [entryFrame, mkF, argsToLocals, Value.category]; done) | rfl
def own_rm36_Q (Z : State) (a1 : Addr) (d : Addr) (LL : List Int32) (nn : Int32) (h0 : Heap) (n0 : Nat) (v : Option Value) (h : Heap) (L : List Loc) : Prop := v = some (.int (nn)) ∧ Fr n0 L ∧ h = h0
set_option maxRecDepth 65536 in
set_option maxHeartbeats 40000000 in
theorem own_rm36 (l : Launch) (Z : State) (a0 : Array Value) (hw : own_H a0 Z) (ws : List Jvm.Cond) (a1 d : Addr) (LL : List Int32) (nn : Int32) (h0 : Heap) (n0 : Nat) (Z0 : n0 ≤ h0.size) (E : Exa Z h0 a1 "java/lang/StringBuilder") (Fv : Fld Z h0 a1 "java/lang/AbstractStringBuilder" "value" "[B" (.ref d)) (Fc : Fld Z h0 a1 "java/lang/AbstractStringBuilder" "coder" "B" (.int 0)) (Fn : Fld Z h0 a1 "java/lang/AbstractStringBuilder" "count" "I" (.int nn)) (Ad : own_Ar Z h0 d .byte (LL.map Value.int)) (Ed : Exa Z h0 d "[B") : own_M l Z ws own_n23 own_k36 1 (some .int) (own_R 1 0 0 12) #[(.ref a1)] h0 (own_rm36_Q Z a1 d LL nn h0 n0) := by
  refine own_open n0 "java/lang/StringBuilder" rfl (plainFor_of_name own_pn3) (fun m => ef_own_rm36 m a1) ?_
  intro p e s m below meth c s₁ hx hby hml hZ hown hnm hlk hrt X0 e0 N0
  have K0 := Keep.refl h0 []
  refine own_s s₁ m 1 #[own_r a1] [.ref a1] (fun t k => XS.aloadN X0.here hx rfl (hb hby d36_0) rfl (rfl) k) ?_
  obtain ⟨v101, _, ⟨T101, L101, k101, n101⟩, -, X101, ⟨Lc101, hQ101, l101, y101, z101⟩, st101⟩ := superBack X0 hx hZ (y := (⟨"java/lang/AbstractStringBuilder", "length", "()I"⟩ : MethodName)) hown (own_w hw 209 rfl) (own_same (own_w hw 205 rfl) (own_nf (notFace_of_selects (args := a0) (own_w hw 141 rfl)) (own_w hw 139 rfl) rfl) (by decide)) (own_w hw 205 rfl) (own_w hw 128 rfl) (by decide) (backOf (W := 0) (own_rm37 l Z a0 hw [] a1 d LL nn h0 n0 (Nat.le_trans Z0 K0.1) E Fv Fc Fn Ad Ed) hZ (own_w hw 210 rfl) (own_w hw 113 rfl) (by decide) (by decide)) e0 (Ins.self E) (g := (mkF m 1 #[own_r a1] [.ref a1])) rfl (by rw [hml]; rfl) (own_w hw 210 rfl) (argsL := []) (rest := []) (lenOf own_pd12 rfl) rfl (by exact own_ca rfl) (hb hby d36_1) (fun _ _ => ⟨rfl, e0, (by decide : 0 + 0 ≤ _), (by decide : 0 + 0 ≤ _)⟩)
  dsimp only [Pt.U, Pt.locs, Pt.cells, Pt.slots] at X101 l101 y101 z101 st101 hQ101
  subst l101 y101 z101
  obtain ⟨rfl, N101q, e101⟩ := hQ101
  have N101 := Fr.app N0 N101q
  refine own_s T101 m 4 #[own_r a1] [.int nn] (fun t k => st101.trans k) ?_
  exact own_retI X101 hx hlk hrt (hb hby d36_4) ⟨rfl, N101, e101⟩ (by decide) (by decide)
abbrev own_k30 := jdk_68_method_68_code
abbrev own_n24 : MethodName := ⟨"java/lang/AbstractStringBuilder", "isLatin1", "()Z"⟩
theorem d30_0 : own_D own_k30 0 (.getstatic 18) 3 := by decide +kernel
theorem d30_3 : own_D own_k30 3 (.ifCond .eq 14) 3 := by decide +kernel
theorem d30_6 : own_D own_k30 6 (.aload_n 0) 1 := by decide +kernel
theorem d30_7 : own_D own_k30 7 (.getfield 22) 3 := by decide +kernel
theorem d30_10 : own_D own_k30 10 (.ifCond .ne 7) 3 := by decide +kernel
theorem d30_13 : own_D own_k30 13 (.iconst 1) 1 := by decide +kernel
theorem d30_14 : own_D own_k30 14 (.goto 4) 3 := by decide +kernel
theorem d30_18 : own_D own_k30 18 (.ireturn) 1 := by decide +kernel
theorem ef_own_rm30 (m : MethodId) (a1 : Addr) : entryFrame m #[(.ref a1)] 1 = mkF m 0 #[own_r a1] [] := by first | (simp [entryFrame, mkF, argsToLocals, Value.category]; done) | rfl
def own_rm30_Q (Z : State) (a1 : Addr) (d : Addr) (LL : List Int32) (nn : Int32) (cs : Int32) (h0 : Heap) (n0 : Nat) (v : Option Value) (h : Heap) (L : List Loc) : Prop := v = some (.int ((1 : Int32))) ∧ Fr n0 L ∧ h = h0
set_option maxRecDepth 65536 in
set_option maxHeartbeats 40000000 in
theorem own_rm30 (l : Launch) (Z : State) (a0 : Array Value) (hw : own_H a0 Z) (ws : List Jvm.Cond) (a1 d : Addr) (LL : List Int32) (nn cs : Int32) (h0 : Heap) (n0 : Nat) (Z0 : n0 ≤ h0.size) (E : Exa Z h0 a1 "java/lang/StringBuilder") (Fv : Fld Z h0 a1 "java/lang/AbstractStringBuilder" "value" "[B" (.ref d)) (Fc : Fld Z h0 a1 "java/lang/AbstractStringBuilder" "coder" "B" (.int 0)) (Fn : Fld Z h0 a1 "java/lang/AbstractStringBuilder" "count" "I" (.int nn)) (Ad : own_Ar Z h0 d .byte (LL.map Value.int)) (Ed : Exa Z h0 d "[B") (CS : Sta Z h0 "java/lang/String" "COMPACT_STRINGS" "Z" (.int cs)) (hcs : ¬ cs = 0) : own_M l Z ws own_n24 own_k30 1 (some .boolean) (own_R 0 0 0 0) #[(.ref a1)] h0 (own_rm30_Q Z a1 d LL nn cs h0 n0) := by
  refine own_open n0 "java/lang/AbstractStringBuilder" rfl (plainFor_of_name own_pn2) (fun m => ef_own_rm30 m a1) ?_
  intro p e s m below meth c s₁ hx hby hml hZ hown hnm hlk hrt X0 e0 N0
  have K0 := Keep.refl h0 []
  obtain ⟨T101, X101, e101, st101⟩ := getS X0 hx hZ hown (host := "") (own_w hw 116 rfl) Via.refl e0 CS (g := (mkF m 0 #[own_r a1] [])) rfl (hb hby d30_0)
  refine own_s T101 m 7 #[own_r a1] [.ref a1] (fun t k => st101 _ (XS.ifNo X101.here hx rfl (hb hby d30_3) rfl (XT.i0_eq_f hcs) (XS.aloadN X101.here hx rfl (hb hby d30_6) rfl (rfl) k))) ?_
  obtain ⟨T102, X102, e102, st102⟩ := getF X101 hx hZ hown (host := "") (Or.inl (own_w hw 119 rfl)) Via.refl e101 Fc (g := (mkF m 7 #[own_r a1] [.ref a1])) rfl rfl (hb hby d30_7)
  refine own_s T102 m 18 #[own_r a1] [.int 1] (fun t k => st102 _ (XS.ifNo X102.here hx rfl (hb hby d30_10) rfl (XT.i0_ne_f (by decide)) (XS.iconst X102.here hx rfl (hb hby d30_13) (XS.goto X102.here hx rfl (pc0 := 14) (pc' := 18) rfl (hb hby d30_14) (by decide) (by decide) k)))) ?_
  exact own_retB X102 hx hlk (t := .boolean) hrt (by simp) (hb hby d30_18) ⟨rfl, N0, e102⟩ (by decide) (by decide)
abbrev own_k40 := jdk_65_method_131_code
abbrev own_n25 : MethodName := ⟨"java/util/Arrays", "checkLength", "(II)V"⟩
theorem d40_0 : own_D own_k40 0 (.iload_n 1) 1 := by decide +kernel
theorem d40_1 : own_D own_k40 1 (.iload_n 0) 1 := by decide +kernel
theorem d40_2 : own_D own_k40 2 (.if_icmp .ge 35) 3 := by decide +kernel
theorem d40_37 : own_D own_k40 37 (.return_) 1 := by decide +kernel
theorem ef_own_rm40 (m : MethodId) (p1 : Int32) (p2 : Int32) : entryFrame m #[(.int p1), (.int p2)] 2 = mkF m 0 #[own_i p1, own_i p2] [] := by first | (simp [entryFrame, mkF, argsToLocals, Value.category]; done) | rfl
def own_rm40_Q (Z : State) (p1 : Int32) (p2 : Int32)  (h0 : Heap) (n0 : Nat) (v : Option Value) (h : Heap) (L : List Loc) : Prop := v = none ∧ Fr n0 L ∧ h = h0
set_option maxRecDepth 65536 in
set_option maxHeartbeats 40000000 in
theorem own_rm40 (l : Launch) (Z : State) (a0 : Array Value) (hw : own_H a0 Z) (ws : List Jvm.Cond) (p1 p2 : Int32) (h0 : Heap) (n0 : Nat) (Z0 : n0 ≤ h0.size) (hp : ¬ p2 < p1) : own_M l Z ws own_n25 own_k40 2 none (own_R 0 0 0 0) #[(.int p1), (.int p2)] h0 (own_rm40_Q Z p1 p2  h0 n0) := by
  refine own_open n0 "java/util/Arrays" rfl (plainFor_of_name own_pn5) (fun m => ef_own_rm40 m p1 p2) ?_
  intro p e s m below meth c s₁ hx hby hml hZ hown hnm hlk hrt X0 e0 N0
  have K0 := Keep.refl h0 []
  refine own_s s₁ m 37 #[own_i p1, own_i p2] [] (fun t k => XS.iloadN X0.here hx rfl (hb hby d40_0) rfl (XS.iloadN X0.here hx rfl (hb hby d40_1) rfl (XS.icmpYes X0.here hx rfl (pc0 := 2) (pc' := 37) rfl (hb hby d40_2) rfl (XT.ii_ge_t hp) (by decide) (by decide) k))) ?_
  exact own_retV X0 hx hlk hrt (hb hby d40_37) ⟨rfl, N0, e0⟩ (by decide) (by decide)
theorem own_sub0 (x : Int32) : x - 0 = x := Int32.sub_zero x
theorem own_minle {a b : Nat} (h : b ≤ a) (ha : a < 2147483648) : own_min a.toInt32 b.toInt32 = b.toInt32 := by
  unfold own_min; split
  · rfl
  · rename_i q
    have : ¬ b < a := fun r => q ((own_nltS (Nat.le_of_lt r) ha).mpr r)
    rw [show a = b by omega]
theorem own_cut {L : List Int32} {k : Nat} (h : k ≤ L.length) : (List.replicate k (0 : Int32)).take 0 ++ L.take k ++ (List.replicate k (0 : Int32)).drop (0 + k) = L.take k := by
  rw [List.take_zero, List.nil_append, Nat.zero_add, List.drop_eq_nil_of_le (by rw [List.length_replicate]; exact Nat.le_refl _), List.append_nil]
theorem own_reps (k : Nat) : List.replicate k (Value.int 0) = (List.replicate k (0 : Int32)).map Value.int := by rw [List.map_replicate]
theorem own_pd15 : parseMethodDescriptor "(II)V" = some ⟨[.int, .int], none⟩ := by decide +kernel
abbrev own_k39 := jdk_65_method_133_code
abbrev own_n26 : MethodName := ⟨"java/util/Arrays", "copyOfRangeByte", "([BII)[B"⟩
theorem d39_0 : own_D own_k39 0 (.iload_n 1) 1 := by decide +kernel
theorem d39_1 : own_D own_k39 1 (.iload_n 2) 1 := by decide +kernel
theorem d39_2 : own_D own_k39 2 (.invokestatic 343) 3 := by decide +kernel
theorem d39_5 : own_D own_k39 5 (.iload_n 2) 1 := by decide +kernel
theorem d39_6 : own_D own_k39 6 (.iload_n 1) 1 := by decide +kernel
theorem d39_7 : own_D own_k39 7 (.isub) 1 := by decide +kernel
theorem d39_8 : own_D own_k39 8 (.istore_n 3) 1 := by decide +kernel
theorem d39_9 : own_D own_k39 9 (.iload_n 3) 1 := by decide +kernel
theorem d39_10 : own_D own_k39 10 (.newarray .byte) 2 := by decide +kernel
theorem d39_12 : own_D own_k39 12 (.astore 4) 2 := by decide +kernel
theorem d39_14 : own_D own_k39 14 (.aload_n 0) 1 := by decide +kernel
theorem d39_15 : own_D own_k39 15 (.iload_n 1) 1 := by decide +kernel
theorem d39_16 : own_D own_k39 16 (.aload 4) 2 := by decide +kernel
theorem d39_18 : own_D own_k39 18 (.iconst 0) 1 := by decide +kernel
theorem d39_19 : own_D own_k39 19 (.aload_n 0) 1 := by decide +kernel
theorem d39_20 : own_D own_k39 20 (.arraylength) 1 := by decide +kernel
theorem d39_21 : own_D own_k39 21 (.iload_n 1) 1 := by decide +kernel
theorem d39_22 : own_D own_k39 22 (.isub) 1 := by decide +kernel
theorem d39_23 : own_D own_k39 23 (.iload_n 3) 1 := by decide +kernel
theorem d39_24 : own_D own_k39 24 (.invokestatic 304) 3 := by decide +kernel
theorem d39_27 : own_D own_k39 27 (.invokestatic 150) 3 := by decide +kernel
theorem d39_30 : own_D own_k39 30 (.aload 4) 2 := by decide +kernel
theorem d39_32 : own_D own_k39 32 (.areturn) 1 := by decide +kernel
theorem ef_own_rm39 (m : MethodId) (a1 : Addr) (p1 : Int32) (p2 : Int32) : entryFrame m #[(.ref a1), (.int p1), (.int p2)] 5 = mkF m 0 #[own_r a1, own_i p1, own_i p2, .unset, .unset] [] := by first | (simp [entryFrame, mkF, argsToLocals, Value.category]; done) | rfl
def own_rm39_Q (Z : State) (a1 : Addr) (p1 : Int32) (p2 : Int32) (LL : List Int32) (kk : Nat) (h0 : Heap) (n0 : Nat) (v : Option Value) (h : Heap) (L : List Loc) : Prop := ∃ b : Addr, v = some (.ref b) ∧ Fr n0 L ∧ h0.size ≤ b ∧ Keep h0 h [] ∧ own_Ar Z h b .byte ((LL.take kk).map Value.int)
set_option maxRecDepth 65536 in
set_option maxHeartbeats 40000000 in
theorem own_rm39 (l : Launch) (Z : State) (a0 : Array Value) (hw : own_H a0 Z) (ws : List Jvm.Cond) (a1 : Addr) (p1 p2 : Int32) (LL : List Int32) (kk : Nat) (h0 : Heap) (n0 : Nat) (Z0 : n0 ≤ h0.size) (A_a1 : own_Ar Z h0 a1 .byte (LL.map Value.int)) (hbt : own_by LL) (hkk : kk ≤ LL.length) (hlt : LL.length ≤ 34) (E_a1 : Exa Z h0 a1 "[B") (hp1 : p1 = 0) (hp2 : p2 = kk.toInt32) : own_M l Z ws own_n26 own_k39 5 (some (.array .byte)) (own_R 1 1 34 18) #[(.ref a1), (.int p1), (.int p2)] h0 (own_rm39_Q Z a1 p1 p2 LL kk h0 n0) := by
  refine own_open n0 "java/util/Arrays" rfl (plainFor_of_name own_pn5) (fun m => ef_own_rm39 m a1 p1 p2) ?_
  intro p e s m below meth c s₁ hx hby hml hZ hown hnm hlk hrt X0 e0 N0
  have K0 := Keep.refl h0 []
  subst hp1 hp2
  refine own_s s₁ m 2 #[own_r a1, own_i 0, own_i (kk.toInt32), .unset, .unset] [.int (kk.toInt32), .int 0] (fun t k => XS.iloadN X0.here hx rfl (hb hby d39_0) rfl (XS.iloadN X0.here hx rfl (hb hby d39_1) rfl k)) ?_
  obtain ⟨v101, _, ⟨T101, L101, k101, n101⟩, -, X101, ⟨Lc101, hQ101, l101, y101, z101⟩, st101⟩ := Jvm.LawKit.callS X0 hx (y := own_n25) hown (mvT hZ (own_w hw 219 rfl)) (mvT hZ (own_w hw 220 rfl)) (mvT hZ (own_w hw 214 rfl)) (mvT hZ (own_w hw 221 rfl)) (by decide) (backOf (W := 0) (own_rm40 l Z a0 hw [] (0 : Int32) (kk.toInt32) h0 n0 (Nat.le_trans Z0 K0.1) (own_nnS (by omega : kk < 2147483648))) hZ (own_w hw 221 rfl) (own_w hw 214 rfl) (by decide) (by decide)) (g := (mkF m 2 #[own_r a1, own_i 0, own_i (kk.toInt32), .unset, .unset] [.int (kk.toInt32), .int 0])) rfl (by rw [hml]; rfl) (argsL := [.int 0, .int (kk.toInt32)]) (rest := []) (lenOf own_pd15 rfl) rfl (by exact own_ca rfl) (hb hby d39_2) (fun _ _ => ⟨rfl, e0, (by decide : 0 + 0 ≤ _), (by decide : 0 + 0 ≤ _)⟩)
  dsimp only [Pt.U, Pt.locs, Pt.cells, Pt.slots] at X101 l101 y101 z101 st101 hQ101
  subst l101 y101 z101
  obtain ⟨rfl, N101q, e101⟩ := hQ101
  have N101 := Fr.app N0 N101q
  refine own_s T101 m 8 #[own_r a1, own_i 0, own_i (kk.toInt32), .unset, .unset] [.int ((kk.toInt32) - (0 : Int32))] (fun t k => st101 _ (XS.iloadN X101.here hx rfl (hb hby d39_5) rfl (XS.iloadN X101.here hx rfl (hb hby d39_6) rfl (XS.isub X101.here hx rfl (hb hby d39_7) rfl k)))) ?_
  rw [own_sub0]
  refine own_s T101 m 10 #[own_r a1, own_i 0, own_i (kk.toInt32), own_i kk.toInt32, .unset] [.int kk.toInt32] (fun t k => XS.istoreN X101.here hx rfl (hb hby d39_8) rfl (l' := #[own_r a1, own_i 0, own_i (kk.toInt32), own_i kk.toInt32, .unset]) rfl (XS.iloadN X101.here hx rfl (hb hby d39_9) rfl k)) ?_
  obtain ⟨T102, h102, X102, e102, E102, A102, Ex102, st102⟩ := own_newPE X101 hx hZ (own_w hw 19 rfl) e101 (g := (mkF m 10 #[own_r a1, own_i 0, own_i (kk.toInt32), own_i kk.toInt32, .unset] [.int kk.toInt32])) rfl (hb hby d39_10) rfl (own_nnS (by omega : kk < 2147483648)) (cap := 34) (by rw [own_ixS (by omega : kk < 2147483648)]; omega) (by decide) (by decide) (by decide)
  obtain ⟨b102, g102⟩ : ∃ z, z = h0.size := ⟨_, rfl⟩
  rw [← g102] at A102 st102 Ex102
  have V102 : own_Ar Z h102 b102 .byte (List.replicate (kk.toInt32).toNatClampNeg (.int 0)) := A102
  have ne_a1_b102 := own_ne A_a1.lt (Nat.le_of_eq g102.symm)
  have sz_b102 : h0.size ≤ b102 := Nat.le_trans K0.1 (Nat.le_of_eq g102.symm)
  have g_b102 : n0 ≤ b102 := Nat.le_trans Z0 sz_b102
  have Kc102 : Keep h0 h102 [] := K0.ext E102
  refine own_s T102 m 12 #[own_r a1, own_i 0, own_i (kk.toInt32), own_i kk.toInt32, .unset] [.ref b102] (fun t k => st102 _ k) ?_
  have VZ : own_Ar Z h102 b102 .byte ((List.replicate kk (0 : Int32)).map Value.int) := by have q := V102; rw [own_ixS (by omega : kk < 2147483648), own_reps] at q; exact q
  refine own_s T102 m 18 #[own_r a1, own_i 0, own_i (kk.toInt32), own_i kk.toInt32, own_r b102] [.ref b102, .int 0, .ref a1] (fun t k => XS.astore X102.here hx rfl (hb hby d39_12) rfl (rfl) (l' := #[own_r a1, own_i 0, own_i (kk.toInt32), own_i kk.toInt32, own_r b102]) rfl (XS.aloadN X102.here hx rfl (hb hby d39_14) rfl (rfl) (XS.iloadN X102.here hx rfl (hb hby d39_15) rfl (XS.aload X102.here hx rfl (hb hby d39_16) rfl (rfl) k)))) ?_
  refine own_s T102 m 22 #[own_r a1, own_i 0, own_i (kk.toInt32), own_i kk.toInt32, own_r b102] [.int 0, .int LL.length.toInt32, .int 0, .ref b102, .int 0, .ref a1] (fun t k => XS.iconst X102.here hx rfl (hb hby d39_18) (XS.aloadN X102.here hx rfl (hb hby d39_19) rfl (rfl) (own_len X102 hx hZ e102 (A_a1.keep Kc102 nin0) (n := LL.length.toInt32) (by rw [List.length_map]) (g := (mkF m 20 #[own_r a1, own_i 0, own_i (kk.toInt32), own_i kk.toInt32, own_r b102] [.ref a1, .int 0, .ref b102, .int 0, .ref a1])) rfl rfl (hb hby d39_20) _ (XS.iloadN X102.here hx rfl (hb hby d39_21) rfl k)))) ?_
  refine own_s T102 m 23 #[own_r a1, own_i 0, own_i (kk.toInt32), own_i kk.toInt32, own_r b102] [.int (LL.length.toInt32 - (0 : Int32)), .int 0, .ref b102, .int 0, .ref a1] (fun t k => XS.isub X102.here hx rfl (hb hby d39_22) rfl k) ?_
  rw [own_sub0]
  refine own_s T102 m 24 #[own_r a1, own_i 0, own_i (kk.toInt32), own_i kk.toInt32, own_r b102] [.int kk.toInt32, .int LL.length.toInt32, .int 0, .ref b102, .int 0, .ref a1] (fun t k => XS.iloadN X102.here hx rfl (hb hby d39_23) rfl k) ?_
  obtain ⟨v103, _, ⟨T103, L103, k103, n103⟩, -, X103, ⟨Lc103, hQ103, l103, y103, z103⟩, st103⟩ := Jvm.LawKit.callS X102 hx (y := own_n9) hown (mvT hZ (own_w hw 222 rfl)) (mvT hZ (own_w hw 223 rfl)) (mvT hZ (own_w hw 224 rfl)) (mvT hZ (own_w hw 225 rfl)) (by decide) (backOf (W := 4) (own_rm41 l Z a0 hw [] LL.length.toInt32 kk.toInt32 h102 n0 (Nat.le_trans Z0 Kc102.1) ) hZ (own_w hw 225 rfl) (own_w hw 224 rfl) (by decide) (by decide)) (g := (mkF m 24 #[own_r a1, own_i 0, own_i (kk.toInt32), own_i kk.toInt32, own_r b102] [.int kk.toInt32, .int LL.length.toInt32, .int 0, .ref b102, .int 0, .ref a1])) rfl (by rw [hml]; rfl) (argsL := [.int LL.length.toInt32, .int kk.toInt32]) (rest := [.int 0, .ref b102, .int 0, .ref a1]) (lenOf own_pd6 rfl) rfl (by exact own_ca rfl) (hb hby d39_24) (fun _ _ => ⟨rfl, e102, (by decide : 1 + 0 ≤ _), (by decide : 34 + 0 ≤ _)⟩)
  dsimp only [Pt.U, Pt.locs, Pt.cells, Pt.slots] at X103 l103 y103 z103 st103 hQ103
  subst l103 y103 z103
  obtain ⟨rfl, N103q, e103⟩ := hQ103
  have N103 := Fr.app N101 N103q
  refine own_s T103 m 27 #[own_r a1, own_i 0, own_i (kk.toInt32), own_i kk.toInt32, own_r b102] [.int (own_min LL.length.toInt32 kk.toInt32), .int 0, .ref b102, .int 0, .ref a1] (fun t k => st103 _ k) ?_
  rw [own_minle hkk (by omega)]
  obtain ⟨T104, h104, L104, X104, e104, N104, K104, V104', st104⟩ := own_cp X103 hx hZ hown (own_w hw 226 rfl) (own_w hw 162 rfl) (own_w hw 160 rfl) (own_w hw 161 rfl) e103 (A := LL) (B := (List.replicate kk (0 : Int32))) (j := 0) (n := kk) (A_a1.keep Kc102 nin0) VZ hbt (own_by.rep kk) rfl rfl hkk (by rw [List.length_replicate]; omega) (by omega) (by rw [List.length_replicate]; omega) N103 g_b102 (g := (mkF m 27 #[own_r a1, own_i 0, own_i (kk.toInt32), own_i kk.toInt32, own_r b102] [.int kk.toInt32, .int 0, .ref b102, .int 0, .ref a1])) rfl (by rw [hml]; rfl) rfl (hb hby d39_27) (by decide) (W := 0) (by exact own_ca rfl) (by decide)
  have Kc104 : Keep h0 h104 [] := Kc102.trans K104 (allS (Or.inr sz_b102) all0)
  have V104 : own_Ar Z h104 b102 .byte ((LL.take kk).map Value.int) := by have q := V104'; rw [own_cut hkk] at q; exact q
  refine own_s T104 m 32 #[own_r a1, own_i 0, own_i (kk.toInt32), own_i kk.toInt32, own_r b102] [.ref b102] (fun t k => st104 _ (XS.aload X104.here hx rfl (hb hby d39_30) rfl (rfl) k)) ?_
  have eE : T104.heap = h104 := e104
  exact own_retA X104 hx hlk (rfl) hrt rfl (hb hby d39_32) ⟨b102, rfl, N104, sz_b102, (by rw [eE]; exact Kc104), (by rw [eE]; exact V104)⟩ (by decide) (by decide)
theorem own_pd16 : parseMethodDescriptor "([BII)[B" = some ⟨[(.array .byte), .int, .int], some (.array .byte)⟩ := by decide +kernel
abbrev own_k38 := jdk_65_method_132_code
abbrev own_n27 : MethodName := ⟨"java/util/Arrays", "copyOfRange", "([BII)[B"⟩
theorem d38_0 : own_D own_k38 0 (.iload_n 1) 1 := by decide +kernel
theorem d38_1 : own_D own_k38 1 (.ifCond .ne 9) 3 := by decide +kernel
theorem d38_4 : own_D own_k38 4 (.iload_n 2) 1 := by decide +kernel
theorem d38_5 : own_D own_k38 5 (.aload_n 0) 1 := by decide +kernel
theorem d38_6 : own_D own_k38 6 (.arraylength) 1 := by decide +kernel
theorem d38_7 : own_D own_k38 7 (.if_icmp .eq 10) 3 := by decide +kernel
theorem d38_10 : own_D own_k38 10 (.aload_n 0) 1 := by decide +kernel
theorem d38_11 : own_D own_k38 11 (.iload_n 1) 1 := by decide +kernel
theorem d38_12 : own_D own_k38 12 (.iload_n 2) 1 := by decide +kernel
theorem d38_13 : own_D own_k38 13 (.invokestatic 339) 3 := by decide +kernel
theorem d38_16 : own_D own_k38 16 (.areturn) 1 := by decide +kernel
theorem d38_17 : own_D own_k38 17 (.aload_n 0) 1 := by decide +kernel
theorem d38_18 : own_D own_k38 18 (.invokevirtual 310) 3 := by decide +kernel
theorem d38_21 : own_D own_k38 21 (.checkcast 311) 3 := by decide +kernel
theorem d38_24 : own_D own_k38 24 (.areturn) 1 := by decide +kernel
theorem ef_own_rm38 (m : MethodId) (a1 : Addr) (p1 : Int32) (p2 : Int32) : entryFrame m #[(.ref a1), (.int p1), (.int p2)] 3 = mkF m 0 #[own_r a1, own_i p1, own_i p2] [] := by first | (simp [entryFrame, mkF, argsToLocals, Value.category]; done) | rfl
def own_rm38_Q (Z : State) (a1 : Addr) (p1 : Int32) (p2 : Int32) (LL : List Int32) (kk : Nat) (h0 : Heap) (n0 : Nat) (v : Option Value) (h : Heap) (L : List Loc) : Prop := ∃ b : Addr, v = some (.ref b) ∧ Fr n0 L ∧ h0.size ≤ b ∧ Keep h0 h [] ∧ own_Ar Z h b .byte ((LL.take kk).map Value.int)
set_option maxRecDepth 65536 in
set_option maxHeartbeats 40000000 in
theorem own_rm38 (l : Launch) (Z : State) (a0 : Array Value) (hw : own_H a0 Z) (ws : List Jvm.Cond) (a1 : Addr) (p1 p2 : Int32) (LL : List Int32) (kk : Nat) (h0 : Heap) (n0 : Nat) (Z0 : n0 ≤ h0.size) (A_a1 : own_Ar Z h0 a1 .byte (LL.map Value.int)) (hbt : own_by LL) (hkk : kk ≤ LL.length) (hlt : LL.length ≤ 34) (E_a1 : Exa Z h0 a1 "[B") (hp1 : p1 = 0) (hp2 : p2 = kk.toInt32) : own_M l Z ws own_n27 own_k38 3 (some (.array .byte)) (own_R 2 1 34 34) #[(.ref a1), (.int p1), (.int p2)] h0 (own_rm38_Q Z a1 p1 p2 LL kk h0 n0) := by
  refine own_open n0 "java/util/Arrays" rfl (plainFor_of_name own_pn5) (fun m => ef_own_rm38 m a1 p1 p2) ?_
  intro p e s m below meth c s₁ hx hby hml hZ hown hnm hlk hrt X0 e0 N0
  have K0 := Keep.refl h0 []
  subst hp1 hp2
  refine own_s s₁ m 6 #[own_r a1, own_i 0, own_i (kk.toInt32)] [.ref a1, .int (kk.toInt32)] (fun t k => XS.iloadN X0.here hx rfl (hb hby d38_0) rfl (XS.ifNo X0.here hx rfl (hb hby d38_1) rfl (XT.i0_ne_f (by decide)) (XS.iloadN X0.here hx rfl (hb hby d38_4) rfl (XS.aloadN X0.here hx rfl (hb hby d38_5) rfl (rfl) k)))) ?_
  refine own_s s₁ m 7 #[own_r a1, own_i 0, own_i (kk.toInt32)] [.int LL.length.toInt32, .int (kk.toInt32)] (fun t k => own_len X0 hx hZ e0 A_a1 (n := LL.length.toInt32) (by rw [List.length_map]) (g := (mkF m 6 #[own_r a1, own_i 0, own_i (kk.toInt32)] [.ref a1, .int (kk.toInt32)])) rfl rfl (hb hby d38_6) _ k) ?_
  by_cases hc7_101 : (kk.toInt32) = LL.length.toInt32
  · refine own_s s₁ m 18 #[own_r a1, own_i 0, own_i (kk.toInt32)] [.ref a1] (fun t k => XS.icmpYes X0.here hx rfl (pc0 := 7) (pc' := 17) rfl (hb hby d38_7) rfl (XT.ii_eq_t hc7_101) (by decide) (by decide) (XS.aloadN X0.here hx rfl (hb hby d38_17) rfl (rfl) k)) ?_
    obtain ⟨T102, h102, X102, e102, E102, A102, B102, st102⟩ := own_cloneB X0 hx hZ hown (own_w hw 303 rfl) (own_w hw 304 rfl) (own_w hw 308 rfl) (own_w hw 306 rfl) (own_w hw 307 rfl) (own_w hw 309 rfl) e0 A_a1 hbt E_a1 (g := (mkF m 18 #[own_r a1, own_i 0, own_i (kk.toInt32)] [.ref a1])) rfl (by rw [hml]; rfl) rfl (hb hby d38_18) (by decide) (W := 0) (cap := 34) (by exact own_ca rfl) (by decide) hlt (by decide) (by decide)
    obtain ⟨b102, g102⟩ : ∃ z, z = h0.size := ⟨_, rfl⟩
    rw [← g102] at A102 B102 st102
    have ne_a1_b102 := own_ne A_a1.lt (Nat.le_of_eq g102.symm)
    have sz_b102 : h0.size ≤ b102 := Nat.le_trans K0.1 (Nat.le_of_eq g102.symm)
    have g_b102 : n0 ≤ b102 := Nat.le_trans Z0 sz_b102
    have Kc102 : Keep h0 h102 [] := K0.ext E102
    refine own_s T102 m 21 #[own_r a1, own_i 0, own_i (kk.toInt32)] [.ref b102] (fun t k => st102 _ k) ?_
    obtain ⟨T103, X103, e103, st103⟩ := castY X102 hx hZ hown (own_w hw 310 rfl) e102 (Ins.self B102) (g := (mkF m 21 #[own_r a1, own_i 0, own_i (kk.toInt32)] [.ref b102])) rfl rfl (hb hby d38_21)
    refine own_s T103 m 24 #[own_r a1, own_i 0, own_i (kk.toInt32)] [.ref b102] (fun t k => st103 _ k) ?_
    have eE : T103.heap = h102 := e103
    exact own_retA X103 hx hlk (rfl) hrt rfl (hb hby d38_24) ⟨b102, rfl, N0, sz_b102, (by rw [eE]; exact Kc102), (by rw [eE, List.take_of_length_le (Nat.le_of_eq (own_leneq (by omega) (by omega) hc7_101.symm))]; exact A102)⟩ (by decide) (by decide)
  · refine own_s s₁ m 13 #[own_r a1, own_i 0, own_i (kk.toInt32)] [.int (kk.toInt32), .int 0, .ref a1] (fun t k => XS.icmpNo X0.here hx rfl (hb hby d38_7) rfl (XT.ii_eq_f hc7_101) (XS.aloadN X0.here hx rfl (hb hby d38_10) rfl (rfl) (XS.iloadN X0.here hx rfl (hb hby d38_11) rfl (XS.iloadN X0.here hx rfl (hb hby d38_12) rfl k)))) ?_
    obtain ⟨v104, _, ⟨T104, L104, k104, n104⟩, -, X104, ⟨Lc104, hQ104, l104, y104, z104⟩, st104⟩ := Jvm.LawKit.callS X0 hx (y := own_n26) hown (mvT hZ (own_w hw 216 rfl)) (mvT hZ (own_w hw 217 rfl)) (mvT hZ (own_w hw 214 rfl)) (mvT hZ (own_w hw 218 rfl)) (by decide) (backOf (W := 0) (own_rm39 l Z a0 hw [] a1 (0 : Int32) (kk.toInt32) LL kk h0 n0 (Nat.le_trans Z0 K0.1) A_a1 hbt hkk hlt E_a1 rfl rfl) hZ (own_w hw 218 rfl) (own_w hw 214 rfl) (by decide) (by decide)) (g := (mkF m 13 #[own_r a1, own_i 0, own_i (kk.toInt32)] [.int (kk.toInt32), .int 0, .ref a1])) rfl (by rw [hml]; rfl) (argsL := [.ref a1, .int 0, .int (kk.toInt32)]) (rest := []) (lenOf own_pd16 rfl) rfl (by exact own_ca rfl) (hb hby d38_13) (fun _ _ => ⟨rfl, e0, (by decide : 0 + 1 ≤ _), (by decide : 0 + 34 ≤ _)⟩)
    dsimp only [Pt.U, Pt.locs, Pt.cells, Pt.slots] at X104 l104 y104 z104 st104 hQ104
    subst l104 y104 z104
    obtain ⟨b104, rfl, N104q, szq104, K104, V104⟩ := hQ104
    have ne_a1_b104 := own_ne A_a1.lt szq104
    have Kc104 : Keep h0 T104.heap [] := K0.trans K104 all0
    have sz_b104 : h0.size ≤ b104 := Nat.le_trans K0.1 szq104
    have N104 := Fr.app N0 N104q
    refine own_s T104 m 16 #[own_r a1, own_i 0, own_i (kk.toInt32)] [.ref b104] (fun t k => st104 _ k) ?_
    have eE : T104.heap = T104.heap := rfl
    exact own_retA X104 hx hlk (rfl) hrt rfl (hb hby d38_16) ⟨b104, rfl, N104, sz_b104, (by rw [eE]; exact Kc104), (by rw [eE]; exact V104)⟩ (by decide) (by decide)
theorem own_pd17 : parseMethodDescriptor "()[B" = some ⟨[], some (.array .byte)⟩ := by decide +kernel
theorem own_pd18 : parseMethodDescriptor "()Z" = some ⟨[], some .boolean⟩ := by decide +kernel
abbrev own_k34 := jdk_42_method_150_code
abbrev own_n28 : MethodName := ⟨"java/lang/String", "<init>", "(Ljava/lang/AbstractStringBuilder;Ljava/lang/Void;)V"⟩
theorem d34_0 : own_D own_k34 0 (.aload_n 0) 1 := by decide +kernel
theorem d34_1 : own_D own_k34 1 (.invokespecial 1) 3 := by decide +kernel
theorem d34_4 : own_D own_k34 4 (.aload_n 1) 1 := by decide +kernel
theorem d34_5 : own_D own_k34 5 (.invokevirtual 552) 3 := by decide +kernel
theorem d34_8 : own_D own_k34 8 (.astore_n 3) 1 := by decide +kernel
theorem d34_9 : own_D own_k34 9 (.aload_n 1) 1 := by decide +kernel
theorem d34_10 : own_D own_k34 10 (.invokevirtual 549) 3 := by decide +kernel
theorem d34_13 : own_D own_k34 13 (.istore 4) 2 := by decide +kernel
theorem d34_15 : own_D own_k34 15 (.aload_n 1) 1 := by decide +kernel
theorem d34_16 : own_D own_k34 16 (.invokevirtual 1047) 3 := by decide +kernel
theorem d34_19 : own_D own_k34 19 (.ifCond .eq 22) 3 := by decide +kernel
theorem d34_22 : own_D own_k34 22 (.aload_n 0) 1 := by decide +kernel
theorem d34_23 : own_D own_k34 23 (.iconst 0) 1 := by decide +kernel
theorem d34_24 : own_D own_k34 24 (.putfield 15) 3 := by decide +kernel
theorem d34_27 : own_D own_k34 27 (.aload_n 0) 1 := by decide +kernel
theorem d34_28 : own_D own_k34 28 (.aload_n 3) 1 := by decide +kernel
theorem d34_29 : own_D own_k34 29 (.iconst 0) 1 := by decide +kernel
theorem d34_30 : own_D own_k34 30 (.iload 4) 2 := by decide +kernel
theorem d34_32 : own_D own_k34 32 (.invokestatic 54) 3 := by decide +kernel
theorem d34_35 : own_D own_k34 35 (.putfield 9) 3 := by decide +kernel
theorem d34_38 : own_D own_k34 38 (.goto 59) 3 := by decide +kernel
theorem d34_97 : own_D own_k34 97 (.return_) 1 := by decide +kernel
theorem ef_own_rm34 (m : MethodId) (a1 : Addr) (a2 : Addr) : entryFrame m #[(.ref a1), (.ref a2), .null] 5 = mkF m 0 #[own_r a1, own_r a2, .val .null, .unset, .unset] [] := by first | (simp [entryFrame, mkF, argsToLocals, Value.category]; done) | rfl
def own_rm34_Q (Z : State) (a1 : Addr) (a2 : Addr) (cs : Int32) (d : Addr) (BB : List Int32) (PP : List Int32) (h0 : Heap) (n0 : Nat) (v : Option Value) (h : Heap) (L : List Loc) : Prop := v = none ∧ Fr n0 L ∧ Keep h0 h [a1] ∧ Exa Z h a1 "java/lang/String" ∧ Fld Z h a1 "java/lang/String" "coder" "B" (.int 0) ∧ ∃ e1 : Addr, h0.size ≤ e1 ∧ Fld Z h a1 "java/lang/String" "value" "[B" (.ref e1) ∧ own_Ar Z h e1 .byte (BB.map Value.int)
set_option maxRecDepth 65536 in
set_option maxHeartbeats 40000000 in
theorem own_rm34 (l : Launch) (Z : State) (a0 : Array Value) (hw : own_H a0 Z) (ws : List Jvm.Cond) (a1 a2 : Addr) (cs : Int32) (d : Addr) (BB PP : List Int32) (h0 : Heap) (n0 : Nat) (Z0 : n0 ≤ h0.size) (CS : Sta Z h0 "java/lang/String" "COMPACT_STRINGS" "Z" (.int cs)) (hcs : ¬ cs = 0) (E_a1 : Exa Z h0 a1 "java/lang/String") (Fc0 : Fld Z h0 a1 "java/lang/String" "coder" "B" (.int 0)) (Fv0 : Fld Z h0 a1 "java/lang/String" "value" "[B" .null) (g_a1 : n0 ≤ a1) (E : Exa Z h0 a2 "java/lang/StringBuilder") (Fv : Fld Z h0 a2 "java/lang/AbstractStringBuilder" "value" "[B" (.ref d)) (Fc : Fld Z h0 a2 "java/lang/AbstractStringBuilder" "coder" "B" (.int 0)) (Fn : Fld Z h0 a2 "java/lang/AbstractStringBuilder" "count" "I" (.int BB.length.toInt32)) (Ad : own_Ar Z h0 d .byte ((BB ++ PP).map Value.int)) (Ed : Exa Z h0 d "[B") (hbt : own_by (BB ++ PP)) (hlt : (BB ++ PP).length ≤ 34) (hn2 : a2 ≠ a1) (hn3 : d ≠ a1) : own_M l Z ws own_n28 own_k34 5 none (own_R 3 1 34 49) #[(.ref a1), (.ref a2), .null] h0 (own_rm34_Q Z a1 a2 cs d BB PP h0 n0) := by
  refine own_open n0 "java/lang/String" rfl (plainFor_of_name own_pn1) (fun m => ef_own_rm34 m a1 a2) ?_
  intro p e s m below meth c s₁ hx hby hml hZ hown hnm hlk hrt X0 e0 N0
  have K0 := Keep.refl h0 [a1]
  refine own_s s₁ m 1 #[own_r a1, own_r a2, .val .null, .unset, .unset] [.ref a1] (fun t k => XS.aloadN X0.here hx rfl (hb hby d34_0) rfl (rfl) k) ?_
  obtain ⟨T101, X101, e101, st101⟩ := initO X0 hx hZ hown (own_w hw 15 rfl) (own_w hw 16 rfl) (own_w hw 17 rfl) e0 (g := (mkF m 1 #[own_r a1, own_r a2, .val .null, .unset, .unset] [.ref a1])) rfl (by rw [hml]; rfl) rfl (hb hby d34_1) (by decide) (W := 0) (by exact own_ca rfl) (by decide)
  refine own_s T101 m 5 #[own_r a1, own_r a2, .val .null, .unset, .unset] [.ref a2] (fun t k => st101 _ (XS.aloadN X101.here hx rfl (hb hby d34_4) rfl (rfl) k)) ?_
  obtain ⟨cq102, kq102, q102a, q102b, q102c⟩ := isOf hZ e101 E
  obtain ⟨v102, _, ⟨T102, L102, k102, n102⟩, -, X102, ⟨Lc102, hQ102, l102, y102, z102⟩, st102⟩ := X101.virtualBack hx (y := own_n21) (z := own_n21) hown (mvT hZ (own_w hw 198 rfl)) (mvT hZ (own_w hw 199 rfl)) (notFace_of_selects (args := #[]) (mvT hZ (own_w hw 201 rfl))) (mvT hZ (own_w hw 201 rfl)) (mvT hZ (own_w hw 200 rfl)) (by decide) (backOf (W := 0) (own_rm35 l Z a0 hw [] a2 d (BB ++ PP) BB.length.toInt32 h0 n0 (Nat.le_trans Z0 K0.1) E Fv Fc Fn Ad Ed) hZ (own_w hw 202 rfl) (own_w hw 113 rfl) (by decide) (by decide)) q102a q102c (g := (mkF m 5 #[own_r a1, own_r a2, .val .null, .unset, .unset] [.ref a2])) rfl (by rw [hml]; rfl) (Steps.refl _) (argsL := []) (rest := []) (lenOf own_pd17 rfl) rfl (by exact own_ca rfl) (hb hby d34_5) (fun _ _ => ⟨rfl, e101, (by decide : 0 + 0 ≤ _), (by decide : 0 + 0 ≤ _)⟩)
  dsimp only [Pt.U, Pt.locs, Pt.cells, Pt.slots] at X102 l102 y102 z102 st102 hQ102
  subst l102 y102 z102
  obtain ⟨rfl, N102q, e102⟩ := hQ102
  have N102 := Fr.app N0 N102q
  refine own_s T102 m 10 #[own_r a1, own_r a2, .val .null, own_r d, .unset] [.ref a2] (fun t k => st102.trans (XS.astoreN X102.here hx rfl (hb hby d34_8) rfl (rfl) (l' := #[own_r a1, own_r a2, .val .null, own_r d, .unset]) rfl (XS.aloadN X102.here hx rfl (hb hby d34_9) rfl (rfl) k))) ?_
  obtain ⟨cq103, kq103, q103a, q103b, q103c⟩ := isOf hZ e102 E
  obtain ⟨v103, _, ⟨T103, L103, k103, n103⟩, -, X103, ⟨Lc103, hQ103, l103, y103, z103⟩, st103⟩ := X102.virtualBack hx (y := own_n22) (z := own_n23) hown (mvT hZ (own_w hw 203 rfl)) (mvT hZ (own_w hw 204 rfl)) (own_nf (notFace_of_selects (args := #[]) (mvT hZ (own_w hw 141 rfl))) (mvT hZ (own_w hw 139 rfl) (args := #[])) rfl) (mvT hZ (own_w hw 206 rfl)) (mvT hZ (own_w hw 207 rfl)) (by decide) (backOf (W := 0) (own_rm36 l Z a0 hw [] a2 d (BB ++ PP) BB.length.toInt32 h0 n0 (Nat.le_trans Z0 K0.1) E Fv Fc Fn Ad Ed) hZ (own_w hw 208 rfl) (own_w hw 105 rfl) (by decide) (by decide)) q103a q103c (g := (mkF m 10 #[own_r a1, own_r a2, .val .null, own_r d, .unset] [.ref a2])) rfl (by rw [hml]; rfl) (Steps.refl _) (argsL := []) (rest := []) (lenOf own_pd12 rfl) rfl (by exact own_ca rfl) (hb hby d34_10) (fun _ _ => ⟨rfl, e102, (by decide : 0 + 0 ≤ _), (by decide : 0 + 0 ≤ _)⟩)
  dsimp only [Pt.U, Pt.locs, Pt.cells, Pt.slots] at X103 l103 y103 z103 st103 hQ103
  subst l103 y103 z103
  obtain ⟨rfl, N103q, e103⟩ := hQ103
  have N103 := Fr.app N102 N103q
  refine own_s T103 m 16 #[own_r a1, own_r a2, .val .null, own_r d, own_i (BB.length.toInt32)] [.ref a2] (fun t k => st103.trans (XS.istore X103.here hx rfl (hb hby d34_13) rfl (l' := #[own_r a1, own_r a2, .val .null, own_r d, own_i (BB.length.toInt32)]) rfl (XS.aloadN X103.here hx rfl (hb hby d34_15) rfl (rfl) k))) ?_
  obtain ⟨cq104, kq104, q104a, q104b, q104c⟩ := isOf hZ e103 E
  obtain ⟨v104, _, ⟨T104, L104, k104, n104⟩, -, X104, ⟨Lc104, hQ104, l104, y104, z104⟩, st104⟩ := X103.virtualBack hx (y := own_n24) (z := own_n24) hown (mvT hZ (own_w hw 211 rfl)) (mvT hZ (own_w hw 177 rfl)) (notFace_of_selects (args := #[]) (mvT hZ (own_w hw 179 rfl))) (mvT hZ (own_w hw 179 rfl)) (mvT hZ (own_w hw 178 rfl)) (by decide) (backOf (W := 0) (own_rm30 l Z a0 hw [] a2 d (BB ++ PP) BB.length.toInt32 cs h0 n0 (Nat.le_trans Z0 K0.1) E Fv Fc Fn Ad Ed CS hcs) hZ (own_w hw 180 rfl) (own_w hw 113 rfl) (by decide) (by decide)) q104a q104c (g := (mkF m 16 #[own_r a1, own_r a2, .val .null, own_r d, own_i (BB.length.toInt32)] [.ref a2])) rfl (by rw [hml]; rfl) (Steps.refl _) (argsL := []) (rest := []) (lenOf own_pd18 rfl) rfl (by exact own_ca rfl) (hb hby d34_16) (fun _ _ => ⟨rfl, e103, (by decide : 0 + 0 ≤ _), (by decide : 0 + 0 ≤ _)⟩)
  dsimp only [Pt.U, Pt.locs, Pt.cells, Pt.slots] at X104 l104 y104 z104 st104 hQ104
  subst l104 y104 z104
  obtain ⟨rfl, N104q, e104⟩ := hQ104
  have N104 := Fr.app N103 N104q
  refine own_s T104 m 24 #[own_r a1, own_r a2, .val .null, own_r d, own_i (BB.length.toInt32)] [.int 0, .ref a1] (fun t k => st104.trans (XS.ifNo X104.here hx rfl (hb hby d34_19) rfl (XT.i0_eq_f (by decide)) (XS.aloadN X104.here hx rfl (hb hby d34_22) rfl (rfl) (XS.iconst X104.here hx rfl (hb hby d34_23) k)))) ?_
  obtain ⟨T105, h105, X105, e105, W105, st105⟩ := putFN X104 hx hZ hown (own_w hw 25 rfl) Via.refl e104 Fc0 E_a1 (Or.inr ⟨(own_w hw 21 rfl), rfl, hnm⟩) (own_w hw 5 rfl) (ty := .byte) (v' := (.int 0)) (by decide) rfl rfl (g := (mkF m 24 #[own_r a1, own_r a2, .val .null, own_r d, own_i (BB.length.toInt32)] [.int 0, .ref a1])) rfl rfl (hb hby d34_24)
  have F105 : Fld Z h105 a1 "java/lang/String" "coder" "B" (.int 0) := Fc0.same W105
  have Kc105 : Keep h0 h105 [a1] := K0.wr W105 (Or.inl (List.mem_of_getElem? (i := 0) rfl))
  have N105 := Fr.snoc X105 N104 g_a1
  refine own_s T105 m 30 #[own_r a1, own_r a2, .val .null, own_r d, own_i (BB.length.toInt32)] [.int 0, .ref d, .ref a1] (fun t k => st105 _ (XS.aloadN X105.here hx rfl (hb hby d34_27) rfl (rfl) (XS.aloadN X105.here hx rfl (hb hby d34_28) rfl (rfl) (XS.iconst X105.here hx rfl (hb hby d34_29) k)))) ?_
  refine own_s T105 m 32 #[own_r a1, own_r a2, .val .null, own_r d, own_i (BB.length.toInt32)] [.int (BB.length.toInt32), .int 0, .ref d, .ref a1] (fun t k => XS.iload X105.here hx rfl (hb hby d34_30) rfl k) ?_
  obtain ⟨v106, _, ⟨T106, L106, k106, n106⟩, -, X106, ⟨Lc106, hQ106, l106, y106, z106⟩, st106⟩ := Jvm.LawKit.callS X105 hx (y := own_n27) hown (mvT hZ (own_w hw 212 rfl)) (mvT hZ (own_w hw 213 rfl)) (mvT hZ (own_w hw 214 rfl)) (mvT hZ (own_w hw 215 rfl)) (by decide) (backOf (W := 1) (own_rm38 l Z a0 hw [] d (0 : Int32) (BB.length.toInt32) (BB ++ PP) BB.length h105 n0 (Nat.le_trans Z0 Kc105.1) (Ad.other W105 hn3) hbt (by rw [List.length_append]; omega) hlt (Ed.wr W105) rfl rfl) hZ (own_w hw 215 rfl) (own_w hw 214 rfl) (by decide) (by decide)) (g := (mkF m 32 #[own_r a1, own_r a2, .val .null, own_r d, own_i (BB.length.toInt32)] [.int (BB.length.toInt32), .int 0, .ref d, .ref a1])) rfl (by rw [hml]; rfl) (argsL := [.ref d, .int 0, .int (BB.length.toInt32)]) (rest := [.ref a1]) (lenOf own_pd16 rfl) rfl (by exact own_ca rfl) (hb hby d34_32) (fun _ _ => ⟨rfl, e105, (by decide : 0 + 1 ≤ _), (by decide : 0 + 34 ≤ _)⟩)
  dsimp only [Pt.U, Pt.locs, Pt.cells, Pt.slots] at X106 l106 y106 z106 st106 hQ106
  subst l106 y106 z106
  obtain ⟨b106, rfl, N106q, szq106, K106, V106⟩ := hQ106
  have ne_a1_b106 := own_ne (E_a1.wr W105).lt szq106
  have ne_a2_b106 := own_ne (E.wr W105).lt szq106
  have ne_d_b106 := own_ne (Ad.other W105 hn3).lt szq106
  have Kc106 : Keep h0 T106.heap [a1] := Kc105.trans K106 all0
  have sz_b106 : h0.size ≤ b106 := Nat.le_trans Kc105.1 szq106
  have N106 := Fr.app N105 N106q
  refine own_s T106 m 35 #[own_r a1, own_r a2, .val .null, own_r d, own_i (BB.length.toInt32)] [.ref b106, .ref a1] (fun t k => st106 _ k) ?_
  obtain ⟨T107, h107, X107, e107, W107, st107⟩ := putF X106 hx hZ hown (host := "") (Or.inl (own_w hw 24 rfl)) Via.refl rfl ((Fv0.other W105 (Or.inr (slot_ne (Or.inr (own_w hw 20 rfl)) (Or.inr (own_w hw 21 rfl)) (by decide) (t := (.array .byte)) (t' := .byte) (by decide) (by decide)))).keep K106 nin0) ((E_a1.wr W105).keep K106) (Or.inr ⟨(own_w hw 20 rfl), rfl, hnm⟩) (own_w hw 5 rfl) (ty := (.array .byte)) (by decide) rfl rfl (g := (mkF m 35 #[own_r a1, own_r a2, .val .null, own_r d, own_i (BB.length.toInt32)] [.ref b106, .ref a1])) rfl rfl (hb hby d34_35)
  have F107 : Fld Z h107 a1 "java/lang/String" "value" "[B" (.ref b106) := ((Fv0.other W105 (Or.inr (slot_ne (Or.inr (own_w hw 20 rfl)) (Or.inr (own_w hw 21 rfl)) (by decide) (t := (.array .byte)) (t' := .byte) (by decide) (by decide)))).keep K106 nin0).same W107
  have Kc107 : Keep h0 h107 [a1] := Kc106.wr W107 (Or.inl (List.mem_of_getElem? (i := 0) rfl))
  have N107 := Fr.snoc X107 N106 g_a1
  refine own_s T107 m 97 #[own_r a1, own_r a2, .val .null, own_r d, own_i (BB.length.toInt32)] [] (fun t k => st107 _ (XS.goto X107.here hx rfl (pc0 := 38) (pc' := 97) rfl (hb hby d34_38) (by decide) (by decide) k)) ?_
  have eE : T107.heap = h107 := e107
  exact own_retV X107 hx hlk hrt (hb hby d34_97) ⟨rfl, N107, (by rw [eE]; exact Kc107), (by rw [eE]; exact (((E_a1.wr W105).keep K106).wr W107)), (by rw [eE]; exact ((F105.keep K106 nin0).other W107 (Or.inr (slot_ne (Or.inr (own_w hw 21 rfl)) (Or.inr (own_w hw 20 rfl)) (by decide) (t := .byte) (t' := (.array .byte)) (by decide) (by decide))))), b106, sz_b106, (by rw [eE]; exact F107), (by rw [eE]; exact (by have q := (V106.other W107 (Ne.symm ne_a1_b106)); rw [List.take_left' rfl] at q; exact q))⟩ (by decide) (by decide)
theorem own_pd19 : parseMethodDescriptor "(Ljava/lang/AbstractStringBuilder;Ljava/lang/Void;)V" = some ⟨[(.object "java/lang/AbstractStringBuilder"), (.object "java/lang/Void")], none⟩ := by decide +kernel
abbrev own_k33 := jdk_42_method_53_code
abbrev own_n29 : MethodName := ⟨"java/lang/String", "<init>", "(Ljava/lang/StringBuilder;)V"⟩
theorem d33_0 : own_D own_k33 0 (.aload_n 0) 1 := by decide +kernel
theorem d33_1 : own_D own_k33 1 (.aload_n 1) 1 := by decide +kernel
theorem d33_2 : own_D own_k33 2 (.aconst_null) 1 := by decide +kernel
theorem d33_3 : own_D own_k33 3 (.invokespecial 489) 3 := by decide +kernel
theorem d33_6 : own_D own_k33 6 (.return_) 1 := by decide +kernel
theorem ef_own_rm33 (m : MethodId) (a1 : Addr) (a2 : Addr) : entryFrame m #[(.ref a1), (.ref a2)] 2 = mkF m 0 #[own_r a1, own_r a2] [] := by first | (simp [entryFrame, mkF, argsToLocals, Value.category]; done) | rfl
def own_rm33_Q (Z : State) (a1 : Addr) (a2 : Addr) (cs : Int32) (d : Addr) (BB : List Int32) (PP : List Int32) (h0 : Heap) (n0 : Nat) (v : Option Value) (h : Heap) (L : List Loc) : Prop := v = none ∧ Fr n0 L ∧ Keep h0 h [a1] ∧ Exa Z h a1 "java/lang/String" ∧ Fld Z h a1 "java/lang/String" "coder" "B" (.int 0) ∧ ∃ e1 : Addr, h0.size ≤ e1 ∧ Fld Z h a1 "java/lang/String" "value" "[B" (.ref e1) ∧ own_Ar Z h e1 .byte (BB.map Value.int)
set_option maxRecDepth 65536 in
set_option maxHeartbeats 40000000 in
theorem own_rm33 (l : Launch) (Z : State) (a0 : Array Value) (hw : own_H a0 Z) (ws : List Jvm.Cond) (a1 a2 : Addr) (cs : Int32) (d : Addr) (BB PP : List Int32) (h0 : Heap) (n0 : Nat) (Z0 : n0 ≤ h0.size) (CS : Sta Z h0 "java/lang/String" "COMPACT_STRINGS" "Z" (.int cs)) (hcs : ¬ cs = 0) (E_a1 : Exa Z h0 a1 "java/lang/String") (Fc0 : Fld Z h0 a1 "java/lang/String" "coder" "B" (.int 0)) (Fv0 : Fld Z h0 a1 "java/lang/String" "value" "[B" .null) (g_a1 : n0 ≤ a1) (E : Exa Z h0 a2 "java/lang/StringBuilder") (Fv : Fld Z h0 a2 "java/lang/AbstractStringBuilder" "value" "[B" (.ref d)) (Fc : Fld Z h0 a2 "java/lang/AbstractStringBuilder" "coder" "B" (.int 0)) (Fn : Fld Z h0 a2 "java/lang/AbstractStringBuilder" "count" "I" (.int BB.length.toInt32)) (Ad : own_Ar Z h0 d .byte ((BB ++ PP).map Value.int)) (Ed : Exa Z h0 d "[B") (hbt : own_by (BB ++ PP)) (hlt : (BB ++ PP).length ≤ 34) (hn2 : a2 ≠ a1) (hn3 : d ≠ a1) : own_M l Z ws own_n29 own_k33 2 none (own_R 4 1 34 65) #[(.ref a1), (.ref a2)] h0 (own_rm33_Q Z a1 a2 cs d BB PP h0 n0) := by
  refine own_open n0 "java/lang/String" rfl (plainFor_of_name own_pn1) (fun m => ef_own_rm33 m a1 a2) ?_
  intro p e s m below meth c s₁ hx hby hml hZ hown hnm hlk hrt X0 e0 N0
  have K0 := Keep.refl h0 [a1]
  refine own_s s₁ m 3 #[own_r a1, own_r a2] [.null, .ref a2, .ref a1] (fun t k => XS.aloadN X0.here hx rfl (hb hby d33_0) rfl (rfl) (XS.aloadN X0.here hx rfl (hb hby d33_1) rfl (rfl) (XS.aconstNull X0.here hx rfl (hb hby d33_2) k))) ?_
  obtain ⟨v101, _, ⟨T101, L101, k101, n101⟩, -, X101, ⟨Lc101, hQ101, l101, y101, z101⟩, st101⟩ := X0.specialBack hx (y := own_n28) rfl hown (mvT hZ (own_w hw 195 rfl)) (mvT hZ (own_w hw 196 rfl)) (mvT hZ (own_w hw 197 rfl)) (by decide) (backOf (W := 0) (own_rm34 l Z a0 hw [] a1 a2 cs d BB PP h0 n0 (Nat.le_trans Z0 K0.1) CS hcs E_a1 Fc0 Fv0 g_a1 E Fv Fc Fn Ad Ed hbt hlt hn2 hn3) hZ (own_w hw 197 rfl) (own_w hw 6 rfl) (by decide) (by decide)) (g := (mkF m 3 #[own_r a1, own_r a2] [.null, .ref a2, .ref a1])) rfl (by rw [hml]; rfl) (Steps.refl _) (a := a1) (argsL := [.ref a2, .null]) (rest := []) (lenOf own_pd19 rfl) rfl (by exact own_ca rfl) (hb hby d33_3) (fun _ _ => ⟨rfl, e0, (by decide : 0 + 1 ≤ _), (by decide : 0 + 34 ≤ _)⟩)
  dsimp only [Pt.U, Pt.locs, Pt.cells, Pt.slots] at X101 l101 y101 z101 st101 hQ101
  subst l101 y101 z101
  obtain ⟨rfl, N101q, K101, A101, Fc101, e101x, szq101, Fv101, V101⟩ := hQ101
  have ns101 := (own_nsS (own_nsE E_a1) own_ns0)
  have Kc101 : Keep h0 T101.heap [a1] := K0.trans K101 (allS (Or.inl (List.mem_of_getElem? (i := 0) rfl)) all0)
  have sz_e101x : h0.size ≤ e101x := Nat.le_trans K0.1 szq101
  have N101 := Fr.app N0 N101q
  refine own_s T101 m 6 #[own_r a1, own_r a2] [] (fun t k => st101.trans k) ?_
  have eE : T101.heap = T101.heap := rfl
  exact own_retV X101 hx hlk hrt (hb hby d33_6) ⟨rfl, N101, (by rw [eE]; exact Kc101), (by rw [eE]; exact A101), (by rw [eE]; exact Fc101), e101x, sz_e101x, (by rw [eE]; exact Fv101), (by rw [eE]; exact V101)⟩ (by decide) (by decide)
theorem own_pd20 : parseMethodDescriptor "(Ljava/lang/StringBuilder;)V" = some ⟨[(.object "java/lang/StringBuilder")], none⟩ := by decide +kernel
abbrev own_k32 := jdk_67_method_42_code
abbrev own_n30 : MethodName := ⟨"java/lang/StringBuilder", "toString", "()Ljava/lang/String;"⟩
theorem d32_0 : own_D own_k32 0 (.new 18) 3 := by decide +kernel
theorem d32_3 : own_D own_k32 3 (.dup) 1 := by decide +kernel
theorem d32_4 : own_D own_k32 4 (.aload_n 0) 1 := by decide +kernel
theorem d32_5 : own_D own_k32 5 (.invokespecial 137) 3 := by decide +kernel
theorem d32_8 : own_D own_k32 8 (.areturn) 1 := by decide +kernel
theorem ef_own_rm32 (m : MethodId) (a1 : Addr) : entryFrame m #[(.ref a1)] 1 = mkF m 0 #[own_r a1] [] := by first | (simp [entryFrame, mkF, argsToLocals, Value.category]; done) | rfl
def own_rm32_Q (Z : State) (a1 : Addr) (cs : Int32) (d : Addr) (BB : List Int32) (PP : List Int32) (h0 : Heap) (n0 : Nat) (v : Option Value) (h : Heap) (L : List Loc) : Prop := ∃ (r e1 : Addr), v = some (.ref r) ∧ Fr n0 L ∧ h0.size ≤ r ∧ h0.size ≤ e1 ∧ Keep h0 h [] ∧ Exa Z h r "java/lang/String" ∧ Fld Z h r "java/lang/String" "coder" "B" (.int 0) ∧ Fld Z h r "java/lang/String" "value" "[B" (.ref e1) ∧ own_Ar Z h e1 .byte (BB.map Value.int)
set_option maxRecDepth 65536 in
set_option maxHeartbeats 40000000 in
theorem own_rm32 (l : Launch) (Z : State) (a0 : Array Value) (hw : own_H a0 Z) (ws : List Jvm.Cond) (a1 : Addr) (cs : Int32) (d : Addr) (BB PP : List Int32) (h0 : Heap) (n0 : Nat) (Z0 : n0 ≤ h0.size) (CS : Sta Z h0 "java/lang/String" "COMPACT_STRINGS" "Z" (.int cs)) (hcs : ¬ cs = 0) (E : Exa Z h0 a1 "java/lang/StringBuilder") (Fv : Fld Z h0 a1 "java/lang/AbstractStringBuilder" "value" "[B" (.ref d)) (Fc : Fld Z h0 a1 "java/lang/AbstractStringBuilder" "coder" "B" (.int 0)) (Fn : Fld Z h0 a1 "java/lang/AbstractStringBuilder" "count" "I" (.int BB.length.toInt32)) (Ad : own_Ar Z h0 d .byte ((BB ++ PP).map Value.int)) (Ed : Exa Z h0 d "[B") (hbt : own_by (BB ++ PP)) (hlt : (BB ++ PP).length ≤ 34) : own_M l Z ws own_n30 own_k32 1 (some (.object "java/lang/String")) (own_R 5 2 38 79) #[(.ref a1)] h0 (own_rm32_Q Z a1 cs d BB PP h0 n0) := by
  refine own_open n0 "java/lang/StringBuilder" rfl (plainFor_of_name own_pn3) (fun m => ef_own_rm32 m a1) ?_
  intro p e s m below meth c s₁ hx hby hml hZ hown hnm hlk hrt X0 e0 N0
  have K0 := Keep.refl h0 []
  obtain ⟨T101, h101, X101, e101, E101, A101, D101, -, st101⟩ := newO X0 hx hZ hown (own_w hw 191 rfl) (own_w hw 5 rfl) (own_w hw 6 rfl) e0 (g := (mkF m 0 #[own_r a1] [])) rfl (hb hby d32_0) (by decide) (by decide)
  obtain ⟨b101, g101⟩ : ∃ z, z = h0.size := ⟨_, rfl⟩
  rw [← g101] at A101 D101 st101
  have ne_a1_b101 := own_ne E.lt (Nat.le_of_eq g101.symm)
  have ne_d_b101 := own_ne Ad.lt (Nat.le_of_eq g101.symm)
  have sz_b101 : h0.size ≤ b101 := Nat.le_trans K0.1 (Nat.le_of_eq g101.symm)
  have g_b101 : n0 ≤ b101 := Nat.le_trans Z0 sz_b101
  have Kc101 : Keep h0 h101 [] := K0.ext E101
  have F101_20 : Fld Z h101 b101 "java/lang/String" "value" "[B" .null := D101 (Or.inr (own_w hw 20 rfl)) (ty := (.array .byte)) (by decide)
  have F101_21 : Fld Z h101 b101 "java/lang/String" "coder" "B" (.int 0) := D101 (Or.inr (own_w hw 21 rfl)) (ty := .byte) (by decide)
  refine own_s T101 m 5 #[own_r a1] [.ref a1, .ref b101, .ref b101] (fun t k => st101 _ (XS.dup X101.here hx rfl (hb hby d32_3) rfl (rfl) (XS.aloadN X101.here hx rfl (hb hby d32_4) rfl (rfl) k))) ?_
  obtain ⟨v102, _, ⟨T102, L102, k102, n102⟩, -, X102, ⟨Lc102, hQ102, l102, y102, z102⟩, st102⟩ := X101.specialBack hx (y := own_n29) rfl hown (mvT hZ (own_w hw 192 rfl)) (mvT hZ (own_w hw 193 rfl)) (mvT hZ (own_w hw 194 rfl)) (by decide) (backOf (W := 1) (own_rm33 l Z a0 hw [] b101 a1 cs d BB PP h101 n0 (Nat.le_trans Z0 Kc101.1) (own_sta_keep CS Kc101 (fun _ _ _ _ => nin0)) hcs A101 F101_21 F101_20 g_b101 (E.keep Kc101) (Fv.keep Kc101 nin0) (Fc.keep Kc101 nin0) (Fn.keep Kc101 nin0) (Ad.keep Kc101 nin0) (Ed.keep Kc101) hbt hlt ne_a1_b101 ne_d_b101) hZ (own_w hw 194 rfl) (own_w hw 6 rfl) (by decide) (by decide)) (g := (mkF m 5 #[own_r a1] [.ref a1, .ref b101, .ref b101])) rfl (by rw [hml]; rfl) (Steps.refl _) (a := b101) (argsL := [.ref a1]) (rest := [.ref b101]) (lenOf own_pd20 rfl) rfl (by exact own_ca rfl) (hb hby d32_5) (fun _ _ => ⟨rfl, e101, (by decide : 1 + 1 ≤ _), (by decide : 4 + 34 ≤ _)⟩)
  dsimp only [Pt.U, Pt.locs, Pt.cells, Pt.slots] at X102 l102 y102 z102 st102 hQ102
  subst l102 y102 z102
  obtain ⟨rfl, N102q, K102, A102, Fc102, e102x, szq102, Fv102, V102⟩ := hQ102
  have Kc102 : Keep h0 T102.heap [] := Kc101.trans K102 (allS (Or.inr sz_b101) all0)
  have sz_e102x : h0.size ≤ e102x := Nat.le_trans Kc101.1 szq102
  have N102 := Fr.app N0 N102q
  refine own_s T102 m 8 #[own_r a1] [.ref b101] (fun t k => st102.trans k) ?_
  have eE : T102.heap = T102.heap := rfl
  exact own_retA X102 hx hlk (rfl) hrt rfl (hb hby d32_8) ⟨b101, e102x, rfl, N102, sz_b101, sz_e102x, (by rw [eE]; exact Kc102), (by rw [eE]; exact A102), (by rw [eE]; exact Fc102), (by rw [eE]; exact Fv102), (by rw [eE]; exact V102)⟩ (by decide) (by decide)
def own_nd (m : Nat) : Nat := if m < 10 then 1 else if m < 100 then 2 else if m < 1000 then 3 else if m < 10000 then 4 else if m < 100000 then 5 else if m < 1000000 then 6 else if m < 10000000 then 7 else if m < 100000000 then 8 else if m < 1000000000 then 9 else 10
def own_abs (v : Int32) : Nat := v.toInt.natAbs
def own_sz (v : Int32) : Nat := (if v < 0 then 1 else 0) + own_nd (own_abs v)
def own_dg (d : Nat) : Int32 := (48 + d).toInt32
def own_digs : Nat → Nat → List Int32
  | _, 0 => []
  | m, k + 1 => own_digs (m / 10) k ++ [own_dg (m % 10)]
def own_dec (v : Int32) : List Int32 := (if v < 0 then [(45 : Int32)] else []) ++ own_digs (own_abs v) (own_nd (own_abs v))
theorem own_nd_1 {m : Nat} (h1 : 0 ≤ m) (h2 : m < 10) : own_nd m = 1 := by
  unfold own_nd; repeat' split
  all_goals omega
theorem own_nd_2 {m : Nat} (h1 : 10 ≤ m) (h2 : m < 100) : own_nd m = 2 := by
  unfold own_nd; repeat' split
  all_goals omega
theorem own_nd_3 {m : Nat} (h1 : 100 ≤ m) (h2 : m < 1000) : own_nd m = 3 := by
  unfold own_nd; repeat' split
  all_goals omega
theorem own_nd_4 {m : Nat} (h1 : 1000 ≤ m) (h2 : m < 10000) : own_nd m = 4 := by
  unfold own_nd; repeat' split
  all_goals omega
theorem own_nd_5 {m : Nat} (h1 : 10000 ≤ m) (h2 : m < 100000) : own_nd m = 5 := by
  unfold own_nd; repeat' split
  all_goals omega
theorem own_nd_6 {m : Nat} (h1 : 100000 ≤ m) (h2 : m < 1000000) : own_nd m = 6 := by
  unfold own_nd; repeat' split
  all_goals omega
theorem own_nd_7 {m : Nat} (h1 : 1000000 ≤ m) (h2 : m < 10000000) : own_nd m = 7 := by
  unfold own_nd; repeat' split
  all_goals omega
theorem own_nd_8 {m : Nat} (h1 : 10000000 ≤ m) (h2 : m < 100000000) : own_nd m = 8 := by
  unfold own_nd; repeat' split
  all_goals omega
theorem own_nd_9 {m : Nat} (h1 : 100000000 ≤ m) (h2 : m < 1000000000) : own_nd m = 9 := by
  unfold own_nd; repeat' split
  all_goals omega
theorem own_nd_10 {m : Nat} (h1 : 1000000000 ≤ m) (h2 : m < 10000000000) : own_nd m = 10 := by
  unfold own_nd; repeat' split
  all_goals omega
theorem own_absb (v : Int32) : own_abs v ≤ 2147483648 := by
  have := rng32 v; unfold own_abs; omega
theorem own_ndr (m : Nat) : 1 ≤ own_nd m ∧ own_nd m ≤ 10 := by
  unfold own_nd; repeat' split
  all_goals omega
theorem own_m0 {v : Int32} (h : ¬ v < 0) : (-v).toInt = -(own_abs v : Int) := by
  rw [Int32.lt_iff_toInt_lt] at h
  have e : (0 : Int32).toInt = 0 := rfl
  have a := c_ineg v; have r := rng32 v; have r2 := rng32 (-v)
  unfold own_abs; omega
theorem own_m1 {v : Int32} (h : v < 0) : v.toInt = -(own_abs v : Int) := by
  rw [Int32.lt_iff_toInt_lt] at h
  have e : (0 : Int32).toInt = 0 := rfl
  unfold own_abs; omega
theorem own_szP {v z : Int32} {k : Nat} (hz : z = k.toInt32) (h : own_sz v = k) : some (Value.int z) = some (Value.int (own_sz v).toInt32) := by rw [h, hz]
theorem own_nd100 {m : Nat} (h : 100 ≤ m) (hm : m ≤ 2147483648) : own_nd m = own_nd (m / 100) + 2 := by
  by_cases h3 : m < 1000
  · rw [own_nd_3 (by omega) h3, own_nd_1 (by omega) (by omega)]
  by_cases h4 : m < 10000
  · rw [own_nd_4 (by omega) h4, own_nd_2 (by omega) (by omega)]
  by_cases h5 : m < 100000
  · rw [own_nd_5 (by omega) h5, own_nd_3 (by omega) (by omega)]
  by_cases h6 : m < 1000000
  · rw [own_nd_6 (by omega) h6, own_nd_4 (by omega) (by omega)]
  by_cases h7 : m < 10000000
  · rw [own_nd_7 (by omega) h7, own_nd_5 (by omega) (by omega)]
  by_cases h8 : m < 100000000
  · rw [own_nd_8 (by omega) h8, own_nd_6 (by omega) (by omega)]
  by_cases h9 : m < 1000000000
  · rw [own_nd_9 (by omega) h9, own_nd_7 (by omega) (by omega)]
  rw [own_nd_10 (by omega) (by omega), own_nd_8 (by omega) (by omega)]
theorem own_digs2 (m k : Nat) : own_digs m (k + 2) = own_digs (m / 100) k ++ [own_dg (m / 10 % 10), own_dg (m % 10)] := by
  show own_digs (m / 10 / 10) k ++ [own_dg (m / 10 % 10)] ++ [own_dg (m % 10)] = _
  rw [Nat.div_div_eq_div_mul, List.append_assoc]; rfl
theorem own_nard {d : Nat} (h : d < 10) : nar .byte (own_dg d) = own_dg d := (by decide +kernel : ∀ k : Fin 10, nar .byte (own_dg k.val) = own_dg k.val) ⟨d, h⟩
theorem own_byd {d : Nat} (h : d < 10) : fits .byte (.int (own_dg d)) = true := (by decide +kernel : ∀ k : Fin 10, fits .byte (.int (own_dg k.val)) = true) ⟨d, h⟩
theorem own_digs_by : ∀ (k m : Nat), own_by (own_digs m k)
  | 0, _ => fun _ q => nomatch q
  | k + 1, m => (own_digs_by k (m / 10)).app (fun x hx => by rw [List.mem_singleton.mp hx]; exact own_byd (Nat.mod_lt _ (by decide)))
theorem own_dec_by (v : Int32) : own_by (own_dec v) := by
  unfold own_dec
  refine own_by.app ?_ (own_digs_by _ _)
  split
  · intro x hx; rw [List.mem_singleton.mp hx]; decide
  · intro x hx; exact nomatch hx
theorem own_digs_len : ∀ (k m : Nat), (own_digs m k).length = k
  | 0, _ => rfl
  | k + 1, m => by show (own_digs (m / 10) k ++ [_]).length = _; rw [List.length_append, own_digs_len]; rfl
theorem own_dec_len (v : Int32) : (own_dec v).length = own_sz v := by
  unfold own_dec own_sz; rw [List.length_append, own_digs_len]; split <;> rfl
theorem own_setl {P Y : List Int32} {v : Int32} (h : 0 < P.length) : ((P ++ Y).map Value.int).set (P.length - 1) (.int v) = (P.dropLast ++ v :: Y).map Value.int := by
  rw [← List.map_set]
  congr 1
  have e : P = P.dropLast ++ [P.getLast (List.ne_nil_of_length_pos h)] := (List.dropLast_concat_getLast _).symm
  have l : P.dropLast.length = P.length - 1 := List.length_dropLast
  generalize P.getLast (List.ne_nil_of_length_pos h) = z at e
  generalize P.dropLast = D at *
  rw [← l]
  rw [e, List.append_assoc, List.set_append_right _ _ (Nat.le_refl _), Nat.sub_self]
  rfl
theorem own_tkd {P B : List Int32} {n : Nat} (h : P.take n = B) (hn : n ≤ P.length - 1) : P.dropLast.take n = B := by
  rw [List.dropLast_eq_take, List.take_take, Nat.min_eq_left hn]; exact h
theorem own_pred {j : Nat} (h : 0 < j) : j.toInt32 + (-1 : Int32) = (j - 1).toInt32 := by
  have e : j = (j - 1) + 1 := by omega
  rw [show j.toInt32 = (j - 1).toInt32 + 1 from (congrArg Nat.toInt32 e).trans (Int32.ofNat_add (j - 1) 1)]
  rw [Int32.add_assoc, show (1 : Int32) + (-1) = 0 from by decide, Int32.add_zero]
theorem own_step {x : Int32} {m : Nat} (hx : x.toInt = -(m : Int)) (hm : m ≤ 2147483648) : (x / 100).toInt = -((m / 100 : Nat) : Int) ∧ ((x / 100) * 100 - x).toInt = ((m % 100 : Nat) : Int) := by
  have a := (c_idiv x 100 100 rfl (by decide))
  have r := rng32 x
  have q : (x / 100).toInt = -((m / 100 : Nat) : Int) := by
    by_cases h : x.toInt < 0
    · rw [a.2 h]; omega
    · rw [a.1 (by omega)]; omega
  refine ⟨q, ?_⟩
  have b := c_imul (x / 100) 100
  have c := c_isub ((x / 100) * 100) x
  have e : (100 : Int32).toInt = 100 := rfl
  rw [e, q] at b
  have r1 := rng32 ((x / 100) * 100 - x); have r2 := rng32 ((x / 100) * 100)
  omega
theorem own_i0 {r : Int32} {n : Nat} (h : r.toInt = (n : Int)) : ¬ r < 0 ∧ r.toNatClampNeg = n := by
  rw [Int32.lt_iff_toInt_lt, Int32.toNatClampNeg]
  have e : (0 : Int32).toInt = 0 := rfl
  omega
theorem own_neg0 {x : Int32} {m : Nat} (hx : x.toInt = -(m : Int)) (hm : m < 100) : (-x).toInt = (m : Int) := by
  have a := c_ineg x; have r := rng32 (-x); omega

theorem own_szQ {v dd z : Int32} {k : Nat} (hd : dd = (if v < 0 then (1 : Int32) else 0)) (hz : z = k.toInt32) (h : own_nd (own_abs v) = k) : some (Value.int (z + dd)) = some (Value.int (own_sz v).toInt32) := by
  rw [hd, hz, Int32.add_comm, own_sz, h]
  split
  · rw [show (1 : Int32) + k.toInt32 = (1 + k).toInt32 from (Int32.ofNat_add 1 k).symm]
  · rw [show (0 : Int32) + k.toInt32 = (0 + k).toInt32 from (Int32.ofNat_add 0 k).symm]
theorem own_pn6 : plainName "java/lang/Integer" = true := by first | (simp [plainName, overriddenIn]; done) | decide +kernel
abbrev own_k29 := jdk_33_method_13_code
abbrev own_n31 : MethodName := ⟨"java/lang/Integer", "stringSize", "(I)I"⟩
theorem d29_0 : own_D own_k29 0 (.iconst 1) 1 := by decide +kernel
theorem d29_1 : own_D own_k29 1 (.istore_n 1) 1 := by decide +kernel
theorem d29_2 : own_D own_k29 2 (.iload_n 0) 1 := by decide +kernel
theorem d29_3 : own_D own_k29 3 (.ifCond .lt 8) 3 := by decide +kernel
theorem d29_6 : own_D own_k29 6 (.iconst 0) 1 := by decide +kernel
theorem d29_7 : own_D own_k29 7 (.istore_n 1) 1 := by decide +kernel
theorem d29_8 : own_D own_k29 8 (.iload_n 0) 1 := by decide +kernel
theorem d29_9 : own_D own_k29 9 (.ineg) 1 := by decide +kernel
theorem d29_10 : own_D own_k29 10 (.istore_n 0) 1 := by decide +kernel
theorem d29_11 : own_D own_k29 11 (.bipush (-10)) 2 := by decide +kernel
theorem d29_13 : own_D own_k29 13 (.istore_n 2) 1 := by decide +kernel
theorem d29_14 : own_D own_k29 14 (.iconst 1) 1 := by decide +kernel
theorem d29_15 : own_D own_k29 15 (.istore_n 3) 1 := by decide +kernel
theorem d29_16 : own_D own_k29 16 (.iload_n 3) 1 := by decide +kernel
theorem d29_17 : own_D own_k29 17 (.bipush 10) 2 := by decide +kernel
theorem d29_19 : own_D own_k29 19 (.if_icmp .ge 23) 3 := by decide +kernel
theorem d29_22 : own_D own_k29 22 (.iload_n 0) 1 := by decide +kernel
theorem d29_23 : own_D own_k29 23 (.iload_n 2) 1 := by decide +kernel
theorem d29_24 : own_D own_k29 24 (.if_icmp .le 7) 3 := by decide +kernel
theorem d29_27 : own_D own_k29 27 (.iload_n 3) 1 := by decide +kernel
theorem d29_28 : own_D own_k29 28 (.iload_n 1) 1 := by decide +kernel
theorem d29_29 : own_D own_k29 29 (.iadd) 1 := by decide +kernel
theorem d29_30 : own_D own_k29 30 (.ireturn) 1 := by decide +kernel
theorem d29_31 : own_D own_k29 31 (.bipush 10) 2 := by decide +kernel
theorem d29_33 : own_D own_k29 33 (.iload_n 2) 1 := by decide +kernel
theorem d29_34 : own_D own_k29 34 (.imul) 1 := by decide +kernel
theorem d29_35 : own_D own_k29 35 (.istore_n 2) 1 := by decide +kernel
theorem d29_36 : own_D own_k29 36 (.iinc 3 1) 3 := by decide +kernel
theorem d29_39 : own_D own_k29 39 (.goto (-23)) 3 := by decide +kernel
theorem d29_42 : own_D own_k29 42 (.bipush 10) 2 := by decide +kernel
theorem d29_44 : own_D own_k29 44 (.iload_n 1) 1 := by decide +kernel
theorem d29_45 : own_D own_k29 45 (.iadd) 1 := by decide +kernel
theorem d29_46 : own_D own_k29 46 (.ireturn) 1 := by decide +kernel
theorem ef_own_rm29 (m : MethodId) (p1 : Int32) : entryFrame m #[(.int p1)] 4 = mkF m 0 #[own_i p1, .unset, .unset, .unset] [] := by first | (simp [entryFrame, mkF, argsToLocals, Value.category]; done) | rfl
def own_rm29_Q (Z : State) (p1 : Int32)  (h0 : Heap) (n0 : Nat) (v : Option Value) (h : Heap) (L : List Loc) : Prop := v = some (.int ((own_sz p1).toInt32)) ∧ Fr n0 L ∧ h = h0
set_option maxRecDepth 65536 in
set_option maxHeartbeats 40000000 in
theorem own_rm29 (l : Launch) (Z : State) (a0 : Array Value) (hw : own_H a0 Z) (ws : List Jvm.Cond) (p1 : Int32) (h0 : Heap) (n0 : Nat) (Z0 : n0 ≤ h0.size) : own_M l Z ws own_n31 own_k29 4 (some .int) (own_R 0 0 0 0) #[(.int p1)] h0 (own_rm29_Q Z p1  h0 n0) := by
  refine own_open n0 "java/lang/Integer" rfl (plainFor_of_name own_pn6) (fun m => ef_own_rm29 m p1) ?_
  intro p e s m below meth c s₁ hx hby hml hZ hown hnm hlk hrt X0 e0 N0
  have K0 := Keep.refl h0 []
  refine own_s s₁ m 2 #[own_i p1, own_i 1, .unset, .unset] [] (fun t k => XS.iconst X0.here hx rfl (hb hby d29_0) (XS.istoreN X0.here hx rfl (hb hby d29_1) rfl (l' := #[own_i p1, own_i 1, .unset, .unset]) rfl k)) ?_
  have J101 : ∀ (xx : Int32) (dd : Int32) (hxx : xx.toInt = -(own_abs p1 : Int)) (hdd : dd = (if p1 < 0 then (1 : Int32) else 0)), own_Fin p e below (own_P (own_rm29_Q Z p1  h0 n0) s (own_R 0 0 0 0).cells (own_R 0 0 0 0).slots) (s₁.setTop (mkF m 11 #[own_i xx, own_i dd, .unset, .unset] [])) := by
    intro xx dd hxx hdd
    refine own_s s₁ m 16 #[own_i xx, own_i dd, own_i (-10 : Int32), own_i 1] [] (fun t k => XS.bipush X0.here hx rfl (hb hby d29_11) (XS.istoreN X0.here hx rfl (hb hby d29_13) rfl (l' := #[own_i xx, own_i dd, own_i (-10 : Int32), .unset]) rfl (XS.iconst X0.here hx rfl (hb hby d29_14) (XS.istoreN X0.here hx rfl (hb hby d29_15) rfl (l' := #[own_i xx, own_i dd, own_i (-10 : Int32), own_i 1]) rfl k)))) ?_
    refine own_s s₁ m 23 #[own_i xx, own_i dd, own_i (-10 : Int32), own_i 1] [.int xx] (fun t k => XS.iloadN X0.here hx rfl (hb hby d29_16) rfl (XS.bipush X0.here hx rfl (hb hby d29_17) (XS.icmpNo X0.here hx rfl (hb hby d29_19) rfl (XT.ii_ge_f (by decide)) (XS.iloadN X0.here hx rfl (hb hby d29_22) rfl k)))) ?_
    refine own_s s₁ m 24 #[own_i xx, own_i dd, own_i (-10 : Int32), own_i 1] [.int (-10 : Int32), .int xx] (fun t k => XS.iloadN X0.here hx rfl (hb hby d29_23) rfl k) ?_
    by_cases hc24_102 : (-10 : Int32) < xx
    · refine own_s s₁ m 30 #[own_i xx, own_i dd, own_i (-10 : Int32), own_i 1] [.int ((1 : Int32) + dd)] (fun t k => XS.icmpNo X0.here hx rfl (hb hby d29_24) rfl (XT.ii_le_f hc24_102) (XS.iloadN X0.here hx rfl (hb hby d29_27) rfl (XS.iloadN X0.here hx rfl (hb hby d29_28) rfl (XS.iadd X0.here hx rfl (hb hby d29_29) rfl k)))) ?_
      exact own_retI X0 hx hlk hrt (hb hby d29_30) ⟨(own_szQ (k := 1) hdd rfl (by have hbb := own_absb p1; rw [Int32.lt_iff_toInt_lt, show (-10 : Int32).toInt = (-10 : Int) from rfl] at hc24_102; exact own_nd_1 (by omega) (by omega))), N0, e0⟩ (by decide) (by decide)
    · refine own_s s₁ m 35 #[own_i xx, own_i dd, own_i (-10 : Int32), own_i 1] [.int ((10 : Int32) * (-10 : Int32))] (fun t k => XS.icmpYes X0.here hx rfl (pc0 := 24) (pc' := 31) rfl (hb hby d29_24) rfl (XT.ii_le_t hc24_102) (by decide) (by decide) (XS.bipush X0.here hx rfl (hb hby d29_31) (XS.iloadN X0.here hx rfl (hb hby d29_33) rfl (XS.imul X0.here hx rfl (hb hby d29_34) rfl k)))) ?_
      rw [show ((10 : Int32) * (-10 : Int32)) = (-100 : Int32) from by decide]
      refine own_s s₁ m 17 #[own_i xx, own_i dd, own_i (-100 : Int32), own_i 2] [.int 2] (fun t k => XS.istoreN X0.here hx rfl (hb hby d29_35) rfl (l' := #[own_i xx, own_i dd, own_i (-100 : Int32), own_i 1]) rfl (XS.iinc X0.here hx rfl (hb hby d29_36) rfl (l' := #[own_i xx, own_i dd, own_i (-100 : Int32), own_i 2]) rfl (XS.goto X0.here hx rfl (pc0 := 39) (pc' := 16) rfl (hb hby d29_39) (by decide) (by decide) (XS.iloadN X0.here hx rfl (hb hby d29_16) rfl k)))) ?_
      refine own_s s₁ m 24 #[own_i xx, own_i dd, own_i (-100 : Int32), own_i 2] [.int (-100 : Int32), .int xx] (fun t k => XS.bipush X0.here hx rfl (hb hby d29_17) (XS.icmpNo X0.here hx rfl (hb hby d29_19) rfl (XT.ii_ge_f (by decide)) (XS.iloadN X0.here hx rfl (hb hby d29_22) rfl (XS.iloadN X0.here hx rfl (hb hby d29_23) rfl k)))) ?_
      by_cases hc24_103 : (-100 : Int32) < xx
      · refine own_s s₁ m 30 #[own_i xx, own_i dd, own_i (-100 : Int32), own_i 2] [.int ((2 : Int32) + dd)] (fun t k => XS.icmpNo X0.here hx rfl (hb hby d29_24) rfl (XT.ii_le_f hc24_103) (XS.iloadN X0.here hx rfl (hb hby d29_27) rfl (XS.iloadN X0.here hx rfl (hb hby d29_28) rfl (XS.iadd X0.here hx rfl (hb hby d29_29) rfl k)))) ?_
        exact own_retI X0 hx hlk hrt (hb hby d29_30) ⟨(own_szQ (k := 2) hdd rfl (by have hbb := own_absb p1; rw [Int32.lt_iff_toInt_lt, show (-10 : Int32).toInt = (-10 : Int) from rfl] at hc24_102; rw [Int32.lt_iff_toInt_lt, show (-100 : Int32).toInt = (-100 : Int) from rfl] at hc24_103; exact own_nd_2 (by omega) (by omega))), N0, e0⟩ (by decide) (by decide)
      · refine own_s s₁ m 35 #[own_i xx, own_i dd, own_i (-100 : Int32), own_i 2] [.int ((10 : Int32) * (-100 : Int32))] (fun t k => XS.icmpYes X0.here hx rfl (pc0 := 24) (pc' := 31) rfl (hb hby d29_24) rfl (XT.ii_le_t hc24_103) (by decide) (by decide) (XS.bipush X0.here hx rfl (hb hby d29_31) (XS.iloadN X0.here hx rfl (hb hby d29_33) rfl (XS.imul X0.here hx rfl (hb hby d29_34) rfl k)))) ?_
        rw [show ((10 : Int32) * (-100 : Int32)) = (-1000 : Int32) from by decide]
        refine own_s s₁ m 17 #[own_i xx, own_i dd, own_i (-1000 : Int32), own_i 3] [.int 3] (fun t k => XS.istoreN X0.here hx rfl (hb hby d29_35) rfl (l' := #[own_i xx, own_i dd, own_i (-1000 : Int32), own_i 2]) rfl (XS.iinc X0.here hx rfl (hb hby d29_36) rfl (l' := #[own_i xx, own_i dd, own_i (-1000 : Int32), own_i 3]) rfl (XS.goto X0.here hx rfl (pc0 := 39) (pc' := 16) rfl (hb hby d29_39) (by decide) (by decide) (XS.iloadN X0.here hx rfl (hb hby d29_16) rfl k)))) ?_
        refine own_s s₁ m 24 #[own_i xx, own_i dd, own_i (-1000 : Int32), own_i 3] [.int (-1000 : Int32), .int xx] (fun t k => XS.bipush X0.here hx rfl (hb hby d29_17) (XS.icmpNo X0.here hx rfl (hb hby d29_19) rfl (XT.ii_ge_f (by decide)) (XS.iloadN X0.here hx rfl (hb hby d29_22) rfl (XS.iloadN X0.here hx rfl (hb hby d29_23) rfl k)))) ?_
        by_cases hc24_104 : (-1000 : Int32) < xx
        · refine own_s s₁ m 30 #[own_i xx, own_i dd, own_i (-1000 : Int32), own_i 3] [.int ((3 : Int32) + dd)] (fun t k => XS.icmpNo X0.here hx rfl (hb hby d29_24) rfl (XT.ii_le_f hc24_104) (XS.iloadN X0.here hx rfl (hb hby d29_27) rfl (XS.iloadN X0.here hx rfl (hb hby d29_28) rfl (XS.iadd X0.here hx rfl (hb hby d29_29) rfl k)))) ?_
          exact own_retI X0 hx hlk hrt (hb hby d29_30) ⟨(own_szQ (k := 3) hdd rfl (by have hbb := own_absb p1; rw [Int32.lt_iff_toInt_lt, show (-100 : Int32).toInt = (-100 : Int) from rfl] at hc24_103; rw [Int32.lt_iff_toInt_lt, show (-1000 : Int32).toInt = (-1000 : Int) from rfl] at hc24_104; exact own_nd_3 (by omega) (by omega))), N0, e0⟩ (by decide) (by decide)
        · refine own_s s₁ m 35 #[own_i xx, own_i dd, own_i (-1000 : Int32), own_i 3] [.int ((10 : Int32) * (-1000 : Int32))] (fun t k => XS.icmpYes X0.here hx rfl (pc0 := 24) (pc' := 31) rfl (hb hby d29_24) rfl (XT.ii_le_t hc24_104) (by decide) (by decide) (XS.bipush X0.here hx rfl (hb hby d29_31) (XS.iloadN X0.here hx rfl (hb hby d29_33) rfl (XS.imul X0.here hx rfl (hb hby d29_34) rfl k)))) ?_
          rw [show ((10 : Int32) * (-1000 : Int32)) = (-10000 : Int32) from by decide]
          refine own_s s₁ m 17 #[own_i xx, own_i dd, own_i (-10000 : Int32), own_i 4] [.int 4] (fun t k => XS.istoreN X0.here hx rfl (hb hby d29_35) rfl (l' := #[own_i xx, own_i dd, own_i (-10000 : Int32), own_i 3]) rfl (XS.iinc X0.here hx rfl (hb hby d29_36) rfl (l' := #[own_i xx, own_i dd, own_i (-10000 : Int32), own_i 4]) rfl (XS.goto X0.here hx rfl (pc0 := 39) (pc' := 16) rfl (hb hby d29_39) (by decide) (by decide) (XS.iloadN X0.here hx rfl (hb hby d29_16) rfl k)))) ?_
          refine own_s s₁ m 24 #[own_i xx, own_i dd, own_i (-10000 : Int32), own_i 4] [.int (-10000 : Int32), .int xx] (fun t k => XS.bipush X0.here hx rfl (hb hby d29_17) (XS.icmpNo X0.here hx rfl (hb hby d29_19) rfl (XT.ii_ge_f (by decide)) (XS.iloadN X0.here hx rfl (hb hby d29_22) rfl (XS.iloadN X0.here hx rfl (hb hby d29_23) rfl k)))) ?_
          by_cases hc24_105 : (-10000 : Int32) < xx
          · refine own_s s₁ m 30 #[own_i xx, own_i dd, own_i (-10000 : Int32), own_i 4] [.int ((4 : Int32) + dd)] (fun t k => XS.icmpNo X0.here hx rfl (hb hby d29_24) rfl (XT.ii_le_f hc24_105) (XS.iloadN X0.here hx rfl (hb hby d29_27) rfl (XS.iloadN X0.here hx rfl (hb hby d29_28) rfl (XS.iadd X0.here hx rfl (hb hby d29_29) rfl k)))) ?_
            exact own_retI X0 hx hlk hrt (hb hby d29_30) ⟨(own_szQ (k := 4) hdd rfl (by have hbb := own_absb p1; rw [Int32.lt_iff_toInt_lt, show (-1000 : Int32).toInt = (-1000 : Int) from rfl] at hc24_104; rw [Int32.lt_iff_toInt_lt, show (-10000 : Int32).toInt = (-10000 : Int) from rfl] at hc24_105; exact own_nd_4 (by omega) (by omega))), N0, e0⟩ (by decide) (by decide)
          · refine own_s s₁ m 35 #[own_i xx, own_i dd, own_i (-10000 : Int32), own_i 4] [.int ((10 : Int32) * (-10000 : Int32))] (fun t k => XS.icmpYes X0.here hx rfl (pc0 := 24) (pc' := 31) rfl (hb hby d29_24) rfl (XT.ii_le_t hc24_105) (by decide) (by decide) (XS.bipush X0.here hx rfl (hb hby d29_31) (XS.iloadN X0.here hx rfl (hb hby d29_33) rfl (XS.imul X0.here hx rfl (hb hby d29_34) rfl k)))) ?_
            rw [show ((10 : Int32) * (-10000 : Int32)) = (-100000 : Int32) from by decide]
            refine own_s s₁ m 17 #[own_i xx, own_i dd, own_i (-100000 : Int32), own_i 5] [.int 5] (fun t k => XS.istoreN X0.here hx rfl (hb hby d29_35) rfl (l' := #[own_i xx, own_i dd, own_i (-100000 : Int32), own_i 4]) rfl (XS.iinc X0.here hx rfl (hb hby d29_36) rfl (l' := #[own_i xx, own_i dd, own_i (-100000 : Int32), own_i 5]) rfl (XS.goto X0.here hx rfl (pc0 := 39) (pc' := 16) rfl (hb hby d29_39) (by decide) (by decide) (XS.iloadN X0.here hx rfl (hb hby d29_16) rfl k)))) ?_
            refine own_s s₁ m 24 #[own_i xx, own_i dd, own_i (-100000 : Int32), own_i 5] [.int (-100000 : Int32), .int xx] (fun t k => XS.bipush X0.here hx rfl (hb hby d29_17) (XS.icmpNo X0.here hx rfl (hb hby d29_19) rfl (XT.ii_ge_f (by decide)) (XS.iloadN X0.here hx rfl (hb hby d29_22) rfl (XS.iloadN X0.here hx rfl (hb hby d29_23) rfl k)))) ?_
            by_cases hc24_106 : (-100000 : Int32) < xx
            · refine own_s s₁ m 30 #[own_i xx, own_i dd, own_i (-100000 : Int32), own_i 5] [.int ((5 : Int32) + dd)] (fun t k => XS.icmpNo X0.here hx rfl (hb hby d29_24) rfl (XT.ii_le_f hc24_106) (XS.iloadN X0.here hx rfl (hb hby d29_27) rfl (XS.iloadN X0.here hx rfl (hb hby d29_28) rfl (XS.iadd X0.here hx rfl (hb hby d29_29) rfl k)))) ?_
              exact own_retI X0 hx hlk hrt (hb hby d29_30) ⟨(own_szQ (k := 5) hdd rfl (by have hbb := own_absb p1; rw [Int32.lt_iff_toInt_lt, show (-10000 : Int32).toInt = (-10000 : Int) from rfl] at hc24_105; rw [Int32.lt_iff_toInt_lt, show (-100000 : Int32).toInt = (-100000 : Int) from rfl] at hc24_106; exact own_nd_5 (by omega) (by omega))), N0, e0⟩ (by decide) (by decide)
            · refine own_s s₁ m 35 #[own_i xx, own_i dd, own_i (-100000 : Int32), own_i 5] [.int ((10 : Int32) * (-100000 : Int32))] (fun t k => XS.icmpYes X0.here hx rfl (pc0 := 24) (pc' := 31) rfl (hb hby d29_24) rfl (XT.ii_le_t hc24_106) (by decide) (by decide) (XS.bipush X0.here hx rfl (hb hby d29_31) (XS.iloadN X0.here hx rfl (hb hby d29_33) rfl (XS.imul X0.here hx rfl (hb hby d29_34) rfl k)))) ?_
              rw [show ((10 : Int32) * (-100000 : Int32)) = (-1000000 : Int32) from by decide]
              refine own_s s₁ m 17 #[own_i xx, own_i dd, own_i (-1000000 : Int32), own_i 6] [.int 6] (fun t k => XS.istoreN X0.here hx rfl (hb hby d29_35) rfl (l' := #[own_i xx, own_i dd, own_i (-1000000 : Int32), own_i 5]) rfl (XS.iinc X0.here hx rfl (hb hby d29_36) rfl (l' := #[own_i xx, own_i dd, own_i (-1000000 : Int32), own_i 6]) rfl (XS.goto X0.here hx rfl (pc0 := 39) (pc' := 16) rfl (hb hby d29_39) (by decide) (by decide) (XS.iloadN X0.here hx rfl (hb hby d29_16) rfl k)))) ?_
              refine own_s s₁ m 24 #[own_i xx, own_i dd, own_i (-1000000 : Int32), own_i 6] [.int (-1000000 : Int32), .int xx] (fun t k => XS.bipush X0.here hx rfl (hb hby d29_17) (XS.icmpNo X0.here hx rfl (hb hby d29_19) rfl (XT.ii_ge_f (by decide)) (XS.iloadN X0.here hx rfl (hb hby d29_22) rfl (XS.iloadN X0.here hx rfl (hb hby d29_23) rfl k)))) ?_
              by_cases hc24_107 : (-1000000 : Int32) < xx
              · refine own_s s₁ m 30 #[own_i xx, own_i dd, own_i (-1000000 : Int32), own_i 6] [.int ((6 : Int32) + dd)] (fun t k => XS.icmpNo X0.here hx rfl (hb hby d29_24) rfl (XT.ii_le_f hc24_107) (XS.iloadN X0.here hx rfl (hb hby d29_27) rfl (XS.iloadN X0.here hx rfl (hb hby d29_28) rfl (XS.iadd X0.here hx rfl (hb hby d29_29) rfl k)))) ?_
                exact own_retI X0 hx hlk hrt (hb hby d29_30) ⟨(own_szQ (k := 6) hdd rfl (by have hbb := own_absb p1; rw [Int32.lt_iff_toInt_lt, show (-100000 : Int32).toInt = (-100000 : Int) from rfl] at hc24_106; rw [Int32.lt_iff_toInt_lt, show (-1000000 : Int32).toInt = (-1000000 : Int) from rfl] at hc24_107; exact own_nd_6 (by omega) (by omega))), N0, e0⟩ (by decide) (by decide)
              · refine own_s s₁ m 35 #[own_i xx, own_i dd, own_i (-1000000 : Int32), own_i 6] [.int ((10 : Int32) * (-1000000 : Int32))] (fun t k => XS.icmpYes X0.here hx rfl (pc0 := 24) (pc' := 31) rfl (hb hby d29_24) rfl (XT.ii_le_t hc24_107) (by decide) (by decide) (XS.bipush X0.here hx rfl (hb hby d29_31) (XS.iloadN X0.here hx rfl (hb hby d29_33) rfl (XS.imul X0.here hx rfl (hb hby d29_34) rfl k)))) ?_
                rw [show ((10 : Int32) * (-1000000 : Int32)) = (-10000000 : Int32) from by decide]
                refine own_s s₁ m 17 #[own_i xx, own_i dd, own_i (-10000000 : Int32), own_i 7] [.int 7] (fun t k => XS.istoreN X0.here hx rfl (hb hby d29_35) rfl (l' := #[own_i xx, own_i dd, own_i (-10000000 : Int32), own_i 6]) rfl (XS.iinc X0.here hx rfl (hb hby d29_36) rfl (l' := #[own_i xx, own_i dd, own_i (-10000000 : Int32), own_i 7]) rfl (XS.goto X0.here hx rfl (pc0 := 39) (pc' := 16) rfl (hb hby d29_39) (by decide) (by decide) (XS.iloadN X0.here hx rfl (hb hby d29_16) rfl k)))) ?_
                refine own_s s₁ m 24 #[own_i xx, own_i dd, own_i (-10000000 : Int32), own_i 7] [.int (-10000000 : Int32), .int xx] (fun t k => XS.bipush X0.here hx rfl (hb hby d29_17) (XS.icmpNo X0.here hx rfl (hb hby d29_19) rfl (XT.ii_ge_f (by decide)) (XS.iloadN X0.here hx rfl (hb hby d29_22) rfl (XS.iloadN X0.here hx rfl (hb hby d29_23) rfl k)))) ?_
                by_cases hc24_108 : (-10000000 : Int32) < xx
                · refine own_s s₁ m 30 #[own_i xx, own_i dd, own_i (-10000000 : Int32), own_i 7] [.int ((7 : Int32) + dd)] (fun t k => XS.icmpNo X0.here hx rfl (hb hby d29_24) rfl (XT.ii_le_f hc24_108) (XS.iloadN X0.here hx rfl (hb hby d29_27) rfl (XS.iloadN X0.here hx rfl (hb hby d29_28) rfl (XS.iadd X0.here hx rfl (hb hby d29_29) rfl k)))) ?_
                  exact own_retI X0 hx hlk hrt (hb hby d29_30) ⟨(own_szQ (k := 7) hdd rfl (by have hbb := own_absb p1; rw [Int32.lt_iff_toInt_lt, show (-1000000 : Int32).toInt = (-1000000 : Int) from rfl] at hc24_107; rw [Int32.lt_iff_toInt_lt, show (-10000000 : Int32).toInt = (-10000000 : Int) from rfl] at hc24_108; exact own_nd_7 (by omega) (by omega))), N0, e0⟩ (by decide) (by decide)
                · refine own_s s₁ m 35 #[own_i xx, own_i dd, own_i (-10000000 : Int32), own_i 7] [.int ((10 : Int32) * (-10000000 : Int32))] (fun t k => XS.icmpYes X0.here hx rfl (pc0 := 24) (pc' := 31) rfl (hb hby d29_24) rfl (XT.ii_le_t hc24_108) (by decide) (by decide) (XS.bipush X0.here hx rfl (hb hby d29_31) (XS.iloadN X0.here hx rfl (hb hby d29_33) rfl (XS.imul X0.here hx rfl (hb hby d29_34) rfl k)))) ?_
                  rw [show ((10 : Int32) * (-10000000 : Int32)) = (-100000000 : Int32) from by decide]
                  refine own_s s₁ m 17 #[own_i xx, own_i dd, own_i (-100000000 : Int32), own_i 8] [.int 8] (fun t k => XS.istoreN X0.here hx rfl (hb hby d29_35) rfl (l' := #[own_i xx, own_i dd, own_i (-100000000 : Int32), own_i 7]) rfl (XS.iinc X0.here hx rfl (hb hby d29_36) rfl (l' := #[own_i xx, own_i dd, own_i (-100000000 : Int32), own_i 8]) rfl (XS.goto X0.here hx rfl (pc0 := 39) (pc' := 16) rfl (hb hby d29_39) (by decide) (by decide) (XS.iloadN X0.here hx rfl (hb hby d29_16) rfl k)))) ?_
                  refine own_s s₁ m 24 #[own_i xx, own_i dd, own_i (-100000000 : Int32), own_i 8] [.int (-100000000 : Int32), .int xx] (fun t k => XS.bipush X0.here hx rfl (hb hby d29_17) (XS.icmpNo X0.here hx rfl (hb hby d29_19) rfl (XT.ii_ge_f (by decide)) (XS.iloadN X0.here hx rfl (hb hby d29_22) rfl (XS.iloadN X0.here hx rfl (hb hby d29_23) rfl k)))) ?_
                  by_cases hc24_109 : (-100000000 : Int32) < xx
                  · refine own_s s₁ m 30 #[own_i xx, own_i dd, own_i (-100000000 : Int32), own_i 8] [.int ((8 : Int32) + dd)] (fun t k => XS.icmpNo X0.here hx rfl (hb hby d29_24) rfl (XT.ii_le_f hc24_109) (XS.iloadN X0.here hx rfl (hb hby d29_27) rfl (XS.iloadN X0.here hx rfl (hb hby d29_28) rfl (XS.iadd X0.here hx rfl (hb hby d29_29) rfl k)))) ?_
                    exact own_retI X0 hx hlk hrt (hb hby d29_30) ⟨(own_szQ (k := 8) hdd rfl (by have hbb := own_absb p1; rw [Int32.lt_iff_toInt_lt, show (-10000000 : Int32).toInt = (-10000000 : Int) from rfl] at hc24_108; rw [Int32.lt_iff_toInt_lt, show (-100000000 : Int32).toInt = (-100000000 : Int) from rfl] at hc24_109; exact own_nd_8 (by omega) (by omega))), N0, e0⟩ (by decide) (by decide)
                  · refine own_s s₁ m 35 #[own_i xx, own_i dd, own_i (-100000000 : Int32), own_i 8] [.int ((10 : Int32) * (-100000000 : Int32))] (fun t k => XS.icmpYes X0.here hx rfl (pc0 := 24) (pc' := 31) rfl (hb hby d29_24) rfl (XT.ii_le_t hc24_109) (by decide) (by decide) (XS.bipush X0.here hx rfl (hb hby d29_31) (XS.iloadN X0.here hx rfl (hb hby d29_33) rfl (XS.imul X0.here hx rfl (hb hby d29_34) rfl k)))) ?_
                    rw [show ((10 : Int32) * (-100000000 : Int32)) = (-1000000000 : Int32) from by decide]
                    refine own_s s₁ m 17 #[own_i xx, own_i dd, own_i (-1000000000 : Int32), own_i 9] [.int 9] (fun t k => XS.istoreN X0.here hx rfl (hb hby d29_35) rfl (l' := #[own_i xx, own_i dd, own_i (-1000000000 : Int32), own_i 8]) rfl (XS.iinc X0.here hx rfl (hb hby d29_36) rfl (l' := #[own_i xx, own_i dd, own_i (-1000000000 : Int32), own_i 9]) rfl (XS.goto X0.here hx rfl (pc0 := 39) (pc' := 16) rfl (hb hby d29_39) (by decide) (by decide) (XS.iloadN X0.here hx rfl (hb hby d29_16) rfl k)))) ?_
                    refine own_s s₁ m 24 #[own_i xx, own_i dd, own_i (-1000000000 : Int32), own_i 9] [.int (-1000000000 : Int32), .int xx] (fun t k => XS.bipush X0.here hx rfl (hb hby d29_17) (XS.icmpNo X0.here hx rfl (hb hby d29_19) rfl (XT.ii_ge_f (by decide)) (XS.iloadN X0.here hx rfl (hb hby d29_22) rfl (XS.iloadN X0.here hx rfl (hb hby d29_23) rfl k)))) ?_
                    by_cases hc24_110 : (-1000000000 : Int32) < xx
                    · refine own_s s₁ m 30 #[own_i xx, own_i dd, own_i (-1000000000 : Int32), own_i 9] [.int ((9 : Int32) + dd)] (fun t k => XS.icmpNo X0.here hx rfl (hb hby d29_24) rfl (XT.ii_le_f hc24_110) (XS.iloadN X0.here hx rfl (hb hby d29_27) rfl (XS.iloadN X0.here hx rfl (hb hby d29_28) rfl (XS.iadd X0.here hx rfl (hb hby d29_29) rfl k)))) ?_
                      exact own_retI X0 hx hlk hrt (hb hby d29_30) ⟨(own_szQ (k := 9) hdd rfl (by have hbb := own_absb p1; rw [Int32.lt_iff_toInt_lt, show (-100000000 : Int32).toInt = (-100000000 : Int) from rfl] at hc24_109; rw [Int32.lt_iff_toInt_lt, show (-1000000000 : Int32).toInt = (-1000000000 : Int) from rfl] at hc24_110; exact own_nd_9 (by omega) (by omega))), N0, e0⟩ (by decide) (by decide)
                    · refine own_s s₁ m 35 #[own_i xx, own_i dd, own_i (-1000000000 : Int32), own_i 9] [.int ((10 : Int32) * (-1000000000 : Int32))] (fun t k => XS.icmpYes X0.here hx rfl (pc0 := 24) (pc' := 31) rfl (hb hby d29_24) rfl (XT.ii_le_t hc24_110) (by decide) (by decide) (XS.bipush X0.here hx rfl (hb hby d29_31) (XS.iloadN X0.here hx rfl (hb hby d29_33) rfl (XS.imul X0.here hx rfl (hb hby d29_34) rfl k)))) ?_
                      rw [show ((10 : Int32) * (-1000000000 : Int32)) = (-1410065408 : Int32) from by decide]
                      refine own_s s₁ m 17 #[own_i xx, own_i dd, own_i (-1410065408 : Int32), own_i 10] [.int 10] (fun t k => XS.istoreN X0.here hx rfl (hb hby d29_35) rfl (l' := #[own_i xx, own_i dd, own_i (-1410065408 : Int32), own_i 9]) rfl (XS.iinc X0.here hx rfl (hb hby d29_36) rfl (l' := #[own_i xx, own_i dd, own_i (-1410065408 : Int32), own_i 10]) rfl (XS.goto X0.here hx rfl (pc0 := 39) (pc' := 16) rfl (hb hby d29_39) (by decide) (by decide) (XS.iloadN X0.here hx rfl (hb hby d29_16) rfl k)))) ?_
                      refine own_s s₁ m 45 #[own_i xx, own_i dd, own_i (-1410065408 : Int32), own_i 10] [.int dd, .int 10] (fun t k => XS.bipush X0.here hx rfl (hb hby d29_17) (XS.icmpYes X0.here hx rfl (pc0 := 19) (pc' := 42) rfl (hb hby d29_19) rfl (XT.ii_ge_t (by decide)) (by decide) (by decide) (XS.bipush X0.here hx rfl (hb hby d29_42) (XS.iloadN X0.here hx rfl (hb hby d29_44) rfl k)))) ?_
                      refine own_s s₁ m 46 #[own_i xx, own_i dd, own_i (-1410065408 : Int32), own_i 10] [.int ((10 : Int32) + dd)] (fun t k => XS.iadd X0.here hx rfl (hb hby d29_45) rfl k) ?_
                      exact own_retI X0 hx hlk hrt (hb hby d29_46) ⟨(own_szQ (k := 10) hdd rfl (by have hbb := own_absb p1; rw [Int32.lt_iff_toInt_lt, show (-1000000000 : Int32).toInt = (-1000000000 : Int) from rfl] at hc24_110; exact own_nd_10 (by omega) (by omega))), N0, e0⟩ (by decide) (by decide)
  refine own_s s₁ m 3 #[own_i p1, own_i 1, .unset, .unset] [.int p1] (fun t k => XS.iloadN X0.here hx rfl (hb hby d29_2) rfl k) ?_
  by_cases hc3_111 : p1 < 0
  · refine own_s s₁ m 11 #[own_i p1, own_i 1, .unset, .unset] [] (fun t k => XS.ifYes X0.here hx rfl (pc0 := 3) (pc' := 11) rfl (hb hby d29_3) rfl (XT.i0_lt_t hc3_111) (by decide) (by decide) k) ?_
    exact J101 p1 (1 : Int32) (own_m1 hc3_111) (by rw [if_pos hc3_111])
  · refine own_s s₁ m 9 #[own_i p1, own_i 0, .unset, .unset] [.int p1] (fun t k => XS.ifNo X0.here hx rfl (hb hby d29_3) rfl (XT.i0_lt_f hc3_111) (XS.iconst X0.here hx rfl (hb hby d29_6) (XS.istoreN X0.here hx rfl (hb hby d29_7) rfl (l' := #[own_i p1, own_i 0, .unset, .unset]) rfl (XS.iloadN X0.here hx rfl (hb hby d29_8) rfl k)))) ?_
    refine own_s s₁ m 11 #[own_i (-p1), own_i 0, .unset, .unset] [] (fun t k => XS.ineg X0.here hx rfl (hb hby d29_9) rfl (XS.istoreN X0.here hx rfl (hb hby d29_10) rfl (l' := #[own_i (-p1), own_i 0, .unset, .unset]) rfl k)) ?_
    exact J101 (-p1) (0 : Int32) (own_m0 hc3_111) (by rw [if_neg hc3_111])
abbrev own_k31 := jdk_33_method_12_code
abbrev own_n32 : MethodName := ⟨"java/lang/Integer", "getChars", "(II[B)I"⟩
theorem d31_0 : own_D own_k31 0 (.iload_n 1) 1 := by decide +kernel
theorem d31_1 : own_D own_k31 1 (.istore 5) 2 := by decide +kernel
theorem d31_3 : own_D own_k31 3 (.iload_n 0) 1 := by decide +kernel
theorem d31_4 : own_D own_k31 4 (.ifCond .ge 7) 3 := by decide +kernel
theorem d31_7 : own_D own_k31 7 (.iconst 1) 1 := by decide +kernel
theorem d31_8 : own_D own_k31 8 (.goto 4) 3 := by decide +kernel
theorem d31_11 : own_D own_k31 11 (.iconst 0) 1 := by decide +kernel
theorem d31_12 : own_D own_k31 12 (.istore 6) 2 := by decide +kernel
theorem d31_14 : own_D own_k31 14 (.iload 6) 2 := by decide +kernel
theorem d31_16 : own_D own_k31 16 (.ifCond .ne 6) 3 := by decide +kernel
theorem d31_19 : own_D own_k31 19 (.iload_n 0) 1 := by decide +kernel
theorem d31_20 : own_D own_k31 20 (.ineg) 1 := by decide +kernel
theorem d31_21 : own_D own_k31 21 (.istore_n 0) 1 := by decide +kernel
theorem d31_22 : own_D own_k31 22 (.iload_n 0) 1 := by decide +kernel
theorem d31_23 : own_D own_k31 23 (.bipush (-100)) 2 := by decide +kernel
theorem d31_25 : own_D own_k31 25 (.if_icmp .gt 47) 3 := by decide +kernel
theorem d31_28 : own_D own_k31 28 (.iload_n 0) 1 := by decide +kernel
theorem d31_29 : own_D own_k31 29 (.bipush 100) 2 := by decide +kernel
theorem d31_31 : own_D own_k31 31 (.idiv) 1 := by decide +kernel
theorem d31_32 : own_D own_k31 32 (.istore_n 3) 1 := by decide +kernel
theorem d31_33 : own_D own_k31 33 (.iload_n 3) 1 := by decide +kernel
theorem d31_34 : own_D own_k31 34 (.bipush 100) 2 := by decide +kernel
theorem d31_36 : own_D own_k31 36 (.imul) 1 := by decide +kernel
theorem d31_37 : own_D own_k31 37 (.iload_n 0) 1 := by decide +kernel
theorem d31_38 : own_D own_k31 38 (.isub) 1 := by decide +kernel
theorem d31_39 : own_D own_k31 39 (.istore 4) 2 := by decide +kernel
theorem d31_41 : own_D own_k31 41 (.iload_n 3) 1 := by decide +kernel
theorem d31_42 : own_D own_k31 42 (.istore_n 0) 1 := by decide +kernel
theorem d31_43 : own_D own_k31 43 (.aload_n 2) 1 := by decide +kernel
theorem d31_44 : own_D own_k31 44 (.iinc 5 (-1)) 3 := by decide +kernel
theorem d31_47 : own_D own_k31 47 (.iload 5) 2 := by decide +kernel
theorem d31_49 : own_D own_k31 49 (.getstatic 83) 3 := by decide +kernel
theorem d31_52 : own_D own_k31 52 (.iload 4) 2 := by decide +kernel
theorem d31_54 : own_D own_k31 54 (.baload) 1 := by decide +kernel
theorem d31_55 : own_D own_k31 55 (.bastore) 1 := by decide +kernel
theorem d31_56 : own_D own_k31 56 (.aload_n 2) 1 := by decide +kernel
theorem d31_57 : own_D own_k31 57 (.iinc 5 (-1)) 3 := by decide +kernel
theorem d31_60 : own_D own_k31 60 (.iload 5) 2 := by decide +kernel
theorem d31_62 : own_D own_k31 62 (.getstatic 87) 3 := by decide +kernel
theorem d31_65 : own_D own_k31 65 (.iload 4) 2 := by decide +kernel
theorem d31_67 : own_D own_k31 67 (.baload) 1 := by decide +kernel
theorem d31_68 : own_D own_k31 68 (.bastore) 1 := by decide +kernel
theorem d31_69 : own_D own_k31 69 (.goto (-47)) 3 := by decide +kernel
theorem d31_72 : own_D own_k31 72 (.aload_n 2) 1 := by decide +kernel
theorem d31_73 : own_D own_k31 73 (.iinc 5 (-1)) 3 := by decide +kernel
theorem d31_76 : own_D own_k31 76 (.iload 5) 2 := by decide +kernel
theorem d31_78 : own_D own_k31 78 (.getstatic 83) 3 := by decide +kernel
theorem d31_81 : own_D own_k31 81 (.iload_n 0) 1 := by decide +kernel
theorem d31_82 : own_D own_k31 82 (.ineg) 1 := by decide +kernel
theorem d31_83 : own_D own_k31 83 (.baload) 1 := by decide +kernel
theorem d31_84 : own_D own_k31 84 (.bastore) 1 := by decide +kernel
theorem d31_85 : own_D own_k31 85 (.iload_n 0) 1 := by decide +kernel
theorem d31_86 : own_D own_k31 86 (.bipush (-9)) 2 := by decide +kernel
theorem d31_88 : own_D own_k31 88 (.if_icmp .ge 16) 3 := by decide +kernel
theorem d31_91 : own_D own_k31 91 (.aload_n 2) 1 := by decide +kernel
theorem d31_92 : own_D own_k31 92 (.iinc 5 (-1)) 3 := by decide +kernel
theorem d31_95 : own_D own_k31 95 (.iload 5) 2 := by decide +kernel
theorem d31_97 : own_D own_k31 97 (.getstatic 87) 3 := by decide +kernel
theorem d31_100 : own_D own_k31 100 (.iload_n 0) 1 := by decide +kernel
theorem d31_101 : own_D own_k31 101 (.ineg) 1 := by decide +kernel
theorem d31_102 : own_D own_k31 102 (.baload) 1 := by decide +kernel
theorem d31_103 : own_D own_k31 103 (.bastore) 1 := by decide +kernel
theorem d31_104 : own_D own_k31 104 (.iload 6) 2 := by decide +kernel
theorem d31_106 : own_D own_k31 106 (.ifCond .eq 12) 3 := by decide +kernel
theorem d31_109 : own_D own_k31 109 (.aload_n 2) 1 := by decide +kernel
theorem d31_110 : own_D own_k31 110 (.iinc 5 (-1)) 3 := by decide +kernel
theorem d31_113 : own_D own_k31 113 (.iload 5) 2 := by decide +kernel
theorem d31_115 : own_D own_k31 115 (.bipush 45) 2 := by decide +kernel
theorem d31_117 : own_D own_k31 117 (.bastore) 1 := by decide +kernel
theorem d31_118 : own_D own_k31 118 (.iload 5) 2 := by decide +kernel
theorem d31_120 : own_D own_k31 120 (.ireturn) 1 := by decide +kernel
theorem ef_own_rm31 (m : MethodId) (p1 : Int32) (p2 : Int32) (a1 : Addr) : entryFrame m #[(.int p1), (.int p2), (.ref a1)] 7 = mkF m 0 #[own_i p1, own_i p2, own_r a1, .unset, .unset, .unset, .unset] [] := by first | (simp [entryFrame, mkF, argsToLocals, Value.category]; done) | rfl
def own_rm31_Q (Z : State) (p1 : Int32) (p2 : Int32) (a1 : Addr) (BB : List Int32) (PR : List Int32) (YY : List Int32) (o1 : Addr) (o2 : Addr) (D1 : List Value) (D2 : List Value) (h0 : Heap) (n0 : Nat) (v : Option Value) (h : Heap) (L : List Loc) : Prop := ∃ z : Int32, v = some (.int z) ∧ Fr n0 L ∧ Keep h0 h [a1] ∧ own_Ar Z h a1 .byte ((BB ++ (own_dec p1 ++ YY)).map Value.int)
set_option maxRecDepth 65536 in
set_option maxHeartbeats 40000000 in
theorem own_rm31 (l : Launch) (Z : State) (a0 : Array Value) (hw : own_H a0 Z) (ws : List Jvm.Cond) (p1 p2 : Int32) (a1 : Addr) (BB PR YY : List Int32) (o1 o2 : Addr) (D1 D2 : List Value) (h0 : Heap) (n0 : Nat) (Z0 : n0 ≤ h0.size) (A_a1 : own_Ar Z h0 a1 .byte ((PR ++ YY).map Value.int)) (hp2 : p2 = PR.length.toInt32) (hlen : PR.length = BB.length + own_sz p1) (htk0 : PR.take BB.length = BB) (h34 : (PR ++ YY).length ≤ 34) (hno1 : o1 ≠ a1) (hno2 : o2 ≠ a1) (g_a1 : n0 ≤ a1) (S1 : Sta Z h0 "java/lang/Integer" "DigitOnes" "[B" (.ref o1)) (S2 : Sta Z h0 "java/lang/Integer" "DigitTens" "[B" (.ref o2)) (O1 : own_Ar Z h0 o1 .byte D1) (O2 : own_Ar Z h0 o2 .byte D2) (hD1 : ∀ i, i < 100 → D1[i]? = some (.int (own_dg (i % 10)))) (hD2 : ∀ i, i < 100 → D2[i]? = some (.int (own_dg (i / 10)))) : own_M l Z ws own_n32 own_k31 7 (some .int) (own_R 0 0 0 0) #[(.int p1), (.int p2), (.ref a1)] h0 (own_rm31_Q Z p1 p2 a1 BB PR YY o1 o2 D1 D2 h0 n0) := by
  refine own_open n0 "java/lang/Integer" rfl (plainFor_of_name own_pn6) (fun m => ef_own_rm31 m p1 p2 a1) ?_
  intro p e s m below meth c s₁ hx hby hml hZ hown hnm hlk hrt X0 e0 N0
  have K0 := Keep.refl h0 [a1]
  subst hp2
  refine own_s s₁ m 4 #[own_i p1, own_i PR.length.toInt32, own_r a1, .unset, .unset, own_i PR.length.toInt32, .unset] [.int p1] (fun t k => XS.iloadN X0.here hx rfl (hb hby d31_0) rfl (XS.istore X0.here hx rfl (hb hby d31_1) rfl (l' := #[own_i p1, own_i PR.length.toInt32, own_r a1, .unset, .unset, own_i PR.length.toInt32, .unset]) rfl (XS.iloadN X0.here hx rfl (hb hby d31_3) rfl k))) ?_
  by_cases hc4_101 : p1 < 0
  · refine own_s s₁ m 14 #[own_i p1, own_i PR.length.toInt32, own_r a1, .unset, .unset, own_i PR.length.toInt32, own_i 1] [] (fun t k => XS.ifNo X0.here hx rfl (hb hby d31_4) rfl (XT.i0_ge_f hc4_101) (XS.iconst X0.here hx rfl (hb hby d31_7) (XS.goto X0.here hx rfl (pc0 := 8) (pc' := 12) rfl (hb hby d31_8) (by decide) (by decide) (XS.istore X0.here hx rfl (hb hby d31_12) rfl (l' := #[own_i p1, own_i PR.length.toInt32, own_r a1, .unset, .unset, own_i PR.length.toInt32, own_i 1]) rfl k)))) ?_
    refine own_s s₁ m 22 #[own_i p1, own_i PR.length.toInt32, own_r a1, .unset, .unset, own_i PR.length.toInt32, own_i 1] [] (fun t k => XS.iload X0.here hx rfl (hb hby d31_14) rfl (XS.ifYes X0.here hx rfl (pc0 := 16) (pc' := 22) rfl (hb hby d31_16) rfl (XT.i0_ne_t (by decide)) (by decide) (by decide) k)) ?_
    have hB34 : BB.length ≤ 34 := by rw [List.length_append] at h34; omega
    have LOOP : ∀ (k mm : Nat) (x : Int32) (PQ YQ : List Int32) (Tl : State) (hl : Heap) (ll : List Loc) (s3 s4 : Slot) (Xl : Stand p l e (own_R 0 0 0 0) s m #[(.int p1), (.int PR.length.toInt32), (.ref a1)] below meth c Tl ll 0 0) (el : Tl.heap = hl) (Nl : Fr n0 ll) (Kl : Keep h0 hl [a1]) (Al : own_Ar Z hl a1 .byte ((PQ ++ YQ).map Value.int)), mm < k → mm ≤ 2147483648 → x.toInt = -(mm : Int) → PQ.length = BB.length + 1 + own_nd mm → PQ.take BB.length = BB → own_digs mm (own_nd mm) ++ YQ = own_digs (own_abs p1) (own_nd (own_abs p1)) ++ YY → (s3 = .unset ∨ ∃ w, s3 = .val w ∧ w.category = 1) → (s4 = .unset ∨ ∃ w, s4 = .val w ∧ w.category = 1) → own_Fin p e below (own_P (own_rm31_Q Z p1 (PR.length.toInt32) a1 BB PR YY o1 o2 D1 D2 h0 n0) s (own_R 0 0 0 0).cells (own_R 0 0 0 0).slots) (Tl.setTop (mkF m 22 #[own_i x, own_i PR.length.toInt32, own_r a1, s3, s4, own_i PQ.length.toInt32, own_i 1] [])) := by
      intro k
      induction k with
      | zero => intro mm x PQ YQ Tl hl ll s3 s4 Xl el Nl Kl Al hk; exact absurd hk (Nat.not_lt_zero _)
      | succ k ih =>
        intro mm x PQ YQ Tl hl ll s3 s4 Xl el Nl Kl Al hk hmb hxm hlp htk hE hs3 hs4
        have O1l := O1.keep Kl (ninS hno1 nin0)
        have O2l := O2.keep Kl (ninS hno2 nin0)
        have nsl := own_nsS (own_nsA A_a1) own_ns0
        have S1l := own_sta_keep S1 Kl nsl
        have S2l := own_sta_keep S2 Kl nsl
        have hndr := own_ndr mm
        refine own_s Tl m 25 #[own_i x, own_i PR.length.toInt32, own_r a1, s3, s4, own_i PQ.length.toInt32, own_i 1] [.int (-100 : Int32), .int x] (fun t k => XS.iloadN Xl.here hx rfl (hb hby d31_22) rfl (XS.bipush Xl.here hx rfl (hb hby d31_23) k)) ?_
        by_cases hc25_102 : (-100 : Int32) < x
        · refine own_s Tl m 72 #[own_i x, own_i PR.length.toInt32, own_r a1, s3, s4, own_i PQ.length.toInt32, own_i 1] [] (fun t k => XS.icmpYes Xl.here hx rfl (pc0 := 25) (pc' := 72) rfl (hb hby d31_25) rfl (XT.ii_gt_t hc25_102) (by decide) (by decide) k) ?_
          have hm100 : mm < 100 := by have q := hc25_102; rw [Int32.lt_iff_toInt_lt, show (-100 : Int32).toInt = -100 from rfl] at q; omega
          have hng := own_i0 (own_neg0 hxm hm100)
          refine own_s Tl m 76 #[own_i x, own_i PR.length.toInt32, own_r a1, s3, s4, own_i (PQ.length.toInt32 + (-1 : Int32)), own_i 1] [.ref a1] (fun t k => XS.aloadN Xl.here hx rfl (hb hby d31_72) rfl (rfl) (XS.iinc Xl.here hx rfl (hb hby d31_73) rfl (l' := #[own_i x, own_i PR.length.toInt32, own_r a1, s3, s4, own_i (PQ.length.toInt32 + (-1 : Int32)), own_i 1]) rfl k)) ?_
          have hpq1 : 0 < PQ.length := by omega
          rw [own_pred hpq1]
          refine own_s Tl m 78 #[own_i x, own_i PR.length.toInt32, own_r a1, s3, s4, .val (.int (PQ.length - 1).toInt32), own_i 1] [.int (PQ.length - 1).toInt32, .ref a1] (fun t k => XS.iload Xl.here hx rfl (hb hby d31_76) rfl k) ?_
          obtain ⟨T103, X103, e103, st103⟩ := getS Xl hx hZ hown (host := "") (own_w hw 184 rfl) Via.refl el S1l (g := (mkF m 78 #[own_i x, own_i PR.length.toInt32, own_r a1, s3, s4, .val (.int (PQ.length - 1).toInt32), own_i 1] [.int (PQ.length - 1).toInt32, .ref a1])) rfl (hb hby d31_78)
          refine own_s T103 m 84 #[own_i x, own_i PR.length.toInt32, own_r a1, s3, s4, .val (.int (PQ.length - 1).toInt32), own_i 1] [.int (own_dg ((mm) % 10)), .int (PQ.length - 1).toInt32, .ref a1] (fun t k => st103 _ (XS.iloadN X103.here hx rfl (hb hby d31_81) rfl (XS.ineg X103.here hx rfl (hb hby d31_82) rfl (own_ldB X103 hx hZ e103 O1l (j := (-x)) (v := (.int (own_dg ((mm) % 10)))) hng.1 (by rw [hng.2]; exact hD1 (mm) (by omega)) (g := (mkF m 83 #[own_i x, own_i PR.length.toInt32, own_r a1, s3, s4, .val (.int (PQ.length - 1).toInt32), own_i 1] [.int (-x), .ref o1, .int (PQ.length - 1).toInt32, .ref a1])) rfl rfl (hb hby d31_83) _ k)))) ?_
          obtain ⟨T104, h104, X104, e104, W104, V104', st104⟩ := own_stB X103 hx hZ e103 Al (j := (PQ.length - 1).toInt32) (own_nnS (by omega : PQ.length - 1 < 2147483648)) (by rw [own_ixS (by omega : PQ.length - 1 < 2147483648), List.length_map, List.length_append]; omega) (g := (mkF m 84 #[own_i x, own_i PR.length.toInt32, own_r a1, s3, s4, .val (.int (PQ.length - 1).toInt32), own_i 1] [.int (own_dg ((mm) % 10)), .int (PQ.length - 1).toInt32, .ref a1])) rfl rfl (hb hby d31_84)
          have V104 : own_Ar Z h104 a1 .byte ((PQ.dropLast ++ (own_dg ((mm) % 10)) :: YQ).map Value.int) := (by have q := V104'; rw [own_ixS (by omega : PQ.length - 1 < 2147483648), own_nard (Nat.mod_lt _ (by decide)), own_setl hpq1] at q; exact q)
          have Kc104 : Keep h0 h104 [a1] := Kl.wr W104 (Or.inl (List.mem_of_getElem? (i := 0) rfl))
          have N104 := Fr.snoc X104 Nl g_a1
          refine own_s T104 m 85 #[own_i x, own_i PR.length.toInt32, own_r a1, s3, s4, .val (.int (PQ.length - 1).toInt32), own_i 1] [] (fun t k => st104 _ k) ?_
          obtain ⟨Pq1, ePq1⟩ : ∃ z, z = PQ.dropLast := ⟨_, rfl⟩
          have hlq1 : Pq1.length = PQ.length - 1 := by rw [ePq1, List.length_dropLast]
          have htq1 : Pq1.take BB.length = BB := by rw [ePq1]; exact own_tkd htk (by omega)
          have Vq1 : own_Ar Z h104 a1 .byte ((Pq1 ++ (own_dg ((mm) % 10)) :: YQ).map Value.int) := by rw [ePq1]; exact V104
          rw [← hlq1]
          refine own_s T104 m 88 #[own_i x, own_i PR.length.toInt32, own_r a1, s3, s4, own_i Pq1.length.toInt32, own_i 1] [.int (-9 : Int32), .int x] (fun t k => XS.iloadN X104.here hx rfl (hb hby d31_85) rfl (XS.bipush X104.here hx rfl (hb hby d31_86) k)) ?_
          by_cases hc88_105 : x < (-9 : Int32)
          · refine own_s T104 m 91 #[own_i x, own_i PR.length.toInt32, own_r a1, s3, s4, own_i Pq1.length.toInt32, own_i 1] [] (fun t k => XS.icmpNo X104.here hx rfl (hb hby d31_88) rfl (XT.ii_ge_f hc88_105) k) ?_
            have h9 : 10 ≤ mm := by have q := hc88_105; rw [Int32.lt_iff_toInt_lt, show (-9 : Int32).toInt = -9 from rfl] at q; omega
            have hnd := own_nd_2 (m := mm) (by omega) (by omega)
            rw [hnd] at hE hlp
            refine own_s T104 m 95 #[own_i x, own_i PR.length.toInt32, own_r a1, s3, s4, own_i (Pq1.length.toInt32 + (-1 : Int32)), own_i 1] [.ref a1] (fun t k => XS.aloadN X104.here hx rfl (hb hby d31_91) rfl (rfl) (XS.iinc X104.here hx rfl (hb hby d31_92) rfl (l' := #[own_i x, own_i PR.length.toInt32, own_r a1, s3, s4, own_i (Pq1.length.toInt32 + (-1 : Int32)), own_i 1]) rfl k)) ?_
            have hpq2 : 0 < Pq1.length := by omega
            rw [own_pred hpq2]
            refine own_s T104 m 97 #[own_i x, own_i PR.length.toInt32, own_r a1, s3, s4, .val (.int (Pq1.length - 1).toInt32), own_i 1] [.int (Pq1.length - 1).toInt32, .ref a1] (fun t k => XS.iload X104.here hx rfl (hb hby d31_95) rfl k) ?_
            obtain ⟨T106, X106, e106, st106⟩ := getS X104 hx hZ hown (host := "") (own_w hw 269 rfl) Via.refl e104 (S2l.wr W104) (g := (mkF m 97 #[own_i x, own_i PR.length.toInt32, own_r a1, s3, s4, .val (.int (Pq1.length - 1).toInt32), own_i 1] [.int (Pq1.length - 1).toInt32, .ref a1])) rfl (hb hby d31_97)
            refine own_s T106 m 103 #[own_i x, own_i PR.length.toInt32, own_r a1, s3, s4, .val (.int (Pq1.length - 1).toInt32), own_i 1] [.int (own_dg ((mm) / 10)), .int (Pq1.length - 1).toInt32, .ref a1] (fun t k => st106 _ (XS.iloadN X106.here hx rfl (hb hby d31_100) rfl (XS.ineg X106.here hx rfl (hb hby d31_101) rfl (own_ldB X106 hx hZ e106 (O2l.other W104 hno2) (j := (-x)) (v := (.int (own_dg ((mm) / 10)))) hng.1 (by rw [hng.2]; exact hD2 (mm) (by omega)) (g := (mkF m 102 #[own_i x, own_i PR.length.toInt32, own_r a1, s3, s4, .val (.int (Pq1.length - 1).toInt32), own_i 1] [.int (-x), .ref o2, .int (Pq1.length - 1).toInt32, .ref a1])) rfl rfl (hb hby d31_102) _ k)))) ?_
            obtain ⟨T107, h107, X107, e107, W107, V107', st107⟩ := own_stB X106 hx hZ e106 Vq1 (j := (Pq1.length - 1).toInt32) (own_nnS (by omega : Pq1.length - 1 < 2147483648)) (by rw [own_ixS (by omega : Pq1.length - 1 < 2147483648), List.length_map, List.length_append]; omega) (g := (mkF m 103 #[own_i x, own_i PR.length.toInt32, own_r a1, s3, s4, .val (.int (Pq1.length - 1).toInt32), own_i 1] [.int (own_dg ((mm) / 10)), .int (Pq1.length - 1).toInt32, .ref a1])) rfl rfl (hb hby d31_103)
            have V107 : own_Ar Z h107 a1 .byte ((Pq1.dropLast ++ (own_dg ((mm) / 10)) :: ((own_dg ((mm) % 10)) :: YQ)).map Value.int) := (by have q := V107'; rw [own_ixS (by omega : Pq1.length - 1 < 2147483648), own_nard (by omega : mm / 10 < 10), own_setl hpq2] at q; exact q)
            have Kc107 : Keep h0 h107 [a1] := Kc104.wr W107 (Or.inl (List.mem_of_getElem? (i := 0) rfl))
            have N107 := Fr.snoc X107 N104 g_a1
            refine own_s T107 m 104 #[own_i x, own_i PR.length.toInt32, own_r a1, s3, s4, .val (.int (Pq1.length - 1).toInt32), own_i 1] [] (fun t k => st107 _ k) ?_
            obtain ⟨Pq2, ePq2⟩ : ∃ z, z = Pq1.dropLast := ⟨_, rfl⟩
            have hlq2 : Pq2.length = Pq1.length - 1 := by rw [ePq2, List.length_dropLast]
            have htq2 : Pq2.take BB.length = BB := by rw [ePq2]; exact own_tkd htq1 (by omega)
            have Vq2 : own_Ar Z h107 a1 .byte ((Pq2 ++ (own_dg ((mm) / 10)) :: ((own_dg ((mm) % 10)) :: YQ)).map Value.int) := by rw [ePq2]; exact V107
            rw [← hlq2]
            refine own_s T107 m 113 #[own_i x, own_i PR.length.toInt32, own_r a1, s3, s4, own_i (Pq2.length.toInt32 + (-1 : Int32)), own_i 1] [.ref a1] (fun t k => XS.iload X107.here hx rfl (hb hby d31_104) rfl (XS.ifNo X107.here hx rfl (hb hby d31_106) rfl (XT.i0_eq_f (by decide)) (XS.aloadN X107.here hx rfl (hb hby d31_109) rfl (rfl) (XS.iinc X107.here hx rfl (hb hby d31_110) rfl (l' := #[own_i x, own_i PR.length.toInt32, own_r a1, s3, s4, own_i (Pq2.length.toInt32 + (-1 : Int32)), own_i 1]) rfl k)))) ?_
            have hpq3 : 0 < Pq2.length := by omega
            rw [own_pred hpq3]
            refine own_s T107 m 117 #[own_i x, own_i PR.length.toInt32, own_r a1, s3, s4, .val (.int (Pq2.length - 1).toInt32), own_i 1] [.int 45, .int (Pq2.length - 1).toInt32, .ref a1] (fun t k => XS.iload X107.here hx rfl (hb hby d31_113) rfl (XS.bipush X107.here hx rfl (hb hby d31_115) k)) ?_
            obtain ⟨T108, h108, X108, e108, W108, V108', st108⟩ := own_stB X107 hx hZ e107 Vq2 (j := (Pq2.length - 1).toInt32) (own_nnS (by omega : Pq2.length - 1 < 2147483648)) (by rw [own_ixS (by omega : Pq2.length - 1 < 2147483648), List.length_map, List.length_append]; omega) (g := (mkF m 117 #[own_i x, own_i PR.length.toInt32, own_r a1, s3, s4, .val (.int (Pq2.length - 1).toInt32), own_i 1] [.int 45, .int (Pq2.length - 1).toInt32, .ref a1])) rfl rfl (hb hby d31_117)
            have V108 : own_Ar Z h108 a1 .byte ((Pq2.dropLast ++ (45 : Int32) :: ((own_dg ((mm) / 10)) :: ((own_dg ((mm) % 10)) :: YQ))).map Value.int) := (by have q := V108'; rw [own_ixS (by omega : Pq2.length - 1 < 2147483648), (show nar .byte (45 : Int32) = 45 from rfl), own_setl hpq3] at q; exact q)
            have Kc108 : Keep h0 h108 [a1] := Kc107.wr W108 (Or.inl (List.mem_of_getElem? (i := 0) rfl))
            have N108 := Fr.snoc X108 N107 g_a1
            refine own_s T108 m 118 #[own_i x, own_i PR.length.toInt32, own_r a1, s3, s4, .val (.int (Pq2.length - 1).toInt32), own_i 1] [] (fun t k => st108 _ k) ?_
            obtain ⟨Pq3, ePq3⟩ : ∃ z, z = Pq2.dropLast := ⟨_, rfl⟩
            have hlq3 : Pq3.length = Pq2.length - 1 := by rw [ePq3, List.length_dropLast]
            have htq3 : Pq3.take BB.length = BB := by rw [ePq3]; exact own_tkd htq2 (by omega)
            have Vq3 : own_Ar Z h108 a1 .byte ((Pq3 ++ (45 : Int32) :: ((own_dg ((mm) / 10)) :: ((own_dg ((mm) % 10)) :: YQ))).map Value.int) := by rw [ePq3]; exact V108
            rw [← hlq3]
            refine own_s T108 m 120 #[own_i x, own_i PR.length.toInt32, own_r a1, s3, s4, own_i Pq3.length.toInt32, own_i 1] [.int Pq3.length.toInt32] (fun t k => XS.iload X108.here hx rfl (hb hby d31_118) rfl k) ?_
            have eE : T108.heap = h108 := e108
            have eB : Pq3 = BB := by rw [← htq3, List.take_of_length_le (by omega)]
            have e2 : own_dg (mm / 10) :: own_dg (mm % 10) :: YQ = own_digs (own_abs p1) (own_nd (own_abs p1)) ++ YY := by rw [← hE, own_digs2, show mm / 10 % 10 = mm / 10 by omega]; rfl
            exact own_retI X108 hx hlk hrt (hb hby d31_120) ⟨_, rfl, N108, (by rw [eE]; exact Kc108), (by rw [eE]; have q := Vq3; rw [eB, e2] at q; rw [own_dec, if_pos hc4_101, List.append_assoc [(45 : Int32)]]; exact q)⟩ (by decide) (by decide)
          · refine own_s T104 m 104 #[own_i x, own_i PR.length.toInt32, own_r a1, s3, s4, own_i Pq1.length.toInt32, own_i 1] [] (fun t k => XS.icmpYes X104.here hx rfl (pc0 := 88) (pc' := 104) rfl (hb hby d31_88) rfl (XT.ii_ge_t hc88_105) (by decide) (by decide) k) ?_
            have h9 : mm < 10 := by have q := hc88_105; rw [Int32.lt_iff_toInt_lt, show (-9 : Int32).toInt = -9 from rfl] at q; omega
            have hnd := own_nd_1 (m := mm) (by omega) (by omega)
            rw [hnd] at hE hlp
            refine own_s T104 m 113 #[own_i x, own_i PR.length.toInt32, own_r a1, s3, s4, own_i (Pq1.length.toInt32 + (-1 : Int32)), own_i 1] [.ref a1] (fun t k => XS.iload X104.here hx rfl (hb hby d31_104) rfl (XS.ifNo X104.here hx rfl (hb hby d31_106) rfl (XT.i0_eq_f (by decide)) (XS.aloadN X104.here hx rfl (hb hby d31_109) rfl (rfl) (XS.iinc X104.here hx rfl (hb hby d31_110) rfl (l' := #[own_i x, own_i PR.length.toInt32, own_r a1, s3, s4, own_i (Pq1.length.toInt32 + (-1 : Int32)), own_i 1]) rfl k)))) ?_
            have hpq3 : 0 < Pq1.length := by omega
            rw [own_pred hpq3]
            refine own_s T104 m 117 #[own_i x, own_i PR.length.toInt32, own_r a1, s3, s4, .val (.int (Pq1.length - 1).toInt32), own_i 1] [.int 45, .int (Pq1.length - 1).toInt32, .ref a1] (fun t k => XS.iload X104.here hx rfl (hb hby d31_113) rfl (XS.bipush X104.here hx rfl (hb hby d31_115) k)) ?_
            obtain ⟨T109, h109, X109, e109, W109, V109', st109⟩ := own_stB X104 hx hZ e104 Vq1 (j := (Pq1.length - 1).toInt32) (own_nnS (by omega : Pq1.length - 1 < 2147483648)) (by rw [own_ixS (by omega : Pq1.length - 1 < 2147483648), List.length_map, List.length_append]; omega) (g := (mkF m 117 #[own_i x, own_i PR.length.toInt32, own_r a1, s3, s4, .val (.int (Pq1.length - 1).toInt32), own_i 1] [.int 45, .int (Pq1.length - 1).toInt32, .ref a1])) rfl rfl (hb hby d31_117)
            have V109 : own_Ar Z h109 a1 .byte ((Pq1.dropLast ++ (45 : Int32) :: ((own_dg ((mm) % 10)) :: YQ)).map Value.int) := (by have q := V109'; rw [own_ixS (by omega : Pq1.length - 1 < 2147483648), (show nar .byte (45 : Int32) = 45 from rfl), own_setl hpq3] at q; exact q)
            have Kc109 : Keep h0 h109 [a1] := Kc104.wr W109 (Or.inl (List.mem_of_getElem? (i := 0) rfl))
            have N109 := Fr.snoc X109 N104 g_a1
            refine own_s T109 m 118 #[own_i x, own_i PR.length.toInt32, own_r a1, s3, s4, .val (.int (Pq1.length - 1).toInt32), own_i 1] [] (fun t k => st109 _ k) ?_
            obtain ⟨Pq3, ePq3⟩ : ∃ z, z = Pq1.dropLast := ⟨_, rfl⟩
            have hlq3 : Pq3.length = Pq1.length - 1 := by rw [ePq3, List.length_dropLast]
            have htq3 : Pq3.take BB.length = BB := by rw [ePq3]; exact own_tkd htq1 (by omega)
            have Vq3 : own_Ar Z h109 a1 .byte ((Pq3 ++ (45 : Int32) :: ((own_dg ((mm) % 10)) :: YQ)).map Value.int) := by rw [ePq3]; exact V109
            rw [← hlq3]
            refine own_s T109 m 120 #[own_i x, own_i PR.length.toInt32, own_r a1, s3, s4, own_i Pq3.length.toInt32, own_i 1] [.int Pq3.length.toInt32] (fun t k => XS.iload X109.here hx rfl (hb hby d31_118) rfl k) ?_
            have eE : T109.heap = h109 := e109
            have eB : Pq3 = BB := by rw [← htq3, List.take_of_length_le (by omega)]
            have e2 : own_dg (mm % 10) :: YQ = own_digs (own_abs p1) (own_nd (own_abs p1)) ++ YY := by rw [← hE]; rfl
            exact own_retI X109 hx hlk hrt (hb hby d31_120) ⟨_, rfl, N109, (by rw [eE]; exact Kc109), (by rw [eE]; have q := Vq3; rw [eB, e2] at q; rw [own_dec, if_pos hc4_101, List.append_assoc [(45 : Int32)]]; exact q)⟩ (by decide) (by decide)
        · refine own_s Tl m 28 #[own_i x, own_i PR.length.toInt32, own_r a1, s3, s4, own_i PQ.length.toInt32, own_i 1] [] (fun t k => XS.icmpNo Xl.here hx rfl (hb hby d31_25) rfl (XT.ii_gt_f hc25_102) k) ?_
          have h100 : 100 ≤ mm := by have q := hc25_102; rw [Int32.lt_iff_toInt_lt, show (-100 : Int32).toInt = -100 from rfl] at q; omega
          have hst := own_step hxm hmb
          have hn100 := own_nd100 h100 hmb
          have hndq := own_ndr (mm / 100)
          refine own_s Tl m 33 #[own_i x, own_i PR.length.toInt32, own_r a1, own_i (x / (100 : Int32)), s4, own_i PQ.length.toInt32, own_i 1] [] (fun t k => XS.iloadN Xl.here hx rfl (hb hby d31_28) rfl (XS.bipush Xl.here hx rfl (hb hby d31_29) (XS.idiv Xl.here hx rfl (hb hby d31_31) rfl (by decide) (XS.istoreNS Xl.here hx rfl (hb hby d31_32) rfl rfl hs3 k)))) ?_
          refine own_s Tl m 38 #[own_i x, own_i PR.length.toInt32, own_r a1, own_i (x / (100 : Int32)), s4, own_i PQ.length.toInt32, own_i 1] [.int x, .int ((x / (100 : Int32)) * (100 : Int32))] (fun t k => XS.iloadN Xl.here hx rfl (hb hby d31_33) rfl (XS.bipush Xl.here hx rfl (hb hby d31_34) (XS.imul Xl.here hx rfl (hb hby d31_36) rfl (XS.iloadN Xl.here hx rfl (hb hby d31_37) rfl k)))) ?_
          refine own_s Tl m 41 #[own_i x, own_i PR.length.toInt32, own_r a1, own_i (x / (100 : Int32)), own_i (((x / (100 : Int32)) * (100 : Int32)) - x), own_i PQ.length.toInt32, own_i 1] [] (fun t k => XS.isub Xl.here hx rfl (hb hby d31_38) rfl (XS.istoreS Xl.here hx rfl (hb hby d31_39) rfl rfl hs4 k)) ?_
          have hr0 := own_i0 hst.2
          generalize hq : x / (100 : Int32) = qq at *
          generalize hrr : qq * (100 : Int32) - x = rr at *
          refine own_s Tl m 47 #[own_i qq, own_i PR.length.toInt32, own_r a1, own_i qq, own_i rr, own_i (PQ.length.toInt32 + (-1 : Int32)), own_i 1] [.ref a1] (fun t k => XS.iloadN Xl.here hx rfl (hb hby d31_41) rfl (XS.istoreN Xl.here hx rfl (hb hby d31_42) rfl (l' := #[own_i qq, own_i PR.length.toInt32, own_r a1, own_i qq, own_i rr, own_i PQ.length.toInt32, own_i 1]) rfl (XS.aloadN Xl.here hx rfl (hb hby d31_43) rfl (rfl) (XS.iinc Xl.here hx rfl (hb hby d31_44) rfl (l' := #[own_i qq, own_i PR.length.toInt32, own_r a1, own_i qq, own_i rr, own_i (PQ.length.toInt32 + (-1 : Int32)), own_i 1]) rfl k)))) ?_
          have hpp1 : 0 < PQ.length := by omega
          rw [own_pred hpp1]
          refine own_s Tl m 49 #[own_i qq, own_i PR.length.toInt32, own_r a1, own_i qq, own_i rr, .val (.int (PQ.length - 1).toInt32), own_i 1] [.int (PQ.length - 1).toInt32, .ref a1] (fun t k => XS.iload Xl.here hx rfl (hb hby d31_47) rfl k) ?_
          obtain ⟨T110, X110, e110, st110⟩ := getS Xl hx hZ hown (host := "") (own_w hw 184 rfl) Via.refl el S1l (g := (mkF m 49 #[own_i qq, own_i PR.length.toInt32, own_r a1, own_i qq, own_i rr, .val (.int (PQ.length - 1).toInt32), own_i 1] [.int (PQ.length - 1).toInt32, .ref a1])) rfl (hb hby d31_49)
          refine own_s T110 m 55 #[own_i qq, own_i PR.length.toInt32, own_r a1, own_i qq, own_i rr, .val (.int (PQ.length - 1).toInt32), own_i 1] [.int (own_dg ((mm % 100) % 10)), .int (PQ.length - 1).toInt32, .ref a1] (fun t k => st110 _ (XS.iload X110.here hx rfl (hb hby d31_52) rfl (own_ldB X110 hx hZ e110 O1l (j := rr) (v := (.int (own_dg ((mm % 100) % 10)))) hr0.1 (by rw [hr0.2]; exact hD1 (mm % 100) (by omega)) (g := (mkF m 54 #[own_i qq, own_i PR.length.toInt32, own_r a1, own_i qq, own_i rr, .val (.int (PQ.length - 1).toInt32), own_i 1] [.int rr, .ref o1, .int (PQ.length - 1).toInt32, .ref a1])) rfl rfl (hb hby d31_54) _ k))) ?_
          obtain ⟨T111, h111, X111, e111, W111, V111', st111⟩ := own_stB X110 hx hZ e110 Al (j := (PQ.length - 1).toInt32) (own_nnS (by omega : PQ.length - 1 < 2147483648)) (by rw [own_ixS (by omega : PQ.length - 1 < 2147483648), List.length_map, List.length_append]; omega) (g := (mkF m 55 #[own_i qq, own_i PR.length.toInt32, own_r a1, own_i qq, own_i rr, .val (.int (PQ.length - 1).toInt32), own_i 1] [.int (own_dg ((mm % 100) % 10)), .int (PQ.length - 1).toInt32, .ref a1])) rfl rfl (hb hby d31_55)
          have V111 : own_Ar Z h111 a1 .byte ((PQ.dropLast ++ (own_dg ((mm % 100) % 10)) :: YQ).map Value.int) := (by have q := V111'; rw [own_ixS (by omega : PQ.length - 1 < 2147483648), own_nard (Nat.mod_lt _ (by decide)), own_setl hpp1] at q; exact q)
          have Kc111 : Keep h0 h111 [a1] := Kl.wr W111 (Or.inl (List.mem_of_getElem? (i := 0) rfl))
          have N111 := Fr.snoc X111 Nl g_a1
          refine own_s T111 m 56 #[own_i qq, own_i PR.length.toInt32, own_r a1, own_i qq, own_i rr, .val (.int (PQ.length - 1).toInt32), own_i 1] [] (fun t k => st111 _ k) ?_
          obtain ⟨Pp1, ePp1⟩ : ∃ z, z = PQ.dropLast := ⟨_, rfl⟩
          have hlp1 : Pp1.length = PQ.length - 1 := by rw [ePp1, List.length_dropLast]
          have htp1 : Pp1.take BB.length = BB := by rw [ePp1]; exact own_tkd htk (by omega)
          have Vp1 : own_Ar Z h111 a1 .byte ((Pp1 ++ (own_dg ((mm % 100) % 10)) :: YQ).map Value.int) := by rw [ePp1]; exact V111
          rw [← hlp1]
          refine own_s T111 m 60 #[own_i qq, own_i PR.length.toInt32, own_r a1, own_i qq, own_i rr, own_i (Pp1.length.toInt32 + (-1 : Int32)), own_i 1] [.ref a1] (fun t k => XS.aloadN X111.here hx rfl (hb hby d31_56) rfl (rfl) (XS.iinc X111.here hx rfl (hb hby d31_57) rfl (l' := #[own_i qq, own_i PR.length.toInt32, own_r a1, own_i qq, own_i rr, own_i (Pp1.length.toInt32 + (-1 : Int32)), own_i 1]) rfl k)) ?_
          have hpp2 : 0 < Pp1.length := by omega
          rw [own_pred hpp2]
          refine own_s T111 m 62 #[own_i qq, own_i PR.length.toInt32, own_r a1, own_i qq, own_i rr, .val (.int (Pp1.length - 1).toInt32), own_i 1] [.int (Pp1.length - 1).toInt32, .ref a1] (fun t k => XS.iload X111.here hx rfl (hb hby d31_60) rfl k) ?_
          obtain ⟨T112, X112, e112, st112⟩ := getS X111 hx hZ hown (host := "") (own_w hw 269 rfl) Via.refl e111 (S2l.wr W111) (g := (mkF m 62 #[own_i qq, own_i PR.length.toInt32, own_r a1, own_i qq, own_i rr, .val (.int (Pp1.length - 1).toInt32), own_i 1] [.int (Pp1.length - 1).toInt32, .ref a1])) rfl (hb hby d31_62)
          refine own_s T112 m 68 #[own_i qq, own_i PR.length.toInt32, own_r a1, own_i qq, own_i rr, .val (.int (Pp1.length - 1).toInt32), own_i 1] [.int (own_dg ((mm % 100) / 10)), .int (Pp1.length - 1).toInt32, .ref a1] (fun t k => st112 _ (XS.iload X112.here hx rfl (hb hby d31_65) rfl (own_ldB X112 hx hZ e112 (O2l.other W111 hno2) (j := rr) (v := (.int (own_dg ((mm % 100) / 10)))) hr0.1 (by rw [hr0.2]; exact hD2 (mm % 100) (by omega)) (g := (mkF m 67 #[own_i qq, own_i PR.length.toInt32, own_r a1, own_i qq, own_i rr, .val (.int (Pp1.length - 1).toInt32), own_i 1] [.int rr, .ref o2, .int (Pp1.length - 1).toInt32, .ref a1])) rfl rfl (hb hby d31_67) _ k))) ?_
          obtain ⟨T113, h113, X113, e113, W113, V113', st113⟩ := own_stB X112 hx hZ e112 Vp1 (j := (Pp1.length - 1).toInt32) (own_nnS (by omega : Pp1.length - 1 < 2147483648)) (by rw [own_ixS (by omega : Pp1.length - 1 < 2147483648), List.length_map, List.length_append]; omega) (g := (mkF m 68 #[own_i qq, own_i PR.length.toInt32, own_r a1, own_i qq, own_i rr, .val (.int (Pp1.length - 1).toInt32), own_i 1] [.int (own_dg ((mm % 100) / 10)), .int (Pp1.length - 1).toInt32, .ref a1])) rfl rfl (hb hby d31_68)
          have V113 : own_Ar Z h113 a1 .byte ((Pp1.dropLast ++ (own_dg ((mm % 100) / 10)) :: ((own_dg ((mm % 100) % 10)) :: YQ)).map Value.int) := (by have q := V113'; rw [own_ixS (by omega : Pp1.length - 1 < 2147483648), own_nard (by omega : mm % 100 / 10 < 10), own_setl hpp2] at q; exact q)
          have Kc113 : Keep h0 h113 [a1] := Kc111.wr W113 (Or.inl (List.mem_of_getElem? (i := 0) rfl))
          have N113 := Fr.snoc X113 N111 g_a1
          refine own_s T113 m 69 #[own_i qq, own_i PR.length.toInt32, own_r a1, own_i qq, own_i rr, .val (.int (Pp1.length - 1).toInt32), own_i 1] [] (fun t k => st113 _ k) ?_
          obtain ⟨Pp2, ePp2⟩ : ∃ z, z = Pp1.dropLast := ⟨_, rfl⟩
          have hlp2 : Pp2.length = Pp1.length - 1 := by rw [ePp2, List.length_dropLast]
          have htp2 : Pp2.take BB.length = BB := by rw [ePp2]; exact own_tkd htp1 (by omega)
          have Vp2 : own_Ar Z h113 a1 .byte ((Pp2 ++ (own_dg ((mm % 100) / 10)) :: ((own_dg ((mm % 100) % 10)) :: YQ)).map Value.int) := by rw [ePp2]; exact V113
          rw [← hlp2]
          have hlp2 : Pp2.length = PQ.length - 2 := by omega
          have ht2 := htp2
          have eT : own_dg (mm % 100 / 10) = own_dg (mm / 10 % 10) := by congr 1; omega
          have eO : own_dg (mm % 100 % 10) = own_dg (mm % 10) := by congr 1; omega
          have VW : own_Ar Z h113 a1 .byte ((Pp2 ++ own_dg (mm / 10 % 10) :: own_dg (mm % 10) :: YQ).map Value.int) := by have q := Vp2; rw [eT, eO] at q; exact q
          refine own_s T113 m 22 #[own_i qq, own_i PR.length.toInt32, own_r a1, own_i qq, own_i rr, own_i Pp2.length.toInt32, own_i 1] [] (fun t k => XS.goto X113.here hx rfl (pc0 := 69) (pc' := 22) rfl (hb hby d31_69) (by decide) (by decide) k) ?_
          exact ih (mm / 100) qq _ _ _ _ _ _ _ X113 e113 N113 Kc113 VW (by omega) (by omega) hst.1 (by omega) ht2 (by rw [← hE, hn100, own_digs2, List.append_assoc]; rfl) (Or.inr ⟨_, rfl, rfl⟩) (Or.inr ⟨_, rfl, rfl⟩)
    exact LOOP _ (own_abs p1) _ PR YY _ _ _ _ _ X0 e0 N0 K0 A_a1 (Nat.lt_succ_self _) (own_absb p1) (own_m1 hc4_101) (by rw [hlen, own_sz, if_pos hc4_101]; omega) htk0 rfl (Or.inl rfl) (Or.inl rfl)
  · refine own_s s₁ m 16 #[own_i p1, own_i PR.length.toInt32, own_r a1, .unset, .unset, own_i PR.length.toInt32, own_i 0] [.int 0] (fun t k => XS.ifYes X0.here hx rfl (pc0 := 4) (pc' := 11) rfl (hb hby d31_4) rfl (XT.i0_ge_t hc4_101) (by decide) (by decide) (XS.iconst X0.here hx rfl (hb hby d31_11) (XS.istore X0.here hx rfl (hb hby d31_12) rfl (l' := #[own_i p1, own_i PR.length.toInt32, own_r a1, .unset, .unset, own_i PR.length.toInt32, own_i 0]) rfl (XS.iload X0.here hx rfl (hb hby d31_14) rfl k)))) ?_
    refine own_s s₁ m 22 #[own_i (-p1), own_i PR.length.toInt32, own_r a1, .unset, .unset, own_i PR.length.toInt32, own_i 0] [] (fun t k => XS.ifNo X0.here hx rfl (hb hby d31_16) rfl (XT.i0_ne_f (by decide)) (XS.iloadN X0.here hx rfl (hb hby d31_19) rfl (XS.ineg X0.here hx rfl (hb hby d31_20) rfl (XS.istoreN X0.here hx rfl (hb hby d31_21) rfl (l' := #[own_i (-p1), own_i PR.length.toInt32, own_r a1, .unset, .unset, own_i PR.length.toInt32, own_i 0]) rfl k)))) ?_
    have hB34 : BB.length ≤ 34 := by rw [List.length_append] at h34; omega
    have LOOP : ∀ (k mm : Nat) (x : Int32) (PQ YQ : List Int32) (Tl : State) (hl : Heap) (ll : List Loc) (s3 s4 : Slot) (Xl : Stand p l e (own_R 0 0 0 0) s m #[(.int p1), (.int PR.length.toInt32), (.ref a1)] below meth c Tl ll 0 0) (el : Tl.heap = hl) (Nl : Fr n0 ll) (Kl : Keep h0 hl [a1]) (Al : own_Ar Z hl a1 .byte ((PQ ++ YQ).map Value.int)), mm < k → mm ≤ 2147483648 → x.toInt = -(mm : Int) → PQ.length = BB.length + 0 + own_nd mm → PQ.take BB.length = BB → own_digs mm (own_nd mm) ++ YQ = own_digs (own_abs p1) (own_nd (own_abs p1)) ++ YY → (s3 = .unset ∨ ∃ w, s3 = .val w ∧ w.category = 1) → (s4 = .unset ∨ ∃ w, s4 = .val w ∧ w.category = 1) → own_Fin p e below (own_P (own_rm31_Q Z p1 (PR.length.toInt32) a1 BB PR YY o1 o2 D1 D2 h0 n0) s (own_R 0 0 0 0).cells (own_R 0 0 0 0).slots) (Tl.setTop (mkF m 22 #[own_i x, own_i PR.length.toInt32, own_r a1, s3, s4, own_i PQ.length.toInt32, own_i 0] [])) := by
      intro k
      induction k with
      | zero => intro mm x PQ YQ Tl hl ll s3 s4 Xl el Nl Kl Al hk; exact absurd hk (Nat.not_lt_zero _)
      | succ k ih =>
        intro mm x PQ YQ Tl hl ll s3 s4 Xl el Nl Kl Al hk hmb hxm hlp htk hE hs3 hs4
        have O1l := O1.keep Kl (ninS hno1 nin0)
        have O2l := O2.keep Kl (ninS hno2 nin0)
        have nsl := own_nsS (own_nsA A_a1) own_ns0
        have S1l := own_sta_keep S1 Kl nsl
        have S2l := own_sta_keep S2 Kl nsl
        have hndr := own_ndr mm
        refine own_s Tl m 25 #[own_i x, own_i PR.length.toInt32, own_r a1, s3, s4, own_i PQ.length.toInt32, own_i 0] [.int (-100 : Int32), .int x] (fun t k => XS.iloadN Xl.here hx rfl (hb hby d31_22) rfl (XS.bipush Xl.here hx rfl (hb hby d31_23) k)) ?_
        by_cases hc25_114 : (-100 : Int32) < x
        · refine own_s Tl m 72 #[own_i x, own_i PR.length.toInt32, own_r a1, s3, s4, own_i PQ.length.toInt32, own_i 0] [] (fun t k => XS.icmpYes Xl.here hx rfl (pc0 := 25) (pc' := 72) rfl (hb hby d31_25) rfl (XT.ii_gt_t hc25_114) (by decide) (by decide) k) ?_
          have hm100 : mm < 100 := by have q := hc25_114; rw [Int32.lt_iff_toInt_lt, show (-100 : Int32).toInt = -100 from rfl] at q; omega
          have hng := own_i0 (own_neg0 hxm hm100)
          refine own_s Tl m 76 #[own_i x, own_i PR.length.toInt32, own_r a1, s3, s4, own_i (PQ.length.toInt32 + (-1 : Int32)), own_i 0] [.ref a1] (fun t k => XS.aloadN Xl.here hx rfl (hb hby d31_72) rfl (rfl) (XS.iinc Xl.here hx rfl (hb hby d31_73) rfl (l' := #[own_i x, own_i PR.length.toInt32, own_r a1, s3, s4, own_i (PQ.length.toInt32 + (-1 : Int32)), own_i 0]) rfl k)) ?_
          have hpq1 : 0 < PQ.length := by omega
          rw [own_pred hpq1]
          refine own_s Tl m 78 #[own_i x, own_i PR.length.toInt32, own_r a1, s3, s4, .val (.int (PQ.length - 1).toInt32), own_i 0] [.int (PQ.length - 1).toInt32, .ref a1] (fun t k => XS.iload Xl.here hx rfl (hb hby d31_76) rfl k) ?_
          obtain ⟨T115, X115, e115, st115⟩ := getS Xl hx hZ hown (host := "") (own_w hw 184 rfl) Via.refl el S1l (g := (mkF m 78 #[own_i x, own_i PR.length.toInt32, own_r a1, s3, s4, .val (.int (PQ.length - 1).toInt32), own_i 0] [.int (PQ.length - 1).toInt32, .ref a1])) rfl (hb hby d31_78)
          refine own_s T115 m 84 #[own_i x, own_i PR.length.toInt32, own_r a1, s3, s4, .val (.int (PQ.length - 1).toInt32), own_i 0] [.int (own_dg ((mm) % 10)), .int (PQ.length - 1).toInt32, .ref a1] (fun t k => st115 _ (XS.iloadN X115.here hx rfl (hb hby d31_81) rfl (XS.ineg X115.here hx rfl (hb hby d31_82) rfl (own_ldB X115 hx hZ e115 O1l (j := (-x)) (v := (.int (own_dg ((mm) % 10)))) hng.1 (by rw [hng.2]; exact hD1 (mm) (by omega)) (g := (mkF m 83 #[own_i x, own_i PR.length.toInt32, own_r a1, s3, s4, .val (.int (PQ.length - 1).toInt32), own_i 0] [.int (-x), .ref o1, .int (PQ.length - 1).toInt32, .ref a1])) rfl rfl (hb hby d31_83) _ k)))) ?_
          obtain ⟨T116, h116, X116, e116, W116, V116', st116⟩ := own_stB X115 hx hZ e115 Al (j := (PQ.length - 1).toInt32) (own_nnS (by omega : PQ.length - 1 < 2147483648)) (by rw [own_ixS (by omega : PQ.length - 1 < 2147483648), List.length_map, List.length_append]; omega) (g := (mkF m 84 #[own_i x, own_i PR.length.toInt32, own_r a1, s3, s4, .val (.int (PQ.length - 1).toInt32), own_i 0] [.int (own_dg ((mm) % 10)), .int (PQ.length - 1).toInt32, .ref a1])) rfl rfl (hb hby d31_84)
          have V116 : own_Ar Z h116 a1 .byte ((PQ.dropLast ++ (own_dg ((mm) % 10)) :: YQ).map Value.int) := (by have q := V116'; rw [own_ixS (by omega : PQ.length - 1 < 2147483648), own_nard (Nat.mod_lt _ (by decide)), own_setl hpq1] at q; exact q)
          have Kc116 : Keep h0 h116 [a1] := Kl.wr W116 (Or.inl (List.mem_of_getElem? (i := 0) rfl))
          have N116 := Fr.snoc X116 Nl g_a1
          refine own_s T116 m 85 #[own_i x, own_i PR.length.toInt32, own_r a1, s3, s4, .val (.int (PQ.length - 1).toInt32), own_i 0] [] (fun t k => st116 _ k) ?_
          obtain ⟨Pq1, ePq1⟩ : ∃ z, z = PQ.dropLast := ⟨_, rfl⟩
          have hlq1 : Pq1.length = PQ.length - 1 := by rw [ePq1, List.length_dropLast]
          have htq1 : Pq1.take BB.length = BB := by rw [ePq1]; exact own_tkd htk (by omega)
          have Vq1 : own_Ar Z h116 a1 .byte ((Pq1 ++ (own_dg ((mm) % 10)) :: YQ).map Value.int) := by rw [ePq1]; exact V116
          rw [← hlq1]
          refine own_s T116 m 88 #[own_i x, own_i PR.length.toInt32, own_r a1, s3, s4, own_i Pq1.length.toInt32, own_i 0] [.int (-9 : Int32), .int x] (fun t k => XS.iloadN X116.here hx rfl (hb hby d31_85) rfl (XS.bipush X116.here hx rfl (hb hby d31_86) k)) ?_
          by_cases hc88_117 : x < (-9 : Int32)
          · refine own_s T116 m 91 #[own_i x, own_i PR.length.toInt32, own_r a1, s3, s4, own_i Pq1.length.toInt32, own_i 0] [] (fun t k => XS.icmpNo X116.here hx rfl (hb hby d31_88) rfl (XT.ii_ge_f hc88_117) k) ?_
            have h9 : 10 ≤ mm := by have q := hc88_117; rw [Int32.lt_iff_toInt_lt, show (-9 : Int32).toInt = -9 from rfl] at q; omega
            have hnd := own_nd_2 (m := mm) (by omega) (by omega)
            rw [hnd] at hE hlp
            refine own_s T116 m 95 #[own_i x, own_i PR.length.toInt32, own_r a1, s3, s4, own_i (Pq1.length.toInt32 + (-1 : Int32)), own_i 0] [.ref a1] (fun t k => XS.aloadN X116.here hx rfl (hb hby d31_91) rfl (rfl) (XS.iinc X116.here hx rfl (hb hby d31_92) rfl (l' := #[own_i x, own_i PR.length.toInt32, own_r a1, s3, s4, own_i (Pq1.length.toInt32 + (-1 : Int32)), own_i 0]) rfl k)) ?_
            have hpq2 : 0 < Pq1.length := by omega
            rw [own_pred hpq2]
            refine own_s T116 m 97 #[own_i x, own_i PR.length.toInt32, own_r a1, s3, s4, .val (.int (Pq1.length - 1).toInt32), own_i 0] [.int (Pq1.length - 1).toInt32, .ref a1] (fun t k => XS.iload X116.here hx rfl (hb hby d31_95) rfl k) ?_
            obtain ⟨T118, X118, e118, st118⟩ := getS X116 hx hZ hown (host := "") (own_w hw 269 rfl) Via.refl e116 (S2l.wr W116) (g := (mkF m 97 #[own_i x, own_i PR.length.toInt32, own_r a1, s3, s4, .val (.int (Pq1.length - 1).toInt32), own_i 0] [.int (Pq1.length - 1).toInt32, .ref a1])) rfl (hb hby d31_97)
            refine own_s T118 m 103 #[own_i x, own_i PR.length.toInt32, own_r a1, s3, s4, .val (.int (Pq1.length - 1).toInt32), own_i 0] [.int (own_dg ((mm) / 10)), .int (Pq1.length - 1).toInt32, .ref a1] (fun t k => st118 _ (XS.iloadN X118.here hx rfl (hb hby d31_100) rfl (XS.ineg X118.here hx rfl (hb hby d31_101) rfl (own_ldB X118 hx hZ e118 (O2l.other W116 hno2) (j := (-x)) (v := (.int (own_dg ((mm) / 10)))) hng.1 (by rw [hng.2]; exact hD2 (mm) (by omega)) (g := (mkF m 102 #[own_i x, own_i PR.length.toInt32, own_r a1, s3, s4, .val (.int (Pq1.length - 1).toInt32), own_i 0] [.int (-x), .ref o2, .int (Pq1.length - 1).toInt32, .ref a1])) rfl rfl (hb hby d31_102) _ k)))) ?_
            obtain ⟨T119, h119, X119, e119, W119, V119', st119⟩ := own_stB X118 hx hZ e118 Vq1 (j := (Pq1.length - 1).toInt32) (own_nnS (by omega : Pq1.length - 1 < 2147483648)) (by rw [own_ixS (by omega : Pq1.length - 1 < 2147483648), List.length_map, List.length_append]; omega) (g := (mkF m 103 #[own_i x, own_i PR.length.toInt32, own_r a1, s3, s4, .val (.int (Pq1.length - 1).toInt32), own_i 0] [.int (own_dg ((mm) / 10)), .int (Pq1.length - 1).toInt32, .ref a1])) rfl rfl (hb hby d31_103)
            have V119 : own_Ar Z h119 a1 .byte ((Pq1.dropLast ++ (own_dg ((mm) / 10)) :: ((own_dg ((mm) % 10)) :: YQ)).map Value.int) := (by have q := V119'; rw [own_ixS (by omega : Pq1.length - 1 < 2147483648), own_nard (by omega : mm / 10 < 10), own_setl hpq2] at q; exact q)
            have Kc119 : Keep h0 h119 [a1] := Kc116.wr W119 (Or.inl (List.mem_of_getElem? (i := 0) rfl))
            have N119 := Fr.snoc X119 N116 g_a1
            refine own_s T119 m 104 #[own_i x, own_i PR.length.toInt32, own_r a1, s3, s4, .val (.int (Pq1.length - 1).toInt32), own_i 0] [] (fun t k => st119 _ k) ?_
            obtain ⟨Pq2, ePq2⟩ : ∃ z, z = Pq1.dropLast := ⟨_, rfl⟩
            have hlq2 : Pq2.length = Pq1.length - 1 := by rw [ePq2, List.length_dropLast]
            have htq2 : Pq2.take BB.length = BB := by rw [ePq2]; exact own_tkd htq1 (by omega)
            have Vq2 : own_Ar Z h119 a1 .byte ((Pq2 ++ (own_dg ((mm) / 10)) :: ((own_dg ((mm) % 10)) :: YQ)).map Value.int) := by rw [ePq2]; exact V119
            rw [← hlq2]
            refine own_s T119 m 120 #[own_i x, own_i PR.length.toInt32, own_r a1, s3, s4, own_i Pq2.length.toInt32, own_i 0] [.int Pq2.length.toInt32] (fun t k => XS.iload X119.here hx rfl (hb hby d31_104) rfl (XS.ifYes X119.here hx rfl (pc0 := 106) (pc' := 118) rfl (hb hby d31_106) rfl (XT.i0_eq_t (by decide)) (by decide) (by decide) (XS.iload X119.here hx rfl (hb hby d31_118) rfl k))) ?_
            have eE : T119.heap = h119 := e119
            have eB : Pq2 = BB := by rw [← htq2, List.take_of_length_le (by omega)]
            have e2 : own_dg (mm / 10) :: own_dg (mm % 10) :: YQ = own_digs (own_abs p1) (own_nd (own_abs p1)) ++ YY := by rw [← hE, own_digs2, show mm / 10 % 10 = mm / 10 by omega]; rfl
            exact own_retI X119 hx hlk hrt (hb hby d31_120) ⟨_, rfl, N119, (by rw [eE]; exact Kc119), (by rw [eE]; have q := Vq2; rw [eB, e2] at q; rw [own_dec, if_neg hc4_101]; rw [List.nil_append]; exact q)⟩ (by decide) (by decide)
          · refine own_s T116 m 104 #[own_i x, own_i PR.length.toInt32, own_r a1, s3, s4, own_i Pq1.length.toInt32, own_i 0] [] (fun t k => XS.icmpYes X116.here hx rfl (pc0 := 88) (pc' := 104) rfl (hb hby d31_88) rfl (XT.ii_ge_t hc88_117) (by decide) (by decide) k) ?_
            have h9 : mm < 10 := by have q := hc88_117; rw [Int32.lt_iff_toInt_lt, show (-9 : Int32).toInt = -9 from rfl] at q; omega
            have hnd := own_nd_1 (m := mm) (by omega) (by omega)
            rw [hnd] at hE hlp
            refine own_s T116 m 120 #[own_i x, own_i PR.length.toInt32, own_r a1, s3, s4, own_i Pq1.length.toInt32, own_i 0] [.int Pq1.length.toInt32] (fun t k => XS.iload X116.here hx rfl (hb hby d31_104) rfl (XS.ifYes X116.here hx rfl (pc0 := 106) (pc' := 118) rfl (hb hby d31_106) rfl (XT.i0_eq_t (by decide)) (by decide) (by decide) (XS.iload X116.here hx rfl (hb hby d31_118) rfl k))) ?_
            have eE : T116.heap = h116 := e116
            have eB : Pq1 = BB := by rw [← htq1, List.take_of_length_le (by omega)]
            have e2 : own_dg (mm % 10) :: YQ = own_digs (own_abs p1) (own_nd (own_abs p1)) ++ YY := by rw [← hE]; rfl
            exact own_retI X116 hx hlk hrt (hb hby d31_120) ⟨_, rfl, N116, (by rw [eE]; exact Kc116), (by rw [eE]; have q := Vq1; rw [eB, e2] at q; rw [own_dec, if_neg hc4_101]; rw [List.nil_append]; exact q)⟩ (by decide) (by decide)
        · refine own_s Tl m 28 #[own_i x, own_i PR.length.toInt32, own_r a1, s3, s4, own_i PQ.length.toInt32, own_i 0] [] (fun t k => XS.icmpNo Xl.here hx rfl (hb hby d31_25) rfl (XT.ii_gt_f hc25_114) k) ?_
          have h100 : 100 ≤ mm := by have q := hc25_114; rw [Int32.lt_iff_toInt_lt, show (-100 : Int32).toInt = -100 from rfl] at q; omega
          have hst := own_step hxm hmb
          have hn100 := own_nd100 h100 hmb
          have hndq := own_ndr (mm / 100)
          refine own_s Tl m 33 #[own_i x, own_i PR.length.toInt32, own_r a1, own_i (x / (100 : Int32)), s4, own_i PQ.length.toInt32, own_i 0] [] (fun t k => XS.iloadN Xl.here hx rfl (hb hby d31_28) rfl (XS.bipush Xl.here hx rfl (hb hby d31_29) (XS.idiv Xl.here hx rfl (hb hby d31_31) rfl (by decide) (XS.istoreNS Xl.here hx rfl (hb hby d31_32) rfl rfl hs3 k)))) ?_
          refine own_s Tl m 38 #[own_i x, own_i PR.length.toInt32, own_r a1, own_i (x / (100 : Int32)), s4, own_i PQ.length.toInt32, own_i 0] [.int x, .int ((x / (100 : Int32)) * (100 : Int32))] (fun t k => XS.iloadN Xl.here hx rfl (hb hby d31_33) rfl (XS.bipush Xl.here hx rfl (hb hby d31_34) (XS.imul Xl.here hx rfl (hb hby d31_36) rfl (XS.iloadN Xl.here hx rfl (hb hby d31_37) rfl k)))) ?_
          refine own_s Tl m 41 #[own_i x, own_i PR.length.toInt32, own_r a1, own_i (x / (100 : Int32)), own_i (((x / (100 : Int32)) * (100 : Int32)) - x), own_i PQ.length.toInt32, own_i 0] [] (fun t k => XS.isub Xl.here hx rfl (hb hby d31_38) rfl (XS.istoreS Xl.here hx rfl (hb hby d31_39) rfl rfl hs4 k)) ?_
          have hr0 := own_i0 hst.2
          generalize hq : x / (100 : Int32) = qq at *
          generalize hrr : qq * (100 : Int32) - x = rr at *
          refine own_s Tl m 47 #[own_i qq, own_i PR.length.toInt32, own_r a1, own_i qq, own_i rr, own_i (PQ.length.toInt32 + (-1 : Int32)), own_i 0] [.ref a1] (fun t k => XS.iloadN Xl.here hx rfl (hb hby d31_41) rfl (XS.istoreN Xl.here hx rfl (hb hby d31_42) rfl (l' := #[own_i qq, own_i PR.length.toInt32, own_r a1, own_i qq, own_i rr, own_i PQ.length.toInt32, own_i 0]) rfl (XS.aloadN Xl.here hx rfl (hb hby d31_43) rfl (rfl) (XS.iinc Xl.here hx rfl (hb hby d31_44) rfl (l' := #[own_i qq, own_i PR.length.toInt32, own_r a1, own_i qq, own_i rr, own_i (PQ.length.toInt32 + (-1 : Int32)), own_i 0]) rfl k)))) ?_
          have hpp1 : 0 < PQ.length := by omega
          rw [own_pred hpp1]
          refine own_s Tl m 49 #[own_i qq, own_i PR.length.toInt32, own_r a1, own_i qq, own_i rr, .val (.int (PQ.length - 1).toInt32), own_i 0] [.int (PQ.length - 1).toInt32, .ref a1] (fun t k => XS.iload Xl.here hx rfl (hb hby d31_47) rfl k) ?_
          obtain ⟨T120, X120, e120, st120⟩ := getS Xl hx hZ hown (host := "") (own_w hw 184 rfl) Via.refl el S1l (g := (mkF m 49 #[own_i qq, own_i PR.length.toInt32, own_r a1, own_i qq, own_i rr, .val (.int (PQ.length - 1).toInt32), own_i 0] [.int (PQ.length - 1).toInt32, .ref a1])) rfl (hb hby d31_49)
          refine own_s T120 m 55 #[own_i qq, own_i PR.length.toInt32, own_r a1, own_i qq, own_i rr, .val (.int (PQ.length - 1).toInt32), own_i 0] [.int (own_dg ((mm % 100) % 10)), .int (PQ.length - 1).toInt32, .ref a1] (fun t k => st120 _ (XS.iload X120.here hx rfl (hb hby d31_52) rfl (own_ldB X120 hx hZ e120 O1l (j := rr) (v := (.int (own_dg ((mm % 100) % 10)))) hr0.1 (by rw [hr0.2]; exact hD1 (mm % 100) (by omega)) (g := (mkF m 54 #[own_i qq, own_i PR.length.toInt32, own_r a1, own_i qq, own_i rr, .val (.int (PQ.length - 1).toInt32), own_i 0] [.int rr, .ref o1, .int (PQ.length - 1).toInt32, .ref a1])) rfl rfl (hb hby d31_54) _ k))) ?_
          obtain ⟨T121, h121, X121, e121, W121, V121', st121⟩ := own_stB X120 hx hZ e120 Al (j := (PQ.length - 1).toInt32) (own_nnS (by omega : PQ.length - 1 < 2147483648)) (by rw [own_ixS (by omega : PQ.length - 1 < 2147483648), List.length_map, List.length_append]; omega) (g := (mkF m 55 #[own_i qq, own_i PR.length.toInt32, own_r a1, own_i qq, own_i rr, .val (.int (PQ.length - 1).toInt32), own_i 0] [.int (own_dg ((mm % 100) % 10)), .int (PQ.length - 1).toInt32, .ref a1])) rfl rfl (hb hby d31_55)
          have V121 : own_Ar Z h121 a1 .byte ((PQ.dropLast ++ (own_dg ((mm % 100) % 10)) :: YQ).map Value.int) := (by have q := V121'; rw [own_ixS (by omega : PQ.length - 1 < 2147483648), own_nard (Nat.mod_lt _ (by decide)), own_setl hpp1] at q; exact q)
          have Kc121 : Keep h0 h121 [a1] := Kl.wr W121 (Or.inl (List.mem_of_getElem? (i := 0) rfl))
          have N121 := Fr.snoc X121 Nl g_a1
          refine own_s T121 m 56 #[own_i qq, own_i PR.length.toInt32, own_r a1, own_i qq, own_i rr, .val (.int (PQ.length - 1).toInt32), own_i 0] [] (fun t k => st121 _ k) ?_
          obtain ⟨Pp1, ePp1⟩ : ∃ z, z = PQ.dropLast := ⟨_, rfl⟩
          have hlp1 : Pp1.length = PQ.length - 1 := by rw [ePp1, List.length_dropLast]
          have htp1 : Pp1.take BB.length = BB := by rw [ePp1]; exact own_tkd htk (by omega)
          have Vp1 : own_Ar Z h121 a1 .byte ((Pp1 ++ (own_dg ((mm % 100) % 10)) :: YQ).map Value.int) := by rw [ePp1]; exact V121
          rw [← hlp1]
          refine own_s T121 m 60 #[own_i qq, own_i PR.length.toInt32, own_r a1, own_i qq, own_i rr, own_i (Pp1.length.toInt32 + (-1 : Int32)), own_i 0] [.ref a1] (fun t k => XS.aloadN X121.here hx rfl (hb hby d31_56) rfl (rfl) (XS.iinc X121.here hx rfl (hb hby d31_57) rfl (l' := #[own_i qq, own_i PR.length.toInt32, own_r a1, own_i qq, own_i rr, own_i (Pp1.length.toInt32 + (-1 : Int32)), own_i 0]) rfl k)) ?_
          have hpp2 : 0 < Pp1.length := by omega
          rw [own_pred hpp2]
          refine own_s T121 m 62 #[own_i qq, own_i PR.length.toInt32, own_r a1, own_i qq, own_i rr, .val (.int (Pp1.length - 1).toInt32), own_i 0] [.int (Pp1.length - 1).toInt32, .ref a1] (fun t k => XS.iload X121.here hx rfl (hb hby d31_60) rfl k) ?_
          obtain ⟨T122, X122, e122, st122⟩ := getS X121 hx hZ hown (host := "") (own_w hw 269 rfl) Via.refl e121 (S2l.wr W121) (g := (mkF m 62 #[own_i qq, own_i PR.length.toInt32, own_r a1, own_i qq, own_i rr, .val (.int (Pp1.length - 1).toInt32), own_i 0] [.int (Pp1.length - 1).toInt32, .ref a1])) rfl (hb hby d31_62)
          refine own_s T122 m 68 #[own_i qq, own_i PR.length.toInt32, own_r a1, own_i qq, own_i rr, .val (.int (Pp1.length - 1).toInt32), own_i 0] [.int (own_dg ((mm % 100) / 10)), .int (Pp1.length - 1).toInt32, .ref a1] (fun t k => st122 _ (XS.iload X122.here hx rfl (hb hby d31_65) rfl (own_ldB X122 hx hZ e122 (O2l.other W121 hno2) (j := rr) (v := (.int (own_dg ((mm % 100) / 10)))) hr0.1 (by rw [hr0.2]; exact hD2 (mm % 100) (by omega)) (g := (mkF m 67 #[own_i qq, own_i PR.length.toInt32, own_r a1, own_i qq, own_i rr, .val (.int (Pp1.length - 1).toInt32), own_i 0] [.int rr, .ref o2, .int (Pp1.length - 1).toInt32, .ref a1])) rfl rfl (hb hby d31_67) _ k))) ?_
          obtain ⟨T123, h123, X123, e123, W123, V123', st123⟩ := own_stB X122 hx hZ e122 Vp1 (j := (Pp1.length - 1).toInt32) (own_nnS (by omega : Pp1.length - 1 < 2147483648)) (by rw [own_ixS (by omega : Pp1.length - 1 < 2147483648), List.length_map, List.length_append]; omega) (g := (mkF m 68 #[own_i qq, own_i PR.length.toInt32, own_r a1, own_i qq, own_i rr, .val (.int (Pp1.length - 1).toInt32), own_i 0] [.int (own_dg ((mm % 100) / 10)), .int (Pp1.length - 1).toInt32, .ref a1])) rfl rfl (hb hby d31_68)
          have V123 : own_Ar Z h123 a1 .byte ((Pp1.dropLast ++ (own_dg ((mm % 100) / 10)) :: ((own_dg ((mm % 100) % 10)) :: YQ)).map Value.int) := (by have q := V123'; rw [own_ixS (by omega : Pp1.length - 1 < 2147483648), own_nard (by omega : mm % 100 / 10 < 10), own_setl hpp2] at q; exact q)
          have Kc123 : Keep h0 h123 [a1] := Kc121.wr W123 (Or.inl (List.mem_of_getElem? (i := 0) rfl))
          have N123 := Fr.snoc X123 N121 g_a1
          refine own_s T123 m 69 #[own_i qq, own_i PR.length.toInt32, own_r a1, own_i qq, own_i rr, .val (.int (Pp1.length - 1).toInt32), own_i 0] [] (fun t k => st123 _ k) ?_
          obtain ⟨Pp2, ePp2⟩ : ∃ z, z = Pp1.dropLast := ⟨_, rfl⟩
          have hlp2 : Pp2.length = Pp1.length - 1 := by rw [ePp2, List.length_dropLast]
          have htp2 : Pp2.take BB.length = BB := by rw [ePp2]; exact own_tkd htp1 (by omega)
          have Vp2 : own_Ar Z h123 a1 .byte ((Pp2 ++ (own_dg ((mm % 100) / 10)) :: ((own_dg ((mm % 100) % 10)) :: YQ)).map Value.int) := by rw [ePp2]; exact V123
          rw [← hlp2]
          have hlp2 : Pp2.length = PQ.length - 2 := by omega
          have ht2 := htp2
          have eT : own_dg (mm % 100 / 10) = own_dg (mm / 10 % 10) := by congr 1; omega
          have eO : own_dg (mm % 100 % 10) = own_dg (mm % 10) := by congr 1; omega
          have VW : own_Ar Z h123 a1 .byte ((Pp2 ++ own_dg (mm / 10 % 10) :: own_dg (mm % 10) :: YQ).map Value.int) := by have q := Vp2; rw [eT, eO] at q; exact q
          refine own_s T123 m 22 #[own_i qq, own_i PR.length.toInt32, own_r a1, own_i qq, own_i rr, own_i Pp2.length.toInt32, own_i 0] [] (fun t k => XS.goto X123.here hx rfl (pc0 := 69) (pc' := 22) rfl (hb hby d31_69) (by decide) (by decide) k) ?_
          exact ih (mm / 100) qq _ _ _ _ _ _ _ X123 e123 N123 Kc123 VW (by omega) (by omega) hst.1 (by omega) ht2 (by rw [← hE, hn100, own_digs2, List.append_assoc]; rfl) (Or.inr ⟨_, rfl, rfl⟩) (Or.inr ⟨_, rfl, rfl⟩)
    exact LOOP _ (own_abs p1) _ PR YY _ _ _ _ _ X0 e0 N0 K0 A_a1 (Nat.lt_succ_self _) (own_absb p1) (own_m0 hc4_101) (by rw [hlen, own_sz, if_neg hc4_101]; omega) htk0 rfl (Or.inl rfl) (Or.inl rfl)
theorem own_addn (B : List Int32) (n : Nat) : B.length.toInt32 + n.toInt32 = (B.length + n).toInt32 := (Int32.ofNat_add _ _).symm
theorem own_szr (v : Int32) : own_sz v ≤ 11 := by
  have := own_ndr (own_abs v); unfold own_sz; split <;> omega
theorem own_pd21 : parseMethodDescriptor "(II[B)I" = some ⟨[.int, .int, (.array .byte)], some .int⟩ := by decide +kernel
abbrev own_k28 := jdk_68_method_32_code
abbrev own_n33 : MethodName := ⟨"java/lang/AbstractStringBuilder", "append", "(I)Ljava/lang/AbstractStringBuilder;"⟩
theorem d28_0 : own_D own_k28 0 (.aload_n 0) 1 := by decide +kernel
theorem d28_1 : own_D own_k28 1 (.getfield 79) 3 := by decide +kernel
theorem d28_4 : own_D own_k28 4 (.istore_n 2) 1 := by decide +kernel
theorem d28_5 : own_D own_k28 5 (.iload_n 2) 1 := by decide +kernel
theorem d28_6 : own_D own_k28 6 (.iload_n 1) 1 := by decide +kernel
theorem d28_7 : own_D own_k28 7 (.invokestatic 245) 3 := by decide +kernel
theorem d28_10 : own_D own_k28 10 (.iadd) 1 := by decide +kernel
theorem d28_11 : own_D own_k28 11 (.istore_n 3) 1 := by decide +kernel
theorem d28_12 : own_D own_k28 12 (.aload_n 0) 1 := by decide +kernel
theorem d28_13 : own_D own_k28 13 (.iload_n 3) 1 := by decide +kernel
theorem d28_14 : own_D own_k28 14 (.invokevirtual 100) 3 := by decide +kernel
theorem d28_17 : own_D own_k28 17 (.aload_n 0) 1 := by decide +kernel
theorem d28_18 : own_D own_k28 18 (.invokevirtual 83) 3 := by decide +kernel
theorem d28_21 : own_D own_k28 21 (.ifCond .eq 16) 3 := by decide +kernel
theorem d28_24 : own_D own_k28 24 (.iload_n 1) 1 := by decide +kernel
theorem d28_25 : own_D own_k28 25 (.iload_n 3) 1 := by decide +kernel
theorem d28_26 : own_D own_k28 26 (.aload_n 0) 1 := by decide +kernel
theorem d28_27 : own_D own_k28 27 (.getfield 15) 3 := by decide +kernel
theorem d28_30 : own_D own_k28 30 (.invokestatic 248) 3 := by decide +kernel
theorem d28_33 : own_D own_k28 33 (.pop) 1 := by decide +kernel
theorem d28_34 : own_D own_k28 34 (.goto 14) 3 := by decide +kernel
theorem d28_48 : own_D own_k28 48 (.aload_n 0) 1 := by decide +kernel
theorem d28_49 : own_D own_k28 49 (.iload_n 3) 1 := by decide +kernel
theorem d28_50 : own_D own_k28 50 (.putfield 79) 3 := by decide +kernel
theorem d28_53 : own_D own_k28 53 (.aload_n 0) 1 := by decide +kernel
theorem d28_54 : own_D own_k28 54 (.areturn) 1 := by decide +kernel
theorem ef_own_asbI (m : MethodId) (a1 : Addr) (p1 : Int32) : entryFrame m #[(.ref a1), (.int p1)] 4 = mkF m 0 #[own_r a1, own_i p1, .unset, .unset] [] := by first | (simp [entryFrame, mkF, argsToLocals, Value.category]; done) | rfl
def own_asbI_Q (Z : State) (a1 : Addr) (p1 : Int32) (cs : Int32) (d : Addr) (BB : List Int32) (PP : List Int32) (o1 : Addr) (o2 : Addr) (D1 : List Value) (D2 : List Value) (h0 : Heap) (n0 : Nat) (v : Option Value) (h : Heap) (L : List Loc) : Prop := v = some (.ref a1) ∧ Fr n0 L ∧ Keep h0 h [a1, d] ∧ ∃ (d' : Addr) (PX : List Int32), (d' = d ∨ h0.size ≤ d') ∧ (((BB ++ own_dec p1) ++ PX).length = 16 ∨ ((BB ++ own_dec p1) ++ PX).length = 34) ∧ own_by PX ∧ Exa Z h a1 "java/lang/StringBuilder" ∧ Fld Z h a1 "java/lang/AbstractStringBuilder" "value" "[B" (.ref d') ∧ Fld Z h a1 "java/lang/AbstractStringBuilder" "coder" "B" (.int 0) ∧ Fld Z h a1 "java/lang/AbstractStringBuilder" "count" "I" (.int (BB ++ own_dec p1).length.toInt32) ∧ own_Ar Z h d' .byte (((BB ++ own_dec p1) ++ PX).map Value.int) ∧ Exa Z h d' "[B"
set_option maxRecDepth 65536 in
set_option maxHeartbeats 40000000 in
theorem own_asbI (l : Launch) (Z : State) (a0 : Array Value) (hw : own_H a0 Z) (ws : List Jvm.Cond) (a1 : Addr) (p1 cs : Int32) (d : Addr) (BB PP : List Int32) (o1 o2 : Addr) (D1 D2 : List Value) (h0 : Heap) (n0 : Nat) (Z0 : n0 ≤ h0.size) (CS : Sta Z h0 "java/lang/String" "COMPACT_STRINGS" "Z" (.int cs)) (hcs : ¬ cs = 0) (E : Exa Z h0 a1 "java/lang/StringBuilder") (Fv : Fld Z h0 a1 "java/lang/AbstractStringBuilder" "value" "[B" (.ref d)) (Fc : Fld Z h0 a1 "java/lang/AbstractStringBuilder" "coder" "B" (.int 0)) (Fn : Fld Z h0 a1 "java/lang/AbstractStringBuilder" "count" "I" (.int BB.length.toInt32)) (Ad : own_Ar Z h0 d .byte ((BB ++ PP).map Value.int)) (Ed : Exa Z h0 d "[B") (hf34 : BB.length + own_sz p1 ≤ 34) (hno1 : o1 ≠ d) (hno2 : o2 ≠ d) (hcap : (BB ++ PP).length = 16 ∨ (BB ++ PP).length = 34) (hbb : own_by BB) (hbp : own_by PP) (g_a1 : n0 ≤ a1) (g_d : n0 ≤ d) (hne : a1 ≠ d) (S1 : Sta Z h0 "java/lang/Integer" "DigitOnes" "[B" (.ref o1)) (S2 : Sta Z h0 "java/lang/Integer" "DigitTens" "[B" (.ref o2)) (O1 : own_Ar Z h0 o1 .byte D1) (O2 : own_Ar Z h0 o2 .byte D2) (hD1 : ∀ i, i < 100 → D1[i]? = some (.int (own_dg (i % 10)))) (hD2 : ∀ i, i < 100 → D2[i]? = some (.int (own_dg (i / 10)))) : own_M l Z ws own_n33 own_k28 4 (some (.object "java/lang/AbstractStringBuilder")) (own_R 4 1 34 62) #[(.ref a1), (.int p1)] h0 (own_asbI_Q Z a1 p1 cs d BB PP o1 o2 D1 D2 h0 n0) := by
  refine own_open n0 "java/lang/AbstractStringBuilder" rfl (plainFor_of_name own_pn2) (fun m => ef_own_asbI m a1 p1) ?_
  intro p e s m below meth c s₁ hx hby hml hZ hown hnm hlk hrt X0 e0 N0
  have K0 := Keep.refl h0 [a1, d]
  have hna1 : o1 ≠ a1 := own_neO (own_w hw 104 rfl) E O1
  have hna2 : o2 ≠ a1 := own_neO (own_w hw 104 rfl) E O2
  refine own_s s₁ m 1 #[own_r a1, own_i p1, .unset, .unset] [.ref a1] (fun t k => XS.aloadN X0.here hx rfl (hb hby d28_0) rfl (rfl) k) ?_
  obtain ⟨T101, X101, e101, st101⟩ := getF X0 hx hZ hown (host := "") (Or.inl (own_w hw 136 rfl)) Via.refl e0 Fn (g := (mkF m 1 #[own_r a1, own_i p1, .unset, .unset] [.ref a1])) rfl rfl (hb hby d28_1)
  refine own_s T101 m 7 #[own_r a1, own_i p1, own_i BB.length.toInt32, .unset] [.int p1, .int BB.length.toInt32] (fun t k => st101 _ (XS.istoreN X101.here hx rfl (hb hby d28_4) rfl (l' := #[own_r a1, own_i p1, own_i BB.length.toInt32, .unset]) rfl (XS.iloadN X101.here hx rfl (hb hby d28_5) rfl (XS.iloadN X101.here hx rfl (hb hby d28_6) rfl k)))) ?_
  obtain ⟨v102, _, ⟨T102, L102, k102, n102⟩, -, X102, ⟨Lc102, hQ102, l102, y102, z102⟩, st102⟩ := Jvm.LawKit.callS X101 hx (y := own_n31) hown (mvT hZ (own_w hw 172 rfl)) (mvT hZ (own_w hw 173 rfl)) (mvT hZ (own_w hw 174 rfl)) (mvT hZ (own_w hw 175 rfl)) (by decide) (backOf (W := 1) (own_rm29 l Z a0 hw [] p1 h0 n0 (Nat.le_trans Z0 K0.1) ) hZ (own_w hw 175 rfl) (own_w hw 174 rfl) (by decide) (by decide)) (g := (mkF m 7 #[own_r a1, own_i p1, own_i BB.length.toInt32, .unset] [.int p1, .int BB.length.toInt32])) rfl (by rw [hml]; rfl) (argsL := [.int p1]) (rest := [.int BB.length.toInt32]) (lenOf own_pd8 rfl) rfl (by exact own_ca rfl) (hb hby d28_7) (fun _ _ => ⟨rfl, e101, (by decide : 0 + 0 ≤ _), (by decide : 0 + 0 ≤ _)⟩)
  dsimp only [Pt.U, Pt.locs, Pt.cells, Pt.slots] at X102 l102 y102 z102 st102 hQ102
  subst l102 y102 z102
  obtain ⟨rfl, N102q, e102⟩ := hQ102
  have N102 := Fr.app N0 N102q
  refine own_s T102 m 11 #[own_r a1, own_i p1, own_i BB.length.toInt32, .unset] [.int (BB.length.toInt32 + ((own_sz p1).toInt32))] (fun t k => st102 _ (XS.iadd X102.here hx rfl (hb hby d28_10) rfl k)) ?_
  rw [own_addn BB (own_sz p1)]
  refine own_s T102 m 14 #[own_r a1, own_i p1, own_i BB.length.toInt32, .val (.int (BB.length + own_sz p1).toInt32)] [.int (BB.length + own_sz p1).toInt32, .ref a1] (fun t k => XS.istoreN X102.here hx rfl (hb hby d28_11) rfl (l' := #[own_r a1, own_i p1, own_i BB.length.toInt32, .val (.int (BB.length + own_sz p1).toInt32)]) rfl (XS.aloadN X102.here hx rfl (hb hby d28_12) rfl (rfl) (XS.iloadN X102.here hx rfl (hb hby d28_13) rfl k))) ?_
  obtain ⟨cq103, kq103, q103a, q103b, q103c⟩ := isOf hZ e102 E
  obtain ⟨v103, _, ⟨T103, L103, k103, n103⟩, -, X103, ⟨Lc103, hQ103, l103, y103, z103⟩, st103⟩ := X102.virtualBack hx (y := own_n15) (z := own_n15) hown (mvT hZ (own_w hw 138 rfl)) (mvT hZ (own_decl (own_w hw 142 rfl) (own_w hw 139 rfl))) (notFace_of_selects (args := #[]) (mvT hZ (own_w hw 141 rfl))) (mvT hZ (own_w hw 141 rfl)) (mvT hZ (own_w hw 139 rfl)) (by decide) (backOf (W := 0) (own_rm23 l Z a0 hw [] a1 (BB.length + own_sz p1).toInt32 d (BB ++ PP) BB.length.toInt32 h0 n0 (Nat.le_trans Z0 K0.1) E Fv Fc Fn Ad Ed hcap (hbb.app hbp) (own_nnS (by omega : (BB.length + own_sz p1) < 2147483648)) (own_34 hf34) g_a1 hne) hZ (own_w hw 142 rfl) (own_w hw 113 rfl) (by decide) (by decide)) q103a q103c (g := (mkF m 14 #[own_r a1, own_i p1, own_i BB.length.toInt32, .val (.int (BB.length + own_sz p1).toInt32)] [.int (BB.length + own_sz p1).toInt32, .ref a1])) rfl (by rw [hml]; rfl) (Steps.refl _) (argsL := [.int (BB.length + own_sz p1).toInt32]) (rest := []) (lenOf own_pd5 rfl) rfl (by exact own_ca rfl) (hb hby d28_14) (fun _ _ => ⟨rfl, e102, (by decide : 0 + 1 ≤ _), (by decide : 0 + 34 ≤ _)⟩)
  dsimp only [Pt.U, Pt.locs, Pt.cells, Pt.slots] at X103 l103 y103 z103 st103 hQ103
  subst l103 y103 z103
  obtain ⟨rfl, N103q, K103, d103, PX103, hD103, hcap103, hbx103, hle103, Eb103, Fv103, Fc103, Fn103, V103, Ed103⟩ := hQ103
  have ne_a1_d103 : a1 ≠ d103 := by rcases hD103 with q | q; exact q ▸ hne; exact Nat.ne_of_lt (Nat.lt_of_lt_of_le E.lt q)
  have ne_o1_d103 : o1 ≠ d103 := by rcases hD103 with q | q; exact q ▸ hno1; exact Nat.ne_of_lt (Nat.lt_of_lt_of_le O1.lt q)
  have ne_o2_d103 : o2 ≠ d103 := by rcases hD103 with q | q; exact q ▸ hno2; exact Nat.ne_of_lt (Nat.lt_of_lt_of_le O2.lt q)
  have ns103 := (own_nsS (own_nsE E) own_ns0)
  have Kc103 : Keep h0 T103.heap [a1, d] := K0.trans K103 (allS (Or.inl (List.mem_of_getElem? (i := 0) rfl)) all0)
  have g_d103 : n0 ≤ d103 := by rcases hD103 with q | q; exact q ▸ g_d; exact Nat.le_trans Z0 (Nat.le_trans K0.1 q)
  have iw_d103 : d103 ∈ ([a1, d] : List Addr) ∨ h0.size ≤ d103 := by rcases hD103 with q | q; exact Or.inl (q ▸ List.mem_of_getElem? (i := 1) rfl); exact Or.inr (Nat.le_trans K0.1 q)
  have N103 := Fr.app N102 N103q
  refine own_s T103 m 18 #[own_r a1, own_i p1, own_i BB.length.toInt32, .val (.int (BB.length + own_sz p1).toInt32)] [.ref a1] (fun t k => st103.trans (XS.aloadN X103.here hx rfl (hb hby d28_17) rfl (rfl) k)) ?_
  obtain ⟨cq104, kq104, q104a, q104b, q104c⟩ := isOf hZ rfl Eb103
  obtain ⟨v104, _, ⟨T104, L104, k104, n104⟩, -, X104, ⟨Lc104, hQ104, l104, y104, z104⟩, st104⟩ := X103.virtualBack hx (y := own_n24) (z := own_n24) hown (mvT hZ (own_w hw 176 rfl)) (mvT hZ (own_w hw 177 rfl)) (notFace_of_selects (args := #[]) (mvT hZ (own_w hw 179 rfl))) (mvT hZ (own_w hw 179 rfl)) (mvT hZ (own_w hw 178 rfl)) (by decide) (backOf (W := 0) (own_rm30 l Z a0 hw [] a1 d103 ((BB ++ PP) ++ PX103) BB.length.toInt32 cs T103.heap n0 (Nat.le_trans Z0 Kc103.1) Eb103 Fv103 Fc103 Fn103 V103 Ed103 (own_sta_keep CS K103 ns103) hcs) hZ (own_w hw 180 rfl) (own_w hw 113 rfl) (by decide) (by decide)) q104a q104c (g := (mkF m 18 #[own_r a1, own_i p1, own_i BB.length.toInt32, .val (.int (BB.length + own_sz p1).toInt32)] [.ref a1])) rfl (by rw [hml]; rfl) (Steps.refl _) (argsL := []) (rest := []) (lenOf own_pd18 rfl) rfl (by exact own_ca rfl) (hb hby d28_18) (fun _ _ => ⟨rfl, rfl, (by decide : 1 + 0 ≤ _), (by decide : 34 + 0 ≤ _)⟩)
  dsimp only [Pt.U, Pt.locs, Pt.cells, Pt.slots] at X104 l104 y104 z104 st104 hQ104
  subst l104 y104 z104
  obtain ⟨rfl, N104q, e104⟩ := hQ104
  have N104 := Fr.app N103 N104q
  refine own_s T104 m 26 #[own_r a1, own_i p1, own_i BB.length.toInt32, .val (.int (BB.length + own_sz p1).toInt32)] [.int (BB.length + own_sz p1).toInt32, .int p1] (fun t k => st104.trans (XS.ifNo X104.here hx rfl (hb hby d28_21) rfl (XT.i0_eq_f (by decide)) (XS.iloadN X104.here hx rfl (hb hby d28_24) rfl (XS.iloadN X104.here hx rfl (hb hby d28_25) rfl k)))) ?_
  refine own_s T104 m 27 #[own_r a1, own_i p1, own_i BB.length.toInt32, .val (.int (BB.length + own_sz p1).toInt32)] [.ref a1, .int (BB.length + own_sz p1).toInt32, .int p1] (fun t k => XS.aloadN X104.here hx rfl (hb hby d28_26) rfl (rfl) k) ?_
  obtain ⟨T105, X105, e105, st105⟩ := getF X104 hx hZ hown (host := "") (Or.inl (own_w hw 117 rfl)) Via.refl e104 Fv103 (g := (mkF m 27 #[own_r a1, own_i p1, own_i BB.length.toInt32, .val (.int (BB.length + own_sz p1).toInt32)] [.ref a1, .int (BB.length + own_sz p1).toInt32, .int p1])) rfl rfl (hb hby d28_27)
  refine own_s T105 m 30 #[own_r a1, own_i p1, own_i BB.length.toInt32, .val (.int (BB.length + own_sz p1).toInt32)] [.ref d103, .int (BB.length + own_sz p1).toInt32, .int p1] (fun t k => st105 _ k) ?_
  have hle' : (BB.length + own_sz p1) ≤ ((BB ++ PP) ++ PX103).length := by have q := hle103; rw [len_toInt (by omega)] at q; omega
  have h34' : ((BB ++ PP) ++ PX103).length ≤ 34 := by rcases hcap103 with q | q <;> rw [q] <;> decide
  obtain ⟨PR, ePR⟩ : ∃ q, q = ((BB ++ PP) ++ PX103).take (BB.length + own_sz p1) := ⟨_, rfl⟩
  obtain ⟨YY, eYY⟩ : ∃ q, q = ((BB ++ PP) ++ PX103).drop (BB.length + own_sz p1) := ⟨_, rfl⟩
  have eL : PR ++ YY = ((BB ++ PP) ++ PX103) := by rw [ePR, eYY, List.take_append_drop]
  have hPl : PR.length = (BB.length + own_sz p1) := by rw [ePR, List.length_take]; omega
  have hPt : PR.take BB.length = BB := by rw [ePR, List.take_take, Nat.min_eq_left (by omega), List.append_assoc, List.take_left' rfl]
  have VG : own_Ar Z T103.heap d103 .byte ((PR ++ YY).map Value.int) := by rw [eL]; exact V103
  obtain ⟨v106, _, ⟨T106, L106, k106, n106⟩, -, X106, ⟨Lc106, hQ106, l106, y106, z106⟩, st106⟩ := Jvm.LawKit.callS X105 hx (y := own_n32) hown (mvT hZ (own_w hw 181 rfl)) (mvT hZ (own_w hw 182 rfl)) (mvT hZ (own_w hw 174 rfl)) (mvT hZ (own_w hw 183 rfl)) (by decide) (backOf (W := 0) (own_rm31 l Z a0 hw [] p1 (BB.length + own_sz p1).toInt32 d103 BB PR YY o1 o2 D1 D2 T103.heap n0 (Nat.le_trans Z0 Kc103.1) VG (by rw [hPl]) hPl hPt (by rw [eL]; exact h34') ne_o1_d103 ne_o2_d103 g_d103 (own_sta_keep S1 K103 ns103) (own_sta_keep S2 K103 ns103) (O1.keep K103 (ninS hna1 nin0)) (O2.keep K103 (ninS hna2 nin0)) hD1 hD2) hZ (own_w hw 183 rfl) (own_w hw 174 rfl) (by decide) (by decide)) (g := (mkF m 30 #[own_r a1, own_i p1, own_i BB.length.toInt32, .val (.int (BB.length + own_sz p1).toInt32)] [.ref d103, .int (BB.length + own_sz p1).toInt32, .int p1])) rfl (by rw [hml]; rfl) (argsL := [.int p1, .int (BB.length + own_sz p1).toInt32, .ref d103]) (rest := []) (lenOf own_pd21 rfl) rfl (by exact own_ca rfl) (hb hby d28_30) (fun _ _ => ⟨rfl, e105, (by decide : 1 + 0 ≤ _), (by decide : 34 + 0 ≤ _)⟩)
  dsimp only [Pt.U, Pt.locs, Pt.cells, Pt.slots] at X106 l106 y106 z106 st106 hQ106
  subst l106 y106 z106
  obtain ⟨z106, rfl, N106q, K106, V106⟩ := hQ106
  have ns106 := (own_nsS (own_nsE Ed103) own_ns0)
  have Kc106 : Keep h0 T106.heap [a1, d] := Kc103.trans K106 (allS iw_d103 all0)
  have N106 := Fr.app N104 N106q
  refine own_s T106 m 49 #[own_r a1, own_i p1, own_i BB.length.toInt32, .val (.int (BB.length + own_sz p1).toInt32)] [.ref a1] (fun t k => st106 _ (XT.pop X106.here hx rfl (hb hby d28_33) rfl rfl (XS.goto X106.here hx rfl (pc0 := 34) (pc' := 48) rfl (hb hby d28_34) (by decide) (by decide) (XS.aloadN X106.here hx rfl (hb hby d28_48) rfl (rfl) k)))) ?_
  refine own_s T106 m 50 #[own_r a1, own_i p1, own_i BB.length.toInt32, .val (.int (BB.length + own_sz p1).toInt32)] [.int (BB.length + own_sz p1).toInt32, .ref a1] (fun t k => XS.iloadN X106.here hx rfl (hb hby d28_49) rfl k) ?_
  rw [show (BB.length + own_sz p1) = (BB ++ own_dec p1).length by rw [List.length_append, own_dec_len]]
  obtain ⟨T107, h107, X107, e107, W107, st107⟩ := putF X106 hx hZ hown (host := "") (Or.inl (own_w hw 136 rfl)) Via.refl rfl (Fn103.keep K106 (ninS ne_a1_d103 nin0)) (Eb103.keep K106) (Or.inl (own_w hw 137 rfl)) (own_w hw 104 rfl) (ty := .int) (by decide) rfl rfl (g := (mkF m 50 #[own_r a1, own_i p1, own_i BB.length.toInt32, .val (.int (BB ++ own_dec p1).length.toInt32)] [.int (BB ++ own_dec p1).length.toInt32, .ref a1])) rfl rfl (hb hby d28_50)
  have F107 : Fld Z h107 a1 "java/lang/AbstractStringBuilder" "count" "I" (.int (BB ++ own_dec p1).length.toInt32) := (Fn103.keep K106 (ninS ne_a1_d103 nin0)).same W107
  have Kc107 : Keep h0 h107 [a1, d] := Kc106.wr W107 (Or.inl (List.mem_of_getElem? (i := 0) rfl))
  have N107 := Fr.snoc X107 N106 g_a1
  refine own_s T107 m 54 #[own_r a1, own_i p1, own_i BB.length.toInt32, .val (.int (BB ++ own_dec p1).length.toInt32)] [.ref a1] (fun t k => st107 _ (XS.aloadN X107.here hx rfl (hb hby d28_53) rfl (rfl) k)) ?_
  have eE : T107.heap = h107 := e107
  have hcF : ((BB ++ own_dec p1) ++ YY).length = ((BB ++ PP) ++ PX103).length := by rw [← eL]; simp only [List.length_append, own_dec_len]; omega
  exact own_retA X107 hx hlk (rfl) hrt rfl (hb hby d28_54) ⟨rfl, N107, (by rw [eE]; exact Kc107), d103, YY, hD103, (by rw [hcF]; exact hcap103), (((hbb.app hbp).app hbx103).sub (fun x q => List.mem_of_mem_drop (eYY ▸ q))), (by rw [eE]; exact ((Eb103.keep K106).wr W107)), (by rw [eE]; exact ((Fv103.keep K106 (ninS ne_a1_d103 nin0)).other W107 (Or.inr (slot_ne (Or.inl (own_w hw 118 rfl)) (Or.inl (own_w hw 137 rfl)) (by decide) (t := (.array .byte)) (t' := .int) (by decide) (by decide))))), (by rw [eE]; exact ((Fc103.keep K106 (ninS ne_a1_d103 nin0)).other W107 (Or.inr (slot_ne (Or.inl (own_w hw 120 rfl)) (Or.inl (own_w hw 137 rfl)) (by decide) (t := .byte) (t' := .int) (by decide) (by decide))))), (by rw [eE]; exact F107), (by rw [eE, List.append_assoc]; exact (V106.other W107 (Ne.symm ne_a1_d103))), (by rw [eE]; exact ((Ed103.keep K106).wr W107))⟩ (by decide) (by decide)
theorem own_pd22 : parseMethodDescriptor "(I)Ljava/lang/AbstractStringBuilder;" = some ⟨[.int], some (.object "java/lang/AbstractStringBuilder")⟩ := by decide +kernel
abbrev own_k27 := jdk_67_method_15_code
abbrev own_n34 : MethodName := ⟨"java/lang/StringBuilder", "append", "(I)Ljava/lang/StringBuilder;"⟩
theorem d27_0 : own_D own_k27 0 (.aload_n 0) 1 := by decide +kernel
theorem d27_1 : own_D own_k27 1 (.iload_n 1) 1 := by decide +kernel
theorem d27_2 : own_D own_k27 2 (.invokespecial 53) 3 := by decide +kernel
theorem d27_5 : own_D own_k27 5 (.pop) 1 := by decide +kernel
theorem d27_6 : own_D own_k27 6 (.aload_n 0) 1 := by decide +kernel
theorem d27_7 : own_D own_k27 7 (.areturn) 1 := by decide +kernel
theorem ef_own_sbI (m : MethodId) (a1 : Addr) (p1 : Int32) : entryFrame m #[(.ref a1), (.int p1)] 2 = mkF m 0 #[own_r a1, own_i p1] [] := by first | (simp [entryFrame, mkF, argsToLocals, Value.category]; done) | rfl
def own_sbI_Q (Z : State) (a1 : Addr) (p1 : Int32) (cs : Int32) (d : Addr) (BB : List Int32) (PP : List Int32) (o1 : Addr) (o2 : Addr) (D1 : List Value) (D2 : List Value) (h0 : Heap) (n0 : Nat) (v : Option Value) (h : Heap) (L : List Loc) : Prop := v = some (.ref a1) ∧ Fr n0 L ∧ Keep h0 h [a1, d] ∧ ∃ (d' : Addr) (PX : List Int32), (d' = d ∨ h0.size ≤ d') ∧ (((BB ++ own_dec p1) ++ PX).length = 16 ∨ ((BB ++ own_dec p1) ++ PX).length = 34) ∧ own_by PX ∧ Exa Z h a1 "java/lang/StringBuilder" ∧ Fld Z h a1 "java/lang/AbstractStringBuilder" "value" "[B" (.ref d') ∧ Fld Z h a1 "java/lang/AbstractStringBuilder" "coder" "B" (.int 0) ∧ Fld Z h a1 "java/lang/AbstractStringBuilder" "count" "I" (.int (BB ++ own_dec p1).length.toInt32) ∧ own_Ar Z h d' .byte (((BB ++ own_dec p1) ++ PX).map Value.int) ∧ Exa Z h d' "[B"
set_option maxRecDepth 65536 in
set_option maxHeartbeats 40000000 in
theorem own_sbI (l : Launch) (Z : State) (a0 : Array Value) (hw : own_H a0 Z) (ws : List Jvm.Cond) (a1 : Addr) (p1 cs : Int32) (d : Addr) (BB PP : List Int32) (o1 o2 : Addr) (D1 D2 : List Value) (h0 : Heap) (n0 : Nat) (Z0 : n0 ≤ h0.size) (CS : Sta Z h0 "java/lang/String" "COMPACT_STRINGS" "Z" (.int cs)) (hcs : ¬ cs = 0) (E : Exa Z h0 a1 "java/lang/StringBuilder") (Fv : Fld Z h0 a1 "java/lang/AbstractStringBuilder" "value" "[B" (.ref d)) (Fc : Fld Z h0 a1 "java/lang/AbstractStringBuilder" "coder" "B" (.int 0)) (Fn : Fld Z h0 a1 "java/lang/AbstractStringBuilder" "count" "I" (.int BB.length.toInt32)) (Ad : own_Ar Z h0 d .byte ((BB ++ PP).map Value.int)) (Ed : Exa Z h0 d "[B") (hf34 : BB.length + own_sz p1 ≤ 34) (hno1 : o1 ≠ d) (hno2 : o2 ≠ d) (hcap : (BB ++ PP).length = 16 ∨ (BB ++ PP).length = 34) (hbb : own_by BB) (hbp : own_by PP) (g_a1 : n0 ≤ a1) (g_d : n0 ≤ d) (hne : a1 ≠ d) (S1 : Sta Z h0 "java/lang/Integer" "DigitOnes" "[B" (.ref o1)) (S2 : Sta Z h0 "java/lang/Integer" "DigitTens" "[B" (.ref o2)) (O1 : own_Ar Z h0 o1 .byte D1) (O2 : own_Ar Z h0 o2 .byte D2) (hD1 : ∀ i, i < 100 → D1[i]? = some (.int (own_dg (i % 10)))) (hD2 : ∀ i, i < 100 → D2[i]? = some (.int (own_dg (i / 10)))) : own_M l Z ws own_n34 own_k27 2 (some (.object "java/lang/StringBuilder")) (own_R 5 1 34 77) #[(.ref a1), (.int p1)] h0 (own_sbI_Q Z a1 p1 cs d BB PP o1 o2 D1 D2 h0 n0) := by
  refine own_open n0 "java/lang/StringBuilder" rfl (plainFor_of_name own_pn3) (fun m => ef_own_sbI m a1 p1) ?_
  intro p e s m below meth c s₁ hx hby hml hZ hown hnm hlk hrt X0 e0 N0
  have K0 := Keep.refl h0 [a1, d]
  have hna1 : o1 ≠ a1 := own_neO (own_w hw 104 rfl) E O1
  have hna2 : o2 ≠ a1 := own_neO (own_w hw 104 rfl) E O2
  refine own_s s₁ m 2 #[own_r a1, own_i p1] [.int p1, .ref a1] (fun t k => XS.aloadN X0.here hx rfl (hb hby d27_0) rfl (rfl) (XS.iloadN X0.here hx rfl (hb hby d27_1) rfl k)) ?_
  obtain ⟨v101, _, ⟨T101, L101, k101, n101⟩, -, X101, ⟨Lc101, hQ101, l101, y101, z101⟩, st101⟩ := superBack X0 hx hZ (y := (⟨"java/lang/AbstractStringBuilder", "append", "(I)Ljava/lang/AbstractStringBuilder;"⟩ : MethodName)) hown (own_w hw 168 rfl) (own_same (own_w hw 169 rfl) (own_nf (notFace_of_selects (args := a0) (own_w hw 141 rfl)) (own_w hw 139 rfl) rfl) (by decide)) (own_w hw 169 rfl) (own_w hw 128 rfl) (by decide) (backOf (W := 0) (own_asbI l Z a0 hw [] a1 p1 cs d BB PP o1 o2 D1 D2 h0 n0 (Nat.le_trans Z0 K0.1) CS hcs E Fv Fc Fn Ad Ed hf34 hno1 hno2 hcap hbb hbp g_a1 g_d hne S1 S2 O1 O2 hD1 hD2) hZ (own_w hw 171 rfl) (own_w hw 113 rfl) (by decide) (by decide)) e0 (Ins.self E) (g := (mkF m 2 #[own_r a1, own_i p1] [.int p1, .ref a1])) rfl (by rw [hml]; rfl) (own_w hw 171 rfl) (argsL := [.int p1]) (rest := []) (lenOf own_pd22 rfl) rfl (by exact own_ca rfl) (hb hby d27_2) (fun _ _ => ⟨rfl, e0, (by decide : 0 + 1 ≤ _), (by decide : 0 + 34 ≤ _)⟩)
  dsimp only [Pt.U, Pt.locs, Pt.cells, Pt.slots] at X101 l101 y101 z101 st101 hQ101
  subst l101 y101 z101
  obtain ⟨rfl, N101q, K101, d101, PX101, hD101, hcap101, hbx101, Eb101, Fv101, Fc101, Fn101, V101, Ed101⟩ := hQ101
  have ne_a1_d101 : a1 ≠ d101 := by rcases hD101 with q | q; exact q ▸ hne; exact Nat.ne_of_lt (Nat.lt_of_lt_of_le E.lt q)
  have ne_o1_d101 : o1 ≠ d101 := by rcases hD101 with q | q; exact q ▸ hno1; exact Nat.ne_of_lt (Nat.lt_of_lt_of_le O1.lt q)
  have ne_o2_d101 : o2 ≠ d101 := by rcases hD101 with q | q; exact q ▸ hno2; exact Nat.ne_of_lt (Nat.lt_of_lt_of_le O2.lt q)
  have ns101 := (own_nsS (own_nsE E) (own_nsS (own_nsE Ed) own_ns0))
  have Kc101 : Keep h0 T101.heap [a1, d] := K0.trans K101 (allS (Or.inl (List.mem_of_getElem? (i := 0) rfl)) (allS (Or.inl (List.mem_of_getElem? (i := 1) rfl)) all0))
  have g_d101 : n0 ≤ d101 := by rcases hD101 with q | q; exact q ▸ g_d; exact Nat.le_trans Z0 (Nat.le_trans K0.1 q)
  have iw_d101 : d101 ∈ ([a1, d] : List Addr) ∨ h0.size ≤ d101 := by rcases hD101 with q | q; exact Or.inl (q ▸ List.mem_of_getElem? (i := 1) rfl); exact Or.inr (Nat.le_trans K0.1 q)
  have N101 := Fr.app N0 N101q
  refine own_s T101 m 7 #[own_r a1, own_i p1] [.ref a1] (fun t k => st101.trans (XT.pop X101.here hx rfl (hb hby d27_5) rfl rfl (XS.aloadN X101.here hx rfl (hb hby d27_6) rfl (rfl) k))) ?_
  have eE : T101.heap = T101.heap := rfl
  exact own_retA X101 hx hlk (rfl) hrt rfl (hb hby d27_7) ⟨rfl, N101, (by rw [eE]; exact Kc101), d101, PX101, hD101, hcap101, hbx101, (by rw [eE]; exact Eb101), (by rw [eE]; exact Fv101), (by rw [eE]; exact Fc101), (by rw [eE]; exact Fn101), (by rw [eE]; exact V101), (by rw [eE]; exact Ed101)⟩ (by decide) (by decide)
def own_fi : List Int32 → Int32
  | [] => -1
  | [a] => if a = 58 then 0 else -1
  | [a, b] => if a = 58 then 0 else if b = 58 then 1 else -1
  | [a, b, c] => if a = 58 then 0 else if b = 58 then 1 else if c = 58 then 2 else -1
  | _ => -1
def own_has (H : List Int32) : Int32 := if own_fi H < 0 then 0 else 1
abbrev own_k13 := jdk_42_method_126_code
abbrev own_n35 : MethodName := ⟨"java/lang/String", "toString", "()Ljava/lang/String;"⟩
theorem d13_0 : own_D own_k13 0 (.aload_n 0) 1 := by decide +kernel
theorem d13_1 : own_D own_k13 1 (.areturn) 1 := by decide +kernel
theorem ef_own_rm13 (m : MethodId) (a1 : Addr) : entryFrame m #[(.ref a1)] 1 = mkF m 0 #[own_r a1] [] := by first | (simp [entryFrame, mkF, argsToLocals, Value.category]; done) | rfl
def own_rm13_Q (Z : State) (a1 : Addr)  (h0 : Heap) (n0 : Nat) (v : Option Value) (h : Heap) (L : List Loc) : Prop := v = some (.ref a1) ∧ Fr n0 L ∧ h = h0
set_option maxRecDepth 65536 in
set_option maxHeartbeats 40000000 in
theorem own_rm13 (l : Launch) (Z : State) (a0 : Array Value) (hw : own_H a0 Z) (ws : List Jvm.Cond) (a1 : Addr) (h0 : Heap) (n0 : Nat) (Z0 : n0 ≤ h0.size) : own_M l Z ws own_n35 own_k13 1 (some (.object "java/lang/String")) (own_R 0 0 0 0) #[(.ref a1)] h0 (own_rm13_Q Z a1  h0 n0) := by
  refine own_open n0 "java/lang/String" rfl (plainFor_of_name own_pn1) (fun m => ef_own_rm13 m a1) ?_
  intro p e s m below meth c s₁ hx hby hml hZ hown hnm hlk hrt X0 e0 N0
  have K0 := Keep.refl h0 []
  refine own_s s₁ m 1 #[own_r a1] [.ref a1] (fun t k => XS.aloadN X0.here hx rfl (hb hby d13_0) rfl (rfl) k) ?_
  exact own_retA X0 hx hlk (rfl) hrt rfl (hb hby d13_1) ⟨rfl, N0, e0⟩ (by decide) (by decide)
theorem own_pn7 : plainName "java/lang/StringLatin1" = true := by first | (simp [plainName, overriddenIn]; done) | decide +kernel
abbrev own_k54 := jdk_43_method_25_code
abbrev own_n36 : MethodName := ⟨"java/lang/StringLatin1", "indexOf", "([BI[BII)I"⟩
theorem d54_0 : own_D own_k54 0 (.aload_n 2) 1 := by decide +kernel
theorem d54_1 : own_D own_k54 1 (.iconst 0) 1 := by decide +kernel
theorem d54_2 : own_D own_k54 2 (.baload) 1 := by decide +kernel
theorem d54_3 : own_D own_k54 3 (.istore 5) 2 := by decide +kernel
theorem d54_5 : own_D own_k54 5 (.iload_n 1) 1 := by decide +kernel
theorem d54_6 : own_D own_k54 6 (.iload_n 3) 1 := by decide +kernel
theorem d54_7 : own_D own_k54 7 (.isub) 1 := by decide +kernel
theorem d54_8 : own_D own_k54 8 (.istore 6) 2 := by decide +kernel
theorem d54_10 : own_D own_k54 10 (.iload 4) 2 := by decide +kernel
theorem d54_12 : own_D own_k54 12 (.istore 7) 2 := by decide +kernel
theorem d54_14 : own_D own_k54 14 (.iload 7) 2 := by decide +kernel
theorem d54_16 : own_D own_k54 16 (.iload 6) 2 := by decide +kernel
theorem d54_18 : own_D own_k54 18 (.if_icmp .gt 101) 3 := by decide +kernel
theorem d54_21 : own_D own_k54 21 (.aload_n 0) 1 := by decide +kernel
theorem d54_22 : own_D own_k54 22 (.iload 7) 2 := by decide +kernel
theorem d54_24 : own_D own_k54 24 (.baload) 1 := by decide +kernel
theorem d54_25 : own_D own_k54 25 (.iload 5) 2 := by decide +kernel
theorem d54_27 : own_D own_k54 27 (.if_icmp .eq 25) 3 := by decide +kernel
theorem d54_30 : own_D own_k54 30 (.iinc 7 1) 3 := by decide +kernel
theorem d54_33 : own_D own_k54 33 (.iload 7) 2 := by decide +kernel
theorem d54_35 : own_D own_k54 35 (.iload 6) 2 := by decide +kernel
theorem d54_37 : own_D own_k54 37 (.if_icmp .gt 15) 3 := by decide +kernel
theorem d54_40 : own_D own_k54 40 (.aload_n 0) 1 := by decide +kernel
theorem d54_41 : own_D own_k54 41 (.iload 7) 2 := by decide +kernel
theorem d54_43 : own_D own_k54 43 (.baload) 1 := by decide +kernel
theorem d54_44 : own_D own_k54 44 (.iload 5) 2 := by decide +kernel
theorem d54_46 : own_D own_k54 46 (.if_icmp .eq 6) 3 := by decide +kernel
theorem d54_49 : own_D own_k54 49 (.goto (-19)) 3 := by decide +kernel
theorem d54_52 : own_D own_k54 52 (.iload 7) 2 := by decide +kernel
theorem d54_54 : own_D own_k54 54 (.iload 6) 2 := by decide +kernel
theorem d54_56 : own_D own_k54 56 (.if_icmp .gt 57) 3 := by decide +kernel
theorem d54_59 : own_D own_k54 59 (.iload 7) 2 := by decide +kernel
theorem d54_61 : own_D own_k54 61 (.iconst 1) 1 := by decide +kernel
theorem d54_62 : own_D own_k54 62 (.iadd) 1 := by decide +kernel
theorem d54_63 : own_D own_k54 63 (.istore 8) 2 := by decide +kernel
theorem d54_65 : own_D own_k54 65 (.iload 8) 2 := by decide +kernel
theorem d54_67 : own_D own_k54 67 (.iload_n 3) 1 := by decide +kernel
theorem d54_68 : own_D own_k54 68 (.iadd) 1 := by decide +kernel
theorem d54_69 : own_D own_k54 69 (.iconst 1) 1 := by decide +kernel
theorem d54_70 : own_D own_k54 70 (.isub) 1 := by decide +kernel
theorem d54_71 : own_D own_k54 71 (.istore 9) 2 := by decide +kernel
theorem d54_73 : own_D own_k54 73 (.iconst 1) 1 := by decide +kernel
theorem d54_74 : own_D own_k54 74 (.istore 10) 2 := by decide +kernel
theorem d54_76 : own_D own_k54 76 (.iload 8) 2 := by decide +kernel
theorem d54_78 : own_D own_k54 78 (.iload 9) 2 := by decide +kernel
theorem d54_80 : own_D own_k54 80 (.if_icmp .ge 23) 3 := by decide +kernel
theorem d54_103 : own_D own_k54 103 (.iload 8) 2 := by decide +kernel
theorem d54_105 : own_D own_k54 105 (.iload 9) 2 := by decide +kernel
theorem d54_107 : own_D own_k54 107 (.if_icmp .ne 6) 3 := by decide +kernel
theorem d54_110 : own_D own_k54 110 (.iload 7) 2 := by decide +kernel
theorem d54_112 : own_D own_k54 112 (.ireturn) 1 := by decide +kernel
theorem d54_113 : own_D own_k54 113 (.iinc 7 1) 3 := by decide +kernel
theorem d54_116 : own_D own_k54 116 (.goto (-102)) 3 := by decide +kernel
theorem d54_119 : own_D own_k54 119 (.iconst (-1)) 1 := by decide +kernel
theorem d54_120 : own_D own_k54 120 (.ireturn) 1 := by decide +kernel
theorem ef_own_rm54 (m : MethodId) (a1 : Addr) (p1 : Int32) (a2 : Addr) (p2 : Int32) (p3 : Int32) : entryFrame m #[(.ref a1), (.int p1), (.ref a2), (.int p2), (.int p3)] 11 = mkF m 0 #[own_r a1, own_i p1, own_r a2, own_i p2, own_i p3, .unset, .unset, .unset, .unset, .unset, .unset] [] := by first | (simp [entryFrame, mkF, argsToLocals, Value.category]; done) | rfl
def own_rm54_Q (Z : State) (a1 : Addr) (p1 : Int32) (a2 : Addr) (p2 : Int32) (p3 : Int32) (HB : List Int32) (h0 : Heap) (n0 : Nat) (v : Option Value) (h : Heap) (L : List Loc) : Prop := v = some (.int (own_fi HB)) ∧ Fr n0 L ∧ h = h0
set_option maxRecDepth 65536 in
set_option maxHeartbeats 40000000 in
theorem own_rm54 (l : Launch) (Z : State) (a0 : Array Value) (hw : own_H a0 Z) (ws : List Jvm.Cond) (a1 : Addr) (p1 : Int32) (a2 : Addr) (p2 p3 : Int32) (HB : List Int32) (h0 : Heap) (n0 : Nat) (Z0 : n0 ≤ h0.size) (A_a1 : own_Ar Z h0 a1 .byte (HB.map Value.int)) (A_a2 : own_Ar Z h0 a2 .byte [(.int 58)]) (hp1 : p1 = HB.length.toInt32) (hp2 : p2 = 1) (hp3 : p3 = 0) (h3 : HB.length ≤ 3) (hne0 : HB ≠ []) : own_M l Z ws own_n36 own_k54 11 (some .int) (own_R 0 0 0 0) #[(.ref a1), (.int p1), (.ref a2), (.int p2), (.int p3)] h0 (own_rm54_Q Z a1 p1 a2 p2 p3 HB h0 n0) := by
  refine own_open n0 "java/lang/StringLatin1" rfl (plainFor_of_name own_pn7) (fun m => ef_own_rm54 m a1 p1 a2 p2 p3) ?_
  intro p e s m below meth c s₁ hx hby hml hZ hown hnm hlk hrt X0 e0 N0
  have K0 := Keep.refl h0 []
  rcases HB with _ | ⟨x0, _ | ⟨x1, _ | ⟨x2, _ | ⟨x3, HB⟩⟩⟩⟩
  · exact absurd rfl hne0
  · subst hp1 hp2 hp3
    have A1 : own_Ar Z h0 a1 .byte [(.int x0)] := A_a1
    refine own_s s₁ m 5 #[own_r a1, own_i 1, own_r a2, own_i 1, own_i 0, own_i 58, .unset, .unset, .unset, .unset, .unset] [] (fun t k => XS.aloadN X0.here hx rfl (hb hby d54_0) rfl (rfl) (XS.iconst X0.here hx rfl (hb hby d54_1) (own_ldB X0 hx hZ e0 A_a2 (j := (0 : Int32)) (v := (.int 58)) (by decide) rfl (g := (mkF m 2 #[own_r a1, own_i 1, own_r a2, own_i 1, own_i 0, .unset, .unset, .unset, .unset, .unset, .unset] [.int 0, .ref a2])) rfl rfl (hb hby d54_2) _ (XS.istore X0.here hx rfl (hb hby d54_3) rfl (l' := #[own_r a1, own_i 1, own_r a2, own_i 1, own_i 0, own_i 58, .unset, .unset, .unset, .unset, .unset]) rfl k)))) ?_
    refine own_s s₁ m 8 #[own_r a1, own_i 1, own_r a2, own_i 1, own_i 0, own_i 58, .unset, .unset, .unset, .unset, .unset] [.int ((1 : Int32) - (1 : Int32))] (fun t k => XS.iloadN X0.here hx rfl (hb hby d54_5) rfl (XS.iloadN X0.here hx rfl (hb hby d54_6) rfl (XS.isub X0.here hx rfl (hb hby d54_7) rfl k))) ?_
    rw [show ((1 : Int32) - (1 : Int32)) = (0 : Int32) from by decide]
    refine own_s s₁ m 16 #[own_r a1, own_i 1, own_r a2, own_i 1, own_i 0, own_i 58, own_i 0, own_i 0, .unset, .unset, .unset] [.int 0] (fun t k => XS.istore X0.here hx rfl (hb hby d54_8) rfl (l' := #[own_r a1, own_i 1, own_r a2, own_i 1, own_i 0, own_i 58, own_i 0, .unset, .unset, .unset, .unset]) rfl (XS.iload X0.here hx rfl (hb hby d54_10) rfl (XS.istore X0.here hx rfl (hb hby d54_12) rfl (l' := #[own_r a1, own_i 1, own_r a2, own_i 1, own_i 0, own_i 58, own_i 0, own_i 0, .unset, .unset, .unset]) rfl (XS.iload X0.here hx rfl (hb hby d54_14) rfl k)))) ?_
    refine own_s s₁ m 24 #[own_r a1, own_i 1, own_r a2, own_i 1, own_i 0, own_i 58, own_i 0, own_i 0, .unset, .unset, .unset] [.int 0, .ref a1] (fun t k => XS.iload X0.here hx rfl (hb hby d54_16) rfl (XS.icmpNo X0.here hx rfl (hb hby d54_18) rfl (XT.ii_gt_f (by decide)) (XS.aloadN X0.here hx rfl (hb hby d54_21) rfl (rfl) (XS.iload X0.here hx rfl (hb hby d54_22) rfl k)))) ?_
    refine own_s s₁ m 27 #[own_r a1, own_i 1, own_r a2, own_i 1, own_i 0, own_i 58, own_i 0, own_i 0, .unset, .unset, .unset] [.int 58, .int x0] (fun t k => own_ldB X0 hx hZ e0 A1 (j := (0 : Int32)) (v := (.int x0)) (by decide) rfl (g := (mkF m 24 #[own_r a1, own_i 1, own_r a2, own_i 1, own_i 0, own_i 58, own_i 0, own_i 0, .unset, .unset, .unset] [.int 0, .ref a1])) rfl rfl (hb hby d54_24) _ (XS.iload X0.here hx rfl (hb hby d54_25) rfl k)) ?_
    by_cases hc27_101 : x0 = (58 : Int32)
    · refine own_s s₁ m 59 #[own_r a1, own_i 1, own_r a2, own_i 1, own_i 0, own_i 58, own_i 0, own_i 0, .unset, .unset, .unset] [] (fun t k => XS.icmpYes X0.here hx rfl (pc0 := 27) (pc' := 52) rfl (hb hby d54_27) rfl (XT.ii_eq_t hc27_101) (by decide) (by decide) (XS.iload X0.here hx rfl (hb hby d54_52) rfl (XS.iload X0.here hx rfl (hb hby d54_54) rfl (XS.icmpNo X0.here hx rfl (hb hby d54_56) rfl (XT.ii_gt_f (by decide)) k)))) ?_
      refine own_s s₁ m 63 #[own_r a1, own_i 1, own_r a2, own_i 1, own_i 0, own_i 58, own_i 0, own_i 0, .unset, .unset, .unset] [.int ((0 : Int32) + (1 : Int32))] (fun t k => XS.iload X0.here hx rfl (hb hby d54_59) rfl (XS.iconst X0.here hx rfl (hb hby d54_61) (XS.iadd X0.here hx rfl (hb hby d54_62) rfl k))) ?_
      rw [show ((0 : Int32) + (1 : Int32)) = (1 : Int32) from by decide]
      refine own_s s₁ m 69 #[own_r a1, own_i 1, own_r a2, own_i 1, own_i 0, own_i 58, own_i 0, own_i 0, own_i 1, .unset, .unset] [.int ((1 : Int32) + (1 : Int32))] (fun t k => XS.istore X0.here hx rfl (hb hby d54_63) rfl (l' := #[own_r a1, own_i 1, own_r a2, own_i 1, own_i 0, own_i 58, own_i 0, own_i 0, own_i 1, .unset, .unset]) rfl (XS.iload X0.here hx rfl (hb hby d54_65) rfl (XS.iloadN X0.here hx rfl (hb hby d54_67) rfl (XS.iadd X0.here hx rfl (hb hby d54_68) rfl k)))) ?_
      rw [show ((1 : Int32) + (1 : Int32)) = (2 : Int32) from by decide]
      refine own_s s₁ m 71 #[own_r a1, own_i 1, own_r a2, own_i 1, own_i 0, own_i 58, own_i 0, own_i 0, own_i 1, .unset, .unset] [.int ((2 : Int32) - (1 : Int32))] (fun t k => XS.iconst X0.here hx rfl (hb hby d54_69) (XS.isub X0.here hx rfl (hb hby d54_70) rfl k)) ?_
      rw [show ((2 : Int32) - (1 : Int32)) = (1 : Int32) from by decide]
      refine own_s s₁ m 78 #[own_r a1, own_i 1, own_r a2, own_i 1, own_i 0, own_i 58, own_i 0, own_i 0, own_i 1, own_i 1, own_i 1] [.int 1] (fun t k => XS.istore X0.here hx rfl (hb hby d54_71) rfl (l' := #[own_r a1, own_i 1, own_r a2, own_i 1, own_i 0, own_i 58, own_i 0, own_i 0, own_i 1, own_i 1, .unset]) rfl (XS.iconst X0.here hx rfl (hb hby d54_73) (XS.istore X0.here hx rfl (hb hby d54_74) rfl (l' := #[own_r a1, own_i 1, own_r a2, own_i 1, own_i 0, own_i 58, own_i 0, own_i 0, own_i 1, own_i 1, own_i 1]) rfl (XS.iload X0.here hx rfl (hb hby d54_76) rfl k)))) ?_
      refine own_s s₁ m 107 #[own_r a1, own_i 1, own_r a2, own_i 1, own_i 0, own_i 58, own_i 0, own_i 0, own_i 1, own_i 1, own_i 1] [.int 1, .int 1] (fun t k => XS.iload X0.here hx rfl (hb hby d54_78) rfl (XS.icmpYes X0.here hx rfl (pc0 := 80) (pc' := 103) rfl (hb hby d54_80) rfl (XT.ii_ge_t (by decide)) (by decide) (by decide) (XS.iload X0.here hx rfl (hb hby d54_103) rfl (XS.iload X0.here hx rfl (hb hby d54_105) rfl k)))) ?_
      refine own_s s₁ m 112 #[own_r a1, own_i 1, own_r a2, own_i 1, own_i 0, own_i 58, own_i 0, own_i 0, own_i 1, own_i 1, own_i 1] [.int 0] (fun t k => XS.icmpNo X0.here hx rfl (hb hby d54_107) rfl (XT.ii_ne_f (by decide)) (XS.iload X0.here hx rfl (hb hby d54_110) rfl k)) ?_
      exact own_retI X0 hx hlk hrt (hb hby d54_112) ⟨(by rw [own_fi, if_pos hc27_101]), N0, e0⟩ (by decide) (by decide)
    · refine own_s s₁ m 37 #[own_r a1, own_i 1, own_r a2, own_i 1, own_i 0, own_i 58, own_i 0, own_i 1, .unset, .unset, .unset] [.int 0, .int 1] (fun t k => XS.icmpNo X0.here hx rfl (hb hby d54_27) rfl (XT.ii_eq_f hc27_101) (XS.iinc X0.here hx rfl (hb hby d54_30) rfl (l' := #[own_r a1, own_i 1, own_r a2, own_i 1, own_i 0, own_i 58, own_i 0, own_i 1, .unset, .unset, .unset]) rfl (XS.iload X0.here hx rfl (hb hby d54_33) rfl (XS.iload X0.here hx rfl (hb hby d54_35) rfl k)))) ?_
      refine own_s s₁ m 113 #[own_r a1, own_i 1, own_r a2, own_i 1, own_i 0, own_i 58, own_i 0, own_i 1, .unset, .unset, .unset] [] (fun t k => XS.icmpYes X0.here hx rfl (pc0 := 37) (pc' := 52) rfl (hb hby d54_37) rfl (XT.ii_gt_t (by decide)) (by decide) (by decide) (XS.iload X0.here hx rfl (hb hby d54_52) rfl (XS.iload X0.here hx rfl (hb hby d54_54) rfl (XS.icmpYes X0.here hx rfl (pc0 := 56) (pc' := 113) rfl (hb hby d54_56) rfl (XT.ii_gt_t (by decide)) (by decide) (by decide) k)))) ?_
      refine own_s s₁ m 18 #[own_r a1, own_i 1, own_r a2, own_i 1, own_i 0, own_i 58, own_i 0, own_i 2, .unset, .unset, .unset] [.int 0, .int 2] (fun t k => XS.iinc X0.here hx rfl (hb hby d54_113) rfl (l' := #[own_r a1, own_i 1, own_r a2, own_i 1, own_i 0, own_i 58, own_i 0, own_i 2, .unset, .unset, .unset]) rfl (XS.goto X0.here hx rfl (pc0 := 116) (pc' := 14) rfl (hb hby d54_116) (by decide) (by decide) (XS.iload X0.here hx rfl (hb hby d54_14) rfl (XS.iload X0.here hx rfl (hb hby d54_16) rfl k)))) ?_
      refine own_s s₁ m 120 #[own_r a1, own_i 1, own_r a2, own_i 1, own_i 0, own_i 58, own_i 0, own_i 2, .unset, .unset, .unset] [.int (-1 : Int32)] (fun t k => XS.icmpYes X0.here hx rfl (pc0 := 18) (pc' := 119) rfl (hb hby d54_18) rfl (XT.ii_gt_t (by decide)) (by decide) (by decide) (XS.iconst X0.here hx rfl (hb hby d54_119) k)) ?_
      exact own_retI X0 hx hlk hrt (hb hby d54_120) ⟨(by rw [own_fi, if_neg hc27_101]), N0, e0⟩ (by decide) (by decide)
  · subst hp1 hp2 hp3
    have A1 : own_Ar Z h0 a1 .byte [(.int x0), (.int x1)] := A_a1
    refine own_s s₁ m 5 #[own_r a1, own_i 2, own_r a2, own_i 1, own_i 0, own_i 58, .unset, .unset, .unset, .unset, .unset] [] (fun t k => XS.aloadN X0.here hx rfl (hb hby d54_0) rfl (rfl) (XS.iconst X0.here hx rfl (hb hby d54_1) (own_ldB X0 hx hZ e0 A_a2 (j := (0 : Int32)) (v := (.int 58)) (by decide) rfl (g := (mkF m 2 #[own_r a1, own_i 2, own_r a2, own_i 1, own_i 0, .unset, .unset, .unset, .unset, .unset, .unset] [.int 0, .ref a2])) rfl rfl (hb hby d54_2) _ (XS.istore X0.here hx rfl (hb hby d54_3) rfl (l' := #[own_r a1, own_i 2, own_r a2, own_i 1, own_i 0, own_i 58, .unset, .unset, .unset, .unset, .unset]) rfl k)))) ?_
    refine own_s s₁ m 8 #[own_r a1, own_i 2, own_r a2, own_i 1, own_i 0, own_i 58, .unset, .unset, .unset, .unset, .unset] [.int ((2 : Int32) - (1 : Int32))] (fun t k => XS.iloadN X0.here hx rfl (hb hby d54_5) rfl (XS.iloadN X0.here hx rfl (hb hby d54_6) rfl (XS.isub X0.here hx rfl (hb hby d54_7) rfl k))) ?_
    rw [show ((2 : Int32) - (1 : Int32)) = (1 : Int32) from by decide]
    refine own_s s₁ m 16 #[own_r a1, own_i 2, own_r a2, own_i 1, own_i 0, own_i 58, own_i 1, own_i 0, .unset, .unset, .unset] [.int 0] (fun t k => XS.istore X0.here hx rfl (hb hby d54_8) rfl (l' := #[own_r a1, own_i 2, own_r a2, own_i 1, own_i 0, own_i 58, own_i 1, .unset, .unset, .unset, .unset]) rfl (XS.iload X0.here hx rfl (hb hby d54_10) rfl (XS.istore X0.here hx rfl (hb hby d54_12) rfl (l' := #[own_r a1, own_i 2, own_r a2, own_i 1, own_i 0, own_i 58, own_i 1, own_i 0, .unset, .unset, .unset]) rfl (XS.iload X0.here hx rfl (hb hby d54_14) rfl k)))) ?_
    refine own_s s₁ m 24 #[own_r a1, own_i 2, own_r a2, own_i 1, own_i 0, own_i 58, own_i 1, own_i 0, .unset, .unset, .unset] [.int 0, .ref a1] (fun t k => XS.iload X0.here hx rfl (hb hby d54_16) rfl (XS.icmpNo X0.here hx rfl (hb hby d54_18) rfl (XT.ii_gt_f (by decide)) (XS.aloadN X0.here hx rfl (hb hby d54_21) rfl (rfl) (XS.iload X0.here hx rfl (hb hby d54_22) rfl k)))) ?_
    refine own_s s₁ m 27 #[own_r a1, own_i 2, own_r a2, own_i 1, own_i 0, own_i 58, own_i 1, own_i 0, .unset, .unset, .unset] [.int 58, .int x0] (fun t k => own_ldB X0 hx hZ e0 A1 (j := (0 : Int32)) (v := (.int x0)) (by decide) rfl (g := (mkF m 24 #[own_r a1, own_i 2, own_r a2, own_i 1, own_i 0, own_i 58, own_i 1, own_i 0, .unset, .unset, .unset] [.int 0, .ref a1])) rfl rfl (hb hby d54_24) _ (XS.iload X0.here hx rfl (hb hby d54_25) rfl k)) ?_
    by_cases hc27_102 : x0 = (58 : Int32)
    · refine own_s s₁ m 59 #[own_r a1, own_i 2, own_r a2, own_i 1, own_i 0, own_i 58, own_i 1, own_i 0, .unset, .unset, .unset] [] (fun t k => XS.icmpYes X0.here hx rfl (pc0 := 27) (pc' := 52) rfl (hb hby d54_27) rfl (XT.ii_eq_t hc27_102) (by decide) (by decide) (XS.iload X0.here hx rfl (hb hby d54_52) rfl (XS.iload X0.here hx rfl (hb hby d54_54) rfl (XS.icmpNo X0.here hx rfl (hb hby d54_56) rfl (XT.ii_gt_f (by decide)) k)))) ?_
      refine own_s s₁ m 63 #[own_r a1, own_i 2, own_r a2, own_i 1, own_i 0, own_i 58, own_i 1, own_i 0, .unset, .unset, .unset] [.int ((0 : Int32) + (1 : Int32))] (fun t k => XS.iload X0.here hx rfl (hb hby d54_59) rfl (XS.iconst X0.here hx rfl (hb hby d54_61) (XS.iadd X0.here hx rfl (hb hby d54_62) rfl k))) ?_
      rw [show ((0 : Int32) + (1 : Int32)) = (1 : Int32) from by decide]
      refine own_s s₁ m 69 #[own_r a1, own_i 2, own_r a2, own_i 1, own_i 0, own_i 58, own_i 1, own_i 0, own_i 1, .unset, .unset] [.int ((1 : Int32) + (1 : Int32))] (fun t k => XS.istore X0.here hx rfl (hb hby d54_63) rfl (l' := #[own_r a1, own_i 2, own_r a2, own_i 1, own_i 0, own_i 58, own_i 1, own_i 0, own_i 1, .unset, .unset]) rfl (XS.iload X0.here hx rfl (hb hby d54_65) rfl (XS.iloadN X0.here hx rfl (hb hby d54_67) rfl (XS.iadd X0.here hx rfl (hb hby d54_68) rfl k)))) ?_
      rw [show ((1 : Int32) + (1 : Int32)) = (2 : Int32) from by decide]
      refine own_s s₁ m 71 #[own_r a1, own_i 2, own_r a2, own_i 1, own_i 0, own_i 58, own_i 1, own_i 0, own_i 1, .unset, .unset] [.int ((2 : Int32) - (1 : Int32))] (fun t k => XS.iconst X0.here hx rfl (hb hby d54_69) (XS.isub X0.here hx rfl (hb hby d54_70) rfl k)) ?_
      rw [show ((2 : Int32) - (1 : Int32)) = (1 : Int32) from by decide]
      refine own_s s₁ m 78 #[own_r a1, own_i 2, own_r a2, own_i 1, own_i 0, own_i 58, own_i 1, own_i 0, own_i 1, own_i 1, own_i 1] [.int 1] (fun t k => XS.istore X0.here hx rfl (hb hby d54_71) rfl (l' := #[own_r a1, own_i 2, own_r a2, own_i 1, own_i 0, own_i 58, own_i 1, own_i 0, own_i 1, own_i 1, .unset]) rfl (XS.iconst X0.here hx rfl (hb hby d54_73) (XS.istore X0.here hx rfl (hb hby d54_74) rfl (l' := #[own_r a1, own_i 2, own_r a2, own_i 1, own_i 0, own_i 58, own_i 1, own_i 0, own_i 1, own_i 1, own_i 1]) rfl (XS.iload X0.here hx rfl (hb hby d54_76) rfl k)))) ?_
      refine own_s s₁ m 107 #[own_r a1, own_i 2, own_r a2, own_i 1, own_i 0, own_i 58, own_i 1, own_i 0, own_i 1, own_i 1, own_i 1] [.int 1, .int 1] (fun t k => XS.iload X0.here hx rfl (hb hby d54_78) rfl (XS.icmpYes X0.here hx rfl (pc0 := 80) (pc' := 103) rfl (hb hby d54_80) rfl (XT.ii_ge_t (by decide)) (by decide) (by decide) (XS.iload X0.here hx rfl (hb hby d54_103) rfl (XS.iload X0.here hx rfl (hb hby d54_105) rfl k)))) ?_
      refine own_s s₁ m 112 #[own_r a1, own_i 2, own_r a2, own_i 1, own_i 0, own_i 58, own_i 1, own_i 0, own_i 1, own_i 1, own_i 1] [.int 0] (fun t k => XS.icmpNo X0.here hx rfl (hb hby d54_107) rfl (XT.ii_ne_f (by decide)) (XS.iload X0.here hx rfl (hb hby d54_110) rfl k)) ?_
      exact own_retI X0 hx hlk hrt (hb hby d54_112) ⟨(by rw [own_fi, if_pos hc27_102]), N0, e0⟩ (by decide) (by decide)
    · refine own_s s₁ m 37 #[own_r a1, own_i 2, own_r a2, own_i 1, own_i 0, own_i 58, own_i 1, own_i 1, .unset, .unset, .unset] [.int 1, .int 1] (fun t k => XS.icmpNo X0.here hx rfl (hb hby d54_27) rfl (XT.ii_eq_f hc27_102) (XS.iinc X0.here hx rfl (hb hby d54_30) rfl (l' := #[own_r a1, own_i 2, own_r a2, own_i 1, own_i 0, own_i 58, own_i 1, own_i 1, .unset, .unset, .unset]) rfl (XS.iload X0.here hx rfl (hb hby d54_33) rfl (XS.iload X0.here hx rfl (hb hby d54_35) rfl k)))) ?_
      refine own_s s₁ m 44 #[own_r a1, own_i 2, own_r a2, own_i 1, own_i 0, own_i 58, own_i 1, own_i 1, .unset, .unset, .unset] [.int x1] (fun t k => XS.icmpNo X0.here hx rfl (hb hby d54_37) rfl (XT.ii_gt_f (by decide)) (XS.aloadN X0.here hx rfl (hb hby d54_40) rfl (rfl) (XS.iload X0.here hx rfl (hb hby d54_41) rfl (own_ldB X0 hx hZ e0 A1 (j := (1 : Int32)) (v := (.int x1)) (by decide) rfl (g := (mkF m 43 #[own_r a1, own_i 2, own_r a2, own_i 1, own_i 0, own_i 58, own_i 1, own_i 1, .unset, .unset, .unset] [.int 1, .ref a1])) rfl rfl (hb hby d54_43) _ k)))) ?_
      refine own_s s₁ m 46 #[own_r a1, own_i 2, own_r a2, own_i 1, own_i 0, own_i 58, own_i 1, own_i 1, .unset, .unset, .unset] [.int 58, .int x1] (fun t k => XS.iload X0.here hx rfl (hb hby d54_44) rfl k) ?_
      by_cases hc46_103 : x1 = (58 : Int32)
      · refine own_s s₁ m 59 #[own_r a1, own_i 2, own_r a2, own_i 1, own_i 0, own_i 58, own_i 1, own_i 1, .unset, .unset, .unset] [] (fun t k => XS.icmpYes X0.here hx rfl (pc0 := 46) (pc' := 52) rfl (hb hby d54_46) rfl (XT.ii_eq_t hc46_103) (by decide) (by decide) (XS.iload X0.here hx rfl (hb hby d54_52) rfl (XS.iload X0.here hx rfl (hb hby d54_54) rfl (XS.icmpNo X0.here hx rfl (hb hby d54_56) rfl (XT.ii_gt_f (by decide)) k)))) ?_
        refine own_s s₁ m 63 #[own_r a1, own_i 2, own_r a2, own_i 1, own_i 0, own_i 58, own_i 1, own_i 1, .unset, .unset, .unset] [.int ((1 : Int32) + (1 : Int32))] (fun t k => XS.iload X0.here hx rfl (hb hby d54_59) rfl (XS.iconst X0.here hx rfl (hb hby d54_61) (XS.iadd X0.here hx rfl (hb hby d54_62) rfl k))) ?_
        rw [show ((1 : Int32) + (1 : Int32)) = (2 : Int32) from by decide]
        refine own_s s₁ m 69 #[own_r a1, own_i 2, own_r a2, own_i 1, own_i 0, own_i 58, own_i 1, own_i 1, own_i 2, .unset, .unset] [.int ((2 : Int32) + (1 : Int32))] (fun t k => XS.istore X0.here hx rfl (hb hby d54_63) rfl (l' := #[own_r a1, own_i 2, own_r a2, own_i 1, own_i 0, own_i 58, own_i 1, own_i 1, own_i 2, .unset, .unset]) rfl (XS.iload X0.here hx rfl (hb hby d54_65) rfl (XS.iloadN X0.here hx rfl (hb hby d54_67) rfl (XS.iadd X0.here hx rfl (hb hby d54_68) rfl k)))) ?_
        rw [show ((2 : Int32) + (1 : Int32)) = (3 : Int32) from by decide]
        refine own_s s₁ m 71 #[own_r a1, own_i 2, own_r a2, own_i 1, own_i 0, own_i 58, own_i 1, own_i 1, own_i 2, .unset, .unset] [.int ((3 : Int32) - (1 : Int32))] (fun t k => XS.iconst X0.here hx rfl (hb hby d54_69) (XS.isub X0.here hx rfl (hb hby d54_70) rfl k)) ?_
        rw [show ((3 : Int32) - (1 : Int32)) = (2 : Int32) from by decide]
        refine own_s s₁ m 78 #[own_r a1, own_i 2, own_r a2, own_i 1, own_i 0, own_i 58, own_i 1, own_i 1, own_i 2, own_i 2, own_i 1] [.int 2] (fun t k => XS.istore X0.here hx rfl (hb hby d54_71) rfl (l' := #[own_r a1, own_i 2, own_r a2, own_i 1, own_i 0, own_i 58, own_i 1, own_i 1, own_i 2, own_i 2, .unset]) rfl (XS.iconst X0.here hx rfl (hb hby d54_73) (XS.istore X0.here hx rfl (hb hby d54_74) rfl (l' := #[own_r a1, own_i 2, own_r a2, own_i 1, own_i 0, own_i 58, own_i 1, own_i 1, own_i 2, own_i 2, own_i 1]) rfl (XS.iload X0.here hx rfl (hb hby d54_76) rfl k)))) ?_
        refine own_s s₁ m 107 #[own_r a1, own_i 2, own_r a2, own_i 1, own_i 0, own_i 58, own_i 1, own_i 1, own_i 2, own_i 2, own_i 1] [.int 2, .int 2] (fun t k => XS.iload X0.here hx rfl (hb hby d54_78) rfl (XS.icmpYes X0.here hx rfl (pc0 := 80) (pc' := 103) rfl (hb hby d54_80) rfl (XT.ii_ge_t (by decide)) (by decide) (by decide) (XS.iload X0.here hx rfl (hb hby d54_103) rfl (XS.iload X0.here hx rfl (hb hby d54_105) rfl k)))) ?_
        refine own_s s₁ m 112 #[own_r a1, own_i 2, own_r a2, own_i 1, own_i 0, own_i 58, own_i 1, own_i 1, own_i 2, own_i 2, own_i 1] [.int 1] (fun t k => XS.icmpNo X0.here hx rfl (hb hby d54_107) rfl (XT.ii_ne_f (by decide)) (XS.iload X0.here hx rfl (hb hby d54_110) rfl k)) ?_
        exact own_retI X0 hx hlk hrt (hb hby d54_112) ⟨(by rw [own_fi, if_neg hc27_102, if_pos hc46_103]), N0, e0⟩ (by decide) (by decide)
      · refine own_s s₁ m 35 #[own_r a1, own_i 2, own_r a2, own_i 1, own_i 0, own_i 58, own_i 1, own_i 2, .unset, .unset, .unset] [.int 2] (fun t k => XS.icmpNo X0.here hx rfl (hb hby d54_46) rfl (XT.ii_eq_f hc46_103) (XS.goto X0.here hx rfl (pc0 := 49) (pc' := 30) rfl (hb hby d54_49) (by decide) (by decide) (XS.iinc X0.here hx rfl (hb hby d54_30) rfl (l' := #[own_r a1, own_i 2, own_r a2, own_i 1, own_i 0, own_i 58, own_i 1, own_i 2, .unset, .unset, .unset]) rfl (XS.iload X0.here hx rfl (hb hby d54_33) rfl k)))) ?_
        refine own_s s₁ m 56 #[own_r a1, own_i 2, own_r a2, own_i 1, own_i 0, own_i 58, own_i 1, own_i 2, .unset, .unset, .unset] [.int 1, .int 2] (fun t k => XS.iload X0.here hx rfl (hb hby d54_35) rfl (XS.icmpYes X0.here hx rfl (pc0 := 37) (pc' := 52) rfl (hb hby d54_37) rfl (XT.ii_gt_t (by decide)) (by decide) (by decide) (XS.iload X0.here hx rfl (hb hby d54_52) rfl (XS.iload X0.here hx rfl (hb hby d54_54) rfl k)))) ?_
        refine own_s s₁ m 16 #[own_r a1, own_i 2, own_r a2, own_i 1, own_i 0, own_i 58, own_i 1, own_i 3, .unset, .unset, .unset] [.int 3] (fun t k => XS.icmpYes X0.here hx rfl (pc0 := 56) (pc' := 113) rfl (hb hby d54_56) rfl (XT.ii_gt_t (by decide)) (by decide) (by decide) (XS.iinc X0.here hx rfl (hb hby d54_113) rfl (l' := #[own_r a1, own_i 2, own_r a2, own_i 1, own_i 0, own_i 58, own_i 1, own_i 3, .unset, .unset, .unset]) rfl (XS.goto X0.here hx rfl (pc0 := 116) (pc' := 14) rfl (hb hby d54_116) (by decide) (by decide) (XS.iload X0.here hx rfl (hb hby d54_14) rfl k)))) ?_
        refine own_s s₁ m 120 #[own_r a1, own_i 2, own_r a2, own_i 1, own_i 0, own_i 58, own_i 1, own_i 3, .unset, .unset, .unset] [.int (-1 : Int32)] (fun t k => XS.iload X0.here hx rfl (hb hby d54_16) rfl (XS.icmpYes X0.here hx rfl (pc0 := 18) (pc' := 119) rfl (hb hby d54_18) rfl (XT.ii_gt_t (by decide)) (by decide) (by decide) (XS.iconst X0.here hx rfl (hb hby d54_119) k))) ?_
        exact own_retI X0 hx hlk hrt (hb hby d54_120) ⟨(by rw [own_fi, if_neg hc27_102, if_neg hc46_103]), N0, e0⟩ (by decide) (by decide)
  · subst hp1 hp2 hp3
    have A1 : own_Ar Z h0 a1 .byte [(.int x0), (.int x1), (.int x2)] := A_a1
    refine own_s s₁ m 5 #[own_r a1, own_i 3, own_r a2, own_i 1, own_i 0, own_i 58, .unset, .unset, .unset, .unset, .unset] [] (fun t k => XS.aloadN X0.here hx rfl (hb hby d54_0) rfl (rfl) (XS.iconst X0.here hx rfl (hb hby d54_1) (own_ldB X0 hx hZ e0 A_a2 (j := (0 : Int32)) (v := (.int 58)) (by decide) rfl (g := (mkF m 2 #[own_r a1, own_i 3, own_r a2, own_i 1, own_i 0, .unset, .unset, .unset, .unset, .unset, .unset] [.int 0, .ref a2])) rfl rfl (hb hby d54_2) _ (XS.istore X0.here hx rfl (hb hby d54_3) rfl (l' := #[own_r a1, own_i 3, own_r a2, own_i 1, own_i 0, own_i 58, .unset, .unset, .unset, .unset, .unset]) rfl k)))) ?_
    refine own_s s₁ m 8 #[own_r a1, own_i 3, own_r a2, own_i 1, own_i 0, own_i 58, .unset, .unset, .unset, .unset, .unset] [.int ((3 : Int32) - (1 : Int32))] (fun t k => XS.iloadN X0.here hx rfl (hb hby d54_5) rfl (XS.iloadN X0.here hx rfl (hb hby d54_6) rfl (XS.isub X0.here hx rfl (hb hby d54_7) rfl k))) ?_
    rw [show ((3 : Int32) - (1 : Int32)) = (2 : Int32) from by decide]
    refine own_s s₁ m 16 #[own_r a1, own_i 3, own_r a2, own_i 1, own_i 0, own_i 58, own_i 2, own_i 0, .unset, .unset, .unset] [.int 0] (fun t k => XS.istore X0.here hx rfl (hb hby d54_8) rfl (l' := #[own_r a1, own_i 3, own_r a2, own_i 1, own_i 0, own_i 58, own_i 2, .unset, .unset, .unset, .unset]) rfl (XS.iload X0.here hx rfl (hb hby d54_10) rfl (XS.istore X0.here hx rfl (hb hby d54_12) rfl (l' := #[own_r a1, own_i 3, own_r a2, own_i 1, own_i 0, own_i 58, own_i 2, own_i 0, .unset, .unset, .unset]) rfl (XS.iload X0.here hx rfl (hb hby d54_14) rfl k)))) ?_
    refine own_s s₁ m 24 #[own_r a1, own_i 3, own_r a2, own_i 1, own_i 0, own_i 58, own_i 2, own_i 0, .unset, .unset, .unset] [.int 0, .ref a1] (fun t k => XS.iload X0.here hx rfl (hb hby d54_16) rfl (XS.icmpNo X0.here hx rfl (hb hby d54_18) rfl (XT.ii_gt_f (by decide)) (XS.aloadN X0.here hx rfl (hb hby d54_21) rfl (rfl) (XS.iload X0.here hx rfl (hb hby d54_22) rfl k)))) ?_
    refine own_s s₁ m 27 #[own_r a1, own_i 3, own_r a2, own_i 1, own_i 0, own_i 58, own_i 2, own_i 0, .unset, .unset, .unset] [.int 58, .int x0] (fun t k => own_ldB X0 hx hZ e0 A1 (j := (0 : Int32)) (v := (.int x0)) (by decide) rfl (g := (mkF m 24 #[own_r a1, own_i 3, own_r a2, own_i 1, own_i 0, own_i 58, own_i 2, own_i 0, .unset, .unset, .unset] [.int 0, .ref a1])) rfl rfl (hb hby d54_24) _ (XS.iload X0.here hx rfl (hb hby d54_25) rfl k)) ?_
    by_cases hc27_104 : x0 = (58 : Int32)
    · refine own_s s₁ m 59 #[own_r a1, own_i 3, own_r a2, own_i 1, own_i 0, own_i 58, own_i 2, own_i 0, .unset, .unset, .unset] [] (fun t k => XS.icmpYes X0.here hx rfl (pc0 := 27) (pc' := 52) rfl (hb hby d54_27) rfl (XT.ii_eq_t hc27_104) (by decide) (by decide) (XS.iload X0.here hx rfl (hb hby d54_52) rfl (XS.iload X0.here hx rfl (hb hby d54_54) rfl (XS.icmpNo X0.here hx rfl (hb hby d54_56) rfl (XT.ii_gt_f (by decide)) k)))) ?_
      refine own_s s₁ m 63 #[own_r a1, own_i 3, own_r a2, own_i 1, own_i 0, own_i 58, own_i 2, own_i 0, .unset, .unset, .unset] [.int ((0 : Int32) + (1 : Int32))] (fun t k => XS.iload X0.here hx rfl (hb hby d54_59) rfl (XS.iconst X0.here hx rfl (hb hby d54_61) (XS.iadd X0.here hx rfl (hb hby d54_62) rfl k))) ?_
      rw [show ((0 : Int32) + (1 : Int32)) = (1 : Int32) from by decide]
      refine own_s s₁ m 69 #[own_r a1, own_i 3, own_r a2, own_i 1, own_i 0, own_i 58, own_i 2, own_i 0, own_i 1, .unset, .unset] [.int ((1 : Int32) + (1 : Int32))] (fun t k => XS.istore X0.here hx rfl (hb hby d54_63) rfl (l' := #[own_r a1, own_i 3, own_r a2, own_i 1, own_i 0, own_i 58, own_i 2, own_i 0, own_i 1, .unset, .unset]) rfl (XS.iload X0.here hx rfl (hb hby d54_65) rfl (XS.iloadN X0.here hx rfl (hb hby d54_67) rfl (XS.iadd X0.here hx rfl (hb hby d54_68) rfl k)))) ?_
      rw [show ((1 : Int32) + (1 : Int32)) = (2 : Int32) from by decide]
      refine own_s s₁ m 71 #[own_r a1, own_i 3, own_r a2, own_i 1, own_i 0, own_i 58, own_i 2, own_i 0, own_i 1, .unset, .unset] [.int ((2 : Int32) - (1 : Int32))] (fun t k => XS.iconst X0.here hx rfl (hb hby d54_69) (XS.isub X0.here hx rfl (hb hby d54_70) rfl k)) ?_
      rw [show ((2 : Int32) - (1 : Int32)) = (1 : Int32) from by decide]
      refine own_s s₁ m 78 #[own_r a1, own_i 3, own_r a2, own_i 1, own_i 0, own_i 58, own_i 2, own_i 0, own_i 1, own_i 1, own_i 1] [.int 1] (fun t k => XS.istore X0.here hx rfl (hb hby d54_71) rfl (l' := #[own_r a1, own_i 3, own_r a2, own_i 1, own_i 0, own_i 58, own_i 2, own_i 0, own_i 1, own_i 1, .unset]) rfl (XS.iconst X0.here hx rfl (hb hby d54_73) (XS.istore X0.here hx rfl (hb hby d54_74) rfl (l' := #[own_r a1, own_i 3, own_r a2, own_i 1, own_i 0, own_i 58, own_i 2, own_i 0, own_i 1, own_i 1, own_i 1]) rfl (XS.iload X0.here hx rfl (hb hby d54_76) rfl k)))) ?_
      refine own_s s₁ m 107 #[own_r a1, own_i 3, own_r a2, own_i 1, own_i 0, own_i 58, own_i 2, own_i 0, own_i 1, own_i 1, own_i 1] [.int 1, .int 1] (fun t k => XS.iload X0.here hx rfl (hb hby d54_78) rfl (XS.icmpYes X0.here hx rfl (pc0 := 80) (pc' := 103) rfl (hb hby d54_80) rfl (XT.ii_ge_t (by decide)) (by decide) (by decide) (XS.iload X0.here hx rfl (hb hby d54_103) rfl (XS.iload X0.here hx rfl (hb hby d54_105) rfl k)))) ?_
      refine own_s s₁ m 112 #[own_r a1, own_i 3, own_r a2, own_i 1, own_i 0, own_i 58, own_i 2, own_i 0, own_i 1, own_i 1, own_i 1] [.int 0] (fun t k => XS.icmpNo X0.here hx rfl (hb hby d54_107) rfl (XT.ii_ne_f (by decide)) (XS.iload X0.here hx rfl (hb hby d54_110) rfl k)) ?_
      exact own_retI X0 hx hlk hrt (hb hby d54_112) ⟨(by rw [own_fi, if_pos hc27_104]), N0, e0⟩ (by decide) (by decide)
    · refine own_s s₁ m 37 #[own_r a1, own_i 3, own_r a2, own_i 1, own_i 0, own_i 58, own_i 2, own_i 1, .unset, .unset, .unset] [.int 2, .int 1] (fun t k => XS.icmpNo X0.here hx rfl (hb hby d54_27) rfl (XT.ii_eq_f hc27_104) (XS.iinc X0.here hx rfl (hb hby d54_30) rfl (l' := #[own_r a1, own_i 3, own_r a2, own_i 1, own_i 0, own_i 58, own_i 2, own_i 1, .unset, .unset, .unset]) rfl (XS.iload X0.here hx rfl (hb hby d54_33) rfl (XS.iload X0.here hx rfl (hb hby d54_35) rfl k)))) ?_
      refine own_s s₁ m 44 #[own_r a1, own_i 3, own_r a2, own_i 1, own_i 0, own_i 58, own_i 2, own_i 1, .unset, .unset, .unset] [.int x1] (fun t k => XS.icmpNo X0.here hx rfl (hb hby d54_37) rfl (XT.ii_gt_f (by decide)) (XS.aloadN X0.here hx rfl (hb hby d54_40) rfl (rfl) (XS.iload X0.here hx rfl (hb hby d54_41) rfl (own_ldB X0 hx hZ e0 A1 (j := (1 : Int32)) (v := (.int x1)) (by decide) rfl (g := (mkF m 43 #[own_r a1, own_i 3, own_r a2, own_i 1, own_i 0, own_i 58, own_i 2, own_i 1, .unset, .unset, .unset] [.int 1, .ref a1])) rfl rfl (hb hby d54_43) _ k)))) ?_
      refine own_s s₁ m 46 #[own_r a1, own_i 3, own_r a2, own_i 1, own_i 0, own_i 58, own_i 2, own_i 1, .unset, .unset, .unset] [.int 58, .int x1] (fun t k => XS.iload X0.here hx rfl (hb hby d54_44) rfl k) ?_
      by_cases hc46_105 : x1 = (58 : Int32)
      · refine own_s s₁ m 59 #[own_r a1, own_i 3, own_r a2, own_i 1, own_i 0, own_i 58, own_i 2, own_i 1, .unset, .unset, .unset] [] (fun t k => XS.icmpYes X0.here hx rfl (pc0 := 46) (pc' := 52) rfl (hb hby d54_46) rfl (XT.ii_eq_t hc46_105) (by decide) (by decide) (XS.iload X0.here hx rfl (hb hby d54_52) rfl (XS.iload X0.here hx rfl (hb hby d54_54) rfl (XS.icmpNo X0.here hx rfl (hb hby d54_56) rfl (XT.ii_gt_f (by decide)) k)))) ?_
        refine own_s s₁ m 63 #[own_r a1, own_i 3, own_r a2, own_i 1, own_i 0, own_i 58, own_i 2, own_i 1, .unset, .unset, .unset] [.int ((1 : Int32) + (1 : Int32))] (fun t k => XS.iload X0.here hx rfl (hb hby d54_59) rfl (XS.iconst X0.here hx rfl (hb hby d54_61) (XS.iadd X0.here hx rfl (hb hby d54_62) rfl k))) ?_
        rw [show ((1 : Int32) + (1 : Int32)) = (2 : Int32) from by decide]
        refine own_s s₁ m 69 #[own_r a1, own_i 3, own_r a2, own_i 1, own_i 0, own_i 58, own_i 2, own_i 1, own_i 2, .unset, .unset] [.int ((2 : Int32) + (1 : Int32))] (fun t k => XS.istore X0.here hx rfl (hb hby d54_63) rfl (l' := #[own_r a1, own_i 3, own_r a2, own_i 1, own_i 0, own_i 58, own_i 2, own_i 1, own_i 2, .unset, .unset]) rfl (XS.iload X0.here hx rfl (hb hby d54_65) rfl (XS.iloadN X0.here hx rfl (hb hby d54_67) rfl (XS.iadd X0.here hx rfl (hb hby d54_68) rfl k)))) ?_
        rw [show ((2 : Int32) + (1 : Int32)) = (3 : Int32) from by decide]
        refine own_s s₁ m 71 #[own_r a1, own_i 3, own_r a2, own_i 1, own_i 0, own_i 58, own_i 2, own_i 1, own_i 2, .unset, .unset] [.int ((3 : Int32) - (1 : Int32))] (fun t k => XS.iconst X0.here hx rfl (hb hby d54_69) (XS.isub X0.here hx rfl (hb hby d54_70) rfl k)) ?_
        rw [show ((3 : Int32) - (1 : Int32)) = (2 : Int32) from by decide]
        refine own_s s₁ m 78 #[own_r a1, own_i 3, own_r a2, own_i 1, own_i 0, own_i 58, own_i 2, own_i 1, own_i 2, own_i 2, own_i 1] [.int 2] (fun t k => XS.istore X0.here hx rfl (hb hby d54_71) rfl (l' := #[own_r a1, own_i 3, own_r a2, own_i 1, own_i 0, own_i 58, own_i 2, own_i 1, own_i 2, own_i 2, .unset]) rfl (XS.iconst X0.here hx rfl (hb hby d54_73) (XS.istore X0.here hx rfl (hb hby d54_74) rfl (l' := #[own_r a1, own_i 3, own_r a2, own_i 1, own_i 0, own_i 58, own_i 2, own_i 1, own_i 2, own_i 2, own_i 1]) rfl (XS.iload X0.here hx rfl (hb hby d54_76) rfl k)))) ?_
        refine own_s s₁ m 107 #[own_r a1, own_i 3, own_r a2, own_i 1, own_i 0, own_i 58, own_i 2, own_i 1, own_i 2, own_i 2, own_i 1] [.int 2, .int 2] (fun t k => XS.iload X0.here hx rfl (hb hby d54_78) rfl (XS.icmpYes X0.here hx rfl (pc0 := 80) (pc' := 103) rfl (hb hby d54_80) rfl (XT.ii_ge_t (by decide)) (by decide) (by decide) (XS.iload X0.here hx rfl (hb hby d54_103) rfl (XS.iload X0.here hx rfl (hb hby d54_105) rfl k)))) ?_
        refine own_s s₁ m 112 #[own_r a1, own_i 3, own_r a2, own_i 1, own_i 0, own_i 58, own_i 2, own_i 1, own_i 2, own_i 2, own_i 1] [.int 1] (fun t k => XS.icmpNo X0.here hx rfl (hb hby d54_107) rfl (XT.ii_ne_f (by decide)) (XS.iload X0.here hx rfl (hb hby d54_110) rfl k)) ?_
        exact own_retI X0 hx hlk hrt (hb hby d54_112) ⟨(by rw [own_fi, if_neg hc27_104, if_pos hc46_105]), N0, e0⟩ (by decide) (by decide)
      · refine own_s s₁ m 35 #[own_r a1, own_i 3, own_r a2, own_i 1, own_i 0, own_i 58, own_i 2, own_i 2, .unset, .unset, .unset] [.int 2] (fun t k => XS.icmpNo X0.here hx rfl (hb hby d54_46) rfl (XT.ii_eq_f hc46_105) (XS.goto X0.here hx rfl (pc0 := 49) (pc' := 30) rfl (hb hby d54_49) (by decide) (by decide) (XS.iinc X0.here hx rfl (hb hby d54_30) rfl (l' := #[own_r a1, own_i 3, own_r a2, own_i 1, own_i 0, own_i 58, own_i 2, own_i 2, .unset, .unset, .unset]) rfl (XS.iload X0.here hx rfl (hb hby d54_33) rfl k)))) ?_
        refine own_s s₁ m 43 #[own_r a1, own_i 3, own_r a2, own_i 1, own_i 0, own_i 58, own_i 2, own_i 2, .unset, .unset, .unset] [.int 2, .ref a1] (fun t k => XS.iload X0.here hx rfl (hb hby d54_35) rfl (XS.icmpNo X0.here hx rfl (hb hby d54_37) rfl (XT.ii_gt_f (by decide)) (XS.aloadN X0.here hx rfl (hb hby d54_40) rfl (rfl) (XS.iload X0.here hx rfl (hb hby d54_41) rfl k)))) ?_
        refine own_s s₁ m 46 #[own_r a1, own_i 3, own_r a2, own_i 1, own_i 0, own_i 58, own_i 2, own_i 2, .unset, .unset, .unset] [.int 58, .int x2] (fun t k => own_ldB X0 hx hZ e0 A1 (j := (2 : Int32)) (v := (.int x2)) (by decide) rfl (g := (mkF m 43 #[own_r a1, own_i 3, own_r a2, own_i 1, own_i 0, own_i 58, own_i 2, own_i 2, .unset, .unset, .unset] [.int 2, .ref a1])) rfl rfl (hb hby d54_43) _ (XS.iload X0.here hx rfl (hb hby d54_44) rfl k)) ?_
        by_cases hc46_106 : x2 = (58 : Int32)
        · refine own_s s₁ m 59 #[own_r a1, own_i 3, own_r a2, own_i 1, own_i 0, own_i 58, own_i 2, own_i 2, .unset, .unset, .unset] [] (fun t k => XS.icmpYes X0.here hx rfl (pc0 := 46) (pc' := 52) rfl (hb hby d54_46) rfl (XT.ii_eq_t hc46_106) (by decide) (by decide) (XS.iload X0.here hx rfl (hb hby d54_52) rfl (XS.iload X0.here hx rfl (hb hby d54_54) rfl (XS.icmpNo X0.here hx rfl (hb hby d54_56) rfl (XT.ii_gt_f (by decide)) k)))) ?_
          refine own_s s₁ m 63 #[own_r a1, own_i 3, own_r a2, own_i 1, own_i 0, own_i 58, own_i 2, own_i 2, .unset, .unset, .unset] [.int ((2 : Int32) + (1 : Int32))] (fun t k => XS.iload X0.here hx rfl (hb hby d54_59) rfl (XS.iconst X0.here hx rfl (hb hby d54_61) (XS.iadd X0.here hx rfl (hb hby d54_62) rfl k))) ?_
          rw [show ((2 : Int32) + (1 : Int32)) = (3 : Int32) from by decide]
          refine own_s s₁ m 69 #[own_r a1, own_i 3, own_r a2, own_i 1, own_i 0, own_i 58, own_i 2, own_i 2, own_i 3, .unset, .unset] [.int ((3 : Int32) + (1 : Int32))] (fun t k => XS.istore X0.here hx rfl (hb hby d54_63) rfl (l' := #[own_r a1, own_i 3, own_r a2, own_i 1, own_i 0, own_i 58, own_i 2, own_i 2, own_i 3, .unset, .unset]) rfl (XS.iload X0.here hx rfl (hb hby d54_65) rfl (XS.iloadN X0.here hx rfl (hb hby d54_67) rfl (XS.iadd X0.here hx rfl (hb hby d54_68) rfl k)))) ?_
          rw [show ((3 : Int32) + (1 : Int32)) = (4 : Int32) from by decide]
          refine own_s s₁ m 71 #[own_r a1, own_i 3, own_r a2, own_i 1, own_i 0, own_i 58, own_i 2, own_i 2, own_i 3, .unset, .unset] [.int ((4 : Int32) - (1 : Int32))] (fun t k => XS.iconst X0.here hx rfl (hb hby d54_69) (XS.isub X0.here hx rfl (hb hby d54_70) rfl k)) ?_
          rw [show ((4 : Int32) - (1 : Int32)) = (3 : Int32) from by decide]
          refine own_s s₁ m 78 #[own_r a1, own_i 3, own_r a2, own_i 1, own_i 0, own_i 58, own_i 2, own_i 2, own_i 3, own_i 3, own_i 1] [.int 3] (fun t k => XS.istore X0.here hx rfl (hb hby d54_71) rfl (l' := #[own_r a1, own_i 3, own_r a2, own_i 1, own_i 0, own_i 58, own_i 2, own_i 2, own_i 3, own_i 3, .unset]) rfl (XS.iconst X0.here hx rfl (hb hby d54_73) (XS.istore X0.here hx rfl (hb hby d54_74) rfl (l' := #[own_r a1, own_i 3, own_r a2, own_i 1, own_i 0, own_i 58, own_i 2, own_i 2, own_i 3, own_i 3, own_i 1]) rfl (XS.iload X0.here hx rfl (hb hby d54_76) rfl k)))) ?_
          refine own_s s₁ m 107 #[own_r a1, own_i 3, own_r a2, own_i 1, own_i 0, own_i 58, own_i 2, own_i 2, own_i 3, own_i 3, own_i 1] [.int 3, .int 3] (fun t k => XS.iload X0.here hx rfl (hb hby d54_78) rfl (XS.icmpYes X0.here hx rfl (pc0 := 80) (pc' := 103) rfl (hb hby d54_80) rfl (XT.ii_ge_t (by decide)) (by decide) (by decide) (XS.iload X0.here hx rfl (hb hby d54_103) rfl (XS.iload X0.here hx rfl (hb hby d54_105) rfl k)))) ?_
          refine own_s s₁ m 112 #[own_r a1, own_i 3, own_r a2, own_i 1, own_i 0, own_i 58, own_i 2, own_i 2, own_i 3, own_i 3, own_i 1] [.int 2] (fun t k => XS.icmpNo X0.here hx rfl (hb hby d54_107) rfl (XT.ii_ne_f (by decide)) (XS.iload X0.here hx rfl (hb hby d54_110) rfl k)) ?_
          exact own_retI X0 hx hlk hrt (hb hby d54_112) ⟨(by rw [own_fi, if_neg hc27_104, if_neg hc46_105, if_pos hc46_106]), N0, e0⟩ (by decide) (by decide)
        · refine own_s s₁ m 35 #[own_r a1, own_i 3, own_r a2, own_i 1, own_i 0, own_i 58, own_i 2, own_i 3, .unset, .unset, .unset] [.int 3] (fun t k => XS.icmpNo X0.here hx rfl (hb hby d54_46) rfl (XT.ii_eq_f hc46_106) (XS.goto X0.here hx rfl (pc0 := 49) (pc' := 30) rfl (hb hby d54_49) (by decide) (by decide) (XS.iinc X0.here hx rfl (hb hby d54_30) rfl (l' := #[own_r a1, own_i 3, own_r a2, own_i 1, own_i 0, own_i 58, own_i 2, own_i 3, .unset, .unset, .unset]) rfl (XS.iload X0.here hx rfl (hb hby d54_33) rfl k)))) ?_
          refine own_s s₁ m 56 #[own_r a1, own_i 3, own_r a2, own_i 1, own_i 0, own_i 58, own_i 2, own_i 3, .unset, .unset, .unset] [.int 2, .int 3] (fun t k => XS.iload X0.here hx rfl (hb hby d54_35) rfl (XS.icmpYes X0.here hx rfl (pc0 := 37) (pc' := 52) rfl (hb hby d54_37) rfl (XT.ii_gt_t (by decide)) (by decide) (by decide) (XS.iload X0.here hx rfl (hb hby d54_52) rfl (XS.iload X0.here hx rfl (hb hby d54_54) rfl k)))) ?_
          refine own_s s₁ m 16 #[own_r a1, own_i 3, own_r a2, own_i 1, own_i 0, own_i 58, own_i 2, own_i 4, .unset, .unset, .unset] [.int 4] (fun t k => XS.icmpYes X0.here hx rfl (pc0 := 56) (pc' := 113) rfl (hb hby d54_56) rfl (XT.ii_gt_t (by decide)) (by decide) (by decide) (XS.iinc X0.here hx rfl (hb hby d54_113) rfl (l' := #[own_r a1, own_i 3, own_r a2, own_i 1, own_i 0, own_i 58, own_i 2, own_i 4, .unset, .unset, .unset]) rfl (XS.goto X0.here hx rfl (pc0 := 116) (pc' := 14) rfl (hb hby d54_116) (by decide) (by decide) (XS.iload X0.here hx rfl (hb hby d54_14) rfl k)))) ?_
          refine own_s s₁ m 120 #[own_r a1, own_i 3, own_r a2, own_i 1, own_i 0, own_i 58, own_i 2, own_i 4, .unset, .unset, .unset] [.int (-1 : Int32)] (fun t k => XS.iload X0.here hx rfl (hb hby d54_16) rfl (XS.icmpYes X0.here hx rfl (pc0 := 18) (pc' := 119) rfl (hb hby d54_18) rfl (XT.ii_gt_t (by decide)) (by decide) (by decide) (XS.iconst X0.here hx rfl (hb hby d54_119) k))) ?_
          exact own_retI X0 hx hlk hrt (hb hby d54_120) ⟨(by rw [own_fi, if_neg hc27_104, if_neg hc46_105, if_neg hc46_106]), N0, e0⟩ (by decide) (by decide)
  · exact absurd h3 (by simp)
theorem own_pd23 : parseMethodDescriptor "([BI[BII)I" = some ⟨[(.array .byte), .int, (.array .byte), .int, .int], some .int⟩ := by decide +kernel
abbrev own_k17 := jdk_43_method_24_code
abbrev own_n37 : MethodName := ⟨"java/lang/StringLatin1", "indexOf", "([B[B)I"⟩
theorem d17_0 : own_D own_k17 0 (.aload_n 1) 1 := by decide +kernel
theorem d17_1 : own_D own_k17 1 (.arraylength) 1 := by decide +kernel
theorem d17_2 : own_D own_k17 2 (.ifCond .ne 5) 3 := by decide +kernel
theorem d17_7 : own_D own_k17 7 (.aload_n 0) 1 := by decide +kernel
theorem d17_8 : own_D own_k17 8 (.arraylength) 1 := by decide +kernel
theorem d17_9 : own_D own_k17 9 (.ifCond .ne 5) 3 := by decide +kernel
theorem d17_12 : own_D own_k17 12 (.iconst (-1)) 1 := by decide +kernel
theorem d17_13 : own_D own_k17 13 (.ireturn) 1 := by decide +kernel
theorem d17_14 : own_D own_k17 14 (.aload_n 0) 1 := by decide +kernel
theorem d17_15 : own_D own_k17 15 (.aload_n 0) 1 := by decide +kernel
theorem d17_16 : own_D own_k17 16 (.arraylength) 1 := by decide +kernel
theorem d17_17 : own_D own_k17 17 (.aload_n 1) 1 := by decide +kernel
theorem d17_18 : own_D own_k17 18 (.aload_n 1) 1 := by decide +kernel
theorem d17_19 : own_D own_k17 19 (.arraylength) 1 := by decide +kernel
theorem d17_20 : own_D own_k17 20 (.iconst 0) 1 := by decide +kernel
theorem d17_21 : own_D own_k17 21 (.invokestatic 99) 3 := by decide +kernel
theorem d17_24 : own_D own_k17 24 (.ireturn) 1 := by decide +kernel
theorem ef_own_rm17 (m : MethodId) (a1 : Addr) (a2 : Addr) : entryFrame m #[(.ref a1), (.ref a2)] 2 = mkF m 0 #[own_r a1, own_r a2] [] := by first | (simp [entryFrame, mkF, argsToLocals, Value.category]; done) | rfl
def own_rm17_Q (Z : State) (a1 : Addr) (a2 : Addr) (HB : List Int32) (h0 : Heap) (n0 : Nat) (v : Option Value) (h : Heap) (L : List Loc) : Prop := v = some (.int (own_fi HB)) ∧ Fr n0 L ∧ h = h0
set_option maxRecDepth 65536 in
set_option maxHeartbeats 40000000 in
theorem own_rm17 (l : Launch) (Z : State) (a0 : Array Value) (hw : own_H a0 Z) (ws : List Jvm.Cond) (a1 a2 : Addr) (HB : List Int32) (h0 : Heap) (n0 : Nat) (Z0 : n0 ≤ h0.size) (A_a1 : own_Ar Z h0 a1 .byte (HB.map Value.int)) (A_a2 : own_Ar Z h0 a2 .byte [(.int 58)]) (h3 : HB.length ≤ 3) : own_M l Z ws own_n37 own_k17 2 (some .int) (own_R 1 0 0 22) #[(.ref a1), (.ref a2)] h0 (own_rm17_Q Z a1 a2 HB h0 n0) := by
  refine own_open n0 "java/lang/StringLatin1" rfl (plainFor_of_name own_pn7) (fun m => ef_own_rm17 m a1 a2) ?_
  intro p e s m below meth c s₁ hx hby hml hZ hown hnm hlk hrt X0 e0 N0
  have K0 := Keep.refl h0 []
  refine own_s s₁ m 8 #[own_r a1, own_r a2] [.ref a1] (fun t k => XS.aloadN X0.here hx rfl (hb hby d17_0) rfl (rfl) (own_len X0 hx hZ e0 A_a2 (n := (1 : Int32)) rfl (g := (mkF m 1 #[own_r a1, own_r a2] [.ref a2])) rfl rfl (hb hby d17_1) _ (XS.ifYes X0.here hx rfl (pc0 := 2) (pc' := 7) rfl (hb hby d17_2) rfl (XT.i0_ne_t (by decide)) (by decide) (by decide) (XS.aloadN X0.here hx rfl (hb hby d17_7) rfl (rfl) k)))) ?_
  refine own_s s₁ m 9 #[own_r a1, own_r a2] [.int HB.length.toInt32] (fun t k => own_len X0 hx hZ e0 A_a1 (n := HB.length.toInt32) (by rw [List.length_map]) (g := (mkF m 8 #[own_r a1, own_r a2] [.ref a1])) rfl rfl (hb hby d17_8) _ k) ?_
  by_cases hc9_101 : HB.length.toInt32 = 0
  · refine own_s s₁ m 13 #[own_r a1, own_r a2] [.int (-1 : Int32)] (fun t k => XS.ifNo X0.here hx rfl (hb hby d17_9) rfl (XT.i0_ne_f hc9_101) (XS.iconst X0.here hx rfl (hb hby d17_12) k)) ?_
    exact own_retI X0 hx hlk hrt (hb hby d17_13) ⟨(by rw [List.length_eq_zero_iff.mp (own_leneq (b := 0) (by omega) (by decide) hc9_101)]; rfl), N0, e0⟩ (by decide) (by decide)
  · refine own_s s₁ m 14 #[own_r a1, own_r a2] [] (fun t k => XS.ifYes X0.here hx rfl (pc0 := 9) (pc' := 14) rfl (hb hby d17_9) rfl (XT.i0_ne_t hc9_101) (by decide) (by decide) k) ?_
    have hne0 : HB ≠ [] := fun q => by rw [q] at hc9_101; exact hc9_101 rfl
    refine own_s s₁ m 18 #[own_r a1, own_r a2] [.ref a2, .int HB.length.toInt32, .ref a1] (fun t k => XS.aloadN X0.here hx rfl (hb hby d17_14) rfl (rfl) (XS.aloadN X0.here hx rfl (hb hby d17_15) rfl (rfl) (own_len X0 hx hZ e0 A_a1 (n := HB.length.toInt32) (by rw [List.length_map]) (g := (mkF m 16 #[own_r a1, own_r a2] [.ref a1, .ref a1])) rfl rfl (hb hby d17_16) _ (XS.aloadN X0.here hx rfl (hb hby d17_17) rfl (rfl) k)))) ?_
    refine own_s s₁ m 21 #[own_r a1, own_r a2] [.int 0, .int 1, .ref a2, .int HB.length.toInt32, .ref a1] (fun t k => XS.aloadN X0.here hx rfl (hb hby d17_18) rfl (rfl) (own_len X0 hx hZ e0 A_a2 (n := (1 : Int32)) rfl (g := (mkF m 19 #[own_r a1, own_r a2] [.ref a2, .ref a2, .int HB.length.toInt32, .ref a1])) rfl rfl (hb hby d17_19) _ (XS.iconst X0.here hx rfl (hb hby d17_20) k))) ?_
    obtain ⟨v102, _, ⟨T102, L102, k102, n102⟩, -, X102, ⟨Lc102, hQ102, l102, y102, z102⟩, st102⟩ := Jvm.LawKit.callS X0 hx (y := own_n36) hown (mvT hZ (own_w hw 280 rfl)) (mvT hZ (own_w hw 281 rfl)) (mvT hZ (own_w hw 32 rfl)) (mvT hZ (own_w hw 282 rfl)) (by decide) (backOf (W := 0) (own_rm54 l Z a0 hw [] a1 HB.length.toInt32 a2 (1 : Int32) (0 : Int32) HB h0 n0 (Nat.le_trans Z0 K0.1) A_a1 A_a2 rfl rfl rfl h3 hne0) hZ (own_w hw 282 rfl) (own_w hw 32 rfl) (by decide) (by decide)) (g := (mkF m 21 #[own_r a1, own_r a2] [.int 0, .int 1, .ref a2, .int HB.length.toInt32, .ref a1])) rfl (by rw [hml]; rfl) (argsL := [.ref a1, .int HB.length.toInt32, .ref a2, .int 1, .int 0]) (rest := []) (lenOf own_pd23 rfl) rfl (by exact own_ca rfl) (hb hby d17_21) (fun _ _ => ⟨rfl, e0, (by decide : 0 + 0 ≤ _), (by decide : 0 + 0 ≤ _)⟩)
    dsimp only [Pt.U, Pt.locs, Pt.cells, Pt.slots] at X102 l102 y102 z102 st102 hQ102
    subst l102 y102 z102
    obtain ⟨rfl, N102q, e102⟩ := hQ102
    have N102 := Fr.app N0 N102q
    refine own_s T102 m 24 #[own_r a1, own_r a2] [.int (own_fi HB)] (fun t k => st102 _ k) ?_
    exact own_retI X102 hx hlk hrt (hb hby d17_24) ⟨rfl, N102, e102⟩ (by decide) (by decide)
theorem own_pd24 : parseMethodDescriptor "([B[B)I" = some ⟨[(.array .byte), (.array .byte)], some .int⟩ := by decide +kernel
abbrev own_k14 := jdk_42_method_84_code
abbrev own_n38 : MethodName := ⟨"java/lang/String", "indexOf", "(Ljava/lang/String;)I"⟩
theorem d14_0 : own_D own_k14 0 (.aload_n 0) 1 := by decide +kernel
theorem d14_1 : own_D own_k14 1 (.invokevirtual 335) 3 := by decide +kernel
theorem d14_4 : own_D own_k14 4 (.istore_n 2) 1 := by decide +kernel
theorem d14_5 : own_D own_k14 5 (.iload_n 2) 1 := by decide +kernel
theorem d14_6 : own_D own_k14 6 (.aload_n 1) 1 := by decide +kernel
theorem d14_7 : own_D own_k14 7 (.invokevirtual 335) 3 := by decide +kernel
theorem d14_10 : own_D own_k14 10 (.if_icmp .ne 36) 3 := by decide +kernel
theorem d14_13 : own_D own_k14 13 (.aload_n 0) 1 := by decide +kernel
theorem d14_14 : own_D own_k14 14 (.invokevirtual 492) 3 := by decide +kernel
theorem d14_17 : own_D own_k14 17 (.ifCond .eq 17) 3 := by decide +kernel
theorem d14_20 : own_D own_k14 20 (.aload_n 0) 1 := by decide +kernel
theorem d14_21 : own_D own_k14 21 (.getfield 9) 3 := by decide +kernel
theorem d14_24 : own_D own_k14 24 (.aload_n 1) 1 := by decide +kernel
theorem d14_25 : own_D own_k14 25 (.getfield 9) 3 := by decide +kernel
theorem d14_28 : own_D own_k14 28 (.invokestatic 647) 3 := by decide +kernel
theorem d14_31 : own_D own_k14 31 (.goto 14) 3 := by decide +kernel
theorem d14_45 : own_D own_k14 45 (.ireturn) 1 := by decide +kernel
theorem ef_own_rm14 (m : MethodId) (a1 : Addr) (a2 : Addr) : entryFrame m #[(.ref a1), (.ref a2)] 3 = mkF m 0 #[own_r a1, own_r a2, .unset] [] := by first | (simp [entryFrame, mkF, argsToLocals, Value.category]; done) | rfl
def own_rm14_Q (Z : State) (a1 : Addr) (a2 : Addr) (cs : Int32) (b1 : Addr) (b2 : Addr) (HB : List Int32) (h0 : Heap) (n0 : Nat) (v : Option Value) (h : Heap) (L : List Loc) : Prop := v = some (.int (own_fi HB)) ∧ Fr n0 L ∧ h = h0
set_option maxRecDepth 65536 in
set_option maxHeartbeats 40000000 in
theorem own_rm14 (l : Launch) (Z : State) (a0 : Array Value) (hw : own_H a0 Z) (ws : List Jvm.Cond) (a1 a2 : Addr) (cs : Int32) (b1 b2 : Addr) (HB : List Int32) (h0 : Heap) (n0 : Nat) (Z0 : n0 ≤ h0.size) (CS : Sta Z h0 "java/lang/String" "COMPACT_STRINGS" "Z" (.int cs)) (hcs : ¬ cs = 0) (Fc1 : Fld Z h0 a1 "java/lang/String" "coder" "B" (.int 0)) (Fv1 : Fld Z h0 a1 "java/lang/String" "value" "[B" (.ref b1)) (Ab1 : own_Ar Z h0 b1 .byte (HB.map Value.int)) (Es1 : Exa Z h0 a1 "java/lang/String") (Fc2 : Fld Z h0 a2 "java/lang/String" "coder" "B" (.int 0)) (Fv2 : Fld Z h0 a2 "java/lang/String" "value" "[B" (.ref b2)) (Ab2 : own_Ar Z h0 b2 .byte [(.int 58)]) (Es2 : Exa Z h0 a2 "java/lang/String") (h3 : HB.length ≤ 3) : own_M l Z ws own_n38 own_k14 3 (some .int) (own_R 2 0 0 35) #[(.ref a1), (.ref a2)] h0 (own_rm14_Q Z a1 a2 cs b1 b2 HB h0 n0) := by
  refine own_open n0 "java/lang/String" rfl (plainFor_of_name own_pn1) (fun m => ef_own_rm14 m a1 a2) ?_
  intro p e s m below meth c s₁ hx hby hml hZ hown hnm hlk hrt X0 e0 N0
  have K0 := Keep.refl h0 []
  refine own_s s₁ m 1 #[own_r a1, own_r a2, .unset] [.ref a1] (fun t k => XS.aloadN X0.here hx rfl (hb hby d14_0) rfl (rfl) k) ?_
  obtain ⟨cq101, kq101, q101a, q101b, q101c⟩ := isOf hZ e0 Es1
  obtain ⟨v101, _, ⟨T101, L101, k101, n101⟩, -, X101, ⟨Lc101, hQ101, l101, y101, z101⟩, st101⟩ := X0.virtualBack hx (y := own_n5) (z := own_n5) hown (mvT hZ (own_w hw 90 rfl)) (mvT hZ (own_w hw 91 rfl)) (notFace_of_selects (args := #[]) (mvT hZ (own_w hw 93 rfl))) (mvT hZ (own_w hw 93 rfl)) (mvT hZ (own_w hw 92 rfl)) (by decide) (backOf (W := 0) (own_rm15 l Z a0 hw [] a1 cs h0 n0 (Nat.le_trans Z0 K0.1) CS hcs Fc1) hZ (own_w hw 94 rfl) (own_w hw 6 rfl) (by decide) (by decide)) q101a q101c (g := (mkF m 1 #[own_r a1, own_r a2, .unset] [.ref a1])) rfl (by rw [hml]; rfl) (Steps.refl _) (argsL := []) (rest := []) (lenOf own_pd4 rfl) rfl (by exact own_ca rfl) (hb hby d14_1) (fun _ _ => ⟨rfl, e0, (by decide : 0 + 0 ≤ _), (by decide : 0 + 0 ≤ _)⟩)
  dsimp only [Pt.U, Pt.locs, Pt.cells, Pt.slots] at X101 l101 y101 z101 st101 hQ101
  subst l101 y101 z101
  obtain ⟨rfl, N101q, e101⟩ := hQ101
  have N101 := Fr.app N0 N101q
  refine own_s T101 m 7 #[own_r a1, own_r a2, own_i 0] [.ref a2, .int 0] (fun t k => st101.trans (XS.istoreN X101.here hx rfl (hb hby d14_4) rfl (l' := #[own_r a1, own_r a2, own_i 0]) rfl (XS.iloadN X101.here hx rfl (hb hby d14_5) rfl (XS.aloadN X101.here hx rfl (hb hby d14_6) rfl (rfl) k)))) ?_
  obtain ⟨cq102, kq102, q102a, q102b, q102c⟩ := isOf hZ e101 Es2
  obtain ⟨v102, _, ⟨T102, L102, k102, n102⟩, -, X102, ⟨Lc102, hQ102, l102, y102, z102⟩, st102⟩ := X101.virtualBack hx (y := own_n5) (z := own_n5) hown (mvT hZ (own_w hw 90 rfl)) (mvT hZ (own_w hw 91 rfl)) (notFace_of_selects (args := #[]) (mvT hZ (own_w hw 93 rfl))) (mvT hZ (own_w hw 93 rfl)) (mvT hZ (own_w hw 92 rfl)) (by decide) (backOf (W := 1) (own_rm15 l Z a0 hw [] a2 cs h0 n0 (Nat.le_trans Z0 K0.1) CS hcs Fc2) hZ (own_w hw 94 rfl) (own_w hw 6 rfl) (by decide) (by decide)) q102a q102c (g := (mkF m 7 #[own_r a1, own_r a2, own_i 0] [.ref a2, .int 0])) rfl (by rw [hml]; rfl) (Steps.refl _) (argsL := []) (rest := [.int 0]) (lenOf own_pd4 rfl) rfl (by exact own_ca rfl) (hb hby d14_7) (fun _ _ => ⟨rfl, e101, (by decide : 0 + 0 ≤ _), (by decide : 0 + 0 ≤ _)⟩)
  dsimp only [Pt.U, Pt.locs, Pt.cells, Pt.slots] at X102 l102 y102 z102 st102 hQ102
  subst l102 y102 z102
  obtain ⟨rfl, N102q, e102⟩ := hQ102
  have N102 := Fr.app N101 N102q
  refine own_s T102 m 14 #[own_r a1, own_r a2, own_i 0] [.ref a1] (fun t k => st102.trans (XS.icmpNo X102.here hx rfl (hb hby d14_10) rfl (XT.ii_ne_f (by decide)) (XS.aloadN X102.here hx rfl (hb hby d14_13) rfl (rfl) k))) ?_
  obtain ⟨cq103, kq103, q103a, q103b, q103c⟩ := isOf hZ e102 Es1
  obtain ⟨v103, _, ⟨T103, L103, k103, n103⟩, -, X103, ⟨Lc103, hQ103, l103, y103, z103⟩, st103⟩ := X102.virtualBack hx (y := own_n6) (z := own_n6) hown (mvT hZ (own_w hw 95 rfl)) (mvT hZ (own_w hw 96 rfl)) (notFace_of_selects (args := #[]) (mvT hZ (own_w hw 98 rfl))) (mvT hZ (own_w hw 98 rfl)) (mvT hZ (own_w hw 97 rfl)) (by decide) (backOf (W := 0) (own_rm16 l Z a0 hw [] a1 cs h0 n0 (Nat.le_trans Z0 K0.1) CS hcs Fc1) hZ (own_w hw 99 rfl) (own_w hw 6 rfl) (by decide) (by decide)) q103a q103c (g := (mkF m 14 #[own_r a1, own_r a2, own_i 0] [.ref a1])) rfl (by rw [hml]; rfl) (Steps.refl _) (argsL := []) (rest := []) (lenOf own_pd18 rfl) rfl (by exact own_ca rfl) (hb hby d14_14) (fun _ _ => ⟨rfl, e102, (by decide : 0 + 0 ≤ _), (by decide : 0 + 0 ≤ _)⟩)
  dsimp only [Pt.U, Pt.locs, Pt.cells, Pt.slots] at X103 l103 y103 z103 st103 hQ103
  subst l103 y103 z103
  obtain ⟨rfl, N103q, e103⟩ := hQ103
  have N103 := Fr.app N102 N103q
  refine own_s T103 m 21 #[own_r a1, own_r a2, own_i 0] [.ref a1] (fun t k => st103.trans (XS.ifNo X103.here hx rfl (hb hby d14_17) rfl (XT.i0_eq_f (by decide)) (XS.aloadN X103.here hx rfl (hb hby d14_20) rfl (rfl) k))) ?_
  obtain ⟨T104, X104, e104, st104⟩ := getF X103 hx hZ hown (host := "") (Or.inl (own_w hw 24 rfl)) Via.refl e103 Fv1 (g := (mkF m 21 #[own_r a1, own_r a2, own_i 0] [.ref a1])) rfl rfl (hb hby d14_21)
  refine own_s T104 m 25 #[own_r a1, own_r a2, own_i 0] [.ref a2, .ref b1] (fun t k => st104 _ (XS.aloadN X104.here hx rfl (hb hby d14_24) rfl (rfl) k)) ?_
  obtain ⟨T105, X105, e105, st105⟩ := getF X104 hx hZ hown (host := "") (Or.inl (own_w hw 24 rfl)) Via.refl e104 Fv2 (g := (mkF m 25 #[own_r a1, own_r a2, own_i 0] [.ref a2, .ref b1])) rfl rfl (hb hby d14_25)
  refine own_s T105 m 28 #[own_r a1, own_r a2, own_i 0] [.ref b2, .ref b1] (fun t k => st105 _ k) ?_
  obtain ⟨v106, _, ⟨T106, L106, k106, n106⟩, -, X106, ⟨Lc106, hQ106, l106, y106, z106⟩, st106⟩ := Jvm.LawKit.callS X105 hx (y := own_n37) hown (mvT hZ (own_w hw 100 rfl)) (mvT hZ (own_w hw 101 rfl)) (mvT hZ (own_w hw 32 rfl)) (mvT hZ (own_w hw 102 rfl)) (by decide) (backOf (W := 0) (own_rm17 l Z a0 hw [] b1 b2 HB h0 n0 (Nat.le_trans Z0 K0.1) Ab1 Ab2 h3) hZ (own_w hw 102 rfl) (own_w hw 32 rfl) (by decide) (by decide)) (g := (mkF m 28 #[own_r a1, own_r a2, own_i 0] [.ref b2, .ref b1])) rfl (by rw [hml]; rfl) (argsL := [.ref b1, .ref b2]) (rest := []) (lenOf own_pd24 rfl) rfl (by exact own_ca rfl) (hb hby d14_28) (fun _ _ => ⟨rfl, e105, (by decide : 0 + 0 ≤ _), (by decide : 0 + 0 ≤ _)⟩)
  dsimp only [Pt.U, Pt.locs, Pt.cells, Pt.slots] at X106 l106 y106 z106 st106 hQ106
  subst l106 y106 z106
  obtain ⟨rfl, N106q, e106⟩ := hQ106
  have N106 := Fr.app N103 N106q
  refine own_s T106 m 45 #[own_r a1, own_r a2, own_i 0] [.int (own_fi HB)] (fun t k => st106 _ (XS.goto X106.here hx rfl (pc0 := 31) (pc' := 45) rfl (hb hby d14_31) (by decide) (by decide) k)) ?_
  exact own_retI X106 hx hlk hrt (hb hby d14_45) ⟨rfl, N106, e106⟩ (by decide) (by decide)
theorem own_pd25 : parseMethodDescriptor "()Ljava/lang/String;" = some ⟨[], some (.object "java/lang/String")⟩ := by decide +kernel
abbrev own_n39 : MethodName := ⟨"java/lang/CharSequence", "toString", "()Ljava/lang/String;"⟩
theorem own_pd26 : parseMethodDescriptor "(Ljava/lang/String;)I" = some ⟨[(.object "java/lang/String")], some .int⟩ := by decide +kernel
abbrev own_k12 := jdk_42_method_97_code
abbrev own_n40 : MethodName := ⟨"java/lang/String", "contains", "(Ljava/lang/CharSequence;)Z"⟩
theorem d12_0 : own_D own_k12 0 (.aload_n 0) 1 := by decide +kernel
theorem d12_1 : own_D own_k12 1 (.aload_n 1) 1 := by decide +kernel
theorem d12_2 : own_D own_k12 2 (.invokeinterface 710 1) 5 := by decide +kernel
theorem d12_7 : own_D own_k12 7 (.invokevirtual 711) 3 := by decide +kernel
theorem d12_10 : own_D own_k12 10 (.ifCond .lt 7) 3 := by decide +kernel
theorem d12_13 : own_D own_k12 13 (.iconst 1) 1 := by decide +kernel
theorem d12_14 : own_D own_k12 14 (.goto 4) 3 := by decide +kernel
theorem d12_17 : own_D own_k12 17 (.iconst 0) 1 := by decide +kernel
theorem d12_18 : own_D own_k12 18 (.ireturn) 1 := by decide +kernel
theorem ef_own_rm12 (m : MethodId) (a1 : Addr) (a2 : Addr) : entryFrame m #[(.ref a1), (.ref a2)] 2 = mkF m 0 #[own_r a1, own_r a2] [] := by first | (simp [entryFrame, mkF, argsToLocals, Value.category]; done) | rfl
def own_rm12_Q (Z : State) (a1 : Addr) (a2 : Addr) (cs : Int32) (b1 : Addr) (b2 : Addr) (HB : List Int32) (h0 : Heap) (n0 : Nat) (v : Option Value) (h : Heap) (L : List Loc) : Prop := v = some (.int (own_has HB)) ∧ Fr n0 L ∧ h = h0
set_option maxRecDepth 65536 in
set_option maxHeartbeats 40000000 in
theorem own_rm12 (l : Launch) (Z : State) (a0 : Array Value) (hw : own_H a0 Z) (ws : List Jvm.Cond) (a1 a2 : Addr) (cs : Int32) (b1 b2 : Addr) (HB : List Int32) (h0 : Heap) (n0 : Nat) (Z0 : n0 ≤ h0.size) (CS : Sta Z h0 "java/lang/String" "COMPACT_STRINGS" "Z" (.int cs)) (hcs : ¬ cs = 0) (Fc1 : Fld Z h0 a1 "java/lang/String" "coder" "B" (.int 0)) (Fv1 : Fld Z h0 a1 "java/lang/String" "value" "[B" (.ref b1)) (Ab1 : own_Ar Z h0 b1 .byte (HB.map Value.int)) (Es1 : Exa Z h0 a1 "java/lang/String") (Fc2 : Fld Z h0 a2 "java/lang/String" "coder" "B" (.int 0)) (Fv2 : Fld Z h0 a2 "java/lang/String" "value" "[B" (.ref b2)) (Ab2 : own_Ar Z h0 b2 .byte [(.int 58)]) (Es2 : Exa Z h0 a2 "java/lang/String") (h3 : HB.length ≤ 3) : own_M l Z ws own_n40 own_k12 2 (some .boolean) (own_R 3 0 0 49) #[(.ref a1), (.ref a2)] h0 (own_rm12_Q Z a1 a2 cs b1 b2 HB h0 n0) := by
  refine own_open n0 "java/lang/String" rfl (plainFor_of_name own_pn1) (fun m => ef_own_rm12 m a1 a2) ?_
  intro p e s m below meth c s₁ hx hby hml hZ hown hnm hlk hrt X0 e0 N0
  have K0 := Keep.refl h0 []
  refine own_s s₁ m 2 #[own_r a1, own_r a2] [.ref a2, .ref a1] (fun t k => XS.aloadN X0.here hx rfl (hb hby d12_0) rfl (rfl) (XS.aloadN X0.here hx rfl (hb hby d12_1) rfl (rfl) k)) ?_
  obtain ⟨cq101, kq101, q101a, q101b, q101c⟩ := isOf hZ e0 Es2
  obtain ⟨v101, _, ⟨T101, L101, k101, n101⟩, -, X101, ⟨Lc101, hQ101, l101, y101, z101⟩, st101⟩ := X0.interfaceBack hx (xi := (⟨"java/lang/CharSequence", "toString", "()Ljava/lang/String;"⟩ : MethodName)) (y := (⟨"java/lang/String", "toString", "()Ljava/lang/String;"⟩ : MethodName)) hown (mvT hZ (own_w hw 76 rfl)) (mvT hZ (own_w hw 77 rfl)) (mvT hZ (own_w hw 78 rfl)) (mvT hZ (own_w hw 79 rfl)) (mvT hZ (own_w hw 80 rfl)) (mvT hZ (own_w hw 81 rfl)) (mvT hZ (own_w hw 82 rfl)) (mvT hZ (own_w hw 83 rfl)) (by decide) (backOf (W := 1) (own_rm13 l Z a0 hw [] a2 h0 n0 (Nat.le_trans Z0 K0.1) ) hZ (own_w hw 84 rfl) (own_w hw 6 rfl) (by decide) (by decide)) q101a q101b q101c (g := (mkF m 2 #[own_r a1, own_r a2] [.ref a2, .ref a1])) rfl (by rw [hml]; rfl) (Steps.refl _) (argsL := []) (rest := [.ref a1]) (lenOf own_pd25 rfl) rfl (by exact own_ca rfl) (hb hby d12_2) (fun _ _ => ⟨rfl, e0, (by decide : 0 + 0 ≤ _), (by decide : 0 + 0 ≤ _)⟩)
  dsimp only [Pt.U, Pt.locs, Pt.cells, Pt.slots] at X101 l101 y101 z101 st101 hQ101
  subst l101 y101 z101
  obtain ⟨rfl, N101q, e101⟩ := hQ101
  have N101 := Fr.app N0 N101q
  refine own_s T101 m 7 #[own_r a1, own_r a2] [.ref a2, .ref a1] (fun t k => st101.trans k) ?_
  obtain ⟨cq102, kq102, q102a, q102b, q102c⟩ := isOf hZ e101 Es1
  obtain ⟨v102, _, ⟨T102, L102, k102, n102⟩, -, X102, ⟨Lc102, hQ102, l102, y102, z102⟩, st102⟩ := X101.virtualBack hx (y := own_n38) (z := own_n38) hown (mvT hZ (own_w hw 85 rfl)) (mvT hZ (own_w hw 86 rfl)) (notFace_of_selects (args := #[]) (mvT hZ (own_w hw 88 rfl))) (mvT hZ (own_w hw 88 rfl)) (mvT hZ (own_w hw 87 rfl)) (by decide) (backOf (W := 0) (own_rm14 l Z a0 hw [] a1 a2 cs b1 b2 HB h0 n0 (Nat.le_trans Z0 K0.1) CS hcs Fc1 Fv1 Ab1 Es1 Fc2 Fv2 Ab2 Es2 h3) hZ (own_w hw 89 rfl) (own_w hw 6 rfl) (by decide) (by decide)) q102a q102c (g := (mkF m 7 #[own_r a1, own_r a2] [.ref a2, .ref a1])) rfl (by rw [hml]; rfl) (Steps.refl _) (argsL := [.ref a2]) (rest := []) (lenOf own_pd26 rfl) rfl (by exact own_ca rfl) (hb hby d12_7) (fun _ _ => ⟨rfl, e101, (by decide : 0 + 0 ≤ _), (by decide : 0 + 0 ≤ _)⟩)
  dsimp only [Pt.U, Pt.locs, Pt.cells, Pt.slots] at X102 l102 y102 z102 st102 hQ102
  subst l102 y102 z102
  obtain ⟨rfl, N102q, e102⟩ := hQ102
  have N102 := Fr.app N101 N102q
  refine own_s T102 m 10 #[own_r a1, own_r a2] [.int (own_fi HB)] (fun t k => st102.trans k) ?_
  by_cases hc10_103 : (own_fi HB) < 0
  · refine own_s T102 m 18 #[own_r a1, own_r a2] [.int 0] (fun t k => XS.ifYes X102.here hx rfl (pc0 := 10) (pc' := 17) rfl (hb hby d12_10) rfl (XT.i0_lt_t hc10_103) (by decide) (by decide) (XS.iconst X102.here hx rfl (hb hby d12_17) k)) ?_
    exact own_retB X102 hx hlk (t := .boolean) hrt (by simp) (hb hby d12_18) ⟨(by first | (rw [show nar .boolean (0 : Int32) = (0 : Int32) from rfl, own_has, if_pos hc10_103]; done) | (rw [show nar .boolean (0 : Int32) = (0 : Int32) from rfl]; simp only [own_has, hc10_103, if_true, if_false, eq_self, not_true_eq_false, not_false_eq_true, and_true, true_and, and_false, false_and, and_self, or_true, true_or, or_false, false_or, or_self]; done) | (rw [show nar .boolean (0 : Int32) = (0 : Int32) from rfl]; simp [own_has, hc10_103]; done)), N102, e102⟩ (by decide) (by decide)
  · refine own_s T102 m 18 #[own_r a1, own_r a2] [.int 1] (fun t k => XS.ifNo X102.here hx rfl (hb hby d12_10) rfl (XT.i0_lt_f hc10_103) (XS.iconst X102.here hx rfl (hb hby d12_13) (XS.goto X102.here hx rfl (pc0 := 14) (pc' := 18) rfl (hb hby d12_14) (by decide) (by decide) k))) ?_
    exact own_retB X102 hx hlk (t := .boolean) hrt (by simp) (hb hby d12_18) ⟨(by first | (rw [show nar .boolean (1 : Int32) = (1 : Int32) from rfl, own_has, if_neg hc10_103]; done) | (rw [show nar .boolean (1 : Int32) = (1 : Int32) from rfl]; simp only [own_has, hc10_103, if_true, if_false, eq_self, not_true_eq_false, not_false_eq_true, and_true, true_and, and_false, false_and, and_self, or_true, true_or, or_false, false_or, or_self]; done) | (rw [show nar .boolean (1 : Int32) = (1 : Int32) from rfl]; simp [own_has, hc10_103]; done)), N102, e102⟩ (by decide) (by decide)
theorem own_pn8 : plainName "java/lang/Record" = true := by first | (simp [plainName, overriddenIn]; done) | decide +kernel
abbrev own_k10 := jdk_30_method_1_code
abbrev own_n41 : MethodName := ⟨"java/lang/Record", "<init>", "()V"⟩
theorem d10_0 : own_D own_k10 0 (.aload_n 0) 1 := by decide +kernel
theorem d10_1 : own_D own_k10 1 (.invokespecial 1) 3 := by decide +kernel
theorem d10_4 : own_D own_k10 4 (.return_) 1 := by decide +kernel
theorem ef_own_rm10 (m : MethodId) (a1 : Addr) : entryFrame m #[(.ref a1)] 1 = mkF m 0 #[own_r a1] [] := by first | (simp [entryFrame, mkF, argsToLocals, Value.category]; done) | rfl
def own_rm10_Q (Z : State) (a1 : Addr)  (h0 : Heap) (n0 : Nat) (v : Option Value) (h : Heap) (L : List Loc) : Prop := v = none ∧ Fr n0 L ∧ h = h0
set_option maxRecDepth 65536 in
set_option maxHeartbeats 40000000 in
theorem own_rm10 (l : Launch) (Z : State) (a0 : Array Value) (hw : own_H a0 Z) (ws : List Jvm.Cond) (a1 : Addr) (h0 : Heap) (n0 : Nat) (Z0 : n0 ≤ h0.size) : own_M l Z ws own_n41 own_k10 1 none (own_R 1 0 0 12) #[(.ref a1)] h0 (own_rm10_Q Z a1  h0 n0) := by
  refine own_open n0 "java/lang/Record" rfl (plainFor_of_name own_pn8) (fun m => ef_own_rm10 m a1) ?_
  intro p e s m below meth c s₁ hx hby hml hZ hown hnm hlk hrt X0 e0 N0
  have K0 := Keep.refl h0 []
  refine own_s s₁ m 1 #[own_r a1] [.ref a1] (fun t k => XS.aloadN X0.here hx rfl (hb hby d10_0) rfl (rfl) k) ?_
  obtain ⟨T101, X101, e101, st101⟩ := initO X0 hx hZ hown (own_w hw 54 rfl) (own_w hw 16 rfl) (own_w hw 17 rfl) e0 (g := (mkF m 1 #[own_r a1] [.ref a1])) rfl (by rw [hml]; rfl) rfl (hb hby d10_1) (by decide) (W := 0) (by exact own_ca rfl) (by decide)
  refine own_s T101 m 4 #[own_r a1] [] (fun t k => st101 _ k) ?_
  exact own_retV X101 hx hlk hrt (hb hby d10_4) ⟨rfl, N0, e101⟩ (by decide) (by decide)
theorem own_pn9 : plainName "com/example/holdfast/holdfast/store/RedisAddress" = true := by first | (simp [plainName, overriddenIn]; done) | decide +kernel
theorem own_pd27 : parseMethodDescriptor "()V" = some ⟨[], none⟩ := by decide +kernel
abbrev own_k9 := prog_24_method_1_code
abbrev own_n42 : MethodName := ⟨"com/example/holdfast/holdfast/store/RedisAddress", "<init>", "(Ljava/lang/String;ILjava/lang/String;Ljava/lang/String;I)V"⟩
theorem d9_0 : own_D own_k9 0 (.aload_n 0) 1 := by decide +kernel
theorem d9_1 : own_D own_k9 1 (.invokespecial 1) 3 := by decide +kernel
theorem d9_4 : own_D own_k9 4 (.aload_n 0) 1 := by decide +kernel
theorem d9_5 : own_D own_k9 5 (.aload_n 1) 1 := by decide +kernel
theorem d9_6 : own_D own_k9 6 (.putfield 7) 3 := by decide +kernel
theorem d9_9 : own_D own_k9 9 (.aload_n 0) 1 := by decide +kernel
theorem d9_10 : own_D own_k9 10 (.iload_n 2) 1 := by decide +kernel
theorem d9_11 : own_D own_k9 11 (.putfield 13) 3 := by decide +kernel
theorem d9_14 : own_D own_k9 14 (.aload_n 0) 1 := by decide +kernel
theorem d9_15 : own_D own_k9 15 (.aload_n 3) 1 := by decide +kernel
theorem d9_16 : own_D own_k9 16 (.putfield 17) 3 := by decide +kernel
theorem d9_19 : own_D own_k9 19 (.aload_n 0) 1 := by decide +kernel
theorem d9_20 : own_D own_k9 20 (.aload 4) 2 := by decide +kernel
theorem d9_22 : own_D own_k9 22 (.putfield 20) 3 := by decide +kernel
theorem d9_25 : own_D own_k9 25 (.aload_n 0) 1 := by decide +kernel
theorem d9_26 : own_D own_k9 26 (.iload 5) 2 := by decide +kernel
theorem d9_28 : own_D own_k9 28 (.putfield 23) 3 := by decide +kernel
theorem d9_31 : own_D own_k9 31 (.return_) 1 := by decide +kernel
theorem ef_own_rm9 (m : MethodId) (a1 : Addr) (a2 : Addr) (p1 : Int32) (w1 : Value) (w2 : Value) (p2 : Int32) (h_w1 : w1.isRef = true) (h_w2 : w2.isRef = true) : entryFrame m #[(.ref a1), (.ref a2), (.int p1), w1, w2, (.int p2)] 6 = mkF m 0 #[own_r a1, own_r a2, own_i p1, .val w1, .val w2, own_i p2] [] := by first | (simp [entryFrame, mkF, argsToLocals, show ∀ a : Addr, (Value.ref a).category = 1 from fun _ => rfl, show ∀ a : Int32, (Value.int a).category = 1 from fun _ => rfl, show ∀ a : Int64, (Value.long a).category = 2 from fun _ => rfl, XT.cat1 h_w1, XT.cat1 h_w2]; done) | rfl | (cases w1 <;> cases w2 <;>  first | (simp [entryFrame, mkF, argsToLocals, Value.category]; done) | rfl | (cases h_w1) | (cases h_w2))
def own_rm9_Q (Z : State) (a1 : Addr) (a2 : Addr) (p1 : Int32) (w1 : Value) (w2 : Value) (p2 : Int32)  (h0 : Heap) (n0 : Nat) (v : Option Value) (h : Heap) (L : List Loc) : Prop := v = none ∧ Fr n0 L ∧ Keep h0 h [a1] ∧ Exa Z h a1 "com/example/holdfast/holdfast/store/RedisAddress" ∧ Fld Z h a1 "com/example/holdfast/holdfast/store/RedisAddress" "host" "Ljava/lang/String;" (.ref a2) ∧ Fld Z h a1 "com/example/holdfast/holdfast/store/RedisAddress" "port" "I" (.int p1) ∧ Fld Z h a1 "com/example/holdfast/holdfast/store/RedisAddress" "user" "Ljava/lang/String;" w1 ∧ Fld Z h a1 "com/example/holdfast/holdfast/store/RedisAddress" "password" "Ljava/lang/String;" w2 ∧ Fld Z h a1 "com/example/holdfast/holdfast/store/RedisAddress" "database" "I" (.int p2)
set_option maxRecDepth 65536 in
set_option maxHeartbeats 40000000 in
theorem own_rm9 (l : Launch) (Z : State) (a0 : Array Value) (hw : own_H a0 Z) (ws : List Jvm.Cond) (a1 a2 : Addr) (p1 : Int32) (w1 w2 : Value) (p2 : Int32) (h0 : Heap) (n0 : Nat) (Z0 : n0 ≤ h0.size) (E_a1 : Exa Z h0 a1 "com/example/holdfast/holdfast/store/RedisAddress") (Fi_0 : Fld Z h0 a1 "com/example/holdfast/holdfast/store/RedisAddress" "host" "Ljava/lang/String;" .null) (Fi_1 : Fld Z h0 a1 "com/example/holdfast/holdfast/store/RedisAddress" "port" "I" (.int 0)) (Fi_2 : Fld Z h0 a1 "com/example/holdfast/holdfast/store/RedisAddress" "user" "Ljava/lang/String;" .null) (Fi_3 : Fld Z h0 a1 "com/example/holdfast/holdfast/store/RedisAddress" "password" "Ljava/lang/String;" .null) (Fi_4 : Fld Z h0 a1 "com/example/holdfast/holdfast/store/RedisAddress" "database" "I" (.int 0)) (g_a1 : n0 ≤ a1) (hw1 : w1.isRef = true) (hw2 : w2.isRef = true) : own_M l Z ws own_n42 own_k9 6 none (own_R 2 0 0 24) #[(.ref a1), (.ref a2), (.int p1), w1, w2, (.int p2)] h0 (own_rm9_Q Z a1 a2 p1 w1 w2 p2  h0 n0) := by
  refine own_open n0 "com/example/holdfast/holdfast/store/RedisAddress" rfl (plainFor_of_name own_pn9) (fun m => ef_own_rm9 m a1 a2 p1 w1 w2 p2 (hw1) (hw2)) ?_
  intro p e s m below meth c s₁ hx hby hml hZ hown hnm hlk hrt X0 e0 N0
  have K0 := Keep.refl h0 [a1]
  refine own_s s₁ m 1 #[own_r a1, own_r a2, own_i p1, .val w1, .val w2, own_i p2] [.ref a1] (fun t k => XS.aloadN X0.here hx rfl (hb hby d9_0) rfl (rfl) k) ?_
  obtain ⟨v101, _, ⟨T101, L101, k101, n101⟩, -, X101, ⟨Lc101, hQ101, l101, y101, z101⟩, st101⟩ := X0.specialBack hx (y := own_n41) rfl hown (mvT hZ (own_w hw 49 rfl)) (mvT hZ (own_w hw 50 rfl)) (mvT hZ (own_w hw 53 rfl)) (by decide) (backOf (W := 0) (own_rm10 l Z a0 hw [] a1 h0 n0 (Nat.le_trans Z0 K0.1) ) hZ (own_w hw 53 rfl) (own_w hw 52 rfl) (by decide) (by decide)) (g := (mkF m 1 #[own_r a1, own_r a2, own_i p1, .val w1, .val w2, own_i p2] [.ref a1])) rfl (by rw [hml]; rfl) (Steps.refl _) (a := a1) (argsL := []) (rest := []) (lenOf own_pd27 rfl) rfl (by exact own_ca rfl) (hb hby d9_1) (fun _ _ => ⟨rfl, e0, (by decide : 0 + 0 ≤ _), (by decide : 0 + 0 ≤ _)⟩)
  dsimp only [Pt.U, Pt.locs, Pt.cells, Pt.slots] at X101 l101 y101 z101 st101 hQ101
  subst l101 y101 z101
  obtain ⟨rfl, N101q, e101⟩ := hQ101
  have N101 := Fr.app N0 N101q
  refine own_s T101 m 6 #[own_r a1, own_r a2, own_i p1, .val w1, .val w2, own_i p2] [.ref a2, .ref a1] (fun t k => st101.trans (XS.aloadN X101.here hx rfl (hb hby d9_4) rfl (rfl) (XS.aloadN X101.here hx rfl (hb hby d9_5) rfl (rfl) k))) ?_
  obtain ⟨T102, h102, X102, e102, W102, st102⟩ := putF X101 hx hZ hown (host := "") (Or.inl (own_w hw 55 rfl)) Via.refl e101 Fi_0 E_a1 (Or.inr ⟨(own_w hw 56 rfl), rfl, hnm⟩) (own_w hw 44 rfl) (ty := (.object "java/lang/String")) (by decide) rfl rfl (g := (mkF m 6 #[own_r a1, own_r a2, own_i p1, .val w1, .val w2, own_i p2] [.ref a2, .ref a1])) rfl rfl (hb hby d9_6)
  have F102 : Fld Z h102 a1 "com/example/holdfast/holdfast/store/RedisAddress" "host" "Ljava/lang/String;" (.ref a2) := Fi_0.same W102
  have Kc102 : Keep h0 h102 [a1] := K0.wr W102 (Or.inl (List.mem_of_getElem? (i := 0) rfl))
  have N102 := Fr.snoc X102 N101 g_a1
  refine own_s T102 m 11 #[own_r a1, own_r a2, own_i p1, .val w1, .val w2, own_i p2] [.int p1, .ref a1] (fun t k => st102 _ (XS.aloadN X102.here hx rfl (hb hby d9_9) rfl (rfl) (XS.iloadN X102.here hx rfl (hb hby d9_10) rfl k))) ?_
  obtain ⟨T103, h103, X103, e103, W103, st103⟩ := putF X102 hx hZ hown (host := "") (Or.inl (own_w hw 57 rfl)) Via.refl e102 (Fi_1.other W102 (Or.inr (slot_ne (Or.inr (own_w hw 58 rfl)) (Or.inr (own_w hw 56 rfl)) (by decide) (t := .int) (t' := (.object "java/lang/String")) (by decide) (by decide)))) (E_a1.wr W102) (Or.inr ⟨(own_w hw 58 rfl), rfl, hnm⟩) (own_w hw 44 rfl) (ty := .int) (by decide) rfl rfl (g := (mkF m 11 #[own_r a1, own_r a2, own_i p1, .val w1, .val w2, own_i p2] [.int p1, .ref a1])) rfl rfl (hb hby d9_11)
  have F103 : Fld Z h103 a1 "com/example/holdfast/holdfast/store/RedisAddress" "port" "I" (.int p1) := (Fi_1.other W102 (Or.inr (slot_ne (Or.inr (own_w hw 58 rfl)) (Or.inr (own_w hw 56 rfl)) (by decide) (t := .int) (t' := (.object "java/lang/String")) (by decide) (by decide)))).same W103
  have Kc103 : Keep h0 h103 [a1] := Kc102.wr W103 (Or.inl (List.mem_of_getElem? (i := 0) rfl))
  have N103 := Fr.snoc X103 N102 g_a1
  refine own_s T103 m 16 #[own_r a1, own_r a2, own_i p1, .val w1, .val w2, own_i p2] [w1, .ref a1] (fun t k => st103 _ (XS.aloadN X103.here hx rfl (hb hby d9_14) rfl (rfl) (XS.aloadN X103.here hx rfl (hb hby d9_15) rfl (hw1) k))) ?_
  obtain ⟨T104, h104, X104, e104, W104, st104⟩ := putF X103 hx hZ hown (host := "") (Or.inl (own_w hw 59 rfl)) Via.refl e103 ((Fi_2.other W102 (Or.inr (slot_ne (Or.inr (own_w hw 60 rfl)) (Or.inr (own_w hw 56 rfl)) (by decide) (t := (.object "java/lang/String")) (t' := (.object "java/lang/String")) (by decide) (by decide)))).other W103 (Or.inr (slot_ne (Or.inr (own_w hw 60 rfl)) (Or.inr (own_w hw 58 rfl)) (by decide) (t := (.object "java/lang/String")) (t' := .int) (by decide) (by decide)))) ((E_a1.wr W102).wr W103) (Or.inr ⟨(own_w hw 60 rfl), rfl, hnm⟩) (own_w hw 44 rfl) (ty := (.object "java/lang/String")) (by decide) (own_nref (hw1)) (own_fitR (hw1)) (g := (mkF m 16 #[own_r a1, own_r a2, own_i p1, .val w1, .val w2, own_i p2] [w1, .ref a1])) rfl rfl (hb hby d9_16)
  have F104 : Fld Z h104 a1 "com/example/holdfast/holdfast/store/RedisAddress" "user" "Ljava/lang/String;" w1 := ((Fi_2.other W102 (Or.inr (slot_ne (Or.inr (own_w hw 60 rfl)) (Or.inr (own_w hw 56 rfl)) (by decide) (t := (.object "java/lang/String")) (t' := (.object "java/lang/String")) (by decide) (by decide)))).other W103 (Or.inr (slot_ne (Or.inr (own_w hw 60 rfl)) (Or.inr (own_w hw 58 rfl)) (by decide) (t := (.object "java/lang/String")) (t' := .int) (by decide) (by decide)))).same W104
  have Kc104 : Keep h0 h104 [a1] := Kc103.wr W104 (Or.inl (List.mem_of_getElem? (i := 0) rfl))
  have N104 := Fr.snoc X104 N103 g_a1
  refine own_s T104 m 22 #[own_r a1, own_r a2, own_i p1, .val w1, .val w2, own_i p2] [w2, .ref a1] (fun t k => st104 _ (XS.aloadN X104.here hx rfl (hb hby d9_19) rfl (rfl) (XS.aload X104.here hx rfl (hb hby d9_20) rfl (hw2) k))) ?_
  obtain ⟨T105, h105, X105, e105, W105, st105⟩ := putF X104 hx hZ hown (host := "") (Or.inl (own_w hw 61 rfl)) Via.refl e104 (((Fi_3.other W102 (Or.inr (slot_ne (Or.inr (own_w hw 62 rfl)) (Or.inr (own_w hw 56 rfl)) (by decide) (t := (.object "java/lang/String")) (t' := (.object "java/lang/String")) (by decide) (by decide)))).other W103 (Or.inr (slot_ne (Or.inr (own_w hw 62 rfl)) (Or.inr (own_w hw 58 rfl)) (by decide) (t := (.object "java/lang/String")) (t' := .int) (by decide) (by decide)))).other W104 (Or.inr (slot_ne (Or.inr (own_w hw 62 rfl)) (Or.inr (own_w hw 60 rfl)) (by decide) (t := (.object "java/lang/String")) (t' := (.object "java/lang/String")) (by decide) (by decide)))) (((E_a1.wr W102).wr W103).wr W104) (Or.inr ⟨(own_w hw 62 rfl), rfl, hnm⟩) (own_w hw 44 rfl) (ty := (.object "java/lang/String")) (by decide) (own_nref (hw2)) (own_fitR (hw2)) (g := (mkF m 22 #[own_r a1, own_r a2, own_i p1, .val w1, .val w2, own_i p2] [w2, .ref a1])) rfl rfl (hb hby d9_22)
  have F105 : Fld Z h105 a1 "com/example/holdfast/holdfast/store/RedisAddress" "password" "Ljava/lang/String;" w2 := (((Fi_3.other W102 (Or.inr (slot_ne (Or.inr (own_w hw 62 rfl)) (Or.inr (own_w hw 56 rfl)) (by decide) (t := (.object "java/lang/String")) (t' := (.object "java/lang/String")) (by decide) (by decide)))).other W103 (Or.inr (slot_ne (Or.inr (own_w hw 62 rfl)) (Or.inr (own_w hw 58 rfl)) (by decide) (t := (.object "java/lang/String")) (t' := .int) (by decide) (by decide)))).other W104 (Or.inr (slot_ne (Or.inr (own_w hw 62 rfl)) (Or.inr (own_w hw 60 rfl)) (by decide) (t := (.object "java/lang/String")) (t' := (.object "java/lang/String")) (by decide) (by decide)))).same W105
  have Kc105 : Keep h0 h105 [a1] := Kc104.wr W105 (Or.inl (List.mem_of_getElem? (i := 0) rfl))
  have N105 := Fr.snoc X105 N104 g_a1
  refine own_s T105 m 28 #[own_r a1, own_r a2, own_i p1, .val w1, .val w2, own_i p2] [.int p2, .ref a1] (fun t k => st105 _ (XS.aloadN X105.here hx rfl (hb hby d9_25) rfl (rfl) (XS.iload X105.here hx rfl (hb hby d9_26) rfl k))) ?_
  obtain ⟨T106, h106, X106, e106, W106, st106⟩ := putF X105 hx hZ hown (host := "") (Or.inl (own_w hw 63 rfl)) Via.refl e105 ((((Fi_4.other W102 (Or.inr (slot_ne (Or.inr (own_w hw 64 rfl)) (Or.inr (own_w hw 56 rfl)) (by decide) (t := .int) (t' := (.object "java/lang/String")) (by decide) (by decide)))).other W103 (Or.inr (slot_ne (Or.inr (own_w hw 64 rfl)) (Or.inr (own_w hw 58 rfl)) (by decide) (t := .int) (t' := .int) (by decide) (by decide)))).other W104 (Or.inr (slot_ne (Or.inr (own_w hw 64 rfl)) (Or.inr (own_w hw 60 rfl)) (by decide) (t := .int) (t' := (.object "java/lang/String")) (by decide) (by decide)))).other W105 (Or.inr (slot_ne (Or.inr (own_w hw 64 rfl)) (Or.inr (own_w hw 62 rfl)) (by decide) (t := .int) (t' := (.object "java/lang/String")) (by decide) (by decide)))) ((((E_a1.wr W102).wr W103).wr W104).wr W105) (Or.inr ⟨(own_w hw 64 rfl), rfl, hnm⟩) (own_w hw 44 rfl) (ty := .int) (by decide) rfl rfl (g := (mkF m 28 #[own_r a1, own_r a2, own_i p1, .val w1, .val w2, own_i p2] [.int p2, .ref a1])) rfl rfl (hb hby d9_28)
  have F106 : Fld Z h106 a1 "com/example/holdfast/holdfast/store/RedisAddress" "database" "I" (.int p2) := ((((Fi_4.other W102 (Or.inr (slot_ne (Or.inr (own_w hw 64 rfl)) (Or.inr (own_w hw 56 rfl)) (by decide) (t := .int) (t' := (.object "java/lang/String")) (by decide) (by decide)))).other W103 (Or.inr (slot_ne (Or.inr (own_w hw 64 rfl)) (Or.inr (own_w hw 58 rfl)) (by decide) (t := .int) (t' := .int) (by decide) (by decide)))).other W104 (Or.inr (slot_ne (Or.inr (own_w hw 64 rfl)) (Or.inr (own_w hw 60 rfl)) (by decide) (t := .int) (t' := (.object "java/lang/String")) (by decide) (by decide)))).other W105 (Or.inr (slot_ne (Or.inr (own_w hw 64 rfl)) (Or.inr (own_w hw 62 rfl)) (by decide) (t := .int) (t' := (.object "java/lang/String")) (by decide) (by decide)))).same W106
  have Kc106 : Keep h0 h106 [a1] := Kc105.wr W106 (Or.inl (List.mem_of_getElem? (i := 0) rfl))
  have N106 := Fr.snoc X106 N105 g_a1
  refine own_s T106 m 31 #[own_r a1, own_r a2, own_i p1, .val w1, .val w2, own_i p2] [] (fun t k => st106 _ k) ?_
  have eE : T106.heap = h106 := e106
  exact own_retV X106 hx hlk hrt (hb hby d9_31) ⟨rfl, N106, (by rw [eE]; exact Kc106), (by rw [eE]; exact (((((E_a1.wr W102).wr W103).wr W104).wr W105).wr W106)), (by rw [eE]; exact ((((F102.other W103 (Or.inr (slot_ne (Or.inr (own_w hw 56 rfl)) (Or.inr (own_w hw 58 rfl)) (by decide) (t := (.object "java/lang/String")) (t' := .int) (by decide) (by decide)))).other W104 (Or.inr (slot_ne (Or.inr (own_w hw 56 rfl)) (Or.inr (own_w hw 60 rfl)) (by decide) (t := (.object "java/lang/String")) (t' := (.object "java/lang/String")) (by decide) (by decide)))).other W105 (Or.inr (slot_ne (Or.inr (own_w hw 56 rfl)) (Or.inr (own_w hw 62 rfl)) (by decide) (t := (.object "java/lang/String")) (t' := (.object "java/lang/String")) (by decide) (by decide)))).other W106 (Or.inr (slot_ne (Or.inr (own_w hw 56 rfl)) (Or.inr (own_w hw 64 rfl)) (by decide) (t := (.object "java/lang/String")) (t' := .int) (by decide) (by decide))))), (by rw [eE]; exact (((F103.other W104 (Or.inr (slot_ne (Or.inr (own_w hw 58 rfl)) (Or.inr (own_w hw 60 rfl)) (by decide) (t := .int) (t' := (.object "java/lang/String")) (by decide) (by decide)))).other W105 (Or.inr (slot_ne (Or.inr (own_w hw 58 rfl)) (Or.inr (own_w hw 62 rfl)) (by decide) (t := .int) (t' := (.object "java/lang/String")) (by decide) (by decide)))).other W106 (Or.inr (slot_ne (Or.inr (own_w hw 58 rfl)) (Or.inr (own_w hw 64 rfl)) (by decide) (t := .int) (t' := .int) (by decide) (by decide))))), (by rw [eE]; exact ((F104.other W105 (Or.inr (slot_ne (Or.inr (own_w hw 60 rfl)) (Or.inr (own_w hw 62 rfl)) (by decide) (t := (.object "java/lang/String")) (t' := (.object "java/lang/String")) (by decide) (by decide)))).other W106 (Or.inr (slot_ne (Or.inr (own_w hw 60 rfl)) (Or.inr (own_w hw 64 rfl)) (by decide) (t := (.object "java/lang/String")) (t' := .int) (by decide) (by decide))))), (by rw [eE]; exact (F105.other W106 (Or.inr (slot_ne (Or.inr (own_w hw 62 rfl)) (Or.inr (own_w hw 64 rfl)) (by decide) (t := (.object "java/lang/String")) (t' := .int) (by decide) (by decide))))), (by rw [eE]; exact F106)⟩ (by decide) (by decide)
def own_shown (H : List Int32) : List Int32 := if own_has H = 0 then H else (([(91 : Int32)] ++ H) ++ [(93 : Int32)])
def own_str (H : List Int32) (po db : Int32) : List Int32 := ((own_shown H ++ [(58 : Int32)]) ++ own_dec po) ++ (if db = 0 then [] else [(47 : Int32)] ++ own_dec db)
theorem own_shownL (H : List Int32) : (own_shown H).length ≤ H.length + 2 := by
  unfold own_shown; split
  · omega
  · simp only [List.length_append, List.length_cons, List.length_nil]; omega
theorem own_shownB {H : List Int32} (h : own_by H) : own_by (own_shown H) := by
  unfold own_shown; split
  · exact h
  · exact own_by.app (own_by.app (by intro x hx; rcases List.mem_singleton.mp hx with rfl; decide) h) (by intro x hx; rcases List.mem_singleton.mp hx with rfl; decide)
theorem own_pd28 : parseMethodDescriptor "(Ljava/lang/CharSequence;)Z" = some ⟨[(.object "java/lang/CharSequence")], some .boolean⟩ := by decide +kernel
theorem own_pd29 : parseMethodDescriptor "(Ljava/lang/String;)Ljava/lang/StringBuilder;" = some ⟨[(.object "java/lang/String")], some (.object "java/lang/StringBuilder")⟩ := by decide +kernel
theorem own_pd30 : parseMethodDescriptor "(I)Ljava/lang/StringBuilder;" = some ⟨[.int], some (.object "java/lang/StringBuilder")⟩ := by decide +kernel
abbrev own_k11 := prog_24_method_5_code
abbrev own_n43 : MethodName := ⟨"com/example/holdfast/holdfast/store/RedisAddress", "toString", "()Ljava/lang/String;"⟩
theorem d11_0 : own_D own_k11 0 (.aload_n 0) 1 := by decide +kernel
theorem d11_1 : own_D own_k11 1 (.getfield 7) 3 := by decide +kernel
theorem d11_4 : own_D own_k11 4 (.ldc 153) 2 := by decide +kernel
theorem d11_6 : own_D own_k11 6 (.invokevirtual 155) 3 := by decide +kernel
theorem d11_9 : own_D own_k11 9 (.ifCond .eq 33) 3 := by decide +kernel
theorem d11_12 : own_D own_k11 12 (.new 52) 3 := by decide +kernel
theorem d11_15 : own_D own_k11 15 (.dup) 1 := by decide +kernel
theorem d11_16 : own_D own_k11 16 (.invokespecial 54) 3 := by decide +kernel
theorem d11_19 : own_D own_k11 19 (.ldc 159) 2 := by decide +kernel
theorem d11_21 : own_D own_k11 21 (.invokevirtual 57) 3 := by decide +kernel
theorem d11_24 : own_D own_k11 24 (.aload_n 0) 1 := by decide +kernel
theorem d11_25 : own_D own_k11 25 (.getfield 7) 3 := by decide +kernel
theorem d11_28 : own_D own_k11 28 (.invokevirtual 57) 3 := by decide +kernel
theorem d11_31 : own_D own_k11 31 (.ldc 161) 2 := by decide +kernel
theorem d11_33 : own_D own_k11 33 (.invokevirtual 57) 3 := by decide +kernel
theorem d11_36 : own_D own_k11 36 (.invokevirtual 66) 3 := by decide +kernel
theorem d11_39 : own_D own_k11 39 (.goto 7) 3 := by decide +kernel
theorem d11_42 : own_D own_k11 42 (.aload_n 0) 1 := by decide +kernel
theorem d11_43 : own_D own_k11 43 (.getfield 7) 3 := by decide +kernel
theorem d11_46 : own_D own_k11 46 (.astore_n 1) 1 := by decide +kernel
theorem d11_47 : own_D own_k11 47 (.new 52) 3 := by decide +kernel
theorem d11_50 : own_D own_k11 50 (.dup) 1 := by decide +kernel
theorem d11_51 : own_D own_k11 51 (.invokespecial 54) 3 := by decide +kernel
theorem d11_54 : own_D own_k11 54 (.aload_n 1) 1 := by decide +kernel
theorem d11_55 : own_D own_k11 55 (.invokevirtual 57) 3 := by decide +kernel
theorem d11_58 : own_D own_k11 58 (.ldc 153) 2 := by decide +kernel
theorem d11_60 : own_D own_k11 60 (.invokevirtual 57) 3 := by decide +kernel
theorem d11_63 : own_D own_k11 63 (.aload_n 0) 1 := by decide +kernel
theorem d11_64 : own_D own_k11 64 (.getfield 13) 3 := by decide +kernel
theorem d11_67 : own_D own_k11 67 (.invokevirtual 61) 3 := by decide +kernel
theorem d11_70 : own_D own_k11 70 (.aload_n 0) 1 := by decide +kernel
theorem d11_71 : own_D own_k11 71 (.getfield 23) 3 := by decide +kernel
theorem d11_74 : own_D own_k11 74 (.ifCond .ne 8) 3 := by decide +kernel
theorem d11_77 : own_D own_k11 77 (.ldc 163) 2 := by decide +kernel
theorem d11_79 : own_D own_k11 79 (.goto 25) 3 := by decide +kernel
theorem d11_82 : own_D own_k11 82 (.new 52) 3 := by decide +kernel
theorem d11_85 : own_D own_k11 85 (.dup) 1 := by decide +kernel
theorem d11_86 : own_D own_k11 86 (.invokespecial 54) 3 := by decide +kernel
theorem d11_89 : own_D own_k11 89 (.ldc 115) 2 := by decide +kernel
theorem d11_91 : own_D own_k11 91 (.invokevirtual 57) 3 := by decide +kernel
theorem d11_94 : own_D own_k11 94 (.aload_n 0) 1 := by decide +kernel
theorem d11_95 : own_D own_k11 95 (.getfield 23) 3 := by decide +kernel
theorem d11_98 : own_D own_k11 98 (.invokevirtual 61) 3 := by decide +kernel
theorem d11_101 : own_D own_k11 101 (.invokevirtual 66) 3 := by decide +kernel
theorem d11_104 : own_D own_k11 104 (.invokevirtual 57) 3 := by decide +kernel
theorem d11_107 : own_D own_k11 107 (.invokevirtual 66) 3 := by decide +kernel
theorem d11_110 : own_D own_k11 110 (.areturn) 1 := by decide +kernel
theorem ef_own_rats (m : MethodId) (a1 : Addr) : entryFrame m #[(.ref a1)] 2 = mkF m 0 #[own_r a1, .unset] [] := by first | (simp [entryFrame, mkF, argsToLocals, Value.category]; done) | rfl
def own_rats_Q (Z : State) (a1 : Addr) (cs : Int32) (ha : Addr) (hd : Addr) (HB : List Int32) (po : Int32) (db : Int32) (o1 : Addr) (o2 : Addr) (D1 : List Value) (D2 : List Value) (h0 : Heap) (n0 : Nat) (v : Option Value) (h : Heap) (L : List Loc) : Prop := ∃ (r e1 : Addr), v = some (.ref r) ∧ Fr n0 L ∧ Keep h0 h [] ∧ Exa Z h r "java/lang/String" ∧ Fld Z h r "java/lang/String" "coder" "B" (.int 0) ∧ Fld Z h r "java/lang/String" "value" "[B" (.ref e1) ∧ own_Ar Z h e1 .byte ((own_str HB po db).map Value.int)
set_option maxRecDepth 65536 in
set_option maxHeartbeats 40000000 in
theorem own_rats (l : Launch) (Z : State) (a0 : Array Value) (hw : ∀ d ∈ tables_1, d.before a0 Z = true) (ws : List Jvm.Cond) (a1 : Addr) (cs : Int32) (ha : Addr) (hd : Addr) (HB : List Int32) (po : Int32) (db : Int32) (o1 : Addr) (o2 : Addr) (D1 : List Value) (D2 : List Value) (h0 : Heap) (n0 : Nat) (Z0 : n0 ≤ h0.size) (CS : Sta Z h0 "java/lang/String" "COMPACT_STRINGS" "Z" (.int cs)) (hcs : ¬ cs = 0) (E_a1 : Exa Z h0 a1 "com/example/holdfast/holdfast/store/RedisAddress") (Fh : Fld Z h0 a1 "com/example/holdfast/holdfast/store/RedisAddress" "host" "Ljava/lang/String;" (.ref ha)) (Fp : Fld Z h0 a1 "com/example/holdfast/holdfast/store/RedisAddress" "port" "I" (.int po)) (Fd : Fld Z h0 a1 "com/example/holdfast/holdfast/store/RedisAddress" "database" "I" (.int db)) (Fch : Fld Z h0 ha "java/lang/String" "coder" "B" (.int 0)) (Fvh : Fld Z h0 ha "java/lang/String" "value" "[B" (.ref hd)) (Abh : own_Ar Z h0 hd .byte (HB.map Value.int)) (Esh : Exa Z h0 ha "java/lang/String") (hbh : own_by HB) (h3 : HB.length ≤ 3) (S1 : Sta Z h0 "java/lang/Integer" "DigitOnes" "[B" (.ref o1)) (S2 : Sta Z h0 "java/lang/Integer" "DigitTens" "[B" (.ref o2)) (O1 : own_Ar Z h0 o1 .byte D1) (O2 : own_Ar Z h0 o2 .byte D2) (hD1 : ∀ i, i < 100 → D1[i]? = some (.int (own_dg (i % 10)))) (hD2 : ∀ i, i < 100 → D2[i]? = some (.int (own_dg (i / 10)))) :
    MetFree l (⟨"com/example/holdfast/holdfast/store/RedisAddress", "toString", "()Ljava/lang/String;"⟩ : MethodName) (head1 (Jvm.Cond.code (⟨"com/example/holdfast/holdfast/store/RedisAddress", "toString", "()Ljava/lang/String;"⟩ : MethodName) prog_24_method_5_code 2 (some (.object "java/lang/String")) :: ws) (own_R 6 32 556 92)) (fun a U => a = #[(.ref a1)] ∧ Z.Warmed39 U.vm ∧ U.heap = h0 ∧ CHv Z own_EL U.vm h0 ∧ ∀ x ∈ ([] : List Addr), Safe Z own_EL U.vm h0 x) (fun _ _ _ _ _ => True) (fun _ U o U' => ∃ v L, o = .returned v ∧ own_rats_Q Z a1 cs ha hd HB po db o1 o2 D1 D2 h0 n0 v U'.heap L ∧ CHr Z own_EL U.vm U.heap U'.vm U'.heap ∧ ReturnedEndW U o U' L (own_R 6 32 556 92).cells (own_R 6 32 556 92).slots) := by
  refine MetFree.of_bodySF (plainFor_of_name own_pn9) hisR ?_
  intro p e s m args below meth c s₁ Bd hml0 hP hK
  obtain ⟨rfl, hZ, hh, hCH0, hSf0⟩ := hP
  have hx := Bd.exec
  have hby := Bd.bytes
  have hml : c.maxLocals = 2 := hml0
  have hown : s.vm.findClass "com/example/holdfast/holdfast/store/RedisAddress" = some m.cls := findClass_of_methodNamed Bd.named
  have hnm := (name_of_methodNamed Bd.named Bd.method).1
  have hlk : meth.locks = false := BodyLoose.notSynchronized Bd
  have X0 : Stand p l e (own_R 6 32 556 92) (s.setVm s.vm) m #[(.ref a1)] below meth c s₁ [] 0 0 := Stand.of_body Bd
  have e0 : s₁.heap = h0 := by rw [← hh, Bd.state]; rfl
  have N0 := Fr.nil n0
  have K0 : Keep h0 h0 [] := Keep.refl h0 []
  show own_Fin p e below (own_PH Z (own_rats_Q Z a1 cs ha hd HB po db o1 o2 D1 D2 h0 n0) s (own_R 6 32 556 92).cells (own_R 6 32 556 92).slots) (s₁.setTop (entryFrame m #[(.ref a1)] 2))
  have hCR0 : CHr Z own_EL (s.setVm s.vm).vm h0 s.vm h0 := CHr.refl hCH0
  have hS0 : s.Since s.vm 0 := (State.WarmedH.refl s).since 0
  have hk0 : 0 ≤ h0.size := Nat.zero_le _
  have hZ : Z.Warmed39 (s.setVm s.vm).vm := hZ
  have hown : (s.setVm s.vm).vm.findClass "com/example/holdfast/holdfast/store/RedisAddress" = some m.cls := hown
  refine own_via (g' := s₁.setTop (mkF m 0 #[own_r a1, .unset] [])) (fun t k => castTop (ef_own_rats m a1) k) ?_
  refine own_s s₁ m 1 #[own_r a1, .unset] [.ref a1] (fun t k => XS.aloadN X0.here hx rfl (hb hby d11_0) rfl (rfl) k) ?_
  obtain ⟨T101, X101, e101, st101⟩ := getF X0 hx hZ hown (host := "") (Or.inl (own_w hw 55 rfl)) Via.refl e0 Fh (g := (mkF m 1 #[own_r a1, .unset] [.ref a1])) rfl rfl (hb hby d11_1)
  refine own_s T101 m 4 #[own_r a1, .unset] [.ref ha] (fun t k => st101 _ k) ?_
  obtain ⟨b102, T102, h102, kS102, d102, kc102, X102, e102, E102, hS102, hk102, hZ, hown, A102, Fc102, Fv102, Va102, -, -, cr102, -, sfx102, st102⟩ := ldcCH X101 hx hZ hown (own_w hw 70 rfl) (own_wS hw) e101 hS0 hk0 (own_hEL hw) (List.mem_of_getElem? (i := 1) rfl) hCR0.1 (vs := [(.int 58)]) (z := (1 : Int32)) ⟨by decide, by decide⟩ (by decide) (by decide) (g := (mkF m 4 #[own_r a1, .unset] [.ref ha])) rfl (hb hby d11_4) (n := 4) (by decide) (by decide) (by decide) (by decide)
  have hCR102 := hCR0.trans cr102
  have Kc102 : Keep h0 h102 [] := K0.ext E102
  have V102 : own_Ar Z h102 d102 .byte [(.int 58)] := own_Ar.ofArv Va102 (by decide)
  refine own_s T102 m 6 #[own_r a1, .unset] [.ref b102, .ref ha] (fun t k => st102 _ k) ?_
  obtain ⟨cq103, kq103, q103a, q103b, q103c⟩ := isOf hZ e102 (Esh.keep Kc102)
  obtain ⟨v103, _, ⟨T103, L103, k103, n103⟩, -, X103, ⟨Lc103, hQ103, l103, y103, z103⟩, st103⟩ := X102.virtualBack hx (y := own_n40) (z := own_n40) hown (mvT hZ (own_w hw 71 rfl)) (mvT hZ (own_w hw 72 rfl)) (notFace_of_selects (args := #[]) (mvT hZ (own_w hw 74 rfl))) (mvT hZ (own_w hw 74 rfl)) (mvT hZ (own_w hw 73 rfl)) (by decide) (backOf (W := 0) (own_rm12 l Z a0 hw [] ha b102 cs hd d102 HB h102 n0 (Nat.le_trans Z0 Kc102.1) (own_sta_keep CS Kc102 (fun _ _ _ _ => nin0)) hcs (Fch.keep Kc102 nin0) (Fvh.keep Kc102 nin0) (Abh.keep Kc102 nin0) (Esh.keep Kc102) Fc102 Fv102 V102 A102 h3) hZ (own_w hw 75 rfl) (own_w hw 6 rfl) (by decide) (by decide)) q103a q103c (g := (mkF m 6 #[own_r a1, .unset] [.ref b102, .ref ha])) rfl (by rw [hml]; rfl) (Steps.refl _) (argsL := [.ref b102]) (rest := []) (lenOf own_pd28 rfl) rfl (by exact own_ca rfl) (hb hby d11_6) (fun _ _ => ⟨rfl, e102, (by decide : 2 + 0 ≤ _), (by decide : 8 + 0 ≤ _)⟩)
  dsimp only [Pt.U, Pt.locs, Pt.cells, Pt.slots] at X103 l103 y103 z103 st103 hQ103
  subst l103 y103 z103
  obtain ⟨rfl, N103q, e103⟩ := hQ103
  have N103 := Fr.app N0 N103q
  refine own_s T103 m 9 #[own_r a1, .unset] [.int (own_has HB)] (fun t k => st103.trans k) ?_
  have J104 : ∀ (vj104 : Vm) (kj104 : Nat) (T104 : State) (h104 : Heap) (l104 : List Loc) (X104 : Stand p l e (own_R 6 32 556 92) (s.setVm vj104) m #[(.ref a1)] below meth c T104 l104 14 220) (e104 : T104.heap = h104) (N104 : Fr n0 l104) (Kj104 : Keep h0 h104 []) (hSj104 : s.Since vj104 kj104) (hkj104 : kj104 ≤ h104.size) (hZ : Z.Warmed39 (s.setVm vj104).vm) (hown : (s.setVm vj104).vm.findClass "com/example/holdfast/holdfast/store/RedisAddress" = some m.cls) (hCRj104 : CHr Z own_EL (s.setVm s.vm).vm h0 (s.setVm vj104).vm h104) (sh : Addr) (sd : Addr) (Esh : Exa Z h104 sh "java/lang/String") (Fcsh : Fld Z h104 sh "java/lang/String" "coder" "B" (.int 0)) (Fvsh : Fld Z h104 sh "java/lang/String" "value" "[B" (.ref sd)) (Vsh : own_Ar Z h104 sd .byte ((own_shown HB).map Value.int)), own_Fin p e below (own_PH Z (own_rats_Q Z a1 cs ha hd HB po db o1 o2 D1 D2 h0 n0) s (own_R 6 32 556 92).cells (own_R 6 32 556 92).slots) (T104.setTop (mkF m 47 #[own_r a1, own_r sh] [])) := by
    intro vj104 kj104 T104 h104 l104 X104 e104 N104 Kj104 hSj104 hkj104 hZ hown hCRj104 sh sd Esh Fcsh Fvsh Vsh
    obtain ⟨T105, h105, X105, e105, E105, A105, D105, -, st105⟩ := newO X104 hx hZ hown (own_w hw 103 rfl) (own_w hw 104 rfl) (own_w hw 105 rfl) e104 (g := (mkF m 47 #[own_r a1, own_r sh] [])) rfl (hb hby d11_47) (by decide) (by decide)
    obtain ⟨b105, g105⟩ : ∃ z, z = h104.size := ⟨_, rfl⟩
    rw [← g105] at A105 D105 st105
    have ne_o1_b105 := own_ne (O1.keep Kj104 nin0).lt (Nat.le_of_eq g105.symm)
    have ne_o2_b105 := own_ne (O2.keep Kj104 nin0).lt (Nat.le_of_eq g105.symm)
    have ne_a1_b105 := own_ne (E_a1.keep Kj104).lt (Nat.le_of_eq g105.symm)
    have ne_ha_b105 := own_ne (Fch.keep Kj104 nin0).lt (Nat.le_of_eq g105.symm)
    have ne_hd_b105 := own_ne (Abh.keep Kj104 nin0).lt (Nat.le_of_eq g105.symm)
    have ne_sh_b105 := own_ne Esh.lt (Nat.le_of_eq g105.symm)
    have ne_sd_b105 := own_ne Vsh.lt (Nat.le_of_eq g105.symm)
    have sz_b105 : h0.size ≤ b105 := Nat.le_trans Kj104.1 (Nat.le_of_eq g105.symm)
    have g_b105 : n0 ≤ b105 := Nat.le_trans Z0 sz_b105
    have hCR105 := hCRj104.trans (CHr.ext E105 hCRj104.1)
    have Kc105 : Keep h0 h105 [] := Kj104.ext E105
    have F105_118 : Fld Z h105 b105 "java/lang/AbstractStringBuilder" "value" "[B" .null := D105 (Or.inl (own_w hw 118 rfl)) (ty := (.array .byte)) (by decide)
    have F105_120 : Fld Z h105 b105 "java/lang/AbstractStringBuilder" "coder" "B" (.int 0) := D105 (Or.inl (own_w hw 120 rfl)) (ty := .byte) (by decide)
    have F105_137 : Fld Z h105 b105 "java/lang/AbstractStringBuilder" "count" "I" (.int 0) := D105 (Or.inl (own_w hw 137 rfl)) (ty := .int) (by decide)
    refine own_s T105 m 51 #[own_r a1, own_r sh] [.ref b105, .ref b105] (fun t k => st105 _ (XS.dup X105.here hx rfl (hb hby d11_50) rfl (rfl) k)) ?_
    obtain ⟨v106, _, ⟨T106, L106, k106, n106⟩, -, X106, ⟨Lc106, hQ106, l106, y106, z106⟩, st106⟩ := X105.specialBack hx (y := own_n11) rfl hown (mvT hZ (own_w hw 106 rfl)) (mvT hZ (own_w hw 107 rfl)) (mvT hZ (own_w hw 108 rfl)) (by decide) (backOf (W := 1) (own_rm18 l Z a0 hw [] b105 cs h105 n0 (Nat.le_trans Z0 Kc105.1) A105 F105_118 F105_120 F105_137 g_b105 (own_sta_keep CS Kc105 (fun _ _ _ _ => nin0)) hcs) hZ (own_w hw 108 rfl) (own_w hw 105 rfl) (by decide) (by decide)) (g := (mkF m 51 #[own_r a1, own_r sh] [.ref b105, .ref b105])) rfl (by rw [hml]; rfl) (Steps.refl _) (a := b105) (argsL := []) (rest := [.ref b105]) (lenOf own_pd27 rfl) rfl (by exact own_ca rfl) (hb hby d11_51) (fun _ _ => ⟨rfl, e105, (by decide : 15 + 1 ≤ _), (by decide : 224 + 16 ≤ _)⟩)
    dsimp only [Pt.U, Pt.locs, Pt.cells, Pt.slots] at X106 l106 y106 z106 st106 hQ106
    subst l106 y106 z106
    obtain ⟨rfl, N106q, K106, d106, szq106, Eb106, Fv106, Fc106, Fn106, V106, Ed106⟩ := hQ106
    have ne_o1_d106 := own_ne (O1.keep Kc105 nin0).lt szq106
    have ne_o2_d106 := own_ne (O2.keep Kc105 nin0).lt szq106
    have ne_a1_d106 := own_ne (E_a1.keep Kc105).lt szq106
    have ne_ha_d106 := own_ne (Fch.keep Kc105 nin0).lt szq106
    have ne_hd_d106 := own_ne (Abh.keep Kc105 nin0).lt szq106
    have ne_sh_d106 := own_ne (Esh.ext E105).lt szq106
    have ne_sd_d106 := own_ne (Vsh.ext E105).lt szq106
    have ne_b105_d106 := own_ne A105.lt szq106
    have Sfn106 := Safe.keep K106 (sfS (Safe.exa hZ.alike A105 (by decide) (by decide)) sf0) hCR105.1 (Safe.new szq106)
    have hCR106 := hCR105.trans (CHr.keep K106 (sfS (Safe.exa hZ.alike A105 (by decide) (by decide)) sf0) hCR105.1)
    have Kc106 : Keep h0 T106.heap [] := Kc105.trans K106 (allS (Or.inr sz_b105) all0)
    have sz_d106 : h0.size ≤ d106 := Nat.le_trans Kc105.1 szq106
    have g_d106 : n0 ≤ d106 := Nat.le_trans Z0 sz_d106
    have N106 := Fr.app N104 N106q
    refine own_s T106 m 55 #[own_r a1, own_r sh] [.ref sh, .ref b105] (fun t k => st106.trans (XS.aloadN X106.here hx rfl (hb hby d11_54) rfl (rfl) k)) ?_
    obtain ⟨cq107, kq107, q107a, q107b, q107c⟩ := isOf hZ rfl Eb106
    obtain ⟨v107, _, ⟨T107, L107, k107, n107⟩, -, X107, ⟨Lc107, hQ107, l107, y107, z107⟩, st107⟩ := X106.virtualBack hx (y := own_n20) (z := own_n20) hown (mvT hZ (own_w hw 121 rfl)) (mvT hZ (own_w hw 122 rfl)) (notFace_of_selects (args := #[]) (mvT hZ (own_w hw 124 rfl))) (mvT hZ (own_w hw 124 rfl)) (mvT hZ (own_w hw 123 rfl)) (by decide) (backOf (W := 0) (own_sbA l Z a0 hw [] b105 sh cs d106 ([] : List Int32) (List.replicate 16 (0 : Int32)) sd (own_shown HB) T106.heap n0 (Nat.le_trans Z0 Kc106.1) (own_sta_keep CS Kc106 (fun _ _ _ _ => nin0)) hcs Eb106 Fv106 Fc106 Fn106 V106 Ed106 ((Fcsh.ext E105).keep K106 (ninS ne_sh_b105 nin0)) ((Fvsh.ext E105).keep K106 (ninS ne_sh_b105 nin0)) ((Vsh.ext E105).keep K106 (ninS ne_sd_b105 nin0)) ((Esh.ext E105).keep K106) (own_shownB hbh) (by have q := own_shownL HB; omega) (by simp only [List.length_append, List.length_cons, List.length_nil, own_dec_len]; have q1 := own_szr po; have q2 := own_szr db; have q3 := own_shownL HB; omega) (Or.inl rfl) (fun _ q => nomatch q) (own_by.rep 16) g_b105 g_d106 ne_b105_d106) hZ (own_w hw 125 rfl) (own_w hw 105 rfl) (by decide) (by decide)) q107a q107c (g := (mkF m 55 #[own_r a1, own_r sh] [.ref sh, .ref b105])) rfl (by rw [hml]; rfl) (Steps.refl _) (argsL := [.ref sh]) (rest := []) (lenOf own_pd29 rfl) rfl (by exact own_ca rfl) (hb hby d11_55) (fun _ _ => ⟨rfl, rfl, (by decide : 16 + 1 ≤ _), (by decide : 240 + 34 ≤ _)⟩)
    dsimp only [Pt.U, Pt.locs, Pt.cells, Pt.slots] at X107 l107 y107 z107 st107 hQ107
    subst l107 y107 z107
    obtain ⟨rfl, N107q, K107, d107, PX107, hD107, hcap107, hbx107, Eb107, Fv107, Fc107, Fn107, V107, Ed107⟩ := hQ107
    have ne_b105_d107 : b105 ≠ d107 := by rcases hD107 with q | q; exact q ▸ ne_b105_d106; exact Nat.ne_of_lt (Nat.lt_of_lt_of_le Eb106.lt q)
    have ne_o1_d107 : o1 ≠ d107 := by rcases hD107 with q | q; exact q ▸ ne_o1_d106; exact Nat.ne_of_lt (Nat.lt_of_lt_of_le (O1.keep Kc106 nin0).lt q)
    have ne_o2_d107 : o2 ≠ d107 := by rcases hD107 with q | q; exact q ▸ ne_o2_d106; exact Nat.ne_of_lt (Nat.lt_of_lt_of_le (O2.keep Kc106 nin0).lt q)
    have hCR107 := hCR106.trans (CHr.keep K107 (sfS (Safe.exa hZ.alike Eb106 (by decide) (by decide)) (sfS Sfn106 sf0)) hCR106.1)
    have Sf107_d106 := Safe.keep K107 (sfS (Safe.exa hZ.alike Eb106 (by decide) (by decide)) (sfS Sfn106 sf0)) hCR106.1 Sfn106
    have Kc107 : Keep h0 T107.heap [] := Kc106.trans K107 (allS (Or.inr sz_b105) (allS (Or.inr sz_d106) all0))
    have g_d107 : n0 ≤ d107 := by rcases hD107 with q | q; exact q ▸ g_d106; exact Nat.le_trans Z0 (Nat.le_trans Kc106.1 q)
    have sz_d107 : h0.size ≤ d107 := by rcases hD107 with q | q; exact q ▸ sz_d106; exact Nat.le_trans Kc106.1 q
    have Sfn107 := own_sfD Sf107_d106 hD107 K107 (sfS (Safe.exa hZ.alike Eb106 (by decide) (by decide)) (sfS Sfn106 sf0)) hCR106.1
    have N107 := Fr.app N106 N107q
    refine own_s T107 m 58 #[own_r a1, own_r sh] [.ref b105] (fun t k => st107.trans k) ?_
    obtain ⟨b108, T108, h108, kS108, d108, kc108, X108, e108, E108, hS108, hk108, hZ, hown, A108, Fc108, Fv108, Va108, -, -, cr108, -, sfx108, st108⟩ := ldcCH X107 hx hZ hown (own_w hw 70 rfl) (own_wS hw) rfl hSj104 (Nat.le_trans (Nat.le_trans (Nat.le_trans hkj104 E105.1) K106.1) K107.1) (own_hEL hw) (List.mem_of_getElem? (i := 1) rfl) hCR107.1 (vs := [(.int 58)]) (z := (1 : Int32)) ⟨by decide, by decide⟩ (by decide) (by decide) (g := (mkF m 58 #[own_r a1, own_r sh] [.ref b105])) rfl (hb hby d11_58) (n := 4) (by decide) (by decide) (by decide) (by decide)
    have Sx108_d107 := CHr.safe cr108 Ed107.lt Sfn107
    have nex108_d107 := sfx108 d107 Sx108_d107
    have hCR108 := hCR107.trans cr108
    have Kc108 : Keep h0 h108 [] := Kc107.ext E108
    have V108 : own_Ar Z h108 d108 .byte [(.int 58)] := own_Ar.ofArv Va108 (by decide)
    refine own_s T108 m 60 #[own_r a1, own_r sh] [.ref b108, .ref b105] (fun t k => st108 _ k) ?_
    obtain ⟨cq109, kq109, q109a, q109b, q109c⟩ := isOf hZ e108 (Eb107.ext E108)
    obtain ⟨v109, _, ⟨T109, L109, k109, n109⟩, -, X109, ⟨Lc109, hQ109, l109, y109, z109⟩, st109⟩ := X108.virtualBack hx (y := own_n20) (z := own_n20) hown (mvT hZ (own_w hw 121 rfl)) (mvT hZ (own_w hw 122 rfl)) (notFace_of_selects (args := #[]) (mvT hZ (own_w hw 124 rfl))) (mvT hZ (own_w hw 124 rfl)) (mvT hZ (own_w hw 123 rfl)) (by decide) (backOf (W := 0) (own_sbA l Z a0 hw [] b105 b108 cs d107 (([] : List Int32) ++ (own_shown HB)) PX107 d108 [(58 : Int32)] h108 n0 (Nat.le_trans Z0 Kc108.1) (own_sta_keep CS Kc108 (fun _ _ _ _ => nin0)) hcs (Eb107.ext E108) (Fv107.ext E108) (Fc107.ext E108) (Fn107.ext E108) (V107.ext E108) (Ed107.ext E108) Fc108 Fv108 V108 A108 (by intro x hx; rcases List.mem_singleton.mp hx with rfl; decide) (by decide) (by simp only [List.length_append, List.length_cons, List.length_nil, own_dec_len]; have q1 := own_szr po; have q2 := own_szr db; have q3 := own_shownL HB; omega) hcap107 (own_by.app (fun _ q => nomatch q) (own_shownB hbh)) hbx107 g_b105 g_d107 ne_b105_d107) hZ (own_w hw 125 rfl) (own_w hw 105 rfl) (by decide) (by decide)) q109a q109c (g := (mkF m 60 #[own_r a1, own_r sh] [.ref b108, .ref b105])) rfl (by rw [hml]; rfl) (Steps.refl _) (argsL := [.ref b108]) (rest := []) (lenOf own_pd29 rfl) rfl (by exact own_ca rfl) (hb hby d11_60) (fun _ _ => ⟨rfl, e108, (by decide : 19 + 1 ≤ _), (by decide : 282 + 34 ≤ _)⟩)
    dsimp only [Pt.U, Pt.locs, Pt.cells, Pt.slots] at X109 l109 y109 z109 st109 hQ109
    subst l109 y109 z109
    obtain ⟨rfl, N109q, K109, d109, PX109, hD109, hcap109, hbx109, Eb109, Fv109, Fc109, Fn109, V109, Ed109⟩ := hQ109
    have ne_b105_d109 : b105 ≠ d109 := by rcases hD109 with q | q; exact q ▸ ne_b105_d107; exact Nat.ne_of_lt (Nat.lt_of_lt_of_le (Eb107.ext E108).lt q)
    have ne_o1_d109 : o1 ≠ d109 := by rcases hD109 with q | q; exact q ▸ ne_o1_d107; exact Nat.ne_of_lt (Nat.lt_of_lt_of_le (O1.keep Kc108 nin0).lt q)
    have ne_o2_d109 : o2 ≠ d109 := by rcases hD109 with q | q; exact q ▸ ne_o2_d107; exact Nat.ne_of_lt (Nat.lt_of_lt_of_le (O2.keep Kc108 nin0).lt q)
    have hCR109 := hCR108.trans (CHr.keep K109 (sfS (Safe.exa hZ.alike (Eb107.ext E108) (by decide) (by decide)) (sfS Sx108_d107 sf0)) hCR108.1)
    have Sf109_d107 := Safe.keep K109 (sfS (Safe.exa hZ.alike (Eb107.ext E108) (by decide) (by decide)) (sfS Sx108_d107 sf0)) hCR108.1 Sx108_d107
    have Kc109 : Keep h0 T109.heap [] := Kc108.trans K109 (allS (Or.inr sz_b105) (allS (Or.inr sz_d107) all0))
    have g_d109 : n0 ≤ d109 := by rcases hD109 with q | q; exact q ▸ g_d107; exact Nat.le_trans Z0 (Nat.le_trans Kc108.1 q)
    have sz_d109 : h0.size ≤ d109 := by rcases hD109 with q | q; exact q ▸ sz_d107; exact Nat.le_trans Kc108.1 q
    have Sfn109 := own_sfD Sf109_d107 hD109 K109 (sfS (Safe.exa hZ.alike (Eb107.ext E108) (by decide) (by decide)) (sfS Sx108_d107 sf0)) hCR108.1
    have N109 := Fr.app N107 N109q
    refine own_s T109 m 64 #[own_r a1, own_r sh] [.ref a1, .ref b105] (fun t k => st109.trans (XS.aloadN X109.here hx rfl (hb hby d11_63) rfl (rfl) k)) ?_
    obtain ⟨T110, X110, e110, st110⟩ := getF X109 hx hZ hown (host := "") (Or.inl (own_w hw 57 rfl)) Via.refl rfl (Fp.keep Kc109 nin0) (g := (mkF m 64 #[own_r a1, own_r sh] [.ref a1, .ref b105])) rfl rfl (hb hby d11_64)
    refine own_s T110 m 67 #[own_r a1, own_r sh] [.int po, .ref b105] (fun t k => st110 _ k) ?_
    obtain ⟨cq111, kq111, q111a, q111b, q111c⟩ := isOf hZ e110 Eb109
    obtain ⟨v111, _, ⟨T111, L111, k111, n111⟩, -, X111, ⟨Lc111, hQ111, l111, y111, z111⟩, st111⟩ := X110.virtualBack hx (y := own_n34) (z := own_n34) hown (mvT hZ (own_w hw 163 rfl)) (mvT hZ (own_w hw 164 rfl)) (notFace_of_selects (args := #[]) (mvT hZ (own_w hw 166 rfl))) (mvT hZ (own_w hw 166 rfl)) (mvT hZ (own_w hw 165 rfl)) (by decide) (backOf (W := 0) (own_sbI l Z a0 hw [] b105 po cs d109 ((([] : List Int32) ++ (own_shown HB)) ++ [(58 : Int32)]) PX109 o1 o2 D1 D2 T109.heap n0 (Nat.le_trans Z0 Kc109.1) (own_sta_keep CS Kc109 (fun _ _ _ _ => nin0)) hcs Eb109 Fv109 Fc109 Fn109 V109 Ed109 (by simp only [List.length_append, List.length_cons, List.length_nil, own_dec_len]; have q1 := own_szr po; have q2 := own_szr db; have q3 := own_shownL HB; omega) ne_o1_d109 ne_o2_d109 hcap109 (own_by.app (own_by.app (fun _ q => nomatch q) (own_shownB hbh)) (by intro x hx; rcases List.mem_singleton.mp hx with rfl; decide)) hbx109 g_b105 g_d109 ne_b105_d109 (own_sta_keep S1 Kc109 (fun _ _ _ _ => nin0)) (own_sta_keep S2 Kc109 (fun _ _ _ _ => nin0)) (O1.keep Kc109 nin0) (O2.keep Kc109 nin0) hD1 hD2) hZ (own_w hw 167 rfl) (own_w hw 105 rfl) (by decide) (by decide)) q111a q111c (g := (mkF m 67 #[own_r a1, own_r sh] [.int po, .ref b105])) rfl (by rw [hml]; rfl) (Steps.refl _) (argsL := [.int po]) (rest := []) (lenOf own_pd30 rfl) rfl (by exact own_ca rfl) (hb hby d11_67) (fun _ _ => ⟨rfl, e110, (by decide : 20 + 1 ≤ _), (by decide : 316 + 34 ≤ _)⟩)
    dsimp only [Pt.U, Pt.locs, Pt.cells, Pt.slots] at X111 l111 y111 z111 st111 hQ111
    subst l111 y111 z111
    obtain ⟨rfl, N111q, K111, d111, PX111, hD111, hcap111, hbx111, Eb111, Fv111, Fc111, Fn111, V111, Ed111⟩ := hQ111
    have ne_b105_d111 : b105 ≠ d111 := by rcases hD111 with q | q; exact q ▸ ne_b105_d109; exact Nat.ne_of_lt (Nat.lt_of_lt_of_le Eb109.lt q)
    have ne_o1_d111 : o1 ≠ d111 := by rcases hD111 with q | q; exact q ▸ ne_o1_d109; exact Nat.ne_of_lt (Nat.lt_of_lt_of_le (O1.keep Kc109 nin0).lt q)
    have ne_o2_d111 : o2 ≠ d111 := by rcases hD111 with q | q; exact q ▸ ne_o2_d109; exact Nat.ne_of_lt (Nat.lt_of_lt_of_le (O2.keep Kc109 nin0).lt q)
    have hCR111 := hCR109.trans (CHr.keep K111 (sfS (Safe.exa hZ.alike Eb109 (by decide) (by decide)) (sfS Sfn109 sf0)) hCR109.1)
    have Sf111_d109 := Safe.keep K111 (sfS (Safe.exa hZ.alike Eb109 (by decide) (by decide)) (sfS Sfn109 sf0)) hCR109.1 Sfn109
    have Kc111 : Keep h0 T111.heap [] := Kc109.trans K111 (allS (Or.inr sz_b105) (allS (Or.inr sz_d109) all0))
    have g_d111 : n0 ≤ d111 := by rcases hD111 with q | q; exact q ▸ g_d109; exact Nat.le_trans Z0 (Nat.le_trans Kc109.1 q)
    have sz_d111 : h0.size ≤ d111 := by rcases hD111 with q | q; exact q ▸ sz_d109; exact Nat.le_trans Kc109.1 q
    have Sfn111 := own_sfD Sf111_d109 hD111 K111 (sfS (Safe.exa hZ.alike Eb109 (by decide) (by decide)) (sfS Sfn109 sf0)) hCR109.1
    have N111 := Fr.app N109 N111q
    refine own_s T111 m 71 #[own_r a1, own_r sh] [.ref a1, .ref b105] (fun t k => st111.trans (XS.aloadN X111.here hx rfl (hb hby d11_70) rfl (rfl) k)) ?_
    obtain ⟨T112, X112, e112, st112⟩ := getF X111 hx hZ hown (host := "") (Or.inl (own_w hw 63 rfl)) Via.refl rfl (Fd.keep Kc111 nin0) (g := (mkF m 71 #[own_r a1, own_r sh] [.ref a1, .ref b105])) rfl rfl (hb hby d11_71)
    refine own_s T112 m 74 #[own_r a1, own_r sh] [.int db, .ref b105] (fun t k => st112 _ k) ?_
    by_cases hc74_113 : db = 0
    · refine own_s T112 m 77 #[own_r a1, own_r sh] [.ref b105] (fun t k => XS.ifNo X112.here hx rfl (hb hby d11_74) rfl (XT.i0_ne_f hc74_113) k) ?_
      obtain ⟨b114, T114, h114, kS114, d114, kc114, X114, e114, E114, hS114, hk114, hZ, hown, A114, Fc114, Fv114, Va114, -, -, cr114, -, sfx114, st114⟩ := ldcCH X112 hx hZ hown (own_w hw 302 rfl) (own_wS hw) e112 hS108 (Nat.le_trans (Nat.le_trans hk108 K109.1) K111.1) (own_hEL hw) (List.mem_of_getElem? (i := 4) rfl) hCR111.1 (vs := []) (z := (0 : Int32)) ⟨by decide, by decide⟩ (by decide) (by decide) (g := (mkF m 77 #[own_r a1, own_r sh] [.ref b105])) rfl (hb hby d11_77) (n := 0) (by decide) (by decide) (by decide) (by decide)
      have Sx114_d111 := CHr.safe cr114 Ed111.lt Sfn111
      have nex114_d111 := sfx114 d111 Sx114_d111
      have hCR114 := hCR111.trans cr114
      have Kc114 : Keep h0 h114 [] := Kc111.ext E114
      have V114 : own_Ar Z h114 d114 .byte [] := own_Ar.ofArv Va114 (by decide)
      refine own_s T114 m 104 #[own_r a1, own_r sh] [.ref b114, .ref b105] (fun t k => st114 _ (XS.goto X114.here hx rfl (pc0 := 79) (pc' := 104) rfl (hb hby d11_79) (by decide) (by decide) k)) ?_
      obtain ⟨cq115, kq115, q115a, q115b, q115c⟩ := isOf hZ e114 (Eb111.ext E114)
      obtain ⟨v115, _, ⟨T115, L115, k115, n115⟩, -, X115, ⟨Lc115, hQ115, l115, y115, z115⟩, st115⟩ := X114.virtualBack hx (y := own_n20) (z := own_n20) hown (mvT hZ (own_w hw 121 rfl)) (mvT hZ (own_w hw 122 rfl)) (notFace_of_selects (args := #[]) (mvT hZ (own_w hw 124 rfl))) (mvT hZ (own_w hw 124 rfl)) (mvT hZ (own_w hw 123 rfl)) (by decide) (backOf (W := 0) (own_sbA l Z a0 hw [] b105 b114 cs d111 (((([] : List Int32) ++ (own_shown HB)) ++ [(58 : Int32)]) ++ own_dec po) PX111 d114 ([] : List Int32) h114 n0 (Nat.le_trans Z0 Kc114.1) (own_sta_keep CS Kc114 (fun _ _ _ _ => nin0)) hcs (Eb111.ext E114) (Fv111.ext E114) (Fc111.ext E114) (Fn111.ext E114) (V111.ext E114) (Ed111.ext E114) Fc114 Fv114 V114 A114 (fun _ q => nomatch q) (by decide) (by simp only [List.length_append, List.length_cons, List.length_nil, own_dec_len]; have q1 := own_szr po; have q2 := own_szr db; have q3 := own_shownL HB; omega) hcap111 (own_by.app (own_by.app (own_by.app (fun _ q => nomatch q) (own_shownB hbh)) (by intro x hx; rcases List.mem_singleton.mp hx with rfl; decide)) (own_dec_by po)) hbx111 g_b105 g_d111 ne_b105_d111) hZ (own_w hw 125 rfl) (own_w hw 105 rfl) (by decide) (by decide)) q115a q115c (g := (mkF m 104 #[own_r a1, own_r sh] [.ref b114, .ref b105])) rfl (by rw [hml]; rfl) (Steps.refl _) (argsL := [.ref b114]) (rest := []) (lenOf own_pd29 rfl) rfl (by exact own_ca rfl) (hb hby d11_104) (fun _ _ => ⟨rfl, e114, (by decide : 23 + 1 ≤ _), (by decide : 354 + 34 ≤ _)⟩)
      dsimp only [Pt.U, Pt.locs, Pt.cells, Pt.slots] at X115 l115 y115 z115 st115 hQ115
      subst l115 y115 z115
      obtain ⟨rfl, N115q, K115, d115, PX115, hD115, hcap115, hbx115, Eb115, Fv115, Fc115, Fn115, V115, Ed115⟩ := hQ115
      have ne_b105_d115 : b105 ≠ d115 := by rcases hD115 with q | q; exact q ▸ ne_b105_d111; exact Nat.ne_of_lt (Nat.lt_of_lt_of_le (Eb111.ext E114).lt q)
      have ne_o1_d115 : o1 ≠ d115 := by rcases hD115 with q | q; exact q ▸ ne_o1_d111; exact Nat.ne_of_lt (Nat.lt_of_lt_of_le (O1.keep Kc114 nin0).lt q)
      have ne_o2_d115 : o2 ≠ d115 := by rcases hD115 with q | q; exact q ▸ ne_o2_d111; exact Nat.ne_of_lt (Nat.lt_of_lt_of_le (O2.keep Kc114 nin0).lt q)
      have hCR115 := hCR114.trans (CHr.keep K115 (sfS (Safe.exa hZ.alike (Eb111.ext E114) (by decide) (by decide)) (sfS Sx114_d111 sf0)) hCR114.1)
      have Sf115_d111 := Safe.keep K115 (sfS (Safe.exa hZ.alike (Eb111.ext E114) (by decide) (by decide)) (sfS Sx114_d111 sf0)) hCR114.1 Sx114_d111
      have Kc115 : Keep h0 T115.heap [] := Kc114.trans K115 (allS (Or.inr sz_b105) (allS (Or.inr sz_d111) all0))
      have g_d115 : n0 ≤ d115 := by rcases hD115 with q | q; exact q ▸ g_d111; exact Nat.le_trans Z0 (Nat.le_trans Kc114.1 q)
      have sz_d115 : h0.size ≤ d115 := by rcases hD115 with q | q; exact q ▸ sz_d111; exact Nat.le_trans Kc114.1 q
      have Sfn115 := own_sfD Sf115_d111 hD115 K115 (sfS (Safe.exa hZ.alike (Eb111.ext E114) (by decide) (by decide)) (sfS Sx114_d111 sf0)) hCR114.1
      have N115 := Fr.app N111 N115q
      refine own_s T115 m 107 #[own_r a1, own_r sh] [.ref b105] (fun t k => st115.trans k) ?_
      obtain ⟨cq116, kq116, q116a, q116b, q116c⟩ := isOf hZ rfl Eb115
      obtain ⟨v116, _, ⟨T116, L116, k116, n116⟩, -, X116, ⟨Lc116, hQ116, l116, y116, z116⟩, st116⟩ := X115.virtualBack hx (y := own_n30) (z := own_n30) hown (mvT hZ (own_w hw 186 rfl)) (mvT hZ (own_w hw 187 rfl)) (notFace_of_selects (args := #[]) (mvT hZ (own_w hw 189 rfl))) (mvT hZ (own_w hw 189 rfl)) (mvT hZ (own_w hw 188 rfl)) (by decide) (backOf (W := 0) (own_rm32 l Z a0 hw [] b105 cs d115 ((((([] : List Int32) ++ (own_shown HB)) ++ [(58 : Int32)]) ++ own_dec po) ++ ([] : List Int32)) PX115 T115.heap n0 (Nat.le_trans Z0 Kc115.1) (own_sta_keep CS Kc115 (fun _ _ _ _ => nin0)) hcs Eb115 Fv115 Fc115 Fn115 V115 Ed115 (own_by.app (own_by.app (own_by.app (own_by.app (own_by.app (fun _ q => nomatch q) (own_shownB hbh)) (by intro x hx; rcases List.mem_singleton.mp hx with rfl; decide)) (own_dec_by po)) (fun _ q => nomatch q)) hbx115) (by rcases hcap115 with q | q <;> rw [q] <;> decide)) hZ (own_w hw 190 rfl) (own_w hw 105 rfl) (by decide) (by decide)) q116a q116c (g := (mkF m 107 #[own_r a1, own_r sh] [.ref b105])) rfl (by rw [hml]; rfl) (Steps.refl _) (argsL := []) (rest := []) (lenOf own_pd25 rfl) rfl (by exact own_ca rfl) (hb hby d11_107) (fun _ _ => ⟨rfl, rfl, (by decide : 24 + 2 ≤ _), (by decide : 388 + 38 ≤ _)⟩)
      dsimp only [Pt.U, Pt.locs, Pt.cells, Pt.slots] at X116 l116 y116 z116 st116 hQ116
      subst l116 y116 z116
      obtain ⟨r116, e116x, rfl, N116q, szr116, szq116, K116, A116, Fc116, Fv116, V116⟩ := hQ116
      have ne_o1_r116 := own_ne (O1.keep Kc115 nin0).lt szr116
      have ne_o1_e116x := own_ne (O1.keep Kc115 nin0).lt szq116
      have ne_o2_r116 := own_ne (O2.keep Kc115 nin0).lt szr116
      have ne_o2_e116x := own_ne (O2.keep Kc115 nin0).lt szq116
      have ne_a1_r116 := own_ne (E_a1.keep Kc115).lt szr116
      have ne_a1_e116x := own_ne (E_a1.keep Kc115).lt szq116
      have ne_ha_r116 := own_ne (Fch.keep Kc115 nin0).lt szr116
      have ne_ha_e116x := own_ne (Fch.keep Kc115 nin0).lt szq116
      have ne_hd_r116 := own_ne (Abh.keep Kc115 nin0).lt szr116
      have ne_hd_e116x := own_ne (Abh.keep Kc115 nin0).lt szq116
      have ne_sh_r116 := own_ne ((((((((Esh.ext E105).keep K106).keep K107).ext E108).keep K109).keep K111).ext E114).keep K115).lt szr116
      have ne_sh_e116x := own_ne ((((((((Esh.ext E105).keep K106).keep K107).ext E108).keep K109).keep K111).ext E114).keep K115).lt szq116
      have ne_b105_r116 := own_ne Eb115.lt szr116
      have ne_b105_e116x := own_ne Eb115.lt szq116
      have ne_d115_r116 := own_ne V115.lt szr116
      have ne_d115_e116x := own_ne V115.lt szq116
      have hCR116 := hCR115.trans (CHr.keep K116 sf0 hCR115.1)
      have Sf116_d115 := Safe.keep K116 sf0 hCR115.1 Sfn115
      have Kc116 : Keep h0 T116.heap [] := Kc115.trans K116 all0
      have N116 := Fr.app N115 N116q
      refine own_s T116 m 110 #[own_r a1, own_r sh] [.ref r116] (fun t k => st116.trans k) ?_
      have eE : T116.heap = T116.heap := rfl
      exact own_retAH X116 hS114 (by rw [(rfl : T116.heap = T116.heap)]; exact (Nat.le_trans (Nat.le_trans hk114 K115.1) K116.1)) hx hlk (rfl) Bd.returns rfl (hb hby d11_110) (hCR := (by rw [hh, (rfl : T116.heap = T116.heap)]; exact hCR116.trans (CHv.at X116 hZ (own_hEL hw) hCR116.1))) ⟨r116, e116x, rfl, N116, (by rw [eE]; exact Kc116), (by rw [eE]; exact A116), (by rw [eE]; exact Fc116), (by rw [eE]; exact Fv116), (by rw [eE, own_str, if_pos hc74_113]; exact V116)⟩ (by decide) (by decide)
    · refine own_s T112 m 82 #[own_r a1, own_r sh] [.ref b105] (fun t k => XS.ifYes X112.here hx rfl (pc0 := 74) (pc' := 82) rfl (hb hby d11_74) rfl (XT.i0_ne_t hc74_113) (by decide) (by decide) k) ?_
      obtain ⟨T117, h117, X117, e117, E117, A117, D117, -, st117⟩ := newO X112 hx hZ hown (own_w hw 103 rfl) (own_w hw 104 rfl) (own_w hw 105 rfl) e112 (g := (mkF m 82 #[own_r a1, own_r sh] [.ref b105])) rfl (hb hby d11_82) (by decide) (by decide)
      obtain ⟨b117, g117⟩ : ∃ z, z = T111.heap.size := ⟨_, rfl⟩
      rw [← g117] at A117 D117 st117
      have ne_o1_b117 := own_ne (O1.keep Kc111 nin0).lt (Nat.le_of_eq g117.symm)
      have ne_o2_b117 := own_ne (O2.keep Kc111 nin0).lt (Nat.le_of_eq g117.symm)
      have ne_a1_b117 := own_ne (E_a1.keep Kc111).lt (Nat.le_of_eq g117.symm)
      have ne_ha_b117 := own_ne (Fch.keep Kc111 nin0).lt (Nat.le_of_eq g117.symm)
      have ne_hd_b117 := own_ne (Abh.keep Kc111 nin0).lt (Nat.le_of_eq g117.symm)
      have ne_sh_b117 := own_ne ((((((Esh.ext E105).keep K106).keep K107).ext E108).keep K109).keep K111).lt (Nat.le_of_eq g117.symm)
      have ne_b105_b117 := own_ne Eb111.lt (Nat.le_of_eq g117.symm)
      have ne_d111_b117 := own_ne V111.lt (Nat.le_of_eq g117.symm)
      have sz_b117 : h0.size ≤ b117 := Nat.le_trans Kc111.1 (Nat.le_of_eq g117.symm)
      have g_b117 : n0 ≤ b117 := Nat.le_trans Z0 sz_b117
      have hCR117 := hCR111.trans (CHr.ext E117 hCR111.1)
      have Sf117_d111 := Safe.ext E117 hCR111.1 Sfn111
      have Kc117 : Keep h0 h117 [] := Kc111.ext E117
      have F117_118 : Fld Z h117 b117 "java/lang/AbstractStringBuilder" "value" "[B" .null := D117 (Or.inl (own_w hw 118 rfl)) (ty := (.array .byte)) (by decide)
      have F117_120 : Fld Z h117 b117 "java/lang/AbstractStringBuilder" "coder" "B" (.int 0) := D117 (Or.inl (own_w hw 120 rfl)) (ty := .byte) (by decide)
      have F117_137 : Fld Z h117 b117 "java/lang/AbstractStringBuilder" "count" "I" (.int 0) := D117 (Or.inl (own_w hw 137 rfl)) (ty := .int) (by decide)
      refine own_s T117 m 86 #[own_r a1, own_r sh] [.ref b117, .ref b117, .ref b105] (fun t k => st117 _ (XS.dup X117.here hx rfl (hb hby d11_85) rfl (rfl) k)) ?_
      obtain ⟨v118, _, ⟨T118, L118, k118, n118⟩, -, X118, ⟨Lc118, hQ118, l118, y118, z118⟩, st118⟩ := X117.specialBack hx (y := own_n11) rfl hown (mvT hZ (own_w hw 106 rfl)) (mvT hZ (own_w hw 107 rfl)) (mvT hZ (own_w hw 108 rfl)) (by decide) (backOf (W := 2) (own_rm18 l Z a0 hw [] b117 cs h117 n0 (Nat.le_trans Z0 Kc117.1) A117 F117_118 F117_120 F117_137 g_b117 (own_sta_keep CS Kc117 (fun _ _ _ _ => nin0)) hcs) hZ (own_w hw 108 rfl) (own_w hw 105 rfl) (by decide) (by decide)) (g := (mkF m 86 #[own_r a1, own_r sh] [.ref b117, .ref b117, .ref b105])) rfl (by rw [hml]; rfl) (Steps.refl _) (a := b117) (argsL := []) (rest := [.ref b117, .ref b105]) (lenOf own_pd27 rfl) rfl (by exact own_ca rfl) (hb hby d11_86) (fun _ _ => ⟨rfl, e117, (by decide : 22 + 1 ≤ _), (by decide : 354 + 16 ≤ _)⟩)
      dsimp only [Pt.U, Pt.locs, Pt.cells, Pt.slots] at X118 l118 y118 z118 st118 hQ118
      subst l118 y118 z118
      obtain ⟨rfl, N118q, K118, d118, szq118, Eb118, Fv118, Fc118, Fn118, V118, Ed118⟩ := hQ118
      have ne_o1_d118 := own_ne (O1.keep Kc117 nin0).lt szq118
      have ne_o2_d118 := own_ne (O2.keep Kc117 nin0).lt szq118
      have ne_a1_d118 := own_ne (E_a1.keep Kc117).lt szq118
      have ne_ha_d118 := own_ne (Fch.keep Kc117 nin0).lt szq118
      have ne_hd_d118 := own_ne (Abh.keep Kc117 nin0).lt szq118
      have ne_sh_d118 := own_ne (((((((Esh.ext E105).keep K106).keep K107).ext E108).keep K109).keep K111).ext E117).lt szq118
      have ne_b105_d118 := own_ne (Eb111.ext E117).lt szq118
      have ne_d111_d118 := own_ne (V111.ext E117).lt szq118
      have ne_b117_d118 := own_ne A117.lt szq118
      have Sfn118 := Safe.keep K118 (sfS (Safe.exa hZ.alike A117 (by decide) (by decide)) sf0) hCR117.1 (Safe.new szq118)
      have hCR118 := hCR117.trans (CHr.keep K118 (sfS (Safe.exa hZ.alike A117 (by decide) (by decide)) sf0) hCR117.1)
      have Sf118_d111 := Safe.keep K118 (sfS (Safe.exa hZ.alike A117 (by decide) (by decide)) sf0) hCR117.1 Sf117_d111
      have Kc118 : Keep h0 T118.heap [] := Kc117.trans K118 (allS (Or.inr sz_b117) all0)
      have sz_d118 : h0.size ≤ d118 := Nat.le_trans Kc117.1 szq118
      have g_d118 : n0 ≤ d118 := Nat.le_trans Z0 sz_d118
      have N118 := Fr.app N111 N118q
      refine own_s T118 m 89 #[own_r a1, own_r sh] [.ref b117, .ref b105] (fun t k => st118.trans k) ?_
      obtain ⟨b119, T119, h119, kS119, d119, kc119, X119, e119, E119, hS119, hk119, hZ, hown, A119, Fc119, Fv119, Va119, -, -, cr119, -, sfx119, st119⟩ := ldcCH X118 hx hZ hown (own_w hw 185 rfl) (own_wS hw) rfl hS108 (Nat.le_trans (Nat.le_trans (Nat.le_trans (Nat.le_trans hk108 K109.1) K111.1) E117.1) K118.1) (own_hEL hw) (List.mem_of_getElem? (i := 0) rfl) hCR118.1 (vs := [(.int 47)]) (z := (1 : Int32)) ⟨by decide, by decide⟩ (by decide) (by decide) (g := (mkF m 89 #[own_r a1, own_r sh] [.ref b117, .ref b105])) rfl (hb hby d11_89) (n := 4) (by decide) (by decide) (by decide) (by decide)
      have Sx119_d111 := CHr.safe cr119 ((Ed111.ext E117).keep K118).lt Sf118_d111
      have nex119_d111 := sfx119 d111 Sx119_d111
      have Sx119_d118 := CHr.safe cr119 Ed118.lt Sfn118
      have nex119_d118 := sfx119 d118 Sx119_d118
      have hCR119 := hCR118.trans cr119
      have Kc119 : Keep h0 h119 [] := Kc118.ext E119
      have V119 : own_Ar Z h119 d119 .byte [(.int 47)] := own_Ar.ofArv Va119 (by decide)
      refine own_s T119 m 91 #[own_r a1, own_r sh] [.ref b119, .ref b117, .ref b105] (fun t k => st119 _ k) ?_
      obtain ⟨cq120, kq120, q120a, q120b, q120c⟩ := isOf hZ e119 (Eb118.ext E119)
      obtain ⟨v120, _, ⟨T120, L120, k120, n120⟩, -, X120, ⟨Lc120, hQ120, l120, y120, z120⟩, st120⟩ := X119.virtualBack hx (y := own_n20) (z := own_n20) hown (mvT hZ (own_w hw 121 rfl)) (mvT hZ (own_w hw 122 rfl)) (notFace_of_selects (args := #[]) (mvT hZ (own_w hw 124 rfl))) (mvT hZ (own_w hw 124 rfl)) (mvT hZ (own_w hw 123 rfl)) (by decide) (backOf (W := 1) (own_sbA l Z a0 hw [] b117 b119 cs d118 ([] : List Int32) (List.replicate 16 (0 : Int32)) d119 [(47 : Int32)] h119 n0 (Nat.le_trans Z0 Kc119.1) (own_sta_keep CS Kc119 (fun _ _ _ _ => nin0)) hcs (Eb118.ext E119) (Fv118.ext E119) (Fc118.ext E119) (Fn118.ext E119) (V118.ext E119) (Ed118.ext E119) Fc119 Fv119 V119 A119 (by intro x hx; rcases List.mem_singleton.mp hx with rfl; decide) (by decide) (by simp only [List.length_append, List.length_cons, List.length_nil, own_dec_len]; have q1 := own_szr po; have q2 := own_szr db; have q3 := own_shownL HB; omega) (Or.inl rfl) (fun _ q => nomatch q) (own_by.rep 16) g_b117 g_d118 ne_b117_d118) hZ (own_w hw 125 rfl) (own_w hw 105 rfl) (by decide) (by decide)) q120a q120c (g := (mkF m 91 #[own_r a1, own_r sh] [.ref b119, .ref b117, .ref b105])) rfl (by rw [hml]; rfl) (Steps.refl _) (argsL := [.ref b119]) (rest := [.ref b105]) (lenOf own_pd29 rfl) rfl (by exact own_ca rfl) (hb hby d11_91) (fun _ _ => ⟨rfl, e119, (by decide : 25 + 1 ≤ _), (by decide : 378 + 34 ≤ _)⟩)
      dsimp only [Pt.U, Pt.locs, Pt.cells, Pt.slots] at X120 l120 y120 z120 st120 hQ120
      subst l120 y120 z120
      obtain ⟨rfl, N120q, K120, d120, PX120, hD120, hcap120, hbx120, Eb120, Fv120, Fc120, Fn120, V120, Ed120⟩ := hQ120
      have ne_b117_d120 : b117 ≠ d120 := by rcases hD120 with q | q; exact q ▸ ne_b117_d118; exact Nat.ne_of_lt (Nat.lt_of_lt_of_le (Eb118.ext E119).lt q)
      have ne_o1_d120 : o1 ≠ d120 := by rcases hD120 with q | q; exact q ▸ ne_o1_d118; exact Nat.ne_of_lt (Nat.lt_of_lt_of_le (O1.keep Kc119 nin0).lt q)
      have ne_o2_d120 : o2 ≠ d120 := by rcases hD120 with q | q; exact q ▸ ne_o2_d118; exact Nat.ne_of_lt (Nat.lt_of_lt_of_le (O2.keep Kc119 nin0).lt q)
      have ne_b105_d120 : b105 ≠ d120 := by rcases hD120 with q | q; exact q ▸ ne_b105_d118; exact Nat.ne_of_lt (Nat.lt_of_lt_of_le (((Eb111.ext E117).keep K118).ext E119).lt q)
      have ne_d111_d120 : d111 ≠ d120 := by rcases hD120 with q | q; exact q ▸ ne_d111_d118; exact Nat.ne_of_lt (Nat.lt_of_lt_of_le (((V111.ext E117).keep K118 (ninS ne_d111_b117 nin0)).ext E119).lt q)
      have hCR120 := hCR119.trans (CHr.keep K120 (sfS (Safe.exa hZ.alike (Eb118.ext E119) (by decide) (by decide)) (sfS Sx119_d118 sf0)) hCR119.1)
      have Sf120_d111 := Safe.keep K120 (sfS (Safe.exa hZ.alike (Eb118.ext E119) (by decide) (by decide)) (sfS Sx119_d118 sf0)) hCR119.1 Sx119_d111
      have Sf120_d118 := Safe.keep K120 (sfS (Safe.exa hZ.alike (Eb118.ext E119) (by decide) (by decide)) (sfS Sx119_d118 sf0)) hCR119.1 Sx119_d118
      have Kc120 : Keep h0 T120.heap [] := Kc119.trans K120 (allS (Or.inr sz_b117) (allS (Or.inr sz_d118) all0))
      have g_d120 : n0 ≤ d120 := by rcases hD120 with q | q; exact q ▸ g_d118; exact Nat.le_trans Z0 (Nat.le_trans Kc119.1 q)
      have sz_d120 : h0.size ≤ d120 := by rcases hD120 with q | q; exact q ▸ sz_d118; exact Nat.le_trans Kc119.1 q
      have Sfn120 := own_sfD Sf120_d118 hD120 K120 (sfS (Safe.exa hZ.alike (Eb118.ext E119) (by decide) (by decide)) (sfS Sx119_d118 sf0)) hCR119.1
      have N120 := Fr.app N118 N120q
      refine own_s T120 m 95 #[own_r a1, own_r sh] [.ref a1, .ref b117, .ref b105] (fun t k => st120.trans (XS.aloadN X120.here hx rfl (hb hby d11_94) rfl (rfl) k)) ?_
      obtain ⟨T121, X121, e121, st121⟩ := getF X120 hx hZ hown (host := "") (Or.inl (own_w hw 63 rfl)) Via.refl rfl (Fd.keep Kc120 nin0) (g := (mkF m 95 #[own_r a1, own_r sh] [.ref a1, .ref b117, .ref b105])) rfl rfl (hb hby d11_95)
      refine own_s T121 m 98 #[own_r a1, own_r sh] [.int db, .ref b117, .ref b105] (fun t k => st121 _ k) ?_
      obtain ⟨cq122, kq122, q122a, q122b, q122c⟩ := isOf hZ e121 Eb120
      obtain ⟨v122, _, ⟨T122, L122, k122, n122⟩, -, X122, ⟨Lc122, hQ122, l122, y122, z122⟩, st122⟩ := X121.virtualBack hx (y := own_n34) (z := own_n34) hown (mvT hZ (own_w hw 163 rfl)) (mvT hZ (own_w hw 164 rfl)) (notFace_of_selects (args := #[]) (mvT hZ (own_w hw 166 rfl))) (mvT hZ (own_w hw 166 rfl)) (mvT hZ (own_w hw 165 rfl)) (by decide) (backOf (W := 1) (own_sbI l Z a0 hw [] b117 db cs d120 (([] : List Int32) ++ [(47 : Int32)]) PX120 o1 o2 D1 D2 T120.heap n0 (Nat.le_trans Z0 Kc120.1) (own_sta_keep CS Kc120 (fun _ _ _ _ => nin0)) hcs Eb120 Fv120 Fc120 Fn120 V120 Ed120 (by simp only [List.length_append, List.length_cons, List.length_nil, own_dec_len]; have q1 := own_szr po; have q2 := own_szr db; have q3 := own_shownL HB; omega) ne_o1_d120 ne_o2_d120 hcap120 (own_by.app (fun _ q => nomatch q) (by intro x hx; rcases List.mem_singleton.mp hx with rfl; decide)) hbx120 g_b117 g_d120 ne_b117_d120 (own_sta_keep S1 Kc120 (fun _ _ _ _ => nin0)) (own_sta_keep S2 Kc120 (fun _ _ _ _ => nin0)) (O1.keep Kc120 nin0) (O2.keep Kc120 nin0) hD1 hD2) hZ (own_w hw 167 rfl) (own_w hw 105 rfl) (by decide) (by decide)) q122a q122c (g := (mkF m 98 #[own_r a1, own_r sh] [.int db, .ref b117, .ref b105])) rfl (by rw [hml]; rfl) (Steps.refl _) (argsL := [.int db]) (rest := [.ref b105]) (lenOf own_pd30 rfl) rfl (by exact own_ca rfl) (hb hby d11_98) (fun _ _ => ⟨rfl, e121, (by decide : 26 + 1 ≤ _), (by decide : 412 + 34 ≤ _)⟩)
      dsimp only [Pt.U, Pt.locs, Pt.cells, Pt.slots] at X122 l122 y122 z122 st122 hQ122
      subst l122 y122 z122
      obtain ⟨rfl, N122q, K122, d122, PX122, hD122, hcap122, hbx122, Eb122, Fv122, Fc122, Fn122, V122, Ed122⟩ := hQ122
      have ne_b117_d122 : b117 ≠ d122 := by rcases hD122 with q | q; exact q ▸ ne_b117_d120; exact Nat.ne_of_lt (Nat.lt_of_lt_of_le Eb120.lt q)
      have ne_o1_d122 : o1 ≠ d122 := by rcases hD122 with q | q; exact q ▸ ne_o1_d120; exact Nat.ne_of_lt (Nat.lt_of_lt_of_le (O1.keep Kc120 nin0).lt q)
      have ne_o2_d122 : o2 ≠ d122 := by rcases hD122 with q | q; exact q ▸ ne_o2_d120; exact Nat.ne_of_lt (Nat.lt_of_lt_of_le (O2.keep Kc120 nin0).lt q)
      have ne_b105_d122 : b105 ≠ d122 := by rcases hD122 with q | q; exact q ▸ ne_b105_d120; exact Nat.ne_of_lt (Nat.lt_of_lt_of_le ((((Eb111.ext E117).keep K118).ext E119).keep K120).lt q)
      have ne_d111_d122 : d111 ≠ d122 := by rcases hD122 with q | q; exact q ▸ ne_d111_d120; exact Nat.ne_of_lt (Nat.lt_of_lt_of_le ((((V111.ext E117).keep K118 (ninS ne_d111_b117 nin0)).ext E119).keep K120 (ninS ne_d111_b117 (ninS ne_d111_d118 nin0))).lt q)
      have hCR122 := hCR120.trans (CHr.keep K122 (sfS (Safe.exa hZ.alike Eb120 (by decide) (by decide)) (sfS Sfn120 sf0)) hCR120.1)
      have Sf122_d111 := Safe.keep K122 (sfS (Safe.exa hZ.alike Eb120 (by decide) (by decide)) (sfS Sfn120 sf0)) hCR120.1 Sf120_d111
      have Sf122_d120 := Safe.keep K122 (sfS (Safe.exa hZ.alike Eb120 (by decide) (by decide)) (sfS Sfn120 sf0)) hCR120.1 Sfn120
      have Kc122 : Keep h0 T122.heap [] := Kc120.trans K122 (allS (Or.inr sz_b117) (allS (Or.inr sz_d120) all0))
      have g_d122 : n0 ≤ d122 := by rcases hD122 with q | q; exact q ▸ g_d120; exact Nat.le_trans Z0 (Nat.le_trans Kc120.1 q)
      have sz_d122 : h0.size ≤ d122 := by rcases hD122 with q | q; exact q ▸ sz_d120; exact Nat.le_trans Kc120.1 q
      have Sfn122 := own_sfD Sf122_d120 hD122 K122 (sfS (Safe.exa hZ.alike Eb120 (by decide) (by decide)) (sfS Sfn120 sf0)) hCR120.1
      have N122 := Fr.app N120 N122q
      refine own_s T122 m 101 #[own_r a1, own_r sh] [.ref b117, .ref b105] (fun t k => st122.trans k) ?_
      obtain ⟨cq123, kq123, q123a, q123b, q123c⟩ := isOf hZ rfl Eb122
      obtain ⟨v123, _, ⟨T123, L123, k123, n123⟩, -, X123, ⟨Lc123, hQ123, l123, y123, z123⟩, st123⟩ := X122.virtualBack hx (y := own_n30) (z := own_n30) hown (mvT hZ (own_w hw 186 rfl)) (mvT hZ (own_w hw 187 rfl)) (notFace_of_selects (args := #[]) (mvT hZ (own_w hw 189 rfl))) (mvT hZ (own_w hw 189 rfl)) (mvT hZ (own_w hw 188 rfl)) (by decide) (backOf (W := 1) (own_rm32 l Z a0 hw [] b117 cs d122 ((([] : List Int32) ++ [(47 : Int32)]) ++ own_dec db) PX122 T122.heap n0 (Nat.le_trans Z0 Kc122.1) (own_sta_keep CS Kc122 (fun _ _ _ _ => nin0)) hcs Eb122 Fv122 Fc122 Fn122 V122 Ed122 (own_by.app (own_by.app (own_by.app (fun _ q => nomatch q) (by intro x hx; rcases List.mem_singleton.mp hx with rfl; decide)) (own_dec_by db)) hbx122) (by rcases hcap122 with q | q <;> rw [q] <;> decide)) hZ (own_w hw 190 rfl) (own_w hw 105 rfl) (by decide) (by decide)) q123a q123c (g := (mkF m 101 #[own_r a1, own_r sh] [.ref b117, .ref b105])) rfl (by rw [hml]; rfl) (Steps.refl _) (argsL := []) (rest := [.ref b105]) (lenOf own_pd25 rfl) rfl (by exact own_ca rfl) (hb hby d11_101) (fun _ _ => ⟨rfl, rfl, (by decide : 27 + 2 ≤ _), (by decide : 446 + 38 ≤ _)⟩)
      dsimp only [Pt.U, Pt.locs, Pt.cells, Pt.slots] at X123 l123 y123 z123 st123 hQ123
      subst l123 y123 z123
      obtain ⟨r123, e123x, rfl, N123q, szr123, szq123, K123, A123, Fc123, Fv123, V123⟩ := hQ123
      have ne_o1_r123 := own_ne (O1.keep Kc122 nin0).lt szr123
      have ne_o1_e123x := own_ne (O1.keep Kc122 nin0).lt szq123
      have ne_o2_r123 := own_ne (O2.keep Kc122 nin0).lt szr123
      have ne_o2_e123x := own_ne (O2.keep Kc122 nin0).lt szq123
      have ne_a1_r123 := own_ne (E_a1.keep Kc122).lt szr123
      have ne_a1_e123x := own_ne (E_a1.keep Kc122).lt szq123
      have ne_ha_r123 := own_ne (Fch.keep Kc122 nin0).lt szr123
      have ne_ha_e123x := own_ne (Fch.keep Kc122 nin0).lt szq123
      have ne_hd_r123 := own_ne (Abh.keep Kc122 nin0).lt szr123
      have ne_hd_e123x := own_ne (Abh.keep Kc122 nin0).lt szq123
      have ne_sh_r123 := own_ne (((((((((((Esh.ext E105).keep K106).keep K107).ext E108).keep K109).keep K111).ext E117).keep K118).ext E119).keep K120).keep K122).lt szr123
      have ne_sh_e123x := own_ne (((((((((((Esh.ext E105).keep K106).keep K107).ext E108).keep K109).keep K111).ext E117).keep K118).ext E119).keep K120).keep K122).lt szq123
      have ne_b105_r123 := own_ne (((((Eb111.ext E117).keep K118).ext E119).keep K120).keep K122).lt szr123
      have ne_b105_e123x := own_ne (((((Eb111.ext E117).keep K118).ext E119).keep K120).keep K122).lt szq123
      have ne_d111_r123 := own_ne (((((V111.ext E117).keep K118 (ninS ne_d111_b117 nin0)).ext E119).keep K120 (ninS ne_d111_b117 (ninS ne_d111_d118 nin0))).keep K122 (ninS ne_d111_b117 (ninS ne_d111_d120 nin0))).lt szr123
      have ne_d111_e123x := own_ne (((((V111.ext E117).keep K118 (ninS ne_d111_b117 nin0)).ext E119).keep K120 (ninS ne_d111_b117 (ninS ne_d111_d118 nin0))).keep K122 (ninS ne_d111_b117 (ninS ne_d111_d120 nin0))).lt szq123
      have ne_b117_r123 := own_ne Eb122.lt szr123
      have ne_b117_e123x := own_ne Eb122.lt szq123
      have ne_d122_r123 := own_ne V122.lt szr123
      have ne_d122_e123x := own_ne V122.lt szq123
      have hCR123 := hCR122.trans (CHr.keep K123 sf0 hCR122.1)
      have Sf123_d111 := Safe.keep K123 sf0 hCR122.1 Sf122_d111
      have Sf123_d122 := Safe.keep K123 sf0 hCR122.1 Sfn122
      have Kc123 : Keep h0 T123.heap [] := Kc122.trans K123 all0
      have N123 := Fr.app N122 N123q
      refine own_s T123 m 104 #[own_r a1, own_r sh] [.ref r123, .ref b105] (fun t k => st123.trans k) ?_
      obtain ⟨cq124, kq124, q124a, q124b, q124c⟩ := isOf hZ rfl ((((((Eb111.ext E117).keep K118).ext E119).keep K120).keep K122).keep K123)
      obtain ⟨v124, _, ⟨T124, L124, k124, n124⟩, -, X124, ⟨Lc124, hQ124, l124, y124, z124⟩, st124⟩ := X123.virtualBack hx (y := own_n20) (z := own_n20) hown (mvT hZ (own_w hw 121 rfl)) (mvT hZ (own_w hw 122 rfl)) (notFace_of_selects (args := #[]) (mvT hZ (own_w hw 124 rfl))) (mvT hZ (own_w hw 124 rfl)) (mvT hZ (own_w hw 123 rfl)) (by decide) (backOf (W := 0) (own_sbA l Z a0 hw [] b105 r123 cs d111 (((([] : List Int32) ++ (own_shown HB)) ++ [(58 : Int32)]) ++ own_dec po) PX111 e123x ((([] : List Int32) ++ [(47 : Int32)]) ++ own_dec db) T123.heap n0 (Nat.le_trans Z0 Kc123.1) (own_sta_keep CS Kc123 (fun _ _ _ _ => nin0)) hcs ((((((Eb111.ext E117).keep K118).ext E119).keep K120).keep K122).keep K123) ((((((Fv111.ext E117).keep K118 (ninS ne_b105_b117 nin0)).ext E119).keep K120 (ninS ne_b105_b117 (ninS ne_b105_d118 nin0))).keep K122 (ninS ne_b105_b117 (ninS ne_b105_d120 nin0))).keep K123 nin0) ((((((Fc111.ext E117).keep K118 (ninS ne_b105_b117 nin0)).ext E119).keep K120 (ninS ne_b105_b117 (ninS ne_b105_d118 nin0))).keep K122 (ninS ne_b105_b117 (ninS ne_b105_d120 nin0))).keep K123 nin0) ((((((Fn111.ext E117).keep K118 (ninS ne_b105_b117 nin0)).ext E119).keep K120 (ninS ne_b105_b117 (ninS ne_b105_d118 nin0))).keep K122 (ninS ne_b105_b117 (ninS ne_b105_d120 nin0))).keep K123 nin0) ((((((V111.ext E117).keep K118 (ninS ne_d111_b117 nin0)).ext E119).keep K120 (ninS ne_d111_b117 (ninS ne_d111_d118 nin0))).keep K122 (ninS ne_d111_b117 (ninS ne_d111_d120 nin0))).keep K123 nin0) ((((((Ed111.ext E117).keep K118).ext E119).keep K120).keep K122).keep K123) Fc123 Fv123 V123 A123 (own_by.app (own_by.app (fun _ q => nomatch q) (by intro x hx; rcases List.mem_singleton.mp hx with rfl; decide)) (own_dec_by db)) (by simp only [List.length_append, List.length_cons, List.length_nil, own_dec_len]; have q1 := own_szr po; have q2 := own_szr db; have q3 := own_shownL HB; omega) (by simp only [List.length_append, List.length_cons, List.length_nil, own_dec_len]; have q1 := own_szr po; have q2 := own_szr db; have q3 := own_shownL HB; omega) hcap111 (own_by.app (own_by.app (own_by.app (fun _ q => nomatch q) (own_shownB hbh)) (by intro x hx; rcases List.mem_singleton.mp hx with rfl; decide)) (own_dec_by po)) hbx111 g_b105 g_d111 ne_b105_d111) hZ (own_w hw 125 rfl) (own_w hw 105 rfl) (by decide) (by decide)) q124a q124c (g := (mkF m 104 #[own_r a1, own_r sh] [.ref r123, .ref b105])) rfl (by rw [hml]; rfl) (Steps.refl _) (argsL := [.ref r123]) (rest := []) (lenOf own_pd29 rfl) rfl (by exact own_ca rfl) (hb hby d11_104) (fun _ _ => ⟨rfl, rfl, (by decide : 29 + 1 ≤ _), (by decide : 484 + 34 ≤ _)⟩)
      dsimp only [Pt.U, Pt.locs, Pt.cells, Pt.slots] at X124 l124 y124 z124 st124 hQ124
      subst l124 y124 z124
      obtain ⟨rfl, N124q, K124, d124, PX124, hD124, hcap124, hbx124, Eb124, Fv124, Fc124, Fn124, V124, Ed124⟩ := hQ124
      have ne_b105_d124 : b105 ≠ d124 := by rcases hD124 with q | q; exact q ▸ ne_b105_d111; exact Nat.ne_of_lt (Nat.lt_of_lt_of_le ((((((Eb111.ext E117).keep K118).ext E119).keep K120).keep K122).keep K123).lt q)
      have ne_o1_d124 : o1 ≠ d124 := by rcases hD124 with q | q; exact q ▸ ne_o1_d111; exact Nat.ne_of_lt (Nat.lt_of_lt_of_le (O1.keep Kc123 nin0).lt q)
      have ne_o2_d124 : o2 ≠ d124 := by rcases hD124 with q | q; exact q ▸ ne_o2_d111; exact Nat.ne_of_lt (Nat.lt_of_lt_of_le (O2.keep Kc123 nin0).lt q)
      have hCR124 := hCR123.trans (CHr.keep K124 (sfS (Safe.exa hZ.alike ((((((Eb111.ext E117).keep K118).ext E119).keep K120).keep K122).keep K123) (by decide) (by decide)) (sfS Sf123_d111 sf0)) hCR123.1)
      have Sf124_d111 := Safe.keep K124 (sfS (Safe.exa hZ.alike ((((((Eb111.ext E117).keep K118).ext E119).keep K120).keep K122).keep K123) (by decide) (by decide)) (sfS Sf123_d111 sf0)) hCR123.1 Sf123_d111
      have Sf124_d122 := Safe.keep K124 (sfS (Safe.exa hZ.alike ((((((Eb111.ext E117).keep K118).ext E119).keep K120).keep K122).keep K123) (by decide) (by decide)) (sfS Sf123_d111 sf0)) hCR123.1 Sf123_d122
      have Kc124 : Keep h0 T124.heap [] := Kc123.trans K124 (allS (Or.inr sz_b105) (allS (Or.inr sz_d111) all0))
      have g_d124 : n0 ≤ d124 := by rcases hD124 with q | q; exact q ▸ g_d111; exact Nat.le_trans Z0 (Nat.le_trans Kc123.1 q)
      have sz_d124 : h0.size ≤ d124 := by rcases hD124 with q | q; exact q ▸ sz_d111; exact Nat.le_trans Kc123.1 q
      have Sfn124 := own_sfD Sf124_d111 hD124 K124 (sfS (Safe.exa hZ.alike ((((((Eb111.ext E117).keep K118).ext E119).keep K120).keep K122).keep K123) (by decide) (by decide)) (sfS Sf123_d111 sf0)) hCR123.1
      have N124 := Fr.app N123 N124q
      refine own_s T124 m 107 #[own_r a1, own_r sh] [.ref b105] (fun t k => st124.trans k) ?_
      obtain ⟨cq125, kq125, q125a, q125b, q125c⟩ := isOf hZ rfl Eb124
      obtain ⟨v125, _, ⟨T125, L125, k125, n125⟩, -, X125, ⟨Lc125, hQ125, l125, y125, z125⟩, st125⟩ := X124.virtualBack hx (y := own_n30) (z := own_n30) hown (mvT hZ (own_w hw 186 rfl)) (mvT hZ (own_w hw 187 rfl)) (notFace_of_selects (args := #[]) (mvT hZ (own_w hw 189 rfl))) (mvT hZ (own_w hw 189 rfl)) (mvT hZ (own_w hw 188 rfl)) (by decide) (backOf (W := 0) (own_rm32 l Z a0 hw [] b105 cs d124 ((((([] : List Int32) ++ (own_shown HB)) ++ [(58 : Int32)]) ++ own_dec po) ++ ((([] : List Int32) ++ [(47 : Int32)]) ++ own_dec db)) PX124 T124.heap n0 (Nat.le_trans Z0 Kc124.1) (own_sta_keep CS Kc124 (fun _ _ _ _ => nin0)) hcs Eb124 Fv124 Fc124 Fn124 V124 Ed124 (own_by.app (own_by.app (own_by.app (own_by.app (own_by.app (fun _ q => nomatch q) (own_shownB hbh)) (by intro x hx; rcases List.mem_singleton.mp hx with rfl; decide)) (own_dec_by po)) (own_by.app (own_by.app (fun _ q => nomatch q) (by intro x hx; rcases List.mem_singleton.mp hx with rfl; decide)) (own_dec_by db))) hbx124) (by rcases hcap124 with q | q <;> rw [q] <;> decide)) hZ (own_w hw 190 rfl) (own_w hw 105 rfl) (by decide) (by decide)) q125a q125c (g := (mkF m 107 #[own_r a1, own_r sh] [.ref b105])) rfl (by rw [hml]; rfl) (Steps.refl _) (argsL := []) (rest := []) (lenOf own_pd25 rfl) rfl (by exact own_ca rfl) (hb hby d11_107) (fun _ _ => ⟨rfl, rfl, (by decide : 30 + 2 ≤ _), (by decide : 518 + 38 ≤ _)⟩)
      dsimp only [Pt.U, Pt.locs, Pt.cells, Pt.slots] at X125 l125 y125 z125 st125 hQ125
      subst l125 y125 z125
      obtain ⟨r125, e125x, rfl, N125q, szr125, szq125, K125, A125, Fc125, Fv125, V125⟩ := hQ125
      have ne_o1_r125 := own_ne (O1.keep Kc124 nin0).lt szr125
      have ne_o1_e125x := own_ne (O1.keep Kc124 nin0).lt szq125
      have ne_o2_r125 := own_ne (O2.keep Kc124 nin0).lt szr125
      have ne_o2_e125x := own_ne (O2.keep Kc124 nin0).lt szq125
      have ne_a1_r125 := own_ne (E_a1.keep Kc124).lt szr125
      have ne_a1_e125x := own_ne (E_a1.keep Kc124).lt szq125
      have ne_ha_r125 := own_ne (Fch.keep Kc124 nin0).lt szr125
      have ne_ha_e125x := own_ne (Fch.keep Kc124 nin0).lt szq125
      have ne_hd_r125 := own_ne (Abh.keep Kc124 nin0).lt szr125
      have ne_hd_e125x := own_ne (Abh.keep Kc124 nin0).lt szq125
      have ne_sh_r125 := own_ne (((((((((((((Esh.ext E105).keep K106).keep K107).ext E108).keep K109).keep K111).ext E117).keep K118).ext E119).keep K120).keep K122).keep K123).keep K124).lt szr125
      have ne_sh_e125x := own_ne (((((((((((((Esh.ext E105).keep K106).keep K107).ext E108).keep K109).keep K111).ext E117).keep K118).ext E119).keep K120).keep K122).keep K123).keep K124).lt szq125
      have ne_b105_r125 := own_ne Eb124.lt szr125
      have ne_b105_e125x := own_ne Eb124.lt szq125
      have ne_b117_r125 := own_ne ((Eb122.keep K123).keep K124).lt szr125
      have ne_b117_e125x := own_ne ((Eb122.keep K123).keep K124).lt szq125
      have ne_d122_r125 := own_ne ((V122.keep K123 nin0).keep K124 (ninS (Ne.symm ne_b105_d122) (ninS (Ne.symm ne_d111_d122) nin0))).lt szr125
      have ne_d122_e125x := own_ne ((V122.keep K123 nin0).keep K124 (ninS (Ne.symm ne_b105_d122) (ninS (Ne.symm ne_d111_d122) nin0))).lt szq125
      have ne_r123_r125 := own_ne (A123.keep K124).lt szr125
      have ne_r123_e125x := own_ne (A123.keep K124).lt szq125
      have ne_e123x_r125 := own_ne (V123.keep K124 (ninS (Ne.symm ne_b105_e123x) (ninS (Ne.symm ne_d111_e123x) nin0))).lt szr125
      have ne_e123x_e125x := own_ne (V123.keep K124 (ninS (Ne.symm ne_b105_e123x) (ninS (Ne.symm ne_d111_e123x) nin0))).lt szq125
      have ne_d124_r125 := own_ne V124.lt szr125
      have ne_d124_e125x := own_ne V124.lt szq125
      have hCR125 := hCR124.trans (CHr.keep K125 sf0 hCR124.1)
      have Sf125_d122 := Safe.keep K125 sf0 hCR124.1 Sf124_d122
      have Sf125_d124 := Safe.keep K125 sf0 hCR124.1 Sfn124
      have Kc125 : Keep h0 T125.heap [] := Kc124.trans K125 all0
      have N125 := Fr.app N124 N125q
      refine own_s T125 m 110 #[own_r a1, own_r sh] [.ref r125] (fun t k => st125.trans k) ?_
      have eE : T125.heap = T125.heap := rfl
      exact own_retAH X125 hS119 (by rw [(rfl : T125.heap = T125.heap)]; exact (Nat.le_trans (Nat.le_trans (Nat.le_trans (Nat.le_trans (Nat.le_trans hk119 K120.1) K122.1) K123.1) K124.1) K125.1)) hx hlk (rfl) Bd.returns rfl (hb hby d11_110) (hCR := (by rw [hh, (rfl : T125.heap = T125.heap)]; exact hCR125.trans (CHv.at X125 hZ (own_hEL hw) hCR125.1))) ⟨r125, e125x, rfl, N125, (by rw [eE]; exact Kc125), (by rw [eE]; exact A125), (by rw [eE]; exact Fc125), (by rw [eE]; exact Fv125), (by rw [eE, own_str, if_neg hc74_113]; exact V125)⟩ (by decide) (by decide)
  by_cases hc9_126 : (own_has HB) = 0
  · refine own_s T103 m 43 #[own_r a1, .unset] [.ref a1] (fun t k => XS.ifYes X103.here hx rfl (pc0 := 9) (pc' := 42) rfl (hb hby d11_9) rfl (XT.i0_eq_t hc9_126) (by decide) (by decide) (XS.aloadN X103.here hx rfl (hb hby d11_42) rfl (rfl) k)) ?_
    obtain ⟨T127, X127, e127, st127⟩ := getF X103 hx hZ hown (host := "") (Or.inl (own_w hw 55 rfl)) Via.refl e103 (Fh.keep Kc102 nin0) (g := (mkF m 43 #[own_r a1, .unset] [.ref a1])) rfl rfl (hb hby d11_43)
    refine own_s T127 m 47 #[own_r a1, own_r ha] [] (fun t k => st127 _ (XS.astoreN X127.here hx rfl (hb hby d11_46) rfl (rfl) (l' := #[own_r a1, own_r ha]) rfl k)) ?_
    exact J104 _ _ _ _ _ (X127.more (by decide) (by decide)) e127 N103 Kc102 hS102 hk102 hZ hown hCR102 ha hd (Esh.keep Kc102) (Fch.keep Kc102 nin0) (Fvh.keep Kc102 nin0) (by rw [own_shown, if_pos hc9_126]; exact (Abh.keep Kc102 nin0))
  · refine own_s T103 m 12 #[own_r a1, .unset] [] (fun t k => XS.ifNo X103.here hx rfl (hb hby d11_9) rfl (XT.i0_eq_f hc9_126) k) ?_
    obtain ⟨T128, h128, X128, e128, E128, A128, D128, -, st128⟩ := newO X103 hx hZ hown (own_w hw 103 rfl) (own_w hw 104 rfl) (own_w hw 105 rfl) e103 (g := (mkF m 12 #[own_r a1, .unset] [])) rfl (hb hby d11_12) (by decide) (by decide)
    obtain ⟨b128, g128⟩ : ∃ z, z = h102.size := ⟨_, rfl⟩
    rw [← g128] at A128 D128 st128
    have ne_o1_b128 := own_ne (O1.keep Kc102 nin0).lt (Nat.le_of_eq g128.symm)
    have ne_o2_b128 := own_ne (O2.keep Kc102 nin0).lt (Nat.le_of_eq g128.symm)
    have ne_a1_b128 := own_ne (E_a1.keep Kc102).lt (Nat.le_of_eq g128.symm)
    have ne_ha_b128 := own_ne (Fch.keep Kc102 nin0).lt (Nat.le_of_eq g128.symm)
    have ne_hd_b128 := own_ne (Abh.keep Kc102 nin0).lt (Nat.le_of_eq g128.symm)
    have sz_b128 : h0.size ≤ b128 := Nat.le_trans Kc102.1 (Nat.le_of_eq g128.symm)
    have g_b128 : n0 ≤ b128 := Nat.le_trans Z0 sz_b128
    have hCR128 := hCR102.trans (CHr.ext E128 hCR102.1)
    have Kc128 : Keep h0 h128 [] := Kc102.ext E128
    have F128_118 : Fld Z h128 b128 "java/lang/AbstractStringBuilder" "value" "[B" .null := D128 (Or.inl (own_w hw 118 rfl)) (ty := (.array .byte)) (by decide)
    have F128_120 : Fld Z h128 b128 "java/lang/AbstractStringBuilder" "coder" "B" (.int 0) := D128 (Or.inl (own_w hw 120 rfl)) (ty := .byte) (by decide)
    have F128_137 : Fld Z h128 b128 "java/lang/AbstractStringBuilder" "count" "I" (.int 0) := D128 (Or.inl (own_w hw 137 rfl)) (ty := .int) (by decide)
    refine own_s T128 m 16 #[own_r a1, .unset] [.ref b128, .ref b128] (fun t k => st128 _ (XS.dup X128.here hx rfl (hb hby d11_15) rfl (rfl) k)) ?_
    obtain ⟨v129, _, ⟨T129, L129, k129, n129⟩, -, X129, ⟨Lc129, hQ129, l129, y129, z129⟩, st129⟩ := X128.specialBack hx (y := own_n11) rfl hown (mvT hZ (own_w hw 106 rfl)) (mvT hZ (own_w hw 107 rfl)) (mvT hZ (own_w hw 108 rfl)) (by decide) (backOf (W := 1) (own_rm18 l Z a0 hw [] b128 cs h128 n0 (Nat.le_trans Z0 Kc128.1) A128 F128_118 F128_120 F128_137 g_b128 (own_sta_keep CS Kc128 (fun _ _ _ _ => nin0)) hcs) hZ (own_w hw 108 rfl) (own_w hw 105 rfl) (by decide) (by decide)) (g := (mkF m 16 #[own_r a1, .unset] [.ref b128, .ref b128])) rfl (by rw [hml]; rfl) (Steps.refl _) (a := b128) (argsL := []) (rest := [.ref b128]) (lenOf own_pd27 rfl) rfl (by exact own_ca rfl) (hb hby d11_16) (fun _ _ => ⟨rfl, e128, (by decide : 3 + 1 ≤ _), (by decide : 12 + 16 ≤ _)⟩)
    dsimp only [Pt.U, Pt.locs, Pt.cells, Pt.slots] at X129 l129 y129 z129 st129 hQ129
    subst l129 y129 z129
    obtain ⟨rfl, N129q, K129, d129, szq129, Eb129, Fv129, Fc129, Fn129, V129, Ed129⟩ := hQ129
    have ne_o1_d129 := own_ne (O1.keep Kc128 nin0).lt szq129
    have ne_o2_d129 := own_ne (O2.keep Kc128 nin0).lt szq129
    have ne_a1_d129 := own_ne (E_a1.keep Kc128).lt szq129
    have ne_ha_d129 := own_ne (Fch.keep Kc128 nin0).lt szq129
    have ne_hd_d129 := own_ne (Abh.keep Kc128 nin0).lt szq129
    have ne_b128_d129 := own_ne A128.lt szq129
    have Sfn129 := Safe.keep K129 (sfS (Safe.exa hZ.alike A128 (by decide) (by decide)) sf0) hCR128.1 (Safe.new szq129)
    have hCR129 := hCR128.trans (CHr.keep K129 (sfS (Safe.exa hZ.alike A128 (by decide) (by decide)) sf0) hCR128.1)
    have Kc129 : Keep h0 T129.heap [] := Kc128.trans K129 (allS (Or.inr sz_b128) all0)
    have sz_d129 : h0.size ≤ d129 := Nat.le_trans Kc128.1 szq129
    have g_d129 : n0 ≤ d129 := Nat.le_trans Z0 sz_d129
    have N129 := Fr.app N103 N129q
    refine own_s T129 m 19 #[own_r a1, .unset] [.ref b128] (fun t k => st129.trans k) ?_
    obtain ⟨b130, T130, h130, kS130, d130, kc130, X130, e130, E130, hS130, hk130, hZ, hown, A130, Fc130, Fv130, Va130, -, -, cr130, -, sfx130, st130⟩ := ldcCH X129 hx hZ hown (own_w hw 283 rfl) (own_wS hw) rfl hS102 (Nat.le_trans (Nat.le_trans hk102 E128.1) K129.1) (own_hEL hw) (List.mem_of_getElem? (i := 2) rfl) hCR129.1 (vs := [(.int 91)]) (z := (1 : Int32)) ⟨by decide, by decide⟩ (by decide) (by decide) (g := (mkF m 19 #[own_r a1, .unset] [.ref b128])) rfl (hb hby d11_19) (n := 4) (by decide) (by decide) (by decide) (by decide)
    have Sx130_d129 := CHr.safe cr130 Ed129.lt Sfn129
    have nex130_d129 := sfx130 d129 Sx130_d129
    have hCR130 := hCR129.trans cr130
    have Kc130 : Keep h0 h130 [] := Kc129.ext E130
    have V130 : own_Ar Z h130 d130 .byte [(.int 91)] := own_Ar.ofArv Va130 (by decide)
    refine own_s T130 m 21 #[own_r a1, .unset] [.ref b130, .ref b128] (fun t k => st130 _ k) ?_
    obtain ⟨cq131, kq131, q131a, q131b, q131c⟩ := isOf hZ e130 (Eb129.ext E130)
    obtain ⟨v131, _, ⟨T131, L131, k131, n131⟩, -, X131, ⟨Lc131, hQ131, l131, y131, z131⟩, st131⟩ := X130.virtualBack hx (y := own_n20) (z := own_n20) hown (mvT hZ (own_w hw 121 rfl)) (mvT hZ (own_w hw 122 rfl)) (notFace_of_selects (args := #[]) (mvT hZ (own_w hw 124 rfl))) (mvT hZ (own_w hw 124 rfl)) (mvT hZ (own_w hw 123 rfl)) (by decide) (backOf (W := 0) (own_sbA l Z a0 hw [] b128 b130 cs d129 ([] : List Int32) (List.replicate 16 (0 : Int32)) d130 [(91 : Int32)] h130 n0 (Nat.le_trans Z0 Kc130.1) (own_sta_keep CS Kc130 (fun _ _ _ _ => nin0)) hcs (Eb129.ext E130) (Fv129.ext E130) (Fc129.ext E130) (Fn129.ext E130) (V129.ext E130) (Ed129.ext E130) Fc130 Fv130 V130 A130 (by intro x hx; rcases List.mem_singleton.mp hx with rfl; decide) (by decide) (by simp only [List.length_append, List.length_cons, List.length_nil, own_dec_len]; have q1 := own_szr po; have q2 := own_szr db; have q3 := own_shownL HB; omega) (Or.inl rfl) (fun _ q => nomatch q) (own_by.rep 16) g_b128 g_d129 ne_b128_d129) hZ (own_w hw 125 rfl) (own_w hw 105 rfl) (by decide) (by decide)) q131a q131c (g := (mkF m 21 #[own_r a1, .unset] [.ref b130, .ref b128])) rfl (by rw [hml]; rfl) (Steps.refl _) (argsL := [.ref b130]) (rest := []) (lenOf own_pd29 rfl) rfl (by exact own_ca rfl) (hb hby d11_21) (fun _ _ => ⟨rfl, e130, (by decide : 6 + 1 ≤ _), (by decide : 36 + 34 ≤ _)⟩)
    dsimp only [Pt.U, Pt.locs, Pt.cells, Pt.slots] at X131 l131 y131 z131 st131 hQ131
    subst l131 y131 z131
    obtain ⟨rfl, N131q, K131, d131, PX131, hD131, hcap131, hbx131, Eb131, Fv131, Fc131, Fn131, V131, Ed131⟩ := hQ131
    have ne_b128_d131 : b128 ≠ d131 := by rcases hD131 with q | q; exact q ▸ ne_b128_d129; exact Nat.ne_of_lt (Nat.lt_of_lt_of_le (Eb129.ext E130).lt q)
    have ne_o1_d131 : o1 ≠ d131 := by rcases hD131 with q | q; exact q ▸ ne_o1_d129; exact Nat.ne_of_lt (Nat.lt_of_lt_of_le (O1.keep Kc130 nin0).lt q)
    have ne_o2_d131 : o2 ≠ d131 := by rcases hD131 with q | q; exact q ▸ ne_o2_d129; exact Nat.ne_of_lt (Nat.lt_of_lt_of_le (O2.keep Kc130 nin0).lt q)
    have hCR131 := hCR130.trans (CHr.keep K131 (sfS (Safe.exa hZ.alike (Eb129.ext E130) (by decide) (by decide)) (sfS Sx130_d129 sf0)) hCR130.1)
    have Sf131_d129 := Safe.keep K131 (sfS (Safe.exa hZ.alike (Eb129.ext E130) (by decide) (by decide)) (sfS Sx130_d129 sf0)) hCR130.1 Sx130_d129
    have Kc131 : Keep h0 T131.heap [] := Kc130.trans K131 (allS (Or.inr sz_b128) (allS (Or.inr sz_d129) all0))
    have g_d131 : n0 ≤ d131 := by rcases hD131 with q | q; exact q ▸ g_d129; exact Nat.le_trans Z0 (Nat.le_trans Kc130.1 q)
    have sz_d131 : h0.size ≤ d131 := by rcases hD131 with q | q; exact q ▸ sz_d129; exact Nat.le_trans Kc130.1 q
    have Sfn131 := own_sfD Sf131_d129 hD131 K131 (sfS (Safe.exa hZ.alike (Eb129.ext E130) (by decide) (by decide)) (sfS Sx130_d129 sf0)) hCR130.1
    have N131 := Fr.app N129 N131q
    refine own_s T131 m 25 #[own_r a1, .unset] [.ref a1, .ref b128] (fun t k => st131.trans (XS.aloadN X131.here hx rfl (hb hby d11_24) rfl (rfl) k)) ?_
    obtain ⟨T132, X132, e132, st132⟩ := getF X131 hx hZ hown (host := "") (Or.inl (own_w hw 55 rfl)) Via.refl rfl (Fh.keep Kc131 nin0) (g := (mkF m 25 #[own_r a1, .unset] [.ref a1, .ref b128])) rfl rfl (hb hby d11_25)
    refine own_s T132 m 28 #[own_r a1, .unset] [.ref ha, .ref b128] (fun t k => st132 _ k) ?_
    obtain ⟨cq133, kq133, q133a, q133b, q133c⟩ := isOf hZ e132 Eb131
    obtain ⟨v133, _, ⟨T133, L133, k133, n133⟩, -, X133, ⟨Lc133, hQ133, l133, y133, z133⟩, st133⟩ := X132.virtualBack hx (y := own_n20) (z := own_n20) hown (mvT hZ (own_w hw 121 rfl)) (mvT hZ (own_w hw 122 rfl)) (notFace_of_selects (args := #[]) (mvT hZ (own_w hw 124 rfl))) (mvT hZ (own_w hw 124 rfl)) (mvT hZ (own_w hw 123 rfl)) (by decide) (backOf (W := 0) (own_sbA l Z a0 hw [] b128 ha cs d131 (([] : List Int32) ++ [(91 : Int32)]) PX131 hd HB T131.heap n0 (Nat.le_trans Z0 Kc131.1) (own_sta_keep CS Kc131 (fun _ _ _ _ => nin0)) hcs Eb131 Fv131 Fc131 Fn131 V131 Ed131 (Fch.keep Kc131 nin0) (Fvh.keep Kc131 nin0) (Abh.keep Kc131 nin0) (Esh.keep Kc131) hbh (by omega) (by simp only [List.length_append, List.length_cons, List.length_nil, own_dec_len]; have q1 := own_szr po; have q2 := own_szr db; have q3 := own_shownL HB; omega) hcap131 (own_by.app (fun _ q => nomatch q) (by intro x hx; rcases List.mem_singleton.mp hx with rfl; decide)) hbx131 g_b128 g_d131 ne_b128_d131) hZ (own_w hw 125 rfl) (own_w hw 105 rfl) (by decide) (by decide)) q133a q133c (g := (mkF m 28 #[own_r a1, .unset] [.ref ha, .ref b128])) rfl (by rw [hml]; rfl) (Steps.refl _) (argsL := [.ref ha]) (rest := []) (lenOf own_pd29 rfl) rfl (by exact own_ca rfl) (hb hby d11_28) (fun _ _ => ⟨rfl, e132, (by decide : 7 + 1 ≤ _), (by decide : 70 + 34 ≤ _)⟩)
    dsimp only [Pt.U, Pt.locs, Pt.cells, Pt.slots] at X133 l133 y133 z133 st133 hQ133
    subst l133 y133 z133
    obtain ⟨rfl, N133q, K133, d133, PX133, hD133, hcap133, hbx133, Eb133, Fv133, Fc133, Fn133, V133, Ed133⟩ := hQ133
    have ne_b128_d133 : b128 ≠ d133 := by rcases hD133 with q | q; exact q ▸ ne_b128_d131; exact Nat.ne_of_lt (Nat.lt_of_lt_of_le Eb131.lt q)
    have ne_o1_d133 : o1 ≠ d133 := by rcases hD133 with q | q; exact q ▸ ne_o1_d131; exact Nat.ne_of_lt (Nat.lt_of_lt_of_le (O1.keep Kc131 nin0).lt q)
    have ne_o2_d133 : o2 ≠ d133 := by rcases hD133 with q | q; exact q ▸ ne_o2_d131; exact Nat.ne_of_lt (Nat.lt_of_lt_of_le (O2.keep Kc131 nin0).lt q)
    have hCR133 := hCR131.trans (CHr.keep K133 (sfS (Safe.exa hZ.alike Eb131 (by decide) (by decide)) (sfS Sfn131 sf0)) hCR131.1)
    have Sf133_d131 := Safe.keep K133 (sfS (Safe.exa hZ.alike Eb131 (by decide) (by decide)) (sfS Sfn131 sf0)) hCR131.1 Sfn131
    have Kc133 : Keep h0 T133.heap [] := Kc131.trans K133 (allS (Or.inr sz_b128) (allS (Or.inr sz_d131) all0))
    have g_d133 : n0 ≤ d133 := by rcases hD133 with q | q; exact q ▸ g_d131; exact Nat.le_trans Z0 (Nat.le_trans Kc131.1 q)
    have sz_d133 : h0.size ≤ d133 := by rcases hD133 with q | q; exact q ▸ sz_d131; exact Nat.le_trans Kc131.1 q
    have Sfn133 := own_sfD Sf133_d131 hD133 K133 (sfS (Safe.exa hZ.alike Eb131 (by decide) (by decide)) (sfS Sfn131 sf0)) hCR131.1
    have N133 := Fr.app N131 N133q
    refine own_s T133 m 31 #[own_r a1, .unset] [.ref b128] (fun t k => st133.trans k) ?_
    obtain ⟨b134, T134, h134, kS134, d134, kc134, X134, e134, E134, hS134, hk134, hZ, hown, A134, Fc134, Fv134, Va134, -, -, cr134, -, sfx134, st134⟩ := ldcCH X133 hx hZ hown (own_w hw 284 rfl) (own_wS hw) rfl hS130 (Nat.le_trans (Nat.le_trans hk130 K131.1) K133.1) (own_hEL hw) (List.mem_of_getElem? (i := 3) rfl) hCR133.1 (vs := [(.int 93)]) (z := (1 : Int32)) ⟨by decide, by decide⟩ (by decide) (by decide) (g := (mkF m 31 #[own_r a1, .unset] [.ref b128])) rfl (hb hby d11_31) (n := 4) (by decide) (by decide) (by decide) (by decide)
    have Sx134_d133 := CHr.safe cr134 Ed133.lt Sfn133
    have nex134_d133 := sfx134 d133 Sx134_d133
    have hCR134 := hCR133.trans cr134
    have Kc134 : Keep h0 h134 [] := Kc133.ext E134
    have V134 : own_Ar Z h134 d134 .byte [(.int 93)] := own_Ar.ofArv Va134 (by decide)
    refine own_s T134 m 33 #[own_r a1, .unset] [.ref b134, .ref b128] (fun t k => st134 _ k) ?_
    obtain ⟨cq135, kq135, q135a, q135b, q135c⟩ := isOf hZ e134 (Eb133.ext E134)
    obtain ⟨v135, _, ⟨T135, L135, k135, n135⟩, -, X135, ⟨Lc135, hQ135, l135, y135, z135⟩, st135⟩ := X134.virtualBack hx (y := own_n20) (z := own_n20) hown (mvT hZ (own_w hw 121 rfl)) (mvT hZ (own_w hw 122 rfl)) (notFace_of_selects (args := #[]) (mvT hZ (own_w hw 124 rfl))) (mvT hZ (own_w hw 124 rfl)) (mvT hZ (own_w hw 123 rfl)) (by decide) (backOf (W := 0) (own_sbA l Z a0 hw [] b128 b134 cs d133 ((([] : List Int32) ++ [(91 : Int32)]) ++ HB) PX133 d134 [(93 : Int32)] h134 n0 (Nat.le_trans Z0 Kc134.1) (own_sta_keep CS Kc134 (fun _ _ _ _ => nin0)) hcs (Eb133.ext E134) (Fv133.ext E134) (Fc133.ext E134) (Fn133.ext E134) (V133.ext E134) (Ed133.ext E134) Fc134 Fv134 V134 A134 (by intro x hx; rcases List.mem_singleton.mp hx with rfl; decide) (by decide) (by simp only [List.length_append, List.length_cons, List.length_nil, own_dec_len]; have q1 := own_szr po; have q2 := own_szr db; have q3 := own_shownL HB; omega) hcap133 (own_by.app (own_by.app (fun _ q => nomatch q) (by intro x hx; rcases List.mem_singleton.mp hx with rfl; decide)) hbh) hbx133 g_b128 g_d133 ne_b128_d133) hZ (own_w hw 125 rfl) (own_w hw 105 rfl) (by decide) (by decide)) q135a q135c (g := (mkF m 33 #[own_r a1, .unset] [.ref b134, .ref b128])) rfl (by rw [hml]; rfl) (Steps.refl _) (argsL := [.ref b134]) (rest := []) (lenOf own_pd29 rfl) rfl (by exact own_ca rfl) (hb hby d11_33) (fun _ _ => ⟨rfl, e134, (by decide : 10 + 1 ≤ _), (by decide : 112 + 34 ≤ _)⟩)
    dsimp only [Pt.U, Pt.locs, Pt.cells, Pt.slots] at X135 l135 y135 z135 st135 hQ135
    subst l135 y135 z135
    obtain ⟨rfl, N135q, K135, d135, PX135, hD135, hcap135, hbx135, Eb135, Fv135, Fc135, Fn135, V135, Ed135⟩ := hQ135
    have ne_b128_d135 : b128 ≠ d135 := by rcases hD135 with q | q; exact q ▸ ne_b128_d133; exact Nat.ne_of_lt (Nat.lt_of_lt_of_le (Eb133.ext E134).lt q)
    have ne_o1_d135 : o1 ≠ d135 := by rcases hD135 with q | q; exact q ▸ ne_o1_d133; exact Nat.ne_of_lt (Nat.lt_of_lt_of_le (O1.keep Kc134 nin0).lt q)
    have ne_o2_d135 : o2 ≠ d135 := by rcases hD135 with q | q; exact q ▸ ne_o2_d133; exact Nat.ne_of_lt (Nat.lt_of_lt_of_le (O2.keep Kc134 nin0).lt q)
    have hCR135 := hCR134.trans (CHr.keep K135 (sfS (Safe.exa hZ.alike (Eb133.ext E134) (by decide) (by decide)) (sfS Sx134_d133 sf0)) hCR134.1)
    have Sf135_d133 := Safe.keep K135 (sfS (Safe.exa hZ.alike (Eb133.ext E134) (by decide) (by decide)) (sfS Sx134_d133 sf0)) hCR134.1 Sx134_d133
    have Kc135 : Keep h0 T135.heap [] := Kc134.trans K135 (allS (Or.inr sz_b128) (allS (Or.inr sz_d133) all0))
    have g_d135 : n0 ≤ d135 := by rcases hD135 with q | q; exact q ▸ g_d133; exact Nat.le_trans Z0 (Nat.le_trans Kc134.1 q)
    have sz_d135 : h0.size ≤ d135 := by rcases hD135 with q | q; exact q ▸ sz_d133; exact Nat.le_trans Kc134.1 q
    have Sfn135 := own_sfD Sf135_d133 hD135 K135 (sfS (Safe.exa hZ.alike (Eb133.ext E134) (by decide) (by decide)) (sfS Sx134_d133 sf0)) hCR134.1
    have N135 := Fr.app N133 N135q
    refine own_s T135 m 36 #[own_r a1, .unset] [.ref b128] (fun t k => st135.trans k) ?_
    obtain ⟨cq136, kq136, q136a, q136b, q136c⟩ := isOf hZ rfl Eb135
    obtain ⟨v136, _, ⟨T136, L136, k136, n136⟩, -, X136, ⟨Lc136, hQ136, l136, y136, z136⟩, st136⟩ := X135.virtualBack hx (y := own_n30) (z := own_n30) hown (mvT hZ (own_w hw 186 rfl)) (mvT hZ (own_w hw 187 rfl)) (notFace_of_selects (args := #[]) (mvT hZ (own_w hw 189 rfl))) (mvT hZ (own_w hw 189 rfl)) (mvT hZ (own_w hw 188 rfl)) (by decide) (backOf (W := 0) (own_rm32 l Z a0 hw [] b128 cs d135 (((([] : List Int32) ++ [(91 : Int32)]) ++ HB) ++ [(93 : Int32)]) PX135 T135.heap n0 (Nat.le_trans Z0 Kc135.1) (own_sta_keep CS Kc135 (fun _ _ _ _ => nin0)) hcs Eb135 Fv135 Fc135 Fn135 V135 Ed135 (own_by.app (own_by.app (own_by.app (own_by.app (fun _ q => nomatch q) (by intro x hx; rcases List.mem_singleton.mp hx with rfl; decide)) hbh) (by intro x hx; rcases List.mem_singleton.mp hx with rfl; decide)) hbx135) (by rcases hcap135 with q | q <;> rw [q] <;> decide)) hZ (own_w hw 190 rfl) (own_w hw 105 rfl) (by decide) (by decide)) q136a q136c (g := (mkF m 36 #[own_r a1, .unset] [.ref b128])) rfl (by rw [hml]; rfl) (Steps.refl _) (argsL := []) (rest := []) (lenOf own_pd25 rfl) rfl (by exact own_ca rfl) (hb hby d11_36) (fun _ _ => ⟨rfl, rfl, (by decide : 11 + 2 ≤ _), (by decide : 146 + 38 ≤ _)⟩)
    dsimp only [Pt.U, Pt.locs, Pt.cells, Pt.slots] at X136 l136 y136 z136 st136 hQ136
    subst l136 y136 z136
    obtain ⟨r136, e136x, rfl, N136q, szr136, szq136, K136, A136, Fc136, Fv136, V136⟩ := hQ136
    have ne_o1_r136 := own_ne (O1.keep Kc135 nin0).lt szr136
    have ne_o1_e136x := own_ne (O1.keep Kc135 nin0).lt szq136
    have ne_o2_r136 := own_ne (O2.keep Kc135 nin0).lt szr136
    have ne_o2_e136x := own_ne (O2.keep Kc135 nin0).lt szq136
    have ne_a1_r136 := own_ne (E_a1.keep Kc135).lt szr136
    have ne_a1_e136x := own_ne (E_a1.keep Kc135).lt szq136
    have ne_ha_r136 := own_ne (Fch.keep Kc135 nin0).lt szr136
    have ne_ha_e136x := own_ne (Fch.keep Kc135 nin0).lt szq136
    have ne_hd_r136 := own_ne (Abh.keep Kc135 nin0).lt szr136
    have ne_hd_e136x := own_ne (Abh.keep Kc135 nin0).lt szq136
    have ne_b128_r136 := own_ne Eb135.lt szr136
    have ne_b128_e136x := own_ne Eb135.lt szq136
    have ne_d135_r136 := own_ne V135.lt szr136
    have ne_d135_e136x := own_ne V135.lt szq136
    have hCR136 := hCR135.trans (CHr.keep K136 sf0 hCR135.1)
    have Sf136_d135 := Safe.keep K136 sf0 hCR135.1 Sfn135
    have Kc136 : Keep h0 T136.heap [] := Kc135.trans K136 all0
    have N136 := Fr.app N135 N136q
    refine own_s T136 m 47 #[own_r a1, own_r r136] [] (fun t k => st136.trans (XS.goto X136.here hx rfl (pc0 := 39) (pc' := 46) rfl (hb hby d11_39) (by decide) (by decide) (XS.astoreN X136.here hx rfl (hb hby d11_46) rfl (rfl) (l' := #[own_r a1, own_r r136]) rfl k))) ?_
    exact J104 _ _ _ _ _ (X136.more (by decide) (by decide)) rfl N136 Kc136 hS134 (Nat.le_trans (Nat.le_trans hk134 K135.1) K136.1) hZ hown hCR136 r136 e136x A136 Fc136 Fv136 (by rw [own_shown, if_neg hc9_126]; exact V136)
def own_absL (x : Int64) : Int64 := if x < 0 then -x else x
def own_c8 (x : Int32) : Int32 := (x &&& 255).toUInt32.toUInt16.toUInt32.toInt32
theorem own_narc (x : Int32) : nar .char x.toUInt32.toUInt16.toUInt32.toInt32 = x.toUInt32.toUInt16.toUInt32.toInt32 := Value.int.inj (XT.narrow_c x)
theorem own_c255 (x : Int32) : ¬ (255 : Int32) < own_c8 x ∧ ¬ own_c8 x < 0 := by
  unfold own_c8
  have a := c_i2c (x &&& 255)
  have b := c_and x 255 (by decide)
  have e : (255 : Int32).toInt = 255 := rfl
  have z : (0 : Int32).toInt = 0 := rfl
  rw [Int32.lt_iff_toInt_lt, Int32.lt_iff_toInt_lt]
  omega
theorem own_abs_l (v : Int32) : (own_absL v.toInt64).toInt = (own_abs v : Int) := by
  unfold own_absL own_abs
  have a : v.toInt64.toInt = v.toInt := c_i2l v
  have r := rng32 v
  have e : (0 : Int64).toInt = 0 := rfl
  by_cases h : v.toInt64 < 0
  · rw [if_pos h]
    rw [Int64.lt_iff_toInt_lt] at h
    have b := c_lneg v.toInt64; have r2 := rng64 (-v.toInt64)
    omega
  · rw [if_neg h]
    rw [Int64.lt_iff_toInt_lt] at h
    omega
theorem own_ndP {n k : Nat} {z : Int32} (hz : z = k.toInt32) (h : own_nd n = k) : some (Value.int z) = some (Value.int (own_nd n).toInt32) := by rw [h, hz]
theorem own_szE (v : Int32) : (if v < 0 then (1 : Int32) else 0) + (own_nd (own_abs v)).toInt32 = (own_sz v).toInt32 := by
  unfold own_sz; split
  · exact (Int32.ofNat_add 1 _).symm
  · exact (Int32.ofNat_add 0 _).symm
theorem own_pn10 : plainName "com/example/holdfast/holdfast/store/RedisAddressToStringPinLaw" = true := by first | (simp [plainName, overriddenIn]; done) | decide +kernel
abbrev own_k1 := method_3_code
abbrev own_n44 : MethodName := ⟨"com/example/holdfast/holdfast/store/RedisAddressToStringPinLaw", "pick", "(I)C"⟩
theorem d1_0 : own_D own_k1 0 (.iload_n 0) 1 := by decide +kernel
theorem d1_1 : own_D own_k1 1 (.sipush 256) 3 := by decide +kernel
theorem d1_4 : own_D own_k1 4 (.iand) 1 := by decide +kernel
theorem d1_5 : own_D own_k1 5 (.ifCond .eq 8) 3 := by decide +kernel
theorem d1_8 : own_D own_k1 8 (.bipush 58) 2 := by decide +kernel
theorem d1_10 : own_D own_k1 10 (.goto 9) 3 := by decide +kernel
theorem d1_13 : own_D own_k1 13 (.iload_n 0) 1 := by decide +kernel
theorem d1_14 : own_D own_k1 14 (.sipush 255) 3 := by decide +kernel
theorem d1_17 : own_D own_k1 17 (.iand) 1 := by decide +kernel
theorem d1_18 : own_D own_k1 18 (.i2c) 1 := by decide +kernel
theorem d1_19 : own_D own_k1 19 (.ireturn) 1 := by decide +kernel
theorem ef_own_rm1 (m : MethodId) (p1 : Int32) : entryFrame m #[(.int p1)] 1 = mkF m 0 #[own_i p1] [] := by first | (simp [entryFrame, mkF, argsToLocals, Value.category]; done) | rfl
def own_rm1_Q (Z : State) (p1 : Int32)  (h0 : Heap) (n0 : Nat) (v : Option Value) (h : Heap) (L : List Loc) : Prop := ∃ r : Int32, v = some (.int r) ∧ ¬ (255 : Int32) < r ∧ ¬ r < 0 ∧ Fr n0 L ∧ h = h0
set_option maxRecDepth 65536 in
set_option maxHeartbeats 40000000 in
theorem own_rm1 (l : Launch) (Z : State) (a0 : Array Value) (hw : own_H a0 Z) (ws : List Jvm.Cond) (p1 : Int32) (h0 : Heap) (n0 : Nat) (Z0 : n0 ≤ h0.size) : own_M l Z ws own_n44 own_k1 1 (some .char) (own_R 0 0 0 0) #[(.int p1)] h0 (own_rm1_Q Z p1  h0 n0) := by
  refine own_open n0 "com/example/holdfast/holdfast/store/RedisAddressToStringPinLaw" rfl (plainFor_of_name own_pn10) (fun m => ef_own_rm1 m p1) ?_
  intro p e s m below meth c s₁ hx hby hml hZ hown hnm hlk hrt X0 e0 N0
  have K0 := Keep.refl h0 []
  refine own_s s₁ m 5 #[own_i p1] [.int (p1 &&& (256 : Int32))] (fun t k => XS.iloadN X0.here hx rfl (hb hby d1_0) rfl (XS.sipush X0.here hx rfl (hb hby d1_1) (XS.iand X0.here hx rfl (hb hby d1_4) rfl k))) ?_
  by_cases hc5_101 : (p1 &&& (256 : Int32)) = 0
  · refine own_s s₁ m 18 #[own_i p1] [.int (p1 &&& (255 : Int32))] (fun t k => XS.ifYes X0.here hx rfl (pc0 := 5) (pc' := 13) rfl (hb hby d1_5) rfl (XT.i0_eq_t hc5_101) (by decide) (by decide) (XS.iloadN X0.here hx rfl (hb hby d1_13) rfl (XS.sipush X0.here hx rfl (hb hby d1_14) (XS.iand X0.here hx rfl (hb hby d1_17) rfl k)))) ?_
    refine own_s s₁ m 19 #[own_i p1] [.int ((p1 &&& (255 : Int32)).toUInt32.toUInt16.toUInt32.toInt32)] (fun t k => XT.i2c X0.here hx rfl (hb hby d1_18) rfl k) ?_
    exact own_retB X0 hx hlk (t := .char) hrt (by simp) (hb hby d1_19) ⟨own_c8 p1, (by rw [own_narc]; rfl), (own_c255 p1).1, (own_c255 p1).2, N0, e0⟩ (by decide) (by decide)
  · refine own_s s₁ m 19 #[own_i p1] [.int 58] (fun t k => XS.ifNo X0.here hx rfl (hb hby d1_5) rfl (XT.i0_eq_f hc5_101) (XS.bipush X0.here hx rfl (hb hby d1_8) (XS.goto X0.here hx rfl (pc0 := 10) (pc' := 19) rfl (hb hby d1_10) (by decide) (by decide) k))) ?_
    exact own_retB X0 hx hlk (t := .char) hrt (by simp) (hb hby d1_19) ⟨58, rfl, (by decide), (by decide), N0, e0⟩ (by decide) (by decide)
abbrev own_k43 := jdk_29_method_61_code
abbrev own_n45 : MethodName := ⟨"java/lang/Math", "abs", "(J)J"⟩
theorem d43_0 : own_D own_k43 0 (.lload_n 0) 1 := by decide +kernel
theorem d43_1 : own_D own_k43 1 (.lconst 0) 1 := by decide +kernel
theorem d43_2 : own_D own_k43 2 (.lcmp) 1 := by decide +kernel
theorem d43_3 : own_D own_k43 3 (.ifCond .ge 8) 3 := by decide +kernel
theorem d43_6 : own_D own_k43 6 (.lload_n 0) 1 := by decide +kernel
theorem d43_7 : own_D own_k43 7 (.lneg) 1 := by decide +kernel
theorem d43_8 : own_D own_k43 8 (.goto 4) 3 := by decide +kernel
theorem d43_11 : own_D own_k43 11 (.lload_n 0) 1 := by decide +kernel
theorem d43_12 : own_D own_k43 12 (.lreturn) 1 := by decide +kernel
theorem ef_own_rm43 (m : MethodId) (q1 : Int64) : entryFrame m #[(.long q1)] 2 = mkF m 0 #[own_l q1, .second] [] := by first | (simp [entryFrame, mkF, argsToLocals, Value.category]; done) | rfl
def own_rm43_Q (Z : State) (q1 : Int64)  (h0 : Heap) (n0 : Nat) (v : Option Value) (h : Heap) (L : List Loc) : Prop := v = some (.long (own_absL q1)) ∧ Fr n0 L ∧ h = h0
set_option maxRecDepth 65536 in
set_option maxHeartbeats 40000000 in
theorem own_rm43 (l : Launch) (Z : State) (a0 : Array Value) (hw : own_H a0 Z) (ws : List Jvm.Cond) (q1 : Int64) (h0 : Heap) (n0 : Nat) (Z0 : n0 ≤ h0.size) : own_M l Z ws own_n45 own_k43 2 (some .long) (own_R 0 0 0 0) #[(.long q1)] h0 (own_rm43_Q Z q1  h0 n0) := by
  refine own_open n0 "java/lang/Math" rfl (Jvm.Free.JP.mathPlain rfl (by decide +kernel)) (fun m => ef_own_rm43 m q1) ?_
  intro p e s m below meth c s₁ hx hby hml hZ hown hnm hlk hrt X0 e0 N0
  have K0 := Keep.refl h0 []
  refine own_s s₁ m 3 #[own_l q1, .second] [.int (XT.cmpL q1 (0 : Int64))] (fun t k => XT.lloadN X0.here hx rfl (hb hby d43_0) rfl (XT.lconst X0.here hx rfl (hb hby d43_1) (XT.lcmp X0.here hx rfl (hb hby d43_2) rfl k))) ?_
  by_cases hc3_101 : q1 < (0 : Int64)
  · refine own_s s₁ m 12 #[own_l q1, .second] [.long (-q1)] (fun t k => XS.ifNo X0.here hx rfl (hb hby d43_3) rfl (XT.ll_ge_f hc3_101) (XT.lloadN X0.here hx rfl (hb hby d43_6) rfl (XT.lneg X0.here hx rfl (hb hby d43_7) rfl (XS.goto X0.here hx rfl (pc0 := 8) (pc' := 12) rfl (hb hby d43_8) (by decide) (by decide) k)))) ?_
    exact own_retJ X0 hx hlk hrt (hb hby d43_12) ⟨(by rw [own_absL, if_pos hc3_101]), N0, e0⟩ (by decide) (by decide)
  · refine own_s s₁ m 12 #[own_l q1, .second] [.long q1] (fun t k => XS.ifYes X0.here hx rfl (pc0 := 3) (pc' := 11) rfl (hb hby d43_3) rfl (XT.ll_ge_t hc3_101) (by decide) (by decide) (XT.lloadN X0.here hx rfl (hb hby d43_11) rfl k)) ?_
    exact own_retJ X0 hx hlk hrt (hb hby d43_12) ⟨(by rw [own_absL, if_neg hc3_101]), N0, e0⟩ (by decide) (by decide)
abbrev own_k44 := method_4_code
abbrev own_n46 : MethodName := ⟨"com/example/holdfast/holdfast/store/RedisAddressToStringPinLaw", "digits", "(J)I"⟩
theorem d44_0 : own_D own_k44 0 (.lload_n 0) 1 := by decide +kernel
theorem d44_1 : own_D own_k44 1 (.ldc2_w 48) 3 := by decide +kernel
theorem d44_4 : own_D own_k44 4 (.lcmp) 1 := by decide +kernel
theorem d44_5 : own_D own_k44 5 (.ifCond .ge 5) 3 := by decide +kernel
theorem d44_8 : own_D own_k44 8 (.iconst 1) 1 := by decide +kernel
theorem d44_9 : own_D own_k44 9 (.ireturn) 1 := by decide +kernel
theorem d44_10 : own_D own_k44 10 (.lload_n 0) 1 := by decide +kernel
theorem d44_11 : own_D own_k44 11 (.ldc2_w 50) 3 := by decide +kernel
theorem d44_14 : own_D own_k44 14 (.lcmp) 1 := by decide +kernel
theorem d44_15 : own_D own_k44 15 (.ifCond .ge 5) 3 := by decide +kernel
theorem d44_18 : own_D own_k44 18 (.iconst 2) 1 := by decide +kernel
theorem d44_19 : own_D own_k44 19 (.ireturn) 1 := by decide +kernel
theorem d44_20 : own_D own_k44 20 (.lload_n 0) 1 := by decide +kernel
theorem d44_21 : own_D own_k44 21 (.ldc2_w 52) 3 := by decide +kernel
theorem d44_24 : own_D own_k44 24 (.lcmp) 1 := by decide +kernel
theorem d44_25 : own_D own_k44 25 (.ifCond .ge 5) 3 := by decide +kernel
theorem d44_28 : own_D own_k44 28 (.iconst 3) 1 := by decide +kernel
theorem d44_29 : own_D own_k44 29 (.ireturn) 1 := by decide +kernel
theorem d44_30 : own_D own_k44 30 (.lload_n 0) 1 := by decide +kernel
theorem d44_31 : own_D own_k44 31 (.ldc2_w 54) 3 := by decide +kernel
theorem d44_34 : own_D own_k44 34 (.lcmp) 1 := by decide +kernel
theorem d44_35 : own_D own_k44 35 (.ifCond .ge 5) 3 := by decide +kernel
theorem d44_38 : own_D own_k44 38 (.iconst 4) 1 := by decide +kernel
theorem d44_39 : own_D own_k44 39 (.ireturn) 1 := by decide +kernel
theorem d44_40 : own_D own_k44 40 (.lload_n 0) 1 := by decide +kernel
theorem d44_41 : own_D own_k44 41 (.ldc2_w 56) 3 := by decide +kernel
theorem d44_44 : own_D own_k44 44 (.lcmp) 1 := by decide +kernel
theorem d44_45 : own_D own_k44 45 (.ifCond .ge 5) 3 := by decide +kernel
theorem d44_48 : own_D own_k44 48 (.iconst 5) 1 := by decide +kernel
theorem d44_49 : own_D own_k44 49 (.ireturn) 1 := by decide +kernel
theorem d44_50 : own_D own_k44 50 (.lload_n 0) 1 := by decide +kernel
theorem d44_51 : own_D own_k44 51 (.ldc2_w 58) 3 := by decide +kernel
theorem d44_54 : own_D own_k44 54 (.lcmp) 1 := by decide +kernel
theorem d44_55 : own_D own_k44 55 (.ifCond .ge 6) 3 := by decide +kernel
theorem d44_58 : own_D own_k44 58 (.bipush 6) 2 := by decide +kernel
theorem d44_60 : own_D own_k44 60 (.ireturn) 1 := by decide +kernel
theorem d44_61 : own_D own_k44 61 (.lload_n 0) 1 := by decide +kernel
theorem d44_62 : own_D own_k44 62 (.ldc2_w 60) 3 := by decide +kernel
theorem d44_65 : own_D own_k44 65 (.lcmp) 1 := by decide +kernel
theorem d44_66 : own_D own_k44 66 (.ifCond .ge 6) 3 := by decide +kernel
theorem d44_69 : own_D own_k44 69 (.bipush 7) 2 := by decide +kernel
theorem d44_71 : own_D own_k44 71 (.ireturn) 1 := by decide +kernel
theorem d44_72 : own_D own_k44 72 (.lload_n 0) 1 := by decide +kernel
theorem d44_73 : own_D own_k44 73 (.ldc2_w 62) 3 := by decide +kernel
theorem d44_76 : own_D own_k44 76 (.lcmp) 1 := by decide +kernel
theorem d44_77 : own_D own_k44 77 (.ifCond .ge 6) 3 := by decide +kernel
theorem d44_80 : own_D own_k44 80 (.bipush 8) 2 := by decide +kernel
theorem d44_82 : own_D own_k44 82 (.ireturn) 1 := by decide +kernel
theorem d44_83 : own_D own_k44 83 (.lload_n 0) 1 := by decide +kernel
theorem d44_84 : own_D own_k44 84 (.ldc2_w 64) 3 := by decide +kernel
theorem d44_87 : own_D own_k44 87 (.lcmp) 1 := by decide +kernel
theorem d44_88 : own_D own_k44 88 (.ifCond .ge 6) 3 := by decide +kernel
theorem d44_91 : own_D own_k44 91 (.bipush 9) 2 := by decide +kernel
theorem d44_93 : own_D own_k44 93 (.ireturn) 1 := by decide +kernel
theorem d44_94 : own_D own_k44 94 (.bipush 10) 2 := by decide +kernel
theorem d44_96 : own_D own_k44 96 (.ireturn) 1 := by decide +kernel
theorem ef_own_rm44 (m : MethodId) (q1 : Int64) : entryFrame m #[(.long q1)] 2 = mkF m 0 #[own_l q1, .second] [] := by first | (simp [entryFrame, mkF, argsToLocals, Value.category]; done) | rfl
def own_rm44_Q (Z : State) (q1 : Int64) (mm : Nat) (h0 : Heap) (n0 : Nat) (v : Option Value) (h : Heap) (L : List Loc) : Prop := v = some (.int ((own_nd mm).toInt32)) ∧ Fr n0 L ∧ h = h0
set_option maxRecDepth 65536 in
set_option maxHeartbeats 40000000 in
theorem own_rm44 (l : Launch) (Z : State) (a0 : Array Value) (hw : own_H a0 Z) (ws : List Jvm.Cond) (q1 : Int64) (mm : Nat) (h0 : Heap) (n0 : Nat) (Z0 : n0 ≤ h0.size) (hm : q1.toInt = (mm : Int)) (hmb : mm ≤ 2147483648) : own_M l Z ws own_n46 own_k44 2 (some .int) (own_R 0 0 0 0) #[(.long q1)] h0 (own_rm44_Q Z q1 mm h0 n0) := by
  refine own_open n0 "com/example/holdfast/holdfast/store/RedisAddressToStringPinLaw" rfl (plainFor_of_name own_pn10) (fun m => ef_own_rm44 m q1) ?_
  intro p e s m below meth c s₁ hx hby hml hZ hown hnm hlk hrt X0 e0 N0
  have K0 := Keep.refl h0 []
  refine own_s s₁ m 5 #[own_l q1, .second] [.int (XT.cmpL q1 (10 : Int64))] (fun t k => XT.lloadN X0.here hx rfl (hb hby d44_0) rfl (X0.ldc2Long hx hown (mvT hZ (own_w hw 236 rfl)) (g := (mkF m 1 #[own_l q1, .second] [.long q1])) rfl (hb hby d44_1) _ (XT.lcmp X0.here hx rfl (hb hby d44_4) rfl k))) ?_
  by_cases hc5_101 : q1 < (10 : Int64)
  · refine own_s s₁ m 9 #[own_l q1, .second] [.int 1] (fun t k => XS.ifNo X0.here hx rfl (hb hby d44_5) rfl (XT.ll_ge_f hc5_101) (XS.iconst X0.here hx rfl (hb hby d44_8) k)) ?_
    exact own_retI X0 hx hlk hrt (hb hby d44_9) ⟨(own_ndP (k := 1) rfl (by rw [Int64.lt_iff_toInt_lt, show (10 : Int64).toInt = (10 : Int) from rfl] at hc5_101; exact own_nd_1 (by omega) (by omega))), N0, e0⟩ (by decide) (by decide)
  · refine own_s s₁ m 15 #[own_l q1, .second] [.int (XT.cmpL q1 (100 : Int64))] (fun t k => XS.ifYes X0.here hx rfl (pc0 := 5) (pc' := 10) rfl (hb hby d44_5) rfl (XT.ll_ge_t hc5_101) (by decide) (by decide) (XT.lloadN X0.here hx rfl (hb hby d44_10) rfl (X0.ldc2Long hx hown (mvT hZ (own_w hw 261 rfl)) (g := (mkF m 11 #[own_l q1, .second] [.long q1])) rfl (hb hby d44_11) _ (XT.lcmp X0.here hx rfl (hb hby d44_14) rfl k)))) ?_
    by_cases hc15_102 : q1 < (100 : Int64)
    · refine own_s s₁ m 19 #[own_l q1, .second] [.int 2] (fun t k => XS.ifNo X0.here hx rfl (hb hby d44_15) rfl (XT.ll_ge_f hc15_102) (XS.iconst X0.here hx rfl (hb hby d44_18) k)) ?_
      exact own_retI X0 hx hlk hrt (hb hby d44_19) ⟨(own_ndP (k := 2) rfl (by rw [Int64.lt_iff_toInt_lt, show (10 : Int64).toInt = (10 : Int) from rfl] at hc5_101; rw [Int64.lt_iff_toInt_lt, show (100 : Int64).toInt = (100 : Int) from rfl] at hc15_102; exact own_nd_2 (by omega) (by omega))), N0, e0⟩ (by decide) (by decide)
    · refine own_s s₁ m 25 #[own_l q1, .second] [.int (XT.cmpL q1 (1000 : Int64))] (fun t k => XS.ifYes X0.here hx rfl (pc0 := 15) (pc' := 20) rfl (hb hby d44_15) rfl (XT.ll_ge_t hc15_102) (by decide) (by decide) (XT.lloadN X0.here hx rfl (hb hby d44_20) rfl (X0.ldc2Long hx hown (mvT hZ (own_w hw 262 rfl)) (g := (mkF m 21 #[own_l q1, .second] [.long q1])) rfl (hb hby d44_21) _ (XT.lcmp X0.here hx rfl (hb hby d44_24) rfl k)))) ?_
      by_cases hc25_103 : q1 < (1000 : Int64)
      · refine own_s s₁ m 29 #[own_l q1, .second] [.int 3] (fun t k => XS.ifNo X0.here hx rfl (hb hby d44_25) rfl (XT.ll_ge_f hc25_103) (XS.iconst X0.here hx rfl (hb hby d44_28) k)) ?_
        exact own_retI X0 hx hlk hrt (hb hby d44_29) ⟨(own_ndP (k := 3) rfl (by rw [Int64.lt_iff_toInt_lt, show (100 : Int64).toInt = (100 : Int) from rfl] at hc15_102; rw [Int64.lt_iff_toInt_lt, show (1000 : Int64).toInt = (1000 : Int) from rfl] at hc25_103; exact own_nd_3 (by omega) (by omega))), N0, e0⟩ (by decide) (by decide)
      · refine own_s s₁ m 35 #[own_l q1, .second] [.int (XT.cmpL q1 (10000 : Int64))] (fun t k => XS.ifYes X0.here hx rfl (pc0 := 25) (pc' := 30) rfl (hb hby d44_25) rfl (XT.ll_ge_t hc25_103) (by decide) (by decide) (XT.lloadN X0.here hx rfl (hb hby d44_30) rfl (X0.ldc2Long hx hown (mvT hZ (own_w hw 263 rfl)) (g := (mkF m 31 #[own_l q1, .second] [.long q1])) rfl (hb hby d44_31) _ (XT.lcmp X0.here hx rfl (hb hby d44_34) rfl k)))) ?_
        by_cases hc35_104 : q1 < (10000 : Int64)
        · refine own_s s₁ m 39 #[own_l q1, .second] [.int 4] (fun t k => XS.ifNo X0.here hx rfl (hb hby d44_35) rfl (XT.ll_ge_f hc35_104) (XS.iconst X0.here hx rfl (hb hby d44_38) k)) ?_
          exact own_retI X0 hx hlk hrt (hb hby d44_39) ⟨(own_ndP (k := 4) rfl (by rw [Int64.lt_iff_toInt_lt, show (1000 : Int64).toInt = (1000 : Int) from rfl] at hc25_103; rw [Int64.lt_iff_toInt_lt, show (10000 : Int64).toInt = (10000 : Int) from rfl] at hc35_104; exact own_nd_4 (by omega) (by omega))), N0, e0⟩ (by decide) (by decide)
        · refine own_s s₁ m 45 #[own_l q1, .second] [.int (XT.cmpL q1 (100000 : Int64))] (fun t k => XS.ifYes X0.here hx rfl (pc0 := 35) (pc' := 40) rfl (hb hby d44_35) rfl (XT.ll_ge_t hc35_104) (by decide) (by decide) (XT.lloadN X0.here hx rfl (hb hby d44_40) rfl (X0.ldc2Long hx hown (mvT hZ (own_w hw 264 rfl)) (g := (mkF m 41 #[own_l q1, .second] [.long q1])) rfl (hb hby d44_41) _ (XT.lcmp X0.here hx rfl (hb hby d44_44) rfl k)))) ?_
          by_cases hc45_105 : q1 < (100000 : Int64)
          · refine own_s s₁ m 49 #[own_l q1, .second] [.int 5] (fun t k => XS.ifNo X0.here hx rfl (hb hby d44_45) rfl (XT.ll_ge_f hc45_105) (XS.iconst X0.here hx rfl (hb hby d44_48) k)) ?_
            exact own_retI X0 hx hlk hrt (hb hby d44_49) ⟨(own_ndP (k := 5) rfl (by rw [Int64.lt_iff_toInt_lt, show (10000 : Int64).toInt = (10000 : Int) from rfl] at hc35_104; rw [Int64.lt_iff_toInt_lt, show (100000 : Int64).toInt = (100000 : Int) from rfl] at hc45_105; exact own_nd_5 (by omega) (by omega))), N0, e0⟩ (by decide) (by decide)
          · refine own_s s₁ m 55 #[own_l q1, .second] [.int (XT.cmpL q1 (1000000 : Int64))] (fun t k => XS.ifYes X0.here hx rfl (pc0 := 45) (pc' := 50) rfl (hb hby d44_45) rfl (XT.ll_ge_t hc45_105) (by decide) (by decide) (XT.lloadN X0.here hx rfl (hb hby d44_50) rfl (X0.ldc2Long hx hown (mvT hZ (own_w hw 265 rfl)) (g := (mkF m 51 #[own_l q1, .second] [.long q1])) rfl (hb hby d44_51) _ (XT.lcmp X0.here hx rfl (hb hby d44_54) rfl k)))) ?_
            by_cases hc55_106 : q1 < (1000000 : Int64)
            · refine own_s s₁ m 60 #[own_l q1, .second] [.int 6] (fun t k => XS.ifNo X0.here hx rfl (hb hby d44_55) rfl (XT.ll_ge_f hc55_106) (XS.bipush X0.here hx rfl (hb hby d44_58) k)) ?_
              exact own_retI X0 hx hlk hrt (hb hby d44_60) ⟨(own_ndP (k := 6) rfl (by rw [Int64.lt_iff_toInt_lt, show (100000 : Int64).toInt = (100000 : Int) from rfl] at hc45_105; rw [Int64.lt_iff_toInt_lt, show (1000000 : Int64).toInt = (1000000 : Int) from rfl] at hc55_106; exact own_nd_6 (by omega) (by omega))), N0, e0⟩ (by decide) (by decide)
            · refine own_s s₁ m 66 #[own_l q1, .second] [.int (XT.cmpL q1 (10000000 : Int64))] (fun t k => XS.ifYes X0.here hx rfl (pc0 := 55) (pc' := 61) rfl (hb hby d44_55) rfl (XT.ll_ge_t hc55_106) (by decide) (by decide) (XT.lloadN X0.here hx rfl (hb hby d44_61) rfl (X0.ldc2Long hx hown (mvT hZ (own_w hw 266 rfl)) (g := (mkF m 62 #[own_l q1, .second] [.long q1])) rfl (hb hby d44_62) _ (XT.lcmp X0.here hx rfl (hb hby d44_65) rfl k)))) ?_
              by_cases hc66_107 : q1 < (10000000 : Int64)
              · refine own_s s₁ m 71 #[own_l q1, .second] [.int 7] (fun t k => XS.ifNo X0.here hx rfl (hb hby d44_66) rfl (XT.ll_ge_f hc66_107) (XS.bipush X0.here hx rfl (hb hby d44_69) k)) ?_
                exact own_retI X0 hx hlk hrt (hb hby d44_71) ⟨(own_ndP (k := 7) rfl (by rw [Int64.lt_iff_toInt_lt, show (1000000 : Int64).toInt = (1000000 : Int) from rfl] at hc55_106; rw [Int64.lt_iff_toInt_lt, show (10000000 : Int64).toInt = (10000000 : Int) from rfl] at hc66_107; exact own_nd_7 (by omega) (by omega))), N0, e0⟩ (by decide) (by decide)
              · refine own_s s₁ m 77 #[own_l q1, .second] [.int (XT.cmpL q1 (100000000 : Int64))] (fun t k => XS.ifYes X0.here hx rfl (pc0 := 66) (pc' := 72) rfl (hb hby d44_66) rfl (XT.ll_ge_t hc66_107) (by decide) (by decide) (XT.lloadN X0.here hx rfl (hb hby d44_72) rfl (X0.ldc2Long hx hown (mvT hZ (own_w hw 267 rfl)) (g := (mkF m 73 #[own_l q1, .second] [.long q1])) rfl (hb hby d44_73) _ (XT.lcmp X0.here hx rfl (hb hby d44_76) rfl k)))) ?_
                by_cases hc77_108 : q1 < (100000000 : Int64)
                · refine own_s s₁ m 82 #[own_l q1, .second] [.int 8] (fun t k => XS.ifNo X0.here hx rfl (hb hby d44_77) rfl (XT.ll_ge_f hc77_108) (XS.bipush X0.here hx rfl (hb hby d44_80) k)) ?_
                  exact own_retI X0 hx hlk hrt (hb hby d44_82) ⟨(own_ndP (k := 8) rfl (by rw [Int64.lt_iff_toInt_lt, show (10000000 : Int64).toInt = (10000000 : Int) from rfl] at hc66_107; rw [Int64.lt_iff_toInt_lt, show (100000000 : Int64).toInt = (100000000 : Int) from rfl] at hc77_108; exact own_nd_8 (by omega) (by omega))), N0, e0⟩ (by decide) (by decide)
                · refine own_s s₁ m 88 #[own_l q1, .second] [.int (XT.cmpL q1 (1000000000 : Int64))] (fun t k => XS.ifYes X0.here hx rfl (pc0 := 77) (pc' := 83) rfl (hb hby d44_77) rfl (XT.ll_ge_t hc77_108) (by decide) (by decide) (XT.lloadN X0.here hx rfl (hb hby d44_83) rfl (X0.ldc2Long hx hown (mvT hZ (own_w hw 268 rfl)) (g := (mkF m 84 #[own_l q1, .second] [.long q1])) rfl (hb hby d44_84) _ (XT.lcmp X0.here hx rfl (hb hby d44_87) rfl k)))) ?_
                  by_cases hc88_109 : q1 < (1000000000 : Int64)
                  · refine own_s s₁ m 93 #[own_l q1, .second] [.int 9] (fun t k => XS.ifNo X0.here hx rfl (hb hby d44_88) rfl (XT.ll_ge_f hc88_109) (XS.bipush X0.here hx rfl (hb hby d44_91) k)) ?_
                    exact own_retI X0 hx hlk hrt (hb hby d44_93) ⟨(own_ndP (k := 9) rfl (by rw [Int64.lt_iff_toInt_lt, show (100000000 : Int64).toInt = (100000000 : Int) from rfl] at hc77_108; rw [Int64.lt_iff_toInt_lt, show (1000000000 : Int64).toInt = (1000000000 : Int) from rfl] at hc88_109; exact own_nd_9 (by omega) (by omega))), N0, e0⟩ (by decide) (by decide)
                  · refine own_s s₁ m 96 #[own_l q1, .second] [.int 10] (fun t k => XS.ifYes X0.here hx rfl (pc0 := 88) (pc' := 94) rfl (hb hby d44_88) rfl (XT.ll_ge_t hc88_109) (by decide) (by decide) (XS.bipush X0.here hx rfl (hb hby d44_94) k)) ?_
                    exact own_retI X0 hx hlk hrt (hb hby d44_96) ⟨(own_ndP (k := 10) rfl (by rw [Int64.lt_iff_toInt_lt, show (1000000000 : Int64).toInt = (1000000000 : Int) from rfl] at hc88_109; exact own_nd_10 (by omega) (by omega))), N0, e0⟩ (by decide) (by decide)
theorem own_pd31 : parseMethodDescriptor "(J)J" = some ⟨[.long], some .long⟩ := by decide +kernel
theorem own_pd32 : parseMethodDescriptor "(J)I" = some ⟨[.long], some .int⟩ := by decide +kernel
abbrev own_k42 := method_5_code
abbrev own_n47 : MethodName := ⟨"com/example/holdfast/holdfast/store/RedisAddressToStringPinLaw", "decLen", "(I)I"⟩
theorem d42_0 : own_D own_k42 0 (.iload_n 0) 1 := by decide +kernel
theorem d42_1 : own_D own_k42 1 (.i2l) 1 := by decide +kernel
theorem d42_2 : own_D own_k42 2 (.invokestatic 66) 3 := by decide +kernel
theorem d42_5 : own_D own_k42 5 (.lstore_n 1) 1 := by decide +kernel
theorem d42_6 : own_D own_k42 6 (.iload_n 0) 1 := by decide +kernel
theorem d42_7 : own_D own_k42 7 (.ifCond .ge 7) 3 := by decide +kernel
theorem d42_10 : own_D own_k42 10 (.iconst 1) 1 := by decide +kernel
theorem d42_11 : own_D own_k42 11 (.goto 4) 3 := by decide +kernel
theorem d42_14 : own_D own_k42 14 (.iconst 0) 1 := by decide +kernel
theorem d42_15 : own_D own_k42 15 (.lload_n 1) 1 := by decide +kernel
theorem d42_16 : own_D own_k42 16 (.invokestatic 72) 3 := by decide +kernel
theorem d42_19 : own_D own_k42 19 (.iadd) 1 := by decide +kernel
theorem d42_20 : own_D own_k42 20 (.ireturn) 1 := by decide +kernel
theorem ef_own_rm42 (m : MethodId) (p1 : Int32) : entryFrame m #[(.int p1)] 3 = mkF m 0 #[own_i p1, .unset, .unset] [] := by first | (simp [entryFrame, mkF, argsToLocals, Value.category]; done) | rfl
def own_rm42_Q (Z : State) (p1 : Int32)  (h0 : Heap) (n0 : Nat) (v : Option Value) (h : Heap) (L : List Loc) : Prop := v = some (.int ((own_sz p1).toInt32)) ∧ Fr n0 L ∧ h = h0
set_option maxRecDepth 65536 in
set_option maxHeartbeats 40000000 in
theorem own_rm42 (l : Launch) (Z : State) (a0 : Array Value) (hw : own_H a0 Z) (ws : List Jvm.Cond) (p1 : Int32) (h0 : Heap) (n0 : Nat) (Z0 : n0 ≤ h0.size) : own_M l Z ws own_n47 own_k42 3 (some .int) (own_R 1 0 0 14) #[(.int p1)] h0 (own_rm42_Q Z p1  h0 n0) := by
  refine own_open n0 "com/example/holdfast/holdfast/store/RedisAddressToStringPinLaw" rfl (plainFor_of_name own_pn10) (fun m => ef_own_rm42 m p1) ?_
  intro p e s m below meth c s₁ hx hby hml hZ hown hnm hlk hrt X0 e0 N0
  have K0 := Keep.refl h0 []
  refine own_s s₁ m 2 #[own_i p1, .unset, .unset] [.long (p1.toInt64)] (fun t k => XS.iloadN X0.here hx rfl (hb hby d42_0) rfl (XT.i2l X0.here hx rfl (hb hby d42_1) rfl k)) ?_
  obtain ⟨v101, _, ⟨T101, L101, k101, n101⟩, -, X101, ⟨Lc101, hQ101, l101, y101, z101⟩, st101⟩ := Jvm.LawKit.callS X0 hx (y := own_n45) hown (mvT hZ (own_w hw 230 rfl)) (mvT hZ (own_w hw 231 rfl)) (mvT hZ (own_w hw 224 rfl)) (mvT hZ (own_w hw 232 rfl)) (by decide) (backOf (W := 0) (own_rm43 l Z a0 hw [] (p1.toInt64) h0 n0 (Nat.le_trans Z0 K0.1) ) hZ (own_w hw 232 rfl) (own_w hw 224 rfl) (by decide) (by decide)) (g := (mkF m 2 #[own_i p1, .unset, .unset] [.long (p1.toInt64)])) rfl (by rw [hml]; rfl) (argsL := [.long (p1.toInt64)]) (rest := []) (lenOf own_pd31 rfl) rfl (by exact own_ca rfl) (hb hby d42_2) (fun _ _ => ⟨rfl, e0, (by decide : 0 + 0 ≤ _), (by decide : 0 + 0 ≤ _)⟩)
  dsimp only [Pt.U, Pt.locs, Pt.cells, Pt.slots] at X101 l101 y101 z101 st101 hQ101
  subst l101 y101 z101
  obtain ⟨rfl, N101q, e101⟩ := hQ101
  have N101 := Fr.app N0 N101q
  refine own_s T101 m 7 #[own_i p1, own_l (own_absL (p1.toInt64)), .second] [.int p1] (fun t k => st101 _ (XT.lstoreN X101.here hx rfl (hb hby d42_5) rfl (l' := #[own_i p1, own_l (own_absL (p1.toInt64)), .second]) rfl (XS.iloadN X101.here hx rfl (hb hby d42_6) rfl k))) ?_
  by_cases hc7_102 : p1 < 0
  · refine own_s T101 m 16 #[own_i p1, own_l (own_absL (p1.toInt64)), .second] [.long (own_absL (p1.toInt64)), .int 1] (fun t k => XS.ifNo X101.here hx rfl (hb hby d42_7) rfl (XT.i0_ge_f hc7_102) (XS.iconst X101.here hx rfl (hb hby d42_10) (XS.goto X101.here hx rfl (pc0 := 11) (pc' := 15) rfl (hb hby d42_11) (by decide) (by decide) (XT.lloadN X101.here hx rfl (hb hby d42_15) rfl k)))) ?_
    obtain ⟨v103, _, ⟨T103, L103, k103, n103⟩, -, X103, ⟨Lc103, hQ103, l103, y103, z103⟩, st103⟩ := Jvm.LawKit.callS X101 hx (y := own_n46) hown (mvT hZ (own_w hw 233 rfl)) (mvT hZ (own_w hw 234 rfl)) (mvT hZ (own_w hw 2 rfl)) (mvT hZ (own_w hw 235 rfl)) (by decide) (backOf (W := 1) (own_rm44 l Z a0 hw [] (own_absL (p1.toInt64)) (own_abs p1) h0 n0 (Nat.le_trans Z0 K0.1) (own_abs_l p1) (own_absb p1)) hZ (own_w hw 235 rfl) (own_w hw 2 rfl) (by decide) (by decide)) (g := (mkF m 16 #[own_i p1, own_l (own_absL (p1.toInt64)), .second] [.long (own_absL (p1.toInt64)), .int 1])) rfl (by rw [hml]; rfl) (argsL := [.long (own_absL (p1.toInt64))]) (rest := [.int 1]) (lenOf own_pd32 rfl) rfl (by exact own_ca rfl) (hb hby d42_16) (fun _ _ => ⟨rfl, e101, (by decide : 0 + 0 ≤ _), (by decide : 0 + 0 ≤ _)⟩)
    dsimp only [Pt.U, Pt.locs, Pt.cells, Pt.slots] at X103 l103 y103 z103 st103 hQ103
    subst l103 y103 z103
    obtain ⟨rfl, N103q, e103⟩ := hQ103
    have N103 := Fr.app N101 N103q
    refine own_s T103 m 20 #[own_i p1, own_l (own_absL (p1.toInt64)), .second] [.int ((1 : Int32) + ((own_nd (own_abs p1)).toInt32))] (fun t k => st103 _ (XS.iadd X103.here hx rfl (hb hby d42_19) rfl k)) ?_
    exact own_retI X103 hx hlk hrt (hb hby d42_20) ⟨(by rw [← own_szE, if_pos hc7_102]), N103, e103⟩ (by decide) (by decide)
  · refine own_s T101 m 16 #[own_i p1, own_l (own_absL (p1.toInt64)), .second] [.long (own_absL (p1.toInt64)), .int 0] (fun t k => XS.ifYes X101.here hx rfl (pc0 := 7) (pc' := 14) rfl (hb hby d42_7) rfl (XT.i0_ge_t hc7_102) (by decide) (by decide) (XS.iconst X101.here hx rfl (hb hby d42_14) (XT.lloadN X101.here hx rfl (hb hby d42_15) rfl k))) ?_
    obtain ⟨v104, _, ⟨T104, L104, k104, n104⟩, -, X104, ⟨Lc104, hQ104, l104, y104, z104⟩, st104⟩ := Jvm.LawKit.callS X101 hx (y := own_n46) hown (mvT hZ (own_w hw 233 rfl)) (mvT hZ (own_w hw 234 rfl)) (mvT hZ (own_w hw 2 rfl)) (mvT hZ (own_w hw 235 rfl)) (by decide) (backOf (W := 1) (own_rm44 l Z a0 hw [] (own_absL (p1.toInt64)) (own_abs p1) h0 n0 (Nat.le_trans Z0 K0.1) (own_abs_l p1) (own_absb p1)) hZ (own_w hw 235 rfl) (own_w hw 2 rfl) (by decide) (by decide)) (g := (mkF m 16 #[own_i p1, own_l (own_absL (p1.toInt64)), .second] [.long (own_absL (p1.toInt64)), .int 0])) rfl (by rw [hml]; rfl) (argsL := [.long (own_absL (p1.toInt64))]) (rest := [.int 0]) (lenOf own_pd32 rfl) rfl (by exact own_ca rfl) (hb hby d42_16) (fun _ _ => ⟨rfl, e101, (by decide : 0 + 0 ≤ _), (by decide : 0 + 0 ≤ _)⟩)
    dsimp only [Pt.U, Pt.locs, Pt.cells, Pt.slots] at X104 l104 y104 z104 st104 hQ104
    subst l104 y104 z104
    obtain ⟨rfl, N104q, e104⟩ := hQ104
    have N104 := Fr.app N101 N104q
    refine own_s T104 m 20 #[own_i p1, own_l (own_absL (p1.toInt64)), .second] [.int ((0 : Int32) + ((own_nd (own_abs p1)).toInt32))] (fun t k => st104 _ (XS.iadd X104.here hx rfl (hb hby d42_19) rfl k)) ?_
    exact own_retI X104 hx hlk hrt (hb hby d42_20) ⟨(by rw [← own_szE, if_neg hc7_102]), N104, e104⟩ (by decide) (by decide)
theorem own_pn11 : plainName "jdk/internal/util/Preconditions" = true := by first | (simp [plainName, overriddenIn]; done) | decide +kernel
abbrev own_k48 := jdk_41_method_11_code
abbrev own_n48 : MethodName := ⟨"jdk/internal/util/Preconditions", "checkIndex", "(IILjava/util/function/BiFunction;)I"⟩
theorem d48_0 : own_D own_k48 0 (.iload_n 0) 1 := by decide +kernel
theorem d48_1 : own_D own_k48 1 (.ifCond .lt 8) 3 := by decide +kernel
theorem d48_4 : own_D own_k48 4 (.iload_n 0) 1 := by decide +kernel
theorem d48_5 : own_D own_k48 5 (.iload_n 1) 1 := by decide +kernel
theorem d48_6 : own_D own_k48 6 (.if_icmp .lt 10) 3 := by decide +kernel
theorem d48_16 : own_D own_k48 16 (.iload_n 0) 1 := by decide +kernel
theorem d48_17 : own_D own_k48 17 (.ireturn) 1 := by decide +kernel
theorem ef_own_rm48 (m : MethodId) (p1 : Int32) (p2 : Int32) (w1 : Value) (h_w1 : w1.isRef = true) : entryFrame m #[(.int p1), (.int p2), w1] 3 = mkF m 0 #[own_i p1, own_i p2, .val w1] [] := by first | (simp [entryFrame, mkF, argsToLocals, show ∀ a : Addr, (Value.ref a).category = 1 from fun _ => rfl, show ∀ a : Int32, (Value.int a).category = 1 from fun _ => rfl, show ∀ a : Int64, (Value.long a).category = 2 from fun _ => rfl, XT.cat1 h_w1]; done) | rfl | (cases w1 <;>  first | (simp [entryFrame, mkF, argsToLocals, Value.category]; done) | rfl | (cases h_w1))
def own_rm48_Q (Z : State) (p1 : Int32) (p2 : Int32) (w1 : Value)  (h0 : Heap) (n0 : Nat) (v : Option Value) (h : Heap) (L : List Loc) : Prop := v = some (.int (p1)) ∧ Fr n0 L ∧ h = h0
set_option maxRecDepth 65536 in
set_option maxHeartbeats 40000000 in
theorem own_rm48 (l : Launch) (Z : State) (a0 : Array Value) (hw : own_H a0 Z) (ws : List Jvm.Cond) (p1 p2 : Int32) (w1 : Value) (h0 : Heap) (n0 : Nat) (Z0 : n0 ≤ h0.size) (h0_ : ¬ p1 < 0) (h1_ : p1 < p2) (hw1 : w1.isRef = true) : own_M l Z ws own_n48 own_k48 3 (some .int) (own_R 0 0 0 0) #[(.int p1), (.int p2), w1] h0 (own_rm48_Q Z p1 p2 w1  h0 n0) := by
  refine own_open n0 "jdk/internal/util/Preconditions" rfl (plainFor_of_name own_pn11) (fun m => ef_own_rm48 m p1 p2 w1 (hw1)) ?_
  intro p e s m below meth c s₁ hx hby hml hZ hown hnm hlk hrt X0 e0 N0
  have K0 := Keep.refl h0 []
  refine own_s s₁ m 6 #[own_i p1, own_i p2, .val w1] [.int p2, .int p1] (fun t k => XS.iloadN X0.here hx rfl (hb hby d48_0) rfl (XS.ifNo X0.here hx rfl (hb hby d48_1) rfl (XT.i0_lt_f h0_) (XS.iloadN X0.here hx rfl (hb hby d48_4) rfl (XS.iloadN X0.here hx rfl (hb hby d48_5) rfl k)))) ?_
  refine own_s s₁ m 17 #[own_i p1, own_i p2, .val w1] [.int p1] (fun t k => XS.icmpYes X0.here hx rfl (pc0 := 6) (pc' := 16) rfl (hb hby d48_6) rfl (XT.ii_lt_t h1_) (by decide) (by decide) (XS.iloadN X0.here hx rfl (hb hby d48_16) rfl k)) ?_
  exact own_retI X0 hx hlk hrt (hb hby d48_17) ⟨rfl, N0, e0⟩ (by decide) (by decide)
theorem own_pd33 : parseMethodDescriptor "(IILjava/util/function/BiFunction;)I" = some ⟨[.int, .int, (.object "java/util/function/BiFunction")], some .int⟩ := by decide +kernel
abbrev own_k47 := jdk_42_method_155_code
abbrev own_n49 : MethodName := ⟨"java/lang/String", "checkIndex", "(II)V"⟩
theorem d47_0 : own_D own_k47 0 (.iload_n 0) 1 := by decide +kernel
theorem d47_1 : own_D own_k47 1 (.iload_n 1) 1 := by decide +kernel
theorem d47_2 : own_D own_k47 2 (.getstatic 1053) 3 := by decide +kernel
theorem d47_5 : own_D own_k47 5 (.invokestatic 1059) 3 := by decide +kernel
theorem d47_8 : own_D own_k47 8 (.pop) 1 := by decide +kernel
theorem d47_9 : own_D own_k47 9 (.return_) 1 := by decide +kernel
theorem ef_own_rm47 (m : MethodId) (p1 : Int32) (p2 : Int32) : entryFrame m #[(.int p1), (.int p2)] 2 = mkF m 0 #[own_i p1, own_i p2] [] := by first | (simp [entryFrame, mkF, argsToLocals, Value.category]; done) | rfl
def own_rm47_Q (Z : State) (p1 : Int32) (p2 : Int32) (wf : Value) (h0 : Heap) (n0 : Nat) (v : Option Value) (h : Heap) (L : List Loc) : Prop := v = none ∧ Fr n0 L ∧ h = h0
set_option maxRecDepth 65536 in
set_option maxHeartbeats 40000000 in
theorem own_rm47 (l : Launch) (Z : State) (a0 : Array Value) (hw : own_H a0 Z) (ws : List Jvm.Cond) (p1 p2 : Int32) (wf : Value) (h0 : Heap) (n0 : Nat) (Z0 : n0 ≤ h0.size) (SF : Sta Z h0 "jdk/internal/util/Preconditions" "SIOOBE_FORMATTER" "Ljava/util/function/BiFunction;" wf) (hfr : wf.isRef = true) (h0_ : ¬ p1 < 0) (h1_ : p1 < p2) : own_M l Z ws own_n49 own_k47 2 none (own_R 1 0 0 14) #[(.int p1), (.int p2)] h0 (own_rm47_Q Z p1 p2 wf h0 n0) := by
  refine own_open n0 "java/lang/String" rfl (plainFor_of_name own_pn1) (fun m => ef_own_rm47 m p1 p2) ?_
  intro p e s m below meth c s₁ hx hby hml hZ hown hnm hlk hrt X0 e0 N0
  have K0 := Keep.refl h0 []
  refine own_s s₁ m 2 #[own_i p1, own_i p2] [.int p2, .int p1] (fun t k => XS.iloadN X0.here hx rfl (hb hby d47_0) rfl (XS.iloadN X0.here hx rfl (hb hby d47_1) rfl k)) ?_
  obtain ⟨T101, X101, e101, st101⟩ := getS X0 hx hZ hown (host := "") (own_w hw 249 rfl) Via.refl e0 SF (g := (mkF m 2 #[own_i p1, own_i p2] [.int p2, .int p1])) rfl (hb hby d47_2)
  refine own_s T101 m 5 #[own_i p1, own_i p2] [wf, .int p2, .int p1] (fun t k => st101 _ k) ?_
  obtain ⟨v102, _, ⟨T102, L102, k102, n102⟩, -, X102, ⟨Lc102, hQ102, l102, y102, z102⟩, st102⟩ := Jvm.LawKit.callS X101 hx (y := own_n48) hown (mvT hZ (own_w hw 251 rfl)) (mvT hZ (own_w hw 252 rfl)) (mvT hZ (own_w hw 250 rfl)) (mvT hZ (own_w hw 253 rfl)) (by decide) (backOf (W := 0) (own_rm48 l Z a0 hw [] p1 p2 wf h0 n0 (Nat.le_trans Z0 K0.1) h0_ h1_ hfr) hZ (own_w hw 253 rfl) (own_w hw 250 rfl) (by decide) (by decide)) (g := (mkF m 5 #[own_i p1, own_i p2] [wf, .int p2, .int p1])) rfl (by rw [hml]; rfl) (argsL := [.int p1, .int p2, wf]) (rest := []) (lenOf own_pd33 rfl) rfl (by exact own_ca rfl) (hb hby d47_5) (fun _ _ => ⟨rfl, e101, (by decide : 0 + 0 ≤ _), (by decide : 0 + 0 ≤ _)⟩)
  dsimp only [Pt.U, Pt.locs, Pt.cells, Pt.slots] at X102 l102 y102 z102 st102 hQ102
  subst l102 y102 z102
  obtain ⟨rfl, N102q, e102⟩ := hQ102
  have N102 := Fr.app N0 N102q
  refine own_s T102 m 9 #[own_i p1, own_i p2] [] (fun t k => st102 _ (XT.pop X102.here hx rfl (hb hby d47_8) rfl rfl k)) ?_
  exact own_retV X102 hx hlk hrt (hb hby d47_9) ⟨rfl, N102, e102⟩ (by decide) (by decide)
theorem own_ixlt {p x : Int32} {L : List Int32} (hl : L.length < 2147483648) (h0 : ¬ p < 0) (hx : L[p.toNatClampNeg]? = some x) : p < L.length.toInt32 ∧ (L.map Value.int)[p.toNatClampNeg]? = some (.int x) := by
  have h := (List.getElem?_eq_some_iff.mp hx).1
  refine ⟨?_, by rw [List.getElem?_map, hx]; rfl⟩
  rw [Int32.lt_iff_toInt_lt] at h0 ⊢
  have e : (0 : Int32).toInt = 0 := rfl
  rw [len_toInt (by omega)]
  rw [Int32.toNatClampNeg] at h
  omega
abbrev own_k46 := jdk_43_method_2_code
abbrev own_n50 : MethodName := ⟨"java/lang/StringLatin1", "charAt", "([BI)C"⟩
theorem d46_0 : own_D own_k46 0 (.iload_n 1) 1 := by decide +kernel
theorem d46_1 : own_D own_k46 1 (.aload_n 0) 1 := by decide +kernel
theorem d46_2 : own_D own_k46 2 (.arraylength) 1 := by decide +kernel
theorem d46_3 : own_D own_k46 3 (.invokestatic 9) 3 := by decide +kernel
theorem d46_6 : own_D own_k46 6 (.aload_n 0) 1 := by decide +kernel
theorem d46_7 : own_D own_k46 7 (.iload_n 1) 1 := by decide +kernel
theorem d46_8 : own_D own_k46 8 (.baload) 1 := by decide +kernel
theorem d46_9 : own_D own_k46 9 (.sipush 255) 3 := by decide +kernel
theorem d46_12 : own_D own_k46 12 (.iand) 1 := by decide +kernel
theorem d46_13 : own_D own_k46 13 (.i2c) 1 := by decide +kernel
theorem d46_14 : own_D own_k46 14 (.ireturn) 1 := by decide +kernel
theorem ef_own_rm46 (m : MethodId) (a1 : Addr) (p1 : Int32) : entryFrame m #[(.ref a1), (.int p1)] 2 = mkF m 0 #[own_r a1, own_i p1] [] := by first | (simp [entryFrame, mkF, argsToLocals, Value.category]; done) | rfl
def own_rm46_Q (Z : State) (a1 : Addr) (p1 : Int32) (wf : Value) (BB : List Int32) (x : Int32) (h0 : Heap) (n0 : Nat) (v : Option Value) (h : Heap) (L : List Loc) : Prop := v = some (.int (own_c8 x)) ∧ Fr n0 L ∧ h = h0
set_option maxRecDepth 65536 in
set_option maxHeartbeats 40000000 in
theorem own_rm46 (l : Launch) (Z : State) (a0 : Array Value) (hw : own_H a0 Z) (ws : List Jvm.Cond) (a1 : Addr) (p1 : Int32) (wf : Value) (BB : List Int32) (x : Int32) (h0 : Heap) (n0 : Nat) (Z0 : n0 ≤ h0.size) (SF : Sta Z h0 "jdk/internal/util/Preconditions" "SIOOBE_FORMATTER" "Ljava/util/function/BiFunction;" wf) (hfr : wf.isRef = true) (A_a1 : own_Ar Z h0 a1 .byte (BB.map Value.int)) (hj0 : ¬ p1 < 0) (hxx : BB[p1.toNatClampNeg]? = some x) (hlb : BB.length < 2147483648) : own_M l Z ws own_n50 own_k46 2 (some .char) (own_R 2 0 0 27) #[(.ref a1), (.int p1)] h0 (own_rm46_Q Z a1 p1 wf BB x h0 n0) := by
  refine own_open n0 "java/lang/StringLatin1" rfl (plainFor_of_name own_pn7) (fun m => ef_own_rm46 m a1 p1) ?_
  intro p e s m below meth c s₁ hx hby hml hZ hown hnm hlk hrt X0 e0 N0
  have K0 := Keep.refl h0 []
  obtain ⟨hj1, hx3⟩ := own_ixlt hlb hj0 hxx
  refine own_s s₁ m 3 #[own_r a1, own_i p1] [.int BB.length.toInt32, .int p1] (fun t k => XS.iloadN X0.here hx rfl (hb hby d46_0) rfl (XS.aloadN X0.here hx rfl (hb hby d46_1) rfl (rfl) (own_len X0 hx hZ e0 A_a1 (n := BB.length.toInt32) (by rw [List.length_map]) (g := (mkF m 2 #[own_r a1, own_i p1] [.ref a1, .int p1])) rfl rfl (hb hby d46_2) _ k))) ?_
  obtain ⟨v101, _, ⟨T101, L101, k101, n101⟩, -, X101, ⟨Lc101, hQ101, l101, y101, z101⟩, st101⟩ := Jvm.LawKit.callS X0 hx (y := own_n49) hown (mvT hZ (own_w hw 246 rfl)) (mvT hZ (own_w hw 247 rfl)) (mvT hZ (own_w hw 6 rfl)) (mvT hZ (own_w hw 248 rfl)) (by decide) (backOf (W := 0) (own_rm47 l Z a0 hw [] p1 BB.length.toInt32 wf h0 n0 (Nat.le_trans Z0 K0.1) SF hfr hj0 hj1) hZ (own_w hw 248 rfl) (own_w hw 6 rfl) (by decide) (by decide)) (g := (mkF m 3 #[own_r a1, own_i p1] [.int BB.length.toInt32, .int p1])) rfl (by rw [hml]; rfl) (argsL := [.int p1, .int BB.length.toInt32]) (rest := []) (lenOf own_pd15 rfl) rfl (by exact own_ca rfl) (hb hby d46_3) (fun _ _ => ⟨rfl, e0, (by decide : 0 + 0 ≤ _), (by decide : 0 + 0 ≤ _)⟩)
  dsimp only [Pt.U, Pt.locs, Pt.cells, Pt.slots] at X101 l101 y101 z101 st101 hQ101
  subst l101 y101 z101
  obtain ⟨rfl, N101q, e101⟩ := hQ101
  have N101 := Fr.app N0 N101q
  refine own_s T101 m 9 #[own_r a1, own_i p1] [.int x] (fun t k => st101 _ (XS.aloadN X101.here hx rfl (hb hby d46_6) rfl (rfl) (XS.iloadN X101.here hx rfl (hb hby d46_7) rfl (own_ldB X101 hx hZ e101 A_a1 (j := p1) (v := (.int x)) hj0 hx3 (g := (mkF m 8 #[own_r a1, own_i p1] [.int p1, .ref a1])) rfl rfl (hb hby d46_8) _ k)))) ?_
  refine own_s T101 m 14 #[own_r a1, own_i p1] [.int ((x &&& (255 : Int32)).toUInt32.toUInt16.toUInt32.toInt32)] (fun t k => XS.sipush X101.here hx rfl (hb hby d46_9) (XS.iand X101.here hx rfl (hb hby d46_12) rfl (XT.i2c X101.here hx rfl (hb hby d46_13) rfl k))) ?_
  exact own_retB X101 hx hlk (t := .char) hrt (by simp) (hb hby d46_14) ⟨(by rw [own_narc]; rfl), N101, e101⟩ (by decide) (by decide)
theorem own_pd34 : parseMethodDescriptor "([BI)C" = some ⟨[(.array .byte), .int], some .char⟩ := by decide +kernel
abbrev own_k45 := jdk_42_method_56_code
abbrev own_n51 : MethodName := ⟨"java/lang/String", "charAt", "(I)C"⟩
theorem d45_0 : own_D own_k45 0 (.aload_n 0) 1 := by decide +kernel
theorem d45_1 : own_D own_k45 1 (.invokevirtual 492) 3 := by decide +kernel
theorem d45_4 : own_D own_k45 4 (.ifCond .eq 12) 3 := by decide +kernel
theorem d45_7 : own_D own_k45 7 (.aload_n 0) 1 := by decide +kernel
theorem d45_8 : own_D own_k45 8 (.getfield 9) 3 := by decide +kernel
theorem d45_11 : own_D own_k45 11 (.iload_n 1) 1 := by decide +kernel
theorem d45_12 : own_D own_k45 12 (.invokestatic 495) 3 := by decide +kernel
theorem d45_15 : own_D own_k45 15 (.ireturn) 1 := by decide +kernel
theorem ef_own_rm45 (m : MethodId) (a1 : Addr) (p1 : Int32) : entryFrame m #[(.ref a1), (.int p1)] 2 = mkF m 0 #[own_r a1, own_i p1] [] := by first | (simp [entryFrame, mkF, argsToLocals, Value.category]; done) | rfl
def own_rm45_Q (Z : State) (a1 : Addr) (p1 : Int32) (wf : Value) (cs : Int32) (b1 : Addr) (BB : List Int32) (x : Int32) (h0 : Heap) (n0 : Nat) (v : Option Value) (h : Heap) (L : List Loc) : Prop := v = some (.int (own_c8 x)) ∧ Fr n0 L ∧ h = h0
set_option maxRecDepth 65536 in
set_option maxHeartbeats 40000000 in
theorem own_rm45 (l : Launch) (Z : State) (a0 : Array Value) (hw : own_H a0 Z) (ws : List Jvm.Cond) (a1 : Addr) (p1 : Int32) (wf : Value) (cs : Int32) (b1 : Addr) (BB : List Int32) (x : Int32) (h0 : Heap) (n0 : Nat) (Z0 : n0 ≤ h0.size) (SF : Sta Z h0 "jdk/internal/util/Preconditions" "SIOOBE_FORMATTER" "Ljava/util/function/BiFunction;" wf) (hfr : wf.isRef = true) (CS : Sta Z h0 "java/lang/String" "COMPACT_STRINGS" "Z" (.int cs)) (hcs : ¬ cs = 0) (Fc : Fld Z h0 a1 "java/lang/String" "coder" "B" (.int 0)) (Fv : Fld Z h0 a1 "java/lang/String" "value" "[B" (.ref b1)) (Ab : own_Ar Z h0 b1 .byte (BB.map Value.int)) (Es : Exa Z h0 a1 "java/lang/String") (hj0 : ¬ p1 < 0) (hxx : BB[p1.toNatClampNeg]? = some x) (hlb : BB.length < 2147483648) : own_M l Z ws own_n51 own_k45 2 (some .char) (own_R 3 0 0 40) #[(.ref a1), (.int p1)] h0 (own_rm45_Q Z a1 p1 wf cs b1 BB x h0 n0) := by
  refine own_open n0 "java/lang/String" rfl (plainFor_of_name own_pn1) (fun m => ef_own_rm45 m a1 p1) ?_
  intro p e s m below meth c s₁ hx hby hml hZ hown hnm hlk hrt X0 e0 N0
  have K0 := Keep.refl h0 []
  refine own_s s₁ m 1 #[own_r a1, own_i p1] [.ref a1] (fun t k => XS.aloadN X0.here hx rfl (hb hby d45_0) rfl (rfl) k) ?_
  obtain ⟨cq101, kq101, q101a, q101b, q101c⟩ := isOf hZ e0 Es
  obtain ⟨v101, _, ⟨T101, L101, k101, n101⟩, -, X101, ⟨Lc101, hQ101, l101, y101, z101⟩, st101⟩ := X0.virtualBack hx (y := own_n6) (z := own_n6) hown (mvT hZ (own_w hw 95 rfl)) (mvT hZ (own_w hw 96 rfl)) (notFace_of_selects (args := #[]) (mvT hZ (own_w hw 98 rfl))) (mvT hZ (own_w hw 98 rfl)) (mvT hZ (own_w hw 97 rfl)) (by decide) (backOf (W := 0) (own_rm16 l Z a0 hw [] a1 cs h0 n0 (Nat.le_trans Z0 K0.1) CS hcs Fc) hZ (own_w hw 99 rfl) (own_w hw 6 rfl) (by decide) (by decide)) q101a q101c (g := (mkF m 1 #[own_r a1, own_i p1] [.ref a1])) rfl (by rw [hml]; rfl) (Steps.refl _) (argsL := []) (rest := []) (lenOf own_pd18 rfl) rfl (by exact own_ca rfl) (hb hby d45_1) (fun _ _ => ⟨rfl, e0, (by decide : 0 + 0 ≤ _), (by decide : 0 + 0 ≤ _)⟩)
  dsimp only [Pt.U, Pt.locs, Pt.cells, Pt.slots] at X101 l101 y101 z101 st101 hQ101
  subst l101 y101 z101
  obtain ⟨rfl, N101q, e101⟩ := hQ101
  have N101 := Fr.app N0 N101q
  refine own_s T101 m 8 #[own_r a1, own_i p1] [.ref a1] (fun t k => st101.trans (XS.ifNo X101.here hx rfl (hb hby d45_4) rfl (XT.i0_eq_f (by decide)) (XS.aloadN X101.here hx rfl (hb hby d45_7) rfl (rfl) k))) ?_
  obtain ⟨T102, X102, e102, st102⟩ := getF X101 hx hZ hown (host := "") (Or.inl (own_w hw 24 rfl)) Via.refl e101 Fv (g := (mkF m 8 #[own_r a1, own_i p1] [.ref a1])) rfl rfl (hb hby d45_8)
  refine own_s T102 m 12 #[own_r a1, own_i p1] [.int p1, .ref b1] (fun t k => st102 _ (XS.iloadN X102.here hx rfl (hb hby d45_11) rfl k)) ?_
  obtain ⟨v103, _, ⟨T103, L103, k103, n103⟩, -, X103, ⟨Lc103, hQ103, l103, y103, z103⟩, st103⟩ := Jvm.LawKit.callS X102 hx (y := own_n50) hown (mvT hZ (own_w hw 243 rfl)) (mvT hZ (own_w hw 244 rfl)) (mvT hZ (own_w hw 32 rfl)) (mvT hZ (own_w hw 245 rfl)) (by decide) (backOf (W := 0) (own_rm46 l Z a0 hw [] b1 p1 wf BB x h0 n0 (Nat.le_trans Z0 K0.1) SF hfr Ab hj0 hxx hlb) hZ (own_w hw 245 rfl) (own_w hw 32 rfl) (by decide) (by decide)) (g := (mkF m 12 #[own_r a1, own_i p1] [.int p1, .ref b1])) rfl (by rw [hml]; rfl) (argsL := [.ref b1, .int p1]) (rest := []) (lenOf own_pd34 rfl) rfl (by exact own_ca rfl) (hb hby d45_12) (fun _ _ => ⟨rfl, e102, (by decide : 0 + 0 ≤ _), (by decide : 0 + 0 ≤ _)⟩)
  dsimp only [Pt.U, Pt.locs, Pt.cells, Pt.slots] at X103 l103 y103 z103 st103 hQ103
  subst l103 y103 z103
  obtain ⟨rfl, N103q, e103⟩ := hQ103
  have N103 := Fr.app N101 N103q
  refine own_s T103 m 15 #[own_r a1, own_i p1] [.int (own_c8 x)] (fun t k => st103 _ k) ?_
  exact own_retB X103 hx hlk (t := .char) hrt (by simp) (hb hby d45_15) ⟨(by rw [own_c8, own_narc]), N103, e103⟩ (by decide) (by decide)
def own_p10 : Nat → Int64
  | 0 => 1
  | 1 => 10
  | 2 => 100
  | 3 => 1000
  | 4 => 10000
  | 5 => 100000
  | 6 => 1000000
  | 7 => 10000000
  | 8 => 100000000
  | _ => 1000000000
theorem own_p10at (k : Nat) (h : k ≤ 9) : ([(.long (1 : Int64)), (.long (10 : Int64)), (.long (100 : Int64)), (.long (1000 : Int64)), (.long (10000 : Int64)), (.long (100000 : Int64)), (.long (1000000 : Int64)), (.long (10000000 : Int64)), (.long (100000000 : Int64)), (.long (1000000000 : Int64))] : List Value)[k]? = some (.long (own_p10 k)) := match k, h with
  | 0, _ => rfl
  | 1, _ => rfl
  | 2, _ => rfl
  | 3, _ => rfl
  | 4, _ => rfl
  | 5, _ => rfl
  | 6, _ => rfl
  | 7, _ => rfl
  | 8, _ => rfl
  | 9, _ => rfl
  | k + 10, q => absurd q (by omega)
theorem own_p10i (k : Nat) (h : k ≤ 9) : (own_p10 k).toInt = ((10 ^ k : Nat) : Int) ∧ own_p10 k ≠ -1 ∧ own_p10 k ≠ 0 := match k, h with
  | 0, _ => ⟨by decide, by decide, by decide⟩
  | 1, _ => ⟨by decide, by decide, by decide⟩
  | 2, _ => ⟨by decide, by decide, by decide⟩
  | 3, _ => ⟨by decide, by decide, by decide⟩
  | 4, _ => ⟨by decide, by decide, by decide⟩
  | 5, _ => ⟨by decide, by decide, by decide⟩
  | 6, _ => ⟨by decide, by decide, by decide⟩
  | 7, _ => ⟨by decide, by decide, by decide⟩
  | 8, _ => ⟨by decide, by decide, by decide⟩
  | 9, _ => ⟨by decide, by decide, by decide⟩
  | k + 10, q => absurd q (by omega)
theorem own_dgi {d : Nat} (h : d < 10) : (own_dg d).toInt = 48 + d ∧ own_c8 (own_dg d) = own_dg d := (by decide +kernel : ∀ k : Fin 10, (own_dg k.val).toInt = 48 + k.val ∧ own_c8 (own_dg k.val) = own_dg k.val) ⟨d, h⟩
theorem own_want {q : Int64} {mm kk : Nat} (hm : q.toInt = (mm : Int)) (hk : kk ≤ 9) : ((48 : Int32) + ((q / (own_p10 kk)) - ((q / (own_p10 kk)) / (10 : Int64)) * (10 : Int64)).toInt32).toUInt32.toUInt16.toUInt32.toInt32 = own_c8 (own_dg (mm / 10 ^ kk % 10)) := by
  obtain ⟨p1, p2, -⟩ := own_p10i kk hk
  have a := (c_ldiv q (own_p10 kk) _ p1 p2).1 (by omega)
  have b := (c_lrem (q / own_p10 kk) 10 10 rfl).1 (by rw [a, hm]; exact Int.natCast_nonneg _)
  rw [a, hm] at b
  have b' : ((q / own_p10 kk) - ((q / own_p10 kk) / 10) * 10).toInt = ((mm / 10 ^ kk % 10 : Nat) : Int) := by rw [b]; norm_cast
  have hd : mm / 10 ^ kk % 10 < 10 := Nat.mod_lt _ (by decide)
  generalize mm / 10 ^ kk % 10 = D at *
  generalize (q / own_p10 kk) - ((q / own_p10 kk) / 10) * 10 = w at *
  have c := c_l2i w; have r := rng32 w.toInt32
  have d := c_iadd 48 w.toInt32; have r2 := rng32 (48 + w.toInt32)
  have e := c_i2c (48 + w.toInt32)
  have g : (48 : Int32).toInt = 48 := rfl
  rw [(own_dgi hd).2]
  apply Int32.toInt_inj.mp
  rw [(own_dgi hd).1]
  omega
theorem own_lt32 {i n : Nat} (hi : i < 2147483648) (hn : n < 2147483648) : i.toInt32 < n.toInt32 ↔ i < n := by
  rw [Int32.lt_iff_toInt_lt, len_toInt (by omega), len_toInt (by omega)]; omega
theorem own_idx4 {s n k : Nat} (h : k < n) (hs : s + n < 2147483648) : ((s.toInt32 + n.toInt32) - (1 : Int32)) - k.toInt32 = (s + n - 1 - k).toInt32 := by
  apply Int32.toInt_inj.mp
  have a := c_iadd s.toInt32 n.toInt32
  have b := c_isub (s.toInt32 + n.toInt32) 1
  have c := c_isub ((s.toInt32 + n.toInt32) - 1) k.toInt32
  rw [len_toInt (by omega)]
  rw [len_toInt (n := s) (by omega), len_toInt (n := n) (by omega)] at a
  rw [len_toInt (n := k) (by omega)] at c
  have e : (1 : Int32).toInt = 1 := rfl
  have r1 := rng32 (s.toInt32 + n.toInt32); have r2 := rng32 ((s.toInt32 + n.toInt32) - 1); have r3 := rng32 (((s.toInt32 + n.toInt32) - 1) - k.toInt32)
  omega
theorem own_pd35 : parseMethodDescriptor "(I)C" = some ⟨[.int], some .char⟩ := by decide +kernel
abbrev own_k50 := method_6_code
abbrev own_n52 : MethodName := ⟨"com/example/holdfast/holdfast/store/RedisAddressToStringPinLaw", "digitOk", "(Ljava/lang/String;IJII)Z"⟩
theorem d50_0 : own_D own_k50 0 (.iload 5) 2 := by decide +kernel
theorem d50_2 : own_D own_k50 2 (.iload 4) 2 := by decide +kernel
theorem d50_4 : own_D own_k50 4 (.if_icmp .lt 5) 3 := by decide +kernel
theorem d50_7 : own_D own_k50 7 (.iconst 1) 1 := by decide +kernel
theorem d50_8 : own_D own_k50 8 (.ireturn) 1 := by decide +kernel
theorem d50_9 : own_D own_k50 9 (.bipush 10) 2 := by decide +kernel
theorem d50_11 : own_D own_k50 11 (.newarray .long) 2 := by decide +kernel
theorem d50_13 : own_D own_k50 13 (.dup) 1 := by decide +kernel
theorem d50_14 : own_D own_k50 14 (.iconst 0) 1 := by decide +kernel
theorem d50_15 : own_D own_k50 15 (.lconst 1) 1 := by decide +kernel
theorem d50_16 : own_D own_k50 16 (.lastore) 1 := by decide +kernel
theorem d50_17 : own_D own_k50 17 (.dup) 1 := by decide +kernel
theorem d50_18 : own_D own_k50 18 (.iconst 1) 1 := by decide +kernel
theorem d50_19 : own_D own_k50 19 (.ldc2_w 48) 3 := by decide +kernel
theorem d50_22 : own_D own_k50 22 (.lastore) 1 := by decide +kernel
theorem d50_23 : own_D own_k50 23 (.dup) 1 := by decide +kernel
theorem d50_24 : own_D own_k50 24 (.iconst 2) 1 := by decide +kernel
theorem d50_25 : own_D own_k50 25 (.ldc2_w 50) 3 := by decide +kernel
theorem d50_28 : own_D own_k50 28 (.lastore) 1 := by decide +kernel
theorem d50_29 : own_D own_k50 29 (.dup) 1 := by decide +kernel
theorem d50_30 : own_D own_k50 30 (.iconst 3) 1 := by decide +kernel
theorem d50_31 : own_D own_k50 31 (.ldc2_w 52) 3 := by decide +kernel
theorem d50_34 : own_D own_k50 34 (.lastore) 1 := by decide +kernel
theorem d50_35 : own_D own_k50 35 (.dup) 1 := by decide +kernel
theorem d50_36 : own_D own_k50 36 (.iconst 4) 1 := by decide +kernel
theorem d50_37 : own_D own_k50 37 (.ldc2_w 54) 3 := by decide +kernel
theorem d50_40 : own_D own_k50 40 (.lastore) 1 := by decide +kernel
theorem d50_41 : own_D own_k50 41 (.dup) 1 := by decide +kernel
theorem d50_42 : own_D own_k50 42 (.iconst 5) 1 := by decide +kernel
theorem d50_43 : own_D own_k50 43 (.ldc2_w 56) 3 := by decide +kernel
theorem d50_46 : own_D own_k50 46 (.lastore) 1 := by decide +kernel
theorem d50_47 : own_D own_k50 47 (.dup) 1 := by decide +kernel
theorem d50_48 : own_D own_k50 48 (.bipush 6) 2 := by decide +kernel
theorem d50_50 : own_D own_k50 50 (.ldc2_w 58) 3 := by decide +kernel
theorem d50_53 : own_D own_k50 53 (.lastore) 1 := by decide +kernel
theorem d50_54 : own_D own_k50 54 (.dup) 1 := by decide +kernel
theorem d50_55 : own_D own_k50 55 (.bipush 7) 2 := by decide +kernel
theorem d50_57 : own_D own_k50 57 (.ldc2_w 60) 3 := by decide +kernel
theorem d50_60 : own_D own_k50 60 (.lastore) 1 := by decide +kernel
theorem d50_61 : own_D own_k50 61 (.dup) 1 := by decide +kernel
theorem d50_62 : own_D own_k50 62 (.bipush 8) 2 := by decide +kernel
theorem d50_64 : own_D own_k50 64 (.ldc2_w 62) 3 := by decide +kernel
theorem d50_67 : own_D own_k50 67 (.lastore) 1 := by decide +kernel
theorem d50_68 : own_D own_k50 68 (.dup) 1 := by decide +kernel
theorem d50_69 : own_D own_k50 69 (.bipush 9) 2 := by decide +kernel
theorem d50_71 : own_D own_k50 71 (.ldc2_w 64) 3 := by decide +kernel
theorem d50_74 : own_D own_k50 74 (.lastore) 1 := by decide +kernel
theorem d50_75 : own_D own_k50 75 (.astore 6) 2 := by decide +kernel
theorem d50_77 : own_D own_k50 77 (.bipush 48) 2 := by decide +kernel
theorem d50_79 : own_D own_k50 79 (.lload_n 2) 1 := by decide +kernel
theorem d50_80 : own_D own_k50 80 (.aload 6) 2 := by decide +kernel
theorem d50_82 : own_D own_k50 82 (.iload 5) 2 := by decide +kernel
theorem d50_84 : own_D own_k50 84 (.laload) 1 := by decide +kernel
theorem d50_85 : own_D own_k50 85 (.ldiv) 1 := by decide +kernel
theorem d50_86 : own_D own_k50 86 (.ldc2_w 48) 3 := by decide +kernel
theorem d50_89 : own_D own_k50 89 (.lrem) 1 := by decide +kernel
theorem d50_90 : own_D own_k50 90 (.l2i) 1 := by decide +kernel
theorem d50_91 : own_D own_k50 91 (.iadd) 1 := by decide +kernel
theorem d50_92 : own_D own_k50 92 (.i2c) 1 := by decide +kernel
theorem d50_93 : own_D own_k50 93 (.istore 7) 2 := by decide +kernel
theorem d50_95 : own_D own_k50 95 (.aload_n 0) 1 := by decide +kernel
theorem d50_96 : own_D own_k50 96 (.iload_n 1) 1 := by decide +kernel
theorem d50_97 : own_D own_k50 97 (.iload 4) 2 := by decide +kernel
theorem d50_99 : own_D own_k50 99 (.iadd) 1 := by decide +kernel
theorem d50_100 : own_D own_k50 100 (.iconst 1) 1 := by decide +kernel
theorem d50_101 : own_D own_k50 101 (.isub) 1 := by decide +kernel
theorem d50_102 : own_D own_k50 102 (.iload 5) 2 := by decide +kernel
theorem d50_104 : own_D own_k50 104 (.isub) 1 := by decide +kernel
theorem d50_105 : own_D own_k50 105 (.invokevirtual 41) 3 := by decide +kernel
theorem d50_108 : own_D own_k50 108 (.iload 7) 2 := by decide +kernel
theorem d50_110 : own_D own_k50 110 (.if_icmp .ne 7) 3 := by decide +kernel
theorem d50_113 : own_D own_k50 113 (.iconst 1) 1 := by decide +kernel
theorem d50_114 : own_D own_k50 114 (.goto 4) 3 := by decide +kernel
theorem d50_118 : own_D own_k50 118 (.ireturn) 1 := by decide +kernel
theorem ef_own_rm50 (m : MethodId) (a1 : Addr) (p1 : Int32) (q1 : Int64) (p2 : Int32) (p3 : Int32) : entryFrame m #[(.ref a1), (.int p1), (.long q1), (.int p2), (.int p3)] 8 = mkF m 0 #[own_r a1, own_i p1, own_l q1, .second, own_i p2, own_i p3, .unset, .unset] [] := by first | (simp [entryFrame, mkF, argsToLocals, Value.category]; done) | rfl
def own_rm50_Q (Z : State) (a1 : Addr) (p1 : Int32) (q1 : Int64) (p2 : Int32) (p3 : Int32) (wf : Value) (cs : Int32) (b1 : Addr) (RR : List Int32) (ss : Nat) (nn : Nat) (kk : Nat) (mm : Nat) (h0 : Heap) (n0 : Nat) (v : Option Value) (h : Heap) (L : List Loc) : Prop := v = some (.int 1) ∧ Fr n0 L ∧ Keep h0 h []
set_option maxRecDepth 65536 in
set_option maxHeartbeats 40000000 in
theorem own_rm50 (l : Launch) (Z : State) (a0 : Array Value) (hw : own_H a0 Z) (ws : List Jvm.Cond) (a1 : Addr) (p1 : Int32) (q1 : Int64) (p2 p3 : Int32) (wf : Value) (cs : Int32) (b1 : Addr) (RR : List Int32) (ss nn kk mm : Nat) (h0 : Heap) (n0 : Nat) (Z0 : n0 ≤ h0.size) (SF : Sta Z h0 "jdk/internal/util/Preconditions" "SIOOBE_FORMATTER" "Ljava/util/function/BiFunction;" wf) (hfr : wf.isRef = true) (CS : Sta Z h0 "java/lang/String" "COMPACT_STRINGS" "Z" (.int cs)) (hcs : ¬ cs = 0) (Fc : Fld Z h0 a1 "java/lang/String" "coder" "B" (.int 0)) (Fv : Fld Z h0 a1 "java/lang/String" "value" "[B" (.ref b1)) (Ab : own_Ar Z h0 b1 .byte (RR.map Value.int)) (Es : Exa Z h0 a1 "java/lang/String") (hp1 : p1 = ss.toInt32) (hp2 : p2 = nn.toInt32) (hp3 : p3 = kk.toInt32) (hk : kk ≤ 9) (hnn : nn ≤ 10) (hm : q1.toInt = (mm : Int)) (hl : ss + nn ≤ RR.length) (hlR : RR.length < 2147483648) (hel : kk < nn → RR[ss + nn - 1 - kk]? = some (own_dg (mm / 10 ^ kk % 10))) : own_M l Z ws own_n52 own_k50 8 (some .boolean) (own_R 4 1 10 53) #[(.ref a1), (.int p1), (.long q1), (.int p2), (.int p3)] h0 (own_rm50_Q Z a1 p1 q1 p2 p3 wf cs b1 RR ss nn kk mm h0 n0) := by
  refine own_open n0 "com/example/holdfast/holdfast/store/RedisAddressToStringPinLaw" rfl (plainFor_of_name own_pn10) (fun m => ef_own_rm50 m a1 p1 q1 p2 p3) ?_
  intro p e s m below meth c s₁ hx hby hml hZ hown hnm hlk hrt X0 e0 N0
  have K0 := Keep.refl h0 []
  subst hp1 hp2 hp3
  refine own_s s₁ m 4 #[own_r a1, own_i ss.toInt32, own_l q1, .second, own_i nn.toInt32, own_i kk.toInt32, .unset, .unset] [.int nn.toInt32, .int kk.toInt32] (fun t k => XS.iload X0.here hx rfl (hb hby d50_0) rfl (XS.iload X0.here hx rfl (hb hby d50_2) rfl k)) ?_
  by_cases hc4_101 : kk.toInt32 < nn.toInt32
  · refine own_s s₁ m 11 #[own_r a1, own_i ss.toInt32, own_l q1, .second, own_i nn.toInt32, own_i kk.toInt32, .unset, .unset] [.int 10] (fun t k => XS.icmpYes X0.here hx rfl (pc0 := 4) (pc' := 9) rfl (hb hby d50_4) rfl (XT.ii_lt_t hc4_101) (by decide) (by decide) (XS.bipush X0.here hx rfl (hb hby d50_9) k)) ?_
    obtain ⟨T102, h102, X102, e102, E102, A102, st102⟩ := own_newP X0 hx hZ (aty := .long) (own_w hw 260 rfl) e0 (g := (mkF m 11 #[own_r a1, own_i ss.toInt32, own_l q1, .second, own_i nn.toInt32, own_i kk.toInt32, .unset, .unset] [.int 10])) rfl (hb hby d50_11) rfl (by decide) (cap := 10) (by decide) (by decide) (by decide) (by decide)
    obtain ⟨b102, g102⟩ : ∃ z, z = h0.size := ⟨_, rfl⟩
    rw [← g102] at A102 st102
    have V102 : own_Ar Z h102 b102 .long [(.long 0), (.long 0), (.long 0), (.long 0), (.long 0), (.long 0), (.long 0), (.long 0), (.long 0), (.long 0)] := A102
    have ne_a1_b102 := own_ne Fc.lt (Nat.le_of_eq g102.symm)
    have ne_b1_b102 := own_ne Ab.lt (Nat.le_of_eq g102.symm)
    have sz_b102 : h0.size ≤ b102 := Nat.le_trans K0.1 (Nat.le_of_eq g102.symm)
    have g_b102 : n0 ≤ b102 := Nat.le_trans Z0 sz_b102
    have Kc102 : Keep h0 h102 [] := K0.ext E102
    refine own_s T102 m 16 #[own_r a1, own_i ss.toInt32, own_l q1, .second, own_i nn.toInt32, own_i kk.toInt32, .unset, .unset] [.long (1 : Int64), .int 0, .ref b102, .ref b102] (fun t k => st102 _ (XS.dup X102.here hx rfl (hb hby d50_13) rfl (rfl) (XS.iconst X102.here hx rfl (hb hby d50_14) (XT.lconst X102.here hx rfl (hb hby d50_15) k)))) ?_
    obtain ⟨T103, h103, X103, e103, W103, V103', st103⟩ := own_stJ X102 hx hZ e102 V102 (j := (0 : Int32)) (by decide) (by decide : (0 : Int32).toNatClampNeg < 10) (g := (mkF m 16 #[own_r a1, own_i ss.toInt32, own_l q1, .second, own_i nn.toInt32, own_i kk.toInt32, .unset, .unset] [.long (1 : Int64), .int 0, .ref b102, .ref b102])) rfl rfl (hb hby d50_16)
    have V103 : own_Ar Z h103 b102 .long [(.long (1 : Int64)), (.long 0), (.long 0), (.long 0), (.long 0), (.long 0), (.long 0), (.long 0), (.long 0), (.long 0)] := V103'
    have Kc103 : Keep h0 h103 [] := Kc102.wr W103 (Or.inr sz_b102)
    have N103 := Fr.snoc X103 N0 g_b102
    refine own_s T103 m 22 #[own_r a1, own_i ss.toInt32, own_l q1, .second, own_i nn.toInt32, own_i kk.toInt32, .unset, .unset] [.long (10 : Int64), .int 1, .ref b102, .ref b102] (fun t k => st103 _ (XS.dup X103.here hx rfl (hb hby d50_17) rfl (rfl) (XS.iconst X103.here hx rfl (hb hby d50_18) (X103.ldc2Long hx hown (mvT hZ (own_w hw 236 rfl)) (g := (mkF m 19 #[own_r a1, own_i ss.toInt32, own_l q1, .second, own_i nn.toInt32, own_i kk.toInt32, .unset, .unset] [.int 1, .ref b102, .ref b102])) rfl (hb hby d50_19) _ k)))) ?_
    obtain ⟨T104, h104, X104, e104, W104, V104', st104⟩ := own_stJ X103 hx hZ e103 V103 (j := (1 : Int32)) (by decide) (by decide : (1 : Int32).toNatClampNeg < 10) (g := (mkF m 22 #[own_r a1, own_i ss.toInt32, own_l q1, .second, own_i nn.toInt32, own_i kk.toInt32, .unset, .unset] [.long (10 : Int64), .int 1, .ref b102, .ref b102])) rfl rfl (hb hby d50_22)
    have V104 : own_Ar Z h104 b102 .long [(.long (1 : Int64)), (.long (10 : Int64)), (.long 0), (.long 0), (.long 0), (.long 0), (.long 0), (.long 0), (.long 0), (.long 0)] := V104'
    have Kc104 : Keep h0 h104 [] := Kc103.wr W104 (Or.inr sz_b102)
    have N104 := Fr.snoc X104 N103 g_b102
    refine own_s T104 m 28 #[own_r a1, own_i ss.toInt32, own_l q1, .second, own_i nn.toInt32, own_i kk.toInt32, .unset, .unset] [.long (100 : Int64), .int 2, .ref b102, .ref b102] (fun t k => st104 _ (XS.dup X104.here hx rfl (hb hby d50_23) rfl (rfl) (XS.iconst X104.here hx rfl (hb hby d50_24) (X104.ldc2Long hx hown (mvT hZ (own_w hw 261 rfl)) (g := (mkF m 25 #[own_r a1, own_i ss.toInt32, own_l q1, .second, own_i nn.toInt32, own_i kk.toInt32, .unset, .unset] [.int 2, .ref b102, .ref b102])) rfl (hb hby d50_25) _ k)))) ?_
    obtain ⟨T105, h105, X105, e105, W105, V105', st105⟩ := own_stJ X104 hx hZ e104 V104 (j := (2 : Int32)) (by decide) (by decide : (2 : Int32).toNatClampNeg < 10) (g := (mkF m 28 #[own_r a1, own_i ss.toInt32, own_l q1, .second, own_i nn.toInt32, own_i kk.toInt32, .unset, .unset] [.long (100 : Int64), .int 2, .ref b102, .ref b102])) rfl rfl (hb hby d50_28)
    have V105 : own_Ar Z h105 b102 .long [(.long (1 : Int64)), (.long (10 : Int64)), (.long (100 : Int64)), (.long 0), (.long 0), (.long 0), (.long 0), (.long 0), (.long 0), (.long 0)] := V105'
    have Kc105 : Keep h0 h105 [] := Kc104.wr W105 (Or.inr sz_b102)
    have N105 := Fr.snoc X105 N104 g_b102
    refine own_s T105 m 34 #[own_r a1, own_i ss.toInt32, own_l q1, .second, own_i nn.toInt32, own_i kk.toInt32, .unset, .unset] [.long (1000 : Int64), .int 3, .ref b102, .ref b102] (fun t k => st105 _ (XS.dup X105.here hx rfl (hb hby d50_29) rfl (rfl) (XS.iconst X105.here hx rfl (hb hby d50_30) (X105.ldc2Long hx hown (mvT hZ (own_w hw 262 rfl)) (g := (mkF m 31 #[own_r a1, own_i ss.toInt32, own_l q1, .second, own_i nn.toInt32, own_i kk.toInt32, .unset, .unset] [.int 3, .ref b102, .ref b102])) rfl (hb hby d50_31) _ k)))) ?_
    obtain ⟨T106, h106, X106, e106, W106, V106', st106⟩ := own_stJ X105 hx hZ e105 V105 (j := (3 : Int32)) (by decide) (by decide : (3 : Int32).toNatClampNeg < 10) (g := (mkF m 34 #[own_r a1, own_i ss.toInt32, own_l q1, .second, own_i nn.toInt32, own_i kk.toInt32, .unset, .unset] [.long (1000 : Int64), .int 3, .ref b102, .ref b102])) rfl rfl (hb hby d50_34)
    have V106 : own_Ar Z h106 b102 .long [(.long (1 : Int64)), (.long (10 : Int64)), (.long (100 : Int64)), (.long (1000 : Int64)), (.long 0), (.long 0), (.long 0), (.long 0), (.long 0), (.long 0)] := V106'
    have Kc106 : Keep h0 h106 [] := Kc105.wr W106 (Or.inr sz_b102)
    have N106 := Fr.snoc X106 N105 g_b102
    refine own_s T106 m 40 #[own_r a1, own_i ss.toInt32, own_l q1, .second, own_i nn.toInt32, own_i kk.toInt32, .unset, .unset] [.long (10000 : Int64), .int 4, .ref b102, .ref b102] (fun t k => st106 _ (XS.dup X106.here hx rfl (hb hby d50_35) rfl (rfl) (XS.iconst X106.here hx rfl (hb hby d50_36) (X106.ldc2Long hx hown (mvT hZ (own_w hw 263 rfl)) (g := (mkF m 37 #[own_r a1, own_i ss.toInt32, own_l q1, .second, own_i nn.toInt32, own_i kk.toInt32, .unset, .unset] [.int 4, .ref b102, .ref b102])) rfl (hb hby d50_37) _ k)))) ?_
    obtain ⟨T107, h107, X107, e107, W107, V107', st107⟩ := own_stJ X106 hx hZ e106 V106 (j := (4 : Int32)) (by decide) (by decide : (4 : Int32).toNatClampNeg < 10) (g := (mkF m 40 #[own_r a1, own_i ss.toInt32, own_l q1, .second, own_i nn.toInt32, own_i kk.toInt32, .unset, .unset] [.long (10000 : Int64), .int 4, .ref b102, .ref b102])) rfl rfl (hb hby d50_40)
    have V107 : own_Ar Z h107 b102 .long [(.long (1 : Int64)), (.long (10 : Int64)), (.long (100 : Int64)), (.long (1000 : Int64)), (.long (10000 : Int64)), (.long 0), (.long 0), (.long 0), (.long 0), (.long 0)] := V107'
    have Kc107 : Keep h0 h107 [] := Kc106.wr W107 (Or.inr sz_b102)
    have N107 := Fr.snoc X107 N106 g_b102
    refine own_s T107 m 46 #[own_r a1, own_i ss.toInt32, own_l q1, .second, own_i nn.toInt32, own_i kk.toInt32, .unset, .unset] [.long (100000 : Int64), .int 5, .ref b102, .ref b102] (fun t k => st107 _ (XS.dup X107.here hx rfl (hb hby d50_41) rfl (rfl) (XS.iconst X107.here hx rfl (hb hby d50_42) (X107.ldc2Long hx hown (mvT hZ (own_w hw 264 rfl)) (g := (mkF m 43 #[own_r a1, own_i ss.toInt32, own_l q1, .second, own_i nn.toInt32, own_i kk.toInt32, .unset, .unset] [.int 5, .ref b102, .ref b102])) rfl (hb hby d50_43) _ k)))) ?_
    obtain ⟨T108, h108, X108, e108, W108, V108', st108⟩ := own_stJ X107 hx hZ e107 V107 (j := (5 : Int32)) (by decide) (by decide : (5 : Int32).toNatClampNeg < 10) (g := (mkF m 46 #[own_r a1, own_i ss.toInt32, own_l q1, .second, own_i nn.toInt32, own_i kk.toInt32, .unset, .unset] [.long (100000 : Int64), .int 5, .ref b102, .ref b102])) rfl rfl (hb hby d50_46)
    have V108 : own_Ar Z h108 b102 .long [(.long (1 : Int64)), (.long (10 : Int64)), (.long (100 : Int64)), (.long (1000 : Int64)), (.long (10000 : Int64)), (.long (100000 : Int64)), (.long 0), (.long 0), (.long 0), (.long 0)] := V108'
    have Kc108 : Keep h0 h108 [] := Kc107.wr W108 (Or.inr sz_b102)
    have N108 := Fr.snoc X108 N107 g_b102
    refine own_s T108 m 53 #[own_r a1, own_i ss.toInt32, own_l q1, .second, own_i nn.toInt32, own_i kk.toInt32, .unset, .unset] [.long (1000000 : Int64), .int 6, .ref b102, .ref b102] (fun t k => st108 _ (XS.dup X108.here hx rfl (hb hby d50_47) rfl (rfl) (XS.bipush X108.here hx rfl (hb hby d50_48) (X108.ldc2Long hx hown (mvT hZ (own_w hw 265 rfl)) (g := (mkF m 50 #[own_r a1, own_i ss.toInt32, own_l q1, .second, own_i nn.toInt32, own_i kk.toInt32, .unset, .unset] [.int 6, .ref b102, .ref b102])) rfl (hb hby d50_50) _ k)))) ?_
    obtain ⟨T109, h109, X109, e109, W109, V109', st109⟩ := own_stJ X108 hx hZ e108 V108 (j := (6 : Int32)) (by decide) (by decide : (6 : Int32).toNatClampNeg < 10) (g := (mkF m 53 #[own_r a1, own_i ss.toInt32, own_l q1, .second, own_i nn.toInt32, own_i kk.toInt32, .unset, .unset] [.long (1000000 : Int64), .int 6, .ref b102, .ref b102])) rfl rfl (hb hby d50_53)
    have V109 : own_Ar Z h109 b102 .long [(.long (1 : Int64)), (.long (10 : Int64)), (.long (100 : Int64)), (.long (1000 : Int64)), (.long (10000 : Int64)), (.long (100000 : Int64)), (.long (1000000 : Int64)), (.long 0), (.long 0), (.long 0)] := V109'
    have Kc109 : Keep h0 h109 [] := Kc108.wr W109 (Or.inr sz_b102)
    have N109 := Fr.snoc X109 N108 g_b102
    refine own_s T109 m 60 #[own_r a1, own_i ss.toInt32, own_l q1, .second, own_i nn.toInt32, own_i kk.toInt32, .unset, .unset] [.long (10000000 : Int64), .int 7, .ref b102, .ref b102] (fun t k => st109 _ (XS.dup X109.here hx rfl (hb hby d50_54) rfl (rfl) (XS.bipush X109.here hx rfl (hb hby d50_55) (X109.ldc2Long hx hown (mvT hZ (own_w hw 266 rfl)) (g := (mkF m 57 #[own_r a1, own_i ss.toInt32, own_l q1, .second, own_i nn.toInt32, own_i kk.toInt32, .unset, .unset] [.int 7, .ref b102, .ref b102])) rfl (hb hby d50_57) _ k)))) ?_
    obtain ⟨T110, h110, X110, e110, W110, V110', st110⟩ := own_stJ X109 hx hZ e109 V109 (j := (7 : Int32)) (by decide) (by decide : (7 : Int32).toNatClampNeg < 10) (g := (mkF m 60 #[own_r a1, own_i ss.toInt32, own_l q1, .second, own_i nn.toInt32, own_i kk.toInt32, .unset, .unset] [.long (10000000 : Int64), .int 7, .ref b102, .ref b102])) rfl rfl (hb hby d50_60)
    have V110 : own_Ar Z h110 b102 .long [(.long (1 : Int64)), (.long (10 : Int64)), (.long (100 : Int64)), (.long (1000 : Int64)), (.long (10000 : Int64)), (.long (100000 : Int64)), (.long (1000000 : Int64)), (.long (10000000 : Int64)), (.long 0), (.long 0)] := V110'
    have Kc110 : Keep h0 h110 [] := Kc109.wr W110 (Or.inr sz_b102)
    have N110 := Fr.snoc X110 N109 g_b102
    refine own_s T110 m 67 #[own_r a1, own_i ss.toInt32, own_l q1, .second, own_i nn.toInt32, own_i kk.toInt32, .unset, .unset] [.long (100000000 : Int64), .int 8, .ref b102, .ref b102] (fun t k => st110 _ (XS.dup X110.here hx rfl (hb hby d50_61) rfl (rfl) (XS.bipush X110.here hx rfl (hb hby d50_62) (X110.ldc2Long hx hown (mvT hZ (own_w hw 267 rfl)) (g := (mkF m 64 #[own_r a1, own_i ss.toInt32, own_l q1, .second, own_i nn.toInt32, own_i kk.toInt32, .unset, .unset] [.int 8, .ref b102, .ref b102])) rfl (hb hby d50_64) _ k)))) ?_
    obtain ⟨T111, h111, X111, e111, W111, V111', st111⟩ := own_stJ X110 hx hZ e110 V110 (j := (8 : Int32)) (by decide) (by decide : (8 : Int32).toNatClampNeg < 10) (g := (mkF m 67 #[own_r a1, own_i ss.toInt32, own_l q1, .second, own_i nn.toInt32, own_i kk.toInt32, .unset, .unset] [.long (100000000 : Int64), .int 8, .ref b102, .ref b102])) rfl rfl (hb hby d50_67)
    have V111 : own_Ar Z h111 b102 .long [(.long (1 : Int64)), (.long (10 : Int64)), (.long (100 : Int64)), (.long (1000 : Int64)), (.long (10000 : Int64)), (.long (100000 : Int64)), (.long (1000000 : Int64)), (.long (10000000 : Int64)), (.long (100000000 : Int64)), (.long 0)] := V111'
    have Kc111 : Keep h0 h111 [] := Kc110.wr W111 (Or.inr sz_b102)
    have N111 := Fr.snoc X111 N110 g_b102
    refine own_s T111 m 74 #[own_r a1, own_i ss.toInt32, own_l q1, .second, own_i nn.toInt32, own_i kk.toInt32, .unset, .unset] [.long (1000000000 : Int64), .int 9, .ref b102, .ref b102] (fun t k => st111 _ (XS.dup X111.here hx rfl (hb hby d50_68) rfl (rfl) (XS.bipush X111.here hx rfl (hb hby d50_69) (X111.ldc2Long hx hown (mvT hZ (own_w hw 268 rfl)) (g := (mkF m 71 #[own_r a1, own_i ss.toInt32, own_l q1, .second, own_i nn.toInt32, own_i kk.toInt32, .unset, .unset] [.int 9, .ref b102, .ref b102])) rfl (hb hby d50_71) _ k)))) ?_
    obtain ⟨T112, h112, X112, e112, W112, V112', st112⟩ := own_stJ X111 hx hZ e111 V111 (j := (9 : Int32)) (by decide) (by decide : (9 : Int32).toNatClampNeg < 10) (g := (mkF m 74 #[own_r a1, own_i ss.toInt32, own_l q1, .second, own_i nn.toInt32, own_i kk.toInt32, .unset, .unset] [.long (1000000000 : Int64), .int 9, .ref b102, .ref b102])) rfl rfl (hb hby d50_74)
    have V112 : own_Ar Z h112 b102 .long [(.long (1 : Int64)), (.long (10 : Int64)), (.long (100 : Int64)), (.long (1000 : Int64)), (.long (10000 : Int64)), (.long (100000 : Int64)), (.long (1000000 : Int64)), (.long (10000000 : Int64)), (.long (100000000 : Int64)), (.long (1000000000 : Int64))] := V112'
    have Kc112 : Keep h0 h112 [] := Kc111.wr W112 (Or.inr sz_b102)
    have N112 := Fr.snoc X112 N111 g_b102
    refine own_s T112 m 80 #[own_r a1, own_i ss.toInt32, own_l q1, .second, own_i nn.toInt32, own_i kk.toInt32, own_r b102, .unset] [.long q1, .int 48] (fun t k => st112 _ (XS.astore X112.here hx rfl (hb hby d50_75) rfl (rfl) (l' := #[own_r a1, own_i ss.toInt32, own_l q1, .second, own_i nn.toInt32, own_i kk.toInt32, own_r b102, .unset]) rfl (XS.bipush X112.here hx rfl (hb hby d50_77) (XT.lloadN X112.here hx rfl (hb hby d50_79) rfl k)))) ?_
    refine own_s T112 m 86 #[own_r a1, own_i ss.toInt32, own_l q1, .second, own_i nn.toInt32, own_i kk.toInt32, own_r b102, .unset] [.long (q1 / (own_p10 kk)), .int 48] (fun t k => XS.aload X112.here hx rfl (hb hby d50_80) rfl (rfl) (XS.iload X112.here hx rfl (hb hby d50_82) rfl (own_ldJ X112 hx hZ e112 V112 (j := kk.toInt32) (v := (.long (own_p10 kk))) (own_nnS (by omega : kk < 2147483648)) (by rw [own_ixS (by omega : kk < 2147483648)]; exact own_p10at kk hk) (g := (mkF m 84 #[own_r a1, own_i ss.toInt32, own_l q1, .second, own_i nn.toInt32, own_i kk.toInt32, own_r b102, .unset] [.int kk.toInt32, .ref b102, .long q1, .int 48])) rfl rfl (hb hby d50_84) _ (XT.ldiv X112.here hx rfl (hb hby d50_85) rfl (own_p10i kk hk).2.2 k)))) ?_
    refine own_s T112 m 92 #[own_r a1, own_i ss.toInt32, own_l q1, .second, own_i nn.toInt32, own_i kk.toInt32, own_r b102, .unset] [.int ((48 : Int32) + (((q1 / (own_p10 kk)) - ((q1 / (own_p10 kk)) / (10 : Int64)) * (10 : Int64)).toInt32))] (fun t k => X112.ldc2Long hx hown (mvT hZ (own_w hw 236 rfl)) (g := (mkF m 86 #[own_r a1, own_i ss.toInt32, own_l q1, .second, own_i nn.toInt32, own_i kk.toInt32, own_r b102, .unset] [.long (q1 / (own_p10 kk)), .int 48])) rfl (hb hby d50_86) _ (XT.lrem X112.here hx rfl (hb hby d50_89) rfl (by decide) (XT.l2i X112.here hx rfl (hb hby d50_90) rfl (XS.iadd X112.here hx rfl (hb hby d50_91) rfl k)))) ?_
    refine own_s T112 m 95 #[own_r a1, own_i ss.toInt32, own_l q1, .second, own_i nn.toInt32, own_i kk.toInt32, own_r b102, own_i (((48 : Int32) + (((q1 / (own_p10 kk)) - ((q1 / (own_p10 kk)) / (10 : Int64)) * (10 : Int64)).toInt32)).toUInt32.toUInt16.toUInt32.toInt32)] [] (fun t k => XT.i2c X112.here hx rfl (hb hby d50_92) rfl (XS.istore X112.here hx rfl (hb hby d50_93) rfl (l' := #[own_r a1, own_i ss.toInt32, own_l q1, .second, own_i nn.toInt32, own_i kk.toInt32, own_r b102, own_i (((48 : Int32) + (((q1 / (own_p10 kk)) - ((q1 / (own_p10 kk)) / (10 : Int64)) * (10 : Int64)).toInt32)).toUInt32.toUInt16.toUInt32.toInt32)]) rfl k)) ?_
    rw [own_want hm hk]
    refine own_s T112 m 100 #[own_r a1, own_i ss.toInt32, own_l q1, .second, own_i nn.toInt32, own_i kk.toInt32, own_r b102, own_i (own_c8 (own_dg (mm / 10 ^ kk % 10)))] [.int (ss.toInt32 + nn.toInt32), .ref a1] (fun t k => XS.aloadN X112.here hx rfl (hb hby d50_95) rfl (rfl) (XS.iloadN X112.here hx rfl (hb hby d50_96) rfl (XS.iload X112.here hx rfl (hb hby d50_97) rfl (XS.iadd X112.here hx rfl (hb hby d50_99) rfl k)))) ?_
    refine own_s T112 m 105 #[own_r a1, own_i ss.toInt32, own_l q1, .second, own_i nn.toInt32, own_i kk.toInt32, own_r b102, own_i (own_c8 (own_dg (mm / 10 ^ kk % 10)))] [.int (((ss.toInt32 + nn.toInt32) - (1 : Int32)) - kk.toInt32), .ref a1] (fun t k => XS.iconst X112.here hx rfl (hb hby d50_100) (XS.isub X112.here hx rfl (hb hby d50_101) rfl (XS.iload X112.here hx rfl (hb hby d50_102) rfl (XS.isub X112.here hx rfl (hb hby d50_104) rfl k)))) ?_
    have hlt : kk < nn := (own_lt32 (by omega) (by omega)).mp hc4_101
    rw [own_idx4 hlt (by omega)]
    obtain ⟨cq113, kq113, q113a, q113b, q113c⟩ := isOf hZ e112 (Es.keep Kc112)
    obtain ⟨v113, _, ⟨T113, L113, k113, n113⟩, -, X113, ⟨Lc113, hQ113, l113, y113, z113⟩, st113⟩ := X112.virtualBack hx (y := own_n51) (z := own_n51) hown (mvT hZ (own_w hw 238 rfl)) (mvT hZ (own_w hw 239 rfl)) (notFace_of_selects (args := #[]) (mvT hZ (own_w hw 241 rfl))) (mvT hZ (own_w hw 241 rfl)) (mvT hZ (own_w hw 240 rfl)) (by decide) (backOf (W := 0) (own_rm45 l Z a0 hw [] a1 (ss + nn - 1 - kk).toInt32 wf cs b1 RR (own_dg (mm / 10 ^ kk % 10)) h112 n0 (Nat.le_trans Z0 Kc112.1) (own_sta_keep SF Kc112 (fun _ _ _ _ => nin0)) hfr (own_sta_keep CS Kc112 (fun _ _ _ _ => nin0)) hcs (Fc.keep Kc112 nin0) (Fv.keep Kc112 nin0) (Ab.keep Kc112 nin0) (Es.keep Kc112) (own_nnS (by omega : (ss + nn - 1 - kk) < 2147483648)) (by rw [own_ixS (by omega : (ss + nn - 1 - kk) < 2147483648)]; exact hel hlt) hlR) hZ (own_w hw 242 rfl) (own_w hw 6 rfl) (by decide) (by decide)) q113a q113c (g := (mkF m 105 #[own_r a1, own_i ss.toInt32, own_l q1, .second, own_i nn.toInt32, own_i kk.toInt32, own_r b102, own_i (own_c8 (own_dg (mm / 10 ^ kk % 10)))] [.int (ss + nn - 1 - kk).toInt32, .ref a1])) rfl (by rw [hml]; rfl) (Steps.refl _) (argsL := [.int (ss + nn - 1 - kk).toInt32]) (rest := []) (lenOf own_pd35 rfl) rfl (by exact own_ca rfl) (hb hby d50_105) (fun _ _ => ⟨rfl, e112, (by decide : 1 + 0 ≤ _), (by decide : 10 + 0 ≤ _)⟩)
    dsimp only [Pt.U, Pt.locs, Pt.cells, Pt.slots] at X113 l113 y113 z113 st113 hQ113
    subst l113 y113 z113
    obtain ⟨rfl, N113q, e113⟩ := hQ113
    have N113 := Fr.app N112 N113q
    refine own_s T113 m 114 #[own_r a1, own_i ss.toInt32, own_l q1, .second, own_i nn.toInt32, own_i kk.toInt32, own_r b102, own_i (own_c8 (own_dg (mm / 10 ^ kk % 10)))] [.int 1] (fun t k => st113.trans (XS.iload X113.here hx rfl (hb hby d50_108) rfl (XS.icmpNo X113.here hx rfl (hb hby d50_110) rfl (XT.ii_ne_f rfl) (XS.iconst X113.here hx rfl (hb hby d50_113) k)))) ?_
    refine own_s T113 m 118 #[own_r a1, own_i ss.toInt32, own_l q1, .second, own_i nn.toInt32, own_i kk.toInt32, own_r b102, own_i (own_c8 (own_dg (mm / 10 ^ kk % 10)))] [.int 1] (fun t k => XS.goto X113.here hx rfl (pc0 := 114) (pc' := 118) rfl (hb hby d50_114) (by decide) (by decide) k) ?_
    have eE : T113.heap = h112 := e113
    exact own_retB X113 hx hlk (t := .boolean) hrt (by simp) (hb hby d50_118) ⟨rfl, N113, (by rw [eE]; exact Kc112)⟩ (by decide) (by decide)
  · refine own_s s₁ m 8 #[own_r a1, own_i ss.toInt32, own_l q1, .second, own_i nn.toInt32, own_i kk.toInt32, .unset, .unset] [.int 1] (fun t k => XS.icmpNo X0.here hx rfl (hb hby d50_4) rfl (XT.ii_lt_f hc4_101) (XS.iconst X0.here hx rfl (hb hby d50_7) k)) ?_
    have eE : s₁.heap = h0 := e0
    exact own_retB X0 hx hlk (t := .boolean) hrt (by simp) (hb hby d50_8) ⟨rfl, N0, (by rw [eE]; exact K0)⟩ (by decide) (by decide)
theorem own_digs_at : ∀ (n m k : Nat), k < n → (own_digs m n)[n - 1 - k]? = some (own_dg (m / 10 ^ k % 10))
  | 0, _, _, h => absurd h (Nat.not_lt_zero _)
  | n + 1, m, 0, _ => by
    show (own_digs (m / 10) n ++ [own_dg (m % 10)])[n]? = _
    rw [List.getElem?_append_right (by rw [own_digs_len]; exact Nat.le_refl _), own_digs_len, Nat.sub_self, Nat.pow_zero, Nat.div_one]; rfl
  | n + 1, m, k + 1, h => by
    show (own_digs (m / 10) n ++ [own_dg (m % 10)])[n + 1 - 1 - (k + 1)]? = _
    have e : n + 1 - 1 - (k + 1) = n - 1 - k := by omega
    rw [e, List.getElem?_append_left (by rw [own_digs_len]; omega), own_digs_at n (m / 10) k (by omega), Nat.div_div_eq_div_mul, Nat.pow_succ, Nat.mul_comm 10]
theorem own_seg1 {v : Int32} {RR : List Int32} {aa : Nat} (h : v < 0) (hs : ∀ i, i < own_sz v → RR[aa + i]? = (own_dec v)[i]?) (k : Nat) (hk : k < own_nd (own_abs v)) : RR[aa + 1 + own_nd (own_abs v) - 1 - k]? = some (own_dg (own_abs v / 10 ^ k % 10)) := by
  have e : aa + 1 + own_nd (own_abs v) - 1 - k = aa + (1 + (own_nd (own_abs v) - 1 - k)) := by omega
  rw [e, hs _ (by rw [own_sz, if_pos h]; omega), own_dec, if_pos h, List.getElem?_append_right (by simp), show 1 + (own_nd (own_abs v) - 1 - k) - [(45 : Int32)].length = own_nd (own_abs v) - 1 - k by simp]
  exact own_digs_at _ _ _ hk
theorem own_seg0 {v : Int32} {RR : List Int32} {aa : Nat} (h : ¬ v < 0) (hs : ∀ i, i < own_sz v → RR[aa + i]? = (own_dec v)[i]?) (k : Nat) (hk : k < own_nd (own_abs v)) : RR[aa + own_nd (own_abs v) - 1 - k]? = some (own_dg (own_abs v / 10 ^ k % 10)) := by
  have e : aa + own_nd (own_abs v) - 1 - k = aa + (own_nd (own_abs v) - 1 - k) := by omega
  rw [e, hs _ (by rw [own_sz, if_neg h]; omega), own_dec, if_neg h, List.nil_append]
  exact own_digs_at _ _ _ hk
theorem own_seg45 {v : Int32} {RR : List Int32} {aa : Nat} (h : v < 0) (hs : ∀ i, i < own_sz v → RR[aa + i]? = (own_dec v)[i]?) : RR[aa]? = some 45 := by
  have q := hs 0 (by rw [own_sz, if_pos h]; omega)
  rw [Nat.add_zero, own_dec, if_pos h] at q
  exact q
theorem own_pd36 : parseMethodDescriptor "(Ljava/lang/String;IJII)Z" = some ⟨[(.object "java/lang/String"), .int, .long, .int, .int], some .boolean⟩ := by decide +kernel
abbrev own_k49 := method_7_code
abbrev own_n53 : MethodName := ⟨"com/example/holdfast/holdfast/store/RedisAddressToStringPinLaw", "intOk", "(Ljava/lang/String;II)Z"⟩
theorem d49_0 : own_D own_k49 0 (.iload_n 2) 1 := by decide +kernel
theorem d49_1 : own_D own_k49 1 (.i2l) 1 := by decide +kernel
theorem d49_2 : own_D own_k49 2 (.invokestatic 66) 3 := by decide +kernel
theorem d49_5 : own_D own_k49 5 (.lstore_n 3) 1 := by decide +kernel
theorem d49_6 : own_D own_k49 6 (.iload_n 1) 1 := by decide +kernel
theorem d49_7 : own_D own_k49 7 (.istore 5) 2 := by decide +kernel
theorem d49_9 : own_D own_k49 9 (.iload_n 2) 1 := by decide +kernel
theorem d49_10 : own_D own_k49 10 (.ifCond .ge 20) 3 := by decide +kernel
theorem d49_13 : own_D own_k49 13 (.aload_n 0) 1 := by decide +kernel
theorem d49_14 : own_D own_k49 14 (.iload_n 1) 1 := by decide +kernel
theorem d49_15 : own_D own_k49 15 (.invokevirtual 41) 3 := by decide +kernel
theorem d49_18 : own_D own_k49 18 (.bipush 45) 2 := by decide +kernel
theorem d49_20 : own_D own_k49 20 (.if_icmp .eq 5) 3 := by decide +kernel
theorem d49_25 : own_D own_k49 25 (.iload_n 1) 1 := by decide +kernel
theorem d49_26 : own_D own_k49 26 (.iconst 1) 1 := by decide +kernel
theorem d49_27 : own_D own_k49 27 (.iadd) 1 := by decide +kernel
theorem d49_28 : own_D own_k49 28 (.istore 5) 2 := by decide +kernel
theorem d49_30 : own_D own_k49 30 (.lload_n 3) 1 := by decide +kernel
theorem d49_31 : own_D own_k49 31 (.invokestatic 72) 3 := by decide +kernel
theorem d49_34 : own_D own_k49 34 (.istore 6) 2 := by decide +kernel
theorem d49_36 : own_D own_k49 36 (.aload_n 0) 1 := by decide +kernel
theorem d49_37 : own_D own_k49 37 (.iload 5) 2 := by decide +kernel
theorem d49_39 : own_D own_k49 39 (.lload_n 3) 1 := by decide +kernel
theorem d49_40 : own_D own_k49 40 (.iload 6) 2 := by decide +kernel
theorem d49_42 : own_D own_k49 42 (.iconst 0) 1 := by decide +kernel
theorem d49_43 : own_D own_k49 43 (.invokestatic 76) 3 := by decide +kernel
theorem d49_46 : own_D own_k49 46 (.ifCond .eq 128) 3 := by decide +kernel
theorem d49_49 : own_D own_k49 49 (.aload_n 0) 1 := by decide +kernel
theorem d49_50 : own_D own_k49 50 (.iload 5) 2 := by decide +kernel
theorem d49_52 : own_D own_k49 52 (.lload_n 3) 1 := by decide +kernel
theorem d49_53 : own_D own_k49 53 (.iload 6) 2 := by decide +kernel
theorem d49_55 : own_D own_k49 55 (.iconst 1) 1 := by decide +kernel
theorem d49_56 : own_D own_k49 56 (.invokestatic 76) 3 := by decide +kernel
theorem d49_59 : own_D own_k49 59 (.ifCond .eq 115) 3 := by decide +kernel
theorem d49_62 : own_D own_k49 62 (.aload_n 0) 1 := by decide +kernel
theorem d49_63 : own_D own_k49 63 (.iload 5) 2 := by decide +kernel
theorem d49_65 : own_D own_k49 65 (.lload_n 3) 1 := by decide +kernel
theorem d49_66 : own_D own_k49 66 (.iload 6) 2 := by decide +kernel
theorem d49_68 : own_D own_k49 68 (.iconst 2) 1 := by decide +kernel
theorem d49_69 : own_D own_k49 69 (.invokestatic 76) 3 := by decide +kernel
theorem d49_72 : own_D own_k49 72 (.ifCond .eq 102) 3 := by decide +kernel
theorem d49_75 : own_D own_k49 75 (.aload_n 0) 1 := by decide +kernel
theorem d49_76 : own_D own_k49 76 (.iload 5) 2 := by decide +kernel
theorem d49_78 : own_D own_k49 78 (.lload_n 3) 1 := by decide +kernel
theorem d49_79 : own_D own_k49 79 (.iload 6) 2 := by decide +kernel
theorem d49_81 : own_D own_k49 81 (.iconst 3) 1 := by decide +kernel
theorem d49_82 : own_D own_k49 82 (.invokestatic 76) 3 := by decide +kernel
theorem d49_85 : own_D own_k49 85 (.ifCond .eq 89) 3 := by decide +kernel
theorem d49_88 : own_D own_k49 88 (.aload_n 0) 1 := by decide +kernel
theorem d49_89 : own_D own_k49 89 (.iload 5) 2 := by decide +kernel
theorem d49_91 : own_D own_k49 91 (.lload_n 3) 1 := by decide +kernel
theorem d49_92 : own_D own_k49 92 (.iload 6) 2 := by decide +kernel
theorem d49_94 : own_D own_k49 94 (.iconst 4) 1 := by decide +kernel
theorem d49_95 : own_D own_k49 95 (.invokestatic 76) 3 := by decide +kernel
theorem d49_98 : own_D own_k49 98 (.ifCond .eq 76) 3 := by decide +kernel
theorem d49_101 : own_D own_k49 101 (.aload_n 0) 1 := by decide +kernel
theorem d49_102 : own_D own_k49 102 (.iload 5) 2 := by decide +kernel
theorem d49_104 : own_D own_k49 104 (.lload_n 3) 1 := by decide +kernel
theorem d49_105 : own_D own_k49 105 (.iload 6) 2 := by decide +kernel
theorem d49_107 : own_D own_k49 107 (.iconst 5) 1 := by decide +kernel
theorem d49_108 : own_D own_k49 108 (.invokestatic 76) 3 := by decide +kernel
theorem d49_111 : own_D own_k49 111 (.ifCond .eq 63) 3 := by decide +kernel
theorem d49_114 : own_D own_k49 114 (.aload_n 0) 1 := by decide +kernel
theorem d49_115 : own_D own_k49 115 (.iload 5) 2 := by decide +kernel
theorem d49_117 : own_D own_k49 117 (.lload_n 3) 1 := by decide +kernel
theorem d49_118 : own_D own_k49 118 (.iload 6) 2 := by decide +kernel
theorem d49_120 : own_D own_k49 120 (.bipush 6) 2 := by decide +kernel
theorem d49_122 : own_D own_k49 122 (.invokestatic 76) 3 := by decide +kernel
theorem d49_125 : own_D own_k49 125 (.ifCond .eq 49) 3 := by decide +kernel
theorem d49_128 : own_D own_k49 128 (.aload_n 0) 1 := by decide +kernel
theorem d49_129 : own_D own_k49 129 (.iload 5) 2 := by decide +kernel
theorem d49_131 : own_D own_k49 131 (.lload_n 3) 1 := by decide +kernel
theorem d49_132 : own_D own_k49 132 (.iload 6) 2 := by decide +kernel
theorem d49_134 : own_D own_k49 134 (.bipush 7) 2 := by decide +kernel
theorem d49_136 : own_D own_k49 136 (.invokestatic 76) 3 := by decide +kernel
theorem d49_139 : own_D own_k49 139 (.ifCond .eq 35) 3 := by decide +kernel
theorem d49_142 : own_D own_k49 142 (.aload_n 0) 1 := by decide +kernel
theorem d49_143 : own_D own_k49 143 (.iload 5) 2 := by decide +kernel
theorem d49_145 : own_D own_k49 145 (.lload_n 3) 1 := by decide +kernel
theorem d49_146 : own_D own_k49 146 (.iload 6) 2 := by decide +kernel
theorem d49_148 : own_D own_k49 148 (.bipush 8) 2 := by decide +kernel
theorem d49_150 : own_D own_k49 150 (.invokestatic 76) 3 := by decide +kernel
theorem d49_153 : own_D own_k49 153 (.ifCond .eq 21) 3 := by decide +kernel
theorem d49_156 : own_D own_k49 156 (.aload_n 0) 1 := by decide +kernel
theorem d49_157 : own_D own_k49 157 (.iload 5) 2 := by decide +kernel
theorem d49_159 : own_D own_k49 159 (.lload_n 3) 1 := by decide +kernel
theorem d49_160 : own_D own_k49 160 (.iload 6) 2 := by decide +kernel
theorem d49_162 : own_D own_k49 162 (.bipush 9) 2 := by decide +kernel
theorem d49_164 : own_D own_k49 164 (.invokestatic 76) 3 := by decide +kernel
theorem d49_167 : own_D own_k49 167 (.ifCond .eq 7) 3 := by decide +kernel
theorem d49_170 : own_D own_k49 170 (.iconst 1) 1 := by decide +kernel
theorem d49_171 : own_D own_k49 171 (.goto 4) 3 := by decide +kernel
theorem d49_175 : own_D own_k49 175 (.ireturn) 1 := by decide +kernel
theorem ef_own_rm49 (m : MethodId) (a1 : Addr) (p1 : Int32) (p2 : Int32) : entryFrame m #[(.ref a1), (.int p1), (.int p2)] 7 = mkF m 0 #[own_r a1, own_i p1, own_i p2, .unset, .unset, .unset, .unset] [] := by first | (simp [entryFrame, mkF, argsToLocals, Value.category]; done) | rfl
def own_rm49_Q (Z : State) (a1 : Addr) (p1 : Int32) (p2 : Int32) (wf : Value) (cs : Int32) (b1 : Addr) (RR : List Int32) (aa : Nat) (h0 : Heap) (n0 : Nat) (v : Option Value) (h : Heap) (L : List Loc) : Prop := v = some (.int 1) ∧ Fr n0 L ∧ Keep h0 h []
set_option maxRecDepth 65536 in
set_option maxHeartbeats 40000000 in
theorem own_rm49 (l : Launch) (Z : State) (a0 : Array Value) (hw : own_H a0 Z) (ws : List Jvm.Cond) (a1 : Addr) (p1 p2 : Int32) (wf : Value) (cs : Int32) (b1 : Addr) (RR : List Int32) (aa : Nat) (h0 : Heap) (n0 : Nat) (Z0 : n0 ≤ h0.size) (SF : Sta Z h0 "jdk/internal/util/Preconditions" "SIOOBE_FORMATTER" "Ljava/util/function/BiFunction;" wf) (hfr : wf.isRef = true) (CS : Sta Z h0 "java/lang/String" "COMPACT_STRINGS" "Z" (.int cs)) (hcs : ¬ cs = 0) (Fc : Fld Z h0 a1 "java/lang/String" "coder" "B" (.int 0)) (Fv : Fld Z h0 a1 "java/lang/String" "value" "[B" (.ref b1)) (Ab : own_Ar Z h0 b1 .byte (RR.map Value.int)) (Es : Exa Z h0 a1 "java/lang/String") (hp1 : p1 = aa.toInt32) (hl : aa + own_sz p2 ≤ RR.length) (hlR : RR.length < 2147483648) (hseg : ∀ i, i < own_sz p2 → RR[aa + i]? = (own_dec p2)[i]?) : own_M l Z ws own_n53 own_k49 7 (some .boolean) (own_R 5 10 100 72) #[(.ref a1), (.int p1), (.int p2)] h0 (own_rm49_Q Z a1 p1 p2 wf cs b1 RR aa h0 n0) := by
  refine own_open n0 "com/example/holdfast/holdfast/store/RedisAddressToStringPinLaw" rfl (plainFor_of_name own_pn10) (fun m => ef_own_rm49 m a1 p1 p2) ?_
  intro p e s m below meth c s₁ hx hby hml hZ hown hnm hlk hrt X0 e0 N0
  have K0 := Keep.refl h0 []
  subst hp1
  have hndr := own_ndr (own_abs p2)
  refine own_s s₁ m 2 #[own_r a1, own_i aa.toInt32, own_i p2, .unset, .unset, .unset, .unset] [.long (p2.toInt64)] (fun t k => XS.iloadN X0.here hx rfl (hb hby d49_0) rfl (XT.i2l X0.here hx rfl (hb hby d49_1) rfl k)) ?_
  obtain ⟨v101, _, ⟨T101, L101, k101, n101⟩, -, X101, ⟨Lc101, hQ101, l101, y101, z101⟩, st101⟩ := Jvm.LawKit.callS X0 hx (y := own_n45) hown (mvT hZ (own_w hw 230 rfl)) (mvT hZ (own_w hw 231 rfl)) (mvT hZ (own_w hw 224 rfl)) (mvT hZ (own_w hw 232 rfl)) (by decide) (backOf (W := 0) (own_rm43 l Z a0 hw [] (p2.toInt64) h0 n0 (Nat.le_trans Z0 K0.1) ) hZ (own_w hw 232 rfl) (own_w hw 224 rfl) (by decide) (by decide)) (g := (mkF m 2 #[own_r a1, own_i aa.toInt32, own_i p2, .unset, .unset, .unset, .unset] [.long (p2.toInt64)])) rfl (by rw [hml]; rfl) (argsL := [.long (p2.toInt64)]) (rest := []) (lenOf own_pd31 rfl) rfl (by exact own_ca rfl) (hb hby d49_2) (fun _ _ => ⟨rfl, e0, (by decide : 0 + 0 ≤ _), (by decide : 0 + 0 ≤ _)⟩)
  dsimp only [Pt.U, Pt.locs, Pt.cells, Pt.slots] at X101 l101 y101 z101 st101 hQ101
  subst l101 y101 z101
  obtain ⟨rfl, N101q, e101⟩ := hQ101
  have N101 := Fr.app N0 N101q
  refine own_s T101 m 9 #[own_r a1, own_i aa.toInt32, own_i p2, own_l (own_absL (p2.toInt64)), .second, own_i aa.toInt32, .unset] [] (fun t k => st101 _ (XT.lstoreN X101.here hx rfl (hb hby d49_5) rfl (l' := #[own_r a1, own_i aa.toInt32, own_i p2, own_l (own_absL (p2.toInt64)), .second, .unset, .unset]) rfl (XS.iloadN X101.here hx rfl (hb hby d49_6) rfl (XS.istore X101.here hx rfl (hb hby d49_7) rfl (l' := #[own_r a1, own_i aa.toInt32, own_i p2, own_l (own_absL (p2.toInt64)), .second, own_i aa.toInt32, .unset]) rfl k)))) ?_
  have J102 : ∀ (Tj102 : State) (lj102 : List Loc) (Xj102 : Stand p l e (own_R 5 10 100 72) s m #[(.ref a1), (.int (aa.toInt32)), (.int p2)] below meth c Tj102 lj102 (0) (0)) (ej102 : Tj102.heap = h0) (Nj102 : Fr n0 lj102) (s5 : Nat) (h5 : s5 + own_nd (own_abs p2) = aa + own_sz p2) (hg5 : ∀ k, k < own_nd (own_abs p2) → RR[s5 + own_nd (own_abs p2) - 1 - k]? = some (own_dg (own_abs p2 / 10 ^ k % 10))), own_Fin p e below (own_P (own_rm49_Q Z a1 (aa.toInt32) p2 wf cs b1 RR aa h0 n0) s (own_R 5 10 100 72).cells (own_R 5 10 100 72).slots) (Tj102.setTop (mkF m 30 #[own_r a1, own_i aa.toInt32, own_i p2, own_l (own_absL (p2.toInt64)), .second, own_i s5.toInt32, .unset] [])) := by
    intro Tj102 lj102 Xj102 ej102 Nj102 s5 h5 hg5
    refine own_s Tj102 m 31 #[own_r a1, own_i aa.toInt32, own_i p2, own_l (own_absL (p2.toInt64)), .second, own_i s5.toInt32, .unset] [.long (own_absL (p2.toInt64))] (fun t k => XT.lloadN Xj102.here hx rfl (hb hby d49_30) rfl k) ?_
    obtain ⟨v103, _, ⟨T103, L103, k103, n103⟩, -, X103, ⟨Lc103, hQ103, l103, y103, z103⟩, st103⟩ := Jvm.LawKit.callS Xj102 hx (y := own_n46) hown (mvT hZ (own_w hw 233 rfl)) (mvT hZ (own_w hw 234 rfl)) (mvT hZ (own_w hw 2 rfl)) (mvT hZ (own_w hw 235 rfl)) (by decide) (backOf (W := 0) (own_rm44 l Z a0 hw [] (own_absL (p2.toInt64)) (own_abs p2) h0 n0 (Nat.le_trans Z0 K0.1) (own_abs_l p2) (own_absb p2)) hZ (own_w hw 235 rfl) (own_w hw 2 rfl) (by decide) (by decide)) (g := (mkF m 31 #[own_r a1, own_i aa.toInt32, own_i p2, own_l (own_absL (p2.toInt64)), .second, own_i s5.toInt32, .unset] [.long (own_absL (p2.toInt64))])) rfl (by rw [hml]; rfl) (argsL := [.long (own_absL (p2.toInt64))]) (rest := []) (lenOf own_pd32 rfl) rfl (by exact own_ca rfl) (hb hby d49_31) (fun _ _ => ⟨rfl, ej102, (by decide : 0 + 0 ≤ _), (by decide : 0 + 0 ≤ _)⟩)
    dsimp only [Pt.U, Pt.locs, Pt.cells, Pt.slots] at X103 l103 y103 z103 st103 hQ103
    subst l103 y103 z103
    obtain ⟨rfl, N103q, e103⟩ := hQ103
    have N103 := Fr.app Nj102 N103q
    refine own_s T103 m 39 #[own_r a1, own_i aa.toInt32, own_i p2, own_l (own_absL (p2.toInt64)), .second, own_i s5.toInt32, own_i ((own_nd (own_abs p2)).toInt32)] [.int s5.toInt32, .ref a1] (fun t k => st103 _ (XS.istore X103.here hx rfl (hb hby d49_34) rfl (l' := #[own_r a1, own_i aa.toInt32, own_i p2, own_l (own_absL (p2.toInt64)), .second, own_i s5.toInt32, own_i ((own_nd (own_abs p2)).toInt32)]) rfl (XS.aloadN X103.here hx rfl (hb hby d49_36) rfl (rfl) (XS.iload X103.here hx rfl (hb hby d49_37) rfl k)))) ?_
    refine own_s T103 m 43 #[own_r a1, own_i aa.toInt32, own_i p2, own_l (own_absL (p2.toInt64)), .second, own_i s5.toInt32, own_i ((own_nd (own_abs p2)).toInt32)] [.int 0, .int ((own_nd (own_abs p2)).toInt32), .long (own_absL (p2.toInt64)), .int s5.toInt32, .ref a1] (fun t k => XT.lloadN X103.here hx rfl (hb hby d49_39) rfl (XS.iload X103.here hx rfl (hb hby d49_40) rfl (XS.iconst X103.here hx rfl (hb hby d49_42) k))) ?_
    obtain ⟨v104, _, ⟨T104, L104, k104, n104⟩, -, X104, ⟨Lc104, hQ104, l104, y104, z104⟩, st104⟩ := Jvm.LawKit.callS X103 hx (y := own_n52) hown (mvT hZ (own_w hw 257 rfl)) (mvT hZ (own_w hw 258 rfl)) (mvT hZ (own_w hw 2 rfl)) (mvT hZ (own_w hw 259 rfl)) (by decide) (backOf (W := 0) (own_rm50 l Z a0 hw [] a1 s5.toInt32 (own_absL (p2.toInt64)) ((own_nd (own_abs p2)).toInt32) (0 : Int32) wf cs b1 RR s5 (own_nd (own_abs p2)) (0) (own_abs p2) h0 n0 (Nat.le_trans Z0 K0.1) SF hfr CS hcs Fc Fv Ab Es rfl rfl rfl (by decide) hndr.2 (own_abs_l p2) (by omega) hlR (hg5 0)) hZ (own_w hw 259 rfl) (own_w hw 2 rfl) (by decide) (by decide)) (g := (mkF m 43 #[own_r a1, own_i aa.toInt32, own_i p2, own_l (own_absL (p2.toInt64)), .second, own_i s5.toInt32, own_i ((own_nd (own_abs p2)).toInt32)] [.int 0, .int ((own_nd (own_abs p2)).toInt32), .long (own_absL (p2.toInt64)), .int s5.toInt32, .ref a1])) rfl (by rw [hml]; rfl) (argsL := [.ref a1, .int s5.toInt32, .long (own_absL (p2.toInt64)), .int ((own_nd (own_abs p2)).toInt32), .int 0]) (rest := []) (lenOf own_pd36 rfl) rfl (by exact own_ca rfl) (hb hby d49_43) (fun _ _ => ⟨rfl, e103, (by decide : 0 + 1 ≤ _), (by decide : 0 + 10 ≤ _)⟩)
    dsimp only [Pt.U, Pt.locs, Pt.cells, Pt.slots] at X104 l104 y104 z104 st104 hQ104
    subst l104 y104 z104
    obtain ⟨rfl, N104q, K104⟩ := hQ104
    have Kc104 : Keep h0 T104.heap [] := K0.trans K104 all0
    have N104 := Fr.app N103 N104q
    refine own_s T104 m 52 #[own_r a1, own_i aa.toInt32, own_i p2, own_l (own_absL (p2.toInt64)), .second, own_i s5.toInt32, own_i ((own_nd (own_abs p2)).toInt32)] [.int s5.toInt32, .ref a1] (fun t k => st104 _ (XS.ifNo X104.here hx rfl (hb hby d49_46) rfl (XT.i0_eq_f (by decide)) (XS.aloadN X104.here hx rfl (hb hby d49_49) rfl (rfl) (XS.iload X104.here hx rfl (hb hby d49_50) rfl k)))) ?_
    refine own_s T104 m 56 #[own_r a1, own_i aa.toInt32, own_i p2, own_l (own_absL (p2.toInt64)), .second, own_i s5.toInt32, own_i ((own_nd (own_abs p2)).toInt32)] [.int 1, .int ((own_nd (own_abs p2)).toInt32), .long (own_absL (p2.toInt64)), .int s5.toInt32, .ref a1] (fun t k => XT.lloadN X104.here hx rfl (hb hby d49_52) rfl (XS.iload X104.here hx rfl (hb hby d49_53) rfl (XS.iconst X104.here hx rfl (hb hby d49_55) k))) ?_
    obtain ⟨v105, _, ⟨T105, L105, k105, n105⟩, -, X105, ⟨Lc105, hQ105, l105, y105, z105⟩, st105⟩ := Jvm.LawKit.callS X104 hx (y := own_n52) hown (mvT hZ (own_w hw 257 rfl)) (mvT hZ (own_w hw 258 rfl)) (mvT hZ (own_w hw 2 rfl)) (mvT hZ (own_w hw 259 rfl)) (by decide) (backOf (W := 0) (own_rm50 l Z a0 hw [] a1 s5.toInt32 (own_absL (p2.toInt64)) ((own_nd (own_abs p2)).toInt32) (1 : Int32) wf cs b1 RR s5 (own_nd (own_abs p2)) (1) (own_abs p2) T104.heap n0 (Nat.le_trans Z0 Kc104.1) (own_sta_keep SF Kc104 (fun _ _ _ _ => nin0)) hfr (own_sta_keep CS Kc104 (fun _ _ _ _ => nin0)) hcs (Fc.keep Kc104 nin0) (Fv.keep Kc104 nin0) (Ab.keep Kc104 nin0) (Es.keep Kc104) rfl rfl rfl (by decide) hndr.2 (own_abs_l p2) (by omega) hlR (hg5 1)) hZ (own_w hw 259 rfl) (own_w hw 2 rfl) (by decide) (by decide)) (g := (mkF m 56 #[own_r a1, own_i aa.toInt32, own_i p2, own_l (own_absL (p2.toInt64)), .second, own_i s5.toInt32, own_i ((own_nd (own_abs p2)).toInt32)] [.int 1, .int ((own_nd (own_abs p2)).toInt32), .long (own_absL (p2.toInt64)), .int s5.toInt32, .ref a1])) rfl (by rw [hml]; rfl) (argsL := [.ref a1, .int s5.toInt32, .long (own_absL (p2.toInt64)), .int ((own_nd (own_abs p2)).toInt32), .int 1]) (rest := []) (lenOf own_pd36 rfl) rfl (by exact own_ca rfl) (hb hby d49_56) (fun _ _ => ⟨rfl, rfl, (by decide : 1 + 1 ≤ _), (by decide : 10 + 10 ≤ _)⟩)
    dsimp only [Pt.U, Pt.locs, Pt.cells, Pt.slots] at X105 l105 y105 z105 st105 hQ105
    subst l105 y105 z105
    obtain ⟨rfl, N105q, K105⟩ := hQ105
    have Kc105 : Keep h0 T105.heap [] := Kc104.trans K105 all0
    have N105 := Fr.app N104 N105q
    refine own_s T105 m 65 #[own_r a1, own_i aa.toInt32, own_i p2, own_l (own_absL (p2.toInt64)), .second, own_i s5.toInt32, own_i ((own_nd (own_abs p2)).toInt32)] [.int s5.toInt32, .ref a1] (fun t k => st105 _ (XS.ifNo X105.here hx rfl (hb hby d49_59) rfl (XT.i0_eq_f (by decide)) (XS.aloadN X105.here hx rfl (hb hby d49_62) rfl (rfl) (XS.iload X105.here hx rfl (hb hby d49_63) rfl k)))) ?_
    refine own_s T105 m 69 #[own_r a1, own_i aa.toInt32, own_i p2, own_l (own_absL (p2.toInt64)), .second, own_i s5.toInt32, own_i ((own_nd (own_abs p2)).toInt32)] [.int 2, .int ((own_nd (own_abs p2)).toInt32), .long (own_absL (p2.toInt64)), .int s5.toInt32, .ref a1] (fun t k => XT.lloadN X105.here hx rfl (hb hby d49_65) rfl (XS.iload X105.here hx rfl (hb hby d49_66) rfl (XS.iconst X105.here hx rfl (hb hby d49_68) k))) ?_
    obtain ⟨v106, _, ⟨T106, L106, k106, n106⟩, -, X106, ⟨Lc106, hQ106, l106, y106, z106⟩, st106⟩ := Jvm.LawKit.callS X105 hx (y := own_n52) hown (mvT hZ (own_w hw 257 rfl)) (mvT hZ (own_w hw 258 rfl)) (mvT hZ (own_w hw 2 rfl)) (mvT hZ (own_w hw 259 rfl)) (by decide) (backOf (W := 0) (own_rm50 l Z a0 hw [] a1 s5.toInt32 (own_absL (p2.toInt64)) ((own_nd (own_abs p2)).toInt32) (2 : Int32) wf cs b1 RR s5 (own_nd (own_abs p2)) (2) (own_abs p2) T105.heap n0 (Nat.le_trans Z0 Kc105.1) (own_sta_keep SF Kc105 (fun _ _ _ _ => nin0)) hfr (own_sta_keep CS Kc105 (fun _ _ _ _ => nin0)) hcs (Fc.keep Kc105 nin0) (Fv.keep Kc105 nin0) (Ab.keep Kc105 nin0) (Es.keep Kc105) rfl rfl rfl (by decide) hndr.2 (own_abs_l p2) (by omega) hlR (hg5 2)) hZ (own_w hw 259 rfl) (own_w hw 2 rfl) (by decide) (by decide)) (g := (mkF m 69 #[own_r a1, own_i aa.toInt32, own_i p2, own_l (own_absL (p2.toInt64)), .second, own_i s5.toInt32, own_i ((own_nd (own_abs p2)).toInt32)] [.int 2, .int ((own_nd (own_abs p2)).toInt32), .long (own_absL (p2.toInt64)), .int s5.toInt32, .ref a1])) rfl (by rw [hml]; rfl) (argsL := [.ref a1, .int s5.toInt32, .long (own_absL (p2.toInt64)), .int ((own_nd (own_abs p2)).toInt32), .int 2]) (rest := []) (lenOf own_pd36 rfl) rfl (by exact own_ca rfl) (hb hby d49_69) (fun _ _ => ⟨rfl, rfl, (by decide : 2 + 1 ≤ _), (by decide : 20 + 10 ≤ _)⟩)
    dsimp only [Pt.U, Pt.locs, Pt.cells, Pt.slots] at X106 l106 y106 z106 st106 hQ106
    subst l106 y106 z106
    obtain ⟨rfl, N106q, K106⟩ := hQ106
    have Kc106 : Keep h0 T106.heap [] := Kc105.trans K106 all0
    have N106 := Fr.app N105 N106q
    refine own_s T106 m 78 #[own_r a1, own_i aa.toInt32, own_i p2, own_l (own_absL (p2.toInt64)), .second, own_i s5.toInt32, own_i ((own_nd (own_abs p2)).toInt32)] [.int s5.toInt32, .ref a1] (fun t k => st106 _ (XS.ifNo X106.here hx rfl (hb hby d49_72) rfl (XT.i0_eq_f (by decide)) (XS.aloadN X106.here hx rfl (hb hby d49_75) rfl (rfl) (XS.iload X106.here hx rfl (hb hby d49_76) rfl k)))) ?_
    refine own_s T106 m 82 #[own_r a1, own_i aa.toInt32, own_i p2, own_l (own_absL (p2.toInt64)), .second, own_i s5.toInt32, own_i ((own_nd (own_abs p2)).toInt32)] [.int 3, .int ((own_nd (own_abs p2)).toInt32), .long (own_absL (p2.toInt64)), .int s5.toInt32, .ref a1] (fun t k => XT.lloadN X106.here hx rfl (hb hby d49_78) rfl (XS.iload X106.here hx rfl (hb hby d49_79) rfl (XS.iconst X106.here hx rfl (hb hby d49_81) k))) ?_
    obtain ⟨v107, _, ⟨T107, L107, k107, n107⟩, -, X107, ⟨Lc107, hQ107, l107, y107, z107⟩, st107⟩ := Jvm.LawKit.callS X106 hx (y := own_n52) hown (mvT hZ (own_w hw 257 rfl)) (mvT hZ (own_w hw 258 rfl)) (mvT hZ (own_w hw 2 rfl)) (mvT hZ (own_w hw 259 rfl)) (by decide) (backOf (W := 0) (own_rm50 l Z a0 hw [] a1 s5.toInt32 (own_absL (p2.toInt64)) ((own_nd (own_abs p2)).toInt32) (3 : Int32) wf cs b1 RR s5 (own_nd (own_abs p2)) (3) (own_abs p2) T106.heap n0 (Nat.le_trans Z0 Kc106.1) (own_sta_keep SF Kc106 (fun _ _ _ _ => nin0)) hfr (own_sta_keep CS Kc106 (fun _ _ _ _ => nin0)) hcs (Fc.keep Kc106 nin0) (Fv.keep Kc106 nin0) (Ab.keep Kc106 nin0) (Es.keep Kc106) rfl rfl rfl (by decide) hndr.2 (own_abs_l p2) (by omega) hlR (hg5 3)) hZ (own_w hw 259 rfl) (own_w hw 2 rfl) (by decide) (by decide)) (g := (mkF m 82 #[own_r a1, own_i aa.toInt32, own_i p2, own_l (own_absL (p2.toInt64)), .second, own_i s5.toInt32, own_i ((own_nd (own_abs p2)).toInt32)] [.int 3, .int ((own_nd (own_abs p2)).toInt32), .long (own_absL (p2.toInt64)), .int s5.toInt32, .ref a1])) rfl (by rw [hml]; rfl) (argsL := [.ref a1, .int s5.toInt32, .long (own_absL (p2.toInt64)), .int ((own_nd (own_abs p2)).toInt32), .int 3]) (rest := []) (lenOf own_pd36 rfl) rfl (by exact own_ca rfl) (hb hby d49_82) (fun _ _ => ⟨rfl, rfl, (by decide : 3 + 1 ≤ _), (by decide : 30 + 10 ≤ _)⟩)
    dsimp only [Pt.U, Pt.locs, Pt.cells, Pt.slots] at X107 l107 y107 z107 st107 hQ107
    subst l107 y107 z107
    obtain ⟨rfl, N107q, K107⟩ := hQ107
    have Kc107 : Keep h0 T107.heap [] := Kc106.trans K107 all0
    have N107 := Fr.app N106 N107q
    refine own_s T107 m 91 #[own_r a1, own_i aa.toInt32, own_i p2, own_l (own_absL (p2.toInt64)), .second, own_i s5.toInt32, own_i ((own_nd (own_abs p2)).toInt32)] [.int s5.toInt32, .ref a1] (fun t k => st107 _ (XS.ifNo X107.here hx rfl (hb hby d49_85) rfl (XT.i0_eq_f (by decide)) (XS.aloadN X107.here hx rfl (hb hby d49_88) rfl (rfl) (XS.iload X107.here hx rfl (hb hby d49_89) rfl k)))) ?_
    refine own_s T107 m 95 #[own_r a1, own_i aa.toInt32, own_i p2, own_l (own_absL (p2.toInt64)), .second, own_i s5.toInt32, own_i ((own_nd (own_abs p2)).toInt32)] [.int 4, .int ((own_nd (own_abs p2)).toInt32), .long (own_absL (p2.toInt64)), .int s5.toInt32, .ref a1] (fun t k => XT.lloadN X107.here hx rfl (hb hby d49_91) rfl (XS.iload X107.here hx rfl (hb hby d49_92) rfl (XS.iconst X107.here hx rfl (hb hby d49_94) k))) ?_
    obtain ⟨v108, _, ⟨T108, L108, k108, n108⟩, -, X108, ⟨Lc108, hQ108, l108, y108, z108⟩, st108⟩ := Jvm.LawKit.callS X107 hx (y := own_n52) hown (mvT hZ (own_w hw 257 rfl)) (mvT hZ (own_w hw 258 rfl)) (mvT hZ (own_w hw 2 rfl)) (mvT hZ (own_w hw 259 rfl)) (by decide) (backOf (W := 0) (own_rm50 l Z a0 hw [] a1 s5.toInt32 (own_absL (p2.toInt64)) ((own_nd (own_abs p2)).toInt32) (4 : Int32) wf cs b1 RR s5 (own_nd (own_abs p2)) (4) (own_abs p2) T107.heap n0 (Nat.le_trans Z0 Kc107.1) (own_sta_keep SF Kc107 (fun _ _ _ _ => nin0)) hfr (own_sta_keep CS Kc107 (fun _ _ _ _ => nin0)) hcs (Fc.keep Kc107 nin0) (Fv.keep Kc107 nin0) (Ab.keep Kc107 nin0) (Es.keep Kc107) rfl rfl rfl (by decide) hndr.2 (own_abs_l p2) (by omega) hlR (hg5 4)) hZ (own_w hw 259 rfl) (own_w hw 2 rfl) (by decide) (by decide)) (g := (mkF m 95 #[own_r a1, own_i aa.toInt32, own_i p2, own_l (own_absL (p2.toInt64)), .second, own_i s5.toInt32, own_i ((own_nd (own_abs p2)).toInt32)] [.int 4, .int ((own_nd (own_abs p2)).toInt32), .long (own_absL (p2.toInt64)), .int s5.toInt32, .ref a1])) rfl (by rw [hml]; rfl) (argsL := [.ref a1, .int s5.toInt32, .long (own_absL (p2.toInt64)), .int ((own_nd (own_abs p2)).toInt32), .int 4]) (rest := []) (lenOf own_pd36 rfl) rfl (by exact own_ca rfl) (hb hby d49_95) (fun _ _ => ⟨rfl, rfl, (by decide : 4 + 1 ≤ _), (by decide : 40 + 10 ≤ _)⟩)
    dsimp only [Pt.U, Pt.locs, Pt.cells, Pt.slots] at X108 l108 y108 z108 st108 hQ108
    subst l108 y108 z108
    obtain ⟨rfl, N108q, K108⟩ := hQ108
    have Kc108 : Keep h0 T108.heap [] := Kc107.trans K108 all0
    have N108 := Fr.app N107 N108q
    refine own_s T108 m 104 #[own_r a1, own_i aa.toInt32, own_i p2, own_l (own_absL (p2.toInt64)), .second, own_i s5.toInt32, own_i ((own_nd (own_abs p2)).toInt32)] [.int s5.toInt32, .ref a1] (fun t k => st108 _ (XS.ifNo X108.here hx rfl (hb hby d49_98) rfl (XT.i0_eq_f (by decide)) (XS.aloadN X108.here hx rfl (hb hby d49_101) rfl (rfl) (XS.iload X108.here hx rfl (hb hby d49_102) rfl k)))) ?_
    refine own_s T108 m 108 #[own_r a1, own_i aa.toInt32, own_i p2, own_l (own_absL (p2.toInt64)), .second, own_i s5.toInt32, own_i ((own_nd (own_abs p2)).toInt32)] [.int 5, .int ((own_nd (own_abs p2)).toInt32), .long (own_absL (p2.toInt64)), .int s5.toInt32, .ref a1] (fun t k => XT.lloadN X108.here hx rfl (hb hby d49_104) rfl (XS.iload X108.here hx rfl (hb hby d49_105) rfl (XS.iconst X108.here hx rfl (hb hby d49_107) k))) ?_
    obtain ⟨v109, _, ⟨T109, L109, k109, n109⟩, -, X109, ⟨Lc109, hQ109, l109, y109, z109⟩, st109⟩ := Jvm.LawKit.callS X108 hx (y := own_n52) hown (mvT hZ (own_w hw 257 rfl)) (mvT hZ (own_w hw 258 rfl)) (mvT hZ (own_w hw 2 rfl)) (mvT hZ (own_w hw 259 rfl)) (by decide) (backOf (W := 0) (own_rm50 l Z a0 hw [] a1 s5.toInt32 (own_absL (p2.toInt64)) ((own_nd (own_abs p2)).toInt32) (5 : Int32) wf cs b1 RR s5 (own_nd (own_abs p2)) (5) (own_abs p2) T108.heap n0 (Nat.le_trans Z0 Kc108.1) (own_sta_keep SF Kc108 (fun _ _ _ _ => nin0)) hfr (own_sta_keep CS Kc108 (fun _ _ _ _ => nin0)) hcs (Fc.keep Kc108 nin0) (Fv.keep Kc108 nin0) (Ab.keep Kc108 nin0) (Es.keep Kc108) rfl rfl rfl (by decide) hndr.2 (own_abs_l p2) (by omega) hlR (hg5 5)) hZ (own_w hw 259 rfl) (own_w hw 2 rfl) (by decide) (by decide)) (g := (mkF m 108 #[own_r a1, own_i aa.toInt32, own_i p2, own_l (own_absL (p2.toInt64)), .second, own_i s5.toInt32, own_i ((own_nd (own_abs p2)).toInt32)] [.int 5, .int ((own_nd (own_abs p2)).toInt32), .long (own_absL (p2.toInt64)), .int s5.toInt32, .ref a1])) rfl (by rw [hml]; rfl) (argsL := [.ref a1, .int s5.toInt32, .long (own_absL (p2.toInt64)), .int ((own_nd (own_abs p2)).toInt32), .int 5]) (rest := []) (lenOf own_pd36 rfl) rfl (by exact own_ca rfl) (hb hby d49_108) (fun _ _ => ⟨rfl, rfl, (by decide : 5 + 1 ≤ _), (by decide : 50 + 10 ≤ _)⟩)
    dsimp only [Pt.U, Pt.locs, Pt.cells, Pt.slots] at X109 l109 y109 z109 st109 hQ109
    subst l109 y109 z109
    obtain ⟨rfl, N109q, K109⟩ := hQ109
    have Kc109 : Keep h0 T109.heap [] := Kc108.trans K109 all0
    have N109 := Fr.app N108 N109q
    refine own_s T109 m 117 #[own_r a1, own_i aa.toInt32, own_i p2, own_l (own_absL (p2.toInt64)), .second, own_i s5.toInt32, own_i ((own_nd (own_abs p2)).toInt32)] [.int s5.toInt32, .ref a1] (fun t k => st109 _ (XS.ifNo X109.here hx rfl (hb hby d49_111) rfl (XT.i0_eq_f (by decide)) (XS.aloadN X109.here hx rfl (hb hby d49_114) rfl (rfl) (XS.iload X109.here hx rfl (hb hby d49_115) rfl k)))) ?_
    refine own_s T109 m 122 #[own_r a1, own_i aa.toInt32, own_i p2, own_l (own_absL (p2.toInt64)), .second, own_i s5.toInt32, own_i ((own_nd (own_abs p2)).toInt32)] [.int 6, .int ((own_nd (own_abs p2)).toInt32), .long (own_absL (p2.toInt64)), .int s5.toInt32, .ref a1] (fun t k => XT.lloadN X109.here hx rfl (hb hby d49_117) rfl (XS.iload X109.here hx rfl (hb hby d49_118) rfl (XS.bipush X109.here hx rfl (hb hby d49_120) k))) ?_
    obtain ⟨v110, _, ⟨T110, L110, k110, n110⟩, -, X110, ⟨Lc110, hQ110, l110, y110, z110⟩, st110⟩ := Jvm.LawKit.callS X109 hx (y := own_n52) hown (mvT hZ (own_w hw 257 rfl)) (mvT hZ (own_w hw 258 rfl)) (mvT hZ (own_w hw 2 rfl)) (mvT hZ (own_w hw 259 rfl)) (by decide) (backOf (W := 0) (own_rm50 l Z a0 hw [] a1 s5.toInt32 (own_absL (p2.toInt64)) ((own_nd (own_abs p2)).toInt32) (6 : Int32) wf cs b1 RR s5 (own_nd (own_abs p2)) (6) (own_abs p2) T109.heap n0 (Nat.le_trans Z0 Kc109.1) (own_sta_keep SF Kc109 (fun _ _ _ _ => nin0)) hfr (own_sta_keep CS Kc109 (fun _ _ _ _ => nin0)) hcs (Fc.keep Kc109 nin0) (Fv.keep Kc109 nin0) (Ab.keep Kc109 nin0) (Es.keep Kc109) rfl rfl rfl (by decide) hndr.2 (own_abs_l p2) (by omega) hlR (hg5 6)) hZ (own_w hw 259 rfl) (own_w hw 2 rfl) (by decide) (by decide)) (g := (mkF m 122 #[own_r a1, own_i aa.toInt32, own_i p2, own_l (own_absL (p2.toInt64)), .second, own_i s5.toInt32, own_i ((own_nd (own_abs p2)).toInt32)] [.int 6, .int ((own_nd (own_abs p2)).toInt32), .long (own_absL (p2.toInt64)), .int s5.toInt32, .ref a1])) rfl (by rw [hml]; rfl) (argsL := [.ref a1, .int s5.toInt32, .long (own_absL (p2.toInt64)), .int ((own_nd (own_abs p2)).toInt32), .int 6]) (rest := []) (lenOf own_pd36 rfl) rfl (by exact own_ca rfl) (hb hby d49_122) (fun _ _ => ⟨rfl, rfl, (by decide : 6 + 1 ≤ _), (by decide : 60 + 10 ≤ _)⟩)
    dsimp only [Pt.U, Pt.locs, Pt.cells, Pt.slots] at X110 l110 y110 z110 st110 hQ110
    subst l110 y110 z110
    obtain ⟨rfl, N110q, K110⟩ := hQ110
    have Kc110 : Keep h0 T110.heap [] := Kc109.trans K110 all0
    have N110 := Fr.app N109 N110q
    refine own_s T110 m 131 #[own_r a1, own_i aa.toInt32, own_i p2, own_l (own_absL (p2.toInt64)), .second, own_i s5.toInt32, own_i ((own_nd (own_abs p2)).toInt32)] [.int s5.toInt32, .ref a1] (fun t k => st110 _ (XS.ifNo X110.here hx rfl (hb hby d49_125) rfl (XT.i0_eq_f (by decide)) (XS.aloadN X110.here hx rfl (hb hby d49_128) rfl (rfl) (XS.iload X110.here hx rfl (hb hby d49_129) rfl k)))) ?_
    refine own_s T110 m 136 #[own_r a1, own_i aa.toInt32, own_i p2, own_l (own_absL (p2.toInt64)), .second, own_i s5.toInt32, own_i ((own_nd (own_abs p2)).toInt32)] [.int 7, .int ((own_nd (own_abs p2)).toInt32), .long (own_absL (p2.toInt64)), .int s5.toInt32, .ref a1] (fun t k => XT.lloadN X110.here hx rfl (hb hby d49_131) rfl (XS.iload X110.here hx rfl (hb hby d49_132) rfl (XS.bipush X110.here hx rfl (hb hby d49_134) k))) ?_
    obtain ⟨v111, _, ⟨T111, L111, k111, n111⟩, -, X111, ⟨Lc111, hQ111, l111, y111, z111⟩, st111⟩ := Jvm.LawKit.callS X110 hx (y := own_n52) hown (mvT hZ (own_w hw 257 rfl)) (mvT hZ (own_w hw 258 rfl)) (mvT hZ (own_w hw 2 rfl)) (mvT hZ (own_w hw 259 rfl)) (by decide) (backOf (W := 0) (own_rm50 l Z a0 hw [] a1 s5.toInt32 (own_absL (p2.toInt64)) ((own_nd (own_abs p2)).toInt32) (7 : Int32) wf cs b1 RR s5 (own_nd (own_abs p2)) (7) (own_abs p2) T110.heap n0 (Nat.le_trans Z0 Kc110.1) (own_sta_keep SF Kc110 (fun _ _ _ _ => nin0)) hfr (own_sta_keep CS Kc110 (fun _ _ _ _ => nin0)) hcs (Fc.keep Kc110 nin0) (Fv.keep Kc110 nin0) (Ab.keep Kc110 nin0) (Es.keep Kc110) rfl rfl rfl (by decide) hndr.2 (own_abs_l p2) (by omega) hlR (hg5 7)) hZ (own_w hw 259 rfl) (own_w hw 2 rfl) (by decide) (by decide)) (g := (mkF m 136 #[own_r a1, own_i aa.toInt32, own_i p2, own_l (own_absL (p2.toInt64)), .second, own_i s5.toInt32, own_i ((own_nd (own_abs p2)).toInt32)] [.int 7, .int ((own_nd (own_abs p2)).toInt32), .long (own_absL (p2.toInt64)), .int s5.toInt32, .ref a1])) rfl (by rw [hml]; rfl) (argsL := [.ref a1, .int s5.toInt32, .long (own_absL (p2.toInt64)), .int ((own_nd (own_abs p2)).toInt32), .int 7]) (rest := []) (lenOf own_pd36 rfl) rfl (by exact own_ca rfl) (hb hby d49_136) (fun _ _ => ⟨rfl, rfl, (by decide : 7 + 1 ≤ _), (by decide : 70 + 10 ≤ _)⟩)
    dsimp only [Pt.U, Pt.locs, Pt.cells, Pt.slots] at X111 l111 y111 z111 st111 hQ111
    subst l111 y111 z111
    obtain ⟨rfl, N111q, K111⟩ := hQ111
    have Kc111 : Keep h0 T111.heap [] := Kc110.trans K111 all0
    have N111 := Fr.app N110 N111q
    refine own_s T111 m 145 #[own_r a1, own_i aa.toInt32, own_i p2, own_l (own_absL (p2.toInt64)), .second, own_i s5.toInt32, own_i ((own_nd (own_abs p2)).toInt32)] [.int s5.toInt32, .ref a1] (fun t k => st111 _ (XS.ifNo X111.here hx rfl (hb hby d49_139) rfl (XT.i0_eq_f (by decide)) (XS.aloadN X111.here hx rfl (hb hby d49_142) rfl (rfl) (XS.iload X111.here hx rfl (hb hby d49_143) rfl k)))) ?_
    refine own_s T111 m 150 #[own_r a1, own_i aa.toInt32, own_i p2, own_l (own_absL (p2.toInt64)), .second, own_i s5.toInt32, own_i ((own_nd (own_abs p2)).toInt32)] [.int 8, .int ((own_nd (own_abs p2)).toInt32), .long (own_absL (p2.toInt64)), .int s5.toInt32, .ref a1] (fun t k => XT.lloadN X111.here hx rfl (hb hby d49_145) rfl (XS.iload X111.here hx rfl (hb hby d49_146) rfl (XS.bipush X111.here hx rfl (hb hby d49_148) k))) ?_
    obtain ⟨v112, _, ⟨T112, L112, k112, n112⟩, -, X112, ⟨Lc112, hQ112, l112, y112, z112⟩, st112⟩ := Jvm.LawKit.callS X111 hx (y := own_n52) hown (mvT hZ (own_w hw 257 rfl)) (mvT hZ (own_w hw 258 rfl)) (mvT hZ (own_w hw 2 rfl)) (mvT hZ (own_w hw 259 rfl)) (by decide) (backOf (W := 0) (own_rm50 l Z a0 hw [] a1 s5.toInt32 (own_absL (p2.toInt64)) ((own_nd (own_abs p2)).toInt32) (8 : Int32) wf cs b1 RR s5 (own_nd (own_abs p2)) (8) (own_abs p2) T111.heap n0 (Nat.le_trans Z0 Kc111.1) (own_sta_keep SF Kc111 (fun _ _ _ _ => nin0)) hfr (own_sta_keep CS Kc111 (fun _ _ _ _ => nin0)) hcs (Fc.keep Kc111 nin0) (Fv.keep Kc111 nin0) (Ab.keep Kc111 nin0) (Es.keep Kc111) rfl rfl rfl (by decide) hndr.2 (own_abs_l p2) (by omega) hlR (hg5 8)) hZ (own_w hw 259 rfl) (own_w hw 2 rfl) (by decide) (by decide)) (g := (mkF m 150 #[own_r a1, own_i aa.toInt32, own_i p2, own_l (own_absL (p2.toInt64)), .second, own_i s5.toInt32, own_i ((own_nd (own_abs p2)).toInt32)] [.int 8, .int ((own_nd (own_abs p2)).toInt32), .long (own_absL (p2.toInt64)), .int s5.toInt32, .ref a1])) rfl (by rw [hml]; rfl) (argsL := [.ref a1, .int s5.toInt32, .long (own_absL (p2.toInt64)), .int ((own_nd (own_abs p2)).toInt32), .int 8]) (rest := []) (lenOf own_pd36 rfl) rfl (by exact own_ca rfl) (hb hby d49_150) (fun _ _ => ⟨rfl, rfl, (by decide : 8 + 1 ≤ _), (by decide : 80 + 10 ≤ _)⟩)
    dsimp only [Pt.U, Pt.locs, Pt.cells, Pt.slots] at X112 l112 y112 z112 st112 hQ112
    subst l112 y112 z112
    obtain ⟨rfl, N112q, K112⟩ := hQ112
    have Kc112 : Keep h0 T112.heap [] := Kc111.trans K112 all0
    have N112 := Fr.app N111 N112q
    refine own_s T112 m 159 #[own_r a1, own_i aa.toInt32, own_i p2, own_l (own_absL (p2.toInt64)), .second, own_i s5.toInt32, own_i ((own_nd (own_abs p2)).toInt32)] [.int s5.toInt32, .ref a1] (fun t k => st112 _ (XS.ifNo X112.here hx rfl (hb hby d49_153) rfl (XT.i0_eq_f (by decide)) (XS.aloadN X112.here hx rfl (hb hby d49_156) rfl (rfl) (XS.iload X112.here hx rfl (hb hby d49_157) rfl k)))) ?_
    refine own_s T112 m 164 #[own_r a1, own_i aa.toInt32, own_i p2, own_l (own_absL (p2.toInt64)), .second, own_i s5.toInt32, own_i ((own_nd (own_abs p2)).toInt32)] [.int 9, .int ((own_nd (own_abs p2)).toInt32), .long (own_absL (p2.toInt64)), .int s5.toInt32, .ref a1] (fun t k => XT.lloadN X112.here hx rfl (hb hby d49_159) rfl (XS.iload X112.here hx rfl (hb hby d49_160) rfl (XS.bipush X112.here hx rfl (hb hby d49_162) k))) ?_
    obtain ⟨v113, _, ⟨T113, L113, k113, n113⟩, -, X113, ⟨Lc113, hQ113, l113, y113, z113⟩, st113⟩ := Jvm.LawKit.callS X112 hx (y := own_n52) hown (mvT hZ (own_w hw 257 rfl)) (mvT hZ (own_w hw 258 rfl)) (mvT hZ (own_w hw 2 rfl)) (mvT hZ (own_w hw 259 rfl)) (by decide) (backOf (W := 0) (own_rm50 l Z a0 hw [] a1 s5.toInt32 (own_absL (p2.toInt64)) ((own_nd (own_abs p2)).toInt32) (9 : Int32) wf cs b1 RR s5 (own_nd (own_abs p2)) (9) (own_abs p2) T112.heap n0 (Nat.le_trans Z0 Kc112.1) (own_sta_keep SF Kc112 (fun _ _ _ _ => nin0)) hfr (own_sta_keep CS Kc112 (fun _ _ _ _ => nin0)) hcs (Fc.keep Kc112 nin0) (Fv.keep Kc112 nin0) (Ab.keep Kc112 nin0) (Es.keep Kc112) rfl rfl rfl (by decide) hndr.2 (own_abs_l p2) (by omega) hlR (hg5 9)) hZ (own_w hw 259 rfl) (own_w hw 2 rfl) (by decide) (by decide)) (g := (mkF m 164 #[own_r a1, own_i aa.toInt32, own_i p2, own_l (own_absL (p2.toInt64)), .second, own_i s5.toInt32, own_i ((own_nd (own_abs p2)).toInt32)] [.int 9, .int ((own_nd (own_abs p2)).toInt32), .long (own_absL (p2.toInt64)), .int s5.toInt32, .ref a1])) rfl (by rw [hml]; rfl) (argsL := [.ref a1, .int s5.toInt32, .long (own_absL (p2.toInt64)), .int ((own_nd (own_abs p2)).toInt32), .int 9]) (rest := []) (lenOf own_pd36 rfl) rfl (by exact own_ca rfl) (hb hby d49_164) (fun _ _ => ⟨rfl, rfl, (by decide : 9 + 1 ≤ _), (by decide : 90 + 10 ≤ _)⟩)
    dsimp only [Pt.U, Pt.locs, Pt.cells, Pt.slots] at X113 l113 y113 z113 st113 hQ113
    subst l113 y113 z113
    obtain ⟨rfl, N113q, K113⟩ := hQ113
    have Kc113 : Keep h0 T113.heap [] := Kc112.trans K113 all0
    have N113 := Fr.app N112 N113q
    refine own_s T113 m 175 #[own_r a1, own_i aa.toInt32, own_i p2, own_l (own_absL (p2.toInt64)), .second, own_i s5.toInt32, own_i ((own_nd (own_abs p2)).toInt32)] [.int 1] (fun t k => st113 _ (XS.ifNo X113.here hx rfl (hb hby d49_167) rfl (XT.i0_eq_f (by decide)) (XS.iconst X113.here hx rfl (hb hby d49_170) (XS.goto X113.here hx rfl (pc0 := 171) (pc' := 175) rfl (hb hby d49_171) (by decide) (by decide) k)))) ?_
    have eE : T113.heap = T113.heap := rfl
    exact own_retB X113 hx hlk (t := .boolean) hrt (by simp) (hb hby d49_175) ⟨rfl, N113, (by rw [eE]; exact Kc113)⟩ (by decide) (by decide)
  refine own_s T101 m 10 #[own_r a1, own_i aa.toInt32, own_i p2, own_l (own_absL (p2.toInt64)), .second, own_i aa.toInt32, .unset] [.int p2] (fun t k => XS.iloadN X101.here hx rfl (hb hby d49_9) rfl k) ?_
  by_cases hc10_114 : p2 < 0
  · refine own_s T101 m 15 #[own_r a1, own_i aa.toInt32, own_i p2, own_l (own_absL (p2.toInt64)), .second, own_i aa.toInt32, .unset] [.int aa.toInt32, .ref a1] (fun t k => XS.ifNo X101.here hx rfl (hb hby d49_10) rfl (XT.i0_ge_f hc10_114) (XS.aloadN X101.here hx rfl (hb hby d49_13) rfl (rfl) (XS.iloadN X101.here hx rfl (hb hby d49_14) rfl k))) ?_
    obtain ⟨cq115, kq115, q115a, q115b, q115c⟩ := isOf hZ e101 Es
    obtain ⟨v115, _, ⟨T115, L115, k115, n115⟩, -, X115, ⟨Lc115, hQ115, l115, y115, z115⟩, st115⟩ := X101.virtualBack hx (y := own_n51) (z := own_n51) hown (mvT hZ (own_w hw 238 rfl)) (mvT hZ (own_w hw 239 rfl)) (notFace_of_selects (args := #[]) (mvT hZ (own_w hw 241 rfl))) (mvT hZ (own_w hw 241 rfl)) (mvT hZ (own_w hw 240 rfl)) (by decide) (backOf (W := 0) (own_rm45 l Z a0 hw [] a1 aa.toInt32 wf cs b1 RR (45 : Int32) h0 n0 (Nat.le_trans Z0 K0.1) SF hfr CS hcs Fc Fv Ab Es (own_nnS (by omega : aa < 2147483648)) (by rw [own_ixS (by omega : aa < 2147483648)]; exact own_seg45 hc10_114 hseg) hlR) hZ (own_w hw 242 rfl) (own_w hw 6 rfl) (by decide) (by decide)) q115a q115c (g := (mkF m 15 #[own_r a1, own_i aa.toInt32, own_i p2, own_l (own_absL (p2.toInt64)), .second, own_i aa.toInt32, .unset] [.int aa.toInt32, .ref a1])) rfl (by rw [hml]; rfl) (Steps.refl _) (argsL := [.int aa.toInt32]) (rest := []) (lenOf own_pd35 rfl) rfl (by exact own_ca rfl) (hb hby d49_15) (fun _ _ => ⟨rfl, e101, (by decide : 0 + 0 ≤ _), (by decide : 0 + 0 ≤ _)⟩)
    dsimp only [Pt.U, Pt.locs, Pt.cells, Pt.slots] at X115 l115 y115 z115 st115 hQ115
    subst l115 y115 z115
    obtain ⟨rfl, N115q, e115⟩ := hQ115
    have N115 := Fr.app N101 N115q
    refine own_s T115 m 26 #[own_r a1, own_i aa.toInt32, own_i p2, own_l (own_absL (p2.toInt64)), .second, own_i aa.toInt32, .unset] [.int aa.toInt32] (fun t k => st115.trans (XS.bipush X115.here hx rfl (hb hby d49_18) (XS.icmpYes X115.here hx rfl (pc0 := 20) (pc' := 25) rfl (hb hby d49_20) rfl (XT.ii_eq_t (by decide)) (by decide) (by decide) (XS.iloadN X115.here hx rfl (hb hby d49_25) rfl k)))) ?_
    refine own_s T115 m 28 #[own_r a1, own_i aa.toInt32, own_i p2, own_l (own_absL (p2.toInt64)), .second, own_i aa.toInt32, .unset] [.int (aa.toInt32 + (1 : Int32))] (fun t k => XS.iconst X115.here hx rfl (hb hby d49_26) (XS.iadd X115.here hx rfl (hb hby d49_27) rfl k)) ?_
    rw [own_succS aa]
    refine own_s T115 m 30 #[own_r a1, own_i aa.toInt32, own_i p2, own_l (own_absL (p2.toInt64)), .second, .val (.int (aa + 1).toInt32), .unset] [] (fun t k => XS.istore X115.here hx rfl (hb hby d49_28) rfl (l' := #[own_r a1, own_i aa.toInt32, own_i p2, own_l (own_absL (p2.toInt64)), .second, .val (.int (aa + 1).toInt32), .unset]) rfl k) ?_
    exact J102 _ _ (X115.more (by decide) (by decide)) e115 N115 (aa + 1) (by rw [own_sz, if_pos hc10_114]; omega) (own_seg1 hc10_114 hseg)
  · refine own_s T101 m 30 #[own_r a1, own_i aa.toInt32, own_i p2, own_l (own_absL (p2.toInt64)), .second, own_i aa.toInt32, .unset] [] (fun t k => XS.ifYes X101.here hx rfl (pc0 := 10) (pc' := 30) rfl (hb hby d49_10) rfl (XT.i0_ge_t hc10_114) (by decide) (by decide) k) ?_
    exact J102 _ _ (X101.more (by decide) (by decide)) e101 N101 aa (by rw [own_sz, if_neg hc10_114]; omega) (own_seg0 hc10_114 hseg)
abbrev own_k6 := jdk_43_method_3_code
abbrev own_n54 : MethodName := ⟨"java/lang/StringLatin1", "canEncode", "(C)Z"⟩
theorem d6_0 : own_D own_k6 0 (.iload_n 0) 1 := by decide +kernel
theorem d6_1 : own_D own_k6 1 (.sipush 255) 3 := by decide +kernel
theorem d6_4 : own_D own_k6 4 (.if_icmp .gt 7) 3 := by decide +kernel
theorem d6_7 : own_D own_k6 7 (.iconst 1) 1 := by decide +kernel
theorem d6_8 : own_D own_k6 8 (.goto 4) 3 := by decide +kernel
theorem d6_12 : own_D own_k6 12 (.ireturn) 1 := by decide +kernel
theorem ef_own_rm6 (m : MethodId) (p1 : Int32) : entryFrame m #[(.int p1)] 1 = mkF m 0 #[own_i p1] [] := by first | (simp [entryFrame, mkF, argsToLocals, Value.category]; done) | rfl
def own_rm6_Q (Z : State) (p1 : Int32)  (h0 : Heap) (n0 : Nat) (v : Option Value) (h : Heap) (L : List Loc) : Prop := v = some (.int ((1 : Int32))) ∧ Fr n0 L ∧ h = h0
set_option maxRecDepth 65536 in
set_option maxHeartbeats 40000000 in
theorem own_rm6 (l : Launch) (Z : State) (a0 : Array Value) (hw : own_H a0 Z) (ws : List Jvm.Cond) (p1 : Int32) (h0 : Heap) (n0 : Nat) (Z0 : n0 ≤ h0.size) (hp : ¬ (255 : Int32) < p1) : own_M l Z ws own_n54 own_k6 1 (some .boolean) (own_R 0 0 0 0) #[(.int p1)] h0 (own_rm6_Q Z p1  h0 n0) := by
  refine own_open n0 "java/lang/StringLatin1" rfl (plainFor_of_name own_pn7) (fun m => ef_own_rm6 m p1) ?_
  intro p e s m below meth c s₁ hx hby hml hZ hown hnm hlk hrt X0 e0 N0
  have K0 := Keep.refl h0 []
  refine own_s s₁ m 8 #[own_i p1] [.int 1] (fun t k => XS.iloadN X0.here hx rfl (hb hby d6_0) rfl (XS.sipush X0.here hx rfl (hb hby d6_1) (XS.icmpNo X0.here hx rfl (hb hby d6_4) rfl (XT.ii_gt_f hp) (XS.iconst X0.here hx rfl (hb hby d6_7) k)))) ?_
  refine own_s s₁ m 12 #[own_i p1] [.int 1] (fun t k => XS.goto X0.here hx rfl (pc0 := 8) (pc' := 12) rfl (hb hby d6_8) (by decide) (by decide) k) ?_
  exact own_retB X0 hx hlk (t := .boolean) hrt (by simp) (hb hby d6_12) ⟨rfl, N0, e0⟩ (by decide) (by decide)
abbrev own_k7 := jdk_43_method_46_code
abbrev own_n55 : MethodName := ⟨"java/lang/StringLatin1", "toBytes", "(C)[B"⟩
theorem d7_0 : own_D own_k7 0 (.iconst 1) 1 := by decide +kernel
theorem d7_1 : own_D own_k7 1 (.newarray .byte) 2 := by decide +kernel
theorem d7_3 : own_D own_k7 3 (.dup) 1 := by decide +kernel
theorem d7_4 : own_D own_k7 4 (.iconst 0) 1 := by decide +kernel
theorem d7_5 : own_D own_k7 5 (.iload_n 0) 1 := by decide +kernel
theorem d7_6 : own_D own_k7 6 (.i2b) 1 := by decide +kernel
theorem d7_7 : own_D own_k7 7 (.bastore) 1 := by decide +kernel
theorem d7_8 : own_D own_k7 8 (.areturn) 1 := by decide +kernel
theorem ef_own_rm7 (m : MethodId) (p1 : Int32) : entryFrame m #[(.int p1)] 1 = mkF m 0 #[own_i p1] [] := by first | (simp [entryFrame, mkF, argsToLocals, Value.category]; done) | rfl
def own_rm7_Q (Z : State) (p1 : Int32)  (h0 : Heap) (n0 : Nat) (v : Option Value) (h : Heap) (L : List Loc) : Prop := ∃ b : Addr, v = some (.ref b) ∧ Fr n0 L ∧ h0.size ≤ b ∧ Keep h0 h [] ∧ own_Ar Z h b .byte [.int (nar .byte p1.toInt8.toInt32)]
set_option maxRecDepth 65536 in
set_option maxHeartbeats 40000000 in
theorem own_rm7 (l : Launch) (Z : State) (a0 : Array Value) (hw : own_H a0 Z) (ws : List Jvm.Cond) (p1 : Int32) (h0 : Heap) (n0 : Nat) (Z0 : n0 ≤ h0.size) : own_M l Z ws own_n55 own_k7 1 (some (.array .byte)) (own_R 0 1 1 0) #[(.int p1)] h0 (own_rm7_Q Z p1  h0 n0) := by
  refine own_open n0 "java/lang/StringLatin1" rfl (plainFor_of_name own_pn7) (fun m => ef_own_rm7 m p1) ?_
  intro p e s m below meth c s₁ hx hby hml hZ hown hnm hlk hrt X0 e0 N0
  have K0 := Keep.refl h0 []
  refine own_s s₁ m 1 #[own_i p1] [.int 1] (fun t k => XS.iconst X0.here hx rfl (hb hby d7_0) k) ?_
  obtain ⟨T101, h101, X101, e101, E101, A101, Ex101, st101⟩ := own_newPE X0 hx hZ (own_w hw 19 rfl) e0 (g := (mkF m 1 #[own_i p1] [.int 1])) rfl (hb hby d7_1) rfl (by decide) (cap := 1) (by decide) (by decide) (by decide) (by decide)
  obtain ⟨b101, g101⟩ : ∃ z, z = h0.size := ⟨_, rfl⟩
  rw [← g101] at A101 st101 Ex101
  have V101 : own_Ar Z h101 b101 .byte [(.int 0)] := A101
  have sz_b101 : h0.size ≤ b101 := Nat.le_trans K0.1 (Nat.le_of_eq g101.symm)
  have g_b101 : n0 ≤ b101 := Nat.le_trans Z0 sz_b101
  have Kc101 : Keep h0 h101 [] := K0.ext E101
  refine own_s T101 m 6 #[own_i p1] [.int p1, .int 0, .ref b101, .ref b101] (fun t k => st101 _ (XS.dup X101.here hx rfl (hb hby d7_3) rfl (rfl) (XS.iconst X101.here hx rfl (hb hby d7_4) (XS.iloadN X101.here hx rfl (hb hby d7_5) rfl k)))) ?_
  refine own_s T101 m 7 #[own_i p1] [.int (p1.toInt8.toInt32), .int 0, .ref b101, .ref b101] (fun t k => XT.i2b X101.here hx rfl (hb hby d7_6) rfl k) ?_
  obtain ⟨T102, h102, X102, e102, W102, V102', st102⟩ := own_stB X101 hx hZ e101 V101 (j := (0 : Int32)) (by decide) (by decide : (0 : Int32).toNatClampNeg < 1) (g := (mkF m 7 #[own_i p1] [.int (p1.toInt8.toInt32), .int 0, .ref b101, .ref b101])) rfl rfl (hb hby d7_7)
  have V102 : own_Ar Z h102 b101 .byte [(.int (nar .byte (p1.toInt8.toInt32)))] := V102'
  have Kc102 : Keep h0 h102 [] := Kc101.wr W102 (Or.inr sz_b101)
  have N102 := Fr.snoc X102 N0 g_b101
  refine own_s T102 m 8 #[own_i p1] [.ref b101] (fun t k => st102 _ k) ?_
  have eE : T102.heap = h102 := e102
  exact own_retA X102 hx hlk (rfl) hrt rfl (hb hby d7_8) ⟨b101, rfl, N102, sz_b101, (by rw [eE]; exact Kc102), (by rw [eE]; exact V102)⟩ (by decide) (by decide)
abbrev own_k8 := jdk_42_method_151_code
abbrev own_n56 : MethodName := ⟨"java/lang/String", "<init>", "([BB)V"⟩
theorem d8_0 : own_D own_k8 0 (.aload_n 0) 1 := by decide +kernel
theorem d8_1 : own_D own_k8 1 (.invokespecial 1) 3 := by decide +kernel
theorem d8_4 : own_D own_k8 4 (.aload_n 0) 1 := by decide +kernel
theorem d8_5 : own_D own_k8 5 (.aload_n 1) 1 := by decide +kernel
theorem d8_6 : own_D own_k8 6 (.putfield 9) 3 := by decide +kernel
theorem d8_9 : own_D own_k8 9 (.aload_n 0) 1 := by decide +kernel
theorem d8_10 : own_D own_k8 10 (.iload_n 2) 1 := by decide +kernel
theorem d8_11 : own_D own_k8 11 (.putfield 15) 3 := by decide +kernel
theorem d8_14 : own_D own_k8 14 (.return_) 1 := by decide +kernel
theorem ef_own_rm8 (m : MethodId) (a1 : Addr) (a2 : Addr) (p1 : Int32) : entryFrame m #[(.ref a1), (.ref a2), (.int p1)] 3 = mkF m 0 #[own_r a1, own_r a2, own_i p1] [] := by first | (simp [entryFrame, mkF, argsToLocals, Value.category]; done) | rfl
def own_rm8_Q (Z : State) (a1 : Addr) (a2 : Addr) (p1 : Int32)  (h0 : Heap) (n0 : Nat) (v : Option Value) (h : Heap) (L : List Loc) : Prop := v = none ∧ Fr n0 L ∧ Keep h0 h [a1] ∧ Exa Z h a1 "java/lang/String" ∧ Fld Z h a1 "java/lang/String" "value" "[B" (.ref a2) ∧ Fld Z h a1 "java/lang/String" "coder" "B" (.int 0)
set_option maxRecDepth 65536 in
set_option maxHeartbeats 40000000 in
theorem own_rm8 (l : Launch) (Z : State) (a0 : Array Value) (hw : own_H a0 Z) (ws : List Jvm.Cond) (a1 a2 : Addr) (p1 : Int32) (h0 : Heap) (n0 : Nat) (Z0 : n0 ≤ h0.size) (E_a1 : Exa Z h0 a1 "java/lang/String") (Fi_0 : Fld Z h0 a1 "java/lang/String" "value" "[B" .null) (Fi_1 : Fld Z h0 a1 "java/lang/String" "coder" "B" (.int 0)) (g_a1 : n0 ≤ a1) (hp : p1 = (0 : Int32)) : own_M l Z ws own_n56 own_k8 3 none (own_R 1 0 0 12) #[(.ref a1), (.ref a2), (.int p1)] h0 (own_rm8_Q Z a1 a2 p1  h0 n0) := by
  refine own_open n0 "java/lang/String" rfl (plainFor_of_name own_pn1) (fun m => ef_own_rm8 m a1 a2 p1) ?_
  intro p e s m below meth c s₁ hx hby hml hZ hown hnm hlk hrt X0 e0 N0
  have K0 := Keep.refl h0 [a1]
  subst hp
  refine own_s s₁ m 1 #[own_r a1, own_r a2, own_i 0] [.ref a1] (fun t k => XS.aloadN X0.here hx rfl (hb hby d8_0) rfl (rfl) k) ?_
  obtain ⟨T101, X101, e101, st101⟩ := initO X0 hx hZ hown (own_w hw 15 rfl) (own_w hw 16 rfl) (own_w hw 17 rfl) e0 (g := (mkF m 1 #[own_r a1, own_r a2, own_i 0] [.ref a1])) rfl (by rw [hml]; rfl) rfl (hb hby d8_1) (by decide) (W := 0) (by exact own_ca rfl) (by decide)
  refine own_s T101 m 6 #[own_r a1, own_r a2, own_i 0] [.ref a2, .ref a1] (fun t k => st101 _ (XS.aloadN X101.here hx rfl (hb hby d8_4) rfl (rfl) (XS.aloadN X101.here hx rfl (hb hby d8_5) rfl (rfl) k))) ?_
  obtain ⟨T102, h102, X102, e102, W102, st102⟩ := putF X101 hx hZ hown (host := "") (Or.inl (own_w hw 24 rfl)) Via.refl e101 Fi_0 E_a1 (Or.inr ⟨(own_w hw 20 rfl), rfl, hnm⟩) (own_w hw 5 rfl) (ty := (.array .byte)) (by decide) rfl rfl (g := (mkF m 6 #[own_r a1, own_r a2, own_i 0] [.ref a2, .ref a1])) rfl rfl (hb hby d8_6)
  have F102 : Fld Z h102 a1 "java/lang/String" "value" "[B" (.ref a2) := Fi_0.same W102
  have Kc102 : Keep h0 h102 [a1] := K0.wr W102 (Or.inl (List.mem_of_getElem? (i := 0) rfl))
  have N102 := Fr.snoc X102 N0 g_a1
  refine own_s T102 m 11 #[own_r a1, own_r a2, own_i 0] [.int 0, .ref a1] (fun t k => st102 _ (XS.aloadN X102.here hx rfl (hb hby d8_9) rfl (rfl) (XS.iloadN X102.here hx rfl (hb hby d8_10) rfl k))) ?_
  obtain ⟨T103, h103, X103, e103, W103, st103⟩ := putFN X102 hx hZ hown (own_w hw 25 rfl) Via.refl e102 (Fi_1.other W102 (Or.inr (slot_ne (Or.inr (own_w hw 21 rfl)) (Or.inr (own_w hw 20 rfl)) (by decide) (t := .byte) (t' := (.array .byte)) (by decide) (by decide)))) (E_a1.wr W102) (Or.inr ⟨(own_w hw 21 rfl), rfl, hnm⟩) (own_w hw 5 rfl) (ty := .byte) (v' := (.int 0)) (by decide) rfl rfl (g := (mkF m 11 #[own_r a1, own_r a2, own_i 0] [.int 0, .ref a1])) rfl rfl (hb hby d8_11)
  have F103 : Fld Z h103 a1 "java/lang/String" "coder" "B" (.int 0) := (Fi_1.other W102 (Or.inr (slot_ne (Or.inr (own_w hw 21 rfl)) (Or.inr (own_w hw 20 rfl)) (by decide) (t := .byte) (t' := (.array .byte)) (by decide) (by decide)))).same W103
  have Kc103 : Keep h0 h103 [a1] := Kc102.wr W103 (Or.inl (List.mem_of_getElem? (i := 0) rfl))
  have N103 := Fr.snoc X103 N102 g_a1
  refine own_s T103 m 14 #[own_r a1, own_r a2, own_i 0] [] (fun t k => st103 _ k) ?_
  have eE : T103.heap = h103 := e103
  exact own_retV X103 hx hlk hrt (hb hby d8_14) ⟨rfl, N103, (by rw [eE]; exact Kc103), (by rw [eE]; exact ((E_a1.wr W102).wr W103)), (by rw [eE]; exact (F102.other W103 (Or.inr (slot_ne (Or.inr (own_w hw 20 rfl)) (Or.inr (own_w hw 21 rfl)) (by decide) (t := (.array .byte)) (t' := .byte) (by decide) (by decide))))), (by rw [eE]; exact F103)⟩ (by decide) (by decide)
theorem own_pd37 : parseMethodDescriptor "(C)Z" = some ⟨[.char], some .boolean⟩ := by decide +kernel
theorem own_pd38 : parseMethodDescriptor "(C)[B" = some ⟨[.char], some (.array .byte)⟩ := by decide +kernel
theorem own_pd39 : parseMethodDescriptor "([BB)V" = some ⟨[(.array .byte), .byte], none⟩ := by decide +kernel
abbrev own_k5 := jdk_42_method_139_code
abbrev own_n57 : MethodName := ⟨"java/lang/String", "valueOf", "(C)Ljava/lang/String;"⟩
theorem d5_0 : own_D own_k5 0 (.getstatic 38) 3 := by decide +kernel
theorem d5_3 : own_D own_k5 3 (.ifCond .eq 23) 3 := by decide +kernel
theorem d5_6 : own_D own_k5 6 (.iload_n 0) 1 := by decide +kernel
theorem d5_7 : own_D own_k5 7 (.invokestatic 1015) 3 := by decide +kernel
theorem d5_10 : own_D own_k5 10 (.ifCond .eq 16) 3 := by decide +kernel
theorem d5_13 : own_D own_k5 13 (.new 10) 3 := by decide +kernel
theorem d5_16 : own_D own_k5 16 (.dup) 1 := by decide +kernel
theorem d5_17 : own_D own_k5 17 (.iload_n 0) 1 := by decide +kernel
theorem d5_18 : own_D own_k5 18 (.invokestatic 1018) 3 := by decide +kernel
theorem d5_21 : own_D own_k5 21 (.iconst 0) 1 := by decide +kernel
theorem d5_22 : own_D own_k5 22 (.invokespecial 209) 3 := by decide +kernel
theorem d5_25 : own_D own_k5 25 (.areturn) 1 := by decide +kernel
theorem ef_own_rm5 (m : MethodId) (p1 : Int32) : entryFrame m #[(.int p1)] 1 = mkF m 0 #[own_i p1] [] := by first | (simp [entryFrame, mkF, argsToLocals, Value.category]; done) | rfl
def own_rm5_Q (Z : State) (p1 : Int32) (cs : Int32) (h0 : Heap) (n0 : Nat) (v : Option Value) (h : Heap) (L : List Loc) : Prop := ∃ b : Addr, v = some (.ref b) ∧ Fr n0 L ∧ Keep h0 h []
set_option maxRecDepth 65536 in
set_option maxHeartbeats 40000000 in
theorem own_rm5 (l : Launch) (Z : State) (a0 : Array Value) (hw : own_H a0 Z) (ws : List Jvm.Cond) (p1 cs : Int32) (h0 : Heap) (n0 : Nat) (Z0 : n0 ≤ h0.size) (CS : Sta Z h0 "java/lang/String" "COMPACT_STRINGS" "Z" (.int cs)) (hcs : ¬ cs = 0) (hp : ¬ (255 : Int32) < p1) : own_M l Z ws own_n57 own_k5 1 (some (.object "java/lang/String")) (own_R 2 2 5 27) #[(.int p1)] h0 (own_rm5_Q Z p1 cs h0 n0) := by
  refine own_open n0 "java/lang/String" rfl (plainFor_of_name own_pn1) (fun m => ef_own_rm5 m p1) ?_
  intro p e s m below meth c s₁ hx hby hml hZ hown hnm hlk hrt X0 e0 N0
  have K0 := Keep.refl h0 []
  obtain ⟨T101, X101, e101, st101⟩ := getS X0 hx hZ hown (host := "") (own_w hw 29 rfl) Via.refl e0 CS (g := (mkF m 0 #[own_i p1] [])) rfl (hb hby d5_0)
  refine own_s T101 m 7 #[own_i p1] [.int p1] (fun t k => st101 _ (XS.ifNo X101.here hx rfl (hb hby d5_3) rfl (XT.i0_eq_f hcs) (XS.iloadN X101.here hx rfl (hb hby d5_6) rfl k))) ?_
  obtain ⟨v102, _, ⟨T102, L102, k102, n102⟩, -, X102, ⟨Lc102, hQ102, l102, y102, z102⟩, st102⟩ := Jvm.LawKit.callS X101 hx (y := own_n54) hown (mvT hZ (own_w hw 30 rfl)) (mvT hZ (own_w hw 31 rfl)) (mvT hZ (own_w hw 32 rfl)) (mvT hZ (own_w hw 33 rfl)) (by decide) (backOf (W := 0) (own_rm6 l Z a0 hw [] p1 h0 n0 (Nat.le_trans Z0 K0.1) hp) hZ (own_w hw 33 rfl) (own_w hw 32 rfl) (by decide) (by decide)) (g := (mkF m 7 #[own_i p1] [.int p1])) rfl (by rw [hml]; rfl) (argsL := [.int p1]) (rest := []) (lenOf own_pd37 rfl) rfl (by exact own_ca rfl) (hb hby d5_7) (fun _ _ => ⟨rfl, e101, (by decide : 0 + 0 ≤ _), (by decide : 0 + 0 ≤ _)⟩)
  dsimp only [Pt.U, Pt.locs, Pt.cells, Pt.slots] at X102 l102 y102 z102 st102 hQ102
  subst l102 y102 z102
  obtain ⟨rfl, N102q, e102⟩ := hQ102
  have N102 := Fr.app N0 N102q
  refine own_s T102 m 13 #[own_i p1] [] (fun t k => st102 _ (XS.ifNo X102.here hx rfl (hb hby d5_10) rfl (XT.i0_eq_f (by decide)) k)) ?_
  obtain ⟨T103, h103, X103, e103, E103, A103, D103, -, st103⟩ := newO X102 hx hZ hown (own_w hw 34 rfl) (own_w hw 5 rfl) (own_w hw 6 rfl) e102 (g := (mkF m 13 #[own_i p1] [])) rfl (hb hby d5_13) (by decide) (by decide)
  obtain ⟨b103, g103⟩ : ∃ z, z = h0.size := ⟨_, rfl⟩
  rw [← g103] at A103 D103 st103
  have sz_b103 : h0.size ≤ b103 := Nat.le_trans K0.1 (Nat.le_of_eq g103.symm)
  have g_b103 : n0 ≤ b103 := Nat.le_trans Z0 sz_b103
  have Kc103 : Keep h0 h103 [] := K0.ext E103
  have F103_20 : Fld Z h103 b103 "java/lang/String" "value" "[B" .null := D103 (Or.inr (own_w hw 20 rfl)) (ty := (.array .byte)) (by decide)
  have F103_21 : Fld Z h103 b103 "java/lang/String" "coder" "B" (.int 0) := D103 (Or.inr (own_w hw 21 rfl)) (ty := .byte) (by decide)
  refine own_s T103 m 18 #[own_i p1] [.int p1, .ref b103, .ref b103] (fun t k => st103 _ (XS.dup X103.here hx rfl (hb hby d5_16) rfl (rfl) (XS.iloadN X103.here hx rfl (hb hby d5_17) rfl k))) ?_
  obtain ⟨v104, _, ⟨T104, L104, k104, n104⟩, -, X104, ⟨Lc104, hQ104, l104, y104, z104⟩, st104⟩ := Jvm.LawKit.callS X103 hx (y := own_n55) hown (mvT hZ (own_w hw 35 rfl)) (mvT hZ (own_w hw 36 rfl)) (mvT hZ (own_w hw 32 rfl)) (mvT hZ (own_w hw 37 rfl)) (by decide) (backOf (W := 2) (own_rm7 l Z a0 hw [] p1 h103 n0 (Nat.le_trans Z0 Kc103.1) ) hZ (own_w hw 37 rfl) (own_w hw 32 rfl) (by decide) (by decide)) (g := (mkF m 18 #[own_i p1] [.int p1, .ref b103, .ref b103])) rfl (by rw [hml]; rfl) (argsL := [.int p1]) (rest := [.ref b103, .ref b103]) (lenOf own_pd38 rfl) rfl (by exact own_ca rfl) (hb hby d5_18) (fun _ _ => ⟨rfl, e103, (by decide : 1 + 1 ≤ _), (by decide : 4 + 1 ≤ _)⟩)
  dsimp only [Pt.U, Pt.locs, Pt.cells, Pt.slots] at X104 l104 y104 z104 st104 hQ104
  subst l104 y104 z104
  obtain ⟨b104, rfl, N104q, szq104, K104, V104⟩ := hQ104
  have ne_b103_b104 := own_ne A103.lt szq104
  have Kc104 : Keep h0 T104.heap [] := Kc103.trans K104 all0
  have sz_b104 : h0.size ≤ b104 := Nat.le_trans Kc103.1 szq104
  have N104 := Fr.app N102 N104q
  refine own_s T104 m 22 #[own_i p1] [.int 0, .ref b104, .ref b103, .ref b103] (fun t k => st104 _ (XS.iconst X104.here hx rfl (hb hby d5_21) k)) ?_
  obtain ⟨v105, _, ⟨T105, L105, k105, n105⟩, -, X105, ⟨Lc105, hQ105, l105, y105, z105⟩, st105⟩ := X104.specialBack hx (y := own_n56) rfl hown (mvT hZ (own_w hw 38 rfl)) (mvT hZ (own_w hw 39 rfl)) (mvT hZ (own_w hw 40 rfl)) (by decide) (backOf (W := 1) (own_rm8 l Z a0 hw [] b103 b104 (0 : Int32) T104.heap n0 (Nat.le_trans Z0 Kc104.1) (A103.keep K104) (F103_20.keep K104 nin0) (F103_21.keep K104 nin0) g_b103 rfl) hZ (own_w hw 40 rfl) (own_w hw 6 rfl) (by decide) (by decide)) (g := (mkF m 22 #[own_i p1] [.int 0, .ref b104, .ref b103, .ref b103])) rfl (by rw [hml]; rfl) (Steps.refl _) (a := b103) (argsL := [.ref b104, .int 0]) (rest := [.ref b103]) (lenOf own_pd39 rfl) rfl (by exact own_ca rfl) (hb hby d5_22) (fun _ _ => ⟨rfl, rfl, (by decide : 2 + 0 ≤ _), (by decide : 5 + 0 ≤ _)⟩)
  dsimp only [Pt.U, Pt.locs, Pt.cells, Pt.slots] at X105 l105 y105 z105 st105 hQ105
  subst l105 y105 z105
  obtain ⟨rfl, N105q, K105, A105, Fa105_0, Fa105_1⟩ := hQ105
  have Kc105 : Keep h0 T105.heap [] := Kc104.trans K105 (allS (Or.inr sz_b103) all0)
  have N105 := Fr.app N104 N105q
  refine own_s T105 m 25 #[own_i p1] [.ref b103] (fun t k => st105.trans k) ?_
  have eE : T105.heap = T105.heap := rfl
  exact own_retA X105 hx hlk (rfl) hrt rfl (hb hby d5_25) ⟨b103, rfl, N105, (by rw [eE]; exact Kc105)⟩ (by decide) (by decide)
theorem d3_8 : own_D own_k3 8 (.aload_n 0) 1 := by decide +kernel
theorem d3_9 : own_D own_k3 9 (.ldc 7) 2 := by decide +kernel
theorem d3_11 : own_D own_k3 11 (.getfield 9) 3 := by decide +kernel
theorem d3_14 : own_D own_k3 14 (.putfield 9) 3 := by decide +kernel
theorem d3_17 : own_D own_k3 17 (.aload_n 0) 1 := by decide +kernel
theorem d3_18 : own_D own_k3 18 (.ldc 7) 2 := by decide +kernel
theorem d3_20 : own_D own_k3 20 (.getfield 15) 3 := by decide +kernel
theorem d3_23 : own_D own_k3 23 (.putfield 15) 3 := by decide +kernel
theorem d3_26 : own_D own_k3 26 (.return_) 1 := by decide +kernel
theorem ef_own_emp4 (m : MethodId) (a1 : Addr) (a2 : Addr) (p1 : Int32) (p2 : Int32) : entryFrame m #[(.ref a1), (.ref a2), (.int p1), (.int p2), .null] 6 = mkF m 0 #[own_r a1, own_r a2, own_i p1, own_i p2, .val .null, .unset] [] := by first | (simp [entryFrame, mkF, argsToLocals, Value.category]; done) | rfl
def own_emp4_Q (Z : State) (a1 : Addr) (a2 : Addr) (p1 : Int32) (p2 : Int32)  (h0 : Heap) (n0 : Nat) (v : Option Value) (h : Heap) (L : List Loc) : Prop := v = none ∧ Fr n0 L ∧ Keep h0 h [a1] ∧ Exa Z h a1 "java/lang/String" ∧ Fld Z h a1 "java/lang/String" "coder" "B" (.int 0) ∧ ∃ d : Addr, Fld Z h a1 "java/lang/String" "value" "[B" (.ref d) ∧ own_Ar Z h d .byte (([] : List Int32).map Value.int)
set_option maxRecDepth 65536 in
set_option maxHeartbeats 40000000 in
theorem own_emp4 (l : Launch) (Z : State) (a0 : Array Value) (hw : ∀ d ∈ tables_1, d.before a0 Z = true) (ws : List Jvm.Cond) (a1 : Addr) (a2 : Addr) (p1 : Int32) (p2 : Int32)  (h0 : Heap) (n0 : Nat) (Z0 : n0 ≤ h0.size) (E_a1 : Exa Z h0 a1 "java/lang/String") (Fc : Fld Z h0 a1 "java/lang/String" "coder" "B" (.int 0)) (Fv : Fld Z h0 a1 "java/lang/String" "value" "[B" .null) (g_a1 : n0 ≤ a1) (hp2 : p2 = 0) :
    MetFree l (⟨"java/lang/String", "<init>", "([CIILjava/lang/Void;)V"⟩ : MethodName) (head1 (Jvm.Cond.code (⟨"java/lang/String", "<init>", "([CIILjava/lang/Void;)V"⟩ : MethodName) jdk_42_method_149_code 6 none :: ws) (own_R 1 4 8 12)) (fun a U => a = #[(.ref a1), (.ref a2), (.int p1), (.int p2), .null] ∧ Z.Warmed39 U.vm ∧ U.heap = h0 ∧ CHv Z own_EL U.vm h0 ∧ ∀ x ∈ ([a1] : List Addr), Safe Z own_EL U.vm h0 x) (fun _ _ _ _ _ => True) (fun _ U o U' => ∃ v L, o = .returned v ∧ own_emp4_Q Z a1 a2 p1 p2  h0 n0 v U'.heap L ∧ CHr Z own_EL U.vm U.heap U'.vm U'.heap ∧ ReturnedEndW U o U' L (own_R 1 4 8 12).cells (own_R 1 4 8 12).slots) := by
  refine MetFree.of_bodySF (plainFor_of_name own_pn1) hisR ?_
  intro p e s m args below meth c s₁ Bd hml0 hP hK
  obtain ⟨rfl, hZ, hh, hCH0, hSf0⟩ := hP
  have hx := Bd.exec
  have hby := Bd.bytes
  have hml : c.maxLocals = 6 := hml0
  have hown : s.vm.findClass "java/lang/String" = some m.cls := findClass_of_methodNamed Bd.named
  have hnm := (name_of_methodNamed Bd.named Bd.method).1
  have hlk : meth.locks = false := BodyLoose.notSynchronized Bd
  have X0 : Stand p l e (own_R 1 4 8 12) (s.setVm s.vm) m #[(.ref a1), (.ref a2), (.int p1), (.int p2), .null] below meth c s₁ [] 0 0 := Stand.of_body Bd
  have e0 : s₁.heap = h0 := by rw [← hh, Bd.state]; rfl
  have N0 := Fr.nil n0
  have K0 : Keep h0 h0 [a1] := Keep.refl h0 [a1]
  show own_Fin p e below (own_PH Z (own_emp4_Q Z a1 a2 p1 p2  h0 n0) s (own_R 1 4 8 12).cells (own_R 1 4 8 12).slots) (s₁.setTop (entryFrame m #[(.ref a1), (.ref a2), (.int p1), (.int p2), .null] 6))
  have hCR0 : CHr Z own_EL (s.setVm s.vm).vm h0 s.vm h0 := CHr.refl hCH0
  have hS0 : s.Since s.vm 0 := (State.WarmedH.refl s).since 0
  have hk0 : 0 ≤ h0.size := Nat.zero_le _
  have hZ : Z.Warmed39 (s.setVm s.vm).vm := hZ
  have hown : (s.setVm s.vm).vm.findClass "java/lang/String" = some m.cls := hown
  refine own_via (g' := s₁.setTop (mkF m 0 #[own_r a1, own_r a2, own_i p1, own_i p2, .val .null, .unset] [])) (fun t k => castTop (ef_own_emp4 m a1 a2 p1 p2) k) ?_
  subst hp2
  refine own_s s₁ m 1 #[own_r a1, own_r a2, own_i p1, own_i 0, .val .null, .unset] [.ref a1] (fun t k => XS.aloadN X0.here hx rfl (hb hby d3_0) rfl (rfl) k) ?_
  obtain ⟨T101, X101, e101, st101⟩ := initO X0 hx hZ hown (own_w hw 15 rfl) (own_w hw 16 rfl) (own_w hw 17 rfl) e0 (g := (mkF m 1 #[own_r a1, own_r a2, own_i p1, own_i 0, .val .null, .unset] [.ref a1])) rfl (by rw [hml]; rfl) rfl (hb hby d3_1) (by decide) (W := 0) (by exact own_ca rfl) (by decide)
  refine own_s T101 m 9 #[own_r a1, own_r a2, own_i p1, own_i 0, .val .null, .unset] [.ref a1] (fun t k => st101 _ (XS.iloadN X101.here hx rfl (hb hby d3_4) rfl (XS.ifNo X101.here hx rfl (hb hby d3_5) rfl (XT.i0_ne_f (by decide)) (XS.aloadN X101.here hx rfl (hb hby d3_8) rfl (rfl) k)))) ?_
  obtain ⟨b102, T102, h102, kS102, d102, kc102, X102, e102, E102, hS102, hk102, hZ, hown, A102, Fc102, Fv102, Va102, -, -, cr102, -, sfx102, st102⟩ := ldcCH X101 hx hZ hown (own_w hw 18 rfl) (own_wS hw) e101 hS0 hk0 (own_hEL hw) (List.mem_of_getElem? (i := 5) rfl) hCR0.1 (vs := []) (z := (0 : Int32)) ⟨by decide, by decide⟩ (by decide) (by decide) (g := (mkF m 9 #[own_r a1, own_r a2, own_i p1, own_i 0, .val .null, .unset] [.ref a1])) rfl (hb hby d3_9) (n := 0) (by decide) (by decide) (by decide) (by decide)
  have Sx102_a1 := CHr.safe cr102 E_a1.lt (hSf0 a1 (List.mem_of_getElem? (i := 0) rfl))
  have nex102_a1 := sfx102 a1 Sx102_a1
  have hCR102 := hCR0.trans cr102
  have Kc102 : Keep h0 h102 [a1] := K0.ext E102
  have V102 : own_Ar Z h102 d102 .byte [] := own_Ar.ofArv Va102 (by decide)
  refine own_s T102 m 11 #[own_r a1, own_r a2, own_i p1, own_i 0, .val .null, .unset] [.ref b102, .ref a1] (fun t k => st102 _ k) ?_
  obtain ⟨T103, X103, e103, st103⟩ := getF X102 hx hZ hown (host := "") (Or.inl (own_w hw 24 rfl)) Via.refl e102 Fv102 (g := (mkF m 11 #[own_r a1, own_r a2, own_i p1, own_i 0, .val .null, .unset] [.ref b102, .ref a1])) rfl rfl (hb hby d3_11)
  refine own_s T103 m 14 #[own_r a1, own_r a2, own_i p1, own_i 0, .val .null, .unset] [.ref d102, .ref a1] (fun t k => st103 _ k) ?_
  obtain ⟨T104, h104, X104, e104, W104, st104⟩ := putF X103 hx hZ hown (host := "") (Or.inl (own_w hw 24 rfl)) Via.refl e103 (Fv.ext E102) (E_a1.ext E102) (Or.inr ⟨(own_w hw 20 rfl), rfl, hnm⟩) (own_w hw 5 rfl) (ty := (.array .byte)) (by decide) rfl rfl (g := (mkF m 14 #[own_r a1, own_r a2, own_i p1, own_i 0, .val .null, .unset] [.ref d102, .ref a1])) rfl rfl (hb hby d3_14)
  have F104 : Fld Z h104 a1 "java/lang/String" "value" "[B" (.ref d102) := (Fv.ext E102).same W104
  have hCR104 := hCR102.trans (CHr.wr W104 Sx102_a1 hCR102.1)
  have Sf104_a1 := Safe.wr W104 Sx102_a1 hCR102.1 Sx102_a1
  have Kc104 : Keep h0 h104 [a1] := Kc102.wr W104 (Or.inl (List.mem_of_getElem? (i := 0) rfl))
  have N104 := Fr.snoc X104 N0 g_a1
  refine own_s T104 m 18 #[own_r a1, own_r a2, own_i p1, own_i 0, .val .null, .unset] [.ref a1] (fun t k => st104 _ (XS.aloadN X104.here hx rfl (hb hby d3_17) rfl (rfl) k)) ?_
  obtain ⟨b105, T105, h105, kS105, d105, kc105, X105, e105, E105, hS105, hk105, hZ, hown, A105, Fc105, Fv105, Va105, -, -, cr105, -, sfx105, st105⟩ := ldcCH X104 hx hZ hown (own_w hw 18 rfl) (own_wS hw) e104 hS102 (Nat.le_trans hk102 (Keep.of_wr W104).1) (own_hEL hw) (List.mem_of_getElem? (i := 5) rfl) hCR104.1 (vs := []) (z := (0 : Int32)) ⟨by decide, by decide⟩ (by decide) (by decide) (g := (mkF m 18 #[own_r a1, own_r a2, own_i p1, own_i 0, .val .null, .unset] [.ref a1])) rfl (hb hby d3_18) (n := 0) (by decide) (by decide) (by decide) (by decide)
  have Sx105_a1 := CHr.safe cr105 ((E_a1.ext E102).wr W104).lt Sf104_a1
  have nex105_a1 := sfx105 a1 Sx105_a1
  have hCR105 := hCR104.trans cr105
  have Kc105 : Keep h0 h105 [a1] := Kc104.ext E105
  have V105 : own_Ar Z h105 d105 .byte [] := own_Ar.ofArv Va105 (by decide)
  refine own_s T105 m 20 #[own_r a1, own_r a2, own_i p1, own_i 0, .val .null, .unset] [.ref b105, .ref a1] (fun t k => st105 _ k) ?_
  obtain ⟨T106, X106, e106, st106⟩ := getF X105 hx hZ hown (host := "") (Or.inl (own_w hw 25 rfl)) Via.refl e105 Fc105 (g := (mkF m 20 #[own_r a1, own_r a2, own_i p1, own_i 0, .val .null, .unset] [.ref b105, .ref a1])) rfl rfl (hb hby d3_20)
  refine own_s T106 m 23 #[own_r a1, own_r a2, own_i p1, own_i 0, .val .null, .unset] [.int 0, .ref a1] (fun t k => st106 _ k) ?_
  obtain ⟨T107, h107, X107, e107, W107, st107⟩ := putFN X106 hx hZ hown (own_w hw 25 rfl) Via.refl e106 (((Fc.ext E102).other W104 (Or.inr (slot_ne (Or.inr (own_w hw 21 rfl)) (Or.inr (own_w hw 20 rfl)) (by decide) (t := .byte) (t' := (.array .byte)) (by decide) (by decide)))).ext E105) (((E_a1.ext E102).wr W104).ext E105) (Or.inr ⟨(own_w hw 21 rfl), rfl, hnm⟩) (own_w hw 5 rfl) (ty := .byte) (v' := (.int 0)) (by decide) rfl rfl (g := (mkF m 23 #[own_r a1, own_r a2, own_i p1, own_i 0, .val .null, .unset] [.int 0, .ref a1])) rfl rfl (hb hby d3_23)
  have F107 : Fld Z h107 a1 "java/lang/String" "coder" "B" (.int 0) := (((Fc.ext E102).other W104 (Or.inr (slot_ne (Or.inr (own_w hw 21 rfl)) (Or.inr (own_w hw 20 rfl)) (by decide) (t := .byte) (t' := (.array .byte)) (by decide) (by decide)))).ext E105).same W107
  have hCR107 := hCR105.trans (CHr.wr W107 Sx105_a1 hCR105.1)
  have Sf107_a1 := Safe.wr W107 Sx105_a1 hCR105.1 Sx105_a1
  have Kc107 : Keep h0 h107 [a1] := Kc105.wr W107 (Or.inl (List.mem_of_getElem? (i := 0) rfl))
  have N107 := Fr.snoc X107 N104 g_a1
  refine own_s T107 m 26 #[own_r a1, own_r a2, own_i p1, own_i 0, .val .null, .unset] [] (fun t k => st107 _ k) ?_
  have eE : T107.heap = h107 := e107
  exact own_retVH X107 hS105 (by rw [(e107 : T107.heap = h107)]; exact (Nat.le_trans hk105 (Keep.of_wr W107).1)) hx hlk Bd.returns (hb hby d3_26) (hCR := (by rw [hh, (e107 : T107.heap = h107)]; exact hCR107.trans (CHv.at X107 hZ (own_hEL hw) hCR107.1))) ⟨rfl, N107, (by rw [eE]; exact Kc107), (by rw [eE]; exact ((((E_a1.ext E102).wr W104).ext E105).wr W107)), (by rw [eE]; exact F107), d102, (by rw [eE]; exact ((F104.ext E105).other W107 (Or.inr (slot_ne (Or.inr (own_w hw 20 rfl)) (Or.inr (own_w hw 21 rfl)) (by decide) (t := (.array .byte)) (t' := .byte) (by decide) (by decide))))), (by rw [eE]; exact (((V102.other W104 (Ne.symm nex102_a1.2)).ext E105).other W107 (Ne.symm nex102_a1.2)))⟩ (by decide) (by decide)
theorem ef_own_emp1 (m : MethodId) (a1 : Addr) (a2 : Addr) : entryFrame m #[(.ref a1), (.ref a2)] 2 = mkF m 0 #[own_r a1, own_r a2] [] := by first | (simp [entryFrame, mkF, argsToLocals, Value.category]; done) | rfl
def own_emp1_Q (Z : State) (a1 : Addr) (a2 : Addr)  (h0 : Heap) (n0 : Nat) (v : Option Value) (h : Heap) (L : List Loc) : Prop := v = none ∧ Fr n0 L ∧ Keep h0 h [a1] ∧ Exa Z h a1 "java/lang/String" ∧ Fld Z h a1 "java/lang/String" "coder" "B" (.int 0) ∧ ∃ d : Addr, Fld Z h a1 "java/lang/String" "value" "[B" (.ref d) ∧ own_Ar Z h d .byte (([] : List Int32).map Value.int)
set_option maxRecDepth 65536 in
set_option maxHeartbeats 40000000 in
theorem own_emp1 (l : Launch) (Z : State) (a0 : Array Value) (hw : ∀ d ∈ tables_1, d.before a0 Z = true) (ws : List Jvm.Cond) (a1 : Addr) (a2 : Addr)  (h0 : Heap) (n0 : Nat) (Z0 : n0 ≤ h0.size) (E_a1 : Exa Z h0 a1 "java/lang/String") (Fc : Fld Z h0 a1 "java/lang/String" "coder" "B" (.int 0)) (Fv : Fld Z h0 a1 "java/lang/String" "value" "[B" .null) (g_a1 : n0 ≤ a1) (A_a2 : own_Ar Z h0 a2 .char []) :
    MetFree l (⟨"java/lang/String", "<init>", "([C)V"⟩ : MethodName) (head1 (Jvm.Cond.code (⟨"java/lang/String", "<init>", "([C)V"⟩ : MethodName) jdk_42_method_3_code 2 none :: ws) (own_R 2 4 8 29)) (fun a U => a = #[(.ref a1), (.ref a2)] ∧ Z.Warmed39 U.vm ∧ U.heap = h0 ∧ CHv Z own_EL U.vm h0 ∧ ∀ x ∈ ([a1] : List Addr), Safe Z own_EL U.vm h0 x) (fun _ _ _ _ _ => True) (fun _ U o U' => ∃ v L, o = .returned v ∧ own_emp1_Q Z a1 a2  h0 n0 v U'.heap L ∧ CHr Z own_EL U.vm U.heap U'.vm U'.heap ∧ ReturnedEndW U o U' L (own_R 2 4 8 29).cells (own_R 2 4 8 29).slots) := by
  refine MetFree.of_bodySF (plainFor_of_name own_pn1) hisR ?_
  intro p e s m args below meth c s₁ Bd hml0 hP hK
  obtain ⟨rfl, hZ, hh, hCH0, hSf0⟩ := hP
  have hx := Bd.exec
  have hby := Bd.bytes
  have hml : c.maxLocals = 2 := hml0
  have hown : s.vm.findClass "java/lang/String" = some m.cls := findClass_of_methodNamed Bd.named
  have hnm := (name_of_methodNamed Bd.named Bd.method).1
  have hlk : meth.locks = false := BodyLoose.notSynchronized Bd
  have X0 : Stand p l e (own_R 2 4 8 29) (s.setVm s.vm) m #[(.ref a1), (.ref a2)] below meth c s₁ [] 0 0 := Stand.of_body Bd
  have e0 : s₁.heap = h0 := by rw [← hh, Bd.state]; rfl
  have N0 := Fr.nil n0
  have K0 : Keep h0 h0 [a1] := Keep.refl h0 [a1]
  show own_Fin p e below (own_PH Z (own_emp1_Q Z a1 a2  h0 n0) s (own_R 2 4 8 29).cells (own_R 2 4 8 29).slots) (s₁.setTop (entryFrame m #[(.ref a1), (.ref a2)] 2))
  have hCR0 : CHr Z own_EL (s.setVm s.vm).vm h0 s.vm h0 := CHr.refl hCH0
  have hS0 : s.Since s.vm 0 := (State.WarmedH.refl s).since 0
  have hk0 : 0 ≤ h0.size := Nat.zero_le _
  have hZ : Z.Warmed39 (s.setVm s.vm).vm := hZ
  have hown : (s.setVm s.vm).vm.findClass "java/lang/String" = some m.cls := hown
  refine own_via (g' := s₁.setTop (mkF m 0 #[own_r a1, own_r a2] [])) (fun t k => castTop (ef_own_emp1 m a1 a2) k) ?_
  refine own_s s₁ m 4 #[own_r a1, own_r a2] [.ref a2, .int 0, .ref a2, .ref a1] (fun t k => XS.aloadN X0.here hx rfl (hb hby d2_0) rfl (rfl) (XS.aloadN X0.here hx rfl (hb hby d2_1) rfl (rfl) (XS.iconst X0.here hx rfl (hb hby d2_2) (XS.aloadN X0.here hx rfl (hb hby d2_3) rfl (rfl) k)))) ?_
  refine own_s s₁ m 6 #[own_r a1, own_r a2] [.null, .int 0, .int 0, .ref a2, .ref a1] (fun t k => own_len X0 hx hZ e0 A_a2 (n := (0 : Int32)) rfl (g := (mkF m 4 #[own_r a1, own_r a2] [.ref a2, .int 0, .ref a2, .ref a1])) rfl rfl (hb hby d2_4) _ (XS.aconstNull X0.here hx rfl (hb hby d2_5) k)) ?_
  obtain ⟨v101, _, ⟨T101, L101, k101, n101⟩, -, X101, sS101, gS101, ⟨Lc101, hQ101, l101, y101, z101, cr101⟩, st101⟩ := X0.specialBackS hx (y := own_n3) rfl hown (mvT hZ (own_w hw 11 rfl)) (mvT hZ (own_w hw 12 rfl)) (mvT hZ (own_w hw 14 rfl)) (by decide) (own_backH (W := 0) (own_emp4 l Z a0 hw [] a1 a2 (0 : Int32) (0 : Int32) h0 n0 (Nat.le_trans Z0 K0.1) E_a1 Fc Fv g_a1 rfl) hZ (own_w hw 14 rfl) (own_w hw 6 rfl) (by decide) (by decide) (own_hEL hw) hCR0.1 (allS ⟨E_a1.lt, (hSf0 a1 (List.mem_of_getElem? (i := 0) rfl))⟩ all0)) (g := (mkF m 6 #[own_r a1, own_r a2] [.null, .int 0, .int 0, .ref a2, .ref a1])) rfl (by rw [hml]; rfl) (Steps.refl _) (a := a1) (argsL := [.ref a2, .int 0, .int 0, .null]) (rest := []) (lenOf own_pd3 rfl) rfl (by exact own_ca rfl) (hb hby d2_6) (fun _ _ => ⟨rfl, e0, (by decide : 0 + 4 ≤ _), (by decide : 0 + 8 ≤ _)⟩)
  dsimp only [Pt.U, Pt.locs, Pt.cells, Pt.slots] at X101 l101 y101 z101 st101 hQ101 sS101 gS101 cr101
  subst l101 y101 z101
  obtain ⟨X101, hS101, hZ, hown⟩ := rebS hS0 (by rw [(e0 : s₁.heap = h0)]; exact hk0) X101 sS101 gS101 hZ hown
  have Sx101_a1 := CHr.safe cr101 E_a1.lt (hSf0 a1 (List.mem_of_getElem? (i := 0) rfl))
  have hCR101 := hCR0.trans cr101
  obtain ⟨rfl, N101q, K101, A101, Fc101, d101, Fv101, V101⟩ := hQ101
  have Kc101 : Keep h0 T101.heap [a1] := K0.trans K101 (allS (Or.inl (List.mem_of_getElem? (i := 0) rfl)) all0)
  have N101 := Fr.app N0 N101q
  refine own_s T101 m 9 #[own_r a1, own_r a2] [] (fun t k => st101.trans k) ?_
  have eE : T101.heap = T101.heap := rfl
  exact own_retVH X101 hS101 (by rw [(rfl : T101.heap = T101.heap)]; exact (Nat.le_of_eq (congrArg Array.size (rfl : T101.heap = T101.heap)))) hx hlk Bd.returns (hb hby d2_9) (hCR := (by rw [hh, (rfl : T101.heap = T101.heap)]; exact hCR101.trans (CHv.at X101 hZ (own_hEL hw) hCR101.1))) ⟨rfl, N101, (by rw [eE]; exact Kc101), (by rw [eE]; exact A101), (by rw [eE]; exact Fc101), d101, (by rw [eE]; exact Fv101), (by rw [eE]; exact V101)⟩ (by decide) (by decide)
def own_host (n c0 c1 c2 : Int32) : List Int32 := if n = 0 then [] else if n = 1 then [own_b8 c0] else if n = 2 then [own_b8 c0, own_b8 c1] else [own_b8 c0, own_b8 c1, own_b8 c2]
def own_br (n c0 c1 c2 : Int32) : Int32 := if n < 1 then 0 else if c0 = 58 then 1 else if n < 2 then 0 else if c1 = 58 then 1 else if n < 3 then 0 else if c2 = 58 then 1 else 0
def own_dl (db : Int32) : Nat := if db = 0 then 0 else 1 + own_sz db
theorem own_and3 (x : Int32) : x &&& 3 = 0 ∨ x &&& 3 = 1 ∨ x &&& 3 = 2 ∨ x &&& 3 = 3 := by
  have b := c_and x 3 (by decide)
  have e : (3 : Int32).toInt = 3 := rfl
  rw [e] at b
  have h : (x &&& 3).toInt = 0 ∨ (x &&& 3).toInt = 1 ∨ (x &&& 3).toInt = 2 ∨ (x &&& 3).toInt = 3 := by omega
  rcases h with h | h | h | h
  · exact Or.inl (Int32.toInt_inj.mp h)
  · exact Or.inr (Or.inl (Int32.toInt_inj.mp h))
  · exact Or.inr (Or.inr (Or.inl (Int32.toInt_inj.mp h)))
  · exact Or.inr (Or.inr (Or.inr (Int32.toInt_inj.mp h)))
theorem own_narr {r : Int32} (h : ¬ (255 : Int32) < r) (z : ¬ r < 0) : nar .char r = r := by
  show r.toUInt32.toUInt16.toUInt32.toInt32 = r
  apply Int32.toInt_inj.mp
  have a := c_i2c r
  rw [Int32.lt_iff_toInt_lt] at h z
  have e1 : (255 : Int32).toInt = 255 := rfl
  have e0 : (0 : Int32).toInt = 0 := rfl
  omega
theorem own_b8i (c : Int32) : ((own_b8 c).toInt - c.toInt) % 256 = 0 ∧ -128 ≤ (own_b8 c).toInt ∧ (own_b8 c).toInt < 128 := by
  show ((c.toInt8.toInt32.toInt8.toInt32).toInt - c.toInt) % 256 = 0 ∧ -128 ≤ (c.toInt8.toInt32.toInt8.toInt32).toInt ∧ (c.toInt8.toInt32.toInt8.toInt32).toInt < 128
  have a := c_i2b c
  have b := c_i2b c.toInt8.toInt32
  omega
theorem own_c8b {c : Int32} (h : ¬ (255 : Int32) < c) (z : ¬ c < 0) : own_c8 (own_b8 c) = c := by
  have a := own_b8i c
  rw [Int32.lt_iff_toInt_lt] at h z
  have e1 : (255 : Int32).toInt = 255 := rfl
  have e0 : (0 : Int32).toInt = 0 := rfl
  apply Int32.toInt_inj.mp
  show (own_b8 c &&& 255).toUInt32.toUInt16.toUInt32.toInt32.toInt = _
  have p := c_i2c (own_b8 c &&& 255)
  have q := c_mask (own_b8 c) 255 8 (by decide) rfl
  have q' : (own_b8 c &&& 255).toInt = (own_b8 c).toInt % 256 := q
  omega
theorem own_b58 {c : Int32} (h : ¬ (255 : Int32) < c) (z : ¬ c < 0) : own_b8 c = 58 ↔ c = 58 := by
  have a := own_b8i c
  rw [Int32.lt_iff_toInt_lt] at h z
  have e1 : (255 : Int32).toInt = 255 := rfl
  have e0 : (0 : Int32).toInt = 0 := rfl
  have e2 : (58 : Int32).toInt = 58 := rfl
  constructor
  · intro q
    apply Int32.toInt_inj.mp
    rw [q] at a
    omega
  · intro q
    apply Int32.toInt_inj.mp
    rw [q] at a ⊢
    omega
theorem own_lt12 {n : Int32} (h : n < 1) : n < 2 := by
  rw [Int32.lt_iff_toInt_lt] at h ⊢
  have e1 : (1 : Int32).toInt = 1 := rfl
  have e2 : (2 : Int32).toInt = 2 := rfl
  omega
theorem own_lt23 {n : Int32} (h : n < 2) : n < 3 := by
  rw [Int32.lt_iff_toInt_lt] at h ⊢
  have e1 : (2 : Int32).toInt = 2 := rfl
  have e2 : (3 : Int32).toInt = 3 := rfl
  omega
theorem own_ch0 : ∀ c ∈ ([] : List Int32), ¬ (255 : Int32) < c := fun _ q => nomatch q
theorem own_chS {x : Int32} {L : List Int32} (h : ¬ (255 : Int32) < x) (q : ∀ c ∈ L, ¬ (255 : Int32) < c) : ∀ c ∈ x :: L, ¬ (255 : Int32) < c := fun c hc => (List.mem_cons.mp hc).elim (fun e => by rw [e]; exact h) (q c)
theorem own_byS {c : Int32} {L : List Int32} (q : own_by L) : own_by (own_b8 c :: L) := fun x hx => (List.mem_cons.mp hx).elim (fun e => by rw [e]; exact fits_nar_byte c.toInt8.toInt32) (q x)
theorem own_hostF {n c0 c1 c2 : Int32} {H : List Int32} (hH : H = own_host n c0 c1 c2) (hn : n = 0 ∨ n = 1 ∨ n = 2 ∨ n = 3) (l0 : ¬ (255 : Int32) < c0) (z0 : ¬ c0 < 0) (l1 : ¬ (255 : Int32) < c1) (z1 : ¬ c1 < 0) (l2 : ¬ (255 : Int32) < c2) (z2 : ¬ c2 < 0) :
    own_by H ∧ H.length ≤ 3 ∧ n = H.length.toInt32 ∧ (¬ n < 1 → H[0]? = some (own_b8 c0)) ∧ (¬ n < 2 → H[1]? = some (own_b8 c1)) ∧ (¬ n < 3 → H[2]? = some (own_b8 c2)) ∧ own_has H = own_br n c0 c1 c2 := by
  have b0 := own_b58 l0 z0
  have b1 := own_b58 l1 z1
  have b2 := own_b58 l2 z2
  rcases hn with rfl | rfl | rfl | rfl
  · have e : own_br 0 c0 c1 c2 = 0 := by rw [own_br, if_pos (by decide : (0 : Int32) < 1)]
    rw [own_host, if_pos (rfl : (0 : Int32) = 0)] at hH
    subst hH
    rw [e]
    exact ⟨(fun _ q => nomatch q), Nat.zero_le _, rfl, fun q => absurd (by decide) q, fun q => absurd (by decide) q, fun q => absurd (by decide) q, by decide +kernel⟩
  · have e : own_br 1 c0 c1 c2 = if c0 = 58 then 1 else 0 := by rw [own_br, if_neg (by decide : ¬ (1 : Int32) < 1), if_pos (by decide : (1 : Int32) < 2)]
    rw [own_host, if_neg (by decide : ¬ (1 : Int32) = 0), if_pos (rfl : (1 : Int32) = 1)] at hH
    subst hH
    rw [e]
    refine ⟨own_byS (fun _ q => nomatch q), by show 1 ≤ 3; decide, rfl, fun _ => rfl, fun q => absurd (by decide) q, fun q => absurd (by decide) q, ?_⟩
    by_cases h0 : c0 = 58
    · (rw [own_has, own_fi, if_pos (b0.mpr h0), if_pos h0]) <;> first | rfl | decide
    · (rw [own_has, own_fi, if_neg (fun q => h0 (b0.mp q)), if_neg h0]) <;> first | rfl | decide
  · have e : own_br 2 c0 c1 c2 = if c0 = 58 then 1 else if c1 = 58 then 1 else 0 := by rw [own_br, if_neg (by decide : ¬ (2 : Int32) < 1), if_neg (by decide : ¬ (2 : Int32) < 2), if_pos (by decide : (2 : Int32) < 3)]
    rw [own_host, if_neg (by decide : ¬ (2 : Int32) = 0), if_neg (by decide : ¬ (2 : Int32) = 1), if_pos (rfl : (2 : Int32) = 2)] at hH
    subst hH
    rw [e]
    refine ⟨own_byS (own_byS (fun _ q => nomatch q)), by show 2 ≤ 3; decide, rfl, fun _ => rfl, fun _ => rfl, fun q => absurd (by decide) q, ?_⟩
    by_cases h0 : c0 = 58
    · (rw [own_has, own_fi, if_pos (b0.mpr h0), if_pos h0]) <;> first | rfl | decide
    · by_cases h1 : c1 = 58
      · (rw [own_has, own_fi, if_neg (fun q => h0 (b0.mp q)), if_pos (b1.mpr h1), if_neg h0, if_pos h1]) <;> first | rfl | decide
      · (rw [own_has, own_fi, if_neg (fun q => h0 (b0.mp q)), if_neg (fun q => h1 (b1.mp q)), if_neg h0, if_neg h1]) <;> first | rfl | decide
  · have e : own_br 3 c0 c1 c2 = if c0 = 58 then 1 else if c1 = 58 then 1 else if c2 = 58 then 1 else 0 := by rw [own_br, if_neg (by decide : ¬ (3 : Int32) < 1), if_neg (by decide : ¬ (3 : Int32) < 2), if_neg (by decide : ¬ (3 : Int32) < 3)]
    rw [own_host, if_neg (by decide : ¬ (3 : Int32) = 0), if_neg (by decide : ¬ (3 : Int32) = 1), if_neg (by decide : ¬ (3 : Int32) = 2)] at hH
    subst hH
    rw [e]
    refine ⟨own_byS (own_byS (own_byS (fun _ q => nomatch q))), by show 3 ≤ 3; decide, rfl, fun _ => rfl, fun _ => rfl, fun _ => rfl, ?_⟩
    by_cases h0 : c0 = 58
    · (rw [own_has, own_fi, if_pos (b0.mpr h0), if_pos h0]) <;> first | rfl | decide
    · by_cases h1 : c1 = 58
      · (rw [own_has, own_fi, if_neg (fun q => h0 (b0.mp q)), if_pos (b1.mpr h1), if_neg h0, if_pos h1]) <;> first | rfl | decide
      · by_cases h2 : c2 = 58
        · (rw [own_has, own_fi, if_neg (fun q => h0 (b0.mp q)), if_neg (fun q => h1 (b1.mp q)), if_pos (b2.mpr h2), if_neg h0, if_neg h1, if_pos h2]) <;> first | rfl | decide
        · (rw [own_has, own_fi, if_neg (fun q => h0 (b0.mp q)), if_neg (fun q => h1 (b1.mp q)), if_neg (fun q => h2 (b2.mp q)), if_neg h0, if_neg h1, if_neg h2]) <;> first | rfl | decide
theorem own_zkv {zk : Nat} (h : zk ≤ 1) (q : ¬ zk.toInt32 = 0) : zk = 1 := by
  have e : zk = 0 ∨ zk = 1 := by omega
  rcases e with rfl | rfl
  · exact absurd rfl q
  · rfl
theorem own_zkw {zk : Nat} (h : zk ≤ 1) (q : ¬ zk.toInt32 = 0) : zk.toInt32 = 1 := by
  obtain rfl := own_zkv h q
  rfl
theorem own_addS (a b : Nat) : a.toInt32 + b.toInt32 = (a + b).toInt32 := (Int32.ofNat_add a b).symm
theorem own_add2 (i : Nat) : i.toInt32 + 2 = (i + 2).toInt32 := (Int32.ofNat_add i 2).symm
theorem own_nn1 {n : Int32} {a : Nat} (h : n = a.toInt32) : n + 1 = (a + 1).toInt32 := by rw [h]; exact own_succS a
theorem own_hlE {n : Int32} {a zk SL : Nat} (h : n = a.toInt32) (hz : zk ≤ 1) (q : SL = a + 2 * zk) : n + 2 * zk.toInt32 = SL.toInt32 := by
  subst h q
  have e : zk = 0 ∨ zk = 1 := by omega
  rcases e with rfl | rfl
  · rw [show (2 : Int32) * (0 : Nat).toInt32 = (0 : Nat).toInt32 from by decide]; exact own_addS a 0
  · rw [show (2 : Int32) * (1 : Nat).toInt32 = (2 : Nat).toInt32 from by decide]; exact own_addS a 2
theorem own_dlE1 {db : Int32} (h : db = 0) : (own_dl db).toInt32 = 0 := by (rw [own_dl, if_pos h]) <;> rfl
theorem own_dlE2 {db : Int32} (h : ¬ db = 0) : (own_dl db).toInt32 = 1 + (own_sz db).toInt32 := by rw [own_dl, if_neg h]; exact (own_addS 1 (own_sz db)).symm
theorem own_sumE {RS : List Int32} {SL a b : Nat} (h : RS.length = SL + 1 + a + b) : (RS.map Value.int).length.toInt32 = ((SL.toInt32 + 1) + a.toInt32) + b.toInt32 := by
  rw [List.length_map, h, ← own_addS, ← own_addS, ← own_succS]
theorem own_cAt {RS H : List Int32} {zk k : Nat} {x : Int32} (h : ∀ k, k < H.length → RS[zk + k]? = H[k]?) (q : H[k]? = some x) : RS[zk + k]? = some x := (h k (List.getElem?_eq_some_iff.mp q).1).trans q
theorem own_getA {A B : List Int32} {n i : Nat} (h : A.length = n) : (A ++ B)[n + i]? = B[i]? := by
  rw [List.getElem?_append_right (by omega), h, Nat.add_sub_cancel_left]
theorem own_getL {A B : List Int32} {i : Nat} (h : i < A.length) : (A ++ B)[i]? = A[i]? := List.getElem?_append_left h
theorem own_facts (H : List Int32) (po db : Int32) (h3 : H.length ≤ 3) : ∃ (RS : List Int32) (SL zk : Nat), own_str H po db = RS ∧ own_has H = zk.toInt32 ∧ zk ≤ 1 ∧ SL = H.length + 2 * zk ∧ RS.length = SL + 1 + own_sz po + own_dl db ∧ RS.length < 2147483648 ∧
    (zk = 1 → RS[0]? = some 91) ∧ (zk = 1 → RS[H.length + 1]? = some 93) ∧ (∀ k, k < H.length → RS[zk + k]? = H[k]?) ∧ RS[SL]? = some 58 ∧ (∀ i, i < own_sz po → RS[SL + 1 + i]? = (own_dec po)[i]?) ∧
    (¬ db = 0 → RS[SL + 1 + own_sz po]? = some 47) ∧ (¬ db = 0 → ∀ i, i < own_sz db → RS[SL + 2 + own_sz po + i]? = (own_dec db)[i]?) := by
  have hp := own_szr po
  have hd := own_szr db
  have hdl : own_dl db ≤ 12 := by unfold own_dl; split <;> omega
  obtain ⟨SH, eSH⟩ : ∃ q, q = own_shown H := ⟨_, rfl⟩
  obtain ⟨DD, eDD⟩ : ∃ q, q = (if db = 0 then [] else [(47 : Int32)] ++ own_dec db) := ⟨_, rfl⟩
  have lD : DD.length = own_dl db := by
    by_cases h : db = 0
    · (rw [eDD, own_dl, if_pos h, if_pos h]) <;> rfl
    · (rw [eDD, own_dl, if_neg h, if_neg h, List.length_append, own_dec_len]) <;> rfl
  obtain ⟨zk, ez, hz, hl, h91, h93, hH⟩ : ∃ zk : Nat, own_has H = zk.toInt32 ∧ zk ≤ 1 ∧ SH.length = H.length + 2 * zk ∧ (zk = 1 → SH[0]? = some 91) ∧ (zk = 1 → SH[H.length + 1]? = some 93) ∧ (∀ k, k < H.length → SH[zk + k]? = H[k]?) := by
    by_cases h : own_has H = 0
    · refine ⟨0, h, by omega, ?_, fun q => absurd q (by decide), fun q => absurd q (by decide), fun k _ => ?_⟩
      · (rw [eSH, own_shown, if_pos h]) <;> omega
      · rw [eSH, own_shown, if_pos h, Nat.zero_add]
    · refine ⟨1, ?_, by omega, ?_, fun _ => ?_, fun _ => ?_, fun k hk => ?_⟩
      · have q : ∀ z : Int32, z = own_has H → ¬ z = 0 → z = 1 := fun z e n => by
          rw [own_has] at e
          split at e
          · exact absurd e n
          · exact e
        exact q _ rfl h
      · rw [eSH, own_shown, if_neg h, List.length_append, List.length_append]; simp only [List.length_cons, List.length_nil]; omega
      · (rw [eSH, own_shown, if_neg h]) <;> rfl
      · have e : ([(91 : Int32)] ++ H).length = H.length + 1 := by rw [List.length_append]; simp only [List.length_cons, List.length_nil]; omega
        rw [eSH, own_shown, if_neg h]
        exact own_getA (i := 0) e
      · have e : ([(91 : Int32)] ++ H).length = H.length + 1 := by rw [List.length_append]; simp only [List.length_cons, List.length_nil]; omega
        rw [eSH, own_shown, if_neg h, own_getL (by omega)]
        exact own_getA (n := 1) rfl
  have l1 : (SH ++ [(58 : Int32)]).length = SH.length + 1 := by (rw [List.length_append]) <;> rfl
  have l2 : ((SH ++ [(58 : Int32)]) ++ own_dec po).length = SH.length + 1 + own_sz po := by rw [List.length_append, l1, own_dec_len]
  have l3 : (((SH ++ [(58 : Int32)]) ++ own_dec po) ++ DD).length = SH.length + 1 + own_sz po + own_dl db := by rw [List.length_append, l2, lD]
  have g1 : ∀ i, i < SH.length → (((SH ++ [(58 : Int32)]) ++ own_dec po) ++ DD)[i]? = SH[i]? := fun i hi => by
    rw [own_getL (by omega), own_getL (by omega), own_getL hi]
  refine ⟨((SH ++ [(58 : Int32)]) ++ own_dec po) ++ DD, SH.length, zk, ?_, ez, hz, hl, l3, by omega, fun q => ?_, fun q => ?_, fun k hk => ?_, ?_, fun i hi => ?_, fun q => ?_, fun q i hi => ?_⟩
  · rw [own_str, eSH, eDD]
  · rw [g1 0 (by omega)]; exact h91 q
  · rw [g1 _ (by omega)]; exact h93 q
  · rw [g1 _ (by omega)]; exact hH k hk
  · rw [own_getL (by omega), own_getL (by omega)]; exact own_getA (n := SH.length) (i := 0) rfl
  · rw [own_getL (by omega)]; exact own_getA l1
  · have e := own_getA (B := DD) (i := 0) l2
    rw [Nat.add_zero] at e
    (rw [e, eDD, if_neg q]) <;> rfl
  · have e := own_getA (B := DD) (i := 1 + i) l2
    have e2 : SH.length + 2 + own_sz po + i = SH.length + 1 + own_sz po + (1 + i) := by omega
    rw [e2, e, eDD, if_neg q]
    exact own_getA (n := 1) rfl

theorem own_lenU {args : Array Value} {s : State} {t : Term} {n : Int32} {a : Addr} {cell : Cell} (h : (Cond.eq (.length t) (.int n)).before args s = true) (ht : t.eval args s none [] s = some (.ref a)) (hc : s.heap[a]? = some cell) : cell.vm ≠ .unknown := fun q => by
  have h' : (Cond.eq (.length t) (.int n)).holds args s none s [] = true := h
  have hat : s.arrayAt? a = none := by simp [State.arrayAt?, hc, q]
  simp [Cond.holds, Cond.value, Term.eval, ht, hat] at h'
theorem own_DGstart {args a0 : Array Value} {s : State} {CC f : String} {t : Term} (g : Nat → Nat) (hi : (Cond.initializedFor CC f "[B").before args s = true) (he : (Cond.exactly (.static CC f "[B") "[B").before args s = true) (hac : (Cond.arrayClass .byte).before a0 s = true)
    (hl : (Cond.eq (.length (.static CC f "[B")) (.int 100)).before args s = true) (hall : (Cond.all (.static CC f "[B") (.eq (.elem (.static CC f "[B") (.index 0)) t)).before args s = true) (ht : ∀ i, i < 100 → t.eval args s none [i] s = some (.int (own_dg (g i)))) :
    ∃ (o : Addr) (D : List Value), Sta s s.heap CC f "[B" (.ref o) ∧ own_Ar s s.heap o .byte D ∧ ∀ i, i < 100 → D[i]? = some (.int (own_dg (g i))) := by
  obtain ⟨x, c', cell, k, e1, e2, e3, e4, e5, rfl, e7⟩ := Cond.exactly_spec (show (Cond.exactly (.static CC f "[B") "[B").holds args s none s [] = true from he)
  obtain ⟨cA, kA, comp, h1, h2, h3⟩ := Cond.arrayClass_spec hac
  have h1' : s.vm.findClass "[B" = some cA := h1
  obtain rfl : cA = cell.cls := Option.some.inj (h1'.symm.trans e2)
  have hvm := own_lenU hl e1 e3
  have A : Arr s s.heap x cell .byte := ⟨e3, ⟨(fun k q => by rw [q] at e5; cases e5), kA, h2, comp, h3⟩, hvm⟩
  have hat : s.arrayAt? x = some cell := A.fin (Vm.Alike.refl _)
  obtain ⟨hz, hs⟩ := Jvm.Free.IntBox.length_fwd hl e1 A.1 A.2.1 A.2.2
  have h100 : cell.slots.size = 100 := by
    have q := congrArg Int32.toInt hs
    rw [len_toInt hz] at q
    have : (100 : Int32).toInt = 100 := rfl
    omega
  have el := Cond.all_elim e1 hat (Cond.before_iff.mp hall)
  refine ⟨x, cell.slots.toList, Sta.start e1 (Or.inl hi), ⟨cell, A, rfl⟩, fun i hi => ?_⟩
  have q := eqv_i (ht i hi) (el i (by omega))
  have hin := elem_in q (show (Term.static CC f "[B").eval args s none [i] s = some (.ref x) from e1) (Term.index_eval i) e3
  rw [own_ixS (by omega)] at hin
  rw [Array.getElem?_toList]
  exact hin.2
theorem own_dgR (i : Nat) (h : i < 100) : (48 : Int32) + i.toInt32 % 10 = own_dg (i % 10) := (by decide +kernel : ∀ k : Fin 100, (48 : Int32) + k.val.toInt32 % 10 = own_dg (k.val % 10)) ⟨i, h⟩
theorem own_dgD (i : Nat) (h : i < 100) : (48 : Int32) + i.toInt32 / 10 = own_dg (i / 10) := (by decide +kernel : ∀ k : Fin 100, (48 : Int32) + k.val.toInt32 / 10 = own_dg (k.val / 10)) ⟨i, h⟩
theorem own_adde {args : Array Value} {s : State} {idx : List Nat} {a b : Term} {x y z : Int32} (ha : a.eval args s none idx s = some (.int x)) (hb : b.eval args s none idx s = some (.int y)) (hz : x + y = z) : (Term.add a b).eval args s none idx s = some (.int z) := by simp [Term.eval, ha, hb, hz]

theorem own_pd40 : parseMethodDescriptor "(C)Ljava/lang/String;" = some ⟨[.char], some (.object "java/lang/String")⟩ := by decide +kernel
theorem own_pd41 : parseMethodDescriptor "(Ljava/lang/String;ILjava/lang/String;Ljava/lang/String;I)V" = some ⟨[(.object "java/lang/String"), .int, (.object "java/lang/String"), (.object "java/lang/String"), .int], none⟩ := by decide +kernel
theorem own_pd42 : parseMethodDescriptor "(Ljava/lang/String;II)Z" = some ⟨[(.object "java/lang/String"), .int, .int], some .boolean⟩ := by decide +kernel
theorem own_pd43 : parseMethodDescriptor "([C)V" = some ⟨[(.array .char)], none⟩ := by decide +kernel
theorem ef_own_rm0 (m : MethodId) (i0 : Int32) (i1 : Int32) (i2 : Int32) (i3 : Int32) : entryFrame m #[(.int i0), (.int i1), (.int i2), (.int i3)] maxLocals = mkF m 0 #[own_i i0, own_i i1, own_i i2, own_i i3, .unset, .unset, .unset, .unset, .unset, .unset, .unset, .unset, .unset, .unset, .unset, .unset, .unset] [] := by first | (simp [entryFrame, mkF, argsToLocals, Value.category, maxLocals]; done) | rfl
def own_rm0_Q (Z : State) (i0 : Int32) (i1 : Int32) (i2 : Int32) (i3 : Int32) (cs : Int32) (wf : Value) (o1 : Addr) (o2 : Addr) (D1 : List Value) (D2 : List Value) (h0 : Heap) (n0 : Nat) (v : Option Value) (h : Heap) (L : List Loc) : Prop := v = some (.int 1) ∧ Fr n0 L
set_option maxRecDepth 65536 in
set_option maxHeartbeats 40000000 in
theorem own_rm0 (l : Launch) (Z : State) (a0 : Array Value) (hw : ∀ d ∈ tables_1, d.before a0 Z = true) (ws : List Jvm.Cond) (i0 : Int32) (i1 : Int32) (i2 : Int32) (i3 : Int32) (cs : Int32) (wf : Value) (o1 : Addr) (o2 : Addr) (D1 : List Value) (D2 : List Value) (h0 : Heap) (n0 : Nat) (Z0 : n0 ≤ h0.size) (CS : Sta Z h0 "java/lang/String" "COMPACT_STRINGS" "Z" (.int cs)) (hcs : ¬ cs = 0) (SF : Sta Z h0 "jdk/internal/util/Preconditions" "SIOOBE_FORMATTER" "Ljava/util/function/BiFunction;" wf) (hfr : wf.isRef = true) (S1 : Sta Z h0 "java/lang/Integer" "DigitOnes" "[B" (.ref o1)) (S2 : Sta Z h0 "java/lang/Integer" "DigitTens" "[B" (.ref o2)) (O1 : own_Ar Z h0 o1 .byte D1) (O2 : own_Ar Z h0 o2 .byte D2) (hD1 : ∀ i, i < 100 → D1[i]? = some (.int (own_dg (i % 10)))) (hD2 : ∀ i, i < 100 → D2[i]? = some (.int (own_dg (i / 10)))) :
    MetFree l x (head1 (Jvm.Cond.code x code maxLocals ret :: ws) room_1) (fun a U => a = #[(.int i0), (.int i1), (.int i2), (.int i3)] ∧ Z.Warmed39 U.vm ∧ U.heap = h0 ∧ CHv Z own_EL U.vm h0 ∧ ∀ x ∈ ([] : List Addr), Safe Z own_EL U.vm h0 x) (fun _ _ _ _ _ => True) (fun _ U o U' => ∃ v L, o = .returned v ∧ own_rm0_Q Z i0 i1 i2 i3 cs wf o1 o2 D1 D2 h0 n0 v U'.heap L ∧ CHr Z own_EL U.vm U.heap U'.vm U'.heap ∧ ReturnedEndW U o U' L room_1.cells room_1.slots) := by
  refine MetFree.of_bodySF (plainFor_of_name own_pn10) hisR ?_
  intro p e s m args below meth c s₁ Bd hml0 hP hK
  obtain ⟨rfl, hZ, hh, hCH0, hSf0⟩ := hP
  have hx := Bd.exec
  have hby := Bd.bytes
  have hml : c.maxLocals = 17 := hml0
  have hown : s.vm.findClass "com/example/holdfast/holdfast/store/RedisAddressToStringPinLaw" = some m.cls := findClass_of_methodNamed Bd.named
  have hnm := (name_of_methodNamed Bd.named Bd.method).1
  have hlk : meth.locks = false := BodyLoose.notSynchronized Bd
  have X0 : Stand p l e room_1 (s.setVm s.vm) m #[(.int i0), (.int i1), (.int i2), (.int i3)] below meth c s₁ [] 0 0 := Stand.of_body Bd
  have e0 : s₁.heap = h0 := by rw [← hh, Bd.state]; rfl
  have N0 := Fr.nil n0
  have K0 : Keep h0 h0 [] := Keep.refl h0 []
  show own_Fin p e below (own_PH Z (own_rm0_Q Z i0 i1 i2 i3 cs wf o1 o2 D1 D2 h0 n0) s room_1.cells room_1.slots) (s₁.setTop (entryFrame m #[(.int i0), (.int i1), (.int i2), (.int i3)] maxLocals))
  have hCR0 : CHr Z own_EL (s.setVm s.vm).vm h0 s.vm h0 := CHr.refl hCH0
  have hS0 : s.Since s.vm 0 := (State.WarmedH.refl s).since 0
  have hk0 : 0 ≤ h0.size := Nat.zero_le _
  have hZ : Z.Warmed39 (s.setVm s.vm).vm := hZ
  have hown : (s.setVm s.vm).vm.findClass "com/example/holdfast/holdfast/store/RedisAddressToStringPinLaw" = some m.cls := hown
  refine own_via (g' := s₁.setTop (mkF m 0 #[own_i i0, own_i i1, own_i i2, own_i i3, .unset, .unset, .unset, .unset, .unset, .unset, .unset, .unset, .unset, .unset, .unset, .unset, .unset] [])) (fun t k => castTop (ef_own_rm0 m i0 i1 i2 i3) k) ?_
  refine own_s s₁ m 1 #[own_i i0, own_i i1, own_i i2, own_i i3, .unset, .unset, .unset, .unset, .unset, .unset, .unset, .unset, .unset, .unset, .unset, .unset, .unset] [.int i0] (fun t k => XS.iloadN X0.here hx rfl (hb hby at_0) rfl k) ?_
  obtain ⟨v101, _, ⟨T101, L101, k101, n101⟩, -, X101, ⟨Lc101, hQ101, l101, y101, z101⟩, st101⟩ := Jvm.LawKit.callS X0 hx (y := own_n44) hown (mvT hZ (own_w hw 0 rfl)) (mvT hZ (own_w hw 1 rfl)) (mvT hZ (own_w hw 2 rfl)) (mvT hZ (own_w hw 3 rfl)) (by decide) (backOf (W := 0) (own_rm1 l Z a0 hw [] i0 h0 n0 (Nat.le_trans Z0 K0.1) ) hZ (own_w hw 3 rfl) (own_w hw 2 rfl) (by decide) (by decide)) (g := (mkF m 1 #[own_i i0, own_i i1, own_i i2, own_i i3, .unset, .unset, .unset, .unset, .unset, .unset, .unset, .unset, .unset, .unset, .unset, .unset, .unset] [.int i0])) rfl (by rw [hml]; rfl) (argsL := [.int i0]) (rest := []) (lenOf own_pd35 rfl) rfl (by exact own_ca rfl) (hb hby at_1) (fun _ _ => ⟨rfl, e0, (by decide : 0 + 0 ≤ _), (by decide : 0 + 0 ≤ _)⟩)
  dsimp only [Pt.U, Pt.locs, Pt.cells, Pt.slots] at X101 l101 y101 z101 st101 hQ101
  subst l101 y101 z101
  obtain ⟨r101, rfl, lr101, zr101, N101q, e101⟩ := hQ101
  have N101 := Fr.app N0 N101q
  refine own_s T101 m 9 #[own_i i0, own_i i1, own_i i2, own_i i3, own_i r101, .unset, .unset, .unset, .unset, .unset, .unset, .unset, .unset, .unset, .unset, .unset, .unset] [.int 9, .int i0] (fun t k => st101 _ (XS.istore X101.here hx rfl (hb hby at_4) rfl (l' := #[own_i i0, own_i i1, own_i i2, own_i i3, own_i r101, .unset, .unset, .unset, .unset, .unset, .unset, .unset, .unset, .unset, .unset, .unset, .unset]) rfl (XS.iloadN X101.here hx rfl (hb hby at_6) rfl (XS.bipush X101.here hx rfl (hb hby at_7) k)))) ?_
  refine own_s T101 m 10 #[own_i i0, own_i i1, own_i i2, own_i i3, own_i r101, .unset, .unset, .unset, .unset, .unset, .unset, .unset, .unset, .unset, .unset, .unset, .unset] [.int ((i0.toUInt32 >>> ((9 : Int32) &&& 31).toUInt32).toInt32)] (fun t k => XS.iushr X101.here hx rfl (hb hby at_9) rfl k) ?_
  obtain ⟨v102, _, ⟨T102, L102, k102, n102⟩, -, X102, ⟨Lc102, hQ102, l102, y102, z102⟩, st102⟩ := Jvm.LawKit.callS X101 hx (y := own_n44) hown (mvT hZ (own_w hw 0 rfl)) (mvT hZ (own_w hw 1 rfl)) (mvT hZ (own_w hw 2 rfl)) (mvT hZ (own_w hw 3 rfl)) (by decide) (backOf (W := 0) (own_rm1 l Z a0 hw [] ((i0.toUInt32 >>> ((9 : Int32) &&& 31).toUInt32).toInt32) h0 n0 (Nat.le_trans Z0 K0.1) ) hZ (own_w hw 3 rfl) (own_w hw 2 rfl) (by decide) (by decide)) (g := (mkF m 10 #[own_i i0, own_i i1, own_i i2, own_i i3, own_i r101, .unset, .unset, .unset, .unset, .unset, .unset, .unset, .unset, .unset, .unset, .unset, .unset] [.int ((i0.toUInt32 >>> ((9 : Int32) &&& 31).toUInt32).toInt32)])) rfl (by rw [hml]; rfl) (argsL := [.int ((i0.toUInt32 >>> ((9 : Int32) &&& 31).toUInt32).toInt32)]) (rest := []) (lenOf own_pd35 rfl) rfl (by exact own_ca rfl) (hb hby at_10) (fun _ _ => ⟨rfl, e101, (by decide : 0 + 0 ≤ _), (by decide : 0 + 0 ≤ _)⟩)
  dsimp only [Pt.U, Pt.locs, Pt.cells, Pt.slots] at X102 l102 y102 z102 st102 hQ102
  subst l102 y102 z102
  obtain ⟨r102, rfl, lr102, zr102, N102q, e102⟩ := hQ102
  have N102 := Fr.app N101 N102q
  refine own_s T102 m 18 #[own_i i0, own_i i1, own_i i2, own_i i3, own_i r101, own_i r102, .unset, .unset, .unset, .unset, .unset, .unset, .unset, .unset, .unset, .unset, .unset] [.int 18, .int i0] (fun t k => st102 _ (XS.istore X102.here hx rfl (hb hby at_13) rfl (l' := #[own_i i0, own_i i1, own_i i2, own_i i3, own_i r101, own_i r102, .unset, .unset, .unset, .unset, .unset, .unset, .unset, .unset, .unset, .unset, .unset]) rfl (XS.iloadN X102.here hx rfl (hb hby at_15) rfl (XS.bipush X102.here hx rfl (hb hby at_16) k)))) ?_
  refine own_s T102 m 19 #[own_i i0, own_i i1, own_i i2, own_i i3, own_i r101, own_i r102, .unset, .unset, .unset, .unset, .unset, .unset, .unset, .unset, .unset, .unset, .unset] [.int ((i0.toUInt32 >>> ((18 : Int32) &&& 31).toUInt32).toInt32)] (fun t k => XS.iushr X102.here hx rfl (hb hby at_18) rfl k) ?_
  obtain ⟨v103, _, ⟨T103, L103, k103, n103⟩, -, X103, ⟨Lc103, hQ103, l103, y103, z103⟩, st103⟩ := Jvm.LawKit.callS X102 hx (y := own_n44) hown (mvT hZ (own_w hw 0 rfl)) (mvT hZ (own_w hw 1 rfl)) (mvT hZ (own_w hw 2 rfl)) (mvT hZ (own_w hw 3 rfl)) (by decide) (backOf (W := 0) (own_rm1 l Z a0 hw [] ((i0.toUInt32 >>> ((18 : Int32) &&& 31).toUInt32).toInt32) h0 n0 (Nat.le_trans Z0 K0.1) ) hZ (own_w hw 3 rfl) (own_w hw 2 rfl) (by decide) (by decide)) (g := (mkF m 19 #[own_i i0, own_i i1, own_i i2, own_i i3, own_i r101, own_i r102, .unset, .unset, .unset, .unset, .unset, .unset, .unset, .unset, .unset, .unset, .unset] [.int ((i0.toUInt32 >>> ((18 : Int32) &&& 31).toUInt32).toInt32)])) rfl (by rw [hml]; rfl) (argsL := [.int ((i0.toUInt32 >>> ((18 : Int32) &&& 31).toUInt32).toInt32)]) (rest := []) (lenOf own_pd35 rfl) rfl (by exact own_ca rfl) (hb hby at_19) (fun _ _ => ⟨rfl, e102, (by decide : 0 + 0 ≤ _), (by decide : 0 + 0 ≤ _)⟩)
  dsimp only [Pt.U, Pt.locs, Pt.cells, Pt.slots] at X103 l103 y103 z103 st103 hQ103
  subst l103 y103 z103
  obtain ⟨r103, rfl, lr103, zr103, N103q, e103⟩ := hQ103
  have N103 := Fr.app N102 N103q
  refine own_s T103 m 27 #[own_i i0, own_i i1, own_i i2, own_i i3, own_i r101, own_i r102, own_i r103, .unset, .unset, .unset, .unset, .unset, .unset, .unset, .unset, .unset, .unset] [.int 27, .int i0] (fun t k => st103 _ (XS.istore X103.here hx rfl (hb hby at_22) rfl (l' := #[own_i i0, own_i i1, own_i i2, own_i i3, own_i r101, own_i r102, own_i r103, .unset, .unset, .unset, .unset, .unset, .unset, .unset, .unset, .unset, .unset]) rfl (XS.iloadN X103.here hx rfl (hb hby at_24) rfl (XS.bipush X103.here hx rfl (hb hby at_25) k)))) ?_
  refine own_s T103 m 30 #[own_i i0, own_i i1, own_i i2, own_i i3, own_i r101, own_i r102, own_i r103, .unset, .unset, .unset, .unset, .unset, .unset, .unset, .unset, .unset, .unset] [.int (((i0.toUInt32 >>> ((27 : Int32) &&& 31).toUInt32).toInt32) &&& (3 : Int32))] (fun t k => XS.iushr X103.here hx rfl (hb hby at_27) rfl (XS.iconst X103.here hx rfl (hb hby at_28) (XS.iand X103.here hx rfl (hb hby at_29) rfl k))) ?_
  have hn0 := own_and3 ((i0.toUInt32 >>> ((27 : Int32) &&& 31).toUInt32).toInt32)
  generalize hnn : (((i0.toUInt32 >>> ((27 : Int32) &&& 31).toUInt32).toInt32) &&& (3 : Int32)) = nn
  rw [hnn] at hn0
  refine own_s T103 m 32 #[own_i i0, own_i i1, own_i i2, own_i i3, own_i r101, own_i r102, own_i r103, own_i nn, .unset, .unset, .unset, .unset, .unset, .unset, .unset, .unset, .unset] [] (fun t k => XS.istore X103.here hx rfl (hb hby at_30) rfl (l' := #[own_i i0, own_i i1, own_i i2, own_i i3, own_i r101, own_i r102, own_i r103, own_i nn, .unset, .unset, .unset, .unset, .unset, .unset, .unset, .unset, .unset]) rfl k) ?_
  have J104 : ∀ (vj104 : Vm) (kj104 : Nat) (T104 : State) (h104 : Heap) (l104 : List Loc) (X104 : Stand p l e room_1 (s.setVm vj104) m #[(.int i0), (.int i1), (.int i2), (.int i3)] below meth c T104 l104 8 40) (e104 : T104.heap = h104) (N104 : Fr n0 l104) (Kj104 : Keep h0 h104 []) (hSj104 : s.Since vj104 kj104) (hkj104 : kj104 ≤ h104.size) (hZ : Z.Warmed39 (s.setVm vj104).vm) (hown : (s.setVm vj104).vm.findClass "com/example/holdfast/holdfast/store/RedisAddressToStringPinLaw" = some m.cls) (hCRj104 : CHr Z own_EL (s.setVm s.vm).vm h0 (s.setVm vj104).vm h104) (hs : Addr) (hd : Addr) (HB : List Int32) (eHB : HB = own_host nn r101 r102 r103) (Ehs : Exa Z h104 hs "java/lang/String") (Fchs : Fld Z h104 hs "java/lang/String" "coder" "B" (.int 0)) (Fvhs : Fld Z h104 hs "java/lang/String" "value" "[B" (.ref hd)) (Vhs : own_Ar Z h104 hd .byte (HB.map Value.int)), own_Fin p e below (own_PH Z (own_rm0_Q Z i0 i1 i2 i3 cs wf o1 o2 D1 D2 h0 n0) s room_1.cells room_1.slots) (T104.setTop (mkF m 136 #[own_i i0, own_i i1, own_i i2, own_i i3, own_i r101, own_i r102, own_i r103, own_i nn, own_r hs, .unset, .unset, .unset, .unset, .unset, .unset, .unset, .unset] [])) := by
    intro vj104 kj104 T104 h104 l104 X104 e104 N104 Kj104 hSj104 hkj104 hZ hown hCRj104 hs hd HB eHB Ehs Fchs Fvhs Vhs
    obtain ⟨hbH, h3H, hnL, hx0, hx1, hx2, hbr⟩ := own_hostF eHB hn0 lr101 zr101 lr102 zr102 lr103 zr103
    refine own_s T104 m 142 #[own_i i0, own_i i1, own_i i2, own_i i3, own_i r101, own_i r102, own_i r103, own_i nn, own_r hs, .unset, .unset, .unset, .unset, .unset, .unset, .unset, .unset] [.int ((i3 &&& (255 : Int32)).toUInt32.toUInt16.toUInt32.toInt32)] (fun t k => XS.iloadN X104.here hx rfl (hb hby at_136) rfl (XS.sipush X104.here hx rfl (hb hby at_137) (XS.iand X104.here hx rfl (hb hby at_140) rfl (XT.i2c X104.here hx rfl (hb hby at_141) rfl k)))) ?_
    obtain ⟨v105, _, ⟨T105, L105, k105, n105⟩, -, X105, ⟨Lc105, hQ105, l105, y105, z105⟩, st105⟩ := Jvm.LawKit.callS X104 hx (y := own_n57) hown (mvT hZ (own_w hw 26 rfl)) (mvT hZ (own_w hw 27 rfl)) (mvT hZ (own_w hw 6 rfl)) (mvT hZ (own_w hw 28 rfl)) (by decide) (backOf (W := 0) (own_rm5 l Z a0 hw [] ((i3 &&& (255 : Int32)).toUInt32.toUInt16.toUInt32.toInt32) cs h104 n0 (Nat.le_trans Z0 Kj104.1) (own_sta_keep CS Kj104 (fun _ _ _ _ => nin0)) hcs (own_c255 _).1) hZ (own_w hw 28 rfl) (own_w hw 6 rfl) (by decide) (by decide)) (g := (mkF m 142 #[own_i i0, own_i i1, own_i i2, own_i i3, own_i r101, own_i r102, own_i r103, own_i nn, own_r hs, .unset, .unset, .unset, .unset, .unset, .unset, .unset, .unset] [.int ((i3 &&& (255 : Int32)).toUInt32.toUInt16.toUInt32.toInt32)])) rfl (by rw [hml]; rfl) (argsL := [.int ((i3 &&& (255 : Int32)).toUInt32.toUInt16.toUInt32.toInt32)]) (rest := []) (lenOf own_pd40 rfl) rfl (by exact own_ca rfl) (hb hby at_142) (fun _ _ => ⟨rfl, e104, (by decide : 8 + 2 ≤ _), (by decide : 40 + 5 ≤ _)⟩)
    dsimp only [Pt.U, Pt.locs, Pt.cells, Pt.slots] at X105 l105 y105 z105 st105 hQ105
    subst l105 y105 z105
    obtain ⟨b105, rfl, N105q, K105⟩ := hQ105
    have hCR105 := hCRj104.trans (CHr.keep K105 sf0 hCRj104.1)
    have Kc105 : Keep h0 T105.heap [] := Kj104.trans K105 all0
    have N105 := Fr.app N104 N105q
    refine own_s T105 m 150 #[own_i i0, own_i i1, own_i i2, own_i i3, own_i r101, own_i r102, own_i r103, own_i nn, own_r hs, own_r b105, .unset, .unset, .unset, .unset, .unset, .unset, .unset] [.int 8, .int i3] (fun t k => st105 _ (XS.astore X105.here hx rfl (hb hby at_145) rfl (rfl) (l' := #[own_i i0, own_i i1, own_i i2, own_i i3, own_i r101, own_i r102, own_i r103, own_i nn, own_r hs, own_r b105, .unset, .unset, .unset, .unset, .unset, .unset, .unset]) rfl (XS.iloadN X105.here hx rfl (hb hby at_147) rfl (XS.bipush X105.here hx rfl (hb hby at_148) k)))) ?_
    refine own_s T105 m 156 #[own_i i0, own_i i1, own_i i2, own_i i3, own_i r101, own_i r102, own_i r103, own_i nn, own_r hs, own_r b105, .unset, .unset, .unset, .unset, .unset, .unset, .unset] [.int ((((i3.toUInt32 >>> ((8 : Int32) &&& 31).toUInt32).toInt32) &&& (255 : Int32)).toUInt32.toUInt16.toUInt32.toInt32)] (fun t k => XS.iushr X105.here hx rfl (hb hby at_150) rfl (XS.sipush X105.here hx rfl (hb hby at_151) (XS.iand X105.here hx rfl (hb hby at_154) rfl (XT.i2c X105.here hx rfl (hb hby at_155) rfl k)))) ?_
    obtain ⟨v106, _, ⟨T106, L106, k106, n106⟩, -, X106, ⟨Lc106, hQ106, l106, y106, z106⟩, st106⟩ := Jvm.LawKit.callS X105 hx (y := own_n57) hown (mvT hZ (own_w hw 26 rfl)) (mvT hZ (own_w hw 27 rfl)) (mvT hZ (own_w hw 6 rfl)) (mvT hZ (own_w hw 28 rfl)) (by decide) (backOf (W := 0) (own_rm5 l Z a0 hw [] ((((i3.toUInt32 >>> ((8 : Int32) &&& 31).toUInt32).toInt32) &&& (255 : Int32)).toUInt32.toUInt16.toUInt32.toInt32) cs T105.heap n0 (Nat.le_trans Z0 Kc105.1) (own_sta_keep CS Kc105 (fun _ _ _ _ => nin0)) hcs (own_c255 _).1) hZ (own_w hw 28 rfl) (own_w hw 6 rfl) (by decide) (by decide)) (g := (mkF m 156 #[own_i i0, own_i i1, own_i i2, own_i i3, own_i r101, own_i r102, own_i r103, own_i nn, own_r hs, own_r b105, .unset, .unset, .unset, .unset, .unset, .unset, .unset] [.int ((((i3.toUInt32 >>> ((8 : Int32) &&& 31).toUInt32).toInt32) &&& (255 : Int32)).toUInt32.toUInt16.toUInt32.toInt32)])) rfl (by rw [hml]; rfl) (argsL := [.int ((((i3.toUInt32 >>> ((8 : Int32) &&& 31).toUInt32).toInt32) &&& (255 : Int32)).toUInt32.toUInt16.toUInt32.toInt32)]) (rest := []) (lenOf own_pd40 rfl) rfl (by exact own_ca rfl) (hb hby at_156) (fun _ _ => ⟨rfl, rfl, (by decide : 10 + 2 ≤ _), (by decide : 45 + 5 ≤ _)⟩)
    dsimp only [Pt.U, Pt.locs, Pt.cells, Pt.slots] at X106 l106 y106 z106 st106 hQ106
    subst l106 y106 z106
    obtain ⟨b106, rfl, N106q, K106⟩ := hQ106
    have hCR106 := hCR105.trans (CHr.keep K106 sf0 hCR105.1)
    have Kc106 : Keep h0 T106.heap [] := Kc105.trans K106 all0
    have N106 := Fr.app N105 N106q
    refine own_s T106 m 161 #[own_i i0, own_i i1, own_i i2, own_i i3, own_i r101, own_i r102, own_i r103, own_i nn, own_r hs, own_r b105, own_r b106, .unset, .unset, .unset, .unset, .unset, .unset] [] (fun t k => st106 _ (XS.astore X106.here hx rfl (hb hby at_159) rfl (rfl) (l' := #[own_i i0, own_i i1, own_i i2, own_i i3, own_i r101, own_i r102, own_i r103, own_i nn, own_r hs, own_r b105, own_r b106, .unset, .unset, .unset, .unset, .unset, .unset]) rfl k)) ?_
    have J107 : ∀ (wu : Value) (hwu : wu.isRef = true), own_Fin p e below (own_PH Z (own_rm0_Q Z i0 i1 i2 i3 cs wf o1 o2 D1 D2 h0 n0) s room_1.cells room_1.slots) (T106.setTop (mkF m 171 #[own_i i0, own_i i1, own_i i2, own_i i3, own_i r101, own_i r102, own_i r103, own_i nn, own_r hs, .val wu, own_r b106, .unset, .unset, .unset, .unset, .unset, .unset] [])) := by
      intro wu hwu
      have J108 : ∀ (wp : Value) (hwp : wp.isRef = true), own_Fin p e below (own_PH Z (own_rm0_Q Z i0 i1 i2 i3 cs wf o1 o2 D1 D2 h0 n0) s room_1.cells room_1.slots) (T106.setTop (mkF m 181 #[own_i i0, own_i i1, own_i i2, own_i i3, own_i r101, own_i r102, own_i r103, own_i nn, own_r hs, .val wu, .val wp, .unset, .unset, .unset, .unset, .unset, .unset] [])) := by
        intro wp hwp
        obtain ⟨T109, h109, X109, e109, E109, A109, D109, -, st109⟩ := newO X106 hx hZ hown (own_w hw 43 rfl) (own_w hw 44 rfl) (own_w hw 45 rfl) rfl (g := (mkF m 181 #[own_i i0, own_i i1, own_i i2, own_i i3, own_i r101, own_i r102, own_i r103, own_i nn, own_r hs, .val wu, .val wp, .unset, .unset, .unset, .unset, .unset, .unset] [])) rfl (hb hby at_181) (by decide) (by decide)
        obtain ⟨b109, g109⟩ : ∃ z, z = T106.heap.size := ⟨_, rfl⟩
        rw [← g109] at A109 D109 st109
        have ne_hs_b109 := own_ne ((Ehs.keep K105).keep K106).lt (Nat.le_of_eq g109.symm)
        have ne_hd_b109 := own_ne ((Vhs.keep K105 nin0).keep K106 nin0).lt (Nat.le_of_eq g109.symm)
        have sz_b109 : h0.size ≤ b109 := Nat.le_trans Kc106.1 (Nat.le_of_eq g109.symm)
        have g_b109 : n0 ≤ b109 := Nat.le_trans Z0 sz_b109
        have hCR109 := hCR106.trans (CHr.ext E109 hCR106.1)
        have Kc109 : Keep h0 h109 [] := Kc106.ext E109
        have F109_56 : Fld Z h109 b109 "com/example/holdfast/holdfast/store/RedisAddress" "host" "Ljava/lang/String;" .null := D109 (Or.inr (own_w hw 56 rfl)) (ty := (.object "java/lang/String")) (by decide)
        have F109_58 : Fld Z h109 b109 "com/example/holdfast/holdfast/store/RedisAddress" "port" "I" (.int 0) := D109 (Or.inr (own_w hw 58 rfl)) (ty := .int) (by decide)
        have F109_60 : Fld Z h109 b109 "com/example/holdfast/holdfast/store/RedisAddress" "user" "Ljava/lang/String;" .null := D109 (Or.inr (own_w hw 60 rfl)) (ty := (.object "java/lang/String")) (by decide)
        have F109_62 : Fld Z h109 b109 "com/example/holdfast/holdfast/store/RedisAddress" "password" "Ljava/lang/String;" .null := D109 (Or.inr (own_w hw 62 rfl)) (ty := (.object "java/lang/String")) (by decide)
        have F109_64 : Fld Z h109 b109 "com/example/holdfast/holdfast/store/RedisAddress" "database" "I" (.int 0) := D109 (Or.inr (own_w hw 64 rfl)) (ty := .int) (by decide)
        refine own_s T109 m 188 #[own_i i0, own_i i1, own_i i2, own_i i3, own_i r101, own_i r102, own_i r103, own_i nn, own_r hs, .val wu, .val wp, .unset, .unset, .unset, .unset, .unset, .unset] [.int i1, .ref hs, .ref b109, .ref b109] (fun t k => st109 _ (XS.dup X109.here hx rfl (hb hby at_184) rfl (rfl) (XS.aload X109.here hx rfl (hb hby at_185) rfl (rfl) (XS.iloadN X109.here hx rfl (hb hby at_187) rfl k)))) ?_
        refine own_s T109 m 193 #[own_i i0, own_i i1, own_i i2, own_i i3, own_i r101, own_i r102, own_i r103, own_i nn, own_r hs, .val wu, .val wp, .unset, .unset, .unset, .unset, .unset, .unset] [.int i2, wp, wu, .int i1, .ref hs, .ref b109, .ref b109] (fun t k => XS.aload X109.here hx rfl (hb hby at_188) rfl (hwu) (XS.aload X109.here hx rfl (hb hby at_190) rfl (hwp) (XS.iloadN X109.here hx rfl (hb hby at_192) rfl k))) ?_
        obtain ⟨v110, _, ⟨T110, L110, k110, n110⟩, -, X110, ⟨Lc110, hQ110, l110, y110, z110⟩, st110⟩ := X109.specialBack hx (y := own_n42) rfl hown (mvT hZ (own_w hw 46 rfl)) (mvT hZ (own_w hw 47 rfl)) (mvT hZ (own_w hw 48 rfl)) (by decide) (backOf (W := 1) (own_rm9 l Z a0 hw [] b109 hs i1 wu wp i2 h109 n0 (Nat.le_trans Z0 Kc109.1) A109 F109_56 F109_58 F109_60 F109_62 F109_64 g_b109 hwu hwp) hZ (own_w hw 48 rfl) (own_w hw 45 rfl) (by decide) (by decide)) (g := (mkF m 193 #[own_i i0, own_i i1, own_i i2, own_i i3, own_i r101, own_i r102, own_i r103, own_i nn, own_r hs, .val wu, .val wp, .unset, .unset, .unset, .unset, .unset, .unset] [.int i2, wp, wu, .int i1, .ref hs, .ref b109, .ref b109])) rfl (by rw [hml]; rfl) (Steps.refl _) (a := b109) (argsL := [.ref hs, .int i1, wu, wp, .int i2]) (rest := [.ref b109]) (lenOf own_pd41 rfl) rfl (by exact own_ca rfl) (hb hby at_193) (fun _ _ => ⟨rfl, e109, (by decide : 13 + 0 ≤ _), (by decide : 55 + 0 ≤ _)⟩)
        dsimp only [Pt.U, Pt.locs, Pt.cells, Pt.slots] at X110 l110 y110 z110 st110 hQ110
        subst l110 y110 z110
        obtain ⟨rfl, N110q, K110, A110, Fa110_0, Fa110_1, Fa110_2, Fa110_3, Fa110_4⟩ := hQ110
        have hCR110 := hCR109.trans (CHr.keep K110 (sfS (Safe.exa hZ.alike A109 (by decide) (by decide)) sf0) hCR109.1)
        have Kc110 : Keep h0 T110.heap [] := Kc109.trans K110 (allS (Or.inr sz_b109) all0)
        have N110 := Fr.app N106 N110q
        refine own_s T110 m 196 #[own_i i0, own_i i1, own_i i2, own_i i3, own_i r101, own_i r102, own_i r103, own_i nn, own_r hs, .val wu, .val wp, .unset, .unset, .unset, .unset, .unset, .unset] [.ref b109] (fun t k => st110.trans k) ?_
        obtain ⟨cq111, kq111, q111a, q111b, q111c⟩ := isOf hZ rfl A110
        obtain ⟨v111, _, ⟨T111, L111, k111, n111⟩, -, X111, sS111, gS111, ⟨Lc111, hQ111, l111, y111, z111, cr111⟩, st111⟩ := X110.virtualBackS hx (y := own_n43) (z := own_n43) hown (mvT hZ (own_w hw 65 rfl)) (mvT hZ (own_w hw 66 rfl)) (notFace_of_selects (args := #[]) (mvT hZ (own_w hw 68 rfl))) (mvT hZ (own_w hw 68 rfl)) (mvT hZ (own_w hw 67 rfl)) (by decide) (own_backH (W := 0) (own_rats l Z a0 hw [] b109 cs hs hd HB i1 i2 o1 o2 D1 D2 T110.heap n0 (Nat.le_trans Z0 Kc110.1) (own_sta_keep CS Kc110 (fun _ _ _ _ => nin0)) hcs A110 Fa110_0 Fa110_1 Fa110_4 ((((Fchs.keep K105 nin0).keep K106 nin0).ext E109).keep K110 (ninS ne_hs_b109 nin0)) ((((Fvhs.keep K105 nin0).keep K106 nin0).ext E109).keep K110 (ninS ne_hs_b109 nin0)) ((((Vhs.keep K105 nin0).keep K106 nin0).ext E109).keep K110 (ninS ne_hd_b109 nin0)) ((((Ehs.keep K105).keep K106).ext E109).keep K110) hbH h3H (own_sta_keep S1 Kc110 (fun _ _ _ _ => nin0)) (own_sta_keep S2 Kc110 (fun _ _ _ _ => nin0)) (O1.keep Kc110 nin0) (O2.keep Kc110 nin0) hD1 hD2) hZ (own_w hw 69 rfl) (own_w hw 45 rfl) (by decide) (by decide) (own_hEL hw) hCR110.1 all0) q111a q111c (g := (mkF m 196 #[own_i i0, own_i i1, own_i i2, own_i i3, own_i r101, own_i r102, own_i r103, own_i nn, own_r hs, .val wu, .val wp, .unset, .unset, .unset, .unset, .unset, .unset] [.ref b109])) rfl (by rw [hml]; rfl) (Steps.refl _) (argsL := []) (rest := []) (lenOf own_pd25 rfl) rfl (by exact own_ca rfl) (hb hby at_196) (fun _ _ => ⟨rfl, rfl, (by decide : 13 + 32 ≤ _), (by decide : 55 + 556 ≤ _)⟩)
        dsimp only [Pt.U, Pt.locs, Pt.cells, Pt.slots] at X111 l111 y111 z111 st111 hQ111 sS111 gS111 cr111
        subst l111 y111 z111
        obtain ⟨X111, hS111, hZ, hown⟩ := rebS hSj104 (by rw [(rfl : T110.heap = T110.heap)]; exact (Nat.le_trans (Nat.le_trans (Nat.le_trans (Nat.le_trans hkj104 K105.1) K106.1) E109.1) K110.1)) X111 sS111 gS111 hZ hown
        have hCR111 := hCR110.trans cr111
        obtain ⟨r111, e111x, rfl, N111q, K111, A111, Fc111, Fv111, V111⟩ := hQ111
        have Kc111 : Keep h0 T111.heap [] := Kc110.trans K111 all0
        have N111 := Fr.app N110 N111q
        refine own_s T111 m 199 #[own_i i0, own_i i1, own_i i2, own_i i3, own_i r101, own_i r102, own_i r103, own_i nn, own_r hs, .val wu, .val wp, .unset, .unset, .unset, .unset, .unset, .unset] [.ref r111] (fun t k => st111.trans k) ?_
        obtain ⟨RS, SL, zk, eRS, hzk, hz1, hSL, hRl, hRb, hR91, hR93, hRH, hR58, hRp, hR47, hRd⟩ := own_facts HB i1 i2 h3H
        rw [eRS] at V111
        clear eRS
        refine own_s T111 m 201 #[own_i i0, own_i i1, own_i i2, own_i i3, own_i r101, own_i r102, own_i r103, own_i nn, own_r hs, .val wu, .val wp, own_r r111, .unset, .unset, .unset, .unset, .unset] [] (fun t k => XS.astore X111.here hx rfl (hb hby at_199) rfl (rfl) (l' := #[own_i i0, own_i i1, own_i i2, own_i i3, own_i r101, own_i r102, own_i r103, own_i nn, own_r hs, .val wu, .val wp, own_r r111, .unset, .unset, .unset, .unset, .unset]) rfl k) ?_
        have J112 : ∀ zb : Int32, zk.toInt32 = zb → own_Fin p e below (own_PH Z (own_rm0_Q Z i0 i1 i2 i3 cs wf o1 o2 D1 D2 h0 n0) s room_1.cells room_1.slots) (T111.setTop (mkF m 245 #[own_i i0, own_i i1, own_i i2, own_i i3, own_i r101, own_i r102, own_i r103, own_i nn, own_r hs, .val wu, .val wp, own_r r111, .unset, .unset, .unset, .unset, .unset] [.int zb])) := by
          intro zb hzb
          subst hzb
          refine own_s T111 m 249 #[own_i i0, own_i i1, own_i i2, own_i i3, own_i r101, own_i r102, own_i r103, own_i nn, own_r hs, .val wu, .val wp, own_r r111, own_i zk.toInt32, .unset, .unset, .unset, .unset] [.int zk.toInt32] (fun t k => XS.istore X111.here hx rfl (hb hby at_245) rfl (l' := #[own_i i0, own_i i1, own_i i2, own_i i3, own_i r101, own_i r102, own_i r103, own_i nn, own_r hs, .val wu, .val wp, own_r r111, own_i zk.toInt32, .unset, .unset, .unset, .unset]) rfl (XS.iload X111.here hx rfl (hb hby at_247) rfl k)) ?_
          have J113 : ∀ zo : Int32, zk.toInt32 = zo → own_Fin p e below (own_PH Z (own_rm0_Q Z i0 i1 i2 i3 cs wf o1 o2 D1 D2 h0 n0) s room_1.cells room_1.slots) (T111.setTop (mkF m 257 #[own_i i0, own_i i1, own_i i2, own_i i3, own_i r101, own_i r102, own_i r103, own_i nn, own_r hs, .val wu, .val wp, own_r r111, own_i zk.toInt32, .unset, .unset, .unset, .unset] [.int zo])) := by
            intro zo hzo
            subst hzo
            refine own_s T111 m 264 #[own_i i0, own_i i1, own_i i2, own_i i3, own_i r101, own_i r102, own_i r103, own_i nn, own_r hs, .val wu, .val wp, own_r r111, own_i zk.toInt32, own_i zk.toInt32, .unset, .unset, .unset] [.int zk.toInt32, .int 2, .int nn] (fun t k => XS.istore X111.here hx rfl (hb hby at_257) rfl (l' := #[own_i i0, own_i i1, own_i i2, own_i i3, own_i r101, own_i r102, own_i r103, own_i nn, own_r hs, .val wu, .val wp, own_r r111, own_i zk.toInt32, own_i zk.toInt32, .unset, .unset, .unset]) rfl (XS.iload X111.here hx rfl (hb hby at_259) rfl (XS.iconst X111.here hx rfl (hb hby at_261) (XS.iload X111.here hx rfl (hb hby at_262) rfl k)))) ?_
            refine own_s T111 m 266 #[own_i i0, own_i i1, own_i i2, own_i i3, own_i r101, own_i r102, own_i r103, own_i nn, own_r hs, .val wu, .val wp, own_r r111, own_i zk.toInt32, own_i zk.toInt32, .unset, .unset, .unset] [.int (nn + ((2 : Int32) * zk.toInt32))] (fun t k => XS.imul X111.here hx rfl (hb hby at_264) rfl (XS.iadd X111.here hx rfl (hb hby at_265) rfl k)) ?_
            rw [own_hlE hnL hz1 hSL]
            refine own_s T111 m 269 #[own_i i0, own_i i1, own_i i2, own_i i3, own_i r101, own_i r102, own_i r103, own_i nn, own_r hs, .val wu, .val wp, own_r r111, own_i zk.toInt32, own_i zk.toInt32, own_i SL.toInt32, .unset, .unset] [.int i1] (fun t k => XS.istore X111.here hx rfl (hb hby at_266) rfl (l' := #[own_i i0, own_i i1, own_i i2, own_i i3, own_i r101, own_i r102, own_i r103, own_i nn, own_r hs, .val wu, .val wp, own_r r111, own_i zk.toInt32, own_i zk.toInt32, own_i SL.toInt32, .unset, .unset]) rfl (XS.iloadN X111.here hx rfl (hb hby at_268) rfl k)) ?_
            obtain ⟨v114, _, ⟨T114, L114, k114, n114⟩, -, X114, ⟨Lc114, hQ114, l114, y114, z114⟩, st114⟩ := Jvm.LawKit.callS X111 hx (y := own_n47) hown (mvT hZ (own_w hw 227 rfl)) (mvT hZ (own_w hw 228 rfl)) (mvT hZ (own_w hw 2 rfl)) (mvT hZ (own_w hw 229 rfl)) (by decide) (backOf (W := 0) (own_rm42 l Z a0 hw [] i1 T111.heap n0 (Nat.le_trans Z0 Kc111.1) ) hZ (own_w hw 229 rfl) (own_w hw 2 rfl) (by decide) (by decide)) (g := (mkF m 269 #[own_i i0, own_i i1, own_i i2, own_i i3, own_i r101, own_i r102, own_i r103, own_i nn, own_r hs, .val wu, .val wp, own_r r111, own_i zk.toInt32, own_i zk.toInt32, own_i SL.toInt32, .unset, .unset] [.int i1])) rfl (by rw [hml]; rfl) (argsL := [.int i1]) (rest := []) (lenOf own_pd8 rfl) rfl (by exact own_ca rfl) (hb hby at_269) (fun _ _ => ⟨rfl, rfl, (by decide : 45 + 0 ≤ _), (by decide : 611 + 0 ≤ _)⟩)
            dsimp only [Pt.U, Pt.locs, Pt.cells, Pt.slots] at X114 l114 y114 z114 st114 hQ114
            subst l114 y114 z114
            obtain ⟨rfl, N114q, e114⟩ := hQ114
            have N114 := Fr.app N111 N114q
            refine own_s T114 m 275 #[own_i i0, own_i i1, own_i i2, own_i i3, own_i r101, own_i r102, own_i r103, own_i nn, own_r hs, .val wu, .val wp, own_r r111, own_i zk.toInt32, own_i zk.toInt32, own_i SL.toInt32, own_i ((own_sz i1).toInt32), .unset] [.int i2] (fun t k => st114 _ (XS.istore X114.here hx rfl (hb hby at_272) rfl (l' := #[own_i i0, own_i i1, own_i i2, own_i i3, own_i r101, own_i r102, own_i r103, own_i nn, own_r hs, .val wu, .val wp, own_r r111, own_i zk.toInt32, own_i zk.toInt32, own_i SL.toInt32, own_i ((own_sz i1).toInt32), .unset]) rfl (XS.iloadN X114.here hx rfl (hb hby at_274) rfl k))) ?_
            have J115 : ∀ (Tj115 : State) (lj115 : List Loc) (Xj115 : Stand p l e room_1 (s.setVm T111.vm) m #[(.int i0), (.int i1), (.int i2), (.int i3)] below meth c Tj115 lj115 (45) (611)) (ej115 : Tj115.heap = T111.heap) (Nj115 : Fr n0 lj115) (zd : Int32), (own_dl i2).toInt32 = zd → own_Fin p e below (own_PH Z (own_rm0_Q Z i0 i1 i2 i3 cs wf o1 o2 D1 D2 h0 n0) s room_1.cells room_1.slots) (Tj115.setTop (mkF m 288 #[own_i i0, own_i i1, own_i i2, own_i i3, own_i r101, own_i r102, own_i r103, own_i nn, own_r hs, .val wu, .val wp, own_r r111, own_i zk.toInt32, own_i zk.toInt32, own_i SL.toInt32, own_i ((own_sz i1).toInt32), .unset] [.int zd])) := by
              intro Tj115 lj115 Xj115 ej115 Nj115 zd hzd
              subst hzd
              refine own_s Tj115 m 297 #[own_i i0, own_i i1, own_i i2, own_i i3, own_i r101, own_i r102, own_i r103, own_i nn, own_r hs, .val wu, .val wp, own_r r111, own_i zk.toInt32, own_i zk.toInt32, own_i SL.toInt32, own_i ((own_sz i1).toInt32), .val (.int (own_dl i2).toInt32)] [.ref r111] (fun t k => XS.istore Xj115.here hx rfl (hb hby at_288) rfl (l' := #[own_i i0, own_i i1, own_i i2, own_i i3, own_i r101, own_i r102, own_i r103, own_i nn, own_r hs, .val wu, .val wp, own_r r111, own_i zk.toInt32, own_i zk.toInt32, own_i SL.toInt32, own_i ((own_sz i1).toInt32), .val (.int (own_dl i2).toInt32)]) rfl (XS.aload Xj115.here hx rfl (hb hby at_290) rfl (rfl) (XS.ifnullNo Xj115.here hx rfl (hb hby at_292) rfl (XS.aload Xj115.here hx rfl (hb hby at_295) rfl (rfl) k)))) ?_
              obtain ⟨cq116, kq116, q116a, q116b, q116c⟩ := isOf hZ ej115 A111
              obtain ⟨v116, _, ⟨T116, L116, k116, n116⟩, -, X116, ⟨Lc116, hQ116, l116, y116, z116⟩, st116⟩ := Xj115.virtualBack hx (y := own_n7) (z := own_n7) hown (mvT hZ (own_w hw 237 rfl)) (mvT hZ (own_w hw 132 rfl)) (notFace_of_selects (args := #[]) (mvT hZ (own_w hw 134 rfl))) (mvT hZ (own_w hw 134 rfl)) (mvT hZ (own_w hw 133 rfl)) (by decide) (backOf (W := 0) (own_rm22 l Z a0 hw [] r111 cs e111x (RS.map Value.int) T111.heap n0 (Nat.le_trans Z0 Kc111.1) (own_sta_keep CS Kc111 (fun _ _ _ _ => nin0)) hcs Fc111 Fv111 V111 A111) hZ (own_w hw 135 rfl) (own_w hw 6 rfl) (by decide) (by decide)) q116a q116c (g := (mkF m 297 #[own_i i0, own_i i1, own_i i2, own_i i3, own_i r101, own_i r102, own_i r103, own_i nn, own_r hs, .val wu, .val wp, own_r r111, own_i zk.toInt32, own_i zk.toInt32, own_i SL.toInt32, own_i ((own_sz i1).toInt32), .val (.int (own_dl i2).toInt32)] [.ref r111])) rfl (by rw [hml]; rfl) (Steps.refl _) (argsL := []) (rest := []) (lenOf own_pd12 rfl) rfl (by exact own_ca rfl) (hb hby at_297) (fun _ _ => ⟨rfl, ej115, (by decide : 45 + 0 ≤ _), (by decide : 611 + 0 ≤ _)⟩)
              dsimp only [Pt.U, Pt.locs, Pt.cells, Pt.slots] at X116 l116 y116 z116 st116 hQ116
              subst l116 y116 z116
              obtain ⟨rfl, N116q, e116⟩ := hQ116
              have N116 := Fr.app Nj115 N116q
              refine own_s T116 m 304 #[own_i i0, own_i i1, own_i i2, own_i i3, own_i r101, own_i r102, own_i r103, own_i nn, own_r hs, .val wu, .val wp, own_r r111, own_i zk.toInt32, own_i zk.toInt32, own_i SL.toInt32, own_i ((own_sz i1).toInt32), .val (.int (own_dl i2).toInt32)] [.int (SL.toInt32 + (1 : Int32)), .int ((RS.map Value.int).length.toInt32)] (fun t k => st116.trans (XS.iload X116.here hx rfl (hb hby at_300) rfl (XS.iconst X116.here hx rfl (hb hby at_302) (XS.iadd X116.here hx rfl (hb hby at_303) rfl k)))) ?_
              refine own_s T116 m 310 #[own_i i0, own_i i1, own_i i2, own_i i3, own_i r101, own_i r102, own_i r103, own_i nn, own_r hs, .val wu, .val wp, own_r r111, own_i zk.toInt32, own_i zk.toInt32, own_i SL.toInt32, own_i ((own_sz i1).toInt32), .val (.int (own_dl i2).toInt32)] [.int (((SL.toInt32 + (1 : Int32)) + ((own_sz i1).toInt32)) + (own_dl i2).toInt32), .int ((RS.map Value.int).length.toInt32)] (fun t k => XS.iload X116.here hx rfl (hb hby at_304) rfl (XS.iadd X116.here hx rfl (hb hby at_306) rfl (XS.iload X116.here hx rfl (hb hby at_307) rfl (XS.iadd X116.here hx rfl (hb hby at_309) rfl k)))) ?_
              refine own_s T116 m 315 #[own_i i0, own_i i1, own_i i2, own_i i3, own_i r101, own_i r102, own_i r103, own_i nn, own_r hs, .val wu, .val wp, own_r r111, own_i zk.toInt32, own_i zk.toInt32, own_i SL.toInt32, own_i ((own_sz i1).toInt32), .val (.int (own_dl i2).toInt32)] [] (fun t k => XS.icmpYes X116.here hx rfl (pc0 := 310) (pc' := 315) rfl (hb hby at_310) rfl (XT.ii_eq_t (own_sumE hRl)) (by decide) (by decide) k) ?_
              have J117 : ∀ (Tj117 : State) (lj117 : List Loc) (Xj117 : Stand p l e room_1 (s.setVm T111.vm) m #[(.int i0), (.int i1), (.int i2), (.int i3)] below meth c Tj117 lj117 (45) (611)) (ej117 : Tj117.heap = T111.heap) (Nj117 : Fr n0 lj117), own_Fin p e below (own_PH Z (own_rm0_Q Z i0 i1 i2 i3 cs wf o1 o2 D1 D2 h0 n0) s room_1.cells room_1.slots) (Tj117.setTop (mkF m 347 #[own_i i0, own_i i1, own_i i2, own_i i3, own_i r101, own_i r102, own_i r103, own_i nn, own_r hs, .val wu, .val wp, own_r r111, own_i zk.toInt32, own_i zk.toInt32, own_i SL.toInt32, own_i ((own_sz i1).toInt32), .val (.int (own_dl i2).toInt32)] [])) := by
                intro Tj117 lj117 Xj117 ej117 Nj117 
                have J118 : ∀ (Tj118 : State) (lj118 : List Loc) (Xj118 : Stand p l e room_1 (s.setVm T111.vm) m #[(.int i0), (.int i1), (.int i2), (.int i3)] below meth c Tj118 lj118 (45) (611)) (ej118 : Tj118.heap = T111.heap) (Nj118 : Fr n0 lj118), own_Fin p e below (own_PH Z (own_rm0_Q Z i0 i1 i2 i3 cs wf o1 o2 D1 D2 h0 n0) s room_1.cells room_1.slots) (Tj118.setTop (mkF m 367 #[own_i i0, own_i i1, own_i i2, own_i i3, own_i r101, own_i r102, own_i r103, own_i nn, own_r hs, .val wu, .val wp, own_r r111, own_i zk.toInt32, own_i zk.toInt32, own_i SL.toInt32, own_i ((own_sz i1).toInt32), .val (.int (own_dl i2).toInt32)] [])) := by
                  intro Tj118 lj118 Xj118 ej118 Nj118 
                  have J119 : ∀ (Tj119 : State) (lj119 : List Loc) (Xj119 : Stand p l e room_1 (s.setVm T111.vm) m #[(.int i0), (.int i1), (.int i2), (.int i3)] below meth c Tj119 lj119 (45) (611)) (ej119 : Tj119.heap = T111.heap) (Nj119 : Fr n0 lj119), own_Fin p e below (own_PH Z (own_rm0_Q Z i0 i1 i2 i3 cs wf o1 o2 D1 D2 h0 n0) s room_1.cells room_1.slots) (Tj119.setTop (mkF m 389 #[own_i i0, own_i i1, own_i i2, own_i i3, own_i r101, own_i r102, own_i r103, own_i nn, own_r hs, .val wu, .val wp, own_r r111, own_i zk.toInt32, own_i zk.toInt32, own_i SL.toInt32, own_i ((own_sz i1).toInt32), .val (.int (own_dl i2).toInt32)] [])) := by
                    intro Tj119 lj119 Xj119 ej119 Nj119 
                    have J120 : ∀ (Tj120 : State) (lj120 : List Loc) (Xj120 : Stand p l e room_1 (s.setVm T111.vm) m #[(.int i0), (.int i1), (.int i2), (.int i3)] below meth c Tj120 lj120 (45) (611)) (ej120 : Tj120.heap = T111.heap) (Nj120 : Fr n0 lj120), own_Fin p e below (own_PH Z (own_rm0_Q Z i0 i1 i2 i3 cs wf o1 o2 D1 D2 h0 n0) s room_1.cells room_1.slots) (Tj120.setTop (mkF m 411 #[own_i i0, own_i i1, own_i i2, own_i i3, own_i r101, own_i r102, own_i r103, own_i nn, own_r hs, .val wu, .val wp, own_r r111, own_i zk.toInt32, own_i zk.toInt32, own_i SL.toInt32, own_i ((own_sz i1).toInt32), .val (.int (own_dl i2).toInt32)] [])) := by
                      intro Tj120 lj120 Xj120 ej120 Nj120 
                      refine own_s Tj120 m 415 #[own_i i0, own_i i1, own_i i2, own_i i3, own_i r101, own_i r102, own_i r103, own_i nn, own_r hs, .val wu, .val wp, own_r r111, own_i zk.toInt32, own_i zk.toInt32, own_i SL.toInt32, own_i ((own_sz i1).toInt32), .val (.int (own_dl i2).toInt32)] [.int SL.toInt32, .ref r111] (fun t k => XS.aload Xj120.here hx rfl (hb hby at_411) rfl (rfl) (XS.iload Xj120.here hx rfl (hb hby at_413) rfl k)) ?_
                      obtain ⟨cq121, kq121, q121a, q121b, q121c⟩ := isOf hZ ej120 A111
                      obtain ⟨v121, _, ⟨T121, L121, k121, n121⟩, -, X121, ⟨Lc121, hQ121, l121, y121, z121⟩, st121⟩ := Xj120.virtualBack hx (y := own_n51) (z := own_n51) hown (mvT hZ (own_w hw 238 rfl)) (mvT hZ (own_w hw 239 rfl)) (notFace_of_selects (args := #[]) (mvT hZ (own_w hw 241 rfl))) (mvT hZ (own_w hw 241 rfl)) (mvT hZ (own_w hw 240 rfl)) (by decide) (backOf (W := 0) (own_rm45 l Z a0 hw [] r111 SL.toInt32 wf cs e111x RS (58 : Int32) T111.heap n0 (Nat.le_trans Z0 Kc111.1) (own_sta_keep SF Kc111 (fun _ _ _ _ => nin0)) hfr (own_sta_keep CS Kc111 (fun _ _ _ _ => nin0)) hcs Fc111 Fv111 V111 A111 (own_nnS (by omega : SL < 2147483648)) (by rw [own_ixS (by omega : SL < 2147483648)]; exact hR58) hRb) hZ (own_w hw 242 rfl) (own_w hw 6 rfl) (by decide) (by decide)) q121a q121c (g := (mkF m 415 #[own_i i0, own_i i1, own_i i2, own_i i3, own_i r101, own_i r102, own_i r103, own_i nn, own_r hs, .val wu, .val wp, own_r r111, own_i zk.toInt32, own_i zk.toInt32, own_i SL.toInt32, own_i ((own_sz i1).toInt32), .val (.int (own_dl i2).toInt32)] [.int SL.toInt32, .ref r111])) rfl (by rw [hml]; rfl) (Steps.refl _) (argsL := [.int SL.toInt32]) (rest := []) (lenOf own_pd35 rfl) rfl (by exact own_ca rfl) (hb hby at_415) (fun _ _ => ⟨rfl, ej120, (by decide : 45 + 0 ≤ _), (by decide : 611 + 0 ≤ _)⟩)
                      dsimp only [Pt.U, Pt.locs, Pt.cells, Pt.slots] at X121 l121 y121 z121 st121 hQ121
                      subst l121 y121 z121
                      obtain ⟨rfl, N121q, e121⟩ := hQ121
                      have N121 := Fr.app Nj120 N121q
                      refine own_s T121 m 427 #[own_i i0, own_i i1, own_i i2, own_i i3, own_i r101, own_i r102, own_i r103, own_i nn, own_r hs, .val wu, .val wp, own_r r111, own_i zk.toInt32, own_i zk.toInt32, own_i SL.toInt32, own_i ((own_sz i1).toInt32), .val (.int (own_dl i2).toInt32)] [.ref r111] (fun t k => st121.trans (XS.bipush X121.here hx rfl (hb hby at_418) (XS.icmpYes X121.here hx rfl (pc0 := 420) (pc' := 425) rfl (hb hby at_420) rfl (XT.ii_eq_t (by decide)) (by decide) (by decide) (XS.aload X121.here hx rfl (hb hby at_425) rfl (rfl) k)))) ?_
                      refine own_s T121 m 432 #[own_i i0, own_i i1, own_i i2, own_i i3, own_i r101, own_i r102, own_i r103, own_i nn, own_r hs, .val wu, .val wp, own_r r111, own_i zk.toInt32, own_i zk.toInt32, own_i SL.toInt32, own_i ((own_sz i1).toInt32), .val (.int (own_dl i2).toInt32)] [.int i1, .int (SL.toInt32 + (1 : Int32)), .ref r111] (fun t k => XS.iload X121.here hx rfl (hb hby at_427) rfl (XS.iconst X121.here hx rfl (hb hby at_429) (XS.iadd X121.here hx rfl (hb hby at_430) rfl (XS.iloadN X121.here hx rfl (hb hby at_431) rfl k)))) ?_
                      rw [own_succS SL]
                      obtain ⟨v122, _, ⟨T122, L122, k122, n122⟩, -, X122, ⟨Lc122, hQ122, l122, y122, z122⟩, st122⟩ := Jvm.LawKit.callS X121 hx (y := own_n53) hown (mvT hZ (own_w hw 254 rfl)) (mvT hZ (own_w hw 255 rfl)) (mvT hZ (own_w hw 2 rfl)) (mvT hZ (own_w hw 256 rfl)) (by decide) (backOf (W := 0) (own_rm49 l Z a0 hw [] r111 (SL + 1).toInt32 i1 wf cs e111x RS (SL + 1) T111.heap n0 (Nat.le_trans Z0 Kc111.1) (own_sta_keep SF Kc111 (fun _ _ _ _ => nin0)) hfr (own_sta_keep CS Kc111 (fun _ _ _ _ => nin0)) hcs Fc111 Fv111 V111 A111 rfl (by omega) hRb hRp) hZ (own_w hw 256 rfl) (own_w hw 2 rfl) (by decide) (by decide)) (g := (mkF m 432 #[own_i i0, own_i i1, own_i i2, own_i i3, own_i r101, own_i r102, own_i r103, own_i nn, own_r hs, .val wu, .val wp, own_r r111, own_i zk.toInt32, own_i zk.toInt32, own_i SL.toInt32, own_i ((own_sz i1).toInt32), .val (.int (own_dl i2).toInt32)] [.int i1, .int (SL + 1).toInt32, .ref r111])) rfl (by rw [hml]; rfl) (argsL := [.ref r111, .int (SL + 1).toInt32, .int i1]) (rest := []) (lenOf own_pd42 rfl) rfl (by exact own_ca rfl) (hb hby at_432) (fun _ _ => ⟨rfl, e121, (by decide : 45 + 10 ≤ _), (by decide : 611 + 100 ≤ _)⟩)
                      dsimp only [Pt.U, Pt.locs, Pt.cells, Pt.slots] at X122 l122 y122 z122 st122 hQ122
                      subst l122 y122 z122
                      obtain ⟨rfl, N122q, K122⟩ := hQ122
                      have hCR122 := hCR111.trans (CHr.keep K122 sf0 hCR111.1)
                      have Kc122 : Keep h0 T122.heap [] := Kc111.trans K122 all0
                      have N122 := Fr.app N121 N122q
                      refine own_s T122 m 441 #[own_i i0, own_i i1, own_i i2, own_i i3, own_i r101, own_i r102, own_i r103, own_i nn, own_r hs, .val wu, .val wp, own_r r111, own_i zk.toInt32, own_i zk.toInt32, own_i SL.toInt32, own_i ((own_sz i1).toInt32), .val (.int (own_dl i2).toInt32)] [.int i2] (fun t k => st122 _ (XS.ifYes X122.here hx rfl (pc0 := 435) (pc' := 440) rfl (hb hby at_435) rfl (XT.i0_ne_t (by decide)) (by decide) (by decide) (XS.iloadN X122.here hx rfl (hb hby at_440) rfl k))) ?_
                      by_cases hc441_123 : i2 = 0
                      · refine own_s T122 m 478 #[own_i i0, own_i i1, own_i i2, own_i i3, own_i r101, own_i r102, own_i r103, own_i nn, own_r hs, .val wu, .val wp, own_r r111, own_i zk.toInt32, own_i zk.toInt32, own_i SL.toInt32, own_i ((own_sz i1).toInt32), .val (.int (own_dl i2).toInt32)] [.int 1] (fun t k => XS.ifYes X122.here hx rfl (pc0 := 441) (pc' := 477) rfl (hb hby at_441) rfl (XT.i0_eq_t hc441_123) (by decide) (by decide) (XS.iconst X122.here hx rfl (hb hby at_477) k)) ?_
                        exact own_retBH X122 hS111 (by rw [(rfl : T122.heap = T122.heap)]; exact (Nat.le_trans (Nat.le_of_eq (congrArg Array.size (rfl : T111.heap = T111.heap))) K122.1)) hx hlk (t := .boolean) Bd.returns (by simp) (hb hby at_478) (hCR := (by rw [hh, (rfl : T122.heap = T122.heap)]; exact hCR122.trans (CHv.at X122 hZ (own_hEL hw) hCR122.1))) ⟨rfl, N122⟩ (by decide) (by decide)
                      · refine own_s T122 m 449 #[own_i i0, own_i i1, own_i i2, own_i i3, own_i r101, own_i r102, own_i r103, own_i nn, own_r hs, .val wu, .val wp, own_r r111, own_i zk.toInt32, own_i zk.toInt32, own_i SL.toInt32, own_i ((own_sz i1).toInt32), .val (.int (own_dl i2).toInt32)] [.int 1, .int SL.toInt32, .ref r111] (fun t k => XS.ifNo X122.here hx rfl (hb hby at_441) rfl (XT.i0_eq_f hc441_123) (XS.aload X122.here hx rfl (hb hby at_444) rfl (rfl) (XS.iload X122.here hx rfl (hb hby at_446) rfl (XS.iconst X122.here hx rfl (hb hby at_448) k)))) ?_
                        refine own_s T122 m 453 #[own_i i0, own_i i1, own_i i2, own_i i3, own_i r101, own_i r102, own_i r103, own_i nn, own_r hs, .val wu, .val wp, own_r r111, own_i zk.toInt32, own_i zk.toInt32, own_i SL.toInt32, own_i ((own_sz i1).toInt32), .val (.int (own_dl i2).toInt32)] [.int ((SL.toInt32 + (1 : Int32)) + ((own_sz i1).toInt32)), .ref r111] (fun t k => XS.iadd X122.here hx rfl (hb hby at_449) rfl (XS.iload X122.here hx rfl (hb hby at_450) rfl (XS.iadd X122.here hx rfl (hb hby at_452) rfl k))) ?_
                        rw [own_succS SL, own_addS]
                        obtain ⟨cq124, kq124, q124a, q124b, q124c⟩ := isOf hZ rfl (A111.keep K122)
                        obtain ⟨v124, _, ⟨T124, L124, k124, n124⟩, -, X124, ⟨Lc124, hQ124, l124, y124, z124⟩, st124⟩ := X122.virtualBack hx (y := own_n51) (z := own_n51) hown (mvT hZ (own_w hw 238 rfl)) (mvT hZ (own_w hw 239 rfl)) (notFace_of_selects (args := #[]) (mvT hZ (own_w hw 241 rfl))) (mvT hZ (own_w hw 241 rfl)) (mvT hZ (own_w hw 240 rfl)) (by decide) (backOf (W := 0) (own_rm45 l Z a0 hw [] r111 (SL + 1 + own_sz i1).toInt32 wf cs e111x RS (47 : Int32) T122.heap n0 (Nat.le_trans Z0 Kc122.1) (own_sta_keep SF Kc122 (fun _ _ _ _ => nin0)) hfr (own_sta_keep CS Kc122 (fun _ _ _ _ => nin0)) hcs (Fc111.keep K122 nin0) (Fv111.keep K122 nin0) (V111.keep K122 nin0) (A111.keep K122) (own_nnS (by omega : SL + 1 + own_sz i1 < 2147483648)) (by rw [own_ixS (by omega : SL + 1 + own_sz i1 < 2147483648)]; exact hR47 hc441_123) hRb) hZ (own_w hw 242 rfl) (own_w hw 6 rfl) (by decide) (by decide)) q124a q124c (g := (mkF m 453 #[own_i i0, own_i i1, own_i i2, own_i i3, own_i r101, own_i r102, own_i r103, own_i nn, own_r hs, .val wu, .val wp, own_r r111, own_i zk.toInt32, own_i zk.toInt32, own_i SL.toInt32, own_i ((own_sz i1).toInt32), .val (.int (own_dl i2).toInt32)] [.int (SL + 1 + own_sz i1).toInt32, .ref r111])) rfl (by rw [hml]; rfl) (Steps.refl _) (argsL := [.int (SL + 1 + own_sz i1).toInt32]) (rest := []) (lenOf own_pd35 rfl) rfl (by exact own_ca rfl) (hb hby at_453) (fun _ _ => ⟨rfl, rfl, (by decide : 55 + 0 ≤ _), (by decide : 711 + 0 ≤ _)⟩)
                        dsimp only [Pt.U, Pt.locs, Pt.cells, Pt.slots] at X124 l124 y124 z124 st124 hQ124
                        subst l124 y124 z124
                        obtain ⟨rfl, N124q, e124⟩ := hQ124
                        have N124 := Fr.app N122 N124q
                        refine own_s T124 m 465 #[own_i i0, own_i i1, own_i i2, own_i i3, own_i r101, own_i r102, own_i r103, own_i nn, own_r hs, .val wu, .val wp, own_r r111, own_i zk.toInt32, own_i zk.toInt32, own_i SL.toInt32, own_i ((own_sz i1).toInt32), .val (.int (own_dl i2).toInt32)] [.ref r111] (fun t k => st124.trans (XS.bipush X124.here hx rfl (hb hby at_456) (XS.icmpYes X124.here hx rfl (pc0 := 458) (pc' := 463) rfl (hb hby at_458) rfl (XT.ii_eq_t (by decide)) (by decide) (by decide) (XS.aload X124.here hx rfl (hb hby at_463) rfl (rfl) k)))) ?_
                        refine own_s T124 m 471 #[own_i i0, own_i i1, own_i i2, own_i i3, own_i r101, own_i r102, own_i r103, own_i nn, own_r hs, .val wu, .val wp, own_r r111, own_i zk.toInt32, own_i zk.toInt32, own_i SL.toInt32, own_i ((own_sz i1).toInt32), .val (.int (own_dl i2).toInt32)] [.int ((own_sz i1).toInt32), .int (SL.toInt32 + (2 : Int32)), .ref r111] (fun t k => XS.iload X124.here hx rfl (hb hby at_465) rfl (XS.iconst X124.here hx rfl (hb hby at_467) (XS.iadd X124.here hx rfl (hb hby at_468) rfl (XS.iload X124.here hx rfl (hb hby at_469) rfl k)))) ?_
                        refine own_s T124 m 473 #[own_i i0, own_i i1, own_i i2, own_i i3, own_i r101, own_i r102, own_i r103, own_i nn, own_r hs, .val wu, .val wp, own_r r111, own_i zk.toInt32, own_i zk.toInt32, own_i SL.toInt32, own_i ((own_sz i1).toInt32), .val (.int (own_dl i2).toInt32)] [.int i2, .int ((SL.toInt32 + (2 : Int32)) + ((own_sz i1).toInt32)), .ref r111] (fun t k => XS.iadd X124.here hx rfl (hb hby at_471) rfl (XS.iloadN X124.here hx rfl (hb hby at_472) rfl k)) ?_
                        rw [own_add2 SL, own_addS]
                        obtain ⟨v125, _, ⟨T125, L125, k125, n125⟩, -, X125, ⟨Lc125, hQ125, l125, y125, z125⟩, st125⟩ := Jvm.LawKit.callS X124 hx (y := own_n53) hown (mvT hZ (own_w hw 254 rfl)) (mvT hZ (own_w hw 255 rfl)) (mvT hZ (own_w hw 2 rfl)) (mvT hZ (own_w hw 256 rfl)) (by decide) (backOf (W := 0) (own_rm49 l Z a0 hw [] r111 (SL + 2 + own_sz i1).toInt32 i2 wf cs e111x RS (SL + 2 + own_sz i1) T122.heap n0 (Nat.le_trans Z0 Kc122.1) (own_sta_keep SF Kc122 (fun _ _ _ _ => nin0)) hfr (own_sta_keep CS Kc122 (fun _ _ _ _ => nin0)) hcs (Fc111.keep K122 nin0) (Fv111.keep K122 nin0) (V111.keep K122 nin0) (A111.keep K122) rfl (by rw [hRl, own_dl, if_neg hc441_123]; omega) hRb (hRd hc441_123)) hZ (own_w hw 256 rfl) (own_w hw 2 rfl) (by decide) (by decide)) (g := (mkF m 473 #[own_i i0, own_i i1, own_i i2, own_i i3, own_i r101, own_i r102, own_i r103, own_i nn, own_r hs, .val wu, .val wp, own_r r111, own_i zk.toInt32, own_i zk.toInt32, own_i SL.toInt32, own_i ((own_sz i1).toInt32), .val (.int (own_dl i2).toInt32)] [.int i2, .int (SL + 2 + own_sz i1).toInt32, .ref r111])) rfl (by rw [hml]; rfl) (argsL := [.ref r111, .int (SL + 2 + own_sz i1).toInt32, .int i2]) (rest := []) (lenOf own_pd42 rfl) rfl (by exact own_ca rfl) (hb hby at_473) (fun _ _ => ⟨rfl, e124, (by decide : 55 + 10 ≤ _), (by decide : 711 + 100 ≤ _)⟩)
                        dsimp only [Pt.U, Pt.locs, Pt.cells, Pt.slots] at X125 l125 y125 z125 st125 hQ125
                        subst l125 y125 z125
                        obtain ⟨rfl, N125q, K125⟩ := hQ125
                        have hCR125 := hCR122.trans (CHr.keep K125 sf0 hCR122.1)
                        have Kc125 : Keep h0 T125.heap [] := Kc122.trans K125 all0
                        have N125 := Fr.app N124 N125q
                        refine own_s T125 m 476 #[own_i i0, own_i i1, own_i i2, own_i i3, own_i r101, own_i r102, own_i r103, own_i nn, own_r hs, .val wu, .val wp, own_r r111, own_i zk.toInt32, own_i zk.toInt32, own_i SL.toInt32, own_i ((own_sz i1).toInt32), .val (.int (own_dl i2).toInt32)] [.int 1] (fun t k => st125 _ k) ?_
                        exact own_retBH X125 hS111 (by rw [(rfl : T125.heap = T125.heap)]; exact (Nat.le_trans (Nat.le_trans (Nat.le_of_eq (congrArg Array.size (rfl : T111.heap = T111.heap))) K122.1) K125.1)) hx hlk (t := .boolean) Bd.returns (by simp) (hb hby at_476) (hCR := (by rw [hh, (rfl : T125.heap = T125.heap)]; exact hCR125.trans (CHv.at X125 hZ (own_hEL hw) hCR125.1))) ⟨rfl, N125⟩ (by decide) (by decide)
                    refine own_s Tj119 m 392 #[own_i i0, own_i i1, own_i i2, own_i i3, own_i r101, own_i r102, own_i r103, own_i nn, own_r hs, .val wu, .val wp, own_r r111, own_i zk.toInt32, own_i zk.toInt32, own_i SL.toInt32, own_i ((own_sz i1).toInt32), .val (.int (own_dl i2).toInt32)] [.int 3, .int nn] (fun t k => XS.iload Xj119.here hx rfl (hb hby at_389) rfl (XS.iconst Xj119.here hx rfl (hb hby at_391) k)) ?_
                    by_cases hc392_126 : nn < (3 : Int32)
                    · refine own_s Tj119 m 411 #[own_i i0, own_i i1, own_i i2, own_i i3, own_i r101, own_i r102, own_i r103, own_i nn, own_r hs, .val wu, .val wp, own_r r111, own_i zk.toInt32, own_i zk.toInt32, own_i SL.toInt32, own_i ((own_sz i1).toInt32), .val (.int (own_dl i2).toInt32)] [] (fun t k => XS.icmpYes Xj119.here hx rfl (pc0 := 392) (pc' := 411) rfl (hb hby at_392) rfl (XT.ii_lt_t hc392_126) (by decide) (by decide) k) ?_
                      exact J120 _ _ (Xj119.more (by decide) (by decide)) ej119 Nj119 
                    · refine own_s Tj119 m 400 #[own_i i0, own_i i1, own_i i2, own_i i3, own_i r101, own_i r102, own_i r103, own_i nn, own_r hs, .val wu, .val wp, own_r r111, own_i zk.toInt32, own_i zk.toInt32, own_i SL.toInt32, own_i ((own_sz i1).toInt32), .val (.int (own_dl i2).toInt32)] [.int 2, .int zk.toInt32, .ref r111] (fun t k => XS.icmpNo Xj119.here hx rfl (hb hby at_392) rfl (XT.ii_lt_f hc392_126) (XS.aload Xj119.here hx rfl (hb hby at_395) rfl (rfl) (XS.iload Xj119.here hx rfl (hb hby at_397) rfl (XS.iconst Xj119.here hx rfl (hb hby at_399) k)))) ?_
                      refine own_s Tj119 m 401 #[own_i i0, own_i i1, own_i i2, own_i i3, own_i r101, own_i r102, own_i r103, own_i nn, own_r hs, .val wu, .val wp, own_r r111, own_i zk.toInt32, own_i zk.toInt32, own_i SL.toInt32, own_i ((own_sz i1).toInt32), .val (.int (own_dl i2).toInt32)] [.int (zk.toInt32 + (2 : Int32)), .ref r111] (fun t k => XS.iadd Xj119.here hx rfl (hb hby at_400) rfl k) ?_
                      rw [own_add2 zk]
                      obtain ⟨cq127, kq127, q127a, q127b, q127c⟩ := isOf hZ ej119 A111
                      obtain ⟨v127, _, ⟨T127, L127, k127, n127⟩, -, X127, ⟨Lc127, hQ127, l127, y127, z127⟩, st127⟩ := Xj119.virtualBack hx (y := own_n51) (z := own_n51) hown (mvT hZ (own_w hw 238 rfl)) (mvT hZ (own_w hw 239 rfl)) (notFace_of_selects (args := #[]) (mvT hZ (own_w hw 241 rfl))) (mvT hZ (own_w hw 241 rfl)) (mvT hZ (own_w hw 240 rfl)) (by decide) (backOf (W := 0) (own_rm45 l Z a0 hw [] r111 (zk + 2).toInt32 wf cs e111x RS (own_b8 r103) T111.heap n0 (Nat.le_trans Z0 Kc111.1) (own_sta_keep SF Kc111 (fun _ _ _ _ => nin0)) hfr (own_sta_keep CS Kc111 (fun _ _ _ _ => nin0)) hcs Fc111 Fv111 V111 A111 (own_nnS (by omega : zk + 2 < 2147483648)) (by rw [own_ixS (by omega : zk + 2 < 2147483648)]; exact own_cAt hRH (hx2 hc392_126)) hRb) hZ (own_w hw 242 rfl) (own_w hw 6 rfl) (by decide) (by decide)) q127a q127c (g := (mkF m 401 #[own_i i0, own_i i1, own_i i2, own_i i3, own_i r101, own_i r102, own_i r103, own_i nn, own_r hs, .val wu, .val wp, own_r r111, own_i zk.toInt32, own_i zk.toInt32, own_i SL.toInt32, own_i ((own_sz i1).toInt32), .val (.int (own_dl i2).toInt32)] [.int (zk + 2).toInt32, .ref r111])) rfl (by rw [hml]; rfl) (Steps.refl _) (argsL := [.int (zk + 2).toInt32]) (rest := []) (lenOf own_pd35 rfl) rfl (by exact own_ca rfl) (hb hby at_401) (fun _ _ => ⟨rfl, ej119, (by decide : 45 + 0 ≤ _), (by decide : 611 + 0 ≤ _)⟩)
                      dsimp only [Pt.U, Pt.locs, Pt.cells, Pt.slots] at X127 l127 y127 z127 st127 hQ127
                      subst l127 y127 z127
                      obtain ⟨rfl, N127q, e127⟩ := hQ127
                      have N127 := Fr.app Nj119 N127q
                      refine own_s T127 m 411 #[own_i i0, own_i i1, own_i i2, own_i i3, own_i r101, own_i r102, own_i r103, own_i nn, own_r hs, .val wu, .val wp, own_r r111, own_i zk.toInt32, own_i zk.toInt32, own_i SL.toInt32, own_i ((own_sz i1).toInt32), .val (.int (own_dl i2).toInt32)] [] (fun t k => st127.trans (XS.iload X127.here hx rfl (hb hby at_404) rfl (XS.icmpYes X127.here hx rfl (pc0 := 406) (pc' := 411) rfl (hb hby at_406) rfl (XT.ii_eq_t (own_c8b lr103 zr103)) (by decide) (by decide) k))) ?_
                      exact J120 _ _ (X127.more (by decide) (by decide)) e127 N127 
                  refine own_s Tj118 m 370 #[own_i i0, own_i i1, own_i i2, own_i i3, own_i r101, own_i r102, own_i r103, own_i nn, own_r hs, .val wu, .val wp, own_r r111, own_i zk.toInt32, own_i zk.toInt32, own_i SL.toInt32, own_i ((own_sz i1).toInt32), .val (.int (own_dl i2).toInt32)] [.int 2, .int nn] (fun t k => XS.iload Xj118.here hx rfl (hb hby at_367) rfl (XS.iconst Xj118.here hx rfl (hb hby at_369) k)) ?_
                  by_cases hc370_128 : nn < (2 : Int32)
                  · refine own_s Tj118 m 389 #[own_i i0, own_i i1, own_i i2, own_i i3, own_i r101, own_i r102, own_i r103, own_i nn, own_r hs, .val wu, .val wp, own_r r111, own_i zk.toInt32, own_i zk.toInt32, own_i SL.toInt32, own_i ((own_sz i1).toInt32), .val (.int (own_dl i2).toInt32)] [] (fun t k => XS.icmpYes Xj118.here hx rfl (pc0 := 370) (pc' := 389) rfl (hb hby at_370) rfl (XT.ii_lt_t hc370_128) (by decide) (by decide) k) ?_
                    exact J119 _ _ (Xj118.more (by decide) (by decide)) ej118 Nj118 
                  · refine own_s Tj118 m 378 #[own_i i0, own_i i1, own_i i2, own_i i3, own_i r101, own_i r102, own_i r103, own_i nn, own_r hs, .val wu, .val wp, own_r r111, own_i zk.toInt32, own_i zk.toInt32, own_i SL.toInt32, own_i ((own_sz i1).toInt32), .val (.int (own_dl i2).toInt32)] [.int 1, .int zk.toInt32, .ref r111] (fun t k => XS.icmpNo Xj118.here hx rfl (hb hby at_370) rfl (XT.ii_lt_f hc370_128) (XS.aload Xj118.here hx rfl (hb hby at_373) rfl (rfl) (XS.iload Xj118.here hx rfl (hb hby at_375) rfl (XS.iconst Xj118.here hx rfl (hb hby at_377) k)))) ?_
                    refine own_s Tj118 m 379 #[own_i i0, own_i i1, own_i i2, own_i i3, own_i r101, own_i r102, own_i r103, own_i nn, own_r hs, .val wu, .val wp, own_r r111, own_i zk.toInt32, own_i zk.toInt32, own_i SL.toInt32, own_i ((own_sz i1).toInt32), .val (.int (own_dl i2).toInt32)] [.int (zk.toInt32 + (1 : Int32)), .ref r111] (fun t k => XS.iadd Xj118.here hx rfl (hb hby at_378) rfl k) ?_
                    rw [own_succS zk]
                    obtain ⟨cq129, kq129, q129a, q129b, q129c⟩ := isOf hZ ej118 A111
                    obtain ⟨v129, _, ⟨T129, L129, k129, n129⟩, -, X129, ⟨Lc129, hQ129, l129, y129, z129⟩, st129⟩ := Xj118.virtualBack hx (y := own_n51) (z := own_n51) hown (mvT hZ (own_w hw 238 rfl)) (mvT hZ (own_w hw 239 rfl)) (notFace_of_selects (args := #[]) (mvT hZ (own_w hw 241 rfl))) (mvT hZ (own_w hw 241 rfl)) (mvT hZ (own_w hw 240 rfl)) (by decide) (backOf (W := 0) (own_rm45 l Z a0 hw [] r111 (zk + 1).toInt32 wf cs e111x RS (own_b8 r102) T111.heap n0 (Nat.le_trans Z0 Kc111.1) (own_sta_keep SF Kc111 (fun _ _ _ _ => nin0)) hfr (own_sta_keep CS Kc111 (fun _ _ _ _ => nin0)) hcs Fc111 Fv111 V111 A111 (own_nnS (by omega : zk + 1 < 2147483648)) (by rw [own_ixS (by omega : zk + 1 < 2147483648)]; exact own_cAt hRH (hx1 hc370_128)) hRb) hZ (own_w hw 242 rfl) (own_w hw 6 rfl) (by decide) (by decide)) q129a q129c (g := (mkF m 379 #[own_i i0, own_i i1, own_i i2, own_i i3, own_i r101, own_i r102, own_i r103, own_i nn, own_r hs, .val wu, .val wp, own_r r111, own_i zk.toInt32, own_i zk.toInt32, own_i SL.toInt32, own_i ((own_sz i1).toInt32), .val (.int (own_dl i2).toInt32)] [.int (zk + 1).toInt32, .ref r111])) rfl (by rw [hml]; rfl) (Steps.refl _) (argsL := [.int (zk + 1).toInt32]) (rest := []) (lenOf own_pd35 rfl) rfl (by exact own_ca rfl) (hb hby at_379) (fun _ _ => ⟨rfl, ej118, (by decide : 45 + 0 ≤ _), (by decide : 611 + 0 ≤ _)⟩)
                    dsimp only [Pt.U, Pt.locs, Pt.cells, Pt.slots] at X129 l129 y129 z129 st129 hQ129
                    subst l129 y129 z129
                    obtain ⟨rfl, N129q, e129⟩ := hQ129
                    have N129 := Fr.app Nj118 N129q
                    refine own_s T129 m 389 #[own_i i0, own_i i1, own_i i2, own_i i3, own_i r101, own_i r102, own_i r103, own_i nn, own_r hs, .val wu, .val wp, own_r r111, own_i zk.toInt32, own_i zk.toInt32, own_i SL.toInt32, own_i ((own_sz i1).toInt32), .val (.int (own_dl i2).toInt32)] [] (fun t k => st129.trans (XS.iload X129.here hx rfl (hb hby at_382) rfl (XS.icmpYes X129.here hx rfl (pc0 := 384) (pc' := 389) rfl (hb hby at_384) rfl (XT.ii_eq_t (own_c8b lr102 zr102)) (by decide) (by decide) k))) ?_
                    exact J119 _ _ (X129.more (by decide) (by decide)) e129 N129 
                refine own_s Tj117 m 350 #[own_i i0, own_i i1, own_i i2, own_i i3, own_i r101, own_i r102, own_i r103, own_i nn, own_r hs, .val wu, .val wp, own_r r111, own_i zk.toInt32, own_i zk.toInt32, own_i SL.toInt32, own_i ((own_sz i1).toInt32), .val (.int (own_dl i2).toInt32)] [.int 1, .int nn] (fun t k => XS.iload Xj117.here hx rfl (hb hby at_347) rfl (XS.iconst Xj117.here hx rfl (hb hby at_349) k)) ?_
                by_cases hc350_130 : nn < (1 : Int32)
                · refine own_s Tj117 m 367 #[own_i i0, own_i i1, own_i i2, own_i i3, own_i r101, own_i r102, own_i r103, own_i nn, own_r hs, .val wu, .val wp, own_r r111, own_i zk.toInt32, own_i zk.toInt32, own_i SL.toInt32, own_i ((own_sz i1).toInt32), .val (.int (own_dl i2).toInt32)] [] (fun t k => XS.icmpYes Xj117.here hx rfl (pc0 := 350) (pc' := 367) rfl (hb hby at_350) rfl (XT.ii_lt_t hc350_130) (by decide) (by decide) k) ?_
                  exact J118 _ _ (Xj117.more (by decide) (by decide)) ej117 Nj117 
                · refine own_s Tj117 m 357 #[own_i i0, own_i i1, own_i i2, own_i i3, own_i r101, own_i r102, own_i r103, own_i nn, own_r hs, .val wu, .val wp, own_r r111, own_i zk.toInt32, own_i zk.toInt32, own_i SL.toInt32, own_i ((own_sz i1).toInt32), .val (.int (own_dl i2).toInt32)] [.int zk.toInt32, .ref r111] (fun t k => XS.icmpNo Xj117.here hx rfl (hb hby at_350) rfl (XT.ii_lt_f hc350_130) (XS.aload Xj117.here hx rfl (hb hby at_353) rfl (rfl) (XS.iload Xj117.here hx rfl (hb hby at_355) rfl k))) ?_
                  obtain ⟨cq131, kq131, q131a, q131b, q131c⟩ := isOf hZ ej117 A111
                  obtain ⟨v131, _, ⟨T131, L131, k131, n131⟩, -, X131, ⟨Lc131, hQ131, l131, y131, z131⟩, st131⟩ := Xj117.virtualBack hx (y := own_n51) (z := own_n51) hown (mvT hZ (own_w hw 238 rfl)) (mvT hZ (own_w hw 239 rfl)) (notFace_of_selects (args := #[]) (mvT hZ (own_w hw 241 rfl))) (mvT hZ (own_w hw 241 rfl)) (mvT hZ (own_w hw 240 rfl)) (by decide) (backOf (W := 0) (own_rm45 l Z a0 hw [] r111 zk.toInt32 wf cs e111x RS (own_b8 r101) T111.heap n0 (Nat.le_trans Z0 Kc111.1) (own_sta_keep SF Kc111 (fun _ _ _ _ => nin0)) hfr (own_sta_keep CS Kc111 (fun _ _ _ _ => nin0)) hcs Fc111 Fv111 V111 A111 (own_nnS (by omega : zk < 2147483648)) (by rw [own_ixS (by omega : zk < 2147483648)]; exact own_cAt (zk := zk) (k := 0) hRH (hx0 hc350_130)) hRb) hZ (own_w hw 242 rfl) (own_w hw 6 rfl) (by decide) (by decide)) q131a q131c (g := (mkF m 357 #[own_i i0, own_i i1, own_i i2, own_i i3, own_i r101, own_i r102, own_i r103, own_i nn, own_r hs, .val wu, .val wp, own_r r111, own_i zk.toInt32, own_i zk.toInt32, own_i SL.toInt32, own_i ((own_sz i1).toInt32), .val (.int (own_dl i2).toInt32)] [.int zk.toInt32, .ref r111])) rfl (by rw [hml]; rfl) (Steps.refl _) (argsL := [.int zk.toInt32]) (rest := []) (lenOf own_pd35 rfl) rfl (by exact own_ca rfl) (hb hby at_357) (fun _ _ => ⟨rfl, ej117, (by decide : 45 + 0 ≤ _), (by decide : 611 + 0 ≤ _)⟩)
                  dsimp only [Pt.U, Pt.locs, Pt.cells, Pt.slots] at X131 l131 y131 z131 st131 hQ131
                  subst l131 y131 z131
                  obtain ⟨rfl, N131q, e131⟩ := hQ131
                  have N131 := Fr.app Nj117 N131q
                  refine own_s T131 m 367 #[own_i i0, own_i i1, own_i i2, own_i i3, own_i r101, own_i r102, own_i r103, own_i nn, own_r hs, .val wu, .val wp, own_r r111, own_i zk.toInt32, own_i zk.toInt32, own_i SL.toInt32, own_i ((own_sz i1).toInt32), .val (.int (own_dl i2).toInt32)] [] (fun t k => st131.trans (XS.iload X131.here hx rfl (hb hby at_360) rfl (XS.icmpYes X131.here hx rfl (pc0 := 362) (pc' := 367) rfl (hb hby at_362) rfl (XT.ii_eq_t (own_c8b lr101 zr101)) (by decide) (by decide) k))) ?_
                  exact J118 _ _ (X131.more (by decide) (by decide)) e131 N131 
              refine own_s T116 m 317 #[own_i i0, own_i i1, own_i i2, own_i i3, own_i r101, own_i r102, own_i r103, own_i nn, own_r hs, .val wu, .val wp, own_r r111, own_i zk.toInt32, own_i zk.toInt32, own_i SL.toInt32, own_i ((own_sz i1).toInt32), .val (.int (own_dl i2).toInt32)] [.int zk.toInt32] (fun t k => XS.iload X116.here hx rfl (hb hby at_315) rfl k) ?_
              by_cases hc317_132 : zk.toInt32 = 0
              · refine own_s T116 m 347 #[own_i i0, own_i i1, own_i i2, own_i i3, own_i r101, own_i r102, own_i r103, own_i nn, own_r hs, .val wu, .val wp, own_r r111, own_i zk.toInt32, own_i zk.toInt32, own_i SL.toInt32, own_i ((own_sz i1).toInt32), .val (.int (own_dl i2).toInt32)] [] (fun t k => XS.ifYes X116.here hx rfl (pc0 := 317) (pc' := 347) rfl (hb hby at_317) rfl (XT.i0_eq_t hc317_132) (by decide) (by decide) k) ?_
                exact J117 _ _ (X116.more (by decide) (by decide)) e116 N116 
              · refine own_s T116 m 323 #[own_i i0, own_i i1, own_i i2, own_i i3, own_i r101, own_i r102, own_i r103, own_i nn, own_r hs, .val wu, .val wp, own_r r111, own_i zk.toInt32, own_i zk.toInt32, own_i SL.toInt32, own_i ((own_sz i1).toInt32), .val (.int (own_dl i2).toInt32)] [.int 0, .ref r111] (fun t k => XS.ifNo X116.here hx rfl (hb hby at_317) rfl (XT.i0_eq_f hc317_132) (XS.aload X116.here hx rfl (hb hby at_320) rfl (rfl) (XS.iconst X116.here hx rfl (hb hby at_322) k))) ?_
                obtain ⟨cq133, kq133, q133a, q133b, q133c⟩ := isOf hZ e116 A111
                obtain ⟨v133, _, ⟨T133, L133, k133, n133⟩, -, X133, ⟨Lc133, hQ133, l133, y133, z133⟩, st133⟩ := X116.virtualBack hx (y := own_n51) (z := own_n51) hown (mvT hZ (own_w hw 238 rfl)) (mvT hZ (own_w hw 239 rfl)) (notFace_of_selects (args := #[]) (mvT hZ (own_w hw 241 rfl))) (mvT hZ (own_w hw 241 rfl)) (mvT hZ (own_w hw 240 rfl)) (by decide) (backOf (W := 0) (own_rm45 l Z a0 hw [] r111 (0 : Int32) wf cs e111x RS (91 : Int32) T111.heap n0 (Nat.le_trans Z0 Kc111.1) (own_sta_keep SF Kc111 (fun _ _ _ _ => nin0)) hfr (own_sta_keep CS Kc111 (fun _ _ _ _ => nin0)) hcs Fc111 Fv111 V111 A111 (by decide) (by rw [show (0 : Int32).toNatClampNeg = 0 from by decide]; exact hR91 (own_zkv hz1 hc317_132)) hRb) hZ (own_w hw 242 rfl) (own_w hw 6 rfl) (by decide) (by decide)) q133a q133c (g := (mkF m 323 #[own_i i0, own_i i1, own_i i2, own_i i3, own_i r101, own_i r102, own_i r103, own_i nn, own_r hs, .val wu, .val wp, own_r r111, own_i zk.toInt32, own_i zk.toInt32, own_i SL.toInt32, own_i ((own_sz i1).toInt32), .val (.int (own_dl i2).toInt32)] [.int 0, .ref r111])) rfl (by rw [hml]; rfl) (Steps.refl _) (argsL := [.int 0]) (rest := []) (lenOf own_pd35 rfl) rfl (by exact own_ca rfl) (hb hby at_323) (fun _ _ => ⟨rfl, e116, (by decide : 45 + 0 ≤ _), (by decide : 611 + 0 ≤ _)⟩)
                dsimp only [Pt.U, Pt.locs, Pt.cells, Pt.slots] at X133 l133 y133 z133 st133 hQ133
                subst l133 y133 z133
                obtain ⟨rfl, N133q, e133⟩ := hQ133
                have N133 := Fr.app N116 N133q
                refine own_s T133 m 333 #[own_i i0, own_i i1, own_i i2, own_i i3, own_i r101, own_i r102, own_i r103, own_i nn, own_r hs, .val wu, .val wp, own_r r111, own_i zk.toInt32, own_i zk.toInt32, own_i SL.toInt32, own_i ((own_sz i1).toInt32), .val (.int (own_dl i2).toInt32)] [.ref r111] (fun t k => st133.trans (XS.bipush X133.here hx rfl (hb hby at_326) (XS.icmpNo X133.here hx rfl (hb hby at_328) rfl (XT.ii_ne_f (by decide)) (XS.aload X133.here hx rfl (hb hby at_331) rfl (rfl) k)))) ?_
                refine own_s T133 m 337 #[own_i i0, own_i i1, own_i i2, own_i i3, own_i r101, own_i r102, own_i r103, own_i nn, own_r hs, .val wu, .val wp, own_r r111, own_i zk.toInt32, own_i zk.toInt32, own_i SL.toInt32, own_i ((own_sz i1).toInt32), .val (.int (own_dl i2).toInt32)] [.int (nn + (1 : Int32)), .ref r111] (fun t k => XS.iload X133.here hx rfl (hb hby at_333) rfl (XS.iconst X133.here hx rfl (hb hby at_335) (XS.iadd X133.here hx rfl (hb hby at_336) rfl k))) ?_
                rw [own_nn1 hnL]
                obtain ⟨cq134, kq134, q134a, q134b, q134c⟩ := isOf hZ e133 A111
                obtain ⟨v134, _, ⟨T134, L134, k134, n134⟩, -, X134, ⟨Lc134, hQ134, l134, y134, z134⟩, st134⟩ := X133.virtualBack hx (y := own_n51) (z := own_n51) hown (mvT hZ (own_w hw 238 rfl)) (mvT hZ (own_w hw 239 rfl)) (notFace_of_selects (args := #[]) (mvT hZ (own_w hw 241 rfl))) (mvT hZ (own_w hw 241 rfl)) (mvT hZ (own_w hw 240 rfl)) (by decide) (backOf (W := 0) (own_rm45 l Z a0 hw [] r111 (HB.length + 1).toInt32 wf cs e111x RS (93 : Int32) T111.heap n0 (Nat.le_trans Z0 Kc111.1) (own_sta_keep SF Kc111 (fun _ _ _ _ => nin0)) hfr (own_sta_keep CS Kc111 (fun _ _ _ _ => nin0)) hcs Fc111 Fv111 V111 A111 (own_nnS (by omega : HB.length + 1 < 2147483648)) (by rw [own_ixS (by omega : HB.length + 1 < 2147483648)]; exact hR93 (own_zkv hz1 hc317_132)) hRb) hZ (own_w hw 242 rfl) (own_w hw 6 rfl) (by decide) (by decide)) q134a q134c (g := (mkF m 337 #[own_i i0, own_i i1, own_i i2, own_i i3, own_i r101, own_i r102, own_i r103, own_i nn, own_r hs, .val wu, .val wp, own_r r111, own_i zk.toInt32, own_i zk.toInt32, own_i SL.toInt32, own_i ((own_sz i1).toInt32), .val (.int (own_dl i2).toInt32)] [.int (HB.length + 1).toInt32, .ref r111])) rfl (by rw [hml]; rfl) (Steps.refl _) (argsL := [.int (HB.length + 1).toInt32]) (rest := []) (lenOf own_pd35 rfl) rfl (by exact own_ca rfl) (hb hby at_337) (fun _ _ => ⟨rfl, e133, (by decide : 45 + 0 ≤ _), (by decide : 611 + 0 ≤ _)⟩)
                dsimp only [Pt.U, Pt.locs, Pt.cells, Pt.slots] at X134 l134 y134 z134 st134 hQ134
                subst l134 y134 z134
                obtain ⟨rfl, N134q, e134⟩ := hQ134
                have N134 := Fr.app N133 N134q
                refine own_s T134 m 347 #[own_i i0, own_i i1, own_i i2, own_i i3, own_i r101, own_i r102, own_i r103, own_i nn, own_r hs, .val wu, .val wp, own_r r111, own_i zk.toInt32, own_i zk.toInt32, own_i SL.toInt32, own_i ((own_sz i1).toInt32), .val (.int (own_dl i2).toInt32)] [] (fun t k => st134.trans (XS.bipush X134.here hx rfl (hb hby at_340) (XS.icmpYes X134.here hx rfl (pc0 := 342) (pc' := 347) rfl (hb hby at_342) rfl (XT.ii_eq_t (by decide)) (by decide) (by decide) k))) ?_
                exact J117 _ _ (X134.more (by decide) (by decide)) e134 N134 
            by_cases hc275_135 : i2 = 0
            · refine own_s T114 m 288 #[own_i i0, own_i i1, own_i i2, own_i i3, own_i r101, own_i r102, own_i r103, own_i nn, own_r hs, .val wu, .val wp, own_r r111, own_i zk.toInt32, own_i zk.toInt32, own_i SL.toInt32, own_i ((own_sz i1).toInt32), .unset] [.int 0] (fun t k => XS.ifNo X114.here hx rfl (hb hby at_275) rfl (XT.i0_ne_f hc275_135) (XS.iconst X114.here hx rfl (hb hby at_278) (XS.goto X114.here hx rfl (pc0 := 279) (pc' := 288) rfl (hb hby at_279) (by decide) (by decide) k))) ?_
              exact J115 _ _ (X114.more (by decide) (by decide)) e114 N114 (0 : Int32) (own_dlE1 hc275_135)
            · refine own_s T114 m 284 #[own_i i0, own_i i1, own_i i2, own_i i3, own_i r101, own_i r102, own_i r103, own_i nn, own_r hs, .val wu, .val wp, own_r r111, own_i zk.toInt32, own_i zk.toInt32, own_i SL.toInt32, own_i ((own_sz i1).toInt32), .unset] [.int i2, .int 1] (fun t k => XS.ifYes X114.here hx rfl (pc0 := 275) (pc' := 282) rfl (hb hby at_275) rfl (XT.i0_ne_t hc275_135) (by decide) (by decide) (XS.iconst X114.here hx rfl (hb hby at_282) (XS.iloadN X114.here hx rfl (hb hby at_283) rfl k))) ?_
              obtain ⟨v136, _, ⟨T136, L136, k136, n136⟩, -, X136, ⟨Lc136, hQ136, l136, y136, z136⟩, st136⟩ := Jvm.LawKit.callS X114 hx (y := own_n47) hown (mvT hZ (own_w hw 227 rfl)) (mvT hZ (own_w hw 228 rfl)) (mvT hZ (own_w hw 2 rfl)) (mvT hZ (own_w hw 229 rfl)) (by decide) (backOf (W := 1) (own_rm42 l Z a0 hw [] i2 T111.heap n0 (Nat.le_trans Z0 Kc111.1) ) hZ (own_w hw 229 rfl) (own_w hw 2 rfl) (by decide) (by decide)) (g := (mkF m 284 #[own_i i0, own_i i1, own_i i2, own_i i3, own_i r101, own_i r102, own_i r103, own_i nn, own_r hs, .val wu, .val wp, own_r r111, own_i zk.toInt32, own_i zk.toInt32, own_i SL.toInt32, own_i ((own_sz i1).toInt32), .unset] [.int i2, .int 1])) rfl (by rw [hml]; rfl) (argsL := [.int i2]) (rest := [.int 1]) (lenOf own_pd8 rfl) rfl (by exact own_ca rfl) (hb hby at_284) (fun _ _ => ⟨rfl, e114, (by decide : 45 + 0 ≤ _), (by decide : 611 + 0 ≤ _)⟩)
              dsimp only [Pt.U, Pt.locs, Pt.cells, Pt.slots] at X136 l136 y136 z136 st136 hQ136
              subst l136 y136 z136
              obtain ⟨rfl, N136q, e136⟩ := hQ136
              have N136 := Fr.app N114 N136q
              refine own_s T136 m 288 #[own_i i0, own_i i1, own_i i2, own_i i3, own_i r101, own_i r102, own_i r103, own_i nn, own_r hs, .val wu, .val wp, own_r r111, own_i zk.toInt32, own_i zk.toInt32, own_i SL.toInt32, own_i ((own_sz i1).toInt32), .unset] [.int ((1 : Int32) + ((own_sz i2).toInt32))] (fun t k => st136 _ (XS.iadd X136.here hx rfl (hb hby at_287) rfl k)) ?_
              exact J115 _ _ (X136.more (by decide) (by decide)) e136 N136 ((1 : Int32) + ((own_sz i2).toInt32)) (own_dlE2 hc275_135)
          by_cases hc249_137 : zk.toInt32 = 0
          · refine own_s T111 m 257 #[own_i i0, own_i i1, own_i i2, own_i i3, own_i r101, own_i r102, own_i r103, own_i nn, own_r hs, .val wu, .val wp, own_r r111, own_i zk.toInt32, .unset, .unset, .unset, .unset] [.int 0] (fun t k => XS.ifYes X111.here hx rfl (pc0 := 249) (pc' := 256) rfl (hb hby at_249) rfl (XT.i0_eq_t hc249_137) (by decide) (by decide) (XS.iconst X111.here hx rfl (hb hby at_256) k)) ?_
            exact J113 (0 : Int32) hc249_137
          · refine own_s T111 m 257 #[own_i i0, own_i i1, own_i i2, own_i i3, own_i r101, own_i r102, own_i r103, own_i nn, own_r hs, .val wu, .val wp, own_r r111, own_i zk.toInt32, .unset, .unset, .unset, .unset] [.int 1] (fun t k => XS.ifNo X111.here hx rfl (hb hby at_249) rfl (XT.i0_eq_f hc249_137) (XS.iconst X111.here hx rfl (hb hby at_252) (XS.goto X111.here hx rfl (pc0 := 253) (pc' := 257) rfl (hb hby at_253) (by decide) (by decide) k))) ?_
            exact J113 (1 : Int32) (own_zkw hz1 hc249_137)
        refine own_s T111 m 204 #[own_i i0, own_i i1, own_i i2, own_i i3, own_i r101, own_i r102, own_i r103, own_i nn, own_r hs, .val wu, .val wp, own_r r111, .unset, .unset, .unset, .unset, .unset] [.int 1, .int nn] (fun t k => XS.iload X111.here hx rfl (hb hby at_201) rfl (XS.iconst X111.here hx rfl (hb hby at_203) k)) ?_
        by_cases hc204_138 : nn < (1 : Int32)
        · refine own_s T111 m 227 #[own_i i0, own_i i1, own_i i2, own_i i3, own_i r101, own_i r102, own_i r103, own_i nn, own_r hs, .val wu, .val wp, own_r r111, .unset, .unset, .unset, .unset, .unset] [] (fun t k => XS.icmpYes X111.here hx rfl (pc0 := 204) (pc' := 214) rfl (hb hby at_204) rfl (XT.ii_lt_t hc204_138) (by decide) (by decide) (XS.iload X111.here hx rfl (hb hby at_214) rfl (XS.iconst X111.here hx rfl (hb hby at_216) (XS.icmpYes X111.here hx rfl (pc0 := 217) (pc' := 227) rfl (hb hby at_217) rfl (XT.ii_lt_t (own_lt12 hc204_138)) (by decide) (by decide) k)))) ?_
          refine own_s T111 m 245 #[own_i i0, own_i i1, own_i i2, own_i i3, own_i r101, own_i r102, own_i r103, own_i nn, own_r hs, .val wu, .val wp, own_r r111, .unset, .unset, .unset, .unset, .unset] [.int 0] (fun t k => XS.iload X111.here hx rfl (hb hby at_227) rfl (XS.iconst X111.here hx rfl (hb hby at_229) (XS.icmpYes X111.here hx rfl (pc0 := 230) (pc' := 244) rfl (hb hby at_230) rfl (XT.ii_lt_t (own_lt23 (own_lt12 hc204_138))) (by decide) (by decide) (XS.iconst X111.here hx rfl (hb hby at_244) k)))) ?_
          exact J112 (0 : Int32) (by rw [← hzk, hbr]; simp only [own_br, hc204_138, if_true, if_false, eq_self, not_true_eq_false, not_false_eq_true, and_true, true_and, and_false, false_and, and_self, or_true, true_or, or_false, false_or, or_self])
        · refine own_s T111 m 211 #[own_i i0, own_i i1, own_i i2, own_i i3, own_i r101, own_i r102, own_i r103, own_i nn, own_r hs, .val wu, .val wp, own_r r111, .unset, .unset, .unset, .unset, .unset] [.int 58, .int r101] (fun t k => XS.icmpNo X111.here hx rfl (hb hby at_204) rfl (XT.ii_lt_f hc204_138) (XS.iload X111.here hx rfl (hb hby at_207) rfl (XS.bipush X111.here hx rfl (hb hby at_209) k))) ?_
          by_cases hc211_139 : r101 = (58 : Int32)
          · refine own_s T111 m 245 #[own_i i0, own_i i1, own_i i2, own_i i3, own_i r101, own_i r102, own_i r103, own_i nn, own_r hs, .val wu, .val wp, own_r r111, .unset, .unset, .unset, .unset, .unset] [.int 1] (fun t k => XS.icmpYes X111.here hx rfl (pc0 := 211) (pc' := 240) rfl (hb hby at_211) rfl (XT.ii_eq_t hc211_139) (by decide) (by decide) (XS.iconst X111.here hx rfl (hb hby at_240) (XS.goto X111.here hx rfl (pc0 := 241) (pc' := 245) rfl (hb hby at_241) (by decide) (by decide) k))) ?_
            exact J112 (1 : Int32) (by rw [← hzk, hbr]; simp only [own_br, hc204_138, hc211_139, if_true, if_false, eq_self, not_true_eq_false, not_false_eq_true, and_true, true_and, and_false, false_and, and_self, or_true, true_or, or_false, false_or, or_self])
          · refine own_s T111 m 217 #[own_i i0, own_i i1, own_i i2, own_i i3, own_i r101, own_i r102, own_i r103, own_i nn, own_r hs, .val wu, .val wp, own_r r111, .unset, .unset, .unset, .unset, .unset] [.int 2, .int nn] (fun t k => XS.icmpNo X111.here hx rfl (hb hby at_211) rfl (XT.ii_eq_f hc211_139) (XS.iload X111.here hx rfl (hb hby at_214) rfl (XS.iconst X111.here hx rfl (hb hby at_216) k))) ?_
            by_cases hc217_140 : nn < (2 : Int32)
            · refine own_s T111 m 244 #[own_i i0, own_i i1, own_i i2, own_i i3, own_i r101, own_i r102, own_i r103, own_i nn, own_r hs, .val wu, .val wp, own_r r111, .unset, .unset, .unset, .unset, .unset] [] (fun t k => XS.icmpYes X111.here hx rfl (pc0 := 217) (pc' := 227) rfl (hb hby at_217) rfl (XT.ii_lt_t hc217_140) (by decide) (by decide) (XS.iload X111.here hx rfl (hb hby at_227) rfl (XS.iconst X111.here hx rfl (hb hby at_229) (XS.icmpYes X111.here hx rfl (pc0 := 230) (pc' := 244) rfl (hb hby at_230) rfl (XT.ii_lt_t (own_lt23 hc217_140)) (by decide) (by decide) k)))) ?_
              refine own_s T111 m 245 #[own_i i0, own_i i1, own_i i2, own_i i3, own_i r101, own_i r102, own_i r103, own_i nn, own_r hs, .val wu, .val wp, own_r r111, .unset, .unset, .unset, .unset, .unset] [.int 0] (fun t k => XS.iconst X111.here hx rfl (hb hby at_244) k) ?_
              exact J112 (0 : Int32) (by rw [← hzk, hbr]; simp only [own_br, hc204_138, hc211_139, hc217_140, if_true, if_false, eq_self, not_true_eq_false, not_false_eq_true, and_true, true_and, and_false, false_and, and_self, or_true, true_or, or_false, false_or, or_self])
            · refine own_s T111 m 224 #[own_i i0, own_i i1, own_i i2, own_i i3, own_i r101, own_i r102, own_i r103, own_i nn, own_r hs, .val wu, .val wp, own_r r111, .unset, .unset, .unset, .unset, .unset] [.int 58, .int r102] (fun t k => XS.icmpNo X111.here hx rfl (hb hby at_217) rfl (XT.ii_lt_f hc217_140) (XS.iload X111.here hx rfl (hb hby at_220) rfl (XS.bipush X111.here hx rfl (hb hby at_222) k))) ?_
              by_cases hc224_141 : r102 = (58 : Int32)
              · refine own_s T111 m 245 #[own_i i0, own_i i1, own_i i2, own_i i3, own_i r101, own_i r102, own_i r103, own_i nn, own_r hs, .val wu, .val wp, own_r r111, .unset, .unset, .unset, .unset, .unset] [.int 1] (fun t k => XS.icmpYes X111.here hx rfl (pc0 := 224) (pc' := 240) rfl (hb hby at_224) rfl (XT.ii_eq_t hc224_141) (by decide) (by decide) (XS.iconst X111.here hx rfl (hb hby at_240) (XS.goto X111.here hx rfl (pc0 := 241) (pc' := 245) rfl (hb hby at_241) (by decide) (by decide) k))) ?_
                exact J112 (1 : Int32) (by rw [← hzk, hbr]; simp only [own_br, hc204_138, hc211_139, hc217_140, hc224_141, if_true, if_false, eq_self, not_true_eq_false, not_false_eq_true, and_true, true_and, and_false, false_and, and_self, or_true, true_or, or_false, false_or, or_self])
              · refine own_s T111 m 230 #[own_i i0, own_i i1, own_i i2, own_i i3, own_i r101, own_i r102, own_i r103, own_i nn, own_r hs, .val wu, .val wp, own_r r111, .unset, .unset, .unset, .unset, .unset] [.int 3, .int nn] (fun t k => XS.icmpNo X111.here hx rfl (hb hby at_224) rfl (XT.ii_eq_f hc224_141) (XS.iload X111.here hx rfl (hb hby at_227) rfl (XS.iconst X111.here hx rfl (hb hby at_229) k))) ?_
                by_cases hc230_142 : nn < (3 : Int32)
                · refine own_s T111 m 245 #[own_i i0, own_i i1, own_i i2, own_i i3, own_i r101, own_i r102, own_i r103, own_i nn, own_r hs, .val wu, .val wp, own_r r111, .unset, .unset, .unset, .unset, .unset] [.int 0] (fun t k => XS.icmpYes X111.here hx rfl (pc0 := 230) (pc' := 244) rfl (hb hby at_230) rfl (XT.ii_lt_t hc230_142) (by decide) (by decide) (XS.iconst X111.here hx rfl (hb hby at_244) k)) ?_
                  exact J112 (0 : Int32) (by rw [← hzk, hbr]; simp only [own_br, hc204_138, hc211_139, hc217_140, hc224_141, hc230_142, if_true, if_false, eq_self, not_true_eq_false, not_false_eq_true, and_true, true_and, and_false, false_and, and_self, or_true, true_or, or_false, false_or, or_self])
                · refine own_s T111 m 237 #[own_i i0, own_i i1, own_i i2, own_i i3, own_i r101, own_i r102, own_i r103, own_i nn, own_r hs, .val wu, .val wp, own_r r111, .unset, .unset, .unset, .unset, .unset] [.int 58, .int r103] (fun t k => XS.icmpNo X111.here hx rfl (hb hby at_230) rfl (XT.ii_lt_f hc230_142) (XS.iload X111.here hx rfl (hb hby at_233) rfl (XS.bipush X111.here hx rfl (hb hby at_235) k))) ?_
                  by_cases hc237_143 : r103 = (58 : Int32)
                  · refine own_s T111 m 245 #[own_i i0, own_i i1, own_i i2, own_i i3, own_i r101, own_i r102, own_i r103, own_i nn, own_r hs, .val wu, .val wp, own_r r111, .unset, .unset, .unset, .unset, .unset] [.int 1] (fun t k => XS.icmpNo X111.here hx rfl (hb hby at_237) rfl (XT.ii_ne_f hc237_143) (XS.iconst X111.here hx rfl (hb hby at_240) (XS.goto X111.here hx rfl (pc0 := 241) (pc' := 245) rfl (hb hby at_241) (by decide) (by decide) k))) ?_
                    exact J112 (1 : Int32) (by rw [← hzk, hbr]; simp only [own_br, hc204_138, hc211_139, hc217_140, hc224_141, hc230_142, hc237_143, if_true, if_false, eq_self, not_true_eq_false, not_false_eq_true, and_true, true_and, and_false, false_and, and_self, or_true, true_or, or_false, false_or, or_self])
                  · refine own_s T111 m 245 #[own_i i0, own_i i1, own_i i2, own_i i3, own_i r101, own_i r102, own_i r103, own_i nn, own_r hs, .val wu, .val wp, own_r r111, .unset, .unset, .unset, .unset, .unset] [.int 0] (fun t k => XS.icmpYes X111.here hx rfl (pc0 := 237) (pc' := 244) rfl (hb hby at_237) rfl (XT.ii_ne_t hc237_143) (by decide) (by decide) (XS.iconst X111.here hx rfl (hb hby at_244) k)) ?_
                    exact J112 (0 : Int32) (by rw [← hzk, hbr]; simp only [own_br, hc204_138, hc211_139, hc217_140, hc224_141, hc230_142, hc237_143, if_true, if_false, eq_self, not_true_eq_false, not_false_eq_true, and_true, true_and, and_false, false_and, and_self, or_true, true_or, or_false, false_or, or_self])
      refine own_s T106 m 175 #[own_i i0, own_i i1, own_i i2, own_i i3, own_i r101, own_i r102, own_i r103, own_i nn, own_r hs, .val wu, own_r b106, .unset, .unset, .unset, .unset, .unset, .unset] [.int (i3 &&& (131072 : Int32))] (fun t k => XS.iloadN X106.here hx rfl (hb hby at_171) rfl (X106.ldcInt hx hown (mvT hZ (own_w hw 42 rfl)) (g := (mkF m 172 #[own_i i0, own_i i1, own_i i2, own_i i3, own_i r101, own_i r102, own_i r103, own_i nn, own_r hs, .val wu, own_r b106, .unset, .unset, .unset, .unset, .unset, .unset] [.int i3])) rfl (hb hby at_172) _ (XS.iand X106.here hx rfl (hb hby at_174) rfl k))) ?_
      by_cases hc175_144 : (i3 &&& (131072 : Int32)) = 0
      · refine own_s T106 m 181 #[own_i i0, own_i i1, own_i i2, own_i i3, own_i r101, own_i r102, own_i r103, own_i nn, own_r hs, .val wu, own_r b106, .unset, .unset, .unset, .unset, .unset, .unset] [] (fun t k => XS.ifYes X106.here hx rfl (pc0 := 175) (pc' := 181) rfl (hb hby at_175) rfl (XT.i0_eq_t hc175_144) (by decide) (by decide) k) ?_
        exact J108 (.ref b106) rfl
      · refine own_s T106 m 181 #[own_i i0, own_i i1, own_i i2, own_i i3, own_i r101, own_i r102, own_i r103, own_i nn, own_r hs, .val wu, .val .null, .unset, .unset, .unset, .unset, .unset, .unset] [] (fun t k => XS.ifNo X106.here hx rfl (hb hby at_175) rfl (XT.i0_eq_f hc175_144) (XS.aconstNull X106.here hx rfl (hb hby at_178) (XS.astore X106.here hx rfl (hb hby at_179) rfl (rfl) (l' := #[own_i i0, own_i i1, own_i i2, own_i i3, own_i r101, own_i r102, own_i r103, own_i nn, own_r hs, .val wu, .val .null, .unset, .unset, .unset, .unset, .unset, .unset]) rfl k))) ?_
        exact J108 .null rfl
    refine own_s T106 m 165 #[own_i i0, own_i i1, own_i i2, own_i i3, own_i r101, own_i r102, own_i r103, own_i nn, own_r hs, own_r b105, own_r b106, .unset, .unset, .unset, .unset, .unset, .unset] [.int (i3 &&& (65536 : Int32))] (fun t k => XS.iloadN X106.here hx rfl (hb hby at_161) rfl (X106.ldcInt hx hown (mvT hZ (own_w hw 41 rfl)) (g := (mkF m 162 #[own_i i0, own_i i1, own_i i2, own_i i3, own_i r101, own_i r102, own_i r103, own_i nn, own_r hs, own_r b105, own_r b106, .unset, .unset, .unset, .unset, .unset, .unset] [.int i3])) rfl (hb hby at_162) _ (XS.iand X106.here hx rfl (hb hby at_164) rfl k))) ?_
    by_cases hc165_145 : (i3 &&& (65536 : Int32)) = 0
    · refine own_s T106 m 171 #[own_i i0, own_i i1, own_i i2, own_i i3, own_i r101, own_i r102, own_i r103, own_i nn, own_r hs, own_r b105, own_r b106, .unset, .unset, .unset, .unset, .unset, .unset] [] (fun t k => XS.ifYes X106.here hx rfl (pc0 := 165) (pc' := 171) rfl (hb hby at_165) rfl (XT.i0_eq_t hc165_145) (by decide) (by decide) k) ?_
      exact J107 (.ref b105) rfl
    · refine own_s T106 m 171 #[own_i i0, own_i i1, own_i i2, own_i i3, own_i r101, own_i r102, own_i r103, own_i nn, own_r hs, .val .null, own_r b106, .unset, .unset, .unset, .unset, .unset, .unset] [] (fun t k => XS.ifNo X106.here hx rfl (hb hby at_165) rfl (XT.i0_eq_f hc165_145) (XS.aconstNull X106.here hx rfl (hb hby at_168) (XS.astore X106.here hx rfl (hb hby at_169) rfl (rfl) (l' := #[own_i i0, own_i i1, own_i i2, own_i i3, own_i r101, own_i r102, own_i r103, own_i nn, own_r hs, .val .null, own_r b106, .unset, .unset, .unset, .unset, .unset, .unset]) rfl k))) ?_
      exact J107 .null rfl
  refine own_s T103 m 34 #[own_i i0, own_i i1, own_i i2, own_i i3, own_i r101, own_i r102, own_i r103, own_i nn, .unset, .unset, .unset, .unset, .unset, .unset, .unset, .unset, .unset] [.int nn] (fun t k => XS.iload X103.here hx rfl (hb hby at_32) rfl k) ?_
  by_cases hc34_146 : nn = 0
  · refine own_s T103 m 37 #[own_i i0, own_i i1, own_i i2, own_i i3, own_i r101, own_i r102, own_i r103, own_i nn, .unset, .unset, .unset, .unset, .unset, .unset, .unset, .unset, .unset] [] (fun t k => XS.ifNo X103.here hx rfl (hb hby at_34) rfl (XT.i0_ne_f hc34_146) k) ?_
    obtain ⟨T147, h147, X147, e147, E147, A147, D147, -, st147⟩ := newO X103 hx hZ hown (own_w hw 4 rfl) (own_w hw 5 rfl) (own_w hw 6 rfl) e103 (g := (mkF m 37 #[own_i i0, own_i i1, own_i i2, own_i i3, own_i r101, own_i r102, own_i r103, own_i nn, .unset, .unset, .unset, .unset, .unset, .unset, .unset, .unset, .unset] [])) rfl (hb hby at_37) (by decide) (by decide)
    obtain ⟨b147, g147⟩ : ∃ z, z = h0.size := ⟨_, rfl⟩
    rw [← g147] at A147 D147 st147
    have sz_b147 : h0.size ≤ b147 := Nat.le_trans K0.1 (Nat.le_of_eq g147.symm)
    have g_b147 : n0 ≤ b147 := Nat.le_trans Z0 sz_b147
    have Sfb147_0 := own_sfnew hCR0 (Nat.le_of_eq g147.symm)
    have hCR147 := hCR0.trans (CHr.ext E147 hCR0.1)
    have Sf147_b147 := Safe.ext E147 hCR0.1 Sfb147_0
    have Kc147 : Keep h0 h147 [] := K0.ext E147
    have F147_20 : Fld Z h147 b147 "java/lang/String" "value" "[B" .null := D147 (Or.inr (own_w hw 20 rfl)) (ty := (.array .byte)) (by decide)
    have F147_21 : Fld Z h147 b147 "java/lang/String" "coder" "B" (.int 0) := D147 (Or.inr (own_w hw 21 rfl)) (ty := .byte) (by decide)
    refine own_s T147 m 42 #[own_i i0, own_i i1, own_i i2, own_i i3, own_i r101, own_i r102, own_i r103, own_i nn, .unset, .unset, .unset, .unset, .unset, .unset, .unset, .unset, .unset] [.int 0, .ref b147, .ref b147] (fun t k => st147 _ (XS.dup X147.here hx rfl (hb hby at_40) rfl (rfl) (XS.iconst X147.here hx rfl (hb hby at_41) k))) ?_
    obtain ⟨T148, h148, X148, e148, E148, A148, st148⟩ := own_newP X147 hx hZ (aty := .char) (own_w hw 7 rfl) e147 (g := (mkF m 42 #[own_i i0, own_i i1, own_i i2, own_i i3, own_i r101, own_i r102, own_i r103, own_i nn, .unset, .unset, .unset, .unset, .unset, .unset, .unset, .unset, .unset] [.int 0, .ref b147, .ref b147])) rfl (hb hby at_42) rfl (by decide) (cap := 0) (by decide) (by decide) (by decide) (by decide)
    obtain ⟨b148, g148⟩ : ∃ z, z = h147.size := ⟨_, rfl⟩
    rw [← g148] at A148 st148
    have V148 : own_Ar Z h148 b148 .char [] := A148
    have ne_b147_b148 := own_ne A147.lt (Nat.le_of_eq g148.symm)
    have sz_b148 : h0.size ≤ b148 := Nat.le_trans Kc147.1 (Nat.le_of_eq g148.symm)
    have g_b148 : n0 ≤ b148 := Nat.le_trans Z0 sz_b148
    have hCR148 := hCR147.trans (CHr.ext E148 hCR147.1)
    have Sf148_b147 := Safe.ext E148 hCR147.1 Sf147_b147
    have Kc148 : Keep h0 h148 [] := Kc147.ext E148
    refine own_s T148 m 44 #[own_i i0, own_i i1, own_i i2, own_i i3, own_i r101, own_i r102, own_i r103, own_i nn, .unset, .unset, .unset, .unset, .unset, .unset, .unset, .unset, .unset] [.ref b148, .ref b147, .ref b147] (fun t k => st148 _ k) ?_
    obtain ⟨v149, _, ⟨T149, L149, k149, n149⟩, -, X149, sS149, gS149, ⟨Lc149, hQ149, l149, y149, z149, cr149⟩, st149⟩ := X148.specialBackS hx (y := own_n4) rfl hown (mvT hZ (own_w hw 8 rfl)) (mvT hZ (own_w hw 9 rfl)) (mvT hZ (own_w hw 10 rfl)) (by decide) (own_backH (W := 1) (own_emp1 l Z a0 hw [] b147 b148 h148 n0 (Nat.le_trans Z0 Kc148.1) (A147.ext E148) (F147_21.ext E148) (F147_20.ext E148) g_b147 V148) hZ (own_w hw 10 rfl) (own_w hw 6 rfl) (by decide) (by decide) (own_hEL hw) hCR148.1 (allS ⟨(A147.ext E148).lt, Sf148_b147⟩ all0)) (g := (mkF m 44 #[own_i i0, own_i i1, own_i i2, own_i i3, own_i r101, own_i r102, own_i r103, own_i nn, .unset, .unset, .unset, .unset, .unset, .unset, .unset, .unset, .unset] [.ref b148, .ref b147, .ref b147])) rfl (by rw [hml]; rfl) (Steps.refl _) (a := b147) (argsL := [.ref b148]) (rest := [.ref b147]) (lenOf own_pd43 rfl) rfl (by exact own_ca rfl) (hb hby at_44) (fun _ _ => ⟨rfl, e148, (by decide : 2 + 4 ≤ _), (by decide : 4 + 8 ≤ _)⟩)
    dsimp only [Pt.U, Pt.locs, Pt.cells, Pt.slots] at X149 l149 y149 z149 st149 hQ149 sS149 gS149 cr149
    subst l149 y149 z149
    obtain ⟨X149, hS149, hZ, hown⟩ := rebS hS0 (by rw [(e148 : T148.heap = h148)]; exact (Nat.le_trans (Nat.le_trans hk0 E147.1) E148.1)) X149 sS149 gS149 hZ hown
    have Sx149_b147 := CHr.safe cr149 (A147.ext E148).lt Sf148_b147
    have hCR149 := hCR148.trans cr149
    obtain ⟨rfl, N149q, K149, A149, Fc149, d149, Fv149, V149⟩ := hQ149
    have Kc149 : Keep h0 T149.heap [] := Kc148.trans K149 (allS (Or.inr sz_b147) all0)
    have N149 := Fr.app N103 N149q
    refine own_s T149 m 136 #[own_i i0, own_i i1, own_i i2, own_i i3, own_i r101, own_i r102, own_i r103, own_i nn, own_r b147, .unset, .unset, .unset, .unset, .unset, .unset, .unset, .unset] [] (fun t k => st149.trans (XS.astore X149.here hx rfl (hb hby at_47) rfl (rfl) (l' := #[own_i i0, own_i i1, own_i i2, own_i i3, own_i r101, own_i r102, own_i r103, own_i nn, own_r b147, .unset, .unset, .unset, .unset, .unset, .unset, .unset, .unset]) rfl (XS.goto X149.here hx rfl (pc0 := 49) (pc' := 136) rfl (hb hby at_49) (by decide) (by decide) k))) ?_
    exact J104 _ _ _ _ _ (X149.more (by decide) (by decide)) rfl N149 Kc149 hS149 (Nat.le_of_eq (congrArg Array.size (rfl : T149.heap = T149.heap))) hZ hown hCR149 b147 d149 _ rfl A149 Fc149 Fv149 (by rw [own_host, if_pos hc34_146]; exact V149)
  · refine own_s T103 m 55 #[own_i i0, own_i i1, own_i i2, own_i i3, own_i r101, own_i r102, own_i r103, own_i nn, .unset, .unset, .unset, .unset, .unset, .unset, .unset, .unset, .unset] [.int 1, .int nn] (fun t k => XS.ifYes X103.here hx rfl (pc0 := 34) (pc' := 52) rfl (hb hby at_34) rfl (XT.i0_ne_t hc34_146) (by decide) (by decide) (XS.iload X103.here hx rfl (hb hby at_52) rfl (XS.iconst X103.here hx rfl (hb hby at_54) k))) ?_
    by_cases hc55_150 : nn = (1 : Int32)
    · refine own_s T103 m 58 #[own_i i0, own_i i1, own_i i2, own_i i3, own_i r101, own_i r102, own_i r103, own_i nn, .unset, .unset, .unset, .unset, .unset, .unset, .unset, .unset, .unset] [] (fun t k => XS.icmpNo X103.here hx rfl (hb hby at_55) rfl (XT.ii_ne_f hc55_150) k) ?_
      obtain ⟨T151, h151, X151, e151, E151, A151, D151, -, st151⟩ := newO X103 hx hZ hown (own_w hw 4 rfl) (own_w hw 5 rfl) (own_w hw 6 rfl) e103 (g := (mkF m 58 #[own_i i0, own_i i1, own_i i2, own_i i3, own_i r101, own_i r102, own_i r103, own_i nn, .unset, .unset, .unset, .unset, .unset, .unset, .unset, .unset, .unset] [])) rfl (hb hby at_58) (by decide) (by decide)
      obtain ⟨b151, g151⟩ : ∃ z, z = h0.size := ⟨_, rfl⟩
      rw [← g151] at A151 D151 st151
      have sz_b151 : h0.size ≤ b151 := Nat.le_trans K0.1 (Nat.le_of_eq g151.symm)
      have g_b151 : n0 ≤ b151 := Nat.le_trans Z0 sz_b151
      have Sfb151_0 := own_sfnew hCR0 (Nat.le_of_eq g151.symm)
      have hCR151 := hCR0.trans (CHr.ext E151 hCR0.1)
      have Sf151_b151 := Safe.ext E151 hCR0.1 Sfb151_0
      have Kc151 : Keep h0 h151 [] := K0.ext E151
      have F151_20 : Fld Z h151 b151 "java/lang/String" "value" "[B" .null := D151 (Or.inr (own_w hw 20 rfl)) (ty := (.array .byte)) (by decide)
      have F151_21 : Fld Z h151 b151 "java/lang/String" "coder" "B" (.int 0) := D151 (Or.inr (own_w hw 21 rfl)) (ty := .byte) (by decide)
      refine own_s T151 m 63 #[own_i i0, own_i i1, own_i i2, own_i i3, own_i r101, own_i r102, own_i r103, own_i nn, .unset, .unset, .unset, .unset, .unset, .unset, .unset, .unset, .unset] [.int 1, .ref b151, .ref b151] (fun t k => st151 _ (XS.dup X151.here hx rfl (hb hby at_61) rfl (rfl) (XS.iconst X151.here hx rfl (hb hby at_62) k))) ?_
      obtain ⟨T152, h152, X152, e152, E152, A152, st152⟩ := own_newP X151 hx hZ (aty := .char) (own_w hw 7 rfl) e151 (g := (mkF m 63 #[own_i i0, own_i i1, own_i i2, own_i i3, own_i r101, own_i r102, own_i r103, own_i nn, .unset, .unset, .unset, .unset, .unset, .unset, .unset, .unset, .unset] [.int 1, .ref b151, .ref b151])) rfl (hb hby at_63) rfl (by decide) (cap := 1) (by decide) (by decide) (by decide) (by decide)
      obtain ⟨b152, g152⟩ : ∃ z, z = h151.size := ⟨_, rfl⟩
      rw [← g152] at A152 st152
      have V152 : own_Ar Z h152 b152 .char [(.int 0)] := A152
      have ne_b151_b152 := own_ne A151.lt (Nat.le_of_eq g152.symm)
      have sz_b152 : h0.size ≤ b152 := Nat.le_trans Kc151.1 (Nat.le_of_eq g152.symm)
      have g_b152 : n0 ≤ b152 := Nat.le_trans Z0 sz_b152
      have hCR152 := hCR151.trans (CHr.ext E152 hCR151.1)
      have Sf152_b151 := Safe.ext E152 hCR151.1 Sf151_b151
      have Kc152 : Keep h0 h152 [] := Kc151.ext E152
      refine own_s T152 m 69 #[own_i i0, own_i i1, own_i i2, own_i i3, own_i r101, own_i r102, own_i r103, own_i nn, .unset, .unset, .unset, .unset, .unset, .unset, .unset, .unset, .unset] [.int r101, .int 0, .ref b152, .ref b152, .ref b151, .ref b151] (fun t k => st152 _ (XS.dup X152.here hx rfl (hb hby at_65) rfl (rfl) (XS.iconst X152.here hx rfl (hb hby at_66) (XS.iload X152.here hx rfl (hb hby at_67) rfl k)))) ?_
      obtain ⟨T153, h153, X153, e153, W153, V153', st153⟩ := own_stC X152 hx hZ e152 V152 (j := (0 : Int32)) (by decide) (by decide : (0 : Int32).toNatClampNeg < 1) (g := (mkF m 69 #[own_i i0, own_i i1, own_i i2, own_i i3, own_i r101, own_i r102, own_i r103, own_i nn, .unset, .unset, .unset, .unset, .unset, .unset, .unset, .unset, .unset] [.int r101, .int 0, .ref b152, .ref b152, .ref b151, .ref b151])) rfl rfl (hb hby at_69)
      have V153 : own_Ar Z h153 b152 .char [(.int (nar .char r101))] := V153'
      have hCR153 := hCR152.trans (CHr.wr W153 (own_Ar.safe hZ.alike V152 (by decide)) hCR152.1)
      have Sf153_b151 := Safe.wr W153 (own_Ar.safe hZ.alike V152 (by decide)) hCR152.1 Sf152_b151
      have Kc153 : Keep h0 h153 [] := Kc152.wr W153 (Or.inr sz_b152)
      have N153 := Fr.snoc X153 N103 g_b152
      refine own_s T153 m 70 #[own_i i0, own_i i1, own_i i2, own_i i3, own_i r101, own_i r102, own_i r103, own_i nn, .unset, .unset, .unset, .unset, .unset, .unset, .unset, .unset, .unset] [.ref b152, .ref b151, .ref b151] (fun t k => st153 _ k) ?_
      have VC : own_Ar Z h153 b152 .char (([r101] : List Int32).map Value.int) := by have q := V153; rw [own_narr lr101 zr101] at q; exact q
      obtain ⟨v154, _, ⟨T154, L154, k154, n154⟩, -, X154, ⟨Lc154, hQ154, l154, y154, z154⟩, st154⟩ := X153.specialBack hx (y := own_n4) rfl hown (mvT hZ (own_w hw 8 rfl)) (mvT hZ (own_w hw 9 rfl)) (mvT hZ (own_w hw 10 rfl)) (by decide) (backOf (W := 1) (own_newS l Z a0 hw [] b151 b152 cs [r101] h153 n0 (Nat.le_trans Z0 Kc153.1) (own_sta_keep CS Kc153 (fun _ _ _ _ => nin0)) hcs ((A151.ext E152).wr W153) ((F151_21.ext E152).other W153 (Or.inl ne_b151_b152)) ((F151_20.ext E152).other W153 (Or.inl ne_b151_b152)) VC ne_b151_b152 (by simp) (by simp) (by simp) (own_chS lr101 own_ch0) g_b151) hZ (own_w hw 10 rfl) (own_w hw 6 rfl) (by decide) (by decide)) (g := (mkF m 70 #[own_i i0, own_i i1, own_i i2, own_i i3, own_i r101, own_i r102, own_i r103, own_i nn, .unset, .unset, .unset, .unset, .unset, .unset, .unset, .unset, .unset] [.ref b152, .ref b151, .ref b151])) rfl (by rw [hml]; rfl) (Steps.refl _) (a := b151) (argsL := [.ref b152]) (rest := [.ref b151]) (lenOf own_pd43 rfl) rfl (by exact own_ca rfl) (hb hby at_70) (fun _ _ => ⟨rfl, e153, (by decide : 2 + 1 ≤ _), (by decide : 5 + 3 ≤ _)⟩)
      dsimp only [Pt.U, Pt.locs, Pt.cells, Pt.slots] at X154 l154 y154 z154 st154 hQ154
      subst l154 y154 z154
      obtain ⟨rfl, N154q, K154, A154, Fc154, d154, szq154, Fv154, V154⟩ := hQ154
      have ne_b151_d154 := own_ne ((A151.ext E152).wr W153).lt szq154
      have ne_b152_d154 := own_ne VC.lt szq154
      have hCR154 := hCR153.trans (CHr.keep K154 (sfS Sf153_b151 sf0) hCR153.1)
      have Sf154_b151 := Safe.keep K154 (sfS Sf153_b151 sf0) hCR153.1 Sf153_b151
      have Kc154 : Keep h0 T154.heap [] := Kc153.trans K154 (allS (Or.inr sz_b151) all0)
      have sz_d154 : h0.size ≤ d154 := Nat.le_trans Kc153.1 szq154
      have N154 := Fr.app N153 N154q
      refine own_s T154 m 136 #[own_i i0, own_i i1, own_i i2, own_i i3, own_i r101, own_i r102, own_i r103, own_i nn, own_r b151, .unset, .unset, .unset, .unset, .unset, .unset, .unset, .unset] [] (fun t k => st154.trans (XS.astore X154.here hx rfl (hb hby at_73) rfl (rfl) (l' := #[own_i i0, own_i i1, own_i i2, own_i i3, own_i r101, own_i r102, own_i r103, own_i nn, own_r b151, .unset, .unset, .unset, .unset, .unset, .unset, .unset, .unset]) rfl (XS.goto X154.here hx rfl (pc0 := 75) (pc' := 136) rfl (hb hby at_75) (by decide) (by decide) k))) ?_
      exact J104 _ _ _ _ _ (X154.more (by decide) (by decide)) rfl N154 Kc154 hS0 (Nat.le_trans (Nat.le_trans (Nat.le_trans (Nat.le_trans hk0 E151.1) E152.1) (Keep.of_wr W153).1) K154.1) hZ hown hCR154 b151 d154 _ rfl A154 Fc154 Fv154 (by rw [own_host, if_neg hc34_146, if_pos hc55_150]; exact V154)
    · refine own_s T103 m 81 #[own_i i0, own_i i1, own_i i2, own_i i3, own_i r101, own_i r102, own_i r103, own_i nn, .unset, .unset, .unset, .unset, .unset, .unset, .unset, .unset, .unset] [.int 2, .int nn] (fun t k => XS.icmpYes X103.here hx rfl (pc0 := 55) (pc' := 78) rfl (hb hby at_55) rfl (XT.ii_ne_t hc55_150) (by decide) (by decide) (XS.iload X103.here hx rfl (hb hby at_78) rfl (XS.iconst X103.here hx rfl (hb hby at_80) k))) ?_
      by_cases hc81_155 : nn = (2 : Int32)
      · refine own_s T103 m 84 #[own_i i0, own_i i1, own_i i2, own_i i3, own_i r101, own_i r102, own_i r103, own_i nn, .unset, .unset, .unset, .unset, .unset, .unset, .unset, .unset, .unset] [] (fun t k => XS.icmpNo X103.here hx rfl (hb hby at_81) rfl (XT.ii_ne_f hc81_155) k) ?_
        obtain ⟨T156, h156, X156, e156, E156, A156, D156, -, st156⟩ := newO X103 hx hZ hown (own_w hw 4 rfl) (own_w hw 5 rfl) (own_w hw 6 rfl) e103 (g := (mkF m 84 #[own_i i0, own_i i1, own_i i2, own_i i3, own_i r101, own_i r102, own_i r103, own_i nn, .unset, .unset, .unset, .unset, .unset, .unset, .unset, .unset, .unset] [])) rfl (hb hby at_84) (by decide) (by decide)
        obtain ⟨b156, g156⟩ : ∃ z, z = h0.size := ⟨_, rfl⟩
        rw [← g156] at A156 D156 st156
        have sz_b156 : h0.size ≤ b156 := Nat.le_trans K0.1 (Nat.le_of_eq g156.symm)
        have g_b156 : n0 ≤ b156 := Nat.le_trans Z0 sz_b156
        have Sfb156_0 := own_sfnew hCR0 (Nat.le_of_eq g156.symm)
        have hCR156 := hCR0.trans (CHr.ext E156 hCR0.1)
        have Sf156_b156 := Safe.ext E156 hCR0.1 Sfb156_0
        have Kc156 : Keep h0 h156 [] := K0.ext E156
        have F156_20 : Fld Z h156 b156 "java/lang/String" "value" "[B" .null := D156 (Or.inr (own_w hw 20 rfl)) (ty := (.array .byte)) (by decide)
        have F156_21 : Fld Z h156 b156 "java/lang/String" "coder" "B" (.int 0) := D156 (Or.inr (own_w hw 21 rfl)) (ty := .byte) (by decide)
        refine own_s T156 m 89 #[own_i i0, own_i i1, own_i i2, own_i i3, own_i r101, own_i r102, own_i r103, own_i nn, .unset, .unset, .unset, .unset, .unset, .unset, .unset, .unset, .unset] [.int 2, .ref b156, .ref b156] (fun t k => st156 _ (XS.dup X156.here hx rfl (hb hby at_87) rfl (rfl) (XS.iconst X156.here hx rfl (hb hby at_88) k))) ?_
        obtain ⟨T157, h157, X157, e157, E157, A157, st157⟩ := own_newP X156 hx hZ (aty := .char) (own_w hw 7 rfl) e156 (g := (mkF m 89 #[own_i i0, own_i i1, own_i i2, own_i i3, own_i r101, own_i r102, own_i r103, own_i nn, .unset, .unset, .unset, .unset, .unset, .unset, .unset, .unset, .unset] [.int 2, .ref b156, .ref b156])) rfl (hb hby at_89) rfl (by decide) (cap := 2) (by decide) (by decide) (by decide) (by decide)
        obtain ⟨b157, g157⟩ : ∃ z, z = h156.size := ⟨_, rfl⟩
        rw [← g157] at A157 st157
        have V157 : own_Ar Z h157 b157 .char [(.int 0), (.int 0)] := A157
        have ne_b156_b157 := own_ne A156.lt (Nat.le_of_eq g157.symm)
        have sz_b157 : h0.size ≤ b157 := Nat.le_trans Kc156.1 (Nat.le_of_eq g157.symm)
        have g_b157 : n0 ≤ b157 := Nat.le_trans Z0 sz_b157
        have hCR157 := hCR156.trans (CHr.ext E157 hCR156.1)
        have Sf157_b156 := Safe.ext E157 hCR156.1 Sf156_b156
        have Kc157 : Keep h0 h157 [] := Kc156.ext E157
        refine own_s T157 m 95 #[own_i i0, own_i i1, own_i i2, own_i i3, own_i r101, own_i r102, own_i r103, own_i nn, .unset, .unset, .unset, .unset, .unset, .unset, .unset, .unset, .unset] [.int r101, .int 0, .ref b157, .ref b157, .ref b156, .ref b156] (fun t k => st157 _ (XS.dup X157.here hx rfl (hb hby at_91) rfl (rfl) (XS.iconst X157.here hx rfl (hb hby at_92) (XS.iload X157.here hx rfl (hb hby at_93) rfl k)))) ?_
        obtain ⟨T158, h158, X158, e158, W158, V158', st158⟩ := own_stC X157 hx hZ e157 V157 (j := (0 : Int32)) (by decide) (by decide : (0 : Int32).toNatClampNeg < 2) (g := (mkF m 95 #[own_i i0, own_i i1, own_i i2, own_i i3, own_i r101, own_i r102, own_i r103, own_i nn, .unset, .unset, .unset, .unset, .unset, .unset, .unset, .unset, .unset] [.int r101, .int 0, .ref b157, .ref b157, .ref b156, .ref b156])) rfl rfl (hb hby at_95)
        have V158 : own_Ar Z h158 b157 .char [(.int (nar .char r101)), (.int 0)] := V158'
        have hCR158 := hCR157.trans (CHr.wr W158 (own_Ar.safe hZ.alike V157 (by decide)) hCR157.1)
        have Sf158_b156 := Safe.wr W158 (own_Ar.safe hZ.alike V157 (by decide)) hCR157.1 Sf157_b156
        have Kc158 : Keep h0 h158 [] := Kc157.wr W158 (Or.inr sz_b157)
        have N158 := Fr.snoc X158 N103 g_b157
        refine own_s T158 m 100 #[own_i i0, own_i i1, own_i i2, own_i i3, own_i r101, own_i r102, own_i r103, own_i nn, .unset, .unset, .unset, .unset, .unset, .unset, .unset, .unset, .unset] [.int r102, .int 1, .ref b157, .ref b157, .ref b156, .ref b156] (fun t k => st158 _ (XS.dup X158.here hx rfl (hb hby at_96) rfl (rfl) (XS.iconst X158.here hx rfl (hb hby at_97) (XS.iload X158.here hx rfl (hb hby at_98) rfl k)))) ?_
        obtain ⟨T159, h159, X159, e159, W159, V159', st159⟩ := own_stC X158 hx hZ e158 V158 (j := (1 : Int32)) (by decide) (by decide : (1 : Int32).toNatClampNeg < 2) (g := (mkF m 100 #[own_i i0, own_i i1, own_i i2, own_i i3, own_i r101, own_i r102, own_i r103, own_i nn, .unset, .unset, .unset, .unset, .unset, .unset, .unset, .unset, .unset] [.int r102, .int 1, .ref b157, .ref b157, .ref b156, .ref b156])) rfl rfl (hb hby at_100)
        have V159 : own_Ar Z h159 b157 .char [(.int (nar .char r101)), (.int (nar .char r102))] := V159'
        have hCR159 := hCR158.trans (CHr.wr W159 (own_Ar.safe hZ.alike V158 (by decide)) hCR158.1)
        have Sf159_b156 := Safe.wr W159 (own_Ar.safe hZ.alike V158 (by decide)) hCR158.1 Sf158_b156
        have Kc159 : Keep h0 h159 [] := Kc158.wr W159 (Or.inr sz_b157)
        have N159 := Fr.snoc X159 N158 g_b157
        refine own_s T159 m 101 #[own_i i0, own_i i1, own_i i2, own_i i3, own_i r101, own_i r102, own_i r103, own_i nn, .unset, .unset, .unset, .unset, .unset, .unset, .unset, .unset, .unset] [.ref b157, .ref b156, .ref b156] (fun t k => st159 _ k) ?_
        have VC : own_Ar Z h159 b157 .char (([r101, r102] : List Int32).map Value.int) := by have q := V159; rw [own_narr lr101 zr101, own_narr lr102 zr102] at q; exact q
        obtain ⟨v160, _, ⟨T160, L160, k160, n160⟩, -, X160, ⟨Lc160, hQ160, l160, y160, z160⟩, st160⟩ := X159.specialBack hx (y := own_n4) rfl hown (mvT hZ (own_w hw 8 rfl)) (mvT hZ (own_w hw 9 rfl)) (mvT hZ (own_w hw 10 rfl)) (by decide) (backOf (W := 1) (own_newS l Z a0 hw [] b156 b157 cs [r101, r102] h159 n0 (Nat.le_trans Z0 Kc159.1) (own_sta_keep CS Kc159 (fun _ _ _ _ => nin0)) hcs (((A156.ext E157).wr W158).wr W159) (((F156_21.ext E157).other W158 (Or.inl ne_b156_b157)).other W159 (Or.inl ne_b156_b157)) (((F156_20.ext E157).other W158 (Or.inl ne_b156_b157)).other W159 (Or.inl ne_b156_b157)) VC ne_b156_b157 (by simp) (by simp) (by simp) (own_chS lr101 (own_chS lr102 own_ch0)) g_b156) hZ (own_w hw 10 rfl) (own_w hw 6 rfl) (by decide) (by decide)) (g := (mkF m 101 #[own_i i0, own_i i1, own_i i2, own_i i3, own_i r101, own_i r102, own_i r103, own_i nn, .unset, .unset, .unset, .unset, .unset, .unset, .unset, .unset, .unset] [.ref b157, .ref b156, .ref b156])) rfl (by rw [hml]; rfl) (Steps.refl _) (a := b156) (argsL := [.ref b157]) (rest := [.ref b156]) (lenOf own_pd43 rfl) rfl (by exact own_ca rfl) (hb hby at_101) (fun _ _ => ⟨rfl, e159, (by decide : 2 + 1 ≤ _), (by decide : 6 + 3 ≤ _)⟩)
        dsimp only [Pt.U, Pt.locs, Pt.cells, Pt.slots] at X160 l160 y160 z160 st160 hQ160
        subst l160 y160 z160
        obtain ⟨rfl, N160q, K160, A160, Fc160, d160, szq160, Fv160, V160⟩ := hQ160
        have ne_b156_d160 := own_ne (((A156.ext E157).wr W158).wr W159).lt szq160
        have ne_b157_d160 := own_ne VC.lt szq160
        have hCR160 := hCR159.trans (CHr.keep K160 (sfS Sf159_b156 sf0) hCR159.1)
        have Sf160_b156 := Safe.keep K160 (sfS Sf159_b156 sf0) hCR159.1 Sf159_b156
        have Kc160 : Keep h0 T160.heap [] := Kc159.trans K160 (allS (Or.inr sz_b156) all0)
        have sz_d160 : h0.size ≤ d160 := Nat.le_trans Kc159.1 szq160
        have N160 := Fr.app N159 N160q
        refine own_s T160 m 136 #[own_i i0, own_i i1, own_i i2, own_i i3, own_i r101, own_i r102, own_i r103, own_i nn, own_r b156, .unset, .unset, .unset, .unset, .unset, .unset, .unset, .unset] [] (fun t k => st160.trans (XS.astore X160.here hx rfl (hb hby at_104) rfl (rfl) (l' := #[own_i i0, own_i i1, own_i i2, own_i i3, own_i r101, own_i r102, own_i r103, own_i nn, own_r b156, .unset, .unset, .unset, .unset, .unset, .unset, .unset, .unset]) rfl (XS.goto X160.here hx rfl (pc0 := 106) (pc' := 136) rfl (hb hby at_106) (by decide) (by decide) k))) ?_
        exact J104 _ _ _ _ _ (X160.more (by decide) (by decide)) rfl N160 Kc160 hS0 (Nat.le_trans (Nat.le_trans (Nat.le_trans (Nat.le_trans (Nat.le_trans hk0 E156.1) E157.1) (Keep.of_wr W158).1) (Keep.of_wr W159).1) K160.1) hZ hown hCR160 b156 d160 _ rfl A160 Fc160 Fv160 (by rw [own_host, if_neg hc34_146, if_neg hc55_150, if_pos hc81_155]; exact V160)
      · refine own_s T103 m 109 #[own_i i0, own_i i1, own_i i2, own_i i3, own_i r101, own_i r102, own_i r103, own_i nn, .unset, .unset, .unset, .unset, .unset, .unset, .unset, .unset, .unset] [] (fun t k => XS.icmpYes X103.here hx rfl (pc0 := 81) (pc' := 109) rfl (hb hby at_81) rfl (XT.ii_ne_t hc81_155) (by decide) (by decide) k) ?_
        obtain ⟨T161, h161, X161, e161, E161, A161, D161, -, st161⟩ := newO X103 hx hZ hown (own_w hw 4 rfl) (own_w hw 5 rfl) (own_w hw 6 rfl) e103 (g := (mkF m 109 #[own_i i0, own_i i1, own_i i2, own_i i3, own_i r101, own_i r102, own_i r103, own_i nn, .unset, .unset, .unset, .unset, .unset, .unset, .unset, .unset, .unset] [])) rfl (hb hby at_109) (by decide) (by decide)
        obtain ⟨b161, g161⟩ : ∃ z, z = h0.size := ⟨_, rfl⟩
        rw [← g161] at A161 D161 st161
        have sz_b161 : h0.size ≤ b161 := Nat.le_trans K0.1 (Nat.le_of_eq g161.symm)
        have g_b161 : n0 ≤ b161 := Nat.le_trans Z0 sz_b161
        have Sfb161_0 := own_sfnew hCR0 (Nat.le_of_eq g161.symm)
        have hCR161 := hCR0.trans (CHr.ext E161 hCR0.1)
        have Sf161_b161 := Safe.ext E161 hCR0.1 Sfb161_0
        have Kc161 : Keep h0 h161 [] := K0.ext E161
        have F161_20 : Fld Z h161 b161 "java/lang/String" "value" "[B" .null := D161 (Or.inr (own_w hw 20 rfl)) (ty := (.array .byte)) (by decide)
        have F161_21 : Fld Z h161 b161 "java/lang/String" "coder" "B" (.int 0) := D161 (Or.inr (own_w hw 21 rfl)) (ty := .byte) (by decide)
        refine own_s T161 m 114 #[own_i i0, own_i i1, own_i i2, own_i i3, own_i r101, own_i r102, own_i r103, own_i nn, .unset, .unset, .unset, .unset, .unset, .unset, .unset, .unset, .unset] [.int 3, .ref b161, .ref b161] (fun t k => st161 _ (XS.dup X161.here hx rfl (hb hby at_112) rfl (rfl) (XS.iconst X161.here hx rfl (hb hby at_113) k))) ?_
        obtain ⟨T162, h162, X162, e162, E162, A162, st162⟩ := own_newP X161 hx hZ (aty := .char) (own_w hw 7 rfl) e161 (g := (mkF m 114 #[own_i i0, own_i i1, own_i i2, own_i i3, own_i r101, own_i r102, own_i r103, own_i nn, .unset, .unset, .unset, .unset, .unset, .unset, .unset, .unset, .unset] [.int 3, .ref b161, .ref b161])) rfl (hb hby at_114) rfl (by decide) (cap := 3) (by decide) (by decide) (by decide) (by decide)
        obtain ⟨b162, g162⟩ : ∃ z, z = h161.size := ⟨_, rfl⟩
        rw [← g162] at A162 st162
        have V162 : own_Ar Z h162 b162 .char [(.int 0), (.int 0), (.int 0)] := A162
        have ne_b161_b162 := own_ne A161.lt (Nat.le_of_eq g162.symm)
        have sz_b162 : h0.size ≤ b162 := Nat.le_trans Kc161.1 (Nat.le_of_eq g162.symm)
        have g_b162 : n0 ≤ b162 := Nat.le_trans Z0 sz_b162
        have hCR162 := hCR161.trans (CHr.ext E162 hCR161.1)
        have Sf162_b161 := Safe.ext E162 hCR161.1 Sf161_b161
        have Kc162 : Keep h0 h162 [] := Kc161.ext E162
        refine own_s T162 m 120 #[own_i i0, own_i i1, own_i i2, own_i i3, own_i r101, own_i r102, own_i r103, own_i nn, .unset, .unset, .unset, .unset, .unset, .unset, .unset, .unset, .unset] [.int r101, .int 0, .ref b162, .ref b162, .ref b161, .ref b161] (fun t k => st162 _ (XS.dup X162.here hx rfl (hb hby at_116) rfl (rfl) (XS.iconst X162.here hx rfl (hb hby at_117) (XS.iload X162.here hx rfl (hb hby at_118) rfl k)))) ?_
        obtain ⟨T163, h163, X163, e163, W163, V163', st163⟩ := own_stC X162 hx hZ e162 V162 (j := (0 : Int32)) (by decide) (by decide : (0 : Int32).toNatClampNeg < 3) (g := (mkF m 120 #[own_i i0, own_i i1, own_i i2, own_i i3, own_i r101, own_i r102, own_i r103, own_i nn, .unset, .unset, .unset, .unset, .unset, .unset, .unset, .unset, .unset] [.int r101, .int 0, .ref b162, .ref b162, .ref b161, .ref b161])) rfl rfl (hb hby at_120)
        have V163 : own_Ar Z h163 b162 .char [(.int (nar .char r101)), (.int 0), (.int 0)] := V163'
        have hCR163 := hCR162.trans (CHr.wr W163 (own_Ar.safe hZ.alike V162 (by decide)) hCR162.1)
        have Sf163_b161 := Safe.wr W163 (own_Ar.safe hZ.alike V162 (by decide)) hCR162.1 Sf162_b161
        have Kc163 : Keep h0 h163 [] := Kc162.wr W163 (Or.inr sz_b162)
        have N163 := Fr.snoc X163 N103 g_b162
        refine own_s T163 m 125 #[own_i i0, own_i i1, own_i i2, own_i i3, own_i r101, own_i r102, own_i r103, own_i nn, .unset, .unset, .unset, .unset, .unset, .unset, .unset, .unset, .unset] [.int r102, .int 1, .ref b162, .ref b162, .ref b161, .ref b161] (fun t k => st163 _ (XS.dup X163.here hx rfl (hb hby at_121) rfl (rfl) (XS.iconst X163.here hx rfl (hb hby at_122) (XS.iload X163.here hx rfl (hb hby at_123) rfl k)))) ?_
        obtain ⟨T164, h164, X164, e164, W164, V164', st164⟩ := own_stC X163 hx hZ e163 V163 (j := (1 : Int32)) (by decide) (by decide : (1 : Int32).toNatClampNeg < 3) (g := (mkF m 125 #[own_i i0, own_i i1, own_i i2, own_i i3, own_i r101, own_i r102, own_i r103, own_i nn, .unset, .unset, .unset, .unset, .unset, .unset, .unset, .unset, .unset] [.int r102, .int 1, .ref b162, .ref b162, .ref b161, .ref b161])) rfl rfl (hb hby at_125)
        have V164 : own_Ar Z h164 b162 .char [(.int (nar .char r101)), (.int (nar .char r102)), (.int 0)] := V164'
        have hCR164 := hCR163.trans (CHr.wr W164 (own_Ar.safe hZ.alike V163 (by decide)) hCR163.1)
        have Sf164_b161 := Safe.wr W164 (own_Ar.safe hZ.alike V163 (by decide)) hCR163.1 Sf163_b161
        have Kc164 : Keep h0 h164 [] := Kc163.wr W164 (Or.inr sz_b162)
        have N164 := Fr.snoc X164 N163 g_b162
        refine own_s T164 m 130 #[own_i i0, own_i i1, own_i i2, own_i i3, own_i r101, own_i r102, own_i r103, own_i nn, .unset, .unset, .unset, .unset, .unset, .unset, .unset, .unset, .unset] [.int r103, .int 2, .ref b162, .ref b162, .ref b161, .ref b161] (fun t k => st164 _ (XS.dup X164.here hx rfl (hb hby at_126) rfl (rfl) (XS.iconst X164.here hx rfl (hb hby at_127) (XS.iload X164.here hx rfl (hb hby at_128) rfl k)))) ?_
        obtain ⟨T165, h165, X165, e165, W165, V165', st165⟩ := own_stC X164 hx hZ e164 V164 (j := (2 : Int32)) (by decide) (by decide : (2 : Int32).toNatClampNeg < 3) (g := (mkF m 130 #[own_i i0, own_i i1, own_i i2, own_i i3, own_i r101, own_i r102, own_i r103, own_i nn, .unset, .unset, .unset, .unset, .unset, .unset, .unset, .unset, .unset] [.int r103, .int 2, .ref b162, .ref b162, .ref b161, .ref b161])) rfl rfl (hb hby at_130)
        have V165 : own_Ar Z h165 b162 .char [(.int (nar .char r101)), (.int (nar .char r102)), (.int (nar .char r103))] := V165'
        have hCR165 := hCR164.trans (CHr.wr W165 (own_Ar.safe hZ.alike V164 (by decide)) hCR164.1)
        have Sf165_b161 := Safe.wr W165 (own_Ar.safe hZ.alike V164 (by decide)) hCR164.1 Sf164_b161
        have Kc165 : Keep h0 h165 [] := Kc164.wr W165 (Or.inr sz_b162)
        have N165 := Fr.snoc X165 N164 g_b162
        refine own_s T165 m 131 #[own_i i0, own_i i1, own_i i2, own_i i3, own_i r101, own_i r102, own_i r103, own_i nn, .unset, .unset, .unset, .unset, .unset, .unset, .unset, .unset, .unset] [.ref b162, .ref b161, .ref b161] (fun t k => st165 _ k) ?_
        have VC : own_Ar Z h165 b162 .char (([r101, r102, r103] : List Int32).map Value.int) := by have q := V165; rw [own_narr lr101 zr101, own_narr lr102 zr102, own_narr lr103 zr103] at q; exact q
        obtain ⟨v166, _, ⟨T166, L166, k166, n166⟩, -, X166, ⟨Lc166, hQ166, l166, y166, z166⟩, st166⟩ := X165.specialBack hx (y := own_n4) rfl hown (mvT hZ (own_w hw 8 rfl)) (mvT hZ (own_w hw 9 rfl)) (mvT hZ (own_w hw 10 rfl)) (by decide) (backOf (W := 1) (own_newS l Z a0 hw [] b161 b162 cs [r101, r102, r103] h165 n0 (Nat.le_trans Z0 Kc165.1) (own_sta_keep CS Kc165 (fun _ _ _ _ => nin0)) hcs ((((A161.ext E162).wr W163).wr W164).wr W165) ((((F161_21.ext E162).other W163 (Or.inl ne_b161_b162)).other W164 (Or.inl ne_b161_b162)).other W165 (Or.inl ne_b161_b162)) ((((F161_20.ext E162).other W163 (Or.inl ne_b161_b162)).other W164 (Or.inl ne_b161_b162)).other W165 (Or.inl ne_b161_b162)) VC ne_b161_b162 (by simp) (by simp) (by simp) (own_chS lr101 (own_chS lr102 (own_chS lr103 own_ch0))) g_b161) hZ (own_w hw 10 rfl) (own_w hw 6 rfl) (by decide) (by decide)) (g := (mkF m 131 #[own_i i0, own_i i1, own_i i2, own_i i3, own_i r101, own_i r102, own_i r103, own_i nn, .unset, .unset, .unset, .unset, .unset, .unset, .unset, .unset, .unset] [.ref b162, .ref b161, .ref b161])) rfl (by rw [hml]; rfl) (Steps.refl _) (a := b161) (argsL := [.ref b162]) (rest := [.ref b161]) (lenOf own_pd43 rfl) rfl (by exact own_ca rfl) (hb hby at_131) (fun _ _ => ⟨rfl, e165, (by decide : 2 + 1 ≤ _), (by decide : 7 + 3 ≤ _)⟩)
        dsimp only [Pt.U, Pt.locs, Pt.cells, Pt.slots] at X166 l166 y166 z166 st166 hQ166
        subst l166 y166 z166
        obtain ⟨rfl, N166q, K166, A166, Fc166, d166, szq166, Fv166, V166⟩ := hQ166
        have ne_b161_d166 := own_ne ((((A161.ext E162).wr W163).wr W164).wr W165).lt szq166
        have ne_b162_d166 := own_ne VC.lt szq166
        have hCR166 := hCR165.trans (CHr.keep K166 (sfS Sf165_b161 sf0) hCR165.1)
        have Sf166_b161 := Safe.keep K166 (sfS Sf165_b161 sf0) hCR165.1 Sf165_b161
        have Kc166 : Keep h0 T166.heap [] := Kc165.trans K166 (allS (Or.inr sz_b161) all0)
        have sz_d166 : h0.size ≤ d166 := Nat.le_trans Kc165.1 szq166
        have N166 := Fr.app N165 N166q
        refine own_s T166 m 136 #[own_i i0, own_i i1, own_i i2, own_i i3, own_i r101, own_i r102, own_i r103, own_i nn, own_r b161, .unset, .unset, .unset, .unset, .unset, .unset, .unset, .unset] [] (fun t k => st166.trans (XS.astore X166.here hx rfl (hb hby at_134) rfl (rfl) (l' := #[own_i i0, own_i i1, own_i i2, own_i i3, own_i r101, own_i r102, own_i r103, own_i nn, own_r b161, .unset, .unset, .unset, .unset, .unset, .unset, .unset, .unset]) rfl k)) ?_
        exact J104 _ _ _ _ _ (X166.more (by decide) (by decide)) rfl N166 Kc166 hS0 (Nat.le_trans (Nat.le_trans (Nat.le_trans (Nat.le_trans (Nat.le_trans (Nat.le_trans hk0 E161.1) E162.1) (Keep.of_wr W163).1) (Keep.of_wr W164).1) (Keep.of_wr W165).1) K166.1) hZ hown hCR166 b161 d166 _ rfl A166 Fc166 Fv166 (by rw [own_host, if_neg hc34_146, if_neg hc55_150, if_neg hc81_155]; exact V166)
set_option maxRecDepth 65536 in
set_option maxHeartbeats 40000000 in
theorem comes_1 {Post : Tables → Env → Array Value → State → Outcome → State → Prop} (hpost : ∀ tb e args s v u, (limb_1_1.after args s (.returned v) u = true ∧ limb_1_2.after args s (.returned v) u = true ∧ True) → ReturnedEndW s (.returned v) u (Jvm.fieldLocs frame_1_writes args s ++ Jvm.arrayLocs frame_1_arrays args s ++ Jvm.staticLocs frame_1_statics s) 104 7040 → Post tb e args s (.returned v) u) :
    ArmFor flags0 classFile x code maxLocals ret World_1 tables_1 room_1 Calls_1 rest_1 Pre_1 Post := by
  intro l hfl _ _ p e ha hc hk s m args below hf hA hF happ hP
  obtain ⟨hcalls, hrest, hpre⟩ := hP
  obtain ⟨-, -, -, hnamed, -, -, -, hat⟩ := (Spec.applies_iff hf).mp happ
  obtain ⟨hg, hn⟩ := and_e (Cond.before_iff.mp (show (Jvm.Cond.and given_1 narrow_1).before args s = true from hpre))
  obtain ⟨g1, g2⟩ := and_e hg
  obtain ⟨g3, g4⟩ := and_e g2
  obtain ⟨g5, g6⟩ := and_e g4
  obtain ⟨g7, g8⟩ := and_e g6
  obtain ⟨w0, w1, w2, w3, rfl⟩ : ∃ w0 w1 w2 w3 : Value, args = #[w0, w1, w2, w3] := by
    have hs : args.size = 4 := by simpa [Cond.value, given_1] using g1
    obtain ⟨L⟩ := args
    match L, hs with
    | [w0, w1, w2, w3], _ => exact ⟨w0, w1, w2, w3, rfl⟩
  have hw := fun d (hd : d ∈ tables_1) => atoms_spec (ws := Jvm.Cond.code x code maxLocals ret :: tables_1) hat d (List.mem_cons_of_mem _ hd)
  have hfit : Fit s := fun {y c} hc i hi => by
    obtain ⟨ha, rfl⟩ := Array.getElem?_eq_some_iff.mp hc
    have q := List.all_eq_true.mp ((Array.all_eq_true_iff_forall_mem.mp hF) _ (Array.getElem_mem ha)) i (List.mem_range.mpr hi)
    simpa [Array.getElem?_eq_getElem hi] using q
  obtain ⟨hsets, hown0⟩ := atoms_of _ (rest_1_c_eq ▸ (show rest_1_c.before _ s = true from hrest))
  have hr0 := Cond.before_iff.mp hown0
  have hCH : CHv s own_EL s.vm s.heap := CHv.start (own_hEL hw) hcalls.1 (hsets _ (List.mem_of_getElem? (i := 2) rfl)) (own_w hw 19 rfl) (own_w hw 5 rfl)
  obtain ⟨i0, ei0⟩ := is_v g3
  obtain rfl : w0 = (.int i0) := Option.some.inj ei0
  obtain ⟨i1, ei1⟩ := is_v g5
  obtain rfl : w1 = (.int i1) := Option.some.inj ei1
  obtain ⟨i2, ei2⟩ := is_v g7
  obtain rfl : w2 = (.int i2) := Option.some.inj ei2
  obtain ⟨i3, ei3⟩ := is_v g8
  obtain rfl : w3 = (.int i3) := Option.some.inj ei3
  obtain ⟨cs, ecs⟩ := is_v (Cond.before_iff.mp (hsets _ (List.mem_of_getElem? (i := 1) rfl)))
  have CS : Sta s s.heap "java/lang/String" "COMPACT_STRINGS" "Z" (.int cs) := Sta.start ecs (Or.inl (hsets _ (List.mem_of_getElem? (i := 0) rfl)))
  have hcs : ¬ cs = 0 := fun q => by
    have h0 := not_v (Cond.before_iff.mp (hsets _ (List.mem_of_getElem? (i := 2) rfl)))
    rw [Cond.eq_ints ecs (Term.int_eval 0), q] at h0
    exact absurd h0 (by decide)
  obtain ⟨wf, ewf, hfr⟩ := isR_v (Cond.before_iff.mp (hsets _ (List.mem_of_getElem? (i := 8) rfl)))
  have SF : Sta s s.heap "jdk/internal/util/Preconditions" "SIOOBE_FORMATTER" "Ljava/util/function/BiFunction;" wf := Sta.start ewf (Or.inl (hsets _ (List.mem_of_getElem? (i := 7) rfl)))
  obtain ⟨o1, D1, S1, O1, hD1⟩ := own_DGstart (fun i => i % 10) (hsets _ (List.mem_of_getElem? (i := 11) rfl)) (hsets _ (List.mem_of_getElem? (i := 12) rfl)) (own_w hw 19 rfl) (hsets _ (List.mem_of_getElem? (i := 13) rfl)) (hsets _ (List.mem_of_getElem? (i := 14) rfl)) (fun i hi => own_adde (Term.int_eval 48) (rem_f (Term.index_eval i) (Term.int_eval 10) (by decide)) (own_dgR i hi))
  obtain ⟨o2, D2, S2, O2, hD2⟩ := own_DGstart (fun i => i / 10) (hsets _ (List.mem_of_getElem? (i := 16) rfl)) (hsets _ (List.mem_of_getElem? (i := 17) rfl)) (own_w hw 19 rfl) (hsets _ (List.mem_of_getElem? (i := 18) rfl)) (hsets _ (List.mem_of_getElem? (i := 19) rfl)) (fun i hi => own_adde (Term.int_eval 48) (div_f (Term.index_eval i) (Term.int_eval 10) (by decide)) (own_dgD i hi))
  obtain ⟨n, o, h1, h2, h3, _, L, rfl, ⟨rfl, N⟩, -, hq⟩ := own_rm0 l s _ hw tables_1 i0 i1 i2 i3 cs wf o1 o2 D1 D2 s.heap s.heap.size (Nat.le_refl _) CS hcs SF hfr S1 S2 O1 O2 hD1 hD2 p e ha hc hk s m _ below hf ((Spec.applies_iff_loose hf).mp happ).1 ⟨rfl, State.Warmed39.refl s, rfl, hCH, all0⟩ trivial
  refine ⟨n, _, h1, h2, h3, hpost _ _ _ _ _ _ ⟨Cond.after_iff.mpr rfl, Cond.after_iff.mpr (eq_i res_at (Term.int_eval (1)) rfl), trivial⟩ ⟨hq.1, hq.2.1, hq.2.2.1, (hq.2.2.2.sift fun y hy => Or.inr (N y hy)).mono (by decide) (by decide)⟩⟩
theorem main_1_1 : Claimed_1_1 := comes_1 fun _ _ _ _ _ _ h hF => ⟨h.1, hF⟩
theorem main_1_2 : Claimed_1_2 := comes_1 fun _ _ _ _ _ _ h hF => ⟨h.2.1, hF⟩
end Jvm.Pilot.@@N@@
namespace Jvm.Pilot.@@N@@
open Jvm Jvm.ClassFile Sem Op Lib Jvm.Free Jvm.Stand Jvm.Pilot.@@N@@.Jvm.D
/-! MADE BY PROGRAM (witnessworld.py) out of the Statement's table words and the real class files: 31 classes; the members and pool entries that the words name. The judged class is class 1, her method 1. -/
namespace start1
open Jvm.ClassFile
def u (s : String) : CpInfo := .utf8 (stringToUtf16 s)
/-- a pool by its gaps: so many unusable entries, then the entry; so many at the end -/
def gap : Nat → List CpInfo → List CpInfo
  | 0, r => r
  | n + 1, r => .unusable :: gap n r
def poolList (es : List (Nat × CpInfo)) (last : Nat) : List CpInfo := es.foldr (fun e r => gap e.1 (e.2 :: r)) (gap last [])
def pool (es : List (Nat × CpInfo)) (last : Nat) : Array CpInfo := ⟨poolList es last⟩
def fileOf (pool : Array CpInfo) (this : Nat) (attrs : Array Attribute := #[]) (ms : Array MethodInfo := #[]) (fl : Nat := 33) (sup : Nat := 0) (ifs : Array Nat := #[]) (fds : Array FieldInfo := #[]) : ClassFile where
  minorVersion := 0
  majorVersion := 65
  constantPool := pool
  accessFlags := fl
  thisClass := this
  superClass := sup
  interfaces := ifs
  fields := fds
  methods := ms
  attributes := attrs
def plain (name : String) (sup : Option ClassId) : Class where
  name := name
  kind := .ordinary
  loader := none
  accessFlags := 33
  super := sup
  interfaces := #[]
  cf := none
  fields := #[]
  methods := #[]
  instanceTypes := #[]
  staticTypes := #[]
  resolved := #[]
  callSites := []
  init := .initialized
  statics := none
  mirror := none

def pool0 : Array CpInfo := pool [(5, u "<init>"), (0, u "()V"), (1, .class_ 10), (1, u "java/lang/Object"), (85, u "clone"), (0, u "()Ljava/lang/Object;")] 26

def k0c0 : Code := { maxStack := 0, maxLocals := 1, code := object_method_1_code, exceptionTable := #[], attributes := #[] }
def k0m0 : Method := { name := "<init>", desc := "()V", sig := { parameters := [], returnType := none }, accessFlags := 1, code := some k0c0 }
def k0m1 : Method := { name := "clone", desc := "()Ljava/lang/Object;", sig := { parameters := [], returnType := some (.object "java/lang/Object") }, accessFlags := 260, code := none }
/-- java/lang/Object -/
def k0 : Class := { plain "java/lang/Object" none with
  accessFlags := 33
  interfaces := #[]
  cf := some (fileOf pool0 8 #[] #[{ accessFlags := 1, nameIndex := 5, descriptorIndex := 6, attributes := #[] }, { accessFlags := 260, nameIndex := 96, descriptorIndex := 97, attributes := #[] }] 33 0 #[] #[])
  fields := #[]
  methods := #[k0m0, k0m1]
  instanceTypes := #[]
  staticTypes := #[]
  resolved := Array.replicate 124 none
  statics := none }

def pool1 : Array CpInfo := pool [(2, .class_ 4), (1, u "java/lang/Object"), (0, u "<init>"), (0, u "()V"), (0, .methodref 8 9), (0, .class_ 10), (0, .nameAndType 11 12), (0, u "com/example/holdfast/holdfast/store/RedisAddressToStringPinLaw"), (0, u "pick"), (0, u "(I)C"), (0, .class_ 14), (0, u "java/lang/String"), (0, .methodref 13 16), (0, .nameAndType 5 17), (0, u "([C)V"), (0, .methodref 13 19), (0, .nameAndType 20 21), (0, u "valueOf"), (0, u "(C)Ljava/lang/String;"), (0, .integer 65536), (0, .integer 131072), (0, .class_ 25), (0, u "com/example/holdfast/holdfast/store/RedisAddress"), (0, .methodref 24 27), (0, .nameAndType 5 28), (0, u "(Ljava/lang/String;ILjava/lang/String;Ljava/lang/String;I)V"), (0, .methodref 24 30), (0, .nameAndType 31 32), (0, u "toString"), (0, u "()Ljava/lang/String;"), (0, .methodref 8 34), (0, .nameAndType 35 36), (0, u "decLen"), (0, u "(I)I"), (0, .methodref 13 38), (0, .nameAndType 39 40), (0, u "length"), (0, u "()I"), (0, .methodref 13 42), (0, .nameAndType 43 12), (0, u "charAt"), (0, .methodref 8 45), (0, .nameAndType 46 47), (0, u "intOk"), (0, u "(Ljava/lang/String;II)Z"), (0, .long 10), (1, .long 100), (1, .long 1000), (1, .long 10000), (1, .long 100000), (1, .long 1000000), (1, .long 10000000), (1, .long 100000000), (1, .long 1000000000), (1, .methodref 67 68), (0, .class_ 69), (0, .nameAndType 70 71), (0, u "java/lang/Math"), (0, u "abs"), (0, u "(J)J"), (0, .methodref 8 73), (0, .nameAndType 74 75), (0, u "digits"), (0, u "(J)I"), (0, .methodref 8 77), (0, .nameAndType 78 79), (0, u "digitOk"), (0, u "(Ljava/lang/String;IJII)Z"), (2, u "law"), (0, u "(IIII)Z")] 5

def k1m0 : Method := { name := "<init>", desc := "()V", sig := { parameters := [], returnType := none }, accessFlags := 1, code := none }
def k1c1 : Code := { maxStack := 7, maxLocals := 17, code := code, exceptionTable := #[], attributes := #[] }
def k1m1 : Method := { name := "law", desc := "(IIII)Z", sig := { parameters := [.int, .int, .int, .int], returnType := some .boolean }, accessFlags := 9, code := some k1c1 }
def k1c2 : Code := { maxStack := 2, maxLocals := 1, code := method_3_code, exceptionTable := #[], attributes := #[] }
def k1m2 : Method := { name := "pick", desc := "(I)C", sig := { parameters := [.int], returnType := some .char }, accessFlags := 10, code := some k1c2 }
def k1c3 : Code := { maxStack := 4, maxLocals := 2, code := method_4_code, exceptionTable := #[], attributes := #[] }
def k1m3 : Method := { name := "digits", desc := "(J)I", sig := { parameters := [.long], returnType := some .int }, accessFlags := 10, code := some k1c3 }
def k1c4 : Code := { maxStack := 3, maxLocals := 3, code := method_5_code, exceptionTable := #[], attributes := #[] }
def k1m4 : Method := { name := "decLen", desc := "(I)I", sig := { parameters := [.int], returnType := some .int }, accessFlags := 10, code := some k1c4 }
def k1c5 : Code := { maxStack := 5, maxLocals := 8, code := method_6_code, exceptionTable := #[], attributes := #[] }
def k1m5 : Method := { name := "digitOk", desc := "(Ljava/lang/String;IJII)Z", sig := { parameters := [(.object "java/lang/String"), .int, .long, .int, .int], returnType := some .boolean }, accessFlags := 10, code := some k1c5 }
def k1c6 : Code := { maxStack := 6, maxLocals := 7, code := method_7_code, exceptionTable := #[], attributes := #[] }
def k1m6 : Method := { name := "intOk", desc := "(Ljava/lang/String;II)Z", sig := { parameters := [(.object "java/lang/String"), .int, .int], returnType := some .boolean }, accessFlags := 10, code := some k1c6 }
/-- com/example/holdfast/holdfast/store/RedisAddressToStringPinLaw -/
def k1 : Class := { plain "com/example/holdfast/holdfast/store/RedisAddressToStringPinLaw" (some 0) with
  accessFlags := 49
  interfaces := #[]
  cf := some (fileOf pool1 8 #[] #[{ accessFlags := 1, nameIndex := 5, descriptorIndex := 6, attributes := #[] }, { accessFlags := 9, nameIndex := 82, descriptorIndex := 83, attributes := #[] }, { accessFlags := 10, nameIndex := 11, descriptorIndex := 12, attributes := #[] }, { accessFlags := 10, nameIndex := 74, descriptorIndex := 75, attributes := #[] }, { accessFlags := 10, nameIndex := 35, descriptorIndex := 36, attributes := #[] }, { accessFlags := 10, nameIndex := 78, descriptorIndex := 79, attributes := #[] }, { accessFlags := 10, nameIndex := 46, descriptorIndex := 47, attributes := #[] }] 49 2 #[] #[])
  fields := #[]
  methods := #[k1m0, k1m1, k1m2, k1m3, k1m4, k1m5, k1m6]
  instanceTypes := #[]
  staticTypes := #[]
  resolved := Array.replicate 89 none
  statics := none }

def pool2 : Array CpInfo := pool [(1, .class_ 2), (0, u "java/io/Serializable"), (0, .class_ 4), (0, u "java/lang/Object")] 2

/-- java/io/Serializable -/
def k2 : Class := { plain "java/io/Serializable" (some 0) with
  accessFlags := 1537
  interfaces := #[]
  cf := some (fileOf pool2 1 #[] #[] 1537 3 #[] #[])
  fields := #[]
  methods := #[]
  instanceTypes := #[]
  staticTypes := #[]
  resolved := Array.replicate 7 none
  statics := none }

def pool3 : Array CpInfo := pool [(1, .class_ 2), (0, u "java/lang/Comparable"), (0, .class_ 4), (0, u "java/lang/Object")] 7

/-- java/lang/Comparable -/
def k3 : Class := { plain "java/lang/Comparable" (some 0) with
  accessFlags := 1537
  interfaces := #[]
  cf := some (fileOf pool3 1 #[] #[] 1537 3 #[] #[])
  fields := #[]
  methods := #[]
  instanceTypes := #[]
  staticTypes := #[]
  resolved := Array.replicate 12 none
  statics := none }

def pool4 : Array CpInfo := pool [(2, .class_ 4), (1, u "java/lang/CharSequence"), (42, .class_ 48), (0, u "java/lang/CharSequence$1CodePointIterator"), (10, .class_ 60), (0, u "java/lang/CharSequence$1CharIterator"), (5, .class_ 67), (0, u "java/lang/Object"), (10, u "toString"), (0, u "()Ljava/lang/String;")] 51

def k4m0 : Method := { name := "toString", desc := "()Ljava/lang/String;", sig := { parameters := [], returnType := some (.object "java/lang/String") }, accessFlags := 1025, code := none }
/-- java/lang/CharSequence -/
def k4 : Class := { plain "java/lang/CharSequence" (some 0) with
  accessFlags := 1537
  interfaces := #[]
  cf := some (fileOf pool4 2 #[.nestMembers #[47, 59]] #[{ accessFlags := 1025, nameIndex := 78, descriptorIndex := 79, attributes := #[] }] 1537 66 #[] #[])
  fields := #[]
  methods := #[k4m0]
  instanceTypes := #[]
  staticTypes := #[]
  resolved := Array.replicate 131 none
  statics := none }

def pool5 : Array CpInfo := pool [(1, .class_ 2), (0, u "java/lang/constant/Constable"), (0, .class_ 4), (0, u "java/lang/Object")] 6

/-- java/lang/constant/Constable -/
def k5 : Class := { plain "java/lang/constant/Constable" (some 0) with
  accessFlags := 1537
  interfaces := #[]
  cf := some (fileOf pool5 1 #[] #[] 1537 3 #[] #[])
  fields := #[]
  methods := #[]
  instanceTypes := #[]
  staticTypes := #[]
  resolved := Array.replicate 11 none
  statics := none }

def pool6 : Array CpInfo := pool [(1, .class_ 2), (0, u "java/lang/constant/ConstantDesc"), (0, .class_ 4), (0, u "java/lang/Object")] 32

/-- java/lang/constant/ConstantDesc -/
def k6 : Class := { plain "java/lang/constant/ConstantDesc" (some 0) with
  accessFlags := 1537
  interfaces := #[]
  cf := some (fileOf pool6 1 #[] #[] 1537 3 #[] #[])
  fields := #[]
  methods := #[]
  instanceTypes := #[]
  staticTypes := #[]
  resolved := Array.replicate 37 none
  statics := none }

def pool7 : Array CpInfo := pool [(1, .methodref 2 3), (0, .class_ 4), (0, .nameAndType 5 6), (0, u "java/lang/Object"), (0, u "<init>"), (0, u "()V"), (0, .string 8), (0, u ""), (0, .fieldref 10 11), (0, .class_ 12), (0, .nameAndType 13 14), (0, u "java/lang/String"), (0, u "value"), (0, u "[B"), (0, .fieldref 10 16), (0, .nameAndType 17 18), (0, u "coder"), (0, u "B"), (2, u "hash"), (0, u "I"), (2, u "hashIsZero"), (0, u "Z"), (0, .methodref 10 28), (0, .nameAndType 5 29), (0, u "([CIILjava/lang/Void;)V"), (8, .fieldref 10 39), (0, .nameAndType 40 26), (0, u "COMPACT_STRINGS"), (1, .class_ 44), (1, u "java/lang/StringUTF16"), (0, u "compress"), (1, .methodref 42 48), (0, .nameAndType 49 50), (0, u "coderFromArrayLen"), (0, u "([BI)B"), (2, u "toBytes"), (0, .methodref 55 56), (0, .class_ 57), (0, .nameAndType 58 59), (0, u "java/util/Arrays"), (0, u "copyOfRange"), (0, u "([BII)[B"), (47, .class_ 109), (1, u "java/lang/StringLatin1"), (32, u "()Z"), (34, .methodref 42 178), (0, .nameAndType 45 179), (0, u "([CII)[B"), (13, .class_ 195), (1, u "java/lang/System"), (13, .methodref 10 210), (0, .nameAndType 5 211), (0, u "([BB)V"), (0, .methodref 193 213), (0, .nameAndType 214 215), (0, u "arraycopy"), (0, u "(Ljava/lang/Object;ILjava/lang/Object;II)V"), (118, u "()I"), (0, .methodref 10 336), (0, .nameAndType 17 337), (0, u "()B"), (2, u "()[B"), (22, u "([BI)C"), (5, u "(C)Z"), (21, u "(II)V"), (35, u "(I)C"), (34, .nameAndType 463 464), (0, u "toString"), (0, u "()Ljava/lang/String;"), (24, .methodref 10 490), (0, .nameAndType 5 491), (0, u "(Ljava/lang/AbstractStringBuilder;Ljava/lang/Void;)V"), (0, .methodref 10 493), (0, .nameAndType 494 142), (0, u "isLatin1"), (0, .methodref 107 496), (0, .nameAndType 497 363), (0, u "charAt"), (3, u "checkIndex"), (4, .nameAndType 507 334), (0, u "length"), (24, u "getBytes"), (15, u "(Ljava/lang/CharSequence;)Z"), (0, .methodref 550 506), (0, .class_ 551), (0, u "java/lang/AbstractStringBuilder"), (0, .methodref 550 553), (0, .nameAndType 554 340), (0, u "getValue"), (20, .class_ 576), (0, u "java/lang/CharSequence"), (12, u "([B[B)I"), (9, u "CASE_INSENSITIVE_ORDER"), (0, u "Ljava/util/Comparator;"), (34, u "indexOf"), (11, .methodref 107 648), (0, .nameAndType 635 589), (61, .interfaceMethodref 575 462), (0, .methodref 10 712), (0, .nameAndType 635 713), (0, u "(Ljava/lang/String;)I"), (68, u "valueOf"), (0, u "(C)Ljava/lang/String;"), (37, u "([BIB)V"), (188, u "([C)V"), (4, .methodref 107 1016), (0, .nameAndType 1017 369), (0, u "canEncode"), (0, .methodref 107 1019), (0, .nameAndType 53 1020), (0, u "(C)[B"), (26, .methodref 550 493), (5, .fieldref 1054 1055), (0, .class_ 1056), (0, .nameAndType 1057 1058), (0, u "jdk/internal/util/Preconditions"), (0, u "SIOOBE_FORMATTER"), (0, u "Ljava/util/function/BiFunction;"), (0, .methodref 1054 1060), (0, .nameAndType 501 1061), (0, u "(IILjava/util/function/BiFunction;)I"), (39, u "serialPersistentFields"), (0, u "[Ljava/io/ObjectStreamField;"), (0, .class_ 1104), (0, u "java/lang/String$CaseInsensitiveComparator"), (1, .class_ 1107), (0, u "java/io/Serializable"), (0, .class_ 1109), (0, u "java/lang/Comparable"), (0, .class_ 1111), (0, u "java/lang/constant/Constable"), (0, .class_ 1113), (0, u "java/lang/constant/ConstantDesc"), (2, u "serialVersionUID"), (0, u "J"), (3, u "REPL"), (0, u "C"), (2, u "LATIN1"), (1, u "UTF16"), (105, u "(Ljava/lang/StringBuilder;)V"), (57, u "contains")] 159

def k7m0 : Method := { name := "<init>", desc := "()V", sig := { parameters := [], returnType := none }, accessFlags := 1, code := none }
def k7c1 : Code := { maxStack := 5, maxLocals := 2, code := jdk_42_method_3_code, exceptionTable := #[], attributes := #[] }
def k7m1 : Method := { name := "<init>", desc := "([C)V", sig := { parameters := [(.array .char)], returnType := none }, accessFlags := 1, code := some k7c1 }
def k7c2 : Code := { maxStack := 3, maxLocals := 2, code := jdk_42_method_53_code, exceptionTable := #[], attributes := #[] }
def k7m2 : Method := { name := "<init>", desc := "(Ljava/lang/StringBuilder;)V", sig := { parameters := [(.object "java/lang/StringBuilder")], returnType := none }, accessFlags := 1, code := some k7c2 }
def k7c3 : Code := { maxStack := 2, maxLocals := 1, code := jdk_42_method_54_code, exceptionTable := #[], attributes := #[] }
def k7m3 : Method := { name := "length", desc := "()I", sig := { parameters := [], returnType := some .int }, accessFlags := 1, code := some k7c3 }
def k7c4 : Code := { maxStack := 2, maxLocals := 2, code := jdk_42_method_56_code, exceptionTable := #[], attributes := #[] }
def k7m4 : Method := { name := "charAt", desc := "(I)C", sig := { parameters := [.int], returnType := some .char }, accessFlags := 1, code := some k7c4 }
def k7c5 : Code := { maxStack := 2, maxLocals := 3, code := jdk_42_method_84_code, exceptionTable := #[], attributes := #[] }
def k7m5 : Method := { name := "indexOf", desc := "(Ljava/lang/String;)I", sig := { parameters := [(.object "java/lang/String")], returnType := some .int }, accessFlags := 1, code := some k7c5 }
def k7c6 : Code := { maxStack := 2, maxLocals := 2, code := jdk_42_method_97_code, exceptionTable := #[], attributes := #[] }
def k7m6 : Method := { name := "contains", desc := "(Ljava/lang/CharSequence;)Z", sig := { parameters := [(.object "java/lang/CharSequence")], returnType := some .boolean }, accessFlags := 1, code := some k7c6 }
def k7c7 : Code := { maxStack := 1, maxLocals := 1, code := jdk_42_method_126_code, exceptionTable := #[], attributes := #[] }
def k7m7 : Method := { name := "toString", desc := "()Ljava/lang/String;", sig := { parameters := [], returnType := some (.object "java/lang/String") }, accessFlags := 1, code := some k7c7 }
def k7c8 : Code := { maxStack := 4, maxLocals := 1, code := jdk_42_method_139_code, exceptionTable := #[], attributes := #[] }
def k7m8 : Method := { name := "valueOf", desc := "(C)Ljava/lang/String;", sig := { parameters := [.char], returnType := some (.object "java/lang/String") }, accessFlags := 9, code := some k7c8 }
def k7c9 : Code := { maxStack := 5, maxLocals := 4, code := jdk_42_method_147_code, exceptionTable := #[], attributes := #[] }
def k7m9 : Method := { name := "getBytes", desc := "([BIB)V", sig := { parameters := [(.array .byte), .int, .byte], returnType := none }, accessFlags := 0, code := some k7c9 }
def k7c10 : Code := { maxStack := 4, maxLocals := 6, code := jdk_42_method_149_code, exceptionTable := #[], attributes := #[] }
def k7m10 : Method := { name := "<init>", desc := "([CIILjava/lang/Void;)V", sig := { parameters := [(.array .char), .int, .int, (.object "java/lang/Void")], returnType := none }, accessFlags := 2, code := some k7c10 }
def k7c11 : Code := { maxStack := 5, maxLocals := 5, code := jdk_42_method_150_code, exceptionTable := #[], attributes := #[] }
def k7m11 : Method := { name := "<init>", desc := "(Ljava/lang/AbstractStringBuilder;Ljava/lang/Void;)V", sig := { parameters := [(.object "java/lang/AbstractStringBuilder"), (.object "java/lang/Void")], returnType := none }, accessFlags := 0, code := some k7c11 }
def k7c12 : Code := { maxStack := 2, maxLocals := 3, code := jdk_42_method_151_code, exceptionTable := #[], attributes := #[] }
def k7m12 : Method := { name := "<init>", desc := "([BB)V", sig := { parameters := [(.array .byte), .byte], returnType := none }, accessFlags := 0, code := some k7c12 }
def k7c13 : Code := { maxStack := 1, maxLocals := 1, code := jdk_42_method_152_code, exceptionTable := #[], attributes := #[] }
def k7m13 : Method := { name := "coder", desc := "()B", sig := { parameters := [], returnType := some .byte }, accessFlags := 0, code := some k7c13 }
def k7c14 : Code := { maxStack := 1, maxLocals := 1, code := jdk_42_method_154_code, exceptionTable := #[], attributes := #[] }
def k7m14 : Method := { name := "isLatin1", desc := "()Z", sig := { parameters := [], returnType := some .boolean }, accessFlags := 0, code := some k7c14 }
def k7c15 : Code := { maxStack := 3, maxLocals := 2, code := jdk_42_method_155_code, exceptionTable := #[], attributes := #[] }
def k7m15 : Method := { name := "checkIndex", desc := "(II)V", sig := { parameters := [.int, .int], returnType := none }, accessFlags := 8, code := some k7c15 }
/-- java/lang/String -/
def k7 : Class := { plain "java/lang/String" (some 0) with
  accessFlags := 49
  interfaces := #[2, 3, 4, 5, 6]
  cf := some (fileOf pool7 10 #[.nestMembers #[1103]] #[{ accessFlags := 1, nameIndex := 5, descriptorIndex := 6, attributes := #[] }, { accessFlags := 1, nameIndex := 5, descriptorIndex := 1010, attributes := #[] }, { accessFlags := 1, nameIndex := 5, descriptorIndex := 1233, attributes := #[] }, { accessFlags := 1, nameIndex := 507, descriptorIndex := 334, attributes := #[] }, { accessFlags := 1, nameIndex := 497, descriptorIndex := 427, attributes := #[] }, { accessFlags := 1, nameIndex := 635, descriptorIndex := 713, attributes := #[] }, { accessFlags := 1, nameIndex := 1291, descriptorIndex := 548, attributes := #[] }, { accessFlags := 1, nameIndex := 463, descriptorIndex := 464, attributes := #[] }, { accessFlags := 9, nameIndex := 782, descriptorIndex := 783, attributes := #[] }, { accessFlags := 0, nameIndex := 532, descriptorIndex := 821, attributes := #[] }, { accessFlags := 2, nameIndex := 5, descriptorIndex := 29, attributes := #[] }, { accessFlags := 0, nameIndex := 5, descriptorIndex := 491, attributes := #[] }, { accessFlags := 0, nameIndex := 5, descriptorIndex := 211, attributes := #[] }, { accessFlags := 0, nameIndex := 17, descriptorIndex := 337, attributes := #[] }, { accessFlags := 0, nameIndex := 494, descriptorIndex := 142, attributes := #[] }, { accessFlags := 8, nameIndex := 501, descriptorIndex := 391, attributes := #[] }] 49 2 #[1106, 1108, 575, 1110, 1112] #[{ accessFlags := 18, nameIndex := 13, descriptorIndex := 14, attributes := #[] }, { accessFlags := 18, nameIndex := 17, descriptorIndex := 18, attributes := #[] }, { accessFlags := 2, nameIndex := 21, descriptorIndex := 22, attributes := #[] }, { accessFlags := 2, nameIndex := 25, descriptorIndex := 26, attributes := #[] }, { accessFlags := 26, nameIndex := 1116, descriptorIndex := 1117, attributes := #[] }, { accessFlags := 24, nameIndex := 40, descriptorIndex := 26, attributes := #[] }, { accessFlags := 26, nameIndex := 1101, descriptorIndex := 1102, attributes := #[] }, { accessFlags := 26, nameIndex := 1121, descriptorIndex := 1122, attributes := #[] }, { accessFlags := 25, nameIndex := 599, descriptorIndex := 600, attributes := #[] }, { accessFlags := 24, nameIndex := 1125, descriptorIndex := 18, attributes := #[] }, { accessFlags := 24, nameIndex := 1127, descriptorIndex := 18, attributes := #[] }])
  fields := #[{ name := "value", type := (.array .byte), accessFlags := 18, slot := 0, constantValue := 0 }, { name := "coder", type := .byte, accessFlags := 18, slot := 1, constantValue := 0 }, { name := "hash", type := .int, accessFlags := 2, slot := 2, constantValue := 0 }, { name := "hashIsZero", type := .boolean, accessFlags := 2, slot := 3, constantValue := 0 }, { name := "serialVersionUID", type := .long, accessFlags := 26, slot := 0, constantValue := 0 }, { name := "COMPACT_STRINGS", type := .boolean, accessFlags := 24, slot := 1, constantValue := 0 }, { name := "serialPersistentFields", type := (.array (.object "java/io/ObjectStreamField")), accessFlags := 26, slot := 2, constantValue := 0 }, { name := "REPL", type := .char, accessFlags := 26, slot := 3, constantValue := 0 }, { name := "CASE_INSENSITIVE_ORDER", type := (.object "java/util/Comparator"), accessFlags := 25, slot := 4, constantValue := 0 }, { name := "LATIN1", type := .byte, accessFlags := 24, slot := 5, constantValue := 0 }, { name := "UTF16", type := .byte, accessFlags := 24, slot := 6, constantValue := 0 }]
  methods := #[k7m0, k7m1, k7m2, k7m3, k7m4, k7m5, k7m6, k7m7, k7m8, k7m9, k7m10, k7m11, k7m12, k7m13, k7m14, k7m15]
  instanceTypes := #[(.array .byte), .byte, .int, .boolean]
  staticTypes := #[.long, .boolean, (.array (.object "java/io/ObjectStreamField")), .char, (.object "java/util/Comparator"), .byte, .byte]
  resolved := Array.replicate 1451 none
  statics := some 0 }

def pool8 : Array CpInfo := pool [(1, .class_ 2), (0, u "java/lang/String"), (1, .class_ 6), (1, u "java/lang/Object"), (0, u "<init>"), (0, u "()V"), (0, .methodref 1 10), (0, .nameAndType 11 12), (0, u "checkIndex"), (0, u "(II)V"), (1, .class_ 16), (1, u "java/lang/StringLatin1"), (36, u "([BI)C"), (36, u "canEncode"), (8, .methodref 14 100), (0, .nameAndType 101 102), (0, u "indexOf"), (0, u "([BI[BII)I"), (2, u "(C)Z"), (15, u "$assertionsDisabled"), (0, u "Z"), (98, .class_ 223), (1, u "java/lang/StringLatin1$LinesSpliterator"), (28, u "charAt"), (34, u "([B[B)I"), (92, u "toBytes"), (1, u "(C)[B"), (7, .class_ 391), (0, u "java/lang/StringLatin1$CharsSpliterator")] 3

def k8m0 : Method := { name := "<init>", desc := "()V", sig := { parameters := [], returnType := none }, accessFlags := 0, code := none }
def k8c1 : Code := { maxStack := 2, maxLocals := 2, code := jdk_43_method_2_code, exceptionTable := #[], attributes := #[] }
def k8m1 : Method := { name := "charAt", desc := "([BI)C", sig := { parameters := [(.array .byte), .int], returnType := some .char }, accessFlags := 9, code := some k8c1 }
def k8c2 : Code := { maxStack := 2, maxLocals := 1, code := jdk_43_method_3_code, exceptionTable := #[], attributes := #[] }
def k8m2 : Method := { name := "canEncode", desc := "(C)Z", sig := { parameters := [.char], returnType := some .boolean }, accessFlags := 9, code := some k8c2 }
def k8c3 : Code := { maxStack := 5, maxLocals := 2, code := jdk_43_method_24_code, exceptionTable := #[], attributes := #[] }
def k8m3 : Method := { name := "indexOf", desc := "([B[B)I", sig := { parameters := [(.array .byte), (.array .byte)], returnType := some .int }, accessFlags := 9, code := some k8c3 }
def k8c4 : Code := { maxStack := 3, maxLocals := 11, code := jdk_43_method_25_code, exceptionTable := #[], attributes := #[] }
def k8m4 : Method := { name := "indexOf", desc := "([BI[BII)I", sig := { parameters := [(.array .byte), .int, (.array .byte), .int, .int], returnType := some .int }, accessFlags := 9, code := some k8c4 }
def k8c5 : Code := { maxStack := 4, maxLocals := 1, code := jdk_43_method_46_code, exceptionTable := #[], attributes := #[] }
def k8m5 : Method := { name := "toBytes", desc := "(C)[B", sig := { parameters := [.char], returnType := some (.array .byte) }, accessFlags := 9, code := some k8c5 }
/-- java/lang/StringLatin1 -/
def k8 : Class := { plain "java/lang/StringLatin1" (some 0) with
  accessFlags := 48
  interfaces := #[]
  cf := some (fileOf pool8 14 #[.nestMembers #[390, 221]] #[{ accessFlags := 0, nameIndex := 7, descriptorIndex := 8, attributes := #[] }, { accessFlags := 9, nameIndex := 252, descriptorIndex := 53, attributes := #[] }, { accessFlags := 9, nameIndex := 90, descriptorIndex := 105, attributes := #[] }, { accessFlags := 9, nameIndex := 101, descriptorIndex := 287, attributes := #[] }, { accessFlags := 9, nameIndex := 101, descriptorIndex := 102, attributes := #[] }, { accessFlags := 9, nameIndex := 380, descriptorIndex := 382, attributes := #[] }] 48 4 #[] #[{ accessFlags := 4120, nameIndex := 121, descriptorIndex := 122, attributes := #[] }])
  fields := #[{ name := "$assertionsDisabled", type := .boolean, accessFlags := 4120, slot := 0, constantValue := 0 }]
  methods := #[k8m0, k8m1, k8m2, k8m3, k8m4, k8m5]
  instanceTypes := #[]
  staticTypes := #[.boolean]
  resolved := Array.replicate 395 none
  statics := none }

def pool9 : Array CpInfo := pool [(1, .methodref 2 3), (0, .class_ 4), (0, .nameAndType 5 6), (0, u "java/lang/Object"), (0, u "<init>"), (0, u "()V"), (0, .class_ 8), (0, u "java/lang/Record")] 13

def k9c0 : Code := { maxStack := 1, maxLocals := 1, code := jdk_30_method_1_code, exceptionTable := #[], attributes := #[] }
def k9m0 : Method := { name := "<init>", desc := "()V", sig := { parameters := [], returnType := none }, accessFlags := 4, code := some k9c0 }
/-- java/lang/Record -/
def k9 : Class := { plain "java/lang/Record" (some 0) with
  accessFlags := 1057
  interfaces := #[]
  cf := some (fileOf pool9 7 #[] #[{ accessFlags := 4, nameIndex := 5, descriptorIndex := 6, attributes := #[] }] 1057 2 #[] #[])
  fields := #[]
  methods := #[k9m0]
  instanceTypes := #[]
  staticTypes := #[]
  resolved := Array.replicate 22 none
  statics := none }

def pool10 : Array CpInfo := pool [(1, .methodref 2 3), (0, .class_ 4), (0, .nameAndType 5 6), (0, u "java/lang/Record"), (0, u "<init>"), (0, u "()V"), (0, .fieldref 8 9), (0, .class_ 10), (0, .nameAndType 11 12), (0, u "com/example/holdfast/holdfast/store/RedisAddress"), (0, u "host"), (0, u "Ljava/lang/String;"), (0, .fieldref 8 14), (0, .nameAndType 15 16), (0, u "port"), (0, u "I"), (0, .fieldref 8 18), (0, .nameAndType 19 12), (0, u "user"), (0, .fieldref 8 21), (0, .nameAndType 22 12), (0, u "password"), (0, .fieldref 8 24), (0, .nameAndType 25 16), (0, u "database"), (5, u "()Ljava/lang/String;"), (20, .class_ 53), (0, u "java/lang/StringBuilder"), (0, .methodref 52 3), (2, .methodref 52 58), (0, .nameAndType 59 60), (0, u "append"), (0, u "(Ljava/lang/String;)Ljava/lang/StringBuilder;"), (0, .methodref 52 62), (0, .nameAndType 59 63), (0, u "(I)Ljava/lang/StringBuilder;"), (2, .methodref 52 67), (0, .nameAndType 68 31), (0, u "toString"), (4, .class_ 75), (1, u "java/lang/String"), (34, u "(Ljava/lang/String;ILjava/lang/String;Ljava/lang/String;I)V"), (4, .string 116), (0, u "/"), (36, .string 154), (0, u ":"), (0, .methodref 73 156), (0, .nameAndType 157 158), (0, u "contains"), (0, u "(Ljava/lang/CharSequence;)Z"), (0, .string 160), (0, u "["), (0, .string 162), (0, u "]"), (0, .string 164), (0, u ""), (7, u "DEFAULT_PORT")] 32

def k10c0 : Code := { maxStack := 2, maxLocals := 6, code := prog_24_method_1_code, exceptionTable := #[], attributes := #[] }
def k10m0 : Method := { name := "<init>", desc := "(Ljava/lang/String;ILjava/lang/String;Ljava/lang/String;I)V", sig := { parameters := [(.object "java/lang/String"), .int, (.object "java/lang/String"), (.object "java/lang/String"), .int], returnType := none }, accessFlags := 0, code := some k10c0 }
def k10c1 : Code := { maxStack := 3, maxLocals := 2, code := prog_24_method_5_code, exceptionTable := #[], attributes := #[] }
def k10m1 : Method := { name := "toString", desc := "()Ljava/lang/String;", sig := { parameters := [], returnType := some (.object "java/lang/String") }, accessFlags := 1, code := some k10c1 }
/-- com/example/holdfast/holdfast/store/RedisAddress -/
def k10 : Class := { plain "com/example/holdfast/holdfast/store/RedisAddress" (some 9) with
  accessFlags := 48
  interfaces := #[]
  cf := some (fileOf pool10 8 #[] #[{ accessFlags := 0, nameIndex := 5, descriptorIndex := 110, attributes := #[] }, { accessFlags := 1, nameIndex := 68, descriptorIndex := 31, attributes := #[] }] 48 2 #[] #[{ accessFlags := 18, nameIndex := 11, descriptorIndex := 12, attributes := #[] }, { accessFlags := 18, nameIndex := 15, descriptorIndex := 16, attributes := #[] }, { accessFlags := 18, nameIndex := 19, descriptorIndex := 12, attributes := #[] }, { accessFlags := 18, nameIndex := 22, descriptorIndex := 12, attributes := #[] }, { accessFlags := 18, nameIndex := 25, descriptorIndex := 16, attributes := #[] }, { accessFlags := 24, nameIndex := 172, descriptorIndex := 16, attributes := #[] }])
  fields := #[{ name := "host", type := (.object "java/lang/String"), accessFlags := 18, slot := 0, constantValue := 0 }, { name := "port", type := .int, accessFlags := 18, slot := 1, constantValue := 0 }, { name := "user", type := (.object "java/lang/String"), accessFlags := 18, slot := 2, constantValue := 0 }, { name := "password", type := (.object "java/lang/String"), accessFlags := 18, slot := 3, constantValue := 0 }, { name := "database", type := .int, accessFlags := 18, slot := 4, constantValue := 0 }, { name := "DEFAULT_PORT", type := .int, accessFlags := 24, slot := 0, constantValue := 0 }]
  methods := #[k10m0, k10m1]
  instanceTypes := #[(.object "java/lang/String"), .int, (.object "java/lang/String"), (.object "java/lang/String"), .int]
  staticTypes := #[.int]
  resolved := Array.replicate 205 none
  statics := none }

def pool11 : Array CpInfo := pool [(1, .class_ 2), (0, u "java/lang/Appendable"), (0, .class_ 4), (0, u "java/lang/Object")] 9

/-- java/lang/Appendable -/
def k11 : Class := { plain "java/lang/Appendable" (some 0) with
  accessFlags := 1537
  interfaces := #[]
  cf := some (fileOf pool11 1 #[] #[] 1537 3 #[] #[])
  fields := #[]
  methods := #[]
  instanceTypes := #[]
  staticTypes := #[]
  resolved := Array.replicate 14 none
  statics := none }

def pool12 : Array CpInfo := pool [(1, .class_ 2), (0, u "java/lang/String"), (0, .methodref 4 5), (0, .class_ 6), (0, .nameAndType 7 8), (0, u "java/lang/Object"), (0, u "<init>"), (0, u "()V"), (1, .class_ 12), (1, u "java/lang/AbstractStringBuilder"), (0, u "EMPTYVALUE"), (0, u "[B"), (0, .fieldref 10 16), (0, .nameAndType 17 14), (0, u "value"), (0, .fieldref 1 19), (0, .nameAndType 20 21), (0, u "COMPACT_STRINGS"), (0, u "Z"), (0, .fieldref 10 23), (0, .nameAndType 24 25), (0, u "coder"), (0, u "B"), (6, .methodref 1 33), (0, .nameAndType 34 35), (0, u "length"), (0, u "()I"), (0, .class_ 37), (0, u "java/lang/Integer"), (1, .integer 2147483647), (0, .methodref 1 41), (0, .nameAndType 24 42), (0, u "()B"), (2, u "append"), (0, u "(Ljava/lang/String;)Ljava/lang/AbstractStringBuilder;"), (1, .class_ 49), (0, u "java/lang/CharSequence"), (19, u "(Ljava/lang/String;)V"), (5, u "maybeLatin1"), (3, .fieldref 10 80), (0, .nameAndType 81 82), (0, u "count"), (0, u "I"), (0, .methodref 10 84), (0, .nameAndType 85 86), (0, u "isLatin1"), (0, u "()Z"), (13, .methodref 10 101), (0, .nameAndType 102 103), (0, u "ensureCapacityInternal"), (0, u "(I)V"), (0, .methodref 10 105), (0, .nameAndType 106 107), (0, u "newCapacity"), (0, u "(I)I"), (0, .methodref 109 110), (0, .class_ 111), (0, .nameAndType 112 113), (0, u "java/util/Arrays"), (0, u "copyOf"), (0, u "([BI)[B"), (0, .methodref 115 116), (0, .class_ 117), (0, .nameAndType 118 119), (0, u "jdk/internal/util/ArraysSupport"), (0, u "newLength"), (0, u "(III)I"), (68, u "getChars"), (19, .methodref 10 209), (0, .nameAndType 210 211), (0, u "putStringAt"), (0, u "(ILjava/lang/String;)V"), (5, u "inflateIfNeededFor"), (2, .nameAndType 221 222), (0, u "getBytes"), (0, u "([BIB)V"), (22, .methodref 36 246), (0, .nameAndType 247 107), (0, u "stringSize"), (0, .methodref 36 249), (0, .nameAndType 188 250), (0, u "(II[B)I"), (146, .methodref 10 398), (0, .nameAndType 217 69), (0, .methodref 1 220), (3, u "()[B"), (40, .class_ 445), (0, u "java/lang/Appendable"), (65, u "(I)Ljava/lang/AbstractStringBuilder;"), (40, u "getValue")] 56

def k12m0 : Method := { name := "<init>", desc := "()V", sig := { parameters := [], returnType := none }, accessFlags := 0, code := none }
def k12c1 : Code := { maxStack := 2, maxLocals := 2, code := jdk_68_method_2_code, exceptionTable := #[], attributes := #[] }
def k12m1 : Method := { name := "<init>", desc := "(I)V", sig := { parameters := [.int], returnType := none }, accessFlags := 0, code := some k12c1 }
def k12c2 : Code := { maxStack := 1, maxLocals := 1, code := jdk_68_method_6_code, exceptionTable := #[], attributes := #[] }
def k12m2 : Method := { name := "length", desc := "()I", sig := { parameters := [], returnType := some .int }, accessFlags := 1, code := some k12c2 }
def k12c3 : Code := { maxStack := 4, maxLocals := 3, code := jdk_68_method_9_code, exceptionTable := #[], attributes := #[] }
def k12m3 : Method := { name := "ensureCapacityInternal", desc := "(I)V", sig := { parameters := [.int], returnType := none }, accessFlags := 2, code := some k12c3 }
def k12c4 : Code := { maxStack := 5, maxLocals := 6, code := jdk_68_method_10_code, exceptionTable := #[], attributes := #[] }
def k12m4 : Method := { name := "newCapacity", desc := "(I)I", sig := { parameters := [.int], returnType := some .int }, accessFlags := 2, code := some k12c4 }
def k12c5 : Code := { maxStack := 3, maxLocals := 3, code := jdk_68_method_22_code, exceptionTable := #[], attributes := #[] }
def k12m5 : Method := { name := "append", desc := "(Ljava/lang/String;)Ljava/lang/AbstractStringBuilder;", sig := { parameters := [(.object "java/lang/String")], returnType := some (.object "java/lang/AbstractStringBuilder") }, accessFlags := 1, code := some k12c5 }
def k12c6 : Code := { maxStack := 4, maxLocals := 4, code := jdk_68_method_32_code, exceptionTable := #[], attributes := #[] }
def k12m6 : Method := { name := "append", desc := "(I)Ljava/lang/AbstractStringBuilder;", sig := { parameters := [.int], returnType := some (.object "java/lang/AbstractStringBuilder") }, accessFlags := 1, code := some k12c6 }
def k12c7 : Code := { maxStack := 1, maxLocals := 1, code := jdk_68_method_64_code, exceptionTable := #[], attributes := #[] }
def k12m7 : Method := { name := "getValue", desc := "()[B", sig := { parameters := [], returnType := some (.array .byte) }, accessFlags := 16, code := some k12c7 }
def k12c8 : Code := { maxStack := 1, maxLocals := 1, code := jdk_68_method_68_code, exceptionTable := #[], attributes := #[] }
def k12m8 : Method := { name := "isLatin1", desc := "()Z", sig := { parameters := [], returnType := some .boolean }, accessFlags := 16, code := some k12c8 }
def k12c9 : Code := { maxStack := 2, maxLocals := 2, code := jdk_68_method_71_code, exceptionTable := #[], attributes := #[] }
def k12m9 : Method := { name := "inflateIfNeededFor", desc := "(Ljava/lang/String;)V", sig := { parameters := [(.object "java/lang/String")], returnType := none }, accessFlags := 2, code := some k12c9 }
def k12c10 : Code := { maxStack := 4, maxLocals := 3, code := jdk_68_method_73_code, exceptionTable := #[], attributes := #[] }
def k12m10 : Method := { name := "putStringAt", desc := "(ILjava/lang/String;)V", sig := { parameters := [.int, (.object "java/lang/String")], returnType := none }, accessFlags := 2, code := some k12c10 }
/-- java/lang/AbstractStringBuilder -/
def k12 : Class := { plain "java/lang/AbstractStringBuilder" (some 0) with
  accessFlags := 1056
  interfaces := #[11, 4]
  cf := some (fileOf pool12 10 #[] #[{ accessFlags := 0, nameIndex := 7, descriptorIndex := 8, attributes := #[] }, { accessFlags := 0, nameIndex := 7, descriptorIndex := 103, attributes := #[] }, { accessFlags := 1, nameIndex := 34, descriptorIndex := 35, attributes := #[] }, { accessFlags := 2, nameIndex := 102, descriptorIndex := 103, attributes := #[] }, { accessFlags := 2, nameIndex := 106, descriptorIndex := 107, attributes := #[] }, { accessFlags := 1, nameIndex := 45, descriptorIndex := 46, attributes := #[] }, { accessFlags := 1, nameIndex := 45, descriptorIndex := 511, attributes := #[] }, { accessFlags := 16, nameIndex := 552, descriptorIndex := 403, attributes := #[] }, { accessFlags := 16, nameIndex := 85, descriptorIndex := 86, attributes := #[] }, { accessFlags := 2, nameIndex := 217, descriptorIndex := 69, attributes := #[] }, { accessFlags := 2, nameIndex := 210, descriptorIndex := 211, attributes := #[] }] 1056 4 #[444, 48] #[{ accessFlags := 0, nameIndex := 17, descriptorIndex := 14, attributes := #[] }, { accessFlags := 0, nameIndex := 24, descriptorIndex := 25, attributes := #[] }, { accessFlags := 0, nameIndex := 75, descriptorIndex := 21, attributes := #[] }, { accessFlags := 0, nameIndex := 81, descriptorIndex := 82, attributes := #[] }, { accessFlags := 26, nameIndex := 13, descriptorIndex := 14, attributes := #[] }])
  fields := #[{ name := "value", type := (.array .byte), accessFlags := 0, slot := 0, constantValue := 0 }, { name := "coder", type := .byte, accessFlags := 0, slot := 1, constantValue := 0 }, { name := "maybeLatin1", type := .boolean, accessFlags := 0, slot := 2, constantValue := 0 }, { name := "count", type := .int, accessFlags := 0, slot := 3, constantValue := 0 }, { name := "EMPTYVALUE", type := (.array .byte), accessFlags := 26, slot := 0, constantValue := 0 }]
  methods := #[k12m0, k12m1, k12m2, k12m3, k12m4, k12m5, k12m6, k12m7, k12m8, k12m9, k12m10]
  instanceTypes := #[(.array .byte), .byte, .boolean, .int]
  staticTypes := #[(.array .byte)]
  resolved := Array.replicate 609 none
  statics := none }

def pool13 : Array CpInfo := pool [(1, .methodref 2 3), (0, .class_ 4), (0, .nameAndType 5 6), (0, u "java/lang/AbstractStringBuilder"), (0, u "<init>"), (0, u "(I)V"), (11, .class_ 20), (1, u "java/lang/String"), (3, .class_ 26), (1, u "java/lang/StringBuilder"), (0, u "append"), (0, u "(Ljava/lang/String;)Ljava/lang/StringBuilder;"), (0, .methodref 2 30), (0, .nameAndType 27 31), (0, u "(Ljava/lang/String;)Ljava/lang/AbstractStringBuilder;"), (21, .methodref 2 54), (0, .nameAndType 27 55), (0, u "(I)Ljava/lang/AbstractStringBuilder;"), (81, .methodref 18 138), (0, .nameAndType 5 139), (0, u "(Ljava/lang/StringBuilder;)V"), (5, u "()V"), (10, u "()I"), (111, u "(I)Ljava/lang/StringBuilder;"), (74, .methodref 2 344), (0, .nameAndType 345 156), (0, u "length"), (3, .class_ 350), (0, u "java/lang/Appendable"), (0, .class_ 352), (0, u "java/io/Serializable"), (0, .class_ 354), (0, u "java/lang/Comparable"), (0, .class_ 356), (0, u "java/lang/CharSequence"), (0, u "serialVersionUID"), (0, u "J"), (40, u "toString"), (0, u "()Ljava/lang/String;")] 21

def k13c0 : Code := { maxStack := 2, maxLocals := 1, code := jdk_67_method_1_code, exceptionTable := #[], attributes := #[] }
def k13m0 : Method := { name := "<init>", desc := "()V", sig := { parameters := [], returnType := none }, accessFlags := 1, code := some k13c0 }
def k13c1 : Code := { maxStack := 2, maxLocals := 2, code := jdk_67_method_7_code, exceptionTable := #[], attributes := #[] }
def k13m1 : Method := { name := "append", desc := "(Ljava/lang/String;)Ljava/lang/StringBuilder;", sig := { parameters := [(.object "java/lang/String")], returnType := some (.object "java/lang/StringBuilder") }, accessFlags := 1, code := some k13c1 }
def k13c2 : Code := { maxStack := 2, maxLocals := 2, code := jdk_67_method_15_code, exceptionTable := #[], attributes := #[] }
def k13m2 : Method := { name := "append", desc := "(I)Ljava/lang/StringBuilder;", sig := { parameters := [.int], returnType := some (.object "java/lang/StringBuilder") }, accessFlags := 1, code := some k13c2 }
def k13c3 : Code := { maxStack := 3, maxLocals := 1, code := jdk_67_method_42_code, exceptionTable := #[], attributes := #[] }
def k13m3 : Method := { name := "toString", desc := "()Ljava/lang/String;", sig := { parameters := [], returnType := some (.object "java/lang/String") }, accessFlags := 1, code := some k13c3 }
def k13c4 : Code := { maxStack := 1, maxLocals := 1, code := jdk_67_method_93_code, exceptionTable := #[], attributes := #[] }
def k13m4 : Method := { name := "length", desc := "()I", sig := { parameters := [], returnType := some .int }, accessFlags := 4161, code := some k13c4 }
/-- java/lang/StringBuilder -/
def k13 : Class := { plain "java/lang/StringBuilder" (some 12) with
  accessFlags := 49
  interfaces := #[11, 2, 3, 4]
  cf := some (fileOf pool13 24 #[] #[{ accessFlags := 1, nameIndex := 5, descriptorIndex := 145, attributes := #[] }, { accessFlags := 1, nameIndex := 27, descriptorIndex := 28, attributes := #[] }, { accessFlags := 1, nameIndex := 27, descriptorIndex := 268, attributes := #[] }, { accessFlags := 1, nameIndex := 399, descriptorIndex := 400, attributes := #[] }, { accessFlags := 4161, nameIndex := 345, descriptorIndex := 156, attributes := #[] }] 49 2 #[349, 351, 353, 355] #[{ accessFlags := 24, nameIndex := 357, descriptorIndex := 358, attributes := #[] }])
  fields := #[{ name := "serialVersionUID", type := .long, accessFlags := 24, slot := 0, constantValue := 0 }]
  methods := #[k13m0, k13m1, k13m2, k13m3, k13m4]
  instanceTypes := #[(.array .byte), .byte, .boolean, .int]
  staticTypes := #[.long]
  resolved := Array.replicate 422 none
  statics := none }

def pool14 : Array CpInfo := pool [(2, .class_ 4), (1, u "java/lang/Object"), (0, u "<init>"), (0, u "()V"), (1, .class_ 10), (1, u "java/lang/System"), (0, u "allowSecurityManager"), (0, u "I"), (16, u "cons"), (0, u "Ljava/io/Console;"), (77, .class_ 110), (1, u "java/lang/System$CallersHolder"), (43, u "initialErrStream"), (0, u "Ljava/io/PrintStream;"), (19, u "security"), (0, u "Ljava/lang/SecurityManager;"), (31, .class_ 209), (0, u "java/lang/System$1"), (7, u "props"), (0, u "Ljava/util/Properties;"), (2, u "lineSeparator"), (0, u "Ljava/lang/String;"), (96, .class_ 321), (1, u "java/lang/System$LoggerFinder"), (5, .class_ 328), (0, u "java/lang/System$Logger"), (67, u "err"), (2, u "out"), (91, u "notSupportedJnuEncoding"), (15, u "in"), (17, u "initialIn"), (0, u "Ljava/io/InputStream;"), (35, u "bootLayer"), (0, u "Ljava/lang/ModuleLayer;"), (99, .class_ 664), (0, u "java/lang/System$2"), (9, u "NEVER"), (2, u "MAYBE"), (49, u "arraycopy"), (0, u "(Ljava/lang/Object;ILjava/lang/Object;II)V"), (72, .class_ 802), (0, u "java/lang/System$Logger$Level")] 31

def k14m0 : Method := { name := "<init>", desc := "()V", sig := { parameters := [], returnType := none }, accessFlags := 2, code := none }
def k14m1 : Method := { name := "arraycopy", desc := "(Ljava/lang/Object;ILjava/lang/Object;II)V", sig := { parameters := [(.object "java/lang/Object"), .int, (.object "java/lang/Object"), .int, .int], returnType := none }, accessFlags := 265, code := none }
/-- java/lang/System -/
def k14 : Class := { plain "java/lang/System" (some 0) with
  accessFlags := 49
  interfaces := #[]
  cf := some (fileOf pool14 8 #[.nestMembers #[319, 327, 801, 108, 663, 208]] #[{ accessFlags := 2, nameIndex := 5, descriptorIndex := 6, attributes := #[] }, { accessFlags := 265, nameIndex := 727, descriptorIndex := 728, attributes := #[] }] 49 2 #[] #[{ accessFlags := 25, nameIndex := 507, descriptorIndex := 526, attributes := #[] }, { accessFlags := 25, nameIndex := 399, descriptorIndex := 155, attributes := #[] }, { accessFlags := 25, nameIndex := 396, descriptorIndex := 155, attributes := #[] }, { accessFlags := 10, nameIndex := 525, descriptorIndex := 526, attributes := #[] }, { accessFlags := 26, nameIndex := 674, descriptorIndex := 12, attributes := #[] }, { accessFlags := 26, nameIndex := 677, descriptorIndex := 12, attributes := #[] }, { accessFlags := 10, nameIndex := 11, descriptorIndex := 12, attributes := #[] }, { accessFlags := 74, nameIndex := 175, descriptorIndex := 176, attributes := #[] }, { accessFlags := 10, nameIndex := 491, descriptorIndex := 222, attributes := #[] }, { accessFlags := 74, nameIndex := 29, descriptorIndex := 30, attributes := #[] }, { accessFlags := 74, nameIndex := 154, descriptorIndex := 155, attributes := #[] }, { accessFlags := 10, nameIndex := 217, descriptorIndex := 218, attributes := #[] }, { accessFlags := 10, nameIndex := 221, descriptorIndex := 222, attributes := #[] }, { accessFlags := 8, nameIndex := 562, descriptorIndex := 563, attributes := #[] }])
  fields := #[{ name := "in", type := (.object "java/io/InputStream"), accessFlags := 25, slot := 0, constantValue := 0 }, { name := "out", type := (.object "java/io/PrintStream"), accessFlags := 25, slot := 1, constantValue := 0 }, { name := "err", type := (.object "java/io/PrintStream"), accessFlags := 25, slot := 2, constantValue := 0 }, { name := "initialIn", type := (.object "java/io/InputStream"), accessFlags := 10, slot := 3, constantValue := 0 }, { name := "NEVER", type := .int, accessFlags := 26, slot := 4, constantValue := 0 }, { name := "MAYBE", type := .int, accessFlags := 26, slot := 5, constantValue := 0 }, { name := "allowSecurityManager", type := .int, accessFlags := 10, slot := 6, constantValue := 0 }, { name := "security", type := (.object "java/lang/SecurityManager"), accessFlags := 74, slot := 7, constantValue := 0 }, { name := "notSupportedJnuEncoding", type := (.object "java/lang/String"), accessFlags := 10, slot := 8, constantValue := 0 }, { name := "cons", type := (.object "java/io/Console"), accessFlags := 74, slot := 9, constantValue := 0 }, { name := "initialErrStream", type := (.object "java/io/PrintStream"), accessFlags := 74, slot := 10, constantValue := 0 }, { name := "props", type := (.object "java/util/Properties"), accessFlags := 10, slot := 11, constantValue := 0 }, { name := "lineSeparator", type := (.object "java/lang/String"), accessFlags := 10, slot := 12, constantValue := 0 }, { name := "bootLayer", type := (.object "java/lang/ModuleLayer"), accessFlags := 8, slot := 13, constantValue := 0 }]
  methods := #[k14m0, k14m1]
  instanceTypes := #[]
  staticTypes := #[(.object "java/io/InputStream"), (.object "java/io/PrintStream"), (.object "java/io/PrintStream"), (.object "java/io/InputStream"), .int, .int, .int, (.object "java/lang/SecurityManager"), (.object "java/lang/String"), (.object "java/io/Console"), (.object "java/io/PrintStream"), (.object "java/util/Properties"), (.object "java/lang/String"), (.object "java/lang/ModuleLayer")]
  resolved := Array.replicate 834 none
  statics := none }

def pool15 : Array CpInfo := pool [(2, .class_ 4), (1, u "java/lang/Object"), (0, u "<init>"), (0, u "()V"), (1, .class_ 10), (1, u "java/lang/Number"), (2, .class_ 14), (0, u "java/io/Serializable"), (0, u "serialVersionUID"), (0, u "J")] 20

def k15m0 : Method := { name := "<init>", desc := "()V", sig := { parameters := [], returnType := none }, accessFlags := 1, code := none }
/-- java/lang/Number -/
def k15 : Class := { plain "java/lang/Number" (some 0) with
  accessFlags := 1057
  interfaces := #[2]
  cf := some (fileOf pool15 8 #[] #[{ accessFlags := 1, nameIndex := 5, descriptorIndex := 6, attributes := #[] }] 1057 2 #[13] #[{ accessFlags := 26, nameIndex := 15, descriptorIndex := 16, attributes := #[] }])
  fields := #[{ name := "serialVersionUID", type := .long, accessFlags := 26, slot := 0, constantValue := 0 }]
  methods := #[k15m0]
  instanceTypes := #[]
  staticTypes := #[.long]
  resolved := Array.replicate 37 none
  statics := none }

def pool16 : Array CpInfo := pool [(1, .class_ 2), (0, u "java/lang/Integer"), (16, u "digits"), (0, u "[C"), (33, u "(I)I"), (19, u "stringSize"), (2, u "getChars"), (0, u "(II[B)I"), (4, .fieldref 1 84), (0, .nameAndType 85 86), (0, u "DigitOnes"), (0, u "[B"), (0, .fieldref 1 88), (0, .nameAndType 89 86), (0, u "DigitTens"), (99, .class_ 190), (0, u "java/lang/Integer$IntegerCache"), (3, u "I"), (8, .class_ 204), (0, u "java/lang/Number"), (2, u "value"), (94, u "TYPE"), (0, u "Ljava/lang/Class;"), (0, .class_ 305), (0, u "java/lang/Comparable"), (0, .class_ 307), (0, u "java/lang/constant/Constable"), (0, .class_ 309), (0, u "java/lang/constant/ConstantDesc"), (0, u "MIN_VALUE"), (1, u "MAX_VALUE"), (3, u "SIZE"), (1, u "BYTES"), (1, u "serialVersionUID"), (0, u "J")] 131

def k16c0 : Code := { maxStack := 4, maxLocals := 7, code := jdk_33_method_12_code, exceptionTable := #[], attributes := #[] }
def k16m0 : Method := { name := "getChars", desc := "(II[B)I", sig := { parameters := [.int, .int, (.array .byte)], returnType := some .int }, accessFlags := 8, code := some k16c0 }
def k16c1 : Code := { maxStack := 2, maxLocals := 4, code := jdk_33_method_13_code, exceptionTable := #[], attributes := #[] }
def k16m1 : Method := { name := "stringSize", desc := "(I)I", sig := { parameters := [.int], returnType := some .int }, accessFlags := 8, code := some k16c1 }
/-- java/lang/Integer -/
def k16 : Class := { plain "java/lang/Integer" (some 15) with
  accessFlags := 49
  interfaces := #[3, 5, 6]
  cf := some (fileOf pool16 1 #[.nestMembers #[189]] #[{ accessFlags := 8, nameIndex := 77, descriptorIndex := 78, attributes := #[] }, { accessFlags := 8, nameIndex := 74, descriptorIndex := 54, attributes := #[] }] 49 203 #[304, 306, 308] #[{ accessFlags := 25, nameIndex := 310, descriptorIndex := 194, attributes := #[] }, { accessFlags := 25, nameIndex := 312, descriptorIndex := 194, attributes := #[] }, { accessFlags := 25, nameIndex := 302, descriptorIndex := 303, attributes := #[] }, { accessFlags := 24, nameIndex := 19, descriptorIndex := 20, attributes := #[] }, { accessFlags := 24, nameIndex := 89, descriptorIndex := 86, attributes := #[] }, { accessFlags := 24, nameIndex := 85, descriptorIndex := 86, attributes := #[] }, { accessFlags := 18, nameIndex := 207, descriptorIndex := 194, attributes := #[] }, { accessFlags := 25, nameIndex := 316, descriptorIndex := 194, attributes := #[] }, { accessFlags := 25, nameIndex := 318, descriptorIndex := 194, attributes := #[] }, { accessFlags := 26, nameIndex := 320, descriptorIndex := 321, attributes := #[] }])
  fields := #[{ name := "MIN_VALUE", type := .int, accessFlags := 25, slot := 0, constantValue := 0 }, { name := "MAX_VALUE", type := .int, accessFlags := 25, slot := 1, constantValue := 0 }, { name := "TYPE", type := (.object "java/lang/Class"), accessFlags := 25, slot := 2, constantValue := 0 }, { name := "digits", type := (.array .char), accessFlags := 24, slot := 3, constantValue := 0 }, { name := "DigitTens", type := (.array .byte), accessFlags := 24, slot := 4, constantValue := 0 }, { name := "DigitOnes", type := (.array .byte), accessFlags := 24, slot := 5, constantValue := 0 }, { name := "value", type := .int, accessFlags := 18, slot := 0, constantValue := 0 }, { name := "SIZE", type := .int, accessFlags := 25, slot := 6, constantValue := 0 }, { name := "BYTES", type := .int, accessFlags := 25, slot := 7, constantValue := 0 }, { name := "serialVersionUID", type := .long, accessFlags := 26, slot := 8, constantValue := 0 }]
  methods := #[k16m0, k16m1]
  instanceTypes := #[.int]
  staticTypes := #[.int, .int, (.object "java/lang/Class"), (.array .char), (.array .byte), (.array .byte), .int, .int, .long]
  resolved := Array.replicate 453 none
  statics := some 1 }

def pool17 : Array CpInfo := pool [(2, .class_ 4), (1, u "java/lang/Object"), (0, u "<init>"), (0, u "()V"), (7, .class_ 16), (1, u "java/util/Arrays"), (57, .class_ 76), (1, u "java/util/Arrays$NaturalOrder"), (32, u "()Ljava/lang/Object;"), (3, .class_ 115), (1, u "java/util/Arrays$LegacyMergeSort"), (1, u "Z"), (10, .nameAndType 129 109), (0, u "clone"), (9, u "copyOfRange"), (10, .methodref 151 152), (0, .class_ 153), (0, .nameAndType 154 155), (0, u "java/lang/System"), (0, u "arraycopy"), (0, u "(Ljava/lang/Object;ILjava/lang/Object;II)V"), (146, u "copyOf"), (1, .methodref 305 306), (0, .class_ 307), (0, .nameAndType 308 309), (0, u "java/lang/Math"), (0, u "min"), (0, u "(II)I"), (0, .methodref 311 128), (0, .class_ 312), (0, u "[B"), (26, .methodref 14 340), (0, .nameAndType 341 342), (0, u "copyOfRangeByte"), (0, u "([BII)[B"), (0, .methodref 14 344), (0, .nameAndType 345 346), (0, u "checkLength"), (0, u "(II)V"), (28, .class_ 376), (0, u "java/util/Arrays$ArrayList"), (68, u "$assertionsDisabled"), (269, u "MIN_ARRAY_SORT_GRAN"), (0, u "I"), (2, u "INSERTIONSORT_THRESHOLD"), (149, u "([BI)[B"), (105, .class_ 976), (0, u "java/util/Arrays$ArrayItr")] 52

def k17m0 : Method := { name := "<init>", desc := "()V", sig := { parameters := [], returnType := none }, accessFlags := 2, code := none }
def k17c1 : Code := { maxStack := 6, maxLocals := 3, code := jdk_65_method_121_code, exceptionTable := #[], attributes := #[] }
def k17m1 : Method := { name := "copyOf", desc := "([BI)[B", sig := { parameters := [(.array .byte), .int], returnType := some (.array .byte) }, accessFlags := 9, code := some k17c1 }
def k17c2 : Code := { maxStack := 4, maxLocals := 2, code := jdk_65_method_131_code, exceptionTable := #[], attributes := #[] }
def k17m2 : Method := { name := "checkLength", desc := "(II)V", sig := { parameters := [.int, .int], returnType := none }, accessFlags := 10, code := some k17c2 }
def k17c3 : Code := { maxStack := 3, maxLocals := 3, code := jdk_65_method_132_code, exceptionTable := #[], attributes := #[] }
def k17m3 : Method := { name := "copyOfRange", desc := "([BII)[B", sig := { parameters := [(.array .byte), .int, .int], returnType := some (.array .byte) }, accessFlags := 9, code := some k17c3 }
def k17c4 : Code := { maxStack := 6, maxLocals := 5, code := jdk_65_method_133_code, exceptionTable := #[], attributes := #[] }
def k17m4 : Method := { name := "copyOfRangeByte", desc := "([BII)[B", sig := { parameters := [(.array .byte), .int, .int], returnType := some (.array .byte) }, accessFlags := 10, code := some k17c4 }
/-- java/util/Arrays -/
def k17 : Class := { plain "java/util/Arrays" (some 0) with
  accessFlags := 49
  interfaces := #[]
  cf := some (fileOf pool17 14 #[.nestMembers #[975, 375, 113, 74]] #[{ accessFlags := 2, nameIndex := 5, descriptorIndex := 6, attributes := #[] }, { accessFlags := 9, nameIndex := 302, descriptorIndex := 869, attributes := #[] }, { accessFlags := 10, nameIndex := 345, descriptorIndex := 346, attributes := #[] }, { accessFlags := 9, nameIndex := 139, descriptorIndex := 342, attributes := #[] }, { accessFlags := 10, nameIndex := 341, descriptorIndex := 342, attributes := #[] }] 49 2 #[] #[{ accessFlags := 26, nameIndex := 715, descriptorIndex := 716, attributes := #[] }, { accessFlags := 26, nameIndex := 719, descriptorIndex := 716, attributes := #[] }, { accessFlags := 4120, nameIndex := 445, descriptorIndex := 117, attributes := #[] }])
  fields := #[{ name := "MIN_ARRAY_SORT_GRAN", type := .int, accessFlags := 26, slot := 0, constantValue := 0 }, { name := "INSERTIONSORT_THRESHOLD", type := .int, accessFlags := 26, slot := 1, constantValue := 0 }, { name := "$assertionsDisabled", type := .boolean, accessFlags := 4120, slot := 2, constantValue := 0 }]
  methods := #[k17m0, k17m1, k17m2, k17m3, k17m4]
  instanceTypes := #[]
  staticTypes := #[.int, .int, .boolean]
  resolved := Array.replicate 1029 none
  statics := none }

def pool18 : Array CpInfo := pool [(1, .class_ 2), (0, u "java/lang/Math"), (1, .class_ 6), (1, u "java/lang/Object"), (0, u "<init>"), (0, u "()V"), (89, .class_ 100), (1, u "java/lang/Math$RandomNumberGeneratorHolder"), (23, u "abs"), (0, u "(J)J"), (46, u "negativeZeroFloatBits"), (0, u "J"), (2, u "negativeZeroDoubleBits"), (21, u "max"), (2, u "min"), (43, u "$assertionsDisabled"), (0, u "Z"), (88, u "(II)I"), (2, u "twoToTheDoubleScaleDown"), (0, u "D"), (4, u "twoToTheDoubleScaleUp"), (9, u "E"), (3, u "PI"), (2, u "TAU"), (2, u "DEGREES_TO_RADIANS"), (0, u "RADIANS_TO_DEGREES")] 94

def k18m0 : Method := { name := "<init>", desc := "()V", sig := { parameters := [], returnType := none }, accessFlags := 2, code := none }
def k18c1 : Code := { maxStack := 4, maxLocals := 2, code := jdk_29_method_61_code, exceptionTable := #[], attributes := #[] }
def k18m1 : Method := { name := "abs", desc := "(J)J", sig := { parameters := [.long], returnType := some .long }, accessFlags := 9, code := some k18c1 }
def k18c2 : Code := { maxStack := 2, maxLocals := 2, code := jdk_29_method_65_code, exceptionTable := #[], attributes := #[] }
def k18m2 : Method := { name := "max", desc := "(II)I", sig := { parameters := [.int, .int], returnType := some .int }, accessFlags := 9, code := some k18c2 }
def k18c3 : Code := { maxStack := 2, maxLocals := 2, code := jdk_29_method_69_code, exceptionTable := #[], attributes := #[] }
def k18m3 : Method := { name := "min", desc := "(II)I", sig := { parameters := [.int, .int], returnType := some .int }, accessFlags := 9, code := some k18c3 }
/-- java/lang/Math -/
def k18 : Class := { plain "java/lang/Math" (some 0) with
  accessFlags := 49
  interfaces := #[]
  cf := some (fileOf pool18 1 #[.nestMembers #[98]] #[{ accessFlags := 2, nameIndex := 7, descriptorIndex := 8, attributes := #[] }, { accessFlags := 9, nameIndex := 124, descriptorIndex := 125, attributes := #[] }, { accessFlags := 9, nameIndex := 198, descriptorIndex := 335, attributes := #[] }, { accessFlags := 9, nameIndex := 201, descriptorIndex := 335, attributes := #[] }] 49 4 #[] #[{ accessFlags := 25, nameIndex := 354, descriptorIndex := 339, attributes := #[] }, { accessFlags := 25, nameIndex := 358, descriptorIndex := 339, attributes := #[] }, { accessFlags := 25, nameIndex := 361, descriptorIndex := 339, attributes := #[] }, { accessFlags := 26, nameIndex := 364, descriptorIndex := 339, attributes := #[] }, { accessFlags := 26, nameIndex := 365, descriptorIndex := 339, attributes := #[] }, { accessFlags := 26, nameIndex := 172, descriptorIndex := 173, attributes := #[] }, { accessFlags := 26, nameIndex := 176, descriptorIndex := 173, attributes := #[] }, { accessFlags := 8, nameIndex := 344, descriptorIndex := 339, attributes := #[] }, { accessFlags := 8, nameIndex := 338, descriptorIndex := 339, attributes := #[] }, { accessFlags := 4120, nameIndex := 245, descriptorIndex := 246, attributes := #[] }])
  fields := #[{ name := "E", type := .double, accessFlags := 25, slot := 0, constantValue := 0 }, { name := "PI", type := .double, accessFlags := 25, slot := 1, constantValue := 0 }, { name := "TAU", type := .double, accessFlags := 25, slot := 2, constantValue := 0 }, { name := "DEGREES_TO_RADIANS", type := .double, accessFlags := 26, slot := 3, constantValue := 0 }, { name := "RADIANS_TO_DEGREES", type := .double, accessFlags := 26, slot := 4, constantValue := 0 }, { name := "negativeZeroFloatBits", type := .long, accessFlags := 26, slot := 5, constantValue := 0 }, { name := "negativeZeroDoubleBits", type := .long, accessFlags := 26, slot := 6, constantValue := 0 }, { name := "twoToTheDoubleScaleUp", type := .double, accessFlags := 8, slot := 7, constantValue := 0 }, { name := "twoToTheDoubleScaleDown", type := .double, accessFlags := 8, slot := 8, constantValue := 0 }, { name := "$assertionsDisabled", type := .boolean, accessFlags := 4120, slot := 9, constantValue := 0 }]
  methods := #[k18m0, k18m1, k18m2, k18m3]
  instanceTypes := #[]
  staticTypes := #[.double, .double, .double, .double, .double, .long, .long, .double, .double, .boolean]
  resolved := Array.replicate 460 none
  statics := none }

def pool19 : Array CpInfo := pool [(2, .class_ 4), (1, u "java/lang/Object"), (0, u "<init>"), (0, u "()V"), (17, .class_ 26), (1, u "jdk/internal/util/Preconditions"), (6, u "checkIndex"), (21, .class_ 56), (0, u "jdk/internal/util/Preconditions$4"), (57, .class_ 115), (0, u "jdk/internal/util/Preconditions$1"), (7, u "SIOOBE_FORMATTER"), (0, u "Ljava/util/function/BiFunction;"), (0, .class_ 126), (0, u "jdk/internal/util/Preconditions$2"), (3, u "AIOOBE_FORMATTER"), (0, .class_ 132), (0, u "jdk/internal/util/Preconditions$3"), (3, u "IOOBE_FORMATTER"), (41, u "(IILjava/util/function/BiFunction;)I")] 15

def k19m0 : Method := { name := "<init>", desc := "()V", sig := { parameters := [], returnType := none }, accessFlags := 1, code := none }
def k19c1 : Code := { maxStack := 3, maxLocals := 3, code := jdk_41_method_11_code, exceptionTable := #[], attributes := #[] }
def k19m1 : Method := { name := "checkIndex", desc := "(IILjava/util/function/BiFunction;)I", sig := { parameters := [.int, .int, (.object "java/util/function/BiFunction")], returnType := some .int }, accessFlags := 9, code := some k19c1 }
/-- jdk/internal/util/Preconditions -/
def k19 : Class := { plain "jdk/internal/util/Preconditions" (some 0) with
  accessFlags := 33
  interfaces := #[]
  cf := some (fileOf pool19 24 #[.nestMembers #[55, 131, 125, 114]] #[{ accessFlags := 1, nameIndex := 5, descriptorIndex := 6, attributes := #[] }, { accessFlags := 9, nameIndex := 33, descriptorIndex := 178, attributes := #[] }] 33 2 #[] #[{ accessFlags := 25, nameIndex := 123, descriptorIndex := 124, attributes := #[] }, { accessFlags := 25, nameIndex := 130, descriptorIndex := 124, attributes := #[] }, { accessFlags := 25, nameIndex := 136, descriptorIndex := 124, attributes := #[] }])
  fields := #[{ name := "SIOOBE_FORMATTER", type := (.object "java/util/function/BiFunction"), accessFlags := 25, slot := 0, constantValue := 0 }, { name := "AIOOBE_FORMATTER", type := (.object "java/util/function/BiFunction"), accessFlags := 25, slot := 1, constantValue := 0 }, { name := "IOOBE_FORMATTER", type := (.object "java/util/function/BiFunction"), accessFlags := 25, slot := 2, constantValue := 0 }]
  methods := #[k19m0, k19m1]
  instanceTypes := #[]
  staticTypes := #[(.object "java/util/function/BiFunction"), (.object "java/util/function/BiFunction"), (.object "java/util/function/BiFunction")]
  resolved := Array.replicate 194 none
  statics := some 2 }

def pool20 : Array CpInfo := pool [(6, .class_ 8), (1, u "java/lang/Object"), (0, u "<init>"), (0, u "()V"), (1, .class_ 14), (1, u "java/lang/StringUTF16"), (31, u "$assertionsDisabled"), (0, u "Z"), (13, u "HI_BYTE_SHIFT"), (0, u "I"), (2, u "LO_BYTE_SHIFT"), (49, .methodref 12 116), (0, .nameAndType 117 118), (0, u "compress"), (0, u "([CI[BII)I"), (3, u "([CII)[B"), (138, u "coderFromArrayLen"), (0, u "([BI)B"), (106, .class_ 371), (1, u "java/lang/StringUTF16$LinesSpliterator"), (58, u "MAX_LENGTH"), (196, .class_ 628), (0, u "java/lang/StringUTF16$CodePointsSpliterator"), (0, .class_ 630), (0, u "java/lang/StringUTF16$CharsSpliterator")] 4

def k20m0 : Method := { name := "<init>", desc := "()V", sig := { parameters := [], returnType := none }, accessFlags := 0, code := none }
def k20c1 : Code := { maxStack := 2, maxLocals := 2, code := jdk_52_method_15_code, exceptionTable := #[], attributes := #[] }
def k20m1 : Method := { name := "coderFromArrayLen", desc := "([BI)B", sig := { parameters := [(.array .byte), .int], returnType := some .byte }, accessFlags := 8, code := some k20c1 }
def k20c2 : Code := { maxStack := 5, maxLocals := 6, code := jdk_52_method_16_code, exceptionTable := #[], attributes := #[] }
def k20m2 : Method := { name := "compress", desc := "([CII)[B", sig := { parameters := [(.array .char), .int, .int], returnType := some (.array .byte) }, accessFlags := 9, code := some k20c2 }
def k20c3 : Code := { maxStack := 3, maxLocals := 7, code := jdk_52_method_21_code, exceptionTable := #[], attributes := #[] }
def k20m3 : Method := { name := "compress", desc := "([CI[BII)I", sig := { parameters := [(.array .char), .int, (.array .byte), .int, .int], returnType := some .int }, accessFlags := 9, code := some k20c3 }
/-- java/lang/StringUTF16 -/
def k20 : Class := { plain "java/lang/StringUTF16" (some 0) with
  accessFlags := 48
  interfaces := #[]
  cf := some (fileOf pool20 12 #[.nestMembers #[627, 629, 369]] #[{ accessFlags := 0, nameIndex := 9, descriptorIndex := 10, attributes := #[] }, { accessFlags := 8, nameIndex := 261, descriptorIndex := 262, attributes := #[] }, { accessFlags := 9, nameIndex := 117, descriptorIndex := 122, attributes := #[] }, { accessFlags := 9, nameIndex := 117, descriptorIndex := 118, attributes := #[] }] 48 6 #[] #[{ accessFlags := 26, nameIndex := 61, descriptorIndex := 62, attributes := #[] }, { accessFlags := 26, nameIndex := 65, descriptorIndex := 62, attributes := #[] }, { accessFlags := 24, nameIndex := 430, descriptorIndex := 62, attributes := #[] }, { accessFlags := 4120, nameIndex := 46, descriptorIndex := 47, attributes := #[] }])
  fields := #[{ name := "HI_BYTE_SHIFT", type := .int, accessFlags := 26, slot := 0, constantValue := 0 }, { name := "LO_BYTE_SHIFT", type := .int, accessFlags := 26, slot := 1, constantValue := 0 }, { name := "MAX_LENGTH", type := .int, accessFlags := 24, slot := 2, constantValue := 0 }, { name := "$assertionsDisabled", type := .boolean, accessFlags := 4120, slot := 3, constantValue := 0 }]
  methods := #[k20m0, k20m1, k20m2, k20m3]
  instanceTypes := #[]
  staticTypes := #[.int, .int, .int, .boolean]
  resolved := Array.replicate 635 none
  statics := none }

def pool21 : Array CpInfo := pool [(9, u "<init>"), (6, .class_ 18), (1, u "java/lang/Object"), (0, u "()V"), (1, .class_ 23), (1, u "jdk/internal/util/ArraysSupport"), (0, u "LOG2_ARRAY_LONG_INDEX_SCALE"), (0, u "I"), (2, u "U"), (0, u "Ljdk/internal/misc/Unsafe;"), (8, u "BIG_ENDIAN"), (0, u "Z"), (8, u "LOG2_BYTE_BIT_SIZE"), (4, u "LOG2_ARRAY_INT_INDEX_SCALE"), (54, u "JLA"), (0, u "Ljdk/internal/access/JavaLangAccess;"), (11, u "LOG2_ARRAY_BOOLEAN_INDEX_SCALE"), (9, u "LOG2_ARRAY_BYTE_INDEX_SCALE"), (5, u "LOG2_ARRAY_CHAR_INDEX_SCALE"), (5, u "LOG2_ARRAY_SHORT_INDEX_SCALE"), (18, u "LOG2_ARRAY_FLOAT_INDEX_SCALE"), (24, u "LOG2_ARRAY_DOUBLE_INDEX_SCALE"), (6, .methodref 195 196), (0, .class_ 197), (0, .nameAndType 198 199), (0, u "java/lang/Math"), (0, u "max"), (0, u "(II)I"), (0, .integer 2147483639), (76, u "T_BOOLEAN"), (2, u "T_CHAR"), (1, u "T_FLOAT"), (1, u "T_DOUBLE"), (1, u "T_BYTE"), (1, u "T_SHORT"), (1, u "T_INT"), (1, u "T_LONG"), (1, u "SOFT_MAX_ARRAY_LENGTH"), (56, u "newLength"), (0, u "(III)I")] 25

def k21m0 : Method := { name := "<init>", desc := "()V", sig := { parameters := [], returnType := none }, accessFlags := 2, code := none }
def k21c1 : Code := { maxStack := 3, maxLocals := 4, code := jdk_48_method_27_code, exceptionTable := #[], attributes := #[] }
def k21m1 : Method := { name := "newLength", desc := "(III)I", sig := { parameters := [.int, .int, .int], returnType := some .int }, accessFlags := 9, code := some k21c1 }
/-- jdk/internal/util/ArraysSupport -/
def k21 : Class := { plain "jdk/internal/util/ArraysSupport" (some 0) with
  accessFlags := 33
  interfaces := #[]
  cf := some (fileOf pool21 21 #[] #[{ accessFlags := 2, nameIndex := 9, descriptorIndex := 19, attributes := #[] }, { accessFlags := 9, nameIndex := 351, descriptorIndex := 352, attributes := #[] }] 33 16 #[] #[{ accessFlags := 24, nameIndex := 28, descriptorIndex := 29, attributes := #[] }, { accessFlags := 26, nameIndex := 38, descriptorIndex := 39, attributes := #[] }, { accessFlags := 25, nameIndex := 121, descriptorIndex := 25, attributes := #[] }, { accessFlags := 25, nameIndex := 131, descriptorIndex := 25, attributes := #[] }, { accessFlags := 25, nameIndex := 137, descriptorIndex := 25, attributes := #[] }, { accessFlags := 25, nameIndex := 143, descriptorIndex := 25, attributes := #[] }, { accessFlags := 25, nameIndex := 53, descriptorIndex := 25, attributes := #[] }, { accessFlags := 25, nameIndex := 24, descriptorIndex := 25, attributes := #[] }, { accessFlags := 25, nameIndex := 162, descriptorIndex := 25, attributes := #[] }, { accessFlags := 25, nameIndex := 187, descriptorIndex := 25, attributes := #[] }, { accessFlags := 26, nameIndex := 48, descriptorIndex := 25, attributes := #[] }, { accessFlags := 25, nameIndex := 277, descriptorIndex := 25, attributes := #[] }, { accessFlags := 25, nameIndex := 280, descriptorIndex := 25, attributes := #[] }, { accessFlags := 25, nameIndex := 282, descriptorIndex := 25, attributes := #[] }, { accessFlags := 25, nameIndex := 284, descriptorIndex := 25, attributes := #[] }, { accessFlags := 25, nameIndex := 286, descriptorIndex := 25, attributes := #[] }, { accessFlags := 25, nameIndex := 288, descriptorIndex := 25, attributes := #[] }, { accessFlags := 25, nameIndex := 290, descriptorIndex := 25, attributes := #[] }, { accessFlags := 25, nameIndex := 292, descriptorIndex := 25, attributes := #[] }, { accessFlags := 26, nameIndex := 108, descriptorIndex := 109, attributes := #[] }, { accessFlags := 25, nameIndex := 294, descriptorIndex := 25, attributes := #[] }])
  fields := #[{ name := "U", type := (.object "jdk/internal/misc/Unsafe"), accessFlags := 24, slot := 0, constantValue := 0 }, { name := "BIG_ENDIAN", type := .boolean, accessFlags := 26, slot := 1, constantValue := 0 }, { name := "LOG2_ARRAY_BOOLEAN_INDEX_SCALE", type := .int, accessFlags := 25, slot := 2, constantValue := 0 }, { name := "LOG2_ARRAY_BYTE_INDEX_SCALE", type := .int, accessFlags := 25, slot := 3, constantValue := 0 }, { name := "LOG2_ARRAY_CHAR_INDEX_SCALE", type := .int, accessFlags := 25, slot := 4, constantValue := 0 }, { name := "LOG2_ARRAY_SHORT_INDEX_SCALE", type := .int, accessFlags := 25, slot := 5, constantValue := 0 }, { name := "LOG2_ARRAY_INT_INDEX_SCALE", type := .int, accessFlags := 25, slot := 6, constantValue := 0 }, { name := "LOG2_ARRAY_LONG_INDEX_SCALE", type := .int, accessFlags := 25, slot := 7, constantValue := 0 }, { name := "LOG2_ARRAY_FLOAT_INDEX_SCALE", type := .int, accessFlags := 25, slot := 8, constantValue := 0 }, { name := "LOG2_ARRAY_DOUBLE_INDEX_SCALE", type := .int, accessFlags := 25, slot := 9, constantValue := 0 }, { name := "LOG2_BYTE_BIT_SIZE", type := .int, accessFlags := 26, slot := 10, constantValue := 0 }, { name := "T_BOOLEAN", type := .int, accessFlags := 25, slot := 11, constantValue := 0 }, { name := "T_CHAR", type := .int, accessFlags := 25, slot := 12, constantValue := 0 }, { name := "T_FLOAT", type := .int, accessFlags := 25, slot := 13, constantValue := 0 }, { name := "T_DOUBLE", type := .int, accessFlags := 25, slot := 14, constantValue := 0 }, { name := "T_BYTE", type := .int, accessFlags := 25, slot := 15, constantValue := 0 }, { name := "T_SHORT", type := .int, accessFlags := 25, slot := 16, constantValue := 0 }, { name := "T_INT", type := .int, accessFlags := 25, slot := 17, constantValue := 0 }, { name := "T_LONG", type := .int, accessFlags := 25, slot := 18, constantValue := 0 }, { name := "JLA", type := (.object "jdk/internal/access/JavaLangAccess"), accessFlags := 26, slot := 19, constantValue := 0 }, { name := "SOFT_MAX_ARRAY_LENGTH", type := .int, accessFlags := 25, slot := 20, constantValue := 0 }]
  methods := #[k21m0, k21m1]
  instanceTypes := #[]
  staticTypes := #[(.object "jdk/internal/misc/Unsafe"), .boolean, .int, .int, .int, .int, .int, .int, .int, .int, .int, .int, .int, .int, .int, .int, .int, .int, .int, (.object "jdk/internal/access/JavaLangAccess"), .int]
  resolved := Array.replicate 378 none
  statics := none }

def pool22 : Array CpInfo := pool [(1, .class_ 2), (0, u "java/lang/Cloneable"), (0, .class_ 4), (0, u "java/lang/Object")] 2

/-- java/lang/Cloneable -/
def k22 : Class := { plain "java/lang/Cloneable" (some 0) with
  accessFlags := 1537
  interfaces := #[]
  cf := some (fileOf pool22 1 #[] #[] 1537 3 #[] #[])
  fields := #[]
  methods := #[]
  instanceTypes := #[]
  staticTypes := #[]
  resolved := Array.replicate 7 none
  statics := none }

/-- the primitive byte -/
def k23 : Class := { plain "byte" none with kind := .primitive 'B', accessFlags := 0x411 }
/-- [B -/
def k24 : Class := { plain "[B" (some 0) with kind := .array 23 .byte, interfaces := #[22, 2], accessFlags := 1041 }

/-- the primitive char -/
def k25 : Class := { plain "char" none with kind := .primitive 'C', accessFlags := 0x411 }
/-- [C -/
def k26 : Class := { plain "[C" (some 0) with kind := .array 25 .char, interfaces := #[22, 2], accessFlags := 1041 }

/-- the primitive int -/
def k27 : Class := { plain "int" none with kind := .primitive 'I', accessFlags := 0x411 }
/-- [I -/
def k28 : Class := { plain "[I" (some 0) with kind := .array 27 .int, interfaces := #[22, 2], accessFlags := 1041 }

/-- the primitive long -/
def k29 : Class := { plain "long" none with kind := .primitive 'J', accessFlags := 0x411 }
/-- [J -/
def k30 : Class := { plain "[J" (some 0) with kind := .array 29 .long, interfaces := #[22, 2], accessFlags := 1041 }

def heap : Heap := #[{ cls := 7, slots := #[.long 0, .int 1, .null, .int 0, .null, .int 0, .int 0], vm := .statics 7 },
  { cls := 16, slots := #[.int 0, .int 0, .null, .null, .ref 4, .ref 3, .int 0, .int 0, .long 0], vm := .statics 16 },
  { cls := 19, slots := #[.null, .null, .null], vm := .statics 19 },
  { cls := 24, slots := #[.int 48, .int 49, .int 50, .int 51, .int 52, .int 53, .int 54, .int 55, .int 56, .int 57, .int 48, .int 49, .int 50, .int 51, .int 52, .int 53, .int 54, .int 55, .int 56, .int 57, .int 48, .int 49, .int 50, .int 51, .int 52, .int 53, .int 54, .int 55, .int 56, .int 57, .int 48, .int 49, .int 50, .int 51, .int 52, .int 53, .int 54, .int 55, .int 56, .int 57, .int 48, .int 49, .int 50, .int 51, .int 52, .int 53, .int 54, .int 55, .int 56, .int 57, .int 48, .int 49, .int 50, .int 51, .int 52, .int 53, .int 54, .int 55, .int 56, .int 57, .int 48, .int 49, .int 50, .int 51, .int 52, .int 53, .int 54, .int 55, .int 56, .int 57, .int 48, .int 49, .int 50, .int 51, .int 52, .int 53, .int 54, .int 55, .int 56, .int 57, .int 48, .int 49, .int 50, .int 51, .int 52, .int 53, .int 54, .int 55, .int 56, .int 57, .int 48, .int 49, .int 50, .int 51, .int 52, .int 53, .int 54, .int 55, .int 56, .int 57], vm := .none },
  { cls := 24, slots := #[.int 48, .int 48, .int 48, .int 48, .int 48, .int 48, .int 48, .int 48, .int 48, .int 48, .int 49, .int 49, .int 49, .int 49, .int 49, .int 49, .int 49, .int 49, .int 49, .int 49, .int 50, .int 50, .int 50, .int 50, .int 50, .int 50, .int 50, .int 50, .int 50, .int 50, .int 51, .int 51, .int 51, .int 51, .int 51, .int 51, .int 51, .int 51, .int 51, .int 51, .int 52, .int 52, .int 52, .int 52, .int 52, .int 52, .int 52, .int 52, .int 52, .int 52, .int 53, .int 53, .int 53, .int 53, .int 53, .int 53, .int 53, .int 53, .int 53, .int 53, .int 54, .int 54, .int 54, .int 54, .int 54, .int 54, .int 54, .int 54, .int 54, .int 54, .int 55, .int 55, .int 55, .int 55, .int 55, .int 55, .int 55, .int 55, .int 55, .int 55, .int 56, .int 56, .int 56, .int 56, .int 56, .int 56, .int 56, .int 56, .int 56, .int 56, .int 57, .int 57, .int 57, .int 57, .int 57, .int 57, .int 57, .int 57, .int 57, .int 57], vm := .none }]
def classes : Array Class := #[k0, k1, k2, k3, k4, k5, k6, k7, k8, k9, k10, k11, k12, k13, k14, k15, k16, k17, k18, k19, k20, k21, k22, k23, k24, k25, k26, k27, k28, k29, k30]
def interned : List (Array UInt16 × Addr) := []
def slotsUsed : Nat := 219
def theMethod : MethodId := ⟨1, 1⟩
def args0 : Array Value := #[.int 0, .int 3, .int 2, .int 1]
def aboutOver (below : List Frame) : State where
  vm := { classes := classes, interned := interned.toArray }
  heap := heap
  slotsUsed := slotsUsed
  threads := #[{ frames := .invoking theMethod args0 :: below }]
def below0 : List Frame := [.native { method := ⟨0, 0⟩, args := #[] }]
def about1 : State := aboutOver below0
def p0 : Program := .bare "" "" ""
def e0 : Env := launch0.env 0 0 0
theorem w_frames : about1.frames = Frame.invoking theMethod args0 :: below0 := rfl
set_option maxRecDepth 65536 in
theorem w_args : argsFit about1.vm theMethod args0 = true := by decide +kernel
set_option maxRecDepth 65536 in
theorem w_heap : heapFits about1 = true := by decide +kernel
set_option maxRecDepth 65536 in
theorem w_runnable : about1.curStatus? = some .runnable := by decide +kernel
set_option maxRecDepth 65536 in
theorem w_alone : about1.alone = true := by decide +kernel
set_option maxRecDepth 65536 in
theorem w_named : about1.methodNamed? x = some theMethod := by decide +kernel
set_option maxRecDepth 65536 in
theorem w_hears : about1.hears theMethod below0 = true := by decide +kernel
set_option maxRecDepth 65536 in
theorem w_ripe : about1.ripe theMethod args0 below0 = true := by decide +kernel
theorem w_running : about1.status = .running := rfl
set_option maxRecDepth 65536 in
theorem w_room : about1.hasRoom e0.platform room_1 = true :=
  launch0.hasRoom_least _ room_1 (by decide +kernel) (by decide +kernel) (by decide +kernel) (by decide +kernel) (by decide +kernel) (by decide +kernel)
theorem allAtoms_all (ts : List Jvm.Cond) (a : Array Jvm.Value) (st : Jvm.State) : (allAtoms ts).before a st = ts.all (fun c => c.before a st) := by
  induction ts with
  | nil => rfl
  | cons c t ih =>
    show (Jvm.Cond.and c (allAtoms t)).before a st = _
    rw [Jvm.Cond.before_and, ih, List.all_cons]
def words1 : List Jvm.Cond := Jvm.Cond.code x code maxLocals ret :: tables_1
/-- a 'code' word, met by the world's own term for the bytes: nothing is compared byte by byte -/
theorem code_word {y : MethodName} {bytes : ByteArray} {mx : Nat} {rt : Option FieldType} {a : Array Value} {s : State} {m : MethodId} {meth : Method} {c : Code} (h1 : s.methodNamed? y = some m) (h2 : s.vm.method? m = some meth) (h3 : meth.code = some c) (h4 : c.code = bytes)
    (h5 : (c.maxLocals == mx && c.exceptionTable.isEmpty && decide (c.maxStack ≤ mostOperands) && decide (meth.sig.returnType = rt) && !meth.locks && decide (parseMethodDescriptor y.desc = some meth.sig)) = true) : (Jvm.Cond.code y bytes mx rt).before a s = true := by
  simp only [Bool.and_eq_true, beq_iff_eq, Bool.not_eq_true', decide_eq_true_eq] at h5
  obtain ⟨⟨⟨⟨⟨g1, g2⟩, g3⟩, g4⟩, g5⟩, g6⟩ := h5
  simp [Cond.before, Cond.holds, Cond.value, h1, h2, h3, h4, g1, g2, g3, g4, g5, g6]
def isCode : Jvm.Cond → Bool
  | .code _ _ _ _ => true
  | _ => false
theorem all_split {L : List Jvm.Cond} {P : Jvm.Cond → Bool} (h1 : L.all (fun c => isCode c || P c) = true) (h2 : ∀ c ∈ L.filter isCode, P c = true) : L.all P = true := by
  refine List.all_eq_true.mpr fun c hc => ?_
  have h := List.all_eq_true.mp h1 c hc
  rcases Bool.eq_false_or_eq_true (isCode c) with hi | hi
  · exact h2 c (List.mem_filter.mpr ⟨hc, hi⟩)
  · simpa [hi] using h
set_option maxRecDepth 65536 in
theorem w_c0 : (Jvm.Cond.code x code maxLocals ret).before args0 about1 = true := code_word (m := ⟨1, 1⟩) (meth := k1m1) (c := k1c1) (by decide +kernel) rfl rfl rfl (by decide +kernel)
set_option maxRecDepth 65536 in
theorem w_c1 : (Jvm.Cond.code ({ cls := "com/example/holdfast/holdfast/store/RedisAddressToStringPinLaw", name := "pick", desc := "(I)C" } : Jvm.MethodName) method_3_code (1 : Nat) (Option.some Jvm.ClassFile.FieldType.char)).before args0 about1 = true := code_word (m := ⟨1, 2⟩) (meth := k1m2) (c := k1c2) (by decide +kernel) rfl rfl rfl (by decide +kernel)
set_option maxRecDepth 65536 in
theorem w_c2 : (Jvm.Cond.code ({ cls := "java/lang/String", name := "<init>", desc := "([C)V" } : Jvm.MethodName) jdk_42_method_3_code (2 : Nat) (Option.none : Option Jvm.ClassFile.FieldType)).before args0 about1 = true := code_word (m := ⟨7, 1⟩) (meth := k7m1) (c := k7c1) (by decide +kernel) rfl rfl rfl (by decide +kernel)
set_option maxRecDepth 65536 in
theorem w_c3 : (Jvm.Cond.code ({ cls := "java/lang/String", name := "<init>", desc := "([CIILjava/lang/Void;)V" } : Jvm.MethodName) jdk_42_method_149_code (6 : Nat) (Option.none : Option Jvm.ClassFile.FieldType)).before args0 about1 = true := code_word (m := ⟨7, 10⟩) (meth := k7m10) (c := k7c10) (by decide +kernel) rfl rfl rfl (by decide +kernel)
set_option maxRecDepth 65536 in
theorem w_c4 : (Jvm.Cond.code ({ cls := "java/lang/Object", name := "<init>", desc := "()V" } : Jvm.MethodName) object_method_1_code (1 : Nat) (Option.none : Option Jvm.ClassFile.FieldType)).before args0 about1 = true := code_word (m := ⟨0, 0⟩) (meth := k0m0) (c := k0c0) (by decide +kernel) rfl rfl rfl (by decide +kernel)
set_option maxRecDepth 65536 in
theorem w_c5 : (Jvm.Cond.code ({ cls := "java/lang/String", name := "valueOf", desc := "(C)Ljava/lang/String;" } : Jvm.MethodName) jdk_42_method_139_code (1 : Nat) (Option.some (Jvm.ClassFile.FieldType.object "java/lang/String"))).before args0 about1 = true := code_word (m := ⟨7, 8⟩) (meth := k7m8) (c := k7c8) (by decide +kernel) rfl rfl rfl (by decide +kernel)
set_option maxRecDepth 65536 in
theorem w_c6 : (Jvm.Cond.code ({ cls := "java/lang/StringLatin1", name := "canEncode", desc := "(C)Z" } : Jvm.MethodName) jdk_43_method_3_code (1 : Nat) (Option.some Jvm.ClassFile.FieldType.boolean)).before args0 about1 = true := code_word (m := ⟨8, 2⟩) (meth := k8m2) (c := k8c2) (by decide +kernel) rfl rfl rfl (by decide +kernel)
set_option maxRecDepth 65536 in
theorem w_c7 : (Jvm.Cond.code ({ cls := "java/lang/StringLatin1", name := "toBytes", desc := "(C)[B" } : Jvm.MethodName) jdk_43_method_46_code (1 : Nat) (Option.some (Jvm.ClassFile.FieldType.array Jvm.ClassFile.FieldType.byte))).before args0 about1 = true := code_word (m := ⟨8, 5⟩) (meth := k8m5) (c := k8c5) (by decide +kernel) rfl rfl rfl (by decide +kernel)
set_option maxRecDepth 65536 in
theorem w_c8 : (Jvm.Cond.code ({ cls := "java/lang/String", name := "<init>", desc := "([BB)V" } : Jvm.MethodName) jdk_42_method_151_code (3 : Nat) (Option.none : Option Jvm.ClassFile.FieldType)).before args0 about1 = true := code_word (m := ⟨7, 12⟩) (meth := k7m12) (c := k7c12) (by decide +kernel) rfl rfl rfl (by decide +kernel)
set_option maxRecDepth 65536 in
theorem w_c9 : (Jvm.Cond.code ({ cls := "com/example/holdfast/holdfast/store/RedisAddress", name := "<init>", desc := "(Ljava/lang/String;ILjava/lang/String;Ljava/lang/String;I)V" } : Jvm.MethodName) prog_24_method_1_code (6 : Nat) (Option.none : Option Jvm.ClassFile.FieldType)).before args0 about1 = true := code_word (m := ⟨10, 0⟩) (meth := k10m0) (c := k10c0) (by decide +kernel) rfl rfl rfl (by decide +kernel)
set_option maxRecDepth 65536 in
theorem w_c10 : (Jvm.Cond.code ({ cls := "java/lang/Record", name := "<init>", desc := "()V" } : Jvm.MethodName) jdk_30_method_1_code (1 : Nat) (Option.none : Option Jvm.ClassFile.FieldType)).before args0 about1 = true := code_word (m := ⟨9, 0⟩) (meth := k9m0) (c := k9c0) (by decide +kernel) rfl rfl rfl (by decide +kernel)
set_option maxRecDepth 65536 in
theorem w_c11 : (Jvm.Cond.code ({ cls := "com/example/holdfast/holdfast/store/RedisAddress", name := "toString", desc := "()Ljava/lang/String;" } : Jvm.MethodName) prog_24_method_5_code (2 : Nat) (Option.some (Jvm.ClassFile.FieldType.object "java/lang/String"))).before args0 about1 = true := code_word (m := ⟨10, 1⟩) (meth := k10m1) (c := k10c1) (by decide +kernel) rfl rfl rfl (by decide +kernel)
set_option maxRecDepth 65536 in
theorem w_c12 : (Jvm.Cond.code ({ cls := "java/lang/String", name := "contains", desc := "(Ljava/lang/CharSequence;)Z" } : Jvm.MethodName) jdk_42_method_97_code (2 : Nat) (Option.some Jvm.ClassFile.FieldType.boolean)).before args0 about1 = true := code_word (m := ⟨7, 6⟩) (meth := k7m6) (c := k7c6) (by decide +kernel) rfl rfl rfl (by decide +kernel)
set_option maxRecDepth 65536 in
theorem w_c13 : (Jvm.Cond.code ({ cls := "java/lang/String", name := "toString", desc := "()Ljava/lang/String;" } : Jvm.MethodName) jdk_42_method_126_code (1 : Nat) (Option.some (Jvm.ClassFile.FieldType.object "java/lang/String"))).before args0 about1 = true := code_word (m := ⟨7, 7⟩) (meth := k7m7) (c := k7c7) (by decide +kernel) rfl rfl rfl (by decide +kernel)
set_option maxRecDepth 65536 in
theorem w_c14 : (Jvm.Cond.code ({ cls := "java/lang/String", name := "indexOf", desc := "(Ljava/lang/String;)I" } : Jvm.MethodName) jdk_42_method_84_code (3 : Nat) (Option.some Jvm.ClassFile.FieldType.int)).before args0 about1 = true := code_word (m := ⟨7, 5⟩) (meth := k7m5) (c := k7c5) (by decide +kernel) rfl rfl rfl (by decide +kernel)
set_option maxRecDepth 65536 in
theorem w_c15 : (Jvm.Cond.code ({ cls := "java/lang/String", name := "coder", desc := "()B" } : Jvm.MethodName) jdk_42_method_152_code (1 : Nat) (Option.some Jvm.ClassFile.FieldType.byte)).before args0 about1 = true := code_word (m := ⟨7, 13⟩) (meth := k7m13) (c := k7c13) (by decide +kernel) rfl rfl rfl (by decide +kernel)
set_option maxRecDepth 65536 in
theorem w_c16 : (Jvm.Cond.code ({ cls := "java/lang/String", name := "isLatin1", desc := "()Z" } : Jvm.MethodName) jdk_42_method_154_code (1 : Nat) (Option.some Jvm.ClassFile.FieldType.boolean)).before args0 about1 = true := code_word (m := ⟨7, 14⟩) (meth := k7m14) (c := k7c14) (by decide +kernel) rfl rfl rfl (by decide +kernel)
set_option maxRecDepth 65536 in
theorem w_c17 : (Jvm.Cond.code ({ cls := "java/lang/StringLatin1", name := "indexOf", desc := "([B[B)I" } : Jvm.MethodName) jdk_43_method_24_code (2 : Nat) (Option.some Jvm.ClassFile.FieldType.int)).before args0 about1 = true := code_word (m := ⟨8, 3⟩) (meth := k8m3) (c := k8c3) (by decide +kernel) rfl rfl rfl (by decide +kernel)
set_option maxRecDepth 65536 in
theorem w_c18 : (Jvm.Cond.code ({ cls := "java/lang/StringBuilder", name := "<init>", desc := "()V" } : Jvm.MethodName) jdk_67_method_1_code (1 : Nat) (Option.none : Option Jvm.ClassFile.FieldType)).before args0 about1 = true := code_word (m := ⟨13, 0⟩) (meth := k13m0) (c := k13c0) (by decide +kernel) rfl rfl rfl (by decide +kernel)
set_option maxRecDepth 65536 in
theorem w_c19 : (Jvm.Cond.code ({ cls := "java/lang/AbstractStringBuilder", name := "<init>", desc := "(I)V" } : Jvm.MethodName) jdk_68_method_2_code (2 : Nat) (Option.none : Option Jvm.ClassFile.FieldType)).before args0 about1 = true := code_word (m := ⟨12, 1⟩) (meth := k12m1) (c := k12c1) (by decide +kernel) rfl rfl rfl (by decide +kernel)
set_option maxRecDepth 65536 in
theorem w_c20 : (Jvm.Cond.code ({ cls := "java/lang/StringBuilder", name := "append", desc := "(Ljava/lang/String;)Ljava/lang/StringBuilder;" } : Jvm.MethodName) jdk_67_method_7_code (2 : Nat) (Option.some (Jvm.ClassFile.FieldType.object "java/lang/StringBuilder"))).before args0 about1 = true := code_word (m := ⟨13, 1⟩) (meth := k13m1) (c := k13c1) (by decide +kernel) rfl rfl rfl (by decide +kernel)
set_option maxRecDepth 65536 in
theorem w_c21 : (Jvm.Cond.code ({ cls := "java/lang/AbstractStringBuilder", name := "append", desc := "(Ljava/lang/String;)Ljava/lang/AbstractStringBuilder;" } : Jvm.MethodName) jdk_68_method_22_code (3 : Nat) (Option.some (Jvm.ClassFile.FieldType.object "java/lang/AbstractStringBuilder"))).before args0 about1 = true := code_word (m := ⟨12, 5⟩) (meth := k12m5) (c := k12c5) (by decide +kernel) rfl rfl rfl (by decide +kernel)
set_option maxRecDepth 65536 in
theorem w_c22 : (Jvm.Cond.code ({ cls := "java/lang/String", name := "length", desc := "()I" } : Jvm.MethodName) jdk_42_method_54_code (1 : Nat) (Option.some Jvm.ClassFile.FieldType.int)).before args0 about1 = true := code_word (m := ⟨7, 3⟩) (meth := k7m3) (c := k7c3) (by decide +kernel) rfl rfl rfl (by decide +kernel)
set_option maxRecDepth 65536 in
theorem w_c23 : (Jvm.Cond.code ({ cls := "java/lang/AbstractStringBuilder", name := "ensureCapacityInternal", desc := "(I)V" } : Jvm.MethodName) jdk_68_method_9_code (3 : Nat) (Option.none : Option Jvm.ClassFile.FieldType)).before args0 about1 = true := code_word (m := ⟨12, 3⟩) (meth := k12m3) (c := k12c3) (by decide +kernel) rfl rfl rfl (by decide +kernel)
set_option maxRecDepth 65536 in
theorem w_c24 : (Jvm.Cond.code ({ cls := "java/lang/AbstractStringBuilder", name := "putStringAt", desc := "(ILjava/lang/String;)V" } : Jvm.MethodName) jdk_68_method_73_code (3 : Nat) (Option.none : Option Jvm.ClassFile.FieldType)).before args0 about1 = true := code_word (m := ⟨12, 10⟩) (meth := k12m10) (c := k12c10) (by decide +kernel) rfl rfl rfl (by decide +kernel)
set_option maxRecDepth 65536 in
theorem w_c25 : (Jvm.Cond.code ({ cls := "java/lang/AbstractStringBuilder", name := "inflateIfNeededFor", desc := "(Ljava/lang/String;)V" } : Jvm.MethodName) jdk_68_method_71_code (2 : Nat) (Option.none : Option Jvm.ClassFile.FieldType)).before args0 about1 = true := code_word (m := ⟨12, 9⟩) (meth := k12m9) (c := k12c9) (by decide +kernel) rfl rfl rfl (by decide +kernel)
set_option maxRecDepth 65536 in
theorem w_c26 : (Jvm.Cond.code ({ cls := "java/lang/String", name := "getBytes", desc := "([BIB)V" } : Jvm.MethodName) jdk_42_method_147_code (4 : Nat) (Option.none : Option Jvm.ClassFile.FieldType)).before args0 about1 = true := code_word (m := ⟨7, 9⟩) (meth := k7m9) (c := k7c9) (by decide +kernel) rfl rfl rfl (by decide +kernel)
set_option maxRecDepth 65536 in
theorem w_c27 : (Jvm.Cond.code ({ cls := "java/lang/StringBuilder", name := "append", desc := "(I)Ljava/lang/StringBuilder;" } : Jvm.MethodName) jdk_67_method_15_code (2 : Nat) (Option.some (Jvm.ClassFile.FieldType.object "java/lang/StringBuilder"))).before args0 about1 = true := code_word (m := ⟨13, 2⟩) (meth := k13m2) (c := k13c2) (by decide +kernel) rfl rfl rfl (by decide +kernel)
set_option maxRecDepth 65536 in
theorem w_c28 : (Jvm.Cond.code ({ cls := "java/lang/AbstractStringBuilder", name := "append", desc := "(I)Ljava/lang/AbstractStringBuilder;" } : Jvm.MethodName) jdk_68_method_32_code (4 : Nat) (Option.some (Jvm.ClassFile.FieldType.object "java/lang/AbstractStringBuilder"))).before args0 about1 = true := code_word (m := ⟨12, 6⟩) (meth := k12m6) (c := k12c6) (by decide +kernel) rfl rfl rfl (by decide +kernel)
set_option maxRecDepth 65536 in
theorem w_c29 : (Jvm.Cond.code ({ cls := "java/lang/Integer", name := "stringSize", desc := "(I)I" } : Jvm.MethodName) jdk_33_method_13_code (4 : Nat) (Option.some Jvm.ClassFile.FieldType.int)).before args0 about1 = true := code_word (m := ⟨16, 1⟩) (meth := k16m1) (c := k16c1) (by decide +kernel) rfl rfl rfl (by decide +kernel)
set_option maxRecDepth 65536 in
theorem w_c30 : (Jvm.Cond.code ({ cls := "java/lang/AbstractStringBuilder", name := "isLatin1", desc := "()Z" } : Jvm.MethodName) jdk_68_method_68_code (1 : Nat) (Option.some Jvm.ClassFile.FieldType.boolean)).before args0 about1 = true := code_word (m := ⟨12, 8⟩) (meth := k12m8) (c := k12c8) (by decide +kernel) rfl rfl rfl (by decide +kernel)
set_option maxRecDepth 65536 in
theorem w_c31 : (Jvm.Cond.code ({ cls := "java/lang/Integer", name := "getChars", desc := "(II[B)I" } : Jvm.MethodName) jdk_33_method_12_code (7 : Nat) (Option.some Jvm.ClassFile.FieldType.int)).before args0 about1 = true := code_word (m := ⟨16, 0⟩) (meth := k16m0) (c := k16c0) (by decide +kernel) rfl rfl rfl (by decide +kernel)
set_option maxRecDepth 65536 in
theorem w_c32 : (Jvm.Cond.code ({ cls := "java/lang/StringBuilder", name := "toString", desc := "()Ljava/lang/String;" } : Jvm.MethodName) jdk_67_method_42_code (1 : Nat) (Option.some (Jvm.ClassFile.FieldType.object "java/lang/String"))).before args0 about1 = true := code_word (m := ⟨13, 3⟩) (meth := k13m3) (c := k13c3) (by decide +kernel) rfl rfl rfl (by decide +kernel)
set_option maxRecDepth 65536 in
theorem w_c33 : (Jvm.Cond.code ({ cls := "java/lang/String", name := "<init>", desc := "(Ljava/lang/StringBuilder;)V" } : Jvm.MethodName) jdk_42_method_53_code (2 : Nat) (Option.none : Option Jvm.ClassFile.FieldType)).before args0 about1 = true := code_word (m := ⟨7, 2⟩) (meth := k7m2) (c := k7c2) (by decide +kernel) rfl rfl rfl (by decide +kernel)
set_option maxRecDepth 65536 in
theorem w_c34 : (Jvm.Cond.code ({ cls := "java/lang/String", name := "<init>", desc := "(Ljava/lang/AbstractStringBuilder;Ljava/lang/Void;)V" } : Jvm.MethodName) jdk_42_method_150_code (5 : Nat) (Option.none : Option Jvm.ClassFile.FieldType)).before args0 about1 = true := code_word (m := ⟨7, 11⟩) (meth := k7m11) (c := k7c11) (by decide +kernel) rfl rfl rfl (by decide +kernel)
set_option maxRecDepth 65536 in
theorem w_c35 : (Jvm.Cond.code ({ cls := "java/lang/AbstractStringBuilder", name := "getValue", desc := "()[B" } : Jvm.MethodName) jdk_68_method_64_code (1 : Nat) (Option.some (Jvm.ClassFile.FieldType.array Jvm.ClassFile.FieldType.byte))).before args0 about1 = true := code_word (m := ⟨12, 7⟩) (meth := k12m7) (c := k12c7) (by decide +kernel) rfl rfl rfl (by decide +kernel)
set_option maxRecDepth 65536 in
theorem w_c36 : (Jvm.Cond.code ({ cls := "java/lang/StringBuilder", name := "length", desc := "()I" } : Jvm.MethodName) jdk_67_method_93_code (1 : Nat) (Option.some Jvm.ClassFile.FieldType.int)).before args0 about1 = true := code_word (m := ⟨13, 4⟩) (meth := k13m4) (c := k13c4) (by decide +kernel) rfl rfl rfl (by decide +kernel)
set_option maxRecDepth 65536 in
theorem w_c37 : (Jvm.Cond.code ({ cls := "java/lang/AbstractStringBuilder", name := "length", desc := "()I" } : Jvm.MethodName) jdk_68_method_6_code (1 : Nat) (Option.some Jvm.ClassFile.FieldType.int)).before args0 about1 = true := code_word (m := ⟨12, 2⟩) (meth := k12m2) (c := k12c2) (by decide +kernel) rfl rfl rfl (by decide +kernel)
set_option maxRecDepth 65536 in
theorem w_c38 : (Jvm.Cond.code ({ cls := "java/util/Arrays", name := "copyOfRange", desc := "([BII)[B" } : Jvm.MethodName) jdk_65_method_132_code (3 : Nat) (Option.some (Jvm.ClassFile.FieldType.array Jvm.ClassFile.FieldType.byte))).before args0 about1 = true := code_word (m := ⟨17, 3⟩) (meth := k17m3) (c := k17c3) (by decide +kernel) rfl rfl rfl (by decide +kernel)
set_option maxRecDepth 65536 in
theorem w_c39 : (Jvm.Cond.code ({ cls := "java/util/Arrays", name := "copyOfRangeByte", desc := "([BII)[B" } : Jvm.MethodName) jdk_65_method_133_code (5 : Nat) (Option.some (Jvm.ClassFile.FieldType.array Jvm.ClassFile.FieldType.byte))).before args0 about1 = true := code_word (m := ⟨17, 4⟩) (meth := k17m4) (c := k17c4) (by decide +kernel) rfl rfl rfl (by decide +kernel)
set_option maxRecDepth 65536 in
theorem w_c40 : (Jvm.Cond.code ({ cls := "java/util/Arrays", name := "checkLength", desc := "(II)V" } : Jvm.MethodName) jdk_65_method_131_code (2 : Nat) (Option.none : Option Jvm.ClassFile.FieldType)).before args0 about1 = true := code_word (m := ⟨17, 2⟩) (meth := k17m2) (c := k17c2) (by decide +kernel) rfl rfl rfl (by decide +kernel)
set_option maxRecDepth 65536 in
theorem w_c41 : (Jvm.Cond.code ({ cls := "java/lang/Math", name := "min", desc := "(II)I" } : Jvm.MethodName) jdk_29_method_69_code (2 : Nat) (Option.some Jvm.ClassFile.FieldType.int)).before args0 about1 = true := code_word (m := ⟨18, 3⟩) (meth := k18m3) (c := k18c3) (by decide +kernel) rfl rfl rfl (by decide +kernel)
set_option maxRecDepth 65536 in
theorem w_c42 : (Jvm.Cond.code ({ cls := "com/example/holdfast/holdfast/store/RedisAddressToStringPinLaw", name := "decLen", desc := "(I)I" } : Jvm.MethodName) method_5_code (3 : Nat) (Option.some Jvm.ClassFile.FieldType.int)).before args0 about1 = true := code_word (m := ⟨1, 4⟩) (meth := k1m4) (c := k1c4) (by decide +kernel) rfl rfl rfl (by decide +kernel)
set_option maxRecDepth 65536 in
theorem w_c43 : (Jvm.Cond.code ({ cls := "java/lang/Math", name := "abs", desc := "(J)J" } : Jvm.MethodName) jdk_29_method_61_code (2 : Nat) (Option.some Jvm.ClassFile.FieldType.long)).before args0 about1 = true := code_word (m := ⟨18, 1⟩) (meth := k18m1) (c := k18c1) (by decide +kernel) rfl rfl rfl (by decide +kernel)
set_option maxRecDepth 65536 in
theorem w_c44 : (Jvm.Cond.code ({ cls := "com/example/holdfast/holdfast/store/RedisAddressToStringPinLaw", name := "digits", desc := "(J)I" } : Jvm.MethodName) method_4_code (2 : Nat) (Option.some Jvm.ClassFile.FieldType.int)).before args0 about1 = true := code_word (m := ⟨1, 3⟩) (meth := k1m3) (c := k1c3) (by decide +kernel) rfl rfl rfl (by decide +kernel)
set_option maxRecDepth 65536 in
theorem w_c45 : (Jvm.Cond.code ({ cls := "java/lang/String", name := "charAt", desc := "(I)C" } : Jvm.MethodName) jdk_42_method_56_code (2 : Nat) (Option.some Jvm.ClassFile.FieldType.char)).before args0 about1 = true := code_word (m := ⟨7, 4⟩) (meth := k7m4) (c := k7c4) (by decide +kernel) rfl rfl rfl (by decide +kernel)
set_option maxRecDepth 65536 in
theorem w_c46 : (Jvm.Cond.code ({ cls := "java/lang/StringLatin1", name := "charAt", desc := "([BI)C" } : Jvm.MethodName) jdk_43_method_2_code (2 : Nat) (Option.some Jvm.ClassFile.FieldType.char)).before args0 about1 = true := code_word (m := ⟨8, 1⟩) (meth := k8m1) (c := k8c1) (by decide +kernel) rfl rfl rfl (by decide +kernel)
set_option maxRecDepth 65536 in
theorem w_c47 : (Jvm.Cond.code ({ cls := "java/lang/String", name := "checkIndex", desc := "(II)V" } : Jvm.MethodName) jdk_42_method_155_code (2 : Nat) (Option.none : Option Jvm.ClassFile.FieldType)).before args0 about1 = true := code_word (m := ⟨7, 15⟩) (meth := k7m15) (c := k7c15) (by decide +kernel) rfl rfl rfl (by decide +kernel)
set_option maxRecDepth 65536 in
theorem w_c48 : (Jvm.Cond.code ({ cls := "jdk/internal/util/Preconditions", name := "checkIndex", desc := "(IILjava/util/function/BiFunction;)I" } : Jvm.MethodName) jdk_41_method_11_code (3 : Nat) (Option.some Jvm.ClassFile.FieldType.int)).before args0 about1 = true := code_word (m := ⟨19, 1⟩) (meth := k19m1) (c := k19c1) (by decide +kernel) rfl rfl rfl (by decide +kernel)
set_option maxRecDepth 65536 in
theorem w_c49 : (Jvm.Cond.code ({ cls := "com/example/holdfast/holdfast/store/RedisAddressToStringPinLaw", name := "intOk", desc := "(Ljava/lang/String;II)Z" } : Jvm.MethodName) method_7_code (7 : Nat) (Option.some Jvm.ClassFile.FieldType.boolean)).before args0 about1 = true := code_word (m := ⟨1, 6⟩) (meth := k1m6) (c := k1c6) (by decide +kernel) rfl rfl rfl (by decide +kernel)
set_option maxRecDepth 65536 in
theorem w_c50 : (Jvm.Cond.code ({ cls := "com/example/holdfast/holdfast/store/RedisAddressToStringPinLaw", name := "digitOk", desc := "(Ljava/lang/String;IJII)Z" } : Jvm.MethodName) method_6_code (8 : Nat) (Option.some Jvm.ClassFile.FieldType.boolean)).before args0 about1 = true := code_word (m := ⟨1, 5⟩) (meth := k1m5) (c := k1c5) (by decide +kernel) rfl rfl rfl (by decide +kernel)
set_option maxRecDepth 65536 in
theorem w_c51 : (Jvm.Cond.code ({ cls := "java/lang/StringUTF16", name := "compress", desc := "([CII)[B" } : Jvm.MethodName) jdk_52_method_16_code (6 : Nat) (Option.some (Jvm.ClassFile.FieldType.array Jvm.ClassFile.FieldType.byte))).before args0 about1 = true := code_word (m := ⟨20, 2⟩) (meth := k20m2) (c := k20c2) (by decide +kernel) rfl rfl rfl (by decide +kernel)
set_option maxRecDepth 65536 in
theorem w_c52 : (Jvm.Cond.code ({ cls := "java/lang/StringUTF16", name := "compress", desc := "([CI[BII)I" } : Jvm.MethodName) jdk_52_method_21_code (7 : Nat) (Option.some Jvm.ClassFile.FieldType.int)).before args0 about1 = true := code_word (m := ⟨20, 3⟩) (meth := k20m3) (c := k20c3) (by decide +kernel) rfl rfl rfl (by decide +kernel)
set_option maxRecDepth 65536 in
theorem w_c53 : (Jvm.Cond.code ({ cls := "java/lang/StringUTF16", name := "coderFromArrayLen", desc := "([BI)B" } : Jvm.MethodName) jdk_52_method_15_code (2 : Nat) (Option.some Jvm.ClassFile.FieldType.byte)).before args0 about1 = true := code_word (m := ⟨20, 1⟩) (meth := k20m1) (c := k20c1) (by decide +kernel) rfl rfl rfl (by decide +kernel)
set_option maxRecDepth 65536 in
theorem w_c54 : (Jvm.Cond.code ({ cls := "java/lang/StringLatin1", name := "indexOf", desc := "([BI[BII)I" } : Jvm.MethodName) jdk_43_method_25_code (11 : Nat) (Option.some Jvm.ClassFile.FieldType.int)).before args0 about1 = true := code_word (m := ⟨8, 4⟩) (meth := k8m4) (c := k8c4) (by decide +kernel) rfl rfl rfl (by decide +kernel)
set_option maxRecDepth 65536 in
theorem w_c55 : (Jvm.Cond.code ({ cls := "java/lang/AbstractStringBuilder", name := "newCapacity", desc := "(I)I" } : Jvm.MethodName) jdk_68_method_10_code (6 : Nat) (Option.some Jvm.ClassFile.FieldType.int)).before args0 about1 = true := code_word (m := ⟨12, 4⟩) (meth := k12m4) (c := k12c4) (by decide +kernel) rfl rfl rfl (by decide +kernel)
set_option maxRecDepth 65536 in
theorem w_c56 : (Jvm.Cond.code ({ cls := "jdk/internal/util/ArraysSupport", name := "newLength", desc := "(III)I" } : Jvm.MethodName) jdk_48_method_27_code (4 : Nat) (Option.some Jvm.ClassFile.FieldType.int)).before args0 about1 = true := code_word (m := ⟨21, 1⟩) (meth := k21m1) (c := k21c1) (by decide +kernel) rfl rfl rfl (by decide +kernel)
set_option maxRecDepth 65536 in
theorem w_c57 : (Jvm.Cond.code ({ cls := "java/lang/Math", name := "max", desc := "(II)I" } : Jvm.MethodName) jdk_29_method_65_code (2 : Nat) (Option.some Jvm.ClassFile.FieldType.int)).before args0 about1 = true := code_word (m := ⟨18, 2⟩) (meth := k18m2) (c := k18c2) (by decide +kernel) rfl rfl rfl (by decide +kernel)
set_option maxRecDepth 65536 in
theorem w_c58 : (Jvm.Cond.code ({ cls := "java/util/Arrays", name := "copyOf", desc := "([BI)[B" } : Jvm.MethodName) jdk_65_method_121_code (3 : Nat) (Option.some (Jvm.ClassFile.FieldType.array Jvm.ClassFile.FieldType.byte))).before args0 about1 = true := code_word (m := ⟨17, 1⟩) (meth := k17m1) (c := k17c1) (by decide +kernel) rfl rfl rfl (by decide +kernel)
def codes1 : List Jvm.Cond := [Jvm.Cond.code x code maxLocals ret, Jvm.Cond.code ({ cls := "com/example/holdfast/holdfast/store/RedisAddressToStringPinLaw", name := "pick", desc := "(I)C" } : Jvm.MethodName) method_3_code (1 : Nat) (Option.some Jvm.ClassFile.FieldType.char), Jvm.Cond.code ({ cls := "java/lang/String", name := "<init>", desc := "([C)V" } : Jvm.MethodName) jdk_42_method_3_code (2 : Nat) (Option.none : Option Jvm.ClassFile.FieldType), Jvm.Cond.code ({ cls := "java/lang/String", name := "<init>", desc := "([CIILjava/lang/Void;)V" } : Jvm.MethodName) jdk_42_method_149_code (6 : Nat) (Option.none : Option Jvm.ClassFile.FieldType), Jvm.Cond.code ({ cls := "java/lang/Object", name := "<init>", desc := "()V" } : Jvm.MethodName) object_method_1_code (1 : Nat) (Option.none : Option Jvm.ClassFile.FieldType), Jvm.Cond.code ({ cls := "java/lang/String", name := "valueOf", desc := "(C)Ljava/lang/String;" } : Jvm.MethodName) jdk_42_method_139_code (1 : Nat) (Option.some (Jvm.ClassFile.FieldType.object "java/lang/String")), Jvm.Cond.code ({ cls := "java/lang/StringLatin1", name := "canEncode", desc := "(C)Z" } : Jvm.MethodName) jdk_43_method_3_code (1 : Nat) (Option.some Jvm.ClassFile.FieldType.boolean), Jvm.Cond.code ({ cls := "java/lang/StringLatin1", name := "toBytes", desc := "(C)[B" } : Jvm.MethodName) jdk_43_method_46_code (1 : Nat) (Option.some (Jvm.ClassFile.FieldType.array Jvm.ClassFile.FieldType.byte)), Jvm.Cond.code ({ cls := "java/lang/String", name := "<init>", desc := "([BB)V" } : Jvm.MethodName) jdk_42_method_151_code (3 : Nat) (Option.none : Option Jvm.ClassFile.FieldType), Jvm.Cond.code ({ cls := "com/example/holdfast/holdfast/store/RedisAddress", name := "<init>", desc := "(Ljava/lang/String;ILjava/lang/String;Ljava/lang/String;I)V" } : Jvm.MethodName) prog_24_method_1_code (6 : Nat) (Option.none : Option Jvm.ClassFile.FieldType), Jvm.Cond.code ({ cls := "java/lang/Record", name := "<init>", desc := "()V" } : Jvm.MethodName) jdk_30_method_1_code (1 : Nat) (Option.none : Option Jvm.ClassFile.FieldType), Jvm.Cond.code ({ cls := "com/example/holdfast/holdfast/store/RedisAddress", name := "toString", desc := "()Ljava/lang/String;" } : Jvm.MethodName) prog_24_method_5_code (2 : Nat) (Option.some (Jvm.ClassFile.FieldType.object "java/lang/String")), Jvm.Cond.code ({ cls := "java/lang/String", name := "contains", desc := "(Ljava/lang/CharSequence;)Z" } : Jvm.MethodName) jdk_42_method_97_code (2 : Nat) (Option.some Jvm.ClassFile.FieldType.boolean), Jvm.Cond.code ({ cls := "java/lang/String", name := "toString", desc := "()Ljava/lang/String;" } : Jvm.MethodName) jdk_42_method_126_code (1 : Nat) (Option.some (Jvm.ClassFile.FieldType.object "java/lang/String")), Jvm.Cond.code ({ cls := "java/lang/String", name := "indexOf", desc := "(Ljava/lang/String;)I" } : Jvm.MethodName) jdk_42_method_84_code (3 : Nat) (Option.some Jvm.ClassFile.FieldType.int), Jvm.Cond.code ({ cls := "java/lang/String", name := "coder", desc := "()B" } : Jvm.MethodName) jdk_42_method_152_code (1 : Nat) (Option.some Jvm.ClassFile.FieldType.byte), Jvm.Cond.code ({ cls := "java/lang/String", name := "isLatin1", desc := "()Z" } : Jvm.MethodName) jdk_42_method_154_code (1 : Nat) (Option.some Jvm.ClassFile.FieldType.boolean), Jvm.Cond.code ({ cls := "java/lang/StringLatin1", name := "indexOf", desc := "([B[B)I" } : Jvm.MethodName) jdk_43_method_24_code (2 : Nat) (Option.some Jvm.ClassFile.FieldType.int), Jvm.Cond.code ({ cls := "java/lang/StringBuilder", name := "<init>", desc := "()V" } : Jvm.MethodName) jdk_67_method_1_code (1 : Nat) (Option.none : Option Jvm.ClassFile.FieldType), Jvm.Cond.code ({ cls := "java/lang/AbstractStringBuilder", name := "<init>", desc := "(I)V" } : Jvm.MethodName) jdk_68_method_2_code (2 : Nat) (Option.none : Option Jvm.ClassFile.FieldType), Jvm.Cond.code ({ cls := "java/lang/StringBuilder", name := "append", desc := "(Ljava/lang/String;)Ljava/lang/StringBuilder;" } : Jvm.MethodName) jdk_67_method_7_code (2 : Nat) (Option.some (Jvm.ClassFile.FieldType.object "java/lang/StringBuilder")), Jvm.Cond.code ({ cls := "java/lang/AbstractStringBuilder", name := "append", desc := "(Ljava/lang/String;)Ljava/lang/AbstractStringBuilder;" } : Jvm.MethodName) jdk_68_method_22_code (3 : Nat) (Option.some (Jvm.ClassFile.FieldType.object "java/lang/AbstractStringBuilder")), Jvm.Cond.code ({ cls := "java/lang/String", name := "length", desc := "()I" } : Jvm.MethodName) jdk_42_method_54_code (1 : Nat) (Option.some Jvm.ClassFile.FieldType.int), Jvm.Cond.code ({ cls := "java/lang/AbstractStringBuilder", name := "ensureCapacityInternal", desc := "(I)V" } : Jvm.MethodName) jdk_68_method_9_code (3 : Nat) (Option.none : Option Jvm.ClassFile.FieldType), Jvm.Cond.code ({ cls := "java/lang/AbstractStringBuilder", name := "putStringAt", desc := "(ILjava/lang/String;)V" } : Jvm.MethodName) jdk_68_method_73_code (3 : Nat) (Option.none : Option Jvm.ClassFile.FieldType), Jvm.Cond.code ({ cls := "java/lang/AbstractStringBuilder", name := "inflateIfNeededFor", desc := "(Ljava/lang/String;)V" } : Jvm.MethodName) jdk_68_method_71_code (2 : Nat) (Option.none : Option Jvm.ClassFile.FieldType), Jvm.Cond.code ({ cls := "java/lang/String", name := "getBytes", desc := "([BIB)V" } : Jvm.MethodName) jdk_42_method_147_code (4 : Nat) (Option.none : Option Jvm.ClassFile.FieldType), Jvm.Cond.code ({ cls := "java/lang/StringBuilder", name := "append", desc := "(I)Ljava/lang/StringBuilder;" } : Jvm.MethodName) jdk_67_method_15_code (2 : Nat) (Option.some (Jvm.ClassFile.FieldType.object "java/lang/StringBuilder")), Jvm.Cond.code ({ cls := "java/lang/AbstractStringBuilder", name := "append", desc := "(I)Ljava/lang/AbstractStringBuilder;" } : Jvm.MethodName) jdk_68_method_32_code (4 : Nat) (Option.some (Jvm.ClassFile.FieldType.object "java/lang/AbstractStringBuilder")), Jvm.Cond.code ({ cls := "java/lang/Integer", name := "stringSize", desc := "(I)I" } : Jvm.MethodName) jdk_33_method_13_code (4 : Nat) (Option.some Jvm.ClassFile.FieldType.int), Jvm.Cond.code ({ cls := "java/lang/AbstractStringBuilder", name := "isLatin1", desc := "()Z" } : Jvm.MethodName) jdk_68_method_68_code (1 : Nat) (Option.some Jvm.ClassFile.FieldType.boolean), Jvm.Cond.code ({ cls := "java/lang/Integer", name := "getChars", desc := "(II[B)I" } : Jvm.MethodName) jdk_33_method_12_code (7 : Nat) (Option.some Jvm.ClassFile.FieldType.int), Jvm.Cond.code ({ cls := "java/lang/StringBuilder", name := "toString", desc := "()Ljava/lang/String;" } : Jvm.MethodName) jdk_67_method_42_code (1 : Nat) (Option.some (Jvm.ClassFile.FieldType.object "java/lang/String")), Jvm.Cond.code ({ cls := "java/lang/String", name := "<init>", desc := "(Ljava/lang/StringBuilder;)V" } : Jvm.MethodName) jdk_42_method_53_code (2 : Nat) (Option.none : Option Jvm.ClassFile.FieldType), Jvm.Cond.code ({ cls := "java/lang/String", name := "<init>", desc := "(Ljava/lang/AbstractStringBuilder;Ljava/lang/Void;)V" } : Jvm.MethodName) jdk_42_method_150_code (5 : Nat) (Option.none : Option Jvm.ClassFile.FieldType), Jvm.Cond.code ({ cls := "java/lang/AbstractStringBuilder", name := "getValue", desc := "()[B" } : Jvm.MethodName) jdk_68_method_64_code (1 : Nat) (Option.some (Jvm.ClassFile.FieldType.array Jvm.ClassFile.FieldType.byte)), Jvm.Cond.code ({ cls := "java/lang/StringBuilder", name := "length", desc := "()I" } : Jvm.MethodName) jdk_67_method_93_code (1 : Nat) (Option.some Jvm.ClassFile.FieldType.int), Jvm.Cond.code ({ cls := "java/lang/AbstractStringBuilder", name := "length", desc := "()I" } : Jvm.MethodName) jdk_68_method_6_code (1 : Nat) (Option.some Jvm.ClassFile.FieldType.int), Jvm.Cond.code ({ cls := "java/util/Arrays", name := "copyOfRange", desc := "([BII)[B" } : Jvm.MethodName) jdk_65_method_132_code (3 : Nat) (Option.some (Jvm.ClassFile.FieldType.array Jvm.ClassFile.FieldType.byte)), Jvm.Cond.code ({ cls := "java/util/Arrays", name := "copyOfRangeByte", desc := "([BII)[B" } : Jvm.MethodName) jdk_65_method_133_code (5 : Nat) (Option.some (Jvm.ClassFile.FieldType.array Jvm.ClassFile.FieldType.byte)), Jvm.Cond.code ({ cls := "java/util/Arrays", name := "checkLength", desc := "(II)V" } : Jvm.MethodName) jdk_65_method_131_code (2 : Nat) (Option.none : Option Jvm.ClassFile.FieldType), Jvm.Cond.code ({ cls := "java/lang/Math", name := "min", desc := "(II)I" } : Jvm.MethodName) jdk_29_method_69_code (2 : Nat) (Option.some Jvm.ClassFile.FieldType.int), Jvm.Cond.code ({ cls := "com/example/holdfast/holdfast/store/RedisAddressToStringPinLaw", name := "decLen", desc := "(I)I" } : Jvm.MethodName) method_5_code (3 : Nat) (Option.some Jvm.ClassFile.FieldType.int), Jvm.Cond.code ({ cls := "java/lang/Math", name := "abs", desc := "(J)J" } : Jvm.MethodName) jdk_29_method_61_code (2 : Nat) (Option.some Jvm.ClassFile.FieldType.long), Jvm.Cond.code ({ cls := "com/example/holdfast/holdfast/store/RedisAddressToStringPinLaw", name := "digits", desc := "(J)I" } : Jvm.MethodName) method_4_code (2 : Nat) (Option.some Jvm.ClassFile.FieldType.int), Jvm.Cond.code ({ cls := "java/lang/String", name := "charAt", desc := "(I)C" } : Jvm.MethodName) jdk_42_method_56_code (2 : Nat) (Option.some Jvm.ClassFile.FieldType.char), Jvm.Cond.code ({ cls := "java/lang/StringLatin1", name := "charAt", desc := "([BI)C" } : Jvm.MethodName) jdk_43_method_2_code (2 : Nat) (Option.some Jvm.ClassFile.FieldType.char), Jvm.Cond.code ({ cls := "java/lang/String", name := "checkIndex", desc := "(II)V" } : Jvm.MethodName) jdk_42_method_155_code (2 : Nat) (Option.none : Option Jvm.ClassFile.FieldType), Jvm.Cond.code ({ cls := "jdk/internal/util/Preconditions", name := "checkIndex", desc := "(IILjava/util/function/BiFunction;)I" } : Jvm.MethodName) jdk_41_method_11_code (3 : Nat) (Option.some Jvm.ClassFile.FieldType.int), Jvm.Cond.code ({ cls := "com/example/holdfast/holdfast/store/RedisAddressToStringPinLaw", name := "intOk", desc := "(Ljava/lang/String;II)Z" } : Jvm.MethodName) method_7_code (7 : Nat) (Option.some Jvm.ClassFile.FieldType.boolean), Jvm.Cond.code ({ cls := "com/example/holdfast/holdfast/store/RedisAddressToStringPinLaw", name := "digitOk", desc := "(Ljava/lang/String;IJII)Z" } : Jvm.MethodName) method_6_code (8 : Nat) (Option.some Jvm.ClassFile.FieldType.boolean), Jvm.Cond.code ({ cls := "java/lang/StringUTF16", name := "compress", desc := "([CII)[B" } : Jvm.MethodName) jdk_52_method_16_code (6 : Nat) (Option.some (Jvm.ClassFile.FieldType.array Jvm.ClassFile.FieldType.byte)), Jvm.Cond.code ({ cls := "java/lang/StringUTF16", name := "compress", desc := "([CI[BII)I" } : Jvm.MethodName) jdk_52_method_21_code (7 : Nat) (Option.some Jvm.ClassFile.FieldType.int), Jvm.Cond.code ({ cls := "java/lang/StringUTF16", name := "coderFromArrayLen", desc := "([BI)B" } : Jvm.MethodName) jdk_52_method_15_code (2 : Nat) (Option.some Jvm.ClassFile.FieldType.byte), Jvm.Cond.code ({ cls := "java/lang/StringLatin1", name := "indexOf", desc := "([BI[BII)I" } : Jvm.MethodName) jdk_43_method_25_code (11 : Nat) (Option.some Jvm.ClassFile.FieldType.int), Jvm.Cond.code ({ cls := "java/lang/AbstractStringBuilder", name := "newCapacity", desc := "(I)I" } : Jvm.MethodName) jdk_68_method_10_code (6 : Nat) (Option.some Jvm.ClassFile.FieldType.int), Jvm.Cond.code ({ cls := "jdk/internal/util/ArraysSupport", name := "newLength", desc := "(III)I" } : Jvm.MethodName) jdk_48_method_27_code (4 : Nat) (Option.some Jvm.ClassFile.FieldType.int), Jvm.Cond.code ({ cls := "java/lang/Math", name := "max", desc := "(II)I" } : Jvm.MethodName) jdk_29_method_65_code (2 : Nat) (Option.some Jvm.ClassFile.FieldType.int), Jvm.Cond.code ({ cls := "java/util/Arrays", name := "copyOf", desc := "([BI)[B" } : Jvm.MethodName) jdk_65_method_121_code (3 : Nat) (Option.some (Jvm.ClassFile.FieldType.array Jvm.ClassFile.FieldType.byte))]
set_option maxRecDepth 65536 in
theorem codes_eq : words1.filter isCode = codes1 := rfl
theorem w_codes : ∀ c ∈ words1.filter isCode, c.before args0 about1 = true := by
  rw [codes_eq]
  intro c hc
  simp only [codes1, List.mem_cons, List.not_mem_nil, or_false] at hc
  rcases hc with rfl | rfl | rfl | rfl | rfl | rfl | rfl | rfl | rfl | rfl | rfl | rfl | rfl | rfl | rfl | rfl | rfl | rfl | rfl | rfl | rfl | rfl | rfl | rfl | rfl | rfl | rfl | rfl | rfl | rfl | rfl | rfl | rfl | rfl | rfl | rfl | rfl | rfl | rfl | rfl | rfl | rfl | rfl | rfl | rfl | rfl | rfl | rfl | rfl | rfl | rfl | rfl | rfl | rfl | rfl | rfl | rfl | rfl | rfl
  · exact w_c0
  · exact w_c1
  · exact w_c2
  · exact w_c3
  · exact w_c4
  · exact w_c5
  · exact w_c6
  · exact w_c7
  · exact w_c8
  · exact w_c9
  · exact w_c10
  · exact w_c11
  · exact w_c12
  · exact w_c13
  · exact w_c14
  · exact w_c15
  · exact w_c16
  · exact w_c17
  · exact w_c18
  · exact w_c19
  · exact w_c20
  · exact w_c21
  · exact w_c22
  · exact w_c23
  · exact w_c24
  · exact w_c25
  · exact w_c26
  · exact w_c27
  · exact w_c28
  · exact w_c29
  · exact w_c30
  · exact w_c31
  · exact w_c32
  · exact w_c33
  · exact w_c34
  · exact w_c35
  · exact w_c36
  · exact w_c37
  · exact w_c38
  · exact w_c39
  · exact w_c40
  · exact w_c41
  · exact w_c42
  · exact w_c43
  · exact w_c44
  · exact w_c45
  · exact w_c46
  · exact w_c47
  · exact w_c48
  · exact w_c49
  · exact w_c50
  · exact w_c51
  · exact w_c52
  · exact w_c53
  · exact w_c54
  · exact w_c55
  · exact w_c56
  · exact w_c57
  · exact w_c58
set_option maxRecDepth 65536 in
theorem w_t1 : (words1.take 24).all (fun c => isCode c || c.before args0 about1) = true := by decide +kernel
set_option maxRecDepth 65536 in
theorem w_t2 : ((words1.drop 24).take 24).all (fun c => isCode c || c.before args0 about1) = true := by decide +kernel
set_option maxRecDepth 65536 in
theorem w_t3 : (((words1.drop 24).drop 24).take 24).all (fun c => isCode c || c.before args0 about1) = true := by decide +kernel
set_option maxRecDepth 65536 in
theorem w_t4 : ((((words1.drop 24).drop 24).drop 24).take 24).all (fun c => isCode c || c.before args0 about1) = true := by decide +kernel
set_option maxRecDepth 65536 in
theorem w_t5 : (((((words1.drop 24).drop 24).drop 24).drop 24).take 24).all (fun c => isCode c || c.before args0 about1) = true := by decide +kernel
set_option maxRecDepth 65536 in
theorem w_t6 : ((((((words1.drop 24).drop 24).drop 24).drop 24).drop 24).take 24).all (fun c => isCode c || c.before args0 about1) = true := by decide +kernel
set_option maxRecDepth 65536 in
theorem w_t7 : (((((((words1.drop 24).drop 24).drop 24).drop 24).drop 24).drop 24).take 24).all (fun c => isCode c || c.before args0 about1) = true := by decide +kernel
set_option maxRecDepth 65536 in
theorem w_t8 : ((((((((words1.drop 24).drop 24).drop 24).drop 24).drop 24).drop 24).drop 24).take 24).all (fun c => isCode c || c.before args0 about1) = true := by decide +kernel
set_option maxRecDepth 65536 in
theorem w_t9 : (((((((((words1.drop 24).drop 24).drop 24).drop 24).drop 24).drop 24).drop 24).drop 24).take 24).all (fun c => isCode c || c.before args0 about1) = true := by decide +kernel
set_option maxRecDepth 65536 in
theorem w_t10 : ((((((((((words1.drop 24).drop 24).drop 24).drop 24).drop 24).drop 24).drop 24).drop 24).drop 24).take 24).all (fun c => isCode c || c.before args0 about1) = true := by decide +kernel
set_option maxRecDepth 65536 in
theorem w_t11 : (((((((((((words1.drop 24).drop 24).drop 24).drop 24).drop 24).drop 24).drop 24).drop 24).drop 24).drop 24).take 24).all (fun c => isCode c || c.before args0 about1) = true := by decide +kernel
set_option maxRecDepth 65536 in
theorem w_t12 : ((((((((((((words1.drop 24).drop 24).drop 24).drop 24).drop 24).drop 24).drop 24).drop 24).drop 24).drop 24).drop 24).take 24).all (fun c => isCode c || c.before args0 about1) = true := by decide +kernel
set_option maxRecDepth 65536 in
theorem w_t13 : (((((((((((((words1.drop 24).drop 24).drop 24).drop 24).drop 24).drop 24).drop 24).drop 24).drop 24).drop 24).drop 24).drop 24).take 24).all (fun c => isCode c || c.before args0 about1) = true := by decide +kernel
set_option maxRecDepth 65536 in
theorem w_t14 : (((((((((((((words1.drop 24).drop 24).drop 24).drop 24).drop 24).drop 24).drop 24).drop 24).drop 24).drop 24).drop 24).drop 24).drop 24).all (fun c => isCode c || c.before args0 about1) = true := by decide +kernel
theorem w_tables : (allAtoms (Jvm.Cond.code x code maxLocals ret :: tables_1)).before args0 about1 = true := by
  rw [allAtoms_all]
  show words1.all (fun c => c.before args0 about1) = true
  refine all_split ?_ w_codes
  rw [← List.take_append_drop 24 words1, List.all_append, w_t1, ← List.take_append_drop 24 (words1.drop 24), List.all_append, w_t2, ← List.take_append_drop 24 ((words1.drop 24).drop 24), List.all_append, w_t3, ← List.take_append_drop 24 (((words1.drop 24).drop 24).drop 24), List.all_append, w_t4, ← List.take_append_drop 24 ((((words1.drop 24).drop 24).drop 24).drop 24), List.all_append, w_t5, ← List.take_append_drop 24 (((((words1.drop 24).drop 24).drop 24).drop 24).drop 24), List.all_append, w_t6, ← List.take_append_drop 24 ((((((words1.drop 24).drop 24).drop 24).drop 24).drop 24).drop 24), List.all_append, w_t7, ← List.take_append_drop 24 (((((((words1.drop 24).drop 24).drop 24).drop 24).drop 24).drop 24).drop 24), List.all_append, w_t8, ← List.take_append_drop 24 ((((((((words1.drop 24).drop 24).drop 24).drop 24).drop 24).drop 24).drop 24).drop 24), List.all_append, w_t9, ← List.take_append_drop 24 (((((((((words1.drop 24).drop 24).drop 24).drop 24).drop 24).drop 24).drop 24).drop 24).drop 24), List.all_append, w_t10, ← List.take_append_drop 24 ((((((((((words1.drop 24).drop 24).drop 24).drop 24).drop 24).drop 24).drop 24).drop 24).drop 24).drop 24), List.all_append, w_t11, ← List.take_append_drop 24 (((((((((((words1.drop 24).drop 24).drop 24).drop 24).drop 24).drop 24).drop 24).drop 24).drop 24).drop 24).drop 24), List.all_append, w_t12, ← List.take_append_drop 24 ((((((((((((words1.drop 24).drop 24).drop 24).drop 24).drop 24).drop 24).drop 24).drop 24).drop 24).drop 24).drop 24).drop 24), List.all_append, w_t13, w_t14]
  rfl
set_option maxRecDepth 65536 in
theorem w_rest : rest_1_c.before args0 about1 = true := by decide +kernel
set_option maxRecDepth 65536 in
theorem w_case : (Jvm.Cond.and given_1 narrow_1).before args0 about1 = true := by decide +kernel
set_option maxRecDepth 65536 in
theorem w_consts : constsHeld consts_1 about1 := Jvm.Lit.constsHeldB_iff.mp (by decide +kernel)
theorem w_applies : (headSpec (Jvm.Cond.code x code maxLocals ret :: tables_1) room_1).applies x e0.platform about1 = true :=
  (Spec.applies_iff w_frames).mpr ⟨w_running, w_runnable, w_alone, w_named, w_hears, w_ripe, w_room, w_tables⟩
theorem atStart : AtStart classFile x code maxLocals ret World_1 tables_1 room_1 Calls_1 rest_1 Pre_1 launch0 p0 e0 about1 theMethod args0 below0 :=
  ⟨lists_1, trivial, launch0.admits_env _ _ _, launch0.least_env, fairChoices_fair.cas, fairChoices_fair.clock, w_frames, w_args, w_heap, w_applies, ⟨w_consts, trivial⟩, w_rest, w_case⟩
end start1
theorem witness_1 : WitnessClaimed_1 := ⟨start1.p0, start1.e0, start1.about1, start1.theMethod, start1.args0, start1.below0, start1.atStart⟩
end Jvm.Pilot.@@N@@
