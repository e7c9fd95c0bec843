import JvmDerived
import JvmDerived.Pilot.@@N@@Statement
import JvmDerived.Pilot.@@N@@Code
set_option linter.unusedVariables false
set_option linter.unusedSimpArgs false
set_option maxRecDepth 65536
set_option maxHeartbeats 40000000
namespace Jvm.Own
open Sem ClassFile Op Lib Bundle Jvm.Stand Jvm.Free Jvm.LawKit Jvm.RoadKit
section Base
variable {p : Program} {l : Launch} {e : Env} {R : Room} {s : State} {m : MethodId} {args : Array Value} {below : List Frame} {meth : Method} {c : Code} {own : String} {Z : State} {a0 : Array Value} {EL : List (String × Nat)} {vm0 vm1 : Vm} {T T' : State} {h h' h1 : Heap} {k n : Nat} {G : Outcome → State → Prop} {pc : Nat} {Ls : Array Slot} {rest : List Value}
/-- the walk comes to an end that G allows -/
def OEnds (p : Program) (e : Env) (below : List Frame) (G : Outcome → State → Prop) (T : State) (g : JFrame) : Prop := ∃ (s₂ : State) (o : Outcome), Steps p.tables e below (T.setTop g) s₂ ∧ s₂.status = .running ∧ Ended s₂ below o ∧ G o s₂
theorem OEnds.go {g g' : JFrame} (st : ∀ t, Steps p.tables e below (T'.setTop g') t → Steps p.tables e below (T.setTop g) t) (q : OEnds p e below G T' g') : OEnds p e below G T g := by
  obtain ⟨s₂, o, h1, r⟩ := q; exact ⟨s₂, o, st _ h1, r⟩
theorem OEnds.tr {g g' : JFrame} (st : Steps p.tables e below (T.setTop g) (T'.setTop g')) (q : OEnds p e below G T' g') : OEnds p e below G T g := by
  obtain ⟨s₂, o, h1, r⟩ := q; exact ⟨s₂, o, st.trans h1, r⟩
theorem OEnds.cast {g g' : JFrame} (q : g = g') (r : OEnds p e below G T g') : OEnds p e below G T g := q ▸ r
theorem ext_refl (h : Heap) : Ext h h := ⟨Nat.le_refl _, fun _ _ q => q⟩
theorem ext_trans (A : Ext h h1) (B : Ext h1 h') : Ext h h' := ⟨Nat.le_trans A.1 B.1, fun a c q => B.2 a c (A.2 a c q)⟩
/-- what was written lies above h: h stands -/
theorem ext_keep {ws : List Addr} (A : Ext h h1) (K : Keep h1 h' ws) (q : ∀ x ∈ ws, h.size ≤ x) : Ext h h' := ⟨Nat.le_trans A.1 K.1, fun a c r => K.2.1 a c (A.2 a c r) fun z => absurd (Array.getElem?_eq_some_iff.mp r).1 (Nat.not_lt.mpr (q a z))⟩
theorem ext_wr {a : Addr} {sl : Nat} {v : Value} (A : Ext h h1) (W : Wr h1 h' a sl v) (q : h.size ≤ a) : Ext h h' := ext_keep A (Keep.of_wr W) (allS q all0)
/-- where the walk stands: the tables vm0, the heap h, at most k cells and n slots made -/
def OSt (p : Program) (l : Launch) (e : Env) (R : Room) (s : State) (m : MethodId) (args : Array Value) (below : List Frame) (meth : Method) (c : Code) (own : String) (Z : State) (EL : List (String × Nat)) (vm0 : Vm) (T : State) (h : Heap) (k n : Nat) : Prop :=
  ∃ locs : List Loc, Stand p l e R (s.setVm vm0) m args below meth c T locs k n ∧ Fr Z.heap.size locs ∧ T.heap = h ∧ (∃ k0, s.Since vm0 k0 ∧ k0 ≤ h.size) ∧ Z.Warmed39 vm0 ∧ vm0.findClass own = some m.cls ∧ CHr Z EL s.vm s.heap vm0 h ∧ Ext Z.heap h ∧ p.tables.exec = Jvm.exec
theorem OSt.here (X : OSt p l e R s m args below meth c own Z EL vm0 T h k n) : At T m c below := by obtain ⟨_, X, _⟩ := X; exact X.here
theorem OSt.hx (X : OSt p l e R s m args below meth c own Z EL vm0 T h k n) : p.tables.exec = Jvm.exec := by obtain ⟨_, _, _, _, _, _, _, _, _, q⟩ := X; exact q
theorem OSt.old (X : OSt p l e R s m args below meth c own Z EL vm0 T h k n) : Ext Z.heap h := by obtain ⟨_, _, _, _, _, _, _, _, q, _⟩ := X; exact q
theorem OSt.hZ (X : OSt p l e R s m args below meth c own Z EL vm0 T h k n) : Z.Warmed39 vm0 := by obtain ⟨_, _, _, _, _, q, _⟩ := X; exact q
theorem OSt.al (X : OSt p l e R s m args below meth c own Z EL vm0 T h k n) : Z.vm.Alike vm0 := X.hZ.alike
theorem OSt.chr (X : OSt p l e R s m args below meth c own Z EL vm0 T h k n) : CHr Z EL s.vm s.heap vm0 h := by obtain ⟨_, _, _, _, _, _, _, q, _⟩ := X; exact q
theorem OSt.chv (X : OSt p l e R s m args below meth c own Z EL vm0 T h k n) : CHv Z EL vm0 h := X.chr.1
theorem OSt.mono (X : OSt p l e R s m args below meth c own Z EL vm0 T h k n) {k' n' : Nat} (hk : k ≤ k') (hn : n ≤ n') : OSt p l e R s m args below meth c own Z EL vm0 T h k' n' := by
  obtain ⟨L, X, r⟩ := X; exact ⟨L, X.mono hk hn, r⟩
theorem OSt.getF (X : OSt p l e R s m args below meth c own Z EL vm0 T h k n) {R0 O nm d : String} {index : Nat} (w : (Cond.fieldLink own index R0 nm d).before a0 Z = true) (via : Via Z R0 O nm d) {a : Addr} {v : Value} (F : Fld Z h a O nm d v) (hd : decode c.code pc = .ok (.getfield index, 3))
    (q : ∀ T', OSt p l e R s m args below meth c own Z EL vm0 T' h k n → OEnds p e below G T' (mkF m (pc + 3) Ls (v :: rest))) : OEnds p e below G T (mkF m pc Ls (.ref a :: rest)) := by
  obtain ⟨L, X, hF, hh, hS, hZ, ho, hC, hO, hx⟩ := X
  obtain ⟨T', X', e', st⟩ := RoadKit.getF (host := "") X hx hZ ho (Or.inl w) via hh F (g := mkF m pc Ls (.ref a :: rest)) rfl rfl hd
  exact (q T' ⟨L, X', hF, e', hS, hZ, ho, hC, hO, hx⟩).go st
theorem OSt.getS (X : OSt p l e R s m args below meth c own Z EL vm0 T h k n) {R0 O nm d : String} {index : Nat} (w : (Cond.fieldLink own index R0 nm d).before a0 Z = true) (via : Via Z R0 O nm d) {v : Value} (F : Sta Z h O nm d v) (hd : decode c.code pc = .ok (.getstatic index, 3))
    (q : ∀ T', OSt p l e R s m args below meth c own Z EL vm0 T' h k n → OEnds p e below G T' (mkF m (pc + 3) Ls (v :: rest))) : OEnds p e below G T (mkF m pc Ls rest) := by
  obtain ⟨L, X, hF, hh, hS, hZ, ho, hC, hO, hx⟩ := X
  obtain ⟨T', X', e', st⟩ := RoadKit.getS (host := "") X hx hZ ho w via hh F (g := mkF m pc Ls rest) rfl hd
  exact (q T' ⟨L, X', hF, e', hS, hZ, ho, hC, hO, hx⟩).go st
theorem Since_le {k0 : Nat} (hk : k0 ≤ h.size) (q : h.size ≤ h'.size) : k0 ≤ h'.size := Nat.le_trans hk q
theorem OSt.putF (X : OSt p l e R s m args below meth c own Z EL vm0 T h k n) {R0 O nm d C : String} {index kk : Nat} {ty : FieldType} (w : (Cond.fieldLink own index R0 nm d).before a0 Z = true) (via : Via Z R0 O nm d) {a : Addr} {v old : Value} (F : Fld Z h a O nm d old) (E : Exa Z h a C)
    (Lw : (Cond.lays C O nm d).before a0 Z = true ∨ ((Cond.laysFinal C O nm d).before a0 Z = true ∧ own = O ∧ meth.name = "<init>")) (wi : (Cond.instantiable C kk).before a0 Z = true) (hty : parseFieldDescriptor d = some ty) (hn : narrow ty v = v) (hf : fits ty v = true)
    (hS : Safe Z EL vm0 h a) (ha : Z.heap.size ≤ a) (hd : decode c.code pc = .ok (.putfield index, 3))
    (q : ∀ T' h', OSt p l e R s m args below meth c own Z EL vm0 T' h' k n → Wr h h' a (Jvm.RoadKit.slotOf Z O nm d) v → OEnds p e below G T' (mkF m (pc + 3) Ls rest)) : OEnds p e below G T (mkF m pc Ls (v :: .ref a :: rest)) := by
  obtain ⟨L, X, hF, hh, ⟨k0, hS0, hk0⟩, hZ, ho, hC, hO, hx⟩ := X
  obtain ⟨T', h', X', e', W, st⟩ := RoadKit.putF (host := "") X hx hZ ho (Or.inl w) via hh F E Lw wi hty hn hf (g := mkF m pc Ls (v :: .ref a :: rest)) rfl rfl hd
  exact (q T' h' ⟨_, X', Fr.snoc X' hF ha, e', ⟨k0, hS0, by rw [W.size]; exact hk0⟩, hZ, ho, hC.trans (CHr.wr W hS hC.1), ext_wr hO W ha, hx⟩ W).go st
theorem OSt.newO (X : OSt p l e R s m args below meth c own Z EL vm0 T h k n) {C : String} {index j : Nat} (w : (Cond.classLink own index C).before a0 Z = true) (wi : (Cond.instantiable C j).before a0 Z = true) (wz : (Cond.initialized C).before a0 Z = true) (hd : decode c.code pc = .ok (.new index, 3)) (hc : k + 1 ≤ R.cells) (hl : n + j ≤ R.slots)
    (q : ∀ T' h' a, h.size = a → OSt p l e R s m args below meth c own Z EL vm0 T' h' (k + 1) (n + j) → Ext h h' → Exa Z h' a C → (∀ {O nm d : String} {ty : FieldType}, Laid Z a0 C O nm d → parseFieldDescriptor d = some ty → Fld Z h' a O nm d (defaultValue ty)) → Unt h' a → OEnds p e below G T' (mkF m (pc + 3) Ls (.ref a :: rest))) : OEnds p e below G T (mkF m pc Ls rest) := by
  obtain ⟨L, X, hF, hh, ⟨k0, hS0, hk0⟩, hZ, ho, hC, hO, hx⟩ := X
  obtain ⟨T', h', X', e', E, A, D, U, st⟩ := RoadKit.newO X hx hZ ho w wi wz hh (g := mkF m pc Ls rest) rfl hd hc hl
  exact (q T' h' _ rfl ⟨_, X', hF, e', ⟨k0, hS0, Nat.le_trans hk0 E.1⟩, hZ, ho, hC.trans (CHr.ext E hC.1), ext_trans hO E, hx⟩ E A D U).go st
theorem OSt.newP (X : OSt p l e R s m args below meth c own Z EL vm0 T h k n) {aty : ArrayType} (w : (Cond.arrayClass (newarray.typeOf aty)).before a0 Z = true) {z : Int32} (hd : decode c.code pc = .ok (.newarray aty, 2)) (hz : ¬ z < 0) {cap : Nat} (hcap : z.toNatClampNeg ≤ cap) (hb : cap * 8 ≤ 536870912) (hc : k + 1 ≤ R.cells) (hl : n + cap ≤ R.slots)
    (q : ∀ T' h' a kc, h.size = a → OSt p l e R s m args below meth c own Z EL vm0 T' h' (k + 1) (n + cap) → Ext h h' → Arv Z h' a kc (newarray.typeOf aty) z [] (defaultValue (newarray.typeOf aty)) → OEnds p e below G T' (mkF m (pc + 2) Ls (.ref a :: rest))) : OEnds p e below G T (mkF m pc Ls (.int z :: rest)) := by
  obtain ⟨L, X, hF, hh, ⟨k0, hS0, hk0⟩, hZ, ho, hC, hO, hx⟩ := X
  obtain ⟨T', h', kc, X', e', E, A, st⟩ := RoadKit.newP X hx hZ w hh (g := mkF m pc Ls (.int z :: rest)) rfl hd rfl hz hcap hb hc hl
  exact (q T' h' _ kc rfl ⟨_, X', hF, e', ⟨k0, hS0, Nat.le_trans hk0 E.1⟩, hZ, ho, hC.trans (CHr.ext E hC.1), ext_trans hO E, hx⟩ E (Arv.new A hz)).go st
theorem OSt.castY (X : OSt p l e R s m args below meth c own Z EL vm0 T h k n) {K : String} {index : Nat} (w : (Cond.classLink own index K).before a0 Z = true) {a : Addr} (F : Ins Z h a K true) (hd : decode c.code pc = .ok (.checkcast index, 3))
    (q : ∀ T', OSt p l e R s m args below meth c own Z EL vm0 T' h k n → OEnds p e below G T' (mkF m (pc + 3) Ls (.ref a :: rest))) : OEnds p e below G T (mkF m pc Ls (.ref a :: rest)) := by
  obtain ⟨L, X, hF, hh, hS, hZ, ho, hC, hO, hx⟩ := X
  obtain ⟨T', X', e', st⟩ := RoadKit.castY X hx hZ ho w hh F (g := mkF m pc Ls (.ref a :: rest)) rfl rfl hd
  exact (q T' ⟨L, X', hF, e', hS, hZ, ho, hC, hO, hx⟩).go st
theorem OSt.instY (X : OSt p l e R s m args below meth c own Z EL vm0 T h k n) {K : String} {index : Nat} (w : (Cond.classLink own index K).before a0 Z = true) {a : Addr} (F : Ins Z h a K true) (hd : decode c.code pc = .ok (.instanceof index, 3))
    (q : ∀ T', OSt p l e R s m args below meth c own Z EL vm0 T' h k n → OEnds p e below G T' (mkF m (pc + 3) Ls (.int 1 :: rest))) : OEnds p e below G T (mkF m pc Ls (.ref a :: rest)) := by
  obtain ⟨L, X, hF, hh, hS, hZ, ho, hC, hO, hx⟩ := X
  obtain ⟨T', X', e', st⟩ := RoadKit.instY X hx hZ ho w hh F (g := mkF m pc Ls (.ref a :: rest)) rfl rfl hd
  exact (q T' ⟨L, X', hF, e', hS, hZ, ho, hC, hO, hx⟩).go st
theorem OSt.instNo (X : OSt p l e R s m args below meth c own Z EL vm0 T h k n) {K C : String} {index : Nat} (w : (Cond.classLink own index K).before a0 Z = true) {a : Addr} (E : Exa Z h a C) (F : ∃ c t, Z.vm.findClass C = some c ∧ Z.vm.findClass K = some t ∧ Z.vm.assignable c t = false) (hd : decode c.code pc = .ok (.instanceof index, 3))
    (q : ∀ T', OSt p l e R s m args below meth c own Z EL vm0 T' h k n → OEnds p e below G T' (mkF m (pc + 3) Ls (.int 0 :: rest))) : OEnds p e below G T (mkF m pc Ls (.ref a :: rest)) := by
  obtain ⟨L, X, hF, hh, hS, hZ, ho, hC, hO, hx⟩ := X
  obtain ⟨T', X', e', st⟩ := RoadKit.instNo X hx hZ ho w hh E F (g := mkF m pc Ls (.ref a :: rest)) rfl rfl hd
  exact (q T' ⟨L, X', hF, e', hS, hZ, ho, hC, hO, hx⟩).go st
theorem OSt.initO (X : OSt p l e R s m args below meth c own Z EL vm0 T h k n) {idx : Nat} (w1 : (Cond.methodLink own idx Lib.objectInit).before a0 Z = true) (w2 : (Cond.instanceMethod Lib.objectInit).before a0 Z = true) (w3 : (Cond.code Lib.objectInit ⟨#[0xb1]⟩ 1 none).before a0 Z = true) {a : Addr} (hsize : Ls.size = c.maxLocals) (hd : decode c.code pc = .ok (.invokespecial idx, 3)) (hf : 1 ≤ R.frames) {W : Nat} (hW : (rest.map fun v => v.category).sum ≤ W) (hl : W + 12 ≤ R.locals)
    (q : ∀ T', OSt p l e R s m args below meth c own Z EL vm0 T' h k n → OEnds p e below G T' (mkF m (pc + 3) Ls rest)) : OEnds p e below G T (mkF m pc Ls (.ref a :: rest)) := by
  obtain ⟨L, X, hF, hh, hS, hZ, ho, hC, hO, hx⟩ := X
  obtain ⟨T', X', e', st⟩ := RoadKit.initO X hx hZ ho w1 w2 w3 hh (g := mkF m pc Ls (.ref a :: rest)) rfl hsize rfl hd hf (W := W) (by show 2 * 0 + _ ≤ _; rw [Nat.mul_zero, Nat.zero_add]; exact hW) hl
  exact (q T' ⟨L, X', hF, e', hS, hZ, ho, hC, hO, hx⟩).go st
end Base
end Jvm.Own
namespace Jvm.Own
open Sem ClassFile Op Lib Bundle Jvm.Stand Jvm.Free Jvm.LawKit Jvm.RoadKit
section Arrays
variable {p : Program} {l : Launch} {e : Env} {R : Room} {s : State} {m : MethodId} {args : Array Value} {below : List Frame} {meth : Method} {c : Code} {own : String} {Z : State} {a0 : Array Value} {EL : List (String × Nat)} {vm0 vm1 : Vm} {T T' : State} {h h' h1 : Heap} {k n : Nat} {G : Outcome → State → Prop} {pc : Nat} {Ls : Array Slot} {rest : List Value}
theorem i2c_id {x : Int32} (h0 : ¬ x < 0) (h1 : ¬ 65535 < x) : x.toUInt32.toUInt16.toUInt32.toInt32 = x := by
  have q := c_i2c x
  have r : (0 : Int32).toInt = 0 := rfl
  have r' : (65535 : Int32).toInt = 65535 := rfl
  simp only [Int32.lt_iff_toInt_lt, r, r'] at h0 h1
  apply Int32.toInt_inj.mp
  omega
theorem OSt.ldcI (X : OSt p l e R s m args below meth c own Z EL vm0 T h k n) {index : Nat} {v : Int32} (w : (Cond.constant own index v).before a0 Z = true) (hd : decode c.code pc = .ok (.ldc index, 2)) (q : OEnds p e below G T (mkF m (pc + 2) Ls (.int v :: rest))) : OEnds p e below G T (mkF m pc Ls rest) := by
  obtain ⟨L, X, hF, hh, hS, hZ, ho, hC, hO, hx⟩ := X
  exact q.go fun t => X.ldcInt hx ho (mvT (s := s.setVm vm0) hZ w) (g := mkF m pc Ls rest) rfl hd t
theorem OSt.ldcJ (X : OSt p l e R s m args below meth c own Z EL vm0 T h k n) {index : Nat} {v : Int64} (w : (Cond.constantLong own index v).before a0 Z = true) (hd : decode c.code pc = .ok (.ldc2_w index, 3)) (q : OEnds p e below G T (mkF m (pc + 3) Ls (.long v :: rest))) : OEnds p e below G T (mkF m pc Ls rest) := by
  obtain ⟨L, X, hF, hh, hS, hZ, ho, hC, hO, hx⟩ := X
  exact q.go fun t => X.ldc2Long hx ho (mvT (s := s.setVm vm0) hZ w) (g := mkF m pc Ls rest) rfl hd t
theorem OSt.alen (X : OSt p l e R s m args below meth c own Z EL vm0 T h k n) {a : Addr} {kc : ClassId} {ty : FieldType} {z : Int32} {vs : List Value} {d : Value} (K : Arv Z h a kc ty z vs d) (hd : decode c.code pc = .ok (.arraylength, 1)) (q : OEnds p e below G T (mkF m (pc + 1) Ls (.int z :: rest))) : OEnds p e below G T (mkF m pc Ls (.ref a :: rest)) := by
  obtain ⟨L, X, hF, hh, hS, hZ, ho, hC, hO, hx⟩ := X
  obtain ⟨cl, A, -, S, hz, -, -⟩ := K
  refine q.go fun t r => X.arraylength hx (by rw [hh]; exact A.1) (State.isArrayOf_alike hZ.alike A.2.1) (g := mkF m pc Ls (.ref a :: rest)) rfl rfl hd t ?_
  rw [len_of S hz]; exact r
theorem OSt.cald (X : OSt p l e R s m args below meth c own Z EL vm0 T h k n) {a : Addr} {kc : ClassId} {z j : Int32} {vs : List Value} {d v : Value} (K : Arv Z h a kc .char z vs d) (hj : ¬ j < 0 ∧ j < z) (u : vs.getD j.toNatClampNeg d = v) (hd : decode c.code pc = .ok (.caload, 1)) (q : OEnds p e below G T (mkF m (pc + 1) Ls (v :: rest))) : OEnds p e below G T (mkF m pc Ls (.int j :: .ref a :: rest)) := by
  obtain ⟨L, X, hF, hh, hS, hZ, ho, hC, hO, hx⟩ := X
  obtain ⟨cl, A, -, S, hz, H, -⟩ := K
  exact q.go fun t => X.caload hx (by rw [hh]; exact A.1) (State.isArrayOf_alike hZ.alike A.2.1) A.2.2 (inb_of S hj) (H.at (inb_of S hj) u) (g := mkF m pc Ls (.int j :: .ref a :: rest)) rfl rfl hd t
theorem OSt.bald (X : OSt p l e R s m args below meth c own Z EL vm0 T h k n) {a : Addr} {kc : ClassId} {z j : Int32} {vs : List Value} {d v : Value} (K : Arv Z h a kc .byte z vs d) (hj : ¬ j < 0 ∧ j < z) (u : vs.getD j.toNatClampNeg d = v) (hd : decode c.code pc = .ok (.baload, 1)) (q : OEnds p e below G T (mkF m (pc + 1) Ls (v :: rest))) : OEnds p e below G T (mkF m pc Ls (.int j :: .ref a :: rest)) := by
  obtain ⟨L, X, hF, hh, hS, hZ, ho, hC, hO, hx⟩ := X
  obtain ⟨cl, A, -, S, hz, H, -⟩ := K
  exact q.go fun t => X.baloadBytes hx (by rw [hh]; exact A.1) (State.isArrayOf_alike hZ.alike A.2.1) A.2.2 (inb_of S hj) (H.at (inb_of S hj) u) (g := mkF m pc Ls (.int j :: .ref a :: rest)) rfl rfl hd t
theorem OSt.stC (X : OSt p l e R s m args below meth c own Z EL vm0 T h k n) {a : Addr} {kc : ClassId} {z j x : Int32} {vs : List Value} {d : Value} (K : Arv Z h a kc .char z vs d) (hj : ¬ j < 0 ∧ j < z) (hx1 : ¬ x < 0 ∧ ¬ 65535 < x) {i : Nat} (hi : j.toNatClampNeg = i) (hl : i < vs.length) (ha : Z.heap.size ≤ a) (hd : decode c.code pc = .ok (.castore, 1))
    (q : ∀ T' h', OSt p l e R s m args below meth c own Z EL vm0 T' h' k n → Wr h h' a i (.int x) → Arv Z h' a kc .char z (vs.set i (.int x)) d → OEnds p e below G T' (mkF m (pc + 1) Ls rest)) : OEnds p e below G T (mkF m pc Ls (.int x :: .int j :: .ref a :: rest)) := by
  have hSf : Safe Z EL vm0 h a := Safe.arv X.al K (by decide)
  obtain ⟨L, X, hF, hh, ⟨k0, hS0, hk0⟩, hZ, ho, hC, hO, hx⟩ := X
  obtain ⟨cl, A, e1, S, hz, H, Gf⟩ := K
  obtain ⟨T', h', X', e', W, st⟩ := RoadKit.stC X hx hZ hh A (inb_of S hj) (x := x) (g := mkF m pc Ls (.int x :: .int j :: .ref a :: rest)) rfl rfl hd
  have hn : nar .char x = x := i2c_id hx1.1 hx1.2
  have hfit : fits .char (.int x) = true := by have := fits_nar_char x; rwa [hn] at this
  rw [hn] at W
  subst hi
  exact (q T' h' ⟨_, X', Fr.snoc X' hF ha, e', ⟨k0, hS0, by rw [W.size]; exact hk0⟩, hZ, ho, hC.trans (CHr.wr W hSf hC.1), ext_wr hO W ha, hx⟩ W (Arv.set A e1 S hz H Gf hfit W _ rfl hl)).go st
theorem OSt.stB (X : OSt p l e R s m args below meth c own Z EL vm0 T h k n) {a : Addr} {kc : ClassId} {z j x : Int32} {vs : List Value} {d : Value} (K : Arv Z h a kc .byte z vs d) (hSf : Safe Z EL vm0 h a) (hj : ¬ j < 0 ∧ j < z) {i : Nat} (hi : j.toNatClampNeg = i) (hl : i < vs.length) (ha : Z.heap.size ≤ a) (hd : decode c.code pc = .ok (.bastore, 1))
    (q : ∀ T' h', OSt p l e R s m args below meth c own Z EL vm0 T' h' k n → Wr h h' a i (.int x.toInt8.toInt32) → Arv Z h' a kc .byte z (vs.set i (.int x.toInt8.toInt32)) d → OEnds p e below G T' (mkF m (pc + 1) Ls rest)) : OEnds p e below G T (mkF m pc Ls (.int x :: .int j :: .ref a :: rest)) := by
  obtain ⟨L, X, hF, hh, ⟨k0, hS0, hk0⟩, hZ, ho, hC, hO, hx⟩ := X
  obtain ⟨cl, A, e1, S, hz, H, Gf⟩ := K
  obtain ⟨T', h', X', e', W, st⟩ := RoadKit.stB X hx hZ hh A (inb_of S hj) (x := x) (g := mkF m pc Ls (.int x :: .int j :: .ref a :: rest)) rfl rfl hd
  subst hi
  exact (q T' h' ⟨_, X', Fr.snoc X' hF ha, e', ⟨k0, hS0, by rw [W.size]; exact hk0⟩, hZ, ho, hC.trans (CHr.wr W hSf hC.1), ext_wr hO W ha, hx⟩ W (Arv.set A e1 S hz H Gf (fits_nar_byte x) W _ rfl hl)).go st
/-- ldc of a String constant whose text is read -/
theorem OSt.ldcR (X : OSt p l e R s m args below meth c own Z EL vm0 T h k n) (hE : EW Z a0 EL) {index : Nat} {text : String} (w : (Cond.stringLink own index text).before a0 Z = true) (wS : ∀ a ∈ Bundle.stringAtoms, a.before a0 Z = true) (hmem : (own, index) ∈ EL)
    {vs : List Value} {z : Int32} (ht : (∀ c ∈ text.toList, c.toNat < 256) ∧ text.toList.map (fun c => Value.int (Jvm.Lit.byteI c.toNat.toUInt16)) = vs) (hz : ¬ z < 0) (hl : z.toNatClampNeg = vs.length) (hd : decode c.code pc = .ok (.ldc index, 2)) {j : Nat} (hj : 4 * text.toList.length ≤ j) (hbig : j ≤ 536870912) (hc : k + 2 ≤ R.cells) (hl' : n + (j + 4) ≤ R.slots)
    (q : ∀ vm1 T' h' a b kb, OSt p l e R s m args below meth c own Z EL vm1 T' h' (k + 2) (n + (j + 4)) → Ext h h' → CHr Z EL vm0 h vm1 h' → Exa Z h' a "java/lang/String" → Fld Z h' a "java/lang/String" "coder" "B" (.int 0) → Fld Z h' a "java/lang/String" "value" "[B" (.ref b) → Arv Z h' b kb .byte z vs (.int 0) → (∀ x, Safe Z EL vm1 h' x → x ≠ a ∧ x ≠ b) → OEnds p e below G T' (mkF m (pc + 2) Ls (.ref a :: rest))) : OEnds p e below G T (mkF m pc Ls rest) := by
  obtain ⟨L, X, hF, hh, ⟨k0, hS0, hk0⟩, hZ, ho, hC, hO, hx⟩ := X
  obtain ⟨a, T', h', k1, b, kb, X', e', E, hS1, hk1, hZ1, ho1, E1, C1, V1, K1, -, -, hC1, -, hne, st⟩ := ldcCH X hx hZ ho w wS hh hS0 hk0 hE hmem hC.1 ht hz hl (g := mkF m pc Ls rest) rfl hd hj hbig hc hl'
  exact (q T'.vm T' h' a b kb ⟨_, X', hF, e', ⟨k1, hS1, hk1⟩, hZ1, ho1, hC.trans hC1, ext_trans hO E, hx⟩ E hC1 E1 C1 V1 K1 hne).go st
/-- ldc of a String constant whose text isn't read -/
theorem OSt.ldcO (X : OSt p l e R s m args below meth c own Z EL vm0 T h k n) (hE : EW Z a0 EL) {index : Nat} {text : String} (w : (Cond.stringLink own index text).before a0 Z = true) (wS : ∀ a ∈ Bundle.stringAtoms, a.before a0 Z = true) (hd : decode c.code pc = .ok (.ldc index, 2)) {j : Nat} (hj : 4 * text.toList.length ≤ j) (hbig : j ≤ 536870912) (hc : k + 2 ≤ R.cells) (hl' : n + (j + 4) ≤ R.slots)
    (q : ∀ vm1 T' h' a, OSt p l e R s m args below meth c own Z EL vm1 T' h' (k + 2) (n + (j + 4)) → Ext h h' → CHr Z EL vm0 h vm1 h' → OEnds p e below G T' (mkF m (pc + 2) Ls (.ref a :: rest))) : OEnds p e below G T (mkF m pc Ls rest) := by
  obtain ⟨L, X, hF, hh, ⟨k0, hS0, hk0⟩, hZ, ho, hC, hO, hx⟩ := X
  obtain ⟨a, T', h', k1, X', e', E, hS1, hk1, hZ1, ho1, hC1, -, st⟩ := ldcOH X hx hZ ho w wS hh hS0 hk0 hE hC.1 (g := mkF m pc Ls rest) rfl hd hj hbig hc hl'
  exact (q T'.vm T' h' a ⟨_, X', hF, e', ⟨k1, hS1, hk1⟩, hZ1, ho1, hC.trans hC1, ext_trans hO E, hx⟩ E hC1).go st
end Arrays
section Ret
variable {p : Program} {l : Launch} {e : Env} {R : Room} {s : State} {m : MethodId} {args : Array Value} {below : List Frame} {meth : Method} {c : Code} {own : String} {Z : State} {a0 : Array Value} {EL : List (String × Nat)} {vm0 vm1 : Vm} {T T' : State} {h h' h1 : Heap} {k n k' n' : Nat} {pc : Nat} {Ls : Array Slot} {rest : List Value} {Q : Option Value → Heap → Prop}
/-- how a walk over s ends: the answer and the heap by Q; the wide frame -/
def GW (Z : State) (EL : List (String × Nat)) (s : State) (Q : Option Value → Heap → Prop) (k n : Nat) (o : Outcome) (u : State) : Prop :=
  ∃ v L, o = .returned v ∧ (Q v u.heap ∧ Fr Z.heap.size L ∧ Ext Z.heap u.heap) ∧ CHr Z EL s.vm s.heap u.vm u.heap ∧ ReturnedEndW s o u L k n
theorem rew_mono {u : State} {o : Outcome} {L : List Loc} (q : ReturnedEndW s o u L k n) (hk : k ≤ k') (hn : n ≤ n') : ReturnedEndW s o u L k' n' := ⟨q.1, q.2.1, q.2.2.1, q.2.2.2.mono hk hn⟩
theorem OSt.retV (X : OSt p l e R s m args below meth c own Z EL vm0 T h k n) (hE : EW Z a0 EL) (hlk : meth.locks = false) {w : Value} {t : FieldType} {i : Instr} (hret : meth.sig.returnType = some t) (hn : narrow t w = w)
    (hi : (i = .ireturn ∧ (t = .int ∨ t = .boolean ∨ t = .byte ∨ t = .char ∨ t = .short) ∧ ∃ z, w = .int z) ∨ (i = .lreturn ∧ t = .long ∧ ∃ z, w = .long z) ∨ (i = .dreturn ∧ t = .double ∧ ∃ z, w = .double z) ∨ (i = .freturn ∧ t = .float ∧ ∃ z, w = .float z) ∨ (i = .areturn ∧ t.isReference = true ∧ w.isRef = true))
    (hd : decode c.code pc = .ok (i, 1)) (hk : k ≤ k') (hn' : n ≤ n') (hQ : Q (some w) h) : OEnds p e below (GW Z EL s Q k' n') T (mkF m pc Ls (w :: rest)) := by
  obtain ⟨L, X, hF, hh, ⟨k0, hS0, hk0⟩, hZ, ho, hC, hO, hx⟩ := X
  have hA := CHv.at X hZ hE hC.1
  obtain ⟨fs, hr, hrun, hended, hend⟩ := X.leaveW hS0 (by rw [hh]; exact hk0) (v := some w) (fun q => by rw [hret] at q; cases q) hlk
  refine ⟨_, _, retOut X hx hret hn hi hd hr, hrun, hended, _, L, rfl, ⟨?_, hF, ?_⟩, ?_, rew_mono hend hk hn'⟩
  · show Q _ T.heap; rw [hh]; exact hQ
  · show Ext _ T.heap; rw [hh]; exact hO
  · show CHr Z EL s.vm s.heap T.vm T.heap; rw [hh]; exact hC.trans hA
theorem OSt.retInt (X : OSt p l e R s m args below meth c own Z EL vm0 T h k n) (hE : EW Z a0 EL) (hlk : meth.locks = false) {z : Int32} (hret : meth.sig.returnType = some .int) (hd : decode c.code pc = .ok (.ireturn, 1)) (hk : k ≤ k') (hn' : n ≤ n') (hQ : Q (some (.int z)) h) : OEnds p e below (GW Z EL s Q k' n') T (mkF m pc Ls (.int z :: rest)) :=
  X.retV hE hlk hret rfl (Or.inl ⟨rfl, Or.inl rfl, z, rfl⟩) hd hk hn' hQ
theorem OSt.retBool (X : OSt p l e R s m args below meth c own Z EL vm0 T h k n) (hE : EW Z a0 EL) (hlk : meth.locks = false) {z : Int32} (hz : z = 0 ∨ z = 1) (hret : meth.sig.returnType = some .boolean) (hd : decode c.code pc = .ok (.ireturn, 1)) (hk : k ≤ k') (hn' : n ≤ n') (hQ : Q (some (.int z)) h) : OEnds p e below (GW Z EL s Q k' n') T (mkF m pc Ls (.int z :: rest)) :=
  X.retV hE hlk hret (by rcases hz with rfl | rfl <;> rfl) (Or.inl ⟨rfl, Or.inr (Or.inl rfl), z, rfl⟩) hd hk hn' hQ
theorem OSt.retByte (X : OSt p l e R s m args below meth c own Z EL vm0 T h k n) (hE : EW Z a0 EL) (hlk : meth.locks = false) {z : Int32} (hz : z.toInt8.toInt32 = z) (hret : meth.sig.returnType = some .byte) (hd : decode c.code pc = .ok (.ireturn, 1)) (hk : k ≤ k') (hn' : n ≤ n') (hQ : Q (some (.int z)) h) : OEnds p e below (GW Z EL s Q k' n') T (mkF m pc Ls (.int z :: rest)) :=
  X.retV hE hlk hret (by show Value.int z.toInt8.toInt32 = _; rw [hz]) (Or.inl ⟨rfl, Or.inr (Or.inr (Or.inl rfl)), z, rfl⟩) hd hk hn' hQ
theorem OSt.retChar (X : OSt p l e R s m args below meth c own Z EL vm0 T h k n) (hE : EW Z a0 EL) (hlk : meth.locks = false) {z : Int32} (hz : ¬ z < 0 ∧ ¬ 65535 < z) (hret : meth.sig.returnType = some .char) (hd : decode c.code pc = .ok (.ireturn, 1)) (hk : k ≤ k') (hn' : n ≤ n') (hQ : Q (some (.int z)) h) : OEnds p e below (GW Z EL s Q k' n') T (mkF m pc Ls (.int z :: rest)) :=
  X.retV hE hlk hret (by show Value.int z.toUInt32.toUInt16.toUInt32.toInt32 = _; rw [i2c_id hz.1 hz.2]) (Or.inl ⟨rfl, Or.inr (Or.inr (Or.inr (Or.inl rfl))), z, rfl⟩) hd hk hn' hQ
theorem narrow_obj {t : FieldType} {w : Value} (h1 : t.isReference = true) : narrow t w = w := by cases t <;> first | rfl | cases h1
theorem OSt.retRef (X : OSt p l e R s m args below meth c own Z EL vm0 T h k n) (hE : EW Z a0 EL) (hlk : meth.locks = false) {w : Value} (hw : w.isRef = true) {t : FieldType} (ht : t.isReference = true) (hret : meth.sig.returnType = some t) (hd : decode c.code pc = .ok (.areturn, 1)) (hk : k ≤ k') (hn' : n ≤ n') (hQ : Q (some w) h) : OEnds p e below (GW Z EL s Q k' n') T (mkF m pc Ls (w :: rest)) :=
  X.retV hE hlk hret (narrow_obj ht) (Or.inr (Or.inr (Or.inr (Or.inr ⟨rfl, ht, hw⟩)))) hd hk hn' hQ
theorem OSt.ret0 (X : OSt p l e R s m args below meth c own Z EL vm0 T h k n) (hE : EW Z a0 EL) (hlk : meth.locks = false) (hret : meth.sig.returnType = none) (hd : decode c.code pc = .ok (.return_, 1)) (hk : k ≤ k') (hn' : n ≤ n') (hQ : Q none h) : OEnds p e below (GW Z EL s Q k' n') T (mkF m pc Ls []) := by
  obtain ⟨L, X, hF, hh, ⟨k0, hS0, hk0⟩, hZ, ho, hC, hO, hx⟩ := X
  have hA := CHv.at X hZ hE hC.1
  obtain ⟨fs, hr, hrun, hended, hend⟩ := X.leaveW hS0 (by rw [hh]; exact hk0) (v := none) (fun _ => rfl) hlk
  refine ⟨_, _, X.returnOut hx hret hd hr, hrun, hended, _, L, rfl, ⟨?_, hF, ?_⟩, ?_, rew_mono hend hk hn'⟩
  · show Q _ T.heap; rw [hh]; exact hQ
  · show Ext _ T.heap; rw [hh]; exact hO
  · show CHr Z EL s.vm s.heap T.vm T.heap; rw [hh]; exact hC.trans hA
end Ret
section Cons
variable {p : Program} {l : Launch} {e : Env} {R : Room} {s : State} {m : MethodId} {args : Array Value} {below : List Frame} {meth : Method} {c : Code} {own : String} {Z : State} {a0 : Array Value} {EL : List (String × Nat)} {vm0 vm1 : Vm} {T T' : State} {h h' h1 : Heap} {k n k' n' : Nat} {G : Outcome → State → Prop} {pc : Nat} {Ls : Array Slot} {rest : List Value} {Q : Option Value → Heap → Prop}
  {y : MethodName} {bytes : ByteArray} {maxL : Nat} {ret : Option FieldType} {rm : Room} {as' : Array Value} {ws : List Cond}
/-- a method's contract, of one call: the arguments as', the heap h at the call -/
def ConX (l : Launch) (Z : State) (EL : List (String × Nat)) (y : MethodName) (bytes : ByteArray) (maxL : Nat) (ret : Option FieldType) (ws : List Cond) (rm : Room) (as' : Array Value) (h : Heap) (Q : Option Value → Heap → Prop) : Prop := Ext Z.heap h →
  MetFree l y (head1 (Cond.code y bytes maxL ret :: ws) rm) (fun a U => a = as' ∧ Z.Warmed39 U.vm ∧ U.heap = h ∧ CHv Z EL U.vm h) (fun _ _ _ _ _ => True) (fun _ U o U' => ∃ v L, o = .returned v ∧ (Q v U'.heap ∧ Fr Z.heap.size L ∧ Ext Z.heap U'.heap) ∧ CHr Z EL U.vm U.heap U'.vm U'.heap ∧ ReturnedEndW U o U' L rm.cells rm.slots)
abbrev Con (l : Launch) (Z : State) (EL : List (String × Nat)) (y : MethodName) (bytes : ByteArray) (maxL : Nat) (ret : Option FieldType) (rm : Room) (as' : Array Value) (h : Heap) (Q : Option Value → Heap → Prop) : Prop := ConX l Z EL y bytes maxL ret [] rm as' h Q
theorem ConX.of (hy : plainFor y = true) (body : ∀ (p : Program) (e : Env) (s : State) (m : MethodId) (below : List Frame) (meth : Method) (c : Code) (T : State), c.code = bytes → c.maxLocals = maxL → meth.sig.returnType = ret → meth.locks = false → meth.name = y.name → OSt p l e rm s m as' below meth c y.cls Z EL s.vm T h 0 0 → OEnds p e below (GW Z EL s Q rm.cells rm.slots) T (entryFrame m as' maxL)) :
    ConX l Z EL y bytes maxL ret ws rm as' h Q := by
  intro hO
  refine MetFree.of_bodySF hy hisR ?_
  intro p e s m args below meth c s₁ Bd hml hP _
  obtain ⟨rfl, hZ, hh, hC⟩ := hP
  have e0 : s₁.heap = h := by rw [← hh, Bd.state]; rfl
  have X0 : Stand p l e rm s m args below meth c s₁ [] 0 0 := Stand.of_body Bd
  have hown : s.vm.findClass y.cls = some m.cls := findClass_of_methodNamed Bd.named
  obtain ⟨s₂, o, h1, h2, h3, v, L, rfl, h4, h5, h6⟩ := body p e s m below meth c s₁ Bd.bytes hml Bd.returns Bd.notSynchronized (name_of_methodNamed Bd.named Bd.method).1
    ⟨[], X0, Fr.nil _, e0, ⟨_, (State.WarmedH.refl s).since 0, Nat.zero_le _⟩, hZ, hown, by rw [hh]; exact CHr.refl hC, hO, Bd.exec⟩
  exact ⟨s₂, _, h1, h2, h3, v, L, rfl, h4, h5, h6⟩
/-- the shape of a payer's premise and answer -/
abbrev PreB (R : Room) (as' : Array Value) (h : Heap) (kc ns : Nat) (A : Pt) (a : Array Value) : Prop := a = as' ∧ A.U.heap = h ∧ A.cells + kc ≤ R.cells ∧ A.slots + ns ≤ R.slots
abbrev PostB (Q : Option Value → Heap → List Loc → Prop) (kc ns : Nat) (A : Pt) (_ : Array Value) (v : Option Value) (B : Pt) : Prop := ∃ L, Q v B.U.heap L ∧ B.locs = A.locs ++ L ∧ B.cells = A.cells + kc ∧ B.slots = A.slots + ns
abbrev PostS (Q : Option Value → Heap → Prop) (Z : State) (EL : List (String × Nat)) (vm0 : Vm) (h : Heap) (kc ns : Nat) (A : Pt) (_ : Array Value) (v : Option Value) (B : Pt) : Prop :=
  ∃ L, (Q v B.U.heap ∧ Fr Z.heap.size L ∧ Ext Z.heap B.U.heap) ∧ B.locs = A.locs ++ L ∧ B.cells = A.cells + kc ∧ B.slots = A.slots + ns ∧ CHr Z EL vm0 h B.U.vm B.U.heap
/-- what a call by contract asks of the caller -/
theorem Con.back {W len : Nat} (K : Con l Z EL y bytes maxL ret rm as' h Q) (hO : Ext Z.heap h) (hZ : Z.Warmed39 vm0) (hE : EW Z a0 EL) (hC : CHv Z EL vm0 h) (wc : (Cond.code y bytes maxL ret).before a0 Z = true) (wz : (Cond.initialized y.cls).before a0 Z = true) (hf : rm.frames + 1 ≤ R.frames) (hl : W + (maxL + 11) + rm.locals ≤ R.locals) :
    BackS l R p e below (s.setVm vm0) args y len W (PreB R as' h rm.cells rm.slots) (PostS Q Z EL vm0 h rm.cells rm.slots) :=
  backOfSH (Q := fun v h' L => Q v h' ∧ Fr Z.heap.size L ∧ Ext Z.heap h') (K hO) hZ wc wz hf hl hE hC
/-- OSt behind a payer that may have interned -/
theorem OSt.behindS (X : OSt p l e R s m args below meth c own Z EL vm0 T h k n) {B : Pt} {v : Option Value} {L0 L : List Loc} (hF0 : Fr Z.heap.size L0) (X' : Stand p l e R (s.setVm B.U.vm) m args below meth c B.U B.locs B.cells B.slots) (hS : (s.setVm vm0).Since B.U.vm B.U.heap.size) (hg : T.heap.size ≤ B.U.heap.size)
    (hF : Fr Z.heap.size L) (hO : Ext Z.heap B.U.heap) (e1 : B.locs = L0 ++ L) (e2 : B.cells = k') (e3 : B.slots = n') (hC' : CHr Z EL vm0 h B.U.vm B.U.heap) : OSt p l e R s m args below meth c own Z EL B.U.vm B.U B.U.heap k' n' := by
  obtain ⟨_, X, -, hh, ⟨k0, hS0, hk0⟩, hZ, ho, hC, -, hx⟩ := X
  obtain ⟨r1, r2, r3, r4⟩ := rebS (own := own) hS0 hk0 X' hS (by rw [← hh]; exact hg) hZ ho
  subst e2 e3
  rw [e1] at r1
  exact ⟨_, r1, hF0.app hF, rfl, ⟨_, r2, Nat.le_refl _⟩, r3, r4, hC.trans hC', hO, hx⟩
theorem OSt.callS (X : OSt p l e R s m args below meth c own Z EL vm0 T h k n) (hE : EW Z a0 EL) (K : Con l Z EL y bytes maxL ret rm as' h Q) {index : Nat} (w1 : (Cond.methodLink own index y).before a0 Z = true) (w2 : (Cond.static y).before a0 Z = true) (wz : (Cond.initialized y.cls).before a0 Z = true) (wc : (Cond.code y bytes maxL ret).before a0 Z = true)
    (hy : y.cls ≠ "java/lang/invoke/MethodHandle" ∧ y.cls ≠ "java/lang/invoke/VarHandle") {W : Nat} (hf : rm.frames + 1 ≤ R.frames) (hl : W + (maxL + 11) + rm.locals ≤ R.locals) {argsL stack : List Value} (ha : argsL.toArray = as') (hlen : ∀ sig, parseMethodDescriptor y.desc = some sig → argsL.length = sig.parameters.length) (hst : stack = argsL.reverse ++ rest) (hsize : Ls.size = c.maxLocals) (hW : (rest.map fun v => v.category).sum ≤ W)
    (hd : decode c.code pc = .ok (.invokestatic index, 3)) (hk : k + rm.cells ≤ R.cells) (hn : n + rm.slots ≤ R.slots)
    (q : ∀ v vm1 T' h', OSt p l e R s m args below meth c own Z EL vm1 T' h' (k + rm.cells) (n + rm.slots) → CHr Z EL vm0 h vm1 h' → Q v h' → OEnds p e below G T' (mkF m (pc + 3) Ls (v.toList ++ rest))) : OEnds p e below G T (mkF m pc Ls stack) := by
  have X1 := X
  obtain ⟨L, X, hF, hh, ⟨k0, hS0, hk0⟩, hZ, ho, hC, hO, hx⟩ := X
  obtain ⟨v, vmx, B, -, X', hS, hgr, ⟨L', ⟨hq, hF', hO'⟩, e1, e2, e3, hC'⟩, st⟩ := callSS X hx ho (mvT (s := s.setVm vm0) hZ w1) (mvT (s := s.setVm vm0) hZ w2) (mvT (s := s.setVm vm0) hZ wz) (mvT (s := s.setVm vm0) hZ wc) hy (K.back hO hZ hE hC.1 wc wz hf hl) (g := mkF m pc Ls stack) rfl hsize (argsL := argsL) (rest := rest) hlen hst (by show 2 * 0 + _ ≤ _; rw [Nat.mul_zero, Nat.zero_add]; exact hW) hd (fun _ _ => ⟨ha, hh, hk, hn⟩)
  exact (q v _ _ _ (X1.behindS (v := v) hF X' hS hgr hF' hO' e1 e2 e3 hC') hC' hq).tr st
theorem OSt.callI (X : OSt p l e R s m args below meth c own Z EL vm0 T h k n) (hE : EW Z a0 EL) (K : Con l Z EL y bytes maxL none rm as' h Q) {index : Nat} (w1 : (Cond.methodLink own index y).before a0 Z = true) (w2 : (Cond.instanceMethod y).before a0 Z = true) (wz : (Cond.initialized y.cls).before a0 Z = true) (wc : (Cond.code y bytes maxL none).before a0 Z = true)
    (hi : y.name = "<init>") (hy : y.cls ≠ "java/lang/invoke/MethodHandle" ∧ y.cls ≠ "java/lang/invoke/VarHandle") {W : Nat} (hf : rm.frames + 1 ≤ R.frames) (hl : W + (maxL + 11) + rm.locals ≤ R.locals) {a : Addr} {argsL stack : List Value} (ha : (.ref a :: argsL).toArray = as') (hlen : ∀ sig, parseMethodDescriptor y.desc = some sig → argsL.length = sig.parameters.length) (hst : stack = argsL.reverse ++ .ref a :: rest) (hsize : Ls.size = c.maxLocals) (hW : (rest.map fun v => v.category).sum ≤ W)
    (hd : decode c.code pc = .ok (.invokespecial index, 3)) (hk : k + rm.cells ≤ R.cells) (hn : n + rm.slots ≤ R.slots)
    (q : ∀ v vm1 T' h', OSt p l e R s m args below meth c own Z EL vm1 T' h' (k + rm.cells) (n + rm.slots) → CHr Z EL vm0 h vm1 h' → Q v h' → OEnds p e below G T' (mkF m (pc + 3) Ls (v.toList ++ rest))) : OEnds p e below G T (mkF m pc Ls stack) := by
  have X1 := X
  obtain ⟨L, X, hF, hh, ⟨k0, hS0, hk0⟩, hZ, ho, hC, hO, hx⟩ := X
  obtain ⟨v, vmx, B, -, X', hS, hgr, ⟨L', ⟨hq, hF', hO'⟩, e1, e2, e3, hC'⟩, st⟩ := X.specialBackS hx hi ho (mvT (s := s.setVm vm0) hZ w1) (mvT (s := s.setVm vm0) hZ w2) (mvT (s := s.setVm vm0) hZ wc) hy (K.back hO hZ hE hC.1 wc wz hf hl) (g := mkF m pc Ls stack) rfl hsize (Steps.refl _) (a := a) (argsL := argsL) (rest := rest) hlen hst (by show 2 * 0 + _ ≤ _; rw [Nat.mul_zero, Nat.zero_add]; exact hW) hd (fun _ _ => ⟨ha, hh, hk, hn⟩)
  exact (q v _ _ _ (X1.behindS (v := v) hF X' hS hgr hF' hO' e1 e2 e3 hC') hC' hq).tr st
theorem OSt.callV (X : OSt p l e R s m args below meth c own Z EL vm0 T h k n) (hE : EW Z a0 EL) {z : MethodName} (K : Con l Z EL z bytes maxL ret rm as' h Q) {C : String} {index : Nat} (w1 : (Cond.methodLink own index y).before a0 Z = true) (w2 : (Cond.declares y).before a0 Z = true) (w3 : (Cond.selects C y z).before a0 Z = true) (w4 : (Cond.instanceMethod z).before a0 Z = true) (wz : (Cond.initialized z.cls).before a0 Z = true) (wc : (Cond.code z bytes maxL ret).before a0 Z = true) (nf : NotFace (s.setVm vm0) y)
    (hy : y.cls ≠ "java/lang/invoke/MethodHandle" ∧ y.cls ≠ "java/lang/invoke/VarHandle") {W : Nat} (hf : rm.frames + 1 ≤ R.frames) (hl : W + (maxL + 11) + rm.locals ≤ R.locals) {a : Addr} (E : Exa Z h a C) {argsL stack : List Value} (ha : (.ref a :: argsL).toArray = as') (hlen : ∀ sig, parseMethodDescriptor y.desc = some sig → argsL.length = sig.parameters.length) (hst : stack = argsL.reverse ++ .ref a :: rest) (hsize : Ls.size = c.maxLocals) (hW : (rest.map fun v => v.category).sum ≤ W)
    (hd : decode c.code pc = .ok (.invokevirtual index, 3)) (hk : k + rm.cells ≤ R.cells) (hn : n + rm.slots ≤ R.slots)
    (q : ∀ v vm1 T' h', OSt p l e R s m args below meth c own Z EL vm1 T' h' (k + rm.cells) (n + rm.slots) → CHr Z EL vm0 h vm1 h' → Q v h' → OEnds p e below G T' (mkF m (pc + 3) Ls (v.toList ++ rest))) : OEnds p e below G T (mkF m pc Ls stack) := by
  have X1 := X
  obtain ⟨L, X, hF, hh, ⟨k0, hS0, hk0⟩, hZ, ho, hC, hO, hx⟩ := X
  obtain ⟨cB, kB, q1, -, q3⟩ := isOf (s := s.setVm vm0) hZ hh E
  obtain ⟨v, vmx, B, -, X', hS, hgr, ⟨L', ⟨hq, hF', hO'⟩, e1, e2, e3, hC'⟩, st⟩ := X.virtualBackS hx ho (mvT (s := s.setVm vm0) hZ w1) (mvT (s := s.setVm vm0) hZ w2) nf (mvT (s := s.setVm vm0) hZ w3) (mvT (s := s.setVm vm0) hZ w4) hy (K.back hO hZ hE hC.1 wc wz hf hl) q1 q3 (g := mkF m pc Ls stack) rfl hsize (Steps.refl _) (argsL := argsL) (rest := rest) hlen hst (by show 2 * 0 + _ ≤ _; rw [Nat.mul_zero, Nat.zero_add]; exact hW) hd (fun _ _ => ⟨ha, hh, hk, hn⟩)
  exact (q v _ _ _ (X1.behindS (v := v) hF X' hS hgr hF' hO' e1 e2 e3 hC') hC' hq).tr st
end Cons
end Jvm.Own
namespace Jvm.Own
open Sem ClassFile Op Lib Bundle Jvm.Stand Jvm.Free Jvm.LawKit Jvm.RoadKit
section Pay
variable {p : Program} {l : Launch} {e : Env} {R : Room} {s : State} {m : MethodId} {args : Array Value} {below : List Frame} {meth : Method} {c : Code} {own : String} {Z : State} {a0 : Array Value} {EL : List (String × Nat)} {vm0 vm1 : Vm} {T T' : State} {h h' h1 : Heap} {k n k' n' : Nat} {G : Outcome → State → Prop} {pc : Nat} {Ls : Array Slot} {rest : List Value} {Q : Option Value → Heap → Prop} {Q3 : Option Value → Heap → List Loc → Prop} {kc ns : Nat}
  {y : MethodName} {bytes : ByteArray} {maxL : Nat} {ret : Option FieldType} {rm : Room} {as' : Array Value} {ws : List Cond}
/-- what the walk must know of a payer's answer -/
abbrev OkB (Z : State) (EL : List (String × Nat)) (vm0 : Vm) (h : Heap) (Q3 : Option Value → Heap → List Loc → Prop) : Prop := ∀ v h' L, Q3 v h' L → Fr Z.heap.size L ∧ Ext Z.heap h' ∧ CHr Z EL vm0 h vm0 h'
theorem OSt.behind (X : OSt p l e R s m args below meth c own Z EL vm0 T h k n) {B : Pt} {L0 L : List Loc} (hF0 : Fr Z.heap.size L0) (X' : Stand p l e R (s.setVm vm0) m args below meth c B.U B.locs B.cells B.slots)
    (hF : Fr Z.heap.size L) (hO : Ext Z.heap B.U.heap) (e1 : B.locs = L0 ++ L) (e2 : B.cells = k') (e3 : B.slots = n') (hC' : CHr Z EL vm0 h vm0 B.U.heap) : OSt p l e R s m args below meth c own Z EL vm0 B.U B.U.heap k' n' := by
  obtain ⟨_, X, -, hh, ⟨k0, hS0, hk0⟩, hZ, ho, hC, -, hx⟩ := X
  subst e2 e3
  rw [e1] at X'
  exact ⟨_, X', hF0.app hF, rfl, ⟨_, hS0, Nat.le_trans hk0 hC'.2.1⟩, hZ, ho, hC.trans hC', hO, hx⟩
theorem OSt.payS (X : OSt p l e R s m args below meth c own Z EL vm0 T h k n) {W : Nat} (K : Back l R p e below (s.setVm vm0) args y 3 W (PreB R as' h kc ns) (PostB Q3 kc ns)) (hK : OkB Z EL vm0 h Q3) {index : Nat} (w1 : (Cond.methodLink own index y).before a0 Z = true) (w2 : (Cond.static y).before a0 Z = true) (wz : (Cond.initialized y.cls).before a0 Z = true) (wc : (Cond.code y bytes maxL ret).before a0 Z = true)
    (hy : y.cls ≠ "java/lang/invoke/MethodHandle" ∧ y.cls ≠ "java/lang/invoke/VarHandle") {argsL stack : List Value} (ha : argsL.toArray = as') (hlen : ∀ sig, parseMethodDescriptor y.desc = some sig → argsL.length = sig.parameters.length) (hst : stack = argsL.reverse ++ rest) (hsize : Ls.size = c.maxLocals) (hW : (rest.map fun v => v.category).sum ≤ W)
    (hd : decode c.code pc = .ok (.invokestatic index, 3)) (hk : k + kc ≤ R.cells) (hn : n + ns ≤ R.slots)
    (q : ∀ v T' h' L, OSt p l e R s m args below meth c own Z EL vm0 T' h' (k + kc) (n + ns) → Q3 v h' L → OEnds p e below G T' (mkF m (pc + 3) Ls (v.toList ++ rest))) : OEnds p e below G T (mkF m pc Ls stack) := by
  have X1 := X
  obtain ⟨L, X, hF, hh, ⟨k0, hS0, hk0⟩, hZ, ho, hC, hO, hx⟩ := X
  obtain ⟨v, vmx, B, -, X', ⟨L', hq, e1, e2, e3⟩, st⟩ := Jvm.LawKit.callS X hx ho (mvT (s := s.setVm vm0) hZ w1) (mvT (s := s.setVm vm0) hZ w2) (mvT (s := s.setVm vm0) hZ wz) (mvT (s := s.setVm vm0) hZ wc) hy K (g := mkF m pc Ls stack) rfl hsize (argsL := argsL) (rest := rest) hlen hst (by show 2 * 0 + _ ≤ _; rw [Nat.mul_zero, Nat.zero_add]; exact hW) hd (fun _ _ => ⟨ha, hh, hk, hn⟩)
  obtain ⟨r1, r2, r3⟩ := hK _ _ _ hq
  exact (q v _ _ _ (X1.behind hF X' r1 r2 e1 e2 e3 r3) hq).go st
theorem OSt.payI (X : OSt p l e R s m args below meth c own Z EL vm0 T h k n) {W : Nat} (K : Back l R p e below (s.setVm vm0) args y 3 W (PreB R as' h kc ns) (PostB Q3 kc ns)) (hK : OkB Z EL vm0 h Q3) {index : Nat} (w1 : (Cond.methodLink own index y).before a0 Z = true) (w2 : (Cond.instanceMethod y).before a0 Z = true) (wc : (Cond.code y bytes maxL none).before a0 Z = true)
    (hi : y.name = "<init>") (hy : y.cls ≠ "java/lang/invoke/MethodHandle" ∧ y.cls ≠ "java/lang/invoke/VarHandle") {a : Addr} {argsL stack : List Value} (ha : (.ref a :: argsL).toArray = as') (hlen : ∀ sig, parseMethodDescriptor y.desc = some sig → argsL.length = sig.parameters.length) (hst : stack = argsL.reverse ++ .ref a :: rest) (hsize : Ls.size = c.maxLocals) (hW : (rest.map fun v => v.category).sum ≤ W)
    (hd : decode c.code pc = .ok (.invokespecial index, 3)) (hk : k + kc ≤ R.cells) (hn : n + ns ≤ R.slots)
    (q : ∀ v T' h' L, OSt p l e R s m args below meth c own Z EL vm0 T' h' (k + kc) (n + ns) → Q3 v h' L → OEnds p e below G T' (mkF m (pc + 3) Ls (v.toList ++ rest))) : OEnds p e below G T (mkF m pc Ls stack) := by
  have X1 := X
  obtain ⟨L, X, hF, hh, ⟨k0, hS0, hk0⟩, hZ, ho, hC, hO, hx⟩ := X
  obtain ⟨v, vmx, B, -, X', ⟨L', hq, e1, e2, e3⟩, st⟩ := X.specialBack hx hi ho (mvT (s := s.setVm vm0) hZ w1) (mvT (s := s.setVm vm0) hZ w2) (mvT (s := s.setVm vm0) hZ wc) hy K (g := mkF m pc Ls stack) rfl hsize (Steps.refl _) (a := a) (argsL := argsL) (rest := rest) hlen hst (by show 2 * 0 + _ ≤ _; rw [Nat.mul_zero, Nat.zero_add]; exact hW) hd (fun _ _ => ⟨ha, hh, hk, hn⟩)
  obtain ⟨r1, r2, r3⟩ := hK _ _ _ hq
  exact (q v _ _ _ (X1.behind hF X' r1 r2 e1 e2 e3 r3) hq).tr st
theorem OSt.payV (X : OSt p l e R s m args below meth c own Z EL vm0 T h k n) {z : MethodName} {W : Nat} (K : Back l R p e below (s.setVm vm0) args z 3 W (PreB R as' h kc ns) (PostB Q3 kc ns)) (hK : OkB Z EL vm0 h Q3) {C : String} {index : Nat} (w1 : (Cond.methodLink own index y).before a0 Z = true) (w2 : (Cond.declares y).before a0 Z = true) (w3 : (Cond.selects C y z).before a0 Z = true) (w4 : (Cond.instanceMethod z).before a0 Z = true) (nf : NotFace (s.setVm vm0) y)
    (hy : y.cls ≠ "java/lang/invoke/MethodHandle" ∧ y.cls ≠ "java/lang/invoke/VarHandle") {a : Addr} (E : Exa Z h a C) {argsL stack : List Value} (ha : (.ref a :: argsL).toArray = as') (hlen : ∀ sig, parseMethodDescriptor y.desc = some sig → argsL.length = sig.parameters.length) (hst : stack = argsL.reverse ++ .ref a :: rest) (hsize : Ls.size = c.maxLocals) (hW : (rest.map fun v => v.category).sum ≤ W)
    (hd : decode c.code pc = .ok (.invokevirtual index, 3)) (hk : k + kc ≤ R.cells) (hn : n + ns ≤ R.slots)
    (q : ∀ v T' h' L, OSt p l e R s m args below meth c own Z EL vm0 T' h' (k + kc) (n + ns) → Q3 v h' L → OEnds p e below G T' (mkF m (pc + 3) Ls (v.toList ++ rest))) : OEnds p e below G T (mkF m pc Ls stack) := by
  have X1 := X
  obtain ⟨L, X, hF, hh, ⟨k0, hS0, hk0⟩, hZ, ho, hC, hO, hx⟩ := X
  obtain ⟨cB, kB, q1, -, q3⟩ := isOf (s := s.setVm vm0) hZ hh E
  obtain ⟨v, vmx, B, -, X', ⟨L', hq, e1, e2, e3⟩, st⟩ := X.virtualBack hx ho (mvT (s := s.setVm vm0) hZ w1) (mvT (s := s.setVm vm0) hZ w2) nf (mvT (s := s.setVm vm0) hZ w3) (mvT (s := s.setVm vm0) hZ w4) hy K q1 q3 (g := mkF m pc Ls stack) rfl hsize (Steps.refl _) (argsL := argsL) (rest := rest) hlen hst (by show 2 * 0 + _ ≤ _; rw [Nat.mul_zero, Nat.zero_add]; exact hW) hd (fun _ _ => ⟨ha, hh, hk, hn⟩)
  obtain ⟨r1, r2, r3⟩ := hK _ _ _ hq
  exact (q v _ _ _ (X1.behind hF X' r1 r2 e1 e2 e3 r3) hq).tr st
theorem OSt.nf (X : OSt p l e R s m args below meth c own Z EL vm0 T h k n) {C : String} (w : (Cond.selects C y y).before a0 Z = true) : NotFace (s.setVm vm0) y := notFace_of_selects (args := #[]) (mvT (s := s.setVm vm0) X.hZ w)
/-- a payer that leaves the heap as it was -/
theorem okPure {Q2 : Option Value → Prop} (X : OSt p l e R s m args below meth c own Z EL vm0 T h k n) : OkB Z EL vm0 h (fun v h' L => Q2 v ∧ L = [] ∧ h' = h) := fun v h' L ⟨_, e1, e2⟩ => by
  subst e1 e2; exact ⟨Fr.nil _, X.old, CHr.refl X.chv⟩
theorem chr_nil {vm : Vm} (q : h.size ≤ h'.size) : CHr Z [] vm h vm h' := ⟨(fun _ hp => (nomatch hp)), q, fun _ B => (by obtain ⟨_, hp, _⟩ := B; cases hp)⟩
theorem safe_nil {vm : Vm} {x : Addr} : Safe Z [] vm h x := fun B => by obtain ⟨_, hp, _⟩ := B; cases hp
end Pay
section Narrow
variable {p : Program} {l : Launch} {e : Env} {R : Room} {s : State} {m : MethodId} {args : Array Value} {below : List Frame} {meth : Method} {c : Code} {own : String} {Z : State} {a0 : Array Value} {vm0 vm1 : Vm} {T T' : State} {h h' h1 : Heap} {k n k' n' : Nat} {G : Outcome → State → Prop} {pc : Nat} {Ls : Array Slot} {rest : List Value} {Q : Option Value → Heap → Prop}
  {y : MethodName} {bytes : ByteArray} {maxL : Nat} {ret : Option FieldType} {rm : Room} {as' : Array Value} {ws : List Cond}
/-- how a walk over s ends, under the narrow frame -/
def GN (Z : State) (s : State) (Q : Option Value → Heap → Prop) (k n : Nat) (o : Outcome) (u : State) : Prop :=
  ∃ v L, o = .returned v ∧ (Q v u.heap ∧ Fr Z.heap.size L ∧ Ext Z.heap u.heap) ∧ FrameEnd s o u L k n
theorem OSt.retVN (X : OSt p l e R s m args below meth c own Z [] s.vm T h k n) (hlk : meth.locks = false) {w : Value} {t : FieldType} {i : Instr} (hret : meth.sig.returnType = some t) (hn : narrow t w = w)
    (hi : (i = .ireturn ∧ (t = .int ∨ t = .boolean ∨ t = .byte ∨ t = .char ∨ t = .short) ∧ ∃ z, w = .int z) ∨ (i = .lreturn ∧ t = .long ∧ ∃ z, w = .long z) ∨ (i = .dreturn ∧ t = .double ∧ ∃ z, w = .double z) ∨ (i = .freturn ∧ t = .float ∧ ∃ z, w = .float z) ∨ (i = .areturn ∧ t.isReference = true ∧ w.isRef = true))
    (hd : decode c.code pc = .ok (i, 1)) (hk : k ≤ k') (hn' : n ≤ n') (hQ : Q (some w) h) : OEnds p e below (GN Z s Q k' n') T (mkF m pc Ls (w :: rest)) := by
  obtain ⟨L, X, hF, hh, ⟨k0, hS0, hk0⟩, hZ, ho, hC, hO, hx⟩ := X
  obtain ⟨fs, hr, hrun, hended, hW, hsame⟩ := Stand.leave (s := s) X (v := some w) (fun q => by rw [hret] at q; cases q) hlk
  refine ⟨_, _, retOut X hx hret hn hi hd hr, hrun, hended, _, L, rfl, ⟨?_, hF, ?_⟩, ⟨_, rfl⟩, hW, hsame.mono hk hn'⟩
  · show Q _ T.heap; rw [hh]; exact hQ
  · show Ext _ T.heap; rw [hh]; exact hO
theorem OSt.retIntN (X : OSt p l e R s m args below meth c own Z [] s.vm T h k n) (hlk : meth.locks = false) {z : Int32} (hret : meth.sig.returnType = some .int) (hd : decode c.code pc = .ok (.ireturn, 1)) (hk : k ≤ k') (hn' : n ≤ n') (hQ : Q (some (.int z)) h) : OEnds p e below (GN Z s Q k' n') T (mkF m pc Ls (.int z :: rest)) :=
  X.retVN hlk hret rfl (Or.inl ⟨rfl, Or.inl rfl, z, rfl⟩) hd hk hn' hQ
theorem OSt.retBoolN (X : OSt p l e R s m args below meth c own Z [] s.vm T h k n) (hlk : meth.locks = false) {z : Int32} (hz : z = 0 ∨ z = 1) (hret : meth.sig.returnType = some .boolean) (hd : decode c.code pc = .ok (.ireturn, 1)) (hk : k ≤ k') (hn' : n ≤ n') (hQ : Q (some (.int z)) h) : OEnds p e below (GN Z s Q k' n') T (mkF m pc Ls (.int z :: rest)) :=
  X.retVN hlk hret (by rcases hz with rfl | rfl <;> rfl) (Or.inl ⟨rfl, Or.inr (Or.inl rfl), z, rfl⟩) hd hk hn' hQ
theorem OSt.retRefN (X : OSt p l e R s m args below meth c own Z [] s.vm T h k n) (hlk : meth.locks = false) {w : Value} (hw : w.isRef = true) {t : FieldType} (ht : t.isReference = true) (hret : meth.sig.returnType = some t) (hd : decode c.code pc = .ok (.areturn, 1)) (hk : k ≤ k') (hn' : n ≤ n') (hQ : Q (some w) h) : OEnds p e below (GN Z s Q k' n') T (mkF m pc Ls (w :: rest)) :=
  X.retVN hlk hret (narrow_obj ht) (Or.inr (Or.inr (Or.inr (Or.inr ⟨rfl, ht, hw⟩)))) hd hk hn' hQ
theorem OSt.ret0N (X : OSt p l e R s m args below meth c own Z [] s.vm T h k n) (hlk : meth.locks = false) (hret : meth.sig.returnType = none) (hd : decode c.code pc = .ok (.return_, 1)) (hk : k ≤ k') (hn' : n ≤ n') (hQ : Q none h) : OEnds p e below (GN Z s Q k' n') T (mkF m pc Ls []) := by
  obtain ⟨L, X, hF, hh, ⟨k0, hS0, hk0⟩, hZ, ho, hC, hO, hx⟩ := X
  obtain ⟨fs, hr, hrun, hended, hW, hsame⟩ := Stand.leave (s := s) X (v := none) (fun _ => rfl) hlk
  refine ⟨_, _, X.returnOut hx hret hd hr, hrun, hended, _, L, rfl, ⟨?_, hF, ?_⟩, ⟨_, rfl⟩, hW, hsame.mono hk hn'⟩
  · show Q _ T.heap; rw [hh]; exact hQ
  · show Ext _ T.heap; rw [hh]; exact hO
def ConN (l : Launch) (Z : State) (y : MethodName) (bytes : ByteArray) (maxL : Nat) (ret : Option FieldType) (ws : List Cond) (rm : Room) (as' : Array Value) (h : Heap) (Q : Option Value → Heap → Prop) : Prop := Ext Z.heap h →
  MetFree l y (head1 (Cond.code y bytes maxL ret :: ws) rm) (fun a U => a = as' ∧ Z.Warmed39 U.vm ∧ U.heap = h) (fun _ _ _ _ _ => True) (fun _ U o U' => ∃ v L, o = .returned v ∧ (Q v U'.heap ∧ Fr Z.heap.size L ∧ Ext Z.heap U'.heap) ∧ FrameEnd U o U' L rm.cells rm.slots)
theorem ConN.of (hy : plainFor y = true) (body : ∀ (p : Program) (e : Env) (s : State) (m : MethodId) (below : List Frame) (meth : Method) (c : Code) (T : State), c.code = bytes → c.maxLocals = maxL → meth.sig.returnType = ret → meth.locks = false → meth.name = y.name → OSt p l e rm s m as' below meth c y.cls Z [] s.vm T h 0 0 → OEnds p e below (GN Z s Q rm.cells rm.slots) T (entryFrame m as' maxL)) :
    ConN l Z y bytes maxL ret ws rm as' h Q := by
  intro hO
  refine MetFree.of_bodySF hy hisR ?_
  intro p e s m args below meth c s₁ Bd hml hP _
  obtain ⟨rfl, hZ, hh⟩ := hP
  have e0 : s₁.heap = h := by rw [← hh, Bd.state]; rfl
  have X0 : Stand p l e rm s m args below meth c s₁ [] 0 0 := Stand.of_body Bd
  have hown : s.vm.findClass y.cls = some m.cls := findClass_of_methodNamed Bd.named
  obtain ⟨s₂, o, h1, h2, h3, v, L, rfl, h4, h5⟩ := body p e s m below meth c s₁ Bd.bytes hml Bd.returns Bd.notSynchronized (name_of_methodNamed Bd.named Bd.method).1
    ⟨[], X0, Fr.nil _, e0, ⟨_, (State.WarmedH.refl s).since 0, Nat.zero_le _⟩, hZ, hown, by rw [hh]; exact chr_nil (Nat.le_refl _), hO, Bd.exec⟩
  exact ⟨s₂, _, h1, h2, h3, v, L, rfl, h4, h5⟩
theorem ConN.back {W len : Nat} (K : ConN l Z y bytes maxL ret [] rm as' h Q) (hO : Ext Z.heap h) (hZ : Z.Warmed39 vm0) (wc : (Cond.code y bytes maxL ret).before a0 Z = true) (wz : (Cond.initialized y.cls).before a0 Z = true) (hf : rm.frames + 1 ≤ R.frames) (hl : W + (maxL + 11) + rm.locals ≤ R.locals) :
    Back l R p e below (s.setVm vm0) args y len W (PreB R as' h rm.cells rm.slots) (PostB (fun v h' L => Q v h' ∧ Fr Z.heap.size L ∧ Ext Z.heap h') rm.cells rm.slots) :=
  backOf (Q := fun v h' L => Q v h' ∧ Fr Z.heap.size L ∧ Ext Z.heap h') (K hO) hZ wc wz hf hl
theorem okN (hq : ∀ v h', Q v h' → h.size ≤ h'.size) : OkB Z [] vm0 h (fun v h' L => Q v h' ∧ Fr Z.heap.size L ∧ Ext Z.heap h') := fun v h' L r => ⟨r.2.1, r.2.2, chr_nil (hq v h' r.1)⟩
end Narrow
end Jvm.Own
namespace Jvm.Own
open Sem ClassFile Op Lib Bundle Jvm.Stand Jvm.Free Jvm.LawKit Jvm.RoadKit
section More
variable {p : Program} {l : Launch} {e : Env} {R : Room} {s : State} {m : MethodId} {args : Array Value} {below : List Frame} {meth : Method} {c : Code} {own : String} {Z : State} {a0 : Array Value} {EL : List (String × Nat)} {vm0 : Vm} {T : State} {h : Heap} {k n : Nat} {G : Outcome → State → Prop} {pc : Nat} {Ls : Array Slot} {rest : List Value}
theorem OSt.instNull (X : OSt p l e R s m args below meth c own Z EL vm0 T h k n) {index : Nat} (hd : decode c.code pc = .ok (.instanceof index, 3)) (q : OEnds p e below G T (mkF m (pc + 3) Ls (.int 0 :: rest))) : OEnds p e below G T (mkF m pc Ls (.null :: rest)) := by
  obtain ⟨L, X, hF, hh, hS, hZ, ho, hC, hO, hx⟩ := X
  exact q.go fun t => X.instanceofNull hx (g := mkF m pc Ls (.null :: rest)) rfl rfl hd t
theorem nsRoot {O K : String} {j : Nat} (wr : (Cond.noSuperclass O).before a0 Z = true) (wi : (Cond.instantiable K j).before a0 Z = true) (hn : O ≠ K) : NS Z O K := by
  obtain ⟨t, k', g0, -⟩ := Cond.instantiable_spec wi
  obtain ⟨cO, kO, o1, o2, o3, -, -⟩ := Cond.noSuperclass_spec wr
  have ne := ids_ne o1 g0 hn
  refine ⟨cO, t, o1, g0, fun fuel => ?_⟩
  cases fuel with
  | zero => rfl
  | succ f => simp [Vm.isSubclassAux, ne, o2, o3]
/-- an object of the class C isn't one of the class K, which can be made -/
theorem nsNo {C S K : String} {j : Nat} (w : (Cond.superclass C S).before a0 Z = true) (wi : (Cond.instantiable K j).before a0 Z = true) (n : NS Z C K) (hn : C ≠ K) : ∃ c t, Z.vm.findClass C = some c ∧ Z.vm.findClass K = some t ∧ Z.vm.assignable c t = false := by
  obtain ⟨c, t, h0, g0, n3⟩ := n
  obtain ⟨t', k', g0', g2, g5, g7, -, -⟩ := Cond.instantiable_spec wi
  cases g0.symm.trans g0'
  obtain ⟨p, k, kp, h1, h2, h3, h4, h5, -, h7⟩ := Cond.superclass_spec h0 w
  have ne := ids_ne h0 g0 hn
  have g8 : k'.isInterface = false := (Bool.or_eq_false_iff.mp g7).1
  refine ⟨c, t, h0, g0, ?_⟩
  show Z.vm.assignableAux (255 + 1) c t = false
  simp [Vm.assignableAux, ne, h2, g2, h5, g5, g8, Vm.isSubclass, n3]
end More
end Jvm.Own
namespace Jvm.Own
open Sem ClassFile Op Lib Bundle Jvm.Stand Jvm.Free Jvm.LawKit Jvm.RoadKit
section Small
variable {Z : State} {h h' : Heap} {EL : List (String × Nat)} {vm : Vm}
theorem own_irem {tb : Tables} [Ours tb] {e : Env} {below : List Frame} {T target : State} {m : MethodId} {c : Code} {g : JFrame} (h : At T m c below) (hx : tb.exec = Jvm.exec) (hg : g.method = m) {x y : Int32} {rest : List Value} (hd : decode c.code g.pc = .ok (.irem, 1)) (hs : g.stack = .int y :: .int x :: rest) (hy : y ≠ 0)
    (hr : Steps tb e below (T.setTop { g with pc := g.pc + 1, stack := .int (x % y) :: rest }) target) : Steps tb e below (T.setTop g) target := by
  have q : x - x / y * y = x % y := irem_eq_mod x y
  exact XS.irem h hx hg hd hs hy (by rw [q]; exact hr)
theorem own_lrem {tb : Tables} [Ours tb] {e : Env} {below : List Frame} {T target : State} {m : MethodId} {c : Code} {g : JFrame} (h : At T m c below) (hx : tb.exec = Jvm.exec) (hg : g.method = m) {x y : Int64} {rest : List Value} (hd : decode c.code g.pc = .ok (.lrem, 1)) (hs : g.stack = .long y :: .long x :: rest) (hy : y ≠ 0)
    (hr : Steps tb e below (T.setTop { g with pc := g.pc + 1, stack := .long (x % y) :: rest }) target) : Steps tb e below (T.setTop g) target := by
  have q : x - (x / y) * y = x % y := lrem_mod x y
  exact XS.lrem h hx hg hd hs hy (by rw [q]; exact hr)
theorem own_acneY {x y : Value} (h1 : x.isRef = true) (h2 : y.isRef = true) (q : decide (x = y) = false) : XT.acmp .ne x y = true := by simpa [XT.acmp] using q
theorem own_acneN {x y : Value} (h1 : x.isRef = true) (h2 : y.isRef = true) (q : decide (x = y) = true) : XT.acmp .ne x y = false := by simpa [XT.acmp] using q
theorem own_aceqY {x y : Value} (h1 : x.isRef = true) (h2 : y.isRef = true) (q : decide (x = y) = true) : XT.acmp .eq x y = true := by simpa [XT.acmp] using q
theorem own_aceqN {x y : Value} (h1 : x.isRef = true) (h2 : y.isRef = true) (q : decide (x = y) = false) : XT.acmp .eq x y = false := by simpa [XT.acmp] using q
theorem own_cat {v : Value} (h : v.isRef = true) : v.category = 1 := by rcases ref_cases h with rfl | ⟨_, rfl⟩ <;> rfl
theorem own_fits {t : FieldType} {v : Value} (h1 : t.isReference = true) (h2 : v.isRef = true) : fits t v = true := by
  rcases ref_cases h2 with rfl | ⟨a, rfl⟩ <;> cases t <;> first | rfl | cases h1
abbrev lo8 (c : Int32) : Int32 := c.toInt8.toInt32
/-- the object x is a String that spells cs, each from 0 to 255 -/
def OStr (Z : State) (h : Heap) (x : Addr) (cs : List Int32) : Prop := Exa Z h x "java/lang/String" ∧ Fld Z h x "java/lang/String" "coder" "B" (.int 0) ∧ (∃ (t : Addr) (kb : ClassId), Fld Z h x "java/lang/String" "value" "[B" (.ref t) ∧ Arv Z h t kb .byte (Int32.ofNat cs.length) ((cs.map lo8).map Value.int) (.int 0)) ∧ (∀ c ∈ cs, ¬ c < 0 ∧ ¬ (255 : Int32) < c) ∧ cs.length ≤ 4000
theorem OStr.ext {x : Addr} {cs : List Int32} (F : OStr Z h x cs) (E : Ext h h') : OStr Z h' x cs := by
  obtain ⟨h1, h2, ⟨t, kb, h3, h4⟩, r⟩ := F; exact ⟨h1.ext E, h2.ext E, ⟨t, kb, h3.ext E, h4.ext E⟩, r⟩
theorem OStr.exa {x : Addr} {cs : List Int32} (F : OStr Z h x cs) : Exa Z h x "java/lang/String" := F.1
theorem OStr.lt {x : Addr} {cs : List Int32} (F : OStr Z h x cs) : x < h.size := F.1.lt
theorem all_nil {P : Int32 → Prop} : ∀ c ∈ ([] : List Int32), P c := fun _ q => nomatch q
theorem all_cons {P : Int32 → Prop} {c : Int32} {cs : List Int32} (h1 : P c) (h2 : ∀ c ∈ cs, P c) : ∀ x ∈ c :: cs, P x := fun x q => (List.mem_cons.mp q).elim (fun u => u ▸ h1) (h2 x)
theorem up255 {c : Int32} (h : ¬ c < 0 ∧ ¬ (255 : Int32) < c) : ¬ c < 0 ∧ ¬ (65535 : Int32) < c := by
  have r : (0 : Int32).toInt = 0 := rfl
  have r1 : (255 : Int32).toInt = 255 := rfl
  have r2 : (65535 : Int32).toInt = 65535 := rfl
  simp only [Int32.lt_iff_toInt_lt, r, r1, r2] at h ⊢; omega
theorem and255 (x : Int32) : ¬ (x &&& 255) < 0 ∧ ¬ (255 : Int32) < (x &&& 255) := by
  have q := c_and x 255 (by decide)
  have r : (0 : Int32).toInt = 0 := rfl
  have r1 : (255 : Int32).toInt = 255 := rfl
  simp only [Int32.lt_iff_toInt_lt, r, r1] at q ⊢; omega
theorem ch255 (x : Int32) : ¬ ((x &&& 255).toUInt32.toUInt16.toUInt32.toInt32) < 0 ∧ ¬ (255 : Int32) < ((x &&& 255).toUInt32.toUInt16.toUInt32.toInt32) := by
  rw [i2c_mask]; exact and255 x
/-- a String that has only been made holds no array: no constant is booked at it -/
theorem safe_blank {x : Addr} (hal : Z.vm.Alike vm) (E : Exa Z h x "java/lang/String") (V : Fld Z h x "java/lang/String" "value" "[B" .null) : Safe Z EL vm h x := fun B => by
  obtain ⟨cell, kk, e1, e2, e3, -, -⟩ := E
  obtain ⟨cell', cf, kx, i, f, v1, v2, -, -, -, -, v7⟩ := V
  cases e1.symm.trans v1
  obtain ⟨p, -, u, a, -, q, -, F, hy⟩ := B
  rcases hy with rfl | rfl
  · cases (show h[q.sa]? = some q.sC from F.ha).symm.trans e1
    obtain ⟨cS, ⟨⟨-, -, -, ⟨c1, k1, i1, f1, -⟩, -, -, -, w1, -⟩, -⟩, -⟩ := F
    obtain ⟨k3, e4⟩ := ff_back (U := Wst Z vm h) hal f1
    cases e4.symm.trans v2
    have := w1.symm.trans v7
    cases this
  · cases (show h[q.sd]? = some q.SA from F.hd).symm.trans e1
    obtain ⟨cS, -, -, f4, -⟩ := F
    have f5 : vm.findClass "[B" = some q.SA.cls := f4
    rw [hal.findClass] at f5
    obtain ⟨k5, q5, q6⟩ := Vm.findClass_spec f5
    obtain ⟨k6, q7, q8⟩ := Vm.findClass_spec e2
    cases q5.symm.trans q7
    exact absurd (q6.symm.trans q8) (by decide)
end Small
end Jvm.Own
namespace Jvm.Own
open Sem ClassFile Op Lib Bundle Jvm.Stand Jvm.Free Jvm.LawKit Jvm.RoadKit
section Copy
variable {p : Program} {l : Launch} {e : Env} {R : Room} {s : State} {m : MethodId} {args : Array Value} {below : List Frame} {meth : Method} {c : Code} {own : String} {Z : State} {a0 : Array Value} {EL : List (String × Nat)} {vm0 : Vm} {T : State} {h : Heap} {k n : Nat} {G : Outcome → State → Prop} {pc : Nat} {Ls : Array Slot} {rest : List Value}
/-- System.arraycopy between two byte arrays -/
theorem OSt.cpB (X : OSt p l e R s m args below meth c own Z EL vm0 T h k n) {index : Nat} (w1 : (Cond.methodLink own index Jvm.Stand.acN).before a0 Z = true) (w2 : (Cond.native Jvm.Stand.acN).before a0 Z = true) (w3 : (Cond.static Jvm.Stand.acN).before a0 Z = true) (w4 : (Cond.initialized "java/lang/System").before a0 Z = true)
    {a b : Addr} {ka kb : ClassId} {z z' sp dp nn : Int32} {vs vd us : List Value} {dv dd : Value} (A : Arv Z h a ka .byte z vs dv) (B : Arv Z h b kb .byte z' vd dd) (h1 : ¬ sp < 0) (h2 : ¬ dp < 0) (h3 : ¬ nn < 0) (h4 : sp.toNatClampNeg + nn.toNatClampNeg ≤ z.toNatClampNeg) (h5 : dp.toNatClampNeg + nn.toNatClampNeg ≤ z'.toNatClampNeg)
    (hus : us = (List.range nn.toNatClampNeg).map fun i => vs.getD (sp.toNatClampNeg + i) dv) (hl : dp.toNatClampNeg + nn.toNatClampNeg ≤ vd.length) (hSf : Safe Z EL vm0 h b) (ge : Z.heap.size ≤ b) (hsize : Ls.size = c.maxLocals) (hd : decode c.code pc = .ok (.invokestatic index, 3))
    (hf : 1 ≤ R.frames) {W : Nat} (hW : (rest.map fun v => v.category).sum ≤ W) (hlo : W + (nativeFrameWords "java/lang/System" "arraycopy" 5 + 11) ≤ R.locals)
    (q : ∀ T' h', OSt p l e R s m args below meth c own Z EL vm0 T' h' k n → Keep h h' [b] → Arv Z h' b kb .byte z' (vd.take dp.toNatClampNeg ++ us ++ vd.drop (dp.toNatClampNeg + nn.toNatClampNeg)) dd → OEnds p e below G T' (mkF m (pc + 3) Ls rest)) : OEnds p e below G T (mkF m pc Ls (.int nn :: .int dp :: .ref b :: .int sp :: .ref a :: rest)) := by
  obtain ⟨L, X, hF, hh, ⟨k0, hS0, hk0⟩, hZ, ho, hC, hO, hx⟩ := X
  obtain ⟨T', h', L', X', e', F', K, B', st⟩ := RoadKit.cpA X hx hZ ho w1 w2 w3 w4 hh A B (Or.inl ⟨rfl, rfl⟩) h1 h2 h3 h4 h5 hus hl hF ge (g := mkF m pc Ls (.int nn :: .int dp :: .ref b :: .int sp :: .ref a :: rest)) rfl hsize rfl hd hf (W := W) (by show 2 * 0 + _ ≤ _; rw [Nat.mul_zero, Nat.zero_add]; exact hW) hlo
  exact (q T' h' ⟨L', X', F', e', ⟨k0, hS0, Nat.le_trans hk0 K.1⟩, hZ, ho, hC.trans (CHr.keep K (fun x hx => by cases List.mem_singleton.mp hx; exact hSf) hC.1), ext_keep hO K (allS ge all0), hx⟩ K B').go st
end Copy
end Jvm.Own
namespace Jvm.Own
open Sem ClassFile Op Lib Bundle Jvm.Stand Jvm.Free Jvm.LawKit Jvm.RoadKit
theorem ofN {n : Nat} (h : n < 2147483648) : (Int32.ofNat n).toInt = n := Int32.toInt_ofNat_small h
theorem ofN_lt {a b : Nat} (ha : a < 2147483648) (hb : b < 2147483648) : Int32.ofNat a < Int32.ofNat b ↔ a < b := by
  rw [Int32.lt_iff_toInt_lt, ofN ha, ofN hb]; omega
theorem ofN_eq {a b : Nat} (ha : a < 2147483648) (hb : b < 2147483648) : Int32.ofNat a = Int32.ofNat b ↔ a = b := by
  rw [← Int32.toInt_inj, ofN ha, ofN hb]; omega
theorem ofN_neg {a : Nat} (ha : a < 2147483648) : ¬ Int32.ofNat a < 0 := by
  rw [Int32.lt_iff_toInt_lt, ofN ha]; have : (0 : Int32).toInt = 0 := rfl
  omega
theorem ofN_nat {a : Nat} (ha : a < 2147483648) : (Int32.ofNat a).toNatClampNeg = a := by
  rw [Int32.toNatClampNeg, ofN ha]; omega
theorem ofN_sub {a b : Nat} (ha : a < 2147483648) (h : b ≤ a) : Int32.ofNat a - Int32.ofNat b = Int32.ofNat (a - b) := by
  apply Int32.toInt_inj.mp
  have q := c_isub (Int32.ofNat a) (Int32.ofNat b)
  have r := rng32 (Int32.ofNat a - Int32.ofNat b)
  rw [ofN ha, ofN (by omega)] at q
  rw [ofN (by omega)]; omega
theorem ofN_add {a b : Nat} (h : a + b < 2147483648) : Int32.ofNat a + Int32.ofNat b = Int32.ofNat (a + b) := by
  apply Int32.toInt_inj.mp
  have q := c_iadd (Int32.ofNat a) (Int32.ofNat b)
  have r := rng32 (Int32.ofNat a + Int32.ofNat b)
  rw [ofN (by omega), ofN (by omega)] at q
  rw [ofN h]; omega
theorem ofN_of {x : Int32} (h : ¬ x < 0) : x = Int32.ofNat x.toNatClampNeg ∧ x.toNatClampNeg < 2147483648 := by
  have r := rng32 x
  have z : (0 : Int32).toInt = 0 := rfl
  rw [Int32.lt_iff_toInt_lt, z] at h
  have e : x.toNatClampNeg < 2147483648 := by rw [Int32.toNatClampNeg]; omega
  refine ⟨Int32.toInt_inj.mp ?_, e⟩
  rw [ofN e, Int32.toNatClampNeg]; omega
end Jvm.Own
/- laws to paste: Road.backV, Road.lenW, Road.chN, Road.codOf (cut by pick.py; bodies as the Statement names them) -/
namespace Jvm.Pilot.@@N@@
namespace StrChars
open Jvm Sem ClassFile Op Lib Jvm.Stand Jvm.Free.XT Jvm.Free.ALB Jvm.Free.JM Jvm.Free
open Jvm.Lib.Cold (StaticIs)
/-- a char array whose places are chars -/
def Ch (a : Addr) (A : Cell) (U : State) : Prop := Arr .char a A U ∧ Typed .char A
theorem Ch.mv {a : Addr} {A : Cell} {U U' : State} (h : Ch a A U) (hal : U.vm.Alike U'.vm) (hh : U'.heap = U.heap) : Ch a A U' := ⟨h.1.mv hal hh, h.2⟩
theorem Ch.keep {a : Addr} {A : Cell} {U U' : State} (h : Ch a A U) (hal : U.vm.Alike U'.vm) (hk : U'.heap[a]? = some A) : Ch a A U' := ⟨h.1.keep hal hk, h.2⟩
/-- what place i of a char[]'s cell holds -/
def cv (A : Cell) (i : Nat) : Int32 := match A.slots[i]? with | some (.int x) => x | _ => 0
theorem Ch.get {a : Addr} {A : Cell} {U : State} (h : Ch a A U) {i : Nat} (hi : i < A.slots.size) : A.slots[i]? = some (.int (cv A i)) := by
  have e := Array.getElem?_eq_getElem hi
  have f := h.2 i _ e
  unfold cv; rw [e]
  generalize A.slots[i] = v at f
  cases v <;> simp [fits] at f ⊢
/-- the byte that i2b leaves of a char -/
def lo8 (x : Int32) : Int32 := x.toInt8.toInt32
theorem fits_lo8 (y : Int32) : fits .byte (.int (lo8 y)) = true := by
  have h1 := y.toInt8.le_toInt
  have h2 := y.toInt8.toInt_lt
  simp only [lo8, fits, Bool.and_eq_true, decide_eq_true_eq, Int32.le_iff_toInt_le, Int8.toInt_toInt32, show (-128 : Int32).toInt = -128 from by decide, show (127 : Int32).toInt = 127 from by decide]
  omega
/-- A' is A but that each place j of lo .. hi - 1 holds f j -/
def Laid (A A' : Cell) (lo hi : Nat) (f : Nat → Value) : Prop := A'.cls = A.cls ∧ A'.vm = A.vm ∧ A'.slots.size = A.slots.size ∧ ∀ i, A'.slots[i]? = if lo ≤ i ∧ i < hi then some (f i) else A.slots[i]?
theorem Laid.zero (A : Cell) (lo : Nat) (f : Nat → Value) : Laid A A lo (lo + 0) f := ⟨rfl, rfl, rfl, fun i => by rw [if_neg (by omega)]⟩
theorem Laid.step {A Ak : Cell} {lo k : Nat} {f : Nat → Value} {v : Value} (h : Laid A Ak lo k f) (hlo : lo ≤ k) (hk : k < Ak.slots.size) (hv : v = f k) : Laid A (Ak.setSlot k v) lo (k + 1) f := by
  refine ⟨h.1, h.2.1, by simpa [Cell.setSlot] using h.2.2.1, fun i => ?_⟩
  by_cases e : k = i
  · subst e; rw [Cell.slots_setSlot_self v hk, if_pos (by omega), hv]
  · rw [Cell.slots_setSlot_ne v e, h.2.2.2 i]
    by_cases q : lo ≤ i ∧ i < k
    · rw [if_pos q, if_pos (by omega)]
    · rw [if_neg q, if_neg (by omega)]
def U16 : String := "java/lang/StringUTF16"
namespace Cmp5
def yN : MethodName := ⟨"java/lang/StringUTF16", "compress", "([CI[BII)I"⟩
abbrev yB : ByteArray := jdk_52_method_21_code
theorem d0 : decode yB 0 = .ok (.iconst 0, 1) := by decide +kernel
theorem d1 : decode yB 1 = .ok (.istore 5, 2) := by decide +kernel
theorem d3 : decode yB 3 = .ok (.iload 5, 2) := by decide +kernel
theorem d5 : decode yB 5 = .ok (.iload 4, 2) := by decide +kernel
theorem d7 : decode yB 7 = .ok (.if_icmp (.ge) 37, 3) := by decide +kernel
theorem d10 : decode yB 10 = .ok (.aload_n 0, 1) := by decide +kernel
theorem d11 : decode yB 11 = .ok (.iload_n 1, 1) := by decide +kernel
theorem d12 : decode yB 12 = .ok (.caload, 1) := by decide +kernel
theorem d13 : decode yB 13 = .ok (.istore 6, 2) := by decide +kernel
theorem d15 : decode yB 15 = .ok (.iload 6, 2) := by decide +kernel
theorem d17 : decode yB 17 = .ok (.sipush 255, 3) := by decide +kernel
theorem d20 : decode yB 20 = .ok (.if_icmp (.le) 6, 3) := by decide +kernel
theorem d26 : decode yB 26 = .ok (.aload_n 2, 1) := by decide +kernel
theorem d27 : decode yB 27 = .ok (.iload_n 3, 1) := by decide +kernel
theorem d28 : decode yB 28 = .ok (.iload 6, 2) := by decide +kernel
theorem d30 : decode yB 30 = .ok (.i2b, 1) := by decide +kernel
theorem d31 : decode yB 31 = .ok (.bastore, 1) := by decide +kernel
theorem d32 : decode yB 32 = .ok (.iinc 1 1, 3) := by decide +kernel
theorem d35 : decode yB 35 = .ok (.iinc 3 1, 3) := by decide +kernel
theorem d38 : decode yB 38 = .ok (.iinc 5 1, 3) := by decide +kernel
theorem d41 : decode yB 41 = .ok (.goto (-38), 3) := by decide +kernel
theorem d44 : decode yB 44 = .ok (.iload 4, 2) := by decide +kernel
theorem d46 : decode yB 46 = .ok (.ireturn, 1) := by decide +kernel
def site : List Cond := []
def tab : Cond := tabOf yN yB 7 (some .int) site
def P (b : Addr) (A : Cell) (d : Addr) (B : Cell) (o q len : Nat) (args : Array Value) (s : State) : Prop := args = #[.ref b, .int (Int32.ofNat o), .ref d, .int (Int32.ofNat q), .int (Int32.ofNat len)] ∧ Ch b A s ∧ Arr .byte d B s ∧ b ≠ d ∧ o + len ≤ A.slots.size ∧ q + len ≤ B.slots.size ∧ ∀ i, i < len → ¬ 255 < cv A (o + i)
def E (b : Addr) (A : Cell) (d : Addr) (B : Cell) (o q len : Nat) (r : Option Value) (s u : State) : Prop := r = some (.int (Int32.ofNat len)) ∧ ∃ B', Put d B' s u ∧ Laid B B' q (q + len) (fun j => Value.int (lo8 (cv A (o + (j - q)))))
/-- no char of the range above 255: len; the places written hold each char's low byte -/
theorem law (l : Launch) (b : Addr) (A : Cell) (d : Addr) (B : Cell) (o q len : Nat) : Law l yN 5 5 0 0 yB 7 (some .int) site (P b A d B o q len) (E b A d B o q len) (copyLocs d q len) 0 0 := by
  refine Law.of_walk (plainFor_of_name (by decide +kernel)) (by decide +kernel) (by decide +kernel) (by decide) (fun _ _ h => by rw [h.1]; rfl) (fun _ U U' hal hh h => ⟨h.1, h.2.1.mv hal hh, h.2.2.1.mv hal hh, h.2.2.2⟩) (fun r U U' V V' h1 hal h2 h => ⟨h.1, h.2.elim fun B' q => ⟨B', q.1.mv h1 h2, q.2⟩⟩) ?_
  intro p e s m args below meth c s₁ X0 hexec hbytes hml hret hlk hnm hown hh0 W hP
  obtain ⟨rfl, hA, hB, hne, l1, l2, hp⟩ := hP
  have c1 : Steps p.tables e below (s₁.setTop (entryFrame m #[.ref b, .int (Int32.ofNat o), .ref d, .int (Int32.ofNat q), .int (Int32.ofNat len)] 7)) (s₁.setTop (mkF m 0 #[.val (.ref b), .val (.int (Int32.ofNat o)), .val (.ref d), .val (.int (Int32.ofNat q)), .val (.int (Int32.ofNat len)), .unset, .unset] [])) := entry rfl
  have hA0 := hA.1.mv X0.warmed.alike hh0
  have hB0 := hB.mv X0.warmed.alike hh0
  have a31 := hA.1.2.2.2
  have c2 : Steps p.tables e below (s₁.setTop (entryFrame m #[.ref b, .int (Int32.ofNat o), .ref d, .int (Int32.ofNat q), .int (Int32.ofNat len)] 7)) (s₁.setTop (mkF m 3 #[.val (.ref b), .val (.int (Int32.ofNat o)), .val (.ref d), .val (.int (Int32.ofNat q)), .val (.int (Int32.ofNat len)), .val (.int 0), .unset] [])) := c1.trans (by
    refine iconstV X0.here hexec rfl 0 (hb hbytes d0) (by decide) ?_
    refine XS.istore X0.here hexec rfl (hb hbytes d1) rfl rfl ?_
    exact Steps.refl _)
  have loop : ∀ (r i : Nat), i + r = len → ∀ (z : Slot), (z = .unset ∨ ∃ w, z = .val w ∧ w.category = 1) → ∀ (Tl : State) (Bk : Cell), Stand p l e { frames := 0, locals := 0, cells := 0, slots := 0 } s m #[.ref b, .int (Int32.ofNat o), .ref d, .int (Int32.ofNat q), .int (Int32.ofNat len)] below meth c Tl ([] ++ copyLocs d q i) 0 0 → Put d Bk s₁ Tl → Laid B Bk q (q + i) (fun j => Value.int (lo8 (cv A (o + (j - q))))) →
      Steps p.tables e below (s₁.setTop (entryFrame m #[.ref b, .int (Int32.ofNat o), .ref d, .int (Int32.ofNat q), .int (Int32.ofNat len)] 7)) (Tl.setTop (mkF m 3 #[.val (.ref b), .val (.int (Int32.ofNat (o + i))), .val (.ref d), .val (.int (Int32.ofNat (q + i))), .val (.int (Int32.ofNat len)), .val (.int (Int32.ofNat i)), z] [])) → ∃ (T' : State) (B' : Cell) (z' : Slot), Stand p l e { frames := 0, locals := 0, cells := 0, slots := 0 } s m #[.ref b, .int (Int32.ofNat o), .ref d, .int (Int32.ofNat q), .int (Int32.ofNat len)] below meth c T' ([] ++ copyLocs d q len) 0 0 ∧ Put d B' s₁ T' ∧ Laid B B' q (q + len) (fun j => Value.int (lo8 (cv A (o + (j - q))))) ∧
      Steps p.tables e below (s₁.setTop (entryFrame m #[.ref b, .int (Int32.ofNat o), .ref d, .int (Int32.ofNat q), .int (Int32.ofNat len)] 7)) (T'.setTop (mkF m 3 #[.val (.ref b), .val (.int (Int32.ofNat (o + len))), .val (.ref d), .val (.int (Int32.ofNat (q + len))), .val (.int (Int32.ofNat len)), .val (.int (Int32.ofNat len)), z'] [])) := by
    intro r
    induction r with
    | zero =>
      intro i hi z hz Tl Bk Xl pl fl cl
      have hil : i = len := by omega
      rw [hil] at Xl fl cl
      exact ⟨Tl, Bk, z, Xl, pl, fl, cl⟩
    | succ r ih =>
      intro i hi z hz Tl Bk Xl pl fl cl
      have all := X0.warmed.alike.symm.trans Xl.warmed.alike
      have hAl := hA0.keep all (pl.other hne hA0.1)
      have hBk := hB0.like all pl.1 fl.1 fl.2.1 fl.2.2.1
      have hlt : q + i < Bk.slots.size := by rw [fl.2.2.1]; omega
      have c3 : Steps p.tables e below (s₁.setTop (entryFrame m #[.ref b, .int (Int32.ofNat o), .ref d, .int (Int32.ofNat q), .int (Int32.ofNat len)] 7)) (Tl.setTop (mkF m 12 #[.val (.ref b), .val (.int (Int32.ofNat (o + i))), .val (.ref d), .val (.int (Int32.ofNat (q + i))), .val (.int (Int32.ofNat len)), .val (.int (Int32.ofNat i)), z] [.int (Int32.ofNat (o + i)), .ref b])) := cl.trans (by
        refine XS.iload Xl.here hexec rfl (hb hbytes d3) rfl ?_
        refine XS.iload Xl.here hexec rfl (hb hbytes d5) rfl ?_
        refine XS.icmpNo Xl.here hexec rfl (hb hbytes d7) rfl (ii_ge_f (lt32 (by omega) (by omega))) ?_
        refine XS.aloadN Xl.here hexec rfl (hb hbytes d10) rfl rfl ?_
        refine XS.iloadN Xl.here hexec rfl (hb hbytes d11) rfl ?_
        exact Steps.refl _)
      have c4 : Steps p.tables e below (s₁.setTop (entryFrame m #[.ref b, .int (Int32.ofNat o), .ref d, .int (Int32.ofNat q), .int (Int32.ofNat len)] 7)) (Tl.setTop (mkF m 13 #[.val (.ref b), .val (.int (Int32.ofNat (o + i))), .val (.ref d), .val (.int (Int32.ofNat (q + i))), .val (.int (Int32.ofNat len)), .val (.int (Int32.ofNat i)), z] [.int (cv A (o + i))])) := c3.trans (by
        refine Xl.aget hexec hAl rfl (hA.get (i := o + i) (by omega)) rfl rfl (hb hbytes d12) ?_
        exact Steps.refl _)
      have c5 : Steps p.tables e below (s₁.setTop (entryFrame m #[.ref b, .int (Int32.ofNat o), .ref d, .int (Int32.ofNat q), .int (Int32.ofNat len)] 7)) (Tl.setTop (mkF m 15 #[.val (.ref b), .val (.int (Int32.ofNat (o + i))), .val (.ref d), .val (.int (Int32.ofNat (q + i))), .val (.int (Int32.ofNat len)), .val (.int (Int32.ofNat i)), .val (.int (cv A (o + i)))] [])) := c4.trans (by
        refine XS.istoreS Xl.here hexec rfl (hb hbytes d13) rfl rfl hz ?_
        exact Steps.refl _)
      have c6 : Steps p.tables e below (s₁.setTop (entryFrame m #[.ref b, .int (Int32.ofNat o), .ref d, .int (Int32.ofNat q), .int (Int32.ofNat len)] 7)) (Tl.setTop (mkF m 31 #[.val (.ref b), .val (.int (Int32.ofNat (o + i))), .val (.ref d), .val (.int (Int32.ofNat (q + i))), .val (.int (Int32.ofNat len)), .val (.int (Int32.ofNat i)), .val (.int (cv A (o + i)))] [.int (lo8 (cv A (o + i))), .int (Int32.ofNat (q + i)), .ref d])) := c5.trans (by
        refine XS.iload Xl.here hexec rfl (hb hbytes d15) rfl ?_
        refine sipushV Xl.here hexec rfl 255 (hb hbytes d17) (by decide) ?_
        refine XS.icmpYes Xl.here hexec rfl (pc0 := 20) rfl (hb hbytes d20) rfl (ii_le_t (hp i (by omega))) (by decide) rfl ?_
        refine XS.aloadN Xl.here hexec rfl (hb hbytes d26) rfl rfl ?_
        refine XS.iloadN Xl.here hexec rfl (hb hbytes d27) rfl ?_
        refine XS.iload Xl.here hexec rfl (hb hbytes d28) rfl ?_
        refine i2b Xl.here hexec rfl (hb hbytes d30) rfl ?_
        exact Steps.refl _)
      obtain ⟨T7, X7, p7, st7⟩ := Xl.aput hexec hBk rfl hlt rfl (fits_lo8 (cv A (o + i))) (g := (mkF m 31 #[.val (.ref b), .val (.int (Int32.ofNat (o + i))), .val (.ref d), .val (.int (Int32.ofNat (q + i))), .val (.int (Int32.ofNat len)), .val (.int (Int32.ofNat i)), .val (.int (cv A (o + i)))] [.int (lo8 (cv A (o + i))), .int (Int32.ofNat (q + i)), .ref d])) rfl (rest := []) rfl (hb hbytes d31)
      have c8 : Steps p.tables e below (s₁.setTop (entryFrame m #[.ref b, .int (Int32.ofNat o), .ref d, .int (Int32.ofNat q), .int (Int32.ofNat len)] 7)) (T7.setTop (mkF m 32 #[.val (.ref b), .val (.int (Int32.ofNat (o + i))), .val (.ref d), .val (.int (Int32.ofNat (q + i))), .val (.int (Int32.ofNat len)), .val (.int (Int32.ofNat i)), .val (.int (cv A (o + i)))] [])) := c6.trans (st7 _ (Steps.refl _))
      have c9 : Steps p.tables e below (s₁.setTop (entryFrame m #[.ref b, .int (Int32.ofNat o), .ref d, .int (Int32.ofNat q), .int (Int32.ofNat len)] 7)) (T7.setTop (mkF m 3 #[.val (.ref b), .val (.int (Int32.ofNat (o + i) + 1)), .val (.ref d), .val (.int (Int32.ofNat (q + i) + 1)), .val (.int (Int32.ofNat len)), .val (.int (Int32.ofNat i + 1)), .val (.int (cv A (o + i)))] [])) := c8.trans (by
        refine iincV X7.here hexec rfl 1 (hb hbytes d32) (by decide) rfl rfl ?_
        refine iincV X7.here hexec rfl 1 (hb hbytes d35) (by decide) rfl rfl ?_
        refine iincV X7.here hexec rfl 1 (hb hbytes d38) (by decide) rfl rfl ?_
        refine XS.goto X7.here hexec rfl (pc0 := 41) rfl (hb hbytes d41) (by decide) rfl ?_
        exact Steps.refl _)
      have c10 : Steps p.tables e below (s₁.setTop (entryFrame m #[.ref b, .int (Int32.ofNat o), .ref d, .int (Int32.ofNat q), .int (Int32.ofNat len)] 7)) (T7.setTop (mkF m 3 #[.val (.ref b), .val (.int (Int32.ofNat (o + (i + 1)))), .val (.ref d), .val (.int (Int32.ofNat (q + (i + 1)))), .val (.int (Int32.ofNat len)), .val (.int (Int32.ofNat (i + 1))), .val (.int (cv A (o + i)))] [])) := by
        have := c9
        rw [succ32, succ32, succ32] at this
        exact this
      exact ih (i + 1) (by omega) _ (Or.inr ⟨_, rfl, rfl⟩) T7 _ (by rw [copyLocs_step, ← List.append_assoc]; exact X7) (pl.trans p7) (fl.step (by omega) hlt (by simp)) c10
  obtain ⟨T9, B9, z9, X9, p9, f9, g9⟩ := loop len 0 (by omega) .unset (Or.inl rfl) s₁ B (by simpa [copyLocs] using X0) ⟨hB0.1, fun _ _ => rfl, rfl⟩ (Laid.zero _ _ _) c2
  have c11 : Steps p.tables e below (s₁.setTop (entryFrame m #[.ref b, .int (Int32.ofNat o), .ref d, .int (Int32.ofNat q), .int (Int32.ofNat len)] 7)) (T9.setTop (mkF m 46 #[.val (.ref b), .val (.int (Int32.ofNat (o + len))), .val (.ref d), .val (.int (Int32.ofNat (q + len))), .val (.int (Int32.ofNat len)), .val (.int (Int32.ofNat len)), z9] [.int (Int32.ofNat len)])) := g9.trans (by
    refine XS.iload X9.here hexec rfl (hb hbytes d3) rfl ?_
    refine XS.iload X9.here hexec rfl (hb hbytes d5) rfl ?_
    refine XS.icmpYes X9.here hexec rfl (pc0 := 7) rfl (hb hbytes d7) rfl (ii_ge_t (nlt32 (by omega) (Nat.le_refl _))) (by decide) rfl ?_
    refine XS.iload X9.here hexec rfl (hb hbytes d44) rfl ?_
    exact Steps.refl _)
  exact ⟨T9, some (.int (Int32.ofNat len)), _, _, _, X9, by simp, rfl, rfl, (fun h => by cases h), ⟨rfl, B9, p9.from hh0, f9⟩, fun fs hl => c11.trans (X9.ireturnOut hexec hret rfl (Or.inl rfl) (hb hbytes d46) hl)⟩
end Cmp5
namespace Cmp3
def yN : MethodName := ⟨"java/lang/StringUTF16", "compress", "([CII)[B"⟩
abbrev yB : ByteArray := jdk_52_method_16_code
theorem d0 : decode yB 0 = .ok (.iload_n 2, 1) := by decide +kernel
theorem d1 : decode yB 1 = .ok (.newarray .byte, 2) := by decide +kernel
theorem d3 : decode yB 3 = .ok (.astore_n 3, 1) := by decide +kernel
theorem d4 : decode yB 4 = .ok (.aload_n 0, 1) := by decide +kernel
theorem d5 : decode yB 5 = .ok (.iload_n 1, 1) := by decide +kernel
theorem d6 : decode yB 6 = .ok (.aload_n 3, 1) := by decide +kernel
theorem d7 : decode yB 7 = .ok (.iconst 0, 1) := by decide +kernel
theorem d8 : decode yB 8 = .ok (.iload_n 2, 1) := by decide +kernel
theorem d9 : decode yB 9 = .ok (.invokestatic 115, 3) := by decide +kernel
theorem d12 : decode yB 12 = .ok (.istore 4, 2) := by decide +kernel
theorem d14 : decode yB 14 = .ok (.iload 4, 2) := by decide +kernel
theorem d16 : decode yB 16 = .ok (.iload_n 2, 1) := by decide +kernel
theorem d17 : decode yB 17 = .ok (.if_icmp (.eq) 40, 3) := by decide +kernel
theorem d57 : decode yB 57 = .ok (.aload_n 3, 1) := by decide +kernel
theorem d58 : decode yB 58 = .ok (.areturn, 1) := by decide +kernel
def site : List Cond := [.arrayClass .byte, Cmp5.tab] ++ staticW U16 115 Cmp5.yN
def tab : Cond := tabOf yN yB 6 (some (.array .byte)) site
def P (b : Addr) (A : Cell) (o len : Nat) (args : Array Value) (s : State) : Prop := args = #[.ref b, .int (Int32.ofNat o), .int (Int32.ofNat len)] ∧ Ch b A s ∧ o + len ≤ A.slots.size ∧ len ≤ 536870912 ∧ ∀ i, i < len → ¬ 255 < cv A (o + i)
def E (b : Addr) (A : Cell) (o len : Nat) (r : Option Value) (s u : State) : Prop := NewArr .byte "[B" len (fun j => .int (lo8 (cv A (o + j)))) r s u ∧ u.heap.size = s.heap.size + 1
/-- no char of the range above 255: a new byte[] of their low bytes -/
theorem law (l : Launch) (b : Addr) (A : Cell) (o len : Nat) : Law l yN 3 3 1 18 yB 6 (some (.array .byte)) site (P b A o len) (E b A o len) [] 1 len := by
  refine Law.of_walk (plainFor_of_name (by decide +kernel)) (by decide +kernel) (by decide +kernel) (by decide) (fun _ _ h => by rw [h.1]; rfl) (fun _ U U' hal hh h => ⟨h.1, h.2.1.mv hal hh, h.2.2⟩) (fun r U U' V V' h1 hal h2 h => ⟨NewArr.mv r U U' V V' h1 hal h2 h.1, by rw [h1, h2]; exact h.2⟩) ?_
  intro p e s m args below meth c s₁ X0 hexec hbytes hml hret hlk hnm hown hh0 W hP
  obtain ⟨rfl, hA, l1, l2, hp⟩ := hP
  have a31 := hA.1.2.2.2
  have c1 : Steps p.tables e below (s₁.setTop (entryFrame m #[.ref b, .int (Int32.ofNat o), .int (Int32.ofNat len)] 6)) (s₁.setTop (mkF m 0 #[.val (.ref b), .val (.int (Int32.ofNat o)), .val (.int (Int32.ofNat len)), .unset, .unset, .unset] [])) := entry rfl
  have c2 : Steps p.tables e below (s₁.setTop (entryFrame m #[.ref b, .int (Int32.ofNat o), .int (Int32.ofNat len)] 6)) (s₁.setTop (mkF m 1 #[.val (.ref b), .val (.int (Int32.ofNat o)), .val (.int (Int32.ofNat len)), .unset, .unset, .unset] [.int (Int32.ofNat len)])) := c1.trans (by
    refine XS.iloadN X0.here hexec rfl (hb hbytes d0) rfl ?_
    exact Steps.refl _)
  obtain ⟨T3, B3, X3, ba3, bs3, bv3, bh3, bf3, st3⟩ := X0.anew hexec (atype := .byte) (wk W (.arrayClass .byte)) rfl (by show len * 1 ≤ _; omega) (by omega) (g := (mkF m 1 #[.val (.ref b), .val (.int (Int32.ofNat o)), .val (.int (Int32.ofNat len)), .unset, .unset, .unset] [.int (Int32.ofNat len)])) rfl (hb hbytes d1) (rest := []) rfl (Nat.le_refl _) (by show 0 + len ≤ len; omega)
  rw [hh0] at ba3 st3
  have kp3 : XT.Kept s T3 := (XT.Kept.of_eq hh0).push bh3
  have hA3 := hA.keep X3.warmed.alike (kp3 _ _ hA.1.1)
  have hne : b ≠ s.heap.size := hA.1.ne
  have c4 : Steps p.tables e below (s₁.setTop (entryFrame m #[.ref b, .int (Int32.ofNat o), .int (Int32.ofNat len)] 6)) (T3.setTop (mkF m 3 #[.val (.ref b), .val (.int (Int32.ofNat o)), .val (.int (Int32.ofNat len)), .unset, .unset, .unset] [.ref s.heap.size])) := c2.trans (st3 _ (Steps.refl _))
  have c5 : Steps p.tables e below (s₁.setTop (entryFrame m #[.ref b, .int (Int32.ofNat o), .int (Int32.ofNat len)] 6)) (T3.setTop (mkF m 9 #[.val (.ref b), .val (.int (Int32.ofNat o)), .val (.int (Int32.ofNat len)), .val (.ref s.heap.size), .unset, .unset] [.int (Int32.ofNat len), .int 0, .ref s.heap.size, .int (Int32.ofNat o), .ref b])) := c4.trans (by
    refine XS.astoreN X3.here hexec rfl (hb hbytes d3) rfl rfl rfl ?_
    refine XS.aloadN X3.here hexec rfl (hb hbytes d4) rfl rfl ?_
    refine XS.iloadN X3.here hexec rfl (hb hbytes d5) rfl ?_
    refine XS.aloadN X3.here hexec rfl (hb hbytes d6) rfl rfl ?_
    refine iconstV X3.here hexec rfl 0 (hb hbytes d7) (by decide) ?_
    refine XS.iloadN X3.here hexec rfl (hb hbytes d8) rfl ?_
    exact Steps.refl _)
  obtain ⟨v6, T6, X6, E6, g6⟩ := X3.callS hexec (Cmp5.law l b A s.heap.size B3 o 0 len) hown (wks W (staticW U16 115 Cmp5.yN)) (wk W Cmp5.tab) (W := 0) (Nat.le_of_ble_eq_true rfl) (Nat.le_of_ble_eq_true rfl) (Nat.le_refl _) (by show 0 + len + 0 ≤ len; omega) (g := (mkF m 9 #[.val (.ref b), .val (.int (Int32.ofNat o)), .val (.int (Int32.ofNat len)), .val (.ref s.heap.size), .unset, .unset] [.int (Int32.ofNat len), .int (Int32.ofNat 0), .ref s.heap.size, .int (Int32.ofNat o), .ref b])) rfl (by rw [hml]; rfl) c5 (argsL := [.ref b, .int (Int32.ofNat o), .ref s.heap.size, .int (Int32.ofNat 0), .int (Int32.ofNat len)]) (rest := []) rfl rfl (by show 2 * 0 + 0 ≤ _; decide) (hb hbytes d9) (⟨rfl, hA3, ba3, hne, l1, by rw [bs3]; simp, hp⟩)
  obtain ⟨rfl, B6, p6, f6⟩ := E6
  have c7 : Steps p.tables e below (s₁.setTop (entryFrame m #[.ref b, .int (Int32.ofNat o), .int (Int32.ofNat len)] 6)) (T6.setTop (mkF m 12 #[.val (.ref b), .val (.int (Int32.ofNat o)), .val (.int (Int32.ofNat len)), .val (.ref s.heap.size), .unset, .unset] [.int (Int32.ofNat len)])) := g6
  have c8 : Steps p.tables e below (s₁.setTop (entryFrame m #[.ref b, .int (Int32.ofNat o), .int (Int32.ofNat len)] 6)) (T6.setTop (mkF m 58 #[.val (.ref b), .val (.int (Int32.ofNat o)), .val (.int (Int32.ofNat len)), .val (.ref s.heap.size), .val (.int (Int32.ofNat len)), .unset] [.ref s.heap.size])) := c7.trans (by
    refine XS.istore X6.here hexec rfl (hb hbytes d12) rfl rfl ?_
    refine XS.iload X6.here hexec rfl (hb hbytes d14) rfl ?_
    refine XS.iloadN X6.here hexec rfl (hb hbytes d16) rfl ?_
    refine XS.icmpYes X6.here hexec rfl (pc0 := 17) rfl (hb hbytes d17) rfl (ii_eq_t rfl) (by decide) rfl ?_
    refine XS.aloadN X6.here hexec rfl (hb hbytes d57) rfl rfl ?_
    exact Steps.refl _)
  have X8 := X6.wide (L' := []) (cells' := 1) (slots' := len) (fun x hx hlt => by
    simp only [List.nil_append, copyLocs, List.mem_map, List.mem_range] at hx
    obtain ⟨i, -, rfl⟩ := hx
    exact absurd hlt (Nat.lt_irrefl _)) (Nat.le_refl _) (by omega)
  exact ⟨T6, some (.ref s.heap.size), _, _, _, X8, rfl, rfl, rfl, (fun h => by cases h), ⟨⟨rfl, B6, ba3.like (X3.warmed.alike.symm.trans X6.warmed.alike) p6.1 f6.1 f6.2.1 f6.2.2.1, f6.2.1.trans bv3, by rw [X6.warmed.alike.findClass, f6.1]; exact bf3, by rw [f6.2.2.1, bs3]; simp, fun j hj => by rw [f6.2.2.2 j, if_pos (by omega)]; rfl, kp3.put p6 (Nat.le_refl _)⟩, by rw [p6.2.2, bh3, hh0]; simp⟩, fun fs hl => c8.trans (X8.areturnOut hexec rfl hret rfl (hb hbytes d58) hl)⟩
end Cmp3
namespace CodL
def yN : MethodName := ⟨"java/lang/StringUTF16", "coderFromArrayLen", "([BI)B"⟩
abbrev yB : ByteArray := jdk_52_method_15_code
theorem d0 : decode yB 0 = .ok (.iload_n 1, 1) := by decide +kernel
theorem d1 : decode yB 1 = .ok (.aload_n 0, 1) := by decide +kernel
theorem d2 : decode yB 2 = .ok (.arraylength, 1) := by decide +kernel
theorem d3 : decode yB 3 = .ok (.isub, 1) := by decide +kernel
theorem d4 : decode yB 4 = .ok (.bipush 31, 2) := by decide +kernel
theorem d6 : decode yB 6 = .ok (.iushr, 1) := by decide +kernel
theorem d7 : decode yB 7 = .ok (.i2b, 1) := by decide +kernel
theorem d8 : decode yB 8 = .ok (.ireturn, 1) := by decide +kernel
def site : List Cond := []
def tab : Cond := tabOf yN yB 2 (some .byte) site
def P (d : Addr) (B : Cell) (args : Array Value) (s : State) : Prop := args = #[.ref d, .int (Int32.ofNat B.slots.size)] ∧ Arr .byte d B s
def E (r : Option Value) (s u : State) : Prop := XT.PureE (some (.int 0)) r s u
/-- an array as long as the number of chars: LATIN1 -/
theorem law (l : Launch) (d : Addr) (B : Cell) : Law l yN 2 2 0 0 yB 2 (some .byte) site (P d B) E [] 0 0 := by
  refine Law.of_walk (plainFor_of_name (by decide +kernel)) (by decide +kernel) (by decide +kernel) (by decide) (fun _ _ h => by rw [h.1]; rfl) (fun _ U U' hal hh h => ⟨h.1, h.2.mv hal hh⟩) (fun r U U' V V' h1 hal h2 h => XT.PureE.mv r U U' V V' h1 hal h2 h) ?_
  intro p e s m args below meth c s₁ X0 hexec hbytes hml hret hlk hnm hown hh0 W hP
  obtain ⟨rfl, hB⟩ := hP
  have hB0 := hB.mv X0.warmed.alike hh0
  have c1 : Steps p.tables e below (s₁.setTop (entryFrame m #[.ref d, .int (Int32.ofNat B.slots.size)] 2)) (s₁.setTop (mkF m 0 #[.val (.ref d), .val (.int (Int32.ofNat B.slots.size))] [])) := entry rfl
  have c2 : Steps p.tables e below (s₁.setTop (entryFrame m #[.ref d, .int (Int32.ofNat B.slots.size)] 2)) (s₁.setTop (mkF m 2 #[.val (.ref d), .val (.int (Int32.ofNat B.slots.size))] [.ref d, .int (Int32.ofNat B.slots.size)])) := c1.trans (by
    refine XS.iloadN X0.here hexec rfl (hb hbytes d0) rfl ?_
    refine XS.aloadN X0.here hexec rfl (hb hbytes d1) rfl rfl ?_
    exact Steps.refl _)
  have c3 : Steps p.tables e below (s₁.setTop (entryFrame m #[.ref d, .int (Int32.ofNat B.slots.size)] 2)) (s₁.setTop (mkF m 8 #[.val (.ref d), .val (.int (Int32.ofNat B.slots.size))] [.int (lo8 (ushr (Int32.ofNat B.slots.size - Int32.ofNat B.slots.size) 31))])) := c2.trans (by
    refine X0.alen hexec hB0 rfl rfl (hb hbytes d2) ?_
    refine XS.isub X0.here hexec rfl (hb hbytes d3) rfl ?_
    refine bipushV X0.here hexec rfl 31 (hb hbytes d4) (by decide) ?_
    refine iushr X0.here hexec rfl (hb hbytes d6) rfl ?_
    refine i2b X0.here hexec rfl (hb hbytes d7) rfl ?_
    exact Steps.refl _)
  have e0 : lo8 (ushr (Int32.ofNat B.slots.size - Int32.ofNat B.slots.size) 31) = 0 := by rw [Int32.sub_self]; decide
  rw [e0] at c3
  exact ⟨s₁, some (.int 0), _, _, _, X0, rfl, rfl, rfl, (fun h => by cases h), ⟨rfl, hh0⟩, fun fs hl => c3.trans (X0.ireturnOut hexec hret rfl (Or.inr (Or.inr (Or.inl rfl))) (hb hbytes d8) hl)⟩
end CodL
/-- the String at a is Latin-1 over a new byte[] (the heap's one new cell): the low bytes of the len chars of A from o on; every cell but a is kept -/
def Got (a : Addr) (D : Cell) (fV fC : Field) (A : Cell) (o len : Nat) (r : Option Value) (s u : State) : Prop := r = none ∧ ∃ D' V : Cell, Blank "java/lang/String" a D' u ∧ Same D D' [fV.slot, fC.slot] ∧ D'.slots[fV.slot]? = some (.ref s.heap.size) ∧ D'.slots[fC.slot]? = some (.int 0) ∧ Arr .byte s.heap.size V u ∧ V.vm = .none ∧ u.vm.findClass "[B" = some V.cls ∧ V.slots.size = len ∧ (∀ j, j < len → V.slots[j]? = some (.int (lo8 (cv A (o + j))))) ∧ (∀ (y : Addr) (c : Cell), y ≠ a → s.heap[y]? = some c → u.heap[y]? = some c) ∧ u.heap.size = s.heap.size + 1
theorem Got.mv {a : Addr} {D A : Cell} {fV fC : Field} {o len : Nat} : ∀ r (U U' V V' : State), U'.heap = U.heap → V.vm.Alike V'.vm → V'.heap = V.heap → Got a D fV fC A o len r U V → Got a D fV fC A o len r U' V' :=
  fun r U U' V V' h1 hal h2 ⟨e0, D', X, a1, a2, a3, a4, a5, a6, a7, a8, a9, a10, a11⟩ => ⟨e0, D', X, a1.mv hal h2, a2, by rw [h1]; exact a3, a4, by rw [h1]; exact a5.mv hal h2, a6, by rw [hal.findClass]; exact a7, a8, a9, by rw [h1, h2]; exact a10, by rw [h1, h2]; exact a11⟩
namespace New4
def yN : MethodName := ⟨"java/lang/String", "<init>", "([CIILjava/lang/Void;)V"⟩
abbrev yB : ByteArray := jdk_42_method_149_code
theorem d0 : decode yB 0 = .ok (.aload_n 0, 1) := by decide +kernel
theorem d1 : decode yB 1 = .ok (.invokespecial 1, 3) := by decide +kernel
theorem d4 : decode yB 4 = .ok (.iload_n 3, 1) := by decide +kernel
theorem d5 : decode yB 5 = .ok (.ifCond (.ne) 22, 3) := by decide +kernel
theorem d27 : decode yB 27 = .ok (.getstatic 38, 3) := by decide +kernel
theorem d30 : decode yB 30 = .ok (.ifCond (.eq) 28, 3) := by decide +kernel
theorem d33 : decode yB 33 = .ok (.aload_n 1, 1) := by decide +kernel
theorem d34 : decode yB 34 = .ok (.iload_n 2, 1) := by decide +kernel
theorem d35 : decode yB 35 = .ok (.iload_n 3, 1) := by decide +kernel
theorem d36 : decode yB 36 = .ok (.invokestatic 177, 3) := by decide +kernel
theorem d39 : decode yB 39 = .ok (.astore 5, 2) := by decide +kernel
theorem d41 : decode yB 41 = .ok (.aload_n 0, 1) := by decide +kernel
theorem d42 : decode yB 42 = .ok (.aload 5, 2) := by decide +kernel
theorem d44 : decode yB 44 = .ok (.iload_n 3, 1) := by decide +kernel
theorem d45 : decode yB 45 = .ok (.invokestatic 47, 3) := by decide +kernel
theorem d48 : decode yB 48 = .ok (.putfield 15, 3) := by decide +kernel
theorem d51 : decode yB 51 = .ok (.aload_n 0, 1) := by decide +kernel
theorem d52 : decode yB 52 = .ok (.aload 5, 2) := by decide +kernel
theorem d54 : decode yB 54 = .ok (.putfield 9, 3) := by decide +kernel
theorem d57 : decode yB 57 = .ok (.return_, 1) := by decide +kernel
def site : List Cond := [.fieldLink "java/lang/String" 38 "java/lang/String" "COMPACT_STRINGS" "Z", Cmp3.tab, CodL.tab, .laysFinal "java/lang/String" "java/lang/String" "value" "[B", .fieldLink "java/lang/String" 9 "java/lang/String" "value" "[B", .laysFinal "java/lang/String" "java/lang/String" "coder" "B", .fieldLink "java/lang/String" 15 "java/lang/String" "coder" "B"] ++ objW "java/lang/String" 1 ++ staticW "java/lang/String" 177 Cmp3.yN ++ staticW "java/lang/String" 47 CodL.yN
def tab : Cond := tabOf yN yB 6 none site
def P (a : Addr) (D : Cell) (fV fC : Field) (b : Addr) (A : Cell) (z : Int32) (o len : Nat) (args : Array Value) (s : State) : Prop := args = #[.ref a, .ref b, .int (Int32.ofNat o), .int (Int32.ofNat len), .null] ∧ Blank "java/lang/String" a D s ∧ Found "java/lang/String" "value" "[B" fV s ∧ Found "java/lang/String" "coder" "B" fC s ∧ Ch b A s ∧ StaticIs s "java/lang/String" "COMPACT_STRINGS" "Z" (.int z) ∧ ¬ z = 0 ∧ 0 < len ∧ o + len ≤ A.slots.size ∧ len ≤ 536870912 ∧ ∀ i, i < len → ¬ 255 < cv A (o + i)
def E (a : Addr) (D : Cell) (fV fC : Field) (A : Cell) (o len : Nat) (r : Option Value) (s u : State) : Prop := Got a D fV fC A o len r s u
/-- len > 0, no char of the range above 255: a Latin-1 String of their low bytes -/
theorem law (l : Launch) (a : Addr) (D : Cell) (fV fC : Field) (b : Addr) (A : Cell) (z : Int32) (o len : Nat) : Law l yN 5 4 2 35 yB 6 none site (P a D fV fC b A z o len) (E a D fV fC A o len) [⟨a, fC.slot⟩, ⟨a, fV.slot⟩] 1 len := by
  refine Law.of_walk (plainFor_of_name (by decide +kernel)) (by decide +kernel) (by decide +kernel) (by decide) (fun _ _ h => by rw [h.1]; rfl) (fun _ U U' hal hh h => ⟨h.1, h.2.1.mv hal hh, h.2.2.1.al hal, h.2.2.2.1.al hal, h.2.2.2.2.1.mv hal hh, h.2.2.2.2.2.1.there hal hh, h.2.2.2.2.2.2⟩) (fun r U U' V V' h1 hal h2 h => Got.mv r U U' V V' h1 hal h2 h) ?_
  intro p e s m args below meth c s₁ X0 hexec hbytes hml hret hlk hnm hown hh0 W hP
  obtain ⟨rfl, hB, f1, f2, hA, s1, hz, l0, l1, l2, hp⟩ := hP
  have a31 := hA.1.2.2.2
  have c1 : Steps p.tables e below (s₁.setTop (entryFrame m #[.ref a, .ref b, .int (Int32.ofNat o), .int (Int32.ofNat len), .null] 6)) (s₁.setTop (mkF m 0 #[.val (.ref a), .val (.ref b), .val (.int (Int32.ofNat o)), .val (.int (Int32.ofNat len)), .val .null, .unset] [])) := entry rfl
  have c2 : Steps p.tables e below (s₁.setTop (entryFrame m #[.ref a, .ref b, .int (Int32.ofNat o), .int (Int32.ofNat len), .null] 6)) (s₁.setTop (mkF m 1 #[.val (.ref a), .val (.ref b), .val (.int (Int32.ofNat o)), .val (.int (Int32.ofNat len)), .val .null, .unset] [.ref a])) := c1.trans (by
    refine XS.aloadN X0.here hexec rfl (hb hbytes d0) rfl rfl ?_
    exact Steps.refl _)
  obtain ⟨T3, X3, q3, st3⟩ := X0.oinit hexec hown (wks W (objW "java/lang/String" 1)) (g := (mkF m 1 #[.val (.ref a), .val (.ref b), .val (.int (Int32.ofNat o)), .val (.int (Int32.ofNat len)), .val .null, .unset] [.ref a])) rfl (by rw [hml]; rfl) (rest := []) rfl (hb hbytes d1) (W := 0) (by show 2 * 0 + 0 ≤ _; decide) (Nat.le_of_ble_eq_true rfl) (Nat.le_of_ble_eq_true rfl)
  have hh3 := q3.trans hh0
  have c4 : Steps p.tables e below (s₁.setTop (entryFrame m #[.ref a, .ref b, .int (Int32.ofNat o), .int (Int32.ofNat len), .null] 6)) (T3.setTop (mkF m 27 #[.val (.ref a), .val (.ref b), .val (.int (Int32.ofNat o)), .val (.int (Int32.ofNat len)), .val .null, .unset] [])) := (c2.trans (st3 _ (Steps.refl _))).trans (by
    refine XS.iloadN X3.here hexec rfl (hb hbytes d4) rfl ?_
    refine XS.ifYes X3.here hexec rfl (pc0 := 5) rfl (hb hbytes d5) rfl (i0_ne_t (nz32 (by omega) l0)) (by decide) rfl ?_
    exact Steps.refl _)
  obtain ⟨T5, X5, q5, st5⟩ := X3.sget hexec hown (wk W (.fieldLink "java/lang/String" 38 "java/lang/String" "COMPACT_STRINGS" "Z")) s1 (fun _ _ h => by rw [hh3]; exact h) (g := (mkF m 27 #[.val (.ref a), .val (.ref b), .val (.int (Int32.ofNat o)), .val (.int (Int32.ofNat len)), .val .null, .unset] [])) rfl (hb hbytes d27)
  have hh5 := q5.trans hh3
  have c6 : Steps p.tables e below (s₁.setTop (entryFrame m #[.ref a, .ref b, .int (Int32.ofNat o), .int (Int32.ofNat len), .null] 6)) (T5.setTop (mkF m 30 #[.val (.ref a), .val (.ref b), .val (.int (Int32.ofNat o)), .val (.int (Int32.ofNat len)), .val .null, .unset] [.int z])) := c4.trans (st5 _ (Steps.refl _))
  have c7 : Steps p.tables e below (s₁.setTop (entryFrame m #[.ref a, .ref b, .int (Int32.ofNat o), .int (Int32.ofNat len), .null] 6)) (T5.setTop (mkF m 36 #[.val (.ref a), .val (.ref b), .val (.int (Int32.ofNat o)), .val (.int (Int32.ofNat len)), .val .null, .unset] [.int (Int32.ofNat len), .int (Int32.ofNat o), .ref b])) := c6.trans (by
    refine XS.ifNo X5.here hexec rfl (hb hbytes d30) rfl (i0_eq_f hz) ?_
    refine XS.aloadN X5.here hexec rfl (hb hbytes d33) rfl rfl ?_
    refine XS.iloadN X5.here hexec rfl (hb hbytes d34) rfl ?_
    refine XS.iloadN X5.here hexec rfl (hb hbytes d35) rfl ?_
    exact Steps.refl _)
  obtain ⟨v8, T8, X8, E8, g8⟩ := X5.callS hexec (Cmp3.law l b A o len) hown (wks W (staticW "java/lang/String" 177 Cmp3.yN)) (wk W Cmp3.tab) (W := 0) (Nat.le_of_ble_eq_true rfl) (Nat.le_of_ble_eq_true rfl) (Nat.le_refl _) (by show 0 + len ≤ len; omega) (g := (mkF m 36 #[.val (.ref a), .val (.ref b), .val (.int (Int32.ofNat o)), .val (.int (Int32.ofNat len)), .val .null, .unset] [.int (Int32.ofNat len), .int (Int32.ofNat o), .ref b])) rfl (by rw [hml]; rfl) c7 (argsL := [.ref b, .int (Int32.ofNat o), .int (Int32.ofNat len)]) (rest := []) rfl rfl (by show 2 * 0 + 0 ≤ _; decide) (hb hbytes d36) (⟨rfl, hA.mv X5.warmed.alike hh5, l1, l2, hp⟩)
  obtain ⟨e8, z8⟩ := E8
  obtain ⟨rfl, N, n1, n2, n3, n4, n5, n6⟩ := NewArr.mv _ T5 s _ _ hh5.symm (Vm.Alike.refl _) rfl e8
  rw [hh5] at z8
  have hB1 := hB.keep X8.warmed.alike (n6 _ _ hB.1)
  have hne : s.heap.size ≠ a := (Nat.ne_of_lt (Array.getElem?_eq_some_iff.mp hB.1).1).symm
  have c9 : Steps p.tables e below (s₁.setTop (entryFrame m #[.ref a, .ref b, .int (Int32.ofNat o), .int (Int32.ofNat len), .null] 6)) (T8.setTop (mkF m 39 #[.val (.ref a), .val (.ref b), .val (.int (Int32.ofNat o)), .val (.int (Int32.ofNat len)), .val .null, .unset] [.ref s.heap.size])) := g8
  have c10 : Steps p.tables e below (s₁.setTop (entryFrame m #[.ref a, .ref b, .int (Int32.ofNat o), .int (Int32.ofNat len), .null] 6)) (T8.setTop (mkF m 45 #[.val (.ref a), .val (.ref b), .val (.int (Int32.ofNat o)), .val (.int (Int32.ofNat len)), .val .null, .val (.ref s.heap.size)] [.int (Int32.ofNat N.slots.size), .ref s.heap.size, .ref a])) := by
    have hc : Steps p.tables e below (s₁.setTop (entryFrame m #[.ref a, .ref b, .int (Int32.ofNat o), .int (Int32.ofNat len), .null] 6)) (T8.setTop (mkF m 45 #[.val (.ref a), .val (.ref b), .val (.int (Int32.ofNat o)), .val (.int (Int32.ofNat len)), .val .null, .val (.ref s.heap.size)] [.int (Int32.ofNat len), .ref s.heap.size, .ref a])) := c9.trans (by
      refine XS.astore X8.here hexec rfl (hb hbytes d39) rfl rfl rfl ?_
      refine XS.aloadN X8.here hexec rfl (hb hbytes d41) rfl rfl ?_
      refine XS.aload X8.here hexec rfl (hb hbytes d42) rfl rfl ?_
      refine XS.iloadN X8.here hexec rfl (hb hbytes d44) rfl ?_
      exact Steps.refl _)
    rw [n4]; exact hc
  obtain ⟨v11, T11, X11, E11, g11⟩ := X8.callS hexec (CodL.law l s.heap.size N) hown (wks W (staticW "java/lang/String" 47 CodL.yN)) (wk W CodL.tab) (W := 1) (Nat.le_of_ble_eq_true rfl) (Nat.le_of_ble_eq_true rfl) (Nat.le_refl _) (by show 0 + len + 0 ≤ len; omega) (g := (mkF m 45 #[.val (.ref a), .val (.ref b), .val (.int (Int32.ofNat o)), .val (.int (Int32.ofNat len)), .val .null, .val (.ref s.heap.size)] [.int (Int32.ofNat N.slots.size), .ref s.heap.size, .ref a])) rfl (by rw [hml]; rfl) c10 (argsL := [.ref s.heap.size, .int (Int32.ofNat N.slots.size)]) (rest := [.ref a]) rfl rfl (by show 2 * 0 + (1 + 0) ≤ _; decide) (hb hbytes d45) (⟨rfl, n1⟩)
  obtain ⟨rfl, q11⟩ := E11
  have hB11 := hB1.mv (X8.warmed.alike.symm.trans X11.warmed.alike) q11
  have c12 : Steps p.tables e below (s₁.setTop (entryFrame m #[.ref a, .ref b, .int (Int32.ofNat o), .int (Int32.ofNat len), .null] 6)) (T11.setTop (mkF m 48 #[.val (.ref a), .val (.ref b), .val (.int (Int32.ofNat o)), .val (.int (Int32.ofNat len)), .val .null, .val (.ref s.heap.size)] [.int 0, .ref a])) := g11
  obtain ⟨T13, X13, p13, bl13, sl13, st13⟩ := X11.finit hexec hown (wk W (.fieldLink "java/lang/String" 15 "java/lang/String" "coder" "B")) (Or.inr ⟨_, (wk W (.laysFinal "java/lang/String" "java/lang/String" "coder" "B"))⟩) (Or.inl ⟨rfl, hnm⟩) f2 (Or.inl rfl) hB11 (t := .byte) (by decide +kernel) rfl (g := (mkF m 48 #[.val (.ref a), .val (.ref b), .val (.int (Int32.ofNat o)), .val (.int (Int32.ofNat len)), .val .null, .val (.ref s.heap.size)] [.int 0, .ref a])) rfl (rest := []) rfl (hb hbytes d48)
  have c14 : Steps p.tables e below (s₁.setTop (entryFrame m #[.ref a, .ref b, .int (Int32.ofNat o), .int (Int32.ofNat len), .null] 6)) (T13.setTop (mkF m 54 #[.val (.ref a), .val (.ref b), .val (.int (Int32.ofNat o)), .val (.int (Int32.ofNat len)), .val .null, .val (.ref s.heap.size)] [.ref s.heap.size, .ref a])) := (c12.trans (st13 _ (Steps.refl _))).trans (by
    refine XS.aloadN X13.here hexec rfl (hb hbytes d51) rfl rfl ?_
    refine XS.aload X13.here hexec rfl (hb hbytes d52) rfl rfl ?_
    exact Steps.refl _)
  obtain ⟨T15, X15, p15, bl15, sl15, st15⟩ := X13.finit hexec hown (wk W (.fieldLink "java/lang/String" 9 "java/lang/String" "value" "[B")) (Or.inr ⟨_, (wk W (.laysFinal "java/lang/String" "java/lang/String" "value" "[B"))⟩) (Or.inl ⟨rfl, hnm⟩) f1 (Or.inl rfl) bl13 (t := (.array .byte)) (by decide +kernel) rfl (g := (mkF m 54 #[.val (.ref a), .val (.ref b), .val (.int (Int32.ofNat o)), .val (.int (Int32.ofNat len)), .val .null, .val (.ref s.heap.size)] [.ref s.heap.size, .ref a])) rfl (rest := []) rfl (hb hbytes d54)
  have c16 : Steps p.tables e below (s₁.setTop (entryFrame m #[.ref a, .ref b, .int (Int32.ofNat o), .int (Int32.ofNat len), .null] 6)) (T15.setTop (mkF m 57 #[.val (.ref a), .val (.ref b), .val (.int (Int32.ofNat o)), .val (.int (Int32.ofNat len)), .val .null, .val (.ref s.heap.size)] [])) := c14.trans (st15 _ (Steps.refl _))
  have ap := apart (Or.inr ⟨_, (wk W (.laysFinal "java/lang/String" "java/lang/String" "value" "[B"))⟩) (Or.inr ⟨_, (wk W (.laysFinal "java/lang/String" "java/lang/String" "coder" "B"))⟩) f1 f2 (t₁ := .array .byte) (t₂ := .byte) (by decide +kernel) (by decide +kernel) (by decide)
  have al := X8.warmed.alike.symm.trans X15.warmed.alike
  have n7 : T11.heap[s.heap.size]? = some N := by rw [q11]; exact n1.1
  exact ⟨T15, none, _, _, _, X15, by simp, rfl, by omega, (fun _ => rfl), ⟨rfl, _, N, bl15, ((Same.refl D _).set _ (by simp)).set _ (by simp), sl15, (Cell.slots_setSlot_ne _ ap).trans sl13, n1.keep al (p15.other hne (p13.other hne n7)), n2, by rw [al.findClass]; exact n3, n4, n5, fun y c h1 h2 => p15.other h1 (p13.other h1 (by rw [q11]; exact n6 y c h2)), by rw [p15.2.2, p13.2.2, q11]; exact z8⟩, fun fs hl => c16.trans (X15.returnOut hexec hret (hb hbytes d57) hl)⟩
end New4
namespace New1
def yN : MethodName := ⟨"java/lang/String", "<init>", "([C)V"⟩
abbrev yB : ByteArray := jdk_42_method_3_code
theorem d0 : decode yB 0 = .ok (.aload_n 0, 1) := by decide +kernel
theorem d1 : decode yB 1 = .ok (.aload_n 1, 1) := by decide +kernel
theorem d2 : decode yB 2 = .ok (.iconst 0, 1) := by decide +kernel
theorem d3 : decode yB 3 = .ok (.aload_n 1, 1) := by decide +kernel
theorem d4 : decode yB 4 = .ok (.arraylength, 1) := by decide +kernel
theorem d5 : decode yB 5 = .ok (.aconst_null, 1) := by decide +kernel
theorem d6 : decode yB 6 = .ok (.invokespecial 27, 3) := by decide +kernel
theorem d9 : decode yB 9 = .ok (.return_, 1) := by decide +kernel
def site : List Cond := [New4.tab] ++ initW "java/lang/String" 27 New4.yN
def tab : Cond := tabOf yN yB 2 none site
def P (a : Addr) (D : Cell) (fV fC : Field) (b : Addr) (A : Cell) (z : Int32) (args : Array Value) (s : State) : Prop := args = #[.ref a, .ref b] ∧ Blank "java/lang/String" a D s ∧ Found "java/lang/String" "value" "[B" fV s ∧ Found "java/lang/String" "coder" "B" fC s ∧ Ch b A s ∧ StaticIs s "java/lang/String" "COMPACT_STRINGS" "Z" (.int z) ∧ ¬ z = 0 ∧ 0 < A.slots.size ∧ A.slots.size ≤ 536870912 ∧ ∀ i, i < A.slots.size → ¬ 255 < cv A i
def E (a : Addr) (D : Cell) (fV fC : Field) (A : Cell) (r : Option Value) (s u : State) : Prop := Got a D fV fC A 0 A.slots.size r s u
/-- new String(chars), not empty, no char above 255: a Latin-1 String of their low bytes -/
theorem law (l : Launch) (a : Addr) (D : Cell) (fV fC : Field) (b : Addr) (A : Cell) (z : Int32) : Law l yN 2 1 3 52 yB 2 none site (P a D fV fC b A z) (E a D fV fC A) [⟨a, fC.slot⟩, ⟨a, fV.slot⟩] 1 A.slots.size := by
  refine Law.of_walk (plainFor_of_name (by decide +kernel)) (by decide +kernel) (by decide +kernel) (by decide) (fun _ _ h => by rw [h.1]; rfl) (fun _ U U' hal hh h => ⟨h.1, h.2.1.mv hal hh, h.2.2.1.al hal, h.2.2.2.1.al hal, h.2.2.2.2.1.mv hal hh, h.2.2.2.2.2.1.there hal hh, h.2.2.2.2.2.2⟩) (fun r U U' V V' h1 hal h2 h => Got.mv r U U' V V' h1 hal h2 h) ?_
  intro p e s m args below meth c s₁ X0 hexec hbytes hml hret hlk hnm hown hh0 W hP
  obtain ⟨rfl, hB, f1, f2, hA, s1, hz, l0, l2, hp⟩ := hP
  have c1 : Steps p.tables e below (s₁.setTop (entryFrame m #[.ref a, .ref b] 2)) (s₁.setTop (mkF m 0 #[.val (.ref a), .val (.ref b)] [])) := entry rfl
  have c2 : Steps p.tables e below (s₁.setTop (entryFrame m #[.ref a, .ref b] 2)) (s₁.setTop (mkF m 6 #[.val (.ref a), .val (.ref b)] [.null, .int (Int32.ofNat A.slots.size), .int 0, .ref b, .ref a])) := c1.trans (by
    refine XS.aloadN X0.here hexec rfl (hb hbytes d0) rfl rfl ?_
    refine XS.aloadN X0.here hexec rfl (hb hbytes d1) rfl rfl ?_
    refine iconstV X0.here hexec rfl 0 (hb hbytes d2) (by decide) ?_
    refine XS.aloadN X0.here hexec rfl (hb hbytes d3) rfl rfl ?_
    refine X0.alen hexec (hA.1.mv X0.warmed.alike hh0) rfl rfl (hb hbytes d4) ?_
    refine XS.aconstNull X0.here hexec rfl (hb hbytes d5) ?_
    exact Steps.refl _)
  obtain ⟨v3, T3, X3, E3, g3⟩ := X0.callN hexec (New4.law l a D fV fC b A z 0 A.slots.size) rfl hown (wks W (initW "java/lang/String" 27 New4.yN)) (W New4.tab (by simp only [site, List.mem_cons, List.mem_append, true_or, or_true])) (W := 0) (Nat.le_of_ble_eq_true rfl) (Nat.le_of_ble_eq_true rfl) (Nat.le_refl _) (by show 0 + A.slots.size ≤ A.slots.size; omega) (g := (mkF m 6 #[.val (.ref a), .val (.ref b)] [.null, .int (Int32.ofNat A.slots.size), .int (Int32.ofNat 0), .ref b, .ref a])) rfl (by rw [hml]; rfl) c2 (argsL := [.ref b, .int (Int32.ofNat 0), .int (Int32.ofNat A.slots.size), .null]) (rest := []) rfl rfl (by show 2 * 0 + 0 ≤ _; decide) (hb hbytes d6) (⟨rfl, hB.mv X0.warmed.alike hh0, f1.al X0.warmed.alike, f2.al X0.warmed.alike, hA.mv X0.warmed.alike hh0, s1.there X0.warmed.alike hh0, hz, l0, by omega, l2, fun i hi => by rw [Nat.zero_add]; exact hp i hi⟩)
  have e0 := Got.mv _ s₁ s _ _ hh0.symm (Vm.Alike.refl _) rfl E3
  obtain rfl := e0.1
  have c4 : Steps p.tables e below (s₁.setTop (entryFrame m #[.ref a, .ref b] 2)) (T3.setTop (mkF m 9 #[.val (.ref a), .val (.ref b)] [])) := g3
  exact ⟨T3, none, _, _, _, X3, by simp, rfl, by omega, (fun _ => rfl), e0, fun fs hl => c4.trans (X3.returnOut hexec hret (hb hbytes d9) hl)⟩
theorem pays {l : Launch} {R : Room} {p : Program} {e : Env} {below : List Frame} {s : State} {sargs : Array Value} {len W : Nat} (a : Addr) (D : Cell) (fV fC : Field) (b : Addr) (A : Cell) (z : Int32) (htab : tab.before sargs s = true) (hfr : 4 ≤ R.frames) (hlo : W + 65 ≤ R.locals) :
    Back l R p e below s sargs yN len W (fun A₁ a₁ => A₁.cells + 1 ≤ R.cells ∧ A₁.slots + A.slots.size ≤ R.slots ∧ P a D fV fC b A z a₁ A₁.U) (fun A₁ _ v₁ B₁ => E a D fV fC A v₁ A₁.U B₁.U ∧ B₁.locs = A₁.locs ++ [⟨a, fC.slot⟩, ⟨a, fV.slot⟩] ∧ B₁.cells = A₁.cells + 1 ∧ B₁.slots = A₁.slots + A.slots.size) :=
  (law l a D fV fC b A z).pays htab hfr (by omega)
end New1
/-- the byte, read back as charAt reads it, is the char -/
theorem lo8_mask {x : Int32} (h0 : ¬ x < 0) (h1 : ¬ 255 < x) : lo8 x &&& 255 = x := by
  have t : ∀ k : Fin 256, lo8 (Int32.ofNat k.val) &&& 255 = Int32.ofNat k.val := by decide +kernel
  rw [Int32.lt_iff_toInt_lt] at h0 h1
  have e0 : (0 : Int32).toInt = 0 := rfl
  have e1 : (255 : Int32).toInt = 255 := rfl
  obtain ⟨k, hk⟩ : ∃ k : Nat, x.toInt = k := ⟨x.toInt.toNat, by omega⟩
  have hx : x = Int32.ofNat k := Int32.toInt_inj.mp (by rw [hk, Int32.toInt_ofNat_small (by omega)])
  rw [hx]
  exact t ⟨k, by omega⟩
end StrChars
namespace StrChars.Road
open Jvm Sem ClassFile Op Lib Jvm.Stand Jvm.Free Jvm.Free.XT
open Jvm.Lib.Cold (StaticIs)
abbrev ST : String := "java/lang/String"
/-- every table word that New1's law asks, flat -/
abbrev words : List Jvm.Cond := [.code New1.yN New1.yB 2 none, .initialized ST, .methodLink ST 27 New4.yN, .instanceMethod New4.yN,
  .code New4.yN New4.yB 6 none, .fieldLink ST 38 ST "COMPACT_STRINGS" "Z", .laysFinal ST ST "value" "[B", .fieldLink ST 9 ST "value" "[B", .laysFinal ST ST "coder" "B", .fieldLink ST 15 ST "coder" "B",
  .methodLink ST 1 Lib.objectInit, .instanceMethod Lib.objectInit, .code Lib.objectInit ⟨#[0xb1]⟩ 1 none, .methodLink ST 177 Cmp3.yN, .static Cmp3.yN, .methodLink ST 47 CodL.yN, .static CodL.yN,
  .code Cmp3.yN Cmp3.yB 6 (some (.array .byte)), .initialized U16, .arrayClass .byte, .methodLink U16 115 Cmp5.yN, .static Cmp5.yN, .code Cmp5.yN Cmp5.yB 7 (some .int), .code CodL.yN CodL.yB 2 (some .byte)]
theorem tab_of {a : Array Value} {s : State} (h : ∀ w ∈ words, w.before a s = true) : New1.tab.before a s = true := by
  have h5 : Cmp5.tab.before a s = true := unparts (wk h (.code Cmp5.yN Cmp5.yB 7 (some .int))) (wks h (.initialized Cmp5.yN.cls :: Cmp5.site))
  have hc : CodL.tab.before a s = true := unparts (wk h (.code CodL.yN CodL.yB 2 (some .byte))) (wks h (.initialized CodL.yN.cls :: CodL.site))
  have q5 : ∀ w ∈ Cmp5.tab :: words, w.before a s = true := fun w hw => (List.mem_cons.mp hw).elim (fun e => e ▸ h5) (h w)
  have h3 : Cmp3.tab.before a s = true := unparts (wk q5 (.code Cmp3.yN Cmp3.yB 6 (some (.array .byte)))) (wks q5 (.initialized Cmp3.yN.cls :: Cmp3.site))
  have q3 : ∀ w ∈ Cmp3.tab :: CodL.tab :: words, w.before a s = true := fun w hw => (List.mem_cons.mp hw).elim (fun e => e ▸ h3) fun hw => (List.mem_cons.mp hw).elim (fun e => e ▸ hc) (h w)
  have h4 : New4.tab.before a s = true := unparts (wk q3 (.code New4.yN New4.yB 6 none)) (wks q3 (.initialized New4.yN.cls :: New4.site))
  have q4 : ∀ w ∈ New4.tab :: words, w.before a s = true := fun w hw => (List.mem_cons.mp hw).elim (fun e => e ▸ h4) (h w)
  exact unparts (wk q4 (.code New1.yN New1.yB 2 none)) (wks q4 (.initialized New1.yN.cls :: New1.site))
/-- the words ride from the start Z to the walk's own state -/
theorem moved {Z s : State} {a0 args : Array Value} (hZ : Z.Warmed39 s.vm) (hw : ∀ d ∈ words, d.before a0 Z = true) : ∀ d ∈ words, d.before args s = true := fun d hd => by
  have q := hw d hd
  have t : ∀ d ∈ words, d = .arrayClass .byte ∨ (d.onTables && d.keepsFace) = true := by decide +kernel
  rcases t d hd with rfl | t
  · exact RoadKit.mvA hZ q
  · exact RoadKit.mv hZ q t
/-- WHAT COMES BACK, over the tables of the start Z: h the heap at the call, h' behind it -/
def Q (Z : State) (x : Addr) (A : Cell) (h : Heap) (v : Option Value) (h' : Heap) (L : List Loc) : Prop := v = none ∧ (∀ y ∈ L, y.base = x) ∧ RoadKit.Keep h h' [x] ∧ h'.size = h.size + 1 ∧ RoadKit.Exa Z h' x ST ∧ RoadKit.Fld Z h' x ST "value" "[B" (.ref h.size) ∧ RoadKit.Fld Z h' x ST "coder" "B" (.int 0) ∧
  (∃ V : Cell, RoadKit.Arr Z h' h.size V .byte ∧ V.vm = .none ∧ Z.vm.findClass "[B" = some V.cls ∧ V.slots.size = A.slots.size ∧ ∀ j, j < A.slots.size → V.slots[j]? = some (.int (lo8 (cv A j)))) ∧
  ∀ (O n d : String) (w : Value), RoadKit.Fld Z h x O n d w → RoadKit.slotOf Z O n d ≠ RoadKit.slotOf Z ST "value" "[B" → RoadKit.slotOf Z O n d ≠ RoadKit.slotOf Z ST "coder" "B" → RoadKit.Fld Z h' x O n d w
/-- **new String(chars) AT A CALL, IN THE ROAD'S FORM**: for specialBack behind newO: x the fresh String, b the char[] with the cell A -/
theorem back {p : Program} {l : Launch} {e : Env} {R : Room} {s : State} {args : Array Value} {below : List Frame} {len W : Nat} {Z : State} {a0 : Array Value} {h : Heap} (hZ : Z.Warmed39 s.vm) (hw : ∀ d ∈ words, d.before a0 Z = true) {kI : Nat} (wi : (Jvm.Cond.instantiable ST kI).before a0 Z = true)
    {x b : Addr} {A : Cell} {z : Int32} {v0 c0 : Value} (E : RoadKit.Exa Z h x ST) (V : RoadKit.Fld Z h x ST "value" "[B" v0) (C : RoadKit.Fld Z h x ST "coder" "B" c0) (K : RoadKit.Arr Z h b A .char) (hty : Typed .char A) (S : RoadKit.Sta Z h ST "COMPACT_STRINGS" "Z" (.int z)) (hz : ¬ z = 0)
    (l0 : 0 < A.slots.size) (l2 : A.slots.size ≤ 536870912) (hp : ∀ i, i < A.slots.size → ¬ 255 < cv A i) (hfr : 4 ≤ R.frames) (hlo : W + 65 ≤ R.locals) :
    Back l R p e below s args New1.yN len W (fun P a => a = #[.ref x, .ref b] ∧ P.U.heap = h ∧ P.cells + 1 ≤ R.cells ∧ P.slots + A.slots.size ≤ R.slots)
      (fun P _ v B => ∃ L, Q Z x A h v B.U.heap L ∧ B.locs = P.locs ++ L ∧ B.cells = P.cells + 1 ∧ B.slots = P.slots + A.slots.size) := by
  intro m meth c P g ig mk a X hg hsize hdg hW hn hp'
  obtain ⟨rfl, rfl, r1, r2⟩ := hp'
  have al : Z.vm.Alike P.U.vm := hZ.alike.trans X.warmed.alike
  obtain ⟨D, cfV, kV, iV, fV, hD, gV, stV, knV, obV, asV, slV⟩ := id V
  obtain ⟨D', cfC, kC, iC, fC, hD', gC, stC, -, -, asC, slC⟩ := id C
  cases hD.symm.trans hD'
  obtain ⟨D2, kD, e1, e2, e3, e4, e5⟩ := id E
  cases hD.symm.trans e1
  obtain ⟨c2, k2, i1, i2, i3, -⟩ := Cond.instantiable_spec wi
  cases e2.symm.trans i1
  cases e3.symm.trans i2
  obtain ⟨kU, u1, u2⟩ := al.2.2 _ _ e3
  have hB : Blank ST x D P.U := ⟨hD, ⟨knV, fun q hq => by rw [hq] at obV; cases obV⟩, by rw [al.findClass]; exact e2, kU, u1, by rw [u2]; exact i3, by rw [u2]; exact e5 i3⟩
  have F1 : Found ST "value" "[B" fV P.U := ⟨SBG.found_only al ⟨cfV, kV, iV, gV⟩, stV⟩
  have F2 : Found ST "coder" "B" fC P.U := ⟨SBG.found_only al ⟨cfC, kC, iC, gC⟩, stC⟩
  have hA : Ch b A P.U := ⟨⟨K.1, State.isArrayOf_alike al K.2.1, K.2.2, by omega⟩, hty⟩
  have hS : StaticIs P.U ST "COMPACT_STRINGS" "Z" (.int z) := by
    obtain ⟨cfS, iS, kS, fS, st, cS, t1, t2, t3, t4, t5, t6, t7⟩ := S
    exact StaticIs.there (s := { Z with heap := P.U.heap }) ⟨cfS, iS, kS, fS, st, cS, t1, t2, t3, t4, t5, (fun q => by rw [q] at t6; cases t6), t7⟩ al rfl
  obtain ⟨v, B, X', ⟨⟨hv, E', V', q1, q2, q3, q4, q5, q6, q7, q8, q9, q10, q11⟩, hl, hc, hs⟩, st⟩ := New1.pays x D fV fC b A z (tab_of (moved hZ hw)) hfr hlo m meth c P g ig mk _ X hg hsize hdg hW hn ⟨r1, r2, rfl, hB, F1, F2, hA, hS, hz, l0, l2, hp⟩
  have al' : Z.vm.Alike B.U.vm := hZ.alike.trans X'.warmed.alike
  have hsz : E'.slots.size = D.slots.size := by
    obtain ⟨-, -, -, kB, w1, w2, w3⟩ := q1
    obtain ⟨kB', y1, y2⟩ := al'.2.2 _ _ e3
    rw [q2.2.1] at w1
    cases w1.symm.trans y1
    rw [w3, e5 i3, y2]
  refine ⟨v, B, X', ⟨_, ⟨hv, ?_, ⟨by omega, fun y cy hy hn' => q10 y cy (by simpa using hn') hy, fun y cy hy => ?_⟩, q11, ⟨E', _, q1.1, by rw [q2.2.1]; exact e2, by rw [q2.2.1]; exact e3, by rw [q2.1]; exact obV, fun _ => by rw [hsz]; exact e5 i3⟩,
    ⟨E', cfV, kV, iV, fV, q1.1, gV, stV, by rw [q2.1]; exact knV, by rw [q2.1]; exact obV, by rw [q2.2.1]; exact asV, q3⟩, ⟨E', cfC, kC, iC, fC, q1.1, gC, stC, by rw [q2.1]; exact knV, by rw [q2.1]; exact obV, by rw [q2.2.1]; exact asC, q4⟩,
    ⟨V', ⟨q5.1, State.isArrayOf_alike al'.symm q5.2.1, q5.2.2.1⟩, q6, by rw [← al'.findClass]; exact q7, q8, fun j hj => by have := q9 j hj; rwa [Nat.zero_add] at this⟩, fun O n d w F n1 n2 => ?_⟩, hl, hc, hs⟩, st⟩
  · intro y hy
    simp only [List.mem_cons, List.not_mem_nil, or_false] at hy
    rcases hy with rfl | rfl <;> rfl
  · by_cases q : y = x
    · subst q
      cases hD.symm.trans hy
      exact ⟨E', q1.1, q2.2.1, q2.1, hsz⟩
    · exact ⟨cy, q10 y cy q hy, rfl, rfl, rfl⟩
  · obtain ⟨D3, cf, k, i, f, g1, g2, g3, g4, g5, g6, g7⟩ := F
    cases hD.symm.trans g1
    simp only [RoadKit.slotOf, g2, gV, gC, Option.map_some, Option.getD_some] at n1 n2
    exact ⟨E', cf, k, i, f, q1.1, g2, g3, by rw [q2.1]; exact g4, by rw [q2.1]; exact g5, by rw [q2.2.1]; exact g6, by rw [q2.2.2 f.slot (by simp [n1, n2])]; exact g7⟩
end StrChars.Road
namespace StrChars.Road
open Jvm Sem ClassFile Op Lib Jvm.Stand Jvm.Free Jvm.Free.XT
/-- WHAT COMES BACK, the byte[] as a list of values -/
def QA (Z : State) (x : Addr) (zn : Int32) (cs : List Int32) (h : Heap) (v : Option Value) (h' : Heap) (L : List Loc) : Prop := v = none ∧ (∀ y ∈ L, y.base = x) ∧ RoadKit.Keep h h' [x] ∧ h'.size = h.size + 1 ∧ RoadKit.Exa Z h' x ST ∧ RoadKit.Fld Z h' x ST "value" "[B" (.ref h.size) ∧ RoadKit.Fld Z h' x ST "coder" "B" (.int 0) ∧
  (∃ kb, Z.vm.findClass "[B" = some kb ∧ RoadKit.Arv Z h' h.size kb .byte zn (cs.map fun c => .int (lo8 c)) (.int 0)) ∧
  ∀ (O n d : String) (w : Value), RoadKit.Fld Z h x O n d w → RoadKit.slotOf Z O n d ≠ RoadKit.slotOf Z ST "value" "[B" → RoadKit.slotOf Z O n d ≠ RoadKit.slotOf Z ST "coder" "B" → RoadKit.Fld Z h' x O n d w
/-- **new String(chars) AT A CALL, THE ARRAYS AS LISTS**: the char[] at b holds cs, not empty, no char above 255 -/
theorem backArv {p : Program} {l : Launch} {e : Env} {R : Room} {s : State} {args : Array Value} {below : List Frame} {len W : Nat} {Z : State} {a0 : Array Value} {h : Heap} (hZ : Z.Warmed39 s.vm) (hw : ∀ d ∈ words, d.before a0 Z = true) {kI : Nat} (wi : (Jvm.Cond.instantiable ST kI).before a0 Z = true)
    {x b : Addr} {k : ClassId} {zn z : Int32} {cs : List Int32} {dv v0 c0 : Value} (E : RoadKit.Exa Z h x ST) (V : RoadKit.Fld Z h x ST "value" "[B" v0) (C : RoadKit.Fld Z h x ST "coder" "B" c0) (K : RoadKit.Arv Z h b k .char zn (cs.map Value.int) dv) (S : RoadKit.Sta Z h ST "COMPACT_STRINGS" "Z" (.int z)) (hz : ¬ z = 0)
    (hlen : zn.toNatClampNeg = cs.length) (h0 : 0 < cs.length) (hbig : cs.length ≤ 536870912) (hall : ∀ c ∈ cs, ¬ 255 < c) (hfr : 4 ≤ R.frames) (hlo : W + 65 ≤ R.locals) :
    Back l R p e below s args New1.yN len W (fun P a => a = #[.ref x, .ref b] ∧ P.U.heap = h ∧ P.cells + 1 ≤ R.cells ∧ P.slots + cs.length ≤ R.slots)
      (fun P _ v B => ∃ L, QA Z x zn cs h v B.U.heap L ∧ B.locs = P.locs ++ L ∧ B.cells = P.cells + 1 ∧ B.slots = P.slots + cs.length) := by
  obtain ⟨A, K1, K2, K3, K4, K5, K6⟩ := K
  have e : A.slots.size = cs.length := K3.trans hlen
  have hat : ∀ (i : Nat) (hi : i < cs.length), A.slots[i]? = some (.int cs[i]) := fun i hi => by rw [K5 i (by omega)]; simp [List.getD_eq_getElem?_getD, hi]
  have hcv : ∀ (i : Nat) (hi : i < cs.length), cv A i = cs[i] := fun i hi => by unfold cv; rw [hat i hi]
  have hty : Typed .char A := fun i v hv => by
    have hi : i < A.slots.size := (Array.getElem?_eq_some_iff.mp hv).1
    have q := K5 i hi
    rw [hv] at q
    rw [Option.some.inj q]
    exact K6 i hi
  refine Back.mono (back hZ hw wi E V C K1 hty S hz (by omega) (by omega) (fun i hi => by rw [hcv i (by omega)]; exact hall _ (List.getElem_mem _)) hfr hlo) (fun P a hp => ⟨hp.1, hp.2.1, hp.2.2.1, by rw [e]; exact hp.2.2.2⟩) (fun P a v B hp hq => ?_)
  obtain ⟨L, ⟨q1, q2, q3, q4, q5, q6, q7, ⟨V', v1, v2, v3, v4, v5⟩, q9⟩, hl, hc, hs⟩ := hq
  refine ⟨L, ⟨q1, q2, q3, q4, q5, q6, q7, ⟨V'.cls, v3, V', v1, rfl, by rw [v4, e, hlen], K4, fun i hi => ?_, fun i hi => ?_⟩, q9⟩, hl, hc, by rw [hs, e]⟩
  · have hi' : i < cs.length := by omega
    rw [v5 i (by omega), hcv i hi']; simp [List.getD_eq_getElem?_getD, hi']
  · have hi' : i < cs.length := by omega
    simp only [List.getD_eq_getElem?_getD, List.getElem?_map, List.getElem?_eq_getElem hi', Option.map_some, Option.getD_some]
    exact fits_lo8 _
end StrChars.Road
namespace StrChars.Road
open Jvm Sem ClassFile Op Lib Jvm.Stand Jvm.Free Jvm.Free.XT
/-- WHAT COMES BACK, in the writer's own shape -/
def QV (Z : State) (x : Addr) (N : Int32) (bs : List Int32) (h : Heap) (n0 : Nat) (v : Option Value) (h' : Heap) (L : List Loc) : Prop := v = none ∧ RoadKit.Fr n0 L ∧ RoadKit.Keep h h' [x] ∧ RoadKit.Exa Z h' x ST ∧ RoadKit.Fld Z h' x ST "coder" "B" (.int 0) ∧
  ∃ (t : Addr) (kb : ClassId), n0 ≤ t ∧ h.size ≤ t ∧ ¬ t = x ∧ RoadKit.Fld Z h' x ST "value" "[B" (.ref t) ∧ RoadKit.Arv Z h' t kb .byte N (bs.map Value.int) (.int 0)
/-- **new String(chars) AT A CALL, FOR THE WRITER**: a char[] of n known ints, each 0 to 255 -/
theorem backV {p : Program} {l : Launch} {e : Env} {R : Room} {s : State} {args : Array Value} {below : List Frame} {len W : Nat} {Z : State} {a0 : Array Value} {h : Heap} (hZ : Z.Warmed39 s.vm) (hw : ∀ d ∈ words, d.before a0 Z = true) {kI : Nat} (wi : (Jvm.Cond.instantiable ST kI).before a0 Z = true)
    {x b : Addr} {kC : ClassId} {cs bs : List Int32} {d v0 c0 : Value} {z N : Int32} {n n0 : Nat} (hx0 : n0 ≤ x) (hh0 : n0 ≤ h.size) (E : RoadKit.Exa Z h x ST) (V : RoadKit.Fld Z h x ST "value" "[B" v0) (C : RoadKit.Fld Z h x ST "coder" "B" c0) (K : RoadKit.Arv Z h b kC .char N (cs.map Value.int) d) (S : RoadKit.Sta Z h ST "COMPACT_STRINGS" "Z" (.int z)) (hz : ¬ z = 0)
    (hn : cs.length = n) (hN : N = Int32.ofNat n) (l0 : 0 < n) (l2 : n ≤ 4000) (hp : ∀ c ∈ cs, ¬ c < 0 ∧ ¬ (255 : Int32) < c) (hb : bs = cs.map (fun c => c.toInt8.toInt32)) (hfr : 4 ≤ R.frames) (hlo : W + 65 ≤ R.locals) :
    Back l R p e below s args (⟨"java/lang/String", "<init>", "([C)V"⟩ : MethodName) len W (fun P a => a = #[.ref x, .ref b] ∧ P.U.heap = h ∧ P.cells + 1 ≤ R.cells ∧ P.slots + n ≤ R.slots)
      (fun P _ v B => ∃ L, QV Z x N bs h n0 v B.U.heap L ∧ B.locs = P.locs ++ L ∧ B.cells = P.cells + 1 ∧ B.slots = P.slots + n) := by
  subst hn hN hb
  refine Back.mono (backArv hZ hw wi E V C K S hz (n32 (by omega)) l0 (by omega) (fun c hc => (hp c hc).2) hfr hlo) (fun P a hp => hp) (fun P a v B hp hq => ?_)
  obtain ⟨L, ⟨q1, q2, q3, q4, q5, q6, q7, ⟨kb, v1, v2⟩, q9⟩, hl, hc, hs⟩ := hq
  exact ⟨L, ⟨q1, fun y hy => by rw [q2 y hy]; exact hx0, q3, q5, q7, h.size, kb, hh0, Nat.le_refl _, Nat.ne_of_gt E.lt, q6, by rw [List.map_map]; exact v2⟩, hl, hc, hs⟩
end StrChars.Road
namespace StrChars
open Jvm Sem ClassFile Op Lib Jvm.Stand Jvm.Free.XT Jvm.Free.ALB Jvm.Free.JM Jvm.Free
open Jvm.Lib.Cold (StaticIs)
def hi8 (x : Int32) : Int32 := lo8 (x >>> ((8 : Int32) &&& 31))
/-- what StringUTF16.getChar makes of two bytes -/
def pairCh (u v : Int32) : Int32 := (((u &&& 255) <<< ((0 : Int32) &&& 31)) ||| ((v &&& 255) <<< ((8 : Int32) &&& 31))).toUInt32.toUInt16.toUInt32.toInt32
theorem shr0 (c : Int32) : c >>> ((0 : Int32) &&& 31) = c := by
  have e : ((0 : Int32) &&& 31) = 0 := by decide
  rw [e]
  apply Int32.toBitVec_inj.mp
  rw [Int32.toBitVec_shiftRight]
  have e1 : ((0 : Int32).toBitVec.smod 32) = 0#32 := by decide
  rw [e1, BitVec.sshiftRight_eq']
  exact BitVec.sshiftRight_zero
theorem lo8_and (x : Int32) : (lo8 x &&& 255).toBitVec.toNat = x.toBitVec.toNat % 256 := by
  have h : (lo8 x).toBitVec = (x.toBitVec.signExtend 8).signExtend 32 := by rw [lo8, Int8.toBitVec_toInt32, Int32.toBitVec_toInt8]
  rw [Int32.toBitVec_and, BitVec.toNat_and, h]
  have e : ((x.toBitVec.signExtend 8).signExtend 32).toNat % 256 = x.toBitVec.toNat % 256 := by
    rw [BitVec.toNat_signExtend]
    have hlt := x.toBitVec.isLt
    simp only [BitVec.toNat_setWidth, BitVec.toNat_signExtend]
    split <;> split <;> omega
  rw [← e]
  exact Nat.and_two_pow_sub_one_eq_mod _ 8
theorem pair_says {c : Int32} (h0 : ¬ c < 0) (h1 : ¬ 65535 < c) : pairCh (lo8 c) (hi8 c) = c := by
  rw [Int32.lt_iff_toInt_lt] at h0 h1
  have e0 : (0 : Int32).toInt = 0 := rfl
  have e1 : (65535 : Int32).toInt = 65535 := rfl
  have hc : c.toInt = c.toBitVec.toNat := by
    have := c.toBitVec.isLt
    have e : c.toInt = c.toBitVec.toInt := rfl
    rw [e] at h0 h1
    rw [e]
    rw [BitVec.toInt_eq_toNat_cond] at h0 h1 ⊢
    split at h0 <;> split <;> omega
  have hn : c.toBitVec.toNat < 65536 := by omega
  have a1 := lo8_and c
  have a2 : (hi8 c &&& 255).toBitVec.toNat = c.toBitVec.toNat / 256 := by
    rw [hi8, lo8_and]
    have e : ((8 : Int32) &&& 31) = 8 := by decide
    rw [e, Int32.toBitVec_shiftRight]
    have e2 : ((8 : Int32).toBitVec.smod 32) = 8#32 := by decide
    rw [e2, BitVec.sshiftRight_eq', BitVec.toNat_sshiftRight_of_msb_false (by rw [BitVec.msb_eq_false_iff_two_mul_lt]; omega)]
    show c.toBitVec.toNat >>> 8 % 256 = _
    rw [Nat.shiftRight_eq_div_pow]
    omega
  unfold pairCh
  apply Int32.toBitVec_inj.mp
  apply BitVec.eq_of_toNat_eq
  have f0 : ((0 : Int32) &&& 31) = 0 := by decide
  have f8 : ((8 : Int32) &&& 31) = 8 := by decide
  rw [f0, f8]
  have g : (((lo8 c &&& 255) <<< (0 : Int32)) ||| ((hi8 c &&& 255) <<< (8 : Int32))).toBitVec.toNat = c.toBitVec.toNat := by
    rw [Int32.toBitVec_or, Int32.toBitVec_shiftLeft, Int32.toBitVec_shiftLeft]
    have s0 : ((0 : Int32).toBitVec.smod 32) = 0#32 := by decide
    have s8 : ((8 : Int32).toBitVec.smod 32) = 8#32 := by decide
    rw [s0, s8, BitVec.toNat_or]
    simp only [BitVec.shiftLeft_eq', BitVec.toNat_shiftLeft, a1, a2]
    show (c.toBitVec.toNat % 256) <<< 0 % 2 ^ 32 ||| (c.toBitVec.toNat / 256) <<< 8 % 2 ^ 32 = _
    rw [Nat.shiftLeft_zero, Nat.mod_eq_of_lt (show c.toBitVec.toNat % 256 < 2 ^ 32 by omega), Nat.mod_eq_of_lt (show (c.toBitVec.toNat / 256) <<< 8 < 2 ^ 32 by rw [Nat.shiftLeft_eq]; omega), Nat.or_comm, ← Nat.shiftLeft_add_eq_or_of_lt (by omega), Nat.shiftLeft_eq]
    omega
  show BitVec.toNat (((((lo8 c &&& 255) <<< (0 : Int32)) ||| ((hi8 c &&& 255) <<< (8 : Int32))).toBitVec.setWidth 16).setWidth 32) = _
  rw [BitVec.toNat_setWidth, BitVec.toNat_setWidth, g]
  omega
end StrChars
namespace StrChars
open Jvm Sem ClassFile Op Lib Jvm.Stand Jvm.Free.XT Jvm.Free.ALB Jvm.Free.JM Jvm.Free
open Jvm.Lib.Cold (StaticIs)
theorem shr1 {n : Nat} (h : 2 * n < 2 ^ 31) : Int32.ofNat (2 * n) >>> ((1 : Int32) &&& 31) = Int32.ofNat n := by
  have e : ((1 : Int32) &&& 31) = 1 := by decide
  rw [e]
  apply Int32.toBitVec_inj.mp
  rw [Int32.toBitVec_shiftRight]
  have e1 : ((1 : Int32).toBitVec.smod 32) = 1#32 := by decide
  have hm : (BitVec.ofNat 32 (2 * n)).toNat = 2 * n := by rw [BitVec.toNat_ofNat, Nat.mod_eq_of_lt (by omega)]
  rw [e1, BitVec.sshiftRight_eq']
  apply BitVec.eq_of_toNat_eq
  show ((BitVec.ofNat 32 (2 * n)).sshiftRight 1).toNat = (BitVec.ofNat 32 n).toNat
  rw [BitVec.toNat_sshiftRight_of_msb_false (by rw [BitVec.msb_eq_false_iff_two_mul_lt, hm]; omega), hm, BitVec.toNat_ofNat, Nat.shiftRight_eq_div_pow]
  omega
/-- charAt's cast of a byte read back -/
def chr8 (u : Int32) : Int32 := (u &&& 255).toUInt32.toUInt16.toUInt32.toInt32
theorem chr8_lo8 {c : Int32} (h0 : ¬ c < 0) (h1 : ¬ 255 < c) : chr8 (lo8 c) = c := by
  have t : ∀ k : Fin 256, (Int32.ofNat k.val).toUInt32.toUInt16.toUInt32.toInt32 = Int32.ofNat k.val := by decide +kernel
  unfold chr8
  rw [lo8_mask h0 h1]
  rw [Int32.lt_iff_toInt_lt] at h0 h1
  have e0 : (0 : Int32).toInt = 0 := rfl
  have e1 : (255 : Int32).toInt = 255 := rfl
  obtain ⟨k, hk⟩ : ∃ k : Nat, c.toInt = k := ⟨c.toInt.toNat, by omega⟩
  have hx : c = Int32.ofNat k := Int32.toInt_inj.mp (by rw [hk, Int32.toInt_ofNat_small (by omega)])
  rw [hx]
  exact t ⟨k, by omega⟩
theorem narrow_ch {c : Int32} (h0 : ¬ c < 0) (h1 : ¬ 65535 < c) : narrow .char (.int c) = .int c := by
  have q : narrow .char (.int (pairCh (lo8 c) (hi8 c))) = .int (pairCh (lo8 c) (hi8 c)) := narrow_c _
  rwa [pair_says h0 h1] at q
/-- the array's cell V codes the n chars f 0 .. f (n - 1) by the coder cd, as the JDK does: coder 1 just where some char is above 255 -/
def Cod (cd : Int32) (n : Nat) (f : Nat → Int32) (V : Cell) : Prop := (cd = 0 ∧ V.slots.size = n ∧ ∀ j, j < n → V.slots[j]? = some (.int (lo8 (f j))) ∧ ¬ 255 < f j) ∨ (cd = 1 ∧ V.slots.size = 2 * n ∧ (∀ j, j < n → V.slots[2 * j]? = some (.int (lo8 (f j))) ∧ V.slots[2 * j + 1]? = some (.int (hi8 (f j)))) ∧ ∃ j, j < n ∧ 255 < f j)
theorem Cod.cd {cd : Int32} {n : Nat} {f : Nat → Int32} {V : Cell} (h : Cod cd n f V) : cd = 0 ∨ cd = 1 := h.imp (fun q => q.1) fun q => q.1
theorem Cod.len {cd : Int32} {n : Nat} {f : Nat → Int32} {V : Cell} (h : Cod cd n f V) (hs : V.slots.size < 2 ^ 31) : Int32.ofNat V.slots.size >>> (cd &&& 31) = Int32.ofNat n := by
  rcases h with ⟨rfl, h, -⟩ | ⟨rfl, h, -⟩
  · rw [shr0, h]
  · rw [h, shr1 (by omega)]
/-- **x is a String of the n chars f 0 .. f (n - 1)**, Latin-1 or UTF-16; its array at t has the cell V -/
def Txt (x t : Addr) (V : Cell) (cd : Int32) (n : Nat) (f : Nat → Int32) (U : State) : Prop := Exact "java/lang/String" x U ∧ Has x "java/lang/String" "value" "[B" (.ref t) U ∧ Has x "java/lang/String" "coder" "B" (.int cd) U ∧ XT.Arr .byte t V U ∧ Cod cd n f V ∧ ∀ j, j < n → ¬ f j < 0 ∧ ¬ 65535 < f j
theorem Txt.mv {x t : Addr} {V : Cell} {cd : Int32} {n : Nat} {f : Nat → Int32} {U U' : State} (h : Txt x t V cd n f U) (hal : U.vm.Alike U'.vm) (hh : U'.heap = U.heap) : Txt x t V cd n f U' := ⟨h.1.mv hal hh, h.2.1.mv hal hh, h.2.2.1.mv hal hh, h.2.2.2.1.mv hal hh, h.2.2.2.2⟩
namespace Cdr
def yN : MethodName := ⟨"java/lang/String", "coder", "()B"⟩
abbrev yB : ByteArray := jdk_42_method_152_code
theorem d0 : decode yB 0 = .ok (.getstatic 38, 3) := by decide +kernel
theorem d3 : decode yB 3 = .ok (.ifCond (.eq) 10, 3) := by decide +kernel
theorem d6 : decode yB 6 = .ok (.aload_n 0, 1) := by decide +kernel
theorem d7 : decode yB 7 = .ok (.getfield 15, 3) := by decide +kernel
theorem d10 : decode yB 10 = .ok (.goto 4, 3) := by decide +kernel
theorem d14 : decode yB 14 = .ok (.ireturn, 1) := by decide +kernel
def site : List Cond := [.fieldLink "java/lang/String" 38 "java/lang/String" "COMPACT_STRINGS" "Z", .fieldLink "java/lang/String" 15 "java/lang/String" "coder" "B"]
def tab : Cond := tabOf yN yB 1 (some .byte) site
def P (x : Addr) (cd z : Int32) (args : Array Value) (s : State) : Prop := args = #[.ref x] ∧ Has x "java/lang/String" "coder" "B" (.int cd) s ∧ (cd = 0 ∨ cd = 1) ∧ StaticIs s "java/lang/String" "COMPACT_STRINGS" "Z" (.int z) ∧ ¬ z = 0
def E (cd : Int32) (r : Option Value) (s u : State) : Prop := XT.PureE (some (.int cd)) r s u
theorem law (l : Launch) (x : Addr) (cd z : Int32) : Law l yN 1 0 0 0 yB 1 (some .byte) site (P x cd z) (E cd) [] 0 0 := by
  refine Law.of_walk (plainFor_of_name (by decide +kernel)) (by decide +kernel) (by decide +kernel) (by decide) (fun _ _ h => by rw [h.1]; rfl) (fun _ U U' hal hh h => ⟨h.1, h.2.1.mv hal hh, h.2.2.1, h.2.2.2.1.there hal hh, h.2.2.2.2⟩) (fun r U U' V V' h1 hal h2 h => XT.PureE.mv r U U' V V' h1 hal h2 h) ?_
  intro p e s m args below meth c s₁ X0 hexec hbytes hml hret hlk hnm hown hh0 W hP
  obtain ⟨rfl, hx, hc, s1, hz⟩ := hP
  have c1 : Steps p.tables e below (s₁.setTop (entryFrame m #[.ref x] 1)) (s₁.setTop (mkF m 0 #[.val (.ref x)] [])) := entry rfl
  obtain ⟨T2, X2, q2, st2⟩ := X0.sget hexec hown (wk W (.fieldLink "java/lang/String" 38 "java/lang/String" "COMPACT_STRINGS" "Z")) s1 (fun _ _ h => by rw [hh0]; exact h) (g := (mkF m 0 #[.val (.ref x)] [])) rfl (hb hbytes d0)
  have hh2 := q2.trans hh0
  have c3 : Steps p.tables e below (s₁.setTop (entryFrame m #[.ref x] 1)) (T2.setTop (mkF m 7 #[.val (.ref x)] [.ref x])) := (c1.trans (st2 _ (Steps.refl _))).trans (by
    refine XS.ifNo X2.here hexec rfl (hb hbytes d3) rfl (i0_eq_f hz) ?_
    refine XS.aloadN X2.here hexec rfl (hb hbytes d6) rfl rfl ?_
    exact Steps.refl _)
  obtain ⟨T4, X4, q4, st4⟩ := X2.hget hexec hown (wk W (.fieldLink "java/lang/String" 15 "java/lang/String" "coder" "B")) (hx.mv X2.warmed.alike hh2) (g := (mkF m 7 #[.val (.ref x)] [.ref x])) rfl (rest := []) rfl (hb hbytes d7)
  have c5 : Steps p.tables e below (s₁.setTop (entryFrame m #[.ref x] 1)) (T4.setTop (mkF m 14 #[.val (.ref x)] [.int cd])) := (c3.trans (st4 _ (Steps.refl _))).trans (by
    refine XS.goto X4.here hexec rfl (pc0 := 10) rfl (hb hbytes d10) (by decide) rfl ?_
    exact Steps.refl _)
  exact ⟨T4, some (.int cd), _, _, _, X4, rfl, rfl, rfl, (fun h => by cases h), ⟨rfl, q4.trans hh2⟩, fun fs hl => c5.trans (X4.ireturnOut hexec hret (by rcases hc with rfl | rfl <;> rfl) (Or.inr (Or.inr (Or.inl rfl))) (hb hbytes d14) hl)⟩
end Cdr
namespace Len
def yN : MethodName := ⟨"java/lang/String", "length", "()I"⟩
abbrev yB : ByteArray := jdk_42_method_54_code
theorem d0 : decode yB 0 = .ok (.aload_n 0, 1) := by decide +kernel
theorem d1 : decode yB 1 = .ok (.getfield 9, 3) := by decide +kernel
theorem d4 : decode yB 4 = .ok (.arraylength, 1) := by decide +kernel
theorem d5 : decode yB 5 = .ok (.aload_n 0, 1) := by decide +kernel
theorem d6 : decode yB 6 = .ok (.invokevirtual 335, 3) := by decide +kernel
theorem d9 : decode yB 9 = .ok (.ishr, 1) := by decide +kernel
theorem d10 : decode yB 10 = .ok (.ireturn, 1) := by decide +kernel
def site : List Cond := [.fieldLink "java/lang/String" 9 "java/lang/String" "value" "[B", Cdr.tab] ++ virtW "java/lang/String" 335 "java/lang/String" Cdr.yN Cdr.yN
def tab : Cond := tabOf yN yB 1 (some .int) site
def P (x t : Addr) (V : Cell) (cd : Int32) (n : Nat) (f : Nat → Int32) (z : Int32) (args : Array Value) (s : State) : Prop := args = #[.ref x] ∧ Txt x t V cd n f s ∧ StaticIs s "java/lang/String" "COMPACT_STRINGS" "Z" (.int z) ∧ ¬ z = 0
def E (n : Nat) (r : Option Value) (s u : State) : Prop := XT.PureE (some (.int (Int32.ofNat n))) r s u
/-- length() of a String of n chars, in either coding -/
theorem law (l : Launch) (x t : Addr) (V : Cell) (cd : Int32) (n : Nat) (f : Nat → Int32) (z : Int32) : Law l yN 1 0 1 13 yB 1 (some .int) site (P x t V cd n f z) (E n) [] 0 0 := by
  refine Law.of_walk (plainFor_of_name (by decide +kernel)) (by decide +kernel) (by decide +kernel) (by decide) (fun _ _ h => by rw [h.1]; rfl) (fun _ U U' hal hh h => ⟨h.1, h.2.1.mv hal hh, h.2.2.1.there hal hh, h.2.2.2⟩) (fun r U U' V V' h1 hal h2 h => XT.PureE.mv r U U' V V' h1 hal h2 h) ?_
  intro p e s m args below meth c s₁ X0 hexec hbytes hml hret hlk hnm hown hh0 W hP
  obtain ⟨rfl, hx, s1, hz⟩ := hP
  have v31 := hx.2.2.2.1.2.2.2
  have c1 : Steps p.tables e below (s₁.setTop (entryFrame m #[.ref x] 1)) (s₁.setTop (mkF m 1 #[.val (.ref x)] [.ref x])) := Steps.trans (entry rfl) (by
    show Steps p.tables e below (s₁.setTop (mkF m 0 #[.val (.ref x)] [])) _
    refine XS.aloadN X0.here hexec rfl (hb hbytes d0) rfl rfl ?_
    exact Steps.refl _)
  obtain ⟨T2, X2, q2, st2⟩ := X0.hget hexec hown (wk W (.fieldLink "java/lang/String" 9 "java/lang/String" "value" "[B")) (hx.mv X0.warmed.alike hh0).2.1 (g := (mkF m 1 #[.val (.ref x)] [.ref x])) rfl (rest := []) rfl (hb hbytes d1)
  have hh2 := q2.trans hh0
  have hx2 := hx.mv X2.warmed.alike hh2
  have c3 : Steps p.tables e below (s₁.setTop (entryFrame m #[.ref x] 1)) (T2.setTop (mkF m 6 #[.val (.ref x)] [.ref x, .int (Int32.ofNat V.slots.size)])) := (c1.trans (st2 _ (Steps.refl _))).trans (by
    refine X2.alen hexec hx2.2.2.2.1 rfl rfl (hb hbytes d4) ?_
    refine XS.aloadN X2.here hexec rfl (hb hbytes d5) rfl rfl ?_
    exact Steps.refl _)
  obtain ⟨v4, T4, X4, E4, g4⟩ := X2.callV hexec (Cdr.law l x cd z) hown (wks W (virtW "java/lang/String" 335 "java/lang/String" Cdr.yN Cdr.yN)) rfl (by decide) (wk W Cdr.tab) (W := 1) (Nat.le_of_ble_eq_true rfl) (Nat.le_of_ble_eq_true rfl) (Nat.le_refl _) (Nat.le_refl _) (hx2.1.fc X2.warmed.alike) hx2.1.is (g := (mkF m 6 #[.val (.ref x)] [.ref x, .int (Int32.ofNat V.slots.size)])) rfl (by rw [hml]; rfl) c3 (argsL := []) (rest := [.int (Int32.ofNat V.slots.size)]) rfl rfl (by show 2 * 0 + (1 + 0) ≤ _; decide) (hb hbytes d6) (⟨rfl, hx2.2.2.1, hx.2.2.2.2.1.cd, s1.there X2.warmed.alike hh2, hz⟩)
  obtain ⟨rfl, q4⟩ := E4
  have c5 : Steps p.tables e below (s₁.setTop (entryFrame m #[.ref x] 1)) (T4.setTop (mkF m 10 #[.val (.ref x)] [.int (Int32.ofNat V.slots.size >>> (cd &&& 31))])) := Steps.trans g4 (by
    refine ishr X4.here hexec rfl (hb hbytes d9) rfl ?_
    exact Steps.refl _)
  rw [hx.2.2.2.2.1.len v31] at c5
  exact ⟨T4, some (.int (Int32.ofNat n)), _, _, _, X4, rfl, rfl, rfl, (fun h => by cases h), ⟨rfl, q4.trans hh2⟩, fun fs hl => c5.trans (X4.ireturnOut hexec hret rfl (Or.inl rfl) (hb hbytes d10) hl)⟩
theorem pays {l : Launch} {R : Room} {p : Program} {e : Env} {below : List Frame} {s : State} {sargs : Array Value} {len W : Nat} (x t : Addr) (V : Cell) (cd : Int32) (n : Nat) (f : Nat → Int32) (z : Int32) (htab : tab.before sargs s = true) (hfr : 2 ≤ R.frames) (hlo : W + 25 ≤ R.locals) :
    Back l R p e below s sargs yN len W (fun A₁ a₁ => A₁.cells + 0 ≤ R.cells ∧ A₁.slots + 0 ≤ R.slots ∧ P x t V cd n f z a₁ A₁.U) (fun A₁ _ v₁ B₁ => E n v₁ A₁.U B₁.U ∧ B₁.locs = A₁.locs ++ [] ∧ B₁.cells = A₁.cells + 0 ∧ B₁.slots = A₁.slots + 0) :=
  (law l x t V cd n f z).pays htab hfr (by omega)
end Len
namespace IsL
def yN : MethodName := ⟨"java/lang/String", "isLatin1", "()Z"⟩
abbrev yB : ByteArray := jdk_42_method_154_code
theorem d0 : decode yB 0 = .ok (.getstatic 38, 3) := by decide +kernel
theorem d3 : decode yB 3 = .ok (.ifCond (.eq) 14, 3) := by decide +kernel
theorem d6 : decode yB 6 = .ok (.aload_n 0, 1) := by decide +kernel
theorem d7 : decode yB 7 = .ok (.getfield 15, 3) := by decide +kernel
theorem d10 : decode yB 10 = .ok (.ifCond (.ne) 7, 3) := by decide +kernel
theorem d13 : decode yB 13 = .ok (.iconst 1, 1) := by decide +kernel
theorem d14 : decode yB 14 = .ok (.goto 4, 3) := by decide +kernel
theorem d17 : decode yB 17 = .ok (.iconst 0, 1) := by decide +kernel
theorem d18 : decode yB 18 = .ok (.ireturn, 1) := by decide +kernel
def site : List Cond := [.fieldLink "java/lang/String" 38 "java/lang/String" "COMPACT_STRINGS" "Z", .fieldLink "java/lang/String" 15 "java/lang/String" "coder" "B"]
def tab : Cond := tabOf yN yB 1 (some .boolean) site
def P (x : Addr) (cd z : Int32) (args : Array Value) (s : State) : Prop := args = #[.ref x] ∧ Has x "java/lang/String" "coder" "B" (.int cd) s ∧ (cd = 0 ∨ cd = 1) ∧ StaticIs s "java/lang/String" "COMPACT_STRINGS" "Z" (.int z) ∧ ¬ z = 0
def E (cd : Int32) (r : Option Value) (s u : State) : Prop := XT.PureE (some (.int (1 - cd))) r s u
theorem law (l : Launch) (x : Addr) (cd z : Int32) : Law l yN 1 0 0 0 yB 1 (some .boolean) site (P x cd z) (E cd) [] 0 0 := by
  refine Law.of_walk (plainFor_of_name (by decide +kernel)) (by decide +kernel) (by decide +kernel) (by decide) (fun _ _ h => by rw [h.1]; rfl) (fun _ U U' hal hh h => ⟨h.1, h.2.1.mv hal hh, h.2.2.1, h.2.2.2.1.there hal hh, h.2.2.2.2⟩) (fun r U U' V V' h1 hal h2 h => XT.PureE.mv r U U' V V' h1 hal h2 h) ?_
  intro p e s m args below meth c s₁ X0 hexec hbytes hml hret hlk hnm hown hh0 W hP
  obtain ⟨rfl, hx, hc, s1, hz⟩ := hP
  have c1 : Steps p.tables e below (s₁.setTop (entryFrame m #[.ref x] 1)) (s₁.setTop (mkF m 0 #[.val (.ref x)] [])) := entry rfl
  obtain ⟨T2, X2, q2, st2⟩ := X0.sget hexec hown (wk W (.fieldLink "java/lang/String" 38 "java/lang/String" "COMPACT_STRINGS" "Z")) s1 (fun _ _ h => by rw [hh0]; exact h) (g := (mkF m 0 #[.val (.ref x)] [])) rfl (hb hbytes d0)
  have hh2 := q2.trans hh0
  have c3 : Steps p.tables e below (s₁.setTop (entryFrame m #[.ref x] 1)) (T2.setTop (mkF m 7 #[.val (.ref x)] [.ref x])) := (c1.trans (st2 _ (Steps.refl _))).trans (by
    refine XS.ifNo X2.here hexec rfl (hb hbytes d3) rfl (i0_eq_f hz) ?_
    refine XS.aloadN X2.here hexec rfl (hb hbytes d6) rfl rfl ?_
    exact Steps.refl _)
  obtain ⟨T4, X4, q4, st4⟩ := X2.hget hexec hown (wk W (.fieldLink "java/lang/String" 15 "java/lang/String" "coder" "B")) (hx.mv X2.warmed.alike hh2) (g := (mkF m 7 #[.val (.ref x)] [.ref x])) rfl (rest := []) rfl (hb hbytes d7)
  have c5 : Steps p.tables e below (s₁.setTop (entryFrame m #[.ref x] 1)) (T4.setTop (mkF m 10 #[.val (.ref x)] [.int cd])) := c3.trans (st4 _ (Steps.refl _))
  have c6 : Steps p.tables e below (s₁.setTop (entryFrame m #[.ref x] 1)) (T4.setTop (mkF m 18 #[.val (.ref x)] [.int (1 - cd)])) := by
    rcases hc with rfl | rfl
    · exact c5.trans (by
        refine XS.ifNo X4.here hexec rfl (hb hbytes d10) rfl (i0_ne_f rfl) ?_
        refine iconstV X4.here hexec rfl 1 (hb hbytes d13) (by decide) ?_
        refine XS.goto X4.here hexec rfl (pc0 := 14) rfl (hb hbytes d14) (by decide) rfl ?_
        exact Steps.refl _)
    · exact c5.trans (by
        refine XS.ifYes X4.here hexec rfl (pc0 := 10) rfl (hb hbytes d10) rfl (i0_ne_t (by decide)) (by decide) rfl ?_
        refine iconstV X4.here hexec rfl 0 (hb hbytes d17) (by decide) ?_
        exact Steps.refl _)
  exact ⟨T4, some (.int (1 - cd)), _, _, _, X4, rfl, rfl, rfl, (fun h => by cases h), ⟨rfl, q4.trans hh2⟩, fun fs hl => c6.trans (X4.ireturnOut hexec hret (by rcases hc with rfl | rfl <;> rfl) (Or.inr (Or.inl rfl)) (hb hbytes d18) hl)⟩
end IsL
namespace LChA
def yN : MethodName := ⟨"java/lang/StringLatin1", "charAt", "([BI)C"⟩
abbrev yB : ByteArray := jdk_43_method_2_code
theorem d0 : decode yB 0 = .ok (.iload_n 1, 1) := by decide +kernel
theorem d1 : decode yB 1 = .ok (.aload_n 0, 1) := by decide +kernel
theorem d2 : decode yB 2 = .ok (.arraylength, 1) := by decide +kernel
theorem d3 : decode yB 3 = .ok (.invokestatic 9, 3) := by decide +kernel
theorem d6 : decode yB 6 = .ok (.aload_n 0, 1) := by decide +kernel
theorem d7 : decode yB 7 = .ok (.iload_n 1, 1) := by decide +kernel
theorem d8 : decode yB 8 = .ok (.baload, 1) := by decide +kernel
theorem d9 : decode yB 9 = .ok (.sipush 255, 3) := by decide +kernel
theorem d12 : decode yB 12 = .ok (.iand, 1) := by decide +kernel
theorem d13 : decode yB 13 = .ok (.i2c, 1) := by decide +kernel
theorem d14 : decode yB 14 = .ok (.ireturn, 1) := by decide +kernel
def site : List Cond := [JO.Str_checkIndex.tab] ++ staticW "java/lang/StringLatin1" 9 JO.Str_checkIndex.yN
def tab : Cond := tabOf yN yB 2 (some .char) site
def P (t : Addr) (V : Cell) (i : Nat) (u : Int32) (fm : Value) (args : Array Value) (s : State) : Prop := args = #[.ref t, .int (Int32.ofNat i)] ∧ XT.Arr .byte t V s ∧ V.slots[i]? = some (.int u) ∧ (StaticIs s "jdk/internal/util/Preconditions" "SIOOBE_FORMATTER" "Ljava/util/function/BiFunction;" fm ∧ fm.isRef = true)
def E (u : Int32) (r : Option Value) (s w : State) : Prop := XT.PureE (some (.int (chr8 u))) r s w
theorem law (l : Launch) (t : Addr) (V : Cell) (i : Nat) (u : Int32) (fm : Value) : Law l yN 2 2 2 27 yB 2 (some .char) site (P t V i u fm) (E u) [] 0 0 := by
  refine Law.of_walk (plainFor_of_name (by decide +kernel)) (by decide +kernel) (by decide +kernel) (by decide) (fun _ _ h => by rw [h.1]; rfl) (fun _ U U' hal hh h => ⟨h.1, h.2.1.mv hal hh, h.2.2.1, h.2.2.2.1.there hal hh, h.2.2.2.2⟩) (fun r U U' V V' h1 hal h2 h => XT.PureE.mv r U U' V V' h1 hal h2 h) ?_
  intro p e s m args below meth c s₁ X0 hexec hbytes hml hret hlk hnm hown hh0 W hP
  obtain ⟨rfl, hV, hu, s1, rf⟩ := hP
  have v31 := hV.2.2.2
  have hi : i < V.slots.size := (Array.getElem?_eq_some_iff.mp hu).1
  have c1 : Steps p.tables e below (s₁.setTop (entryFrame m #[.ref t, .int (Int32.ofNat i)] 2)) (s₁.setTop (mkF m 0 #[.val (.ref t), .val (.int (Int32.ofNat i))] [])) := entry rfl
  have c2 : Steps p.tables e below (s₁.setTop (entryFrame m #[.ref t, .int (Int32.ofNat i)] 2)) (s₁.setTop (mkF m 3 #[.val (.ref t), .val (.int (Int32.ofNat i))] [.int (Int32.ofNat V.slots.size), .int (Int32.ofNat i)])) := c1.trans (by
    refine XS.iloadN X0.here hexec rfl (hb hbytes d0) rfl ?_
    refine XS.aloadN X0.here hexec rfl (hb hbytes d1) rfl rfl ?_
    refine X0.alen hexec (hV.mv X0.warmed.alike hh0) rfl rfl (hb hbytes d2) ?_
    exact Steps.refl _)
  obtain ⟨v3, T3, X3, E3, g3⟩ := X0.callS hexec (JO.Str_checkIndex.law l (Int32.ofNat i) (Int32.ofNat V.slots.size) fm) hown (wks W (staticW "java/lang/StringLatin1" 9 JO.Str_checkIndex.yN)) (wk W JO.Str_checkIndex.tab) (W := 0) (Nat.le_of_ble_eq_true rfl) (Nat.le_of_ble_eq_true rfl) (Nat.le_refl _) (Nat.le_refl _) (g := (mkF m 3 #[.val (.ref t), .val (.int (Int32.ofNat i))] [.int (Int32.ofNat V.slots.size), .int (Int32.ofNat i)])) rfl (by rw [hml]; rfl) c2 (argsL := [.int (Int32.ofNat i), .int (Int32.ofNat V.slots.size)]) (rest := []) rfl rfl (by show 2 * 0 + 0 ≤ _; decide) (hb hbytes d3) (⟨rfl, rf, s1.there X0.warmed.alike hh0, Int32.ofNat_not_neg (by omega), lt32 v31 hi⟩)
  obtain ⟨rfl, q3⟩ := E3
  have hh3 := q3.trans hh0
  have c4 : Steps p.tables e below (s₁.setTop (entryFrame m #[.ref t, .int (Int32.ofNat i)] 2)) (T3.setTop (mkF m 14 #[.val (.ref t), .val (.int (Int32.ofNat i))] [.int (chr8 u)])) := Steps.trans g3 (by
    refine XS.aloadN X3.here hexec rfl (hb hbytes d6) rfl rfl ?_
    refine XS.iloadN X3.here hexec rfl (hb hbytes d7) rfl ?_
    refine X3.aget hexec (hV.mv X3.warmed.alike hh3) rfl hu rfl rfl (hb hbytes d8) ?_
    refine sipushV X3.here hexec rfl 255 (hb hbytes d9) (by decide) ?_
    refine XS.iand X3.here hexec rfl (hb hbytes d12) rfl ?_
    refine i2c X3.here hexec rfl (hb hbytes d13) rfl ?_
    exact Steps.refl _)
  exact ⟨T3, some (.int (chr8 u)), _, _, _, X3, rfl, rfl, rfl, (fun h => by cases h), ⟨rfl, hh3⟩, fun fs hl => c4.trans (X3.ireturnOut hexec hret (narrow_c _) (Or.inr (Or.inr (Or.inr (Or.inl rfl)))) (hb hbytes d14) hl)⟩
end LChA
end StrChars
namespace StrChars.Road
open Jvm Sem ClassFile Op Lib Jvm.Stand Jvm.Free Jvm.Free.XT
open Jvm.Lib.Cold (StaticIs)
theorem consq {a : Array Value} {s : State} {c : Jvm.Cond} {L : List Jvm.Cond} (h0 : c.before a s = true) (h : ∀ w ∈ L, w.before a s = true) : ∀ w ∈ c :: L, w.before a s = true := fun w hw => (List.mem_cons.mp hw).elim (fun e => e ▸ h0) (h w)
/-- the words of String.length(), either coding -/
abbrev wordsLen : List Jvm.Cond := [.code Len.yN Len.yB 1 (some .int), .initialized ST, .fieldLink ST 9 ST "value" "[B", .fieldLink ST 38 ST "COMPACT_STRINGS" "Z", .fieldLink ST 15 ST "coder" "B", .code Cdr.yN Cdr.yB 1 (some .byte), .methodLink ST 335 Cdr.yN, .declares Cdr.yN, .selects ST Cdr.yN Cdr.yN, .instanceMethod Cdr.yN]
theorem tabLen_of {a : Array Value} {s : State} (h : ∀ w ∈ wordsLen, w.before a s = true) : Len.tab.before a s = true := by
  have hc : Cdr.tab.before a s = true := unparts (wk h (.code Cdr.yN Cdr.yB 1 (some .byte))) (wks h (.initialized Cdr.yN.cls :: Cdr.site))
  have q := consq hc h
  exact unparts (wk q (.code Len.yN Len.yB 1 (some .int))) (wks q (.initialized Len.yN.cls :: Len.site))
theorem movedLen {Z s : State} {a0 args : Array Value} (hZ : Z.Warmed39 s.vm) (hw : ∀ d ∈ wordsLen, d.before a0 Z = true) : ∀ d ∈ wordsLen, d.before args s = true := fun d hd => by
  have q := hw d hd
  have t : ∀ d ∈ wordsLen, d = .arrayClass .byte ∨ (d.onTables && d.keepsFace) = true := by decide +kernel
  rcases t d hd with rfl | t
  · exact RoadKit.mvA hZ q
  · exact RoadKit.mv hZ q t
/-- the bytes of the chars cs, low before high -/
def wideBytes : List Int32 → List Value
  | [] => []
  | c :: cs => .int (lo8 c) :: .int (hi8 c) :: wideBytes cs
theorem wide_lo (d : Value) : ∀ (cs : List Int32) (j : Nat), j < cs.length → (wideBytes cs).getD (2 * j) d = .int (lo8 (cs.getD j 0))
  | [], j, h => absurd h (Nat.not_lt_zero j)
  | c :: cs, 0, _ => rfl
  | c :: cs, j + 1, h => by
    have q := wide_lo d cs j (by simpa using h)
    rw [show 2 * (j + 1) = 2 * j + 1 + 1 from by omega]
    simpa [wideBytes] using q
theorem wide_hi (d : Value) : ∀ (cs : List Int32) (j : Nat), j < cs.length → (wideBytes cs).getD (2 * j + 1) d = .int (hi8 (cs.getD j 0))
  | [], j, h => absurd h (Nat.not_lt_zero j)
  | c :: cs, 0, _ => rfl
  | c :: cs, j + 1, h => by
    have q := wide_hi d cs j (by simpa using h)
    rw [show 2 * (j + 1) + 1 = 2 * j + 1 + 1 + 1 from by omega]
    simpa [wideBytes] using q
theorem low_at (d : Value) (cs : List Int32) (j : Nat) (h : j < cs.length) : (cs.map fun c => Value.int (lo8 c)).getD j d = .int (lo8 (cs.getD j 0)) := by
  simp [List.getD_eq_getElem?_getD, h]
/-- an array of N2 bytes vs codes the chars cs by the coder cd -/
def CodA (cs : List Int32) (cd N2 : Int32) (vs : List Value) : Prop := (cd = 0 ∧ N2 = Int32.ofNat cs.length ∧ vs = (cs.map fun c => Value.int (lo8 c)) ∧ ∀ c ∈ cs, ¬ 255 < c) ∨ (cd = 1 ∧ N2 = Int32.ofNat (2 * cs.length) ∧ vs = wideBytes cs ∧ ∃ c ∈ cs, 255 < c)
theorem CodA.cod {cs : List Int32} {cd N2 : Int32} {vs : List Value} {V : Cell} (h : CodA cs cd N2 vs) (hn : 2 * cs.length < 2 ^ 31) (hs : V.slots.size = N2.toNatClampNeg) (hv : RoadKit.Has V vs (.int 0)) : Cod cd cs.length (fun j => cs.getD j 0) V := by
  rcases h with ⟨rfl, rfl, rfl, h⟩ | ⟨rfl, rfl, rfl, c, hc, hw⟩
  · rw [n32 (by omega)] at hs
    exact Or.inl ⟨rfl, hs, fun j hj => ⟨by rw [hv j (by omega), low_at _ _ _ hj], by
      have e : cs.getD j 0 = cs[j] := by simp [List.getD_eq_getElem?_getD, hj]
      show ¬ 255 < cs.getD j 0
      rw [e]; exact h _ (List.getElem_mem _)⟩⟩
  · rw [n32 (by omega)] at hs
    obtain ⟨j, hj, rfl⟩ := List.getElem_of_mem hc
    exact Or.inr ⟨rfl, hs, fun j hj => ⟨by rw [hv _ (by omega), wide_lo _ _ _ hj], by rw [hv _ (by omega), wide_hi _ _ _ hj]⟩, j, hj, by
      have e : cs.getD j 0 = cs[j] := by simp [List.getD_eq_getElem?_getD, hj]
      show 255 < cs.getD j 0
      rw [e]; exact hw⟩
/-- an object of exactly java/lang/String, its two fields found: as the laws ask it -/
theorem strObj {Z U : State} {a0 : Array Value} {kI : Nat} (wi : (Jvm.Cond.instantiable ST kI).before a0 Z = true) (al : Z.vm.Alike U.vm) {x : Addr} {v0 c0 : Value} (E : RoadKit.Exa Z U.heap x ST) (V : RoadKit.Fld Z U.heap x ST "value" "[B" v0) (C : RoadKit.Fld Z U.heap x ST "coder" "B" c0) :
    ∃ (D : Cell) (fV fC : Field), Blank ST x D U ∧ Found ST "value" "[B" fV U ∧ Found ST "coder" "B" fC U ∧ D.slots[fV.slot]? = some v0 ∧ D.slots[fC.slot]? = some c0 ∧ RoadKit.slotOf Z ST "value" "[B" = fV.slot ∧ RoadKit.slotOf Z ST "coder" "B" = fC.slot := by
  obtain ⟨D, cfV, kV, iV, fV, hD, gV, stV, knV, obV, asV, slV⟩ := V
  obtain ⟨D', cfC, kC, iC, fC, hD', gC, stC, -, -, asC, slC⟩ := C
  cases hD.symm.trans hD'
  obtain ⟨D2, kD, e1, e2, e3, e4, e5⟩ := E
  cases hD.symm.trans e1
  obtain ⟨c2, k2, i1, i2, i3, -⟩ := Cond.instantiable_spec wi
  cases e2.symm.trans i1
  cases e3.symm.trans i2
  obtain ⟨kU, u1, u2⟩ := al.2.2 _ _ e3
  exact ⟨D, fV, fC, ⟨hD, ⟨knV, fun q hq => by rw [hq] at obV; cases obV⟩, by rw [al.findClass]; exact e2, kU, u1, by rw [u2]; exact i3, by rw [u2]; exact e5 i3⟩, ⟨SBG.found_only al ⟨cfV, kV, iV, gV⟩, stV⟩, ⟨SBG.found_only al ⟨cfC, kC, iC, gC⟩, stC⟩, slV, slC, by simp [RoadKit.slotOf, gV], by simp [RoadKit.slotOf, gC]⟩
theorem sta_is {Z U : State} (al : Z.vm.Alike U.vm) {C n d : String} {v : Value} (S : RoadKit.Sta Z U.heap C n d v) : StaticIs U C n d v := by
  obtain ⟨cfS, iS, kS, fS, st, cS, t1, t2, t3, t4, t5, t6, t7⟩ := S
  exact StaticIs.there (s := { Z with heap := U.heap }) ⟨cfS, iS, kS, fS, st, cS, t1, t2, t3, t4, t5, (fun q => by rw [q] at t6; cases t6), t7⟩ al rfl
/-- **length() OF SUCH A STRING** -/
theorem lenW {p : Program} {l : Launch} {e : Env} {R : Room} {s : State} {args : Array Value} {below : List Frame} {len W : Nat} {Z : State} {a0 : Array Value} {h : Heap} (hZ : Z.Warmed39 s.vm) (hw : ∀ d ∈ wordsLen, d.before a0 Z = true) {kI : Nat} (wi : (Jvm.Cond.instantiable ST kI).before a0 Z = true)
    {x t : Addr} {kb : ClassId} {cs : List Int32} {cd N2 z : Int32} {vs : List Value} (E : RoadKit.Exa Z h x ST) (V : RoadKit.Fld Z h x ST "value" "[B" (.ref t)) (C : RoadKit.Fld Z h x ST "coder" "B" (.int cd)) (K : RoadKit.Arv Z h t kb .byte N2 vs (.int 0)) (hc : CodA cs cd N2 vs) (hb : ∀ c ∈ cs, ¬ c < 0 ∧ ¬ (65535 : Int32) < c)
    (S : RoadKit.Sta Z h ST "COMPACT_STRINGS" "Z" (.int z)) (hz : ¬ z = 0) (l2 : cs.length ≤ 4000) (hfr : 2 ≤ R.frames) (hlo : W + 25 ≤ R.locals) :
    Back l R p e below s args (⟨"java/lang/String", "length", "()I"⟩ : MethodName) len W (fun P a => a = #[.ref x] ∧ P.U.heap = h ∧ P.cells + 0 ≤ R.cells ∧ P.slots + 0 ≤ R.slots)
      (fun P _ v B => ∃ L, (v = some (.int (Int32.ofNat cs.length)) ∧ L = [] ∧ B.U.heap = h) ∧ B.locs = P.locs ++ L ∧ B.cells = P.cells + 0 ∧ B.slots = P.slots + 0) := by
  obtain ⟨A, K1, K2, K3, K4, K5, K6⟩ := K
  have hcod := hc.cod (by omega) K3 K5
  intro m meth c P g ig mk a X hg hsize hdg hW hn hp'
  obtain ⟨rfl, rfl, r1, r2⟩ := hp'
  have al : Z.vm.Alike P.U.vm := hZ.alike.trans X.warmed.alike
  obtain ⟨D, fV, fC, hB, F1, F2, g1, g2, -, -⟩ := strObj wi al E V C
  have hx : Txt x t A cd cs.length (fun j => cs.getD j 0) P.U := ⟨⟨_, hB.2.2.1, D, hB.1, rfl, by cases q : D.vm <;> first | rfl | exact absurd q (hB.2.1.2 _)⟩, Has.of hB F1 g1, Has.of hB F2 g2, ⟨K1.1, State.isArrayOf_alike al K1.2.1, K1.2.2, by rcases hcod with ⟨-, q, -⟩ | ⟨-, q, -⟩ <;> omega⟩, hcod, fun j hj => by
    have e : cs.getD j 0 = cs[j] := by simp [List.getD_eq_getElem?_getD, hj]
    show ¬ cs.getD j 0 < 0 ∧ ¬ 65535 < cs.getD j 0
    rw [e]; exact hb _ (List.getElem_mem _)⟩
  obtain ⟨v, B, X', ⟨⟨hv, hh⟩, hl, hk, hs⟩, st⟩ := Len.pays x t A cd cs.length (fun j => cs.getD j 0) z (tabLen_of (movedLen hZ hw)) hfr hlo m meth c P g ig mk _ X hg hsize hdg hW hn ⟨r1, r2, rfl, hx, sta_is al S, hz⟩
  exact ⟨v, B, X', ⟨[], ⟨hv, rfl, hh⟩, hl, hk, hs⟩, st⟩
end StrChars.Road
namespace StrChars.Road
open Jvm Sem ClassFile Op Lib Jvm.Stand Jvm.Free Jvm.Free.XT
open Jvm.Lib.Cold (StaticIs)
/-- the road's facts of a String, as the laws ask it -/
theorem txt_of {Z U : State} {a0 : Array Value} {kI : Nat} (wi : (Jvm.Cond.instantiable ST kI).before a0 Z = true) (al : Z.vm.Alike U.vm) {x t : Addr} {kb : ClassId} {cs : List Int32} {cd N2 : Int32} {vs : List Value} (E : RoadKit.Exa Z U.heap x ST) (V : RoadKit.Fld Z U.heap x ST "value" "[B" (.ref t)) (C : RoadKit.Fld Z U.heap x ST "coder" "B" (.int cd)) (K : RoadKit.Arv Z U.heap t kb .byte N2 vs (.int 0)) (hc : CodA cs cd N2 vs) (hb : ∀ c ∈ cs, ¬ c < 0 ∧ ¬ (65535 : Int32) < c) (l2 : cs.length ≤ 4000) :
    ∃ A, Txt x t A cd cs.length (fun j => cs.getD j 0) U := by
  obtain ⟨A, K1, K2, K3, K4, K5, K6⟩ := K
  have hcod := hc.cod (by omega) K3 K5
  obtain ⟨D, fV, fC, hB, F1, F2, g1, g2, -, -⟩ := strObj wi al E V C
  exact ⟨A, ⟨_, hB.2.2.1, D, hB.1, rfl, by cases q : D.vm <;> first | rfl | exact absurd q (hB.2.1.2 _)⟩, Has.of hB F1 g1, Has.of hB F2 g2, ⟨K1.1, State.isArrayOf_alike al K1.2.1, K1.2.2, by rcases hcod with ⟨-, q, -⟩ | ⟨-, q, -⟩ <;> omega⟩, hcod, fun j hj => by
    have e : cs.getD j 0 = cs[j] := by simp [List.getD_eq_getElem?_getD, hj]
    show ¬ cs.getD j 0 < 0 ∧ ¬ 65535 < cs.getD j 0
    rw [e]; exact hb _ (List.getElem_mem _)⟩
end StrChars.Road
namespace StrChars
open Jvm Sem ClassFile Op Lib Jvm.Stand Jvm.Free.XT Jvm.Free.ALB Jvm.Free.JM Jvm.Free
open Jvm.Lib.Cold (StaticIs)
namespace ChN
def yN : MethodName := ⟨"java/lang/String", "charAt", "(I)C"⟩
abbrev yB : ByteArray := jdk_42_method_56_code
theorem d0 : decode yB 0 = .ok (.aload_n 0, 1) := by decide +kernel
theorem d1 : decode yB 1 = .ok (.invokevirtual 492, 3) := by decide +kernel
theorem d4 : decode yB 4 = .ok (.ifCond (.eq) 12, 3) := by decide +kernel
theorem d7 : decode yB 7 = .ok (.aload_n 0, 1) := by decide +kernel
theorem d8 : decode yB 8 = .ok (.getfield 9, 3) := by decide +kernel
theorem d11 : decode yB 11 = .ok (.iload_n 1, 1) := by decide +kernel
theorem d12 : decode yB 12 = .ok (.invokestatic 495, 3) := by decide +kernel
theorem d15 : decode yB 15 = .ok (.ireturn, 1) := by decide +kernel
def site : List Cond := [.fieldLink "java/lang/String" 9 "java/lang/String" "value" "[B", IsL.tab, LChA.tab] ++ virtW "java/lang/String" 492 "java/lang/String" IsL.yN IsL.yN ++ staticW "java/lang/String" 495 LChA.yN
def tab : Cond := tabOf yN yB 2 (some .char) site
def P (x t : Addr) (V : Cell) (n : Nat) (f : Nat → Int32) (z : Int32) (fm : Value) (i : Nat) (args : Array Value) (s : State) : Prop := args = #[.ref x, .int (Int32.ofNat i)] ∧ Txt x t V 0 n f s ∧ i < n ∧ StaticIs s "java/lang/String" "COMPACT_STRINGS" "Z" (.int z) ∧ ¬ z = 0 ∧ StaticIs s "jdk/internal/util/Preconditions" "SIOOBE_FORMATTER" "Ljava/util/function/BiFunction;" fm ∧ fm.isRef = true
def E (f : Nat → Int32) (i : Nat) (r : Option Value) (s u : State) : Prop := XT.PureE (some (.int (f i))) r s u
/-- charAt(i) of a Latin-1 String of n chars, i < n: f i -/
theorem law (l : Launch) (x t : Addr) (V : Cell) (n : Nat) (f : Nat → Int32) (z : Int32) (fm : Value) (i : Nat) : Law l yN 2 1 3 40 yB 2 (some .char) site (P x t V n f z fm i) (E f i) [] 0 0 := by
  refine Law.of_walk (plainFor_of_name (by decide +kernel)) (by decide +kernel) (by decide +kernel) (by decide) (fun _ _ h => by rw [h.1]; rfl) (fun _ U U' hal hh h => ⟨h.1, h.2.1.mv hal hh, h.2.2.1, h.2.2.2.1.there hal hh, h.2.2.2.2.1, h.2.2.2.2.2.1.there hal hh, h.2.2.2.2.2.2⟩) (fun r U U' V V' h1 hal h2 h => XT.PureE.mv r U U' V V' h1 hal h2 h) ?_
  intro p e s m args below meth c s₁ X0 hexec hbytes hml hret hlk hnm hown hh0 W hP
  obtain ⟨rfl, hx, hi, s1, hz, s3, rf⟩ := hP
  have v31 := hx.2.2.2.1.2.2.2
  have hr := hx.2.2.2.2.2 i hi
  have hx0 := hx.mv X0.warmed.alike hh0
  have c1 : Steps p.tables e below (s₁.setTop (entryFrame m #[.ref x, .int (Int32.ofNat i)] 2)) (s₁.setTop (mkF m 1 #[.val (.ref x), .val (.int (Int32.ofNat i))] [.ref x])) := Steps.trans (entry rfl) (by
    show Steps p.tables e below (s₁.setTop (mkF m 0 #[.val (.ref x), .val (.int (Int32.ofNat i))] [])) _
    refine XS.aloadN X0.here hexec rfl (hb hbytes d0) rfl rfl ?_
    exact Steps.refl _)
  obtain ⟨v2, T2, X2, E2, g2⟩ := X0.callV hexec (IsL.law l x 0 z) hown (wks W (virtW "java/lang/String" 492 "java/lang/String" IsL.yN IsL.yN)) rfl (by decide) (wk W IsL.tab) (W := 0) (Nat.le_of_ble_eq_true rfl) (Nat.le_of_ble_eq_true rfl) (Nat.le_refl _) (Nat.le_refl _) (hx0.1.fc X0.warmed.alike) hx0.1.is (g := (mkF m 1 #[.val (.ref x), .val (.int (Int32.ofNat i))] [.ref x])) rfl (by rw [hml]; rfl) c1 (argsL := []) (rest := []) rfl rfl (by show 2 * 0 + 0 ≤ _; decide) (hb hbytes d1) (⟨rfl, hx0.2.2.1, hx.2.2.2.2.1.cd, s1.there X0.warmed.alike hh0, hz⟩)
  obtain ⟨rfl, q2⟩ := E2
  have hh2 := q2.trans hh0
  have hx2 := hx.mv X2.warmed.alike hh2
  obtain ⟨-, k1, k2⟩ | ⟨k0, -⟩ := hx.2.2.2.2.1
  · have c3 : Steps p.tables e below (s₁.setTop (entryFrame m #[.ref x, .int (Int32.ofNat i)] 2)) (T2.setTop (mkF m 8 #[.val (.ref x), .val (.int (Int32.ofNat i))] [.ref x])) := Steps.trans g2 (by
      refine XS.ifNo X2.here hexec rfl (hb hbytes d4) rfl (i0_eq_f (by decide)) ?_
      refine XS.aloadN X2.here hexec rfl (hb hbytes d7) rfl rfl ?_
      exact Steps.refl _)
    obtain ⟨T4, X4, q4, st4⟩ := X2.hget hexec hown (wk W (.fieldLink "java/lang/String" 9 "java/lang/String" "value" "[B")) hx2.2.1 (g := (mkF m 8 #[.val (.ref x), .val (.int (Int32.ofNat i))] [.ref x])) rfl (rest := []) rfl (hb hbytes d8)
    have hh4 := q4.trans hh2
    have c5 : Steps p.tables e below (s₁.setTop (entryFrame m #[.ref x, .int (Int32.ofNat i)] 2)) (T4.setTop (mkF m 12 #[.val (.ref x), .val (.int (Int32.ofNat i))] [.int (Int32.ofNat i), .ref t])) := (c3.trans (st4 _ (Steps.refl _))).trans (by
      refine XS.iloadN X4.here hexec rfl (hb hbytes d11) rfl ?_
      exact Steps.refl _)
    obtain ⟨v6, T6, X6, E6, g6⟩ := X4.callS hexec (LChA.law l t V i (lo8 (f i)) fm) hown (wks W (staticW "java/lang/String" 495 LChA.yN)) (wk W LChA.tab) (W := 0) (Nat.le_of_ble_eq_true rfl) (Nat.le_of_ble_eq_true rfl) (Nat.le_refl _) (Nat.le_refl _) (g := (mkF m 12 #[.val (.ref x), .val (.int (Int32.ofNat i))] [.int (Int32.ofNat i), .ref t])) rfl (by rw [hml]; rfl) c5 (argsL := [.ref t, .int (Int32.ofNat i)]) (rest := []) rfl rfl (by show 2 * 0 + 0 ≤ _; decide) (hb hbytes d12) (⟨rfl, hx.2.2.2.1.mv X4.warmed.alike hh4, (k2 i hi).1, s3.there X4.warmed.alike hh4, rf⟩)
    obtain ⟨rfl, q6⟩ := E6
    rw [chr8_lo8 hr.1 (k2 i hi).2] at g6
    exact ⟨T6, some (.int (f i)), _, _, _, X6, rfl, rfl, rfl, (fun h => by cases h), ⟨rfl, q6.trans hh4⟩, fun fs hl => Steps.trans g6 (X6.ireturnOut hexec hret (narrow_ch hr.1 hr.2) (Or.inr (Or.inr (Or.inr (Or.inl rfl)))) (hb hbytes d15) hl)⟩
  · exact absurd k0 (by decide)
theorem pays {l : Launch} {R : Room} {p : Program} {e : Env} {below : List Frame} {s : State} {sargs : Array Value} {len W : Nat} (x t : Addr) (V : Cell) (n : Nat) (f : Nat → Int32) (z : Int32) (fm : Value) (i : Nat) (htab : tab.before sargs s = true) (hfr : 4 ≤ R.frames) (hlo : W + 53 ≤ R.locals) :
    Back l R p e below s sargs yN len W (fun A₁ a₁ => A₁.cells + 0 ≤ R.cells ∧ A₁.slots + 0 ≤ R.slots ∧ P x t V n f z fm i a₁ A₁.U) (fun A₁ _ v₁ B₁ => E f i v₁ A₁.U B₁.U ∧ B₁.locs = A₁.locs ++ [] ∧ B₁.cells = A₁.cells + 0 ∧ B₁.slots = A₁.slots + 0) :=
  (law l x t V n f z fm i).pays htab hfr (by omega)
end ChN
end StrChars
namespace StrChars.Road
open Jvm Sem ClassFile Op Lib Jvm.Stand Jvm.Free Jvm.Free.XT
open Jvm.Lib.Cold (StaticIs)
/-- the words of String.charAt(int), the Latin-1 road alone -/
abbrev wordsChN : List Jvm.Cond := [.code ChN.yN ChN.yB 2 (some .char), .initialized ST, .fieldLink ST 9 ST "value" "[B", .fieldLink ST 38 ST "COMPACT_STRINGS" "Z", .fieldLink ST 15 ST "coder" "B", .code IsL.yN IsL.yB 1 (some .boolean), .methodLink ST 492 IsL.yN, .declares IsL.yN, .selects ST IsL.yN IsL.yN, .instanceMethod IsL.yN,
  .methodLink ST 495 LChA.yN, .static LChA.yN, .code LChA.yN LChA.yB 2 (some .char), .initialized "java/lang/StringLatin1", .methodLink "java/lang/StringLatin1" 9 JO.Str_checkIndex.yN, .static JO.Str_checkIndex.yN, .code JO.Str_checkIndex.yN JO.Str_checkIndex.yB 2 none,
  .fieldLink ST 1053 "jdk/internal/util/Preconditions" "SIOOBE_FORMATTER" "Ljava/util/function/BiFunction;", .methodLink ST 1059 JC.PreCheck.yN, .static JC.PreCheck.yN, .code JC.PreCheck.yN JC.PreCheck.yB 3 (some .int), .initialized "jdk/internal/util/Preconditions"]
theorem tabChN_of {a : Array Value} {s : State} (h : ∀ w ∈ wordsChN, w.before a s = true) : ChN.tab.before a s = true := by
  have hp : JC.PreCheck.tab.before a s = true := unparts (wk h (.code JC.PreCheck.yN JC.PreCheck.yB 3 (some .int))) (wks h (.initialized JC.PreCheck.yN.cls :: JC.PreCheck.site))
  have qk := consq hp h
  have hk : JO.Str_checkIndex.tab.before a s = true := unparts (wk qk (.code JO.Str_checkIndex.yN JO.Str_checkIndex.yB 2 none)) (wks qk (.initialized JO.Str_checkIndex.yN.cls :: JO.Str_checkIndex.site))
  have ql := consq hk h
  have hl : LChA.tab.before a s = true := unparts (wk ql (.code LChA.yN LChA.yB 2 (some .char))) (wks ql (.initialized LChA.yN.cls :: LChA.site))
  have hi : IsL.tab.before a s = true := unparts (wk h (.code IsL.yN IsL.yB 1 (some .boolean))) (wks h (.initialized IsL.yN.cls :: IsL.site))
  have q := consq hi (consq hl h)
  exact unparts (wk q (.code ChN.yN ChN.yB 2 (some .char))) (wks q (.initialized ChN.yN.cls :: ChN.site))
theorem movedChN {Z s : State} {a0 args : Array Value} (hZ : Z.Warmed39 s.vm) (hw : ∀ d ∈ wordsChN, d.before a0 Z = true) : ∀ d ∈ wordsChN, d.before args s = true := fun d hd => by
  have t : ∀ d ∈ wordsChN, (d.onTables && d.keepsFace) = true := by decide +kernel
  exact RoadKit.mv hZ (hw d hd) (t d hd)
/-- **charAt(i) OF A LATIN-1 STRING**, i < n: the char -/
theorem chN {p : Program} {l : Launch} {e : Env} {R : Room} {s : State} {args : Array Value} {below : List Frame} {len W : Nat} {Z : State} {a0 : Array Value} {h : Heap} (hZ : Z.Warmed39 s.vm) (hw : ∀ d ∈ wordsChN, d.before a0 Z = true) {kI : Nat} (wi : (Jvm.Cond.instantiable ST kI).before a0 Z = true)
    {x t : Addr} {kb : ClassId} {cs : List Int32} {N2 z : Int32} {vs : List Value} {fm : Value} {i : Nat} {j : Int32} (E : RoadKit.Exa Z h x ST) (V : RoadKit.Fld Z h x ST "value" "[B" (.ref t)) (C : RoadKit.Fld Z h x ST "coder" "B" (.int 0)) (K : RoadKit.Arv Z h t kb .byte N2 vs (.int 0)) (hc : CodA cs 0 N2 vs) (hb : ∀ c ∈ cs, ¬ c < 0 ∧ ¬ (65535 : Int32) < c)
    (S : RoadKit.Sta Z h ST "COMPACT_STRINGS" "Z" (.int z)) (hz : ¬ z = 0) (F : RoadKit.Sta Z h "jdk/internal/util/Preconditions" "SIOOBE_FORMATTER" "Ljava/util/function/BiFunction;" fm) (rf : fm.isRef = true) (l2 : cs.length ≤ 4000) (hi : i < cs.length) (hj : j = Int32.ofNat i) (hfr : 4 ≤ R.frames) (hlo : W + 53 ≤ R.locals) :
    Back l R p e below s args (⟨"java/lang/String", "charAt", "(I)C"⟩ : MethodName) len W (fun P a => a = #[.ref x, .int j] ∧ P.U.heap = h ∧ P.cells + 0 ≤ R.cells ∧ P.slots + 0 ≤ R.slots)
      (fun P _ v B => ∃ L, (v = some (.int (cs.getD i 0)) ∧ L = [] ∧ B.U.heap = h) ∧ B.locs = P.locs ++ L ∧ B.cells = P.cells + 0 ∧ B.slots = P.slots + 0) := by
  subst hj
  intro m meth c P g ig mk a X hg hsize hdg hW hn hp'
  obtain ⟨rfl, rfl, r1, r2⟩ := hp'
  have al : Z.vm.Alike P.U.vm := hZ.alike.trans X.warmed.alike
  obtain ⟨A, hx⟩ := txt_of wi al E V C K hc hb l2
  obtain ⟨v, B, X', ⟨⟨hv, hh⟩, hl, hk, hs⟩, st⟩ := ChN.pays x t A cs.length (fun j => cs.getD j 0) z fm i (tabChN_of (movedChN hZ hw)) hfr hlo m meth c P g ig mk _ X hg hsize hdg hW hn ⟨r1, r2, rfl, hx, hi, sta_is al S, hz, sta_is al F, rf⟩
  exact ⟨v, B, X', ⟨[], ⟨hv, rfl, hh⟩, hl, hk, hs⟩, st⟩
/-- what backV says of its String, as the contracts of this text ask it: cs's low bytes, coder 0 -/
theorem codOf {cs : List Int32} {n : Nat} (hn : cs.length = n) (hb : ∀ c ∈ cs, ¬ 255 < c) : CodA cs 0 (Int32.ofNat n) ((cs.map lo8).map Value.int) := Or.inl ⟨rfl, by rw [hn], by simp [List.map_map, Function.comp_def], hb⟩
end StrChars.Road
end Jvm.Pilot.@@N@@
namespace Jvm.Pilot.@@N@@
open Jvm Jvm.ClassFile Sem Op Lib Jvm.Free Jvm.Stand Jvm.LawKit Jvm.RoadKit Jvm.Own Bundle Jvm.Pilot.@@N@@.Jvm.D
def Ctx (Z : State) (a0 : Array Value) (cz : Int32) (fm : Value) : Prop := (∀ d ∈ tables_1, d.before a0 Z = true) ∧ EW Z a0 consts_1 ∧ Sta Z Z.heap "java/lang/String" "COMPACT_STRINGS" "Z" (.int cz) ∧ ¬ cz = 0 ∧ Sta Z Z.heap "jdk/internal/util/Preconditions" "SIOOBE_FORMATTER" "Ljava/util/function/BiFunction;" fm ∧ fm.isRef = true
theorem own_pdC : parseMethodDescriptor "([C)V" = some ⟨[.array .char], none⟩ := by decide +kernel
theorem own_lo8 (v : Int32) : (v.toInt8.toInt32).toInt8.toInt32 = v.toInt8.toInt32 := by simp
theorem own_us {cs : List Int32} {i n : Nat} (h : i + n ≤ cs.length) : ((List.range n).map fun k => ((cs.map lo8).map Value.int).getD (i + k) (.int 0)) = ((((cs.drop i).take n).map lo8).map Value.int) := by
  apply List.ext_getElem
  · simp; omega
  · intro k h1 h2
    simp only [List.length_map, List.length_range] at h1
    have e : i + k < cs.length := by omega
    simp [List.getD_eq_getElem?_getD, e]
theorem own_min {a b : Int32} (h : ¬ b < a) : (if b < a then b else a) = a := if_neg h
theorem own_all_sub {cs : List Int32} {i n : Nat} {P : Int32 → Prop} (h : ∀ c ∈ cs, P c) : ∀ c ∈ (cs.drop i).take n, P c := fun c hc => h c (List.mem_of_mem_drop (List.mem_of_mem_take hc))
theorem own_len_sub {cs : List Int32} {i n : Nat} (h : i + n ≤ cs.length) : ((cs.drop i).take n).length = n := by simp; omega
theorem own_sub_all {cs : List Int32} {i j : Nat} (hi : i = 0) (hj : j = cs.length) : (cs.drop i).take (j - i) = cs := by subst hi hj; simp
theorem own_sub_nil {cs : List Int32} {i n : Nat} (h : n = 0) : (cs.drop i).take n = [] := by subst h; simp
theorem ofN_succ {a : Nat} (h : a + 1 < 2147483648) : Int32.ofNat a + 1 = Int32.ofNat (a + 1) := ofN_add (b := 1) h
theorem ofN_sub1 {a : Nat} (ha : a < 2147483648) (h : 1 ≤ a) : Int32.ofNat a - 1 = Int32.ofNat (a - 1) := ofN_sub (b := 1) ha h
theorem ofN_pred {a : Nat} (ha : a < 2147483648) (h : 1 ≤ a) : Int32.ofNat a + (-1) = Int32.ofNat (a - 1) := by rw [← ofN_sub1 ha h, Int32.sub_eq_add_neg]
def own_B (c : Int32) : Prop := c = 32 ∨ c = 9
instance own_Bd (c : Int32) : Decidable (own_B c) := inferInstanceAs (Decidable (c = 32 ∨ c = 9))
def own_t5 (k c0 c1 c2 c3 : Int32) : List Int32 := if k = 0 then [] else if k = 1 then [c0] else if k = 2 then [c0, c1] else if k = 3 then [c0, c1, c2] else [c0, c1, c2, c3]
def own_trim (cs : List Int32) (i j : Nat) : Prop := i ≤ j ∧ j ≤ cs.length ∧ (∀ k, k < i → own_B (cs.getD k 0)) ∧ (i = cs.length ∨ ¬ own_B (cs.getD i 0)) ∧ (∀ k, j ≤ k → k < cs.length → own_B (cs.getD k 0)) ∧ (j = i ∨ ¬ own_B (cs.getD (j - 1) 0))
def own_sv (b0 b1 b2 b3 : Int32) : Int32 := if b0 = 0 then (if b1 = 0 then (if b2 = 0 then (if b3 = 0 then 0 else 3) else 2) else 1) else 0
def own_ev (b0 b1 b2 b3 : Int32) : Int32 := if b3 = 0 then (if b2 = 0 then (if b1 = 0 then (if b0 = 0 then 0 else 1) else 2) else 3) else 4
def own_nb (k kn c : Int32) : Int32 := if k < kn ∧ ¬ own_B c then 1 else 0
theorem own_mod5 {x n : Int32} (h : n = (x &&& (2147483647 : Int32)) % (5 : Int32)) : n = 0 ∨ n = 1 ∨ n = 2 ∨ n = 3 ∨ n = 4 := by
  have q1 := c_and x 2147483647 (by decide)
  have q2 := (c_irem (x &&& (2147483647 : Int32)) 5 5 (by decide)).1 q1.1
  have e : n.toInt = 0 ∨ n.toInt = 1 ∨ n.toInt = 2 ∨ n.toInt = 3 ∨ n.toInt = 4 := by rw [h]; omega
  rcases e with e | e | e | e | e
  · exact Or.inl (Int32.toInt_inj.mp (by rw [e]; rfl))
  · exact Or.inr (Or.inl (Int32.toInt_inj.mp (by rw [e]; rfl)))
  · exact Or.inr (Or.inr (Or.inl (Int32.toInt_inj.mp (by rw [e]; rfl))))
  · exact Or.inr (Or.inr (Or.inr (Or.inl (Int32.toInt_inj.mp (by rw [e]; rfl)))))
  · exact Or.inr (Or.inr (Or.inr (Or.inr (Int32.toInt_inj.mp (by rw [e]; rfl)))))
theorem own_nb0 {k kn c : Int32} (h : ¬ k < kn ∨ own_B c) : own_nb k kn c = 0 := if_neg fun q => h.elim (fun z => z q.1) (fun z => q.2 z)
theorem own_nb1 {k kn c : Int32} (h : k < kn) (h2 : ¬ own_B c) : own_nb k kn c = 1 := if_pos ⟨h, h2⟩
theorem own_ends_0 {c0 c1 c2 c3 : Int32} {i j : Nat} (ht : own_trim [] i j) : (i < j ∧ own_sv (own_nb 0 0 c0) (own_nb 1 0 c1) (own_nb 2 0 c2) (own_nb 3 0 c3) = Int32.ofNat i ∧ own_ev (own_nb 0 0 c0) (own_nb 1 0 c1) (own_nb 2 0 c2) (own_nb 3 0 c3) = Int32.ofNat j) ∨ (i = j ∧ own_sv (own_nb 0 0 c0) (own_nb 1 0 c1) (own_nb 2 0 c2) (own_nb 3 0 c3) = 0 ∧ own_ev (own_nb 0 0 c0) (own_nb 1 0 c1) (own_nb 2 0 c2) (own_nb 3 0 c3) = 0) := by
  obtain ⟨h1, h2, h3, h4, h5, h6⟩ := ht
  have h2 : j ≤ 0 := h2
  have z0 : own_nb 0 0 c0 = 0 := own_nb0 (Or.inl (by decide))
  have z1 : own_nb 1 0 c1 = 0 := own_nb0 (Or.inl (by decide))
  have z2 : own_nb 2 0 c2 = 0 := own_nb0 (Or.inl (by decide))
  have z3 : own_nb 3 0 c3 = 0 := own_nb0 (Or.inl (by decide))
  have hi : i = 0 := by omega
  rcases hi with rfl
  · have hj : j = 0 := by omega
    rcases hj with rfl
    · exact Or.inr ⟨rfl, by unfold own_sv; rw [z0, z1, z2, z3]; rfl, by unfold own_ev; rw [z3, z2, z1, z0]; rfl⟩
theorem own_ends_1 {c0 c1 c2 c3 : Int32} {i j : Nat} (ht : own_trim [c0] i j) : (i < j ∧ own_sv (own_nb 0 1 c0) (own_nb 1 1 c1) (own_nb 2 1 c2) (own_nb 3 1 c3) = Int32.ofNat i ∧ own_ev (own_nb 0 1 c0) (own_nb 1 1 c1) (own_nb 2 1 c2) (own_nb 3 1 c3) = Int32.ofNat j) ∨ (i = j ∧ own_sv (own_nb 0 1 c0) (own_nb 1 1 c1) (own_nb 2 1 c2) (own_nb 3 1 c3) = 0 ∧ own_ev (own_nb 0 1 c0) (own_nb 1 1 c1) (own_nb 2 1 c2) (own_nb 3 1 c3) = 0) := by
  obtain ⟨h1, h2, h3, h4, h5, h6⟩ := ht
  have h2 : j ≤ 1 := h2
  have z1 : own_nb 1 1 c1 = 0 := own_nb0 (Or.inl (by decide))
  have z2 : own_nb 2 1 c2 = 0 := own_nb0 (Or.inl (by decide))
  have z3 : own_nb 3 1 c3 = 0 := own_nb0 (Or.inl (by decide))
  have hi : i = 0 ∨ i = 1 := by omega
  rcases hi with rfl | rfl
  · have hj : j = 0 ∨ j = 1 := by omega
    rcases hj with rfl | rfl
    · have q : (0 : Nat) = 1 ∨ ¬ own_B c0 := h4
      have q2 : own_B c0 := h5 0 (by omega) (by show 0 < 1; omega)
      exact absurd q2 (q.resolve_left (by decide))
    · have q : (0 : Nat) = 1 ∨ ¬ own_B c0 := h4
      have n1 : own_nb 0 1 c0 = 1 := own_nb1 (by decide) (q.resolve_left (by decide))
      exact Or.inl ⟨by omega, by unfold own_sv; rw [n1]; rfl, by unfold own_ev; rw [z3, z2, z1, n1]; rfl⟩
  · have hj : j = 1 := by omega
    rcases hj with rfl
    · have a0 : own_nb 0 1 c0 = 0 := own_nb0 (Or.inr (h3 0 (by omega)))
      exact Or.inr ⟨rfl, by unfold own_sv; rw [a0, z1, z2, z3]; rfl, by unfold own_ev; rw [z3, z2, z1, a0]; rfl⟩
theorem own_ends_2 {c0 c1 c2 c3 : Int32} {i j : Nat} (ht : own_trim [c0, c1] i j) : (i < j ∧ own_sv (own_nb 0 2 c0) (own_nb 1 2 c1) (own_nb 2 2 c2) (own_nb 3 2 c3) = Int32.ofNat i ∧ own_ev (own_nb 0 2 c0) (own_nb 1 2 c1) (own_nb 2 2 c2) (own_nb 3 2 c3) = Int32.ofNat j) ∨ (i = j ∧ own_sv (own_nb 0 2 c0) (own_nb 1 2 c1) (own_nb 2 2 c2) (own_nb 3 2 c3) = 0 ∧ own_ev (own_nb 0 2 c0) (own_nb 1 2 c1) (own_nb 2 2 c2) (own_nb 3 2 c3) = 0) := by
  obtain ⟨h1, h2, h3, h4, h5, h6⟩ := ht
  have h2 : j ≤ 2 := h2
  have z2 : own_nb 2 2 c2 = 0 := own_nb0 (Or.inl (by decide))
  have z3 : own_nb 3 2 c3 = 0 := own_nb0 (Or.inl (by decide))
  have hi : i = 0 ∨ i = 1 ∨ i = 2 := by omega
  rcases hi with rfl | rfl | rfl
  · have hj : j = 0 ∨ j = 1 ∨ j = 2 := by omega
    rcases hj with rfl | rfl | rfl
    · have q : (0 : Nat) = 2 ∨ ¬ own_B c0 := h4
      have q2 : own_B c0 := h5 0 (by omega) (by show 0 < 2; omega)
      exact absurd q2 (q.resolve_left (by decide))
    · have q : (0 : Nat) = 2 ∨ ¬ own_B c0 := h4
      have n1 : own_nb 0 2 c0 = 1 := own_nb1 (by decide) (q.resolve_left (by decide))
      have e1 : own_nb 1 2 c1 = 0 := own_nb0 (Or.inr (h5 1 (by omega) (by show 1 < 2; omega)))
      exact Or.inl ⟨by omega, by unfold own_sv; rw [n1]; rfl, by unfold own_ev; rw [z3, z2, e1, n1]; rfl⟩
    · have q : (0 : Nat) = 2 ∨ ¬ own_B c0 := h4
      have n1 : own_nb 0 2 c0 = 1 := own_nb1 (by decide) (q.resolve_left (by decide))
      have r : (2 : Nat) = 0 ∨ ¬ own_B c1 := h6
      have n2 : own_nb 1 2 c1 = 1 := own_nb1 (by decide) (r.resolve_left (by decide))
      exact Or.inl ⟨by omega, by unfold own_sv; rw [n1]; rfl, by unfold own_ev; rw [z3, z2, n2]; rfl⟩
  · have hj : j = 1 ∨ j = 2 := by omega
    rcases hj with rfl | rfl
    · have q : (1 : Nat) = 2 ∨ ¬ own_B c1 := h4
      have q2 : own_B c1 := h5 1 (by omega) (by show 1 < 2; omega)
      exact absurd q2 (q.resolve_left (by decide))
    · have a0 : own_nb 0 2 c0 = 0 := own_nb0 (Or.inr (h3 0 (by omega)))
      have q : (1 : Nat) = 2 ∨ ¬ own_B c1 := h4
      have n1 : own_nb 1 2 c1 = 1 := own_nb1 (by decide) (q.resolve_left (by decide))
      exact Or.inl ⟨by omega, by unfold own_sv; rw [a0, n1]; rfl, by unfold own_ev; rw [z3, z2, n1]; rfl⟩
  · have hj : j = 2 := by omega
    rcases hj with rfl
    · have a0 : own_nb 0 2 c0 = 0 := own_nb0 (Or.inr (h3 0 (by omega)))
      have a1 : own_nb 1 2 c1 = 0 := own_nb0 (Or.inr (h3 1 (by omega)))
      exact Or.inr ⟨rfl, by unfold own_sv; rw [a0, a1, z2, z3]; rfl, by unfold own_ev; rw [z3, z2, a1, a0]; rfl⟩
theorem own_ends_3 {c0 c1 c2 c3 : Int32} {i j : Nat} (ht : own_trim [c0, c1, c2] i j) : (i < j ∧ own_sv (own_nb 0 3 c0) (own_nb 1 3 c1) (own_nb 2 3 c2) (own_nb 3 3 c3) = Int32.ofNat i ∧ own_ev (own_nb 0 3 c0) (own_nb 1 3 c1) (own_nb 2 3 c2) (own_nb 3 3 c3) = Int32.ofNat j) ∨ (i = j ∧ own_sv (own_nb 0 3 c0) (own_nb 1 3 c1) (own_nb 2 3 c2) (own_nb 3 3 c3) = 0 ∧ own_ev (own_nb 0 3 c0) (own_nb 1 3 c1) (own_nb 2 3 c2) (own_nb 3 3 c3) = 0) := by
  obtain ⟨h1, h2, h3, h4, h5, h6⟩ := ht
  have h2 : j ≤ 3 := h2
  have z3 : own_nb 3 3 c3 = 0 := own_nb0 (Or.inl (by decide))
  have hi : i = 0 ∨ i = 1 ∨ i = 2 ∨ i = 3 := by omega
  rcases hi with rfl | rfl | rfl | rfl
  · have hj : j = 0 ∨ j = 1 ∨ j = 2 ∨ j = 3 := by omega
    rcases hj with rfl | rfl | rfl | rfl
    · have q : (0 : Nat) = 3 ∨ ¬ own_B c0 := h4
      have q2 : own_B c0 := h5 0 (by omega) (by show 0 < 3; omega)
      exact absurd q2 (q.resolve_left (by decide))
    · have q : (0 : Nat) = 3 ∨ ¬ own_B c0 := h4
      have n1 : own_nb 0 3 c0 = 1 := own_nb1 (by decide) (q.resolve_left (by decide))
      have e1 : own_nb 1 3 c1 = 0 := own_nb0 (Or.inr (h5 1 (by omega) (by show 1 < 3; omega)))
      have e2 : own_nb 2 3 c2 = 0 := own_nb0 (Or.inr (h5 2 (by omega) (by show 2 < 3; omega)))
      exact Or.inl ⟨by omega, by unfold own_sv; rw [n1]; rfl, by unfold own_ev; rw [z3, e2, e1, n1]; rfl⟩
    · have q : (0 : Nat) = 3 ∨ ¬ own_B c0 := h4
      have n1 : own_nb 0 3 c0 = 1 := own_nb1 (by decide) (q.resolve_left (by decide))
      have r : (2 : Nat) = 0 ∨ ¬ own_B c1 := h6
      have n2 : own_nb 1 3 c1 = 1 := own_nb1 (by decide) (r.resolve_left (by decide))
      have e2 : own_nb 2 3 c2 = 0 := own_nb0 (Or.inr (h5 2 (by omega) (by show 2 < 3; omega)))
      exact Or.inl ⟨by omega, by unfold own_sv; rw [n1]; rfl, by unfold own_ev; rw [z3, e2, n2]; rfl⟩
    · have q : (0 : Nat) = 3 ∨ ¬ own_B c0 := h4
      have n1 : own_nb 0 3 c0 = 1 := own_nb1 (by decide) (q.resolve_left (by decide))
      have r : (3 : Nat) = 0 ∨ ¬ own_B c2 := h6
      have n2 : own_nb 2 3 c2 = 1 := own_nb1 (by decide) (r.resolve_left (by decide))
      exact Or.inl ⟨by omega, by unfold own_sv; rw [n1]; rfl, by unfold own_ev; rw [z3, n2]; rfl⟩
  · have hj : j = 1 ∨ j = 2 ∨ j = 3 := by omega
    rcases hj with rfl | rfl | rfl
    · have q : (1 : Nat) = 3 ∨ ¬ own_B c1 := h4
      have q2 : own_B c1 := h5 1 (by omega) (by show 1 < 3; omega)
      exact absurd q2 (q.resolve_left (by decide))
    · have a0 : own_nb 0 3 c0 = 0 := own_nb0 (Or.inr (h3 0 (by omega)))
      have q : (1 : Nat) = 3 ∨ ¬ own_B c1 := h4
      have n1 : own_nb 1 3 c1 = 1 := own_nb1 (by decide) (q.resolve_left (by decide))
      have e2 : own_nb 2 3 c2 = 0 := own_nb0 (Or.inr (h5 2 (by omega) (by show 2 < 3; omega)))
      exact Or.inl ⟨by omega, by unfold own_sv; rw [a0, n1]; rfl, by unfold own_ev; rw [z3, e2, n1]; rfl⟩
    · have a0 : own_nb 0 3 c0 = 0 := own_nb0 (Or.inr (h3 0 (by omega)))
      have q : (1 : Nat) = 3 ∨ ¬ own_B c1 := h4
      have n1 : own_nb 1 3 c1 = 1 := own_nb1 (by decide) (q.resolve_left (by decide))
      have r : (3 : Nat) = 1 ∨ ¬ own_B c2 := h6
      have n2 : own_nb 2 3 c2 = 1 := own_nb1 (by decide) (r.resolve_left (by decide))
      exact Or.inl ⟨by omega, by unfold own_sv; rw [a0, n1]; rfl, by unfold own_ev; rw [z3, n2]; rfl⟩
  · have hj : j = 2 ∨ j = 3 := by omega
    rcases hj with rfl | rfl
    · have q : (2 : Nat) = 3 ∨ ¬ own_B c2 := h4
      have q2 : own_B c2 := h5 2 (by omega) (by show 2 < 3; omega)
      exact absurd q2 (q.resolve_left (by decide))
    · have a0 : own_nb 0 3 c0 = 0 := own_nb0 (Or.inr (h3 0 (by omega)))
      have a1 : own_nb 1 3 c1 = 0 := own_nb0 (Or.inr (h3 1 (by omega)))
      have q : (2 : Nat) = 3 ∨ ¬ own_B c2 := h4
      have n1 : own_nb 2 3 c2 = 1 := own_nb1 (by decide) (q.resolve_left (by decide))
      exact Or.inl ⟨by omega, by unfold own_sv; rw [a0, a1, n1]; rfl, by unfold own_ev; rw [z3, n1]; rfl⟩
  · have hj : j = 3 := by omega
    rcases hj with rfl
    · have a0 : own_nb 0 3 c0 = 0 := own_nb0 (Or.inr (h3 0 (by omega)))
      have a1 : own_nb 1 3 c1 = 0 := own_nb0 (Or.inr (h3 1 (by omega)))
      have a2 : own_nb 2 3 c2 = 0 := own_nb0 (Or.inr (h3 2 (by omega)))
      exact Or.inr ⟨rfl, by unfold own_sv; rw [a0, a1, a2, z3]; rfl, by unfold own_ev; rw [z3, a2, a1, a0]; rfl⟩
theorem own_ends_4 {c0 c1 c2 c3 : Int32} {i j : Nat} (ht : own_trim [c0, c1, c2, c3] i j) : (i < j ∧ own_sv (own_nb 0 4 c0) (own_nb 1 4 c1) (own_nb 2 4 c2) (own_nb 3 4 c3) = Int32.ofNat i ∧ own_ev (own_nb 0 4 c0) (own_nb 1 4 c1) (own_nb 2 4 c2) (own_nb 3 4 c3) = Int32.ofNat j) ∨ (i = j ∧ own_sv (own_nb 0 4 c0) (own_nb 1 4 c1) (own_nb 2 4 c2) (own_nb 3 4 c3) = 0 ∧ own_ev (own_nb 0 4 c0) (own_nb 1 4 c1) (own_nb 2 4 c2) (own_nb 3 4 c3) = 0) := by
  obtain ⟨h1, h2, h3, h4, h5, h6⟩ := ht
  have h2 : j ≤ 4 := h2
  have hi : i = 0 ∨ i = 1 ∨ i = 2 ∨ i = 3 ∨ i = 4 := by omega
  rcases hi with rfl | rfl | rfl | rfl | rfl
  · have hj : j = 0 ∨ j = 1 ∨ j = 2 ∨ j = 3 ∨ j = 4 := by omega
    rcases hj with rfl | rfl | rfl | rfl | rfl
    · have q : (0 : Nat) = 4 ∨ ¬ own_B c0 := h4
      have q2 : own_B c0 := h5 0 (by omega) (by show 0 < 4; omega)
      exact absurd q2 (q.resolve_left (by decide))
    · have q : (0 : Nat) = 4 ∨ ¬ own_B c0 := h4
      have n1 : own_nb 0 4 c0 = 1 := own_nb1 (by decide) (q.resolve_left (by decide))
      have e1 : own_nb 1 4 c1 = 0 := own_nb0 (Or.inr (h5 1 (by omega) (by show 1 < 4; omega)))
      have e2 : own_nb 2 4 c2 = 0 := own_nb0 (Or.inr (h5 2 (by omega) (by show 2 < 4; omega)))
      have e3 : own_nb 3 4 c3 = 0 := own_nb0 (Or.inr (h5 3 (by omega) (by show 3 < 4; omega)))
      exact Or.inl ⟨by omega, by unfold own_sv; rw [n1]; rfl, by unfold own_ev; rw [e3, e2, e1, n1]; rfl⟩
    · have q : (0 : Nat) = 4 ∨ ¬ own_B c0 := h4
      have n1 : own_nb 0 4 c0 = 1 := own_nb1 (by decide) (q.resolve_left (by decide))
      have r : (2 : Nat) = 0 ∨ ¬ own_B c1 := h6
      have n2 : own_nb 1 4 c1 = 1 := own_nb1 (by decide) (r.resolve_left (by decide))
      have e2 : own_nb 2 4 c2 = 0 := own_nb0 (Or.inr (h5 2 (by omega) (by show 2 < 4; omega)))
      have e3 : own_nb 3 4 c3 = 0 := own_nb0 (Or.inr (h5 3 (by omega) (by show 3 < 4; omega)))
      exact Or.inl ⟨by omega, by unfold own_sv; rw [n1]; rfl, by unfold own_ev; rw [e3, e2, n2]; rfl⟩
    · have q : (0 : Nat) = 4 ∨ ¬ own_B c0 := h4
      have n1 : own_nb 0 4 c0 = 1 := own_nb1 (by decide) (q.resolve_left (by decide))
      have r : (3 : Nat) = 0 ∨ ¬ own_B c2 := h6
      have n2 : own_nb 2 4 c2 = 1 := own_nb1 (by decide) (r.resolve_left (by decide))
      have e3 : own_nb 3 4 c3 = 0 := own_nb0 (Or.inr (h5 3 (by omega) (by show 3 < 4; omega)))
      exact Or.inl ⟨by omega, by unfold own_sv; rw [n1]; rfl, by unfold own_ev; rw [e3, n2]; rfl⟩
    · have q : (0 : Nat) = 4 ∨ ¬ own_B c0 := h4
      have n1 : own_nb 0 4 c0 = 1 := own_nb1 (by decide) (q.resolve_left (by decide))
      have r : (4 : Nat) = 0 ∨ ¬ own_B c3 := h6
      have n2 : own_nb 3 4 c3 = 1 := own_nb1 (by decide) (r.resolve_left (by decide))
      exact Or.inl ⟨by omega, by unfold own_sv; rw [n1]; rfl, by unfold own_ev; rw [n2]; rfl⟩
  · have hj : j = 1 ∨ j = 2 ∨ j = 3 ∨ j = 4 := by omega
    rcases hj with rfl | rfl | rfl | rfl
    · have q : (1 : Nat) = 4 ∨ ¬ own_B c1 := h4
      have q2 : own_B c1 := h5 1 (by omega) (by show 1 < 4; omega)
      exact absurd q2 (q.resolve_left (by decide))
    · have a0 : own_nb 0 4 c0 = 0 := own_nb0 (Or.inr (h3 0 (by omega)))
      have q : (1 : Nat) = 4 ∨ ¬ own_B c1 := h4
      have n1 : own_nb 1 4 c1 = 1 := own_nb1 (by decide) (q.resolve_left (by decide))
      have e2 : own_nb 2 4 c2 = 0 := own_nb0 (Or.inr (h5 2 (by omega) (by show 2 < 4; omega)))
      have e3 : own_nb 3 4 c3 = 0 := own_nb0 (Or.inr (h5 3 (by omega) (by show 3 < 4; omega)))
      exact Or.inl ⟨by omega, by unfold own_sv; rw [a0, n1]; rfl, by unfold own_ev; rw [e3, e2, n1]; rfl⟩
    · have a0 : own_nb 0 4 c0 = 0 := own_nb0 (Or.inr (h3 0 (by omega)))
      have q : (1 : Nat) = 4 ∨ ¬ own_B c1 := h4
      have n1 : own_nb 1 4 c1 = 1 := own_nb1 (by decide) (q.resolve_left (by decide))
      have r : (3 : Nat) = 1 ∨ ¬ own_B c2 := h6
      have n2 : own_nb 2 4 c2 = 1 := own_nb1 (by decide) (r.resolve_left (by decide))
      have e3 : own_nb 3 4 c3 = 0 := own_nb0 (Or.inr (h5 3 (by omega) (by show 3 < 4; omega)))
      exact Or.inl ⟨by omega, by unfold own_sv; rw [a0, n1]; rfl, by unfold own_ev; rw [e3, n2]; rfl⟩
    · have a0 : own_nb 0 4 c0 = 0 := own_nb0 (Or.inr (h3 0 (by omega)))
      have q : (1 : Nat) = 4 ∨ ¬ own_B c1 := h4
      have n1 : own_nb 1 4 c1 = 1 := own_nb1 (by decide) (q.resolve_left (by decide))
      have r : (4 : Nat) = 1 ∨ ¬ own_B c3 := h6
      have n2 : own_nb 3 4 c3 = 1 := own_nb1 (by decide) (r.resolve_left (by decide))
      exact Or.inl ⟨by omega, by unfold own_sv; rw [a0, n1]; rfl, by unfold own_ev; rw [n2]; rfl⟩
  · have hj : j = 2 ∨ j = 3 ∨ j = 4 := by omega
    rcases hj with rfl | rfl | rfl
    · have q : (2 : Nat) = 4 ∨ ¬ own_B c2 := h4
      have q2 : own_B c2 := h5 2 (by omega) (by show 2 < 4; omega)
      exact absurd q2 (q.resolve_left (by decide))
    · have a0 : own_nb 0 4 c0 = 0 := own_nb0 (Or.inr (h3 0 (by omega)))
      have a1 : own_nb 1 4 c1 = 0 := own_nb0 (Or.inr (h3 1 (by omega)))
      have q : (2 : Nat) = 4 ∨ ¬ own_B c2 := h4
      have n1 : own_nb 2 4 c2 = 1 := own_nb1 (by decide) (q.resolve_left (by decide))
      have e3 : own_nb 3 4 c3 = 0 := own_nb0 (Or.inr (h5 3 (by omega) (by show 3 < 4; omega)))
      exact Or.inl ⟨by omega, by unfold own_sv; rw [a0, a1, n1]; rfl, by unfold own_ev; rw [e3, n1]; rfl⟩
    · have a0 : own_nb 0 4 c0 = 0 := own_nb0 (Or.inr (h3 0 (by omega)))
      have a1 : own_nb 1 4 c1 = 0 := own_nb0 (Or.inr (h3 1 (by omega)))
      have q : (2 : Nat) = 4 ∨ ¬ own_B c2 := h4
      have n1 : own_nb 2 4 c2 = 1 := own_nb1 (by decide) (q.resolve_left (by decide))
      have r : (4 : Nat) = 2 ∨ ¬ own_B c3 := h6
      have n2 : own_nb 3 4 c3 = 1 := own_nb1 (by decide) (r.resolve_left (by decide))
      exact Or.inl ⟨by omega, by unfold own_sv; rw [a0, a1, n1]; rfl, by unfold own_ev; rw [n2]; rfl⟩
  · have hj : j = 3 ∨ j = 4 := by omega
    rcases hj with rfl | rfl
    · have q : (3 : Nat) = 4 ∨ ¬ own_B c3 := h4
      have q2 : own_B c3 := h5 3 (by omega) (by show 3 < 4; omega)
      exact absurd q2 (q.resolve_left (by decide))
    · have a0 : own_nb 0 4 c0 = 0 := own_nb0 (Or.inr (h3 0 (by omega)))
      have a1 : own_nb 1 4 c1 = 0 := own_nb0 (Or.inr (h3 1 (by omega)))
      have a2 : own_nb 2 4 c2 = 0 := own_nb0 (Or.inr (h3 2 (by omega)))
      have q : (3 : Nat) = 4 ∨ ¬ own_B c3 := h4
      have n1 : own_nb 3 4 c3 = 1 := own_nb1 (by decide) (q.resolve_left (by decide))
      exact Or.inl ⟨by omega, by unfold own_sv; rw [a0, a1, a2, n1]; rfl, by unfold own_ev; rw [n1]; rfl⟩
  · have hj : j = 4 := by omega
    rcases hj with rfl
    · have a0 : own_nb 0 4 c0 = 0 := own_nb0 (Or.inr (h3 0 (by omega)))
      have a1 : own_nb 1 4 c1 = 0 := own_nb0 (Or.inr (h3 1 (by omega)))
      have a2 : own_nb 2 4 c2 = 0 := own_nb0 (Or.inr (h3 2 (by omega)))
      have a3 : own_nb 3 4 c3 = 0 := own_nb0 (Or.inr (h3 3 (by omega)))
      exact Or.inr ⟨rfl, by unfold own_sv; rw [a0, a1, a2, a3]; rfl, by unfold own_ev; rw [a3, a2, a1, a0]; rfl⟩
/-- one place of the answer against the place of the array -/
def own_p (ds vs : List Int32) (sv ln k : Int32) : Prop := ¬ k < ln ∨ (k < ln ∧ k.toNatClampNeg < ds.length ∧ k = Int32.ofNat k.toNatClampNeg ∧ ¬ (sv + k) < 0 ∧ (sv + k) < 4 ∧ vs.getD (sv + k).toNatClampNeg 0 = ds.getD k.toNatClampNeg 0)
theorem own_fin {kn c0 c1 c2 c3 : Int32} {i j : Nat} (hk : kn = 0 ∨ kn = 1 ∨ kn = 2 ∨ kn = 3 ∨ kn = 4) (ht : own_trim (own_t5 kn c0 c1 c2 c3) i j) {sv ev : Int32} (hs : sv = own_sv (own_nb 0 kn c0) (own_nb 1 kn c1) (own_nb 2 kn c2) (own_nb 3 kn c3)) (he : ev = own_ev (own_nb 0 kn c0) (own_nb 1 kn c1) (own_nb 2 kn c2) (own_nb 3 kn c3)) :
    Int32.ofNat (((own_t5 kn c0 c1 c2 c3).drop i).take (j - i)).length = ev - sv ∧ ∀ k : Nat, k < 4 → own_p (((own_t5 kn c0 c1 c2 c3).drop i).take (j - i)) [c0, c1, c2, c3] sv (ev - sv) (Int32.ofNat k) := by
  have hE : (i < j ∧ sv = Int32.ofNat i ∧ ev = Int32.ofNat j) ∨ (i = j ∧ sv = 0 ∧ ev = 0) := by
    rw [hs, he]
    rcases hk with rfl | rfl | rfl | rfl | rfl
    · exact own_ends_0 ht
    · exact own_ends_1 ht
    · exact own_ends_2 ht
    · exact own_ends_3 ht
    · exact own_ends_4 ht
  have hlen : (own_t5 kn c0 c1 c2 c3).length ≤ 4 ∧ ∀ k, k < (own_t5 kn c0 c1 c2 c3).length → (own_t5 kn c0 c1 c2 c3).getD k 0 = ([c0, c1, c2, c3] : List Int32).getD k 0 := by
    rcases hk with rfl | rfl | rfl | rfl | rfl
    · exact ⟨Nat.le_of_ble_eq_true rfl, fun k q => absurd q (Nat.not_lt_zero _)⟩
    · refine ⟨Nat.le_of_ble_eq_true rfl, fun k q => ?_⟩
      have q : k < 1 := q
      have : k = 0 := by omega
      subst this; rfl
    · refine ⟨Nat.le_of_ble_eq_true rfl, fun k q => ?_⟩
      have q : k < 2 := q
      have : k = 0 ∨ k = 1 := by omega
      rcases this with rfl | rfl <;> rfl
    · refine ⟨Nat.le_of_ble_eq_true rfl, fun k q => ?_⟩
      have q : k < 3 := q
      have : k = 0 ∨ k = 1 ∨ k = 2 := by omega
      rcases this with rfl | rfl | rfl <;> rfl
    · exact ⟨Nat.le_of_ble_eq_true rfl, fun k q => rfl⟩
  obtain ⟨h1, h2, -⟩ := ht
  generalize own_t5 kn c0 c1 c2 c3 = cs at *
  have hl : ((cs.drop i).take (j - i)).length = j - i := own_len_sub (by omega)
  rcases hE with ⟨g1, rfl, rfl⟩ | ⟨g1, rfl, rfl⟩
  · rw [hl, ofN_sub (by omega) h1]
    refine ⟨rfl, fun k hk4 => ?_⟩
    by_cases q : k < j - i
    · refine Or.inr ⟨(ofN_lt (by omega) (by omega)).mpr q, ?_, ?_, ?_, ?_, ?_⟩
      · rw [ofN_nat (by omega), hl]; exact q
      · rw [ofN_nat (by omega)]
      · rw [ofN_add (by omega)]; exact ofN_neg (by omega)
      · rw [ofN_add (by omega)]; exact (ofN_lt (b := 4) (by omega) (by omega)).mpr (by omega)
      · rw [ofN_add (by omega), ofN_nat (by omega), ofN_nat (by omega), ← hlen.2 _ (by omega)]
        have e : i + k < cs.length := by omega
        simp [List.getD_eq_getElem?_getD, q, e]
    · exact Or.inl fun z => q ((ofN_lt (by omega) (by omega)).mp z)
  · rw [hl]
    subst g1
    rw [Nat.sub_self]
    exact ⟨rfl, fun k hk4 => Or.inl (ofN_neg (by omega))⟩
theorem own_t5_le {kn c0 c1 c2 c3 : Int32} (hk : kn = 0 ∨ kn = 1 ∨ kn = 2 ∨ kn = 3 ∨ kn = 4) : (own_t5 kn c0 c1 c2 c3).length ≤ 16 := by
  rcases hk with rfl | rfl | rfl | rfl | rfl <;> exact Nat.le_of_ble_eq_true rfl
theorem own_wS {Z : State} {a0 : Array Value} (hw : ∀ d ∈ tables_1, d.before a0 Z = true) : ∀ d ∈ Bundle.stringAtoms, d.before a0 Z = true := fun d hd => hw d ((by decide +kernel : ∀ d ∈ Bundle.stringAtoms, d ∈ tables_1) d hd)
theorem own_words {Z : State} {a0 : Array Value} (hw : ∀ d ∈ tables_1, d.before a0 Z = true) : ∀ d ∈ StrChars.Road.words, d.before a0 Z = true := fun d hd => hw d ((by decide +kernel : ∀ d ∈ StrChars.Road.words, d ∈ tables_1) d hd)
theorem own_newStr {l : Launch} {Z : State} {a0 : Array Value} {cz : Int32} {fm : Value} (H : Ctx Z a0 cz fm) {p : Program} {e : Env} {R : Room} {s : State} {m : MethodId} {args : Array Value} {below : List Frame} {meth : Method} {c : Code} {own : String} {vm0 : Vm} {T : State} {h : Heap} {k n : Nat} {G : Outcome → State → Prop} {pc : Nat} {Ls : Array Slot} {rest : List Value}
    (X : OSt p l e R s m args below meth c own Z consts_1 vm0 T h k n) {x b : Addr} {kC : ClassId} {cs : List Int32} {d : Value} {N : Int32} {j : Nat} (hx0 : Z.heap.size ≤ x) (E : Exa Z h x "java/lang/String") (V : Fld Z h x "java/lang/String" "value" "[B" .null) (C : Fld Z h x "java/lang/String" "coder" "B" (.int (0 : Int32))) (K : Arv Z h b kC .char N (cs.map Value.int) d)
    (hN : N = Int32.ofNat cs.length) (hj : cs.length = j) (l0 : 0 < j) (l2 : j ≤ 4000) (hp : ∀ c ∈ cs, ¬ c < 0 ∧ ¬ (255 : Int32) < c) {index : Nat} (w1 : (Jvm.Cond.methodLink own index ⟨"java/lang/String", "<init>", "([C)V"⟩).before a0 Z = true) {W : Nat} (hfr : 4 ≤ R.frames) (hlo : W + 65 ≤ R.locals) (hsize : Ls.size = c.maxLocals) (hW : (rest.map fun v => v.category).sum ≤ W) (hd : decode c.code pc = .ok (.invokespecial index, 3)) (hk : k + 1 ≤ R.cells) (hn : n + j ≤ R.slots)
    (q : ∀ T' h', OSt p l e R s m args below meth c own Z consts_1 vm0 T' h' (k + 1) (n + j) → Keep h h' [x] → OStr Z h' x cs → OEnds p e below G T' (mkF m (pc + 3) Ls rest)) : OEnds p e below G T (mkF m pc Ls (.ref b :: .ref x :: rest)) := by
  obtain ⟨hw, hE, S0, hcz, -⟩ := id H
  refine X.payI (StrChars.Road.backV (W := W) (n0 := Z.heap.size) (s := s.setVm vm0) X.hZ (own_words hw) (kI := 4) (hw _ (List.mem_of_getElem? (i := 7) rfl)) (cs := cs) (bs := cs.map (fun c => c.toInt8.toInt32)) (n := j) hx0 X.old.1 E V C K (S0.ext X.old) hcz hj (by rw [hN, hj]) l0 l2 hp rfl hfr hlo) ?_ w1 (hw _ (List.mem_of_getElem? (i := 10) rfl)) (hw _ (List.mem_of_getElem? (i := 11) rfl)) rfl (by decide) (a := x) (argsL := [.ref b]) (rest := rest) rfl (lenOf own_pdC rfl) rfl hsize hW hd hk hn ?_
  · rintro v h' L ⟨q1, q2, q3, -⟩
    exact ⟨q2, ext_keep X.old q3 (allS hx0 all0), CHr.keep q3 (sfS (safe_blank X.al E V) sf0) X.chv⟩
  · rintro v T' h' L X' ⟨rfl, q2, q3, q4, q5, t, kb, -, -, -, q9, q10⟩
    subst hj
    exact q T' h' X' q3 ⟨q4, q5, ⟨t, kb, q9, by rw [hN] at q10; exact q10⟩, hp, l2⟩
theorem own_wLen {Z : State} {a0 : Array Value} (hw : ∀ d ∈ tables_1, d.before a0 Z = true) : ∀ d ∈ StrChars.Road.wordsLen, d.before a0 Z = true := fun d hd => hw d ((by decide +kernel : ∀ d ∈ StrChars.Road.wordsLen, d ∈ tables_1) d hd)
theorem own_len {l : Launch} {Z : State} {a0 : Array Value} {cz : Int32} {fm : Value} (H : Ctx Z a0 cz fm) {p : Program} {e : Env} {R : Room} {s : State} {args : Array Value} {below : List Frame} {vm0 : Vm} {h : Heap} (hZ : Z.Warmed39 vm0) (hO : Ext Z.heap h) {x : Addr} {cs : List Int32} {W : Nat} (F : OStr Z h x cs) (hfr : 2 ≤ R.frames) (hlo : W + 25 ≤ R.locals) : Back l R p e below (s.setVm vm0) args ⟨"java/lang/String", "length", "()I"⟩ 3 W (PreB R #[.ref x] h 0 0) (PostB (fun v h' L => v = some (.int (Int32.ofNat cs.length)) ∧ L = [] ∧ h' = h) 0 0) := by
  obtain ⟨hw, hE, S0, hcz, S1, rf⟩ := id H
  obtain ⟨F1, F2, ⟨t, kb, F3, F4⟩, F5, F6⟩ := F
  exact StrChars.Road.lenW (W := W) (s := s.setVm vm0) hZ (own_wLen hw) (kI := 4) (hw _ (List.mem_of_getElem? (i := 7) rfl)) F1 F3 F2 F4 (StrChars.Road.codOf rfl (fun c hc => (F5 c hc).2)) (fun c hc => up255 (F5 c hc)) (S0.ext hO) hcz F6 hfr hlo
theorem own_wCh {Z : State} {a0 : Array Value} (hw : ∀ d ∈ tables_1, d.before a0 Z = true) : ∀ d ∈ StrChars.Road.wordsChN, d.before a0 Z = true := fun d hd => hw d ((by decide +kernel : ∀ d ∈ StrChars.Road.wordsChN, d ∈ tables_1) d hd)
theorem own_chr {l : Launch} {Z : State} {a0 : Array Value} {cz : Int32} {fm : Value} (H : Ctx Z a0 cz fm) {p : Program} {e : Env} {R : Room} {s : State} {args : Array Value} {below : List Frame} {vm0 : Vm} {h : Heap} (hZ : Z.Warmed39 vm0) (hO : Ext Z.heap h) {x : Addr} {cs : List Int32} {W i : Nat} {j : Int32} (F : OStr Z h x cs) (hi : i < cs.length) (hj : j = Int32.ofNat i) (hfr : 4 ≤ R.frames) (hlo : W + 53 ≤ R.locals) : Back l R p e below (s.setVm vm0) args ⟨"java/lang/String", "charAt", "(I)C"⟩ 3 W (PreB R #[.ref x, .int j] h 0 0) (PostB (fun v h' L => v = some (.int (cs.getD i 0)) ∧ L = [] ∧ h' = h) 0 0) := by
  obtain ⟨hw, hE, S0, hcz, S1, rf⟩ := id H
  obtain ⟨F1, F2, ⟨t, kb, F3, F4⟩, F5, F6⟩ := F
  exact StrChars.Road.chN (W := W) (s := s.setVm vm0) hZ (own_wCh hw) (kI := 4) (hw _ (List.mem_of_getElem? (i := 7) rfl)) F1 F3 F2 F4 (StrChars.Road.codOf rfl (fun c hc => (F5 c hc).2)) (fun c hc => up255 (F5 c hc)) (S0.ext hO) hcz (S1.ext hO) rf F6 hi hj hfr hlo
theorem own_pf0 : plainFor (⟨"java/lang/String", "<init>", "([CIILjava/lang/Void;)V"⟩ : MethodName) = true := by first | exact plainFor_of_name (by first | (simp [plainName, overriddenIn]; done) | decide +kernel) | decide +kernel
theorem own_ef0 (m : MethodId) (x0 : Addr) (x1 : Addr) (x2 : Int32) (x3 : Int32)  : entryFrame m #[(.ref x0), (.ref x1), (.int x2), (.int x3), (.null)] 6 = mkF m 0 #[.val (.ref x0), .val (.ref x1), .val (.int x2), .val (.int x3), .val (.null), .unset] [] := by first | (simp [entryFrame, mkF, argsToLocals, Value.category]; done) | rfl
theorem d_jdk_42_method_149_0 : decode jdk_42_method_149_code 0 = .ok (.aload_n 0, 1) := by decide +kernel
theorem d_jdk_42_method_149_1 : decode jdk_42_method_149_code 1 = .ok (.invokespecial 1, 3) := by decide +kernel
theorem d_jdk_42_method_149_4 : decode jdk_42_method_149_code 4 = .ok (.iload_n 3, 1) := by decide +kernel
theorem d_jdk_42_method_149_5 : decode jdk_42_method_149_code 5 = .ok (.ifCond .ne 22, 3) := by decide +kernel
theorem d_jdk_42_method_149_8 : decode jdk_42_method_149_code 8 = .ok (.aload_n 0, 1) := by decide +kernel
theorem d_jdk_42_method_149_9 : decode jdk_42_method_149_code 9 = .ok (.ldc 7, 2) := by decide +kernel
theorem d_jdk_42_method_149_11 : decode jdk_42_method_149_code 11 = .ok (.getfield 9, 3) := by decide +kernel
theorem d_jdk_42_method_149_14 : decode jdk_42_method_149_code 14 = .ok (.putfield 9, 3) := by decide +kernel
theorem d_jdk_42_method_149_17 : decode jdk_42_method_149_code 17 = .ok (.aload_n 0, 1) := by decide +kernel
theorem d_jdk_42_method_149_18 : decode jdk_42_method_149_code 18 = .ok (.ldc 7, 2) := by decide +kernel
theorem d_jdk_42_method_149_20 : decode jdk_42_method_149_code 20 = .ok (.getfield 15, 3) := by decide +kernel
theorem d_jdk_42_method_149_23 : decode jdk_42_method_149_code 23 = .ok (.putfield 15, 3) := by decide +kernel
theorem d_jdk_42_method_149_26 : decode jdk_42_method_149_code 26 = .ok (.return_, 1) := by decide +kernel
theorem own_pf1 : plainFor (⟨"java/lang/String", "<init>", "([C)V"⟩ : MethodName) = true := by first | exact plainFor_of_name (by first | (simp [plainName, overriddenIn]; done) | decide +kernel) | decide +kernel
theorem own_ef1 (m : MethodId) (x0 : Addr) (x1 : Addr)  : entryFrame m #[(.ref x0), (.ref x1)] 2 = mkF m 0 #[.val (.ref x0), .val (.ref x1)] [] := by first | (simp [entryFrame, mkF, argsToLocals, Value.category]; done) | rfl
theorem d_jdk_42_method_3_0 : decode jdk_42_method_3_code 0 = .ok (.aload_n 0, 1) := by decide +kernel
theorem d_jdk_42_method_3_1 : decode jdk_42_method_3_code 1 = .ok (.aload_n 1, 1) := by decide +kernel
theorem d_jdk_42_method_3_2 : decode jdk_42_method_3_code 2 = .ok (.iconst 0, 1) := by decide +kernel
theorem d_jdk_42_method_3_3 : decode jdk_42_method_3_code 3 = .ok (.aload_n 1, 1) := by decide +kernel
theorem d_jdk_42_method_3_4 : decode jdk_42_method_3_code 4 = .ok (.arraylength, 1) := by decide +kernel
theorem d_jdk_42_method_3_5 : decode jdk_42_method_3_code 5 = .ok (.aconst_null, 1) := by decide +kernel
theorem own_pd0 : parseMethodDescriptor "([CIILjava/lang/Void;)V" = some ⟨[(FieldType.array FieldType.char), FieldType.int, FieldType.int, (FieldType.object "java/lang/Void")], none⟩ := by decide +kernel
theorem d_jdk_42_method_3_6 : decode jdk_42_method_3_code 6 = .ok (.invokespecial 27, 3) := by decide +kernel
theorem d_jdk_42_method_3_9 : decode jdk_42_method_3_code 9 = .ok (.return_, 1) := by decide +kernel
theorem own_pf2 : plainFor (⟨"java/lang/Math", "min", "(II)I"⟩ : MethodName) = true := by first | exact plainFor_of_name (by first | (simp [plainName, overriddenIn]; done) | decide +kernel) | decide +kernel
theorem own_ef2 (m : MethodId) (x0 : Int32) (x1 : Int32)  : entryFrame m #[(.int x0), (.int x1)] 2 = mkF m 0 #[.val (.int x0), .val (.int x1)] [] := by first | (simp [entryFrame, mkF, argsToLocals, Value.category]; done) | rfl
theorem d_jdk_29_method_69_0 : decode jdk_29_method_69_code 0 = .ok (.iload_n 0, 1) := by decide +kernel
theorem d_jdk_29_method_69_1 : decode jdk_29_method_69_code 1 = .ok (.iload_n 1, 1) := by decide +kernel
theorem d_jdk_29_method_69_2 : decode jdk_29_method_69_code 2 = .ok (.if_icmp .gt 7, 3) := by decide +kernel
theorem d_jdk_29_method_69_9 : decode jdk_29_method_69_code 9 = .ok (.iload_n 1, 1) := by decide +kernel
theorem d_jdk_29_method_69_10 : decode jdk_29_method_69_code 10 = .ok (.ireturn, 1) := by decide +kernel
theorem d_jdk_29_method_69_5 : decode jdk_29_method_69_code 5 = .ok (.iload_n 0, 1) := by decide +kernel
theorem d_jdk_29_method_69_6 : decode jdk_29_method_69_code 6 = .ok (.goto 4, 3) := by decide +kernel
theorem own_pf3 : plainFor (⟨"java/util/Arrays", "checkLength", "(II)V"⟩ : MethodName) = true := by first | exact plainFor_of_name (by first | (simp [plainName, overriddenIn]; done) | decide +kernel) | decide +kernel
theorem d_jdk_65_method_131_0 : decode jdk_65_method_131_code 0 = .ok (.iload_n 1, 1) := by decide +kernel
theorem d_jdk_65_method_131_1 : decode jdk_65_method_131_code 1 = .ok (.iload_n 0, 1) := by decide +kernel
theorem d_jdk_65_method_131_2 : decode jdk_65_method_131_code 2 = .ok (.if_icmp .ge 35, 3) := by decide +kernel
theorem d_jdk_65_method_131_37 : decode jdk_65_method_131_code 37 = .ok (.return_, 1) := by decide +kernel
theorem own_pf4 : plainFor (⟨"java/util/Arrays", "copyOfRangeByte", "([BII)[B"⟩ : MethodName) = true := by first | exact plainFor_of_name (by first | (simp [plainName, overriddenIn]; done) | decide +kernel) | decide +kernel
theorem own_ef3 (m : MethodId) (x0 : Addr) (x1 : Int32) (x2 : Int32)  : entryFrame m #[(.ref x0), (.int x1), (.int x2)] 5 = mkF m 0 #[.val (.ref x0), .val (.int x1), .val (.int x2), .unset, .unset] [] := by first | (simp [entryFrame, mkF, argsToLocals, Value.category]; done) | rfl
theorem d_jdk_65_method_133_0 : decode jdk_65_method_133_code 0 = .ok (.iload_n 1, 1) := by decide +kernel
theorem d_jdk_65_method_133_1 : decode jdk_65_method_133_code 1 = .ok (.iload_n 2, 1) := by decide +kernel
theorem own_pd1 : parseMethodDescriptor "(II)V" = some ⟨[FieldType.int, FieldType.int], none⟩ := by decide +kernel
theorem d_jdk_65_method_133_2 : decode jdk_65_method_133_code 2 = .ok (.invokestatic 343, 3) := by decide +kernel
theorem d_jdk_65_method_133_5 : decode jdk_65_method_133_code 5 = .ok (.iload_n 2, 1) := by decide +kernel
theorem d_jdk_65_method_133_6 : decode jdk_65_method_133_code 6 = .ok (.iload_n 1, 1) := by decide +kernel
theorem d_jdk_65_method_133_7 : decode jdk_65_method_133_code 7 = .ok (.isub, 1) := by decide +kernel
theorem d_jdk_65_method_133_8 : decode jdk_65_method_133_code 8 = .ok (.istore_n 3, 1) := by decide +kernel
theorem d_jdk_65_method_133_9 : decode jdk_65_method_133_code 9 = .ok (.iload_n 3, 1) := by decide +kernel
theorem d_jdk_65_method_133_10 : decode jdk_65_method_133_code 10 = .ok (.newarray .byte, 2) := by decide +kernel
theorem d_jdk_65_method_133_12 : decode jdk_65_method_133_code 12 = .ok (.astore 4, 2) := by decide +kernel
theorem d_jdk_65_method_133_14 : decode jdk_65_method_133_code 14 = .ok (.aload_n 0, 1) := by decide +kernel
theorem d_jdk_65_method_133_15 : decode jdk_65_method_133_code 15 = .ok (.iload_n 1, 1) := by decide +kernel
theorem d_jdk_65_method_133_16 : decode jdk_65_method_133_code 16 = .ok (.aload 4, 2) := by decide +kernel
theorem d_jdk_65_method_133_18 : decode jdk_65_method_133_code 18 = .ok (.iconst 0, 1) := by decide +kernel
theorem d_jdk_65_method_133_19 : decode jdk_65_method_133_code 19 = .ok (.aload_n 0, 1) := by decide +kernel
theorem d_jdk_65_method_133_20 : decode jdk_65_method_133_code 20 = .ok (.arraylength, 1) := by decide +kernel
theorem d_jdk_65_method_133_21 : decode jdk_65_method_133_code 21 = .ok (.iload_n 1, 1) := by decide +kernel
theorem d_jdk_65_method_133_22 : decode jdk_65_method_133_code 22 = .ok (.isub, 1) := by decide +kernel
theorem d_jdk_65_method_133_23 : decode jdk_65_method_133_code 23 = .ok (.iload_n 3, 1) := by decide +kernel
theorem own_pd2 : parseMethodDescriptor "(II)I" = some ⟨[FieldType.int, FieldType.int], some FieldType.int⟩ := by decide +kernel
theorem d_jdk_65_method_133_24 : decode jdk_65_method_133_code 24 = .ok (.invokestatic 304, 3) := by decide +kernel
theorem d_jdk_65_method_133_27 : decode jdk_65_method_133_code 27 = .ok (.invokestatic 150, 3) := by decide +kernel
theorem d_jdk_65_method_133_30 : decode jdk_65_method_133_code 30 = .ok (.aload 4, 2) := by decide +kernel
theorem d_jdk_65_method_133_32 : decode jdk_65_method_133_code 32 = .ok (.areturn, 1) := by decide +kernel
theorem own_pf5 : plainFor (⟨"java/util/Arrays", "copyOfRange", "([BII)[B"⟩ : MethodName) = true := by first | exact plainFor_of_name (by first | (simp [plainName, overriddenIn]; done) | decide +kernel) | decide +kernel
theorem own_ef4 (m : MethodId) (x0 : Addr) (x1 : Int32) (x2 : Int32)  : entryFrame m #[(.ref x0), (.int x1), (.int x2)] 3 = mkF m 0 #[.val (.ref x0), .val (.int x1), .val (.int x2)] [] := by first | (simp [entryFrame, mkF, argsToLocals, Value.category]; done) | rfl
theorem d_jdk_65_method_132_0 : decode jdk_65_method_132_code 0 = .ok (.iload_n 1, 1) := by decide +kernel
theorem d_jdk_65_method_132_10 : decode jdk_65_method_132_code 10 = .ok (.aload_n 0, 1) := by decide +kernel
theorem d_jdk_65_method_132_11 : decode jdk_65_method_132_code 11 = .ok (.iload_n 1, 1) := by decide +kernel
theorem d_jdk_65_method_132_12 : decode jdk_65_method_132_code 12 = .ok (.iload_n 2, 1) := by decide +kernel
theorem own_pd3 : parseMethodDescriptor "([BII)[B" = some ⟨[(FieldType.array FieldType.byte), FieldType.int, FieldType.int], some (FieldType.array FieldType.byte)⟩ := by decide +kernel
theorem d_jdk_65_method_132_13 : decode jdk_65_method_132_code 13 = .ok (.invokestatic 339, 3) := by decide +kernel
theorem d_jdk_65_method_132_16 : decode jdk_65_method_132_code 16 = .ok (.areturn, 1) := by decide +kernel
theorem d_jdk_65_method_132_1 : decode jdk_65_method_132_code 1 = .ok (.ifCond .ne 9, 3) := by decide +kernel
theorem d_jdk_65_method_132_4 : decode jdk_65_method_132_code 4 = .ok (.iload_n 2, 1) := by decide +kernel
theorem d_jdk_65_method_132_5 : decode jdk_65_method_132_code 5 = .ok (.aload_n 0, 1) := by decide +kernel
theorem d_jdk_65_method_132_6 : decode jdk_65_method_132_code 6 = .ok (.arraylength, 1) := by decide +kernel
theorem d_jdk_65_method_132_7 : decode jdk_65_method_132_code 7 = .ok (.if_icmp .eq 10, 3) := by decide +kernel
theorem own_pf6 : plainFor (⟨"java/lang/String", "<init>", "([BB)V"⟩ : MethodName) = true := by first | exact plainFor_of_name (by first | (simp [plainName, overriddenIn]; done) | decide +kernel) | decide +kernel
theorem own_ef5 (m : MethodId) (x0 : Addr) (x1 : Addr) (x2 : Int32)  : entryFrame m #[(.ref x0), (.ref x1), (.int x2)] 3 = mkF m 0 #[.val (.ref x0), .val (.ref x1), .val (.int x2)] [] := by first | (simp [entryFrame, mkF, argsToLocals, Value.category]; done) | rfl
theorem d_jdk_42_method_151_0 : decode jdk_42_method_151_code 0 = .ok (.aload_n 0, 1) := by decide +kernel
theorem d_jdk_42_method_151_1 : decode jdk_42_method_151_code 1 = .ok (.invokespecial 1, 3) := by decide +kernel
theorem d_jdk_42_method_151_4 : decode jdk_42_method_151_code 4 = .ok (.aload_n 0, 1) := by decide +kernel
theorem d_jdk_42_method_151_5 : decode jdk_42_method_151_code 5 = .ok (.aload_n 1, 1) := by decide +kernel
theorem d_jdk_42_method_151_6 : decode jdk_42_method_151_code 6 = .ok (.putfield 9, 3) := by decide +kernel
theorem d_jdk_42_method_151_9 : decode jdk_42_method_151_code 9 = .ok (.aload_n 0, 1) := by decide +kernel
theorem d_jdk_42_method_151_10 : decode jdk_42_method_151_code 10 = .ok (.iload_n 2, 1) := by decide +kernel
theorem d_jdk_42_method_151_11 : decode jdk_42_method_151_code 11 = .ok (.putfield 15, 3) := by decide +kernel
theorem d_jdk_42_method_151_14 : decode jdk_42_method_151_code 14 = .ok (.return_, 1) := by decide +kernel
theorem own_pf7 : plainFor (⟨"java/lang/StringLatin1", "newString", "([BII)Ljava/lang/String;"⟩ : MethodName) = true := by first | exact plainFor_of_name (by first | (simp [plainName, overriddenIn]; done) | decide +kernel) | decide +kernel
theorem d_jdk_43_method_47_0 : decode jdk_43_method_47_code 0 = .ok (.iload_n 2, 1) := by decide +kernel
theorem d_jdk_43_method_47_1 : decode jdk_43_method_47_code 1 = .ok (.ifCond .ne 6, 3) := by decide +kernel
theorem d_jdk_43_method_47_4 : decode jdk_43_method_47_code 4 = .ok (.ldc 151, 2) := by decide +kernel
theorem d_jdk_43_method_47_6 : decode jdk_43_method_47_code 6 = .ok (.areturn, 1) := by decide +kernel
theorem d_jdk_43_method_47_7 : decode jdk_43_method_47_code 7 = .ok (.new 1, 3) := by decide +kernel
theorem d_jdk_43_method_47_10 : decode jdk_43_method_47_code 10 = .ok (.dup, 1) := by decide +kernel
theorem d_jdk_43_method_47_11 : decode jdk_43_method_47_code 11 = .ok (.aload_n 0, 1) := by decide +kernel
theorem d_jdk_43_method_47_12 : decode jdk_43_method_47_code 12 = .ok (.iload_n 1, 1) := by decide +kernel
theorem d_jdk_43_method_47_13 : decode jdk_43_method_47_code 13 = .ok (.iload_n 1, 1) := by decide +kernel
theorem d_jdk_43_method_47_14 : decode jdk_43_method_47_code 14 = .ok (.iload_n 2, 1) := by decide +kernel
theorem d_jdk_43_method_47_15 : decode jdk_43_method_47_code 15 = .ok (.iadd, 1) := by decide +kernel
theorem d_jdk_43_method_47_16 : decode jdk_43_method_47_code 16 = .ok (.invokestatic 232, 3) := by decide +kernel
theorem d_jdk_43_method_47_19 : decode jdk_43_method_47_code 19 = .ok (.iconst 0, 1) := by decide +kernel
theorem own_pd4 : parseMethodDescriptor "([BB)V" = some ⟨[(FieldType.array FieldType.byte), FieldType.byte], none⟩ := by decide +kernel
theorem d_jdk_43_method_47_20 : decode jdk_43_method_47_code 20 = .ok (.invokespecial 112, 3) := by decide +kernel
theorem d_jdk_43_method_47_23 : decode jdk_43_method_47_code 23 = .ok (.areturn, 1) := by decide +kernel
theorem own_pf8 : plainFor (⟨"java/lang/String", "isLatin1", "()Z"⟩ : MethodName) = true := by first | exact plainFor_of_name (by first | (simp [plainName, overriddenIn]; done) | decide +kernel) | decide +kernel
theorem own_ef6 (m : MethodId) (x0 : Addr)  : entryFrame m #[(.ref x0)] 1 = mkF m 0 #[.val (.ref x0)] [] := by first | (simp [entryFrame, mkF, argsToLocals, Value.category]; done) | rfl
theorem d_jdk_42_method_154_0 : decode jdk_42_method_154_code 0 = .ok (.getstatic 38, 3) := by decide +kernel
theorem d_jdk_42_method_154_3 : decode jdk_42_method_154_code 3 = .ok (.ifCond .eq 14, 3) := by decide +kernel
theorem d_jdk_42_method_154_6 : decode jdk_42_method_154_code 6 = .ok (.aload_n 0, 1) := by decide +kernel
theorem d_jdk_42_method_154_7 : decode jdk_42_method_154_code 7 = .ok (.getfield 15, 3) := by decide +kernel
theorem d_jdk_42_method_154_10 : decode jdk_42_method_154_code 10 = .ok (.ifCond .ne 7, 3) := by decide +kernel
theorem d_jdk_42_method_154_13 : decode jdk_42_method_154_code 13 = .ok (.iconst 1, 1) := by decide +kernel
theorem d_jdk_42_method_154_14 : decode jdk_42_method_154_code 14 = .ok (.goto 4, 3) := by decide +kernel
theorem d_jdk_42_method_154_18 : decode jdk_42_method_154_code 18 = .ok (.ireturn, 1) := by decide +kernel
theorem own_pf9 : plainFor (⟨"jdk/internal/util/Preconditions", "checkFromToIndex", "(IIILjava/util/function/BiFunction;)I"⟩ : MethodName) = true := by first | exact plainFor_of_name (by first | (simp [plainName, overriddenIn]; done) | decide +kernel) | decide +kernel
theorem own_ef7 (m : MethodId) (x0 : Int32) (x1 : Int32) (x2 : Int32) (x3 : Value) (r3 : x3.isRef = true) : entryFrame m #[(.int x0), (.int x1), (.int x2), (x3)] 4 = mkF m 0 #[.val (.int x0), .val (.int x1), .val (.int x2), .val (x3)] [] := by rcases ref_cases r3 with rfl | ⟨_, rfl⟩ <;> first | (simp [entryFrame, mkF, argsToLocals, Value.category]; done) | rfl
theorem d_jdk_41_method_12_0 : decode jdk_41_method_12_code 0 = .ok (.iload_n 0, 1) := by decide +kernel
theorem d_jdk_41_method_12_1 : decode jdk_41_method_12_code 1 = .ok (.ifCond .lt 13, 3) := by decide +kernel
theorem d_jdk_41_method_12_4 : decode jdk_41_method_12_code 4 = .ok (.iload_n 0, 1) := by decide +kernel
theorem d_jdk_41_method_12_5 : decode jdk_41_method_12_code 5 = .ok (.iload_n 1, 1) := by decide +kernel
theorem d_jdk_41_method_12_6 : decode jdk_41_method_12_code 6 = .ok (.if_icmp .gt 8, 3) := by decide +kernel
theorem d_jdk_41_method_12_9 : decode jdk_41_method_12_code 9 = .ok (.iload_n 1, 1) := by decide +kernel
theorem d_jdk_41_method_12_10 : decode jdk_41_method_12_code 10 = .ok (.iload_n 2, 1) := by decide +kernel
theorem d_jdk_41_method_12_11 : decode jdk_41_method_12_code 11 = .ok (.if_icmp .le 11, 3) := by decide +kernel
theorem d_jdk_41_method_12_22 : decode jdk_41_method_12_code 22 = .ok (.iload_n 0, 1) := by decide +kernel
theorem d_jdk_41_method_12_23 : decode jdk_41_method_12_code 23 = .ok (.ireturn, 1) := by decide +kernel
theorem own_pf10 : plainFor (⟨"java/lang/String", "checkBoundsBeginEnd", "(III)V"⟩ : MethodName) = true := by first | exact plainFor_of_name (by first | (simp [plainName, overriddenIn]; done) | decide +kernel) | decide +kernel
theorem own_ef8 (m : MethodId) (x0 : Int32) (x1 : Int32) (x2 : Int32)  : entryFrame m #[(.int x0), (.int x1), (.int x2)] 3 = mkF m 0 #[.val (.int x0), .val (.int x1), .val (.int x2)] [] := by first | (simp [entryFrame, mkF, argsToLocals, Value.category]; done) | rfl
theorem d_jdk_42_method_158_0 : decode jdk_42_method_158_code 0 = .ok (.iload_n 0, 1) := by decide +kernel
theorem d_jdk_42_method_158_1 : decode jdk_42_method_158_code 1 = .ok (.iload_n 1, 1) := by decide +kernel
theorem d_jdk_42_method_158_2 : decode jdk_42_method_158_code 2 = .ok (.iload_n 2, 1) := by decide +kernel
theorem d_jdk_42_method_158_3 : decode jdk_42_method_158_code 3 = .ok (.getstatic 1053, 3) := by decide +kernel
theorem own_pd5 : parseMethodDescriptor "(IIILjava/util/function/BiFunction;)I" = some ⟨[FieldType.int, FieldType.int, FieldType.int, (FieldType.object "java/util/function/BiFunction")], some FieldType.int⟩ := by decide +kernel
theorem d_jdk_42_method_158_6 : decode jdk_42_method_158_code 6 = .ok (.invokestatic 1062, 3) := by decide +kernel
theorem d_jdk_42_method_158_9 : decode jdk_42_method_158_code 9 = .ok (.pop, 1) := by decide +kernel
theorem d_jdk_42_method_158_10 : decode jdk_42_method_158_code 10 = .ok (.return_, 1) := by decide +kernel
theorem own_pf11 : plainFor (⟨"java/lang/String", "substring", "(II)Ljava/lang/String;"⟩ : MethodName) = true := by first | exact plainFor_of_name (by first | (simp [plainName, overriddenIn]; done) | decide +kernel) | decide +kernel
theorem d_jdk_42_method_92_0 : decode jdk_42_method_92_code 0 = .ok (.aload_n 0, 1) := by decide +kernel
theorem own_pd6 : parseMethodDescriptor "()I" = some ⟨[], some FieldType.int⟩ := by decide +kernel
theorem d_jdk_42_method_92_1 : decode jdk_42_method_92_code 1 = .ok (.invokevirtual 505, 3) := by decide +kernel
theorem d_jdk_42_method_92_4 : decode jdk_42_method_92_code 4 = .ok (.istore_n 3, 1) := by decide +kernel
theorem d_jdk_42_method_92_5 : decode jdk_42_method_92_code 5 = .ok (.iload_n 1, 1) := by decide +kernel
theorem d_jdk_42_method_92_6 : decode jdk_42_method_92_code 6 = .ok (.iload_n 2, 1) := by decide +kernel
theorem d_jdk_42_method_92_7 : decode jdk_42_method_92_code 7 = .ok (.iload_n 3, 1) := by decide +kernel
theorem own_pd7 : parseMethodDescriptor "(III)V" = some ⟨[FieldType.int, FieldType.int, FieldType.int], none⟩ := by decide +kernel
theorem d_jdk_42_method_92_8 : decode jdk_42_method_92_code 8 = .ok (.invokestatic 521, 3) := by decide +kernel
theorem d_jdk_42_method_92_11 : decode jdk_42_method_92_code 11 = .ok (.iload_n 1, 1) := by decide +kernel
theorem d_jdk_42_method_92_22 : decode jdk_42_method_92_code 22 = .ok (.iload_n 2, 1) := by decide +kernel
theorem d_jdk_42_method_92_23 : decode jdk_42_method_92_code 23 = .ok (.iload_n 1, 1) := by decide +kernel
theorem d_jdk_42_method_92_24 : decode jdk_42_method_92_code 24 = .ok (.isub, 1) := by decide +kernel
theorem d_jdk_42_method_92_25 : decode jdk_42_method_92_code 25 = .ok (.istore 4, 2) := by decide +kernel
theorem d_jdk_42_method_92_27 : decode jdk_42_method_92_code 27 = .ok (.aload_n 0, 1) := by decide +kernel
theorem own_pd8 : parseMethodDescriptor "()Z" = some ⟨[], some FieldType.boolean⟩ := by decide +kernel
theorem d_jdk_42_method_92_28 : decode jdk_42_method_92_code 28 = .ok (.invokevirtual 492, 3) := by decide +kernel
theorem d_jdk_42_method_92_31 : decode jdk_42_method_92_code 31 = .ok (.ifCond .eq 16, 3) := by decide +kernel
theorem d_jdk_42_method_92_34 : decode jdk_42_method_92_code 34 = .ok (.aload_n 0, 1) := by decide +kernel
theorem d_jdk_42_method_92_35 : decode jdk_42_method_92_code 35 = .ok (.getfield 9, 3) := by decide +kernel
theorem d_jdk_42_method_92_38 : decode jdk_42_method_92_code 38 = .ok (.iload_n 1, 1) := by decide +kernel
theorem d_jdk_42_method_92_39 : decode jdk_42_method_92_code 39 = .ok (.iload 4, 2) := by decide +kernel
theorem own_pd9 : parseMethodDescriptor "([BII)Ljava/lang/String;" = some ⟨[(FieldType.array FieldType.byte), FieldType.int, FieldType.int], some (FieldType.object "java/lang/String")⟩ := by decide +kernel
theorem d_jdk_42_method_92_41 : decode jdk_42_method_92_code 41 = .ok (.invokestatic 685, 3) := by decide +kernel
theorem d_jdk_42_method_92_44 : decode jdk_42_method_92_code 44 = .ok (.goto 13, 3) := by decide +kernel
theorem d_jdk_42_method_92_57 : decode jdk_42_method_92_code 57 = .ok (.areturn, 1) := by decide +kernel
theorem d_jdk_42_method_92_12 : decode jdk_42_method_92_code 12 = .ok (.ifCond .ne 10, 3) := by decide +kernel
theorem d_jdk_42_method_92_15 : decode jdk_42_method_92_code 15 = .ok (.iload_n 2, 1) := by decide +kernel
theorem d_jdk_42_method_92_16 : decode jdk_42_method_92_code 16 = .ok (.iload_n 3, 1) := by decide +kernel
theorem d_jdk_42_method_92_17 : decode jdk_42_method_92_code 17 = .ok (.if_icmp .ne 5, 3) := by decide +kernel
theorem d_jdk_42_method_92_20 : decode jdk_42_method_92_code 20 = .ok (.aload_n 0, 1) := by decide +kernel
theorem d_jdk_42_method_92_21 : decode jdk_42_method_92_code 21 = .ok (.areturn, 1) := by decide +kernel
theorem own_pf12 : plainFor (⟨"com/example/gatepost/gatepost/edge/MessageHeadTrimmedPinLaw", "pick", "(I)C"⟩ : MethodName) = true := by first | exact plainFor_of_name (by first | (simp [plainName, overriddenIn]; done) | decide +kernel) | decide +kernel
theorem own_ef9 (m : MethodId) (x0 : Int32)  : entryFrame m #[(.int x0)] 2 = mkF m 0 #[.val (.int x0), .unset] [] := by first | (simp [entryFrame, mkF, argsToLocals, Value.category]; done) | rfl
theorem d_method_2_0 : decode method_2_code 0 = .ok (.iload_n 0, 1) := by decide +kernel
theorem d_method_2_1 : decode method_2_code 1 = .ok (.iconst 3, 1) := by decide +kernel
theorem d_method_2_2 : decode method_2_code 2 = .ok (.iand, 1) := by decide +kernel
theorem d_method_2_3 : decode method_2_code 3 = .ok (.istore_n 1, 1) := by decide +kernel
theorem d_method_2_4 : decode method_2_code 4 = .ok (.iload_n 1, 1) := by decide +kernel
theorem d_method_2_5 : decode method_2_code 5 = .ok (.ifCond .ne 6, 3) := by decide +kernel
theorem d_method_2_8 : decode method_2_code 8 = .ok (.bipush 32, 2) := by decide +kernel
theorem d_method_2_10 : decode method_2_code 10 = .ok (.ireturn, 1) := by decide +kernel
theorem d_method_2_11 : decode method_2_code 11 = .ok (.iload_n 1, 1) := by decide +kernel
theorem d_method_2_12 : decode method_2_code 12 = .ok (.iconst 1, 1) := by decide +kernel
theorem d_method_2_13 : decode method_2_code 13 = .ok (.if_icmp .ne 6, 3) := by decide +kernel
theorem d_method_2_16 : decode method_2_code 16 = .ok (.bipush 9, 2) := by decide +kernel
theorem d_method_2_18 : decode method_2_code 18 = .ok (.ireturn, 1) := by decide +kernel
theorem d_method_2_19 : decode method_2_code 19 = .ok (.iload_n 0, 1) := by decide +kernel
theorem d_method_2_20 : decode method_2_code 20 = .ok (.iconst 2, 1) := by decide +kernel
theorem d_method_2_21 : decode method_2_code 21 = .ok (.iushr, 1) := by decide +kernel
theorem d_method_2_22 : decode method_2_code 22 = .ok (.sipush 255, 3) := by decide +kernel
theorem d_method_2_25 : decode method_2_code 25 = .ok (.iand, 1) := by decide +kernel
theorem d_method_2_26 : decode method_2_code 26 = .ok (.i2c, 1) := by decide +kernel
theorem d_method_2_27 : decode method_2_code 27 = .ok (.ireturn, 1) := by decide +kernel
theorem own_pf13 : plainFor (⟨"com/example/gatepost/gatepost/edge/MessageHeadTrimmedPinLaw", "blank", "(C)Z"⟩ : MethodName) = true := by first | exact plainFor_of_name (by first | (simp [plainName, overriddenIn]; done) | decide +kernel) | decide +kernel
theorem own_ef10 (m : MethodId) (x0 : Int32)  : entryFrame m #[(.int x0)] 1 = mkF m 0 #[.val (.int x0)] [] := by first | (simp [entryFrame, mkF, argsToLocals, Value.category]; done) | rfl
theorem d_method_3_0 : decode method_3_code 0 = .ok (.iload_n 0, 1) := by decide +kernel
theorem d_method_3_1 : decode method_3_code 1 = .ok (.bipush 32, 2) := by decide +kernel
theorem d_method_3_3 : decode method_3_code 3 = .ok (.if_icmp .eq 9, 3) := by decide +kernel
theorem d_method_3_12 : decode method_3_code 12 = .ok (.iconst 1, 1) := by decide +kernel
theorem d_method_3_13 : decode method_3_code 13 = .ok (.goto 4, 3) := by decide +kernel
theorem d_method_3_17 : decode method_3_code 17 = .ok (.ireturn, 1) := by decide +kernel
theorem d_method_3_6 : decode method_3_code 6 = .ok (.iload_n 0, 1) := by decide +kernel
theorem d_method_3_7 : decode method_3_code 7 = .ok (.bipush 9, 2) := by decide +kernel
theorem d_method_3_9 : decode method_3_code 9 = .ok (.if_icmp .ne 7, 3) := by decide +kernel
theorem d_method_3_16 : decode method_3_code 16 = .ok (.iconst 0, 1) := by decide +kernel
theorem own_pf14 : plainFor (⟨"com/example/gatepost/gatepost/edge/MessageHeadTrimmedPinLaw", "same", "(Ljava/lang/String;I[CII)Z"⟩ : MethodName) = true := by first | exact plainFor_of_name (by first | (simp [plainName, overriddenIn]; done) | decide +kernel) | decide +kernel
theorem own_ef11 (m : MethodId) (x0 : Addr) (x1 : Int32) (x2 : Addr) (x3 : Int32) (x4 : Int32)  : entryFrame m #[(.ref x0), (.int x1), (.ref x2), (.int x3), (.int x4)] 5 = mkF m 0 #[.val (.ref x0), .val (.int x1), .val (.ref x2), .val (.int x3), .val (.int x4)] [] := by first | (simp [entryFrame, mkF, argsToLocals, Value.category]; done) | rfl
theorem d_method_4_0 : decode method_4_code 0 = .ok (.iload_n 1, 1) := by decide +kernel
theorem d_method_4_1 : decode method_4_code 1 = .ok (.iload 4, 2) := by decide +kernel
theorem d_method_4_3 : decode method_4_code 3 = .ok (.if_icmp .ge 16, 3) := by decide +kernel
theorem d_method_4_19 : decode method_4_code 19 = .ok (.iconst 1, 1) := by decide +kernel
theorem d_method_4_20 : decode method_4_code 20 = .ok (.goto 4, 3) := by decide +kernel
theorem d_method_4_24 : decode method_4_code 24 = .ok (.ireturn, 1) := by decide +kernel
theorem d_method_4_6 : decode method_4_code 6 = .ok (.aload_n 0, 1) := by decide +kernel
theorem d_method_4_7 : decode method_4_code 7 = .ok (.iload_n 1, 1) := by decide +kernel
theorem own_pd10 : parseMethodDescriptor "(I)C" = some ⟨[FieldType.int], some FieldType.char⟩ := by decide +kernel
theorem d_method_4_8 : decode method_4_code 8 = .ok (.invokevirtual 7, 3) := by decide +kernel
theorem d_method_4_11 : decode method_4_code 11 = .ok (.aload_n 2, 1) := by decide +kernel
theorem d_method_4_12 : decode method_4_code 12 = .ok (.iload_n 3, 1) := by decide +kernel
theorem d_method_4_13 : decode method_4_code 13 = .ok (.iload_n 1, 1) := by decide +kernel
theorem d_method_4_14 : decode method_4_code 14 = .ok (.iadd, 1) := by decide +kernel
theorem d_method_4_15 : decode method_4_code 15 = .ok (.caload, 1) := by decide +kernel
theorem d_method_4_16 : decode method_4_code 16 = .ok (.if_icmp .ne 7, 3) := by decide +kernel
theorem own_pf15 : plainFor (⟨"com/example/gatepost/gatepost/edge/MessageHead", "trimmed", "(Ljava/lang/String;)Ljava/lang/String;"⟩ : MethodName) = true := by first | exact plainFor_of_name (by first | (simp [plainName, overriddenIn]; done) | decide +kernel) | decide +kernel
theorem own_ef12 (m : MethodId) (x0 : Addr)  : entryFrame m #[(.ref x0)] 3 = mkF m 0 #[.val (.ref x0), .unset, .unset] [] := by first | (simp [entryFrame, mkF, argsToLocals, Value.category]; done) | rfl
theorem d_prog_38_method_5_0 : decode prog_38_method_5_code 0 = .ok (.iconst 0, 1) := by decide +kernel
theorem d_prog_38_method_5_1 : decode prog_38_method_5_code 1 = .ok (.istore_n 1, 1) := by decide +kernel
theorem d_prog_38_method_5_2 : decode prog_38_method_5_code 2 = .ok (.aload_n 0, 1) := by decide +kernel
theorem d_prog_38_method_5_3 : decode prog_38_method_5_code 3 = .ok (.invokevirtual 62, 3) := by decide +kernel
theorem d_prog_38_method_5_6 : decode prog_38_method_5_code 6 = .ok (.istore_n 2, 1) := by decide +kernel
theorem d_prog_38_method_5_73 : decode prog_38_method_5_code 73 = .ok (.aload_n 0, 1) := by decide +kernel
theorem d_prog_38_method_5_74 : decode prog_38_method_5_code 74 = .ok (.iload_n 1, 1) := by decide +kernel
theorem d_prog_38_method_5_75 : decode prog_38_method_5_code 75 = .ok (.iload_n 2, 1) := by decide +kernel
theorem own_pd11 : parseMethodDescriptor "(II)Ljava/lang/String;" = some ⟨[FieldType.int, FieldType.int], some (FieldType.object "java/lang/String")⟩ := by decide +kernel
theorem d_prog_38_method_5_76 : decode prog_38_method_5_code 76 = .ok (.invokevirtual 65, 3) := by decide +kernel
theorem d_prog_38_method_5_79 : decode prog_38_method_5_code 79 = .ok (.areturn, 1) := by decide +kernel
theorem d_prog_38_method_5_38 : decode prog_38_method_5_code 38 = .ok (.iload_n 2, 1) := by decide +kernel
theorem d_prog_38_method_5_39 : decode prog_38_method_5_code 39 = .ok (.iload_n 1, 1) := by decide +kernel
theorem d_prog_38_method_5_40 : decode prog_38_method_5_code 40 = .ok (.if_icmp .le 33, 3) := by decide +kernel
theorem d_prog_38_method_5_43 : decode prog_38_method_5_code 43 = .ok (.aload_n 0, 1) := by decide +kernel
theorem d_prog_38_method_5_44 : decode prog_38_method_5_code 44 = .ok (.iload_n 2, 1) := by decide +kernel
theorem d_prog_38_method_5_45 : decode prog_38_method_5_code 45 = .ok (.iconst 1, 1) := by decide +kernel
theorem d_prog_38_method_5_46 : decode prog_38_method_5_code 46 = .ok (.isub, 1) := by decide +kernel
theorem d_prog_38_method_5_47 : decode prog_38_method_5_code 47 = .ok (.invokevirtual 125, 3) := by decide +kernel
theorem d_prog_38_method_5_50 : decode prog_38_method_5_code 50 = .ok (.bipush 32, 2) := by decide +kernel
theorem d_prog_38_method_5_52 : decode prog_38_method_5_code 52 = .ok (.if_icmp .eq 15, 3) := by decide +kernel
theorem d_prog_38_method_5_67 : decode prog_38_method_5_code 67 = .ok (.iinc 2 (-1), 3) := by decide +kernel
theorem d_prog_38_method_5_70 : decode prog_38_method_5_code 70 = .ok (.goto (-32), 3) := by decide +kernel
theorem d_prog_38_method_5_55 : decode prog_38_method_5_code 55 = .ok (.aload_n 0, 1) := by decide +kernel
theorem d_prog_38_method_5_56 : decode prog_38_method_5_code 56 = .ok (.iload_n 2, 1) := by decide +kernel
theorem d_prog_38_method_5_57 : decode prog_38_method_5_code 57 = .ok (.iconst 1, 1) := by decide +kernel
theorem d_prog_38_method_5_58 : decode prog_38_method_5_code 58 = .ok (.isub, 1) := by decide +kernel
theorem d_prog_38_method_5_59 : decode prog_38_method_5_code 59 = .ok (.invokevirtual 125, 3) := by decide +kernel
theorem d_prog_38_method_5_62 : decode prog_38_method_5_code 62 = .ok (.bipush 9, 2) := by decide +kernel
theorem d_prog_38_method_5_64 : decode prog_38_method_5_code 64 = .ok (.if_icmp .ne 9, 3) := by decide +kernel
theorem d_prog_38_method_5_7 : decode prog_38_method_5_code 7 = .ok (.iload_n 1, 1) := by decide +kernel
theorem d_prog_38_method_5_8 : decode prog_38_method_5_code 8 = .ok (.iload_n 2, 1) := by decide +kernel
theorem d_prog_38_method_5_9 : decode prog_38_method_5_code 9 = .ok (.if_icmp .ge 29, 3) := by decide +kernel
theorem d_prog_38_method_5_12 : decode prog_38_method_5_code 12 = .ok (.aload_n 0, 1) := by decide +kernel
theorem d_prog_38_method_5_13 : decode prog_38_method_5_code 13 = .ok (.iload_n 1, 1) := by decide +kernel
theorem d_prog_38_method_5_14 : decode prog_38_method_5_code 14 = .ok (.invokevirtual 125, 3) := by decide +kernel
theorem d_prog_38_method_5_17 : decode prog_38_method_5_code 17 = .ok (.bipush 32, 2) := by decide +kernel
theorem d_prog_38_method_5_19 : decode prog_38_method_5_code 19 = .ok (.if_icmp .eq 13, 3) := by decide +kernel
theorem d_prog_38_method_5_32 : decode prog_38_method_5_code 32 = .ok (.iinc 1 1, 3) := by decide +kernel
theorem d_prog_38_method_5_35 : decode prog_38_method_5_code 35 = .ok (.goto (-28), 3) := by decide +kernel
theorem d_prog_38_method_5_22 : decode prog_38_method_5_code 22 = .ok (.aload_n 0, 1) := by decide +kernel
theorem d_prog_38_method_5_23 : decode prog_38_method_5_code 23 = .ok (.iload_n 1, 1) := by decide +kernel
theorem d_prog_38_method_5_24 : decode prog_38_method_5_code 24 = .ok (.invokevirtual 125, 3) := by decide +kernel
theorem d_prog_38_method_5_27 : decode prog_38_method_5_code 27 = .ok (.bipush 9, 2) := by decide +kernel
theorem d_prog_38_method_5_29 : decode prog_38_method_5_code 29 = .ok (.if_icmp .ne 9, 3) := by decide +kernel
theorem own_pf16 : plainFor (⟨"com/example/gatepost/gatepost/edge/MessageHeadTrimmedPinLaw", "law", "(IIIII)Z"⟩ : MethodName) = true := by first | exact plainFor_of_name (by first | (simp [plainName, overriddenIn]; done) | decide +kernel) | decide +kernel
theorem own_ef13 (m : MethodId) (x0 : Int32) (x1 : Int32) (x2 : Int32) (x3 : Int32) (x4 : Int32)  : entryFrame m #[(.int x0), (.int x1), (.int x2), (.int x3), (.int x4)] 16 = mkF m 0 #[.val (.int x0), .val (.int x1), .val (.int x2), .val (.int x3), .val (.int x4), .unset, .unset, .unset, .unset, .unset, .unset, .unset, .unset, .unset, .unset, .unset] [] := by first | (simp [entryFrame, mkF, argsToLocals, Value.category]; done) | rfl
theorem own_pd12 : parseMethodDescriptor "(Ljava/lang/String;)Ljava/lang/String;" = some ⟨[(FieldType.object "java/lang/String")], some (FieldType.object "java/lang/String")⟩ := by decide +kernel
theorem own_pd13 : parseMethodDescriptor "(Ljava/lang/String;I[CII)Z" = some ⟨[(FieldType.object "java/lang/String"), FieldType.int, (FieldType.array FieldType.char), FieldType.int, FieldType.int], some FieldType.boolean⟩ := by decide +kernel
theorem own_pd14 : parseMethodDescriptor "(C)Z" = some ⟨[FieldType.char], some FieldType.boolean⟩ := by decide +kernel
theorem own_pd15 : parseMethodDescriptor "([C)V" = some ⟨[(FieldType.array FieldType.char)], none⟩ := by decide +kernel
theorem con_new4e {l : Launch} {Z : State} {a0 : Array Value} {cz : Int32} {fm : Value} (H : Ctx Z a0 cz fm) (x b : Addr) (gzx : Z.heap.size ≤ x) (h0 : Heap) (Ax : Exa Z h0 x "java/lang/String") (Fx_value : Fld Z h0 x "java/lang/String" "value" "[B" .null) (Fx_coder : Fld Z h0 x "java/lang/String" "coder" "B" (.int (0 : Int32))) :
    ConX l Z consts_1 (⟨"java/lang/String", "<init>", "([CIILjava/lang/Void;)V"⟩ : MethodName) jdk_42_method_149_code 6 (none : Option FieldType) [] ({ frames := 1, cells := 4, slots := 8, locals := 12 } : Room) #[(.ref x), (.ref b), (.int (0 : Int32)), (.int (0 : Int32)), (.null)] h0 (fun r h => r = none ∧ Keep h0 h [x] ∧ OStr Z h x []) := by
  obtain ⟨hw, hE, S0, hcz, S1, rf⟩ := id H
  refine ConX.of own_pf0 ?_
  intro p e s m below meth c T hby hml hret hlk hnm X0
  have EX0 := ext_refl h0
  refine OEnds.cast (own_ef0 m x b (0 : Int32) (0 : Int32) ) ?_
  show OEnds p e below _ T (mkF m 0 #[.val (.ref x), .val (.ref b), .val (.int (0 : Int32)), .val (.int (0 : Int32)), .val (.null), .unset] [])
  have K0 := Keep.refl h0 [x]
  refine OEnds.go (fun _ q => XS.aloadN X0.here X0.hx rfl (hb hby d_jdk_42_method_149_0) rfl rfl q) ?_
  show OEnds p e below _ T (mkF m 1 #[.val (.ref x), .val (.ref b), .val (.int (0 : Int32)), .val (.int (0 : Int32)), .val (.null), .unset] [(.ref x)])
  refine X0.initO (hw _ (List.mem_of_getElem? (i := 16) rfl)) (hw _ (List.mem_of_getElem? (i := 17) rfl)) (hw _ (List.mem_of_getElem? (i := 18) rfl)) (by rw [hml]; rfl) (hb hby d_jdk_42_method_149_1) (by decide) (W := 0) (Nat.le_of_eq rfl) (by decide) ?_
  intro T1 X2
  show OEnds p e below _ T1 (mkF m 4 #[.val (.ref x), .val (.ref b), .val (.int (0 : Int32)), .val (.int (0 : Int32)), .val (.null), .unset] [])
  refine OEnds.go (fun _ q => XS.iloadN X2.here X2.hx rfl (hb hby d_jdk_42_method_149_4) rfl q) ?_
  show OEnds p e below _ T1 (mkF m 5 #[.val (.ref x), .val (.ref b), .val (.int (0 : Int32)), .val (.int (0 : Int32)), .val (.null), .unset] [(.int (0 : Int32))])
  refine OEnds.go (fun _ q => XS.ifNo X2.here X2.hx rfl (hb hby d_jdk_42_method_149_5) rfl ((if0 _ _).trans (teq (rfl : (0 : Int32) = 0)).2) q) ?_
  show OEnds p e below _ T1 (mkF m 8 #[.val (.ref x), .val (.ref b), .val (.int (0 : Int32)), .val (.int (0 : Int32)), .val (.null), .unset] [])
  refine OEnds.go (fun _ q => XS.aloadN X2.here X2.hx rfl (hb hby d_jdk_42_method_149_8) rfl rfl q) ?_
  show OEnds p e below _ T1 (mkF m 9 #[.val (.ref x), .val (.ref b), .val (.int (0 : Int32)), .val (.int (0 : Int32)), .val (.null), .unset] [(.ref x)])
  have Sfx := safe_blank (EL := consts_1) X2.al Ax Fx_value
  refine X2.ldcR hE (hw _ (List.mem_of_getElem? (i := 19) rfl)) (own_wS hw) (List.mem_of_getElem? (i := 0) rfl) (vs := []) (z := 0) ⟨by decide, rfl⟩ (by decide) (by decide) (hb hby d_jdk_42_method_149_9) (j := 0) (by decide) (by decide) (by decide) (by decide) ?_
  intro vm3 T4 h5 a6 a7 ka7 X8 E9 C10 Aa6 Ca6 Va6 Ka7 ne11
  have Sf12 := C10.safe Ax.lt Sfx
  have Ax_h5 := Ax.ext E9
  have Fx_value_h5 := Fx_value.ext E9
  have Fx_coder_h5 := Fx_coder.ext E9
  have EX_h5 := ext_trans EX0 E9
  have Kpx_h5 := K0.ext E9
  show OEnds p e below _ T4 (mkF m 11 #[.val (.ref x), .val (.ref b), .val (.int (0 : Int32)), .val (.int (0 : Int32)), .val (.null), .unset] [(.ref a6), (.ref x)])
  refine X8.getF (hw _ (List.mem_of_getElem? (i := 25) rfl)) Via.refl Va6 (hb hby d_jdk_42_method_149_11) ?_
  intro T13 X14
  show OEnds p e below _ T13 (mkF m 14 #[.val (.ref x), .val (.ref b), .val (.int (0 : Int32)), .val (.int (0 : Int32)), .val (.null), .unset] [(.ref a7), (.ref x)])
  refine X14.putF (v := (.ref a7)) (hw _ (List.mem_of_getElem? (i := 25) rfl)) Via.refl Fx_value_h5 Ax_h5 (Or.inr ⟨(hw _ (List.mem_of_getElem? (i := 21) rfl)), rfl, hnm⟩) (hw _ (List.mem_of_getElem? (i := 7) rfl)) (ty := (FieldType.array FieldType.byte)) (by decide) rfl rfl Sf12 gzx (hb hby d_jdk_42_method_149_14) ?_
  intro T15 h17 X16 W18
  have Fx_value_h17 := Fx_value_h5.same W18
  have Ax_h17 := Ax_h5.wr W18
  have Fx_coder_h17 := Fx_coder_h5.other W18 (Or.inr (slot_ne (a0 := a0) (Or.inr (hw _ (List.mem_of_getElem? (i := 22) rfl))) (Or.inr (hw _ (List.mem_of_getElem? (i := 21) rfl))) (by decide) (t := FieldType.byte) (by decide) (t' := (FieldType.array FieldType.byte)) (by decide)))
  have K19 := Kpx_h5.wr W18 (Or.inl (List.mem_of_getElem? (i := 0) rfl))
  have Sf20 := Safe.wr W18 Sf12 X14.chv Sf12
  have Aa6_h17 := Aa6.wr W18
  have Ca6_h17 := Ca6.other W18 (Or.inl ((ne11 _ Sf12).1.symm))
  have Va6_h17 := Va6.other W18 (Or.inl ((ne11 _ Sf12).1.symm))
  have Ka7_h17 := Ka7.other W18 ((ne11 _ Sf12).2.symm)
  show OEnds p e below _ T15 (mkF m 17 #[.val (.ref x), .val (.ref b), .val (.int (0 : Int32)), .val (.int (0 : Int32)), .val (.null), .unset] [])
  refine OEnds.go (fun _ q => XS.aloadN X16.here X16.hx rfl (hb hby d_jdk_42_method_149_17) rfl rfl q) ?_
  show OEnds p e below _ T15 (mkF m 18 #[.val (.ref x), .val (.ref b), .val (.int (0 : Int32)), .val (.int (0 : Int32)), .val (.null), .unset] [(.ref x)])
  refine X16.ldcR hE (hw _ (List.mem_of_getElem? (i := 19) rfl)) (own_wS hw) (List.mem_of_getElem? (i := 0) rfl) (vs := []) (z := 0) ⟨by decide, rfl⟩ (by decide) (by decide) (hb hby d_jdk_42_method_149_18) (j := 0) (by decide) (by decide) (by decide) (by decide) ?_
  intro vm21 T22 h23 a24 a25 ka25 X26 E27 C28 Aa24 Ca24 Va24 Ka25 ne29
  have Sf30 := C28.safe Ax_h17.lt Sf20
  have Aa6_h23 := Aa6_h17.ext E27
  have Ca6_h23 := Ca6_h17.ext E27
  have Va6_h23 := Va6_h17.ext E27
  have Ka7_h23 := Ka7_h17.ext E27
  have Fx_value_h23 := Fx_value_h17.ext E27
  have Ax_h23 := Ax_h17.ext E27
  have Fx_coder_h23 := Fx_coder_h17.ext E27
  have Kpx_h23 := K19.ext E27
  show OEnds p e below _ T22 (mkF m 20 #[.val (.ref x), .val (.ref b), .val (.int (0 : Int32)), .val (.int (0 : Int32)), .val (.null), .unset] [(.ref a24), (.ref x)])
  refine X26.getF (hw _ (List.mem_of_getElem? (i := 26) rfl)) Via.refl Ca24 (hb hby d_jdk_42_method_149_20) ?_
  intro T31 X32
  show OEnds p e below _ T31 (mkF m 23 #[.val (.ref x), .val (.ref b), .val (.int (0 : Int32)), .val (.int (0 : Int32)), .val (.null), .unset] [(.int (0 : Int32)), (.ref x)])
  refine X32.putF (v := (.int (0 : Int32))) (hw _ (List.mem_of_getElem? (i := 26) rfl)) Via.refl Fx_coder_h23 Ax_h23 (Or.inr ⟨(hw _ (List.mem_of_getElem? (i := 22) rfl)), rfl, hnm⟩) (hw _ (List.mem_of_getElem? (i := 7) rfl)) (ty := FieldType.byte) (by decide) rfl rfl Sf30 gzx (hb hby d_jdk_42_method_149_23) ?_
  intro T33 h35 X34 W36
  have Fx_coder_h35 := Fx_coder_h23.same W36
  have Ax_h35 := Ax_h23.wr W36
  have Fx_value_h35 := Fx_value_h23.other W36 (Or.inr (slot_ne (a0 := a0) (Or.inr (hw _ (List.mem_of_getElem? (i := 21) rfl))) (Or.inr (hw _ (List.mem_of_getElem? (i := 22) rfl))) (by decide) (t := (FieldType.array FieldType.byte)) (by decide) (t' := FieldType.byte) (by decide)))
  have K37 := Kpx_h23.wr W36 (Or.inl (List.mem_of_getElem? (i := 0) rfl))
  have Sf38 := Safe.wr W36 Sf30 X32.chv Sf30
  have Aa6_h35 := Aa6_h23.wr W36
  have Ca6_h35 := Ca6_h23.other W36 (Or.inl ((ne11 _ Sf12).1.symm))
  have Va6_h35 := Va6_h23.other W36 (Or.inl ((ne11 _ Sf12).1.symm))
  have Ka7_h35 := Ka7_h23.other W36 ((ne11 _ Sf12).2.symm)
  have Aa24_h35 := Aa24.wr W36
  have Ca24_h35 := Ca24.other W36 (Or.inl ((ne29 _ Sf30).1.symm))
  have Va24_h35 := Va24.other W36 (Or.inl ((ne29 _ Sf30).1.symm))
  have Ka25_h35 := Ka25.other W36 ((ne29 _ Sf30).2.symm)
  show OEnds p e below _ T33 (mkF m 26 #[.val (.ref x), .val (.ref b), .val (.int (0 : Int32)), .val (.int (0 : Int32)), .val (.null), .unset] [])
  exact X34.ret0 hE hlk  hret (hb hby d_jdk_42_method_149_26) (by decide) (by decide) ⟨rfl, K37, Ax_h35, Fx_coder_h35, ⟨a7, ka7, Fx_value_h35, Ka7_h35⟩, all_nil, by decide⟩
theorem con_strE {l : Launch} {Z : State} {a0 : Array Value} {cz : Int32} {fm : Value} (H : Ctx Z a0 cz fm) (x b : Addr) (kC : ClassId) (dv : Value) (gzx : Z.heap.size ≤ x) (h0 : Heap) (Ax : Exa Z h0 x "java/lang/String") (Fx_value : Fld Z h0 x "java/lang/String" "value" "[B" .null) (Fx_coder : Fld Z h0 x "java/lang/String" "coder" "B" (.int (0 : Int32))) (Kb : Arv Z h0 b kC .char (0 : Int32) [] dv) :
    ConX l Z consts_1 (⟨"java/lang/String", "<init>", "([C)V"⟩ : MethodName) jdk_42_method_3_code 2 (none : Option FieldType) [] ({ frames := 2, cells := 4, slots := 8, locals := 29 } : Room) #[(.ref x), (.ref b)] h0 (fun r h => r = none ∧ Keep h0 h [x] ∧ OStr Z h x []) := by
  obtain ⟨hw, hE, S0, hcz, S1, rf⟩ := id H
  refine ConX.of own_pf1 ?_
  intro p e s m below meth c T hby hml hret hlk hnm X0
  have EX0 := ext_refl h0
  refine OEnds.cast (own_ef1 m x b ) ?_
  show OEnds p e below _ T (mkF m 0 #[.val (.ref x), .val (.ref b)] [])
  have K0 := Keep.refl h0 [x]
  refine OEnds.go (fun _ q => XS.aloadN X0.here X0.hx rfl (hb hby d_jdk_42_method_3_0) rfl rfl q) ?_
  show OEnds p e below _ T (mkF m 1 #[.val (.ref x), .val (.ref b)] [(.ref x)])
  refine OEnds.go (fun _ q => XS.aloadN X0.here X0.hx rfl (hb hby d_jdk_42_method_3_1) rfl rfl q) ?_
  show OEnds p e below _ T (mkF m 2 #[.val (.ref x), .val (.ref b)] [(.ref b), (.ref x)])
  refine OEnds.go (fun _ q => XS.iconst X0.here X0.hx rfl (hb hby d_jdk_42_method_3_2) q) ?_
  show OEnds p e below _ T (mkF m 3 #[.val (.ref x), .val (.ref b)] [(.int (0 : Int32)), (.ref b), (.ref x)])
  refine OEnds.go (fun _ q => XS.aloadN X0.here X0.hx rfl (hb hby d_jdk_42_method_3_3) rfl rfl q) ?_
  show OEnds p e below _ T (mkF m 4 #[.val (.ref x), .val (.ref b)] [(.ref b), (.int (0 : Int32)), (.ref b), (.ref x)])
  refine X0.alen Kb (hb hby d_jdk_42_method_3_4) ?_
  show OEnds p e below _ T (mkF m 5 #[.val (.ref x), .val (.ref b)] [(.int (0 : Int32)), (.int (0 : Int32)), (.ref b), (.ref x)])
  refine OEnds.go (fun _ q => XS.aconstNull X0.here X0.hx rfl (hb hby d_jdk_42_method_3_5) q) ?_
  show OEnds p e below _ T (mkF m 6 #[.val (.ref x), .val (.ref b)] [(.null), (.int (0 : Int32)), (.int (0 : Int32)), (.ref b), (.ref x)])
  refine X0.callI hE (con_new4e H x b gzx h0 Ax Fx_value Fx_coder) (hw _ (List.mem_of_getElem? (i := 12) rfl)) (hw _ (List.mem_of_getElem? (i := 13) rfl)) (hw _ (List.mem_of_getElem? (i := 8) rfl)) (hw _ (List.mem_of_getElem? (i := 15) rfl)) rfl (by decide) (W := 0) (by decide) (by decide) (a := x) (argsL := [(.ref b), (.int (0 : Int32)), (.int (0 : Int32)), (.null)]) (rest := []) rfl (lenOf own_pd0 rfl) rfl (by rw [hml]; rfl) (Nat.le_of_eq rfl) (hb hby d_jdk_42_method_3_6) (by decide) (by decide) ?_
  intro v6 vm4 T1 h3 X2 C5 q7
  obtain ⟨rfl, K1, S1x⟩ := q7
  show OEnds p e below _ T1 (mkF m 9 #[.val (.ref x), .val (.ref b)] [])
  exact X2.ret0 hE hlk  hret (hb hby d_jdk_42_method_3_9) (by decide) (by decide) ⟨rfl, K1, S1x⟩
theorem con_min {l : Launch} {Z : State} {a0 : Array Value} {cz : Int32} {fm : Value} (H : Ctx Z a0 cz fm) (u v : Int32) (h0 : Heap)  :
    ConX l Z consts_1 (⟨"java/lang/Math", "min", "(II)I"⟩ : MethodName) jdk_29_method_69_code 2 (some FieldType.int) [] ({ frames := 0, cells := 0, slots := 0, locals := 0 } : Room) #[(.int u), (.int v)] h0 (fun r h => r = some (.int (if v < u then v else u)) ∧ h0 = h) := by
  obtain ⟨hw, hE, S0, hcz, S1, rf⟩ := id H
  refine ConX.of own_pf2 ?_
  intro p e s m below meth c T hby hml hret hlk hnm X0
  have EX0 := ext_refl h0
  refine OEnds.cast (own_ef2 m u v ) ?_
  show OEnds p e below _ T (mkF m 0 #[.val (.int u), .val (.int v)] [])
  refine OEnds.go (fun _ q => XS.iloadN X0.here X0.hx rfl (hb hby d_jdk_29_method_69_0) rfl q) ?_
  show OEnds p e below _ T (mkF m 1 #[.val (.int u), .val (.int v)] [(.int u)])
  refine OEnds.go (fun _ q => XS.iloadN X0.here X0.hx rfl (hb hby d_jdk_29_method_69_1) rfl q) ?_
  show OEnds p e below _ T (mkF m 2 #[.val (.int u), .val (.int v)] [(.int v), (.int u)])
  by_cases hc : v < u
  · skip
    refine OEnds.go (fun _ q => XS.icmpYes X0.here X0.hx rfl (pc0 := 2) (pc' := 9) rfl (hb hby d_jdk_29_method_69_2) rfl (tlt hc).2.2.1 (by decide) (by decide) q) ?_
    show OEnds p e below _ T (mkF m 9 #[.val (.int u), .val (.int v)] [])
    refine OEnds.go (fun _ q => XS.iloadN X0.here X0.hx rfl (hb hby d_jdk_29_method_69_9) rfl q) ?_
    show OEnds p e below _ T (mkF m 10 #[.val (.int u), .val (.int v)] [(.int v)])
    exact X0.retInt hE hlk  hret (hb hby d_jdk_29_method_69_10) (by decide) (by decide) ⟨by rw [if_pos hc], rfl⟩
  · skip
    refine OEnds.go (fun _ q => XS.icmpNo X0.here X0.hx rfl (hb hby d_jdk_29_method_69_2) rfl (flt hc).2.2.1 q) ?_
    show OEnds p e below _ T (mkF m 5 #[.val (.int u), .val (.int v)] [])
    refine OEnds.go (fun _ q => XS.iloadN X0.here X0.hx rfl (hb hby d_jdk_29_method_69_5) rfl q) ?_
    show OEnds p e below _ T (mkF m 6 #[.val (.int u), .val (.int v)] [(.int u)])
    refine OEnds.go (fun _ q => XS.goto X0.here X0.hx rfl (pc0 := 6) (pc' := 10) rfl (hb hby d_jdk_29_method_69_6) (by decide) (by decide) q) ?_
    show OEnds p e below _ T (mkF m 10 #[.val (.int u), .val (.int v)] [(.int u)])
    exact X0.retInt hE hlk  hret (hb hby d_jdk_29_method_69_10) (by decide) (by decide) ⟨by rw [if_neg hc], rfl⟩
theorem con_ckl {l : Launch} {Z : State} {a0 : Array Value} {cz : Int32} {fm : Value} (H : Ctx Z a0 cz fm) (u v : Int32) (hc : ¬ v < u) (h0 : Heap)  :
    ConX l Z consts_1 (⟨"java/util/Arrays", "checkLength", "(II)V"⟩ : MethodName) jdk_65_method_131_code 2 (none : Option FieldType) [] ({ frames := 0, cells := 0, slots := 0, locals := 0 } : Room) #[(.int u), (.int v)] h0 (fun r h => r = none ∧ h0 = h) := by
  obtain ⟨hw, hE, S0, hcz, S1, rf⟩ := id H
  refine ConX.of own_pf3 ?_
  intro p e s m below meth c T hby hml hret hlk hnm X0
  have EX0 := ext_refl h0
  refine OEnds.cast (own_ef2 m u v ) ?_
  show OEnds p e below _ T (mkF m 0 #[.val (.int u), .val (.int v)] [])
  refine OEnds.go (fun _ q => XS.iloadN X0.here X0.hx rfl (hb hby d_jdk_65_method_131_0) rfl q) ?_
  show OEnds p e below _ T (mkF m 1 #[.val (.int u), .val (.int v)] [(.int v)])
  refine OEnds.go (fun _ q => XS.iloadN X0.here X0.hx rfl (hb hby d_jdk_65_method_131_1) rfl q) ?_
  show OEnds p e below _ T (mkF m 2 #[.val (.int u), .val (.int v)] [(.int u), (.int v)])
  refine OEnds.go (fun _ q => XS.icmpYes X0.here X0.hx rfl (pc0 := 2) (pc' := 37) rfl (hb hby d_jdk_65_method_131_2) rfl (flt hc).2.1 (by decide) (by decide) q) ?_
  show OEnds p e below _ T (mkF m 37 #[.val (.int u), .val (.int v)] [])
  exact X0.ret0 hE hlk  hret (hb hby d_jdk_65_method_131_37) (by decide) (by decide) ⟨rfl, rfl⟩
theorem con_crb {l : Launch} {Z : State} {a0 : Array Value} {cz : Int32} {fm : Value} (H : Ctx Z a0 cz fm) (a : Addr) (ka : ClassId) (vs : List Value) (i j N : Nat) (hij : i ≤ j) (hjN : j ≤ N) (hN : N ≤ 16) (h0 : Heap) (Ka : Arv Z h0 a ka .byte (Int32.ofNat N) vs (.int 0)) :
    ConX l Z consts_1 (⟨"java/util/Arrays", "copyOfRangeByte", "([BII)[B"⟩ : MethodName) jdk_65_method_133_code 5 (some (FieldType.array FieldType.byte)) [] ({ frames := 1, cells := 1, slots := 16, locals := 60 } : Room) #[(.ref a), (.int (Int32.ofNat i)), (.int (Int32.ofNat j))] h0 (fun r h => ∃ (t : Addr) (kb : ClassId), r = some (.ref t) ∧ Ext h0 h ∧ Arv Z h t kb .byte (Int32.ofNat (j - i)) ((List.range (j - i)).map fun k => vs.getD (i + k) (.int 0)) (.int 0) ∧ h0.size ≤ t) := by
  obtain ⟨hw, hE, S0, hcz, S1, rf⟩ := id H
  refine ConX.of own_pf4 ?_
  intro p e s m below meth c T hby hml hret hlk hnm X0
  have EX0 := ext_refl h0
  refine OEnds.cast (own_ef3 m a (Int32.ofNat i) (Int32.ofNat j) ) ?_
  show OEnds p e below _ T (mkF m 0 #[.val (.ref a), .val (.int (Int32.ofNat i)), .val (.int (Int32.ofNat j)), .unset, .unset] [])
  refine OEnds.go (fun _ q => XS.iloadN X0.here X0.hx rfl (hb hby d_jdk_65_method_133_0) rfl q) ?_
  show OEnds p e below _ T (mkF m 1 #[.val (.ref a), .val (.int (Int32.ofNat i)), .val (.int (Int32.ofNat j)), .unset, .unset] [(.int (Int32.ofNat i))])
  refine OEnds.go (fun _ q => XS.iloadN X0.here X0.hx rfl (hb hby d_jdk_65_method_133_1) rfl q) ?_
  show OEnds p e below _ T (mkF m 2 #[.val (.ref a), .val (.int (Int32.ofNat i)), .val (.int (Int32.ofNat j)), .unset, .unset] [(.int (Int32.ofNat j)), (.int (Int32.ofNat i))])
  refine X0.callS hE (con_ckl H (Int32.ofNat i) (Int32.ofNat j) (by rw [ofN_lt (by omega) (by omega)]; omega) h0) (hw _ (List.mem_of_getElem? (i := 104) rfl)) (hw _ (List.mem_of_getElem? (i := 105) rfl)) (hw _ (List.mem_of_getElem? (i := 99) rfl)) (hw _ (List.mem_of_getElem? (i := 106) rfl))  (by decide) (W := 0) (by decide) (by decide) (argsL := [(.int (Int32.ofNat i)), (.int (Int32.ofNat j))]) (rest := []) rfl (lenOf own_pd1 rfl) rfl (by rw [hml]; rfl) (Nat.le_of_eq rfl) (hb hby d_jdk_65_method_133_2) (by decide) (by decide) ?_
  intro v6 vm4 T1 h3 X2 C5 q7
  obtain ⟨rfl, rfl⟩ := q7
  show OEnds p e below _ T1 (mkF m 5 #[.val (.ref a), .val (.int (Int32.ofNat i)), .val (.int (Int32.ofNat j)), .unset, .unset] [])
  refine OEnds.go (fun _ q => XS.iloadN X2.here X2.hx rfl (hb hby d_jdk_65_method_133_5) rfl q) ?_
  show OEnds p e below _ T1 (mkF m 6 #[.val (.ref a), .val (.int (Int32.ofNat i)), .val (.int (Int32.ofNat j)), .unset, .unset] [(.int (Int32.ofNat j))])
  refine OEnds.go (fun _ q => XS.iloadN X2.here X2.hx rfl (hb hby d_jdk_65_method_133_6) rfl q) ?_
  show OEnds p e below _ T1 (mkF m 7 #[.val (.ref a), .val (.int (Int32.ofNat i)), .val (.int (Int32.ofNat j)), .unset, .unset] [(.int (Int32.ofNat i)), (.int (Int32.ofNat j))])
  refine OEnds.go (fun _ q => XS.isub X2.here X2.hx rfl (hb hby d_jdk_65_method_133_7) rfl q) ?_
  show OEnds p e below _ T1 (mkF m 8 #[.val (.ref a), .val (.int (Int32.ofNat i)), .val (.int (Int32.ofNat j)), .unset, .unset] [(.int ((Int32.ofNat j) - (Int32.ofNat i)))])
  rw [ofN_sub (by omega) hij]
  show OEnds p e below _ T1 (mkF m 8 #[.val (.ref a), .val (.int (Int32.ofNat i)), .val (.int (Int32.ofNat j)), .unset, .unset] [(.int (Int32.ofNat (j - i)))])
  refine OEnds.go (fun _ q => XS.istoreN X2.here X2.hx rfl (hb hby d_jdk_65_method_133_8) rfl (l' := #[.val (.ref a), .val (.int (Int32.ofNat i)), .val (.int (Int32.ofNat j)), .val (.int (Int32.ofNat (j - i))), .unset]) rfl q) ?_
  show OEnds p e below _ T1 (mkF m 9 #[.val (.ref a), .val (.int (Int32.ofNat i)), .val (.int (Int32.ofNat j)), .val (.int (Int32.ofNat (j - i))), .unset] [])
  refine OEnds.go (fun _ q => XS.iloadN X2.here X2.hx rfl (hb hby d_jdk_65_method_133_9) rfl q) ?_
  show OEnds p e below _ T1 (mkF m 10 #[.val (.ref a), .val (.int (Int32.ofNat i)), .val (.int (Int32.ofNat j)), .val (.int (Int32.ofNat (j - i))), .unset] [(.int (Int32.ofNat (j - i)))])
  refine X2.newP (hw _ (List.mem_of_getElem? (i := 20) rfl)) (hb hby d_jdk_65_method_133_10) (ofN_neg (by omega)) (cap := 16) (by rw [ofN_nat (by omega)]; omega) (by decide) (by decide) (by decide) ?_
  intro T8 h10 a12 ka12 ga12 X9 E11 Ka12
  have gza12 : Z.heap.size ≤ a12 := ga12 ▸ X2.old.1
  have Ka_h10 := Ka.ext E11
  have EX_h10 := ext_trans EX0 E11
  have Sfa12 : Safe Z consts_1 vm4 h10 a12 := Safe.ext E11 X2.chv (Safe.new (Nat.le_of_eq ga12))
  have Ka12_0 : Arv Z h10 a12 ka12 .byte (Int32.ofNat (j - i)) [] (.int (0 : Int32)) := Ka12
  show OEnds p e below _ T8 (mkF m 12 #[.val (.ref a), .val (.int (Int32.ofNat i)), .val (.int (Int32.ofNat j)), .val (.int (Int32.ofNat (j - i))), .unset] [(.ref a12)])
  have Ka12_p := Ka12_0.pad (pad_rep [] (.int 0) (j - i))
  refine OEnds.go (fun _ q => XS.astore X9.here X9.hx rfl (hb hby d_jdk_65_method_133_12) rfl rfl (l' := #[.val (.ref a), .val (.int (Int32.ofNat i)), .val (.int (Int32.ofNat j)), .val (.int (Int32.ofNat (j - i))), .val (.ref a12)]) rfl q) ?_
  show OEnds p e below _ T8 (mkF m 14 #[.val (.ref a), .val (.int (Int32.ofNat i)), .val (.int (Int32.ofNat j)), .val (.int (Int32.ofNat (j - i))), .val (.ref a12)] [])
  refine OEnds.go (fun _ q => XS.aloadN X9.here X9.hx rfl (hb hby d_jdk_65_method_133_14) rfl rfl q) ?_
  show OEnds p e below _ T8 (mkF m 15 #[.val (.ref a), .val (.int (Int32.ofNat i)), .val (.int (Int32.ofNat j)), .val (.int (Int32.ofNat (j - i))), .val (.ref a12)] [(.ref a)])
  refine OEnds.go (fun _ q => XS.iloadN X9.here X9.hx rfl (hb hby d_jdk_65_method_133_15) rfl q) ?_
  show OEnds p e below _ T8 (mkF m 16 #[.val (.ref a), .val (.int (Int32.ofNat i)), .val (.int (Int32.ofNat j)), .val (.int (Int32.ofNat (j - i))), .val (.ref a12)] [(.int (Int32.ofNat i)), (.ref a)])
  refine OEnds.go (fun _ q => XS.aload X9.here X9.hx rfl (hb hby d_jdk_65_method_133_16) rfl rfl q) ?_
  show OEnds p e below _ T8 (mkF m 18 #[.val (.ref a), .val (.int (Int32.ofNat i)), .val (.int (Int32.ofNat j)), .val (.int (Int32.ofNat (j - i))), .val (.ref a12)] [(.ref a12), (.int (Int32.ofNat i)), (.ref a)])
  refine OEnds.go (fun _ q => XS.iconst X9.here X9.hx rfl (hb hby d_jdk_65_method_133_18) q) ?_
  show OEnds p e below _ T8 (mkF m 19 #[.val (.ref a), .val (.int (Int32.ofNat i)), .val (.int (Int32.ofNat j)), .val (.int (Int32.ofNat (j - i))), .val (.ref a12)] [(.int (0 : Int32)), (.ref a12), (.int (Int32.ofNat i)), (.ref a)])
  refine OEnds.go (fun _ q => XS.aloadN X9.here X9.hx rfl (hb hby d_jdk_65_method_133_19) rfl rfl q) ?_
  show OEnds p e below _ T8 (mkF m 20 #[.val (.ref a), .val (.int (Int32.ofNat i)), .val (.int (Int32.ofNat j)), .val (.int (Int32.ofNat (j - i))), .val (.ref a12)] [(.ref a), (.int (0 : Int32)), (.ref a12), (.int (Int32.ofNat i)), (.ref a)])
  refine X9.alen Ka_h10 (hb hby d_jdk_65_method_133_20) ?_
  show OEnds p e below _ T8 (mkF m 21 #[.val (.ref a), .val (.int (Int32.ofNat i)), .val (.int (Int32.ofNat j)), .val (.int (Int32.ofNat (j - i))), .val (.ref a12)] [(.int (Int32.ofNat N)), (.int (0 : Int32)), (.ref a12), (.int (Int32.ofNat i)), (.ref a)])
  refine OEnds.go (fun _ q => XS.iloadN X9.here X9.hx rfl (hb hby d_jdk_65_method_133_21) rfl q) ?_
  show OEnds p e below _ T8 (mkF m 22 #[.val (.ref a), .val (.int (Int32.ofNat i)), .val (.int (Int32.ofNat j)), .val (.int (Int32.ofNat (j - i))), .val (.ref a12)] [(.int (Int32.ofNat i)), (.int (Int32.ofNat N)), (.int (0 : Int32)), (.ref a12), (.int (Int32.ofNat i)), (.ref a)])
  refine OEnds.go (fun _ q => XS.isub X9.here X9.hx rfl (hb hby d_jdk_65_method_133_22) rfl q) ?_
  show OEnds p e below _ T8 (mkF m 23 #[.val (.ref a), .val (.int (Int32.ofNat i)), .val (.int (Int32.ofNat j)), .val (.int (Int32.ofNat (j - i))), .val (.ref a12)] [(.int ((Int32.ofNat N) - (Int32.ofNat i))), (.int (0 : Int32)), (.ref a12), (.int (Int32.ofNat i)), (.ref a)])
  rw [ofN_sub (by omega) (by omega)]
  show OEnds p e below _ T8 (mkF m 23 #[.val (.ref a), .val (.int (Int32.ofNat i)), .val (.int (Int32.ofNat j)), .val (.int (Int32.ofNat (j - i))), .val (.ref a12)] [(.int (Int32.ofNat (N - i))), (.int (0 : Int32)), (.ref a12), (.int (Int32.ofNat i)), (.ref a)])
  refine OEnds.go (fun _ q => XS.iloadN X9.here X9.hx rfl (hb hby d_jdk_65_method_133_23) rfl q) ?_
  show OEnds p e below _ T8 (mkF m 24 #[.val (.ref a), .val (.int (Int32.ofNat i)), .val (.int (Int32.ofNat j)), .val (.int (Int32.ofNat (j - i))), .val (.ref a12)] [(.int (Int32.ofNat (j - i))), (.int (Int32.ofNat (N - i))), (.int (0 : Int32)), (.ref a12), (.int (Int32.ofNat i)), (.ref a)])
  refine X9.callS hE (con_min H (Int32.ofNat (N - i)) (Int32.ofNat (j - i)) h10) (hw _ (List.mem_of_getElem? (i := 107) rfl)) (hw _ (List.mem_of_getElem? (i := 108) rfl)) (hw _ (List.mem_of_getElem? (i := 109) rfl)) (hw _ (List.mem_of_getElem? (i := 110) rfl))  (by decide) (W := 4) (by decide) (by decide) (argsL := [(.int (Int32.ofNat (N - i))), (.int (Int32.ofNat (j - i)))]) (rest := [(.int (0 : Int32)), (.ref a12), (.int (Int32.ofNat i)), (.ref a)]) rfl (lenOf own_pd2 rfl) rfl (by rw [hml]; rfl) (Nat.le_of_eq rfl) (hb hby d_jdk_65_method_133_24) (by decide) (by decide) ?_
  intro v18 vm16 T13 h15 X14 C17 q19
  obtain ⟨rfl, rfl⟩ := q19
  have Sf20 := C17.safe Ka12_p.lt Sfa12
  show OEnds p e below _ T13 (mkF m 27 #[.val (.ref a), .val (.int (Int32.ofNat i)), .val (.int (Int32.ofNat j)), .val (.int (Int32.ofNat (j - i))), .val (.ref a12)] [(.int (if (Int32.ofNat (j - i)) < (Int32.ofNat (N - i)) then (Int32.ofNat (j - i)) else (Int32.ofNat (N - i)))), (.int (0 : Int32)), (.ref a12), (.int (Int32.ofNat i)), (.ref a)])
  have hm : (if (Int32.ofNat (j - i)) < (Int32.ofNat (N - i)) then (Int32.ofNat (j - i)) else (Int32.ofNat (N - i))) = (Int32.ofNat (j - i)) := by
    by_cases q : j - i < N - i
    · rw [if_pos ((ofN_lt (by omega) (by omega)).mpr q)]
    · rw [if_neg (fun z => q ((ofN_lt (by omega) (by omega)).mp z)), show N - i = j - i by omega]
  rw [hm]
  show OEnds p e below _ T13 (mkF m 27 #[.val (.ref a), .val (.int (Int32.ofNat i)), .val (.int (Int32.ofNat j)), .val (.int (Int32.ofNat (j - i))), .val (.ref a12)] [(.int (Int32.ofNat (j - i))), (.int (0 : Int32)), (.ref a12), (.int (Int32.ofNat i)), (.ref a)])
  refine X14.cpB (hw _ (List.mem_of_getElem? (i := 111) rfl)) (hw _ (List.mem_of_getElem? (i := 114) rfl)) (hw _ (List.mem_of_getElem? (i := 112) rfl)) (hw _ (List.mem_of_getElem? (i := 113) rfl)) Ka_h10 Ka12_p (ofN_neg (by omega)) (by decide) (ofN_neg (by omega)) (by rw [ofN_nat (by omega), ofN_nat (by omega), ofN_nat (by omega)]; omega) (by rw [ofN_nat (by omega)]; show 0 + _ ≤ _; omega) (us := ((List.range (j - i)).map fun k => vs.getD (i + k) (.int 0))) (by rw [ofN_nat (by omega), ofN_nat (by omega)]) (by rw [ofN_nat (by omega)]; simp) Sf20 gza12 (by rw [hml]; rfl) (hb hby d_jdk_65_method_133_27) (by decide) (W := 0) (Nat.le_of_eq rfl) (by decide) ?_
  intro T21 h23 X22 K24 B25
  have EBa12_h23 := ext_keep E11 K24 (allS (Nat.le_of_eq ga12) all0)
  have Ka_h23 := Ka.ext EBa12_h23
  have EX_h23 := ext_keep EX_h10 K24 (allS (Nat.le_trans EX0.1 (Nat.le_of_eq ga12)) all0)
  show OEnds p e below _ T21 (mkF m 30 #[.val (.ref a), .val (.int (Int32.ofNat i)), .val (.int (Int32.ofNat j)), .val (.int (Int32.ofNat (j - i))), .val (.ref a12)] [])
  refine OEnds.go (fun _ q => XS.aload X22.here X22.hx rfl (hb hby d_jdk_65_method_133_30) rfl rfl q) ?_
  show OEnds p e below _ T21 (mkF m 32 #[.val (.ref a), .val (.int (Int32.ofNat i)), .val (.int (Int32.ofNat j)), .val (.int (Int32.ofNat (j - i))), .val (.ref a12)] [(.ref a12)])
  have hB : Arv Z h23 a12 ka12 .byte (Int32.ofNat (j - i)) ((List.range (j - i)).map fun k => vs.getD (i + k) (.int 0)) (.int 0) := by
    have q := B25
    rw [ofN_nat (by omega)] at q
    simpa using q
  exact X22.retRef hE hlk rfl (t := (FieldType.array FieldType.byte)) rfl hret (hb hby d_jdk_65_method_133_32) (by decide) (by decide) ⟨_, ka12, rfl, EX_h23, hB, Nat.le_trans EX0.1 (Nat.le_of_eq ga12)⟩
theorem con_cor {l : Launch} {Z : State} {a0 : Array Value} {cz : Int32} {fm : Value} (H : Ctx Z a0 cz fm) (a : Addr) (ka : ClassId) (vs : List Value) (i j N : Nat) (hij : i ≤ j) (hjN : j ≤ N) (hN : N ≤ 16) (hne : ¬ (i = 0 ∧ j = N)) (h0 : Heap) (Ka : Arv Z h0 a ka .byte (Int32.ofNat N) vs (.int 0)) :
    ConX l Z consts_1 (⟨"java/util/Arrays", "copyOfRange", "([BII)[B"⟩ : MethodName) jdk_65_method_132_code 3 (some (FieldType.array FieldType.byte)) [] ({ frames := 2, cells := 1, slots := 16, locals := 76 } : Room) #[(.ref a), (.int (Int32.ofNat i)), (.int (Int32.ofNat j))] h0 (fun r h => ∃ (t : Addr) (kb : ClassId), r = some (.ref t) ∧ Ext h0 h ∧ Arv Z h t kb .byte (Int32.ofNat (j - i)) ((List.range (j - i)).map fun k => vs.getD (i + k) (.int 0)) (.int 0) ∧ h0.size ≤ t) := by
  obtain ⟨hw, hE, S0, hcz, S1, rf⟩ := id H
  refine ConX.of own_pf5 ?_
  intro p e s m below meth c T hby hml hret hlk hnm X0
  have EX0 := ext_refl h0
  refine OEnds.cast (own_ef4 m a (Int32.ofNat i) (Int32.ofNat j) ) ?_
  show OEnds p e below _ T (mkF m 0 #[.val (.ref a), .val (.int (Int32.ofNat i)), .val (.int (Int32.ofNat j))] [])
  refine OEnds.go (fun _ q => XS.iloadN X0.here X0.hx rfl (hb hby d_jdk_65_method_132_0) rfl q) ?_
  show OEnds p e below _ T (mkF m 1 #[.val (.ref a), .val (.int (Int32.ofNat i)), .val (.int (Int32.ofNat j))] [(.int (Int32.ofNat i))])
  have J : OEnds p e below (GW Z consts_1 s (fun r h => ∃ (t : Addr) (kb : ClassId), r = some (.ref t) ∧ Ext h0 h ∧ Arv Z h t kb .byte (Int32.ofNat (j - i)) ((List.range (j - i)).map fun k => vs.getD (i + k) (.int 0)) (.int 0) ∧ h0.size ≤ t) ({ frames := 2, cells := 1, slots := 16, locals := 76 } : Room).cells ({ frames := 2, cells := 1, slots := 16, locals := 76 } : Room).slots) T (mkF m 10 #[.val (.ref a), .val (.int (Int32.ofNat i)), .val (.int (Int32.ofNat j))] []) := by
    refine OEnds.go (fun _ q => XS.aloadN X0.here X0.hx rfl (hb hby d_jdk_65_method_132_10) rfl rfl q) ?_
    show OEnds p e below _ T (mkF m 11 #[.val (.ref a), .val (.int (Int32.ofNat i)), .val (.int (Int32.ofNat j))] [(.ref a)])
    refine OEnds.go (fun _ q => XS.iloadN X0.here X0.hx rfl (hb hby d_jdk_65_method_132_11) rfl q) ?_
    show OEnds p e below _ T (mkF m 12 #[.val (.ref a), .val (.int (Int32.ofNat i)), .val (.int (Int32.ofNat j))] [(.int (Int32.ofNat i)), (.ref a)])
    refine OEnds.go (fun _ q => XS.iloadN X0.here X0.hx rfl (hb hby d_jdk_65_method_132_12) rfl q) ?_
    show OEnds p e below _ T (mkF m 13 #[.val (.ref a), .val (.int (Int32.ofNat i)), .val (.int (Int32.ofNat j))] [(.int (Int32.ofNat j)), (.int (Int32.ofNat i)), (.ref a)])
    refine X0.callS hE (con_crb H a ka vs i j N hij hjN hN h0 Ka) (hw _ (List.mem_of_getElem? (i := 101) rfl)) (hw _ (List.mem_of_getElem? (i := 102) rfl)) (hw _ (List.mem_of_getElem? (i := 99) rfl)) (hw _ (List.mem_of_getElem? (i := 103) rfl))  (by decide) (W := 0) (by decide) (by decide) (argsL := [(.ref a), (.int (Int32.ofNat i)), (.int (Int32.ofNat j))]) (rest := []) rfl (lenOf own_pd3 rfl) rfl (by rw [hml]; rfl) (Nat.le_of_eq rfl) (hb hby d_jdk_65_method_132_13) (by decide) (by decide) ?_
    intro v6 vm4 T1 h3 X2 C5 q7
    obtain ⟨t, kb, rfl, Et, Kt, ft⟩ := q7
    have Ka_h3 := Ka.ext Et
    have EX_h3 := ext_trans EX0 Et
    show OEnds p e below _ T1 (mkF m 16 #[.val (.ref a), .val (.int (Int32.ofNat i)), .val (.int (Int32.ofNat j))] [(.ref t)])
    exact X2.retRef hE hlk rfl (t := (FieldType.array FieldType.byte)) rfl hret (hb hby d_jdk_65_method_132_16) (by decide) (by decide) ⟨_, kb, rfl, EX_h3, Kt, ft⟩
  by_cases hi : (Int32.ofNat i) = (0 : Int32)
  · skip
    refine OEnds.go (fun _ q => XS.ifNo X0.here X0.hx rfl (hb hby d_jdk_65_method_132_1) rfl ((if0 _ _).trans (teq hi).2) q) ?_
    show OEnds p e below _ T (mkF m 4 #[.val (.ref a), .val (.int (Int32.ofNat i)), .val (.int (Int32.ofNat j))] [])
    refine OEnds.go (fun _ q => XS.iloadN X0.here X0.hx rfl (hb hby d_jdk_65_method_132_4) rfl q) ?_
    show OEnds p e below _ T (mkF m 5 #[.val (.ref a), .val (.int (Int32.ofNat i)), .val (.int (Int32.ofNat j))] [(.int (Int32.ofNat j))])
    refine OEnds.go (fun _ q => XS.aloadN X0.here X0.hx rfl (hb hby d_jdk_65_method_132_5) rfl rfl q) ?_
    show OEnds p e below _ T (mkF m 6 #[.val (.ref a), .val (.int (Int32.ofNat i)), .val (.int (Int32.ofNat j))] [(.ref a), (.int (Int32.ofNat j))])
    refine X0.alen Ka (hb hby d_jdk_65_method_132_6) ?_
    show OEnds p e below _ T (mkF m 7 #[.val (.ref a), .val (.int (Int32.ofNat i)), .val (.int (Int32.ofNat j))] [(.int (Int32.ofNat N)), (.int (Int32.ofNat j))])
    refine OEnds.go (fun _ q => XS.icmpNo X0.here X0.hx rfl (hb hby d_jdk_65_method_132_7) rfl (feq (fun q => hne ⟨(ofN_eq (by omega) (by decide)).mp hi, (ofN_eq (by omega) (by omega)).mp q⟩)).1 q) ?_
    show OEnds p e below _ T (mkF m 10 #[.val (.ref a), .val (.int (Int32.ofNat i)), .val (.int (Int32.ofNat j))] [])
    exact J
  · skip
    refine OEnds.go (fun _ q => XS.ifYes X0.here X0.hx rfl (pc0 := 1) (pc' := 10) rfl (hb hby d_jdk_65_method_132_1) rfl ((if0 _ _).trans (feq hi).2) (by decide) (by decide) q) ?_
    show OEnds p e below _ T (mkF m 10 #[.val (.ref a), .val (.int (Int32.ofNat i)), .val (.int (Int32.ofNat j))] [])
    exact J
theorem con_sBB {l : Launch} {Z : State} {a0 : Array Value} {cz : Int32} {fm : Value} (H : Ctx Z a0 cz fm) (a : Addr) (t : Addr) (gza : Z.heap.size ≤ a) (h0 : Heap) (Aa : Exa Z h0 a "java/lang/String") (Fa_value : Fld Z h0 a "java/lang/String" "value" "[B" .null) (Fa_coder : Fld Z h0 a "java/lang/String" "coder" "B" (.int (0 : Int32))) :
    ConX l Z consts_1 (⟨"java/lang/String", "<init>", "([BB)V"⟩ : MethodName) jdk_42_method_151_code 3 (none : Option FieldType) [] ({ frames := 1, cells := 0, slots := 0, locals := 12 } : Room) #[(.ref a), (.ref t), (.int (0 : Int32))] h0 (fun r h => r = none ∧ Keep h0 h [a] ∧ Exa Z h a "java/lang/String" ∧ Fld Z h a "java/lang/String" "value" "[B" (.ref t) ∧ Fld Z h a "java/lang/String" "coder" "B" (.int (0 : Int32))) := by
  obtain ⟨hw, hE, S0, hcz, S1, rf⟩ := id H
  refine ConX.of own_pf6 ?_
  intro p e s m below meth c T hby hml hret hlk hnm X0
  have EX0 := ext_refl h0
  refine OEnds.cast (own_ef5 m a t (0 : Int32) ) ?_
  show OEnds p e below _ T (mkF m 0 #[.val (.ref a), .val (.ref t), .val (.int (0 : Int32))] [])
  have K0 := Keep.refl h0 [a]
  refine OEnds.go (fun _ q => XS.aloadN X0.here X0.hx rfl (hb hby d_jdk_42_method_151_0) rfl rfl q) ?_
  show OEnds p e below _ T (mkF m 1 #[.val (.ref a), .val (.ref t), .val (.int (0 : Int32))] [(.ref a)])
  refine X0.initO (hw _ (List.mem_of_getElem? (i := 16) rfl)) (hw _ (List.mem_of_getElem? (i := 17) rfl)) (hw _ (List.mem_of_getElem? (i := 18) rfl)) (by rw [hml]; rfl) (hb hby d_jdk_42_method_151_1) (by decide) (W := 0) (Nat.le_of_eq rfl) (by decide) ?_
  intro T1 X2
  show OEnds p e below _ T1 (mkF m 4 #[.val (.ref a), .val (.ref t), .val (.int (0 : Int32))] [])
  refine OEnds.go (fun _ q => XS.aloadN X2.here X2.hx rfl (hb hby d_jdk_42_method_151_4) rfl rfl q) ?_
  show OEnds p e below _ T1 (mkF m 5 #[.val (.ref a), .val (.ref t), .val (.int (0 : Int32))] [(.ref a)])
  refine OEnds.go (fun _ q => XS.aloadN X2.here X2.hx rfl (hb hby d_jdk_42_method_151_5) rfl rfl q) ?_
  show OEnds p e below _ T1 (mkF m 6 #[.val (.ref a), .val (.ref t), .val (.int (0 : Int32))] [(.ref t), (.ref a)])
  refine X2.putF (v := (.ref t)) (hw _ (List.mem_of_getElem? (i := 25) rfl)) Via.refl Fa_value Aa (Or.inr ⟨(hw _ (List.mem_of_getElem? (i := 21) rfl)), rfl, hnm⟩) (hw _ (List.mem_of_getElem? (i := 7) rfl)) (ty := (FieldType.array FieldType.byte)) (by decide) rfl rfl (safe_blank X2.al Aa Fa_value) gza (hb hby d_jdk_42_method_151_6) ?_
  intro T3 h5 X4 W6
  have Fa_value_h5 := Fa_value.same W6
  have Aa_h5 := Aa.wr W6
  have Fa_coder_h5 := Fa_coder.other W6 (Or.inr (slot_ne (a0 := a0) (Or.inr (hw _ (List.mem_of_getElem? (i := 22) rfl))) (Or.inr (hw _ (List.mem_of_getElem? (i := 21) rfl))) (by decide) (t := FieldType.byte) (by decide) (t' := (FieldType.array FieldType.byte)) (by decide)))
  have K7 := K0.wr W6 (Or.inl (List.mem_of_getElem? (i := 0) rfl))
  have Sf8 := Safe.wr W6 (safe_blank X2.al Aa Fa_value) X2.chv (safe_blank X2.al Aa Fa_value)
  show OEnds p e below _ T3 (mkF m 9 #[.val (.ref a), .val (.ref t), .val (.int (0 : Int32))] [])
  refine OEnds.go (fun _ q => XS.aloadN X4.here X4.hx rfl (hb hby d_jdk_42_method_151_9) rfl rfl q) ?_
  show OEnds p e below _ T3 (mkF m 10 #[.val (.ref a), .val (.ref t), .val (.int (0 : Int32))] [(.ref a)])
  refine OEnds.go (fun _ q => XS.iloadN X4.here X4.hx rfl (hb hby d_jdk_42_method_151_10) rfl q) ?_
  show OEnds p e below _ T3 (mkF m 11 #[.val (.ref a), .val (.ref t), .val (.int (0 : Int32))] [(.int (0 : Int32)), (.ref a)])
  refine X4.putF (v := (.int (0 : Int32))) (hw _ (List.mem_of_getElem? (i := 26) rfl)) Via.refl Fa_coder_h5 Aa_h5 (Or.inr ⟨(hw _ (List.mem_of_getElem? (i := 22) rfl)), rfl, hnm⟩) (hw _ (List.mem_of_getElem? (i := 7) rfl)) (ty := FieldType.byte) (by decide) rfl rfl Sf8 gza (hb hby d_jdk_42_method_151_11) ?_
  intro T9 h11 X10 W12
  have Fa_coder_h11 := Fa_coder_h5.same W12
  have Aa_h11 := Aa_h5.wr W12
  have Fa_value_h11 := Fa_value_h5.other W12 (Or.inr (slot_ne (a0 := a0) (Or.inr (hw _ (List.mem_of_getElem? (i := 21) rfl))) (Or.inr (hw _ (List.mem_of_getElem? (i := 22) rfl))) (by decide) (t := (FieldType.array FieldType.byte)) (by decide) (t' := FieldType.byte) (by decide)))
  have K13 := K7.wr W12 (Or.inl (List.mem_of_getElem? (i := 0) rfl))
  have Sf14 := Safe.wr W12 Sf8 X4.chv Sf8
  show OEnds p e below _ T9 (mkF m 14 #[.val (.ref a), .val (.ref t), .val (.int (0 : Int32))] [])
  exact X10.ret0 hE hlk  hret (hb hby d_jdk_42_method_151_14) (by decide) (by decide) ⟨rfl, K13, Aa_h11, Fa_value_h11, Fa_coder_h11⟩
theorem con_newS {l : Launch} {Z : State} {a0 : Array Value} {cz : Int32} {fm : Value} (H : Ctx Z a0 cz fm) (a : Addr) (ka : ClassId) (cs : List Int32) (i n : Nat) (hn : i + n ≤ cs.length) (hN : cs.length ≤ 16) (hne : ¬ (i = 0 ∧ n = cs.length)) (hbd : ∀ c ∈ cs, ¬ c < 0 ∧ ¬ (255 : Int32) < c) (h0 : Heap) (Ka : Arv Z h0 a ka .byte (Int32.ofNat cs.length) ((cs.map lo8).map Value.int) (.int 0)) :
    ConX l Z consts_1 (⟨"java/lang/StringLatin1", "newString", "([BII)Ljava/lang/String;"⟩ : MethodName) jdk_43_method_47_code 3 (some (FieldType.object "java/lang/String")) [] ({ frames := 3, cells := 2, slots := 20, locals := 92 } : Room) #[(.ref a), (.int (Int32.ofNat i)), (.int (Int32.ofNat n))] h0 (fun r h => ∃ x : Addr, r = some (.ref x) ∧ Ext h0 h ∧ OStr Z h x ((cs.drop i).take n)) := by
  obtain ⟨hw, hE, S0, hcz, S1, rf⟩ := id H
  refine ConX.of own_pf7 ?_
  intro p e s m below meth c T hby hml hret hlk hnm X0
  have EX0 := ext_refl h0
  refine OEnds.cast (own_ef4 m a (Int32.ofNat i) (Int32.ofNat n) ) ?_
  show OEnds p e below _ T (mkF m 0 #[.val (.ref a), .val (.int (Int32.ofNat i)), .val (.int (Int32.ofNat n))] [])
  refine OEnds.go (fun _ q => XS.iloadN X0.here X0.hx rfl (hb hby d_jdk_43_method_47_0) rfl q) ?_
  show OEnds p e below _ T (mkF m 1 #[.val (.ref a), .val (.int (Int32.ofNat i)), .val (.int (Int32.ofNat n))] [(.int (Int32.ofNat n))])
  by_cases h0n : (Int32.ofNat n) = (0 : Int32)
  · skip
    refine OEnds.go (fun _ q => XS.ifNo X0.here X0.hx rfl (hb hby d_jdk_43_method_47_1) rfl ((if0 _ _).trans (teq h0n).2) q) ?_
    show OEnds p e below _ T (mkF m 4 #[.val (.ref a), .val (.int (Int32.ofNat i)), .val (.int (Int32.ofNat n))] [])
    have hn0 : n = 0 := (ofN_eq (by omega) (by decide)).mp h0n
    refine X0.ldcR hE (hw _ (List.mem_of_getElem? (i := 119) rfl)) (own_wS hw) (List.mem_of_getElem? (i := 1) rfl) (vs := []) (z := 0) ⟨by decide, rfl⟩ (by decide) (by decide) (hb hby d_jdk_43_method_47_4) (j := 0) (by decide) (by decide) (by decide) (by decide) ?_
    intro vm1 T2 h3 a4 a5 ka5 X6 E7 C8 Aa4 Ca4 Va4 Ka5 ne9
    have Ka_h3 := Ka.ext E7
    have EX_h3 := ext_trans EX0 E7
    show OEnds p e below _ T2 (mkF m 6 #[.val (.ref a), .val (.int (Int32.ofNat i)), .val (.int (Int32.ofNat n))] [(.ref a4)])
    have hSa : OStr Z h3 a4 ((cs.drop i).take n) := by
      rw [own_sub_nil hn0]
      exact ⟨Aa4, Ca4, ⟨a5, ka5, Va4, Ka5⟩, all_nil, by decide⟩
    exact X6.retRef hE hlk rfl (t := (FieldType.object "java/lang/String")) rfl hret (hb hby d_jdk_43_method_47_6) (by decide) (by decide) ⟨a4, rfl, EX_h3, hSa⟩
  · skip
    refine OEnds.go (fun _ q => XS.ifYes X0.here X0.hx rfl (pc0 := 1) (pc' := 7) rfl (hb hby d_jdk_43_method_47_1) rfl ((if0 _ _).trans (feq h0n).2) (by decide) (by decide) q) ?_
    show OEnds p e below _ T (mkF m 7 #[.val (.ref a), .val (.int (Int32.ofNat i)), .val (.int (Int32.ofNat n))] [])
    refine X0.newO (hw _ (List.mem_of_getElem? (i := 96) rfl)) (hw _ (List.mem_of_getElem? (i := 7) rfl)) (hw _ (List.mem_of_getElem? (i := 8) rfl)) (hb hby d_jdk_43_method_47_7) (by decide) (by decide) ?_
    intro T10 h12 a14 ga14 X11 E13 Aa14 Da14 Ua14
    have gza14 : Z.heap.size ≤ a14 := ga14 ▸ X0.old.1
    have Ka_h12 := Ka.ext E13
    have EX_h12 := ext_trans EX0 E13
    have Fa14_value : Fld Z h12 a14 "java/lang/String" "value" "[B" .null := Da14 (Or.inr (hw _ (List.mem_of_getElem? (i := 21) rfl))) (ty := (FieldType.array FieldType.byte)) (by decide)
    have Fa14_coder : Fld Z h12 a14 "java/lang/String" "coder" "B" (.int (0 : Int32)) := Da14 (Or.inr (hw _ (List.mem_of_getElem? (i := 22) rfl))) (ty := FieldType.byte) (by decide)
    show OEnds p e below _ T10 (mkF m 10 #[.val (.ref a), .val (.int (Int32.ofNat i)), .val (.int (Int32.ofNat n))] [(.ref a14)])
    refine OEnds.go (fun _ q => XS.dup X11.here X11.hx rfl (hb hby d_jdk_43_method_47_10) rfl rfl q) ?_
    show OEnds p e below _ T10 (mkF m 11 #[.val (.ref a), .val (.int (Int32.ofNat i)), .val (.int (Int32.ofNat n))] [(.ref a14), (.ref a14)])
    refine OEnds.go (fun _ q => XS.aloadN X11.here X11.hx rfl (hb hby d_jdk_43_method_47_11) rfl rfl q) ?_
    show OEnds p e below _ T10 (mkF m 12 #[.val (.ref a), .val (.int (Int32.ofNat i)), .val (.int (Int32.ofNat n))] [(.ref a), (.ref a14), (.ref a14)])
    refine OEnds.go (fun _ q => XS.iloadN X11.here X11.hx rfl (hb hby d_jdk_43_method_47_12) rfl q) ?_
    show OEnds p e below _ T10 (mkF m 13 #[.val (.ref a), .val (.int (Int32.ofNat i)), .val (.int (Int32.ofNat n))] [(.int (Int32.ofNat i)), (.ref a), (.ref a14), (.ref a14)])
    refine OEnds.go (fun _ q => XS.iloadN X11.here X11.hx rfl (hb hby d_jdk_43_method_47_13) rfl q) ?_
    show OEnds p e below _ T10 (mkF m 14 #[.val (.ref a), .val (.int (Int32.ofNat i)), .val (.int (Int32.ofNat n))] [(.int (Int32.ofNat i)), (.int (Int32.ofNat i)), (.ref a), (.ref a14), (.ref a14)])
    refine OEnds.go (fun _ q => XS.iloadN X11.here X11.hx rfl (hb hby d_jdk_43_method_47_14) rfl q) ?_
    show OEnds p e below _ T10 (mkF m 15 #[.val (.ref a), .val (.int (Int32.ofNat i)), .val (.int (Int32.ofNat n))] [(.int (Int32.ofNat n)), (.int (Int32.ofNat i)), (.int (Int32.ofNat i)), (.ref a), (.ref a14), (.ref a14)])
    refine OEnds.go (fun _ q => XS.iadd X11.here X11.hx rfl (hb hby d_jdk_43_method_47_15) rfl q) ?_
    show OEnds p e below _ T10 (mkF m 16 #[.val (.ref a), .val (.int (Int32.ofNat i)), .val (.int (Int32.ofNat n))] [(.int ((Int32.ofNat i) + (Int32.ofNat n))), (.int (Int32.ofNat i)), (.ref a), (.ref a14), (.ref a14)])
    rw [ofN_add (by omega)]
    show OEnds p e below _ T10 (mkF m 16 #[.val (.ref a), .val (.int (Int32.ofNat i)), .val (.int (Int32.ofNat n))] [(.int (Int32.ofNat (i + n))), (.int (Int32.ofNat i)), (.ref a), (.ref a14), (.ref a14)])
    refine X11.callS hE (con_cor H a ka _ i (i + n) cs.length (by omega) hn hN (fun q => hne ⟨q.1, by omega⟩) h12 Ka_h12) (hw _ (List.mem_of_getElem? (i := 97) rfl)) (hw _ (List.mem_of_getElem? (i := 98) rfl)) (hw _ (List.mem_of_getElem? (i := 99) rfl)) (hw _ (List.mem_of_getElem? (i := 100) rfl))  (by decide) (W := 2) (by decide) (by decide) (argsL := [(.ref a), (.int (Int32.ofNat i)), (.int (Int32.ofNat (i + n)))]) (rest := [(.ref a14), (.ref a14)]) rfl (lenOf own_pd3 rfl) rfl (by rw [hml]; rfl) (Nat.le_of_eq rfl) (hb hby d_jdk_43_method_47_16) (by decide) (by decide) ?_
    intro v20 vm18 T15 h17 X16 C19 q21
    obtain ⟨t, kb, rfl, Et, Kt, ft⟩ := q21
    have Ka_h17 := Ka_h12.ext Et
    have Aa14_h17 := Aa14.ext Et
    have Fa14_value_h17 := Fa14_value.ext Et
    have Fa14_coder_h17 := Fa14_coder.ext Et
    have EBa14_h17 := ext_trans E13 Et
    have EX_h17 := ext_trans EX_h12 Et
    show OEnds p e below _ T15 (mkF m 19 #[.val (.ref a), .val (.int (Int32.ofNat i)), .val (.int (Int32.ofNat n))] [(.ref t), (.ref a14), (.ref a14)])
    refine OEnds.go (fun _ q => XS.iconst X16.here X16.hx rfl (hb hby d_jdk_43_method_47_19) q) ?_
    show OEnds p e below _ T15 (mkF m 20 #[.val (.ref a), .val (.int (Int32.ofNat i)), .val (.int (Int32.ofNat n))] [(.int (0 : Int32)), (.ref t), (.ref a14), (.ref a14)])
    refine X16.callI hE (con_sBB H a14 t gza14 h17 Aa14_h17 Fa14_value_h17 Fa14_coder_h17) (hw _ (List.mem_of_getElem? (i := 115) rfl)) (hw _ (List.mem_of_getElem? (i := 116) rfl)) (hw _ (List.mem_of_getElem? (i := 8) rfl)) (hw _ (List.mem_of_getElem? (i := 117) rfl)) rfl (by decide) (W := 1) (by decide) (by decide) (a := a14) (argsL := [(.ref t), (.int (0 : Int32))]) (rest := [(.ref a14)]) rfl (lenOf own_pd4 rfl) rfl (by rw [hml]; rfl) (Nat.le_of_eq rfl) (hb hby d_jdk_43_method_47_20) (by decide) (by decide) ?_
    intro v31 vm29 T26 h28 X27 C30 q32
    obtain ⟨rfl, K22, E23, Ff24_value, Ff25_coder⟩ := q32
    have EBa14_h28 := ext_keep EBa14_h17 K22 (allS (Nat.le_of_eq ga14) all0)
    have Ka_h28 := Ka.ext EBa14_h28
    have Kt_h28 := Kt.keep K22 (ninS (Nat.ne_of_gt (Nat.lt_of_lt_of_le Aa14.lt ft)) nin0)
    have EX_h28 := ext_keep EX_h17 K22 (allS (Nat.le_trans EX0.1 (Nat.le_of_eq ga14)) all0)
    show OEnds p e below _ T26 (mkF m 23 #[.val (.ref a), .val (.int (Int32.ofNat i)), .val (.int (Int32.ofNat n))] [(.ref a14)])
    have hK : Arv Z h28 t kb .byte (Int32.ofNat ((cs.drop i).take n).length) ((((cs.drop i).take n).map lo8).map Value.int) (.int 0) := by
      have q := Kt_h28
      rw [Nat.add_sub_cancel_left, own_us hn] at q
      rw [own_len_sub hn]; exact q
    exact X27.retRef hE hlk rfl (t := (FieldType.object "java/lang/String")) rfl hret (hb hby d_jdk_43_method_47_23) (by decide) (by decide) ⟨a14, rfl, EX_h28, E23, Ff25_coder, ⟨t, kb, Ff24_value, hK⟩, own_all_sub hbd, by rw [own_len_sub hn]; omega⟩
theorem con_isL {l : Launch} {Z : State} {a0 : Array Value} {cz : Int32} {fm : Value} (H : Ctx Z a0 cz fm) (a : Addr) (h0 : Heap) (Fc : Fld Z h0 a "java/lang/String" "coder" "B" (.int (0 : Int32))) :
    ConX l Z consts_1 (⟨"java/lang/String", "isLatin1", "()Z"⟩ : MethodName) jdk_42_method_154_code 1 (some FieldType.boolean) [] ({ frames := 0, cells := 0, slots := 0, locals := 0 } : Room) #[(.ref a)] h0 (fun r h => r = some (.int 1) ∧ h0 = h) := by
  obtain ⟨hw, hE, S0, hcz, S1, rf⟩ := id H
  refine ConX.of own_pf8 ?_
  intro p e s m below meth c T hby hml hret hlk hnm X0
  have EX0 := ext_refl h0
  refine OEnds.cast (own_ef6 m a ) ?_
  show OEnds p e below _ T (mkF m 0 #[.val (.ref a)] [])
  refine X0.getS (hw _ (List.mem_of_getElem? (i := 41) rfl)) Via.refl (S0.ext X0.old) (hb hby d_jdk_42_method_154_0) ?_
  intro T1 X2
  show OEnds p e below _ T1 (mkF m 3 #[.val (.ref a)] [(.int cz)])
  refine OEnds.go (fun _ q => XS.ifNo X2.here X2.hx rfl (hb hby d_jdk_42_method_154_3) rfl ((if0 _ _).trans (feq hcz).1) q) ?_
  show OEnds p e below _ T1 (mkF m 6 #[.val (.ref a)] [])
  refine OEnds.go (fun _ q => XS.aloadN X2.here X2.hx rfl (hb hby d_jdk_42_method_154_6) rfl rfl q) ?_
  show OEnds p e below _ T1 (mkF m 7 #[.val (.ref a)] [(.ref a)])
  refine X2.getF (hw _ (List.mem_of_getElem? (i := 26) rfl)) Via.refl Fc (hb hby d_jdk_42_method_154_7) ?_
  intro T3 X4
  show OEnds p e below _ T3 (mkF m 10 #[.val (.ref a)] [(.int (0 : Int32))])
  refine OEnds.go (fun _ q => XS.ifNo X4.here X4.hx rfl (hb hby d_jdk_42_method_154_10) rfl ((if0 _ _).trans (teq (rfl : (0 : Int32) = 0)).2) q) ?_
  show OEnds p e below _ T3 (mkF m 13 #[.val (.ref a)] [])
  refine OEnds.go (fun _ q => XS.iconst X4.here X4.hx rfl (hb hby d_jdk_42_method_154_13) q) ?_
  show OEnds p e below _ T3 (mkF m 14 #[.val (.ref a)] [(.int (1 : Int32))])
  refine OEnds.go (fun _ q => XS.goto X4.here X4.hx rfl (pc0 := 14) (pc' := 18) rfl (hb hby d_jdk_42_method_154_14) (by decide) (by decide) q) ?_
  show OEnds p e below _ T3 (mkF m 18 #[.val (.ref a)] [(.int (1 : Int32))])
  exact X4.retBool hE hlk (by first | exact Or.inl rfl | exact Or.inr rfl | assumption) hret (hb hby d_jdk_42_method_154_18) (by decide) (by decide) ⟨rfl, rfl⟩
theorem con_ft {l : Launch} {Z : State} {a0 : Array Value} {cz : Int32} {fm : Value} (H : Ctx Z a0 cz fm) (u v z : Int32) (fv : Value) (rfv : fv.isRef = true) (h1 : ¬ u < 0) (h2 : ¬ v < u) (h3 : ¬ z < v) (h0 : Heap)  :
    ConX l Z consts_1 (⟨"jdk/internal/util/Preconditions", "checkFromToIndex", "(IIILjava/util/function/BiFunction;)I"⟩ : MethodName) jdk_41_method_12_code 4 (some FieldType.int) [] ({ frames := 0, cells := 0, slots := 0, locals := 0 } : Room) #[(.int u), (.int v), (.int z), (fv)] h0 (fun r h => r = some (.int u) ∧ h0 = h) := by
  obtain ⟨hw, hE, S0, hcz, S1, rf⟩ := id H
  refine ConX.of own_pf9 ?_
  intro p e s m below meth c T hby hml hret hlk hnm X0
  have EX0 := ext_refl h0
  refine OEnds.cast (own_ef7 m u v z fv rfv) ?_
  show OEnds p e below _ T (mkF m 0 #[.val (.int u), .val (.int v), .val (.int z), .val (fv)] [])
  refine OEnds.go (fun _ q => XS.iloadN X0.here X0.hx rfl (hb hby d_jdk_41_method_12_0) rfl q) ?_
  show OEnds p e below _ T (mkF m 1 #[.val (.int u), .val (.int v), .val (.int z), .val (fv)] [(.int u)])
  refine OEnds.go (fun _ q => XS.ifNo X0.here X0.hx rfl (hb hby d_jdk_41_method_12_1) rfl ((if0 _ _).trans (flt h1).1) q) ?_
  show OEnds p e below _ T (mkF m 4 #[.val (.int u), .val (.int v), .val (.int z), .val (fv)] [])
  refine OEnds.go (fun _ q => XS.iloadN X0.here X0.hx rfl (hb hby d_jdk_41_method_12_4) rfl q) ?_
  show OEnds p e below _ T (mkF m 5 #[.val (.int u), .val (.int v), .val (.int z), .val (fv)] [(.int u)])
  refine OEnds.go (fun _ q => XS.iloadN X0.here X0.hx rfl (hb hby d_jdk_41_method_12_5) rfl q) ?_
  show OEnds p e below _ T (mkF m 6 #[.val (.int u), .val (.int v), .val (.int z), .val (fv)] [(.int v), (.int u)])
  refine OEnds.go (fun _ q => XS.icmpNo X0.here X0.hx rfl (hb hby d_jdk_41_method_12_6) rfl (flt h2).2.2.1 q) ?_
  show OEnds p e below _ T (mkF m 9 #[.val (.int u), .val (.int v), .val (.int z), .val (fv)] [])
  refine OEnds.go (fun _ q => XS.iloadN X0.here X0.hx rfl (hb hby d_jdk_41_method_12_9) rfl q) ?_
  show OEnds p e below _ T (mkF m 10 #[.val (.int u), .val (.int v), .val (.int z), .val (fv)] [(.int v)])
  refine OEnds.go (fun _ q => XS.iloadN X0.here X0.hx rfl (hb hby d_jdk_41_method_12_10) rfl q) ?_
  show OEnds p e below _ T (mkF m 11 #[.val (.int u), .val (.int v), .val (.int z), .val (fv)] [(.int z), (.int v)])
  refine OEnds.go (fun _ q => XS.icmpYes X0.here X0.hx rfl (pc0 := 11) (pc' := 22) rfl (hb hby d_jdk_41_method_12_11) rfl (flt h3).2.2.2 (by decide) (by decide) q) ?_
  show OEnds p e below _ T (mkF m 22 #[.val (.int u), .val (.int v), .val (.int z), .val (fv)] [])
  refine OEnds.go (fun _ q => XS.iloadN X0.here X0.hx rfl (hb hby d_jdk_41_method_12_22) rfl q) ?_
  show OEnds p e below _ T (mkF m 23 #[.val (.int u), .val (.int v), .val (.int z), .val (fv)] [(.int u)])
  exact X0.retInt hE hlk  hret (hb hby d_jdk_41_method_12_23) (by decide) (by decide) ⟨rfl, rfl⟩
theorem con_be {l : Launch} {Z : State} {a0 : Array Value} {cz : Int32} {fm : Value} (H : Ctx Z a0 cz fm) (u v z : Int32) (h1 : ¬ u < 0) (h2 : ¬ v < u) (h3 : ¬ z < v) (h0 : Heap)  :
    ConX l Z consts_1 (⟨"java/lang/String", "checkBoundsBeginEnd", "(III)V"⟩ : MethodName) jdk_42_method_158_code 3 (none : Option FieldType) [] ({ frames := 1, cells := 0, slots := 0, locals := 15 } : Room) #[(.int u), (.int v), (.int z)] h0 (fun r h => r = none ∧ h0 = h) := by
  obtain ⟨hw, hE, S0, hcz, S1, rf⟩ := id H
  refine ConX.of own_pf10 ?_
  intro p e s m below meth c T hby hml hret hlk hnm X0
  have EX0 := ext_refl h0
  refine OEnds.cast (own_ef8 m u v z ) ?_
  show OEnds p e below _ T (mkF m 0 #[.val (.int u), .val (.int v), .val (.int z)] [])
  refine OEnds.go (fun _ q => XS.iloadN X0.here X0.hx rfl (hb hby d_jdk_42_method_158_0) rfl q) ?_
  show OEnds p e below _ T (mkF m 1 #[.val (.int u), .val (.int v), .val (.int z)] [(.int u)])
  refine OEnds.go (fun _ q => XS.iloadN X0.here X0.hx rfl (hb hby d_jdk_42_method_158_1) rfl q) ?_
  show OEnds p e below _ T (mkF m 2 #[.val (.int u), .val (.int v), .val (.int z)] [(.int v), (.int u)])
  refine OEnds.go (fun _ q => XS.iloadN X0.here X0.hx rfl (hb hby d_jdk_42_method_158_2) rfl q) ?_
  show OEnds p e below _ T (mkF m 3 #[.val (.int u), .val (.int v), .val (.int z)] [(.int z), (.int v), (.int u)])
  refine X0.getS (hw _ (List.mem_of_getElem? (i := 51) rfl)) Via.refl (S1.ext X0.old) (hb hby d_jdk_42_method_158_3) ?_
  intro T1 X2
  show OEnds p e below _ T1 (mkF m 6 #[.val (.int u), .val (.int v), .val (.int z)] [(fm), (.int z), (.int v), (.int u)])
  refine X2.callS hE (con_ft H u v z fm rf h1 h2 h3 h0) (hw _ (List.mem_of_getElem? (i := 53) rfl)) (hw _ (List.mem_of_getElem? (i := 54) rfl)) (hw _ (List.mem_of_getElem? (i := 52) rfl)) (hw _ (List.mem_of_getElem? (i := 55) rfl))  (by decide) (W := 0) (by decide) (by decide) (argsL := [(.int u), (.int v), (.int z), (fm)]) (rest := []) rfl (lenOf own_pd5 rfl) rfl (by rw [hml]; rfl) (Nat.le_of_eq rfl) (hb hby d_jdk_42_method_158_6) (by decide) (by decide) ?_
  intro v8 vm6 T3 h5 X4 C7 q9
  obtain ⟨rfl, rfl⟩ := q9
  show OEnds p e below _ T3 (mkF m 9 #[.val (.int u), .val (.int v), .val (.int z)] [(.int u)])
  refine OEnds.go (fun _ q => XS.pop X4.here X4.hx rfl (hb hby d_jdk_42_method_158_9) rfl rfl q) ?_
  show OEnds p e below _ T3 (mkF m 10 #[.val (.int u), .val (.int v), .val (.int z)] [])
  exact X4.ret0 hE hlk  hret (hb hby d_jdk_42_method_158_10) (by decide) (by decide) ⟨rfl, rfl⟩
theorem con_sub {l : Launch} {Z : State} {a0 : Array Value} {cz : Int32} {fm : Value} (H : Ctx Z a0 cz fm) (x : Addr) (cs : List Int32) (i j : Nat) (hij : i ≤ j) (hj : j ≤ cs.length) (hN : cs.length ≤ 16) (h0 : Heap) (Sx : OStr Z h0 x cs) :
    ConX l Z consts_1 (⟨"java/lang/String", "substring", "(II)Ljava/lang/String;"⟩ : MethodName) jdk_42_method_92_code 5 (some (FieldType.object "java/lang/String")) [] ({ frames := 4, cells := 2, slots := 20, locals := 106 } : Room) #[(.ref x), (.int (Int32.ofNat i)), (.int (Int32.ofNat j))] h0 (fun r h => ∃ y : Addr, r = some (.ref y) ∧ Ext h0 h ∧ OStr Z h y ((cs.drop i).take (j - i))) := by
  obtain ⟨hw, hE, S0, hcz, S1, rf⟩ := id H
  refine ConX.of own_pf11 ?_
  intro p e s m below meth c T hby hml hret hlk hnm X0
  have EX0 := ext_refl h0
  refine OEnds.cast (own_ef3 m x (Int32.ofNat i) (Int32.ofNat j) ) ?_
  show OEnds p e below _ T (mkF m 0 #[.val (.ref x), .val (.int (Int32.ofNat i)), .val (.int (Int32.ofNat j)), .unset, .unset] [])
  refine OEnds.go (fun _ q => XS.aloadN X0.here X0.hx rfl (hb hby d_jdk_42_method_92_0) rfl rfl q) ?_
  show OEnds p e below _ T (mkF m 1 #[.val (.ref x), .val (.int (Int32.ofNat i)), .val (.int (Int32.ofNat j)), .unset, .unset] [(.ref x)])
  refine X0.payV (own_len H (W := 0) X0.hZ X0.old Sx (by decide) (by decide)) (okPure X0) (hw _ (List.mem_of_getElem? (i := 47) rfl)) (hw _ (List.mem_of_getElem? (i := 32) rfl)) (hw _ (List.mem_of_getElem? (i := 34) rfl)) (hw _ (List.mem_of_getElem? (i := 33) rfl)) (X0.nf (hw _ (List.mem_of_getElem? (i := 34) rfl))) (by decide) Sx.exa (argsL := []) (rest := []) rfl (lenOf own_pd6 rfl) rfl (by rw [hml]; rfl) (Nat.le_of_eq rfl) (hb hby d_jdk_42_method_92_1) (by decide) (by decide) ?_
  intro v1 T2 h3 L4 X5 q6
  obtain ⟨rfl, -, e7⟩ := q6
  obtain rfl := e7.symm
  show OEnds p e below _ T2 (mkF m 4 #[.val (.ref x), .val (.int (Int32.ofNat i)), .val (.int (Int32.ofNat j)), .unset, .unset] [(.int (Int32.ofNat cs.length))])
  refine OEnds.go (fun _ q => XS.istoreN X5.here X5.hx rfl (hb hby d_jdk_42_method_92_4) rfl (l' := #[.val (.ref x), .val (.int (Int32.ofNat i)), .val (.int (Int32.ofNat j)), .val (.int (Int32.ofNat cs.length)), .unset]) rfl q) ?_
  show OEnds p e below _ T2 (mkF m 5 #[.val (.ref x), .val (.int (Int32.ofNat i)), .val (.int (Int32.ofNat j)), .val (.int (Int32.ofNat cs.length)), .unset] [])
  refine OEnds.go (fun _ q => XS.iloadN X5.here X5.hx rfl (hb hby d_jdk_42_method_92_5) rfl q) ?_
  show OEnds p e below _ T2 (mkF m 6 #[.val (.ref x), .val (.int (Int32.ofNat i)), .val (.int (Int32.ofNat j)), .val (.int (Int32.ofNat cs.length)), .unset] [(.int (Int32.ofNat i))])
  refine OEnds.go (fun _ q => XS.iloadN X5.here X5.hx rfl (hb hby d_jdk_42_method_92_6) rfl q) ?_
  show OEnds p e below _ T2 (mkF m 7 #[.val (.ref x), .val (.int (Int32.ofNat i)), .val (.int (Int32.ofNat j)), .val (.int (Int32.ofNat cs.length)), .unset] [(.int (Int32.ofNat j)), (.int (Int32.ofNat i))])
  refine OEnds.go (fun _ q => XS.iloadN X5.here X5.hx rfl (hb hby d_jdk_42_method_92_7) rfl q) ?_
  show OEnds p e below _ T2 (mkF m 8 #[.val (.ref x), .val (.int (Int32.ofNat i)), .val (.int (Int32.ofNat j)), .val (.int (Int32.ofNat cs.length)), .unset] [(.int (Int32.ofNat cs.length)), (.int (Int32.ofNat j)), (.int (Int32.ofNat i))])
  refine X5.callS hE (con_be H (Int32.ofNat i) (Int32.ofNat j) (Int32.ofNat cs.length) (ofN_neg (by omega)) (by rw [ofN_lt (by omega) (by omega)]; omega) (by rw [ofN_lt (by omega) (by omega)]; omega) h0) (hw _ (List.mem_of_getElem? (i := 48) rfl)) (hw _ (List.mem_of_getElem? (i := 49) rfl)) (hw _ (List.mem_of_getElem? (i := 8) rfl)) (hw _ (List.mem_of_getElem? (i := 50) rfl))  (by decide) (W := 0) (by decide) (by decide) (argsL := [(.int (Int32.ofNat i)), (.int (Int32.ofNat j)), (.int (Int32.ofNat cs.length))]) (rest := []) rfl (lenOf own_pd7 rfl) rfl (by rw [hml]; rfl) (Nat.le_of_eq rfl) (hb hby d_jdk_42_method_92_8) (by decide) (by decide) ?_
  intro v13 vm11 T8 h10 X9 C12 q14
  obtain ⟨rfl, rfl⟩ := q14
  show OEnds p e below _ T8 (mkF m 11 #[.val (.ref x), .val (.int (Int32.ofNat i)), .val (.int (Int32.ofNat j)), .val (.int (Int32.ofNat cs.length)), .unset] [])
  refine OEnds.go (fun _ q => XS.iloadN X9.here X9.hx rfl (hb hby d_jdk_42_method_92_11) rfl q) ?_
  show OEnds p e below _ T8 (mkF m 12 #[.val (.ref x), .val (.int (Int32.ofNat i)), .val (.int (Int32.ofNat j)), .val (.int (Int32.ofNat cs.length)), .unset] [(.int (Int32.ofNat i))])
  have J : ¬ (i = 0 ∧ j = cs.length) → OEnds p e below (GW Z consts_1 s (fun r h => ∃ y : Addr, r = some (.ref y) ∧ Ext h0 h ∧ OStr Z h y ((cs.drop i).take (j - i))) ({ frames := 4, cells := 2, slots := 20, locals := 106 } : Room).cells ({ frames := 4, cells := 2, slots := 20, locals := 106 } : Room).slots) T8 (mkF m 22 #[.val (.ref x), .val (.int (Int32.ofNat i)), .val (.int (Int32.ofNat j)), .val (.int (Int32.ofNat cs.length)), .unset] []) := by
    intro  hne
    refine OEnds.go (fun _ q => XS.iloadN X9.here X9.hx rfl (hb hby d_jdk_42_method_92_22) rfl q) ?_
    show OEnds p e below _ T8 (mkF m 23 #[.val (.ref x), .val (.int (Int32.ofNat i)), .val (.int (Int32.ofNat j)), .val (.int (Int32.ofNat cs.length)), .unset] [(.int (Int32.ofNat j))])
    refine OEnds.go (fun _ q => XS.iloadN X9.here X9.hx rfl (hb hby d_jdk_42_method_92_23) rfl q) ?_
    show OEnds p e below _ T8 (mkF m 24 #[.val (.ref x), .val (.int (Int32.ofNat i)), .val (.int (Int32.ofNat j)), .val (.int (Int32.ofNat cs.length)), .unset] [(.int (Int32.ofNat i)), (.int (Int32.ofNat j))])
    refine OEnds.go (fun _ q => XS.isub X9.here X9.hx rfl (hb hby d_jdk_42_method_92_24) rfl q) ?_
    show OEnds p e below _ T8 (mkF m 25 #[.val (.ref x), .val (.int (Int32.ofNat i)), .val (.int (Int32.ofNat j)), .val (.int (Int32.ofNat cs.length)), .unset] [(.int ((Int32.ofNat j) - (Int32.ofNat i)))])
    rw [ofN_sub (by omega) hij]
    show OEnds p e below _ T8 (mkF m 25 #[.val (.ref x), .val (.int (Int32.ofNat i)), .val (.int (Int32.ofNat j)), .val (.int (Int32.ofNat cs.length)), .unset] [(.int (Int32.ofNat (j - i)))])
    obtain ⟨Ax, Fc, ⟨t, kb, Fv, Kt⟩, hbd, -⟩ := id Sx
    refine OEnds.go (fun _ q => XS.istore X9.here X9.hx rfl (hb hby d_jdk_42_method_92_25) rfl (l' := #[.val (.ref x), .val (.int (Int32.ofNat i)), .val (.int (Int32.ofNat j)), .val (.int (Int32.ofNat cs.length)), .val (.int (Int32.ofNat (j - i)))]) rfl q) ?_
    show OEnds p e below _ T8 (mkF m 27 #[.val (.ref x), .val (.int (Int32.ofNat i)), .val (.int (Int32.ofNat j)), .val (.int (Int32.ofNat cs.length)), .val (.int (Int32.ofNat (j - i)))] [])
    refine OEnds.go (fun _ q => XS.aloadN X9.here X9.hx rfl (hb hby d_jdk_42_method_92_27) rfl rfl q) ?_
    show OEnds p e below _ T8 (mkF m 28 #[.val (.ref x), .val (.int (Int32.ofNat i)), .val (.int (Int32.ofNat j)), .val (.int (Int32.ofNat cs.length)), .val (.int (Int32.ofNat (j - i)))] [(.ref x)])
    refine X9.callV hE (con_isL H x h0 Fc) (hw _ (List.mem_of_getElem? (i := 78) rfl)) (hw _ (List.mem_of_getElem? (i := 79) rfl)) (hw _ (List.mem_of_getElem? (i := 81) rfl)) (hw _ (List.mem_of_getElem? (i := 80) rfl)) (hw _ (List.mem_of_getElem? (i := 8) rfl)) (hw _ (List.mem_of_getElem? (i := 82) rfl)) (X9.nf (hw _ (List.mem_of_getElem? (i := 81) rfl))) (by decide) (W := 0) (by decide) (by decide) Ax (argsL := []) (rest := []) rfl (lenOf own_pd8 rfl) rfl (by rw [hml]; rfl) (Nat.le_of_eq rfl) (hb hby d_jdk_42_method_92_28) (by decide) (by decide) ?_
    intro v20 vm18 T15 h17 X16 C19 q21
    obtain ⟨rfl, rfl⟩ := q21
    show OEnds p e below _ T15 (mkF m 31 #[.val (.ref x), .val (.int (Int32.ofNat i)), .val (.int (Int32.ofNat j)), .val (.int (Int32.ofNat cs.length)), .val (.int (Int32.ofNat (j - i)))] [(.int (1 : Int32))])
    refine OEnds.go (fun _ q => XS.ifNo X16.here X16.hx rfl (hb hby d_jdk_42_method_92_31) rfl ((if0 _ _).trans (feq (by decide)).1) q) ?_
    show OEnds p e below _ T15 (mkF m 34 #[.val (.ref x), .val (.int (Int32.ofNat i)), .val (.int (Int32.ofNat j)), .val (.int (Int32.ofNat cs.length)), .val (.int (Int32.ofNat (j - i)))] [])
    refine OEnds.go (fun _ q => XS.aloadN X16.here X16.hx rfl (hb hby d_jdk_42_method_92_34) rfl rfl q) ?_
    show OEnds p e below _ T15 (mkF m 35 #[.val (.ref x), .val (.int (Int32.ofNat i)), .val (.int (Int32.ofNat j)), .val (.int (Int32.ofNat cs.length)), .val (.int (Int32.ofNat (j - i)))] [(.ref x)])
    refine X16.getF (hw _ (List.mem_of_getElem? (i := 25) rfl)) Via.refl Fv (hb hby d_jdk_42_method_92_35) ?_
    intro T22 X23
    show OEnds p e below _ T22 (mkF m 38 #[.val (.ref x), .val (.int (Int32.ofNat i)), .val (.int (Int32.ofNat j)), .val (.int (Int32.ofNat cs.length)), .val (.int (Int32.ofNat (j - i)))] [(.ref t)])
    refine OEnds.go (fun _ q => XS.iloadN X23.here X23.hx rfl (hb hby d_jdk_42_method_92_38) rfl q) ?_
    show OEnds p e below _ T22 (mkF m 39 #[.val (.ref x), .val (.int (Int32.ofNat i)), .val (.int (Int32.ofNat j)), .val (.int (Int32.ofNat cs.length)), .val (.int (Int32.ofNat (j - i)))] [(.int (Int32.ofNat i)), (.ref t)])
    refine OEnds.go (fun _ q => XS.iload X23.here X23.hx rfl (hb hby d_jdk_42_method_92_39) rfl q) ?_
    show OEnds p e below _ T22 (mkF m 41 #[.val (.ref x), .val (.int (Int32.ofNat i)), .val (.int (Int32.ofNat j)), .val (.int (Int32.ofNat cs.length)), .val (.int (Int32.ofNat (j - i)))] [(.int (Int32.ofNat (j - i))), (.int (Int32.ofNat i)), (.ref t)])
    refine X23.callS hE (con_newS H t kb cs i (j - i) (by omega) hN (fun q => hne ⟨q.1, by omega⟩) hbd h0 Kt) (hw _ (List.mem_of_getElem? (i := 93) rfl)) (hw _ (List.mem_of_getElem? (i := 94) rfl)) (hw _ (List.mem_of_getElem? (i := 85) rfl)) (hw _ (List.mem_of_getElem? (i := 95) rfl))  (by decide) (W := 0) (by decide) (by decide) (argsL := [(.ref t), (.int (Int32.ofNat i)), (.int (Int32.ofNat (j - i)))]) (rest := []) rfl (lenOf own_pd9 rfl) rfl (by rw [hml]; rfl) (Nat.le_of_eq rfl) (hb hby d_jdk_42_method_92_41) (by decide) (by decide) ?_
    intro v29 vm27 T24 h26 X25 C28 q30
    obtain ⟨y, rfl, Ey, Sy⟩ := q30
    have Sx_h26 := Sx.ext Ey
    have Ax_h26 := Ax.ext Ey
    have Fc_h26 := Fc.ext Ey
    have Fv_h26 := Fv.ext Ey
    have EX_h26 := ext_trans EX0 Ey
    show OEnds p e below _ T24 (mkF m 44 #[.val (.ref x), .val (.int (Int32.ofNat i)), .val (.int (Int32.ofNat j)), .val (.int (Int32.ofNat cs.length)), .val (.int (Int32.ofNat (j - i)))] [(.ref y)])
    refine OEnds.go (fun _ q => XS.goto X25.here X25.hx rfl (pc0 := 44) (pc' := 57) rfl (hb hby d_jdk_42_method_92_44) (by decide) (by decide) q) ?_
    show OEnds p e below _ T24 (mkF m 57 #[.val (.ref x), .val (.int (Int32.ofNat i)), .val (.int (Int32.ofNat j)), .val (.int (Int32.ofNat cs.length)), .val (.int (Int32.ofNat (j - i)))] [(.ref y)])
    exact X25.retRef hE hlk rfl (t := (FieldType.object "java/lang/String")) rfl hret (hb hby d_jdk_42_method_92_57) (by decide) (by decide) ⟨y, rfl, EX_h26, Sy⟩
  by_cases hi : (Int32.ofNat i) = (0 : Int32)
  · skip
    refine OEnds.go (fun _ q => XS.ifNo X9.here X9.hx rfl (hb hby d_jdk_42_method_92_12) rfl ((if0 _ _).trans (teq hi).2) q) ?_
    show OEnds p e below _ T8 (mkF m 15 #[.val (.ref x), .val (.int (Int32.ofNat i)), .val (.int (Int32.ofNat j)), .val (.int (Int32.ofNat cs.length)), .unset] [])
    refine OEnds.go (fun _ q => XS.iloadN X9.here X9.hx rfl (hb hby d_jdk_42_method_92_15) rfl q) ?_
    show OEnds p e below _ T8 (mkF m 16 #[.val (.ref x), .val (.int (Int32.ofNat i)), .val (.int (Int32.ofNat j)), .val (.int (Int32.ofNat cs.length)), .unset] [(.int (Int32.ofNat j))])
    refine OEnds.go (fun _ q => XS.iloadN X9.here X9.hx rfl (hb hby d_jdk_42_method_92_16) rfl q) ?_
    show OEnds p e below _ T8 (mkF m 17 #[.val (.ref x), .val (.int (Int32.ofNat i)), .val (.int (Int32.ofNat j)), .val (.int (Int32.ofNat cs.length)), .unset] [(.int (Int32.ofNat cs.length)), (.int (Int32.ofNat j))])
    by_cases hjl : (Int32.ofNat j) = (Int32.ofNat cs.length)
    · skip
      refine OEnds.go (fun _ q => XS.icmpNo X9.here X9.hx rfl (hb hby d_jdk_42_method_92_17) rfl (teq hjl).2 q) ?_
      show OEnds p e below _ T8 (mkF m 20 #[.val (.ref x), .val (.int (Int32.ofNat i)), .val (.int (Int32.ofNat j)), .val (.int (Int32.ofNat cs.length)), .unset] [])
      refine OEnds.go (fun _ q => XS.aloadN X9.here X9.hx rfl (hb hby d_jdk_42_method_92_20) rfl rfl q) ?_
      show OEnds p e below _ T8 (mkF m 21 #[.val (.ref x), .val (.int (Int32.ofNat i)), .val (.int (Int32.ofNat j)), .val (.int (Int32.ofNat cs.length)), .unset] [(.ref x)])
      have hs := own_sub_all ((ofN_eq (by omega) (by decide)).mp hi) ((ofN_eq (by omega) (by omega)).mp hjl)
      have hS := Sx
      rw [← hs] at hS
      exact X9.retRef hE hlk rfl (t := (FieldType.object "java/lang/String")) rfl hret (hb hby d_jdk_42_method_92_21) (by decide) (by decide) ⟨x, rfl, EX0, hS⟩
    · skip
      refine OEnds.go (fun _ q => XS.icmpYes X9.here X9.hx rfl (pc0 := 17) (pc' := 22) rfl (hb hby d_jdk_42_method_92_17) rfl (feq hjl).2 (by decide) (by decide) q) ?_
      show OEnds p e below _ T8 (mkF m 22 #[.val (.ref x), .val (.int (Int32.ofNat i)), .val (.int (Int32.ofNat j)), .val (.int (Int32.ofNat cs.length)), .unset] [])
      exact J fun q => hjl (by rw [q.2])
  · skip
    refine OEnds.go (fun _ q => XS.ifYes X9.here X9.hx rfl (pc0 := 12) (pc' := 22) rfl (hb hby d_jdk_42_method_92_12) rfl ((if0 _ _).trans (feq hi).2) (by decide) (by decide) q) ?_
    show OEnds p e below _ T8 (mkF m 22 #[.val (.ref x), .val (.int (Int32.ofNat i)), .val (.int (Int32.ofNat j)), .val (.int (Int32.ofNat cs.length)), .unset] [])
    exact J fun q => hi (by rw [q.1]; rfl)
theorem con_pick {l : Launch} {Z : State} {a0 : Array Value} {cz : Int32} {fm : Value} (H : Ctx Z a0 cz fm) (u : Int32) (h0 : Heap)  :
    ConX l Z consts_1 (⟨"com/example/gatepost/gatepost/edge/MessageHeadTrimmedPinLaw", "pick", "(I)C"⟩ : MethodName) method_2_code 2 (some FieldType.char) [] ({ frames := 0, cells := 0, slots := 0, locals := 0 } : Room) #[(.int u)] h0 (fun r h => ∃ v : Int32, r = some (.int v) ∧ h0 = h ∧ (¬ v < 0 ∧ ¬ (255 : Int32) < v)) := by
  obtain ⟨hw, hE, S0, hcz, S1, rf⟩ := id H
  refine ConX.of own_pf12 ?_
  intro p e s m below meth c T hby hml hret hlk hnm X0
  have EX0 := ext_refl h0
  refine OEnds.cast (own_ef9 m u ) ?_
  show OEnds p e below _ T (mkF m 0 #[.val (.int u), .unset] [])
  refine OEnds.go (fun _ q => XS.iloadN X0.here X0.hx rfl (hb hby d_method_2_0) rfl q) ?_
  show OEnds p e below _ T (mkF m 1 #[.val (.int u), .unset] [(.int u)])
  refine OEnds.go (fun _ q => XS.iconst X0.here X0.hx rfl (hb hby d_method_2_1) q) ?_
  show OEnds p e below _ T (mkF m 2 #[.val (.int u), .unset] [(.int (3 : Int32)), (.int u)])
  refine OEnds.go (fun _ q => XS.iand X0.here X0.hx rfl (hb hby d_method_2_2) rfl q) ?_
  show OEnds p e below _ T (mkF m 3 #[.val (.int u), .unset] [(.int (u &&& (3 : Int32)))])
  refine OEnds.go (fun _ q => XS.istoreN X0.here X0.hx rfl (hb hby d_method_2_3) rfl (l' := #[.val (.int u), .val (.int (u &&& (3 : Int32)))]) rfl q) ?_
  show OEnds p e below _ T (mkF m 4 #[.val (.int u), .val (.int (u &&& (3 : Int32)))] [])
  refine OEnds.go (fun _ q => XS.iloadN X0.here X0.hx rfl (hb hby d_method_2_4) rfl q) ?_
  show OEnds p e below _ T (mkF m 5 #[.val (.int u), .val (.int (u &&& (3 : Int32)))] [(.int (u &&& (3 : Int32)))])
  by_cases h0k : (u &&& (3 : Int32)) = (0 : Int32)
  · skip
    refine OEnds.go (fun _ q => XS.ifNo X0.here X0.hx rfl (hb hby d_method_2_5) rfl ((if0 _ _).trans (teq h0k).2) q) ?_
    show OEnds p e below _ T (mkF m 8 #[.val (.int u), .val (.int (u &&& (3 : Int32)))] [])
    refine OEnds.go (fun _ q => XS.bipush X0.here X0.hx rfl (hb hby d_method_2_8) q) ?_
    show OEnds p e below _ T (mkF m 10 #[.val (.int u), .val (.int (u &&& (3 : Int32)))] [(.int (32 : Int32))])
    exact X0.retChar hE hlk (by decide) hret (hb hby d_method_2_10) (by decide) (by decide) ⟨_, rfl, rfl, by decide⟩
  · skip
    refine OEnds.go (fun _ q => XS.ifYes X0.here X0.hx rfl (pc0 := 5) (pc' := 11) rfl (hb hby d_method_2_5) rfl ((if0 _ _).trans (feq h0k).2) (by decide) (by decide) q) ?_
    show OEnds p e below _ T (mkF m 11 #[.val (.int u), .val (.int (u &&& (3 : Int32)))] [])
    refine OEnds.go (fun _ q => XS.iloadN X0.here X0.hx rfl (hb hby d_method_2_11) rfl q) ?_
    show OEnds p e below _ T (mkF m 12 #[.val (.int u), .val (.int (u &&& (3 : Int32)))] [(.int (u &&& (3 : Int32)))])
    refine OEnds.go (fun _ q => XS.iconst X0.here X0.hx rfl (hb hby d_method_2_12) q) ?_
    show OEnds p e below _ T (mkF m 13 #[.val (.int u), .val (.int (u &&& (3 : Int32)))] [(.int (1 : Int32)), (.int (u &&& (3 : Int32)))])
    by_cases h1k : (u &&& (3 : Int32)) = (1 : Int32)
    · skip
      refine OEnds.go (fun _ q => XS.icmpNo X0.here X0.hx rfl (hb hby d_method_2_13) rfl (teq h1k).2 q) ?_
      show OEnds p e below _ T (mkF m 16 #[.val (.int u), .val (.int (u &&& (3 : Int32)))] [])
      refine OEnds.go (fun _ q => XS.bipush X0.here X0.hx rfl (hb hby d_method_2_16) q) ?_
      show OEnds p e below _ T (mkF m 18 #[.val (.int u), .val (.int (u &&& (3 : Int32)))] [(.int (9 : Int32))])
      exact X0.retChar hE hlk (by decide) hret (hb hby d_method_2_18) (by decide) (by decide) ⟨_, rfl, rfl, by decide⟩
    · skip
      refine OEnds.go (fun _ q => XS.icmpYes X0.here X0.hx rfl (pc0 := 13) (pc' := 19) rfl (hb hby d_method_2_13) rfl (feq h1k).2 (by decide) (by decide) q) ?_
      show OEnds p e below _ T (mkF m 19 #[.val (.int u), .val (.int (u &&& (3 : Int32)))] [])
      refine OEnds.go (fun _ q => XS.iloadN X0.here X0.hx rfl (hb hby d_method_2_19) rfl q) ?_
      show OEnds p e below _ T (mkF m 20 #[.val (.int u), .val (.int (u &&& (3 : Int32)))] [(.int u)])
      refine OEnds.go (fun _ q => XS.iconst X0.here X0.hx rfl (hb hby d_method_2_20) q) ?_
      show OEnds p e below _ T (mkF m 21 #[.val (.int u), .val (.int (u &&& (3 : Int32)))] [(.int (2 : Int32)), (.int u)])
      refine OEnds.go (fun _ q => XS.iushr X0.here X0.hx rfl (hb hby d_method_2_21) rfl q) ?_
      show OEnds p e below _ T (mkF m 22 #[.val (.int u), .val (.int (u &&& (3 : Int32)))] [(.int (u.toUInt32 >>> ((2 : Int32) &&& 31).toUInt32).toInt32)])
      refine OEnds.go (fun _ q => XS.sipush X0.here X0.hx rfl (hb hby d_method_2_22) q) ?_
      show OEnds p e below _ T (mkF m 25 #[.val (.int u), .val (.int (u &&& (3 : Int32)))] [(.int (255 : Int32)), (.int (u.toUInt32 >>> ((2 : Int32) &&& 31).toUInt32).toInt32)])
      refine OEnds.go (fun _ q => XS.iand X0.here X0.hx rfl (hb hby d_method_2_25) rfl q) ?_
      show OEnds p e below _ T (mkF m 26 #[.val (.int u), .val (.int (u &&& (3 : Int32)))] [(.int ((u.toUInt32 >>> ((2 : Int32) &&& 31).toUInt32).toInt32 &&& (255 : Int32)))])
      refine OEnds.go (fun _ q => XS.i2c X0.here X0.hx rfl (hb hby d_method_2_26) rfl q) ?_
      show OEnds p e below _ T (mkF m 27 #[.val (.int u), .val (.int (u &&& (3 : Int32)))] [(.int (((u.toUInt32 >>> ((2 : Int32) &&& 31).toUInt32).toInt32 &&& (255 : Int32)).toUInt32.toUInt16.toUInt32.toInt32))])
      obtain ⟨ch, hch⟩ : ∃ z : Int32, z = (((u.toUInt32 >>> ((2 : Int32) &&& 31).toUInt32).toInt32 &&& (255 : Int32)).toUInt32.toUInt16.toUInt32.toInt32) := ⟨_, rfl⟩
      rw [← hch]
      show OEnds p e below _ T (mkF m 27 #[.val (.int u), .val (.int (u &&& (3 : Int32)))] [(.int ch)])
      have hchb : ¬ ch < 0 ∧ ¬ (255 : Int32) < ch := hch ▸ ch255 _
      exact X0.retChar hE hlk (up255 hchb) hret (hb hby d_method_2_27) (by decide) (by decide) ⟨_, rfl, rfl, hchb⟩
theorem con_blank {l : Launch} {Z : State} {a0 : Array Value} {cz : Int32} {fm : Value} (H : Ctx Z a0 cz fm) (u : Int32) (h0 : Heap)  :
    ConX l Z consts_1 (⟨"com/example/gatepost/gatepost/edge/MessageHeadTrimmedPinLaw", "blank", "(C)Z"⟩ : MethodName) method_3_code 1 (some FieldType.boolean) [] ({ frames := 0, cells := 0, slots := 0, locals := 0 } : Room) #[(.int u)] h0 (fun r h => r = some (.int (if own_B u then 1 else 0)) ∧ h0 = h) := by
  obtain ⟨hw, hE, S0, hcz, S1, rf⟩ := id H
  refine ConX.of own_pf13 ?_
  intro p e s m below meth c T hby hml hret hlk hnm X0
  have EX0 := ext_refl h0
  refine OEnds.cast (own_ef10 m u ) ?_
  show OEnds p e below _ T (mkF m 0 #[.val (.int u)] [])
  refine OEnds.go (fun _ q => XS.iloadN X0.here X0.hx rfl (hb hby d_method_3_0) rfl q) ?_
  show OEnds p e below _ T (mkF m 1 #[.val (.int u)] [(.int u)])
  refine OEnds.go (fun _ q => XS.bipush X0.here X0.hx rfl (hb hby d_method_3_1) q) ?_
  show OEnds p e below _ T (mkF m 3 #[.val (.int u)] [(.int (32 : Int32)), (.int u)])
  by_cases e1 : u = (32 : Int32)
  · skip
    refine OEnds.go (fun _ q => XS.icmpYes X0.here X0.hx rfl (pc0 := 3) (pc' := 12) rfl (hb hby d_method_3_3) rfl (teq e1).1 (by decide) (by decide) q) ?_
    show OEnds p e below _ T (mkF m 12 #[.val (.int u)] [])
    refine OEnds.go (fun _ q => XS.iconst X0.here X0.hx rfl (hb hby d_method_3_12) q) ?_
    show OEnds p e below _ T (mkF m 13 #[.val (.int u)] [(.int (1 : Int32))])
    refine OEnds.go (fun _ q => XS.goto X0.here X0.hx rfl (pc0 := 13) (pc' := 17) rfl (hb hby d_method_3_13) (by decide) (by decide) q) ?_
    show OEnds p e below _ T (mkF m 17 #[.val (.int u)] [(.int (1 : Int32))])
    exact X0.retBool hE hlk (by first | exact Or.inl rfl | exact Or.inr rfl | assumption) hret (hb hby d_method_3_17) (by decide) (by decide) ⟨by rw [if_pos (show own_B u from Or.inl e1)], rfl⟩
  · skip
    refine OEnds.go (fun _ q => XS.icmpNo X0.here X0.hx rfl (hb hby d_method_3_3) rfl (feq e1).1 q) ?_
    show OEnds p e below _ T (mkF m 6 #[.val (.int u)] [])
    refine OEnds.go (fun _ q => XS.iloadN X0.here X0.hx rfl (hb hby d_method_3_6) rfl q) ?_
    show OEnds p e below _ T (mkF m 7 #[.val (.int u)] [(.int u)])
    refine OEnds.go (fun _ q => XS.bipush X0.here X0.hx rfl (hb hby d_method_3_7) q) ?_
    show OEnds p e below _ T (mkF m 9 #[.val (.int u)] [(.int (9 : Int32)), (.int u)])
    by_cases e2 : u = (9 : Int32)
    · skip
      refine OEnds.go (fun _ q => XS.icmpNo X0.here X0.hx rfl (hb hby d_method_3_9) rfl (teq e2).2 q) ?_
      show OEnds p e below _ T (mkF m 12 #[.val (.int u)] [])
      refine OEnds.go (fun _ q => XS.iconst X0.here X0.hx rfl (hb hby d_method_3_12) q) ?_
      show OEnds p e below _ T (mkF m 13 #[.val (.int u)] [(.int (1 : Int32))])
      refine OEnds.go (fun _ q => XS.goto X0.here X0.hx rfl (pc0 := 13) (pc' := 17) rfl (hb hby d_method_3_13) (by decide) (by decide) q) ?_
      show OEnds p e below _ T (mkF m 17 #[.val (.int u)] [(.int (1 : Int32))])
      exact X0.retBool hE hlk (by first | exact Or.inl rfl | exact Or.inr rfl | assumption) hret (hb hby d_method_3_17) (by decide) (by decide) ⟨by rw [if_pos (show own_B u from Or.inr e2)], rfl⟩
    · skip
      refine OEnds.go (fun _ q => XS.icmpYes X0.here X0.hx rfl (pc0 := 9) (pc' := 16) rfl (hb hby d_method_3_9) rfl (feq e2).2 (by decide) (by decide) q) ?_
      show OEnds p e below _ T (mkF m 16 #[.val (.int u)] [])
      refine OEnds.go (fun _ q => XS.iconst X0.here X0.hx rfl (hb hby d_method_3_16) q) ?_
      show OEnds p e below _ T (mkF m 17 #[.val (.int u)] [(.int (0 : Int32))])
      exact X0.retBool hE hlk (by first | exact Or.inl rfl | exact Or.inr rfl | assumption) hret (hb hby d_method_3_17) (by decide) (by decide) ⟨by rw [if_neg (show ¬ own_B u from fun q => q.elim e1 e2)], rfl⟩
theorem con_same {l : Launch} {Z : State} {a0 : Array Value} {cz : Int32} {fm : Value} (H : Ctx Z a0 cz fm) (x ar : Addr) (k sv ln : Int32) (kc : ClassId) (ds vs : List Int32) (hp : own_p ds vs sv ln k) (h0 : Heap) (Sx : OStr Z h0 x ds) (Ka : Arv Z h0 ar kc .char (4 : Int32) (vs.map Value.int) (.int (0 : Int32))) :
    ConX l Z consts_1 (⟨"com/example/gatepost/gatepost/edge/MessageHeadTrimmedPinLaw", "same", "(Ljava/lang/String;I[CII)Z"⟩ : MethodName) method_4_code 5 (some FieldType.boolean) [] ({ frames := 4, cells := 0, slots := 0, locals := 53 } : Room) #[(.ref x), (.int k), (.ref ar), (.int sv), (.int ln)] h0 (fun r h => r = some (.int 1) ∧ h0 = h) := by
  obtain ⟨hw, hE, S0, hcz, S1, rf⟩ := id H
  refine ConX.of own_pf14 ?_
  intro p e s m below meth c T hby hml hret hlk hnm X0
  have EX0 := ext_refl h0
  refine OEnds.cast (own_ef11 m x k ar sv ln ) ?_
  show OEnds p e below _ T (mkF m 0 #[.val (.ref x), .val (.int k), .val (.ref ar), .val (.int sv), .val (.int ln)] [])
  refine OEnds.go (fun _ q => XS.iloadN X0.here X0.hx rfl (hb hby d_method_4_0) rfl q) ?_
  show OEnds p e below _ T (mkF m 1 #[.val (.ref x), .val (.int k), .val (.ref ar), .val (.int sv), .val (.int ln)] [(.int k)])
  refine OEnds.go (fun _ q => XS.iload X0.here X0.hx rfl (hb hby d_method_4_1) rfl q) ?_
  show OEnds p e below _ T (mkF m 3 #[.val (.ref x), .val (.int k), .val (.ref ar), .val (.int sv), .val (.int ln)] [(.int ln), (.int k)])
  rcases hp with hp | ⟨hp, q1, q2, q3, q4, q5⟩
  · skip
    refine OEnds.go (fun _ q => XS.icmpYes X0.here X0.hx rfl (pc0 := 3) (pc' := 19) rfl (hb hby d_method_4_3) rfl (flt hp).2.1 (by decide) (by decide) q) ?_
    show OEnds p e below _ T (mkF m 19 #[.val (.ref x), .val (.int k), .val (.ref ar), .val (.int sv), .val (.int ln)] [])
    refine OEnds.go (fun _ q => XS.iconst X0.here X0.hx rfl (hb hby d_method_4_19) q) ?_
    show OEnds p e below _ T (mkF m 20 #[.val (.ref x), .val (.int k), .val (.ref ar), .val (.int sv), .val (.int ln)] [(.int (1 : Int32))])
    refine OEnds.go (fun _ q => XS.goto X0.here X0.hx rfl (pc0 := 20) (pc' := 24) rfl (hb hby d_method_4_20) (by decide) (by decide) q) ?_
    show OEnds p e below _ T (mkF m 24 #[.val (.ref x), .val (.int k), .val (.ref ar), .val (.int sv), .val (.int ln)] [(.int (1 : Int32))])
    exact X0.retBool hE hlk (by first | exact Or.inl rfl | exact Or.inr rfl | assumption) hret (hb hby d_method_4_24) (by decide) (by decide) ⟨rfl, rfl⟩
  · skip
    refine OEnds.go (fun _ q => XS.icmpNo X0.here X0.hx rfl (hb hby d_method_4_3) rfl (tlt hp).2.1 q) ?_
    show OEnds p e below _ T (mkF m 6 #[.val (.ref x), .val (.int k), .val (.ref ar), .val (.int sv), .val (.int ln)] [])
    refine OEnds.go (fun _ q => XS.aloadN X0.here X0.hx rfl (hb hby d_method_4_6) rfl rfl q) ?_
    show OEnds p e below _ T (mkF m 7 #[.val (.ref x), .val (.int k), .val (.ref ar), .val (.int sv), .val (.int ln)] [(.ref x)])
    refine OEnds.go (fun _ q => XS.iloadN X0.here X0.hx rfl (hb hby d_method_4_7) rfl q) ?_
    show OEnds p e below _ T (mkF m 8 #[.val (.ref x), .val (.int k), .val (.ref ar), .val (.int sv), .val (.int ln)] [(.int k), (.ref x)])
    refine X0.payV (own_chr H (W := 0) X0.hZ X0.old (i := k.toNatClampNeg) Sx q1 q2 (by decide) (by decide)) (okPure X0) (hw _ (List.mem_of_getElem? (i := 118) rfl)) (hw _ (List.mem_of_getElem? (i := 74) rfl)) (hw _ (List.mem_of_getElem? (i := 76) rfl)) (hw _ (List.mem_of_getElem? (i := 75) rfl)) (X0.nf (hw _ (List.mem_of_getElem? (i := 76) rfl))) (by decide) Sx.exa (argsL := [(.int k)]) (rest := []) rfl (lenOf own_pd10 rfl) rfl (by rw [hml]; rfl) (Nat.le_of_eq rfl) (hb hby d_method_4_8) (by decide) (by decide) ?_
    intro v1 T2 h3 L4 X5 q6
    obtain ⟨rfl, -, e7⟩ := q6
    obtain rfl := e7.symm
    show OEnds p e below _ T2 (mkF m 11 #[.val (.ref x), .val (.int k), .val (.ref ar), .val (.int sv), .val (.int ln)] [(.int (ds.getD k.toNatClampNeg 0))])
    refine OEnds.go (fun _ q => XS.aloadN X5.here X5.hx rfl (hb hby d_method_4_11) rfl rfl q) ?_
    show OEnds p e below _ T2 (mkF m 12 #[.val (.ref x), .val (.int k), .val (.ref ar), .val (.int sv), .val (.int ln)] [(.ref ar), (.int (ds.getD k.toNatClampNeg 0))])
    refine OEnds.go (fun _ q => XS.iloadN X5.here X5.hx rfl (hb hby d_method_4_12) rfl q) ?_
    show OEnds p e below _ T2 (mkF m 13 #[.val (.ref x), .val (.int k), .val (.ref ar), .val (.int sv), .val (.int ln)] [(.int sv), (.ref ar), (.int (ds.getD k.toNatClampNeg 0))])
    refine OEnds.go (fun _ q => XS.iloadN X5.here X5.hx rfl (hb hby d_method_4_13) rfl q) ?_
    show OEnds p e below _ T2 (mkF m 14 #[.val (.ref x), .val (.int k), .val (.ref ar), .val (.int sv), .val (.int ln)] [(.int k), (.int sv), (.ref ar), (.int (ds.getD k.toNatClampNeg 0))])
    refine OEnds.go (fun _ q => XS.iadd X5.here X5.hx rfl (hb hby d_method_4_14) rfl q) ?_
    show OEnds p e below _ T2 (mkF m 15 #[.val (.ref x), .val (.int k), .val (.ref ar), .val (.int sv), .val (.int ln)] [(.int (sv + k)), (.ref ar), (.int (ds.getD k.toNatClampNeg 0))])
    refine X5.cald Ka ⟨q3, q4⟩ (v := .int (vs.getD (sv + k).toNatClampNeg 0)) (by rw [List.getD_eq_getElem?_getD, List.getElem?_map, List.getD_eq_getElem?_getD]; cases vs[(sv + k).toNatClampNeg]? <;> rfl) (hb hby d_method_4_15) ?_
    show OEnds p e below _ T2 (mkF m 16 #[.val (.ref x), .val (.int k), .val (.ref ar), .val (.int sv), .val (.int ln)] [(.int (vs.getD (sv + k).toNatClampNeg 0)), (.int (ds.getD k.toNatClampNeg 0))])
    refine OEnds.go (fun _ q => XS.icmpNo X5.here X5.hx rfl (hb hby d_method_4_16) rfl (teq q5.symm).2 q) ?_
    show OEnds p e below _ T2 (mkF m 19 #[.val (.ref x), .val (.int k), .val (.ref ar), .val (.int sv), .val (.int ln)] [])
    refine OEnds.go (fun _ q => XS.iconst X5.here X5.hx rfl (hb hby d_method_4_19) q) ?_
    show OEnds p e below _ T2 (mkF m 20 #[.val (.ref x), .val (.int k), .val (.ref ar), .val (.int sv), .val (.int ln)] [(.int (1 : Int32))])
    refine OEnds.go (fun _ q => XS.goto X5.here X5.hx rfl (pc0 := 20) (pc' := 24) rfl (hb hby d_method_4_20) (by decide) (by decide) q) ?_
    show OEnds p e below _ T2 (mkF m 24 #[.val (.ref x), .val (.int k), .val (.ref ar), .val (.int sv), .val (.int ln)] [(.int (1 : Int32))])
    exact X5.retBool hE hlk (by first | exact Or.inl rfl | exact Or.inr rfl | assumption) hret (hb hby d_method_4_24) (by decide) (by decide) ⟨rfl, rfl⟩
theorem con_trim {l : Launch} {Z : State} {a0 : Array Value} {cz : Int32} {fm : Value} (H : Ctx Z a0 cz fm) (x : Addr) (cs : List Int32) (hN : cs.length ≤ 16) (h0 : Heap) (Sx : OStr Z h0 x cs) :
    ConX l Z consts_1 (⟨"com/example/gatepost/gatepost/edge/MessageHead", "trimmed", "(Ljava/lang/String;)Ljava/lang/String;"⟩ : MethodName) prog_38_method_5_code 3 (some (FieldType.object "java/lang/String")) [] ({ frames := 5, cells := 2, slots := 20, locals := 122 } : Room) #[(.ref x)] h0 (fun r h => ∃ (y : Addr) (i j : Nat), r = some (.ref y) ∧ Ext h0 h ∧ OStr Z h y ((cs.drop i).take (j - i)) ∧ own_trim cs i j) := by
  obtain ⟨hw, hE, S0, hcz, S1, rf⟩ := id H
  refine ConX.of own_pf15 ?_
  intro p e s m below meth c T hby hml hret hlk hnm X0
  have EX0 := ext_refl h0
  refine OEnds.cast (own_ef12 m x ) ?_
  show OEnds p e below _ T (mkF m 0 #[.val (.ref x), .unset, .unset] [])
  refine OEnds.go (fun _ q => XS.iconst X0.here X0.hx rfl (hb hby d_prog_38_method_5_0) q) ?_
  show OEnds p e below _ T (mkF m 1 #[.val (.ref x), .unset, .unset] [(.int (0 : Int32))])
  refine OEnds.go (fun _ q => XS.istoreN X0.here X0.hx rfl (hb hby d_prog_38_method_5_1) rfl (l' := #[.val (.ref x), .val (.int (0 : Int32)), .unset]) rfl q) ?_
  show OEnds p e below _ T (mkF m 2 #[.val (.ref x), .val (.int (0 : Int32)), .unset] [])
  refine OEnds.go (fun _ q => XS.aloadN X0.here X0.hx rfl (hb hby d_prog_38_method_5_2) rfl rfl q) ?_
  show OEnds p e below _ T (mkF m 3 #[.val (.ref x), .val (.int (0 : Int32)), .unset] [(.ref x)])
  refine X0.payV (own_len H (W := 0) X0.hZ X0.old Sx (by decide) (by decide)) (okPure X0) (hw _ (List.mem_of_getElem? (i := 31) rfl)) (hw _ (List.mem_of_getElem? (i := 32) rfl)) (hw _ (List.mem_of_getElem? (i := 34) rfl)) (hw _ (List.mem_of_getElem? (i := 33) rfl)) (X0.nf (hw _ (List.mem_of_getElem? (i := 34) rfl))) (by decide) Sx.exa (argsL := []) (rest := []) rfl (lenOf own_pd6 rfl) rfl (by rw [hml]; rfl) (Nat.le_of_eq rfl) (hb hby d_prog_38_method_5_3) (by decide) (by decide) ?_
  intro v1 T2 h3 L4 X5 q6
  obtain ⟨rfl, -, e7⟩ := q6
  obtain rfl := e7.symm
  show OEnds p e below _ T2 (mkF m 6 #[.val (.ref x), .val (.int (0 : Int32)), .unset] [(.int (Int32.ofNat cs.length))])
  refine OEnds.go (fun _ q => XS.istoreN X5.here X5.hx rfl (hb hby d_prog_38_method_5_6) rfl (l' := #[.val (.ref x), .val (.int (0 : Int32)), .val (.int (Int32.ofNat cs.length))]) rfl q) ?_
  show OEnds p e below _ T2 (mkF m 7 #[.val (.ref x), .val (.int (0 : Int32)), .val (.int (Int32.ofNat cs.length))] [])
  have J38 : ∀ (i : Nat) (Tj8 : State), i ≤ cs.length → (∀ k, k < i → own_B (cs.getD k 0)) → (i = cs.length ∨ ¬ own_B (cs.getD i 0)) → OSt p l e ({ frames := 5, cells := 2, slots := 20, locals := 122 } : Room) s m #[(.ref x)] below meth c "com/example/gatepost/gatepost/edge/MessageHead" Z consts_1 s.vm Tj8 h0 0 0 → OEnds p e below (GW Z consts_1 s (fun r h => ∃ (y : Addr) (i j : Nat), r = some (.ref y) ∧ Ext h0 h ∧ OStr Z h y ((cs.drop i).take (j - i)) ∧ own_trim cs i j) ({ frames := 5, cells := 2, slots := 20, locals := 122 } : Room).cells ({ frames := 5, cells := 2, slots := 20, locals := 122 } : Room).slots) Tj8 (mkF m 38 #[.val (.ref x), .val (.int (Int32.ofNat i)), .val (.int (Int32.ofNat cs.length))] []) := by
    intro i Tj8 hi a1 a2 Xj8
    have J73 : ∀ (j : Nat) (Tj9 : State), i ≤ j → j ≤ cs.length → (∀ k, j ≤ k → k < cs.length → own_B (cs.getD k 0)) → (j = i ∨ ¬ own_B (cs.getD (j - 1) 0)) → OSt p l e ({ frames := 5, cells := 2, slots := 20, locals := 122 } : Room) s m #[(.ref x)] below meth c "com/example/gatepost/gatepost/edge/MessageHead" Z consts_1 s.vm Tj9 h0 0 0 → OEnds p e below (GW Z consts_1 s (fun r h => ∃ (y : Addr) (i j : Nat), r = some (.ref y) ∧ Ext h0 h ∧ OStr Z h y ((cs.drop i).take (j - i)) ∧ own_trim cs i j) ({ frames := 5, cells := 2, slots := 20, locals := 122 } : Room).cells ({ frames := 5, cells := 2, slots := 20, locals := 122 } : Room).slots) Tj9 (mkF m 73 #[.val (.ref x), .val (.int (Int32.ofNat i)), .val (.int (Int32.ofNat j))] []) := by
      intro j Tj9 hj hj2 b1 b2 Xj9
      refine OEnds.go (fun _ q => XS.aloadN Xj9.here Xj9.hx rfl (hb hby d_prog_38_method_5_73) rfl rfl q) ?_
      show OEnds p e below _ Tj9 (mkF m 74 #[.val (.ref x), .val (.int (Int32.ofNat i)), .val (.int (Int32.ofNat j))] [(.ref x)])
      refine OEnds.go (fun _ q => XS.iloadN Xj9.here Xj9.hx rfl (hb hby d_prog_38_method_5_74) rfl q) ?_
      show OEnds p e below _ Tj9 (mkF m 75 #[.val (.ref x), .val (.int (Int32.ofNat i)), .val (.int (Int32.ofNat j))] [(.int (Int32.ofNat i)), (.ref x)])
      refine OEnds.go (fun _ q => XS.iloadN Xj9.here Xj9.hx rfl (hb hby d_prog_38_method_5_75) rfl q) ?_
      show OEnds p e below _ Tj9 (mkF m 76 #[.val (.ref x), .val (.int (Int32.ofNat i)), .val (.int (Int32.ofNat j))] [(.int (Int32.ofNat j)), (.int (Int32.ofNat i)), (.ref x)])
      refine Xj9.callV hE (con_sub H x cs i j hj hj2 hN h0 Sx) (hw _ (List.mem_of_getElem? (i := 42) rfl)) (hw _ (List.mem_of_getElem? (i := 43) rfl)) (hw _ (List.mem_of_getElem? (i := 45) rfl)) (hw _ (List.mem_of_getElem? (i := 44) rfl)) (hw _ (List.mem_of_getElem? (i := 8) rfl)) (hw _ (List.mem_of_getElem? (i := 46) rfl)) (Xj9.nf (hw _ (List.mem_of_getElem? (i := 45) rfl))) (by decide) (W := 0) (by decide) (by decide) Sx.exa (argsL := [(.int (Int32.ofNat i)), (.int (Int32.ofNat j))]) (rest := []) rfl (lenOf own_pd11 rfl) rfl (by rw [hml]; rfl) (Nat.le_of_eq rfl) (hb hby d_prog_38_method_5_76) (by decide) (by decide) ?_
      intro v15 vm13 T10 h12 X11 C14 q16
      obtain ⟨y, rfl, Ey, Sy⟩ := q16
      show OEnds p e below _ T10 (mkF m 79 #[.val (.ref x), .val (.int (Int32.ofNat i)), .val (.int (Int32.ofNat j))] [(.ref y)])
      exact X11.retRef hE hlk rfl (t := (FieldType.object "java/lang/String")) rfl hret (hb hby d_prog_38_method_5_79) (by decide) (by decide) ⟨y, i, j, rfl, Ey, Sy, hj, hj2, a1, a2, b1, b2⟩
    have loop2 : ∀ (f j : Nat) (Tj17 : State), i + f = j → j ≤ cs.length → (∀ k, j ≤ k → k < cs.length → own_B (cs.getD k 0)) → OSt p l e ({ frames := 5, cells := 2, slots := 20, locals := 122 } : Room) s m #[(.ref x)] below meth c "com/example/gatepost/gatepost/edge/MessageHead" Z consts_1 s.vm Tj17 h0 0 0 → OEnds p e below (GW Z consts_1 s (fun r h => ∃ (y : Addr) (i j : Nat), r = some (.ref y) ∧ Ext h0 h ∧ OStr Z h y ((cs.drop i).take (j - i)) ∧ own_trim cs i j) ({ frames := 5, cells := 2, slots := 20, locals := 122 } : Room).cells ({ frames := 5, cells := 2, slots := 20, locals := 122 } : Room).slots) Tj17 (mkF m 38 #[.val (.ref x), .val (.int (Int32.ofNat i)), .val (.int (Int32.ofNat j))] []) := by
      intro f
      induction f with
      | zero =>
        intro j Tj17 ee hj2 b1 Xj17
        refine OEnds.go (fun _ q => XS.iloadN Xj17.here Xj17.hx rfl (hb hby d_prog_38_method_5_38) rfl q) ?_
        show OEnds p e below _ Tj17 (mkF m 39 #[.val (.ref x), .val (.int (Int32.ofNat i)), .val (.int (Int32.ofNat j))] [(.int (Int32.ofNat j))])
        refine OEnds.go (fun _ q => XS.iloadN Xj17.here Xj17.hx rfl (hb hby d_prog_38_method_5_39) rfl q) ?_
        show OEnds p e below _ Tj17 (mkF m 40 #[.val (.ref x), .val (.int (Int32.ofNat i)), .val (.int (Int32.ofNat j))] [(.int (Int32.ofNat i)), (.int (Int32.ofNat j))])
        refine OEnds.go (fun _ q => XS.icmpYes Xj17.here Xj17.hx rfl (pc0 := 40) (pc' := 73) rfl (hb hby d_prog_38_method_5_40) rfl (flt (by rw [ofN_lt (by omega) (by omega)]; omega)).2.2.2 (by decide) (by decide) q) ?_
        show OEnds p e below _ Tj17 (mkF m 73 #[.val (.ref x), .val (.int (Int32.ofNat i)), .val (.int (Int32.ofNat j))] [])
        exact J73 j _ (by omega) hj2 b1 (Or.inl (by omega)) Xj17
      | succ f ih =>
        intro j Tj17 ee hj2 b1 Xj17
        refine OEnds.go (fun _ q => XS.iloadN Xj17.here Xj17.hx rfl (hb hby d_prog_38_method_5_38) rfl q) ?_
        show OEnds p e below _ Tj17 (mkF m 39 #[.val (.ref x), .val (.int (Int32.ofNat i)), .val (.int (Int32.ofNat j))] [(.int (Int32.ofNat j))])
        refine OEnds.go (fun _ q => XS.iloadN Xj17.here Xj17.hx rfl (hb hby d_prog_38_method_5_39) rfl q) ?_
        show OEnds p e below _ Tj17 (mkF m 40 #[.val (.ref x), .val (.int (Int32.ofNat i)), .val (.int (Int32.ofNat j))] [(.int (Int32.ofNat i)), (.int (Int32.ofNat j))])
        refine OEnds.go (fun _ q => XS.icmpNo Xj17.here Xj17.hx rfl (hb hby d_prog_38_method_5_40) rfl (tlt ((ofN_lt (by omega) (by omega)).mpr (by omega))).2.2.2 q) ?_
        show OEnds p e below _ Tj17 (mkF m 43 #[.val (.ref x), .val (.int (Int32.ofNat i)), .val (.int (Int32.ofNat j))] [])
        refine OEnds.go (fun _ q => XS.aloadN Xj17.here Xj17.hx rfl (hb hby d_prog_38_method_5_43) rfl rfl q) ?_
        show OEnds p e below _ Tj17 (mkF m 44 #[.val (.ref x), .val (.int (Int32.ofNat i)), .val (.int (Int32.ofNat j))] [(.ref x)])
        refine OEnds.go (fun _ q => XS.iloadN Xj17.here Xj17.hx rfl (hb hby d_prog_38_method_5_44) rfl q) ?_
        show OEnds p e below _ Tj17 (mkF m 45 #[.val (.ref x), .val (.int (Int32.ofNat i)), .val (.int (Int32.ofNat j))] [(.int (Int32.ofNat j)), (.ref x)])
        refine OEnds.go (fun _ q => XS.iconst Xj17.here Xj17.hx rfl (hb hby d_prog_38_method_5_45) q) ?_
        show OEnds p e below _ Tj17 (mkF m 46 #[.val (.ref x), .val (.int (Int32.ofNat i)), .val (.int (Int32.ofNat j))] [(.int (1 : Int32)), (.int (Int32.ofNat j)), (.ref x)])
        refine OEnds.go (fun _ q => XS.isub Xj17.here Xj17.hx rfl (hb hby d_prog_38_method_5_46) rfl q) ?_
        show OEnds p e below _ Tj17 (mkF m 47 #[.val (.ref x), .val (.int (Int32.ofNat i)), .val (.int (Int32.ofNat j))] [(.int ((Int32.ofNat j) - (1 : Int32))), (.ref x)])
        rw [ofN_sub1 (by omega) (by omega)]
        show OEnds p e below _ Tj17 (mkF m 47 #[.val (.ref x), .val (.int (Int32.ofNat i)), .val (.int (Int32.ofNat j))] [(.int (Int32.ofNat (j - 1))), (.ref x)])
        refine Xj17.payV (own_chr H (W := 0) Xj17.hZ Xj17.old (i := (j - 1)) Sx (by omega) rfl (by decide) (by decide)) (okPure Xj17) (hw _ (List.mem_of_getElem? (i := 73) rfl)) (hw _ (List.mem_of_getElem? (i := 74) rfl)) (hw _ (List.mem_of_getElem? (i := 76) rfl)) (hw _ (List.mem_of_getElem? (i := 75) rfl)) (Xj17.nf (hw _ (List.mem_of_getElem? (i := 76) rfl))) (by decide) Sx.exa (argsL := [(.int (Int32.ofNat (j - 1)))]) (rest := []) rfl (lenOf own_pd10 rfl) rfl (by rw [hml]; rfl) (Nat.le_of_eq rfl) (hb hby d_prog_38_method_5_47) (by decide) (by decide) ?_
        intro v18 T19 h20 L21 X22 q23
        obtain ⟨rfl, -, e24⟩ := q23
        obtain rfl := e24.symm
        show OEnds p e below _ T19 (mkF m 50 #[.val (.ref x), .val (.int (Int32.ofNat i)), .val (.int (Int32.ofNat j))] [(.int (cs.getD (j - 1) 0))])
        refine OEnds.go (fun _ q => XS.bipush X22.here X22.hx rfl (hb hby d_prog_38_method_5_50) q) ?_
        show OEnds p e below _ T19 (mkF m 52 #[.val (.ref x), .val (.int (Int32.ofNat i)), .val (.int (Int32.ofNat j))] [(.int (32 : Int32)), (.int (cs.getD (j - 1) 0))])
        by_cases d1 : (cs.getD (j - 1) 0) = (32 : Int32)
        · skip
          refine OEnds.go (fun _ q => XS.icmpYes X22.here X22.hx rfl (pc0 := 52) (pc' := 67) rfl (hb hby d_prog_38_method_5_52) rfl (teq d1).1 (by decide) (by decide) q) ?_
          show OEnds p e below _ T19 (mkF m 67 #[.val (.ref x), .val (.int (Int32.ofNat i)), .val (.int (Int32.ofNat j))] [])
          refine OEnds.go (fun _ q => XS.iinc X22.here X22.hx rfl (hb hby d_prog_38_method_5_67) rfl (l' := #[.val (.ref x), .val (.int (Int32.ofNat i)), .val (.int ((Int32.ofNat j) + (-1 : Int32)))]) rfl q) ?_
          show OEnds p e below _ T19 (mkF m 70 #[.val (.ref x), .val (.int (Int32.ofNat i)), .val (.int ((Int32.ofNat j) + (-1 : Int32)))] [])
          rw [ofN_pred (by omega) (by omega)]
          show OEnds p e below _ T19 (mkF m 70 #[.val (.ref x), .val (.int (Int32.ofNat i)), .val (.int (Int32.ofNat (j - 1)))] [])
          refine OEnds.go (fun _ q => XS.goto X22.here X22.hx rfl (pc0 := 70) (pc' := 38) rfl (hb hby d_prog_38_method_5_70) (by decide) (by decide) q) ?_
          show OEnds p e below _ T19 (mkF m 38 #[.val (.ref x), .val (.int (Int32.ofNat i)), .val (.int (Int32.ofNat (j - 1)))] [])
          exact ih (j - 1) _ (by omega) (by omega) (fun k q1 q2 => if h : k = j - 1 then h ▸ (Or.inl d1) else b1 k (by omega) q2) X22
        · skip
          refine OEnds.go (fun _ q => XS.icmpNo X22.here X22.hx rfl (hb hby d_prog_38_method_5_52) rfl (feq d1).1 q) ?_
          show OEnds p e below _ T19 (mkF m 55 #[.val (.ref x), .val (.int (Int32.ofNat i)), .val (.int (Int32.ofNat j))] [])
          refine OEnds.go (fun _ q => XS.aloadN X22.here X22.hx rfl (hb hby d_prog_38_method_5_55) rfl rfl q) ?_
          show OEnds p e below _ T19 (mkF m 56 #[.val (.ref x), .val (.int (Int32.ofNat i)), .val (.int (Int32.ofNat j))] [(.ref x)])
          refine OEnds.go (fun _ q => XS.iloadN X22.here X22.hx rfl (hb hby d_prog_38_method_5_56) rfl q) ?_
          show OEnds p e below _ T19 (mkF m 57 #[.val (.ref x), .val (.int (Int32.ofNat i)), .val (.int (Int32.ofNat j))] [(.int (Int32.ofNat j)), (.ref x)])
          refine OEnds.go (fun _ q => XS.iconst X22.here X22.hx rfl (hb hby d_prog_38_method_5_57) q) ?_
          show OEnds p e below _ T19 (mkF m 58 #[.val (.ref x), .val (.int (Int32.ofNat i)), .val (.int (Int32.ofNat j))] [(.int (1 : Int32)), (.int (Int32.ofNat j)), (.ref x)])
          refine OEnds.go (fun _ q => XS.isub X22.here X22.hx rfl (hb hby d_prog_38_method_5_58) rfl q) ?_
          show OEnds p e below _ T19 (mkF m 59 #[.val (.ref x), .val (.int (Int32.ofNat i)), .val (.int (Int32.ofNat j))] [(.int ((Int32.ofNat j) - (1 : Int32))), (.ref x)])
          rw [ofN_sub1 (by omega) (by omega)]
          show OEnds p e below _ T19 (mkF m 59 #[.val (.ref x), .val (.int (Int32.ofNat i)), .val (.int (Int32.ofNat j))] [(.int (Int32.ofNat (j - 1))), (.ref x)])
          refine X22.payV (own_chr H (W := 0) X22.hZ X22.old (i := (j - 1)) Sx (by omega) rfl (by decide) (by decide)) (okPure X22) (hw _ (List.mem_of_getElem? (i := 73) rfl)) (hw _ (List.mem_of_getElem? (i := 74) rfl)) (hw _ (List.mem_of_getElem? (i := 76) rfl)) (hw _ (List.mem_of_getElem? (i := 75) rfl)) (X22.nf (hw _ (List.mem_of_getElem? (i := 76) rfl))) (by decide) Sx.exa (argsL := [(.int (Int32.ofNat (j - 1)))]) (rest := []) rfl (lenOf own_pd10 rfl) rfl (by rw [hml]; rfl) (Nat.le_of_eq rfl) (hb hby d_prog_38_method_5_59) (by decide) (by decide) ?_
          intro v25 T26 h27 L28 X29 q30
          obtain ⟨rfl, -, e31⟩ := q30
          obtain rfl := e31.symm
          show OEnds p e below _ T26 (mkF m 62 #[.val (.ref x), .val (.int (Int32.ofNat i)), .val (.int (Int32.ofNat j))] [(.int (cs.getD (j - 1) 0))])
          refine OEnds.go (fun _ q => XS.bipush X29.here X29.hx rfl (hb hby d_prog_38_method_5_62) q) ?_
          show OEnds p e below _ T26 (mkF m 64 #[.val (.ref x), .val (.int (Int32.ofNat i)), .val (.int (Int32.ofNat j))] [(.int (9 : Int32)), (.int (cs.getD (j - 1) 0))])
          by_cases d2 : (cs.getD (j - 1) 0) = (9 : Int32)
          · skip
            refine OEnds.go (fun _ q => XS.icmpNo X29.here X29.hx rfl (hb hby d_prog_38_method_5_64) rfl (teq d2).2 q) ?_
            show OEnds p e below _ T26 (mkF m 67 #[.val (.ref x), .val (.int (Int32.ofNat i)), .val (.int (Int32.ofNat j))] [])
            refine OEnds.go (fun _ q => XS.iinc X29.here X29.hx rfl (hb hby d_prog_38_method_5_67) rfl (l' := #[.val (.ref x), .val (.int (Int32.ofNat i)), .val (.int ((Int32.ofNat j) + (-1 : Int32)))]) rfl q) ?_
            show OEnds p e below _ T26 (mkF m 70 #[.val (.ref x), .val (.int (Int32.ofNat i)), .val (.int ((Int32.ofNat j) + (-1 : Int32)))] [])
            rw [ofN_pred (by omega) (by omega)]
            show OEnds p e below _ T26 (mkF m 70 #[.val (.ref x), .val (.int (Int32.ofNat i)), .val (.int (Int32.ofNat (j - 1)))] [])
            refine OEnds.go (fun _ q => XS.goto X29.here X29.hx rfl (pc0 := 70) (pc' := 38) rfl (hb hby d_prog_38_method_5_70) (by decide) (by decide) q) ?_
            show OEnds p e below _ T26 (mkF m 38 #[.val (.ref x), .val (.int (Int32.ofNat i)), .val (.int (Int32.ofNat (j - 1)))] [])
            exact ih (j - 1) _ (by omega) (by omega) (fun k q1 q2 => if h : k = j - 1 then h ▸ (Or.inr d2) else b1 k (by omega) q2) X29
          · skip
            refine OEnds.go (fun _ q => XS.icmpYes X29.here X29.hx rfl (pc0 := 64) (pc' := 73) rfl (hb hby d_prog_38_method_5_64) rfl (feq d2).2 (by decide) (by decide) q) ?_
            show OEnds p e below _ T26 (mkF m 73 #[.val (.ref x), .val (.int (Int32.ofNat i)), .val (.int (Int32.ofNat j))] [])
            exact J73 j _ (by omega) hj2 b1 (Or.inr fun q => q.elim d1 d2) X29
    exact loop2 (cs.length - i) cs.length _ (by omega) (Nat.le_refl _) (fun k q1 q2 => absurd q2 (by omega)) Xj8
  have loop1 : ∀ (f i : Nat) (Tj32 : State), i + f = cs.length → (∀ k, k < i → own_B (cs.getD k 0)) → OSt p l e ({ frames := 5, cells := 2, slots := 20, locals := 122 } : Room) s m #[(.ref x)] below meth c "com/example/gatepost/gatepost/edge/MessageHead" Z consts_1 s.vm Tj32 h0 0 0 → OEnds p e below (GW Z consts_1 s (fun r h => ∃ (y : Addr) (i j : Nat), r = some (.ref y) ∧ Ext h0 h ∧ OStr Z h y ((cs.drop i).take (j - i)) ∧ own_trim cs i j) ({ frames := 5, cells := 2, slots := 20, locals := 122 } : Room).cells ({ frames := 5, cells := 2, slots := 20, locals := 122 } : Room).slots) Tj32 (mkF m 7 #[.val (.ref x), .val (.int (Int32.ofNat i)), .val (.int (Int32.ofNat cs.length))] []) := by
    intro f
    induction f with
    | zero =>
      intro i Tj32 ee a1 Xj32
      refine OEnds.go (fun _ q => XS.iloadN Xj32.here Xj32.hx rfl (hb hby d_prog_38_method_5_7) rfl q) ?_
      show OEnds p e below _ Tj32 (mkF m 8 #[.val (.ref x), .val (.int (Int32.ofNat i)), .val (.int (Int32.ofNat cs.length))] [(.int (Int32.ofNat i))])
      refine OEnds.go (fun _ q => XS.iloadN Xj32.here Xj32.hx rfl (hb hby d_prog_38_method_5_8) rfl q) ?_
      show OEnds p e below _ Tj32 (mkF m 9 #[.val (.ref x), .val (.int (Int32.ofNat i)), .val (.int (Int32.ofNat cs.length))] [(.int (Int32.ofNat cs.length)), (.int (Int32.ofNat i))])
      refine OEnds.go (fun _ q => XS.icmpYes Xj32.here Xj32.hx rfl (pc0 := 9) (pc' := 38) rfl (hb hby d_prog_38_method_5_9) rfl (flt (by rw [ofN_lt (by omega) (by omega)]; omega)).2.1 (by decide) (by decide) q) ?_
      show OEnds p e below _ Tj32 (mkF m 38 #[.val (.ref x), .val (.int (Int32.ofNat i)), .val (.int (Int32.ofNat cs.length))] [])
      exact J38 i _ (by omega) a1 (Or.inl (by omega)) Xj32
    | succ f ih =>
      intro i Tj32 ee a1 Xj32
      refine OEnds.go (fun _ q => XS.iloadN Xj32.here Xj32.hx rfl (hb hby d_prog_38_method_5_7) rfl q) ?_
      show OEnds p e below _ Tj32 (mkF m 8 #[.val (.ref x), .val (.int (Int32.ofNat i)), .val (.int (Int32.ofNat cs.length))] [(.int (Int32.ofNat i))])
      refine OEnds.go (fun _ q => XS.iloadN Xj32.here Xj32.hx rfl (hb hby d_prog_38_method_5_8) rfl q) ?_
      show OEnds p e below _ Tj32 (mkF m 9 #[.val (.ref x), .val (.int (Int32.ofNat i)), .val (.int (Int32.ofNat cs.length))] [(.int (Int32.ofNat cs.length)), (.int (Int32.ofNat i))])
      refine OEnds.go (fun _ q => XS.icmpNo Xj32.here Xj32.hx rfl (hb hby d_prog_38_method_5_9) rfl (tlt ((ofN_lt (by omega) (by omega)).mpr (by omega))).2.1 q) ?_
      show OEnds p e below _ Tj32 (mkF m 12 #[.val (.ref x), .val (.int (Int32.ofNat i)), .val (.int (Int32.ofNat cs.length))] [])
      refine OEnds.go (fun _ q => XS.aloadN Xj32.here Xj32.hx rfl (hb hby d_prog_38_method_5_12) rfl rfl q) ?_
      show OEnds p e below _ Tj32 (mkF m 13 #[.val (.ref x), .val (.int (Int32.ofNat i)), .val (.int (Int32.ofNat cs.length))] [(.ref x)])
      refine OEnds.go (fun _ q => XS.iloadN Xj32.here Xj32.hx rfl (hb hby d_prog_38_method_5_13) rfl q) ?_
      show OEnds p e below _ Tj32 (mkF m 14 #[.val (.ref x), .val (.int (Int32.ofNat i)), .val (.int (Int32.ofNat cs.length))] [(.int (Int32.ofNat i)), (.ref x)])
      refine Xj32.payV (own_chr H (W := 0) Xj32.hZ Xj32.old (i := i) Sx (by omega) rfl (by decide) (by decide)) (okPure Xj32) (hw _ (List.mem_of_getElem? (i := 73) rfl)) (hw _ (List.mem_of_getElem? (i := 74) rfl)) (hw _ (List.mem_of_getElem? (i := 76) rfl)) (hw _ (List.mem_of_getElem? (i := 75) rfl)) (Xj32.nf (hw _ (List.mem_of_getElem? (i := 76) rfl))) (by decide) Sx.exa (argsL := [(.int (Int32.ofNat i))]) (rest := []) rfl (lenOf own_pd10 rfl) rfl (by rw [hml]; rfl) (Nat.le_of_eq rfl) (hb hby d_prog_38_method_5_14) (by decide) (by decide) ?_
      intro v33 T34 h35 L36 X37 q38
      obtain ⟨rfl, -, e39⟩ := q38
      obtain rfl := e39.symm
      show OEnds p e below _ T34 (mkF m 17 #[.val (.ref x), .val (.int (Int32.ofNat i)), .val (.int (Int32.ofNat cs.length))] [(.int (cs.getD i 0))])
      refine OEnds.go (fun _ q => XS.bipush X37.here X37.hx rfl (hb hby d_prog_38_method_5_17) q) ?_
      show OEnds p e below _ T34 (mkF m 19 #[.val (.ref x), .val (.int (Int32.ofNat i)), .val (.int (Int32.ofNat cs.length))] [(.int (32 : Int32)), (.int (cs.getD i 0))])
      by_cases d1 : (cs.getD i 0) = (32 : Int32)
      · skip
        refine OEnds.go (fun _ q => XS.icmpYes X37.here X37.hx rfl (pc0 := 19) (pc' := 32) rfl (hb hby d_prog_38_method_5_19) rfl (teq d1).1 (by decide) (by decide) q) ?_
        show OEnds p e below _ T34 (mkF m 32 #[.val (.ref x), .val (.int (Int32.ofNat i)), .val (.int (Int32.ofNat cs.length))] [])
        refine OEnds.go (fun _ q => XS.iinc X37.here X37.hx rfl (hb hby d_prog_38_method_5_32) rfl (l' := #[.val (.ref x), .val (.int ((Int32.ofNat i) + (1 : Int32))), .val (.int (Int32.ofNat cs.length))]) rfl q) ?_
        show OEnds p e below _ T34 (mkF m 35 #[.val (.ref x), .val (.int ((Int32.ofNat i) + (1 : Int32))), .val (.int (Int32.ofNat cs.length))] [])
        rw [ofN_succ (by omega)]
        show OEnds p e below _ T34 (mkF m 35 #[.val (.ref x), .val (.int (Int32.ofNat (i + 1))), .val (.int (Int32.ofNat cs.length))] [])
        refine OEnds.go (fun _ q => XS.goto X37.here X37.hx rfl (pc0 := 35) (pc' := 7) rfl (hb hby d_prog_38_method_5_35) (by decide) (by decide) q) ?_
        show OEnds p e below _ T34 (mkF m 7 #[.val (.ref x), .val (.int (Int32.ofNat (i + 1))), .val (.int (Int32.ofNat cs.length))] [])
        exact ih (i + 1) _ (by omega) (fun k q1 => if h : k = i then h ▸ (Or.inl d1) else a1 k (by omega)) X37
      · skip
        refine OEnds.go (fun _ q => XS.icmpNo X37.here X37.hx rfl (hb hby d_prog_38_method_5_19) rfl (feq d1).1 q) ?_
        show OEnds p e below _ T34 (mkF m 22 #[.val (.ref x), .val (.int (Int32.ofNat i)), .val (.int (Int32.ofNat cs.length))] [])
        refine OEnds.go (fun _ q => XS.aloadN X37.here X37.hx rfl (hb hby d_prog_38_method_5_22) rfl rfl q) ?_
        show OEnds p e below _ T34 (mkF m 23 #[.val (.ref x), .val (.int (Int32.ofNat i)), .val (.int (Int32.ofNat cs.length))] [(.ref x)])
        refine OEnds.go (fun _ q => XS.iloadN X37.here X37.hx rfl (hb hby d_prog_38_method_5_23) rfl q) ?_
        show OEnds p e below _ T34 (mkF m 24 #[.val (.ref x), .val (.int (Int32.ofNat i)), .val (.int (Int32.ofNat cs.length))] [(.int (Int32.ofNat i)), (.ref x)])
        refine X37.payV (own_chr H (W := 0) X37.hZ X37.old (i := i) Sx (by omega) rfl (by decide) (by decide)) (okPure X37) (hw _ (List.mem_of_getElem? (i := 73) rfl)) (hw _ (List.mem_of_getElem? (i := 74) rfl)) (hw _ (List.mem_of_getElem? (i := 76) rfl)) (hw _ (List.mem_of_getElem? (i := 75) rfl)) (X37.nf (hw _ (List.mem_of_getElem? (i := 76) rfl))) (by decide) Sx.exa (argsL := [(.int (Int32.ofNat i))]) (rest := []) rfl (lenOf own_pd10 rfl) rfl (by rw [hml]; rfl) (Nat.le_of_eq rfl) (hb hby d_prog_38_method_5_24) (by decide) (by decide) ?_
        intro v40 T41 h42 L43 X44 q45
        obtain ⟨rfl, -, e46⟩ := q45
        obtain rfl := e46.symm
        show OEnds p e below _ T41 (mkF m 27 #[.val (.ref x), .val (.int (Int32.ofNat i)), .val (.int (Int32.ofNat cs.length))] [(.int (cs.getD i 0))])
        refine OEnds.go (fun _ q => XS.bipush X44.here X44.hx rfl (hb hby d_prog_38_method_5_27) q) ?_
        show OEnds p e below _ T41 (mkF m 29 #[.val (.ref x), .val (.int (Int32.ofNat i)), .val (.int (Int32.ofNat cs.length))] [(.int (9 : Int32)), (.int (cs.getD i 0))])
        by_cases d2 : (cs.getD i 0) = (9 : Int32)
        · skip
          refine OEnds.go (fun _ q => XS.icmpNo X44.here X44.hx rfl (hb hby d_prog_38_method_5_29) rfl (teq d2).2 q) ?_
          show OEnds p e below _ T41 (mkF m 32 #[.val (.ref x), .val (.int (Int32.ofNat i)), .val (.int (Int32.ofNat cs.length))] [])
          refine OEnds.go (fun _ q => XS.iinc X44.here X44.hx rfl (hb hby d_prog_38_method_5_32) rfl (l' := #[.val (.ref x), .val (.int ((Int32.ofNat i) + (1 : Int32))), .val (.int (Int32.ofNat cs.length))]) rfl q) ?_
          show OEnds p e below _ T41 (mkF m 35 #[.val (.ref x), .val (.int ((Int32.ofNat i) + (1 : Int32))), .val (.int (Int32.ofNat cs.length))] [])
          rw [ofN_succ (by omega)]
          show OEnds p e below _ T41 (mkF m 35 #[.val (.ref x), .val (.int (Int32.ofNat (i + 1))), .val (.int (Int32.ofNat cs.length))] [])
          refine OEnds.go (fun _ q => XS.goto X44.here X44.hx rfl (pc0 := 35) (pc' := 7) rfl (hb hby d_prog_38_method_5_35) (by decide) (by decide) q) ?_
          show OEnds p e below _ T41 (mkF m 7 #[.val (.ref x), .val (.int (Int32.ofNat (i + 1))), .val (.int (Int32.ofNat cs.length))] [])
          exact ih (i + 1) _ (by omega) (fun k q1 => if h : k = i then h ▸ (Or.inr d2) else a1 k (by omega)) X44
        · skip
          refine OEnds.go (fun _ q => XS.icmpYes X44.here X44.hx rfl (pc0 := 29) (pc' := 38) rfl (hb hby d_prog_38_method_5_29) rfl (feq d2).2 (by decide) (by decide) q) ?_
          show OEnds p e below _ T41 (mkF m 38 #[.val (.ref x), .val (.int (Int32.ofNat i)), .val (.int (Int32.ofNat cs.length))] [])
          exact J38 i _ (by omega) a1 (Or.inr fun q => q.elim d1 d2) X44
  exact loop1 cs.length 0 _ (by omega) (fun k q => absurd q (Nat.not_lt_zero _)) X5
theorem con_law {l : Launch} {Z : State} {a0 : Array Value} {cz : Int32} {fm : Value} (H : Ctx Z a0 cz fm) (x0 x1 x2 x3 x4 : Int32) (h0 : Heap)  :
    ConX l Z consts_1 x code maxLocals ret tables_1 room_1 #[(.int x0), (.int x1), (.int x2), (.int x3), (.int x4)] h0 (fun r h => r = some (.int 1)) := by
  obtain ⟨hw, hE, S0, hcz, S1, rf⟩ := id H
  refine ConX.of own_pf16 ?_
  intro p e s m below meth c T hby hml hret hlk hnm X0
  have EX0 := ext_refl h0
  refine OEnds.cast (own_ef13 m x0 x1 x2 x3 x4 ) ?_
  show OEnds p e below _ T (mkF m 0 #[.val (.int x0), .val (.int x1), .val (.int x2), .val (.int x3), .val (.int x4), .unset, .unset, .unset, .unset, .unset, .unset, .unset, .unset, .unset, .unset, .unset] [])
  refine OEnds.go (fun _ q => XS.iloadN X0.here X0.hx rfl (hb hby at_0) rfl q) ?_
  show OEnds p e below _ T (mkF m 1 #[.val (.int x0), .val (.int x1), .val (.int x2), .val (.int x3), .val (.int x4), .unset, .unset, .unset, .unset, .unset, .unset, .unset, .unset, .unset, .unset, .unset] [(.int x0)])
  refine X0.ldcI (hw _ (List.mem_of_getElem? (i := 0) rfl)) (hb hby at_1) ?_
  show OEnds p e below _ T (mkF m 3 #[.val (.int x0), .val (.int x1), .val (.int x2), .val (.int x3), .val (.int x4), .unset, .unset, .unset, .unset, .unset, .unset, .unset, .unset, .unset, .unset, .unset] [(.int (2147483647 : Int32)), (.int x0)])
  refine OEnds.go (fun _ q => XS.iand X0.here X0.hx rfl (hb hby at_3) rfl q) ?_
  show OEnds p e below _ T (mkF m 4 #[.val (.int x0), .val (.int x1), .val (.int x2), .val (.int x3), .val (.int x4), .unset, .unset, .unset, .unset, .unset, .unset, .unset, .unset, .unset, .unset, .unset] [(.int (x0 &&& (2147483647 : Int32)))])
  refine OEnds.go (fun _ q => XS.iconst X0.here X0.hx rfl (hb hby at_4) q) ?_
  show OEnds p e below _ T (mkF m 5 #[.val (.int x0), .val (.int x1), .val (.int x2), .val (.int x3), .val (.int x4), .unset, .unset, .unset, .unset, .unset, .unset, .unset, .unset, .unset, .unset, .unset] [(.int (5 : Int32)), (.int (x0 &&& (2147483647 : Int32)))])
  refine OEnds.go (fun _ q => own_irem X0.here X0.hx rfl (hb hby at_5) rfl (by decide) q) ?_
  show OEnds p e below _ T (mkF m 6 #[.val (.int x0), .val (.int x1), .val (.int x2), .val (.int x3), .val (.int x4), .unset, .unset, .unset, .unset, .unset, .unset, .unset, .unset, .unset, .unset, .unset] [(.int ((x0 &&& (2147483647 : Int32)) % (5 : Int32)))])
  obtain ⟨kn, hkn⟩ : ∃ z : Int32, z = ((x0 &&& (2147483647 : Int32)) % (5 : Int32)) := ⟨_, rfl⟩
  rw [← hkn]
  show OEnds p e below _ T (mkF m 6 #[.val (.int x0), .val (.int x1), .val (.int x2), .val (.int x3), .val (.int x4), .unset, .unset, .unset, .unset, .unset, .unset, .unset, .unset, .unset, .unset, .unset] [(.int kn)])
  have hkn5 := own_mod5 hkn
  refine OEnds.go (fun _ q => XS.istore X0.here X0.hx rfl (hb hby at_6) rfl (l' := #[.val (.int x0), .val (.int x1), .val (.int x2), .val (.int x3), .val (.int x4), .val (.int kn), .unset, .unset, .unset, .unset, .unset, .unset, .unset, .unset, .unset, .unset]) rfl q) ?_
  show OEnds p e below _ T (mkF m 8 #[.val (.int x0), .val (.int x1), .val (.int x2), .val (.int x3), .val (.int x4), .val (.int kn), .unset, .unset, .unset, .unset, .unset, .unset, .unset, .unset, .unset, .unset] [])
  refine OEnds.go (fun _ q => XS.iconst X0.here X0.hx rfl (hb hby at_8) q) ?_
  show OEnds p e below _ T (mkF m 9 #[.val (.int x0), .val (.int x1), .val (.int x2), .val (.int x3), .val (.int x4), .val (.int kn), .unset, .unset, .unset, .unset, .unset, .unset, .unset, .unset, .unset, .unset] [(.int (4 : Int32))])
  refine X0.newP (hw _ (List.mem_of_getElem? (i := 1) rfl)) (hb hby at_9) (by decide) (cap := 4) (by decide) (by decide) (by decide) (by decide) ?_
  intro T1 h3 a5 ka5 ga5 X2 E4 Ka5
  have gza5 : Z.heap.size ≤ a5 := ga5 ▸ X0.old.1
  have EX_h3 := ext_trans EX0 E4
  have Ka5_0 : Arv Z h3 a5 ka5 .char (4 : Int32) [.int (0 : Int32), .int (0 : Int32), .int (0 : Int32), .int (0 : Int32)] (.int (0 : Int32)) := Ka5.pad (pad_rep [] (.int (0 : Int32)) 4)
  show OEnds p e below _ T1 (mkF m 11 #[.val (.int x0), .val (.int x1), .val (.int x2), .val (.int x3), .val (.int x4), .val (.int kn), .unset, .unset, .unset, .unset, .unset, .unset, .unset, .unset, .unset, .unset] [(.ref a5)])
  refine OEnds.go (fun _ q => XS.astore X2.here X2.hx rfl (hb hby at_11) rfl rfl (l' := #[.val (.int x0), .val (.int x1), .val (.int x2), .val (.int x3), .val (.int x4), .val (.int kn), .val (.ref a5), .unset, .unset, .unset, .unset, .unset, .unset, .unset, .unset, .unset]) rfl q) ?_
  show OEnds p e below _ T1 (mkF m 13 #[.val (.int x0), .val (.int x1), .val (.int x2), .val (.int x3), .val (.int x4), .val (.int kn), .val (.ref a5), .unset, .unset, .unset, .unset, .unset, .unset, .unset, .unset, .unset] [])
  refine OEnds.go (fun _ q => XS.aload X2.here X2.hx rfl (hb hby at_13) rfl rfl q) ?_
  show OEnds p e below _ T1 (mkF m 15 #[.val (.int x0), .val (.int x1), .val (.int x2), .val (.int x3), .val (.int x4), .val (.int kn), .val (.ref a5), .unset, .unset, .unset, .unset, .unset, .unset, .unset, .unset, .unset] [(.ref a5)])
  refine OEnds.go (fun _ q => XS.iconst X2.here X2.hx rfl (hb hby at_15) q) ?_
  show OEnds p e below _ T1 (mkF m 16 #[.val (.int x0), .val (.int x1), .val (.int x2), .val (.int x3), .val (.int x4), .val (.int kn), .val (.ref a5), .unset, .unset, .unset, .unset, .unset, .unset, .unset, .unset, .unset] [(.int (0 : Int32)), (.ref a5)])
  refine OEnds.go (fun _ q => XS.iloadN X2.here X2.hx rfl (hb hby at_16) rfl q) ?_
  show OEnds p e below _ T1 (mkF m 17 #[.val (.int x0), .val (.int x1), .val (.int x2), .val (.int x3), .val (.int x4), .val (.int kn), .val (.ref a5), .unset, .unset, .unset, .unset, .unset, .unset, .unset, .unset, .unset] [(.int x1), (.int (0 : Int32)), (.ref a5)])
  refine X2.callS hE (con_pick H x1 h3) (hw _ (List.mem_of_getElem? (i := 2) rfl)) (hw _ (List.mem_of_getElem? (i := 3) rfl)) (hw _ (List.mem_of_getElem? (i := 4) rfl)) (hw _ (List.mem_of_getElem? (i := 5) rfl))  (by decide) (W := 2) (by decide) (by decide) (argsL := [(.int x1)]) (rest := [(.int (0 : Int32)), (.ref a5)]) rfl (lenOf own_pd10 rfl) rfl (by rw [hml]; rfl) (Nat.le_of_eq rfl) (hb hby at_17) (by decide) (by decide) ?_
  intro v11 vm9 T6 h8 X7 C10 q12
  obtain ⟨c0, rfl, rfl, hc0⟩ := q12
  show OEnds p e below _ T6 (mkF m 20 #[.val (.int x0), .val (.int x1), .val (.int x2), .val (.int x3), .val (.int x4), .val (.int kn), .val (.ref a5), .unset, .unset, .unset, .unset, .unset, .unset, .unset, .unset, .unset] [(.int c0), (.int (0 : Int32)), (.ref a5)])
  refine X7.stC Ka5_0 (by decide) (up255 hc0) (i := 0) rfl (Nat.le_of_ble_eq_true rfl) gza5 (hb hby at_20) ?_
  intro T13 h15 X14 W16 Ka5_h15x
  have Ka5_h15 : Arv Z h15 a5 ka5 .char (4 : Int32) [.int c0, .int (0 : Int32), .int (0 : Int32), .int (0 : Int32)] (.int (0 : Int32)) := Ka5_h15x
  have EBa5_h15 := ext_wr E4 W16 (Nat.le_of_eq ga5)
  have EX_h15 := ext_wr EX_h3 W16 (Nat.le_trans EX0.1 (Nat.le_of_eq ga5))
  show OEnds p e below _ T13 (mkF m 21 #[.val (.int x0), .val (.int x1), .val (.int x2), .val (.int x3), .val (.int x4), .val (.int kn), .val (.ref a5), .unset, .unset, .unset, .unset, .unset, .unset, .unset, .unset, .unset] [])
  refine OEnds.go (fun _ q => XS.aload X14.here X14.hx rfl (hb hby at_21) rfl rfl q) ?_
  show OEnds p e below _ T13 (mkF m 23 #[.val (.int x0), .val (.int x1), .val (.int x2), .val (.int x3), .val (.int x4), .val (.int kn), .val (.ref a5), .unset, .unset, .unset, .unset, .unset, .unset, .unset, .unset, .unset] [(.ref a5)])
  refine OEnds.go (fun _ q => XS.iconst X14.here X14.hx rfl (hb hby at_23) q) ?_
  show OEnds p e below _ T13 (mkF m 24 #[.val (.int x0), .val (.int x1), .val (.int x2), .val (.int x3), .val (.int x4), .val (.int kn), .val (.ref a5), .unset, .unset, .unset, .unset, .unset, .unset, .unset, .unset, .unset] [(.int (1 : Int32)), (.ref a5)])
  refine OEnds.go (fun _ q => XS.iloadN X14.here X14.hx rfl (hb hby at_24) rfl q) ?_
  show OEnds p e below _ T13 (mkF m 25 #[.val (.int x0), .val (.int x1), .val (.int x2), .val (.int x3), .val (.int x4), .val (.int kn), .val (.ref a5), .unset, .unset, .unset, .unset, .unset, .unset, .unset, .unset, .unset] [(.int x2), (.int (1 : Int32)), (.ref a5)])
  refine X14.callS hE (con_pick H x2 h15) (hw _ (List.mem_of_getElem? (i := 2) rfl)) (hw _ (List.mem_of_getElem? (i := 3) rfl)) (hw _ (List.mem_of_getElem? (i := 4) rfl)) (hw _ (List.mem_of_getElem? (i := 5) rfl))  (by decide) (W := 2) (by decide) (by decide) (argsL := [(.int x2)]) (rest := [(.int (1 : Int32)), (.ref a5)]) rfl (lenOf own_pd10 rfl) rfl (by rw [hml]; rfl) (Nat.le_of_eq rfl) (hb hby at_25) (by decide) (by decide) ?_
  intro v22 vm20 T17 h19 X18 C21 q23
  obtain ⟨c1, rfl, rfl, hc1⟩ := q23
  show OEnds p e below _ T17 (mkF m 28 #[.val (.int x0), .val (.int x1), .val (.int x2), .val (.int x3), .val (.int x4), .val (.int kn), .val (.ref a5), .unset, .unset, .unset, .unset, .unset, .unset, .unset, .unset, .unset] [(.int c1), (.int (1 : Int32)), (.ref a5)])
  refine X18.stC Ka5_h15 (by decide) (up255 hc1) (i := 1) rfl (Nat.le_of_ble_eq_true rfl) gza5 (hb hby at_28) ?_
  intro T24 h26 X25 W27 Ka5_h26x
  have Ka5_h26 : Arv Z h26 a5 ka5 .char (4 : Int32) [.int c0, .int c1, .int (0 : Int32), .int (0 : Int32)] (.int (0 : Int32)) := Ka5_h26x
  have EBa5_h26 := ext_wr EBa5_h15 W27 (Nat.le_of_eq ga5)
  have EX_h26 := ext_wr EX_h15 W27 (Nat.le_trans EX0.1 (Nat.le_of_eq ga5))
  show OEnds p e below _ T24 (mkF m 29 #[.val (.int x0), .val (.int x1), .val (.int x2), .val (.int x3), .val (.int x4), .val (.int kn), .val (.ref a5), .unset, .unset, .unset, .unset, .unset, .unset, .unset, .unset, .unset] [])
  refine OEnds.go (fun _ q => XS.aload X25.here X25.hx rfl (hb hby at_29) rfl rfl q) ?_
  show OEnds p e below _ T24 (mkF m 31 #[.val (.int x0), .val (.int x1), .val (.int x2), .val (.int x3), .val (.int x4), .val (.int kn), .val (.ref a5), .unset, .unset, .unset, .unset, .unset, .unset, .unset, .unset, .unset] [(.ref a5)])
  refine OEnds.go (fun _ q => XS.iconst X25.here X25.hx rfl (hb hby at_31) q) ?_
  show OEnds p e below _ T24 (mkF m 32 #[.val (.int x0), .val (.int x1), .val (.int x2), .val (.int x3), .val (.int x4), .val (.int kn), .val (.ref a5), .unset, .unset, .unset, .unset, .unset, .unset, .unset, .unset, .unset] [(.int (2 : Int32)), (.ref a5)])
  refine OEnds.go (fun _ q => XS.iloadN X25.here X25.hx rfl (hb hby at_32) rfl q) ?_
  show OEnds p e below _ T24 (mkF m 33 #[.val (.int x0), .val (.int x1), .val (.int x2), .val (.int x3), .val (.int x4), .val (.int kn), .val (.ref a5), .unset, .unset, .unset, .unset, .unset, .unset, .unset, .unset, .unset] [(.int x3), (.int (2 : Int32)), (.ref a5)])
  refine X25.callS hE (con_pick H x3 h26) (hw _ (List.mem_of_getElem? (i := 2) rfl)) (hw _ (List.mem_of_getElem? (i := 3) rfl)) (hw _ (List.mem_of_getElem? (i := 4) rfl)) (hw _ (List.mem_of_getElem? (i := 5) rfl))  (by decide) (W := 2) (by decide) (by decide) (argsL := [(.int x3)]) (rest := [(.int (2 : Int32)), (.ref a5)]) rfl (lenOf own_pd10 rfl) rfl (by rw [hml]; rfl) (Nat.le_of_eq rfl) (hb hby at_33) (by decide) (by decide) ?_
  intro v33 vm31 T28 h30 X29 C32 q34
  obtain ⟨c2, rfl, rfl, hc2⟩ := q34
  show OEnds p e below _ T28 (mkF m 36 #[.val (.int x0), .val (.int x1), .val (.int x2), .val (.int x3), .val (.int x4), .val (.int kn), .val (.ref a5), .unset, .unset, .unset, .unset, .unset, .unset, .unset, .unset, .unset] [(.int c2), (.int (2 : Int32)), (.ref a5)])
  refine X29.stC Ka5_h26 (by decide) (up255 hc2) (i := 2) rfl (Nat.le_of_ble_eq_true rfl) gza5 (hb hby at_36) ?_
  intro T35 h37 X36 W38 Ka5_h37x
  have Ka5_h37 : Arv Z h37 a5 ka5 .char (4 : Int32) [.int c0, .int c1, .int c2, .int (0 : Int32)] (.int (0 : Int32)) := Ka5_h37x
  have EBa5_h37 := ext_wr EBa5_h26 W38 (Nat.le_of_eq ga5)
  have EX_h37 := ext_wr EX_h26 W38 (Nat.le_trans EX0.1 (Nat.le_of_eq ga5))
  show OEnds p e below _ T35 (mkF m 37 #[.val (.int x0), .val (.int x1), .val (.int x2), .val (.int x3), .val (.int x4), .val (.int kn), .val (.ref a5), .unset, .unset, .unset, .unset, .unset, .unset, .unset, .unset, .unset] [])
  refine OEnds.go (fun _ q => XS.aload X36.here X36.hx rfl (hb hby at_37) rfl rfl q) ?_
  show OEnds p e below _ T35 (mkF m 39 #[.val (.int x0), .val (.int x1), .val (.int x2), .val (.int x3), .val (.int x4), .val (.int kn), .val (.ref a5), .unset, .unset, .unset, .unset, .unset, .unset, .unset, .unset, .unset] [(.ref a5)])
  refine OEnds.go (fun _ q => XS.iconst X36.here X36.hx rfl (hb hby at_39) q) ?_
  show OEnds p e below _ T35 (mkF m 40 #[.val (.int x0), .val (.int x1), .val (.int x2), .val (.int x3), .val (.int x4), .val (.int kn), .val (.ref a5), .unset, .unset, .unset, .unset, .unset, .unset, .unset, .unset, .unset] [(.int (3 : Int32)), (.ref a5)])
  refine OEnds.go (fun _ q => XS.iload X36.here X36.hx rfl (hb hby at_40) rfl q) ?_
  show OEnds p e below _ T35 (mkF m 42 #[.val (.int x0), .val (.int x1), .val (.int x2), .val (.int x3), .val (.int x4), .val (.int kn), .val (.ref a5), .unset, .unset, .unset, .unset, .unset, .unset, .unset, .unset, .unset] [(.int x4), (.int (3 : Int32)), (.ref a5)])
  refine X36.callS hE (con_pick H x4 h37) (hw _ (List.mem_of_getElem? (i := 2) rfl)) (hw _ (List.mem_of_getElem? (i := 3) rfl)) (hw _ (List.mem_of_getElem? (i := 4) rfl)) (hw _ (List.mem_of_getElem? (i := 5) rfl))  (by decide) (W := 2) (by decide) (by decide) (argsL := [(.int x4)]) (rest := [(.int (3 : Int32)), (.ref a5)]) rfl (lenOf own_pd10 rfl) rfl (by rw [hml]; rfl) (Nat.le_of_eq rfl) (hb hby at_42) (by decide) (by decide) ?_
  intro v44 vm42 T39 h41 X40 C43 q45
  obtain ⟨c3, rfl, rfl, hc3⟩ := q45
  show OEnds p e below _ T39 (mkF m 45 #[.val (.int x0), .val (.int x1), .val (.int x2), .val (.int x3), .val (.int x4), .val (.int kn), .val (.ref a5), .unset, .unset, .unset, .unset, .unset, .unset, .unset, .unset, .unset] [(.int c3), (.int (3 : Int32)), (.ref a5)])
  refine X40.stC Ka5_h37 (by decide) (up255 hc3) (i := 3) rfl (Nat.le_of_ble_eq_true rfl) gza5 (hb hby at_45) ?_
  intro T46 h48 X47 W49 Ka5_h48x
  have Ka5_h48 : Arv Z h48 a5 ka5 .char (4 : Int32) [.int c0, .int c1, .int c2, .int c3] (.int (0 : Int32)) := Ka5_h48x
  have EBa5_h48 := ext_wr EBa5_h37 W49 (Nat.le_of_eq ga5)
  have EX_h48 := ext_wr EX_h37 W49 (Nat.le_trans EX0.1 (Nat.le_of_eq ga5))
  show OEnds p e below _ T46 (mkF m 46 #[.val (.int x0), .val (.int x1), .val (.int x2), .val (.int x3), .val (.int x4), .val (.int kn), .val (.ref a5), .unset, .unset, .unset, .unset, .unset, .unset, .unset, .unset, .unset] [])
  refine OEnds.go (fun _ q => XS.iload X47.here X47.hx rfl (hb hby at_46) rfl q) ?_
  show OEnds p e below _ T46 (mkF m 48 #[.val (.int x0), .val (.int x1), .val (.int x2), .val (.int x3), .val (.int x4), .val (.int kn), .val (.ref a5), .unset, .unset, .unset, .unset, .unset, .unset, .unset, .unset, .unset] [(.int kn)])
  have J : ∀ (vmj51 : Vm) (Tj51 : State) (hj51 : Heap) (tx : Addr), OSt p l e room_1 s m #[(.int x0), (.int x1), (.int x2), (.int x3), (.int x4)] below meth c "com/example/gatepost/gatepost/edge/MessageHeadTrimmedPinLaw" Z consts_1 vmj51 Tj51 hj51 7 16 → Arv Z hj51 a5 ka5 .char (4 : Int32) [.int c0, .int c1, .int c2, .int c3] (.int (0 : Int32)) → OStr Z hj51 tx (own_t5 kn c0 c1 c2 c3) → OEnds p e below (GW Z consts_1 s (fun r h => r = some (.int 1)) room_1.cells room_1.slots) Tj51 (mkF m 211 #[.val (.int x0), .val (.int x1), .val (.int x2), .val (.int x3), .val (.int x4), .val (.int kn), .val (.ref a5), .val (.ref tx), .unset, .unset, .unset, .unset, .unset, .unset, .unset, .unset] []) := by
    intro vmj51 Tj51 hj51 tx Xj51 f50_0 f50_1
    refine OEnds.go (fun _ q => XS.iconst Xj51.here Xj51.hx rfl (hb hby at_211) q) ?_
    show OEnds p e below _ Tj51 (mkF m 212 #[.val (.int x0), .val (.int x1), .val (.int x2), .val (.int x3), .val (.int x4), .val (.int kn), .val (.ref a5), .val (.ref tx), .unset, .unset, .unset, .unset, .unset, .unset, .unset, .unset] [(.int (0 : Int32))])
    refine OEnds.go (fun _ q => XS.iload Xj51.here Xj51.hx rfl (hb hby at_212) rfl q) ?_
    show OEnds p e below _ Tj51 (mkF m 214 #[.val (.int x0), .val (.int x1), .val (.int x2), .val (.int x3), .val (.int x4), .val (.int kn), .val (.ref a5), .val (.ref tx), .unset, .unset, .unset, .unset, .unset, .unset, .unset, .unset] [(.int kn), (.int (0 : Int32))])
    have JB0 : ∀ (vmj53 : Vm) (Tj53 : State) (hj53 : Heap) (b0 : Int32), OSt p l e room_1 s m #[(.int x0), (.int x1), (.int x2), (.int x3), (.int x4)] below meth c "com/example/gatepost/gatepost/edge/MessageHeadTrimmedPinLaw" Z consts_1 vmj53 Tj53 hj53 7 16 → Arv Z hj53 a5 ka5 .char (4 : Int32) [.int c0, .int c1, .int c2, .int c3] (.int (0 : Int32)) → OStr Z hj53 tx (own_t5 kn c0 c1 c2 c3) → b0 = own_nb 0 kn c0 → OEnds p e below (GW Z consts_1 s (fun r h => r = some (.int 1)) room_1.cells room_1.slots) Tj53 (mkF m 232 #[.val (.int x0), .val (.int x1), .val (.int x2), .val (.int x3), .val (.int x4), .val (.int kn), .val (.ref a5), .val (.ref tx), .unset, .unset, .unset, .unset, .unset, .unset, .unset, .unset] [(.int b0)]) := by
      intro vmj53 Tj53 hj53 b0 Xj53 f52_0 f52_1 hb0
      refine OEnds.go (fun _ q => XS.istore Xj53.here Xj53.hx rfl (hb hby at_232) rfl (l' := #[.val (.int x0), .val (.int x1), .val (.int x2), .val (.int x3), .val (.int x4), .val (.int kn), .val (.ref a5), .val (.ref tx), .val (.int b0), .unset, .unset, .unset, .unset, .unset, .unset, .unset]) rfl q) ?_
      show OEnds p e below _ Tj53 (mkF m 234 #[.val (.int x0), .val (.int x1), .val (.int x2), .val (.int x3), .val (.int x4), .val (.int kn), .val (.ref a5), .val (.ref tx), .val (.int b0), .unset, .unset, .unset, .unset, .unset, .unset, .unset] [])
      refine OEnds.go (fun _ q => XS.iconst Xj53.here Xj53.hx rfl (hb hby at_234) q) ?_
      show OEnds p e below _ Tj53 (mkF m 235 #[.val (.int x0), .val (.int x1), .val (.int x2), .val (.int x3), .val (.int x4), .val (.int kn), .val (.ref a5), .val (.ref tx), .val (.int b0), .unset, .unset, .unset, .unset, .unset, .unset, .unset] [(.int (1 : Int32))])
      refine OEnds.go (fun _ q => XS.iload Xj53.here Xj53.hx rfl (hb hby at_235) rfl q) ?_
      show OEnds p e below _ Tj53 (mkF m 237 #[.val (.int x0), .val (.int x1), .val (.int x2), .val (.int x3), .val (.int x4), .val (.int kn), .val (.ref a5), .val (.ref tx), .val (.int b0), .unset, .unset, .unset, .unset, .unset, .unset, .unset] [(.int kn), (.int (1 : Int32))])
      have JB1 : ∀ (vmj55 : Vm) (Tj55 : State) (hj55 : Heap) (b1 : Int32), OSt p l e room_1 s m #[(.int x0), (.int x1), (.int x2), (.int x3), (.int x4)] below meth c "com/example/gatepost/gatepost/edge/MessageHeadTrimmedPinLaw" Z consts_1 vmj55 Tj55 hj55 7 16 → Arv Z hj55 a5 ka5 .char (4 : Int32) [.int c0, .int c1, .int c2, .int c3] (.int (0 : Int32)) → OStr Z hj55 tx (own_t5 kn c0 c1 c2 c3) → b1 = own_nb 1 kn c1 → OEnds p e below (GW Z consts_1 s (fun r h => r = some (.int 1)) room_1.cells room_1.slots) Tj55 (mkF m 255 #[.val (.int x0), .val (.int x1), .val (.int x2), .val (.int x3), .val (.int x4), .val (.int kn), .val (.ref a5), .val (.ref tx), .val (.int b0), .unset, .unset, .unset, .unset, .unset, .unset, .unset] [(.int b1)]) := by
        intro vmj55 Tj55 hj55 b1 Xj55 f54_0 f54_1 hb1
        refine OEnds.go (fun _ q => XS.istore Xj55.here Xj55.hx rfl (hb hby at_255) rfl (l' := #[.val (.int x0), .val (.int x1), .val (.int x2), .val (.int x3), .val (.int x4), .val (.int kn), .val (.ref a5), .val (.ref tx), .val (.int b0), .val (.int b1), .unset, .unset, .unset, .unset, .unset, .unset]) rfl q) ?_
        show OEnds p e below _ Tj55 (mkF m 257 #[.val (.int x0), .val (.int x1), .val (.int x2), .val (.int x3), .val (.int x4), .val (.int kn), .val (.ref a5), .val (.ref tx), .val (.int b0), .val (.int b1), .unset, .unset, .unset, .unset, .unset, .unset] [])
        refine OEnds.go (fun _ q => XS.iconst Xj55.here Xj55.hx rfl (hb hby at_257) q) ?_
        show OEnds p e below _ Tj55 (mkF m 258 #[.val (.int x0), .val (.int x1), .val (.int x2), .val (.int x3), .val (.int x4), .val (.int kn), .val (.ref a5), .val (.ref tx), .val (.int b0), .val (.int b1), .unset, .unset, .unset, .unset, .unset, .unset] [(.int (2 : Int32))])
        refine OEnds.go (fun _ q => XS.iload Xj55.here Xj55.hx rfl (hb hby at_258) rfl q) ?_
        show OEnds p e below _ Tj55 (mkF m 260 #[.val (.int x0), .val (.int x1), .val (.int x2), .val (.int x3), .val (.int x4), .val (.int kn), .val (.ref a5), .val (.ref tx), .val (.int b0), .val (.int b1), .unset, .unset, .unset, .unset, .unset, .unset] [(.int kn), (.int (2 : Int32))])
        have JB2 : ∀ (vmj57 : Vm) (Tj57 : State) (hj57 : Heap) (b2 : Int32), OSt p l e room_1 s m #[(.int x0), (.int x1), (.int x2), (.int x3), (.int x4)] below meth c "com/example/gatepost/gatepost/edge/MessageHeadTrimmedPinLaw" Z consts_1 vmj57 Tj57 hj57 7 16 → Arv Z hj57 a5 ka5 .char (4 : Int32) [.int c0, .int c1, .int c2, .int c3] (.int (0 : Int32)) → OStr Z hj57 tx (own_t5 kn c0 c1 c2 c3) → b2 = own_nb 2 kn c2 → OEnds p e below (GW Z consts_1 s (fun r h => r = some (.int 1)) room_1.cells room_1.slots) Tj57 (mkF m 278 #[.val (.int x0), .val (.int x1), .val (.int x2), .val (.int x3), .val (.int x4), .val (.int kn), .val (.ref a5), .val (.ref tx), .val (.int b0), .val (.int b1), .unset, .unset, .unset, .unset, .unset, .unset] [(.int b2)]) := by
          intro vmj57 Tj57 hj57 b2 Xj57 f56_0 f56_1 hb2
          refine OEnds.go (fun _ q => XS.istore Xj57.here Xj57.hx rfl (hb hby at_278) rfl (l' := #[.val (.int x0), .val (.int x1), .val (.int x2), .val (.int x3), .val (.int x4), .val (.int kn), .val (.ref a5), .val (.ref tx), .val (.int b0), .val (.int b1), .val (.int b2), .unset, .unset, .unset, .unset, .unset]) rfl q) ?_
          show OEnds p e below _ Tj57 (mkF m 280 #[.val (.int x0), .val (.int x1), .val (.int x2), .val (.int x3), .val (.int x4), .val (.int kn), .val (.ref a5), .val (.ref tx), .val (.int b0), .val (.int b1), .val (.int b2), .unset, .unset, .unset, .unset, .unset] [])
          refine OEnds.go (fun _ q => XS.iconst Xj57.here Xj57.hx rfl (hb hby at_280) q) ?_
          show OEnds p e below _ Tj57 (mkF m 281 #[.val (.int x0), .val (.int x1), .val (.int x2), .val (.int x3), .val (.int x4), .val (.int kn), .val (.ref a5), .val (.ref tx), .val (.int b0), .val (.int b1), .val (.int b2), .unset, .unset, .unset, .unset, .unset] [(.int (3 : Int32))])
          refine OEnds.go (fun _ q => XS.iload Xj57.here Xj57.hx rfl (hb hby at_281) rfl q) ?_
          show OEnds p e below _ Tj57 (mkF m 283 #[.val (.int x0), .val (.int x1), .val (.int x2), .val (.int x3), .val (.int x4), .val (.int kn), .val (.ref a5), .val (.ref tx), .val (.int b0), .val (.int b1), .val (.int b2), .unset, .unset, .unset, .unset, .unset] [(.int kn), (.int (3 : Int32))])
          have JB3 : ∀ (vmj59 : Vm) (Tj59 : State) (hj59 : Heap) (b3 : Int32), OSt p l e room_1 s m #[(.int x0), (.int x1), (.int x2), (.int x3), (.int x4)] below meth c "com/example/gatepost/gatepost/edge/MessageHeadTrimmedPinLaw" Z consts_1 vmj59 Tj59 hj59 7 16 → Arv Z hj59 a5 ka5 .char (4 : Int32) [.int c0, .int c1, .int c2, .int c3] (.int (0 : Int32)) → OStr Z hj59 tx (own_t5 kn c0 c1 c2 c3) → b3 = own_nb 3 kn c3 → OEnds p e below (GW Z consts_1 s (fun r h => r = some (.int 1)) room_1.cells room_1.slots) Tj59 (mkF m 301 #[.val (.int x0), .val (.int x1), .val (.int x2), .val (.int x3), .val (.int x4), .val (.int kn), .val (.ref a5), .val (.ref tx), .val (.int b0), .val (.int b1), .val (.int b2), .unset, .unset, .unset, .unset, .unset] [(.int b3)]) := by
            intro vmj59 Tj59 hj59 b3 Xj59 f58_0 f58_1 hb3
            refine OEnds.go (fun _ q => XS.istore Xj59.here Xj59.hx rfl (hb hby at_301) rfl (l' := #[.val (.int x0), .val (.int x1), .val (.int x2), .val (.int x3), .val (.int x4), .val (.int kn), .val (.ref a5), .val (.ref tx), .val (.int b0), .val (.int b1), .val (.int b2), .val (.int b3), .unset, .unset, .unset, .unset]) rfl q) ?_
            show OEnds p e below _ Tj59 (mkF m 303 #[.val (.int x0), .val (.int x1), .val (.int x2), .val (.int x3), .val (.int x4), .val (.int kn), .val (.ref a5), .val (.ref tx), .val (.int b0), .val (.int b1), .val (.int b2), .val (.int b3), .unset, .unset, .unset, .unset] [])
            refine OEnds.go (fun _ q => XS.iload Xj59.here Xj59.hx rfl (hb hby at_303) rfl q) ?_
            show OEnds p e below _ Tj59 (mkF m 305 #[.val (.int x0), .val (.int x1), .val (.int x2), .val (.int x3), .val (.int x4), .val (.int kn), .val (.ref a5), .val (.ref tx), .val (.int b0), .val (.int b1), .val (.int b2), .val (.int b3), .unset, .unset, .unset, .unset] [(.int b0)])
            have JS : ∀ (sv : Int32), sv = own_sv b0 b1 b2 b3 → OEnds p e below (GW Z consts_1 s (fun r h => r = some (.int 1)) room_1.cells room_1.slots) Tj59 (mkF m 350 #[.val (.int x0), .val (.int x1), .val (.int x2), .val (.int x3), .val (.int x4), .val (.int kn), .val (.ref a5), .val (.ref tx), .val (.int b0), .val (.int b1), .val (.int b2), .val (.int b3), .val (.int sv), .unset, .unset, .unset] []) := by
              intro sv hsv
              refine OEnds.go (fun _ q => XS.iload Xj59.here Xj59.hx rfl (hb hby at_350) rfl q) ?_
              show OEnds p e below _ Tj59 (mkF m 352 #[.val (.int x0), .val (.int x1), .val (.int x2), .val (.int x3), .val (.int x4), .val (.int kn), .val (.ref a5), .val (.ref tx), .val (.int b0), .val (.int b1), .val (.int b2), .val (.int b3), .val (.int sv), .unset, .unset, .unset] [(.int b3)])
              have JE : ∀ (ev : Int32), ev = own_ev b0 b1 b2 b3 → OEnds p e below (GW Z consts_1 s (fun r h => r = some (.int 1)) room_1.cells room_1.slots) Tj59 (mkF m 397 #[.val (.int x0), .val (.int x1), .val (.int x2), .val (.int x3), .val (.int x4), .val (.int kn), .val (.ref a5), .val (.ref tx), .val (.int b0), .val (.int b1), .val (.int b2), .val (.int b3), .val (.int sv), .val (.int ev), .unset, .unset] []) := by
                intro ev hev
                rw [hb0, hb1, hb2, hb3] at hsv hev
                refine OEnds.go (fun _ q => XS.iload Xj59.here Xj59.hx rfl (hb hby at_397) rfl q) ?_
                show OEnds p e below _ Tj59 (mkF m 399 #[.val (.int x0), .val (.int x1), .val (.int x2), .val (.int x3), .val (.int x4), .val (.int kn), .val (.ref a5), .val (.ref tx), .val (.int b0), .val (.int b1), .val (.int b2), .val (.int b3), .val (.int sv), .val (.int ev), .unset, .unset] [(.int ev)])
                refine OEnds.go (fun _ q => XS.iload Xj59.here Xj59.hx rfl (hb hby at_399) rfl q) ?_
                show OEnds p e below _ Tj59 (mkF m 401 #[.val (.int x0), .val (.int x1), .val (.int x2), .val (.int x3), .val (.int x4), .val (.int kn), .val (.ref a5), .val (.ref tx), .val (.int b0), .val (.int b1), .val (.int b2), .val (.int b3), .val (.int sv), .val (.int ev), .unset, .unset] [(.int sv), (.int ev)])
                refine OEnds.go (fun _ q => XS.isub Xj59.here Xj59.hx rfl (hb hby at_401) rfl q) ?_
                show OEnds p e below _ Tj59 (mkF m 402 #[.val (.int x0), .val (.int x1), .val (.int x2), .val (.int x3), .val (.int x4), .val (.int kn), .val (.ref a5), .val (.ref tx), .val (.int b0), .val (.int b1), .val (.int b2), .val (.int b3), .val (.int sv), .val (.int ev), .unset, .unset] [(.int (ev - sv))])
                refine OEnds.go (fun _ q => XS.istore Xj59.here Xj59.hx rfl (hb hby at_402) rfl (l' := #[.val (.int x0), .val (.int x1), .val (.int x2), .val (.int x3), .val (.int x4), .val (.int kn), .val (.ref a5), .val (.ref tx), .val (.int b0), .val (.int b1), .val (.int b2), .val (.int b3), .val (.int sv), .val (.int ev), .val (.int (ev - sv)), .unset]) rfl q) ?_
                show OEnds p e below _ Tj59 (mkF m 404 #[.val (.int x0), .val (.int x1), .val (.int x2), .val (.int x3), .val (.int x4), .val (.int kn), .val (.ref a5), .val (.ref tx), .val (.int b0), .val (.int b1), .val (.int b2), .val (.int b3), .val (.int sv), .val (.int ev), .val (.int (ev - sv)), .unset] [])
                refine OEnds.go (fun _ q => XS.aload Xj59.here Xj59.hx rfl (hb hby at_404) rfl rfl q) ?_
                show OEnds p e below _ Tj59 (mkF m 406 #[.val (.int x0), .val (.int x1), .val (.int x2), .val (.int x3), .val (.int x4), .val (.int kn), .val (.ref a5), .val (.ref tx), .val (.int b0), .val (.int b1), .val (.int b2), .val (.int b3), .val (.int sv), .val (.int ev), .val (.int (ev - sv)), .unset] [(.ref tx)])
                refine Xj59.callS hE (con_trim H tx _ (own_t5_le hkn5) hj59 f58_1) (hw _ (List.mem_of_getElem? (i := 27) rfl)) (hw _ (List.mem_of_getElem? (i := 28) rfl)) (hw _ (List.mem_of_getElem? (i := 29) rfl)) (hw _ (List.mem_of_getElem? (i := 30) rfl))  (by decide) (W := 0) (by decide) (by decide) (argsL := [(.ref tx)]) (rest := []) rfl (lenOf own_pd12 rfl) rfl (by rw [hml]; rfl) (Nat.le_of_eq rfl) (hb hby at_406) (by decide) (by decide) ?_
                intro v65 vm63 T60 h62 X61 C64 q66
                obtain ⟨yy, i, j, rfl, Ey, Sy, ht⟩ := q66
                have f58_0_h62 := f58_0.ext Ey
                have f58_1_h62 := f58_1.ext Ey
                show OEnds p e below _ T60 (mkF m 409 #[.val (.int x0), .val (.int x1), .val (.int x2), .val (.int x3), .val (.int x4), .val (.int kn), .val (.ref a5), .val (.ref tx), .val (.int b0), .val (.int b1), .val (.int b2), .val (.int b3), .val (.int sv), .val (.int ev), .val (.int (ev - sv)), .unset] [(.ref yy)])
                obtain ⟨hf1, hf2⟩ := own_fin hkn5 ht hsv hev
                refine OEnds.go (fun _ q => XS.astore X61.here X61.hx rfl (hb hby at_409) rfl rfl (l' := #[.val (.int x0), .val (.int x1), .val (.int x2), .val (.int x3), .val (.int x4), .val (.int kn), .val (.ref a5), .val (.ref tx), .val (.int b0), .val (.int b1), .val (.int b2), .val (.int b3), .val (.int sv), .val (.int ev), .val (.int (ev - sv)), .val (.ref yy)]) rfl q) ?_
                show OEnds p e below _ T60 (mkF m 411 #[.val (.int x0), .val (.int x1), .val (.int x2), .val (.int x3), .val (.int x4), .val (.int kn), .val (.ref a5), .val (.ref tx), .val (.int b0), .val (.int b1), .val (.int b2), .val (.int b3), .val (.int sv), .val (.int ev), .val (.int (ev - sv)), .val (.ref yy)] [])
                refine OEnds.go (fun _ q => XS.aload X61.here X61.hx rfl (hb hby at_411) rfl rfl q) ?_
                show OEnds p e below _ T60 (mkF m 413 #[.val (.int x0), .val (.int x1), .val (.int x2), .val (.int x3), .val (.int x4), .val (.int kn), .val (.ref a5), .val (.ref tx), .val (.int b0), .val (.int b1), .val (.int b2), .val (.int b3), .val (.int sv), .val (.int ev), .val (.int (ev - sv)), .val (.ref yy)] [(.ref yy)])
                refine X61.payV (own_len H (W := 0) X61.hZ X61.old Sy (by decide) (by decide)) (okPure X61) (hw _ (List.mem_of_getElem? (i := 56) rfl)) (hw _ (List.mem_of_getElem? (i := 32) rfl)) (hw _ (List.mem_of_getElem? (i := 34) rfl)) (hw _ (List.mem_of_getElem? (i := 33) rfl)) (X61.nf (hw _ (List.mem_of_getElem? (i := 34) rfl))) (by decide) Sy.exa (argsL := []) (rest := []) rfl (lenOf own_pd6 rfl) rfl (by rw [hml]; rfl) (Nat.le_of_eq rfl) (hb hby at_413) (by decide) (by decide) ?_
                intro v67 T68 h69 L70 X71 q72
                obtain ⟨rfl, -, e73⟩ := q72
                obtain rfl := e73.symm
                show OEnds p e below _ T68 (mkF m 416 #[.val (.int x0), .val (.int x1), .val (.int x2), .val (.int x3), .val (.int x4), .val (.int kn), .val (.ref a5), .val (.ref tx), .val (.int b0), .val (.int b1), .val (.int b2), .val (.int b3), .val (.int sv), .val (.int ev), .val (.int (ev - sv)), .val (.ref yy)] [(.int (Int32.ofNat (((own_t5 kn c0 c1 c2 c3).drop i).take (j - i)).length))])
                refine OEnds.go (fun _ q => XS.iload X71.here X71.hx rfl (hb hby at_416) rfl q) ?_
                show OEnds p e below _ T68 (mkF m 418 #[.val (.int x0), .val (.int x1), .val (.int x2), .val (.int x3), .val (.int x4), .val (.int kn), .val (.ref a5), .val (.ref tx), .val (.int b0), .val (.int b1), .val (.int b2), .val (.int b3), .val (.int sv), .val (.int ev), .val (.int (ev - sv)), .val (.ref yy)] [(.int (ev - sv)), (.int (Int32.ofNat (((own_t5 kn c0 c1 c2 c3).drop i).take (j - i)).length))])
                refine OEnds.go (fun _ q => XS.icmpYes X71.here X71.hx rfl (pc0 := 418) (pc' := 423) rfl (hb hby at_418) rfl (teq hf1).1 (by decide) (by decide) q) ?_
                show OEnds p e below _ T68 (mkF m 423 #[.val (.int x0), .val (.int x1), .val (.int x2), .val (.int x3), .val (.int x4), .val (.int kn), .val (.ref a5), .val (.ref tx), .val (.int b0), .val (.int b1), .val (.int b2), .val (.int b3), .val (.int sv), .val (.int ev), .val (.int (ev - sv)), .val (.ref yy)] [])
                refine OEnds.go (fun _ q => XS.aload X71.here X71.hx rfl (hb hby at_423) rfl rfl q) ?_
                show OEnds p e below _ T68 (mkF m 425 #[.val (.int x0), .val (.int x1), .val (.int x2), .val (.int x3), .val (.int x4), .val (.int kn), .val (.ref a5), .val (.ref tx), .val (.int b0), .val (.int b1), .val (.int b2), .val (.int b3), .val (.int sv), .val (.int ev), .val (.int (ev - sv)), .val (.ref yy)] [(.ref yy)])
                refine OEnds.go (fun _ q => XS.iconst X71.here X71.hx rfl (hb hby at_425) q) ?_
                show OEnds p e below _ T68 (mkF m 426 #[.val (.int x0), .val (.int x1), .val (.int x2), .val (.int x3), .val (.int x4), .val (.int kn), .val (.ref a5), .val (.ref tx), .val (.int b0), .val (.int b1), .val (.int b2), .val (.int b3), .val (.int sv), .val (.int ev), .val (.int (ev - sv)), .val (.ref yy)] [(.int (0 : Int32)), (.ref yy)])
                refine OEnds.go (fun _ q => XS.aload X71.here X71.hx rfl (hb hby at_426) rfl rfl q) ?_
                show OEnds p e below _ T68 (mkF m 428 #[.val (.int x0), .val (.int x1), .val (.int x2), .val (.int x3), .val (.int x4), .val (.int kn), .val (.ref a5), .val (.ref tx), .val (.int b0), .val (.int b1), .val (.int b2), .val (.int b3), .val (.int sv), .val (.int ev), .val (.int (ev - sv)), .val (.ref yy)] [(.ref a5), (.int (0 : Int32)), (.ref yy)])
                refine OEnds.go (fun _ q => XS.iload X71.here X71.hx rfl (hb hby at_428) rfl q) ?_
                show OEnds p e below _ T68 (mkF m 430 #[.val (.int x0), .val (.int x1), .val (.int x2), .val (.int x3), .val (.int x4), .val (.int kn), .val (.ref a5), .val (.ref tx), .val (.int b0), .val (.int b1), .val (.int b2), .val (.int b3), .val (.int sv), .val (.int ev), .val (.int (ev - sv)), .val (.ref yy)] [(.int sv), (.ref a5), (.int (0 : Int32)), (.ref yy)])
                refine OEnds.go (fun _ q => XS.iload X71.here X71.hx rfl (hb hby at_430) rfl q) ?_
                show OEnds p e below _ T68 (mkF m 432 #[.val (.int x0), .val (.int x1), .val (.int x2), .val (.int x3), .val (.int x4), .val (.int kn), .val (.ref a5), .val (.ref tx), .val (.int b0), .val (.int b1), .val (.int b2), .val (.int b3), .val (.int sv), .val (.int ev), .val (.int (ev - sv)), .val (.ref yy)] [(.int (ev - sv)), (.int sv), (.ref a5), (.int (0 : Int32)), (.ref yy)])
                refine X71.callS hE (con_same H yy a5 (0 : Int32) sv (ev - sv) _ _ [c0, c1, c2, c3] (hf2 0 (by decide)) h62 Sy f58_0_h62) (hw _ (List.mem_of_getElem? (i := 57) rfl)) (hw _ (List.mem_of_getElem? (i := 58) rfl)) (hw _ (List.mem_of_getElem? (i := 4) rfl)) (hw _ (List.mem_of_getElem? (i := 59) rfl))  (by decide) (W := 0) (by decide) (by decide) (argsL := [(.ref yy), (.int (0 : Int32)), (.ref a5), (.int sv), (.int (ev - sv))]) (rest := []) rfl (lenOf own_pd13 rfl) rfl (by rw [hml]; rfl) (Nat.le_of_eq rfl) (hb hby at_432) (by decide) (by decide) ?_
                intro v79 vm77 T74 h76 X75 C78 q80
                obtain ⟨rfl, rfl⟩ := q80
                show OEnds p e below _ T74 (mkF m 435 #[.val (.int x0), .val (.int x1), .val (.int x2), .val (.int x3), .val (.int x4), .val (.int kn), .val (.ref a5), .val (.ref tx), .val (.int b0), .val (.int b1), .val (.int b2), .val (.int b3), .val (.int sv), .val (.int ev), .val (.int (ev - sv)), .val (.ref yy)] [(.int (1 : Int32))])
                refine OEnds.go (fun _ q => XS.ifNo X75.here X75.hx rfl (hb hby at_435) rfl ((if0 _ _).trans (feq (by decide)).1) q) ?_
                show OEnds p e below _ T74 (mkF m 438 #[.val (.int x0), .val (.int x1), .val (.int x2), .val (.int x3), .val (.int x4), .val (.int kn), .val (.ref a5), .val (.ref tx), .val (.int b0), .val (.int b1), .val (.int b2), .val (.int b3), .val (.int sv), .val (.int ev), .val (.int (ev - sv)), .val (.ref yy)] [])
                refine OEnds.go (fun _ q => XS.aload X75.here X75.hx rfl (hb hby at_438) rfl rfl q) ?_
                show OEnds p e below _ T74 (mkF m 440 #[.val (.int x0), .val (.int x1), .val (.int x2), .val (.int x3), .val (.int x4), .val (.int kn), .val (.ref a5), .val (.ref tx), .val (.int b0), .val (.int b1), .val (.int b2), .val (.int b3), .val (.int sv), .val (.int ev), .val (.int (ev - sv)), .val (.ref yy)] [(.ref yy)])
                refine OEnds.go (fun _ q => XS.iconst X75.here X75.hx rfl (hb hby at_440) q) ?_
                show OEnds p e below _ T74 (mkF m 441 #[.val (.int x0), .val (.int x1), .val (.int x2), .val (.int x3), .val (.int x4), .val (.int kn), .val (.ref a5), .val (.ref tx), .val (.int b0), .val (.int b1), .val (.int b2), .val (.int b3), .val (.int sv), .val (.int ev), .val (.int (ev - sv)), .val (.ref yy)] [(.int (1 : Int32)), (.ref yy)])
                refine OEnds.go (fun _ q => XS.aload X75.here X75.hx rfl (hb hby at_441) rfl rfl q) ?_
                show OEnds p e below _ T74 (mkF m 443 #[.val (.int x0), .val (.int x1), .val (.int x2), .val (.int x3), .val (.int x4), .val (.int kn), .val (.ref a5), .val (.ref tx), .val (.int b0), .val (.int b1), .val (.int b2), .val (.int b3), .val (.int sv), .val (.int ev), .val (.int (ev - sv)), .val (.ref yy)] [(.ref a5), (.int (1 : Int32)), (.ref yy)])
                refine OEnds.go (fun _ q => XS.iload X75.here X75.hx rfl (hb hby at_443) rfl q) ?_
                show OEnds p e below _ T74 (mkF m 445 #[.val (.int x0), .val (.int x1), .val (.int x2), .val (.int x3), .val (.int x4), .val (.int kn), .val (.ref a5), .val (.ref tx), .val (.int b0), .val (.int b1), .val (.int b2), .val (.int b3), .val (.int sv), .val (.int ev), .val (.int (ev - sv)), .val (.ref yy)] [(.int sv), (.ref a5), (.int (1 : Int32)), (.ref yy)])
                refine OEnds.go (fun _ q => XS.iload X75.here X75.hx rfl (hb hby at_445) rfl q) ?_
                show OEnds p e below _ T74 (mkF m 447 #[.val (.int x0), .val (.int x1), .val (.int x2), .val (.int x3), .val (.int x4), .val (.int kn), .val (.ref a5), .val (.ref tx), .val (.int b0), .val (.int b1), .val (.int b2), .val (.int b3), .val (.int sv), .val (.int ev), .val (.int (ev - sv)), .val (.ref yy)] [(.int (ev - sv)), (.int sv), (.ref a5), (.int (1 : Int32)), (.ref yy)])
                refine X75.callS hE (con_same H yy a5 (1 : Int32) sv (ev - sv) _ _ [c0, c1, c2, c3] (hf2 1 (by decide)) h62 Sy f58_0_h62) (hw _ (List.mem_of_getElem? (i := 57) rfl)) (hw _ (List.mem_of_getElem? (i := 58) rfl)) (hw _ (List.mem_of_getElem? (i := 4) rfl)) (hw _ (List.mem_of_getElem? (i := 59) rfl))  (by decide) (W := 0) (by decide) (by decide) (argsL := [(.ref yy), (.int (1 : Int32)), (.ref a5), (.int sv), (.int (ev - sv))]) (rest := []) rfl (lenOf own_pd13 rfl) rfl (by rw [hml]; rfl) (Nat.le_of_eq rfl) (hb hby at_447) (by decide) (by decide) ?_
                intro v86 vm84 T81 h83 X82 C85 q87
                obtain ⟨rfl, rfl⟩ := q87
                show OEnds p e below _ T81 (mkF m 450 #[.val (.int x0), .val (.int x1), .val (.int x2), .val (.int x3), .val (.int x4), .val (.int kn), .val (.ref a5), .val (.ref tx), .val (.int b0), .val (.int b1), .val (.int b2), .val (.int b3), .val (.int sv), .val (.int ev), .val (.int (ev - sv)), .val (.ref yy)] [(.int (1 : Int32))])
                refine OEnds.go (fun _ q => XS.ifNo X82.here X82.hx rfl (hb hby at_450) rfl ((if0 _ _).trans (feq (by decide)).1) q) ?_
                show OEnds p e below _ T81 (mkF m 453 #[.val (.int x0), .val (.int x1), .val (.int x2), .val (.int x3), .val (.int x4), .val (.int kn), .val (.ref a5), .val (.ref tx), .val (.int b0), .val (.int b1), .val (.int b2), .val (.int b3), .val (.int sv), .val (.int ev), .val (.int (ev - sv)), .val (.ref yy)] [])
                refine OEnds.go (fun _ q => XS.aload X82.here X82.hx rfl (hb hby at_453) rfl rfl q) ?_
                show OEnds p e below _ T81 (mkF m 455 #[.val (.int x0), .val (.int x1), .val (.int x2), .val (.int x3), .val (.int x4), .val (.int kn), .val (.ref a5), .val (.ref tx), .val (.int b0), .val (.int b1), .val (.int b2), .val (.int b3), .val (.int sv), .val (.int ev), .val (.int (ev - sv)), .val (.ref yy)] [(.ref yy)])
                refine OEnds.go (fun _ q => XS.iconst X82.here X82.hx rfl (hb hby at_455) q) ?_
                show OEnds p e below _ T81 (mkF m 456 #[.val (.int x0), .val (.int x1), .val (.int x2), .val (.int x3), .val (.int x4), .val (.int kn), .val (.ref a5), .val (.ref tx), .val (.int b0), .val (.int b1), .val (.int b2), .val (.int b3), .val (.int sv), .val (.int ev), .val (.int (ev - sv)), .val (.ref yy)] [(.int (2 : Int32)), (.ref yy)])
                refine OEnds.go (fun _ q => XS.aload X82.here X82.hx rfl (hb hby at_456) rfl rfl q) ?_
                show OEnds p e below _ T81 (mkF m 458 #[.val (.int x0), .val (.int x1), .val (.int x2), .val (.int x3), .val (.int x4), .val (.int kn), .val (.ref a5), .val (.ref tx), .val (.int b0), .val (.int b1), .val (.int b2), .val (.int b3), .val (.int sv), .val (.int ev), .val (.int (ev - sv)), .val (.ref yy)] [(.ref a5), (.int (2 : Int32)), (.ref yy)])
                refine OEnds.go (fun _ q => XS.iload X82.here X82.hx rfl (hb hby at_458) rfl q) ?_
                show OEnds p e below _ T81 (mkF m 460 #[.val (.int x0), .val (.int x1), .val (.int x2), .val (.int x3), .val (.int x4), .val (.int kn), .val (.ref a5), .val (.ref tx), .val (.int b0), .val (.int b1), .val (.int b2), .val (.int b3), .val (.int sv), .val (.int ev), .val (.int (ev - sv)), .val (.ref yy)] [(.int sv), (.ref a5), (.int (2 : Int32)), (.ref yy)])
                refine OEnds.go (fun _ q => XS.iload X82.here X82.hx rfl (hb hby at_460) rfl q) ?_
                show OEnds p e below _ T81 (mkF m 462 #[.val (.int x0), .val (.int x1), .val (.int x2), .val (.int x3), .val (.int x4), .val (.int kn), .val (.ref a5), .val (.ref tx), .val (.int b0), .val (.int b1), .val (.int b2), .val (.int b3), .val (.int sv), .val (.int ev), .val (.int (ev - sv)), .val (.ref yy)] [(.int (ev - sv)), (.int sv), (.ref a5), (.int (2 : Int32)), (.ref yy)])
                refine X82.callS hE (con_same H yy a5 (2 : Int32) sv (ev - sv) _ _ [c0, c1, c2, c3] (hf2 2 (by decide)) h62 Sy f58_0_h62) (hw _ (List.mem_of_getElem? (i := 57) rfl)) (hw _ (List.mem_of_getElem? (i := 58) rfl)) (hw _ (List.mem_of_getElem? (i := 4) rfl)) (hw _ (List.mem_of_getElem? (i := 59) rfl))  (by decide) (W := 0) (by decide) (by decide) (argsL := [(.ref yy), (.int (2 : Int32)), (.ref a5), (.int sv), (.int (ev - sv))]) (rest := []) rfl (lenOf own_pd13 rfl) rfl (by rw [hml]; rfl) (Nat.le_of_eq rfl) (hb hby at_462) (by decide) (by decide) ?_
                intro v93 vm91 T88 h90 X89 C92 q94
                obtain ⟨rfl, rfl⟩ := q94
                show OEnds p e below _ T88 (mkF m 465 #[.val (.int x0), .val (.int x1), .val (.int x2), .val (.int x3), .val (.int x4), .val (.int kn), .val (.ref a5), .val (.ref tx), .val (.int b0), .val (.int b1), .val (.int b2), .val (.int b3), .val (.int sv), .val (.int ev), .val (.int (ev - sv)), .val (.ref yy)] [(.int (1 : Int32))])
                refine OEnds.go (fun _ q => XS.ifNo X89.here X89.hx rfl (hb hby at_465) rfl ((if0 _ _).trans (feq (by decide)).1) q) ?_
                show OEnds p e below _ T88 (mkF m 468 #[.val (.int x0), .val (.int x1), .val (.int x2), .val (.int x3), .val (.int x4), .val (.int kn), .val (.ref a5), .val (.ref tx), .val (.int b0), .val (.int b1), .val (.int b2), .val (.int b3), .val (.int sv), .val (.int ev), .val (.int (ev - sv)), .val (.ref yy)] [])
                refine OEnds.go (fun _ q => XS.aload X89.here X89.hx rfl (hb hby at_468) rfl rfl q) ?_
                show OEnds p e below _ T88 (mkF m 470 #[.val (.int x0), .val (.int x1), .val (.int x2), .val (.int x3), .val (.int x4), .val (.int kn), .val (.ref a5), .val (.ref tx), .val (.int b0), .val (.int b1), .val (.int b2), .val (.int b3), .val (.int sv), .val (.int ev), .val (.int (ev - sv)), .val (.ref yy)] [(.ref yy)])
                refine OEnds.go (fun _ q => XS.iconst X89.here X89.hx rfl (hb hby at_470) q) ?_
                show OEnds p e below _ T88 (mkF m 471 #[.val (.int x0), .val (.int x1), .val (.int x2), .val (.int x3), .val (.int x4), .val (.int kn), .val (.ref a5), .val (.ref tx), .val (.int b0), .val (.int b1), .val (.int b2), .val (.int b3), .val (.int sv), .val (.int ev), .val (.int (ev - sv)), .val (.ref yy)] [(.int (3 : Int32)), (.ref yy)])
                refine OEnds.go (fun _ q => XS.aload X89.here X89.hx rfl (hb hby at_471) rfl rfl q) ?_
                show OEnds p e below _ T88 (mkF m 473 #[.val (.int x0), .val (.int x1), .val (.int x2), .val (.int x3), .val (.int x4), .val (.int kn), .val (.ref a5), .val (.ref tx), .val (.int b0), .val (.int b1), .val (.int b2), .val (.int b3), .val (.int sv), .val (.int ev), .val (.int (ev - sv)), .val (.ref yy)] [(.ref a5), (.int (3 : Int32)), (.ref yy)])
                refine OEnds.go (fun _ q => XS.iload X89.here X89.hx rfl (hb hby at_473) rfl q) ?_
                show OEnds p e below _ T88 (mkF m 475 #[.val (.int x0), .val (.int x1), .val (.int x2), .val (.int x3), .val (.int x4), .val (.int kn), .val (.ref a5), .val (.ref tx), .val (.int b0), .val (.int b1), .val (.int b2), .val (.int b3), .val (.int sv), .val (.int ev), .val (.int (ev - sv)), .val (.ref yy)] [(.int sv), (.ref a5), (.int (3 : Int32)), (.ref yy)])
                refine OEnds.go (fun _ q => XS.iload X89.here X89.hx rfl (hb hby at_475) rfl q) ?_
                show OEnds p e below _ T88 (mkF m 477 #[.val (.int x0), .val (.int x1), .val (.int x2), .val (.int x3), .val (.int x4), .val (.int kn), .val (.ref a5), .val (.ref tx), .val (.int b0), .val (.int b1), .val (.int b2), .val (.int b3), .val (.int sv), .val (.int ev), .val (.int (ev - sv)), .val (.ref yy)] [(.int (ev - sv)), (.int sv), (.ref a5), (.int (3 : Int32)), (.ref yy)])
                refine X89.callS hE (con_same H yy a5 (3 : Int32) sv (ev - sv) _ _ [c0, c1, c2, c3] (hf2 3 (by decide)) h62 Sy f58_0_h62) (hw _ (List.mem_of_getElem? (i := 57) rfl)) (hw _ (List.mem_of_getElem? (i := 58) rfl)) (hw _ (List.mem_of_getElem? (i := 4) rfl)) (hw _ (List.mem_of_getElem? (i := 59) rfl))  (by decide) (W := 0) (by decide) (by decide) (argsL := [(.ref yy), (.int (3 : Int32)), (.ref a5), (.int sv), (.int (ev - sv))]) (rest := []) rfl (lenOf own_pd13 rfl) rfl (by rw [hml]; rfl) (Nat.le_of_eq rfl) (hb hby at_477) (by decide) (by decide) ?_
                intro v100 vm98 T95 h97 X96 C99 q101
                obtain ⟨rfl, rfl⟩ := q101
                show OEnds p e below _ T95 (mkF m 480 #[.val (.int x0), .val (.int x1), .val (.int x2), .val (.int x3), .val (.int x4), .val (.int kn), .val (.ref a5), .val (.ref tx), .val (.int b0), .val (.int b1), .val (.int b2), .val (.int b3), .val (.int sv), .val (.int ev), .val (.int (ev - sv)), .val (.ref yy)] [(.int (1 : Int32))])
                refine OEnds.go (fun _ q => XS.ifNo X96.here X96.hx rfl (hb hby at_480) rfl ((if0 _ _).trans (feq (by decide)).1) q) ?_
                show OEnds p e below _ T95 (mkF m 483 #[.val (.int x0), .val (.int x1), .val (.int x2), .val (.int x3), .val (.int x4), .val (.int kn), .val (.ref a5), .val (.ref tx), .val (.int b0), .val (.int b1), .val (.int b2), .val (.int b3), .val (.int sv), .val (.int ev), .val (.int (ev - sv)), .val (.ref yy)] [])
                refine OEnds.go (fun _ q => XS.iconst X96.here X96.hx rfl (hb hby at_483) q) ?_
                show OEnds p e below _ T95 (mkF m 484 #[.val (.int x0), .val (.int x1), .val (.int x2), .val (.int x3), .val (.int x4), .val (.int kn), .val (.ref a5), .val (.ref tx), .val (.int b0), .val (.int b1), .val (.int b2), .val (.int b3), .val (.int sv), .val (.int ev), .val (.int (ev - sv)), .val (.ref yy)] [(.int (1 : Int32))])
                refine OEnds.go (fun _ q => XS.goto X96.here X96.hx rfl (pc0 := 484) (pc' := 488) rfl (hb hby at_484) (by decide) (by decide) q) ?_
                show OEnds p e below _ T95 (mkF m 488 #[.val (.int x0), .val (.int x1), .val (.int x2), .val (.int x3), .val (.int x4), .val (.int kn), .val (.ref a5), .val (.ref tx), .val (.int b0), .val (.int b1), .val (.int b2), .val (.int b3), .val (.int sv), .val (.int ev), .val (.int (ev - sv)), .val (.ref yy)] [(.int (1 : Int32))])
                exact X96.retBool hE hlk (by first | exact Or.inl rfl | exact Or.inr rfl | assumption) hret (hb hby at_488) (by decide) (by decide) rfl
              by_cases w3 : b3 = (0 : Int32)
              · skip
                refine OEnds.go (fun _ q => XS.ifYes Xj59.here Xj59.hx rfl (pc0 := 352) (pc' := 361) rfl (hb hby at_352) rfl ((if0 _ _).trans (teq w3).1) (by decide) (by decide) q) ?_
                show OEnds p e below _ Tj59 (mkF m 361 #[.val (.int x0), .val (.int x1), .val (.int x2), .val (.int x3), .val (.int x4), .val (.int kn), .val (.ref a5), .val (.ref tx), .val (.int b0), .val (.int b1), .val (.int b2), .val (.int b3), .val (.int sv), .unset, .unset, .unset] [])
                refine OEnds.go (fun _ q => XS.iload Xj59.here Xj59.hx rfl (hb hby at_361) rfl q) ?_
                show OEnds p e below _ Tj59 (mkF m 363 #[.val (.int x0), .val (.int x1), .val (.int x2), .val (.int x3), .val (.int x4), .val (.int kn), .val (.ref a5), .val (.ref tx), .val (.int b0), .val (.int b1), .val (.int b2), .val (.int b3), .val (.int sv), .unset, .unset, .unset] [(.int b2)])
                by_cases w2 : b2 = (0 : Int32)
                · skip
                  refine OEnds.go (fun _ q => XS.ifYes Xj59.here Xj59.hx rfl (pc0 := 363) (pc' := 372) rfl (hb hby at_363) rfl ((if0 _ _).trans (teq w2).1) (by decide) (by decide) q) ?_
                  show OEnds p e below _ Tj59 (mkF m 372 #[.val (.int x0), .val (.int x1), .val (.int x2), .val (.int x3), .val (.int x4), .val (.int kn), .val (.ref a5), .val (.ref tx), .val (.int b0), .val (.int b1), .val (.int b2), .val (.int b3), .val (.int sv), .unset, .unset, .unset] [])
                  refine OEnds.go (fun _ q => XS.iload Xj59.here Xj59.hx rfl (hb hby at_372) rfl q) ?_
                  show OEnds p e below _ Tj59 (mkF m 374 #[.val (.int x0), .val (.int x1), .val (.int x2), .val (.int x3), .val (.int x4), .val (.int kn), .val (.ref a5), .val (.ref tx), .val (.int b0), .val (.int b1), .val (.int b2), .val (.int b3), .val (.int sv), .unset, .unset, .unset] [(.int b1)])
                  by_cases w1 : b1 = (0 : Int32)
                  · skip
                    refine OEnds.go (fun _ q => XS.ifYes Xj59.here Xj59.hx rfl (pc0 := 374) (pc' := 383) rfl (hb hby at_374) rfl ((if0 _ _).trans (teq w1).1) (by decide) (by decide) q) ?_
                    show OEnds p e below _ Tj59 (mkF m 383 #[.val (.int x0), .val (.int x1), .val (.int x2), .val (.int x3), .val (.int x4), .val (.int kn), .val (.ref a5), .val (.ref tx), .val (.int b0), .val (.int b1), .val (.int b2), .val (.int b3), .val (.int sv), .unset, .unset, .unset] [])
                    refine OEnds.go (fun _ q => XS.iload Xj59.here Xj59.hx rfl (hb hby at_383) rfl q) ?_
                    show OEnds p e below _ Tj59 (mkF m 385 #[.val (.int x0), .val (.int x1), .val (.int x2), .val (.int x3), .val (.int x4), .val (.int kn), .val (.ref a5), .val (.ref tx), .val (.int b0), .val (.int b1), .val (.int b2), .val (.int b3), .val (.int sv), .unset, .unset, .unset] [(.int b0)])
                    by_cases w0 : b0 = (0 : Int32)
                    · skip
                      refine OEnds.go (fun _ q => XS.ifYes Xj59.here Xj59.hx rfl (pc0 := 385) (pc' := 394) rfl (hb hby at_385) rfl ((if0 _ _).trans (teq w0).1) (by decide) (by decide) q) ?_
                      show OEnds p e below _ Tj59 (mkF m 394 #[.val (.int x0), .val (.int x1), .val (.int x2), .val (.int x3), .val (.int x4), .val (.int kn), .val (.ref a5), .val (.ref tx), .val (.int b0), .val (.int b1), .val (.int b2), .val (.int b3), .val (.int sv), .unset, .unset, .unset] [])
                      refine OEnds.go (fun _ q => XS.iconst Xj59.here Xj59.hx rfl (hb hby at_394) q) ?_
                      show OEnds p e below _ Tj59 (mkF m 395 #[.val (.int x0), .val (.int x1), .val (.int x2), .val (.int x3), .val (.int x4), .val (.int kn), .val (.ref a5), .val (.ref tx), .val (.int b0), .val (.int b1), .val (.int b2), .val (.int b3), .val (.int sv), .unset, .unset, .unset] [(.int (0 : Int32))])
                      refine OEnds.go (fun _ q => XS.istore Xj59.here Xj59.hx rfl (hb hby at_395) rfl (l' := #[.val (.int x0), .val (.int x1), .val (.int x2), .val (.int x3), .val (.int x4), .val (.int kn), .val (.ref a5), .val (.ref tx), .val (.int b0), .val (.int b1), .val (.int b2), .val (.int b3), .val (.int sv), .val (.int (0 : Int32)), .unset, .unset]) rfl q) ?_
                      show OEnds p e below _ Tj59 (mkF m 397 #[.val (.int x0), .val (.int x1), .val (.int x2), .val (.int x3), .val (.int x4), .val (.int kn), .val (.ref a5), .val (.ref tx), .val (.int b0), .val (.int b1), .val (.int b2), .val (.int b3), .val (.int sv), .val (.int (0 : Int32)), .unset, .unset] [])
                      exact JE _ (by unfold own_ev; rw [if_pos w3, if_pos w2, if_pos w1, if_pos w0])
                    · skip
                      refine OEnds.go (fun _ q => XS.ifNo Xj59.here Xj59.hx rfl (hb hby at_385) rfl ((if0 _ _).trans (feq w0).1) q) ?_
                      show OEnds p e below _ Tj59 (mkF m 388 #[.val (.int x0), .val (.int x1), .val (.int x2), .val (.int x3), .val (.int x4), .val (.int kn), .val (.ref a5), .val (.ref tx), .val (.int b0), .val (.int b1), .val (.int b2), .val (.int b3), .val (.int sv), .unset, .unset, .unset] [])
                      refine OEnds.go (fun _ q => XS.iconst Xj59.here Xj59.hx rfl (hb hby at_388) q) ?_
                      show OEnds p e below _ Tj59 (mkF m 389 #[.val (.int x0), .val (.int x1), .val (.int x2), .val (.int x3), .val (.int x4), .val (.int kn), .val (.ref a5), .val (.ref tx), .val (.int b0), .val (.int b1), .val (.int b2), .val (.int b3), .val (.int sv), .unset, .unset, .unset] [(.int (1 : Int32))])
                      refine OEnds.go (fun _ q => XS.istore Xj59.here Xj59.hx rfl (hb hby at_389) rfl (l' := #[.val (.int x0), .val (.int x1), .val (.int x2), .val (.int x3), .val (.int x4), .val (.int kn), .val (.ref a5), .val (.ref tx), .val (.int b0), .val (.int b1), .val (.int b2), .val (.int b3), .val (.int sv), .val (.int (1 : Int32)), .unset, .unset]) rfl q) ?_
                      show OEnds p e below _ Tj59 (mkF m 391 #[.val (.int x0), .val (.int x1), .val (.int x2), .val (.int x3), .val (.int x4), .val (.int kn), .val (.ref a5), .val (.ref tx), .val (.int b0), .val (.int b1), .val (.int b2), .val (.int b3), .val (.int sv), .val (.int (1 : Int32)), .unset, .unset] [])
                      refine OEnds.go (fun _ q => XS.goto Xj59.here Xj59.hx rfl (pc0 := 391) (pc' := 397) rfl (hb hby at_391) (by decide) (by decide) q) ?_
                      show OEnds p e below _ Tj59 (mkF m 397 #[.val (.int x0), .val (.int x1), .val (.int x2), .val (.int x3), .val (.int x4), .val (.int kn), .val (.ref a5), .val (.ref tx), .val (.int b0), .val (.int b1), .val (.int b2), .val (.int b3), .val (.int sv), .val (.int (1 : Int32)), .unset, .unset] [])
                      exact JE _ (by unfold own_ev; rw [if_pos w3, if_pos w2, if_pos w1, if_neg w0])
                  · skip
                    refine OEnds.go (fun _ q => XS.ifNo Xj59.here Xj59.hx rfl (hb hby at_374) rfl ((if0 _ _).trans (feq w1).1) q) ?_
                    show OEnds p e below _ Tj59 (mkF m 377 #[.val (.int x0), .val (.int x1), .val (.int x2), .val (.int x3), .val (.int x4), .val (.int kn), .val (.ref a5), .val (.ref tx), .val (.int b0), .val (.int b1), .val (.int b2), .val (.int b3), .val (.int sv), .unset, .unset, .unset] [])
                    refine OEnds.go (fun _ q => XS.iconst Xj59.here Xj59.hx rfl (hb hby at_377) q) ?_
                    show OEnds p e below _ Tj59 (mkF m 378 #[.val (.int x0), .val (.int x1), .val (.int x2), .val (.int x3), .val (.int x4), .val (.int kn), .val (.ref a5), .val (.ref tx), .val (.int b0), .val (.int b1), .val (.int b2), .val (.int b3), .val (.int sv), .unset, .unset, .unset] [(.int (2 : Int32))])
                    refine OEnds.go (fun _ q => XS.istore Xj59.here Xj59.hx rfl (hb hby at_378) rfl (l' := #[.val (.int x0), .val (.int x1), .val (.int x2), .val (.int x3), .val (.int x4), .val (.int kn), .val (.ref a5), .val (.ref tx), .val (.int b0), .val (.int b1), .val (.int b2), .val (.int b3), .val (.int sv), .val (.int (2 : Int32)), .unset, .unset]) rfl q) ?_
                    show OEnds p e below _ Tj59 (mkF m 380 #[.val (.int x0), .val (.int x1), .val (.int x2), .val (.int x3), .val (.int x4), .val (.int kn), .val (.ref a5), .val (.ref tx), .val (.int b0), .val (.int b1), .val (.int b2), .val (.int b3), .val (.int sv), .val (.int (2 : Int32)), .unset, .unset] [])
                    refine OEnds.go (fun _ q => XS.goto Xj59.here Xj59.hx rfl (pc0 := 380) (pc' := 397) rfl (hb hby at_380) (by decide) (by decide) q) ?_
                    show OEnds p e below _ Tj59 (mkF m 397 #[.val (.int x0), .val (.int x1), .val (.int x2), .val (.int x3), .val (.int x4), .val (.int kn), .val (.ref a5), .val (.ref tx), .val (.int b0), .val (.int b1), .val (.int b2), .val (.int b3), .val (.int sv), .val (.int (2 : Int32)), .unset, .unset] [])
                    exact JE _ (by unfold own_ev; rw [if_pos w3, if_pos w2, if_neg w1])
                · skip
                  refine OEnds.go (fun _ q => XS.ifNo Xj59.here Xj59.hx rfl (hb hby at_363) rfl ((if0 _ _).trans (feq w2).1) q) ?_
                  show OEnds p e below _ Tj59 (mkF m 366 #[.val (.int x0), .val (.int x1), .val (.int x2), .val (.int x3), .val (.int x4), .val (.int kn), .val (.ref a5), .val (.ref tx), .val (.int b0), .val (.int b1), .val (.int b2), .val (.int b3), .val (.int sv), .unset, .unset, .unset] [])
                  refine OEnds.go (fun _ q => XS.iconst Xj59.here Xj59.hx rfl (hb hby at_366) q) ?_
                  show OEnds p e below _ Tj59 (mkF m 367 #[.val (.int x0), .val (.int x1), .val (.int x2), .val (.int x3), .val (.int x4), .val (.int kn), .val (.ref a5), .val (.ref tx), .val (.int b0), .val (.int b1), .val (.int b2), .val (.int b3), .val (.int sv), .unset, .unset, .unset] [(.int (3 : Int32))])
                  refine OEnds.go (fun _ q => XS.istore Xj59.here Xj59.hx rfl (hb hby at_367) rfl (l' := #[.val (.int x0), .val (.int x1), .val (.int x2), .val (.int x3), .val (.int x4), .val (.int kn), .val (.ref a5), .val (.ref tx), .val (.int b0), .val (.int b1), .val (.int b2), .val (.int b3), .val (.int sv), .val (.int (3 : Int32)), .unset, .unset]) rfl q) ?_
                  show OEnds p e below _ Tj59 (mkF m 369 #[.val (.int x0), .val (.int x1), .val (.int x2), .val (.int x3), .val (.int x4), .val (.int kn), .val (.ref a5), .val (.ref tx), .val (.int b0), .val (.int b1), .val (.int b2), .val (.int b3), .val (.int sv), .val (.int (3 : Int32)), .unset, .unset] [])
                  refine OEnds.go (fun _ q => XS.goto Xj59.here Xj59.hx rfl (pc0 := 369) (pc' := 397) rfl (hb hby at_369) (by decide) (by decide) q) ?_
                  show OEnds p e below _ Tj59 (mkF m 397 #[.val (.int x0), .val (.int x1), .val (.int x2), .val (.int x3), .val (.int x4), .val (.int kn), .val (.ref a5), .val (.ref tx), .val (.int b0), .val (.int b1), .val (.int b2), .val (.int b3), .val (.int sv), .val (.int (3 : Int32)), .unset, .unset] [])
                  exact JE _ (by unfold own_ev; rw [if_pos w3, if_neg w2])
              · skip
                refine OEnds.go (fun _ q => XS.ifNo Xj59.here Xj59.hx rfl (hb hby at_352) rfl ((if0 _ _).trans (feq w3).1) q) ?_
                show OEnds p e below _ Tj59 (mkF m 355 #[.val (.int x0), .val (.int x1), .val (.int x2), .val (.int x3), .val (.int x4), .val (.int kn), .val (.ref a5), .val (.ref tx), .val (.int b0), .val (.int b1), .val (.int b2), .val (.int b3), .val (.int sv), .unset, .unset, .unset] [])
                refine OEnds.go (fun _ q => XS.iconst Xj59.here Xj59.hx rfl (hb hby at_355) q) ?_
                show OEnds p e below _ Tj59 (mkF m 356 #[.val (.int x0), .val (.int x1), .val (.int x2), .val (.int x3), .val (.int x4), .val (.int kn), .val (.ref a5), .val (.ref tx), .val (.int b0), .val (.int b1), .val (.int b2), .val (.int b3), .val (.int sv), .unset, .unset, .unset] [(.int (4 : Int32))])
                refine OEnds.go (fun _ q => XS.istore Xj59.here Xj59.hx rfl (hb hby at_356) rfl (l' := #[.val (.int x0), .val (.int x1), .val (.int x2), .val (.int x3), .val (.int x4), .val (.int kn), .val (.ref a5), .val (.ref tx), .val (.int b0), .val (.int b1), .val (.int b2), .val (.int b3), .val (.int sv), .val (.int (4 : Int32)), .unset, .unset]) rfl q) ?_
                show OEnds p e below _ Tj59 (mkF m 358 #[.val (.int x0), .val (.int x1), .val (.int x2), .val (.int x3), .val (.int x4), .val (.int kn), .val (.ref a5), .val (.ref tx), .val (.int b0), .val (.int b1), .val (.int b2), .val (.int b3), .val (.int sv), .val (.int (4 : Int32)), .unset, .unset] [])
                refine OEnds.go (fun _ q => XS.goto Xj59.here Xj59.hx rfl (pc0 := 358) (pc' := 397) rfl (hb hby at_358) (by decide) (by decide) q) ?_
                show OEnds p e below _ Tj59 (mkF m 397 #[.val (.int x0), .val (.int x1), .val (.int x2), .val (.int x3), .val (.int x4), .val (.int kn), .val (.ref a5), .val (.ref tx), .val (.int b0), .val (.int b1), .val (.int b2), .val (.int b3), .val (.int sv), .val (.int (4 : Int32)), .unset, .unset] [])
                exact JE _ (by unfold own_ev; rw [if_neg w3])
            by_cases w0 : b0 = (0 : Int32)
            · skip
              refine OEnds.go (fun _ q => XS.ifYes Xj59.here Xj59.hx rfl (pc0 := 305) (pc' := 314) rfl (hb hby at_305) rfl ((if0 _ _).trans (teq w0).1) (by decide) (by decide) q) ?_
              show OEnds p e below _ Tj59 (mkF m 314 #[.val (.int x0), .val (.int x1), .val (.int x2), .val (.int x3), .val (.int x4), .val (.int kn), .val (.ref a5), .val (.ref tx), .val (.int b0), .val (.int b1), .val (.int b2), .val (.int b3), .unset, .unset, .unset, .unset] [])
              refine OEnds.go (fun _ q => XS.iload Xj59.here Xj59.hx rfl (hb hby at_314) rfl q) ?_
              show OEnds p e below _ Tj59 (mkF m 316 #[.val (.int x0), .val (.int x1), .val (.int x2), .val (.int x3), .val (.int x4), .val (.int kn), .val (.ref a5), .val (.ref tx), .val (.int b0), .val (.int b1), .val (.int b2), .val (.int b3), .unset, .unset, .unset, .unset] [(.int b1)])
              by_cases w1 : b1 = (0 : Int32)
              · skip
                refine OEnds.go (fun _ q => XS.ifYes Xj59.here Xj59.hx rfl (pc0 := 316) (pc' := 325) rfl (hb hby at_316) rfl ((if0 _ _).trans (teq w1).1) (by decide) (by decide) q) ?_
                show OEnds p e below _ Tj59 (mkF m 325 #[.val (.int x0), .val (.int x1), .val (.int x2), .val (.int x3), .val (.int x4), .val (.int kn), .val (.ref a5), .val (.ref tx), .val (.int b0), .val (.int b1), .val (.int b2), .val (.int b3), .unset, .unset, .unset, .unset] [])
                refine OEnds.go (fun _ q => XS.iload Xj59.here Xj59.hx rfl (hb hby at_325) rfl q) ?_
                show OEnds p e below _ Tj59 (mkF m 327 #[.val (.int x0), .val (.int x1), .val (.int x2), .val (.int x3), .val (.int x4), .val (.int kn), .val (.ref a5), .val (.ref tx), .val (.int b0), .val (.int b1), .val (.int b2), .val (.int b3), .unset, .unset, .unset, .unset] [(.int b2)])
                by_cases w2 : b2 = (0 : Int32)
                · skip
                  refine OEnds.go (fun _ q => XS.ifYes Xj59.here Xj59.hx rfl (pc0 := 327) (pc' := 336) rfl (hb hby at_327) rfl ((if0 _ _).trans (teq w2).1) (by decide) (by decide) q) ?_
                  show OEnds p e below _ Tj59 (mkF m 336 #[.val (.int x0), .val (.int x1), .val (.int x2), .val (.int x3), .val (.int x4), .val (.int kn), .val (.ref a5), .val (.ref tx), .val (.int b0), .val (.int b1), .val (.int b2), .val (.int b3), .unset, .unset, .unset, .unset] [])
                  refine OEnds.go (fun _ q => XS.iload Xj59.here Xj59.hx rfl (hb hby at_336) rfl q) ?_
                  show OEnds p e below _ Tj59 (mkF m 338 #[.val (.int x0), .val (.int x1), .val (.int x2), .val (.int x3), .val (.int x4), .val (.int kn), .val (.ref a5), .val (.ref tx), .val (.int b0), .val (.int b1), .val (.int b2), .val (.int b3), .unset, .unset, .unset, .unset] [(.int b3)])
                  by_cases w3 : b3 = (0 : Int32)
                  · skip
                    refine OEnds.go (fun _ q => XS.ifYes Xj59.here Xj59.hx rfl (pc0 := 338) (pc' := 347) rfl (hb hby at_338) rfl ((if0 _ _).trans (teq w3).1) (by decide) (by decide) q) ?_
                    show OEnds p e below _ Tj59 (mkF m 347 #[.val (.int x0), .val (.int x1), .val (.int x2), .val (.int x3), .val (.int x4), .val (.int kn), .val (.ref a5), .val (.ref tx), .val (.int b0), .val (.int b1), .val (.int b2), .val (.int b3), .unset, .unset, .unset, .unset] [])
                    refine OEnds.go (fun _ q => XS.iconst Xj59.here Xj59.hx rfl (hb hby at_347) q) ?_
                    show OEnds p e below _ Tj59 (mkF m 348 #[.val (.int x0), .val (.int x1), .val (.int x2), .val (.int x3), .val (.int x4), .val (.int kn), .val (.ref a5), .val (.ref tx), .val (.int b0), .val (.int b1), .val (.int b2), .val (.int b3), .unset, .unset, .unset, .unset] [(.int (0 : Int32))])
                    refine OEnds.go (fun _ q => XS.istore Xj59.here Xj59.hx rfl (hb hby at_348) rfl (l' := #[.val (.int x0), .val (.int x1), .val (.int x2), .val (.int x3), .val (.int x4), .val (.int kn), .val (.ref a5), .val (.ref tx), .val (.int b0), .val (.int b1), .val (.int b2), .val (.int b3), .val (.int (0 : Int32)), .unset, .unset, .unset]) rfl q) ?_
                    show OEnds p e below _ Tj59 (mkF m 350 #[.val (.int x0), .val (.int x1), .val (.int x2), .val (.int x3), .val (.int x4), .val (.int kn), .val (.ref a5), .val (.ref tx), .val (.int b0), .val (.int b1), .val (.int b2), .val (.int b3), .val (.int (0 : Int32)), .unset, .unset, .unset] [])
                    exact JS _ (by unfold own_sv; rw [if_pos w0, if_pos w1, if_pos w2, if_pos w3])
                  · skip
                    refine OEnds.go (fun _ q => XS.ifNo Xj59.here Xj59.hx rfl (hb hby at_338) rfl ((if0 _ _).trans (feq w3).1) q) ?_
                    show OEnds p e below _ Tj59 (mkF m 341 #[.val (.int x0), .val (.int x1), .val (.int x2), .val (.int x3), .val (.int x4), .val (.int kn), .val (.ref a5), .val (.ref tx), .val (.int b0), .val (.int b1), .val (.int b2), .val (.int b3), .unset, .unset, .unset, .unset] [])
                    refine OEnds.go (fun _ q => XS.iconst Xj59.here Xj59.hx rfl (hb hby at_341) q) ?_
                    show OEnds p e below _ Tj59 (mkF m 342 #[.val (.int x0), .val (.int x1), .val (.int x2), .val (.int x3), .val (.int x4), .val (.int kn), .val (.ref a5), .val (.ref tx), .val (.int b0), .val (.int b1), .val (.int b2), .val (.int b3), .unset, .unset, .unset, .unset] [(.int (3 : Int32))])
                    refine OEnds.go (fun _ q => XS.istore Xj59.here Xj59.hx rfl (hb hby at_342) rfl (l' := #[.val (.int x0), .val (.int x1), .val (.int x2), .val (.int x3), .val (.int x4), .val (.int kn), .val (.ref a5), .val (.ref tx), .val (.int b0), .val (.int b1), .val (.int b2), .val (.int b3), .val (.int (3 : Int32)), .unset, .unset, .unset]) rfl q) ?_
                    show OEnds p e below _ Tj59 (mkF m 344 #[.val (.int x0), .val (.int x1), .val (.int x2), .val (.int x3), .val (.int x4), .val (.int kn), .val (.ref a5), .val (.ref tx), .val (.int b0), .val (.int b1), .val (.int b2), .val (.int b3), .val (.int (3 : Int32)), .unset, .unset, .unset] [])
                    refine OEnds.go (fun _ q => XS.goto Xj59.here Xj59.hx rfl (pc0 := 344) (pc' := 350) rfl (hb hby at_344) (by decide) (by decide) q) ?_
                    show OEnds p e below _ Tj59 (mkF m 350 #[.val (.int x0), .val (.int x1), .val (.int x2), .val (.int x3), .val (.int x4), .val (.int kn), .val (.ref a5), .val (.ref tx), .val (.int b0), .val (.int b1), .val (.int b2), .val (.int b3), .val (.int (3 : Int32)), .unset, .unset, .unset] [])
                    exact JS _ (by unfold own_sv; rw [if_pos w0, if_pos w1, if_pos w2, if_neg w3])
                · skip
                  refine OEnds.go (fun _ q => XS.ifNo Xj59.here Xj59.hx rfl (hb hby at_327) rfl ((if0 _ _).trans (feq w2).1) q) ?_
                  show OEnds p e below _ Tj59 (mkF m 330 #[.val (.int x0), .val (.int x1), .val (.int x2), .val (.int x3), .val (.int x4), .val (.int kn), .val (.ref a5), .val (.ref tx), .val (.int b0), .val (.int b1), .val (.int b2), .val (.int b3), .unset, .unset, .unset, .unset] [])
                  refine OEnds.go (fun _ q => XS.iconst Xj59.here Xj59.hx rfl (hb hby at_330) q) ?_
                  show OEnds p e below _ Tj59 (mkF m 331 #[.val (.int x0), .val (.int x1), .val (.int x2), .val (.int x3), .val (.int x4), .val (.int kn), .val (.ref a5), .val (.ref tx), .val (.int b0), .val (.int b1), .val (.int b2), .val (.int b3), .unset, .unset, .unset, .unset] [(.int (2 : Int32))])
                  refine OEnds.go (fun _ q => XS.istore Xj59.here Xj59.hx rfl (hb hby at_331) rfl (l' := #[.val (.int x0), .val (.int x1), .val (.int x2), .val (.int x3), .val (.int x4), .val (.int kn), .val (.ref a5), .val (.ref tx), .val (.int b0), .val (.int b1), .val (.int b2), .val (.int b3), .val (.int (2 : Int32)), .unset, .unset, .unset]) rfl q) ?_
                  show OEnds p e below _ Tj59 (mkF m 333 #[.val (.int x0), .val (.int x1), .val (.int x2), .val (.int x3), .val (.int x4), .val (.int kn), .val (.ref a5), .val (.ref tx), .val (.int b0), .val (.int b1), .val (.int b2), .val (.int b3), .val (.int (2 : Int32)), .unset, .unset, .unset] [])
                  refine OEnds.go (fun _ q => XS.goto Xj59.here Xj59.hx rfl (pc0 := 333) (pc' := 350) rfl (hb hby at_333) (by decide) (by decide) q) ?_
                  show OEnds p e below _ Tj59 (mkF m 350 #[.val (.int x0), .val (.int x1), .val (.int x2), .val (.int x3), .val (.int x4), .val (.int kn), .val (.ref a5), .val (.ref tx), .val (.int b0), .val (.int b1), .val (.int b2), .val (.int b3), .val (.int (2 : Int32)), .unset, .unset, .unset] [])
                  exact JS _ (by unfold own_sv; rw [if_pos w0, if_pos w1, if_neg w2])
              · skip
                refine OEnds.go (fun _ q => XS.ifNo Xj59.here Xj59.hx rfl (hb hby at_316) rfl ((if0 _ _).trans (feq w1).1) q) ?_
                show OEnds p e below _ Tj59 (mkF m 319 #[.val (.int x0), .val (.int x1), .val (.int x2), .val (.int x3), .val (.int x4), .val (.int kn), .val (.ref a5), .val (.ref tx), .val (.int b0), .val (.int b1), .val (.int b2), .val (.int b3), .unset, .unset, .unset, .unset] [])
                refine OEnds.go (fun _ q => XS.iconst Xj59.here Xj59.hx rfl (hb hby at_319) q) ?_
                show OEnds p e below _ Tj59 (mkF m 320 #[.val (.int x0), .val (.int x1), .val (.int x2), .val (.int x3), .val (.int x4), .val (.int kn), .val (.ref a5), .val (.ref tx), .val (.int b0), .val (.int b1), .val (.int b2), .val (.int b3), .unset, .unset, .unset, .unset] [(.int (1 : Int32))])
                refine OEnds.go (fun _ q => XS.istore Xj59.here Xj59.hx rfl (hb hby at_320) rfl (l' := #[.val (.int x0), .val (.int x1), .val (.int x2), .val (.int x3), .val (.int x4), .val (.int kn), .val (.ref a5), .val (.ref tx), .val (.int b0), .val (.int b1), .val (.int b2), .val (.int b3), .val (.int (1 : Int32)), .unset, .unset, .unset]) rfl q) ?_
                show OEnds p e below _ Tj59 (mkF m 322 #[.val (.int x0), .val (.int x1), .val (.int x2), .val (.int x3), .val (.int x4), .val (.int kn), .val (.ref a5), .val (.ref tx), .val (.int b0), .val (.int b1), .val (.int b2), .val (.int b3), .val (.int (1 : Int32)), .unset, .unset, .unset] [])
                refine OEnds.go (fun _ q => XS.goto Xj59.here Xj59.hx rfl (pc0 := 322) (pc' := 350) rfl (hb hby at_322) (by decide) (by decide) q) ?_
                show OEnds p e below _ Tj59 (mkF m 350 #[.val (.int x0), .val (.int x1), .val (.int x2), .val (.int x3), .val (.int x4), .val (.int kn), .val (.ref a5), .val (.ref tx), .val (.int b0), .val (.int b1), .val (.int b2), .val (.int b3), .val (.int (1 : Int32)), .unset, .unset, .unset] [])
                exact JS _ (by unfold own_sv; rw [if_pos w0, if_neg w1])
            · skip
              refine OEnds.go (fun _ q => XS.ifNo Xj59.here Xj59.hx rfl (hb hby at_305) rfl ((if0 _ _).trans (feq w0).1) q) ?_
              show OEnds p e below _ Tj59 (mkF m 308 #[.val (.int x0), .val (.int x1), .val (.int x2), .val (.int x3), .val (.int x4), .val (.int kn), .val (.ref a5), .val (.ref tx), .val (.int b0), .val (.int b1), .val (.int b2), .val (.int b3), .unset, .unset, .unset, .unset] [])
              refine OEnds.go (fun _ q => XS.iconst Xj59.here Xj59.hx rfl (hb hby at_308) q) ?_
              show OEnds p e below _ Tj59 (mkF m 309 #[.val (.int x0), .val (.int x1), .val (.int x2), .val (.int x3), .val (.int x4), .val (.int kn), .val (.ref a5), .val (.ref tx), .val (.int b0), .val (.int b1), .val (.int b2), .val (.int b3), .unset, .unset, .unset, .unset] [(.int (0 : Int32))])
              refine OEnds.go (fun _ q => XS.istore Xj59.here Xj59.hx rfl (hb hby at_309) rfl (l' := #[.val (.int x0), .val (.int x1), .val (.int x2), .val (.int x3), .val (.int x4), .val (.int kn), .val (.ref a5), .val (.ref tx), .val (.int b0), .val (.int b1), .val (.int b2), .val (.int b3), .val (.int (0 : Int32)), .unset, .unset, .unset]) rfl q) ?_
              show OEnds p e below _ Tj59 (mkF m 311 #[.val (.int x0), .val (.int x1), .val (.int x2), .val (.int x3), .val (.int x4), .val (.int kn), .val (.ref a5), .val (.ref tx), .val (.int b0), .val (.int b1), .val (.int b2), .val (.int b3), .val (.int (0 : Int32)), .unset, .unset, .unset] [])
              refine OEnds.go (fun _ q => XS.goto Xj59.here Xj59.hx rfl (pc0 := 311) (pc' := 350) rfl (hb hby at_311) (by decide) (by decide) q) ?_
              show OEnds p e below _ Tj59 (mkF m 350 #[.val (.int x0), .val (.int x1), .val (.int x2), .val (.int x3), .val (.int x4), .val (.int kn), .val (.ref a5), .val (.ref tx), .val (.int b0), .val (.int b1), .val (.int b2), .val (.int b3), .val (.int (0 : Int32)), .unset, .unset, .unset] [])
              exact JS _ (by unfold own_sv; rw [if_neg w0])
          by_cases q3 : (3 : Int32) < kn
          · skip
            refine OEnds.go (fun _ q => XS.icmpNo Xj57.here Xj57.hx rfl (hb hby at_283) rfl (tlt q3).2.1 q) ?_
            show OEnds p e below _ Tj57 (mkF m 286 #[.val (.int x0), .val (.int x1), .val (.int x2), .val (.int x3), .val (.int x4), .val (.int kn), .val (.ref a5), .val (.ref tx), .val (.int b0), .val (.int b1), .val (.int b2), .unset, .unset, .unset, .unset, .unset] [])
            refine OEnds.go (fun _ q => XS.aload Xj57.here Xj57.hx rfl (hb hby at_286) rfl rfl q) ?_
            show OEnds p e below _ Tj57 (mkF m 288 #[.val (.int x0), .val (.int x1), .val (.int x2), .val (.int x3), .val (.int x4), .val (.int kn), .val (.ref a5), .val (.ref tx), .val (.int b0), .val (.int b1), .val (.int b2), .unset, .unset, .unset, .unset, .unset] [(.ref a5)])
            refine OEnds.go (fun _ q => XS.iconst Xj57.here Xj57.hx rfl (hb hby at_288) q) ?_
            show OEnds p e below _ Tj57 (mkF m 289 #[.val (.int x0), .val (.int x1), .val (.int x2), .val (.int x3), .val (.int x4), .val (.int kn), .val (.ref a5), .val (.ref tx), .val (.int b0), .val (.int b1), .val (.int b2), .unset, .unset, .unset, .unset, .unset] [(.int (3 : Int32)), (.ref a5)])
            refine Xj57.cald f56_0 (by decide) (v := .int c3) rfl (hb hby at_289) ?_
            show OEnds p e below _ Tj57 (mkF m 290 #[.val (.int x0), .val (.int x1), .val (.int x2), .val (.int x3), .val (.int x4), .val (.int kn), .val (.ref a5), .val (.ref tx), .val (.int b0), .val (.int b1), .val (.int b2), .unset, .unset, .unset, .unset, .unset] [(.int c3)])
            refine Xj57.callS hE (con_blank H c3 hj57) (hw _ (List.mem_of_getElem? (i := 70) rfl)) (hw _ (List.mem_of_getElem? (i := 71) rfl)) (hw _ (List.mem_of_getElem? (i := 4) rfl)) (hw _ (List.mem_of_getElem? (i := 72) rfl))  (by decide) (W := 0) (by decide) (by decide) (argsL := [(.int c3)]) (rest := []) rfl (lenOf own_pd14 rfl) rfl (by rw [hml]; rfl) (Nat.le_of_eq rfl) (hb hby at_290) (by decide) (by decide) ?_
            intro v107 vm105 T102 h104 X103 C106 q108
            obtain ⟨rfl, rfl⟩ := q108
            show OEnds p e below _ T102 (mkF m 293 #[.val (.int x0), .val (.int x1), .val (.int x2), .val (.int x3), .val (.int x4), .val (.int kn), .val (.ref a5), .val (.ref tx), .val (.int b0), .val (.int b1), .val (.int b2), .unset, .unset, .unset, .unset, .unset] [(.int (if own_B c3 then 1 else 0))])
            by_cases r3 : (if own_B c3 then 1 else 0) = (0 : Int32)
            · skip
              refine OEnds.go (fun _ q => XS.ifNo X103.here X103.hx rfl (hb hby at_293) rfl ((if0 _ _).trans (teq r3).2) q) ?_
              show OEnds p e below _ T102 (mkF m 296 #[.val (.int x0), .val (.int x1), .val (.int x2), .val (.int x3), .val (.int x4), .val (.int kn), .val (.ref a5), .val (.ref tx), .val (.int b0), .val (.int b1), .val (.int b2), .unset, .unset, .unset, .unset, .unset] [])
              refine OEnds.go (fun _ q => XS.iconst X103.here X103.hx rfl (hb hby at_296) q) ?_
              show OEnds p e below _ T102 (mkF m 297 #[.val (.int x0), .val (.int x1), .val (.int x2), .val (.int x3), .val (.int x4), .val (.int kn), .val (.ref a5), .val (.ref tx), .val (.int b0), .val (.int b1), .val (.int b2), .unset, .unset, .unset, .unset, .unset] [(.int (1 : Int32))])
              refine OEnds.go (fun _ q => XS.goto X103.here X103.hx rfl (pc0 := 297) (pc' := 301) rfl (hb hby at_297) (by decide) (by decide) q) ?_
              show OEnds p e below _ T102 (mkF m 301 #[.val (.int x0), .val (.int x1), .val (.int x2), .val (.int x3), .val (.int x4), .val (.int kn), .val (.ref a5), .val (.ref tx), .val (.int b0), .val (.int b1), .val (.int b2), .unset, .unset, .unset, .unset, .unset] [(.int (1 : Int32))])
              exact JB3 _ _ _ _ (X103.mono (by decide) (by decide)) f56_0 f56_1 (own_nb1 q3 (fun z => absurd r3 (by rw [if_pos z]; decide))).symm 
            · skip
              refine OEnds.go (fun _ q => XS.ifYes X103.here X103.hx rfl (pc0 := 293) (pc' := 300) rfl (hb hby at_293) rfl ((if0 _ _).trans (feq r3).2) (by decide) (by decide) q) ?_
              show OEnds p e below _ T102 (mkF m 300 #[.val (.int x0), .val (.int x1), .val (.int x2), .val (.int x3), .val (.int x4), .val (.int kn), .val (.ref a5), .val (.ref tx), .val (.int b0), .val (.int b1), .val (.int b2), .unset, .unset, .unset, .unset, .unset] [])
              refine OEnds.go (fun _ q => XS.iconst X103.here X103.hx rfl (hb hby at_300) q) ?_
              show OEnds p e below _ T102 (mkF m 301 #[.val (.int x0), .val (.int x1), .val (.int x2), .val (.int x3), .val (.int x4), .val (.int kn), .val (.ref a5), .val (.ref tx), .val (.int b0), .val (.int b1), .val (.int b2), .unset, .unset, .unset, .unset, .unset] [(.int (0 : Int32))])
              exact JB3 _ _ _ _ (X103.mono (by decide) (by decide)) f56_0 f56_1 (own_nb0 (Or.inr (Classical.byContradiction fun z => r3 (by rw [if_neg z])))).symm 
          · skip
            refine OEnds.go (fun _ q => XS.icmpYes Xj57.here Xj57.hx rfl (pc0 := 283) (pc' := 300) rfl (hb hby at_283) rfl (flt q3).2.1 (by decide) (by decide) q) ?_
            show OEnds p e below _ Tj57 (mkF m 300 #[.val (.int x0), .val (.int x1), .val (.int x2), .val (.int x3), .val (.int x4), .val (.int kn), .val (.ref a5), .val (.ref tx), .val (.int b0), .val (.int b1), .val (.int b2), .unset, .unset, .unset, .unset, .unset] [])
            refine OEnds.go (fun _ q => XS.iconst Xj57.here Xj57.hx rfl (hb hby at_300) q) ?_
            show OEnds p e below _ Tj57 (mkF m 301 #[.val (.int x0), .val (.int x1), .val (.int x2), .val (.int x3), .val (.int x4), .val (.int kn), .val (.ref a5), .val (.ref tx), .val (.int b0), .val (.int b1), .val (.int b2), .unset, .unset, .unset, .unset, .unset] [(.int (0 : Int32))])
            exact JB3 _ _ _ _ (Xj57.mono (by decide) (by decide)) f56_0 f56_1 (own_nb0 (Or.inl q3)).symm 
        by_cases q2 : (2 : Int32) < kn
        · skip
          refine OEnds.go (fun _ q => XS.icmpNo Xj55.here Xj55.hx rfl (hb hby at_260) rfl (tlt q2).2.1 q) ?_
          show OEnds p e below _ Tj55 (mkF m 263 #[.val (.int x0), .val (.int x1), .val (.int x2), .val (.int x3), .val (.int x4), .val (.int kn), .val (.ref a5), .val (.ref tx), .val (.int b0), .val (.int b1), .unset, .unset, .unset, .unset, .unset, .unset] [])
          refine OEnds.go (fun _ q => XS.aload Xj55.here Xj55.hx rfl (hb hby at_263) rfl rfl q) ?_
          show OEnds p e below _ Tj55 (mkF m 265 #[.val (.int x0), .val (.int x1), .val (.int x2), .val (.int x3), .val (.int x4), .val (.int kn), .val (.ref a5), .val (.ref tx), .val (.int b0), .val (.int b1), .unset, .unset, .unset, .unset, .unset, .unset] [(.ref a5)])
          refine OEnds.go (fun _ q => XS.iconst Xj55.here Xj55.hx rfl (hb hby at_265) q) ?_
          show OEnds p e below _ Tj55 (mkF m 266 #[.val (.int x0), .val (.int x1), .val (.int x2), .val (.int x3), .val (.int x4), .val (.int kn), .val (.ref a5), .val (.ref tx), .val (.int b0), .val (.int b1), .unset, .unset, .unset, .unset, .unset, .unset] [(.int (2 : Int32)), (.ref a5)])
          refine Xj55.cald f54_0 (by decide) (v := .int c2) rfl (hb hby at_266) ?_
          show OEnds p e below _ Tj55 (mkF m 267 #[.val (.int x0), .val (.int x1), .val (.int x2), .val (.int x3), .val (.int x4), .val (.int kn), .val (.ref a5), .val (.ref tx), .val (.int b0), .val (.int b1), .unset, .unset, .unset, .unset, .unset, .unset] [(.int c2)])
          refine Xj55.callS hE (con_blank H c2 hj55) (hw _ (List.mem_of_getElem? (i := 70) rfl)) (hw _ (List.mem_of_getElem? (i := 71) rfl)) (hw _ (List.mem_of_getElem? (i := 4) rfl)) (hw _ (List.mem_of_getElem? (i := 72) rfl))  (by decide) (W := 0) (by decide) (by decide) (argsL := [(.int c2)]) (rest := []) rfl (lenOf own_pd14 rfl) rfl (by rw [hml]; rfl) (Nat.le_of_eq rfl) (hb hby at_267) (by decide) (by decide) ?_
          intro v114 vm112 T109 h111 X110 C113 q115
          obtain ⟨rfl, rfl⟩ := q115
          show OEnds p e below _ T109 (mkF m 270 #[.val (.int x0), .val (.int x1), .val (.int x2), .val (.int x3), .val (.int x4), .val (.int kn), .val (.ref a5), .val (.ref tx), .val (.int b0), .val (.int b1), .unset, .unset, .unset, .unset, .unset, .unset] [(.int (if own_B c2 then 1 else 0))])
          by_cases r2 : (if own_B c2 then 1 else 0) = (0 : Int32)
          · skip
            refine OEnds.go (fun _ q => XS.ifNo X110.here X110.hx rfl (hb hby at_270) rfl ((if0 _ _).trans (teq r2).2) q) ?_
            show OEnds p e below _ T109 (mkF m 273 #[.val (.int x0), .val (.int x1), .val (.int x2), .val (.int x3), .val (.int x4), .val (.int kn), .val (.ref a5), .val (.ref tx), .val (.int b0), .val (.int b1), .unset, .unset, .unset, .unset, .unset, .unset] [])
            refine OEnds.go (fun _ q => XS.iconst X110.here X110.hx rfl (hb hby at_273) q) ?_
            show OEnds p e below _ T109 (mkF m 274 #[.val (.int x0), .val (.int x1), .val (.int x2), .val (.int x3), .val (.int x4), .val (.int kn), .val (.ref a5), .val (.ref tx), .val (.int b0), .val (.int b1), .unset, .unset, .unset, .unset, .unset, .unset] [(.int (1 : Int32))])
            refine OEnds.go (fun _ q => XS.goto X110.here X110.hx rfl (pc0 := 274) (pc' := 278) rfl (hb hby at_274) (by decide) (by decide) q) ?_
            show OEnds p e below _ T109 (mkF m 278 #[.val (.int x0), .val (.int x1), .val (.int x2), .val (.int x3), .val (.int x4), .val (.int kn), .val (.ref a5), .val (.ref tx), .val (.int b0), .val (.int b1), .unset, .unset, .unset, .unset, .unset, .unset] [(.int (1 : Int32))])
            exact JB2 _ _ _ _ (X110.mono (by decide) (by decide)) f54_0 f54_1 (own_nb1 q2 (fun z => absurd r2 (by rw [if_pos z]; decide))).symm 
          · skip
            refine OEnds.go (fun _ q => XS.ifYes X110.here X110.hx rfl (pc0 := 270) (pc' := 277) rfl (hb hby at_270) rfl ((if0 _ _).trans (feq r2).2) (by decide) (by decide) q) ?_
            show OEnds p e below _ T109 (mkF m 277 #[.val (.int x0), .val (.int x1), .val (.int x2), .val (.int x3), .val (.int x4), .val (.int kn), .val (.ref a5), .val (.ref tx), .val (.int b0), .val (.int b1), .unset, .unset, .unset, .unset, .unset, .unset] [])
            refine OEnds.go (fun _ q => XS.iconst X110.here X110.hx rfl (hb hby at_277) q) ?_
            show OEnds p e below _ T109 (mkF m 278 #[.val (.int x0), .val (.int x1), .val (.int x2), .val (.int x3), .val (.int x4), .val (.int kn), .val (.ref a5), .val (.ref tx), .val (.int b0), .val (.int b1), .unset, .unset, .unset, .unset, .unset, .unset] [(.int (0 : Int32))])
            exact JB2 _ _ _ _ (X110.mono (by decide) (by decide)) f54_0 f54_1 (own_nb0 (Or.inr (Classical.byContradiction fun z => r2 (by rw [if_neg z])))).symm 
        · skip
          refine OEnds.go (fun _ q => XS.icmpYes Xj55.here Xj55.hx rfl (pc0 := 260) (pc' := 277) rfl (hb hby at_260) rfl (flt q2).2.1 (by decide) (by decide) q) ?_
          show OEnds p e below _ Tj55 (mkF m 277 #[.val (.int x0), .val (.int x1), .val (.int x2), .val (.int x3), .val (.int x4), .val (.int kn), .val (.ref a5), .val (.ref tx), .val (.int b0), .val (.int b1), .unset, .unset, .unset, .unset, .unset, .unset] [])
          refine OEnds.go (fun _ q => XS.iconst Xj55.here Xj55.hx rfl (hb hby at_277) q) ?_
          show OEnds p e below _ Tj55 (mkF m 278 #[.val (.int x0), .val (.int x1), .val (.int x2), .val (.int x3), .val (.int x4), .val (.int kn), .val (.ref a5), .val (.ref tx), .val (.int b0), .val (.int b1), .unset, .unset, .unset, .unset, .unset, .unset] [(.int (0 : Int32))])
          exact JB2 _ _ _ _ (Xj55.mono (by decide) (by decide)) f54_0 f54_1 (own_nb0 (Or.inl q2)).symm 
      by_cases q1 : (1 : Int32) < kn
      · skip
        refine OEnds.go (fun _ q => XS.icmpNo Xj53.here Xj53.hx rfl (hb hby at_237) rfl (tlt q1).2.1 q) ?_
        show OEnds p e below _ Tj53 (mkF m 240 #[.val (.int x0), .val (.int x1), .val (.int x2), .val (.int x3), .val (.int x4), .val (.int kn), .val (.ref a5), .val (.ref tx), .val (.int b0), .unset, .unset, .unset, .unset, .unset, .unset, .unset] [])
        refine OEnds.go (fun _ q => XS.aload Xj53.here Xj53.hx rfl (hb hby at_240) rfl rfl q) ?_
        show OEnds p e below _ Tj53 (mkF m 242 #[.val (.int x0), .val (.int x1), .val (.int x2), .val (.int x3), .val (.int x4), .val (.int kn), .val (.ref a5), .val (.ref tx), .val (.int b0), .unset, .unset, .unset, .unset, .unset, .unset, .unset] [(.ref a5)])
        refine OEnds.go (fun _ q => XS.iconst Xj53.here Xj53.hx rfl (hb hby at_242) q) ?_
        show OEnds p e below _ Tj53 (mkF m 243 #[.val (.int x0), .val (.int x1), .val (.int x2), .val (.int x3), .val (.int x4), .val (.int kn), .val (.ref a5), .val (.ref tx), .val (.int b0), .unset, .unset, .unset, .unset, .unset, .unset, .unset] [(.int (1 : Int32)), (.ref a5)])
        refine Xj53.cald f52_0 (by decide) (v := .int c1) rfl (hb hby at_243) ?_
        show OEnds p e below _ Tj53 (mkF m 244 #[.val (.int x0), .val (.int x1), .val (.int x2), .val (.int x3), .val (.int x4), .val (.int kn), .val (.ref a5), .val (.ref tx), .val (.int b0), .unset, .unset, .unset, .unset, .unset, .unset, .unset] [(.int c1)])
        refine Xj53.callS hE (con_blank H c1 hj53) (hw _ (List.mem_of_getElem? (i := 70) rfl)) (hw _ (List.mem_of_getElem? (i := 71) rfl)) (hw _ (List.mem_of_getElem? (i := 4) rfl)) (hw _ (List.mem_of_getElem? (i := 72) rfl))  (by decide) (W := 0) (by decide) (by decide) (argsL := [(.int c1)]) (rest := []) rfl (lenOf own_pd14 rfl) rfl (by rw [hml]; rfl) (Nat.le_of_eq rfl) (hb hby at_244) (by decide) (by decide) ?_
        intro v121 vm119 T116 h118 X117 C120 q122
        obtain ⟨rfl, rfl⟩ := q122
        show OEnds p e below _ T116 (mkF m 247 #[.val (.int x0), .val (.int x1), .val (.int x2), .val (.int x3), .val (.int x4), .val (.int kn), .val (.ref a5), .val (.ref tx), .val (.int b0), .unset, .unset, .unset, .unset, .unset, .unset, .unset] [(.int (if own_B c1 then 1 else 0))])
        by_cases r1 : (if own_B c1 then 1 else 0) = (0 : Int32)
        · skip
          refine OEnds.go (fun _ q => XS.ifNo X117.here X117.hx rfl (hb hby at_247) rfl ((if0 _ _).trans (teq r1).2) q) ?_
          show OEnds p e below _ T116 (mkF m 250 #[.val (.int x0), .val (.int x1), .val (.int x2), .val (.int x3), .val (.int x4), .val (.int kn), .val (.ref a5), .val (.ref tx), .val (.int b0), .unset, .unset, .unset, .unset, .unset, .unset, .unset] [])
          refine OEnds.go (fun _ q => XS.iconst X117.here X117.hx rfl (hb hby at_250) q) ?_
          show OEnds p e below _ T116 (mkF m 251 #[.val (.int x0), .val (.int x1), .val (.int x2), .val (.int x3), .val (.int x4), .val (.int kn), .val (.ref a5), .val (.ref tx), .val (.int b0), .unset, .unset, .unset, .unset, .unset, .unset, .unset] [(.int (1 : Int32))])
          refine OEnds.go (fun _ q => XS.goto X117.here X117.hx rfl (pc0 := 251) (pc' := 255) rfl (hb hby at_251) (by decide) (by decide) q) ?_
          show OEnds p e below _ T116 (mkF m 255 #[.val (.int x0), .val (.int x1), .val (.int x2), .val (.int x3), .val (.int x4), .val (.int kn), .val (.ref a5), .val (.ref tx), .val (.int b0), .unset, .unset, .unset, .unset, .unset, .unset, .unset] [(.int (1 : Int32))])
          exact JB1 _ _ _ _ (X117.mono (by decide) (by decide)) f52_0 f52_1 (own_nb1 q1 (fun z => absurd r1 (by rw [if_pos z]; decide))).symm 
        · skip
          refine OEnds.go (fun _ q => XS.ifYes X117.here X117.hx rfl (pc0 := 247) (pc' := 254) rfl (hb hby at_247) rfl ((if0 _ _).trans (feq r1).2) (by decide) (by decide) q) ?_
          show OEnds p e below _ T116 (mkF m 254 #[.val (.int x0), .val (.int x1), .val (.int x2), .val (.int x3), .val (.int x4), .val (.int kn), .val (.ref a5), .val (.ref tx), .val (.int b0), .unset, .unset, .unset, .unset, .unset, .unset, .unset] [])
          refine OEnds.go (fun _ q => XS.iconst X117.here X117.hx rfl (hb hby at_254) q) ?_
          show OEnds p e below _ T116 (mkF m 255 #[.val (.int x0), .val (.int x1), .val (.int x2), .val (.int x3), .val (.int x4), .val (.int kn), .val (.ref a5), .val (.ref tx), .val (.int b0), .unset, .unset, .unset, .unset, .unset, .unset, .unset] [(.int (0 : Int32))])
          exact JB1 _ _ _ _ (X117.mono (by decide) (by decide)) f52_0 f52_1 (own_nb0 (Or.inr (Classical.byContradiction fun z => r1 (by rw [if_neg z])))).symm 
      · skip
        refine OEnds.go (fun _ q => XS.icmpYes Xj53.here Xj53.hx rfl (pc0 := 237) (pc' := 254) rfl (hb hby at_237) rfl (flt q1).2.1 (by decide) (by decide) q) ?_
        show OEnds p e below _ Tj53 (mkF m 254 #[.val (.int x0), .val (.int x1), .val (.int x2), .val (.int x3), .val (.int x4), .val (.int kn), .val (.ref a5), .val (.ref tx), .val (.int b0), .unset, .unset, .unset, .unset, .unset, .unset, .unset] [])
        refine OEnds.go (fun _ q => XS.iconst Xj53.here Xj53.hx rfl (hb hby at_254) q) ?_
        show OEnds p e below _ Tj53 (mkF m 255 #[.val (.int x0), .val (.int x1), .val (.int x2), .val (.int x3), .val (.int x4), .val (.int kn), .val (.ref a5), .val (.ref tx), .val (.int b0), .unset, .unset, .unset, .unset, .unset, .unset, .unset] [(.int (0 : Int32))])
        exact JB1 _ _ _ _ (Xj53.mono (by decide) (by decide)) f52_0 f52_1 (own_nb0 (Or.inl q1)).symm 
    by_cases q0 : (0 : Int32) < kn
    · skip
      refine OEnds.go (fun _ q => XS.icmpNo Xj51.here Xj51.hx rfl (hb hby at_214) rfl (tlt q0).2.1 q) ?_
      show OEnds p e below _ Tj51 (mkF m 217 #[.val (.int x0), .val (.int x1), .val (.int x2), .val (.int x3), .val (.int x4), .val (.int kn), .val (.ref a5), .val (.ref tx), .unset, .unset, .unset, .unset, .unset, .unset, .unset, .unset] [])
      refine OEnds.go (fun _ q => XS.aload Xj51.here Xj51.hx rfl (hb hby at_217) rfl rfl q) ?_
      show OEnds p e below _ Tj51 (mkF m 219 #[.val (.int x0), .val (.int x1), .val (.int x2), .val (.int x3), .val (.int x4), .val (.int kn), .val (.ref a5), .val (.ref tx), .unset, .unset, .unset, .unset, .unset, .unset, .unset, .unset] [(.ref a5)])
      refine OEnds.go (fun _ q => XS.iconst Xj51.here Xj51.hx rfl (hb hby at_219) q) ?_
      show OEnds p e below _ Tj51 (mkF m 220 #[.val (.int x0), .val (.int x1), .val (.int x2), .val (.int x3), .val (.int x4), .val (.int kn), .val (.ref a5), .val (.ref tx), .unset, .unset, .unset, .unset, .unset, .unset, .unset, .unset] [(.int (0 : Int32)), (.ref a5)])
      refine Xj51.cald f50_0 (by decide) (v := .int c0) rfl (hb hby at_220) ?_
      show OEnds p e below _ Tj51 (mkF m 221 #[.val (.int x0), .val (.int x1), .val (.int x2), .val (.int x3), .val (.int x4), .val (.int kn), .val (.ref a5), .val (.ref tx), .unset, .unset, .unset, .unset, .unset, .unset, .unset, .unset] [(.int c0)])
      refine Xj51.callS hE (con_blank H c0 hj51) (hw _ (List.mem_of_getElem? (i := 70) rfl)) (hw _ (List.mem_of_getElem? (i := 71) rfl)) (hw _ (List.mem_of_getElem? (i := 4) rfl)) (hw _ (List.mem_of_getElem? (i := 72) rfl))  (by decide) (W := 0) (by decide) (by decide) (argsL := [(.int c0)]) (rest := []) rfl (lenOf own_pd14 rfl) rfl (by rw [hml]; rfl) (Nat.le_of_eq rfl) (hb hby at_221) (by decide) (by decide) ?_
      intro v128 vm126 T123 h125 X124 C127 q129
      obtain ⟨rfl, rfl⟩ := q129
      show OEnds p e below _ T123 (mkF m 224 #[.val (.int x0), .val (.int x1), .val (.int x2), .val (.int x3), .val (.int x4), .val (.int kn), .val (.ref a5), .val (.ref tx), .unset, .unset, .unset, .unset, .unset, .unset, .unset, .unset] [(.int (if own_B c0 then 1 else 0))])
      by_cases r0 : (if own_B c0 then 1 else 0) = (0 : Int32)
      · skip
        refine OEnds.go (fun _ q => XS.ifNo X124.here X124.hx rfl (hb hby at_224) rfl ((if0 _ _).trans (teq r0).2) q) ?_
        show OEnds p e below _ T123 (mkF m 227 #[.val (.int x0), .val (.int x1), .val (.int x2), .val (.int x3), .val (.int x4), .val (.int kn), .val (.ref a5), .val (.ref tx), .unset, .unset, .unset, .unset, .unset, .unset, .unset, .unset] [])
        refine OEnds.go (fun _ q => XS.iconst X124.here X124.hx rfl (hb hby at_227) q) ?_
        show OEnds p e below _ T123 (mkF m 228 #[.val (.int x0), .val (.int x1), .val (.int x2), .val (.int x3), .val (.int x4), .val (.int kn), .val (.ref a5), .val (.ref tx), .unset, .unset, .unset, .unset, .unset, .unset, .unset, .unset] [(.int (1 : Int32))])
        refine OEnds.go (fun _ q => XS.goto X124.here X124.hx rfl (pc0 := 228) (pc' := 232) rfl (hb hby at_228) (by decide) (by decide) q) ?_
        show OEnds p e below _ T123 (mkF m 232 #[.val (.int x0), .val (.int x1), .val (.int x2), .val (.int x3), .val (.int x4), .val (.int kn), .val (.ref a5), .val (.ref tx), .unset, .unset, .unset, .unset, .unset, .unset, .unset, .unset] [(.int (1 : Int32))])
        exact JB0 _ _ _ _ (X124.mono (by decide) (by decide)) f50_0 f50_1 (own_nb1 q0 (fun z => absurd r0 (by rw [if_pos z]; decide))).symm 
      · skip
        refine OEnds.go (fun _ q => XS.ifYes X124.here X124.hx rfl (pc0 := 224) (pc' := 231) rfl (hb hby at_224) rfl ((if0 _ _).trans (feq r0).2) (by decide) (by decide) q) ?_
        show OEnds p e below _ T123 (mkF m 231 #[.val (.int x0), .val (.int x1), .val (.int x2), .val (.int x3), .val (.int x4), .val (.int kn), .val (.ref a5), .val (.ref tx), .unset, .unset, .unset, .unset, .unset, .unset, .unset, .unset] [])
        refine OEnds.go (fun _ q => XS.iconst X124.here X124.hx rfl (hb hby at_231) q) ?_
        show OEnds p e below _ T123 (mkF m 232 #[.val (.int x0), .val (.int x1), .val (.int x2), .val (.int x3), .val (.int x4), .val (.int kn), .val (.ref a5), .val (.ref tx), .unset, .unset, .unset, .unset, .unset, .unset, .unset, .unset] [(.int (0 : Int32))])
        exact JB0 _ _ _ _ (X124.mono (by decide) (by decide)) f50_0 f50_1 (own_nb0 (Or.inr (Classical.byContradiction fun z => r0 (by rw [if_neg z])))).symm 
    · skip
      refine OEnds.go (fun _ q => XS.icmpYes Xj51.here Xj51.hx rfl (pc0 := 214) (pc' := 231) rfl (hb hby at_214) rfl (flt q0).2.1 (by decide) (by decide) q) ?_
      show OEnds p e below _ Tj51 (mkF m 231 #[.val (.int x0), .val (.int x1), .val (.int x2), .val (.int x3), .val (.int x4), .val (.int kn), .val (.ref a5), .val (.ref tx), .unset, .unset, .unset, .unset, .unset, .unset, .unset, .unset] [])
      refine OEnds.go (fun _ q => XS.iconst Xj51.here Xj51.hx rfl (hb hby at_231) q) ?_
      show OEnds p e below _ Tj51 (mkF m 232 #[.val (.int x0), .val (.int x1), .val (.int x2), .val (.int x3), .val (.int x4), .val (.int kn), .val (.ref a5), .val (.ref tx), .unset, .unset, .unset, .unset, .unset, .unset, .unset, .unset] [(.int (0 : Int32))])
      exact JB0 _ _ _ _ (Xj51.mono (by decide) (by decide)) f50_0 f50_1 (own_nb0 (Or.inl q0)).symm 
  by_cases hk0 : kn = (0 : Int32)
  · skip
    refine OEnds.go (fun _ q => XS.ifNo X47.here X47.hx rfl (hb hby at_48) rfl ((if0 _ _).trans (teq hk0).2) q) ?_
    show OEnds p e below _ T46 (mkF m 51 #[.val (.int x0), .val (.int x1), .val (.int x2), .val (.int x3), .val (.int x4), .val (.int kn), .val (.ref a5), .unset, .unset, .unset, .unset, .unset, .unset, .unset, .unset, .unset] [])
    refine X47.newO (hw _ (List.mem_of_getElem? (i := 6) rfl)) (hw _ (List.mem_of_getElem? (i := 7) rfl)) (hw _ (List.mem_of_getElem? (i := 8) rfl)) (hb hby at_51) (by decide) (by decide) ?_
    intro T130 h132 a134 ga134 X131 E133 Aa134 Da134 Ua134
    have gza134 : Z.heap.size ≤ a134 := ga134 ▸ X47.old.1
    have Ka5_h132 := Ka5_h48.ext E133
    have EBa5_h132 := ext_trans EBa5_h48 E133
    have EX_h132 := ext_trans EX_h48 E133
    have Fa134_value : Fld Z h132 a134 "java/lang/String" "value" "[B" .null := Da134 (Or.inr (hw _ (List.mem_of_getElem? (i := 21) rfl))) (ty := (FieldType.array FieldType.byte)) (by decide)
    have Fa134_coder : Fld Z h132 a134 "java/lang/String" "coder" "B" (.int (0 : Int32)) := Da134 (Or.inr (hw _ (List.mem_of_getElem? (i := 22) rfl))) (ty := FieldType.byte) (by decide)
    show OEnds p e below _ T130 (mkF m 54 #[.val (.int x0), .val (.int x1), .val (.int x2), .val (.int x3), .val (.int x4), .val (.int kn), .val (.ref a5), .unset, .unset, .unset, .unset, .unset, .unset, .unset, .unset, .unset] [(.ref a134)])
    refine OEnds.go (fun _ q => XS.dup X131.here X131.hx rfl (hb hby at_54) rfl rfl q) ?_
    show OEnds p e below _ T130 (mkF m 55 #[.val (.int x0), .val (.int x1), .val (.int x2), .val (.int x3), .val (.int x4), .val (.int kn), .val (.ref a5), .unset, .unset, .unset, .unset, .unset, .unset, .unset, .unset, .unset] [(.ref a134), (.ref a134)])
    refine OEnds.go (fun _ q => XS.iconst X131.here X131.hx rfl (hb hby at_55) q) ?_
    show OEnds p e below _ T130 (mkF m 56 #[.val (.int x0), .val (.int x1), .val (.int x2), .val (.int x3), .val (.int x4), .val (.int kn), .val (.ref a5), .unset, .unset, .unset, .unset, .unset, .unset, .unset, .unset, .unset] [(.int (0 : Int32)), (.ref a134), (.ref a134)])
    refine X131.newP (hw _ (List.mem_of_getElem? (i := 1) rfl)) (hb hby at_56) (by decide) (cap := 0) (by decide) (by decide) (by decide) (by decide) ?_
    intro T135 h137 a139 ka139 ga139 X136 E138 Ka139
    have gza139 : Z.heap.size ≤ a139 := ga139 ▸ X131.old.1
    have Ka5_h137 := Ka5_h132.ext E138
    have Aa134_h137 := Aa134.ext E138
    have Fa134_value_h137 := Fa134_value.ext E138
    have Fa134_coder_h137 := Fa134_coder.ext E138
    have EBa5_h137 := ext_trans EBa5_h132 E138
    have EBa134_h137 := ext_trans E133 E138
    have EX_h137 := ext_trans EX_h132 E138
    have Ka139_0 : Arv Z h137 a139 ka139 .char (0 : Int32) [] (.int (0 : Int32)) := Ka139.pad (pad_rep [] (.int (0 : Int32)) 0)
    show OEnds p e below _ T135 (mkF m 58 #[.val (.int x0), .val (.int x1), .val (.int x2), .val (.int x3), .val (.int x4), .val (.int kn), .val (.ref a5), .unset, .unset, .unset, .unset, .unset, .unset, .unset, .unset, .unset] [(.ref a139), (.ref a134), (.ref a134)])
    refine X136.callI hE (con_strE H a134 a139 ka139 (.int (0 : Int32)) gza134 h137 Aa134_h137 Fa134_value_h137 Fa134_coder_h137 Ka139_0) (hw _ (List.mem_of_getElem? (i := 9) rfl)) (hw _ (List.mem_of_getElem? (i := 10) rfl)) (hw _ (List.mem_of_getElem? (i := 8) rfl)) (hw _ (List.mem_of_getElem? (i := 11) rfl)) rfl (by decide) (W := 1) (by decide) (by decide) (a := a134) (argsL := [(.ref a139)]) (rest := [(.ref a134)]) rfl (lenOf own_pd15 rfl) rfl (by rw [hml]; rfl) (Nat.le_of_eq rfl) (hb hby at_58) (by decide) (by decide) ?_
    intro v147 vm145 T142 h144 X143 C146 q148
    obtain ⟨rfl, K140, Str141⟩ := q148
    have EBa134_h144 := ext_keep EBa134_h137 K140 (allS (Nat.le_of_eq ga134) all0)
    have Ka5_h144 := Ka5_h48.ext EBa134_h144
    have EX_h144 := ext_keep EX_h137 K140 (allS (Nat.le_trans EX_h48.1 (Nat.le_of_eq ga134)) all0)
    have EBa5_h144 := ext_keep EBa5_h137 K140 (allS (Nat.le_trans EBa5_h48.1 (Nat.le_of_eq ga134)) all0)
    show OEnds p e below _ T142 (mkF m 61 #[.val (.int x0), .val (.int x1), .val (.int x2), .val (.int x3), .val (.int x4), .val (.int kn), .val (.ref a5), .unset, .unset, .unset, .unset, .unset, .unset, .unset, .unset, .unset] [(.ref a134)])
    refine OEnds.go (fun _ q => XS.astore X143.here X143.hx rfl (hb hby at_61) rfl rfl (l' := #[.val (.int x0), .val (.int x1), .val (.int x2), .val (.int x3), .val (.int x4), .val (.int kn), .val (.ref a5), .val (.ref a134), .unset, .unset, .unset, .unset, .unset, .unset, .unset, .unset]) rfl q) ?_
    show OEnds p e below _ T142 (mkF m 63 #[.val (.int x0), .val (.int x1), .val (.int x2), .val (.int x3), .val (.int x4), .val (.int kn), .val (.ref a5), .val (.ref a134), .unset, .unset, .unset, .unset, .unset, .unset, .unset, .unset] [])
    refine OEnds.go (fun _ q => XS.goto X143.here X143.hx rfl (pc0 := 63) (pc' := 211) rfl (hb hby at_63) (by decide) (by decide) q) ?_
    show OEnds p e below _ T142 (mkF m 211 #[.val (.int x0), .val (.int x1), .val (.int x2), .val (.int x3), .val (.int x4), .val (.int kn), .val (.ref a5), .val (.ref a134), .unset, .unset, .unset, .unset, .unset, .unset, .unset, .unset] [])
    have hS : OStr Z h144 a134 (own_t5 kn c0 c1 c2 c3) := by
      have e : own_t5 kn c0 c1 c2 c3 = [] := by unfold own_t5; rw [if_pos hk0]
      rw [e]; exact Str141
    exact J _ _ _ a134 (X143.mono (by decide) (by decide)) Ka5_h144 hS  
  · skip
    refine OEnds.go (fun _ q => XS.ifYes X47.here X47.hx rfl (pc0 := 48) (pc' := 66) rfl (hb hby at_48) rfl ((if0 _ _).trans (feq hk0).2) (by decide) (by decide) q) ?_
    show OEnds p e below _ T46 (mkF m 66 #[.val (.int x0), .val (.int x1), .val (.int x2), .val (.int x3), .val (.int x4), .val (.int kn), .val (.ref a5), .unset, .unset, .unset, .unset, .unset, .unset, .unset, .unset, .unset] [])
    refine OEnds.go (fun _ q => XS.iload X47.here X47.hx rfl (hb hby at_66) rfl q) ?_
    show OEnds p e below _ T46 (mkF m 68 #[.val (.int x0), .val (.int x1), .val (.int x2), .val (.int x3), .val (.int x4), .val (.int kn), .val (.ref a5), .unset, .unset, .unset, .unset, .unset, .unset, .unset, .unset, .unset] [(.int kn)])
    refine OEnds.go (fun _ q => XS.iconst X47.here X47.hx rfl (hb hby at_68) q) ?_
    show OEnds p e below _ T46 (mkF m 69 #[.val (.int x0), .val (.int x1), .val (.int x2), .val (.int x3), .val (.int x4), .val (.int kn), .val (.ref a5), .unset, .unset, .unset, .unset, .unset, .unset, .unset, .unset, .unset] [(.int (1 : Int32)), (.int kn)])
    by_cases hk1 : kn = (1 : Int32)
    · skip
      refine OEnds.go (fun _ q => XS.icmpNo X47.here X47.hx rfl (hb hby at_69) rfl (teq hk1).2 q) ?_
      show OEnds p e below _ T46 (mkF m 72 #[.val (.int x0), .val (.int x1), .val (.int x2), .val (.int x3), .val (.int x4), .val (.int kn), .val (.ref a5), .unset, .unset, .unset, .unset, .unset, .unset, .unset, .unset, .unset] [])
      refine X47.newO (hw _ (List.mem_of_getElem? (i := 6) rfl)) (hw _ (List.mem_of_getElem? (i := 7) rfl)) (hw _ (List.mem_of_getElem? (i := 8) rfl)) (hb hby at_72) (by decide) (by decide) ?_
      intro T149 h151 a153 ga153 X150 E152 Aa153 Da153 Ua153
      have gza153 : Z.heap.size ≤ a153 := ga153 ▸ X47.old.1
      have Ka5_h151 := Ka5_h48.ext E152
      have EBa5_h151 := ext_trans EBa5_h48 E152
      have EX_h151 := ext_trans EX_h48 E152
      have Fa153_value : Fld Z h151 a153 "java/lang/String" "value" "[B" .null := Da153 (Or.inr (hw _ (List.mem_of_getElem? (i := 21) rfl))) (ty := (FieldType.array FieldType.byte)) (by decide)
      have Fa153_coder : Fld Z h151 a153 "java/lang/String" "coder" "B" (.int (0 : Int32)) := Da153 (Or.inr (hw _ (List.mem_of_getElem? (i := 22) rfl))) (ty := FieldType.byte) (by decide)
      show OEnds p e below _ T149 (mkF m 75 #[.val (.int x0), .val (.int x1), .val (.int x2), .val (.int x3), .val (.int x4), .val (.int kn), .val (.ref a5), .unset, .unset, .unset, .unset, .unset, .unset, .unset, .unset, .unset] [(.ref a153)])
      refine OEnds.go (fun _ q => XS.dup X150.here X150.hx rfl (hb hby at_75) rfl rfl q) ?_
      show OEnds p e below _ T149 (mkF m 76 #[.val (.int x0), .val (.int x1), .val (.int x2), .val (.int x3), .val (.int x4), .val (.int kn), .val (.ref a5), .unset, .unset, .unset, .unset, .unset, .unset, .unset, .unset, .unset] [(.ref a153), (.ref a153)])
      refine OEnds.go (fun _ q => XS.iconst X150.here X150.hx rfl (hb hby at_76) q) ?_
      show OEnds p e below _ T149 (mkF m 77 #[.val (.int x0), .val (.int x1), .val (.int x2), .val (.int x3), .val (.int x4), .val (.int kn), .val (.ref a5), .unset, .unset, .unset, .unset, .unset, .unset, .unset, .unset, .unset] [(.int (1 : Int32)), (.ref a153), (.ref a153)])
      refine X150.newP (hw _ (List.mem_of_getElem? (i := 1) rfl)) (hb hby at_77) (by decide) (cap := 1) (by decide) (by decide) (by decide) (by decide) ?_
      intro T154 h156 a158 ka158 ga158 X155 E157 Ka158
      have gza158 : Z.heap.size ≤ a158 := ga158 ▸ X150.old.1
      have Ka5_h156 := Ka5_h151.ext E157
      have Aa153_h156 := Aa153.ext E157
      have Fa153_value_h156 := Fa153_value.ext E157
      have Fa153_coder_h156 := Fa153_coder.ext E157
      have EBa5_h156 := ext_trans EBa5_h151 E157
      have EBa153_h156 := ext_trans E152 E157
      have EX_h156 := ext_trans EX_h151 E157
      have Ka158_0 : Arv Z h156 a158 ka158 .char (1 : Int32) [.int (0 : Int32)] (.int (0 : Int32)) := Ka158.pad (pad_rep [] (.int (0 : Int32)) 1)
      show OEnds p e below _ T154 (mkF m 79 #[.val (.int x0), .val (.int x1), .val (.int x2), .val (.int x3), .val (.int x4), .val (.int kn), .val (.ref a5), .unset, .unset, .unset, .unset, .unset, .unset, .unset, .unset, .unset] [(.ref a158), (.ref a153), (.ref a153)])
      refine OEnds.go (fun _ q => XS.dup X155.here X155.hx rfl (hb hby at_79) rfl rfl q) ?_
      show OEnds p e below _ T154 (mkF m 80 #[.val (.int x0), .val (.int x1), .val (.int x2), .val (.int x3), .val (.int x4), .val (.int kn), .val (.ref a5), .unset, .unset, .unset, .unset, .unset, .unset, .unset, .unset, .unset] [(.ref a158), (.ref a158), (.ref a153), (.ref a153)])
      refine OEnds.go (fun _ q => XS.iconst X155.here X155.hx rfl (hb hby at_80) q) ?_
      show OEnds p e below _ T154 (mkF m 81 #[.val (.int x0), .val (.int x1), .val (.int x2), .val (.int x3), .val (.int x4), .val (.int kn), .val (.ref a5), .unset, .unset, .unset, .unset, .unset, .unset, .unset, .unset, .unset] [(.int (0 : Int32)), (.ref a158), (.ref a158), (.ref a153), (.ref a153)])
      refine OEnds.go (fun _ q => XS.aload X155.here X155.hx rfl (hb hby at_81) rfl rfl q) ?_
      show OEnds p e below _ T154 (mkF m 83 #[.val (.int x0), .val (.int x1), .val (.int x2), .val (.int x3), .val (.int x4), .val (.int kn), .val (.ref a5), .unset, .unset, .unset, .unset, .unset, .unset, .unset, .unset, .unset] [(.ref a5), (.int (0 : Int32)), (.ref a158), (.ref a158), (.ref a153), (.ref a153)])
      refine OEnds.go (fun _ q => XS.iconst X155.here X155.hx rfl (hb hby at_83) q) ?_
      show OEnds p e below _ T154 (mkF m 84 #[.val (.int x0), .val (.int x1), .val (.int x2), .val (.int x3), .val (.int x4), .val (.int kn), .val (.ref a5), .unset, .unset, .unset, .unset, .unset, .unset, .unset, .unset, .unset] [(.int (0 : Int32)), (.ref a5), (.int (0 : Int32)), (.ref a158), (.ref a158), (.ref a153), (.ref a153)])
      refine X155.cald Ka5_h156 (by decide) (v := .int c0) rfl (hb hby at_84) ?_
      show OEnds p e below _ T154 (mkF m 85 #[.val (.int x0), .val (.int x1), .val (.int x2), .val (.int x3), .val (.int x4), .val (.int kn), .val (.ref a5), .unset, .unset, .unset, .unset, .unset, .unset, .unset, .unset, .unset] [(.int c0), (.int (0 : Int32)), (.ref a158), (.ref a158), (.ref a153), (.ref a153)])
      refine X155.stC Ka158_0 (by decide) (up255 hc0) (i := 0) rfl (Nat.le_of_ble_eq_true rfl) gza158 (hb hby at_85) ?_
      intro T159 h161 X160 W162 Ka158_h161x
      have Ka158_h161 : Arv Z h161 a158 ka158 .char (1 : Int32) [.int c0] (.int (0 : Int32)) := Ka158_h161x
      have EBa158_h161 := ext_wr E157 W162 (Nat.le_of_eq ga158)
      have Ka5_h161 := Ka5_h151.ext EBa158_h161
      have Aa153_h161 := Aa153.ext EBa158_h161
      have Fa153_value_h161 := Fa153_value.ext EBa158_h161
      have Fa153_coder_h161 := Fa153_coder.ext EBa158_h161
      have EX_h161 := ext_wr EX_h156 W162 (Nat.le_trans EX_h151.1 (Nat.le_of_eq ga158))
      have EBa5_h161 := ext_wr EBa5_h156 W162 (Nat.le_trans EBa5_h151.1 (Nat.le_of_eq ga158))
      have EBa153_h161 := ext_wr EBa153_h156 W162 (Nat.le_trans E152.1 (Nat.le_of_eq ga158))
      show OEnds p e below _ T159 (mkF m 86 #[.val (.int x0), .val (.int x1), .val (.int x2), .val (.int x3), .val (.int x4), .val (.int kn), .val (.ref a5), .unset, .unset, .unset, .unset, .unset, .unset, .unset, .unset, .unset] [(.ref a158), (.ref a153), (.ref a153)])
      refine own_newStr H X160 (cs := [c0]) (j := 1) gza153 Aa153_h161 Fa153_value_h161 Fa153_coder_h161 Ka158_h161 rfl rfl (by decide) (by decide) (all_cons hc0 all_nil) (hw _ (List.mem_of_getElem? (i := 9) rfl)) (W := 1) (by decide) (by decide) (by rw [hml]; rfl) (Nat.le_of_eq rfl) (hb hby at_86) (by decide) (by decide) ?_
      intro T163 h165 X164 K166 Str167
      have EBa153_h165 := ext_keep EBa153_h161 K166 (allS (Nat.le_of_eq ga153) all0)
      have Ka5_h165 := Ka5_h48.ext EBa153_h165
      have EX_h165 := ext_keep EX_h161 K166 (allS (Nat.le_trans EX_h48.1 (Nat.le_of_eq ga153)) all0)
      have EBa5_h165 := ext_keep EBa5_h161 K166 (allS (Nat.le_trans EBa5_h48.1 (Nat.le_of_eq ga153)) all0)
      show OEnds p e below _ T163 (mkF m 89 #[.val (.int x0), .val (.int x1), .val (.int x2), .val (.int x3), .val (.int x4), .val (.int kn), .val (.ref a5), .unset, .unset, .unset, .unset, .unset, .unset, .unset, .unset, .unset] [(.ref a153)])
      refine OEnds.go (fun _ q => XS.astore X164.here X164.hx rfl (hb hby at_89) rfl rfl (l' := #[.val (.int x0), .val (.int x1), .val (.int x2), .val (.int x3), .val (.int x4), .val (.int kn), .val (.ref a5), .val (.ref a153), .unset, .unset, .unset, .unset, .unset, .unset, .unset, .unset]) rfl q) ?_
      show OEnds p e below _ T163 (mkF m 91 #[.val (.int x0), .val (.int x1), .val (.int x2), .val (.int x3), .val (.int x4), .val (.int kn), .val (.ref a5), .val (.ref a153), .unset, .unset, .unset, .unset, .unset, .unset, .unset, .unset] [])
      refine OEnds.go (fun _ q => XS.goto X164.here X164.hx rfl (pc0 := 91) (pc' := 211) rfl (hb hby at_91) (by decide) (by decide) q) ?_
      show OEnds p e below _ T163 (mkF m 211 #[.val (.int x0), .val (.int x1), .val (.int x2), .val (.int x3), .val (.int x4), .val (.int kn), .val (.ref a5), .val (.ref a153), .unset, .unset, .unset, .unset, .unset, .unset, .unset, .unset] [])
      have hS : OStr Z h165 a153 (own_t5 kn c0 c1 c2 c3) := by
        have e : own_t5 kn c0 c1 c2 c3 = [c0] := by unfold own_t5; rw [if_neg hk0, if_pos hk1]
        rw [e]; exact Str167
      exact J _ _ _ a153 (X164.mono (by decide) (by decide)) Ka5_h165 hS  
    · skip
      refine OEnds.go (fun _ q => XS.icmpYes X47.here X47.hx rfl (pc0 := 69) (pc' := 94) rfl (hb hby at_69) rfl (feq hk1).2 (by decide) (by decide) q) ?_
      show OEnds p e below _ T46 (mkF m 94 #[.val (.int x0), .val (.int x1), .val (.int x2), .val (.int x3), .val (.int x4), .val (.int kn), .val (.ref a5), .unset, .unset, .unset, .unset, .unset, .unset, .unset, .unset, .unset] [])
      refine OEnds.go (fun _ q => XS.iload X47.here X47.hx rfl (hb hby at_94) rfl q) ?_
      show OEnds p e below _ T46 (mkF m 96 #[.val (.int x0), .val (.int x1), .val (.int x2), .val (.int x3), .val (.int x4), .val (.int kn), .val (.ref a5), .unset, .unset, .unset, .unset, .unset, .unset, .unset, .unset, .unset] [(.int kn)])
      refine OEnds.go (fun _ q => XS.iconst X47.here X47.hx rfl (hb hby at_96) q) ?_
      show OEnds p e below _ T46 (mkF m 97 #[.val (.int x0), .val (.int x1), .val (.int x2), .val (.int x3), .val (.int x4), .val (.int kn), .val (.ref a5), .unset, .unset, .unset, .unset, .unset, .unset, .unset, .unset, .unset] [(.int (2 : Int32)), (.int kn)])
      by_cases hk2 : kn = (2 : Int32)
      · skip
        refine OEnds.go (fun _ q => XS.icmpNo X47.here X47.hx rfl (hb hby at_97) rfl (teq hk2).2 q) ?_
        show OEnds p e below _ T46 (mkF m 100 #[.val (.int x0), .val (.int x1), .val (.int x2), .val (.int x3), .val (.int x4), .val (.int kn), .val (.ref a5), .unset, .unset, .unset, .unset, .unset, .unset, .unset, .unset, .unset] [])
        refine X47.newO (hw _ (List.mem_of_getElem? (i := 6) rfl)) (hw _ (List.mem_of_getElem? (i := 7) rfl)) (hw _ (List.mem_of_getElem? (i := 8) rfl)) (hb hby at_100) (by decide) (by decide) ?_
        intro T168 h170 a172 ga172 X169 E171 Aa172 Da172 Ua172
        have gza172 : Z.heap.size ≤ a172 := ga172 ▸ X47.old.1
        have Ka5_h170 := Ka5_h48.ext E171
        have EBa5_h170 := ext_trans EBa5_h48 E171
        have EX_h170 := ext_trans EX_h48 E171
        have Fa172_value : Fld Z h170 a172 "java/lang/String" "value" "[B" .null := Da172 (Or.inr (hw _ (List.mem_of_getElem? (i := 21) rfl))) (ty := (FieldType.array FieldType.byte)) (by decide)
        have Fa172_coder : Fld Z h170 a172 "java/lang/String" "coder" "B" (.int (0 : Int32)) := Da172 (Or.inr (hw _ (List.mem_of_getElem? (i := 22) rfl))) (ty := FieldType.byte) (by decide)
        show OEnds p e below _ T168 (mkF m 103 #[.val (.int x0), .val (.int x1), .val (.int x2), .val (.int x3), .val (.int x4), .val (.int kn), .val (.ref a5), .unset, .unset, .unset, .unset, .unset, .unset, .unset, .unset, .unset] [(.ref a172)])
        refine OEnds.go (fun _ q => XS.dup X169.here X169.hx rfl (hb hby at_103) rfl rfl q) ?_
        show OEnds p e below _ T168 (mkF m 104 #[.val (.int x0), .val (.int x1), .val (.int x2), .val (.int x3), .val (.int x4), .val (.int kn), .val (.ref a5), .unset, .unset, .unset, .unset, .unset, .unset, .unset, .unset, .unset] [(.ref a172), (.ref a172)])
        refine OEnds.go (fun _ q => XS.iconst X169.here X169.hx rfl (hb hby at_104) q) ?_
        show OEnds p e below _ T168 (mkF m 105 #[.val (.int x0), .val (.int x1), .val (.int x2), .val (.int x3), .val (.int x4), .val (.int kn), .val (.ref a5), .unset, .unset, .unset, .unset, .unset, .unset, .unset, .unset, .unset] [(.int (2 : Int32)), (.ref a172), (.ref a172)])
        refine X169.newP (hw _ (List.mem_of_getElem? (i := 1) rfl)) (hb hby at_105) (by decide) (cap := 2) (by decide) (by decide) (by decide) (by decide) ?_
        intro T173 h175 a177 ka177 ga177 X174 E176 Ka177
        have gza177 : Z.heap.size ≤ a177 := ga177 ▸ X169.old.1
        have Ka5_h175 := Ka5_h170.ext E176
        have Aa172_h175 := Aa172.ext E176
        have Fa172_value_h175 := Fa172_value.ext E176
        have Fa172_coder_h175 := Fa172_coder.ext E176
        have EBa5_h175 := ext_trans EBa5_h170 E176
        have EBa172_h175 := ext_trans E171 E176
        have EX_h175 := ext_trans EX_h170 E176
        have Ka177_0 : Arv Z h175 a177 ka177 .char (2 : Int32) [.int (0 : Int32), .int (0 : Int32)] (.int (0 : Int32)) := Ka177.pad (pad_rep [] (.int (0 : Int32)) 2)
        show OEnds p e below _ T173 (mkF m 107 #[.val (.int x0), .val (.int x1), .val (.int x2), .val (.int x3), .val (.int x4), .val (.int kn), .val (.ref a5), .unset, .unset, .unset, .unset, .unset, .unset, .unset, .unset, .unset] [(.ref a177), (.ref a172), (.ref a172)])
        refine OEnds.go (fun _ q => XS.dup X174.here X174.hx rfl (hb hby at_107) rfl rfl q) ?_
        show OEnds p e below _ T173 (mkF m 108 #[.val (.int x0), .val (.int x1), .val (.int x2), .val (.int x3), .val (.int x4), .val (.int kn), .val (.ref a5), .unset, .unset, .unset, .unset, .unset, .unset, .unset, .unset, .unset] [(.ref a177), (.ref a177), (.ref a172), (.ref a172)])
        refine OEnds.go (fun _ q => XS.iconst X174.here X174.hx rfl (hb hby at_108) q) ?_
        show OEnds p e below _ T173 (mkF m 109 #[.val (.int x0), .val (.int x1), .val (.int x2), .val (.int x3), .val (.int x4), .val (.int kn), .val (.ref a5), .unset, .unset, .unset, .unset, .unset, .unset, .unset, .unset, .unset] [(.int (0 : Int32)), (.ref a177), (.ref a177), (.ref a172), (.ref a172)])
        refine OEnds.go (fun _ q => XS.aload X174.here X174.hx rfl (hb hby at_109) rfl rfl q) ?_
        show OEnds p e below _ T173 (mkF m 111 #[.val (.int x0), .val (.int x1), .val (.int x2), .val (.int x3), .val (.int x4), .val (.int kn), .val (.ref a5), .unset, .unset, .unset, .unset, .unset, .unset, .unset, .unset, .unset] [(.ref a5), (.int (0 : Int32)), (.ref a177), (.ref a177), (.ref a172), (.ref a172)])
        refine OEnds.go (fun _ q => XS.iconst X174.here X174.hx rfl (hb hby at_111) q) ?_
        show OEnds p e below _ T173 (mkF m 112 #[.val (.int x0), .val (.int x1), .val (.int x2), .val (.int x3), .val (.int x4), .val (.int kn), .val (.ref a5), .unset, .unset, .unset, .unset, .unset, .unset, .unset, .unset, .unset] [(.int (0 : Int32)), (.ref a5), (.int (0 : Int32)), (.ref a177), (.ref a177), (.ref a172), (.ref a172)])
        refine X174.cald Ka5_h175 (by decide) (v := .int c0) rfl (hb hby at_112) ?_
        show OEnds p e below _ T173 (mkF m 113 #[.val (.int x0), .val (.int x1), .val (.int x2), .val (.int x3), .val (.int x4), .val (.int kn), .val (.ref a5), .unset, .unset, .unset, .unset, .unset, .unset, .unset, .unset, .unset] [(.int c0), (.int (0 : Int32)), (.ref a177), (.ref a177), (.ref a172), (.ref a172)])
        refine X174.stC Ka177_0 (by decide) (up255 hc0) (i := 0) rfl (Nat.le_of_ble_eq_true rfl) gza177 (hb hby at_113) ?_
        intro T178 h180 X179 W181 Ka177_h180x
        have Ka177_h180 : Arv Z h180 a177 ka177 .char (2 : Int32) [.int c0, .int (0 : Int32)] (.int (0 : Int32)) := Ka177_h180x
        have EBa177_h180 := ext_wr E176 W181 (Nat.le_of_eq ga177)
        have Ka5_h180 := Ka5_h170.ext EBa177_h180
        have Aa172_h180 := Aa172.ext EBa177_h180
        have Fa172_value_h180 := Fa172_value.ext EBa177_h180
        have Fa172_coder_h180 := Fa172_coder.ext EBa177_h180
        have EX_h180 := ext_wr EX_h175 W181 (Nat.le_trans EX_h170.1 (Nat.le_of_eq ga177))
        have EBa5_h180 := ext_wr EBa5_h175 W181 (Nat.le_trans EBa5_h170.1 (Nat.le_of_eq ga177))
        have EBa172_h180 := ext_wr EBa172_h175 W181 (Nat.le_trans E171.1 (Nat.le_of_eq ga177))
        show OEnds p e below _ T178 (mkF m 114 #[.val (.int x0), .val (.int x1), .val (.int x2), .val (.int x3), .val (.int x4), .val (.int kn), .val (.ref a5), .unset, .unset, .unset, .unset, .unset, .unset, .unset, .unset, .unset] [(.ref a177), (.ref a172), (.ref a172)])
        refine OEnds.go (fun _ q => XS.dup X179.here X179.hx rfl (hb hby at_114) rfl rfl q) ?_
        show OEnds p e below _ T178 (mkF m 115 #[.val (.int x0), .val (.int x1), .val (.int x2), .val (.int x3), .val (.int x4), .val (.int kn), .val (.ref a5), .unset, .unset, .unset, .unset, .unset, .unset, .unset, .unset, .unset] [(.ref a177), (.ref a177), (.ref a172), (.ref a172)])
        refine OEnds.go (fun _ q => XS.iconst X179.here X179.hx rfl (hb hby at_115) q) ?_
        show OEnds p e below _ T178 (mkF m 116 #[.val (.int x0), .val (.int x1), .val (.int x2), .val (.int x3), .val (.int x4), .val (.int kn), .val (.ref a5), .unset, .unset, .unset, .unset, .unset, .unset, .unset, .unset, .unset] [(.int (1 : Int32)), (.ref a177), (.ref a177), (.ref a172), (.ref a172)])
        refine OEnds.go (fun _ q => XS.aload X179.here X179.hx rfl (hb hby at_116) rfl rfl q) ?_
        show OEnds p e below _ T178 (mkF m 118 #[.val (.int x0), .val (.int x1), .val (.int x2), .val (.int x3), .val (.int x4), .val (.int kn), .val (.ref a5), .unset, .unset, .unset, .unset, .unset, .unset, .unset, .unset, .unset] [(.ref a5), (.int (1 : Int32)), (.ref a177), (.ref a177), (.ref a172), (.ref a172)])
        refine OEnds.go (fun _ q => XS.iconst X179.here X179.hx rfl (hb hby at_118) q) ?_
        show OEnds p e below _ T178 (mkF m 119 #[.val (.int x0), .val (.int x1), .val (.int x2), .val (.int x3), .val (.int x4), .val (.int kn), .val (.ref a5), .unset, .unset, .unset, .unset, .unset, .unset, .unset, .unset, .unset] [(.int (1 : Int32)), (.ref a5), (.int (1 : Int32)), (.ref a177), (.ref a177), (.ref a172), (.ref a172)])
        refine X179.cald Ka5_h180 (by decide) (v := .int c1) rfl (hb hby at_119) ?_
        show OEnds p e below _ T178 (mkF m 120 #[.val (.int x0), .val (.int x1), .val (.int x2), .val (.int x3), .val (.int x4), .val (.int kn), .val (.ref a5), .unset, .unset, .unset, .unset, .unset, .unset, .unset, .unset, .unset] [(.int c1), (.int (1 : Int32)), (.ref a177), (.ref a177), (.ref a172), (.ref a172)])
        refine X179.stC Ka177_h180 (by decide) (up255 hc1) (i := 1) rfl (Nat.le_of_ble_eq_true rfl) gza177 (hb hby at_120) ?_
        intro T182 h184 X183 W185 Ka177_h184x
        have Ka177_h184 : Arv Z h184 a177 ka177 .char (2 : Int32) [.int c0, .int c1] (.int (0 : Int32)) := Ka177_h184x
        have EBa177_h184 := ext_wr EBa177_h180 W185 (Nat.le_of_eq ga177)
        have Ka5_h184 := Ka5_h170.ext EBa177_h184
        have Aa172_h184 := Aa172.ext EBa177_h184
        have Fa172_value_h184 := Fa172_value.ext EBa177_h184
        have Fa172_coder_h184 := Fa172_coder.ext EBa177_h184
        have EX_h184 := ext_wr EX_h180 W185 (Nat.le_trans EX_h170.1 (Nat.le_of_eq ga177))
        have EBa5_h184 := ext_wr EBa5_h180 W185 (Nat.le_trans EBa5_h170.1 (Nat.le_of_eq ga177))
        have EBa172_h184 := ext_wr EBa172_h180 W185 (Nat.le_trans E171.1 (Nat.le_of_eq ga177))
        show OEnds p e below _ T182 (mkF m 121 #[.val (.int x0), .val (.int x1), .val (.int x2), .val (.int x3), .val (.int x4), .val (.int kn), .val (.ref a5), .unset, .unset, .unset, .unset, .unset, .unset, .unset, .unset, .unset] [(.ref a177), (.ref a172), (.ref a172)])
        refine own_newStr H X183 (cs := [c0, c1]) (j := 2) gza172 Aa172_h184 Fa172_value_h184 Fa172_coder_h184 Ka177_h184 rfl rfl (by decide) (by decide) (all_cons hc0 (all_cons hc1 all_nil)) (hw _ (List.mem_of_getElem? (i := 9) rfl)) (W := 1) (by decide) (by decide) (by rw [hml]; rfl) (Nat.le_of_eq rfl) (hb hby at_121) (by decide) (by decide) ?_
        intro T186 h188 X187 K189 Str190
        have EBa172_h188 := ext_keep EBa172_h184 K189 (allS (Nat.le_of_eq ga172) all0)
        have Ka5_h188 := Ka5_h48.ext EBa172_h188
        have EX_h188 := ext_keep EX_h184 K189 (allS (Nat.le_trans EX_h48.1 (Nat.le_of_eq ga172)) all0)
        have EBa5_h188 := ext_keep EBa5_h184 K189 (allS (Nat.le_trans EBa5_h48.1 (Nat.le_of_eq ga172)) all0)
        show OEnds p e below _ T186 (mkF m 124 #[.val (.int x0), .val (.int x1), .val (.int x2), .val (.int x3), .val (.int x4), .val (.int kn), .val (.ref a5), .unset, .unset, .unset, .unset, .unset, .unset, .unset, .unset, .unset] [(.ref a172)])
        refine OEnds.go (fun _ q => XS.astore X187.here X187.hx rfl (hb hby at_124) rfl rfl (l' := #[.val (.int x0), .val (.int x1), .val (.int x2), .val (.int x3), .val (.int x4), .val (.int kn), .val (.ref a5), .val (.ref a172), .unset, .unset, .unset, .unset, .unset, .unset, .unset, .unset]) rfl q) ?_
        show OEnds p e below _ T186 (mkF m 126 #[.val (.int x0), .val (.int x1), .val (.int x2), .val (.int x3), .val (.int x4), .val (.int kn), .val (.ref a5), .val (.ref a172), .unset, .unset, .unset, .unset, .unset, .unset, .unset, .unset] [])
        refine OEnds.go (fun _ q => XS.goto X187.here X187.hx rfl (pc0 := 126) (pc' := 211) rfl (hb hby at_126) (by decide) (by decide) q) ?_
        show OEnds p e below _ T186 (mkF m 211 #[.val (.int x0), .val (.int x1), .val (.int x2), .val (.int x3), .val (.int x4), .val (.int kn), .val (.ref a5), .val (.ref a172), .unset, .unset, .unset, .unset, .unset, .unset, .unset, .unset] [])
        have hS : OStr Z h188 a172 (own_t5 kn c0 c1 c2 c3) := by
          have e : own_t5 kn c0 c1 c2 c3 = [c0, c1] := by unfold own_t5; rw [if_neg hk0, if_neg hk1, if_pos hk2]
          rw [e]; exact Str190
        exact J _ _ _ a172 (X187.mono (by decide) (by decide)) Ka5_h188 hS  
      · skip
        refine OEnds.go (fun _ q => XS.icmpYes X47.here X47.hx rfl (pc0 := 97) (pc' := 129) rfl (hb hby at_97) rfl (feq hk2).2 (by decide) (by decide) q) ?_
        show OEnds p e below _ T46 (mkF m 129 #[.val (.int x0), .val (.int x1), .val (.int x2), .val (.int x3), .val (.int x4), .val (.int kn), .val (.ref a5), .unset, .unset, .unset, .unset, .unset, .unset, .unset, .unset, .unset] [])
        refine OEnds.go (fun _ q => XS.iload X47.here X47.hx rfl (hb hby at_129) rfl q) ?_
        show OEnds p e below _ T46 (mkF m 131 #[.val (.int x0), .val (.int x1), .val (.int x2), .val (.int x3), .val (.int x4), .val (.int kn), .val (.ref a5), .unset, .unset, .unset, .unset, .unset, .unset, .unset, .unset, .unset] [(.int kn)])
        refine OEnds.go (fun _ q => XS.iconst X47.here X47.hx rfl (hb hby at_131) q) ?_
        show OEnds p e below _ T46 (mkF m 132 #[.val (.int x0), .val (.int x1), .val (.int x2), .val (.int x3), .val (.int x4), .val (.int kn), .val (.ref a5), .unset, .unset, .unset, .unset, .unset, .unset, .unset, .unset, .unset] [(.int (3 : Int32)), (.int kn)])
        by_cases hk3 : kn = (3 : Int32)
        · skip
          refine OEnds.go (fun _ q => XS.icmpNo X47.here X47.hx rfl (hb hby at_132) rfl (teq hk3).2 q) ?_
          show OEnds p e below _ T46 (mkF m 135 #[.val (.int x0), .val (.int x1), .val (.int x2), .val (.int x3), .val (.int x4), .val (.int kn), .val (.ref a5), .unset, .unset, .unset, .unset, .unset, .unset, .unset, .unset, .unset] [])
          refine X47.newO (hw _ (List.mem_of_getElem? (i := 6) rfl)) (hw _ (List.mem_of_getElem? (i := 7) rfl)) (hw _ (List.mem_of_getElem? (i := 8) rfl)) (hb hby at_135) (by decide) (by decide) ?_
          intro T191 h193 a195 ga195 X192 E194 Aa195 Da195 Ua195
          have gza195 : Z.heap.size ≤ a195 := ga195 ▸ X47.old.1
          have Ka5_h193 := Ka5_h48.ext E194
          have EBa5_h193 := ext_trans EBa5_h48 E194
          have EX_h193 := ext_trans EX_h48 E194
          have Fa195_value : Fld Z h193 a195 "java/lang/String" "value" "[B" .null := Da195 (Or.inr (hw _ (List.mem_of_getElem? (i := 21) rfl))) (ty := (FieldType.array FieldType.byte)) (by decide)
          have Fa195_coder : Fld Z h193 a195 "java/lang/String" "coder" "B" (.int (0 : Int32)) := Da195 (Or.inr (hw _ (List.mem_of_getElem? (i := 22) rfl))) (ty := FieldType.byte) (by decide)
          show OEnds p e below _ T191 (mkF m 138 #[.val (.int x0), .val (.int x1), .val (.int x2), .val (.int x3), .val (.int x4), .val (.int kn), .val (.ref a5), .unset, .unset, .unset, .unset, .unset, .unset, .unset, .unset, .unset] [(.ref a195)])
          refine OEnds.go (fun _ q => XS.dup X192.here X192.hx rfl (hb hby at_138) rfl rfl q) ?_
          show OEnds p e below _ T191 (mkF m 139 #[.val (.int x0), .val (.int x1), .val (.int x2), .val (.int x3), .val (.int x4), .val (.int kn), .val (.ref a5), .unset, .unset, .unset, .unset, .unset, .unset, .unset, .unset, .unset] [(.ref a195), (.ref a195)])
          refine OEnds.go (fun _ q => XS.iconst X192.here X192.hx rfl (hb hby at_139) q) ?_
          show OEnds p e below _ T191 (mkF m 140 #[.val (.int x0), .val (.int x1), .val (.int x2), .val (.int x3), .val (.int x4), .val (.int kn), .val (.ref a5), .unset, .unset, .unset, .unset, .unset, .unset, .unset, .unset, .unset] [(.int (3 : Int32)), (.ref a195), (.ref a195)])
          refine X192.newP (hw _ (List.mem_of_getElem? (i := 1) rfl)) (hb hby at_140) (by decide) (cap := 3) (by decide) (by decide) (by decide) (by decide) ?_
          intro T196 h198 a200 ka200 ga200 X197 E199 Ka200
          have gza200 : Z.heap.size ≤ a200 := ga200 ▸ X192.old.1
          have Ka5_h198 := Ka5_h193.ext E199
          have Aa195_h198 := Aa195.ext E199
          have Fa195_value_h198 := Fa195_value.ext E199
          have Fa195_coder_h198 := Fa195_coder.ext E199
          have EBa5_h198 := ext_trans EBa5_h193 E199
          have EBa195_h198 := ext_trans E194 E199
          have EX_h198 := ext_trans EX_h193 E199
          have Ka200_0 : Arv Z h198 a200 ka200 .char (3 : Int32) [.int (0 : Int32), .int (0 : Int32), .int (0 : Int32)] (.int (0 : Int32)) := Ka200.pad (pad_rep [] (.int (0 : Int32)) 3)
          show OEnds p e below _ T196 (mkF m 142 #[.val (.int x0), .val (.int x1), .val (.int x2), .val (.int x3), .val (.int x4), .val (.int kn), .val (.ref a5), .unset, .unset, .unset, .unset, .unset, .unset, .unset, .unset, .unset] [(.ref a200), (.ref a195), (.ref a195)])
          refine OEnds.go (fun _ q => XS.dup X197.here X197.hx rfl (hb hby at_142) rfl rfl q) ?_
          show OEnds p e below _ T196 (mkF m 143 #[.val (.int x0), .val (.int x1), .val (.int x2), .val (.int x3), .val (.int x4), .val (.int kn), .val (.ref a5), .unset, .unset, .unset, .unset, .unset, .unset, .unset, .unset, .unset] [(.ref a200), (.ref a200), (.ref a195), (.ref a195)])
          refine OEnds.go (fun _ q => XS.iconst X197.here X197.hx rfl (hb hby at_143) q) ?_
          show OEnds p e below _ T196 (mkF m 144 #[.val (.int x0), .val (.int x1), .val (.int x2), .val (.int x3), .val (.int x4), .val (.int kn), .val (.ref a5), .unset, .unset, .unset, .unset, .unset, .unset, .unset, .unset, .unset] [(.int (0 : Int32)), (.ref a200), (.ref a200), (.ref a195), (.ref a195)])
          refine OEnds.go (fun _ q => XS.aload X197.here X197.hx rfl (hb hby at_144) rfl rfl q) ?_
          show OEnds p e below _ T196 (mkF m 146 #[.val (.int x0), .val (.int x1), .val (.int x2), .val (.int x3), .val (.int x4), .val (.int kn), .val (.ref a5), .unset, .unset, .unset, .unset, .unset, .unset, .unset, .unset, .unset] [(.ref a5), (.int (0 : Int32)), (.ref a200), (.ref a200), (.ref a195), (.ref a195)])
          refine OEnds.go (fun _ q => XS.iconst X197.here X197.hx rfl (hb hby at_146) q) ?_
          show OEnds p e below _ T196 (mkF m 147 #[.val (.int x0), .val (.int x1), .val (.int x2), .val (.int x3), .val (.int x4), .val (.int kn), .val (.ref a5), .unset, .unset, .unset, .unset, .unset, .unset, .unset, .unset, .unset] [(.int (0 : Int32)), (.ref a5), (.int (0 : Int32)), (.ref a200), (.ref a200), (.ref a195), (.ref a195)])
          refine X197.cald Ka5_h198 (by decide) (v := .int c0) rfl (hb hby at_147) ?_
          show OEnds p e below _ T196 (mkF m 148 #[.val (.int x0), .val (.int x1), .val (.int x2), .val (.int x3), .val (.int x4), .val (.int kn), .val (.ref a5), .unset, .unset, .unset, .unset, .unset, .unset, .unset, .unset, .unset] [(.int c0), (.int (0 : Int32)), (.ref a200), (.ref a200), (.ref a195), (.ref a195)])
          refine X197.stC Ka200_0 (by decide) (up255 hc0) (i := 0) rfl (Nat.le_of_ble_eq_true rfl) gza200 (hb hby at_148) ?_
          intro T201 h203 X202 W204 Ka200_h203x
          have Ka200_h203 : Arv Z h203 a200 ka200 .char (3 : Int32) [.int c0, .int (0 : Int32), .int (0 : Int32)] (.int (0 : Int32)) := Ka200_h203x
          have EBa200_h203 := ext_wr E199 W204 (Nat.le_of_eq ga200)
          have Ka5_h203 := Ka5_h193.ext EBa200_h203
          have Aa195_h203 := Aa195.ext EBa200_h203
          have Fa195_value_h203 := Fa195_value.ext EBa200_h203
          have Fa195_coder_h203 := Fa195_coder.ext EBa200_h203
          have EX_h203 := ext_wr EX_h198 W204 (Nat.le_trans EX_h193.1 (Nat.le_of_eq ga200))
          have EBa5_h203 := ext_wr EBa5_h198 W204 (Nat.le_trans EBa5_h193.1 (Nat.le_of_eq ga200))
          have EBa195_h203 := ext_wr EBa195_h198 W204 (Nat.le_trans E194.1 (Nat.le_of_eq ga200))
          show OEnds p e below _ T201 (mkF m 149 #[.val (.int x0), .val (.int x1), .val (.int x2), .val (.int x3), .val (.int x4), .val (.int kn), .val (.ref a5), .unset, .unset, .unset, .unset, .unset, .unset, .unset, .unset, .unset] [(.ref a200), (.ref a195), (.ref a195)])
          refine OEnds.go (fun _ q => XS.dup X202.here X202.hx rfl (hb hby at_149) rfl rfl q) ?_
          show OEnds p e below _ T201 (mkF m 150 #[.val (.int x0), .val (.int x1), .val (.int x2), .val (.int x3), .val (.int x4), .val (.int kn), .val (.ref a5), .unset, .unset, .unset, .unset, .unset, .unset, .unset, .unset, .unset] [(.ref a200), (.ref a200), (.ref a195), (.ref a195)])
          refine OEnds.go (fun _ q => XS.iconst X202.here X202.hx rfl (hb hby at_150) q) ?_
          show OEnds p e below _ T201 (mkF m 151 #[.val (.int x0), .val (.int x1), .val (.int x2), .val (.int x3), .val (.int x4), .val (.int kn), .val (.ref a5), .unset, .unset, .unset, .unset, .unset, .unset, .unset, .unset, .unset] [(.int (1 : Int32)), (.ref a200), (.ref a200), (.ref a195), (.ref a195)])
          refine OEnds.go (fun _ q => XS.aload X202.here X202.hx rfl (hb hby at_151) rfl rfl q) ?_
          show OEnds p e below _ T201 (mkF m 153 #[.val (.int x0), .val (.int x1), .val (.int x2), .val (.int x3), .val (.int x4), .val (.int kn), .val (.ref a5), .unset, .unset, .unset, .unset, .unset, .unset, .unset, .unset, .unset] [(.ref a5), (.int (1 : Int32)), (.ref a200), (.ref a200), (.ref a195), (.ref a195)])
          refine OEnds.go (fun _ q => XS.iconst X202.here X202.hx rfl (hb hby at_153) q) ?_
          show OEnds p e below _ T201 (mkF m 154 #[.val (.int x0), .val (.int x1), .val (.int x2), .val (.int x3), .val (.int x4), .val (.int kn), .val (.ref a5), .unset, .unset, .unset, .unset, .unset, .unset, .unset, .unset, .unset] [(.int (1 : Int32)), (.ref a5), (.int (1 : Int32)), (.ref a200), (.ref a200), (.ref a195), (.ref a195)])
          refine X202.cald Ka5_h203 (by decide) (v := .int c1) rfl (hb hby at_154) ?_
          show OEnds p e below _ T201 (mkF m 155 #[.val (.int x0), .val (.int x1), .val (.int x2), .val (.int x3), .val (.int x4), .val (.int kn), .val (.ref a5), .unset, .unset, .unset, .unset, .unset, .unset, .unset, .unset, .unset] [(.int c1), (.int (1 : Int32)), (.ref a200), (.ref a200), (.ref a195), (.ref a195)])
          refine X202.stC Ka200_h203 (by decide) (up255 hc1) (i := 1) rfl (Nat.le_of_ble_eq_true rfl) gza200 (hb hby at_155) ?_
          intro T205 h207 X206 W208 Ka200_h207x
          have Ka200_h207 : Arv Z h207 a200 ka200 .char (3 : Int32) [.int c0, .int c1, .int (0 : Int32)] (.int (0 : Int32)) := Ka200_h207x
          have EBa200_h207 := ext_wr EBa200_h203 W208 (Nat.le_of_eq ga200)
          have Ka5_h207 := Ka5_h193.ext EBa200_h207
          have Aa195_h207 := Aa195.ext EBa200_h207
          have Fa195_value_h207 := Fa195_value.ext EBa200_h207
          have Fa195_coder_h207 := Fa195_coder.ext EBa200_h207
          have EX_h207 := ext_wr EX_h203 W208 (Nat.le_trans EX_h193.1 (Nat.le_of_eq ga200))
          have EBa5_h207 := ext_wr EBa5_h203 W208 (Nat.le_trans EBa5_h193.1 (Nat.le_of_eq ga200))
          have EBa195_h207 := ext_wr EBa195_h203 W208 (Nat.le_trans E194.1 (Nat.le_of_eq ga200))
          show OEnds p e below _ T205 (mkF m 156 #[.val (.int x0), .val (.int x1), .val (.int x2), .val (.int x3), .val (.int x4), .val (.int kn), .val (.ref a5), .unset, .unset, .unset, .unset, .unset, .unset, .unset, .unset, .unset] [(.ref a200), (.ref a195), (.ref a195)])
          refine OEnds.go (fun _ q => XS.dup X206.here X206.hx rfl (hb hby at_156) rfl rfl q) ?_
          show OEnds p e below _ T205 (mkF m 157 #[.val (.int x0), .val (.int x1), .val (.int x2), .val (.int x3), .val (.int x4), .val (.int kn), .val (.ref a5), .unset, .unset, .unset, .unset, .unset, .unset, .unset, .unset, .unset] [(.ref a200), (.ref a200), (.ref a195), (.ref a195)])
          refine OEnds.go (fun _ q => XS.iconst X206.here X206.hx rfl (hb hby at_157) q) ?_
          show OEnds p e below _ T205 (mkF m 158 #[.val (.int x0), .val (.int x1), .val (.int x2), .val (.int x3), .val (.int x4), .val (.int kn), .val (.ref a5), .unset, .unset, .unset, .unset, .unset, .unset, .unset, .unset, .unset] [(.int (2 : Int32)), (.ref a200), (.ref a200), (.ref a195), (.ref a195)])
          refine OEnds.go (fun _ q => XS.aload X206.here X206.hx rfl (hb hby at_158) rfl rfl q) ?_
          show OEnds p e below _ T205 (mkF m 160 #[.val (.int x0), .val (.int x1), .val (.int x2), .val (.int x3), .val (.int x4), .val (.int kn), .val (.ref a5), .unset, .unset, .unset, .unset, .unset, .unset, .unset, .unset, .unset] [(.ref a5), (.int (2 : Int32)), (.ref a200), (.ref a200), (.ref a195), (.ref a195)])
          refine OEnds.go (fun _ q => XS.iconst X206.here X206.hx rfl (hb hby at_160) q) ?_
          show OEnds p e below _ T205 (mkF m 161 #[.val (.int x0), .val (.int x1), .val (.int x2), .val (.int x3), .val (.int x4), .val (.int kn), .val (.ref a5), .unset, .unset, .unset, .unset, .unset, .unset, .unset, .unset, .unset] [(.int (2 : Int32)), (.ref a5), (.int (2 : Int32)), (.ref a200), (.ref a200), (.ref a195), (.ref a195)])
          refine X206.cald Ka5_h207 (by decide) (v := .int c2) rfl (hb hby at_161) ?_
          show OEnds p e below _ T205 (mkF m 162 #[.val (.int x0), .val (.int x1), .val (.int x2), .val (.int x3), .val (.int x4), .val (.int kn), .val (.ref a5), .unset, .unset, .unset, .unset, .unset, .unset, .unset, .unset, .unset] [(.int c2), (.int (2 : Int32)), (.ref a200), (.ref a200), (.ref a195), (.ref a195)])
          refine X206.stC Ka200_h207 (by decide) (up255 hc2) (i := 2) rfl (Nat.le_of_ble_eq_true rfl) gza200 (hb hby at_162) ?_
          intro T209 h211 X210 W212 Ka200_h211x
          have Ka200_h211 : Arv Z h211 a200 ka200 .char (3 : Int32) [.int c0, .int c1, .int c2] (.int (0 : Int32)) := Ka200_h211x
          have EBa200_h211 := ext_wr EBa200_h207 W212 (Nat.le_of_eq ga200)
          have Ka5_h211 := Ka5_h193.ext EBa200_h211
          have Aa195_h211 := Aa195.ext EBa200_h211
          have Fa195_value_h211 := Fa195_value.ext EBa200_h211
          have Fa195_coder_h211 := Fa195_coder.ext EBa200_h211
          have EX_h211 := ext_wr EX_h207 W212 (Nat.le_trans EX_h193.1 (Nat.le_of_eq ga200))
          have EBa5_h211 := ext_wr EBa5_h207 W212 (Nat.le_trans EBa5_h193.1 (Nat.le_of_eq ga200))
          have EBa195_h211 := ext_wr EBa195_h207 W212 (Nat.le_trans E194.1 (Nat.le_of_eq ga200))
          show OEnds p e below _ T209 (mkF m 163 #[.val (.int x0), .val (.int x1), .val (.int x2), .val (.int x3), .val (.int x4), .val (.int kn), .val (.ref a5), .unset, .unset, .unset, .unset, .unset, .unset, .unset, .unset, .unset] [(.ref a200), (.ref a195), (.ref a195)])
          refine own_newStr H X210 (cs := [c0, c1, c2]) (j := 3) gza195 Aa195_h211 Fa195_value_h211 Fa195_coder_h211 Ka200_h211 rfl rfl (by decide) (by decide) (all_cons hc0 (all_cons hc1 (all_cons hc2 all_nil))) (hw _ (List.mem_of_getElem? (i := 9) rfl)) (W := 1) (by decide) (by decide) (by rw [hml]; rfl) (Nat.le_of_eq rfl) (hb hby at_163) (by decide) (by decide) ?_
          intro T213 h215 X214 K216 Str217
          have EBa195_h215 := ext_keep EBa195_h211 K216 (allS (Nat.le_of_eq ga195) all0)
          have Ka5_h215 := Ka5_h48.ext EBa195_h215
          have EX_h215 := ext_keep EX_h211 K216 (allS (Nat.le_trans EX_h48.1 (Nat.le_of_eq ga195)) all0)
          have EBa5_h215 := ext_keep EBa5_h211 K216 (allS (Nat.le_trans EBa5_h48.1 (Nat.le_of_eq ga195)) all0)
          show OEnds p e below _ T213 (mkF m 166 #[.val (.int x0), .val (.int x1), .val (.int x2), .val (.int x3), .val (.int x4), .val (.int kn), .val (.ref a5), .unset, .unset, .unset, .unset, .unset, .unset, .unset, .unset, .unset] [(.ref a195)])
          refine OEnds.go (fun _ q => XS.astore X214.here X214.hx rfl (hb hby at_166) rfl rfl (l' := #[.val (.int x0), .val (.int x1), .val (.int x2), .val (.int x3), .val (.int x4), .val (.int kn), .val (.ref a5), .val (.ref a195), .unset, .unset, .unset, .unset, .unset, .unset, .unset, .unset]) rfl q) ?_
          show OEnds p e below _ T213 (mkF m 168 #[.val (.int x0), .val (.int x1), .val (.int x2), .val (.int x3), .val (.int x4), .val (.int kn), .val (.ref a5), .val (.ref a195), .unset, .unset, .unset, .unset, .unset, .unset, .unset, .unset] [])
          refine OEnds.go (fun _ q => XS.goto X214.here X214.hx rfl (pc0 := 168) (pc' := 211) rfl (hb hby at_168) (by decide) (by decide) q) ?_
          show OEnds p e below _ T213 (mkF m 211 #[.val (.int x0), .val (.int x1), .val (.int x2), .val (.int x3), .val (.int x4), .val (.int kn), .val (.ref a5), .val (.ref a195), .unset, .unset, .unset, .unset, .unset, .unset, .unset, .unset] [])
          have hS : OStr Z h215 a195 (own_t5 kn c0 c1 c2 c3) := by
            have e : own_t5 kn c0 c1 c2 c3 = [c0, c1, c2] := by unfold own_t5; rw [if_neg hk0, if_neg hk1, if_neg hk2, if_pos hk3]
            rw [e]; exact Str217
          exact J _ _ _ a195 (X214.mono (by decide) (by decide)) Ka5_h215 hS  
        · skip
          refine OEnds.go (fun _ q => XS.icmpYes X47.here X47.hx rfl (pc0 := 132) (pc' := 171) rfl (hb hby at_132) rfl (feq hk3).2 (by decide) (by decide) q) ?_
          show OEnds p e below _ T46 (mkF m 171 #[.val (.int x0), .val (.int x1), .val (.int x2), .val (.int x3), .val (.int x4), .val (.int kn), .val (.ref a5), .unset, .unset, .unset, .unset, .unset, .unset, .unset, .unset, .unset] [])
          refine X47.newO (hw _ (List.mem_of_getElem? (i := 6) rfl)) (hw _ (List.mem_of_getElem? (i := 7) rfl)) (hw _ (List.mem_of_getElem? (i := 8) rfl)) (hb hby at_171) (by decide) (by decide) ?_
          intro T218 h220 a222 ga222 X219 E221 Aa222 Da222 Ua222
          have gza222 : Z.heap.size ≤ a222 := ga222 ▸ X47.old.1
          have Ka5_h220 := Ka5_h48.ext E221
          have EBa5_h220 := ext_trans EBa5_h48 E221
          have EX_h220 := ext_trans EX_h48 E221
          have Fa222_value : Fld Z h220 a222 "java/lang/String" "value" "[B" .null := Da222 (Or.inr (hw _ (List.mem_of_getElem? (i := 21) rfl))) (ty := (FieldType.array FieldType.byte)) (by decide)
          have Fa222_coder : Fld Z h220 a222 "java/lang/String" "coder" "B" (.int (0 : Int32)) := Da222 (Or.inr (hw _ (List.mem_of_getElem? (i := 22) rfl))) (ty := FieldType.byte) (by decide)
          show OEnds p e below _ T218 (mkF m 174 #[.val (.int x0), .val (.int x1), .val (.int x2), .val (.int x3), .val (.int x4), .val (.int kn), .val (.ref a5), .unset, .unset, .unset, .unset, .unset, .unset, .unset, .unset, .unset] [(.ref a222)])
          refine OEnds.go (fun _ q => XS.dup X219.here X219.hx rfl (hb hby at_174) rfl rfl q) ?_
          show OEnds p e below _ T218 (mkF m 175 #[.val (.int x0), .val (.int x1), .val (.int x2), .val (.int x3), .val (.int x4), .val (.int kn), .val (.ref a5), .unset, .unset, .unset, .unset, .unset, .unset, .unset, .unset, .unset] [(.ref a222), (.ref a222)])
          refine OEnds.go (fun _ q => XS.iconst X219.here X219.hx rfl (hb hby at_175) q) ?_
          show OEnds p e below _ T218 (mkF m 176 #[.val (.int x0), .val (.int x1), .val (.int x2), .val (.int x3), .val (.int x4), .val (.int kn), .val (.ref a5), .unset, .unset, .unset, .unset, .unset, .unset, .unset, .unset, .unset] [(.int (4 : Int32)), (.ref a222), (.ref a222)])
          refine X219.newP (hw _ (List.mem_of_getElem? (i := 1) rfl)) (hb hby at_176) (by decide) (cap := 4) (by decide) (by decide) (by decide) (by decide) ?_
          intro T223 h225 a227 ka227 ga227 X224 E226 Ka227
          have gza227 : Z.heap.size ≤ a227 := ga227 ▸ X219.old.1
          have Ka5_h225 := Ka5_h220.ext E226
          have Aa222_h225 := Aa222.ext E226
          have Fa222_value_h225 := Fa222_value.ext E226
          have Fa222_coder_h225 := Fa222_coder.ext E226
          have EBa5_h225 := ext_trans EBa5_h220 E226
          have EBa222_h225 := ext_trans E221 E226
          have EX_h225 := ext_trans EX_h220 E226
          have Ka227_0 : Arv Z h225 a227 ka227 .char (4 : Int32) [.int (0 : Int32), .int (0 : Int32), .int (0 : Int32), .int (0 : Int32)] (.int (0 : Int32)) := Ka227.pad (pad_rep [] (.int (0 : Int32)) 4)
          show OEnds p e below _ T223 (mkF m 178 #[.val (.int x0), .val (.int x1), .val (.int x2), .val (.int x3), .val (.int x4), .val (.int kn), .val (.ref a5), .unset, .unset, .unset, .unset, .unset, .unset, .unset, .unset, .unset] [(.ref a227), (.ref a222), (.ref a222)])
          refine OEnds.go (fun _ q => XS.dup X224.here X224.hx rfl (hb hby at_178) rfl rfl q) ?_
          show OEnds p e below _ T223 (mkF m 179 #[.val (.int x0), .val (.int x1), .val (.int x2), .val (.int x3), .val (.int x4), .val (.int kn), .val (.ref a5), .unset, .unset, .unset, .unset, .unset, .unset, .unset, .unset, .unset] [(.ref a227), (.ref a227), (.ref a222), (.ref a222)])
          refine OEnds.go (fun _ q => XS.iconst X224.here X224.hx rfl (hb hby at_179) q) ?_
          show OEnds p e below _ T223 (mkF m 180 #[.val (.int x0), .val (.int x1), .val (.int x2), .val (.int x3), .val (.int x4), .val (.int kn), .val (.ref a5), .unset, .unset, .unset, .unset, .unset, .unset, .unset, .unset, .unset] [(.int (0 : Int32)), (.ref a227), (.ref a227), (.ref a222), (.ref a222)])
          refine OEnds.go (fun _ q => XS.aload X224.here X224.hx rfl (hb hby at_180) rfl rfl q) ?_
          show OEnds p e below _ T223 (mkF m 182 #[.val (.int x0), .val (.int x1), .val (.int x2), .val (.int x3), .val (.int x4), .val (.int kn), .val (.ref a5), .unset, .unset, .unset, .unset, .unset, .unset, .unset, .unset, .unset] [(.ref a5), (.int (0 : Int32)), (.ref a227), (.ref a227), (.ref a222), (.ref a222)])
          refine OEnds.go (fun _ q => XS.iconst X224.here X224.hx rfl (hb hby at_182) q) ?_
          show OEnds p e below _ T223 (mkF m 183 #[.val (.int x0), .val (.int x1), .val (.int x2), .val (.int x3), .val (.int x4), .val (.int kn), .val (.ref a5), .unset, .unset, .unset, .unset, .unset, .unset, .unset, .unset, .unset] [(.int (0 : Int32)), (.ref a5), (.int (0 : Int32)), (.ref a227), (.ref a227), (.ref a222), (.ref a222)])
          refine X224.cald Ka5_h225 (by decide) (v := .int c0) rfl (hb hby at_183) ?_
          show OEnds p e below _ T223 (mkF m 184 #[.val (.int x0), .val (.int x1), .val (.int x2), .val (.int x3), .val (.int x4), .val (.int kn), .val (.ref a5), .unset, .unset, .unset, .unset, .unset, .unset, .unset, .unset, .unset] [(.int c0), (.int (0 : Int32)), (.ref a227), (.ref a227), (.ref a222), (.ref a222)])
          refine X224.stC Ka227_0 (by decide) (up255 hc0) (i := 0) rfl (Nat.le_of_ble_eq_true rfl) gza227 (hb hby at_184) ?_
          intro T228 h230 X229 W231 Ka227_h230x
          have Ka227_h230 : Arv Z h230 a227 ka227 .char (4 : Int32) [.int c0, .int (0 : Int32), .int (0 : Int32), .int (0 : Int32)] (.int (0 : Int32)) := Ka227_h230x
          have EBa227_h230 := ext_wr E226 W231 (Nat.le_of_eq ga227)
          have Ka5_h230 := Ka5_h220.ext EBa227_h230
          have Aa222_h230 := Aa222.ext EBa227_h230
          have Fa222_value_h230 := Fa222_value.ext EBa227_h230
          have Fa222_coder_h230 := Fa222_coder.ext EBa227_h230
          have EX_h230 := ext_wr EX_h225 W231 (Nat.le_trans EX_h220.1 (Nat.le_of_eq ga227))
          have EBa5_h230 := ext_wr EBa5_h225 W231 (Nat.le_trans EBa5_h220.1 (Nat.le_of_eq ga227))
          have EBa222_h230 := ext_wr EBa222_h225 W231 (Nat.le_trans E221.1 (Nat.le_of_eq ga227))
          show OEnds p e below _ T228 (mkF m 185 #[.val (.int x0), .val (.int x1), .val (.int x2), .val (.int x3), .val (.int x4), .val (.int kn), .val (.ref a5), .unset, .unset, .unset, .unset, .unset, .unset, .unset, .unset, .unset] [(.ref a227), (.ref a222), (.ref a222)])
          refine OEnds.go (fun _ q => XS.dup X229.here X229.hx rfl (hb hby at_185) rfl rfl q) ?_
          show OEnds p e below _ T228 (mkF m 186 #[.val (.int x0), .val (.int x1), .val (.int x2), .val (.int x3), .val (.int x4), .val (.int kn), .val (.ref a5), .unset, .unset, .unset, .unset, .unset, .unset, .unset, .unset, .unset] [(.ref a227), (.ref a227), (.ref a222), (.ref a222)])
          refine OEnds.go (fun _ q => XS.iconst X229.here X229.hx rfl (hb hby at_186) q) ?_
          show OEnds p e below _ T228 (mkF m 187 #[.val (.int x0), .val (.int x1), .val (.int x2), .val (.int x3), .val (.int x4), .val (.int kn), .val (.ref a5), .unset, .unset, .unset, .unset, .unset, .unset, .unset, .unset, .unset] [(.int (1 : Int32)), (.ref a227), (.ref a227), (.ref a222), (.ref a222)])
          refine OEnds.go (fun _ q => XS.aload X229.here X229.hx rfl (hb hby at_187) rfl rfl q) ?_
          show OEnds p e below _ T228 (mkF m 189 #[.val (.int x0), .val (.int x1), .val (.int x2), .val (.int x3), .val (.int x4), .val (.int kn), .val (.ref a5), .unset, .unset, .unset, .unset, .unset, .unset, .unset, .unset, .unset] [(.ref a5), (.int (1 : Int32)), (.ref a227), (.ref a227), (.ref a222), (.ref a222)])
          refine OEnds.go (fun _ q => XS.iconst X229.here X229.hx rfl (hb hby at_189) q) ?_
          show OEnds p e below _ T228 (mkF m 190 #[.val (.int x0), .val (.int x1), .val (.int x2), .val (.int x3), .val (.int x4), .val (.int kn), .val (.ref a5), .unset, .unset, .unset, .unset, .unset, .unset, .unset, .unset, .unset] [(.int (1 : Int32)), (.ref a5), (.int (1 : Int32)), (.ref a227), (.ref a227), (.ref a222), (.ref a222)])
          refine X229.cald Ka5_h230 (by decide) (v := .int c1) rfl (hb hby at_190) ?_
          show OEnds p e below _ T228 (mkF m 191 #[.val (.int x0), .val (.int x1), .val (.int x2), .val (.int x3), .val (.int x4), .val (.int kn), .val (.ref a5), .unset, .unset, .unset, .unset, .unset, .unset, .unset, .unset, .unset] [(.int c1), (.int (1 : Int32)), (.ref a227), (.ref a227), (.ref a222), (.ref a222)])
          refine X229.stC Ka227_h230 (by decide) (up255 hc1) (i := 1) rfl (Nat.le_of_ble_eq_true rfl) gza227 (hb hby at_191) ?_
          intro T232 h234 X233 W235 Ka227_h234x
          have Ka227_h234 : Arv Z h234 a227 ka227 .char (4 : Int32) [.int c0, .int c1, .int (0 : Int32), .int (0 : Int32)] (.int (0 : Int32)) := Ka227_h234x
          have EBa227_h234 := ext_wr EBa227_h230 W235 (Nat.le_of_eq ga227)
          have Ka5_h234 := Ka5_h220.ext EBa227_h234
          have Aa222_h234 := Aa222.ext EBa227_h234
          have Fa222_value_h234 := Fa222_value.ext EBa227_h234
          have Fa222_coder_h234 := Fa222_coder.ext EBa227_h234
          have EX_h234 := ext_wr EX_h230 W235 (Nat.le_trans EX_h220.1 (Nat.le_of_eq ga227))
          have EBa5_h234 := ext_wr EBa5_h230 W235 (Nat.le_trans EBa5_h220.1 (Nat.le_of_eq ga227))
          have EBa222_h234 := ext_wr EBa222_h230 W235 (Nat.le_trans E221.1 (Nat.le_of_eq ga227))
          show OEnds p e below _ T232 (mkF m 192 #[.val (.int x0), .val (.int x1), .val (.int x2), .val (.int x3), .val (.int x4), .val (.int kn), .val (.ref a5), .unset, .unset, .unset, .unset, .unset, .unset, .unset, .unset, .unset] [(.ref a227), (.ref a222), (.ref a222)])
          refine OEnds.go (fun _ q => XS.dup X233.here X233.hx rfl (hb hby at_192) rfl rfl q) ?_
          show OEnds p e below _ T232 (mkF m 193 #[.val (.int x0), .val (.int x1), .val (.int x2), .val (.int x3), .val (.int x4), .val (.int kn), .val (.ref a5), .unset, .unset, .unset, .unset, .unset, .unset, .unset, .unset, .unset] [(.ref a227), (.ref a227), (.ref a222), (.ref a222)])
          refine OEnds.go (fun _ q => XS.iconst X233.here X233.hx rfl (hb hby at_193) q) ?_
          show OEnds p e below _ T232 (mkF m 194 #[.val (.int x0), .val (.int x1), .val (.int x2), .val (.int x3), .val (.int x4), .val (.int kn), .val (.ref a5), .unset, .unset, .unset, .unset, .unset, .unset, .unset, .unset, .unset] [(.int (2 : Int32)), (.ref a227), (.ref a227), (.ref a222), (.ref a222)])
          refine OEnds.go (fun _ q => XS.aload X233.here X233.hx rfl (hb hby at_194) rfl rfl q) ?_
          show OEnds p e below _ T232 (mkF m 196 #[.val (.int x0), .val (.int x1), .val (.int x2), .val (.int x3), .val (.int x4), .val (.int kn), .val (.ref a5), .unset, .unset, .unset, .unset, .unset, .unset, .unset, .unset, .unset] [(.ref a5), (.int (2 : Int32)), (.ref a227), (.ref a227), (.ref a222), (.ref a222)])
          refine OEnds.go (fun _ q => XS.iconst X233.here X233.hx rfl (hb hby at_196) q) ?_
          show OEnds p e below _ T232 (mkF m 197 #[.val (.int x0), .val (.int x1), .val (.int x2), .val (.int x3), .val (.int x4), .val (.int kn), .val (.ref a5), .unset, .unset, .unset, .unset, .unset, .unset, .unset, .unset, .unset] [(.int (2 : Int32)), (.ref a5), (.int (2 : Int32)), (.ref a227), (.ref a227), (.ref a222), (.ref a222)])
          refine X233.cald Ka5_h234 (by decide) (v := .int c2) rfl (hb hby at_197) ?_
          show OEnds p e below _ T232 (mkF m 198 #[.val (.int x0), .val (.int x1), .val (.int x2), .val (.int x3), .val (.int x4), .val (.int kn), .val (.ref a5), .unset, .unset, .unset, .unset, .unset, .unset, .unset, .unset, .unset] [(.int c2), (.int (2 : Int32)), (.ref a227), (.ref a227), (.ref a222), (.ref a222)])
          refine X233.stC Ka227_h234 (by decide) (up255 hc2) (i := 2) rfl (Nat.le_of_ble_eq_true rfl) gza227 (hb hby at_198) ?_
          intro T236 h238 X237 W239 Ka227_h238x
          have Ka227_h238 : Arv Z h238 a227 ka227 .char (4 : Int32) [.int c0, .int c1, .int c2, .int (0 : Int32)] (.int (0 : Int32)) := Ka227_h238x
          have EBa227_h238 := ext_wr EBa227_h234 W239 (Nat.le_of_eq ga227)
          have Ka5_h238 := Ka5_h220.ext EBa227_h238
          have Aa222_h238 := Aa222.ext EBa227_h238
          have Fa222_value_h238 := Fa222_value.ext EBa227_h238
          have Fa222_coder_h238 := Fa222_coder.ext EBa227_h238
          have EX_h238 := ext_wr EX_h234 W239 (Nat.le_trans EX_h220.1 (Nat.le_of_eq ga227))
          have EBa5_h238 := ext_wr EBa5_h234 W239 (Nat.le_trans EBa5_h220.1 (Nat.le_of_eq ga227))
          have EBa222_h238 := ext_wr EBa222_h234 W239 (Nat.le_trans E221.1 (Nat.le_of_eq ga227))
          show OEnds p e below _ T236 (mkF m 199 #[.val (.int x0), .val (.int x1), .val (.int x2), .val (.int x3), .val (.int x4), .val (.int kn), .val (.ref a5), .unset, .unset, .unset, .unset, .unset, .unset, .unset, .unset, .unset] [(.ref a227), (.ref a222), (.ref a222)])
          refine OEnds.go (fun _ q => XS.dup X237.here X237.hx rfl (hb hby at_199) rfl rfl q) ?_
          show OEnds p e below _ T236 (mkF m 200 #[.val (.int x0), .val (.int x1), .val (.int x2), .val (.int x3), .val (.int x4), .val (.int kn), .val (.ref a5), .unset, .unset, .unset, .unset, .unset, .unset, .unset, .unset, .unset] [(.ref a227), (.ref a227), (.ref a222), (.ref a222)])
          refine OEnds.go (fun _ q => XS.iconst X237.here X237.hx rfl (hb hby at_200) q) ?_
          show OEnds p e below _ T236 (mkF m 201 #[.val (.int x0), .val (.int x1), .val (.int x2), .val (.int x3), .val (.int x4), .val (.int kn), .val (.ref a5), .unset, .unset, .unset, .unset, .unset, .unset, .unset, .unset, .unset] [(.int (3 : Int32)), (.ref a227), (.ref a227), (.ref a222), (.ref a222)])
          refine OEnds.go (fun _ q => XS.aload X237.here X237.hx rfl (hb hby at_201) rfl rfl q) ?_
          show OEnds p e below _ T236 (mkF m 203 #[.val (.int x0), .val (.int x1), .val (.int x2), .val (.int x3), .val (.int x4), .val (.int kn), .val (.ref a5), .unset, .unset, .unset, .unset, .unset, .unset, .unset, .unset, .unset] [(.ref a5), (.int (3 : Int32)), (.ref a227), (.ref a227), (.ref a222), (.ref a222)])
          refine OEnds.go (fun _ q => XS.iconst X237.here X237.hx rfl (hb hby at_203) q) ?_
          show OEnds p e below _ T236 (mkF m 204 #[.val (.int x0), .val (.int x1), .val (.int x2), .val (.int x3), .val (.int x4), .val (.int kn), .val (.ref a5), .unset, .unset, .unset, .unset, .unset, .unset, .unset, .unset, .unset] [(.int (3 : Int32)), (.ref a5), (.int (3 : Int32)), (.ref a227), (.ref a227), (.ref a222), (.ref a222)])
          refine X237.cald Ka5_h238 (by decide) (v := .int c3) rfl (hb hby at_204) ?_
          show OEnds p e below _ T236 (mkF m 205 #[.val (.int x0), .val (.int x1), .val (.int x2), .val (.int x3), .val (.int x4), .val (.int kn), .val (.ref a5), .unset, .unset, .unset, .unset, .unset, .unset, .unset, .unset, .unset] [(.int c3), (.int (3 : Int32)), (.ref a227), (.ref a227), (.ref a222), (.ref a222)])
          refine X237.stC Ka227_h238 (by decide) (up255 hc3) (i := 3) rfl (Nat.le_of_ble_eq_true rfl) gza227 (hb hby at_205) ?_
          intro T240 h242 X241 W243 Ka227_h242x
          have Ka227_h242 : Arv Z h242 a227 ka227 .char (4 : Int32) [.int c0, .int c1, .int c2, .int c3] (.int (0 : Int32)) := Ka227_h242x
          have EBa227_h242 := ext_wr EBa227_h238 W243 (Nat.le_of_eq ga227)
          have Ka5_h242 := Ka5_h220.ext EBa227_h242
          have Aa222_h242 := Aa222.ext EBa227_h242
          have Fa222_value_h242 := Fa222_value.ext EBa227_h242
          have Fa222_coder_h242 := Fa222_coder.ext EBa227_h242
          have EX_h242 := ext_wr EX_h238 W243 (Nat.le_trans EX_h220.1 (Nat.le_of_eq ga227))
          have EBa5_h242 := ext_wr EBa5_h238 W243 (Nat.le_trans EBa5_h220.1 (Nat.le_of_eq ga227))
          have EBa222_h242 := ext_wr EBa222_h238 W243 (Nat.le_trans E221.1 (Nat.le_of_eq ga227))
          show OEnds p e below _ T240 (mkF m 206 #[.val (.int x0), .val (.int x1), .val (.int x2), .val (.int x3), .val (.int x4), .val (.int kn), .val (.ref a5), .unset, .unset, .unset, .unset, .unset, .unset, .unset, .unset, .unset] [(.ref a227), (.ref a222), (.ref a222)])
          refine own_newStr H X241 (cs := [c0, c1, c2, c3]) (j := 4) gza222 Aa222_h242 Fa222_value_h242 Fa222_coder_h242 Ka227_h242 rfl rfl (by decide) (by decide) (all_cons hc0 (all_cons hc1 (all_cons hc2 (all_cons hc3 all_nil)))) (hw _ (List.mem_of_getElem? (i := 9) rfl)) (W := 1) (by decide) (by decide) (by rw [hml]; rfl) (Nat.le_of_eq rfl) (hb hby at_206) (by decide) (by decide) ?_
          intro T244 h246 X245 K247 Str248
          have EBa222_h246 := ext_keep EBa222_h242 K247 (allS (Nat.le_of_eq ga222) all0)
          have Ka5_h246 := Ka5_h48.ext EBa222_h246
          have EX_h246 := ext_keep EX_h242 K247 (allS (Nat.le_trans EX_h48.1 (Nat.le_of_eq ga222)) all0)
          have EBa5_h246 := ext_keep EBa5_h242 K247 (allS (Nat.le_trans EBa5_h48.1 (Nat.le_of_eq ga222)) all0)
          show OEnds p e below _ T244 (mkF m 209 #[.val (.int x0), .val (.int x1), .val (.int x2), .val (.int x3), .val (.int x4), .val (.int kn), .val (.ref a5), .unset, .unset, .unset, .unset, .unset, .unset, .unset, .unset, .unset] [(.ref a222)])
          refine OEnds.go (fun _ q => XS.astore X245.here X245.hx rfl (hb hby at_209) rfl rfl (l' := #[.val (.int x0), .val (.int x1), .val (.int x2), .val (.int x3), .val (.int x4), .val (.int kn), .val (.ref a5), .val (.ref a222), .unset, .unset, .unset, .unset, .unset, .unset, .unset, .unset]) rfl q) ?_
          show OEnds p e below _ T244 (mkF m 211 #[.val (.int x0), .val (.int x1), .val (.int x2), .val (.int x3), .val (.int x4), .val (.int kn), .val (.ref a5), .val (.ref a222), .unset, .unset, .unset, .unset, .unset, .unset, .unset, .unset] [])
          have hS : OStr Z h246 a222 (own_t5 kn c0 c1 c2 c3) := by
            have e : own_t5 kn c0 c1 c2 c3 = [c0, c1, c2, c3] := by unfold own_t5; rw [if_neg hk0, if_neg hk1, if_neg hk2, if_neg hk3]
            rw [e]; exact Str248
          exact J _ _ _ a222 (X245.mono (by decide) (by decide)) Ka5_h246 hS  
theorem comes_1 {Post : Tables → Env → Array Value → State → Outcome → State → Prop} (hpost : ∀ tb e args s v u, (limb_1_1.after args s (.returned v) u = true ∧ limb_1_2.after args s (.returned v) u = true ∧ True) → ReturnedEndW s (.returned v) u (Jvm.fieldLocs frame_1_writes args s ++ Jvm.arrayLocs frame_1_arrays args s ++ Jvm.staticLocs frame_1_statics s) 24 2176 → Post tb e args s (.returned v) u) :
    ArmFor flags0 classFile x code maxLocals ret World_1 tables_1 room_1 Calls_1 rest_1 Pre_1 Post := by
  intro l hfl _ _ p e ha hc hk s m args below hf hA hF happ hP
  obtain ⟨hcalls, hrest, hpre⟩ := hP
  obtain ⟨-, -, -, hnamed, -, -, -, hat⟩ := (Spec.applies_iff hf).mp happ
  obtain ⟨hg, hn⟩ := and_e (Cond.before_iff.mp (show (Jvm.Cond.and given_1 narrow_1).before args s = true from hpre))
  obtain ⟨g0, gr⟩ := and_e hg
  obtain ⟨ga0, gr⟩ := and_e gr
  obtain ⟨ga1, gr⟩ := and_e gr
  obtain ⟨ga2, gr⟩ := and_e gr
  obtain ⟨ga3, gr⟩ := and_e gr
  obtain ⟨w0, w1, w2, w3, w4, rfl⟩ : ∃ w0 w1 w2 w3 w4 : Value, args = #[w0, w1, w2, w3, w4] := by
    have hs : args.size = 5 := by simpa [Cond.value, given_1] using g0
    obtain ⟨L⟩ := args
    match L, hs with
    | [w0, w1, w2, w3, w4], _ => exact ⟨w0, w1, w2, w3, w4, rfl⟩
  have hw := fun d (hd : d ∈ tables_1) => atoms_spec (ws := Jvm.Cond.code x code maxLocals ret :: tables_1) hat d (List.mem_cons_of_mem _ hd)
  obtain ⟨hsets, hown0⟩ := atoms_of _ (rest_1_c_eq ▸ (show rest_1_c.before _ s = true from hrest))
  have hfit : Fit s := fun {y c} hc i hi => by
    obtain ⟨ha, rfl⟩ := Array.getElem?_eq_some_iff.mp hc
    have q := List.all_eq_true.mp ((Array.all_eq_true_iff_forall_mem.mp hF) _ (Array.getElem_mem ha)) i (List.mem_range.mpr hi)
    simpa [Array.getElem?_eq_getElem hi] using q
  obtain ⟨i0, e0⟩ := is_v ga0
  obtain rfl : w0 = (.int i0) := Option.some.inj e0
  obtain ⟨i1, e1⟩ := is_v ga1
  obtain rfl : w1 = (.int i1) := Option.some.inj e1
  obtain ⟨i2, e2⟩ := is_v ga2
  obtain rfl : w2 = (.int i2) := Option.some.inj e2
  obtain ⟨i3, e3⟩ := is_v ga3
  obtain rfl : w3 = (.int i3) := Option.some.inj e3
  obtain ⟨i4, e4⟩ := is_v gr
  obtain rfl : w4 = (.int i4) := Option.some.inj e4
  obtain ⟨cz, ecz⟩ := is_v (Cond.before_iff.mp (hsets _ (List.mem_of_getElem? (i := 1) rfl)))
  have S0 : Sta s s.heap "java/lang/String" "COMPACT_STRINGS" "Z" (.int cz) := Sta.start ecz (Or.inl (hsets _ (List.mem_of_getElem? (i := 0) rfl)))
  have hcz : ¬ (cz = (0 : Int32)) := gotF (Cond.eq_ints ecz (Term.int_eval (0))) (not_v (Cond.before_iff.mp (hsets _ (List.mem_of_getElem? (i := 2) rfl))))
  obtain ⟨fm, efm, rf⟩ := isR_v (Cond.before_iff.mp (hsets _ (List.mem_of_getElem? (i := 8) rfl)))
  have S1 : Sta s s.heap "jdk/internal/util/Preconditions" "SIOOBE_FORMATTER" "Ljava/util/function/BiFunction;" fm := Sta.start efm (Or.inl (hsets _ (List.mem_of_getElem? (i := 7) rfl)))
  have hE : EW s #[.int i0, .int i1, .int i2, .int i3, .int i4] consts_1 := EW.cons (hw _ (List.mem_of_getElem? (i := 19) rfl)) (by decide) (EW.cons (hw _ (List.mem_of_getElem? (i := 119) rfl)) (by decide) (EW.nil))
  have hCH : CHv s consts_1 s.vm s.heap := CHv.start hE hcalls.1 (hsets _ (List.mem_of_getElem? (i := 2) rfl)) (hw _ (List.mem_of_getElem? (i := 20) rfl)) (hw _ (List.mem_of_getElem? (i := 7) rfl))
  obtain ⟨n, o, h1, h2, h3, v, L, rfl, ⟨rfl, N, -⟩, hq⟩ := con_law (l := l) (Z := s) (a0 := _) ⟨hw, hE, S0, hcz, S1, rf⟩ i0 i1 i2 i3 i4 s.heap (ext_refl _) p e ha hc hk s m _ below hf ((Spec.applies_iff_loose hf).mp happ).1 ⟨rfl, State.Warmed39.refl s, rfl, hCH⟩ trivial
  refine ⟨n, _, h1, h2, h3, hpost _ _ _ _ _ _ ⟨Cond.after_iff.mpr rfl, Cond.after_iff.mpr (eq_i res_at (Term.int_eval (1)) rfl), trivial⟩ ⟨hq.2.1, hq.2.2.1, hq.2.2.2.1, (hq.2.2.2.2.sift fun y hy => Or.inr (N y hy)).mono (by decide) (by decide)⟩⟩
theorem main_1_1 : Claimed_1_1 := comes_1 fun _ _ _ _ _ _ h hF => ⟨h.1, hF⟩
theorem main_1_2 : Claimed_1_2 := comes_1 fun _ _ _ _ _ _ h hF => ⟨h.2.1, hF⟩
end Jvm.Pilot.@@N@@
namespace Jvm.Pilot.@@N@@
open Jvm Jvm.ClassFile Sem Op Lib Jvm.Free Jvm.Stand Jvm.Pilot.@@N@@.Jvm.D
/-! MADE BY PROGRAM (witnessworld.py) out of the Statement's table words and the real class files: 23 classes; the members and pool entries that the words name. The judged class is class 1, her method 4. -/
namespace start1
open Jvm.ClassFile
def u (s : String) : CpInfo := .utf8 (stringToUtf16 s)
/-- a pool by its gaps: so many unusable entries, then the entry; so many at the end -/
def gap : Nat → List CpInfo → List CpInfo
  | 0, r => r
  | n + 1, r => .unusable :: gap n r
def poolList (es : List (Nat × CpInfo)) (last : Nat) : List CpInfo := es.foldr (fun e r => gap e.1 (e.2 :: r)) (gap last [])
def pool (es : List (Nat × CpInfo)) (last : Nat) : Array CpInfo := ⟨poolList es last⟩
def fileOf (pool : Array CpInfo) (this : Nat) (attrs : Array Attribute := #[]) (ms : Array MethodInfo := #[]) (fl : Nat := 33) (sup : Nat := 0) (ifs : Array Nat := #[]) (fds : Array FieldInfo := #[]) : ClassFile where
  minorVersion := 0
  majorVersion := 65
  constantPool := pool
  accessFlags := fl
  thisClass := this
  superClass := sup
  interfaces := ifs
  fields := fds
  methods := ms
  attributes := attrs
def plain (name : String) (sup : Option ClassId) : Class where
  name := name
  kind := .ordinary
  loader := none
  accessFlags := 33
  super := sup
  interfaces := #[]
  cf := none
  fields := #[]
  methods := #[]
  instanceTypes := #[]
  staticTypes := #[]
  resolved := #[]
  callSites := []
  init := .initialized
  statics := none
  mirror := none

def pool0 : Array CpInfo := pool [(5, u "<init>"), (0, u "()V"), (1, .class_ 10), (1, u "java/lang/Object")] 113

def k0c0 : Code := { maxStack := 0, maxLocals := 1, code := object_method_1_code, exceptionTable := #[], attributes := #[] }
def k0m0 : Method := { name := "<init>", desc := "()V", sig := { parameters := [], returnType := none }, accessFlags := 1, code := some k0c0 }
/-- java/lang/Object -/
def k0 : Class := { plain "java/lang/Object" none with
  accessFlags := 33
  interfaces := #[]
  cf := some (fileOf pool0 8 #[] #[{ accessFlags := 1, nameIndex := 5, descriptorIndex := 6, attributes := #[] }] 33 0 #[] #[])
  fields := #[]
  methods := #[k0m0]
  instanceTypes := #[]
  staticTypes := #[]
  resolved := Array.replicate 124 none
  statics := none }

def pool1 : Array CpInfo := pool [(2, .class_ 4), (1, u "java/lang/Object"), (0, u "<init>"), (0, u "()V"), (0, .methodref 8 9), (0, .class_ 10), (0, .nameAndType 11 12), (0, u "java/lang/String"), (0, u "charAt"), (0, u "(I)C"), (0, .integer 2147483647), (0, .methodref 15 16), (0, .class_ 17), (0, .nameAndType 18 12), (0, u "com/example/gatepost/gatepost/edge/MessageHeadTrimmedPinLaw"), (0, u "pick"), (0, .methodref 8 20), (0, .nameAndType 5 21), (0, u "([C)V"), (0, .methodref 15 23), (0, .nameAndType 24 25), (0, u "blank"), (0, u "(C)Z"), (0, .methodref 27 28), (0, .class_ 29), (0, .nameAndType 30 31), (0, u "com/example/gatepost/gatepost/edge/MessageHead"), (0, u "trimmed"), (0, u "(Ljava/lang/String;)Ljava/lang/String;"), (0, .methodref 8 33), (0, .nameAndType 34 35), (0, u "length"), (0, u "()I"), (0, .methodref 15 37), (0, .nameAndType 38 39), (0, u "same"), (0, u "(Ljava/lang/String;I[CII)Z"), (3, u "law"), (0, u "(IIIII)Z")] 4

def k1m0 : Method := { name := "<init>", desc := "()V", sig := { parameters := [], returnType := none }, accessFlags := 1, code := none }
def k1c1 : Code := { maxStack := 2, maxLocals := 2, code := method_2_code, exceptionTable := #[], attributes := #[] }
def k1m1 : Method := { name := "pick", desc := "(I)C", sig := { parameters := [.int], returnType := some .char }, accessFlags := 10, code := some k1c1 }
def k1c2 : Code := { maxStack := 2, maxLocals := 1, code := method_3_code, exceptionTable := #[], attributes := #[] }
def k1m2 : Method := { name := "blank", desc := "(C)Z", sig := { parameters := [.char], returnType := some .boolean }, accessFlags := 10, code := some k1c2 }
def k1c3 : Code := { maxStack := 4, maxLocals := 5, code := method_4_code, exceptionTable := #[], attributes := #[] }
def k1m3 : Method := { name := "same", desc := "(Ljava/lang/String;I[CII)Z", sig := { parameters := [(.object "java/lang/String"), .int, (.array .char), .int, .int], returnType := some .boolean }, accessFlags := 10, code := some k1c3 }
def k1c4 : Code := { maxStack := 7, maxLocals := 16, code := code, exceptionTable := #[], attributes := #[] }
def k1m4 : Method := { name := "law", desc := "(IIIII)Z", sig := { parameters := [.int, .int, .int, .int, .int], returnType := some .boolean }, accessFlags := 9, code := some k1c4 }
/-- com/example/gatepost/gatepost/edge/MessageHeadTrimmedPinLaw -/
def k1 : Class := { plain "com/example/gatepost/gatepost/edge/MessageHeadTrimmedPinLaw" (some 0) with
  accessFlags := 49
  interfaces := #[]
  cf := some (fileOf pool1 15 #[] #[{ accessFlags := 1, nameIndex := 5, descriptorIndex := 6, attributes := #[] }, { accessFlags := 10, nameIndex := 18, descriptorIndex := 12, attributes := #[] }, { accessFlags := 10, nameIndex := 24, descriptorIndex := 25, attributes := #[] }, { accessFlags := 10, nameIndex := 38, descriptorIndex := 39, attributes := #[] }, { accessFlags := 9, nameIndex := 43, descriptorIndex := 44, attributes := #[] }] 49 2 #[] #[])
  fields := #[]
  methods := #[k1m0, k1m1, k1m2, k1m3, k1m4]
  instanceTypes := #[]
  staticTypes := #[]
  resolved := Array.replicate 49 none
  statics := none }

def pool2 : Array CpInfo := pool [(1, .class_ 2), (0, u "java/io/Serializable"), (0, .class_ 4), (0, u "java/lang/Object")] 2

/-- java/io/Serializable -/
def k2 : Class := { plain "java/io/Serializable" (some 0) with
  accessFlags := 1537
  interfaces := #[]
  cf := some (fileOf pool2 1 #[] #[] 1537 3 #[] #[])
  fields := #[]
  methods := #[]
  instanceTypes := #[]
  staticTypes := #[]
  resolved := Array.replicate 7 none
  statics := none }

def pool3 : Array CpInfo := pool [(1, .class_ 2), (0, u "java/lang/Comparable"), (0, .class_ 4), (0, u "java/lang/Object")] 7

/-- java/lang/Comparable -/
def k3 : Class := { plain "java/lang/Comparable" (some 0) with
  accessFlags := 1537
  interfaces := #[]
  cf := some (fileOf pool3 1 #[] #[] 1537 3 #[] #[])
  fields := #[]
  methods := #[]
  instanceTypes := #[]
  staticTypes := #[]
  resolved := Array.replicate 12 none
  statics := none }

def pool4 : Array CpInfo := pool [(2, .class_ 4), (1, u "java/lang/CharSequence"), (42, .class_ 48), (0, u "java/lang/CharSequence$1CodePointIterator"), (10, .class_ 60), (0, u "java/lang/CharSequence$1CharIterator"), (5, .class_ 67), (0, u "java/lang/Object")] 63

/-- java/lang/CharSequence -/
def k4 : Class := { plain "java/lang/CharSequence" (some 0) with
  accessFlags := 1537
  interfaces := #[]
  cf := some (fileOf pool4 2 #[.nestMembers #[47, 59]] #[] 1537 66 #[] #[])
  fields := #[]
  methods := #[]
  instanceTypes := #[]
  staticTypes := #[]
  resolved := Array.replicate 131 none
  statics := none }

def pool5 : Array CpInfo := pool [(1, .class_ 2), (0, u "java/lang/constant/Constable"), (0, .class_ 4), (0, u "java/lang/Object")] 6

/-- java/lang/constant/Constable -/
def k5 : Class := { plain "java/lang/constant/Constable" (some 0) with
  accessFlags := 1537
  interfaces := #[]
  cf := some (fileOf pool5 1 #[] #[] 1537 3 #[] #[])
  fields := #[]
  methods := #[]
  instanceTypes := #[]
  staticTypes := #[]
  resolved := Array.replicate 11 none
  statics := none }

def pool6 : Array CpInfo := pool [(1, .class_ 2), (0, u "java/lang/constant/ConstantDesc"), (0, .class_ 4), (0, u "java/lang/Object")] 32

/-- java/lang/constant/ConstantDesc -/
def k6 : Class := { plain "java/lang/constant/ConstantDesc" (some 0) with
  accessFlags := 1537
  interfaces := #[]
  cf := some (fileOf pool6 1 #[] #[] 1537 3 #[] #[])
  fields := #[]
  methods := #[]
  instanceTypes := #[]
  staticTypes := #[]
  resolved := Array.replicate 37 none
  statics := none }

def pool7 : Array CpInfo := pool [(1, .methodref 2 3), (0, .class_ 4), (0, .nameAndType 5 6), (0, u "java/lang/Object"), (0, u "<init>"), (0, u "()V"), (0, .string 8), (0, u ""), (0, .fieldref 10 11), (0, .class_ 12), (0, .nameAndType 13 14), (0, u "java/lang/String"), (0, u "value"), (0, u "[B"), (0, .fieldref 10 16), (0, .nameAndType 17 18), (0, u "coder"), (0, u "B"), (2, u "hash"), (0, u "I"), (2, u "hashIsZero"), (0, u "Z"), (0, .methodref 10 28), (0, .nameAndType 5 29), (0, u "([CIILjava/lang/Void;)V"), (8, .fieldref 10 39), (0, .nameAndType 40 26), (0, u "COMPACT_STRINGS"), (1, .class_ 44), (1, u "java/lang/StringUTF16"), (0, u "compress"), (1, .methodref 42 48), (0, .nameAndType 49 50), (0, u "coderFromArrayLen"), (0, u "([BI)B"), (56, .class_ 109), (1, u "java/lang/StringLatin1"), (32, u "()Z"), (34, .methodref 42 178), (0, .nameAndType 45 179), (0, u "([CII)[B"), (31, u "([BB)V"), (122, u "()I"), (0, .methodref 10 336), (0, .nameAndType 17 337), (0, u "()B"), (25, u "([BI)C"), (27, u "(II)V"), (35, u "(I)C"), (64, .methodref 10 493), (0, .nameAndType 494 142), (0, u "isLatin1"), (0, .methodref 107 496), (0, .nameAndType 497 363), (0, u "charAt"), (3, u "checkIndex"), (3, .methodref 10 506), (0, .nameAndType 507 334), (0, u "length"), (5, u "checkFromToIndex"), (7, .methodref 10 522), (0, .nameAndType 523 524), (0, u "checkBoundsBeginEnd"), (0, u "(III)V"), (50, .class_ 576), (0, u "java/lang/CharSequence"), (22, u "CASE_INSENSITIVE_ORDER"), (0, u "Ljava/util/Comparator;"), (82, u "substring"), (0, u "(II)Ljava/lang/String;"), (0, .methodref 107 686), (0, .nameAndType 687 688), (0, u "newString"), (0, u "([BII)Ljava/lang/String;"), (321, u "([C)V"), (42, .fieldref 1054 1055), (0, .class_ 1056), (0, .nameAndType 1057 1058), (0, u "jdk/internal/util/Preconditions"), (0, u "SIOOBE_FORMATTER"), (0, u "Ljava/util/function/BiFunction;"), (0, .methodref 1054 1060), (0, .nameAndType 501 1061), (0, u "(IILjava/util/function/BiFunction;)I"), (0, .methodref 1054 1063), (0, .nameAndType 513 1064), (0, u "(IIILjava/util/function/BiFunction;)I"), (36, u "serialPersistentFields"), (0, u "[Ljava/io/ObjectStreamField;"), (0, .class_ 1104), (0, u "java/lang/String$CaseInsensitiveComparator"), (1, .class_ 1107), (0, u "java/io/Serializable"), (0, .class_ 1109), (0, u "java/lang/Comparable"), (0, .class_ 1111), (0, u "java/lang/constant/Constable"), (0, .class_ 1113), (0, u "java/lang/constant/ConstantDesc"), (2, u "serialVersionUID"), (0, u "J"), (3, u "REPL"), (0, u "C"), (2, u "LATIN1"), (1, u "UTF16")] 323

def k7m0 : Method := { name := "<init>", desc := "()V", sig := { parameters := [], returnType := none }, accessFlags := 1, code := none }
def k7c1 : Code := { maxStack := 5, maxLocals := 2, code := jdk_42_method_3_code, exceptionTable := #[], attributes := #[] }
def k7m1 : Method := { name := "<init>", desc := "([C)V", sig := { parameters := [(.array .char)], returnType := none }, accessFlags := 1, code := some k7c1 }
def k7c2 : Code := { maxStack := 2, maxLocals := 1, code := jdk_42_method_54_code, exceptionTable := #[], attributes := #[] }
def k7m2 : Method := { name := "length", desc := "()I", sig := { parameters := [], returnType := some .int }, accessFlags := 1, code := some k7c2 }
def k7c3 : Code := { maxStack := 2, maxLocals := 2, code := jdk_42_method_56_code, exceptionTable := #[], attributes := #[] }
def k7m3 : Method := { name := "charAt", desc := "(I)C", sig := { parameters := [.int], returnType := some .char }, accessFlags := 1, code := some k7c3 }
def k7c4 : Code := { maxStack := 3, maxLocals := 5, code := jdk_42_method_92_code, exceptionTable := #[], attributes := #[] }
def k7m4 : Method := { name := "substring", desc := "(II)Ljava/lang/String;", sig := { parameters := [.int, .int], returnType := some (.object "java/lang/String") }, accessFlags := 1, code := some k7c4 }
def k7c5 : Code := { maxStack := 4, maxLocals := 6, code := jdk_42_method_149_code, exceptionTable := #[], attributes := #[] }
def k7m5 : Method := { name := "<init>", desc := "([CIILjava/lang/Void;)V", sig := { parameters := [(.array .char), .int, .int, (.object "java/lang/Void")], returnType := none }, accessFlags := 2, code := some k7c5 }
def k7c6 : Code := { maxStack := 2, maxLocals := 3, code := jdk_42_method_151_code, exceptionTable := #[], attributes := #[] }
def k7m6 : Method := { name := "<init>", desc := "([BB)V", sig := { parameters := [(.array .byte), .byte], returnType := none }, accessFlags := 0, code := some k7c6 }
def k7c7 : Code := { maxStack := 1, maxLocals := 1, code := jdk_42_method_152_code, exceptionTable := #[], attributes := #[] }
def k7m7 : Method := { name := "coder", desc := "()B", sig := { parameters := [], returnType := some .byte }, accessFlags := 0, code := some k7c7 }
def k7c8 : Code := { maxStack := 1, maxLocals := 1, code := jdk_42_method_154_code, exceptionTable := #[], attributes := #[] }
def k7m8 : Method := { name := "isLatin1", desc := "()Z", sig := { parameters := [], returnType := some .boolean }, accessFlags := 0, code := some k7c8 }
def k7c9 : Code := { maxStack := 3, maxLocals := 2, code := jdk_42_method_155_code, exceptionTable := #[], attributes := #[] }
def k7m9 : Method := { name := "checkIndex", desc := "(II)V", sig := { parameters := [.int, .int], returnType := none }, accessFlags := 8, code := some k7c9 }
def k7c10 : Code := { maxStack := 4, maxLocals := 3, code := jdk_42_method_158_code, exceptionTable := #[], attributes := #[] }
def k7m10 : Method := { name := "checkBoundsBeginEnd", desc := "(III)V", sig := { parameters := [.int, .int, .int], returnType := none }, accessFlags := 8, code := some k7c10 }
/-- java/lang/String -/
def k7 : Class := { plain "java/lang/String" (some 0) with
  accessFlags := 49
  interfaces := #[2, 3, 4, 5, 6]
  cf := some (fileOf pool7 10 #[.nestMembers #[1103]] #[{ accessFlags := 1, nameIndex := 5, descriptorIndex := 6, attributes := #[] }, { accessFlags := 1, nameIndex := 5, descriptorIndex := 1010, attributes := #[] }, { accessFlags := 1, nameIndex := 507, descriptorIndex := 334, attributes := #[] }, { accessFlags := 1, nameIndex := 497, descriptorIndex := 427, attributes := #[] }, { accessFlags := 1, nameIndex := 683, descriptorIndex := 684, attributes := #[] }, { accessFlags := 2, nameIndex := 5, descriptorIndex := 29, attributes := #[] }, { accessFlags := 0, nameIndex := 5, descriptorIndex := 211, attributes := #[] }, { accessFlags := 0, nameIndex := 17, descriptorIndex := 337, attributes := #[] }, { accessFlags := 0, nameIndex := 494, descriptorIndex := 142, attributes := #[] }, { accessFlags := 8, nameIndex := 501, descriptorIndex := 391, attributes := #[] }, { accessFlags := 8, nameIndex := 523, descriptorIndex := 524, attributes := #[] }] 49 2 #[1106, 1108, 575, 1110, 1112] #[{ accessFlags := 18, nameIndex := 13, descriptorIndex := 14, attributes := #[] }, { accessFlags := 18, nameIndex := 17, descriptorIndex := 18, attributes := #[] }, { accessFlags := 2, nameIndex := 21, descriptorIndex := 22, attributes := #[] }, { accessFlags := 2, nameIndex := 25, descriptorIndex := 26, attributes := #[] }, { accessFlags := 26, nameIndex := 1116, descriptorIndex := 1117, attributes := #[] }, { accessFlags := 24, nameIndex := 40, descriptorIndex := 26, attributes := #[] }, { accessFlags := 26, nameIndex := 1101, descriptorIndex := 1102, attributes := #[] }, { accessFlags := 26, nameIndex := 1121, descriptorIndex := 1122, attributes := #[] }, { accessFlags := 25, nameIndex := 599, descriptorIndex := 600, attributes := #[] }, { accessFlags := 24, nameIndex := 1125, descriptorIndex := 18, attributes := #[] }, { accessFlags := 24, nameIndex := 1127, descriptorIndex := 18, attributes := #[] }])
  fields := #[{ name := "value", type := (.array .byte), accessFlags := 18, slot := 0, constantValue := 0 }, { name := "coder", type := .byte, accessFlags := 18, slot := 1, constantValue := 0 }, { name := "hash", type := .int, accessFlags := 2, slot := 2, constantValue := 0 }, { name := "hashIsZero", type := .boolean, accessFlags := 2, slot := 3, constantValue := 0 }, { name := "serialVersionUID", type := .long, accessFlags := 26, slot := 0, constantValue := 0 }, { name := "COMPACT_STRINGS", type := .boolean, accessFlags := 24, slot := 1, constantValue := 0 }, { name := "serialPersistentFields", type := (.array (.object "java/io/ObjectStreamField")), accessFlags := 26, slot := 2, constantValue := 0 }, { name := "REPL", type := .char, accessFlags := 26, slot := 3, constantValue := 0 }, { name := "CASE_INSENSITIVE_ORDER", type := (.object "java/util/Comparator"), accessFlags := 25, slot := 4, constantValue := 0 }, { name := "LATIN1", type := .byte, accessFlags := 24, slot := 5, constantValue := 0 }, { name := "UTF16", type := .byte, accessFlags := 24, slot := 6, constantValue := 0 }]
  methods := #[k7m0, k7m1, k7m2, k7m3, k7m4, k7m5, k7m6, k7m7, k7m8, k7m9, k7m10]
  instanceTypes := #[(.array .byte), .byte, .int, .boolean]
  staticTypes := #[.long, .boolean, (.array (.object "java/io/ObjectStreamField")), .char, (.object "java/util/Comparator"), .byte, .byte]
  resolved := Array.replicate 1451 none
  statics := some 0 }

def pool8 : Array CpInfo := pool [(2, .class_ 4), (1, u "java/lang/Object"), (3, .class_ 10), (1, u "com/example/gatepost/gatepost/edge/MessageHead"), (0, u "in"), (0, u "Ljava/io/InputStream;"), (2, u "maxBytes"), (0, u "I"), (2, u "left"), (8, u "()I"), (7, .class_ 37), (0, u "com/example/gatepost/gatepost/edge/MessageHead$TooLargeException"), (19, .class_ 59), (1, u "java/lang/String"), (2, .methodref 57 63), (0, .nameAndType 64 28), (0, u "length"), (0, .methodref 57 66), (0, .nameAndType 67 68), (0, u "substring"), (0, u "(II)Ljava/lang/String;"), (27, u "trimmed"), (0, u "(Ljava/lang/String;)Ljava/lang/String;"), (27, .methodref 57 126), (0, .nameAndType 127 128), (0, u "charAt"), (0, u "(I)C"), (44, u "MAX_BYTES")] 44

def k8c0 : Code := { maxStack := 3, maxLocals := 3, code := prog_38_method_5_code, exceptionTable := #[], attributes := #[] }
def k8m0 : Method := { name := "trimmed", desc := "(Ljava/lang/String;)Ljava/lang/String;", sig := { parameters := [(.object "java/lang/String")], returnType := some (.object "java/lang/String") }, accessFlags := 8, code := some k8c0 }
/-- com/example/gatepost/gatepost/edge/MessageHead -/
def k8 : Class := { plain "com/example/gatepost/gatepost/edge/MessageHead" (some 0) with
  accessFlags := 48
  interfaces := #[]
  cf := some (fileOf pool8 8 #[.nestMembers #[36]] #[{ accessFlags := 8, nameIndex := 96, descriptorIndex := 97, attributes := #[] }] 48 2 #[] #[{ accessFlags := 24, nameIndex := 173, descriptorIndex := 16, attributes := #[] }, { accessFlags := 18, nameIndex := 11, descriptorIndex := 12, attributes := #[] }, { accessFlags := 18, nameIndex := 15, descriptorIndex := 16, attributes := #[] }, { accessFlags := 2, nameIndex := 19, descriptorIndex := 16, attributes := #[] }])
  fields := #[{ name := "MAX_BYTES", type := .int, accessFlags := 24, slot := 0, constantValue := 0 }, { name := "in", type := (.object "java/io/InputStream"), accessFlags := 18, slot := 0, constantValue := 0 }, { name := "maxBytes", type := .int, accessFlags := 18, slot := 1, constantValue := 0 }, { name := "left", type := .int, accessFlags := 2, slot := 2, constantValue := 0 }]
  methods := #[k8m0]
  instanceTypes := #[(.object "java/io/InputStream"), .int, .int]
  staticTypes := #[.int]
  resolved := Array.replicate 218 none
  statics := none }

def pool9 : Array CpInfo := pool [(2, .class_ 4), (1, u "java/lang/Object"), (0, u "<init>"), (0, u "()V"), (17, .class_ 26), (1, u "jdk/internal/util/Preconditions"), (6, u "checkIndex"), (13, u "checkFromToIndex"), (7, .class_ 56), (0, u "jdk/internal/util/Preconditions$4"), (57, .class_ 115), (0, u "jdk/internal/util/Preconditions$1"), (7, u "SIOOBE_FORMATTER"), (0, u "Ljava/util/function/BiFunction;"), (0, .class_ 126), (0, u "jdk/internal/util/Preconditions$2"), (3, u "AIOOBE_FORMATTER"), (0, .class_ 132), (0, u "jdk/internal/util/Preconditions$3"), (3, u "IOOBE_FORMATTER"), (41, u "(IILjava/util/function/BiFunction;)I"), (4, u "(IIILjava/util/function/BiFunction;)I")] 10

def k9m0 : Method := { name := "<init>", desc := "()V", sig := { parameters := [], returnType := none }, accessFlags := 1, code := none }
def k9c1 : Code := { maxStack := 3, maxLocals := 3, code := jdk_41_method_11_code, exceptionTable := #[], attributes := #[] }
def k9m1 : Method := { name := "checkIndex", desc := "(IILjava/util/function/BiFunction;)I", sig := { parameters := [.int, .int, (.object "java/util/function/BiFunction")], returnType := some .int }, accessFlags := 9, code := some k9c1 }
def k9c2 : Code := { maxStack := 4, maxLocals := 4, code := jdk_41_method_12_code, exceptionTable := #[], attributes := #[] }
def k9m2 : Method := { name := "checkFromToIndex", desc := "(IIILjava/util/function/BiFunction;)I", sig := { parameters := [.int, .int, .int, (.object "java/util/function/BiFunction")], returnType := some .int }, accessFlags := 9, code := some k9c2 }
/-- jdk/internal/util/Preconditions -/
def k9 : Class := { plain "jdk/internal/util/Preconditions" (some 0) with
  accessFlags := 33
  interfaces := #[]
  cf := some (fileOf pool9 24 #[.nestMembers #[55, 131, 125, 114]] #[{ accessFlags := 1, nameIndex := 5, descriptorIndex := 6, attributes := #[] }, { accessFlags := 9, nameIndex := 33, descriptorIndex := 178, attributes := #[] }, { accessFlags := 9, nameIndex := 47, descriptorIndex := 183, attributes := #[] }] 33 2 #[] #[{ accessFlags := 25, nameIndex := 123, descriptorIndex := 124, attributes := #[] }, { accessFlags := 25, nameIndex := 130, descriptorIndex := 124, attributes := #[] }, { accessFlags := 25, nameIndex := 136, descriptorIndex := 124, attributes := #[] }])
  fields := #[{ name := "SIOOBE_FORMATTER", type := (.object "java/util/function/BiFunction"), accessFlags := 25, slot := 0, constantValue := 0 }, { name := "AIOOBE_FORMATTER", type := (.object "java/util/function/BiFunction"), accessFlags := 25, slot := 1, constantValue := 0 }, { name := "IOOBE_FORMATTER", type := (.object "java/util/function/BiFunction"), accessFlags := 25, slot := 2, constantValue := 0 }]
  methods := #[k9m0, k9m1, k9m2]
  instanceTypes := #[]
  staticTypes := #[(.object "java/util/function/BiFunction"), (.object "java/util/function/BiFunction"), (.object "java/util/function/BiFunction")]
  resolved := Array.replicate 194 none
  statics := some 1 }

def pool10 : Array CpInfo := pool [(6, .class_ 8), (1, u "java/lang/Object"), (0, u "<init>"), (0, u "()V"), (1, .class_ 14), (1, u "java/lang/StringUTF16"), (31, u "$assertionsDisabled"), (0, u "Z"), (13, u "HI_BYTE_SHIFT"), (0, u "I"), (2, u "LO_BYTE_SHIFT"), (49, .methodref 12 116), (0, .nameAndType 117 118), (0, u "compress"), (0, u "([CI[BII)I"), (3, u "([CII)[B"), (138, u "coderFromArrayLen"), (0, u "([BI)B"), (106, .class_ 371), (1, u "java/lang/StringUTF16$LinesSpliterator"), (58, u "MAX_LENGTH"), (196, .class_ 628), (0, u "java/lang/StringUTF16$CodePointsSpliterator"), (0, .class_ 630), (0, u "java/lang/StringUTF16$CharsSpliterator")] 4

def k10m0 : Method := { name := "<init>", desc := "()V", sig := { parameters := [], returnType := none }, accessFlags := 0, code := none }
def k10c1 : Code := { maxStack := 2, maxLocals := 2, code := jdk_52_method_15_code, exceptionTable := #[], attributes := #[] }
def k10m1 : Method := { name := "coderFromArrayLen", desc := "([BI)B", sig := { parameters := [(.array .byte), .int], returnType := some .byte }, accessFlags := 8, code := some k10c1 }
def k10c2 : Code := { maxStack := 5, maxLocals := 6, code := jdk_52_method_16_code, exceptionTable := #[], attributes := #[] }
def k10m2 : Method := { name := "compress", desc := "([CII)[B", sig := { parameters := [(.array .char), .int, .int], returnType := some (.array .byte) }, accessFlags := 9, code := some k10c2 }
def k10c3 : Code := { maxStack := 3, maxLocals := 7, code := jdk_52_method_21_code, exceptionTable := #[], attributes := #[] }
def k10m3 : Method := { name := "compress", desc := "([CI[BII)I", sig := { parameters := [(.array .char), .int, (.array .byte), .int, .int], returnType := some .int }, accessFlags := 9, code := some k10c3 }
/-- java/lang/StringUTF16 -/
def k10 : Class := { plain "java/lang/StringUTF16" (some 0) with
  accessFlags := 48
  interfaces := #[]
  cf := some (fileOf pool10 12 #[.nestMembers #[627, 629, 369]] #[{ accessFlags := 0, nameIndex := 9, descriptorIndex := 10, attributes := #[] }, { accessFlags := 8, nameIndex := 261, descriptorIndex := 262, attributes := #[] }, { accessFlags := 9, nameIndex := 117, descriptorIndex := 122, attributes := #[] }, { accessFlags := 9, nameIndex := 117, descriptorIndex := 118, attributes := #[] }] 48 6 #[] #[{ accessFlags := 26, nameIndex := 61, descriptorIndex := 62, attributes := #[] }, { accessFlags := 26, nameIndex := 65, descriptorIndex := 62, attributes := #[] }, { accessFlags := 24, nameIndex := 430, descriptorIndex := 62, attributes := #[] }, { accessFlags := 4120, nameIndex := 46, descriptorIndex := 47, attributes := #[] }])
  fields := #[{ name := "HI_BYTE_SHIFT", type := .int, accessFlags := 26, slot := 0, constantValue := 0 }, { name := "LO_BYTE_SHIFT", type := .int, accessFlags := 26, slot := 1, constantValue := 0 }, { name := "MAX_LENGTH", type := .int, accessFlags := 24, slot := 2, constantValue := 0 }, { name := "$assertionsDisabled", type := .boolean, accessFlags := 4120, slot := 3, constantValue := 0 }]
  methods := #[k10m0, k10m1, k10m2, k10m3]
  instanceTypes := #[]
  staticTypes := #[.int, .int, .int, .boolean]
  resolved := Array.replicate 635 none
  statics := none }

def pool11 : Array CpInfo := pool [(1, .class_ 2), (0, u "java/lang/String"), (1, .class_ 6), (1, u "java/lang/Object"), (0, u "<init>"), (0, u "()V"), (0, .methodref 1 10), (0, .nameAndType 11 12), (0, u "checkIndex"), (0, u "(II)V"), (1, .class_ 16), (1, u "java/lang/StringLatin1"), (36, u "([BI)C"), (58, .methodref 1 113), (0, .nameAndType 7 114), (0, u "([BB)V"), (6, u "$assertionsDisabled"), (0, u "Z"), (8, .class_ 133), (1, u "java/util/Arrays"), (17, .string 152), (0, u ""), (43, u "newString"), (0, u "([BII)Ljava/lang/String;"), (23, .class_ 223), (1, u "java/lang/StringLatin1$LinesSpliterator"), (8, .methodref 131 233), (0, .nameAndType 234 235), (0, u "copyOfRange"), (0, u "([BII)[B"), (16, u "charAt"), (137, .class_ 391), (0, u "java/lang/StringLatin1$CharsSpliterator")] 3

def k11m0 : Method := { name := "<init>", desc := "()V", sig := { parameters := [], returnType := none }, accessFlags := 0, code := none }
def k11c1 : Code := { maxStack := 2, maxLocals := 2, code := jdk_43_method_2_code, exceptionTable := #[], attributes := #[] }
def k11m1 : Method := { name := "charAt", desc := "([BI)C", sig := { parameters := [(.array .byte), .int], returnType := some .char }, accessFlags := 9, code := some k11c1 }
def k11c2 : Code := { maxStack := 6, maxLocals := 3, code := jdk_43_method_47_code, exceptionTable := #[], attributes := #[] }
def k11m2 : Method := { name := "newString", desc := "([BII)Ljava/lang/String;", sig := { parameters := [(.array .byte), .int, .int], returnType := some (.object "java/lang/String") }, accessFlags := 9, code := some k11c2 }
/-- java/lang/StringLatin1 -/
def k11 : Class := { plain "java/lang/StringLatin1" (some 0) with
  accessFlags := 48
  interfaces := #[]
  cf := some (fileOf pool11 14 #[.nestMembers #[390, 221]] #[{ accessFlags := 0, nameIndex := 7, descriptorIndex := 8, attributes := #[] }, { accessFlags := 9, nameIndex := 252, descriptorIndex := 53, attributes := #[] }, { accessFlags := 9, nameIndex := 196, descriptorIndex := 197, attributes := #[] }] 48 4 #[] #[{ accessFlags := 4120, nameIndex := 121, descriptorIndex := 122, attributes := #[] }])
  fields := #[{ name := "$assertionsDisabled", type := .boolean, accessFlags := 4120, slot := 0, constantValue := 0 }]
  methods := #[k11m0, k11m1, k11m2]
  instanceTypes := #[]
  staticTypes := #[.boolean]
  resolved := Array.replicate 395 none
  statics := none }

def pool12 : Array CpInfo := pool [(2, .class_ 4), (1, u "java/lang/Object"), (0, u "<init>"), (0, u "()V"), (7, .class_ 16), (1, u "java/util/Arrays"), (57, .class_ 76), (1, u "java/util/Arrays$NaturalOrder"), (36, .class_ 115), (1, u "java/util/Arrays$LegacyMergeSort"), (1, u "Z"), (21, u "copyOfRange"), (10, .methodref 151 152), (0, .class_ 153), (0, .nameAndType 154 155), (0, u "java/lang/System"), (0, u "arraycopy"), (0, u "(Ljava/lang/Object;ILjava/lang/Object;II)V"), (148, .methodref 305 306), (0, .class_ 307), (0, .nameAndType 308 309), (0, u "java/lang/Math"), (0, u "min"), (0, u "(II)I"), (29, .methodref 14 340), (0, .nameAndType 341 342), (0, u "copyOfRangeByte"), (0, u "([BII)[B"), (0, .methodref 14 344), (0, .nameAndType 345 346), (0, u "checkLength"), (0, u "(II)V"), (28, .class_ 376), (0, u "java/util/Arrays$ArrayList"), (68, u "$assertionsDisabled"), (269, u "MIN_ARRAY_SORT_GRAN"), (0, u "I"), (2, u "INSERTIONSORT_THRESHOLD"), (255, .class_ 976), (0, u "java/util/Arrays$ArrayItr")] 52

def k12m0 : Method := { name := "<init>", desc := "()V", sig := { parameters := [], returnType := none }, accessFlags := 2, code := none }
def k12c1 : Code := { maxStack := 4, maxLocals := 2, code := jdk_65_method_131_code, exceptionTable := #[], attributes := #[] }
def k12m1 : Method := { name := "checkLength", desc := "(II)V", sig := { parameters := [.int, .int], returnType := none }, accessFlags := 10, code := some k12c1 }
def k12c2 : Code := { maxStack := 3, maxLocals := 3, code := jdk_65_method_132_code, exceptionTable := #[], attributes := #[] }
def k12m2 : Method := { name := "copyOfRange", desc := "([BII)[B", sig := { parameters := [(.array .byte), .int, .int], returnType := some (.array .byte) }, accessFlags := 9, code := some k12c2 }
def k12c3 : Code := { maxStack := 6, maxLocals := 5, code := jdk_65_method_133_code, exceptionTable := #[], attributes := #[] }
def k12m3 : Method := { name := "copyOfRangeByte", desc := "([BII)[B", sig := { parameters := [(.array .byte), .int, .int], returnType := some (.array .byte) }, accessFlags := 10, code := some k12c3 }
/-- java/util/Arrays -/
def k12 : Class := { plain "java/util/Arrays" (some 0) with
  accessFlags := 49
  interfaces := #[]
  cf := some (fileOf pool12 14 #[.nestMembers #[975, 375, 113, 74]] #[{ accessFlags := 2, nameIndex := 5, descriptorIndex := 6, attributes := #[] }, { accessFlags := 10, nameIndex := 345, descriptorIndex := 346, attributes := #[] }, { accessFlags := 9, nameIndex := 139, descriptorIndex := 342, attributes := #[] }, { accessFlags := 10, nameIndex := 341, descriptorIndex := 342, attributes := #[] }] 49 2 #[] #[{ accessFlags := 26, nameIndex := 715, descriptorIndex := 716, attributes := #[] }, { accessFlags := 26, nameIndex := 719, descriptorIndex := 716, attributes := #[] }, { accessFlags := 4120, nameIndex := 445, descriptorIndex := 117, attributes := #[] }])
  fields := #[{ name := "MIN_ARRAY_SORT_GRAN", type := .int, accessFlags := 26, slot := 0, constantValue := 0 }, { name := "INSERTIONSORT_THRESHOLD", type := .int, accessFlags := 26, slot := 1, constantValue := 0 }, { name := "$assertionsDisabled", type := .boolean, accessFlags := 4120, slot := 2, constantValue := 0 }]
  methods := #[k12m0, k12m1, k12m2, k12m3]
  instanceTypes := #[]
  staticTypes := #[.int, .int, .boolean]
  resolved := Array.replicate 1029 none
  statics := none }

def pool13 : Array CpInfo := pool [(1, .class_ 2), (0, u "java/lang/Math"), (1, .class_ 6), (1, u "java/lang/Object"), (0, u "<init>"), (0, u "()V"), (89, .class_ 100), (1, u "java/lang/Math$RandomNumberGeneratorHolder"), (71, u "negativeZeroFloatBits"), (0, u "J"), (2, u "negativeZeroDoubleBits"), (24, u "min"), (43, u "$assertionsDisabled"), (0, u "Z"), (88, u "(II)I"), (2, u "twoToTheDoubleScaleDown"), (0, u "D"), (4, u "twoToTheDoubleScaleUp"), (9, u "E"), (3, u "PI"), (2, u "TAU"), (2, u "DEGREES_TO_RADIANS"), (0, u "RADIANS_TO_DEGREES")] 94

def k13m0 : Method := { name := "<init>", desc := "()V", sig := { parameters := [], returnType := none }, accessFlags := 2, code := none }
def k13c1 : Code := { maxStack := 2, maxLocals := 2, code := jdk_29_method_69_code, exceptionTable := #[], attributes := #[] }
def k13m1 : Method := { name := "min", desc := "(II)I", sig := { parameters := [.int, .int], returnType := some .int }, accessFlags := 9, code := some k13c1 }
/-- java/lang/Math -/
def k13 : Class := { plain "java/lang/Math" (some 0) with
  accessFlags := 49
  interfaces := #[]
  cf := some (fileOf pool13 1 #[.nestMembers #[98]] #[{ accessFlags := 2, nameIndex := 7, descriptorIndex := 8, attributes := #[] }, { accessFlags := 9, nameIndex := 201, descriptorIndex := 335, attributes := #[] }] 49 4 #[] #[{ accessFlags := 25, nameIndex := 354, descriptorIndex := 339, attributes := #[] }, { accessFlags := 25, nameIndex := 358, descriptorIndex := 339, attributes := #[] }, { accessFlags := 25, nameIndex := 361, descriptorIndex := 339, attributes := #[] }, { accessFlags := 26, nameIndex := 364, descriptorIndex := 339, attributes := #[] }, { accessFlags := 26, nameIndex := 365, descriptorIndex := 339, attributes := #[] }, { accessFlags := 26, nameIndex := 172, descriptorIndex := 173, attributes := #[] }, { accessFlags := 26, nameIndex := 176, descriptorIndex := 173, attributes := #[] }, { accessFlags := 8, nameIndex := 344, descriptorIndex := 339, attributes := #[] }, { accessFlags := 8, nameIndex := 338, descriptorIndex := 339, attributes := #[] }, { accessFlags := 4120, nameIndex := 245, descriptorIndex := 246, attributes := #[] }])
  fields := #[{ name := "E", type := .double, accessFlags := 25, slot := 0, constantValue := 0 }, { name := "PI", type := .double, accessFlags := 25, slot := 1, constantValue := 0 }, { name := "TAU", type := .double, accessFlags := 25, slot := 2, constantValue := 0 }, { name := "DEGREES_TO_RADIANS", type := .double, accessFlags := 26, slot := 3, constantValue := 0 }, { name := "RADIANS_TO_DEGREES", type := .double, accessFlags := 26, slot := 4, constantValue := 0 }, { name := "negativeZeroFloatBits", type := .long, accessFlags := 26, slot := 5, constantValue := 0 }, { name := "negativeZeroDoubleBits", type := .long, accessFlags := 26, slot := 6, constantValue := 0 }, { name := "twoToTheDoubleScaleUp", type := .double, accessFlags := 8, slot := 7, constantValue := 0 }, { name := "twoToTheDoubleScaleDown", type := .double, accessFlags := 8, slot := 8, constantValue := 0 }, { name := "$assertionsDisabled", type := .boolean, accessFlags := 4120, slot := 9, constantValue := 0 }]
  methods := #[k13m0, k13m1]
  instanceTypes := #[]
  staticTypes := #[.double, .double, .double, .double, .double, .long, .long, .double, .double, .boolean]
  resolved := Array.replicate 460 none
  statics := none }

def pool14 : Array CpInfo := pool [(2, .class_ 4), (1, u "java/lang/Object"), (0, u "<init>"), (0, u "()V"), (1, .class_ 10), (1, u "java/lang/System"), (0, u "allowSecurityManager"), (0, u "I"), (16, u "cons"), (0, u "Ljava/io/Console;"), (77, .class_ 110), (1, u "java/lang/System$CallersHolder"), (43, u "initialErrStream"), (0, u "Ljava/io/PrintStream;"), (19, u "security"), (0, u "Ljava/lang/SecurityManager;"), (31, .class_ 209), (0, u "java/lang/System$1"), (7, u "props"), (0, u "Ljava/util/Properties;"), (2, u "lineSeparator"), (0, u "Ljava/lang/String;"), (96, .class_ 321), (1, u "java/lang/System$LoggerFinder"), (5, .class_ 328), (0, u "java/lang/System$Logger"), (67, u "err"), (2, u "out"), (91, u "notSupportedJnuEncoding"), (15, u "in"), (17, u "initialIn"), (0, u "Ljava/io/InputStream;"), (35, u "bootLayer"), (0, u "Ljava/lang/ModuleLayer;"), (99, .class_ 664), (0, u "java/lang/System$2"), (9, u "NEVER"), (2, u "MAYBE"), (49, u "arraycopy"), (0, u "(Ljava/lang/Object;ILjava/lang/Object;II)V"), (72, .class_ 802), (0, u "java/lang/System$Logger$Level")] 31

def k14m0 : Method := { name := "<init>", desc := "()V", sig := { parameters := [], returnType := none }, accessFlags := 2, code := none }
def k14m1 : Method := { name := "arraycopy", desc := "(Ljava/lang/Object;ILjava/lang/Object;II)V", sig := { parameters := [(.object "java/lang/Object"), .int, (.object "java/lang/Object"), .int, .int], returnType := none }, accessFlags := 265, code := none }
/-- java/lang/System -/
def k14 : Class := { plain "java/lang/System" (some 0) with
  accessFlags := 49
  interfaces := #[]
  cf := some (fileOf pool14 8 #[.nestMembers #[319, 327, 801, 108, 663, 208]] #[{ accessFlags := 2, nameIndex := 5, descriptorIndex := 6, attributes := #[] }, { accessFlags := 265, nameIndex := 727, descriptorIndex := 728, attributes := #[] }] 49 2 #[] #[{ accessFlags := 25, nameIndex := 507, descriptorIndex := 526, attributes := #[] }, { accessFlags := 25, nameIndex := 399, descriptorIndex := 155, attributes := #[] }, { accessFlags := 25, nameIndex := 396, descriptorIndex := 155, attributes := #[] }, { accessFlags := 10, nameIndex := 525, descriptorIndex := 526, attributes := #[] }, { accessFlags := 26, nameIndex := 674, descriptorIndex := 12, attributes := #[] }, { accessFlags := 26, nameIndex := 677, descriptorIndex := 12, attributes := #[] }, { accessFlags := 10, nameIndex := 11, descriptorIndex := 12, attributes := #[] }, { accessFlags := 74, nameIndex := 175, descriptorIndex := 176, attributes := #[] }, { accessFlags := 10, nameIndex := 491, descriptorIndex := 222, attributes := #[] }, { accessFlags := 74, nameIndex := 29, descriptorIndex := 30, attributes := #[] }, { accessFlags := 74, nameIndex := 154, descriptorIndex := 155, attributes := #[] }, { accessFlags := 10, nameIndex := 217, descriptorIndex := 218, attributes := #[] }, { accessFlags := 10, nameIndex := 221, descriptorIndex := 222, attributes := #[] }, { accessFlags := 8, nameIndex := 562, descriptorIndex := 563, attributes := #[] }])
  fields := #[{ name := "in", type := (.object "java/io/InputStream"), accessFlags := 25, slot := 0, constantValue := 0 }, { name := "out", type := (.object "java/io/PrintStream"), accessFlags := 25, slot := 1, constantValue := 0 }, { name := "err", type := (.object "java/io/PrintStream"), accessFlags := 25, slot := 2, constantValue := 0 }, { name := "initialIn", type := (.object "java/io/InputStream"), accessFlags := 10, slot := 3, constantValue := 0 }, { name := "NEVER", type := .int, accessFlags := 26, slot := 4, constantValue := 0 }, { name := "MAYBE", type := .int, accessFlags := 26, slot := 5, constantValue := 0 }, { name := "allowSecurityManager", type := .int, accessFlags := 10, slot := 6, constantValue := 0 }, { name := "security", type := (.object "java/lang/SecurityManager"), accessFlags := 74, slot := 7, constantValue := 0 }, { name := "notSupportedJnuEncoding", type := (.object "java/lang/String"), accessFlags := 10, slot := 8, constantValue := 0 }, { name := "cons", type := (.object "java/io/Console"), accessFlags := 74, slot := 9, constantValue := 0 }, { name := "initialErrStream", type := (.object "java/io/PrintStream"), accessFlags := 74, slot := 10, constantValue := 0 }, { name := "props", type := (.object "java/util/Properties"), accessFlags := 10, slot := 11, constantValue := 0 }, { name := "lineSeparator", type := (.object "java/lang/String"), accessFlags := 10, slot := 12, constantValue := 0 }, { name := "bootLayer", type := (.object "java/lang/ModuleLayer"), accessFlags := 8, slot := 13, constantValue := 0 }]
  methods := #[k14m0, k14m1]
  instanceTypes := #[]
  staticTypes := #[(.object "java/io/InputStream"), (.object "java/io/PrintStream"), (.object "java/io/PrintStream"), (.object "java/io/InputStream"), .int, .int, .int, (.object "java/lang/SecurityManager"), (.object "java/lang/String"), (.object "java/io/Console"), (.object "java/io/PrintStream"), (.object "java/util/Properties"), (.object "java/lang/String"), (.object "java/lang/ModuleLayer")]
  resolved := Array.replicate 834 none
  statics := none }

def pool15 : Array CpInfo := pool [(9, u "<init>"), (6, .class_ 18), (1, u "java/lang/Object"), (0, u "()V"), (1, .class_ 23), (1, u "jdk/internal/util/ArraysSupport"), (0, u "LOG2_ARRAY_LONG_INDEX_SCALE"), (0, u "I"), (2, u "U"), (0, u "Ljdk/internal/misc/Unsafe;"), (8, u "BIG_ENDIAN"), (0, u "Z"), (8, u "LOG2_BYTE_BIT_SIZE"), (4, u "LOG2_ARRAY_INT_INDEX_SCALE"), (54, u "JLA"), (0, u "Ljdk/internal/access/JavaLangAccess;"), (11, u "LOG2_ARRAY_BOOLEAN_INDEX_SCALE"), (9, u "LOG2_ARRAY_BYTE_INDEX_SCALE"), (5, u "LOG2_ARRAY_CHAR_INDEX_SCALE"), (5, u "LOG2_ARRAY_SHORT_INDEX_SCALE"), (18, u "LOG2_ARRAY_FLOAT_INDEX_SCALE"), (24, u "LOG2_ARRAY_DOUBLE_INDEX_SCALE"), (89, u "T_BOOLEAN"), (2, u "T_CHAR"), (1, u "T_FLOAT"), (1, u "T_DOUBLE"), (1, u "T_BYTE"), (1, u "T_SHORT"), (1, u "T_INT"), (1, u "T_LONG"), (1, u "SOFT_MAX_ARRAY_LENGTH")] 83

def k15m0 : Method := { name := "<init>", desc := "()V", sig := { parameters := [], returnType := none }, accessFlags := 2, code := none }
/-- jdk/internal/util/ArraysSupport -/
def k15 : Class := { plain "jdk/internal/util/ArraysSupport" (some 0) with
  accessFlags := 33
  interfaces := #[]
  cf := some (fileOf pool15 21 #[] #[{ accessFlags := 2, nameIndex := 9, descriptorIndex := 19, attributes := #[] }] 33 16 #[] #[{ accessFlags := 24, nameIndex := 28, descriptorIndex := 29, attributes := #[] }, { accessFlags := 26, nameIndex := 38, descriptorIndex := 39, attributes := #[] }, { accessFlags := 25, nameIndex := 121, descriptorIndex := 25, attributes := #[] }, { accessFlags := 25, nameIndex := 131, descriptorIndex := 25, attributes := #[] }, { accessFlags := 25, nameIndex := 137, descriptorIndex := 25, attributes := #[] }, { accessFlags := 25, nameIndex := 143, descriptorIndex := 25, attributes := #[] }, { accessFlags := 25, nameIndex := 53, descriptorIndex := 25, attributes := #[] }, { accessFlags := 25, nameIndex := 24, descriptorIndex := 25, attributes := #[] }, { accessFlags := 25, nameIndex := 162, descriptorIndex := 25, attributes := #[] }, { accessFlags := 25, nameIndex := 187, descriptorIndex := 25, attributes := #[] }, { accessFlags := 26, nameIndex := 48, descriptorIndex := 25, attributes := #[] }, { accessFlags := 25, nameIndex := 277, descriptorIndex := 25, attributes := #[] }, { accessFlags := 25, nameIndex := 280, descriptorIndex := 25, attributes := #[] }, { accessFlags := 25, nameIndex := 282, descriptorIndex := 25, attributes := #[] }, { accessFlags := 25, nameIndex := 284, descriptorIndex := 25, attributes := #[] }, { accessFlags := 25, nameIndex := 286, descriptorIndex := 25, attributes := #[] }, { accessFlags := 25, nameIndex := 288, descriptorIndex := 25, attributes := #[] }, { accessFlags := 25, nameIndex := 290, descriptorIndex := 25, attributes := #[] }, { accessFlags := 25, nameIndex := 292, descriptorIndex := 25, attributes := #[] }, { accessFlags := 26, nameIndex := 108, descriptorIndex := 109, attributes := #[] }, { accessFlags := 25, nameIndex := 294, descriptorIndex := 25, attributes := #[] }])
  fields := #[{ name := "U", type := (.object "jdk/internal/misc/Unsafe"), accessFlags := 24, slot := 0, constantValue := 0 }, { name := "BIG_ENDIAN", type := .boolean, accessFlags := 26, slot := 1, constantValue := 0 }, { name := "LOG2_ARRAY_BOOLEAN_INDEX_SCALE", type := .int, accessFlags := 25, slot := 2, constantValue := 0 }, { name := "LOG2_ARRAY_BYTE_INDEX_SCALE", type := .int, accessFlags := 25, slot := 3, constantValue := 0 }, { name := "LOG2_ARRAY_CHAR_INDEX_SCALE", type := .int, accessFlags := 25, slot := 4, constantValue := 0 }, { name := "LOG2_ARRAY_SHORT_INDEX_SCALE", type := .int, accessFlags := 25, slot := 5, constantValue := 0 }, { name := "LOG2_ARRAY_INT_INDEX_SCALE", type := .int, accessFlags := 25, slot := 6, constantValue := 0 }, { name := "LOG2_ARRAY_LONG_INDEX_SCALE", type := .int, accessFlags := 25, slot := 7, constantValue := 0 }, { name := "LOG2_ARRAY_FLOAT_INDEX_SCALE", type := .int, accessFlags := 25, slot := 8, constantValue := 0 }, { name := "LOG2_ARRAY_DOUBLE_INDEX_SCALE", type := .int, accessFlags := 25, slot := 9, constantValue := 0 }, { name := "LOG2_BYTE_BIT_SIZE", type := .int, accessFlags := 26, slot := 10, constantValue := 0 }, { name := "T_BOOLEAN", type := .int, accessFlags := 25, slot := 11, constantValue := 0 }, { name := "T_CHAR", type := .int, accessFlags := 25, slot := 12, constantValue := 0 }, { name := "T_FLOAT", type := .int, accessFlags := 25, slot := 13, constantValue := 0 }, { name := "T_DOUBLE", type := .int, accessFlags := 25, slot := 14, constantValue := 0 }, { name := "T_BYTE", type := .int, accessFlags := 25, slot := 15, constantValue := 0 }, { name := "T_SHORT", type := .int, accessFlags := 25, slot := 16, constantValue := 0 }, { name := "T_INT", type := .int, accessFlags := 25, slot := 17, constantValue := 0 }, { name := "T_LONG", type := .int, accessFlags := 25, slot := 18, constantValue := 0 }, { name := "JLA", type := (.object "jdk/internal/access/JavaLangAccess"), accessFlags := 26, slot := 19, constantValue := 0 }, { name := "SOFT_MAX_ARRAY_LENGTH", type := .int, accessFlags := 25, slot := 20, constantValue := 0 }]
  methods := #[k15m0]
  instanceTypes := #[]
  staticTypes := #[(.object "jdk/internal/misc/Unsafe"), .boolean, .int, .int, .int, .int, .int, .int, .int, .int, .int, .int, .int, .int, .int, .int, .int, .int, .int, (.object "jdk/internal/access/JavaLangAccess"), .int]
  resolved := Array.replicate 378 none
  statics := none }

def pool16 : Array CpInfo := pool [(1, u "java/lang/Cloneable"), (0, .class_ 1), (0, u "java/lang/Object"), (0, .class_ 3)] 3

/-- java/lang/Cloneable -/
def k16 : Class := { plain "java/lang/Cloneable" (some 0) with
  accessFlags := 1537
  interfaces := #[]
  cf := some (fileOf pool16 2 #[] #[] 1537 4 #[] #[])
  fields := #[]
  methods := #[]
  instanceTypes := #[]
  staticTypes := #[]
  resolved := Array.replicate 8 none
  statics := none }

/-- the primitive byte -/
def k17 : Class := { plain "byte" none with kind := .primitive 'B', accessFlags := 0x411 }
/-- [B -/
def k18 : Class := { plain "[B" (some 0) with kind := .array 17 .byte, interfaces := #[16, 2], accessFlags := 1041 }

/-- the primitive char -/
def k19 : Class := { plain "char" none with kind := .primitive 'C', accessFlags := 0x411 }
/-- [C -/
def k20 : Class := { plain "[C" (some 0) with kind := .array 19 .char, interfaces := #[16, 2], accessFlags := 1041 }

/-- the primitive int -/
def k21 : Class := { plain "int" none with kind := .primitive 'I', accessFlags := 0x411 }
/-- [I -/
def k22 : Class := { plain "[I" (some 0) with kind := .array 21 .int, interfaces := #[16, 2], accessFlags := 1041 }

def heap : Heap := #[{ cls := 7, slots := #[.long 0, .int 1, .null, .int 0, .null, .int 0, .int 0], vm := .statics 7 },
  { cls := 9, slots := #[.null, .null, .null], vm := .statics 9 }]
def classes : Array Class := #[k0, k1, k2, k3, k4, k5, k6, k7, k8, k9, k10, k11, k12, k13, k14, k15, k16, k17, k18, k19, k20, k21, k22]
def interned : List (Array UInt16 × Addr) := []
def slotsUsed : Nat := 10
def theMethod : MethodId := ⟨1, 4⟩
def args0 : Array Value := #[.int 5, .int 7, .int 8, .int 2, .int 3]
def aboutOver (below : List Frame) : State where
  vm := { classes := classes, interned := interned.toArray }
  heap := heap
  slotsUsed := slotsUsed
  threads := #[{ frames := .invoking theMethod args0 :: below }]
def below0 : List Frame := [.native { method := ⟨0, 0⟩, args := #[] }]
def about1 : State := aboutOver below0
def p0 : Program := .bare "" "" ""
def e0 : Env := launch0.env 0 0 0
theorem w_frames : about1.frames = Frame.invoking theMethod args0 :: below0 := rfl
set_option maxRecDepth 65536 in
theorem w_args : argsFit about1.vm theMethod args0 = true := by decide +kernel
set_option maxRecDepth 65536 in
theorem w_heap : heapFits about1 = true := by decide +kernel
set_option maxRecDepth 65536 in
theorem w_runnable : about1.curStatus? = some .runnable := by decide +kernel
set_option maxRecDepth 65536 in
theorem w_alone : about1.alone = true := by decide +kernel
set_option maxRecDepth 65536 in
theorem w_named : about1.methodNamed? x = some theMethod := by decide +kernel
set_option maxRecDepth 65536 in
theorem w_hears : about1.hears theMethod below0 = true := by decide +kernel
set_option maxRecDepth 65536 in
theorem w_ripe : about1.ripe theMethod args0 below0 = true := by decide +kernel
theorem w_running : about1.status = .running := rfl
set_option maxRecDepth 65536 in
theorem w_room : about1.hasRoom e0.platform room_1 = true :=
  launch0.hasRoom_least _ room_1 (by decide +kernel) (by decide +kernel) (by decide +kernel) (by decide +kernel) (by decide +kernel) (by decide +kernel)
theorem allAtoms_all (ts : List Jvm.Cond) (a : Array Jvm.Value) (st : Jvm.State) : (allAtoms ts).before a st = ts.all (fun c => c.before a st) := by
  induction ts with
  | nil => rfl
  | cons c t ih =>
    show (Jvm.Cond.and c (allAtoms t)).before a st = _
    rw [Jvm.Cond.before_and, ih, List.all_cons]
def words1 : List Jvm.Cond := Jvm.Cond.code x code maxLocals ret :: tables_1
/-- a 'code' word, met by the world's own term for the bytes: nothing is compared byte by byte -/
theorem code_word {y : MethodName} {bytes : ByteArray} {mx : Nat} {rt : Option FieldType} {a : Array Value} {s : State} {m : MethodId} {meth : Method} {c : Code} (h1 : s.methodNamed? y = some m) (h2 : s.vm.method? m = some meth) (h3 : meth.code = some c) (h4 : c.code = bytes)
    (h5 : (c.maxLocals == mx && c.exceptionTable.isEmpty && decide (c.maxStack ≤ mostOperands) && decide (meth.sig.returnType = rt) && !meth.locks && decide (parseMethodDescriptor y.desc = some meth.sig)) = true) : (Jvm.Cond.code y bytes mx rt).before a s = true := by
  simp only [Bool.and_eq_true, beq_iff_eq, Bool.not_eq_true', decide_eq_true_eq] at h5
  obtain ⟨⟨⟨⟨⟨g1, g2⟩, g3⟩, g4⟩, g5⟩, g6⟩ := h5
  simp [Cond.before, Cond.holds, Cond.value, h1, h2, h3, h4, g1, g2, g3, g4, g5, g6]
def isCode : Jvm.Cond → Bool
  | .code _ _ _ _ => true
  | _ => false
theorem all_split {L : List Jvm.Cond} {P : Jvm.Cond → Bool} (h1 : L.all (fun c => isCode c || P c) = true) (h2 : ∀ c ∈ L.filter isCode, P c = true) : L.all P = true := by
  refine List.all_eq_true.mpr fun c hc => ?_
  have h := List.all_eq_true.mp h1 c hc
  rcases Bool.eq_false_or_eq_true (isCode c) with hi | hi
  · exact h2 c (List.mem_filter.mpr ⟨hc, hi⟩)
  · simpa [hi] using h
set_option maxRecDepth 65536 in
theorem w_c0 : (Jvm.Cond.code x code maxLocals ret).before args0 about1 = true := code_word (m := ⟨1, 4⟩) (meth := k1m4) (c := k1c4) (by decide +kernel) rfl rfl rfl (by decide +kernel)
set_option maxRecDepth 65536 in
theorem w_c1 : (Jvm.Cond.code ({ cls := "com/example/gatepost/gatepost/edge/MessageHeadTrimmedPinLaw", name := "pick", desc := "(I)C" } : Jvm.MethodName) method_2_code (2 : Nat) (Option.some Jvm.ClassFile.FieldType.char)).before args0 about1 = true := code_word (m := ⟨1, 1⟩) (meth := k1m1) (c := k1c1) (by decide +kernel) rfl rfl rfl (by decide +kernel)
set_option maxRecDepth 65536 in
theorem w_c2 : (Jvm.Cond.code ({ cls := "java/lang/String", name := "<init>", desc := "([C)V" } : Jvm.MethodName) jdk_42_method_3_code (2 : Nat) (Option.none : Option Jvm.ClassFile.FieldType)).before args0 about1 = true := code_word (m := ⟨7, 1⟩) (meth := k7m1) (c := k7c1) (by decide +kernel) rfl rfl rfl (by decide +kernel)
set_option maxRecDepth 65536 in
theorem w_c3 : (Jvm.Cond.code ({ cls := "java/lang/String", name := "<init>", desc := "([CIILjava/lang/Void;)V" } : Jvm.MethodName) jdk_42_method_149_code (6 : Nat) (Option.none : Option Jvm.ClassFile.FieldType)).before args0 about1 = true := code_word (m := ⟨7, 5⟩) (meth := k7m5) (c := k7c5) (by decide +kernel) rfl rfl rfl (by decide +kernel)
set_option maxRecDepth 65536 in
theorem w_c4 : (Jvm.Cond.code ({ cls := "java/lang/Object", name := "<init>", desc := "()V" } : Jvm.MethodName) object_method_1_code (1 : Nat) (Option.none : Option Jvm.ClassFile.FieldType)).before args0 about1 = true := code_word (m := ⟨0, 0⟩) (meth := k0m0) (c := k0c0) (by decide +kernel) rfl rfl rfl (by decide +kernel)
set_option maxRecDepth 65536 in
theorem w_c5 : (Jvm.Cond.code ({ cls := "com/example/gatepost/gatepost/edge/MessageHead", name := "trimmed", desc := "(Ljava/lang/String;)Ljava/lang/String;" } : Jvm.MethodName) prog_38_method_5_code (3 : Nat) (Option.some (Jvm.ClassFile.FieldType.object "java/lang/String"))).before args0 about1 = true := code_word (m := ⟨8, 0⟩) (meth := k8m0) (c := k8c0) (by decide +kernel) rfl rfl rfl (by decide +kernel)
set_option maxRecDepth 65536 in
theorem w_c6 : (Jvm.Cond.code ({ cls := "java/lang/String", name := "length", desc := "()I" } : Jvm.MethodName) jdk_42_method_54_code (1 : Nat) (Option.some Jvm.ClassFile.FieldType.int)).before args0 about1 = true := code_word (m := ⟨7, 2⟩) (meth := k7m2) (c := k7c2) (by decide +kernel) rfl rfl rfl (by decide +kernel)
set_option maxRecDepth 65536 in
theorem w_c7 : (Jvm.Cond.code ({ cls := "java/lang/String", name := "coder", desc := "()B" } : Jvm.MethodName) jdk_42_method_152_code (1 : Nat) (Option.some Jvm.ClassFile.FieldType.byte)).before args0 about1 = true := code_word (m := ⟨7, 7⟩) (meth := k7m7) (c := k7c7) (by decide +kernel) rfl rfl rfl (by decide +kernel)
set_option maxRecDepth 65536 in
theorem w_c8 : (Jvm.Cond.code ({ cls := "java/lang/String", name := "substring", desc := "(II)Ljava/lang/String;" } : Jvm.MethodName) jdk_42_method_92_code (5 : Nat) (Option.some (Jvm.ClassFile.FieldType.object "java/lang/String"))).before args0 about1 = true := code_word (m := ⟨7, 4⟩) (meth := k7m4) (c := k7c4) (by decide +kernel) rfl rfl rfl (by decide +kernel)
set_option maxRecDepth 65536 in
theorem w_c9 : (Jvm.Cond.code ({ cls := "java/lang/String", name := "checkBoundsBeginEnd", desc := "(III)V" } : Jvm.MethodName) jdk_42_method_158_code (3 : Nat) (Option.none : Option Jvm.ClassFile.FieldType)).before args0 about1 = true := code_word (m := ⟨7, 10⟩) (meth := k7m10) (c := k7c10) (by decide +kernel) rfl rfl rfl (by decide +kernel)
set_option maxRecDepth 65536 in
theorem w_c10 : (Jvm.Cond.code ({ cls := "jdk/internal/util/Preconditions", name := "checkFromToIndex", desc := "(IIILjava/util/function/BiFunction;)I" } : Jvm.MethodName) jdk_41_method_12_code (4 : Nat) (Option.some Jvm.ClassFile.FieldType.int)).before args0 about1 = true := code_word (m := ⟨9, 2⟩) (meth := k9m2) (c := k9c2) (by decide +kernel) rfl rfl rfl (by decide +kernel)
set_option maxRecDepth 65536 in
theorem w_c11 : (Jvm.Cond.code ({ cls := "com/example/gatepost/gatepost/edge/MessageHeadTrimmedPinLaw", name := "same", desc := "(Ljava/lang/String;I[CII)Z" } : Jvm.MethodName) method_4_code (5 : Nat) (Option.some Jvm.ClassFile.FieldType.boolean)).before args0 about1 = true := code_word (m := ⟨1, 3⟩) (meth := k1m3) (c := k1c3) (by decide +kernel) rfl rfl rfl (by decide +kernel)
set_option maxRecDepth 65536 in
theorem w_c12 : (Jvm.Cond.code ({ cls := "java/lang/StringUTF16", name := "compress", desc := "([CII)[B" } : Jvm.MethodName) jdk_52_method_16_code (6 : Nat) (Option.some (Jvm.ClassFile.FieldType.array Jvm.ClassFile.FieldType.byte))).before args0 about1 = true := code_word (m := ⟨10, 2⟩) (meth := k10m2) (c := k10c2) (by decide +kernel) rfl rfl rfl (by decide +kernel)
set_option maxRecDepth 65536 in
theorem w_c13 : (Jvm.Cond.code ({ cls := "java/lang/StringUTF16", name := "compress", desc := "([CI[BII)I" } : Jvm.MethodName) jdk_52_method_21_code (7 : Nat) (Option.some Jvm.ClassFile.FieldType.int)).before args0 about1 = true := code_word (m := ⟨10, 3⟩) (meth := k10m3) (c := k10c3) (by decide +kernel) rfl rfl rfl (by decide +kernel)
set_option maxRecDepth 65536 in
theorem w_c14 : (Jvm.Cond.code ({ cls := "java/lang/StringUTF16", name := "coderFromArrayLen", desc := "([BI)B" } : Jvm.MethodName) jdk_52_method_15_code (2 : Nat) (Option.some Jvm.ClassFile.FieldType.byte)).before args0 about1 = true := code_word (m := ⟨10, 1⟩) (meth := k10m1) (c := k10c1) (by decide +kernel) rfl rfl rfl (by decide +kernel)
set_option maxRecDepth 65536 in
theorem w_c15 : (Jvm.Cond.code ({ cls := "com/example/gatepost/gatepost/edge/MessageHeadTrimmedPinLaw", name := "blank", desc := "(C)Z" } : Jvm.MethodName) method_3_code (1 : Nat) (Option.some Jvm.ClassFile.FieldType.boolean)).before args0 about1 = true := code_word (m := ⟨1, 2⟩) (meth := k1m2) (c := k1c2) (by decide +kernel) rfl rfl rfl (by decide +kernel)
set_option maxRecDepth 65536 in
theorem w_c16 : (Jvm.Cond.code ({ cls := "java/lang/String", name := "charAt", desc := "(I)C" } : Jvm.MethodName) jdk_42_method_56_code (2 : Nat) (Option.some Jvm.ClassFile.FieldType.char)).before args0 about1 = true := code_word (m := ⟨7, 3⟩) (meth := k7m3) (c := k7c3) (by decide +kernel) rfl rfl rfl (by decide +kernel)
set_option maxRecDepth 65536 in
theorem w_c17 : (Jvm.Cond.code ({ cls := "java/lang/String", name := "isLatin1", desc := "()Z" } : Jvm.MethodName) jdk_42_method_154_code (1 : Nat) (Option.some Jvm.ClassFile.FieldType.boolean)).before args0 about1 = true := code_word (m := ⟨7, 8⟩) (meth := k7m8) (c := k7c8) (by decide +kernel) rfl rfl rfl (by decide +kernel)
set_option maxRecDepth 65536 in
theorem w_c18 : (Jvm.Cond.code ({ cls := "java/lang/StringLatin1", name := "charAt", desc := "([BI)C" } : Jvm.MethodName) jdk_43_method_2_code (2 : Nat) (Option.some Jvm.ClassFile.FieldType.char)).before args0 about1 = true := code_word (m := ⟨11, 1⟩) (meth := k11m1) (c := k11c1) (by decide +kernel) rfl rfl rfl (by decide +kernel)
set_option maxRecDepth 65536 in
theorem w_c19 : (Jvm.Cond.code ({ cls := "java/lang/String", name := "checkIndex", desc := "(II)V" } : Jvm.MethodName) jdk_42_method_155_code (2 : Nat) (Option.none : Option Jvm.ClassFile.FieldType)).before args0 about1 = true := code_word (m := ⟨7, 9⟩) (meth := k7m9) (c := k7c9) (by decide +kernel) rfl rfl rfl (by decide +kernel)
set_option maxRecDepth 65536 in
theorem w_c20 : (Jvm.Cond.code ({ cls := "jdk/internal/util/Preconditions", name := "checkIndex", desc := "(IILjava/util/function/BiFunction;)I" } : Jvm.MethodName) jdk_41_method_11_code (3 : Nat) (Option.some Jvm.ClassFile.FieldType.int)).before args0 about1 = true := code_word (m := ⟨9, 1⟩) (meth := k9m1) (c := k9c1) (by decide +kernel) rfl rfl rfl (by decide +kernel)
set_option maxRecDepth 65536 in
theorem w_c21 : (Jvm.Cond.code ({ cls := "java/lang/StringLatin1", name := "newString", desc := "([BII)Ljava/lang/String;" } : Jvm.MethodName) jdk_43_method_47_code (3 : Nat) (Option.some (Jvm.ClassFile.FieldType.object "java/lang/String"))).before args0 about1 = true := code_word (m := ⟨11, 2⟩) (meth := k11m2) (c := k11c2) (by decide +kernel) rfl rfl rfl (by decide +kernel)
set_option maxRecDepth 65536 in
theorem w_c22 : (Jvm.Cond.code ({ cls := "java/util/Arrays", name := "copyOfRange", desc := "([BII)[B" } : Jvm.MethodName) jdk_65_method_132_code (3 : Nat) (Option.some (Jvm.ClassFile.FieldType.array Jvm.ClassFile.FieldType.byte))).before args0 about1 = true := code_word (m := ⟨12, 2⟩) (meth := k12m2) (c := k12c2) (by decide +kernel) rfl rfl rfl (by decide +kernel)
set_option maxRecDepth 65536 in
theorem w_c23 : (Jvm.Cond.code ({ cls := "java/util/Arrays", name := "copyOfRangeByte", desc := "([BII)[B" } : Jvm.MethodName) jdk_65_method_133_code (5 : Nat) (Option.some (Jvm.ClassFile.FieldType.array Jvm.ClassFile.FieldType.byte))).before args0 about1 = true := code_word (m := ⟨12, 3⟩) (meth := k12m3) (c := k12c3) (by decide +kernel) rfl rfl rfl (by decide +kernel)
set_option maxRecDepth 65536 in
theorem w_c24 : (Jvm.Cond.code ({ cls := "java/util/Arrays", name := "checkLength", desc := "(II)V" } : Jvm.MethodName) jdk_65_method_131_code (2 : Nat) (Option.none : Option Jvm.ClassFile.FieldType)).before args0 about1 = true := code_word (m := ⟨12, 1⟩) (meth := k12m1) (c := k12c1) (by decide +kernel) rfl rfl rfl (by decide +kernel)
set_option maxRecDepth 65536 in
theorem w_c25 : (Jvm.Cond.code ({ cls := "java/lang/Math", name := "min", desc := "(II)I" } : Jvm.MethodName) jdk_29_method_69_code (2 : Nat) (Option.some Jvm.ClassFile.FieldType.int)).before args0 about1 = true := code_word (m := ⟨13, 1⟩) (meth := k13m1) (c := k13c1) (by decide +kernel) rfl rfl rfl (by decide +kernel)
set_option maxRecDepth 65536 in
theorem w_c26 : (Jvm.Cond.code ({ cls := "java/lang/String", name := "<init>", desc := "([BB)V" } : Jvm.MethodName) jdk_42_method_151_code (3 : Nat) (Option.none : Option Jvm.ClassFile.FieldType)).before args0 about1 = true := code_word (m := ⟨7, 6⟩) (meth := k7m6) (c := k7c6) (by decide +kernel) rfl rfl rfl (by decide +kernel)
def codes1 : List Jvm.Cond := [Jvm.Cond.code x code maxLocals ret, Jvm.Cond.code ({ cls := "com/example/gatepost/gatepost/edge/MessageHeadTrimmedPinLaw", name := "pick", desc := "(I)C" } : Jvm.MethodName) method_2_code (2 : Nat) (Option.some Jvm.ClassFile.FieldType.char), Jvm.Cond.code ({ cls := "java/lang/String", name := "<init>", desc := "([C)V" } : Jvm.MethodName) jdk_42_method_3_code (2 : Nat) (Option.none : Option Jvm.ClassFile.FieldType), Jvm.Cond.code ({ cls := "java/lang/String", name := "<init>", desc := "([CIILjava/lang/Void;)V" } : Jvm.MethodName) jdk_42_method_149_code (6 : Nat) (Option.none : Option Jvm.ClassFile.FieldType), Jvm.Cond.code ({ cls := "java/lang/Object", name := "<init>", desc := "()V" } : Jvm.MethodName) object_method_1_code (1 : Nat) (Option.none : Option Jvm.ClassFile.FieldType), Jvm.Cond.code ({ cls := "com/example/gatepost/gatepost/edge/MessageHead", name := "trimmed", desc := "(Ljava/lang/String;)Ljava/lang/String;" } : Jvm.MethodName) prog_38_method_5_code (3 : Nat) (Option.some (Jvm.ClassFile.FieldType.object "java/lang/String")), Jvm.Cond.code ({ cls := "java/lang/String", name := "length", desc := "()I" } : Jvm.MethodName) jdk_42_method_54_code (1 : Nat) (Option.some Jvm.ClassFile.FieldType.int), Jvm.Cond.code ({ cls := "java/lang/String", name := "coder", desc := "()B" } : Jvm.MethodName) jdk_42_method_152_code (1 : Nat) (Option.some Jvm.ClassFile.FieldType.byte), Jvm.Cond.code ({ cls := "java/lang/String", name := "substring", desc := "(II)Ljava/lang/String;" } : Jvm.MethodName) jdk_42_method_92_code (5 : Nat) (Option.some (Jvm.ClassFile.FieldType.object "java/lang/String")), Jvm.Cond.code ({ cls := "java/lang/String", name := "checkBoundsBeginEnd", desc := "(III)V" } : Jvm.MethodName) jdk_42_method_158_code (3 : Nat) (Option.none : Option Jvm.ClassFile.FieldType), Jvm.Cond.code ({ cls := "jdk/internal/util/Preconditions", name := "checkFromToIndex", desc := "(IIILjava/util/function/BiFunction;)I" } : Jvm.MethodName) jdk_41_method_12_code (4 : Nat) (Option.some Jvm.ClassFile.FieldType.int), Jvm.Cond.code ({ cls := "com/example/gatepost/gatepost/edge/MessageHeadTrimmedPinLaw", name := "same", desc := "(Ljava/lang/String;I[CII)Z" } : Jvm.MethodName) method_4_code (5 : Nat) (Option.some Jvm.ClassFile.FieldType.boolean), Jvm.Cond.code ({ cls := "java/lang/StringUTF16", name := "compress", desc := "([CII)[B" } : Jvm.MethodName) jdk_52_method_16_code (6 : Nat) (Option.some (Jvm.ClassFile.FieldType.array Jvm.ClassFile.FieldType.byte)), Jvm.Cond.code ({ cls := "java/lang/StringUTF16", name := "compress", desc := "([CI[BII)I" } : Jvm.MethodName) jdk_52_method_21_code (7 : Nat) (Option.some Jvm.ClassFile.FieldType.int), Jvm.Cond.code ({ cls := "java/lang/StringUTF16", name := "coderFromArrayLen", desc := "([BI)B" } : Jvm.MethodName) jdk_52_method_15_code (2 : Nat) (Option.some Jvm.ClassFile.FieldType.byte), Jvm.Cond.code ({ cls := "com/example/gatepost/gatepost/edge/MessageHeadTrimmedPinLaw", name := "blank", desc := "(C)Z" } : Jvm.MethodName) method_3_code (1 : Nat) (Option.some Jvm.ClassFile.FieldType.boolean), Jvm.Cond.code ({ cls := "java/lang/String", name := "charAt", desc := "(I)C" } : Jvm.MethodName) jdk_42_method_56_code (2 : Nat) (Option.some Jvm.ClassFile.FieldType.char), Jvm.Cond.code ({ cls := "java/lang/String", name := "isLatin1", desc := "()Z" } : Jvm.MethodName) jdk_42_method_154_code (1 : Nat) (Option.some Jvm.ClassFile.FieldType.boolean), Jvm.Cond.code ({ cls := "java/lang/StringLatin1", name := "charAt", desc := "([BI)C" } : Jvm.MethodName) jdk_43_method_2_code (2 : Nat) (Option.some Jvm.ClassFile.FieldType.char), Jvm.Cond.code ({ cls := "java/lang/String", name := "checkIndex", desc := "(II)V" } : Jvm.MethodName) jdk_42_method_155_code (2 : Nat) (Option.none : Option Jvm.ClassFile.FieldType), Jvm.Cond.code ({ cls := "jdk/internal/util/Preconditions", name := "checkIndex", desc := "(IILjava/util/function/BiFunction;)I" } : Jvm.MethodName) jdk_41_method_11_code (3 : Nat) (Option.some Jvm.ClassFile.FieldType.int), Jvm.Cond.code ({ cls := "java/lang/StringLatin1", name := "newString", desc := "([BII)Ljava/lang/String;" } : Jvm.MethodName) jdk_43_method_47_code (3 : Nat) (Option.some (Jvm.ClassFile.FieldType.object "java/lang/String")), Jvm.Cond.code ({ cls := "java/util/Arrays", name := "copyOfRange", desc := "([BII)[B" } : Jvm.MethodName) jdk_65_method_132_code (3 : Nat) (Option.some (Jvm.ClassFile.FieldType.array Jvm.ClassFile.FieldType.byte)), Jvm.Cond.code ({ cls := "java/util/Arrays", name := "copyOfRangeByte", desc := "([BII)[B" } : Jvm.MethodName) jdk_65_method_133_code (5 : Nat) (Option.some (Jvm.ClassFile.FieldType.array Jvm.ClassFile.FieldType.byte)), Jvm.Cond.code ({ cls := "java/util/Arrays", name := "checkLength", desc := "(II)V" } : Jvm.MethodName) jdk_65_method_131_code (2 : Nat) (Option.none : Option Jvm.ClassFile.FieldType), Jvm.Cond.code ({ cls := "java/lang/Math", name := "min", desc := "(II)I" } : Jvm.MethodName) jdk_29_method_69_code (2 : Nat) (Option.some Jvm.ClassFile.FieldType.int), Jvm.Cond.code ({ cls := "java/lang/String", name := "<init>", desc := "([BB)V" } : Jvm.MethodName) jdk_42_method_151_code (3 : Nat) (Option.none : Option Jvm.ClassFile.FieldType)]
set_option maxRecDepth 65536 in
theorem codes_eq : words1.filter isCode = codes1 := rfl
theorem w_codes : ∀ c ∈ words1.filter isCode, c.before args0 about1 = true := by
  rw [codes_eq]
  intro c hc
  simp only [codes1, List.mem_cons, List.not_mem_nil, or_false] at hc
  rcases hc with rfl | rfl | rfl | rfl | rfl | rfl | rfl | rfl | rfl | rfl | rfl | rfl | rfl | rfl | rfl | rfl | rfl | rfl | rfl | rfl | rfl | rfl | rfl | rfl | rfl | rfl | rfl
  · exact w_c0
  · exact w_c1
  · exact w_c2
  · exact w_c3
  · exact w_c4
  · exact w_c5
  · exact w_c6
  · exact w_c7
  · exact w_c8
  · exact w_c9
  · exact w_c10
  · exact w_c11
  · exact w_c12
  · exact w_c13
  · exact w_c14
  · exact w_c15
  · exact w_c16
  · exact w_c17
  · exact w_c18
  · exact w_c19
  · exact w_c20
  · exact w_c21
  · exact w_c22
  · exact w_c23
  · exact w_c24
  · exact w_c25
  · exact w_c26
set_option maxRecDepth 65536 in
theorem w_t1 : (words1.take 24).all (fun c => isCode c || c.before args0 about1) = true := by decide +kernel
set_option maxRecDepth 65536 in
theorem w_t2 : ((words1.drop 24).take 24).all (fun c => isCode c || c.before args0 about1) = true := by decide +kernel
set_option maxRecDepth 65536 in
theorem w_t3 : (((words1.drop 24).drop 24).take 24).all (fun c => isCode c || c.before args0 about1) = true := by decide +kernel
set_option maxRecDepth 65536 in
theorem w_t4 : ((((words1.drop 24).drop 24).drop 24).take 24).all (fun c => isCode c || c.before args0 about1) = true := by decide +kernel
set_option maxRecDepth 65536 in
theorem w_t5 : (((((words1.drop 24).drop 24).drop 24).drop 24).take 24).all (fun c => isCode c || c.before args0 about1) = true := by decide +kernel
set_option maxRecDepth 65536 in
theorem w_t6 : (((((words1.drop 24).drop 24).drop 24).drop 24).drop 24).all (fun c => isCode c || c.before args0 about1) = true := by decide +kernel
theorem w_tables : (allAtoms (Jvm.Cond.code x code maxLocals ret :: tables_1)).before args0 about1 = true := by
  rw [allAtoms_all]
  show words1.all (fun c => c.before args0 about1) = true
  refine all_split ?_ w_codes
  rw [← List.take_append_drop 24 words1, List.all_append, w_t1, ← List.take_append_drop 24 (words1.drop 24), List.all_append, w_t2, ← List.take_append_drop 24 ((words1.drop 24).drop 24), List.all_append, w_t3, ← List.take_append_drop 24 (((words1.drop 24).drop 24).drop 24), List.all_append, w_t4, ← List.take_append_drop 24 ((((words1.drop 24).drop 24).drop 24).drop 24), List.all_append, w_t5, w_t6]
  rfl
set_option maxRecDepth 65536 in
theorem w_rest : rest_1_c.before args0 about1 = true := by decide +kernel
set_option maxRecDepth 65536 in
theorem w_case : (Jvm.Cond.and given_1 narrow_1).before args0 about1 = true := by decide +kernel
set_option maxRecDepth 65536 in
theorem w_consts : constsHeld consts_1 about1 := Jvm.Lit.constsHeldB_iff.mp (by decide +kernel)
theorem w_applies : (headSpec (Jvm.Cond.code x code maxLocals ret :: tables_1) room_1).applies x e0.platform about1 = true :=
  (Spec.applies_iff w_frames).mpr ⟨w_running, w_runnable, w_alone, w_named, w_hears, w_ripe, w_room, w_tables⟩
theorem atStart : AtStart classFile x code maxLocals ret World_1 tables_1 room_1 Calls_1 rest_1 Pre_1 launch0 p0 e0 about1 theMethod args0 below0 :=
  ⟨lists_1, trivial, launch0.admits_env _ _ _, launch0.least_env, fairChoices_fair.cas, fairChoices_fair.clock, w_frames, w_args, w_heap, w_applies, ⟨w_consts, trivial⟩, w_rest, w_case⟩
end start1
theorem witness_1 : WitnessClaimed_1 := ⟨start1.p0, start1.e0, start1.about1, start1.theMethod, start1.args0, start1.below0, start1.atStart⟩
end Jvm.Pilot.@@N@@
